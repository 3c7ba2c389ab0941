import JvmDerived
import JvmDerived.Pilot.@@N@@Statement
import JvmDerived.Pilot.@@N@@Code
set_option linter.unusedVariables false
set_option linter.unusedSimpArgs false
namespace Jvm.Pilot.@@N@@
open Jvm Jvm.ClassFile Sem Op Lib Jvm.Free Jvm.Stand Jvm.LawKit Jvm.RoadKit Bundle Jvm.Pilot.@@N@@.Jvm.D
abbrev Go (p : Program) (e : Env) (below : List Frame) (t T : State) (m : MethodId) (pc : Nat) (ls : Array Slot) (st : List Value) : Prop := Steps p.tables e below (T.setTop (mkF m pc ls st)) t
/-- from A the run comes to B -/
def Goes (p : Program) (e : Env) (below : List Frame) (A B : State) : Prop := ∀ t, Steps p.tables e below B t → Steps p.tables e below A t
abbrev dLt (x y : UInt64) : Prop := FP.dcmp x y = some .lt
abbrev dEq (x y : UInt64) : Prop := FP.dcmp x y = some .eq
abbrev dLe (x y : UInt64) : Prop := FP.dcmp x y = some .lt ∨ FP.dcmp x y = some .eq
abbrev fLt (x y : UInt32) : Prop := FP.fcmp x y = some .lt
abbrev fEq (x y : UInt32) : Prop := FP.fcmp x y = some .eq
abbrev fLe (x y : UInt32) : Prop := FP.fcmp x y = some .lt ∨ FP.fcmp x y = some .eq
theorem Sta.keepO {Z : State} {h h' : Heap} {C n d : String} {v : Value} {ws : List Addr} (F : Sta Z h C n d v) (K : Keep h h' ws) (q : ∀ x ∈ ws, ∀ cell : Cell, h[x]? = some cell → cell.vm.isStatics = false) : Sta Z h' C n d v := by
  obtain ⟨cf, i, k, f, st, cell, h1, h2, h3, h4, h5, h6, h7⟩ := F
  refine ⟨cf, i, k, f, st, cell, h1, h2, h3, h4, K.2.1 _ _ h5 fun hm => ?_, h6, h7⟩
  rw [q _ hm _ h5] at h6; cases h6
theorem own_swap (o : Option Ordering) : o.map Ordering.swap = some .lt ↔ o = some .gt := by rcases o with _ | (_ | _ | _) <;> simp [Ordering.swap]
theorem own_swapE (o : Option Ordering) : o.map Ordering.swap = some .eq ↔ o = some .eq := by rcases o with _ | (_ | _ | _) <;> simp [Ordering.swap]
theorem own_dgt (x y : UInt64) : dLt y x ↔ FP.dcmp x y = some .gt := by
  show FP.Core.dcmp y x = some .lt ↔ FP.Core.dcmp x y = some .gt
  rw [FP.Core.dcmp_swap x y]; exact own_swap _
theorem own_dge (x y : UInt64) : dLe y x ↔ (FP.dcmp x y = some .gt ∨ FP.dcmp x y = some .eq) := by
  show (FP.Core.dcmp y x = some .lt ∨ FP.Core.dcmp y x = some .eq) ↔ (FP.Core.dcmp x y = some .gt ∨ FP.Core.dcmp x y = some .eq)
  rw [FP.Core.dcmp_swap x y, own_swap, own_swapE]
theorem own_fgt (x y : UInt32) : fLt y x ↔ FP.fcmp x y = some .gt := by
  show FP.Core.fcmp y x = some .lt ↔ FP.Core.fcmp x y = some .gt
  rw [FP.Core.fcmp_swap x y]; exact own_swap _
theorem own_fge (x y : UInt32) : fLe y x ↔ (FP.fcmp x y = some .gt ∨ FP.fcmp x y = some .eq) := by
  show (FP.Core.fcmp y x = some .lt ∨ FP.Core.fcmp y x = some .eq) ↔ (FP.Core.fcmp x y = some .gt ∨ FP.Core.fcmp x y = some .eq)
  rw [FP.Core.fcmp_swap x y, own_swap, own_swapE]
theorem own_c (o : Option Ordering) :
    (o = some .lt → ifCond.holds .ge (cmpValue o .g) = false ∧ ifCond.holds .lt (cmpValue o .g) = true) ∧
    (¬ o = some .lt → ifCond.holds .ge (cmpValue o .g) = true ∧ ifCond.holds .lt (cmpValue o .g) = false) ∧
    ((o = some .lt ∨ o = some .eq) → ifCond.holds .gt (cmpValue o .g) = false ∧ ifCond.holds .le (cmpValue o .g) = true) ∧
    (¬ (o = some .lt ∨ o = some .eq) → ifCond.holds .gt (cmpValue o .g) = true ∧ ifCond.holds .le (cmpValue o .g) = false) ∧
    (o = some .gt → ifCond.holds .le (cmpValue o .l) = false ∧ ifCond.holds .gt (cmpValue o .l) = true) ∧
    (¬ o = some .gt → ifCond.holds .le (cmpValue o .l) = true ∧ ifCond.holds .gt (cmpValue o .l) = false) ∧
    ((o = some .gt ∨ o = some .eq) → ifCond.holds .lt (cmpValue o .l) = false ∧ ifCond.holds .ge (cmpValue o .l) = true) ∧
    (¬ (o = some .gt ∨ o = some .eq) → ifCond.holds .lt (cmpValue o .l) = true ∧ ifCond.holds .ge (cmpValue o .l) = false) ∧
    (o = some .eq → ∀ q, ifCond.holds .ne (cmpValue o q) = false ∧ ifCond.holds .eq (cmpValue o q) = true) ∧
    (¬ o = some .eq → ∀ q, ifCond.holds .ne (cmpValue o q) = true ∧ ifCond.holds .eq (cmpValue o q) = false) := by
  refine ⟨?_, ?_, ?_, ?_, ?_, ?_, ?_, ?_, ?_, ?_⟩ <;> rcases o with _ | (_ | _ | _) <;> first | (intro h; exact ⟨by decide, by decide⟩) | (intro h q; cases q <;> exact ⟨by decide, by decide⟩) | (intro h; simp at h; done) | (intro h; exact absurd rfl h) | (intro h; exact absurd (Or.inl rfl) h) | (intro h; exact absurd (Or.inr rfl) h)
theorem dc_g_ge_f {x y : UInt64} (h : dLt x y) : ifCond.holds .ge (cmpValue (FP.dcmp x y) .g) = false := ((own_c _).1 h).1
theorem dc_g_ge_t {x y : UInt64} (h : ¬ dLt x y) : ifCond.holds .ge (cmpValue (FP.dcmp x y) .g) = true := ((own_c _).2.1 h).1
theorem dc_g_lt_t {x y : UInt64} (h : dLt x y) : ifCond.holds .lt (cmpValue (FP.dcmp x y) .g) = true := ((own_c _).1 h).2
theorem dc_g_lt_f {x y : UInt64} (h : ¬ dLt x y) : ifCond.holds .lt (cmpValue (FP.dcmp x y) .g) = false := ((own_c _).2.1 h).2
theorem dc_g_gt_f {x y : UInt64} (h : dLe x y) : ifCond.holds .gt (cmpValue (FP.dcmp x y) .g) = false := ((own_c _).2.2.1 h).1
theorem dc_g_gt_t {x y : UInt64} (h : ¬ dLe x y) : ifCond.holds .gt (cmpValue (FP.dcmp x y) .g) = true := ((own_c _).2.2.2.1 h).1
theorem dc_g_le_t {x y : UInt64} (h : dLe x y) : ifCond.holds .le (cmpValue (FP.dcmp x y) .g) = true := ((own_c _).2.2.1 h).2
theorem dc_g_le_f {x y : UInt64} (h : ¬ dLe x y) : ifCond.holds .le (cmpValue (FP.dcmp x y) .g) = false := ((own_c _).2.2.2.1 h).2
theorem dc_l_le_f {x y : UInt64} (h : dLt y x) : ifCond.holds .le (cmpValue (FP.dcmp x y) .l) = false := ((own_c _).2.2.2.2.1 ((own_dgt x y).mp h)).1
theorem dc_l_le_t {x y : UInt64} (h : ¬ dLt y x) : ifCond.holds .le (cmpValue (FP.dcmp x y) .l) = true := ((own_c _).2.2.2.2.2.1 (fun q => h ((own_dgt x y).mpr q))).1
theorem dc_l_gt_t {x y : UInt64} (h : dLt y x) : ifCond.holds .gt (cmpValue (FP.dcmp x y) .l) = true := ((own_c _).2.2.2.2.1 ((own_dgt x y).mp h)).2
theorem dc_l_gt_f {x y : UInt64} (h : ¬ dLt y x) : ifCond.holds .gt (cmpValue (FP.dcmp x y) .l) = false := ((own_c _).2.2.2.2.2.1 (fun q => h ((own_dgt x y).mpr q))).2
theorem dc_l_lt_f {x y : UInt64} (h : dLe y x) : ifCond.holds .lt (cmpValue (FP.dcmp x y) .l) = false := ((own_c _).2.2.2.2.2.2.1 ((own_dge x y).mp h)).1
theorem dc_l_lt_t {x y : UInt64} (h : ¬ dLe y x) : ifCond.holds .lt (cmpValue (FP.dcmp x y) .l) = true := ((own_c _).2.2.2.2.2.2.2.1 (fun q => h ((own_dge x y).mpr q))).1
theorem dc_l_ge_t {x y : UInt64} (h : dLe y x) : ifCond.holds .ge (cmpValue (FP.dcmp x y) .l) = true := ((own_c _).2.2.2.2.2.2.1 ((own_dge x y).mp h)).2
theorem dc_l_ge_f {x y : UInt64} (h : ¬ dLe y x) : ifCond.holds .ge (cmpValue (FP.dcmp x y) .l) = false := ((own_c _).2.2.2.2.2.2.2.1 (fun q => h ((own_dge x y).mpr q))).2
theorem dc_l_ne_f {x y : UInt64} (h : dEq x y) : ifCond.holds .ne (cmpValue (FP.dcmp x y) .l) = false := ((own_c _).2.2.2.2.2.2.2.2.1 h _).1
theorem dc_l_ne_t {x y : UInt64} (h : ¬ dEq x y) : ifCond.holds .ne (cmpValue (FP.dcmp x y) .l) = true := ((own_c _).2.2.2.2.2.2.2.2.2 h _).1
theorem dc_l_eq_t {x y : UInt64} (h : dEq x y) : ifCond.holds .eq (cmpValue (FP.dcmp x y) .l) = true := ((own_c _).2.2.2.2.2.2.2.2.1 h _).2
theorem dc_l_eq_f {x y : UInt64} (h : ¬ dEq x y) : ifCond.holds .eq (cmpValue (FP.dcmp x y) .l) = false := ((own_c _).2.2.2.2.2.2.2.2.2 h _).2
theorem dc_g_ne_f {x y : UInt64} (h : dEq x y) : ifCond.holds .ne (cmpValue (FP.dcmp x y) .g) = false := ((own_c _).2.2.2.2.2.2.2.2.1 h _).1
theorem dc_g_ne_t {x y : UInt64} (h : ¬ dEq x y) : ifCond.holds .ne (cmpValue (FP.dcmp x y) .g) = true := ((own_c _).2.2.2.2.2.2.2.2.2 h _).1
theorem dc_g_eq_t {x y : UInt64} (h : dEq x y) : ifCond.holds .eq (cmpValue (FP.dcmp x y) .g) = true := ((own_c _).2.2.2.2.2.2.2.2.1 h _).2
theorem dc_g_eq_f {x y : UInt64} (h : ¬ dEq x y) : ifCond.holds .eq (cmpValue (FP.dcmp x y) .g) = false := ((own_c _).2.2.2.2.2.2.2.2.2 h _).2
theorem fc_g_ge_f {x y : UInt32} (h : fLt x y) : ifCond.holds .ge (cmpValue (FP.fcmp x y) .g) = false := ((own_c _).1 h).1
theorem fc_g_ge_t {x y : UInt32} (h : ¬ fLt x y) : ifCond.holds .ge (cmpValue (FP.fcmp x y) .g) = true := ((own_c _).2.1 h).1
theorem fc_g_lt_t {x y : UInt32} (h : fLt x y) : ifCond.holds .lt (cmpValue (FP.fcmp x y) .g) = true := ((own_c _).1 h).2
theorem fc_g_lt_f {x y : UInt32} (h : ¬ fLt x y) : ifCond.holds .lt (cmpValue (FP.fcmp x y) .g) = false := ((own_c _).2.1 h).2
theorem fc_g_gt_f {x y : UInt32} (h : fLe x y) : ifCond.holds .gt (cmpValue (FP.fcmp x y) .g) = false := ((own_c _).2.2.1 h).1
theorem fc_g_gt_t {x y : UInt32} (h : ¬ fLe x y) : ifCond.holds .gt (cmpValue (FP.fcmp x y) .g) = true := ((own_c _).2.2.2.1 h).1
theorem fc_g_le_t {x y : UInt32} (h : fLe x y) : ifCond.holds .le (cmpValue (FP.fcmp x y) .g) = true := ((own_c _).2.2.1 h).2
theorem fc_g_le_f {x y : UInt32} (h : ¬ fLe x y) : ifCond.holds .le (cmpValue (FP.fcmp x y) .g) = false := ((own_c _).2.2.2.1 h).2
theorem fc_l_le_f {x y : UInt32} (h : fLt y x) : ifCond.holds .le (cmpValue (FP.fcmp x y) .l) = false := ((own_c _).2.2.2.2.1 ((own_fgt x y).mp h)).1
theorem fc_l_le_t {x y : UInt32} (h : ¬ fLt y x) : ifCond.holds .le (cmpValue (FP.fcmp x y) .l) = true := ((own_c _).2.2.2.2.2.1 (fun q => h ((own_fgt x y).mpr q))).1
theorem fc_l_gt_t {x y : UInt32} (h : fLt y x) : ifCond.holds .gt (cmpValue (FP.fcmp x y) .l) = true := ((own_c _).2.2.2.2.1 ((own_fgt x y).mp h)).2
theorem fc_l_gt_f {x y : UInt32} (h : ¬ fLt y x) : ifCond.holds .gt (cmpValue (FP.fcmp x y) .l) = false := ((own_c _).2.2.2.2.2.1 (fun q => h ((own_fgt x y).mpr q))).2
theorem fc_l_lt_f {x y : UInt32} (h : fLe y x) : ifCond.holds .lt (cmpValue (FP.fcmp x y) .l) = false := ((own_c _).2.2.2.2.2.2.1 ((own_fge x y).mp h)).1
theorem fc_l_lt_t {x y : UInt32} (h : ¬ fLe y x) : ifCond.holds .lt (cmpValue (FP.fcmp x y) .l) = true := ((own_c _).2.2.2.2.2.2.2.1 (fun q => h ((own_fge x y).mpr q))).1
theorem fc_l_ge_t {x y : UInt32} (h : fLe y x) : ifCond.holds .ge (cmpValue (FP.fcmp x y) .l) = true := ((own_c _).2.2.2.2.2.2.1 ((own_fge x y).mp h)).2
theorem fc_l_ge_f {x y : UInt32} (h : ¬ fLe y x) : ifCond.holds .ge (cmpValue (FP.fcmp x y) .l) = false := ((own_c _).2.2.2.2.2.2.2.1 (fun q => h ((own_fge x y).mpr q))).2
theorem fc_l_ne_f {x y : UInt32} (h : fEq x y) : ifCond.holds .ne (cmpValue (FP.fcmp x y) .l) = false := ((own_c _).2.2.2.2.2.2.2.2.1 h _).1
theorem fc_l_ne_t {x y : UInt32} (h : ¬ fEq x y) : ifCond.holds .ne (cmpValue (FP.fcmp x y) .l) = true := ((own_c _).2.2.2.2.2.2.2.2.2 h _).1
theorem fc_l_eq_t {x y : UInt32} (h : fEq x y) : ifCond.holds .eq (cmpValue (FP.fcmp x y) .l) = true := ((own_c _).2.2.2.2.2.2.2.2.1 h _).2
theorem fc_l_eq_f {x y : UInt32} (h : ¬ fEq x y) : ifCond.holds .eq (cmpValue (FP.fcmp x y) .l) = false := ((own_c _).2.2.2.2.2.2.2.2.2 h _).2
theorem fc_g_ne_f {x y : UInt32} (h : fEq x y) : ifCond.holds .ne (cmpValue (FP.fcmp x y) .g) = false := ((own_c _).2.2.2.2.2.2.2.2.1 h _).1
theorem fc_g_ne_t {x y : UInt32} (h : ¬ fEq x y) : ifCond.holds .ne (cmpValue (FP.fcmp x y) .g) = true := ((own_c _).2.2.2.2.2.2.2.2.2 h _).1
theorem fc_g_eq_t {x y : UInt32} (h : fEq x y) : ifCond.holds .eq (cmpValue (FP.fcmp x y) .g) = true := ((own_c _).2.2.2.2.2.2.2.2.1 h _).2
theorem fc_g_eq_f {x y : UInt32} (h : ¬ fEq x y) : ifCond.holds .eq (cmpValue (FP.fcmp x y) .g) = false := ((own_c _).2.2.2.2.2.2.2.2.2 h _).2
def nK (a : Int32) : Int32 := (a &&& 2147483647) % 1000
def nX (b : Int32) : Int32 := (b &&& 2147483647) % 3
def nD (a : Int32) : UInt64 := FP.ddiv (FP.i2d (nK a)) 4652007308841189376
theorem own_nn (a : Int32) : Jvm.Free.Fl.NoNaN64 (nD a) := Jvm.Free.Fl.ddiv_out (Jvm.Free.Fl.i2d_fin _).noNaN (by unfold Jvm.Free.Fl.Fin64; decide) (by unfold Jvm.Free.Fl.Nz64; decide)
theorem d0_0 : decode prog_11_method_3_code 0 = .ok (.dload_n 0, 1) := by decide +kernel
theorem d0_1 : decode prog_11_method_3_code 1 = .ok (.ldc2_w 62, 3) := by decide +kernel
theorem d0_4 : decode prog_11_method_3_code 4 = .ok (.dcmp .g, 1) := by decide +kernel
theorem d0_5 : decode prog_11_method_3_code 5 = .ok (.ifCond .ge 9, 3) := by decide +kernel
theorem d0_8 : decode prog_11_method_3_code 8 = .ok (.ldc2_w 64, 3) := by decide +kernel
theorem d0_11 : decode prog_11_method_3_code 11 = .ok (.goto 6, 3) := by decide +kernel
theorem d0_14 : decode prog_11_method_3_code 14 = .ok (.ldc2_w 66, 3) := by decide +kernel
theorem d0_17 : decode prog_11_method_3_code 17 = .ok (.dstore_n 3, 1) := by decide +kernel
theorem d0_18 : decode prog_11_method_3_code 18 = .ok (.iload_n 2, 1) := by decide +kernel
theorem d0_19 : decode prog_11_method_3_code 19 = .ok (.iconst 1, 1) := by decide +kernel
theorem d0_20 : decode prog_11_method_3_code 20 = .ok (.if_icmp .ne 9, 3) := by decide +kernel
theorem d0_23 : decode prog_11_method_3_code 23 = .ok (.dload_n 3, 1) := by decide +kernel
theorem d0_24 : decode prog_11_method_3_code 24 = .ok (.ldc2_w 68, 3) := by decide +kernel
theorem d0_27 : decode prog_11_method_3_code 27 = .ok (.dsub, 1) := by decide +kernel
theorem d0_28 : decode prog_11_method_3_code 28 = .ok (.dreturn, 1) := by decide +kernel
theorem d0_29 : decode prog_11_method_3_code 29 = .ok (.iload_n 2, 1) := by decide +kernel
theorem d0_30 : decode prog_11_method_3_code 30 = .ok (.iconst 2, 1) := by decide +kernel
theorem d0_31 : decode prog_11_method_3_code 31 = .ok (.if_icmp .ne 11, 3) := by decide +kernel
theorem d0_34 : decode prog_11_method_3_code 34 = .ok (.dload_n 3, 1) := by decide +kernel
theorem d0_35 : decode prog_11_method_3_code 35 = .ok (.ldc2_w 64, 3) := by decide +kernel
theorem d0_38 : decode prog_11_method_3_code 38 = .ok (.dadd, 1) := by decide +kernel
theorem d0_39 : decode prog_11_method_3_code 39 = .ok (.goto 4, 3) := by decide +kernel
theorem d0_42 : decode prog_11_method_3_code 42 = .ok (.dload_n 3, 1) := by decide +kernel
theorem d0_43 : decode prog_11_method_3_code 43 = .ok (.dreturn, 1) := by decide +kernel
theorem pd0 : parseMethodDescriptor "(DI)D" = some ⟨[.double, .int], some .double⟩ := by decide +kernel
theorem pf_eff : plainFor (⟨"com/example/hetmo/hetmo/simulation/DiscontinuityTrial", "effect", "(DI)D"⟩ : MethodName) = true := by first | exact plainFor_of_name (by first | (simp [plainName, overriddenIn, x]; done) | decide +kernel) | exact Jvm.Free.JP.mathPlain rfl (by decide +kernel) | decide +kernel
theorem ef_eff (m : MethodId) (xd : UInt64) (xi : Int32) : entryFrame m #[(.double xd), (.int xi)] 5 = mkF m 0 #[.val (.double xd), .second, iv xi, .unset, .unset] [] := by first | (simp [entryFrame, mkF, argsToLocals, Value.category, maxLocals]; done) | rfl
def f_eff (xd : UInt64) (xi : Int32) : UInt64 := (if dLt xd (4604210043045952881 : UInt64) then (if xi = (1 : Int32) then (FP.dsub (4617315517961601024 : UInt64) (4611686018427387904 : UInt64)) else (if xi = (2 : Int32) then (FP.dadd (4617315517961601024 : UInt64) (4617315517961601024 : UInt64)) else (4617315517961601024 : UInt64))) else (if xi = (1 : Int32) then (FP.dsub (13835058055282163712 : UInt64) (4611686018427387904 : UInt64)) else (if xi = (2 : Int32) then (FP.dadd (13835058055282163712 : UInt64) (4617315517961601024 : UInt64)) else (13835058055282163712 : UInt64))))
def Q_eff (Z : State) (xd : UInt64) (xi : Int32)  (h0 : Heap) (n0 : Nat) (v : Option Value) (h : Heap) (L : List Loc) : Prop := v = some (.double (f_eff xd xi)) ∧ Fr n0 L ∧ h = h0
set_option maxRecDepth 65536 in
set_option maxHeartbeats 40000000 in
theorem rm_eff (l : Launch) (Z : State) (a0 : Array Value) (hw : ∀ d ∈ tables_1, d.before a0 Z = true) (ws : List Jvm.Cond) (xd : UInt64) (xi : Int32)  (h0 : Heap) (n0 : Nat) (Z0 : n0 ≤ h0.size)   :
    MetFree l (⟨"com/example/hetmo/hetmo/simulation/DiscontinuityTrial", "effect", "(DI)D"⟩ : MethodName) (head1 (Jvm.Cond.code (⟨"com/example/hetmo/hetmo/simulation/DiscontinuityTrial", "effect", "(DI)D"⟩ : MethodName) prog_11_method_3_code 5 (some .double) :: ws) ({ frames := 0, cells := 0, slots := 0, locals := 0 } : Room)) (fun a U => a = #[(.double xd), (.int xi)] ∧ Z.Warmed39 U.vm ∧ U.heap = h0) (fun _ _ _ _ _ => True) (fun _ U o U' => ∃ v L, o = .returned v ∧ Q_eff Z xd xi  h0 n0 v U'.heap L ∧ FrameEnd U o U' L ({ frames := 0, cells := 0, slots := 0, locals := 0 } : Room).cells ({ frames := 0, cells := 0, slots := 0, locals := 0 } : Room).slots) := by
  refine MetFree.of_bodySF pf_eff hisR ?_
  intro p e s m args below meth c s₁ Bd hml0 hP hK
  obtain ⟨rfl, hZ, hh⟩ := hP
  have hx := Bd.exec
  have hby := Bd.bytes
  have hml : c.maxLocals = 5 := hml0
  have hown : s.vm.findClass "com/example/hetmo/hetmo/simulation/DiscontinuityTrial" = some m.cls := findClass_of_methodNamed Bd.named
  have hnm := (name_of_methodNamed Bd.named Bd.method).1
  have X0 : Stand p l e ({ frames := 0, cells := 0, slots := 0, locals := 0 } : Room) s m #[(.double xd), (.int xi)] below meth c s₁ [] 0 0 := Stand.of_body Bd
  have e0 : s₁.heap = h0 := by rw [← hh, Bd.state]; rfl
  have N0 := Fr.nil n0
  obtain ⟨S0, hS0⟩ : ∃ z, z = s₁.setTop (entryFrame m #[(.double xd), (.int xi)] 5) := ⟨_, rfl⟩
  rw [← hS0]
  have g0 : Goes p e below S0 (s₁.setTop (mkF m 0 #[.val (.double xd), .second, iv xi, .unset, .unset] [])) := fun t k => by rw [hS0]; exact castTop (ef_eff m xd xi) k
  have g1 : Goes p e below S0 (s₁.setTop (mkF m 5 #[.val (.double xd), .second, iv xi, .unset, .unset] [(.int (cmpValue (FP.dcmp xd (4604210043045952881 : UInt64)) .g))])) := fun t k => g0 t (by
    refine XS.dloadN X0.here hx rfl (hb hby d0_0) rfl ?_
    show Go p e below t s₁ m 1 #[.val (.double xd), .second, iv xi, .unset, .unset] [(.double xd)]
    refine X0.ldc2DoubleC hx hown (mvT hZ (hw _ (List.mem_of_getElem? (i := 6) rfl))) (g := (mkF m 1 #[.val (.double xd), .second, iv xi, .unset, .unset] [(.double xd)])) rfl (hb hby d0_1) _ ?_
    show Go p e below t s₁ m 4 #[.val (.double xd), .second, iv xi, .unset, .unset] [(.double (4604210043045952881 : UInt64)), (.double xd)]
    refine XS.dcmpS X0.here hx rfl (hb hby d0_4) rfl rfl ?_
    show Go p e below t s₁ m 5 #[.val (.double xd), .second, iv xi, .unset, .unset] [(.int (cmpValue (FP.dcmp xd (4604210043045952881 : UInt64)) .g))]
    exact k)
  by_cases h2 : dLt xd (4604210043045952881 : UInt64)
  · skip
    have g3 : Goes p e below S0 (s₁.setTop (mkF m 20 #[.val (.double xd), .second, iv xi, .val (.double (4617315517961601024 : UInt64)), .second] [(.int (1 : Int32)), (.int xi)])) := fun t k => g1 t (by
      refine XS.ifNo X0.here hx rfl (hb hby d0_5) rfl (dc_g_ge_f h2) ?_
      show Go p e below t s₁ m 8 #[.val (.double xd), .second, iv xi, .unset, .unset] []
      refine X0.ldc2DoubleC hx hown (mvT hZ (hw _ (List.mem_of_getElem? (i := 7) rfl))) (g := (mkF m 8 #[.val (.double xd), .second, iv xi, .unset, .unset] [])) rfl (hb hby d0_8) _ ?_
      show Go p e below t s₁ m 11 #[.val (.double xd), .second, iv xi, .unset, .unset] [(.double (4617315517961601024 : UInt64))]
      refine XS.goto X0.here hx rfl (pc0 := 11) (pc' := 17) rfl (hb hby d0_11) (by decide) (by decide) ?_
      show Go p e below t s₁ m 17 #[.val (.double xd), .second, iv xi, .unset, .unset] [(.double (4617315517961601024 : UInt64))]
      refine XS.dstoreN X0.here hx rfl (hb hby d0_17) rfl (l' := #[.val (.double xd), .second, iv xi, .val (.double (4617315517961601024 : UInt64)), .second]) rfl ?_
      show Go p e below t s₁ m 18 #[.val (.double xd), .second, iv xi, .val (.double (4617315517961601024 : UInt64)), .second] []
      refine XS.iloadN X0.here hx rfl (hb hby d0_18) rfl ?_
      show Go p e below t s₁ m 19 #[.val (.double xd), .second, iv xi, .val (.double (4617315517961601024 : UInt64)), .second] [(.int xi)]
      refine XT.iconstV X0.here hx rfl (1 : Int32) (hb hby d0_19) (by decide) ?_
      show Go p e below t s₁ m 20 #[.val (.double xd), .second, iv xi, .val (.double (4617315517961601024 : UInt64)), .second] [(.int (1 : Int32)), (.int xi)]
      exact k)
    by_cases h4 : xi = (1 : Int32)
    · skip
      have g5 : Goes p e below S0 (s₁.setTop (mkF m 28 #[.val (.double xd), .second, iv xi, .val (.double (4617315517961601024 : UInt64)), .second] [(.double (FP.dsub (4617315517961601024 : UInt64) (4611686018427387904 : UInt64)))])) := fun t k => g3 t (by
        refine XS.icmpNo X0.here hx rfl (hb hby d0_20) rfl (XT.ii_ne_f h4) ?_
        show Go p e below t s₁ m 23 #[.val (.double xd), .second, iv xi, .val (.double (4617315517961601024 : UInt64)), .second] []
        refine XS.dloadN X0.here hx rfl (hb hby d0_23) rfl ?_
        show Go p e below t s₁ m 24 #[.val (.double xd), .second, iv xi, .val (.double (4617315517961601024 : UInt64)), .second] [(.double (4617315517961601024 : UInt64))]
        refine X0.ldc2DoubleC hx hown (mvT hZ (hw _ (List.mem_of_getElem? (i := 8) rfl))) (g := (mkF m 24 #[.val (.double xd), .second, iv xi, .val (.double (4617315517961601024 : UInt64)), .second] [(.double (4617315517961601024 : UInt64))])) rfl (hb hby d0_24) _ ?_
        show Go p e below t s₁ m 27 #[.val (.double xd), .second, iv xi, .val (.double (4617315517961601024 : UInt64)), .second] [(.double (4611686018427387904 : UInt64)), (.double (4617315517961601024 : UInt64))]
        refine XS.dsubS X0.here hx rfl (hb hby d0_27) rfl (by unfold Jvm.Free.Fl.NoNaN64; decide +kernel) rfl ?_
        show Go p e below t s₁ m 28 #[.val (.double xd), .second, iv xi, .val (.double (4617315517961601024 : UInt64)), .second] [(.double (FP.dsub (4617315517961601024 : UInt64) (4611686018427387904 : UInt64)))]
        exact k)
      obtain ⟨fs, hr, hrun, hended, hW, hsame⟩ := X0.leave (v := some (.double (FP.dsub (4617315517961601024 : UInt64) (4611686018427387904 : UInt64)))) (fun h => by rw [Bd.returns] at h; cases h)
      refine ⟨_, _, g5 _ (retOut X0 hx Bd.returns rfl (Or.inr (Or.inr (Or.inl ⟨rfl, rfl, _, rfl⟩))) (hb hby d0_28) hr), hrun, hended, _, _, rfl, ?_, ⟨_, rfl⟩, hW, hsame.mono (by decide) (by decide)⟩
      show Q_eff Z xd xi  h0 n0 _ s₁.heap _
      rw [e0]
      exact ⟨by unfold f_eff; rw [if_pos h2, if_pos h4], N0, rfl⟩
    · skip
      have g6 : Goes p e below S0 (s₁.setTop (mkF m 31 #[.val (.double xd), .second, iv xi, .val (.double (4617315517961601024 : UInt64)), .second] [(.int (2 : Int32)), (.int xi)])) := fun t k => g3 t (by
        refine XS.icmpYes X0.here hx rfl (pc0 := 20) (pc' := 29) rfl (hb hby d0_20) rfl (XT.ii_ne_t h4) (by decide) (by decide) ?_
        show Go p e below t s₁ m 29 #[.val (.double xd), .second, iv xi, .val (.double (4617315517961601024 : UInt64)), .second] []
        refine XS.iloadN X0.here hx rfl (hb hby d0_29) rfl ?_
        show Go p e below t s₁ m 30 #[.val (.double xd), .second, iv xi, .val (.double (4617315517961601024 : UInt64)), .second] [(.int xi)]
        refine XT.iconstV X0.here hx rfl (2 : Int32) (hb hby d0_30) (by decide) ?_
        show Go p e below t s₁ m 31 #[.val (.double xd), .second, iv xi, .val (.double (4617315517961601024 : UInt64)), .second] [(.int (2 : Int32)), (.int xi)]
        exact k)
      by_cases h7 : xi = (2 : Int32)
      · skip
        have g8 : Goes p e below S0 (s₁.setTop (mkF m 43 #[.val (.double xd), .second, iv xi, .val (.double (4617315517961601024 : UInt64)), .second] [(.double (FP.dadd (4617315517961601024 : UInt64) (4617315517961601024 : UInt64)))])) := fun t k => g6 t (by
          refine XS.icmpNo X0.here hx rfl (hb hby d0_31) rfl (XT.ii_ne_f h7) ?_
          show Go p e below t s₁ m 34 #[.val (.double xd), .second, iv xi, .val (.double (4617315517961601024 : UInt64)), .second] []
          refine XS.dloadN X0.here hx rfl (hb hby d0_34) rfl ?_
          show Go p e below t s₁ m 35 #[.val (.double xd), .second, iv xi, .val (.double (4617315517961601024 : UInt64)), .second] [(.double (4617315517961601024 : UInt64))]
          refine X0.ldc2DoubleC hx hown (mvT hZ (hw _ (List.mem_of_getElem? (i := 7) rfl))) (g := (mkF m 35 #[.val (.double xd), .second, iv xi, .val (.double (4617315517961601024 : UInt64)), .second] [(.double (4617315517961601024 : UInt64))])) rfl (hb hby d0_35) _ ?_
          show Go p e below t s₁ m 38 #[.val (.double xd), .second, iv xi, .val (.double (4617315517961601024 : UInt64)), .second] [(.double (4617315517961601024 : UInt64)), (.double (4617315517961601024 : UInt64))]
          refine XS.daddS X0.here hx rfl (hb hby d0_38) rfl (by unfold Jvm.Free.Fl.NoNaN64; decide +kernel) rfl ?_
          show Go p e below t s₁ m 39 #[.val (.double xd), .second, iv xi, .val (.double (4617315517961601024 : UInt64)), .second] [(.double (FP.dadd (4617315517961601024 : UInt64) (4617315517961601024 : UInt64)))]
          refine XS.goto X0.here hx rfl (pc0 := 39) (pc' := 43) rfl (hb hby d0_39) (by decide) (by decide) ?_
          show Go p e below t s₁ m 43 #[.val (.double xd), .second, iv xi, .val (.double (4617315517961601024 : UInt64)), .second] [(.double (FP.dadd (4617315517961601024 : UInt64) (4617315517961601024 : UInt64)))]
          exact k)
        obtain ⟨fs, hr, hrun, hended, hW, hsame⟩ := X0.leave (v := some (.double (FP.dadd (4617315517961601024 : UInt64) (4617315517961601024 : UInt64)))) (fun h => by rw [Bd.returns] at h; cases h)
        refine ⟨_, _, g8 _ (retOut X0 hx Bd.returns rfl (Or.inr (Or.inr (Or.inl ⟨rfl, rfl, _, rfl⟩))) (hb hby d0_43) hr), hrun, hended, _, _, rfl, ?_, ⟨_, rfl⟩, hW, hsame.mono (by decide) (by decide)⟩
        show Q_eff Z xd xi  h0 n0 _ s₁.heap _
        rw [e0]
        exact ⟨by unfold f_eff; rw [if_pos h2, if_neg h4, if_pos h7], N0, rfl⟩
      · skip
        have g9 : Goes p e below S0 (s₁.setTop (mkF m 43 #[.val (.double xd), .second, iv xi, .val (.double (4617315517961601024 : UInt64)), .second] [(.double (4617315517961601024 : UInt64))])) := fun t k => g6 t (by
          refine XS.icmpYes X0.here hx rfl (pc0 := 31) (pc' := 42) rfl (hb hby d0_31) rfl (XT.ii_ne_t h7) (by decide) (by decide) ?_
          show Go p e below t s₁ m 42 #[.val (.double xd), .second, iv xi, .val (.double (4617315517961601024 : UInt64)), .second] []
          refine XS.dloadN X0.here hx rfl (hb hby d0_42) rfl ?_
          show Go p e below t s₁ m 43 #[.val (.double xd), .second, iv xi, .val (.double (4617315517961601024 : UInt64)), .second] [(.double (4617315517961601024 : UInt64))]
          exact k)
        obtain ⟨fs, hr, hrun, hended, hW, hsame⟩ := X0.leave (v := some (.double (4617315517961601024 : UInt64))) (fun h => by rw [Bd.returns] at h; cases h)
        refine ⟨_, _, g9 _ (retOut X0 hx Bd.returns rfl (Or.inr (Or.inr (Or.inl ⟨rfl, rfl, _, rfl⟩))) (hb hby d0_43) hr), hrun, hended, _, _, rfl, ?_, ⟨_, rfl⟩, hW, hsame.mono (by decide) (by decide)⟩
        show Q_eff Z xd xi  h0 n0 _ s₁.heap _
        rw [e0]
        exact ⟨by unfold f_eff; rw [if_pos h2, if_neg h4, if_neg h7], N0, rfl⟩
  · skip
    have g10 : Goes p e below S0 (s₁.setTop (mkF m 20 #[.val (.double xd), .second, iv xi, .val (.double (13835058055282163712 : UInt64)), .second] [(.int (1 : Int32)), (.int xi)])) := fun t k => g1 t (by
      refine XS.ifYes X0.here hx rfl (pc0 := 5) (pc' := 14) rfl (hb hby d0_5) rfl (dc_g_ge_t h2) (by decide) (by decide) ?_
      show Go p e below t s₁ m 14 #[.val (.double xd), .second, iv xi, .unset, .unset] []
      refine X0.ldc2DoubleC hx hown (mvT hZ (hw _ (List.mem_of_getElem? (i := 9) rfl))) (g := (mkF m 14 #[.val (.double xd), .second, iv xi, .unset, .unset] [])) rfl (hb hby d0_14) _ ?_
      show Go p e below t s₁ m 17 #[.val (.double xd), .second, iv xi, .unset, .unset] [(.double (13835058055282163712 : UInt64))]
      refine XS.dstoreN X0.here hx rfl (hb hby d0_17) rfl (l' := #[.val (.double xd), .second, iv xi, .val (.double (13835058055282163712 : UInt64)), .second]) rfl ?_
      show Go p e below t s₁ m 18 #[.val (.double xd), .second, iv xi, .val (.double (13835058055282163712 : UInt64)), .second] []
      refine XS.iloadN X0.here hx rfl (hb hby d0_18) rfl ?_
      show Go p e below t s₁ m 19 #[.val (.double xd), .second, iv xi, .val (.double (13835058055282163712 : UInt64)), .second] [(.int xi)]
      refine XT.iconstV X0.here hx rfl (1 : Int32) (hb hby d0_19) (by decide) ?_
      show Go p e below t s₁ m 20 #[.val (.double xd), .second, iv xi, .val (.double (13835058055282163712 : UInt64)), .second] [(.int (1 : Int32)), (.int xi)]
      exact k)
    by_cases h11 : xi = (1 : Int32)
    · skip
      have g12 : Goes p e below S0 (s₁.setTop (mkF m 28 #[.val (.double xd), .second, iv xi, .val (.double (13835058055282163712 : UInt64)), .second] [(.double (FP.dsub (13835058055282163712 : UInt64) (4611686018427387904 : UInt64)))])) := fun t k => g10 t (by
        refine XS.icmpNo X0.here hx rfl (hb hby d0_20) rfl (XT.ii_ne_f h11) ?_
        show Go p e below t s₁ m 23 #[.val (.double xd), .second, iv xi, .val (.double (13835058055282163712 : UInt64)), .second] []
        refine XS.dloadN X0.here hx rfl (hb hby d0_23) rfl ?_
        show Go p e below t s₁ m 24 #[.val (.double xd), .second, iv xi, .val (.double (13835058055282163712 : UInt64)), .second] [(.double (13835058055282163712 : UInt64))]
        refine X0.ldc2DoubleC hx hown (mvT hZ (hw _ (List.mem_of_getElem? (i := 8) rfl))) (g := (mkF m 24 #[.val (.double xd), .second, iv xi, .val (.double (13835058055282163712 : UInt64)), .second] [(.double (13835058055282163712 : UInt64))])) rfl (hb hby d0_24) _ ?_
        show Go p e below t s₁ m 27 #[.val (.double xd), .second, iv xi, .val (.double (13835058055282163712 : UInt64)), .second] [(.double (4611686018427387904 : UInt64)), (.double (13835058055282163712 : UInt64))]
        refine XS.dsubS X0.here hx rfl (hb hby d0_27) rfl (by unfold Jvm.Free.Fl.NoNaN64; decide +kernel) rfl ?_
        show Go p e below t s₁ m 28 #[.val (.double xd), .second, iv xi, .val (.double (13835058055282163712 : UInt64)), .second] [(.double (FP.dsub (13835058055282163712 : UInt64) (4611686018427387904 : UInt64)))]
        exact k)
      obtain ⟨fs, hr, hrun, hended, hW, hsame⟩ := X0.leave (v := some (.double (FP.dsub (13835058055282163712 : UInt64) (4611686018427387904 : UInt64)))) (fun h => by rw [Bd.returns] at h; cases h)
      refine ⟨_, _, g12 _ (retOut X0 hx Bd.returns rfl (Or.inr (Or.inr (Or.inl ⟨rfl, rfl, _, rfl⟩))) (hb hby d0_28) hr), hrun, hended, _, _, rfl, ?_, ⟨_, rfl⟩, hW, hsame.mono (by decide) (by decide)⟩
      show Q_eff Z xd xi  h0 n0 _ s₁.heap _
      rw [e0]
      exact ⟨by unfold f_eff; rw [if_neg h2, if_pos h11], N0, rfl⟩
    · skip
      have g13 : Goes p e below S0 (s₁.setTop (mkF m 31 #[.val (.double xd), .second, iv xi, .val (.double (13835058055282163712 : UInt64)), .second] [(.int (2 : Int32)), (.int xi)])) := fun t k => g10 t (by
        refine XS.icmpYes X0.here hx rfl (pc0 := 20) (pc' := 29) rfl (hb hby d0_20) rfl (XT.ii_ne_t h11) (by decide) (by decide) ?_
        show Go p e below t s₁ m 29 #[.val (.double xd), .second, iv xi, .val (.double (13835058055282163712 : UInt64)), .second] []
        refine XS.iloadN X0.here hx rfl (hb hby d0_29) rfl ?_
        show Go p e below t s₁ m 30 #[.val (.double xd), .second, iv xi, .val (.double (13835058055282163712 : UInt64)), .second] [(.int xi)]
        refine XT.iconstV X0.here hx rfl (2 : Int32) (hb hby d0_30) (by decide) ?_
        show Go p e below t s₁ m 31 #[.val (.double xd), .second, iv xi, .val (.double (13835058055282163712 : UInt64)), .second] [(.int (2 : Int32)), (.int xi)]
        exact k)
      by_cases h14 : xi = (2 : Int32)
      · skip
        have g15 : Goes p e below S0 (s₁.setTop (mkF m 43 #[.val (.double xd), .second, iv xi, .val (.double (13835058055282163712 : UInt64)), .second] [(.double (FP.dadd (13835058055282163712 : UInt64) (4617315517961601024 : UInt64)))])) := fun t k => g13 t (by
          refine XS.icmpNo X0.here hx rfl (hb hby d0_31) rfl (XT.ii_ne_f h14) ?_
          show Go p e below t s₁ m 34 #[.val (.double xd), .second, iv xi, .val (.double (13835058055282163712 : UInt64)), .second] []
          refine XS.dloadN X0.here hx rfl (hb hby d0_34) rfl ?_
          show Go p e below t s₁ m 35 #[.val (.double xd), .second, iv xi, .val (.double (13835058055282163712 : UInt64)), .second] [(.double (13835058055282163712 : UInt64))]
          refine X0.ldc2DoubleC hx hown (mvT hZ (hw _ (List.mem_of_getElem? (i := 7) rfl))) (g := (mkF m 35 #[.val (.double xd), .second, iv xi, .val (.double (13835058055282163712 : UInt64)), .second] [(.double (13835058055282163712 : UInt64))])) rfl (hb hby d0_35) _ ?_
          show Go p e below t s₁ m 38 #[.val (.double xd), .second, iv xi, .val (.double (13835058055282163712 : UInt64)), .second] [(.double (4617315517961601024 : UInt64)), (.double (13835058055282163712 : UInt64))]
          refine XS.daddS X0.here hx rfl (hb hby d0_38) rfl (by unfold Jvm.Free.Fl.NoNaN64; decide +kernel) rfl ?_
          show Go p e below t s₁ m 39 #[.val (.double xd), .second, iv xi, .val (.double (13835058055282163712 : UInt64)), .second] [(.double (FP.dadd (13835058055282163712 : UInt64) (4617315517961601024 : UInt64)))]
          refine XS.goto X0.here hx rfl (pc0 := 39) (pc' := 43) rfl (hb hby d0_39) (by decide) (by decide) ?_
          show Go p e below t s₁ m 43 #[.val (.double xd), .second, iv xi, .val (.double (13835058055282163712 : UInt64)), .second] [(.double (FP.dadd (13835058055282163712 : UInt64) (4617315517961601024 : UInt64)))]
          exact k)
        obtain ⟨fs, hr, hrun, hended, hW, hsame⟩ := X0.leave (v := some (.double (FP.dadd (13835058055282163712 : UInt64) (4617315517961601024 : UInt64)))) (fun h => by rw [Bd.returns] at h; cases h)
        refine ⟨_, _, g15 _ (retOut X0 hx Bd.returns rfl (Or.inr (Or.inr (Or.inl ⟨rfl, rfl, _, rfl⟩))) (hb hby d0_43) hr), hrun, hended, _, _, rfl, ?_, ⟨_, rfl⟩, hW, hsame.mono (by decide) (by decide)⟩
        show Q_eff Z xd xi  h0 n0 _ s₁.heap _
        rw [e0]
        exact ⟨by unfold f_eff; rw [if_neg h2, if_neg h11, if_pos h14], N0, rfl⟩
      · skip
        have g16 : Goes p e below S0 (s₁.setTop (mkF m 43 #[.val (.double xd), .second, iv xi, .val (.double (13835058055282163712 : UInt64)), .second] [(.double (13835058055282163712 : UInt64))])) := fun t k => g13 t (by
          refine XS.icmpYes X0.here hx rfl (pc0 := 31) (pc' := 42) rfl (hb hby d0_31) rfl (XT.ii_ne_t h14) (by decide) (by decide) ?_
          show Go p e below t s₁ m 42 #[.val (.double xd), .second, iv xi, .val (.double (13835058055282163712 : UInt64)), .second] []
          refine XS.dloadN X0.here hx rfl (hb hby d0_42) rfl ?_
          show Go p e below t s₁ m 43 #[.val (.double xd), .second, iv xi, .val (.double (13835058055282163712 : UInt64)), .second] [(.double (13835058055282163712 : UInt64))]
          exact k)
        obtain ⟨fs, hr, hrun, hended, hW, hsame⟩ := X0.leave (v := some (.double (13835058055282163712 : UInt64))) (fun h => by rw [Bd.returns] at h; cases h)
        refine ⟨_, _, g16 _ (retOut X0 hx Bd.returns rfl (Or.inr (Or.inr (Or.inl ⟨rfl, rfl, _, rfl⟩))) (hb hby d0_43) hr), hrun, hended, _, _, rfl, ?_, ⟨_, rfl⟩, hW, hsame.mono (by decide) (by decide)⟩
        show Q_eff Z xd xi  h0 n0 _ s₁.heap _
        rw [e0]
        exact ⟨by unfold f_eff; rw [if_neg h2, if_neg h11, if_neg h14], N0, rfl⟩
theorem pd1 : parseMethodDescriptor "(II)Z" = some ⟨[.int, .int], some .boolean⟩ := by decide +kernel
theorem pf_law : plainFor x = true := by first | exact plainFor_of_name (by first | (simp [plainName, overriddenIn, x]; done) | decide +kernel) | exact Jvm.Free.JP.mathPlain rfl (by decide +kernel) | decide +kernel
theorem ef_law (m : MethodId) (i0 : Int32) (i1 : Int32) : entryFrame m #[(.int i0), (.int i1)] maxLocals = mkF m 0 #[iv i0, iv i1, .unset, .unset, .unset, .unset, .unset, .unset] [] := by first | (simp [entryFrame, mkF, argsToLocals, Value.category, maxLocals]; done) | rfl
def f_law (i0 : Int32) (i1 : Int32) : Int32 := (if (nK i0) < (670 : Int32) then (if (nX i1) = 0 then (if dEq (f_eff (nD i0) (nX i1)) (FP.i2d (5 : Int32)) then (1 : Int32) else (0 : Int32)) else (if (nX i1) = (1 : Int32) then (if dEq (f_eff (nD i0) (nX i1)) (FP.i2d (3 : Int32)) then (1 : Int32) else (0 : Int32)) else (if dEq (f_eff (nD i0) (nX i1)) (FP.i2d (10 : Int32)) then (1 : Int32) else (0 : Int32)))) else (if (nX i1) = 0 then (if dEq (f_eff (nD i0) (nX i1)) (FP.i2d (-2 : Int32)) then (1 : Int32) else (0 : Int32)) else (if (nX i1) = (1 : Int32) then (if dEq (f_eff (nD i0) (nX i1)) (FP.i2d (-4 : Int32)) then (1 : Int32) else (0 : Int32)) else (if dEq (f_eff (nD i0) (nX i1)) (FP.i2d (3 : Int32)) then (1 : Int32) else (0 : Int32)))))
def Q_law (Z : State) (i0 : Int32) (i1 : Int32)  (h0 : Heap) (n0 : Nat) (v : Option Value) (h : Heap) (L : List Loc) : Prop := v = some (.int (f_law i0 i1)) ∧ Fr n0 L
set_option maxRecDepth 65536 in
set_option maxHeartbeats 40000000 in
theorem rm_law (l : Launch) (Z : State) (a0 : Array Value) (hw : ∀ d ∈ tables_1, d.before a0 Z = true) (ws : List Jvm.Cond) (i0 : Int32) (i1 : Int32)  (h0 : Heap) (n0 : Nat) (Z0 : n0 ≤ h0.size)   :
    MetFree l x (head1 (Jvm.Cond.code x code maxLocals ret :: ws) room_1) (fun a U => a = #[(.int i0), (.int i1)] ∧ Z.Warmed39 U.vm ∧ U.heap = h0) (fun _ _ _ _ _ => True) (fun _ U o U' => ∃ v L, o = .returned v ∧ Q_law Z i0 i1  h0 n0 v U'.heap L ∧ FrameEnd U o U' L 0 0) := by
  refine MetFree.of_bodySF pf_law hisR ?_
  intro p e s m args below meth c s₁ Bd hml0 hP hK
  obtain ⟨rfl, hZ, hh⟩ := hP
  have hx := Bd.exec
  have hby := Bd.bytes
  have hml : c.maxLocals = 8 := hml0
  have hown : s.vm.findClass "com/example/hetmo/hetmo/simulation/DiscontinuityTrialEffectPinLaw" = some m.cls := findClass_of_methodNamed Bd.named
  have hnm := (name_of_methodNamed Bd.named Bd.method).1
  have X0 : Stand p l e room_1 s m #[(.int i0), (.int i1)] below meth c s₁ [] 0 0 := Stand.of_body Bd
  have e0 : s₁.heap = h0 := by rw [← hh, Bd.state]; rfl
  have N0 := Fr.nil n0
  obtain ⟨S0, hS0⟩ : ∃ z, z = s₁.setTop (entryFrame m #[(.int i0), (.int i1)] maxLocals) := ⟨_, rfl⟩
  rw [← hS0]
  have g0 : Goes p e below S0 (s₁.setTop (mkF m 0 #[iv i0, iv i1, .unset, .unset, .unset, .unset, .unset, .unset] [])) := fun t k => by rw [hS0]; exact castTop (ef_law m i0 i1) k
  have g17 : Goes p e below S0 (s₁.setTop (mkF m 28 #[iv i0, iv i1, iv (nK i0), iv (nX i1), .val (.double (nD i0)), .second, .unset, .unset] [(.int (670 : Int32)), (.int (nK i0))])) := fun t k => g0 t (by
    refine XS.iloadN X0.here hx rfl (hb hby at_0) rfl ?_
    show Go p e below t s₁ m 1 #[iv i0, iv i1, .unset, .unset, .unset, .unset, .unset, .unset] [(.int i0)]
    refine Jvm.Stand.ldcI X0 hx hown (mvT hZ (hw _ (List.mem_of_getElem? (i := 0) rfl))) (g := (mkF m 1 #[iv i0, iv i1, .unset, .unset, .unset, .unset, .unset, .unset] [(.int i0)])) rfl (hb hby at_1) ?_
    show Go p e below t s₁ m 3 #[iv i0, iv i1, .unset, .unset, .unset, .unset, .unset, .unset] [(.int (2147483647 : Int32)), (.int i0)]
    refine XS.iand X0.here hx rfl (hb hby at_3) rfl ?_
    show Go p e below t s₁ m 4 #[iv i0, iv i1, .unset, .unset, .unset, .unset, .unset, .unset] [(.int (i0 &&& (2147483647 : Int32)))]
    refine XT.sipushV X0.here hx rfl (1000 : Int32) (hb hby at_4) (by decide) ?_
    show Go p e below t s₁ m 7 #[iv i0, iv i1, .unset, .unset, .unset, .unset, .unset, .unset] [(.int (1000 : Int32)), (.int (i0 &&& (2147483647 : Int32)))]
    refine iremM X0 hx rfl (hb hby at_7) rfl (by decide) ?_
    show Go p e below t s₁ m 8 #[iv i0, iv i1, .unset, .unset, .unset, .unset, .unset, .unset] [(.int ((i0 &&& (2147483647 : Int32)) % (1000 : Int32)))]
    refine XS.istoreN X0.here hx rfl (hb hby at_8) rfl (l' := #[iv i0, iv i1, iv (nK i0), .unset, .unset, .unset, .unset, .unset]) rfl ?_
    show Go p e below t s₁ m 9 #[iv i0, iv i1, iv (nK i0), .unset, .unset, .unset, .unset, .unset] []
    refine XS.iloadN X0.here hx rfl (hb hby at_9) rfl ?_
    show Go p e below t s₁ m 10 #[iv i0, iv i1, iv (nK i0), .unset, .unset, .unset, .unset, .unset] [(.int i1)]
    refine Jvm.Stand.ldcI X0 hx hown (mvT hZ (hw _ (List.mem_of_getElem? (i := 0) rfl))) (g := (mkF m 10 #[iv i0, iv i1, iv (nK i0), .unset, .unset, .unset, .unset, .unset] [(.int i1)])) rfl (hb hby at_10) ?_
    show Go p e below t s₁ m 12 #[iv i0, iv i1, iv (nK i0), .unset, .unset, .unset, .unset, .unset] [(.int (2147483647 : Int32)), (.int i1)]
    refine XS.iand X0.here hx rfl (hb hby at_12) rfl ?_
    show Go p e below t s₁ m 13 #[iv i0, iv i1, iv (nK i0), .unset, .unset, .unset, .unset, .unset] [(.int (i1 &&& (2147483647 : Int32)))]
    refine XT.iconstV X0.here hx rfl (3 : Int32) (hb hby at_13) (by decide) ?_
    show Go p e below t s₁ m 14 #[iv i0, iv i1, iv (nK i0), .unset, .unset, .unset, .unset, .unset] [(.int (3 : Int32)), (.int (i1 &&& (2147483647 : Int32)))]
    refine iremM X0 hx rfl (hb hby at_14) rfl (by decide) ?_
    show Go p e below t s₁ m 15 #[iv i0, iv i1, iv (nK i0), .unset, .unset, .unset, .unset, .unset] [(.int ((i1 &&& (2147483647 : Int32)) % (3 : Int32)))]
    refine XS.istoreN X0.here hx rfl (hb hby at_15) rfl (l' := #[iv i0, iv i1, iv (nK i0), iv (nX i1), .unset, .unset, .unset, .unset]) rfl ?_
    show Go p e below t s₁ m 16 #[iv i0, iv i1, iv (nK i0), iv (nX i1), .unset, .unset, .unset, .unset] []
    refine XS.iloadN X0.here hx rfl (hb hby at_16) rfl ?_
    show Go p e below t s₁ m 17 #[iv i0, iv i1, iv (nK i0), iv (nX i1), .unset, .unset, .unset, .unset] [(.int (nK i0))]
    refine XS.i2dS X0.here hx rfl (hb hby at_17) rfl rfl ?_
    show Go p e below t s₁ m 18 #[iv i0, iv i1, iv (nK i0), iv (nX i1), .unset, .unset, .unset, .unset] [(.double (FP.i2d (nK i0)))]
    refine X0.ldc2DoubleC hx hown (mvT hZ (hw _ (List.mem_of_getElem? (i := 1) rfl))) (g := (mkF m 18 #[iv i0, iv i1, iv (nK i0), iv (nX i1), .unset, .unset, .unset, .unset] [(.double (FP.i2d (nK i0)))])) rfl (hb hby at_18) _ ?_
    show Go p e below t s₁ m 21 #[iv i0, iv i1, iv (nK i0), iv (nX i1), .unset, .unset, .unset, .unset] [(.double (4652007308841189376 : UInt64)), (.double (FP.i2d (nK i0)))]
    refine XS.ddivS X0.here hx rfl (hb hby at_21) rfl (own_nn i0) rfl ?_
    show Go p e below t s₁ m 22 #[iv i0, iv i1, iv (nK i0), iv (nX i1), .unset, .unset, .unset, .unset] [(.double (FP.ddiv (FP.i2d (nK i0)) (4652007308841189376 : UInt64)))]
    refine XS.dstore X0.here hx rfl (hb hby at_22) rfl (l' := #[iv i0, iv i1, iv (nK i0), iv (nX i1), .val (.double (nD i0)), .second, .unset, .unset]) rfl ?_
    show Go p e below t s₁ m 24 #[iv i0, iv i1, iv (nK i0), iv (nX i1), .val (.double (nD i0)), .second, .unset, .unset] []
    refine XS.iloadN X0.here hx rfl (hb hby at_24) rfl ?_
    show Go p e below t s₁ m 25 #[iv i0, iv i1, iv (nK i0), iv (nX i1), .val (.double (nD i0)), .second, .unset, .unset] [(.int (nK i0))]
    refine XT.sipushV X0.here hx rfl (670 : Int32) (hb hby at_25) (by decide) ?_
    show Go p e below t s₁ m 28 #[iv i0, iv i1, iv (nK i0), iv (nX i1), .val (.double (nD i0)), .second, .unset, .unset] [(.int (670 : Int32)), (.int (nK i0))]
    exact k)
  by_cases h18 : (nK i0) < (670 : Int32)
  · skip
    have g19 : Goes p e below S0 (s₁.setTop (mkF m 39 #[iv i0, iv i1, iv (nK i0), iv (nX i1), .val (.double (nD i0)), .second, iv (1 : Int32), .unset] [(.int (nX i1))])) := fun t k => g17 t (by
      refine XS.icmpNo X0.here hx rfl (hb hby at_28) rfl (XT.ii_ge_f h18) ?_
      show Go p e below t s₁ m 31 #[iv i0, iv i1, iv (nK i0), iv (nX i1), .val (.double (nD i0)), .second, .unset, .unset] []
      refine XT.iconstV X0.here hx rfl (1 : Int32) (hb hby at_31) (by decide) ?_
      show Go p e below t s₁ m 32 #[iv i0, iv i1, iv (nK i0), iv (nX i1), .val (.double (nD i0)), .second, .unset, .unset] [(.int (1 : Int32))]
      refine XS.goto X0.here hx rfl (pc0 := 32) (pc' := 36) rfl (hb hby at_32) (by decide) (by decide) ?_
      show Go p e below t s₁ m 36 #[iv i0, iv i1, iv (nK i0), iv (nX i1), .val (.double (nD i0)), .second, .unset, .unset] [(.int (1 : Int32))]
      refine XS.istore X0.here hx rfl (hb hby at_36) rfl (l' := #[iv i0, iv i1, iv (nK i0), iv (nX i1), .val (.double (nD i0)), .second, iv (1 : Int32), .unset]) rfl ?_
      show Go p e below t s₁ m 38 #[iv i0, iv i1, iv (nK i0), iv (nX i1), .val (.double (nD i0)), .second, iv (1 : Int32), .unset] []
      refine XS.iloadN X0.here hx rfl (hb hby at_38) rfl ?_
      show Go p e below t s₁ m 39 #[iv i0, iv i1, iv (nK i0), iv (nX i1), .val (.double (nD i0)), .second, iv (1 : Int32), .unset] [(.int (nX i1))]
      exact k)
    by_cases h20 : (nX i1) = 0
    · skip
      have g21 : Goes p e below S0 (s₁.setTop (mkF m 95 #[iv i0, iv i1, iv (nK i0), iv (nX i1), .val (.double (nD i0)), .second, iv (1 : Int32), iv (5 : Int32)] [(.int (nX i1)), (.double (nD i0))])) := fun t k => g19 t (by
        refine XS.ifNo X0.here hx rfl (hb hby at_39) rfl (XT.i0_ne_f h20) ?_
        show Go p e below t s₁ m 42 #[iv i0, iv i1, iv (nK i0), iv (nX i1), .val (.double (nD i0)), .second, iv (1 : Int32), .unset] []
        refine XS.iload X0.here hx rfl (hb hby at_42) rfl ?_
        show Go p e below t s₁ m 44 #[iv i0, iv i1, iv (nK i0), iv (nX i1), .val (.double (nD i0)), .second, iv (1 : Int32), .unset] [(.int (1 : Int32))]
        refine XS.ifNo X0.here hx rfl (hb hby at_44) rfl (XT.i0_eq_f (by decide)) ?_
        show Go p e below t s₁ m 47 #[iv i0, iv i1, iv (nK i0), iv (nX i1), .val (.double (nD i0)), .second, iv (1 : Int32), .unset] []
        refine XT.iconstV X0.here hx rfl (5 : Int32) (hb hby at_47) (by decide) ?_
        show Go p e below t s₁ m 48 #[iv i0, iv i1, iv (nK i0), iv (nX i1), .val (.double (nD i0)), .second, iv (1 : Int32), .unset] [(.int (5 : Int32))]
        refine XS.goto X0.here hx rfl (pc0 := 48) (pc' := 53) rfl (hb hby at_48) (by decide) (by decide) ?_
        show Go p e below t s₁ m 53 #[iv i0, iv i1, iv (nK i0), iv (nX i1), .val (.double (nD i0)), .second, iv (1 : Int32), .unset] [(.int (5 : Int32))]
        refine XS.istore X0.here hx rfl (hb hby at_53) rfl (l' := #[iv i0, iv i1, iv (nK i0), iv (nX i1), .val (.double (nD i0)), .second, iv (1 : Int32), iv (5 : Int32)]) rfl ?_
        show Go p e below t s₁ m 55 #[iv i0, iv i1, iv (nK i0), iv (nX i1), .val (.double (nD i0)), .second, iv (1 : Int32), iv (5 : Int32)] []
        refine XS.goto X0.here hx rfl (pc0 := 55) (pc' := 92) rfl (hb hby at_55) (by decide) (by decide) ?_
        show Go p e below t s₁ m 92 #[iv i0, iv i1, iv (nK i0), iv (nX i1), .val (.double (nD i0)), .second, iv (1 : Int32), iv (5 : Int32)] []
        refine XS.dload X0.here hx rfl (hb hby at_92) rfl ?_
        show Go p e below t s₁ m 94 #[iv i0, iv i1, iv (nK i0), iv (nX i1), .val (.double (nD i0)), .second, iv (1 : Int32), iv (5 : Int32)] [(.double (nD i0))]
        refine XS.iloadN X0.here hx rfl (hb hby at_94) rfl ?_
        show Go p e below t s₁ m 95 #[iv i0, iv i1, iv (nK i0), iv (nX i1), .val (.double (nD i0)), .second, iv (1 : Int32), iv (5 : Int32)] [(.int (nX i1)), (.double (nD i0))]
        exact k)
      obtain ⟨_, _, ⟨T22, L22, k22, n22⟩, -, X22, ⟨Lc22, hQ22, l22, y22, z22⟩, st22⟩ := Jvm.LawKit.callS X0 hx (y := (⟨"com/example/hetmo/hetmo/simulation/DiscontinuityTrial", "effect", "(DI)D"⟩ : MethodName)) hown (mvT hZ (hw _ (List.mem_of_getElem? (i := 2) rfl))) (mvT hZ (hw _ (List.mem_of_getElem? (i := 3) rfl))) (mvT hZ (hw _ (List.mem_of_getElem? (i := 4) rfl))) (mvT hZ (hw _ (List.mem_of_getElem? (i := 5) rfl))) (by decide) (backOf (W := 0) (rm_eff l Z a0 hw [] (nD i0) (nX i1)  h0 n0 Z0 ) hZ (hw _ (List.mem_of_getElem? (i := 5) rfl)) (hw _ (List.mem_of_getElem? (i := 4) rfl)) (by decide) (by decide)) (g := (mkF m 95 #[iv i0, iv i1, iv (nK i0), iv (nX i1), .val (.double (nD i0)), .second, iv (1 : Int32), iv (5 : Int32)] [(.int (nX i1)), (.double (nD i0))])) rfl (by rw [hml]; rfl) (argsL := [(.double (nD i0)), (.int (nX i1))]) (rest := []) (lenOf pd0 rfl) rfl (by show 2 * 0 + _ ≤ _; exact Nat.le_of_eq rfl) (hb hby at_95) (fun _ _ => ⟨rfl, e0, (by decide : 0 + 0 ≤ _), (by decide : 0 + 0 ≤ _)⟩)
      dsimp only [Pt.U, Pt.locs, Pt.cells, Pt.slots] at X22 l22 y22 z22 st22 hQ22
      subst l22 y22 z22
      obtain ⟨rfl, N22, e22⟩ := hQ22
      have M22 := Fr.app N0 N22
      have g23 : Goes p e below S0 (T22.setTop (mkF m 98 #[iv i0, iv i1, iv (nK i0), iv (nX i1), .val (.double (nD i0)), .second, iv (1 : Int32), iv (5 : Int32)] [(.double (f_eff (nD i0) (nX i1)))])) := fun t k => g21 t (st22 t k)
      have g24 : Goes p e below S0 (T22.setTop (mkF m 102 #[iv i0, iv i1, iv (nK i0), iv (nX i1), .val (.double (nD i0)), .second, iv (1 : Int32), iv (5 : Int32)] [(.int (cmpValue (FP.dcmp (f_eff (nD i0) (nX i1)) (FP.i2d (5 : Int32))) .l))])) := fun t k => g23 t (by
        refine XS.iload X22.here hx rfl (hb hby at_98) rfl ?_
        show Go p e below t T22 m 100 #[iv i0, iv i1, iv (nK i0), iv (nX i1), .val (.double (nD i0)), .second, iv (1 : Int32), iv (5 : Int32)] [(.int (5 : Int32)), (.double (f_eff (nD i0) (nX i1)))]
        refine XS.i2dS X22.here hx rfl (hb hby at_100) rfl rfl ?_
        show Go p e below t T22 m 101 #[iv i0, iv i1, iv (nK i0), iv (nX i1), .val (.double (nD i0)), .second, iv (1 : Int32), iv (5 : Int32)] [(.double (FP.i2d (5 : Int32))), (.double (f_eff (nD i0) (nX i1)))]
        refine XS.dcmpS X22.here hx rfl (hb hby at_101) rfl rfl ?_
        show Go p e below t T22 m 102 #[iv i0, iv i1, iv (nK i0), iv (nX i1), .val (.double (nD i0)), .second, iv (1 : Int32), iv (5 : Int32)] [(.int (cmpValue (FP.dcmp (f_eff (nD i0) (nX i1)) (FP.i2d (5 : Int32))) .l))]
        exact k)
      by_cases h25 : dEq (f_eff (nD i0) (nX i1)) (FP.i2d (5 : Int32))
      · skip
        have g26 : Goes p e below S0 (T22.setTop (mkF m 110 #[iv i0, iv i1, iv (nK i0), iv (nX i1), .val (.double (nD i0)), .second, iv (1 : Int32), iv (5 : Int32)] [(.int (1 : Int32))])) := fun t k => g24 t (by
          refine XS.ifNo X22.here hx rfl (hb hby at_102) rfl (dc_l_ne_f h25) ?_
          show Go p e below t T22 m 105 #[iv i0, iv i1, iv (nK i0), iv (nX i1), .val (.double (nD i0)), .second, iv (1 : Int32), iv (5 : Int32)] []
          refine XT.iconstV X22.here hx rfl (1 : Int32) (hb hby at_105) (by decide) ?_
          show Go p e below t T22 m 106 #[iv i0, iv i1, iv (nK i0), iv (nX i1), .val (.double (nD i0)), .second, iv (1 : Int32), iv (5 : Int32)] [(.int (1 : Int32))]
          refine XS.goto X22.here hx rfl (pc0 := 106) (pc' := 110) rfl (hb hby at_106) (by decide) (by decide) ?_
          show Go p e below t T22 m 110 #[iv i0, iv i1, iv (nK i0), iv (nX i1), .val (.double (nD i0)), .second, iv (1 : Int32), iv (5 : Int32)] [(.int (1 : Int32))]
          exact k)
        obtain ⟨fs, hr, hrun, hended, hW, hsame⟩ := X22.leave (v := some (.int (1 : Int32))) (fun h => by rw [Bd.returns] at h; cases h)
        refine ⟨_, _, g26 _ (retN X22 hx (t := .boolean) Bd.returns (by simp) (hb hby at_110) hr), hrun, hended, _, _, rfl, ?_, ⟨_, rfl⟩, hW, hsame.mono (by decide) (by decide)⟩
        show Q_law Z i0 i1  h0 n0 _ T22.heap _
        rw [e22]
        exact ⟨by unfold f_law; rw [if_pos h18, if_pos h20, if_pos h25], M22⟩
      · skip
        have g27 : Goes p e below S0 (T22.setTop (mkF m 110 #[iv i0, iv i1, iv (nK i0), iv (nX i1), .val (.double (nD i0)), .second, iv (1 : Int32), iv (5 : Int32)] [(.int (0 : Int32))])) := fun t k => g24 t (by
          refine XS.ifYes X22.here hx rfl (pc0 := 102) (pc' := 109) rfl (hb hby at_102) rfl (dc_l_ne_t h25) (by decide) (by decide) ?_
          show Go p e below t T22 m 109 #[iv i0, iv i1, iv (nK i0), iv (nX i1), .val (.double (nD i0)), .second, iv (1 : Int32), iv (5 : Int32)] []
          refine XT.iconstV X22.here hx rfl (0 : Int32) (hb hby at_109) (by decide) ?_
          show Go p e below t T22 m 110 #[iv i0, iv i1, iv (nK i0), iv (nX i1), .val (.double (nD i0)), .second, iv (1 : Int32), iv (5 : Int32)] [(.int (0 : Int32))]
          exact k)
        obtain ⟨fs, hr, hrun, hended, hW, hsame⟩ := X22.leave (v := some (.int (0 : Int32))) (fun h => by rw [Bd.returns] at h; cases h)
        refine ⟨_, _, g27 _ (retN X22 hx (t := .boolean) Bd.returns (by simp) (hb hby at_110) hr), hrun, hended, _, _, rfl, ?_, ⟨_, rfl⟩, hW, hsame.mono (by decide) (by decide)⟩
        show Q_law Z i0 i1  h0 n0 _ T22.heap _
        rw [e22]
        exact ⟨by unfold f_law; rw [if_pos h18, if_pos h20, if_neg h25], M22⟩
    · skip
      have g28 : Goes p e below S0 (s₁.setTop (mkF m 60 #[iv i0, iv i1, iv (nK i0), iv (nX i1), .val (.double (nD i0)), .second, iv (1 : Int32), .unset] [(.int (1 : Int32)), (.int (nX i1))])) := fun t k => g19 t (by
        refine XS.ifYes X0.here hx rfl (pc0 := 39) (pc' := 58) rfl (hb hby at_39) rfl (XT.i0_ne_t h20) (by decide) (by decide) ?_
        show Go p e below t s₁ m 58 #[iv i0, iv i1, iv (nK i0), iv (nX i1), .val (.double (nD i0)), .second, iv (1 : Int32), .unset] []
        refine XS.iloadN X0.here hx rfl (hb hby at_58) rfl ?_
        show Go p e below t s₁ m 59 #[iv i0, iv i1, iv (nK i0), iv (nX i1), .val (.double (nD i0)), .second, iv (1 : Int32), .unset] [(.int (nX i1))]
        refine XT.iconstV X0.here hx rfl (1 : Int32) (hb hby at_59) (by decide) ?_
        show Go p e below t s₁ m 60 #[iv i0, iv i1, iv (nK i0), iv (nX i1), .val (.double (nD i0)), .second, iv (1 : Int32), .unset] [(.int (1 : Int32)), (.int (nX i1))]
        exact k)
      by_cases h29 : (nX i1) = (1 : Int32)
      · skip
        have g30 : Goes p e below S0 (s₁.setTop (mkF m 95 #[iv i0, iv i1, iv (nK i0), iv (nX i1), .val (.double (nD i0)), .second, iv (1 : Int32), iv (3 : Int32)] [(.int (nX i1)), (.double (nD i0))])) := fun t k => g28 t (by
          refine XS.icmpNo X0.here hx rfl (hb hby at_60) rfl (XT.ii_ne_f h29) ?_
          show Go p e below t s₁ m 63 #[iv i0, iv i1, iv (nK i0), iv (nX i1), .val (.double (nD i0)), .second, iv (1 : Int32), .unset] []
          refine XS.iload X0.here hx rfl (hb hby at_63) rfl ?_
          show Go p e below t s₁ m 65 #[iv i0, iv i1, iv (nK i0), iv (nX i1), .val (.double (nD i0)), .second, iv (1 : Int32), .unset] [(.int (1 : Int32))]
          refine XS.ifNo X0.here hx rfl (hb hby at_65) rfl (XT.i0_eq_f (by decide)) ?_
          show Go p e below t s₁ m 68 #[iv i0, iv i1, iv (nK i0), iv (nX i1), .val (.double (nD i0)), .second, iv (1 : Int32), .unset] []
          refine XT.iconstV X0.here hx rfl (3 : Int32) (hb hby at_68) (by decide) ?_
          show Go p e below t s₁ m 69 #[iv i0, iv i1, iv (nK i0), iv (nX i1), .val (.double (nD i0)), .second, iv (1 : Int32), .unset] [(.int (3 : Int32))]
          refine XS.goto X0.here hx rfl (pc0 := 69) (pc' := 74) rfl (hb hby at_69) (by decide) (by decide) ?_
          show Go p e below t s₁ m 74 #[iv i0, iv i1, iv (nK i0), iv (nX i1), .val (.double (nD i0)), .second, iv (1 : Int32), .unset] [(.int (3 : Int32))]
          refine XS.istore X0.here hx rfl (hb hby at_74) rfl (l' := #[iv i0, iv i1, iv (nK i0), iv (nX i1), .val (.double (nD i0)), .second, iv (1 : Int32), iv (3 : Int32)]) rfl ?_
          show Go p e below t s₁ m 76 #[iv i0, iv i1, iv (nK i0), iv (nX i1), .val (.double (nD i0)), .second, iv (1 : Int32), iv (3 : Int32)] []
          refine XS.goto X0.here hx rfl (pc0 := 76) (pc' := 92) rfl (hb hby at_76) (by decide) (by decide) ?_
          show Go p e below t s₁ m 92 #[iv i0, iv i1, iv (nK i0), iv (nX i1), .val (.double (nD i0)), .second, iv (1 : Int32), iv (3 : Int32)] []
          refine XS.dload X0.here hx rfl (hb hby at_92) rfl ?_
          show Go p e below t s₁ m 94 #[iv i0, iv i1, iv (nK i0), iv (nX i1), .val (.double (nD i0)), .second, iv (1 : Int32), iv (3 : Int32)] [(.double (nD i0))]
          refine XS.iloadN X0.here hx rfl (hb hby at_94) rfl ?_
          show Go p e below t s₁ m 95 #[iv i0, iv i1, iv (nK i0), iv (nX i1), .val (.double (nD i0)), .second, iv (1 : Int32), iv (3 : Int32)] [(.int (nX i1)), (.double (nD i0))]
          exact k)
        obtain ⟨_, _, ⟨T31, L31, k31, n31⟩, -, X31, ⟨Lc31, hQ31, l31, y31, z31⟩, st31⟩ := Jvm.LawKit.callS X0 hx (y := (⟨"com/example/hetmo/hetmo/simulation/DiscontinuityTrial", "effect", "(DI)D"⟩ : MethodName)) hown (mvT hZ (hw _ (List.mem_of_getElem? (i := 2) rfl))) (mvT hZ (hw _ (List.mem_of_getElem? (i := 3) rfl))) (mvT hZ (hw _ (List.mem_of_getElem? (i := 4) rfl))) (mvT hZ (hw _ (List.mem_of_getElem? (i := 5) rfl))) (by decide) (backOf (W := 0) (rm_eff l Z a0 hw [] (nD i0) (nX i1)  h0 n0 Z0 ) hZ (hw _ (List.mem_of_getElem? (i := 5) rfl)) (hw _ (List.mem_of_getElem? (i := 4) rfl)) (by decide) (by decide)) (g := (mkF m 95 #[iv i0, iv i1, iv (nK i0), iv (nX i1), .val (.double (nD i0)), .second, iv (1 : Int32), iv (3 : Int32)] [(.int (nX i1)), (.double (nD i0))])) rfl (by rw [hml]; rfl) (argsL := [(.double (nD i0)), (.int (nX i1))]) (rest := []) (lenOf pd0 rfl) rfl (by show 2 * 0 + _ ≤ _; exact Nat.le_of_eq rfl) (hb hby at_95) (fun _ _ => ⟨rfl, e0, (by decide : 0 + 0 ≤ _), (by decide : 0 + 0 ≤ _)⟩)
        dsimp only [Pt.U, Pt.locs, Pt.cells, Pt.slots] at X31 l31 y31 z31 st31 hQ31
        subst l31 y31 z31
        obtain ⟨rfl, N31, e31⟩ := hQ31
        have M31 := Fr.app N0 N31
        have g32 : Goes p e below S0 (T31.setTop (mkF m 98 #[iv i0, iv i1, iv (nK i0), iv (nX i1), .val (.double (nD i0)), .second, iv (1 : Int32), iv (3 : Int32)] [(.double (f_eff (nD i0) (nX i1)))])) := fun t k => g30 t (st31 t k)
        have g33 : Goes p e below S0 (T31.setTop (mkF m 102 #[iv i0, iv i1, iv (nK i0), iv (nX i1), .val (.double (nD i0)), .second, iv (1 : Int32), iv (3 : Int32)] [(.int (cmpValue (FP.dcmp (f_eff (nD i0) (nX i1)) (FP.i2d (3 : Int32))) .l))])) := fun t k => g32 t (by
          refine XS.iload X31.here hx rfl (hb hby at_98) rfl ?_
          show Go p e below t T31 m 100 #[iv i0, iv i1, iv (nK i0), iv (nX i1), .val (.double (nD i0)), .second, iv (1 : Int32), iv (3 : Int32)] [(.int (3 : Int32)), (.double (f_eff (nD i0) (nX i1)))]
          refine XS.i2dS X31.here hx rfl (hb hby at_100) rfl rfl ?_
          show Go p e below t T31 m 101 #[iv i0, iv i1, iv (nK i0), iv (nX i1), .val (.double (nD i0)), .second, iv (1 : Int32), iv (3 : Int32)] [(.double (FP.i2d (3 : Int32))), (.double (f_eff (nD i0) (nX i1)))]
          refine XS.dcmpS X31.here hx rfl (hb hby at_101) rfl rfl ?_
          show Go p e below t T31 m 102 #[iv i0, iv i1, iv (nK i0), iv (nX i1), .val (.double (nD i0)), .second, iv (1 : Int32), iv (3 : Int32)] [(.int (cmpValue (FP.dcmp (f_eff (nD i0) (nX i1)) (FP.i2d (3 : Int32))) .l))]
          exact k)
        by_cases h34 : dEq (f_eff (nD i0) (nX i1)) (FP.i2d (3 : Int32))
        · skip
          have g35 : Goes p e below S0 (T31.setTop (mkF m 110 #[iv i0, iv i1, iv (nK i0), iv (nX i1), .val (.double (nD i0)), .second, iv (1 : Int32), iv (3 : Int32)] [(.int (1 : Int32))])) := fun t k => g33 t (by
            refine XS.ifNo X31.here hx rfl (hb hby at_102) rfl (dc_l_ne_f h34) ?_
            show Go p e below t T31 m 105 #[iv i0, iv i1, iv (nK i0), iv (nX i1), .val (.double (nD i0)), .second, iv (1 : Int32), iv (3 : Int32)] []
            refine XT.iconstV X31.here hx rfl (1 : Int32) (hb hby at_105) (by decide) ?_
            show Go p e below t T31 m 106 #[iv i0, iv i1, iv (nK i0), iv (nX i1), .val (.double (nD i0)), .second, iv (1 : Int32), iv (3 : Int32)] [(.int (1 : Int32))]
            refine XS.goto X31.here hx rfl (pc0 := 106) (pc' := 110) rfl (hb hby at_106) (by decide) (by decide) ?_
            show Go p e below t T31 m 110 #[iv i0, iv i1, iv (nK i0), iv (nX i1), .val (.double (nD i0)), .second, iv (1 : Int32), iv (3 : Int32)] [(.int (1 : Int32))]
            exact k)
          obtain ⟨fs, hr, hrun, hended, hW, hsame⟩ := X31.leave (v := some (.int (1 : Int32))) (fun h => by rw [Bd.returns] at h; cases h)
          refine ⟨_, _, g35 _ (retN X31 hx (t := .boolean) Bd.returns (by simp) (hb hby at_110) hr), hrun, hended, _, _, rfl, ?_, ⟨_, rfl⟩, hW, hsame.mono (by decide) (by decide)⟩
          show Q_law Z i0 i1  h0 n0 _ T31.heap _
          rw [e31]
          exact ⟨by unfold f_law; rw [if_pos h18, if_neg h20, if_pos h29, if_pos h34], M31⟩
        · skip
          have g36 : Goes p e below S0 (T31.setTop (mkF m 110 #[iv i0, iv i1, iv (nK i0), iv (nX i1), .val (.double (nD i0)), .second, iv (1 : Int32), iv (3 : Int32)] [(.int (0 : Int32))])) := fun t k => g33 t (by
            refine XS.ifYes X31.here hx rfl (pc0 := 102) (pc' := 109) rfl (hb hby at_102) rfl (dc_l_ne_t h34) (by decide) (by decide) ?_
            show Go p e below t T31 m 109 #[iv i0, iv i1, iv (nK i0), iv (nX i1), .val (.double (nD i0)), .second, iv (1 : Int32), iv (3 : Int32)] []
            refine XT.iconstV X31.here hx rfl (0 : Int32) (hb hby at_109) (by decide) ?_
            show Go p e below t T31 m 110 #[iv i0, iv i1, iv (nK i0), iv (nX i1), .val (.double (nD i0)), .second, iv (1 : Int32), iv (3 : Int32)] [(.int (0 : Int32))]
            exact k)
          obtain ⟨fs, hr, hrun, hended, hW, hsame⟩ := X31.leave (v := some (.int (0 : Int32))) (fun h => by rw [Bd.returns] at h; cases h)
          refine ⟨_, _, g36 _ (retN X31 hx (t := .boolean) Bd.returns (by simp) (hb hby at_110) hr), hrun, hended, _, _, rfl, ?_, ⟨_, rfl⟩, hW, hsame.mono (by decide) (by decide)⟩
          show Q_law Z i0 i1  h0 n0 _ T31.heap _
          rw [e31]
          exact ⟨by unfold f_law; rw [if_pos h18, if_neg h20, if_pos h29, if_neg h34], M31⟩
      · skip
        have g37 : Goes p e below S0 (s₁.setTop (mkF m 95 #[iv i0, iv i1, iv (nK i0), iv (nX i1), .val (.double (nD i0)), .second, iv (1 : Int32), iv (10 : Int32)] [(.int (nX i1)), (.double (nD i0))])) := fun t k => g28 t (by
          refine XS.icmpYes X0.here hx rfl (pc0 := 60) (pc' := 79) rfl (hb hby at_60) rfl (XT.ii_ne_t h29) (by decide) (by decide) ?_
          show Go p e below t s₁ m 79 #[iv i0, iv i1, iv (nK i0), iv (nX i1), .val (.double (nD i0)), .second, iv (1 : Int32), .unset] []
          refine XS.iload X0.here hx rfl (hb hby at_79) rfl ?_
          show Go p e below t s₁ m 81 #[iv i0, iv i1, iv (nK i0), iv (nX i1), .val (.double (nD i0)), .second, iv (1 : Int32), .unset] [(.int (1 : Int32))]
          refine XS.ifNo X0.here hx rfl (hb hby at_81) rfl (XT.i0_eq_f (by decide)) ?_
          show Go p e below t s₁ m 84 #[iv i0, iv i1, iv (nK i0), iv (nX i1), .val (.double (nD i0)), .second, iv (1 : Int32), .unset] []
          refine XT.bipushV X0.here hx rfl (10 : Int32) (hb hby at_84) (by decide) ?_
          show Go p e below t s₁ m 86 #[iv i0, iv i1, iv (nK i0), iv (nX i1), .val (.double (nD i0)), .second, iv (1 : Int32), .unset] [(.int (10 : Int32))]
          refine XS.goto X0.here hx rfl (pc0 := 86) (pc' := 90) rfl (hb hby at_86) (by decide) (by decide) ?_
          show Go p e below t s₁ m 90 #[iv i0, iv i1, iv (nK i0), iv (nX i1), .val (.double (nD i0)), .second, iv (1 : Int32), .unset] [(.int (10 : Int32))]
          refine XS.istore X0.here hx rfl (hb hby at_90) rfl (l' := #[iv i0, iv i1, iv (nK i0), iv (nX i1), .val (.double (nD i0)), .second, iv (1 : Int32), iv (10 : Int32)]) rfl ?_
          show Go p e below t s₁ m 92 #[iv i0, iv i1, iv (nK i0), iv (nX i1), .val (.double (nD i0)), .second, iv (1 : Int32), iv (10 : Int32)] []
          refine XS.dload X0.here hx rfl (hb hby at_92) rfl ?_
          show Go p e below t s₁ m 94 #[iv i0, iv i1, iv (nK i0), iv (nX i1), .val (.double (nD i0)), .second, iv (1 : Int32), iv (10 : Int32)] [(.double (nD i0))]
          refine XS.iloadN X0.here hx rfl (hb hby at_94) rfl ?_
          show Go p e below t s₁ m 95 #[iv i0, iv i1, iv (nK i0), iv (nX i1), .val (.double (nD i0)), .second, iv (1 : Int32), iv (10 : Int32)] [(.int (nX i1)), (.double (nD i0))]
          exact k)
        obtain ⟨_, _, ⟨T38, L38, k38, n38⟩, -, X38, ⟨Lc38, hQ38, l38, y38, z38⟩, st38⟩ := Jvm.LawKit.callS X0 hx (y := (⟨"com/example/hetmo/hetmo/simulation/DiscontinuityTrial", "effect", "(DI)D"⟩ : MethodName)) hown (mvT hZ (hw _ (List.mem_of_getElem? (i := 2) rfl))) (mvT hZ (hw _ (List.mem_of_getElem? (i := 3) rfl))) (mvT hZ (hw _ (List.mem_of_getElem? (i := 4) rfl))) (mvT hZ (hw _ (List.mem_of_getElem? (i := 5) rfl))) (by decide) (backOf (W := 0) (rm_eff l Z a0 hw [] (nD i0) (nX i1)  h0 n0 Z0 ) hZ (hw _ (List.mem_of_getElem? (i := 5) rfl)) (hw _ (List.mem_of_getElem? (i := 4) rfl)) (by decide) (by decide)) (g := (mkF m 95 #[iv i0, iv i1, iv (nK i0), iv (nX i1), .val (.double (nD i0)), .second, iv (1 : Int32), iv (10 : Int32)] [(.int (nX i1)), (.double (nD i0))])) rfl (by rw [hml]; rfl) (argsL := [(.double (nD i0)), (.int (nX i1))]) (rest := []) (lenOf pd0 rfl) rfl (by show 2 * 0 + _ ≤ _; exact Nat.le_of_eq rfl) (hb hby at_95) (fun _ _ => ⟨rfl, e0, (by decide : 0 + 0 ≤ _), (by decide : 0 + 0 ≤ _)⟩)
        dsimp only [Pt.U, Pt.locs, Pt.cells, Pt.slots] at X38 l38 y38 z38 st38 hQ38
        subst l38 y38 z38
        obtain ⟨rfl, N38, e38⟩ := hQ38
        have M38 := Fr.app N0 N38
        have g39 : Goes p e below S0 (T38.setTop (mkF m 98 #[iv i0, iv i1, iv (nK i0), iv (nX i1), .val (.double (nD i0)), .second, iv (1 : Int32), iv (10 : Int32)] [(.double (f_eff (nD i0) (nX i1)))])) := fun t k => g37 t (st38 t k)
        have g40 : Goes p e below S0 (T38.setTop (mkF m 102 #[iv i0, iv i1, iv (nK i0), iv (nX i1), .val (.double (nD i0)), .second, iv (1 : Int32), iv (10 : Int32)] [(.int (cmpValue (FP.dcmp (f_eff (nD i0) (nX i1)) (FP.i2d (10 : Int32))) .l))])) := fun t k => g39 t (by
          refine XS.iload X38.here hx rfl (hb hby at_98) rfl ?_
          show Go p e below t T38 m 100 #[iv i0, iv i1, iv (nK i0), iv (nX i1), .val (.double (nD i0)), .second, iv (1 : Int32), iv (10 : Int32)] [(.int (10 : Int32)), (.double (f_eff (nD i0) (nX i1)))]
          refine XS.i2dS X38.here hx rfl (hb hby at_100) rfl rfl ?_
          show Go p e below t T38 m 101 #[iv i0, iv i1, iv (nK i0), iv (nX i1), .val (.double (nD i0)), .second, iv (1 : Int32), iv (10 : Int32)] [(.double (FP.i2d (10 : Int32))), (.double (f_eff (nD i0) (nX i1)))]
          refine XS.dcmpS X38.here hx rfl (hb hby at_101) rfl rfl ?_
          show Go p e below t T38 m 102 #[iv i0, iv i1, iv (nK i0), iv (nX i1), .val (.double (nD i0)), .second, iv (1 : Int32), iv (10 : Int32)] [(.int (cmpValue (FP.dcmp (f_eff (nD i0) (nX i1)) (FP.i2d (10 : Int32))) .l))]
          exact k)
        by_cases h41 : dEq (f_eff (nD i0) (nX i1)) (FP.i2d (10 : Int32))
        · skip
          have g42 : Goes p e below S0 (T38.setTop (mkF m 110 #[iv i0, iv i1, iv (nK i0), iv (nX i1), .val (.double (nD i0)), .second, iv (1 : Int32), iv (10 : Int32)] [(.int (1 : Int32))])) := fun t k => g40 t (by
            refine XS.ifNo X38.here hx rfl (hb hby at_102) rfl (dc_l_ne_f h41) ?_
            show Go p e below t T38 m 105 #[iv i0, iv i1, iv (nK i0), iv (nX i1), .val (.double (nD i0)), .second, iv (1 : Int32), iv (10 : Int32)] []
            refine XT.iconstV X38.here hx rfl (1 : Int32) (hb hby at_105) (by decide) ?_
            show Go p e below t T38 m 106 #[iv i0, iv i1, iv (nK i0), iv (nX i1), .val (.double (nD i0)), .second, iv (1 : Int32), iv (10 : Int32)] [(.int (1 : Int32))]
            refine XS.goto X38.here hx rfl (pc0 := 106) (pc' := 110) rfl (hb hby at_106) (by decide) (by decide) ?_
            show Go p e below t T38 m 110 #[iv i0, iv i1, iv (nK i0), iv (nX i1), .val (.double (nD i0)), .second, iv (1 : Int32), iv (10 : Int32)] [(.int (1 : Int32))]
            exact k)
          obtain ⟨fs, hr, hrun, hended, hW, hsame⟩ := X38.leave (v := some (.int (1 : Int32))) (fun h => by rw [Bd.returns] at h; cases h)
          refine ⟨_, _, g42 _ (retN X38 hx (t := .boolean) Bd.returns (by simp) (hb hby at_110) hr), hrun, hended, _, _, rfl, ?_, ⟨_, rfl⟩, hW, hsame.mono (by decide) (by decide)⟩
          show Q_law Z i0 i1  h0 n0 _ T38.heap _
          rw [e38]
          exact ⟨by unfold f_law; rw [if_pos h18, if_neg h20, if_neg h29, if_pos h41], M38⟩
        · skip
          have g43 : Goes p e below S0 (T38.setTop (mkF m 110 #[iv i0, iv i1, iv (nK i0), iv (nX i1), .val (.double (nD i0)), .second, iv (1 : Int32), iv (10 : Int32)] [(.int (0 : Int32))])) := fun t k => g40 t (by
            refine XS.ifYes X38.here hx rfl (pc0 := 102) (pc' := 109) rfl (hb hby at_102) rfl (dc_l_ne_t h41) (by decide) (by decide) ?_
            show Go p e below t T38 m 109 #[iv i0, iv i1, iv (nK i0), iv (nX i1), .val (.double (nD i0)), .second, iv (1 : Int32), iv (10 : Int32)] []
            refine XT.iconstV X38.here hx rfl (0 : Int32) (hb hby at_109) (by decide) ?_
            show Go p e below t T38 m 110 #[iv i0, iv i1, iv (nK i0), iv (nX i1), .val (.double (nD i0)), .second, iv (1 : Int32), iv (10 : Int32)] [(.int (0 : Int32))]
            exact k)
          obtain ⟨fs, hr, hrun, hended, hW, hsame⟩ := X38.leave (v := some (.int (0 : Int32))) (fun h => by rw [Bd.returns] at h; cases h)
          refine ⟨_, _, g43 _ (retN X38 hx (t := .boolean) Bd.returns (by simp) (hb hby at_110) hr), hrun, hended, _, _, rfl, ?_, ⟨_, rfl⟩, hW, hsame.mono (by decide) (by decide)⟩
          show Q_law Z i0 i1  h0 n0 _ T38.heap _
          rw [e38]
          exact ⟨by unfold f_law; rw [if_pos h18, if_neg h20, if_neg h29, if_neg h41], M38⟩
  · skip
    have g44 : Goes p e below S0 (s₁.setTop (mkF m 39 #[iv i0, iv i1, iv (nK i0), iv (nX i1), .val (.double (nD i0)), .second, iv (0 : Int32), .unset] [(.int (nX i1))])) := fun t k => g17 t (by
      refine XS.icmpYes X0.here hx rfl (pc0 := 28) (pc' := 35) rfl (hb hby at_28) rfl (XT.ii_ge_t h18) (by decide) (by decide) ?_
      show Go p e below t s₁ m 35 #[iv i0, iv i1, iv (nK i0), iv (nX i1), .val (.double (nD i0)), .second, .unset, .unset] []
      refine XT.iconstV X0.here hx rfl (0 : Int32) (hb hby at_35) (by decide) ?_
      show Go p e below t s₁ m 36 #[iv i0, iv i1, iv (nK i0), iv (nX i1), .val (.double (nD i0)), .second, .unset, .unset] [(.int (0 : Int32))]
      refine XS.istore X0.here hx rfl (hb hby at_36) rfl (l' := #[iv i0, iv i1, iv (nK i0), iv (nX i1), .val (.double (nD i0)), .second, iv (0 : Int32), .unset]) rfl ?_
      show Go p e below t s₁ m 38 #[iv i0, iv i1, iv (nK i0), iv (nX i1), .val (.double (nD i0)), .second, iv (0 : Int32), .unset] []
      refine XS.iloadN X0.here hx rfl (hb hby at_38) rfl ?_
      show Go p e below t s₁ m 39 #[iv i0, iv i1, iv (nK i0), iv (nX i1), .val (.double (nD i0)), .second, iv (0 : Int32), .unset] [(.int (nX i1))]
      exact k)
    by_cases h45 : (nX i1) = 0
    · skip
      have g46 : Goes p e below S0 (s₁.setTop (mkF m 95 #[iv i0, iv i1, iv (nK i0), iv (nX i1), .val (.double (nD i0)), .second, iv (0 : Int32), iv (-2 : Int32)] [(.int (nX i1)), (.double (nD i0))])) := fun t k => g44 t (by
        refine XS.ifNo X0.here hx rfl (hb hby at_39) rfl (XT.i0_ne_f h45) ?_
        show Go p e below t s₁ m 42 #[iv i0, iv i1, iv (nK i0), iv (nX i1), .val (.double (nD i0)), .second, iv (0 : Int32), .unset] []
        refine XS.iload X0.here hx rfl (hb hby at_42) rfl ?_
        show Go p e below t s₁ m 44 #[iv i0, iv i1, iv (nK i0), iv (nX i1), .val (.double (nD i0)), .second, iv (0 : Int32), .unset] [(.int (0 : Int32))]
        refine XS.ifYes X0.here hx rfl (pc0 := 44) (pc' := 51) rfl (hb hby at_44) rfl (XT.i0_eq_t (by decide)) (by decide) (by decide) ?_
        show Go p e below t s₁ m 51 #[iv i0, iv i1, iv (nK i0), iv (nX i1), .val (.double (nD i0)), .second, iv (0 : Int32), .unset] []
        refine XT.bipushV X0.here hx rfl (-2 : Int32) (hb hby at_51) (by decide) ?_
        show Go p e below t s₁ m 53 #[iv i0, iv i1, iv (nK i0), iv (nX i1), .val (.double (nD i0)), .second, iv (0 : Int32), .unset] [(.int (-2 : Int32))]
        refine XS.istore X0.here hx rfl (hb hby at_53) rfl (l' := #[iv i0, iv i1, iv (nK i0), iv (nX i1), .val (.double (nD i0)), .second, iv (0 : Int32), iv (-2 : Int32)]) rfl ?_
        show Go p e below t s₁ m 55 #[iv i0, iv i1, iv (nK i0), iv (nX i1), .val (.double (nD i0)), .second, iv (0 : Int32), iv (-2 : Int32)] []
        refine XS.goto X0.here hx rfl (pc0 := 55) (pc' := 92) rfl (hb hby at_55) (by decide) (by decide) ?_
        show Go p e below t s₁ m 92 #[iv i0, iv i1, iv (nK i0), iv (nX i1), .val (.double (nD i0)), .second, iv (0 : Int32), iv (-2 : Int32)] []
        refine XS.dload X0.here hx rfl (hb hby at_92) rfl ?_
        show Go p e below t s₁ m 94 #[iv i0, iv i1, iv (nK i0), iv (nX i1), .val (.double (nD i0)), .second, iv (0 : Int32), iv (-2 : Int32)] [(.double (nD i0))]
        refine XS.iloadN X0.here hx rfl (hb hby at_94) rfl ?_
        show Go p e below t s₁ m 95 #[iv i0, iv i1, iv (nK i0), iv (nX i1), .val (.double (nD i0)), .second, iv (0 : Int32), iv (-2 : Int32)] [(.int (nX i1)), (.double (nD i0))]
        exact k)
      obtain ⟨_, _, ⟨T47, L47, k47, n47⟩, -, X47, ⟨Lc47, hQ47, l47, y47, z47⟩, st47⟩ := Jvm.LawKit.callS X0 hx (y := (⟨"com/example/hetmo/hetmo/simulation/DiscontinuityTrial", "effect", "(DI)D"⟩ : MethodName)) hown (mvT hZ (hw _ (List.mem_of_getElem? (i := 2) rfl))) (mvT hZ (hw _ (List.mem_of_getElem? (i := 3) rfl))) (mvT hZ (hw _ (List.mem_of_getElem? (i := 4) rfl))) (mvT hZ (hw _ (List.mem_of_getElem? (i := 5) rfl))) (by decide) (backOf (W := 0) (rm_eff l Z a0 hw [] (nD i0) (nX i1)  h0 n0 Z0 ) hZ (hw _ (List.mem_of_getElem? (i := 5) rfl)) (hw _ (List.mem_of_getElem? (i := 4) rfl)) (by decide) (by decide)) (g := (mkF m 95 #[iv i0, iv i1, iv (nK i0), iv (nX i1), .val (.double (nD i0)), .second, iv (0 : Int32), iv (-2 : Int32)] [(.int (nX i1)), (.double (nD i0))])) rfl (by rw [hml]; rfl) (argsL := [(.double (nD i0)), (.int (nX i1))]) (rest := []) (lenOf pd0 rfl) rfl (by show 2 * 0 + _ ≤ _; exact Nat.le_of_eq rfl) (hb hby at_95) (fun _ _ => ⟨rfl, e0, (by decide : 0 + 0 ≤ _), (by decide : 0 + 0 ≤ _)⟩)
      dsimp only [Pt.U, Pt.locs, Pt.cells, Pt.slots] at X47 l47 y47 z47 st47 hQ47
      subst l47 y47 z47
      obtain ⟨rfl, N47, e47⟩ := hQ47
      have M47 := Fr.app N0 N47
      have g48 : Goes p e below S0 (T47.setTop (mkF m 98 #[iv i0, iv i1, iv (nK i0), iv (nX i1), .val (.double (nD i0)), .second, iv (0 : Int32), iv (-2 : Int32)] [(.double (f_eff (nD i0) (nX i1)))])) := fun t k => g46 t (st47 t k)
      have g49 : Goes p e below S0 (T47.setTop (mkF m 102 #[iv i0, iv i1, iv (nK i0), iv (nX i1), .val (.double (nD i0)), .second, iv (0 : Int32), iv (-2 : Int32)] [(.int (cmpValue (FP.dcmp (f_eff (nD i0) (nX i1)) (FP.i2d (-2 : Int32))) .l))])) := fun t k => g48 t (by
        refine XS.iload X47.here hx rfl (hb hby at_98) rfl ?_
        show Go p e below t T47 m 100 #[iv i0, iv i1, iv (nK i0), iv (nX i1), .val (.double (nD i0)), .second, iv (0 : Int32), iv (-2 : Int32)] [(.int (-2 : Int32)), (.double (f_eff (nD i0) (nX i1)))]
        refine XS.i2dS X47.here hx rfl (hb hby at_100) rfl rfl ?_
        show Go p e below t T47 m 101 #[iv i0, iv i1, iv (nK i0), iv (nX i1), .val (.double (nD i0)), .second, iv (0 : Int32), iv (-2 : Int32)] [(.double (FP.i2d (-2 : Int32))), (.double (f_eff (nD i0) (nX i1)))]
        refine XS.dcmpS X47.here hx rfl (hb hby at_101) rfl rfl ?_
        show Go p e below t T47 m 102 #[iv i0, iv i1, iv (nK i0), iv (nX i1), .val (.double (nD i0)), .second, iv (0 : Int32), iv (-2 : Int32)] [(.int (cmpValue (FP.dcmp (f_eff (nD i0) (nX i1)) (FP.i2d (-2 : Int32))) .l))]
        exact k)
      by_cases h50 : dEq (f_eff (nD i0) (nX i1)) (FP.i2d (-2 : Int32))
      · skip
        have g51 : Goes p e below S0 (T47.setTop (mkF m 110 #[iv i0, iv i1, iv (nK i0), iv (nX i1), .val (.double (nD i0)), .second, iv (0 : Int32), iv (-2 : Int32)] [(.int (1 : Int32))])) := fun t k => g49 t (by
          refine XS.ifNo X47.here hx rfl (hb hby at_102) rfl (dc_l_ne_f h50) ?_
          show Go p e below t T47 m 105 #[iv i0, iv i1, iv (nK i0), iv (nX i1), .val (.double (nD i0)), .second, iv (0 : Int32), iv (-2 : Int32)] []
          refine XT.iconstV X47.here hx rfl (1 : Int32) (hb hby at_105) (by decide) ?_
          show Go p e below t T47 m 106 #[iv i0, iv i1, iv (nK i0), iv (nX i1), .val (.double (nD i0)), .second, iv (0 : Int32), iv (-2 : Int32)] [(.int (1 : Int32))]
          refine XS.goto X47.here hx rfl (pc0 := 106) (pc' := 110) rfl (hb hby at_106) (by decide) (by decide) ?_
          show Go p e below t T47 m 110 #[iv i0, iv i1, iv (nK i0), iv (nX i1), .val (.double (nD i0)), .second, iv (0 : Int32), iv (-2 : Int32)] [(.int (1 : Int32))]
          exact k)
        obtain ⟨fs, hr, hrun, hended, hW, hsame⟩ := X47.leave (v := some (.int (1 : Int32))) (fun h => by rw [Bd.returns] at h; cases h)
        refine ⟨_, _, g51 _ (retN X47 hx (t := .boolean) Bd.returns (by simp) (hb hby at_110) hr), hrun, hended, _, _, rfl, ?_, ⟨_, rfl⟩, hW, hsame.mono (by decide) (by decide)⟩
        show Q_law Z i0 i1  h0 n0 _ T47.heap _
        rw [e47]
        exact ⟨by unfold f_law; rw [if_neg h18, if_pos h45, if_pos h50], M47⟩
      · skip
        have g52 : Goes p e below S0 (T47.setTop (mkF m 110 #[iv i0, iv i1, iv (nK i0), iv (nX i1), .val (.double (nD i0)), .second, iv (0 : Int32), iv (-2 : Int32)] [(.int (0 : Int32))])) := fun t k => g49 t (by
          refine XS.ifYes X47.here hx rfl (pc0 := 102) (pc' := 109) rfl (hb hby at_102) rfl (dc_l_ne_t h50) (by decide) (by decide) ?_
          show Go p e below t T47 m 109 #[iv i0, iv i1, iv (nK i0), iv (nX i1), .val (.double (nD i0)), .second, iv (0 : Int32), iv (-2 : Int32)] []
          refine XT.iconstV X47.here hx rfl (0 : Int32) (hb hby at_109) (by decide) ?_
          show Go p e below t T47 m 110 #[iv i0, iv i1, iv (nK i0), iv (nX i1), .val (.double (nD i0)), .second, iv (0 : Int32), iv (-2 : Int32)] [(.int (0 : Int32))]
          exact k)
        obtain ⟨fs, hr, hrun, hended, hW, hsame⟩ := X47.leave (v := some (.int (0 : Int32))) (fun h => by rw [Bd.returns] at h; cases h)
        refine ⟨_, _, g52 _ (retN X47 hx (t := .boolean) Bd.returns (by simp) (hb hby at_110) hr), hrun, hended, _, _, rfl, ?_, ⟨_, rfl⟩, hW, hsame.mono (by decide) (by decide)⟩
        show Q_law Z i0 i1  h0 n0 _ T47.heap _
        rw [e47]
        exact ⟨by unfold f_law; rw [if_neg h18, if_pos h45, if_neg h50], M47⟩
    · skip
      have g53 : Goes p e below S0 (s₁.setTop (mkF m 60 #[iv i0, iv i1, iv (nK i0), iv (nX i1), .val (.double (nD i0)), .second, iv (0 : Int32), .unset] [(.int (1 : Int32)), (.int (nX i1))])) := fun t k => g44 t (by
        refine XS.ifYes X0.here hx rfl (pc0 := 39) (pc' := 58) rfl (hb hby at_39) rfl (XT.i0_ne_t h45) (by decide) (by decide) ?_
        show Go p e below t s₁ m 58 #[iv i0, iv i1, iv (nK i0), iv (nX i1), .val (.double (nD i0)), .second, iv (0 : Int32), .unset] []
        refine XS.iloadN X0.here hx rfl (hb hby at_58) rfl ?_
        show Go p e below t s₁ m 59 #[iv i0, iv i1, iv (nK i0), iv (nX i1), .val (.double (nD i0)), .second, iv (0 : Int32), .unset] [(.int (nX i1))]
        refine XT.iconstV X0.here hx rfl (1 : Int32) (hb hby at_59) (by decide) ?_
        show Go p e below t s₁ m 60 #[iv i0, iv i1, iv (nK i0), iv (nX i1), .val (.double (nD i0)), .second, iv (0 : Int32), .unset] [(.int (1 : Int32)), (.int (nX i1))]
        exact k)
      by_cases h54 : (nX i1) = (1 : Int32)
      · skip
        have g55 : Goes p e below S0 (s₁.setTop (mkF m 95 #[iv i0, iv i1, iv (nK i0), iv (nX i1), .val (.double (nD i0)), .second, iv (0 : Int32), iv (-4 : Int32)] [(.int (nX i1)), (.double (nD i0))])) := fun t k => g53 t (by
          refine XS.icmpNo X0.here hx rfl (hb hby at_60) rfl (XT.ii_ne_f h54) ?_
          show Go p e below t s₁ m 63 #[iv i0, iv i1, iv (nK i0), iv (nX i1), .val (.double (nD i0)), .second, iv (0 : Int32), .unset] []
          refine XS.iload X0.here hx rfl (hb hby at_63) rfl ?_
          show Go p e below t s₁ m 65 #[iv i0, iv i1, iv (nK i0), iv (nX i1), .val (.double (nD i0)), .second, iv (0 : Int32), .unset] [(.int (0 : Int32))]
          refine XS.ifYes X0.here hx rfl (pc0 := 65) (pc' := 72) rfl (hb hby at_65) rfl (XT.i0_eq_t (by decide)) (by decide) (by decide) ?_
          show Go p e below t s₁ m 72 #[iv i0, iv i1, iv (nK i0), iv (nX i1), .val (.double (nD i0)), .second, iv (0 : Int32), .unset] []
          refine XT.bipushV X0.here hx rfl (-4 : Int32) (hb hby at_72) (by decide) ?_
          show Go p e below t s₁ m 74 #[iv i0, iv i1, iv (nK i0), iv (nX i1), .val (.double (nD i0)), .second, iv (0 : Int32), .unset] [(.int (-4 : Int32))]
          refine XS.istore X0.here hx rfl (hb hby at_74) rfl (l' := #[iv i0, iv i1, iv (nK i0), iv (nX i1), .val (.double (nD i0)), .second, iv (0 : Int32), iv (-4 : Int32)]) rfl ?_
          show Go p e below t s₁ m 76 #[iv i0, iv i1, iv (nK i0), iv (nX i1), .val (.double (nD i0)), .second, iv (0 : Int32), iv (-4 : Int32)] []
          refine XS.goto X0.here hx rfl (pc0 := 76) (pc' := 92) rfl (hb hby at_76) (by decide) (by decide) ?_
          show Go p e below t s₁ m 92 #[iv i0, iv i1, iv (nK i0), iv (nX i1), .val (.double (nD i0)), .second, iv (0 : Int32), iv (-4 : Int32)] []
          refine XS.dload X0.here hx rfl (hb hby at_92) rfl ?_
          show Go p e below t s₁ m 94 #[iv i0, iv i1, iv (nK i0), iv (nX i1), .val (.double (nD i0)), .second, iv (0 : Int32), iv (-4 : Int32)] [(.double (nD i0))]
          refine XS.iloadN X0.here hx rfl (hb hby at_94) rfl ?_
          show Go p e below t s₁ m 95 #[iv i0, iv i1, iv (nK i0), iv (nX i1), .val (.double (nD i0)), .second, iv (0 : Int32), iv (-4 : Int32)] [(.int (nX i1)), (.double (nD i0))]
          exact k)
        obtain ⟨_, _, ⟨T56, L56, k56, n56⟩, -, X56, ⟨Lc56, hQ56, l56, y56, z56⟩, st56⟩ := Jvm.LawKit.callS X0 hx (y := (⟨"com/example/hetmo/hetmo/simulation/DiscontinuityTrial", "effect", "(DI)D"⟩ : MethodName)) hown (mvT hZ (hw _ (List.mem_of_getElem? (i := 2) rfl))) (mvT hZ (hw _ (List.mem_of_getElem? (i := 3) rfl))) (mvT hZ (hw _ (List.mem_of_getElem? (i := 4) rfl))) (mvT hZ (hw _ (List.mem_of_getElem? (i := 5) rfl))) (by decide) (backOf (W := 0) (rm_eff l Z a0 hw [] (nD i0) (nX i1)  h0 n0 Z0 ) hZ (hw _ (List.mem_of_getElem? (i := 5) rfl)) (hw _ (List.mem_of_getElem? (i := 4) rfl)) (by decide) (by decide)) (g := (mkF m 95 #[iv i0, iv i1, iv (nK i0), iv (nX i1), .val (.double (nD i0)), .second, iv (0 : Int32), iv (-4 : Int32)] [(.int (nX i1)), (.double (nD i0))])) rfl (by rw [hml]; rfl) (argsL := [(.double (nD i0)), (.int (nX i1))]) (rest := []) (lenOf pd0 rfl) rfl (by show 2 * 0 + _ ≤ _; exact Nat.le_of_eq rfl) (hb hby at_95) (fun _ _ => ⟨rfl, e0, (by decide : 0 + 0 ≤ _), (by decide : 0 + 0 ≤ _)⟩)
        dsimp only [Pt.U, Pt.locs, Pt.cells, Pt.slots] at X56 l56 y56 z56 st56 hQ56
        subst l56 y56 z56
        obtain ⟨rfl, N56, e56⟩ := hQ56
        have M56 := Fr.app N0 N56
        have g57 : Goes p e below S0 (T56.setTop (mkF m 98 #[iv i0, iv i1, iv (nK i0), iv (nX i1), .val (.double (nD i0)), .second, iv (0 : Int32), iv (-4 : Int32)] [(.double (f_eff (nD i0) (nX i1)))])) := fun t k => g55 t (st56 t k)
        have g58 : Goes p e below S0 (T56.setTop (mkF m 102 #[iv i0, iv i1, iv (nK i0), iv (nX i1), .val (.double (nD i0)), .second, iv (0 : Int32), iv (-4 : Int32)] [(.int (cmpValue (FP.dcmp (f_eff (nD i0) (nX i1)) (FP.i2d (-4 : Int32))) .l))])) := fun t k => g57 t (by
          refine XS.iload X56.here hx rfl (hb hby at_98) rfl ?_
          show Go p e below t T56 m 100 #[iv i0, iv i1, iv (nK i0), iv (nX i1), .val (.double (nD i0)), .second, iv (0 : Int32), iv (-4 : Int32)] [(.int (-4 : Int32)), (.double (f_eff (nD i0) (nX i1)))]
          refine XS.i2dS X56.here hx rfl (hb hby at_100) rfl rfl ?_
          show Go p e below t T56 m 101 #[iv i0, iv i1, iv (nK i0), iv (nX i1), .val (.double (nD i0)), .second, iv (0 : Int32), iv (-4 : Int32)] [(.double (FP.i2d (-4 : Int32))), (.double (f_eff (nD i0) (nX i1)))]
          refine XS.dcmpS X56.here hx rfl (hb hby at_101) rfl rfl ?_
          show Go p e below t T56 m 102 #[iv i0, iv i1, iv (nK i0), iv (nX i1), .val (.double (nD i0)), .second, iv (0 : Int32), iv (-4 : Int32)] [(.int (cmpValue (FP.dcmp (f_eff (nD i0) (nX i1)) (FP.i2d (-4 : Int32))) .l))]
          exact k)
        by_cases h59 : dEq (f_eff (nD i0) (nX i1)) (FP.i2d (-4 : Int32))
        · skip
          have g60 : Goes p e below S0 (T56.setTop (mkF m 110 #[iv i0, iv i1, iv (nK i0), iv (nX i1), .val (.double (nD i0)), .second, iv (0 : Int32), iv (-4 : Int32)] [(.int (1 : Int32))])) := fun t k => g58 t (by
            refine XS.ifNo X56.here hx rfl (hb hby at_102) rfl (dc_l_ne_f h59) ?_
            show Go p e below t T56 m 105 #[iv i0, iv i1, iv (nK i0), iv (nX i1), .val (.double (nD i0)), .second, iv (0 : Int32), iv (-4 : Int32)] []
            refine XT.iconstV X56.here hx rfl (1 : Int32) (hb hby at_105) (by decide) ?_
            show Go p e below t T56 m 106 #[iv i0, iv i1, iv (nK i0), iv (nX i1), .val (.double (nD i0)), .second, iv (0 : Int32), iv (-4 : Int32)] [(.int (1 : Int32))]
            refine XS.goto X56.here hx rfl (pc0 := 106) (pc' := 110) rfl (hb hby at_106) (by decide) (by decide) ?_
            show Go p e below t T56 m 110 #[iv i0, iv i1, iv (nK i0), iv (nX i1), .val (.double (nD i0)), .second, iv (0 : Int32), iv (-4 : Int32)] [(.int (1 : Int32))]
            exact k)
          obtain ⟨fs, hr, hrun, hended, hW, hsame⟩ := X56.leave (v := some (.int (1 : Int32))) (fun h => by rw [Bd.returns] at h; cases h)
          refine ⟨_, _, g60 _ (retN X56 hx (t := .boolean) Bd.returns (by simp) (hb hby at_110) hr), hrun, hended, _, _, rfl, ?_, ⟨_, rfl⟩, hW, hsame.mono (by decide) (by decide)⟩
          show Q_law Z i0 i1  h0 n0 _ T56.heap _
          rw [e56]
          exact ⟨by unfold f_law; rw [if_neg h18, if_neg h45, if_pos h54, if_pos h59], M56⟩
        · skip
          have g61 : Goes p e below S0 (T56.setTop (mkF m 110 #[iv i0, iv i1, iv (nK i0), iv (nX i1), .val (.double (nD i0)), .second, iv (0 : Int32), iv (-4 : Int32)] [(.int (0 : Int32))])) := fun t k => g58 t (by
            refine XS.ifYes X56.here hx rfl (pc0 := 102) (pc' := 109) rfl (hb hby at_102) rfl (dc_l_ne_t h59) (by decide) (by decide) ?_
            show Go p e below t T56 m 109 #[iv i0, iv i1, iv (nK i0), iv (nX i1), .val (.double (nD i0)), .second, iv (0 : Int32), iv (-4 : Int32)] []
            refine XT.iconstV X56.here hx rfl (0 : Int32) (hb hby at_109) (by decide) ?_
            show Go p e below t T56 m 110 #[iv i0, iv i1, iv (nK i0), iv (nX i1), .val (.double (nD i0)), .second, iv (0 : Int32), iv (-4 : Int32)] [(.int (0 : Int32))]
            exact k)
          obtain ⟨fs, hr, hrun, hended, hW, hsame⟩ := X56.leave (v := some (.int (0 : Int32))) (fun h => by rw [Bd.returns] at h; cases h)
          refine ⟨_, _, g61 _ (retN X56 hx (t := .boolean) Bd.returns (by simp) (hb hby at_110) hr), hrun, hended, _, _, rfl, ?_, ⟨_, rfl⟩, hW, hsame.mono (by decide) (by decide)⟩
          show Q_law Z i0 i1  h0 n0 _ T56.heap _
          rw [e56]
          exact ⟨by unfold f_law; rw [if_neg h18, if_neg h45, if_pos h54, if_neg h59], M56⟩
      · skip
        have g62 : Goes p e below S0 (s₁.setTop (mkF m 95 #[iv i0, iv i1, iv (nK i0), iv (nX i1), .val (.double (nD i0)), .second, iv (0 : Int32), iv (3 : Int32)] [(.int (nX i1)), (.double (nD i0))])) := fun t k => g53 t (by
          refine XS.icmpYes X0.here hx rfl (pc0 := 60) (pc' := 79) rfl (hb hby at_60) rfl (XT.ii_ne_t h54) (by decide) (by decide) ?_
          show Go p e below t s₁ m 79 #[iv i0, iv i1, iv (nK i0), iv (nX i1), .val (.double (nD i0)), .second, iv (0 : Int32), .unset] []
          refine XS.iload X0.here hx rfl (hb hby at_79) rfl ?_
          show Go p e below t s₁ m 81 #[iv i0, iv i1, iv (nK i0), iv (nX i1), .val (.double (nD i0)), .second, iv (0 : Int32), .unset] [(.int (0 : Int32))]
          refine XS.ifYes X0.here hx rfl (pc0 := 81) (pc' := 89) rfl (hb hby at_81) rfl (XT.i0_eq_t (by decide)) (by decide) (by decide) ?_
          show Go p e below t s₁ m 89 #[iv i0, iv i1, iv (nK i0), iv (nX i1), .val (.double (nD i0)), .second, iv (0 : Int32), .unset] []
          refine XT.iconstV X0.here hx rfl (3 : Int32) (hb hby at_89) (by decide) ?_
          show Go p e below t s₁ m 90 #[iv i0, iv i1, iv (nK i0), iv (nX i1), .val (.double (nD i0)), .second, iv (0 : Int32), .unset] [(.int (3 : Int32))]
          refine XS.istore X0.here hx rfl (hb hby at_90) rfl (l' := #[iv i0, iv i1, iv (nK i0), iv (nX i1), .val (.double (nD i0)), .second, iv (0 : Int32), iv (3 : Int32)]) rfl ?_
          show Go p e below t s₁ m 92 #[iv i0, iv i1, iv (nK i0), iv (nX i1), .val (.double (nD i0)), .second, iv (0 : Int32), iv (3 : Int32)] []
          refine XS.dload X0.here hx rfl (hb hby at_92) rfl ?_
          show Go p e below t s₁ m 94 #[iv i0, iv i1, iv (nK i0), iv (nX i1), .val (.double (nD i0)), .second, iv (0 : Int32), iv (3 : Int32)] [(.double (nD i0))]
          refine XS.iloadN X0.here hx rfl (hb hby at_94) rfl ?_
          show Go p e below t s₁ m 95 #[iv i0, iv i1, iv (nK i0), iv (nX i1), .val (.double (nD i0)), .second, iv (0 : Int32), iv (3 : Int32)] [(.int (nX i1)), (.double (nD i0))]
          exact k)
        obtain ⟨_, _, ⟨T63, L63, k63, n63⟩, -, X63, ⟨Lc63, hQ63, l63, y63, z63⟩, st63⟩ := Jvm.LawKit.callS X0 hx (y := (⟨"com/example/hetmo/hetmo/simulation/DiscontinuityTrial", "effect", "(DI)D"⟩ : MethodName)) hown (mvT hZ (hw _ (List.mem_of_getElem? (i := 2) rfl))) (mvT hZ (hw _ (List.mem_of_getElem? (i := 3) rfl))) (mvT hZ (hw _ (List.mem_of_getElem? (i := 4) rfl))) (mvT hZ (hw _ (List.mem_of_getElem? (i := 5) rfl))) (by decide) (backOf (W := 0) (rm_eff l Z a0 hw [] (nD i0) (nX i1)  h0 n0 Z0 ) hZ (hw _ (List.mem_of_getElem? (i := 5) rfl)) (hw _ (List.mem_of_getElem? (i := 4) rfl)) (by decide) (by decide)) (g := (mkF m 95 #[iv i0, iv i1, iv (nK i0), iv (nX i1), .val (.double (nD i0)), .second, iv (0 : Int32), iv (3 : Int32)] [(.int (nX i1)), (.double (nD i0))])) rfl (by rw [hml]; rfl) (argsL := [(.double (nD i0)), (.int (nX i1))]) (rest := []) (lenOf pd0 rfl) rfl (by show 2 * 0 + _ ≤ _; exact Nat.le_of_eq rfl) (hb hby at_95) (fun _ _ => ⟨rfl, e0, (by decide : 0 + 0 ≤ _), (by decide : 0 + 0 ≤ _)⟩)
        dsimp only [Pt.U, Pt.locs, Pt.cells, Pt.slots] at X63 l63 y63 z63 st63 hQ63
        subst l63 y63 z63
        obtain ⟨rfl, N63, e63⟩ := hQ63
        have M63 := Fr.app N0 N63
        have g64 : Goes p e below S0 (T63.setTop (mkF m 98 #[iv i0, iv i1, iv (nK i0), iv (nX i1), .val (.double (nD i0)), .second, iv (0 : Int32), iv (3 : Int32)] [(.double (f_eff (nD i0) (nX i1)))])) := fun t k => g62 t (st63 t k)
        have g65 : Goes p e below S0 (T63.setTop (mkF m 102 #[iv i0, iv i1, iv (nK i0), iv (nX i1), .val (.double (nD i0)), .second, iv (0 : Int32), iv (3 : Int32)] [(.int (cmpValue (FP.dcmp (f_eff (nD i0) (nX i1)) (FP.i2d (3 : Int32))) .l))])) := fun t k => g64 t (by
          refine XS.iload X63.here hx rfl (hb hby at_98) rfl ?_
          show Go p e below t T63 m 100 #[iv i0, iv i1, iv (nK i0), iv (nX i1), .val (.double (nD i0)), .second, iv (0 : Int32), iv (3 : Int32)] [(.int (3 : Int32)), (.double (f_eff (nD i0) (nX i1)))]
          refine XS.i2dS X63.here hx rfl (hb hby at_100) rfl rfl ?_
          show Go p e below t T63 m 101 #[iv i0, iv i1, iv (nK i0), iv (nX i1), .val (.double (nD i0)), .second, iv (0 : Int32), iv (3 : Int32)] [(.double (FP.i2d (3 : Int32))), (.double (f_eff (nD i0) (nX i1)))]
          refine XS.dcmpS X63.here hx rfl (hb hby at_101) rfl rfl ?_
          show Go p e below t T63 m 102 #[iv i0, iv i1, iv (nK i0), iv (nX i1), .val (.double (nD i0)), .second, iv (0 : Int32), iv (3 : Int32)] [(.int (cmpValue (FP.dcmp (f_eff (nD i0) (nX i1)) (FP.i2d (3 : Int32))) .l))]
          exact k)
        by_cases h66 : dEq (f_eff (nD i0) (nX i1)) (FP.i2d (3 : Int32))
        · skip
          have g67 : Goes p e below S0 (T63.setTop (mkF m 110 #[iv i0, iv i1, iv (nK i0), iv (nX i1), .val (.double (nD i0)), .second, iv (0 : Int32), iv (3 : Int32)] [(.int (1 : Int32))])) := fun t k => g65 t (by
            refine XS.ifNo X63.here hx rfl (hb hby at_102) rfl (dc_l_ne_f h66) ?_
            show Go p e below t T63 m 105 #[iv i0, iv i1, iv (nK i0), iv (nX i1), .val (.double (nD i0)), .second, iv (0 : Int32), iv (3 : Int32)] []
            refine XT.iconstV X63.here hx rfl (1 : Int32) (hb hby at_105) (by decide) ?_
            show Go p e below t T63 m 106 #[iv i0, iv i1, iv (nK i0), iv (nX i1), .val (.double (nD i0)), .second, iv (0 : Int32), iv (3 : Int32)] [(.int (1 : Int32))]
            refine XS.goto X63.here hx rfl (pc0 := 106) (pc' := 110) rfl (hb hby at_106) (by decide) (by decide) ?_
            show Go p e below t T63 m 110 #[iv i0, iv i1, iv (nK i0), iv (nX i1), .val (.double (nD i0)), .second, iv (0 : Int32), iv (3 : Int32)] [(.int (1 : Int32))]
            exact k)
          obtain ⟨fs, hr, hrun, hended, hW, hsame⟩ := X63.leave (v := some (.int (1 : Int32))) (fun h => by rw [Bd.returns] at h; cases h)
          refine ⟨_, _, g67 _ (retN X63 hx (t := .boolean) Bd.returns (by simp) (hb hby at_110) hr), hrun, hended, _, _, rfl, ?_, ⟨_, rfl⟩, hW, hsame.mono (by decide) (by decide)⟩
          show Q_law Z i0 i1  h0 n0 _ T63.heap _
          rw [e63]
          exact ⟨by unfold f_law; rw [if_neg h18, if_neg h45, if_neg h54, if_pos h66], M63⟩
        · skip
          have g68 : Goes p e below S0 (T63.setTop (mkF m 110 #[iv i0, iv i1, iv (nK i0), iv (nX i1), .val (.double (nD i0)), .second, iv (0 : Int32), iv (3 : Int32)] [(.int (0 : Int32))])) := fun t k => g65 t (by
            refine XS.ifYes X63.here hx rfl (pc0 := 102) (pc' := 109) rfl (hb hby at_102) rfl (dc_l_ne_t h66) (by decide) (by decide) ?_
            show Go p e below t T63 m 109 #[iv i0, iv i1, iv (nK i0), iv (nX i1), .val (.double (nD i0)), .second, iv (0 : Int32), iv (3 : Int32)] []
            refine XT.iconstV X63.here hx rfl (0 : Int32) (hb hby at_109) (by decide) ?_
            show Go p e below t T63 m 110 #[iv i0, iv i1, iv (nK i0), iv (nX i1), .val (.double (nD i0)), .second, iv (0 : Int32), iv (3 : Int32)] [(.int (0 : Int32))]
            exact k)
          obtain ⟨fs, hr, hrun, hended, hW, hsame⟩ := X63.leave (v := some (.int (0 : Int32))) (fun h => by rw [Bd.returns] at h; cases h)
          refine ⟨_, _, g68 _ (retN X63 hx (t := .boolean) Bd.returns (by simp) (hb hby at_110) hr), hrun, hended, _, _, rfl, ?_, ⟨_, rfl⟩, hW, hsame.mono (by decide) (by decide)⟩
          show Q_law Z i0 i1  h0 n0 _ T63.heap _
          rw [e63]
          exact ⟨by unfold f_law; rw [if_neg h18, if_neg h45, if_neg h54, if_neg h66], M63⟩
theorem own_rng (a : Int32) : 0 ≤ (a &&& 2147483647).toInt := (c_and a 2147483647 (by decide)).1
theorem own_k (a : Int32) : 0 ≤ (nK a).toInt ∧ (nK a).toInt < 1000 := by
  have h := (c_irem (a &&& 2147483647) 1000 1000 (by decide)).1 (own_rng a)
  unfold nK; omega
theorem own_x (a : Int32) : nX a = 0 ∨ nX a = 1 ∨ nX a = 2 := by
  have h := (c_irem (a &&& 2147483647) 3 3 (by decide)).1 (own_rng a)
  have h0 : (nX a).toInt = 0 ∨ (nX a).toInt = 1 ∨ (nX a).toInt = 2 := by unfold nX; omega
  rcases h0 with h0 | h0 | h0
  · exact Or.inl (Int32.toInt_inj.mp (by rw [h0]; decide))
  · exact Or.inr (Or.inl (Int32.toInt_inj.mp (by rw [h0]; decide)))
  · exact Or.inr (Or.inr (Int32.toInt_inj.mp (by rw [h0]; decide)))
set_option maxRecDepth 100000 in
theorem own_all : ∀ k : Fin 1000, (FP.dcmp (FP.ddiv (FP.i2d (Int32.ofNat k.1)) 4652007308841189376) 4604210043045952881 = some .lt) = (k.1 < 670) := by decide +kernel
theorem own_cut (a : Int32) : dLt (nD a) 4604210043045952881 ↔ nK a < 670 := by
  obtain ⟨h0, h1⟩ := own_k a
  have e : nK a = Int32.ofNat (nK a).toInt.toNat := by
    apply Int32.toInt_inj.mp
    rw [Int32.toInt_ofNat', show Int32.size = 4294967296 from rfl, Int.bmod_eq_of_le (by omega) (by omega)]
    omega
  have h := own_all ⟨(nK a).toInt.toNat, by omega⟩
  simp only at h
  rw [← e] at h
  unfold dLt nD
  rw [h, Int32.lt_iff_toInt_lt]
  have : (670 : Int32).toInt = 670 := by decide
  omega
theorem own_one (a b : Int32) : f_law a b = 1 := by
  unfold f_law f_eff
  have hc := own_cut a
  rcases own_x b with hx | hx | hx <;> by_cases hk : nK a < 670 <;> simp only [hx, hk, hc, if_true, if_false] <;> decide +kernel

set_option maxRecDepth 65536 in
set_option maxHeartbeats 40000000 in
theorem comes_1 {Post : Tables → Env → Array Value → State → Outcome → State → Prop} (hpost : ∀ tb e args s v u, (limb_1_1.after args s (.returned v) u = true ∧ limb_1_2.after args s (.returned v) u = true ∧ True) → FrameEnd s (.returned v) u (Jvm.fieldLocs frame_1_writes args s ++ Jvm.arrayLocs frame_1_arrays args s ++ Jvm.staticLocs frame_1_statics s) 0 0 → Post tb e args s (.returned v) u) :
    ArmFor flags0 classFile x code maxLocals ret World_1 tables_1 room_1 Calls_1 rest_1 Pre_1 Post := by
  intro l hfl _ _ p e ha hc hk s m args below hf hA hF happ hP
  obtain ⟨hcalls, hrest, hpre⟩ := hP
  obtain ⟨-, -, -, hnamed, -, -, -, hat⟩ := (Spec.applies_iff hf).mp happ
  obtain ⟨hg, hn⟩ := and_e (Cond.before_iff.mp (show (Jvm.Cond.and given_1 narrow_1).before args s = true from hpre))
  obtain ⟨hcount, q0⟩ := and_e hg
  obtain ⟨b0, q1⟩ := and_e q0
  have b1 := q1
  obtain ⟨w0, w1, rfl⟩ : ∃ w0 w1 : Value, args = #[w0, w1] := by
    have hs : args.size = 2 := by simpa [Cond.value, given_1] using hcount
    obtain ⟨L⟩ := args
    match L, hs with
    | [w0, w1], _ => exact ⟨w0, w1, rfl⟩
  have hw := fun d (hd : d ∈ tables_1) => atoms_spec (ws := Jvm.Cond.code x code maxLocals ret :: tables_1) hat d (List.mem_cons_of_mem _ hd)
  have hfit : Fit s := fun {y c} hc i hi => by
    obtain ⟨ha, rfl⟩ := Array.getElem?_eq_some_iff.mp hc
    have q := List.all_eq_true.mp ((Array.all_eq_true_iff_forall_mem.mp hF) _ (Array.getElem_mem ha)) i (List.mem_range.mpr hi)
    simpa [Array.getElem?_eq_getElem hi] using q
  obtain ⟨i0, r0⟩ := is_v b0
  obtain rfl : w0 = (.int i0) := Option.some.inj r0
  obtain ⟨i1, r1⟩ := is_v b1
  obtain rfl : w1 = (.int i1) := Option.some.inj r1
  obtain ⟨n, o, h1, h2, h3, v, L, rfl, ⟨hv, N⟩, hq⟩ := rm_law l s _ hw tables_1 i0 i1  s.heap s.heap.size (Nat.le_refl _)  p e ha hc hk s m _ below hf ((Spec.applies_iff_loose hf).mp happ).1 ⟨rfl, State.Warmed39.refl s, rfl⟩ trivial
  obtain rfl : v = some (.int 1) := by rw [hv, own_one i0 i1]
  refine ⟨n, _, h1, h2, h3, hpost _ _ _ _ _ _ ⟨Cond.after_iff.mpr rfl, Cond.after_iff.mpr (eq_i res_at (Term.int_eval (1)) rfl), trivial⟩ ⟨hq.1, hq.2.1, (hq.2.2.sift fun y hy => Or.inr (N y hy)).mono (by decide) (by decide)⟩⟩
theorem main_1_1 : Claimed_1_1 := comes_1 fun _ _ _ _ _ _ h hF => ⟨h.1, hF⟩
theorem main_1_2 : Claimed_1_2 := comes_1 fun _ _ _ _ _ _ h hF => ⟨h.2.1, hF⟩
end Jvm.Pilot.@@N@@
namespace Jvm.Pilot.@@N@@
open Jvm Jvm.ClassFile Sem Op Lib Jvm.Free Jvm.Stand Jvm.Pilot.@@N@@.Jvm.D
/-! MADE BY PROGRAM (witnessworld.py) out of the Statement's table words and the real class files: 9 classes; the members and pool entries that the words name. The judged class is class 1, her method 1. -/
namespace start1
open Jvm.ClassFile
def u (s : String) : CpInfo := .utf8 (stringToUtf16 s)
/-- a pool by its gaps: so many unusable entries, then the entry; so many at the end -/
def gap : Nat → List CpInfo → List CpInfo
  | 0, r => r
  | n + 1, r => .unusable :: gap n r
def poolList (es : List (Nat × CpInfo)) (last : Nat) : List CpInfo := es.foldr (fun e r => gap e.1 (e.2 :: r)) (gap last [])
def pool (es : List (Nat × CpInfo)) (last : Nat) : Array CpInfo := ⟨poolList es last⟩
def fileOf (pool : Array CpInfo) (this : Nat) (attrs : Array Attribute := #[]) (ms : Array MethodInfo := #[]) (fl : Nat := 33) (sup : Nat := 0) (ifs : Array Nat := #[]) (fds : Array FieldInfo := #[]) : ClassFile where
  minorVersion := 0
  majorVersion := 65
  constantPool := pool
  accessFlags := fl
  thisClass := this
  superClass := sup
  interfaces := ifs
  fields := fds
  methods := ms
  attributes := attrs
def plain (name : String) (sup : Option ClassId) : Class where
  name := name
  kind := .ordinary
  loader := none
  accessFlags := 33
  super := sup
  interfaces := #[]
  cf := none
  fields := #[]
  methods := #[]
  instanceTypes := #[]
  staticTypes := #[]
  resolved := #[]
  callSites := []
  init := .initialized
  statics := none
  mirror := none

def pool0 : Array CpInfo := pool [(5, u "<init>"), (0, u "()V"), (1, .class_ 10), (1, u "java/lang/Object")] 113

def k0m0 : Method := { name := "<init>", desc := "()V", sig := { parameters := [], returnType := none }, accessFlags := 1, code := none }
/-- java/lang/Object -/
def k0 : Class := { plain "java/lang/Object" none with
  accessFlags := 33
  interfaces := #[]
  cf := some (fileOf pool0 8 #[] #[{ accessFlags := 1, nameIndex := 5, descriptorIndex := 6, attributes := #[] }] 33 0 #[] #[])
  fields := #[]
  methods := #[k0m0]
  instanceTypes := #[]
  staticTypes := #[]
  resolved := Array.replicate 124 none
  statics := none }

def pool1 : Array CpInfo := pool [(2, .class_ 4), (1, u "java/lang/Object"), (0, u "<init>"), (0, u "()V"), (0, .integer 2147483647), (0, .double 4652007308841189376), (1, .methodref 11 12), (0, .class_ 13), (0, .nameAndType 14 15), (0, u "com/example/hetmo/hetmo/simulation/DiscontinuityTrial"), (0, u "effect"), (0, u "(DI)D"), (0, .class_ 17), (0, u "com/example/hetmo/hetmo/simulation/DiscontinuityTrialEffectPinLaw"), (2, u "law"), (0, u "(II)Z")] 3

def k1m0 : Method := { name := "<init>", desc := "()V", sig := { parameters := [], returnType := none }, accessFlags := 1, code := none }
def k1c1 : Code := { maxStack := 4, maxLocals := 8, code := code, exceptionTable := #[], attributes := #[] }
def k1m1 : Method := { name := "law", desc := "(II)Z", sig := { parameters := [.int, .int], returnType := some .boolean }, accessFlags := 9, code := some k1c1 }
/-- com/example/hetmo/hetmo/simulation/DiscontinuityTrialEffectPinLaw -/
def k1 : Class := { plain "com/example/hetmo/hetmo/simulation/DiscontinuityTrialEffectPinLaw" (some 0) with
  accessFlags := 49
  interfaces := #[]
  cf := some (fileOf pool1 16 #[] #[{ accessFlags := 1, nameIndex := 5, descriptorIndex := 6, attributes := #[] }, { accessFlags := 9, nameIndex := 20, descriptorIndex := 21, attributes := #[] }] 49 2 #[] #[])
  fields := #[]
  methods := #[k1m0, k1m1]
  instanceTypes := #[]
  staticTypes := #[]
  resolved := Array.replicate 25 none
  statics := none }

def pool2 : Array CpInfo := pool [(2, .class_ 4), (1, u "java/lang/Object"), (3, .class_ 10), (1, u "com/example/hetmo/hetmo/simulation/DiscontinuityTrial"), (0, u "_y"), (0, u "[D"), (2, u "_r"), (2, u "_d"), (2, u "_x1"), (2, u "_x2"), (2, u "_x3"), (2, u "_tau"), (26, u "effect"), (0, u "(DI)D"), (3, .double 4604210043045952881), (1, .double 4617315517961601024), (1, .double 13835058055282163712), (1, .double 4611686018427387904), (6, u "CUTOFF"), (0, u "D"), (1, u "THRESHOLD"), (0, u "VALUES"), (0, u "I")] 31

def k2c0 : Code := { maxStack := 4, maxLocals := 5, code := prog_11_method_3_code, exceptionTable := #[], attributes := #[] }
def k2m0 : Method := { name := "effect", desc := "(DI)D", sig := { parameters := [.double, .int], returnType := some .double }, accessFlags := 9, code := some k2c0 }
/-- com/example/hetmo/hetmo/simulation/DiscontinuityTrial -/
def k2 : Class := { plain "com/example/hetmo/hetmo/simulation/DiscontinuityTrial" (some 0) with
  accessFlags := 49
  interfaces := #[]
  cf := some (fileOf pool2 8 #[] #[{ accessFlags := 9, nameIndex := 57, descriptorIndex := 58, attributes := #[] }] 49 2 #[] #[{ accessFlags := 25, nameIndex := 75, descriptorIndex := 76, attributes := #[] }, { accessFlags := 25, nameIndex := 78, descriptorIndex := 76, attributes := #[] }, { accessFlags := 25, nameIndex := 79, descriptorIndex := 80, attributes := #[] }, { accessFlags := 18, nameIndex := 11, descriptorIndex := 12, attributes := #[] }, { accessFlags := 18, nameIndex := 15, descriptorIndex := 12, attributes := #[] }, { accessFlags := 18, nameIndex := 18, descriptorIndex := 12, attributes := #[] }, { accessFlags := 18, nameIndex := 21, descriptorIndex := 12, attributes := #[] }, { accessFlags := 18, nameIndex := 24, descriptorIndex := 12, attributes := #[] }, { accessFlags := 18, nameIndex := 27, descriptorIndex := 12, attributes := #[] }, { accessFlags := 18, nameIndex := 30, descriptorIndex := 12, attributes := #[] }])
  fields := #[{ name := "CUTOFF", type := .double, accessFlags := 25, slot := 0, constantValue := 0 }, { name := "THRESHOLD", type := .double, accessFlags := 25, slot := 1, constantValue := 0 }, { name := "VALUES", type := .int, accessFlags := 25, slot := 2, constantValue := 0 }, { name := "_y", type := (.array .double), accessFlags := 18, slot := 0, constantValue := 0 }, { name := "_r", type := (.array .double), accessFlags := 18, slot := 1, constantValue := 0 }, { name := "_d", type := (.array .double), accessFlags := 18, slot := 2, constantValue := 0 }, { name := "_x1", type := (.array .double), accessFlags := 18, slot := 3, constantValue := 0 }, { name := "_x2", type := (.array .double), accessFlags := 18, slot := 4, constantValue := 0 }, { name := "_x3", type := (.array .double), accessFlags := 18, slot := 5, constantValue := 0 }, { name := "_tau", type := (.array .double), accessFlags := 18, slot := 6, constantValue := 0 }]
  methods := #[k2m0]
  instanceTypes := #[(.array .double), (.array .double), (.array .double), (.array .double), (.array .double), (.array .double), (.array .double)]
  staticTypes := #[.double, .double, .int]
  resolved := Array.replicate 112 none
  statics := none }

def pool3 : Array CpInfo := pool [(1, u "java/lang/Cloneable"), (0, .class_ 1), (0, u "java/lang/Object"), (0, .class_ 3)] 3

/-- java/lang/Cloneable -/
def k3 : Class := { plain "java/lang/Cloneable" (some 0) with
  accessFlags := 1537
  interfaces := #[]
  cf := some (fileOf pool3 2 #[] #[] 1537 4 #[] #[])
  fields := #[]
  methods := #[]
  instanceTypes := #[]
  staticTypes := #[]
  resolved := Array.replicate 8 none
  statics := none }

def pool4 : Array CpInfo := pool [(1, u "java/io/Serializable"), (0, .class_ 1), (0, u "java/lang/Object"), (0, .class_ 3)] 3

/-- java/io/Serializable -/
def k4 : Class := { plain "java/io/Serializable" (some 0) with
  accessFlags := 1537
  interfaces := #[]
  cf := some (fileOf pool4 2 #[] #[] 1537 4 #[] #[])
  fields := #[]
  methods := #[]
  instanceTypes := #[]
  staticTypes := #[]
  resolved := Array.replicate 8 none
  statics := none }

/-- the primitive byte -/
def k5 : Class := { plain "byte" none with kind := .primitive 'B', accessFlags := 0x411 }
/-- [B -/
def k6 : Class := { plain "[B" (some 0) with kind := .array 5 .byte, interfaces := #[3, 4], accessFlags := 1041 }

/-- the primitive int -/
def k7 : Class := { plain "int" none with kind := .primitive 'I', accessFlags := 0x411 }
/-- [I -/
def k8 : Class := { plain "[I" (some 0) with kind := .array 7 .int, interfaces := #[3, 4], accessFlags := 1041 }

def heap : Heap := #[]
def classes : Array Class := #[k0, k1, k2, k3, k4, k5, k6, k7, k8]
def interned : List (Array UInt16 × Addr) := []
def slotsUsed : Nat := 0
def theMethod : MethodId := ⟨1, 1⟩
def args0 : Array Value := #[.int 5, .int 7]
def aboutOver (below : List Frame) : State where
  vm := { classes := classes, interned := interned.toArray }
  heap := heap
  slotsUsed := slotsUsed
  threads := #[{ frames := .invoking theMethod args0 :: below }]
def below0 : List Frame := [.native { method := ⟨0, 0⟩, args := #[] }]
def about1 : State := aboutOver below0
def p0 : Program := .bare "" "" ""
def e0 : Env := launch0.env 0 0 0
theorem w_frames : about1.frames = Frame.invoking theMethod args0 :: below0 := rfl
set_option maxRecDepth 65536 in
theorem w_args : argsFit about1.vm theMethod args0 = true := by decide +kernel
set_option maxRecDepth 65536 in
theorem w_heap : heapFits about1 = true := by decide +kernel
set_option maxRecDepth 65536 in
theorem w_runnable : about1.curStatus? = some .runnable := by decide +kernel
set_option maxRecDepth 65536 in
theorem w_alone : about1.alone = true := by decide +kernel
set_option maxRecDepth 65536 in
theorem w_named : about1.methodNamed? x = some theMethod := by decide +kernel
set_option maxRecDepth 65536 in
theorem w_hears : about1.hears theMethod below0 = true := by decide +kernel
set_option maxRecDepth 65536 in
theorem w_ripe : about1.ripe theMethod args0 below0 = true := by decide +kernel
theorem w_running : about1.status = .running := rfl
set_option maxRecDepth 65536 in
theorem w_room : about1.hasRoom e0.platform room_1 = true :=
  launch0.hasRoom_least _ room_1 (by decide +kernel) (by decide +kernel) (by decide +kernel) (by decide +kernel) (by decide +kernel) (by decide +kernel)
theorem allAtoms_all (ts : List Jvm.Cond) (a : Array Jvm.Value) (st : Jvm.State) : (allAtoms ts).before a st = ts.all (fun c => c.before a st) := by
  induction ts with
  | nil => rfl
  | cons c t ih =>
    show (Jvm.Cond.and c (allAtoms t)).before a st = _
    rw [Jvm.Cond.before_and, ih, List.all_cons]
def words1 : List Jvm.Cond := Jvm.Cond.code x code maxLocals ret :: tables_1
/-- a 'code' word, met by the world's own term for the bytes: nothing is compared byte by byte -/
theorem code_word {y : MethodName} {bytes : ByteArray} {mx : Nat} {rt : Option FieldType} {a : Array Value} {s : State} {m : MethodId} {meth : Method} {c : Code} (h1 : s.methodNamed? y = some m) (h2 : s.vm.method? m = some meth) (h3 : meth.code = some c) (h4 : c.code = bytes)
    (h5 : (c.maxLocals == mx && c.exceptionTable.isEmpty && decide (c.maxStack ≤ mostOperands) && decide (meth.sig.returnType = rt) && !meth.locks && decide (parseMethodDescriptor y.desc = some meth.sig)) = true) : (Jvm.Cond.code y bytes mx rt).before a s = true := by
  simp only [Bool.and_eq_true, beq_iff_eq, Bool.not_eq_true', decide_eq_true_eq] at h5
  obtain ⟨⟨⟨⟨⟨g1, g2⟩, g3⟩, g4⟩, g5⟩, g6⟩ := h5
  simp [Cond.before, Cond.holds, Cond.value, h1, h2, h3, h4, g1, g2, g3, g4, g5, g6]
def isCode : Jvm.Cond → Bool
  | .code _ _ _ _ => true
  | _ => false
theorem all_split {L : List Jvm.Cond} {P : Jvm.Cond → Bool} (h1 : L.all (fun c => isCode c || P c) = true) (h2 : ∀ c ∈ L.filter isCode, P c = true) : L.all P = true := by
  refine List.all_eq_true.mpr fun c hc => ?_
  have h := List.all_eq_true.mp h1 c hc
  rcases Bool.eq_false_or_eq_true (isCode c) with hi | hi
  · exact h2 c (List.mem_filter.mpr ⟨hc, hi⟩)
  · simpa [hi] using h
set_option maxRecDepth 65536 in
theorem w_c0 : (Jvm.Cond.code x code maxLocals ret).before args0 about1 = true := code_word (m := ⟨1, 1⟩) (meth := k1m1) (c := k1c1) (by decide +kernel) rfl rfl rfl (by decide +kernel)
set_option maxRecDepth 65536 in
theorem w_c1 : (Jvm.Cond.code ({ cls := "com/example/hetmo/hetmo/simulation/DiscontinuityTrial", name := "effect", desc := "(DI)D" } : Jvm.MethodName) prog_11_method_3_code (5 : Nat) (Option.some Jvm.ClassFile.FieldType.double)).before args0 about1 = true := code_word (m := ⟨2, 0⟩) (meth := k2m0) (c := k2c0) (by decide +kernel) rfl rfl rfl (by decide +kernel)
def codes1 : List Jvm.Cond := [Jvm.Cond.code x code maxLocals ret, Jvm.Cond.code ({ cls := "com/example/hetmo/hetmo/simulation/DiscontinuityTrial", name := "effect", desc := "(DI)D" } : Jvm.MethodName) prog_11_method_3_code (5 : Nat) (Option.some Jvm.ClassFile.FieldType.double)]
set_option maxRecDepth 65536 in
theorem codes_eq : words1.filter isCode = codes1 := rfl
theorem w_codes : ∀ c ∈ words1.filter isCode, c.before args0 about1 = true := by
  rw [codes_eq]
  intro c hc
  simp only [codes1, List.mem_cons, List.not_mem_nil, or_false] at hc
  rcases hc with rfl | rfl
  · exact w_c0
  · exact w_c1
set_option maxRecDepth 65536 in
theorem w_t1 : words1.all (fun c => isCode c || c.before args0 about1) = true := by decide +kernel
theorem w_tables : (allAtoms (Jvm.Cond.code x code maxLocals ret :: tables_1)).before args0 about1 = true := by
  rw [allAtoms_all]
  show words1.all (fun c => c.before args0 about1) = true
  refine all_split ?_ w_codes
  rw [w_t1]
set_option maxRecDepth 65536 in
theorem w_case : (Jvm.Cond.and given_1 narrow_1).before args0 about1 = true := by decide +kernel
theorem w_applies : (headSpec (Jvm.Cond.code x code maxLocals ret :: tables_1) room_1).applies x e0.platform about1 = true :=
  (Spec.applies_iff w_frames).mpr ⟨w_running, w_runnable, w_alone, w_named, w_hears, w_ripe, w_room, w_tables⟩
theorem atStart : AtStart classFile x code maxLocals ret World_1 tables_1 room_1 Calls_1 rest_1 Pre_1 launch0 p0 e0 about1 theMethod args0 below0 :=
  ⟨lists_1, trivial, launch0.admits_env _ _ _, launch0.least_env, fairChoices_fair.cas, fairChoices_fair.clock, w_frames, w_args, w_heap, w_applies, trivial, trivial, w_case⟩
end start1
theorem witness_1 : WitnessClaimed_1 := ⟨start1.p0, start1.e0, start1.about1, start1.theMethod, start1.args0, start1.below0, start1.atStart⟩
end Jvm.Pilot.@@N@@
