import JvmDerived
import JvmDerived.Pilot.@@N@@Statement
import JvmDerived.Pilot.@@N@@Code
set_option linter.unusedVariables false
set_option linter.unusedSimpArgs false
namespace Jvm.Pilot.@@N@@
open Jvm Jvm.ClassFile Sem Op Lib Jvm.Free Jvm.Stand Jvm.LawKit Jvm.RoadKit Bundle Jvm.Pilot.@@N@@.Jvm.D
abbrev Go (p : Program) (e : Env) (below : List Frame) (t T : State) (m : MethodId) (pc : Nat) (ls : Array Slot) (st : List Value) : Prop := Steps p.tables e below (T.setTop (mkF m pc ls st)) t
/-- from A the run comes to B -/
def Goes (p : Program) (e : Env) (below : List Frame) (A B : State) : Prop := ∀ t, Steps p.tables e below B t → Steps p.tables e below A t
abbrev dLt (x y : UInt64) : Prop := FP.dcmp x y = some .lt
abbrev dEq (x y : UInt64) : Prop := FP.dcmp x y = some .eq
abbrev dLe (x y : UInt64) : Prop := FP.dcmp x y = some .lt ∨ FP.dcmp x y = some .eq
abbrev fLt (x y : UInt32) : Prop := FP.fcmp x y = some .lt
abbrev fEq (x y : UInt32) : Prop := FP.fcmp x y = some .eq
abbrev fLe (x y : UInt32) : Prop := FP.fcmp x y = some .lt ∨ FP.fcmp x y = some .eq
theorem Sta.keepO {Z : State} {h h' : Heap} {C n d : String} {v : Value} {ws : List Addr} (F : Sta Z h C n d v) (K : Keep h h' ws) (q : ∀ x ∈ ws, ∀ cell : Cell, h[x]? = some cell → cell.vm.isStatics = false) : Sta Z h' C n d v := by
  obtain ⟨cf, i, k, f, st, cell, h1, h2, h3, h4, h5, h6, h7⟩ := F
  refine ⟨cf, i, k, f, st, cell, h1, h2, h3, h4, K.2.1 _ _ h5 fun hm => ?_, h6, h7⟩
  rw [q _ hm _ h5] at h6; cases h6
theorem own_swap (o : Option Ordering) : o.map Ordering.swap = some .lt ↔ o = some .gt := by rcases o with _ | (_ | _ | _) <;> simp [Ordering.swap]
theorem own_swapE (o : Option Ordering) : o.map Ordering.swap = some .eq ↔ o = some .eq := by rcases o with _ | (_ | _ | _) <;> simp [Ordering.swap]
theorem own_dgt (x y : UInt64) : dLt y x ↔ FP.dcmp x y = some .gt := by
  show FP.Core.dcmp y x = some .lt ↔ FP.Core.dcmp x y = some .gt
  rw [FP.Core.dcmp_swap x y]; exact own_swap _
theorem own_dge (x y : UInt64) : dLe y x ↔ (FP.dcmp x y = some .gt ∨ FP.dcmp x y = some .eq) := by
  show (FP.Core.dcmp y x = some .lt ∨ FP.Core.dcmp y x = some .eq) ↔ (FP.Core.dcmp x y = some .gt ∨ FP.Core.dcmp x y = some .eq)
  rw [FP.Core.dcmp_swap x y, own_swap, own_swapE]
theorem own_fgt (x y : UInt32) : fLt y x ↔ FP.fcmp x y = some .gt := by
  show FP.Core.fcmp y x = some .lt ↔ FP.Core.fcmp x y = some .gt
  rw [FP.Core.fcmp_swap x y]; exact own_swap _
theorem own_fge (x y : UInt32) : fLe y x ↔ (FP.fcmp x y = some .gt ∨ FP.fcmp x y = some .eq) := by
  show (FP.Core.fcmp y x = some .lt ∨ FP.Core.fcmp y x = some .eq) ↔ (FP.Core.fcmp x y = some .gt ∨ FP.Core.fcmp x y = some .eq)
  rw [FP.Core.fcmp_swap x y, own_swap, own_swapE]
theorem own_c (o : Option Ordering) :
    (o = some .lt → ifCond.holds .ge (cmpValue o .g) = false ∧ ifCond.holds .lt (cmpValue o .g) = true) ∧
    (¬ o = some .lt → ifCond.holds .ge (cmpValue o .g) = true ∧ ifCond.holds .lt (cmpValue o .g) = false) ∧
    ((o = some .lt ∨ o = some .eq) → ifCond.holds .gt (cmpValue o .g) = false ∧ ifCond.holds .le (cmpValue o .g) = true) ∧
    (¬ (o = some .lt ∨ o = some .eq) → ifCond.holds .gt (cmpValue o .g) = true ∧ ifCond.holds .le (cmpValue o .g) = false) ∧
    (o = some .gt → ifCond.holds .le (cmpValue o .l) = false ∧ ifCond.holds .gt (cmpValue o .l) = true) ∧
    (¬ o = some .gt → ifCond.holds .le (cmpValue o .l) = true ∧ ifCond.holds .gt (cmpValue o .l) = false) ∧
    ((o = some .gt ∨ o = some .eq) → ifCond.holds .lt (cmpValue o .l) = false ∧ ifCond.holds .ge (cmpValue o .l) = true) ∧
    (¬ (o = some .gt ∨ o = some .eq) → ifCond.holds .lt (cmpValue o .l) = true ∧ ifCond.holds .ge (cmpValue o .l) = false) ∧
    (o = some .eq → ∀ q, ifCond.holds .ne (cmpValue o q) = false ∧ ifCond.holds .eq (cmpValue o q) = true) ∧
    (¬ o = some .eq → ∀ q, ifCond.holds .ne (cmpValue o q) = true ∧ ifCond.holds .eq (cmpValue o q) = false) := by
  refine ⟨?_, ?_, ?_, ?_, ?_, ?_, ?_, ?_, ?_, ?_⟩ <;> rcases o with _ | (_ | _ | _) <;> first | (intro h; exact ⟨by decide, by decide⟩) | (intro h q; cases q <;> exact ⟨by decide, by decide⟩) | (intro h; simp at h; done) | (intro h; exact absurd rfl h) | (intro h; exact absurd (Or.inl rfl) h) | (intro h; exact absurd (Or.inr rfl) h)
theorem dc_g_ge_f {x y : UInt64} (h : dLt x y) : ifCond.holds .ge (cmpValue (FP.dcmp x y) .g) = false := ((own_c _).1 h).1
theorem dc_g_ge_t {x y : UInt64} (h : ¬ dLt x y) : ifCond.holds .ge (cmpValue (FP.dcmp x y) .g) = true := ((own_c _).2.1 h).1
theorem dc_g_lt_t {x y : UInt64} (h : dLt x y) : ifCond.holds .lt (cmpValue (FP.dcmp x y) .g) = true := ((own_c _).1 h).2
theorem dc_g_lt_f {x y : UInt64} (h : ¬ dLt x y) : ifCond.holds .lt (cmpValue (FP.dcmp x y) .g) = false := ((own_c _).2.1 h).2
theorem dc_g_gt_f {x y : UInt64} (h : dLe x y) : ifCond.holds .gt (cmpValue (FP.dcmp x y) .g) = false := ((own_c _).2.2.1 h).1
theorem dc_g_gt_t {x y : UInt64} (h : ¬ dLe x y) : ifCond.holds .gt (cmpValue (FP.dcmp x y) .g) = true := ((own_c _).2.2.2.1 h).1
theorem dc_g_le_t {x y : UInt64} (h : dLe x y) : ifCond.holds .le (cmpValue (FP.dcmp x y) .g) = true := ((own_c _).2.2.1 h).2
theorem dc_g_le_f {x y : UInt64} (h : ¬ dLe x y) : ifCond.holds .le (cmpValue (FP.dcmp x y) .g) = false := ((own_c _).2.2.2.1 h).2
theorem dc_l_le_f {x y : UInt64} (h : dLt y x) : ifCond.holds .le (cmpValue (FP.dcmp x y) .l) = false := ((own_c _).2.2.2.2.1 ((own_dgt x y).mp h)).1
theorem dc_l_le_t {x y : UInt64} (h : ¬ dLt y x) : ifCond.holds .le (cmpValue (FP.dcmp x y) .l) = true := ((own_c _).2.2.2.2.2.1 (fun q => h ((own_dgt x y).mpr q))).1
theorem dc_l_gt_t {x y : UInt64} (h : dLt y x) : ifCond.holds .gt (cmpValue (FP.dcmp x y) .l) = true := ((own_c _).2.2.2.2.1 ((own_dgt x y).mp h)).2
theorem dc_l_gt_f {x y : UInt64} (h : ¬ dLt y x) : ifCond.holds .gt (cmpValue (FP.dcmp x y) .l) = false := ((own_c _).2.2.2.2.2.1 (fun q => h ((own_dgt x y).mpr q))).2
theorem dc_l_lt_f {x y : UInt64} (h : dLe y x) : ifCond.holds .lt (cmpValue (FP.dcmp x y) .l) = false := ((own_c _).2.2.2.2.2.2.1 ((own_dge x y).mp h)).1
theorem dc_l_lt_t {x y : UInt64} (h : ¬ dLe y x) : ifCond.holds .lt (cmpValue (FP.dcmp x y) .l) = true := ((own_c _).2.2.2.2.2.2.2.1 (fun q => h ((own_dge x y).mpr q))).1
theorem dc_l_ge_t {x y : UInt64} (h : dLe y x) : ifCond.holds .ge (cmpValue (FP.dcmp x y) .l) = true := ((own_c _).2.2.2.2.2.2.1 ((own_dge x y).mp h)).2
theorem dc_l_ge_f {x y : UInt64} (h : ¬ dLe y x) : ifCond.holds .ge (cmpValue (FP.dcmp x y) .l) = false := ((own_c _).2.2.2.2.2.2.2.1 (fun q => h ((own_dge x y).mpr q))).2
theorem dc_l_ne_f {x y : UInt64} (h : dEq x y) : ifCond.holds .ne (cmpValue (FP.dcmp x y) .l) = false := ((own_c _).2.2.2.2.2.2.2.2.1 h _).1
theorem dc_l_ne_t {x y : UInt64} (h : ¬ dEq x y) : ifCond.holds .ne (cmpValue (FP.dcmp x y) .l) = true := ((own_c _).2.2.2.2.2.2.2.2.2 h _).1
theorem dc_l_eq_t {x y : UInt64} (h : dEq x y) : ifCond.holds .eq (cmpValue (FP.dcmp x y) .l) = true := ((own_c _).2.2.2.2.2.2.2.2.1 h _).2
theorem dc_l_eq_f {x y : UInt64} (h : ¬ dEq x y) : ifCond.holds .eq (cmpValue (FP.dcmp x y) .l) = false := ((own_c _).2.2.2.2.2.2.2.2.2 h _).2
theorem dc_g_ne_f {x y : UInt64} (h : dEq x y) : ifCond.holds .ne (cmpValue (FP.dcmp x y) .g) = false := ((own_c _).2.2.2.2.2.2.2.2.1 h _).1
theorem dc_g_ne_t {x y : UInt64} (h : ¬ dEq x y) : ifCond.holds .ne (cmpValue (FP.dcmp x y) .g) = true := ((own_c _).2.2.2.2.2.2.2.2.2 h _).1
theorem dc_g_eq_t {x y : UInt64} (h : dEq x y) : ifCond.holds .eq (cmpValue (FP.dcmp x y) .g) = true := ((own_c _).2.2.2.2.2.2.2.2.1 h _).2
theorem dc_g_eq_f {x y : UInt64} (h : ¬ dEq x y) : ifCond.holds .eq (cmpValue (FP.dcmp x y) .g) = false := ((own_c _).2.2.2.2.2.2.2.2.2 h _).2
theorem fc_g_ge_f {x y : UInt32} (h : fLt x y) : ifCond.holds .ge (cmpValue (FP.fcmp x y) .g) = false := ((own_c _).1 h).1
theorem fc_g_ge_t {x y : UInt32} (h : ¬ fLt x y) : ifCond.holds .ge (cmpValue (FP.fcmp x y) .g) = true := ((own_c _).2.1 h).1
theorem fc_g_lt_t {x y : UInt32} (h : fLt x y) : ifCond.holds .lt (cmpValue (FP.fcmp x y) .g) = true := ((own_c _).1 h).2
theorem fc_g_lt_f {x y : UInt32} (h : ¬ fLt x y) : ifCond.holds .lt (cmpValue (FP.fcmp x y) .g) = false := ((own_c _).2.1 h).2
theorem fc_g_gt_f {x y : UInt32} (h : fLe x y) : ifCond.holds .gt (cmpValue (FP.fcmp x y) .g) = false := ((own_c _).2.2.1 h).1
theorem fc_g_gt_t {x y : UInt32} (h : ¬ fLe x y) : ifCond.holds .gt (cmpValue (FP.fcmp x y) .g) = true := ((own_c _).2.2.2.1 h).1
theorem fc_g_le_t {x y : UInt32} (h : fLe x y) : ifCond.holds .le (cmpValue (FP.fcmp x y) .g) = true := ((own_c _).2.2.1 h).2
theorem fc_g_le_f {x y : UInt32} (h : ¬ fLe x y) : ifCond.holds .le (cmpValue (FP.fcmp x y) .g) = false := ((own_c _).2.2.2.1 h).2
theorem fc_l_le_f {x y : UInt32} (h : fLt y x) : ifCond.holds .le (cmpValue (FP.fcmp x y) .l) = false := ((own_c _).2.2.2.2.1 ((own_fgt x y).mp h)).1
theorem fc_l_le_t {x y : UInt32} (h : ¬ fLt y x) : ifCond.holds .le (cmpValue (FP.fcmp x y) .l) = true := ((own_c _).2.2.2.2.2.1 (fun q => h ((own_fgt x y).mpr q))).1
theorem fc_l_gt_t {x y : UInt32} (h : fLt y x) : ifCond.holds .gt (cmpValue (FP.fcmp x y) .l) = true := ((own_c _).2.2.2.2.1 ((own_fgt x y).mp h)).2
theorem fc_l_gt_f {x y : UInt32} (h : ¬ fLt y x) : ifCond.holds .gt (cmpValue (FP.fcmp x y) .l) = false := ((own_c _).2.2.2.2.2.1 (fun q => h ((own_fgt x y).mpr q))).2
theorem fc_l_lt_f {x y : UInt32} (h : fLe y x) : ifCond.holds .lt (cmpValue (FP.fcmp x y) .l) = false := ((own_c _).2.2.2.2.2.2.1 ((own_fge x y).mp h)).1
theorem fc_l_lt_t {x y : UInt32} (h : ¬ fLe y x) : ifCond.holds .lt (cmpValue (FP.fcmp x y) .l) = true := ((own_c _).2.2.2.2.2.2.2.1 (fun q => h ((own_fge x y).mpr q))).1
theorem fc_l_ge_t {x y : UInt32} (h : fLe y x) : ifCond.holds .ge (cmpValue (FP.fcmp x y) .l) = true := ((own_c _).2.2.2.2.2.2.1 ((own_fge x y).mp h)).2
theorem fc_l_ge_f {x y : UInt32} (h : ¬ fLe y x) : ifCond.holds .ge (cmpValue (FP.fcmp x y) .l) = false := ((own_c _).2.2.2.2.2.2.2.1 (fun q => h ((own_fge x y).mpr q))).2
theorem fc_l_ne_f {x y : UInt32} (h : fEq x y) : ifCond.holds .ne (cmpValue (FP.fcmp x y) .l) = false := ((own_c _).2.2.2.2.2.2.2.2.1 h _).1
theorem fc_l_ne_t {x y : UInt32} (h : ¬ fEq x y) : ifCond.holds .ne (cmpValue (FP.fcmp x y) .l) = true := ((own_c _).2.2.2.2.2.2.2.2.2 h _).1
theorem fc_l_eq_t {x y : UInt32} (h : fEq x y) : ifCond.holds .eq (cmpValue (FP.fcmp x y) .l) = true := ((own_c _).2.2.2.2.2.2.2.2.1 h _).2
theorem fc_l_eq_f {x y : UInt32} (h : ¬ fEq x y) : ifCond.holds .eq (cmpValue (FP.fcmp x y) .l) = false := ((own_c _).2.2.2.2.2.2.2.2.2 h _).2
theorem fc_g_ne_f {x y : UInt32} (h : fEq x y) : ifCond.holds .ne (cmpValue (FP.fcmp x y) .g) = false := ((own_c _).2.2.2.2.2.2.2.2.1 h _).1
theorem fc_g_ne_t {x y : UInt32} (h : ¬ fEq x y) : ifCond.holds .ne (cmpValue (FP.fcmp x y) .g) = true := ((own_c _).2.2.2.2.2.2.2.2.2 h _).1
theorem fc_g_eq_t {x y : UInt32} (h : fEq x y) : ifCond.holds .eq (cmpValue (FP.fcmp x y) .g) = true := ((own_c _).2.2.2.2.2.2.2.2.1 h _).2
theorem fc_g_eq_f {x y : UInt32} (h : ¬ fEq x y) : ifCond.holds .eq (cmpValue (FP.fcmp x y) .g) = false := ((own_c _).2.2.2.2.2.2.2.2.2 h _).2
theorem d2_0 : decode jdk_30_method_1_code 0 = .ok (.aload_n 0, 1) := by decide +kernel
theorem d2_1 : decode jdk_30_method_1_code 1 = .ok (.invokespecial 1, 3) := by decide +kernel
theorem d2_4 : decode jdk_30_method_1_code 4 = .ok (.return_, 1) := by decide +kernel
theorem pd0 : parseMethodDescriptor "()V" = some ⟨[], none⟩ := by decide +kernel
theorem pf_rec : plainFor (⟨"java/lang/Record", "<init>", "()V"⟩ : MethodName) = true := by first | exact plainFor_of_name (by first | (simp [plainName, overriddenIn, x]; done) | decide +kernel) | exact Jvm.Free.JP.mathPlain rfl (by decide +kernel) | decide +kernel
theorem ef_rec (m : MethodId) (ra : Addr) : entryFrame m #[(.ref ra)] 1 = mkF m 0 #[rv ra] [] := by first | (simp [entryFrame, mkF, argsToLocals, Value.category, maxLocals]; done) | rfl
def Q_rec (Z : State) (ra : Addr)  (h0 : Heap) (n0 : Nat) (v : Option Value) (h : Heap) (L : List Loc) : Prop := v = none ∧ Fr n0 L ∧ h = h0
set_option maxRecDepth 65536 in
set_option maxHeartbeats 40000000 in
theorem rm_rec (l : Launch) (Z : State) (a0 : Array Value) (hw : ∀ d ∈ tables_1, d.before a0 Z = true) (ws : List Jvm.Cond) (ra : Addr)  (h0 : Heap) (n0 : Nat) (Z0 : n0 ≤ h0.size)   :
    MetFree l (⟨"java/lang/Record", "<init>", "()V"⟩ : MethodName) (head1 (Jvm.Cond.code (⟨"java/lang/Record", "<init>", "()V"⟩ : MethodName) jdk_30_method_1_code 1 none :: ws) ({ frames := 1, cells := 0, slots := 0, locals := 12 } : Room)) (fun a U => a = #[(.ref ra)] ∧ Z.Warmed39 U.vm ∧ U.heap = h0) (fun _ _ _ _ _ => True) (fun _ U o U' => ∃ v L, o = .returned v ∧ Q_rec Z ra  h0 n0 v U'.heap L ∧ FrameEnd U o U' L ({ frames := 1, cells := 0, slots := 0, locals := 12 } : Room).cells ({ frames := 1, cells := 0, slots := 0, locals := 12 } : Room).slots) := by
  refine MetFree.of_bodySF pf_rec hisR ?_
  intro p e s m args below meth c s₁ Bd hml0 hP hK
  obtain ⟨rfl, hZ, hh⟩ := hP
  have hx := Bd.exec
  have hby := Bd.bytes
  have hml : c.maxLocals = 1 := hml0
  have hown : s.vm.findClass "java/lang/Record" = some m.cls := findClass_of_methodNamed Bd.named
  have hnm := (name_of_methodNamed Bd.named Bd.method).1
  have X0 : Stand p l e ({ frames := 1, cells := 0, slots := 0, locals := 12 } : Room) s m #[(.ref ra)] below meth c s₁ [] 0 0 := Stand.of_body Bd
  have e0 : s₁.heap = h0 := by rw [← hh, Bd.state]; rfl
  have N0 := Fr.nil n0
  obtain ⟨S0, hS0⟩ : ∃ z, z = s₁.setTop (entryFrame m #[(.ref ra)] 1) := ⟨_, rfl⟩
  rw [← hS0]
  have g0 : Goes p e below S0 (s₁.setTop (mkF m 0 #[rv ra] [])) := fun t k => by rw [hS0]; exact castTop (ef_rec m ra) k
  have g1 : Goes p e below S0 (s₁.setTop (mkF m 1 #[rv ra] [(.ref ra)])) := fun t k => g0 t (by
    refine XS.aloadN X0.here hx rfl (hb hby d2_0) rfl rfl ?_
    show Go p e below t s₁ m 1 #[rv ra] [(.ref ra)]
    exact k)
  obtain ⟨T2, X2, e2, st2⟩ := initO X0 hx hZ hown (hw _ (List.mem_of_getElem? (i := 18) rfl)) (hw _ (List.mem_of_getElem? (i := 19) rfl)) (hw _ (List.mem_of_getElem? (i := 20) rfl)) e0 (g := (mkF m 1 #[rv ra] [(.ref ra)])) rfl (by rw [hml]; rfl) rfl (hb hby d2_1) (by decide) (W := 0) (by show 2 * 0 + _ ≤ _; exact Nat.le_of_eq rfl) (by decide)
  have g3 : Goes p e below S0 (T2.setTop (mkF m 4 #[rv ra] [])) := fun t k => g1 t (st2 t k)
  obtain ⟨fs, hr, hrun, hended, hW, hsame⟩ := X2.leave (v := none) (fun _ => rfl)
  refine ⟨_, _, g3 _ (X2.returnOut hx Bd.returns (hb hby d2_4) hr), hrun, hended, _, _, rfl, ?_, ⟨_, rfl⟩, hW, hsame.mono (by decide) (by decide)⟩
  show Q_rec Z ra  h0 n0 _ T2.heap _
  rw [e2]
  exact ⟨rfl, N0, rfl⟩
theorem d1_0 : decode prog_48_method_1_code 0 = .ok (.aload_n 0, 1) := by decide +kernel
theorem d1_1 : decode prog_48_method_1_code 1 = .ok (.invokespecial 1, 3) := by decide +kernel
theorem d1_4 : decode prog_48_method_1_code 4 = .ok (.aload_n 0, 1) := by decide +kernel
theorem d1_5 : decode prog_48_method_1_code 5 = .ok (.iload_n 1, 1) := by decide +kernel
theorem d1_6 : decode prog_48_method_1_code 6 = .ok (.putfield 7, 3) := by decide +kernel
theorem d1_9 : decode prog_48_method_1_code 9 = .ok (.aload_n 0, 1) := by decide +kernel
theorem d1_10 : decode prog_48_method_1_code 10 = .ok (.aload_n 2, 1) := by decide +kernel
theorem d1_11 : decode prog_48_method_1_code 11 = .ok (.putfield 13, 3) := by decide +kernel
theorem d1_14 : decode prog_48_method_1_code 14 = .ok (.aload_n 0, 1) := by decide +kernel
theorem d1_15 : decode prog_48_method_1_code 15 = .ok (.aload_n 3, 1) := by decide +kernel
theorem d1_16 : decode prog_48_method_1_code 16 = .ok (.putfield 17, 3) := by decide +kernel
theorem d1_19 : decode prog_48_method_1_code 19 = .ok (.aload_n 0, 1) := by decide +kernel
theorem d1_20 : decode prog_48_method_1_code 20 = .ok (.dload 4, 2) := by decide +kernel
theorem d1_22 : decode prog_48_method_1_code 22 = .ok (.putfield 20, 3) := by decide +kernel
theorem d1_25 : decode prog_48_method_1_code 25 = .ok (.aload_n 0, 1) := by decide +kernel
theorem d1_26 : decode prog_48_method_1_code 26 = .ok (.iload 6, 2) := by decide +kernel
theorem d1_28 : decode prog_48_method_1_code 28 = .ok (.putfield 24, 3) := by decide +kernel
theorem d1_31 : decode prog_48_method_1_code 31 = .ok (.return_, 1) := by decide +kernel
theorem pd1 : parseMethodDescriptor "(I[I[IDZ)V" = some ⟨[.int, (.array .int), (.array .int), .double, .boolean], none⟩ := by decide +kernel
theorem pf_ini : plainFor (⟨"com/example/aristotle/aristotle/EliminationPlan$Step", "<init>", "(I[I[IDZ)V"⟩ : MethodName) = true := by first | exact plainFor_of_name (by first | (simp [plainName, overriddenIn, x]; done) | decide +kernel) | exact Jvm.Free.JP.mathPlain rfl (by decide +kernel) | decide +kernel
theorem ef_ini (m : MethodId) (ca : Addr) (cv : Int32) (ct : Addr) (cp : Addr) (cd : UInt64) (cm : Int32) : entryFrame m #[(.ref ca), (.int cv), (.ref ct), (.ref cp), (.double cd), (.int cm)] 7 = mkF m 0 #[rv ca, iv cv, rv ct, rv cp, .val (.double cd), .second, iv cm] [] := by first | (simp [entryFrame, mkF, argsToLocals, Value.category, maxLocals]; done) | rfl
def Q_ini (Z : State) (ca : Addr) (cv : Int32) (ct : Addr) (cp : Addr) (cd : UInt64) (cm : Int32)  (h0 : Heap) (n0 : Nat) (v : Option Value) (h : Heap) (L : List Loc) : Prop := v = none ∧ Fr n0 L ∧ (Keep h0 h [ca]) ∧ (Exa Z h ca "com/example/aristotle/aristotle/EliminationPlan$Step") ∧ (Fld Z h ca "com/example/aristotle/aristotle/EliminationPlan$Step" "variable" "I" (.int cv)) ∧ (Fld Z h ca "com/example/aristotle/aristotle/EliminationPlan$Step" "tables" "[I" (.ref ct)) ∧ (Fld Z h ca "com/example/aristotle/aristotle/EliminationPlan$Step" "product" "[I" (.ref cp)) ∧ (Fld Z h ca "com/example/aristotle/aristotle/EliminationPlan$Step" "entries" "D" (.double cd)) ∧ (Fld Z h ca "com/example/aristotle/aristotle/EliminationPlan$Step" "makes" "Z" (.int (nar .boolean cm)))
set_option maxRecDepth 65536 in
set_option maxHeartbeats 40000000 in
theorem rm_ini (l : Launch) (Z : State) (a0 : Array Value) (hw : ∀ d ∈ tables_1, d.before a0 Z = true) (ws : List Jvm.Cond) (ca : Addr) (cv : Int32) (ct : Addr) (cp : Addr) (cd : UInt64) (cm : Int32)  (h0 : Heap) (n0 : Nat) (Z0 : n0 ≤ h0.size) (P0 : Exa Z h0 ca "com/example/aristotle/aristotle/EliminationPlan$Step") (P1 : n0 ≤ ca) (P2 : Fld Z h0 ca "com/example/aristotle/aristotle/EliminationPlan$Step" "variable" "I" (.int (0 : Int32))) (P3 : Fld Z h0 ca "com/example/aristotle/aristotle/EliminationPlan$Step" "tables" "[I" .null) (P4 : Fld Z h0 ca "com/example/aristotle/aristotle/EliminationPlan$Step" "product" "[I" .null) (P5 : Fld Z h0 ca "com/example/aristotle/aristotle/EliminationPlan$Step" "entries" "D" (.double (0 : UInt64))) (P6 : Fld Z h0 ca "com/example/aristotle/aristotle/EliminationPlan$Step" "makes" "Z" (.int (0 : Int32)))  :
    MetFree l (⟨"com/example/aristotle/aristotle/EliminationPlan$Step", "<init>", "(I[I[IDZ)V"⟩ : MethodName) (head1 (Jvm.Cond.code (⟨"com/example/aristotle/aristotle/EliminationPlan$Step", "<init>", "(I[I[IDZ)V"⟩ : MethodName) prog_48_method_1_code 7 none :: ws) ({ frames := 2, cells := 0, slots := 0, locals := 24 } : Room)) (fun a U => a = #[(.ref ca), (.int cv), (.ref ct), (.ref cp), (.double cd), (.int cm)] ∧ Z.Warmed39 U.vm ∧ U.heap = h0) (fun _ _ _ _ _ => True) (fun _ U o U' => ∃ v L, o = .returned v ∧ Q_ini Z ca cv ct cp cd cm  h0 n0 v U'.heap L ∧ FrameEnd U o U' L ({ frames := 2, cells := 0, slots := 0, locals := 24 } : Room).cells ({ frames := 2, cells := 0, slots := 0, locals := 24 } : Room).slots) := by
  refine MetFree.of_bodySF pf_ini hisR ?_
  intro p e s m args below meth c s₁ Bd hml0 hP hK
  obtain ⟨rfl, hZ, hh⟩ := hP
  have hx := Bd.exec
  have hby := Bd.bytes
  have hml : c.maxLocals = 7 := hml0
  have hown : s.vm.findClass "com/example/aristotle/aristotle/EliminationPlan$Step" = some m.cls := findClass_of_methodNamed Bd.named
  have hnm := (name_of_methodNamed Bd.named Bd.method).1
  have X0 : Stand p l e ({ frames := 2, cells := 0, slots := 0, locals := 24 } : Room) s m #[(.ref ca), (.int cv), (.ref ct), (.ref cp), (.double cd), (.int cm)] below meth c s₁ [] 0 0 := Stand.of_body Bd
  have e0 : s₁.heap = h0 := by rw [← hh, Bd.state]; rfl
  have N0 := Fr.nil n0
  obtain ⟨S0, hS0⟩ : ∃ z, z = s₁.setTop (entryFrame m #[(.ref ca), (.int cv), (.ref ct), (.ref cp), (.double cd), (.int cm)] 7) := ⟨_, rfl⟩
  rw [← hS0]
  have g0 : Goes p e below S0 (s₁.setTop (mkF m 0 #[rv ca, iv cv, rv ct, rv cp, .val (.double cd), .second, iv cm] [])) := fun t k => by rw [hS0]; exact castTop (ef_ini m ca cv ct cp cd cm) k
  have g4 : Goes p e below S0 (s₁.setTop (mkF m 1 #[rv ca, iv cv, rv ct, rv cp, .val (.double cd), .second, iv cm] [(.ref ca)])) := fun t k => g0 t (by
    refine XS.aloadN X0.here hx rfl (hb hby d1_0) rfl rfl ?_
    show Go p e below t s₁ m 1 #[rv ca, iv cv, rv ct, rv cp, .val (.double cd), .second, iv cm] [(.ref ca)]
    exact k)
  obtain ⟨_, _, ⟨T5, L5, k5, n5⟩, -, X5, ⟨Lc5, hQ5, l5, y5, z5⟩, st5⟩ := X0.specialBack hx (y := (⟨"java/lang/Record", "<init>", "()V"⟩ : MethodName)) rfl hown (mvT hZ (hw _ (List.mem_of_getElem? (i := 13) rfl))) (mvT hZ (hw _ (List.mem_of_getElem? (i := 14) rfl))) (mvT hZ (hw _ (List.mem_of_getElem? (i := 17) rfl))) (by decide) (backOf (W := 0) (rm_rec l Z a0 hw [] ca  h0 n0 Z0 ) hZ (hw _ (List.mem_of_getElem? (i := 17) rfl)) (hw _ (List.mem_of_getElem? (i := 16) rfl)) (by decide) (by decide)) (g := (mkF m 1 #[rv ca, iv cv, rv ct, rv cp, .val (.double cd), .second, iv cm] [(.ref ca)])) rfl (by rw [hml]; rfl) (Steps.refl _) (a := ca) (argsL := []) (rest := []) (lenOf pd0 rfl) rfl (by show 2 * 0 + _ ≤ _; exact Nat.le_of_eq rfl) (hb hby d1_1) (fun _ _ => ⟨rfl, e0, (by decide : 0 + 0 ≤ _), (by decide : 0 + 0 ≤ _)⟩)
  dsimp only [Pt.U, Pt.locs, Pt.cells, Pt.slots] at X5 l5 y5 z5 st5 hQ5
  subst l5 y5 z5
  obtain ⟨rfl, N5, R5_0⟩ := hQ5
  have M5 := Fr.app N0 N5
  have g6 : Goes p e below S0 (T5.setTop (mkF m 4 #[rv ca, iv cv, rv ct, rv cp, .val (.double cd), .second, iv cm] [])) := fun t k => g4 t (st5.trans k)
  have g7 : Goes p e below S0 (T5.setTop (mkF m 6 #[rv ca, iv cv, rv ct, rv cp, .val (.double cd), .second, iv cm] [(.int cv), (.ref ca)])) := fun t k => g6 t (by
    refine XS.aloadN X5.here hx rfl (hb hby d1_4) rfl rfl ?_
    show Go p e below t T5 m 5 #[rv ca, iv cv, rv ct, rv cp, .val (.double cd), .second, iv cm] [(.ref ca)]
    refine XS.iloadN X5.here hx rfl (hb hby d1_5) rfl ?_
    show Go p e below t T5 m 6 #[rv ca, iv cv, rv ct, rv cp, .val (.double cd), .second, iv cm] [(.int cv), (.ref ca)]
    exact k)
  obtain ⟨T8, h8, X8, e8, W8, st8⟩ := putF X5 hx hZ hown (host := "") (Or.inl (hw _ (List.mem_of_getElem? (i := 21) rfl))) Via.refl R5_0 P2 P0 (Or.inr ⟨(hw _ (List.mem_of_getElem? (i := 22) rfl)), rfl, hnm⟩) (hw _ (List.mem_of_getElem? (i := 8) rfl)) (ty := .int) (by decide) rfl rfl (g := (mkF m 6 #[rv ca, iv cv, rv ct, rv cp, .val (.double cd), .second, iv cm] [(.int cv), (.ref ca)])) rfl rfl (hb hby d1_6)
  have N8 := Fr.snoc X8 M5 P1
  have Fw8 := Fld.same W8 P2
  have g9 : Goes p e below S0 (T8.setTop (mkF m 9 #[rv ca, iv cv, rv ct, rv cp, .val (.double cd), .second, iv cm] [])) := fun t k => g7 t (st8 t k)
  have g10 : Goes p e below S0 (T8.setTop (mkF m 11 #[rv ca, iv cv, rv ct, rv cp, .val (.double cd), .second, iv cm] [(.ref ct), (.ref ca)])) := fun t k => g9 t (by
    refine XS.aloadN X8.here hx rfl (hb hby d1_9) rfl rfl ?_
    show Go p e below t T8 m 10 #[rv ca, iv cv, rv ct, rv cp, .val (.double cd), .second, iv cm] [(.ref ca)]
    refine XS.aloadN X8.here hx rfl (hb hby d1_10) rfl rfl ?_
    show Go p e below t T8 m 11 #[rv ca, iv cv, rv ct, rv cp, .val (.double cd), .second, iv cm] [(.ref ct), (.ref ca)]
    exact k)
  obtain ⟨T11, h11, X11, e11, W11, st11⟩ := putF X8 hx hZ hown (host := "") (Or.inl (hw _ (List.mem_of_getElem? (i := 23) rfl))) Via.refl e8 (P3.other W8 (Or.inr (slot_ne (Or.inr (hw _ (List.mem_of_getElem? (i := 24) rfl))) (Or.inr (hw _ (List.mem_of_getElem? (i := 22) rfl))) (by decide) (t := (.array .int)) (t' := .int) (by decide) (by decide)))) (P0.wr W8) (Or.inr ⟨(hw _ (List.mem_of_getElem? (i := 24) rfl)), rfl, hnm⟩) (hw _ (List.mem_of_getElem? (i := 8) rfl)) (ty := (.array .int)) (by decide) rfl rfl (g := (mkF m 11 #[rv ca, iv cv, rv ct, rv cp, .val (.double cd), .second, iv cm] [(.ref ct), (.ref ca)])) rfl rfl (hb hby d1_11)
  have N11 := Fr.snoc X11 N8 P1
  have Fw11 := Fld.same W11 (P3.other W8 (Or.inr (slot_ne (Or.inr (hw _ (List.mem_of_getElem? (i := 24) rfl))) (Or.inr (hw _ (List.mem_of_getElem? (i := 22) rfl))) (by decide) (t := (.array .int)) (t' := .int) (by decide) (by decide))))
  have g12 : Goes p e below S0 (T11.setTop (mkF m 14 #[rv ca, iv cv, rv ct, rv cp, .val (.double cd), .second, iv cm] [])) := fun t k => g10 t (st11 t k)
  have g13 : Goes p e below S0 (T11.setTop (mkF m 16 #[rv ca, iv cv, rv ct, rv cp, .val (.double cd), .second, iv cm] [(.ref cp), (.ref ca)])) := fun t k => g12 t (by
    refine XS.aloadN X11.here hx rfl (hb hby d1_14) rfl rfl ?_
    show Go p e below t T11 m 15 #[rv ca, iv cv, rv ct, rv cp, .val (.double cd), .second, iv cm] [(.ref ca)]
    refine XS.aloadN X11.here hx rfl (hb hby d1_15) rfl rfl ?_
    show Go p e below t T11 m 16 #[rv ca, iv cv, rv ct, rv cp, .val (.double cd), .second, iv cm] [(.ref cp), (.ref ca)]
    exact k)
  obtain ⟨T14, h14, X14, e14, W14, st14⟩ := putF X11 hx hZ hown (host := "") (Or.inl (hw _ (List.mem_of_getElem? (i := 25) rfl))) Via.refl e11 ((P4.other W8 (Or.inr (slot_ne (Or.inr (hw _ (List.mem_of_getElem? (i := 26) rfl))) (Or.inr (hw _ (List.mem_of_getElem? (i := 22) rfl))) (by decide) (t := (.array .int)) (t' := .int) (by decide) (by decide)))).other W11 (Or.inr (slot_ne (Or.inr (hw _ (List.mem_of_getElem? (i := 26) rfl))) (Or.inr (hw _ (List.mem_of_getElem? (i := 24) rfl))) (by decide) (t := (.array .int)) (t' := (.array .int)) (by decide) (by decide)))) ((P0.wr W8).wr W11) (Or.inr ⟨(hw _ (List.mem_of_getElem? (i := 26) rfl)), rfl, hnm⟩) (hw _ (List.mem_of_getElem? (i := 8) rfl)) (ty := (.array .int)) (by decide) rfl rfl (g := (mkF m 16 #[rv ca, iv cv, rv ct, rv cp, .val (.double cd), .second, iv cm] [(.ref cp), (.ref ca)])) rfl rfl (hb hby d1_16)
  have N14 := Fr.snoc X14 N11 P1
  have Fw14 := Fld.same W14 ((P4.other W8 (Or.inr (slot_ne (Or.inr (hw _ (List.mem_of_getElem? (i := 26) rfl))) (Or.inr (hw _ (List.mem_of_getElem? (i := 22) rfl))) (by decide) (t := (.array .int)) (t' := .int) (by decide) (by decide)))).other W11 (Or.inr (slot_ne (Or.inr (hw _ (List.mem_of_getElem? (i := 26) rfl))) (Or.inr (hw _ (List.mem_of_getElem? (i := 24) rfl))) (by decide) (t := (.array .int)) (t' := (.array .int)) (by decide) (by decide))))
  have g15 : Goes p e below S0 (T14.setTop (mkF m 19 #[rv ca, iv cv, rv ct, rv cp, .val (.double cd), .second, iv cm] [])) := fun t k => g13 t (st14 t k)
  have g16 : Goes p e below S0 (T14.setTop (mkF m 22 #[rv ca, iv cv, rv ct, rv cp, .val (.double cd), .second, iv cm] [(.double cd), (.ref ca)])) := fun t k => g15 t (by
    refine XS.aloadN X14.here hx rfl (hb hby d1_19) rfl rfl ?_
    show Go p e below t T14 m 20 #[rv ca, iv cv, rv ct, rv cp, .val (.double cd), .second, iv cm] [(.ref ca)]
    refine XS.dload X14.here hx rfl (hb hby d1_20) rfl ?_
    show Go p e below t T14 m 22 #[rv ca, iv cv, rv ct, rv cp, .val (.double cd), .second, iv cm] [(.double cd), (.ref ca)]
    exact k)
  obtain ⟨T17, h17, X17, e17, W17, st17⟩ := putF X14 hx hZ hown (host := "") (Or.inl (hw _ (List.mem_of_getElem? (i := 27) rfl))) Via.refl e14 (((P5.other W8 (Or.inr (slot_ne (Or.inr (hw _ (List.mem_of_getElem? (i := 28) rfl))) (Or.inr (hw _ (List.mem_of_getElem? (i := 22) rfl))) (by decide) (t := .double) (t' := .int) (by decide) (by decide)))).other W11 (Or.inr (slot_ne (Or.inr (hw _ (List.mem_of_getElem? (i := 28) rfl))) (Or.inr (hw _ (List.mem_of_getElem? (i := 24) rfl))) (by decide) (t := .double) (t' := (.array .int)) (by decide) (by decide)))).other W14 (Or.inr (slot_ne (Or.inr (hw _ (List.mem_of_getElem? (i := 28) rfl))) (Or.inr (hw _ (List.mem_of_getElem? (i := 26) rfl))) (by decide) (t := .double) (t' := (.array .int)) (by decide) (by decide)))) (((P0.wr W8).wr W11).wr W14) (Or.inr ⟨(hw _ (List.mem_of_getElem? (i := 28) rfl)), rfl, hnm⟩) (hw _ (List.mem_of_getElem? (i := 8) rfl)) (ty := .double) (by decide) rfl rfl (g := (mkF m 22 #[rv ca, iv cv, rv ct, rv cp, .val (.double cd), .second, iv cm] [(.double cd), (.ref ca)])) rfl rfl (hb hby d1_22)
  have N17 := Fr.snoc X17 N14 P1
  have Fw17 := Fld.same W17 (((P5.other W8 (Or.inr (slot_ne (Or.inr (hw _ (List.mem_of_getElem? (i := 28) rfl))) (Or.inr (hw _ (List.mem_of_getElem? (i := 22) rfl))) (by decide) (t := .double) (t' := .int) (by decide) (by decide)))).other W11 (Or.inr (slot_ne (Or.inr (hw _ (List.mem_of_getElem? (i := 28) rfl))) (Or.inr (hw _ (List.mem_of_getElem? (i := 24) rfl))) (by decide) (t := .double) (t' := (.array .int)) (by decide) (by decide)))).other W14 (Or.inr (slot_ne (Or.inr (hw _ (List.mem_of_getElem? (i := 28) rfl))) (Or.inr (hw _ (List.mem_of_getElem? (i := 26) rfl))) (by decide) (t := .double) (t' := (.array .int)) (by decide) (by decide))))
  have g18 : Goes p e below S0 (T17.setTop (mkF m 25 #[rv ca, iv cv, rv ct, rv cp, .val (.double cd), .second, iv cm] [])) := fun t k => g16 t (st17 t k)
  have g19 : Goes p e below S0 (T17.setTop (mkF m 28 #[rv ca, iv cv, rv ct, rv cp, .val (.double cd), .second, iv cm] [(.int cm), (.ref ca)])) := fun t k => g18 t (by
    refine XS.aloadN X17.here hx rfl (hb hby d1_25) rfl rfl ?_
    show Go p e below t T17 m 26 #[rv ca, iv cv, rv ct, rv cp, .val (.double cd), .second, iv cm] [(.ref ca)]
    refine XS.iload X17.here hx rfl (hb hby d1_26) rfl ?_
    show Go p e below t T17 m 28 #[rv ca, iv cv, rv ct, rv cp, .val (.double cd), .second, iv cm] [(.int cm), (.ref ca)]
    exact k)
  obtain ⟨T20, h20, X20, e20, W20, st20⟩ := putFN X17 hx hZ hown (hw _ (List.mem_of_getElem? (i := 29) rfl)) Via.refl e17 ((((P6.other W8 (Or.inr (slot_ne (Or.inr (hw _ (List.mem_of_getElem? (i := 30) rfl))) (Or.inr (hw _ (List.mem_of_getElem? (i := 22) rfl))) (by decide) (t := .boolean) (t' := .int) (by decide) (by decide)))).other W11 (Or.inr (slot_ne (Or.inr (hw _ (List.mem_of_getElem? (i := 30) rfl))) (Or.inr (hw _ (List.mem_of_getElem? (i := 24) rfl))) (by decide) (t := .boolean) (t' := (.array .int)) (by decide) (by decide)))).other W14 (Or.inr (slot_ne (Or.inr (hw _ (List.mem_of_getElem? (i := 30) rfl))) (Or.inr (hw _ (List.mem_of_getElem? (i := 26) rfl))) (by decide) (t := .boolean) (t' := (.array .int)) (by decide) (by decide)))).other W17 (Or.inr (slot_ne (Or.inr (hw _ (List.mem_of_getElem? (i := 30) rfl))) (Or.inr (hw _ (List.mem_of_getElem? (i := 28) rfl))) (by decide) (t := .boolean) (t' := .double) (by decide) (by decide)))) ((((P0.wr W8).wr W11).wr W14).wr W17) (Or.inr ⟨(hw _ (List.mem_of_getElem? (i := 30) rfl)), rfl, hnm⟩) (hw _ (List.mem_of_getElem? (i := 8) rfl)) (ty := .boolean) (v' := (.int (nar .boolean cm))) (by decide) rfl (fits_nar_bool _) (g := (mkF m 28 #[rv ca, iv cv, rv ct, rv cp, .val (.double cd), .second, iv cm] [(.int cm), (.ref ca)])) rfl rfl (hb hby d1_28)
  have N20 := Fr.snoc X20 N17 P1
  have Fw20 := Fld.same W20 ((((P6.other W8 (Or.inr (slot_ne (Or.inr (hw _ (List.mem_of_getElem? (i := 30) rfl))) (Or.inr (hw _ (List.mem_of_getElem? (i := 22) rfl))) (by decide) (t := .boolean) (t' := .int) (by decide) (by decide)))).other W11 (Or.inr (slot_ne (Or.inr (hw _ (List.mem_of_getElem? (i := 30) rfl))) (Or.inr (hw _ (List.mem_of_getElem? (i := 24) rfl))) (by decide) (t := .boolean) (t' := (.array .int)) (by decide) (by decide)))).other W14 (Or.inr (slot_ne (Or.inr (hw _ (List.mem_of_getElem? (i := 30) rfl))) (Or.inr (hw _ (List.mem_of_getElem? (i := 26) rfl))) (by decide) (t := .boolean) (t' := (.array .int)) (by decide) (by decide)))).other W17 (Or.inr (slot_ne (Or.inr (hw _ (List.mem_of_getElem? (i := 30) rfl))) (Or.inr (hw _ (List.mem_of_getElem? (i := 28) rfl))) (by decide) (t := .boolean) (t' := .double) (by decide) (by decide))))
  have g21 : Goes p e below S0 (T20.setTop (mkF m 31 #[rv ca, iv cv, rv ct, rv cp, .val (.double cd), .second, iv cm] [])) := fun t k => g19 t (st20 t k)
  obtain ⟨fs, hr, hrun, hended, hW, hsame⟩ := X20.leave (v := none) (fun _ => rfl)
  refine ⟨_, _, g21 _ (X20.returnOut hx Bd.returns (hb hby d1_31) hr), hrun, hended, _, _, rfl, ?_, ⟨_, rfl⟩, hW, hsame.mono (by decide) (by decide)⟩
  show Q_ini Z ca cv ct cp cd cm  h0 n0 _ T20.heap _
  rw [e20]
  exact ⟨rfl, N20, ((((((Keep.refl h0 [ca]).wr W8 (Or.inl (List.mem_of_getElem? (i := 0) rfl))).wr W11 (Or.inl (List.mem_of_getElem? (i := 0) rfl))).wr W14 (Or.inl (List.mem_of_getElem? (i := 0) rfl))).wr W17 (Or.inl (List.mem_of_getElem? (i := 0) rfl))).wr W20 (Or.inl (List.mem_of_getElem? (i := 0) rfl))), (((((P0.wr W8).wr W11).wr W14).wr W17).wr W20), ((((Fw8.other W11 (Or.inr (slot_ne (Or.inr (hw _ (List.mem_of_getElem? (i := 22) rfl))) (Or.inr (hw _ (List.mem_of_getElem? (i := 24) rfl))) (by decide) (t := .int) (t' := (.array .int)) (by decide) (by decide)))).other W14 (Or.inr (slot_ne (Or.inr (hw _ (List.mem_of_getElem? (i := 22) rfl))) (Or.inr (hw _ (List.mem_of_getElem? (i := 26) rfl))) (by decide) (t := .int) (t' := (.array .int)) (by decide) (by decide)))).other W17 (Or.inr (slot_ne (Or.inr (hw _ (List.mem_of_getElem? (i := 22) rfl))) (Or.inr (hw _ (List.mem_of_getElem? (i := 28) rfl))) (by decide) (t := .int) (t' := .double) (by decide) (by decide)))).other W20 (Or.inr (slot_ne (Or.inr (hw _ (List.mem_of_getElem? (i := 22) rfl))) (Or.inr (hw _ (List.mem_of_getElem? (i := 30) rfl))) (by decide) (t := .int) (t' := .boolean) (by decide) (by decide)))), (((Fw11.other W14 (Or.inr (slot_ne (Or.inr (hw _ (List.mem_of_getElem? (i := 24) rfl))) (Or.inr (hw _ (List.mem_of_getElem? (i := 26) rfl))) (by decide) (t := (.array .int)) (t' := (.array .int)) (by decide) (by decide)))).other W17 (Or.inr (slot_ne (Or.inr (hw _ (List.mem_of_getElem? (i := 24) rfl))) (Or.inr (hw _ (List.mem_of_getElem? (i := 28) rfl))) (by decide) (t := (.array .int)) (t' := .double) (by decide) (by decide)))).other W20 (Or.inr (slot_ne (Or.inr (hw _ (List.mem_of_getElem? (i := 24) rfl))) (Or.inr (hw _ (List.mem_of_getElem? (i := 30) rfl))) (by decide) (t := (.array .int)) (t' := .boolean) (by decide) (by decide)))), ((Fw14.other W17 (Or.inr (slot_ne (Or.inr (hw _ (List.mem_of_getElem? (i := 26) rfl))) (Or.inr (hw _ (List.mem_of_getElem? (i := 28) rfl))) (by decide) (t := (.array .int)) (t' := .double) (by decide) (by decide)))).other W20 (Or.inr (slot_ne (Or.inr (hw _ (List.mem_of_getElem? (i := 26) rfl))) (Or.inr (hw _ (List.mem_of_getElem? (i := 30) rfl))) (by decide) (t := (.array .int)) (t' := .boolean) (by decide) (by decide)))), (Fw17.other W20 (Or.inr (slot_ne (Or.inr (hw _ (List.mem_of_getElem? (i := 28) rfl))) (Or.inr (hw _ (List.mem_of_getElem? (i := 30) rfl))) (by decide) (t := .double) (t' := .boolean) (by decide) (by decide)))), Fw20⟩
theorem d0_0 : decode method_3_code 0 = .ok (.iload_n 1, 1) := by decide +kernel
theorem d0_1 : decode method_3_code 1 = .ok (.iconst 1, 1) := by decide +kernel
theorem d0_2 : decode method_3_code 2 = .ok (.if_icmp .ne 13, 3) := by decide +kernel
theorem d0_5 : decode method_3_code 5 = .ok (.iconst 1, 1) := by decide +kernel
theorem d0_6 : decode method_3_code 6 = .ok (.newarray .int, 2) := by decide +kernel
theorem d0_8 : decode method_3_code 8 = .ok (.dup, 1) := by decide +kernel
theorem d0_9 : decode method_3_code 9 = .ok (.iconst 0, 1) := by decide +kernel
theorem d0_10 : decode method_3_code 10 = .ok (.aload_n 0, 1) := by decide +kernel
theorem d0_11 : decode method_3_code 11 = .ok (.iconst 0, 1) := by decide +kernel
theorem d0_12 : decode method_3_code 12 = .ok (.iaload, 1) := by decide +kernel
theorem d0_13 : decode method_3_code 13 = .ok (.iastore, 1) := by decide +kernel
theorem d0_14 : decode method_3_code 14 = .ok (.areturn, 1) := by decide +kernel
theorem d0_15 : decode method_3_code 15 = .ok (.iload_n 1, 1) := by decide +kernel
theorem d0_16 : decode method_3_code 16 = .ok (.iconst 2, 1) := by decide +kernel
theorem d0_17 : decode method_3_code 17 = .ok (.if_icmp .ne 19, 3) := by decide +kernel
theorem d0_20 : decode method_3_code 20 = .ok (.iconst 2, 1) := by decide +kernel
theorem d0_21 : decode method_3_code 21 = .ok (.newarray .int, 2) := by decide +kernel
theorem d0_23 : decode method_3_code 23 = .ok (.dup, 1) := by decide +kernel
theorem d0_24 : decode method_3_code 24 = .ok (.iconst 0, 1) := by decide +kernel
theorem d0_25 : decode method_3_code 25 = .ok (.aload_n 0, 1) := by decide +kernel
theorem d0_26 : decode method_3_code 26 = .ok (.iconst 0, 1) := by decide +kernel
theorem d0_27 : decode method_3_code 27 = .ok (.iaload, 1) := by decide +kernel
theorem d0_28 : decode method_3_code 28 = .ok (.iastore, 1) := by decide +kernel
theorem d0_29 : decode method_3_code 29 = .ok (.dup, 1) := by decide +kernel
theorem d0_30 : decode method_3_code 30 = .ok (.iconst 1, 1) := by decide +kernel
theorem d0_31 : decode method_3_code 31 = .ok (.aload_n 0, 1) := by decide +kernel
theorem d0_32 : decode method_3_code 32 = .ok (.iconst 1, 1) := by decide +kernel
theorem d0_33 : decode method_3_code 33 = .ok (.iaload, 1) := by decide +kernel
theorem d0_34 : decode method_3_code 34 = .ok (.iastore, 1) := by decide +kernel
theorem d0_35 : decode method_3_code 35 = .ok (.areturn, 1) := by decide +kernel
theorem d0_36 : decode method_3_code 36 = .ok (.iload_n 1, 1) := by decide +kernel
theorem d0_37 : decode method_3_code 37 = .ok (.iconst 3, 1) := by decide +kernel
theorem d0_38 : decode method_3_code 38 = .ok (.if_icmp .ne 25, 3) := by decide +kernel
theorem d0_41 : decode method_3_code 41 = .ok (.iconst 3, 1) := by decide +kernel
theorem d0_42 : decode method_3_code 42 = .ok (.newarray .int, 2) := by decide +kernel
theorem d0_44 : decode method_3_code 44 = .ok (.dup, 1) := by decide +kernel
theorem d0_45 : decode method_3_code 45 = .ok (.iconst 0, 1) := by decide +kernel
theorem d0_46 : decode method_3_code 46 = .ok (.aload_n 0, 1) := by decide +kernel
theorem d0_47 : decode method_3_code 47 = .ok (.iconst 0, 1) := by decide +kernel
theorem d0_48 : decode method_3_code 48 = .ok (.iaload, 1) := by decide +kernel
theorem d0_49 : decode method_3_code 49 = .ok (.iastore, 1) := by decide +kernel
theorem d0_50 : decode method_3_code 50 = .ok (.dup, 1) := by decide +kernel
theorem d0_51 : decode method_3_code 51 = .ok (.iconst 1, 1) := by decide +kernel
theorem d0_52 : decode method_3_code 52 = .ok (.aload_n 0, 1) := by decide +kernel
theorem d0_53 : decode method_3_code 53 = .ok (.iconst 1, 1) := by decide +kernel
theorem d0_54 : decode method_3_code 54 = .ok (.iaload, 1) := by decide +kernel
theorem d0_55 : decode method_3_code 55 = .ok (.iastore, 1) := by decide +kernel
theorem d0_56 : decode method_3_code 56 = .ok (.dup, 1) := by decide +kernel
theorem d0_57 : decode method_3_code 57 = .ok (.iconst 2, 1) := by decide +kernel
theorem d0_58 : decode method_3_code 58 = .ok (.aload_n 0, 1) := by decide +kernel
theorem d0_59 : decode method_3_code 59 = .ok (.iconst 2, 1) := by decide +kernel
theorem d0_60 : decode method_3_code 60 = .ok (.iaload, 1) := by decide +kernel
theorem d0_61 : decode method_3_code 61 = .ok (.iastore, 1) := by decide +kernel
theorem d0_62 : decode method_3_code 62 = .ok (.areturn, 1) := by decide +kernel
theorem d0_63 : decode method_3_code 63 = .ok (.iconst 4, 1) := by decide +kernel
theorem d0_64 : decode method_3_code 64 = .ok (.newarray .int, 2) := by decide +kernel
theorem d0_66 : decode method_3_code 66 = .ok (.dup, 1) := by decide +kernel
theorem d0_67 : decode method_3_code 67 = .ok (.iconst 0, 1) := by decide +kernel
theorem d0_68 : decode method_3_code 68 = .ok (.aload_n 0, 1) := by decide +kernel
theorem d0_69 : decode method_3_code 69 = .ok (.iconst 0, 1) := by decide +kernel
theorem d0_70 : decode method_3_code 70 = .ok (.iaload, 1) := by decide +kernel
theorem d0_71 : decode method_3_code 71 = .ok (.iastore, 1) := by decide +kernel
theorem d0_72 : decode method_3_code 72 = .ok (.dup, 1) := by decide +kernel
theorem d0_73 : decode method_3_code 73 = .ok (.iconst 1, 1) := by decide +kernel
theorem d0_74 : decode method_3_code 74 = .ok (.aload_n 0, 1) := by decide +kernel
theorem d0_75 : decode method_3_code 75 = .ok (.iconst 1, 1) := by decide +kernel
theorem d0_76 : decode method_3_code 76 = .ok (.iaload, 1) := by decide +kernel
theorem d0_77 : decode method_3_code 77 = .ok (.iastore, 1) := by decide +kernel
theorem d0_78 : decode method_3_code 78 = .ok (.dup, 1) := by decide +kernel
theorem d0_79 : decode method_3_code 79 = .ok (.iconst 2, 1) := by decide +kernel
theorem d0_80 : decode method_3_code 80 = .ok (.aload_n 0, 1) := by decide +kernel
theorem d0_81 : decode method_3_code 81 = .ok (.iconst 2, 1) := by decide +kernel
theorem d0_82 : decode method_3_code 82 = .ok (.iaload, 1) := by decide +kernel
theorem d0_83 : decode method_3_code 83 = .ok (.iastore, 1) := by decide +kernel
theorem d0_84 : decode method_3_code 84 = .ok (.dup, 1) := by decide +kernel
theorem d0_85 : decode method_3_code 85 = .ok (.iconst 3, 1) := by decide +kernel
theorem d0_86 : decode method_3_code 86 = .ok (.aload_n 0, 1) := by decide +kernel
theorem d0_87 : decode method_3_code 87 = .ok (.iconst 3, 1) := by decide +kernel
theorem d0_88 : decode method_3_code 88 = .ok (.iaload, 1) := by decide +kernel
theorem d0_89 : decode method_3_code 89 = .ok (.iastore, 1) := by decide +kernel
theorem d0_90 : decode method_3_code 90 = .ok (.areturn, 1) := by decide +kernel
theorem pd2 : parseMethodDescriptor "([II)[I" = some ⟨[(.array .int), .int], some (.array .int)⟩ := by decide +kernel
theorem pf_pr1 : plainFor (⟨"com/example/aristotle/aristotle/StepMadePinLaw", "prefix", "([II)[I"⟩ : MethodName) = true := by first | exact plainFor_of_name (by first | (simp [plainName, overriddenIn, x]; done) | decide +kernel) | exact Jvm.Free.JP.mathPlain rfl (by decide +kernel) | decide +kernel
theorem ef_pr1 (m : MethodId) (qa : Addr) (xn : Int32) : entryFrame m #[(.ref qa), (.int xn)] 2 = mkF m 0 #[rv qa, iv xn] [] := by first | (simp [entryFrame, mkF, argsToLocals, Value.category, maxLocals]; done) | rfl
def Q_pr1 (Z : State) (qa : Addr) (xn : Int32) (qk : ClassId) (p0 : Int32) (p1 : Int32) (p2 : Int32) (p3 : Int32) (h0 : Heap) (n0 : Nat) (v : Option Value) (h : Heap) (L : List Loc) : Prop := ∃ (ra : Addr) (rk : ClassId), v = some (.ref ra) ∧ Fr n0 L ∧ (Keep h0 h []) ∧ (Arv Z h ra rk .int (1 : Int32) [(.int p0)] (.int (0 : Int32))) ∧ (h0.size ≤ ra)
set_option maxRecDepth 65536 in
set_option maxHeartbeats 40000000 in
theorem rm_pr1 (l : Launch) (Z : State) (a0 : Array Value) (hw : ∀ d ∈ tables_1, d.before a0 Z = true) (ws : List Jvm.Cond) (qa : Addr) (xn : Int32) (qk : ClassId) (p0 : Int32) (p1 : Int32) (p2 : Int32) (p3 : Int32) (h0 : Heap) (n0 : Nat) (Z0 : n0 ≤ h0.size) (P0 : Arv Z h0 qa qk .int (4 : Int32) [(.int p0), (.int p1), (.int p2), (.int p3)] (.int (0 : Int32))) (hn : xn = (1 : Int32))  :
    MetFree l (⟨"com/example/aristotle/aristotle/StepMadePinLaw", "prefix", "([II)[I"⟩ : MethodName) (head1 (Jvm.Cond.code (⟨"com/example/aristotle/aristotle/StepMadePinLaw", "prefix", "([II)[I"⟩ : MethodName) method_3_code 2 (some (.array .int)) :: ws) ({ frames := 0, cells := 1, slots := 1, locals := 0 } : Room)) (fun a U => a = #[(.ref qa), (.int xn)] ∧ Z.Warmed39 U.vm ∧ U.heap = h0) (fun _ _ _ _ _ => True) (fun _ U o U' => ∃ v L, o = .returned v ∧ Q_pr1 Z qa xn qk p0 p1 p2 p3 h0 n0 v U'.heap L ∧ FrameEnd U o U' L ({ frames := 0, cells := 1, slots := 1, locals := 0 } : Room).cells ({ frames := 0, cells := 1, slots := 1, locals := 0 } : Room).slots) := by
  refine MetFree.of_bodySF pf_pr1 hisR ?_
  intro p e s m args below meth c s₁ Bd hml0 hP hK
  obtain ⟨rfl, hZ, hh⟩ := hP
  have hx := Bd.exec
  have hby := Bd.bytes
  have hml : c.maxLocals = 2 := hml0
  have hown : s.vm.findClass "com/example/aristotle/aristotle/StepMadePinLaw" = some m.cls := findClass_of_methodNamed Bd.named
  have hnm := (name_of_methodNamed Bd.named Bd.method).1
  have X0 : Stand p l e ({ frames := 0, cells := 1, slots := 1, locals := 0 } : Room) s m #[(.ref qa), (.int xn)] below meth c s₁ [] 0 0 := Stand.of_body Bd
  have e0 : s₁.heap = h0 := by rw [← hh, Bd.state]; rfl
  have N0 := Fr.nil n0
  obtain ⟨S0, hS0⟩ : ∃ z, z = s₁.setTop (entryFrame m #[(.ref qa), (.int xn)] 2) := ⟨_, rfl⟩
  rw [← hS0]
  have g0 : Goes p e below S0 (s₁.setTop (mkF m 0 #[rv qa, iv xn] [])) := fun t k => by rw [hS0]; exact castTop (ef_pr1 m qa xn) k
  have g22 : Goes p e below S0 (s₁.setTop (mkF m 6 #[rv qa, iv xn] [(.int (1 : Int32))])) := fun t k => g0 t (by
    refine XS.iloadN X0.here hx rfl (hb hby d0_0) rfl ?_
    show Go p e below t s₁ m 1 #[rv qa, iv xn] [(.int xn)]
    refine XT.iconstV X0.here hx rfl (1 : Int32) (hb hby d0_1) (by decide) ?_
    show Go p e below t s₁ m 2 #[rv qa, iv xn] [(.int (1 : Int32)), (.int xn)]
    refine XS.icmpNo X0.here hx rfl (hb hby d0_2) rfl (XT.ii_ne_f hn) ?_
    show Go p e below t s₁ m 5 #[rv qa, iv xn] []
    refine XT.iconstV X0.here hx rfl (1 : Int32) (hb hby d0_5) (by decide) ?_
    show Go p e below t s₁ m 6 #[rv qa, iv xn] [(.int (1 : Int32))]
    exact k)
  obtain ⟨T23, h23, k23, X23, e23, E23, A23, st23⟩ := newP X0 hx hZ (hw _ (List.mem_of_getElem? (i := 1) rfl)) e0 (g := (mkF m 6 #[rv qa, iv xn] [(.int (1 : Int32))])) rfl (hb hby d0_6) rfl (by decide) (cap := 1) (by decide) (by decide) (by decide) (by decide)
  obtain ⟨b23, gb23⟩ : ∃ z, z = h0.size := ⟨_, rfl⟩
  have sz23 : h0.size ≤ b23 := Nat.le_trans (Nat.le_refl _) (Nat.le_of_eq gb23.symm)
  have ng23 : n0 ≤ b23 := Nat.le_trans Z0 sz23
  rw [← gb23] at A23 st23
  have V23 : Arv Z h23 b23 k23 .int (1 : Int32) [(.int (0 : Int32))] (.int (0 : Int32)) := (Arv.new A23 (by decide)).pad (pad_rep [] (.int (0 : Int32)) 1)
  have g24 : Goes p e below S0 (T23.setTop (mkF m 8 #[rv qa, iv xn] [(.ref b23)])) := fun t k => g22 t (st23 t k)
  have g25 : Goes p e below S0 (T23.setTop (mkF m 12 #[rv qa, iv xn] [(.int (0 : Int32)), (.ref qa), (.int (0 : Int32)), (.ref b23), (.ref b23)])) := fun t k => g24 t (by
    refine XS.dup X23.here hx rfl (hb hby d0_8) rfl rfl ?_
    show Go p e below t T23 m 9 #[rv qa, iv xn] [(.ref b23), (.ref b23)]
    refine XT.iconstV X23.here hx rfl (0 : Int32) (hb hby d0_9) (by decide) ?_
    show Go p e below t T23 m 10 #[rv qa, iv xn] [(.int (0 : Int32)), (.ref b23), (.ref b23)]
    refine XS.aloadN X23.here hx rfl (hb hby d0_10) rfl rfl ?_
    show Go p e below t T23 m 11 #[rv qa, iv xn] [(.ref qa), (.int (0 : Int32)), (.ref b23), (.ref b23)]
    refine XT.iconstV X23.here hx rfl (0 : Int32) (hb hby d0_11) (by decide) ?_
    show Go p e below t T23 m 12 #[rv qa, iv xn] [(.int (0 : Int32)), (.ref qa), (.int (0 : Int32)), (.ref b23), (.ref b23)]
    exact k)
  obtain ⟨cl26, Ar26, q26, S26, M26, H26, G26⟩ := id (P0.ext E23)
  have g27 : Goes p e below S0 (T23.setTop (mkF m 13 #[rv qa, iv xn] [(.int p0), (.int (0 : Int32)), (.ref b23), (.ref b23)])) := fun t k => g25 t (by
    refine X23.iaload hx (j := (0 : Int32)) (v := (.int p0)) (by rw [e23]; exact Ar26.1) (State.isArrayOf_alike hZ.alike Ar26.2.1) Ar26.2.2 (inb_of S26 ⟨by decide, by decide⟩) (H26.at (inb_of S26 ⟨by decide, by decide⟩) rfl) (g := (mkF m 12 #[rv qa, iv xn] [(.int (0 : Int32)), (.ref qa), (.int (0 : Int32)), (.ref b23), (.ref b23)])) rfl rfl (hb hby d0_12) _ ?_
    show Go p e below t T23 m 13 #[rv qa, iv xn] [(.int p0), (.int (0 : Int32)), (.ref b23), (.ref b23)]
    exact k)
  obtain ⟨cl28, Ar28, q28, S28, M28, H28, G28⟩ := id V23
  obtain ⟨T29, h29, X29, e29, W29, st29⟩ := stI X23 hx hZ e23 Ar28 (j := (0 : Int32)) (inb_of S28 ⟨by decide, by decide⟩) (g := (mkF m 13 #[rv qa, iv xn] [(.int p0), (.int (0 : Int32)), (.ref b23), (.ref b23)])) rfl rfl (hb hby d0_13)
  have N29 := Fr.snoc X29 N0 ng23
  have V29 : Arv Z h29 b23 k23 .int (1 : Int32) [(.int p0)] (.int (0 : Int32)) := Arv.set Ar28 q28 S28 M28 H28 G28 rfl W29 0 rfl (Nat.le_of_ble_eq_true rfl)
  have g30 : Goes p e below S0 (T29.setTop (mkF m 14 #[rv qa, iv xn] [(.ref b23)])) := fun t k => g27 t (st29 t k)
  obtain ⟨fs, hr, hrun, hended, hW, hsame⟩ := X29.leave (v := some (.ref b23)) (fun h => by rw [Bd.returns] at h; cases h)
  refine ⟨_, _, g30 _ (retOut X29 hx Bd.returns rfl (Or.inr (Or.inr (Or.inr (Or.inr ⟨rfl, rfl, rfl⟩)))) (hb hby d0_14) hr), hrun, hended, _, _, rfl, ?_, ⟨_, rfl⟩, hW, hsame.mono (by decide) (by decide)⟩
  show Q_pr1 Z qa xn qk p0 p1 p2 p3 h0 n0 _ T29.heap _
  rw [e29]
  exact ⟨b23, k23, rfl, N29, (((Keep.refl h0 []).ext E23).wr W29 (Or.inr sz23)), V29, sz23⟩
theorem pf_pr2 : plainFor (⟨"com/example/aristotle/aristotle/StepMadePinLaw", "prefix", "([II)[I"⟩ : MethodName) = true := by first | exact plainFor_of_name (by first | (simp [plainName, overriddenIn, x]; done) | decide +kernel) | exact Jvm.Free.JP.mathPlain rfl (by decide +kernel) | decide +kernel
theorem ef_pr2 (m : MethodId) (qa : Addr) (xn : Int32) : entryFrame m #[(.ref qa), (.int xn)] 2 = mkF m 0 #[rv qa, iv xn] [] := by first | (simp [entryFrame, mkF, argsToLocals, Value.category, maxLocals]; done) | rfl
def Q_pr2 (Z : State) (qa : Addr) (xn : Int32) (qk : ClassId) (p0 : Int32) (p1 : Int32) (p2 : Int32) (p3 : Int32) (h0 : Heap) (n0 : Nat) (v : Option Value) (h : Heap) (L : List Loc) : Prop := ∃ (ra : Addr) (rk : ClassId), v = some (.ref ra) ∧ Fr n0 L ∧ (Keep h0 h []) ∧ (Arv Z h ra rk .int (2 : Int32) [(.int p0), (.int p1)] (.int (0 : Int32))) ∧ (h0.size ≤ ra)
set_option maxRecDepth 65536 in
set_option maxHeartbeats 40000000 in
theorem rm_pr2 (l : Launch) (Z : State) (a0 : Array Value) (hw : ∀ d ∈ tables_1, d.before a0 Z = true) (ws : List Jvm.Cond) (qa : Addr) (xn : Int32) (qk : ClassId) (p0 : Int32) (p1 : Int32) (p2 : Int32) (p3 : Int32) (h0 : Heap) (n0 : Nat) (Z0 : n0 ≤ h0.size) (P0 : Arv Z h0 qa qk .int (4 : Int32) [(.int p0), (.int p1), (.int p2), (.int p3)] (.int (0 : Int32))) (hn : xn = (2 : Int32))  :
    MetFree l (⟨"com/example/aristotle/aristotle/StepMadePinLaw", "prefix", "([II)[I"⟩ : MethodName) (head1 (Jvm.Cond.code (⟨"com/example/aristotle/aristotle/StepMadePinLaw", "prefix", "([II)[I"⟩ : MethodName) method_3_code 2 (some (.array .int)) :: ws) ({ frames := 0, cells := 1, slots := 2, locals := 0 } : Room)) (fun a U => a = #[(.ref qa), (.int xn)] ∧ Z.Warmed39 U.vm ∧ U.heap = h0) (fun _ _ _ _ _ => True) (fun _ U o U' => ∃ v L, o = .returned v ∧ Q_pr2 Z qa xn qk p0 p1 p2 p3 h0 n0 v U'.heap L ∧ FrameEnd U o U' L ({ frames := 0, cells := 1, slots := 2, locals := 0 } : Room).cells ({ frames := 0, cells := 1, slots := 2, locals := 0 } : Room).slots) := by
  refine MetFree.of_bodySF pf_pr2 hisR ?_
  intro p e s m args below meth c s₁ Bd hml0 hP hK
  obtain ⟨rfl, hZ, hh⟩ := hP
  have hx := Bd.exec
  have hby := Bd.bytes
  have hml : c.maxLocals = 2 := hml0
  have hown : s.vm.findClass "com/example/aristotle/aristotle/StepMadePinLaw" = some m.cls := findClass_of_methodNamed Bd.named
  have hnm := (name_of_methodNamed Bd.named Bd.method).1
  have X0 : Stand p l e ({ frames := 0, cells := 1, slots := 2, locals := 0 } : Room) s m #[(.ref qa), (.int xn)] below meth c s₁ [] 0 0 := Stand.of_body Bd
  have e0 : s₁.heap = h0 := by rw [← hh, Bd.state]; rfl
  have N0 := Fr.nil n0
  obtain ⟨S0, hS0⟩ : ∃ z, z = s₁.setTop (entryFrame m #[(.ref qa), (.int xn)] 2) := ⟨_, rfl⟩
  rw [← hS0]
  have g0 : Goes p e below S0 (s₁.setTop (mkF m 0 #[rv qa, iv xn] [])) := fun t k => by rw [hS0]; exact castTop (ef_pr2 m qa xn) k
  have g31 : Goes p e below S0 (s₁.setTop (mkF m 21 #[rv qa, iv xn] [(.int (2 : Int32))])) := fun t k => g0 t (by
    refine XS.iloadN X0.here hx rfl (hb hby d0_0) rfl ?_
    show Go p e below t s₁ m 1 #[rv qa, iv xn] [(.int xn)]
    refine XT.iconstV X0.here hx rfl (1 : Int32) (hb hby d0_1) (by decide) ?_
    show Go p e below t s₁ m 2 #[rv qa, iv xn] [(.int (1 : Int32)), (.int xn)]
    refine XS.icmpYes X0.here hx rfl (pc0 := 2) (pc' := 15) rfl (hb hby d0_2) rfl (XT.ii_ne_t (by rw [hn]; decide)) (by decide) (by decide) ?_
    show Go p e below t s₁ m 15 #[rv qa, iv xn] []
    refine XS.iloadN X0.here hx rfl (hb hby d0_15) rfl ?_
    show Go p e below t s₁ m 16 #[rv qa, iv xn] [(.int xn)]
    refine XT.iconstV X0.here hx rfl (2 : Int32) (hb hby d0_16) (by decide) ?_
    show Go p e below t s₁ m 17 #[rv qa, iv xn] [(.int (2 : Int32)), (.int xn)]
    refine XS.icmpNo X0.here hx rfl (hb hby d0_17) rfl (XT.ii_ne_f hn) ?_
    show Go p e below t s₁ m 20 #[rv qa, iv xn] []
    refine XT.iconstV X0.here hx rfl (2 : Int32) (hb hby d0_20) (by decide) ?_
    show Go p e below t s₁ m 21 #[rv qa, iv xn] [(.int (2 : Int32))]
    exact k)
  obtain ⟨T32, h32, k32, X32, e32, E32, A32, st32⟩ := newP X0 hx hZ (hw _ (List.mem_of_getElem? (i := 1) rfl)) e0 (g := (mkF m 21 #[rv qa, iv xn] [(.int (2 : Int32))])) rfl (hb hby d0_21) rfl (by decide) (cap := 2) (by decide) (by decide) (by decide) (by decide)
  obtain ⟨b32, gb32⟩ : ∃ z, z = h0.size := ⟨_, rfl⟩
  have sz32 : h0.size ≤ b32 := Nat.le_trans (Nat.le_refl _) (Nat.le_of_eq gb32.symm)
  have ng32 : n0 ≤ b32 := Nat.le_trans Z0 sz32
  rw [← gb32] at A32 st32
  have V32 : Arv Z h32 b32 k32 .int (2 : Int32) [(.int (0 : Int32)), (.int (0 : Int32))] (.int (0 : Int32)) := (Arv.new A32 (by decide)).pad (pad_rep [] (.int (0 : Int32)) 2)
  have g33 : Goes p e below S0 (T32.setTop (mkF m 23 #[rv qa, iv xn] [(.ref b32)])) := fun t k => g31 t (st32 t k)
  have g34 : Goes p e below S0 (T32.setTop (mkF m 27 #[rv qa, iv xn] [(.int (0 : Int32)), (.ref qa), (.int (0 : Int32)), (.ref b32), (.ref b32)])) := fun t k => g33 t (by
    refine XS.dup X32.here hx rfl (hb hby d0_23) rfl rfl ?_
    show Go p e below t T32 m 24 #[rv qa, iv xn] [(.ref b32), (.ref b32)]
    refine XT.iconstV X32.here hx rfl (0 : Int32) (hb hby d0_24) (by decide) ?_
    show Go p e below t T32 m 25 #[rv qa, iv xn] [(.int (0 : Int32)), (.ref b32), (.ref b32)]
    refine XS.aloadN X32.here hx rfl (hb hby d0_25) rfl rfl ?_
    show Go p e below t T32 m 26 #[rv qa, iv xn] [(.ref qa), (.int (0 : Int32)), (.ref b32), (.ref b32)]
    refine XT.iconstV X32.here hx rfl (0 : Int32) (hb hby d0_26) (by decide) ?_
    show Go p e below t T32 m 27 #[rv qa, iv xn] [(.int (0 : Int32)), (.ref qa), (.int (0 : Int32)), (.ref b32), (.ref b32)]
    exact k)
  obtain ⟨cl35, Ar35, q35, S35, M35, H35, G35⟩ := id (P0.ext E32)
  have g36 : Goes p e below S0 (T32.setTop (mkF m 28 #[rv qa, iv xn] [(.int p0), (.int (0 : Int32)), (.ref b32), (.ref b32)])) := fun t k => g34 t (by
    refine X32.iaload hx (j := (0 : Int32)) (v := (.int p0)) (by rw [e32]; exact Ar35.1) (State.isArrayOf_alike hZ.alike Ar35.2.1) Ar35.2.2 (inb_of S35 ⟨by decide, by decide⟩) (H35.at (inb_of S35 ⟨by decide, by decide⟩) rfl) (g := (mkF m 27 #[rv qa, iv xn] [(.int (0 : Int32)), (.ref qa), (.int (0 : Int32)), (.ref b32), (.ref b32)])) rfl rfl (hb hby d0_27) _ ?_
    show Go p e below t T32 m 28 #[rv qa, iv xn] [(.int p0), (.int (0 : Int32)), (.ref b32), (.ref b32)]
    exact k)
  obtain ⟨cl37, Ar37, q37, S37, M37, H37, G37⟩ := id V32
  obtain ⟨T38, h38, X38, e38, W38, st38⟩ := stI X32 hx hZ e32 Ar37 (j := (0 : Int32)) (inb_of S37 ⟨by decide, by decide⟩) (g := (mkF m 28 #[rv qa, iv xn] [(.int p0), (.int (0 : Int32)), (.ref b32), (.ref b32)])) rfl rfl (hb hby d0_28)
  have N38 := Fr.snoc X38 N0 ng32
  have V38 : Arv Z h38 b32 k32 .int (2 : Int32) [(.int p0), (.int (0 : Int32))] (.int (0 : Int32)) := Arv.set Ar37 q37 S37 M37 H37 G37 rfl W38 0 rfl (Nat.le_of_ble_eq_true rfl)
  have g39 : Goes p e below S0 (T38.setTop (mkF m 29 #[rv qa, iv xn] [(.ref b32)])) := fun t k => g36 t (st38 t k)
  have g40 : Goes p e below S0 (T38.setTop (mkF m 33 #[rv qa, iv xn] [(.int (1 : Int32)), (.ref qa), (.int (1 : Int32)), (.ref b32), (.ref b32)])) := fun t k => g39 t (by
    refine XS.dup X38.here hx rfl (hb hby d0_29) rfl rfl ?_
    show Go p e below t T38 m 30 #[rv qa, iv xn] [(.ref b32), (.ref b32)]
    refine XT.iconstV X38.here hx rfl (1 : Int32) (hb hby d0_30) (by decide) ?_
    show Go p e below t T38 m 31 #[rv qa, iv xn] [(.int (1 : Int32)), (.ref b32), (.ref b32)]
    refine XS.aloadN X38.here hx rfl (hb hby d0_31) rfl rfl ?_
    show Go p e below t T38 m 32 #[rv qa, iv xn] [(.ref qa), (.int (1 : Int32)), (.ref b32), (.ref b32)]
    refine XT.iconstV X38.here hx rfl (1 : Int32) (hb hby d0_32) (by decide) ?_
    show Go p e below t T38 m 33 #[rv qa, iv xn] [(.int (1 : Int32)), (.ref qa), (.int (1 : Int32)), (.ref b32), (.ref b32)]
    exact k)
  obtain ⟨cl41, Ar41, q41, S41, M41, H41, G41⟩ := id ((P0.ext E32).other W38 (Nat.ne_of_lt (Nat.lt_of_lt_of_le P0.lt (Nat.le_of_eq gb32.symm))))
  have g42 : Goes p e below S0 (T38.setTop (mkF m 34 #[rv qa, iv xn] [(.int p1), (.int (1 : Int32)), (.ref b32), (.ref b32)])) := fun t k => g40 t (by
    refine X38.iaload hx (j := (1 : Int32)) (v := (.int p1)) (by rw [e38]; exact Ar41.1) (State.isArrayOf_alike hZ.alike Ar41.2.1) Ar41.2.2 (inb_of S41 ⟨by decide, by decide⟩) (H41.at (inb_of S41 ⟨by decide, by decide⟩) rfl) (g := (mkF m 33 #[rv qa, iv xn] [(.int (1 : Int32)), (.ref qa), (.int (1 : Int32)), (.ref b32), (.ref b32)])) rfl rfl (hb hby d0_33) _ ?_
    show Go p e below t T38 m 34 #[rv qa, iv xn] [(.int p1), (.int (1 : Int32)), (.ref b32), (.ref b32)]
    exact k)
  obtain ⟨cl43, Ar43, q43, S43, M43, H43, G43⟩ := id V38
  obtain ⟨T44, h44, X44, e44, W44, st44⟩ := stI X38 hx hZ e38 Ar43 (j := (1 : Int32)) (inb_of S43 ⟨by decide, by decide⟩) (g := (mkF m 34 #[rv qa, iv xn] [(.int p1), (.int (1 : Int32)), (.ref b32), (.ref b32)])) rfl rfl (hb hby d0_34)
  have N44 := Fr.snoc X44 N38 ng32
  have V44 : Arv Z h44 b32 k32 .int (2 : Int32) [(.int p0), (.int p1)] (.int (0 : Int32)) := Arv.set Ar43 q43 S43 M43 H43 G43 rfl W44 1 rfl (Nat.le_of_ble_eq_true rfl)
  have g45 : Goes p e below S0 (T44.setTop (mkF m 35 #[rv qa, iv xn] [(.ref b32)])) := fun t k => g42 t (st44 t k)
  obtain ⟨fs, hr, hrun, hended, hW, hsame⟩ := X44.leave (v := some (.ref b32)) (fun h => by rw [Bd.returns] at h; cases h)
  refine ⟨_, _, g45 _ (retOut X44 hx Bd.returns rfl (Or.inr (Or.inr (Or.inr (Or.inr ⟨rfl, rfl, rfl⟩)))) (hb hby d0_35) hr), hrun, hended, _, _, rfl, ?_, ⟨_, rfl⟩, hW, hsame.mono (by decide) (by decide)⟩
  show Q_pr2 Z qa xn qk p0 p1 p2 p3 h0 n0 _ T44.heap _
  rw [e44]
  exact ⟨b32, k32, rfl, N44, ((((Keep.refl h0 []).ext E32).wr W38 (Or.inr sz32)).wr W44 (Or.inr sz32)), V44, sz32⟩
theorem pf_pr3 : plainFor (⟨"com/example/aristotle/aristotle/StepMadePinLaw", "prefix", "([II)[I"⟩ : MethodName) = true := by first | exact plainFor_of_name (by first | (simp [plainName, overriddenIn, x]; done) | decide +kernel) | exact Jvm.Free.JP.mathPlain rfl (by decide +kernel) | decide +kernel
theorem ef_pr3 (m : MethodId) (qa : Addr) (xn : Int32) : entryFrame m #[(.ref qa), (.int xn)] 2 = mkF m 0 #[rv qa, iv xn] [] := by first | (simp [entryFrame, mkF, argsToLocals, Value.category, maxLocals]; done) | rfl
def Q_pr3 (Z : State) (qa : Addr) (xn : Int32) (qk : ClassId) (p0 : Int32) (p1 : Int32) (p2 : Int32) (p3 : Int32) (h0 : Heap) (n0 : Nat) (v : Option Value) (h : Heap) (L : List Loc) : Prop := ∃ (ra : Addr) (rk : ClassId), v = some (.ref ra) ∧ Fr n0 L ∧ (Keep h0 h []) ∧ (Arv Z h ra rk .int (3 : Int32) [(.int p0), (.int p1), (.int p2)] (.int (0 : Int32))) ∧ (h0.size ≤ ra)
set_option maxRecDepth 65536 in
set_option maxHeartbeats 40000000 in
theorem rm_pr3 (l : Launch) (Z : State) (a0 : Array Value) (hw : ∀ d ∈ tables_1, d.before a0 Z = true) (ws : List Jvm.Cond) (qa : Addr) (xn : Int32) (qk : ClassId) (p0 : Int32) (p1 : Int32) (p2 : Int32) (p3 : Int32) (h0 : Heap) (n0 : Nat) (Z0 : n0 ≤ h0.size) (P0 : Arv Z h0 qa qk .int (4 : Int32) [(.int p0), (.int p1), (.int p2), (.int p3)] (.int (0 : Int32))) (hn : xn = (3 : Int32))  :
    MetFree l (⟨"com/example/aristotle/aristotle/StepMadePinLaw", "prefix", "([II)[I"⟩ : MethodName) (head1 (Jvm.Cond.code (⟨"com/example/aristotle/aristotle/StepMadePinLaw", "prefix", "([II)[I"⟩ : MethodName) method_3_code 2 (some (.array .int)) :: ws) ({ frames := 0, cells := 1, slots := 3, locals := 0 } : Room)) (fun a U => a = #[(.ref qa), (.int xn)] ∧ Z.Warmed39 U.vm ∧ U.heap = h0) (fun _ _ _ _ _ => True) (fun _ U o U' => ∃ v L, o = .returned v ∧ Q_pr3 Z qa xn qk p0 p1 p2 p3 h0 n0 v U'.heap L ∧ FrameEnd U o U' L ({ frames := 0, cells := 1, slots := 3, locals := 0 } : Room).cells ({ frames := 0, cells := 1, slots := 3, locals := 0 } : Room).slots) := by
  refine MetFree.of_bodySF pf_pr3 hisR ?_
  intro p e s m args below meth c s₁ Bd hml0 hP hK
  obtain ⟨rfl, hZ, hh⟩ := hP
  have hx := Bd.exec
  have hby := Bd.bytes
  have hml : c.maxLocals = 2 := hml0
  have hown : s.vm.findClass "com/example/aristotle/aristotle/StepMadePinLaw" = some m.cls := findClass_of_methodNamed Bd.named
  have hnm := (name_of_methodNamed Bd.named Bd.method).1
  have X0 : Stand p l e ({ frames := 0, cells := 1, slots := 3, locals := 0 } : Room) s m #[(.ref qa), (.int xn)] below meth c s₁ [] 0 0 := Stand.of_body Bd
  have e0 : s₁.heap = h0 := by rw [← hh, Bd.state]; rfl
  have N0 := Fr.nil n0
  obtain ⟨S0, hS0⟩ : ∃ z, z = s₁.setTop (entryFrame m #[(.ref qa), (.int xn)] 2) := ⟨_, rfl⟩
  rw [← hS0]
  have g0 : Goes p e below S0 (s₁.setTop (mkF m 0 #[rv qa, iv xn] [])) := fun t k => by rw [hS0]; exact castTop (ef_pr3 m qa xn) k
  have g46 : Goes p e below S0 (s₁.setTop (mkF m 42 #[rv qa, iv xn] [(.int (3 : Int32))])) := fun t k => g0 t (by
    refine XS.iloadN X0.here hx rfl (hb hby d0_0) rfl ?_
    show Go p e below t s₁ m 1 #[rv qa, iv xn] [(.int xn)]
    refine XT.iconstV X0.here hx rfl (1 : Int32) (hb hby d0_1) (by decide) ?_
    show Go p e below t s₁ m 2 #[rv qa, iv xn] [(.int (1 : Int32)), (.int xn)]
    refine XS.icmpYes X0.here hx rfl (pc0 := 2) (pc' := 15) rfl (hb hby d0_2) rfl (XT.ii_ne_t (by rw [hn]; decide)) (by decide) (by decide) ?_
    show Go p e below t s₁ m 15 #[rv qa, iv xn] []
    refine XS.iloadN X0.here hx rfl (hb hby d0_15) rfl ?_
    show Go p e below t s₁ m 16 #[rv qa, iv xn] [(.int xn)]
    refine XT.iconstV X0.here hx rfl (2 : Int32) (hb hby d0_16) (by decide) ?_
    show Go p e below t s₁ m 17 #[rv qa, iv xn] [(.int (2 : Int32)), (.int xn)]
    refine XS.icmpYes X0.here hx rfl (pc0 := 17) (pc' := 36) rfl (hb hby d0_17) rfl (XT.ii_ne_t (by rw [hn]; decide)) (by decide) (by decide) ?_
    show Go p e below t s₁ m 36 #[rv qa, iv xn] []
    refine XS.iloadN X0.here hx rfl (hb hby d0_36) rfl ?_
    show Go p e below t s₁ m 37 #[rv qa, iv xn] [(.int xn)]
    refine XT.iconstV X0.here hx rfl (3 : Int32) (hb hby d0_37) (by decide) ?_
    show Go p e below t s₁ m 38 #[rv qa, iv xn] [(.int (3 : Int32)), (.int xn)]
    refine XS.icmpNo X0.here hx rfl (hb hby d0_38) rfl (XT.ii_ne_f hn) ?_
    show Go p e below t s₁ m 41 #[rv qa, iv xn] []
    refine XT.iconstV X0.here hx rfl (3 : Int32) (hb hby d0_41) (by decide) ?_
    show Go p e below t s₁ m 42 #[rv qa, iv xn] [(.int (3 : Int32))]
    exact k)
  obtain ⟨T47, h47, k47, X47, e47, E47, A47, st47⟩ := newP X0 hx hZ (hw _ (List.mem_of_getElem? (i := 1) rfl)) e0 (g := (mkF m 42 #[rv qa, iv xn] [(.int (3 : Int32))])) rfl (hb hby d0_42) rfl (by decide) (cap := 3) (by decide) (by decide) (by decide) (by decide)
  obtain ⟨b47, gb47⟩ : ∃ z, z = h0.size := ⟨_, rfl⟩
  have sz47 : h0.size ≤ b47 := Nat.le_trans (Nat.le_refl _) (Nat.le_of_eq gb47.symm)
  have ng47 : n0 ≤ b47 := Nat.le_trans Z0 sz47
  rw [← gb47] at A47 st47
  have V47 : Arv Z h47 b47 k47 .int (3 : Int32) [(.int (0 : Int32)), (.int (0 : Int32)), (.int (0 : Int32))] (.int (0 : Int32)) := (Arv.new A47 (by decide)).pad (pad_rep [] (.int (0 : Int32)) 3)
  have g48 : Goes p e below S0 (T47.setTop (mkF m 44 #[rv qa, iv xn] [(.ref b47)])) := fun t k => g46 t (st47 t k)
  have g49 : Goes p e below S0 (T47.setTop (mkF m 48 #[rv qa, iv xn] [(.int (0 : Int32)), (.ref qa), (.int (0 : Int32)), (.ref b47), (.ref b47)])) := fun t k => g48 t (by
    refine XS.dup X47.here hx rfl (hb hby d0_44) rfl rfl ?_
    show Go p e below t T47 m 45 #[rv qa, iv xn] [(.ref b47), (.ref b47)]
    refine XT.iconstV X47.here hx rfl (0 : Int32) (hb hby d0_45) (by decide) ?_
    show Go p e below t T47 m 46 #[rv qa, iv xn] [(.int (0 : Int32)), (.ref b47), (.ref b47)]
    refine XS.aloadN X47.here hx rfl (hb hby d0_46) rfl rfl ?_
    show Go p e below t T47 m 47 #[rv qa, iv xn] [(.ref qa), (.int (0 : Int32)), (.ref b47), (.ref b47)]
    refine XT.iconstV X47.here hx rfl (0 : Int32) (hb hby d0_47) (by decide) ?_
    show Go p e below t T47 m 48 #[rv qa, iv xn] [(.int (0 : Int32)), (.ref qa), (.int (0 : Int32)), (.ref b47), (.ref b47)]
    exact k)
  obtain ⟨cl50, Ar50, q50, S50, M50, H50, G50⟩ := id (P0.ext E47)
  have g51 : Goes p e below S0 (T47.setTop (mkF m 49 #[rv qa, iv xn] [(.int p0), (.int (0 : Int32)), (.ref b47), (.ref b47)])) := fun t k => g49 t (by
    refine X47.iaload hx (j := (0 : Int32)) (v := (.int p0)) (by rw [e47]; exact Ar50.1) (State.isArrayOf_alike hZ.alike Ar50.2.1) Ar50.2.2 (inb_of S50 ⟨by decide, by decide⟩) (H50.at (inb_of S50 ⟨by decide, by decide⟩) rfl) (g := (mkF m 48 #[rv qa, iv xn] [(.int (0 : Int32)), (.ref qa), (.int (0 : Int32)), (.ref b47), (.ref b47)])) rfl rfl (hb hby d0_48) _ ?_
    show Go p e below t T47 m 49 #[rv qa, iv xn] [(.int p0), (.int (0 : Int32)), (.ref b47), (.ref b47)]
    exact k)
  obtain ⟨cl52, Ar52, q52, S52, M52, H52, G52⟩ := id V47
  obtain ⟨T53, h53, X53, e53, W53, st53⟩ := stI X47 hx hZ e47 Ar52 (j := (0 : Int32)) (inb_of S52 ⟨by decide, by decide⟩) (g := (mkF m 49 #[rv qa, iv xn] [(.int p0), (.int (0 : Int32)), (.ref b47), (.ref b47)])) rfl rfl (hb hby d0_49)
  have N53 := Fr.snoc X53 N0 ng47
  have V53 : Arv Z h53 b47 k47 .int (3 : Int32) [(.int p0), (.int (0 : Int32)), (.int (0 : Int32))] (.int (0 : Int32)) := Arv.set Ar52 q52 S52 M52 H52 G52 rfl W53 0 rfl (Nat.le_of_ble_eq_true rfl)
  have g54 : Goes p e below S0 (T53.setTop (mkF m 50 #[rv qa, iv xn] [(.ref b47)])) := fun t k => g51 t (st53 t k)
  have g55 : Goes p e below S0 (T53.setTop (mkF m 54 #[rv qa, iv xn] [(.int (1 : Int32)), (.ref qa), (.int (1 : Int32)), (.ref b47), (.ref b47)])) := fun t k => g54 t (by
    refine XS.dup X53.here hx rfl (hb hby d0_50) rfl rfl ?_
    show Go p e below t T53 m 51 #[rv qa, iv xn] [(.ref b47), (.ref b47)]
    refine XT.iconstV X53.here hx rfl (1 : Int32) (hb hby d0_51) (by decide) ?_
    show Go p e below t T53 m 52 #[rv qa, iv xn] [(.int (1 : Int32)), (.ref b47), (.ref b47)]
    refine XS.aloadN X53.here hx rfl (hb hby d0_52) rfl rfl ?_
    show Go p e below t T53 m 53 #[rv qa, iv xn] [(.ref qa), (.int (1 : Int32)), (.ref b47), (.ref b47)]
    refine XT.iconstV X53.here hx rfl (1 : Int32) (hb hby d0_53) (by decide) ?_
    show Go p e below t T53 m 54 #[rv qa, iv xn] [(.int (1 : Int32)), (.ref qa), (.int (1 : Int32)), (.ref b47), (.ref b47)]
    exact k)
  obtain ⟨cl56, Ar56, q56, S56, M56, H56, G56⟩ := id ((P0.ext E47).other W53 (Nat.ne_of_lt (Nat.lt_of_lt_of_le P0.lt (Nat.le_of_eq gb47.symm))))
  have g57 : Goes p e below S0 (T53.setTop (mkF m 55 #[rv qa, iv xn] [(.int p1), (.int (1 : Int32)), (.ref b47), (.ref b47)])) := fun t k => g55 t (by
    refine X53.iaload hx (j := (1 : Int32)) (v := (.int p1)) (by rw [e53]; exact Ar56.1) (State.isArrayOf_alike hZ.alike Ar56.2.1) Ar56.2.2 (inb_of S56 ⟨by decide, by decide⟩) (H56.at (inb_of S56 ⟨by decide, by decide⟩) rfl) (g := (mkF m 54 #[rv qa, iv xn] [(.int (1 : Int32)), (.ref qa), (.int (1 : Int32)), (.ref b47), (.ref b47)])) rfl rfl (hb hby d0_54) _ ?_
    show Go p e below t T53 m 55 #[rv qa, iv xn] [(.int p1), (.int (1 : Int32)), (.ref b47), (.ref b47)]
    exact k)
  obtain ⟨cl58, Ar58, q58, S58, M58, H58, G58⟩ := id V53
  obtain ⟨T59, h59, X59, e59, W59, st59⟩ := stI X53 hx hZ e53 Ar58 (j := (1 : Int32)) (inb_of S58 ⟨by decide, by decide⟩) (g := (mkF m 55 #[rv qa, iv xn] [(.int p1), (.int (1 : Int32)), (.ref b47), (.ref b47)])) rfl rfl (hb hby d0_55)
  have N59 := Fr.snoc X59 N53 ng47
  have V59 : Arv Z h59 b47 k47 .int (3 : Int32) [(.int p0), (.int p1), (.int (0 : Int32))] (.int (0 : Int32)) := Arv.set Ar58 q58 S58 M58 H58 G58 rfl W59 1 rfl (Nat.le_of_ble_eq_true rfl)
  have g60 : Goes p e below S0 (T59.setTop (mkF m 56 #[rv qa, iv xn] [(.ref b47)])) := fun t k => g57 t (st59 t k)
  have g61 : Goes p e below S0 (T59.setTop (mkF m 60 #[rv qa, iv xn] [(.int (2 : Int32)), (.ref qa), (.int (2 : Int32)), (.ref b47), (.ref b47)])) := fun t k => g60 t (by
    refine XS.dup X59.here hx rfl (hb hby d0_56) rfl rfl ?_
    show Go p e below t T59 m 57 #[rv qa, iv xn] [(.ref b47), (.ref b47)]
    refine XT.iconstV X59.here hx rfl (2 : Int32) (hb hby d0_57) (by decide) ?_
    show Go p e below t T59 m 58 #[rv qa, iv xn] [(.int (2 : Int32)), (.ref b47), (.ref b47)]
    refine XS.aloadN X59.here hx rfl (hb hby d0_58) rfl rfl ?_
    show Go p e below t T59 m 59 #[rv qa, iv xn] [(.ref qa), (.int (2 : Int32)), (.ref b47), (.ref b47)]
    refine XT.iconstV X59.here hx rfl (2 : Int32) (hb hby d0_59) (by decide) ?_
    show Go p e below t T59 m 60 #[rv qa, iv xn] [(.int (2 : Int32)), (.ref qa), (.int (2 : Int32)), (.ref b47), (.ref b47)]
    exact k)
  obtain ⟨cl62, Ar62, q62, S62, M62, H62, G62⟩ := id (((P0.ext E47).other W53 (Nat.ne_of_lt (Nat.lt_of_lt_of_le P0.lt (Nat.le_of_eq gb47.symm)))).other W59 (Nat.ne_of_lt (Nat.lt_of_lt_of_le P0.lt (Nat.le_of_eq gb47.symm))))
  have g63 : Goes p e below S0 (T59.setTop (mkF m 61 #[rv qa, iv xn] [(.int p2), (.int (2 : Int32)), (.ref b47), (.ref b47)])) := fun t k => g61 t (by
    refine X59.iaload hx (j := (2 : Int32)) (v := (.int p2)) (by rw [e59]; exact Ar62.1) (State.isArrayOf_alike hZ.alike Ar62.2.1) Ar62.2.2 (inb_of S62 ⟨by decide, by decide⟩) (H62.at (inb_of S62 ⟨by decide, by decide⟩) rfl) (g := (mkF m 60 #[rv qa, iv xn] [(.int (2 : Int32)), (.ref qa), (.int (2 : Int32)), (.ref b47), (.ref b47)])) rfl rfl (hb hby d0_60) _ ?_
    show Go p e below t T59 m 61 #[rv qa, iv xn] [(.int p2), (.int (2 : Int32)), (.ref b47), (.ref b47)]
    exact k)
  obtain ⟨cl64, Ar64, q64, S64, M64, H64, G64⟩ := id V59
  obtain ⟨T65, h65, X65, e65, W65, st65⟩ := stI X59 hx hZ e59 Ar64 (j := (2 : Int32)) (inb_of S64 ⟨by decide, by decide⟩) (g := (mkF m 61 #[rv qa, iv xn] [(.int p2), (.int (2 : Int32)), (.ref b47), (.ref b47)])) rfl rfl (hb hby d0_61)
  have N65 := Fr.snoc X65 N59 ng47
  have V65 : Arv Z h65 b47 k47 .int (3 : Int32) [(.int p0), (.int p1), (.int p2)] (.int (0 : Int32)) := Arv.set Ar64 q64 S64 M64 H64 G64 rfl W65 2 rfl (Nat.le_of_ble_eq_true rfl)
  have g66 : Goes p e below S0 (T65.setTop (mkF m 62 #[rv qa, iv xn] [(.ref b47)])) := fun t k => g63 t (st65 t k)
  obtain ⟨fs, hr, hrun, hended, hW, hsame⟩ := X65.leave (v := some (.ref b47)) (fun h => by rw [Bd.returns] at h; cases h)
  refine ⟨_, _, g66 _ (retOut X65 hx Bd.returns rfl (Or.inr (Or.inr (Or.inr (Or.inr ⟨rfl, rfl, rfl⟩)))) (hb hby d0_62) hr), hrun, hended, _, _, rfl, ?_, ⟨_, rfl⟩, hW, hsame.mono (by decide) (by decide)⟩
  show Q_pr3 Z qa xn qk p0 p1 p2 p3 h0 n0 _ T65.heap _
  rw [e65]
  exact ⟨b47, k47, rfl, N65, (((((Keep.refl h0 []).ext E47).wr W53 (Or.inr sz47)).wr W59 (Or.inr sz47)).wr W65 (Or.inr sz47)), V65, sz47⟩
theorem pf_pr4 : plainFor (⟨"com/example/aristotle/aristotle/StepMadePinLaw", "prefix", "([II)[I"⟩ : MethodName) = true := by first | exact plainFor_of_name (by first | (simp [plainName, overriddenIn, x]; done) | decide +kernel) | exact Jvm.Free.JP.mathPlain rfl (by decide +kernel) | decide +kernel
theorem ef_pr4 (m : MethodId) (qa : Addr) (xn : Int32) : entryFrame m #[(.ref qa), (.int xn)] 2 = mkF m 0 #[rv qa, iv xn] [] := by first | (simp [entryFrame, mkF, argsToLocals, Value.category, maxLocals]; done) | rfl
def Q_pr4 (Z : State) (qa : Addr) (xn : Int32) (qk : ClassId) (p0 : Int32) (p1 : Int32) (p2 : Int32) (p3 : Int32) (h0 : Heap) (n0 : Nat) (v : Option Value) (h : Heap) (L : List Loc) : Prop := ∃ (ra : Addr) (rk : ClassId), v = some (.ref ra) ∧ Fr n0 L ∧ (Keep h0 h []) ∧ (Arv Z h ra rk .int (4 : Int32) [(.int p0), (.int p1), (.int p2), (.int p3)] (.int (0 : Int32))) ∧ (h0.size ≤ ra)
set_option maxRecDepth 65536 in
set_option maxHeartbeats 40000000 in
theorem rm_pr4 (l : Launch) (Z : State) (a0 : Array Value) (hw : ∀ d ∈ tables_1, d.before a0 Z = true) (ws : List Jvm.Cond) (qa : Addr) (xn : Int32) (qk : ClassId) (p0 : Int32) (p1 : Int32) (p2 : Int32) (p3 : Int32) (h0 : Heap) (n0 : Nat) (Z0 : n0 ≤ h0.size) (P0 : Arv Z h0 qa qk .int (4 : Int32) [(.int p0), (.int p1), (.int p2), (.int p3)] (.int (0 : Int32))) (hn : xn = (4 : Int32))  :
    MetFree l (⟨"com/example/aristotle/aristotle/StepMadePinLaw", "prefix", "([II)[I"⟩ : MethodName) (head1 (Jvm.Cond.code (⟨"com/example/aristotle/aristotle/StepMadePinLaw", "prefix", "([II)[I"⟩ : MethodName) method_3_code 2 (some (.array .int)) :: ws) ({ frames := 0, cells := 1, slots := 4, locals := 0 } : Room)) (fun a U => a = #[(.ref qa), (.int xn)] ∧ Z.Warmed39 U.vm ∧ U.heap = h0) (fun _ _ _ _ _ => True) (fun _ U o U' => ∃ v L, o = .returned v ∧ Q_pr4 Z qa xn qk p0 p1 p2 p3 h0 n0 v U'.heap L ∧ FrameEnd U o U' L ({ frames := 0, cells := 1, slots := 4, locals := 0 } : Room).cells ({ frames := 0, cells := 1, slots := 4, locals := 0 } : Room).slots) := by
  refine MetFree.of_bodySF pf_pr4 hisR ?_
  intro p e s m args below meth c s₁ Bd hml0 hP hK
  obtain ⟨rfl, hZ, hh⟩ := hP
  have hx := Bd.exec
  have hby := Bd.bytes
  have hml : c.maxLocals = 2 := hml0
  have hown : s.vm.findClass "com/example/aristotle/aristotle/StepMadePinLaw" = some m.cls := findClass_of_methodNamed Bd.named
  have hnm := (name_of_methodNamed Bd.named Bd.method).1
  have X0 : Stand p l e ({ frames := 0, cells := 1, slots := 4, locals := 0 } : Room) s m #[(.ref qa), (.int xn)] below meth c s₁ [] 0 0 := Stand.of_body Bd
  have e0 : s₁.heap = h0 := by rw [← hh, Bd.state]; rfl
  have N0 := Fr.nil n0
  obtain ⟨S0, hS0⟩ : ∃ z, z = s₁.setTop (entryFrame m #[(.ref qa), (.int xn)] 2) := ⟨_, rfl⟩
  rw [← hS0]
  have g0 : Goes p e below S0 (s₁.setTop (mkF m 0 #[rv qa, iv xn] [])) := fun t k => by rw [hS0]; exact castTop (ef_pr4 m qa xn) k
  have g67 : Goes p e below S0 (s₁.setTop (mkF m 64 #[rv qa, iv xn] [(.int (4 : Int32))])) := fun t k => g0 t (by
    refine XS.iloadN X0.here hx rfl (hb hby d0_0) rfl ?_
    show Go p e below t s₁ m 1 #[rv qa, iv xn] [(.int xn)]
    refine XT.iconstV X0.here hx rfl (1 : Int32) (hb hby d0_1) (by decide) ?_
    show Go p e below t s₁ m 2 #[rv qa, iv xn] [(.int (1 : Int32)), (.int xn)]
    refine XS.icmpYes X0.here hx rfl (pc0 := 2) (pc' := 15) rfl (hb hby d0_2) rfl (XT.ii_ne_t (by rw [hn]; decide)) (by decide) (by decide) ?_
    show Go p e below t s₁ m 15 #[rv qa, iv xn] []
    refine XS.iloadN X0.here hx rfl (hb hby d0_15) rfl ?_
    show Go p e below t s₁ m 16 #[rv qa, iv xn] [(.int xn)]
    refine XT.iconstV X0.here hx rfl (2 : Int32) (hb hby d0_16) (by decide) ?_
    show Go p e below t s₁ m 17 #[rv qa, iv xn] [(.int (2 : Int32)), (.int xn)]
    refine XS.icmpYes X0.here hx rfl (pc0 := 17) (pc' := 36) rfl (hb hby d0_17) rfl (XT.ii_ne_t (by rw [hn]; decide)) (by decide) (by decide) ?_
    show Go p e below t s₁ m 36 #[rv qa, iv xn] []
    refine XS.iloadN X0.here hx rfl (hb hby d0_36) rfl ?_
    show Go p e below t s₁ m 37 #[rv qa, iv xn] [(.int xn)]
    refine XT.iconstV X0.here hx rfl (3 : Int32) (hb hby d0_37) (by decide) ?_
    show Go p e below t s₁ m 38 #[rv qa, iv xn] [(.int (3 : Int32)), (.int xn)]
    refine XS.icmpYes X0.here hx rfl (pc0 := 38) (pc' := 63) rfl (hb hby d0_38) rfl (XT.ii_ne_t (by rw [hn]; decide)) (by decide) (by decide) ?_
    show Go p e below t s₁ m 63 #[rv qa, iv xn] []
    refine XT.iconstV X0.here hx rfl (4 : Int32) (hb hby d0_63) (by decide) ?_
    show Go p e below t s₁ m 64 #[rv qa, iv xn] [(.int (4 : Int32))]
    exact k)
  obtain ⟨T68, h68, k68, X68, e68, E68, A68, st68⟩ := newP X0 hx hZ (hw _ (List.mem_of_getElem? (i := 1) rfl)) e0 (g := (mkF m 64 #[rv qa, iv xn] [(.int (4 : Int32))])) rfl (hb hby d0_64) rfl (by decide) (cap := 4) (by decide) (by decide) (by decide) (by decide)
  obtain ⟨b68, gb68⟩ : ∃ z, z = h0.size := ⟨_, rfl⟩
  have sz68 : h0.size ≤ b68 := Nat.le_trans (Nat.le_refl _) (Nat.le_of_eq gb68.symm)
  have ng68 : n0 ≤ b68 := Nat.le_trans Z0 sz68
  rw [← gb68] at A68 st68
  have V68 : Arv Z h68 b68 k68 .int (4 : Int32) [(.int (0 : Int32)), (.int (0 : Int32)), (.int (0 : Int32)), (.int (0 : Int32))] (.int (0 : Int32)) := (Arv.new A68 (by decide)).pad (pad_rep [] (.int (0 : Int32)) 4)
  have g69 : Goes p e below S0 (T68.setTop (mkF m 66 #[rv qa, iv xn] [(.ref b68)])) := fun t k => g67 t (st68 t k)
  have g70 : Goes p e below S0 (T68.setTop (mkF m 70 #[rv qa, iv xn] [(.int (0 : Int32)), (.ref qa), (.int (0 : Int32)), (.ref b68), (.ref b68)])) := fun t k => g69 t (by
    refine XS.dup X68.here hx rfl (hb hby d0_66) rfl rfl ?_
    show Go p e below t T68 m 67 #[rv qa, iv xn] [(.ref b68), (.ref b68)]
    refine XT.iconstV X68.here hx rfl (0 : Int32) (hb hby d0_67) (by decide) ?_
    show Go p e below t T68 m 68 #[rv qa, iv xn] [(.int (0 : Int32)), (.ref b68), (.ref b68)]
    refine XS.aloadN X68.here hx rfl (hb hby d0_68) rfl rfl ?_
    show Go p e below t T68 m 69 #[rv qa, iv xn] [(.ref qa), (.int (0 : Int32)), (.ref b68), (.ref b68)]
    refine XT.iconstV X68.here hx rfl (0 : Int32) (hb hby d0_69) (by decide) ?_
    show Go p e below t T68 m 70 #[rv qa, iv xn] [(.int (0 : Int32)), (.ref qa), (.int (0 : Int32)), (.ref b68), (.ref b68)]
    exact k)
  obtain ⟨cl71, Ar71, q71, S71, M71, H71, G71⟩ := id (P0.ext E68)
  have g72 : Goes p e below S0 (T68.setTop (mkF m 71 #[rv qa, iv xn] [(.int p0), (.int (0 : Int32)), (.ref b68), (.ref b68)])) := fun t k => g70 t (by
    refine X68.iaload hx (j := (0 : Int32)) (v := (.int p0)) (by rw [e68]; exact Ar71.1) (State.isArrayOf_alike hZ.alike Ar71.2.1) Ar71.2.2 (inb_of S71 ⟨by decide, by decide⟩) (H71.at (inb_of S71 ⟨by decide, by decide⟩) rfl) (g := (mkF m 70 #[rv qa, iv xn] [(.int (0 : Int32)), (.ref qa), (.int (0 : Int32)), (.ref b68), (.ref b68)])) rfl rfl (hb hby d0_70) _ ?_
    show Go p e below t T68 m 71 #[rv qa, iv xn] [(.int p0), (.int (0 : Int32)), (.ref b68), (.ref b68)]
    exact k)
  obtain ⟨cl73, Ar73, q73, S73, M73, H73, G73⟩ := id V68
  obtain ⟨T74, h74, X74, e74, W74, st74⟩ := stI X68 hx hZ e68 Ar73 (j := (0 : Int32)) (inb_of S73 ⟨by decide, by decide⟩) (g := (mkF m 71 #[rv qa, iv xn] [(.int p0), (.int (0 : Int32)), (.ref b68), (.ref b68)])) rfl rfl (hb hby d0_71)
  have N74 := Fr.snoc X74 N0 ng68
  have V74 : Arv Z h74 b68 k68 .int (4 : Int32) [(.int p0), (.int (0 : Int32)), (.int (0 : Int32)), (.int (0 : Int32))] (.int (0 : Int32)) := Arv.set Ar73 q73 S73 M73 H73 G73 rfl W74 0 rfl (Nat.le_of_ble_eq_true rfl)
  have g75 : Goes p e below S0 (T74.setTop (mkF m 72 #[rv qa, iv xn] [(.ref b68)])) := fun t k => g72 t (st74 t k)
  have g76 : Goes p e below S0 (T74.setTop (mkF m 76 #[rv qa, iv xn] [(.int (1 : Int32)), (.ref qa), (.int (1 : Int32)), (.ref b68), (.ref b68)])) := fun t k => g75 t (by
    refine XS.dup X74.here hx rfl (hb hby d0_72) rfl rfl ?_
    show Go p e below t T74 m 73 #[rv qa, iv xn] [(.ref b68), (.ref b68)]
    refine XT.iconstV X74.here hx rfl (1 : Int32) (hb hby d0_73) (by decide) ?_
    show Go p e below t T74 m 74 #[rv qa, iv xn] [(.int (1 : Int32)), (.ref b68), (.ref b68)]
    refine XS.aloadN X74.here hx rfl (hb hby d0_74) rfl rfl ?_
    show Go p e below t T74 m 75 #[rv qa, iv xn] [(.ref qa), (.int (1 : Int32)), (.ref b68), (.ref b68)]
    refine XT.iconstV X74.here hx rfl (1 : Int32) (hb hby d0_75) (by decide) ?_
    show Go p e below t T74 m 76 #[rv qa, iv xn] [(.int (1 : Int32)), (.ref qa), (.int (1 : Int32)), (.ref b68), (.ref b68)]
    exact k)
  obtain ⟨cl77, Ar77, q77, S77, M77, H77, G77⟩ := id ((P0.ext E68).other W74 (Nat.ne_of_lt (Nat.lt_of_lt_of_le P0.lt (Nat.le_of_eq gb68.symm))))
  have g78 : Goes p e below S0 (T74.setTop (mkF m 77 #[rv qa, iv xn] [(.int p1), (.int (1 : Int32)), (.ref b68), (.ref b68)])) := fun t k => g76 t (by
    refine X74.iaload hx (j := (1 : Int32)) (v := (.int p1)) (by rw [e74]; exact Ar77.1) (State.isArrayOf_alike hZ.alike Ar77.2.1) Ar77.2.2 (inb_of S77 ⟨by decide, by decide⟩) (H77.at (inb_of S77 ⟨by decide, by decide⟩) rfl) (g := (mkF m 76 #[rv qa, iv xn] [(.int (1 : Int32)), (.ref qa), (.int (1 : Int32)), (.ref b68), (.ref b68)])) rfl rfl (hb hby d0_76) _ ?_
    show Go p e below t T74 m 77 #[rv qa, iv xn] [(.int p1), (.int (1 : Int32)), (.ref b68), (.ref b68)]
    exact k)
  obtain ⟨cl79, Ar79, q79, S79, M79, H79, G79⟩ := id V74
  obtain ⟨T80, h80, X80, e80, W80, st80⟩ := stI X74 hx hZ e74 Ar79 (j := (1 : Int32)) (inb_of S79 ⟨by decide, by decide⟩) (g := (mkF m 77 #[rv qa, iv xn] [(.int p1), (.int (1 : Int32)), (.ref b68), (.ref b68)])) rfl rfl (hb hby d0_77)
  have N80 := Fr.snoc X80 N74 ng68
  have V80 : Arv Z h80 b68 k68 .int (4 : Int32) [(.int p0), (.int p1), (.int (0 : Int32)), (.int (0 : Int32))] (.int (0 : Int32)) := Arv.set Ar79 q79 S79 M79 H79 G79 rfl W80 1 rfl (Nat.le_of_ble_eq_true rfl)
  have g81 : Goes p e below S0 (T80.setTop (mkF m 78 #[rv qa, iv xn] [(.ref b68)])) := fun t k => g78 t (st80 t k)
  have g82 : Goes p e below S0 (T80.setTop (mkF m 82 #[rv qa, iv xn] [(.int (2 : Int32)), (.ref qa), (.int (2 : Int32)), (.ref b68), (.ref b68)])) := fun t k => g81 t (by
    refine XS.dup X80.here hx rfl (hb hby d0_78) rfl rfl ?_
    show Go p e below t T80 m 79 #[rv qa, iv xn] [(.ref b68), (.ref b68)]
    refine XT.iconstV X80.here hx rfl (2 : Int32) (hb hby d0_79) (by decide) ?_
    show Go p e below t T80 m 80 #[rv qa, iv xn] [(.int (2 : Int32)), (.ref b68), (.ref b68)]
    refine XS.aloadN X80.here hx rfl (hb hby d0_80) rfl rfl ?_
    show Go p e below t T80 m 81 #[rv qa, iv xn] [(.ref qa), (.int (2 : Int32)), (.ref b68), (.ref b68)]
    refine XT.iconstV X80.here hx rfl (2 : Int32) (hb hby d0_81) (by decide) ?_
    show Go p e below t T80 m 82 #[rv qa, iv xn] [(.int (2 : Int32)), (.ref qa), (.int (2 : Int32)), (.ref b68), (.ref b68)]
    exact k)
  obtain ⟨cl83, Ar83, q83, S83, M83, H83, G83⟩ := id (((P0.ext E68).other W74 (Nat.ne_of_lt (Nat.lt_of_lt_of_le P0.lt (Nat.le_of_eq gb68.symm)))).other W80 (Nat.ne_of_lt (Nat.lt_of_lt_of_le P0.lt (Nat.le_of_eq gb68.symm))))
  have g84 : Goes p e below S0 (T80.setTop (mkF m 83 #[rv qa, iv xn] [(.int p2), (.int (2 : Int32)), (.ref b68), (.ref b68)])) := fun t k => g82 t (by
    refine X80.iaload hx (j := (2 : Int32)) (v := (.int p2)) (by rw [e80]; exact Ar83.1) (State.isArrayOf_alike hZ.alike Ar83.2.1) Ar83.2.2 (inb_of S83 ⟨by decide, by decide⟩) (H83.at (inb_of S83 ⟨by decide, by decide⟩) rfl) (g := (mkF m 82 #[rv qa, iv xn] [(.int (2 : Int32)), (.ref qa), (.int (2 : Int32)), (.ref b68), (.ref b68)])) rfl rfl (hb hby d0_82) _ ?_
    show Go p e below t T80 m 83 #[rv qa, iv xn] [(.int p2), (.int (2 : Int32)), (.ref b68), (.ref b68)]
    exact k)
  obtain ⟨cl85, Ar85, q85, S85, M85, H85, G85⟩ := id V80
  obtain ⟨T86, h86, X86, e86, W86, st86⟩ := stI X80 hx hZ e80 Ar85 (j := (2 : Int32)) (inb_of S85 ⟨by decide, by decide⟩) (g := (mkF m 83 #[rv qa, iv xn] [(.int p2), (.int (2 : Int32)), (.ref b68), (.ref b68)])) rfl rfl (hb hby d0_83)
  have N86 := Fr.snoc X86 N80 ng68
  have V86 : Arv Z h86 b68 k68 .int (4 : Int32) [(.int p0), (.int p1), (.int p2), (.int (0 : Int32))] (.int (0 : Int32)) := Arv.set Ar85 q85 S85 M85 H85 G85 rfl W86 2 rfl (Nat.le_of_ble_eq_true rfl)
  have g87 : Goes p e below S0 (T86.setTop (mkF m 84 #[rv qa, iv xn] [(.ref b68)])) := fun t k => g84 t (st86 t k)
  have g88 : Goes p e below S0 (T86.setTop (mkF m 88 #[rv qa, iv xn] [(.int (3 : Int32)), (.ref qa), (.int (3 : Int32)), (.ref b68), (.ref b68)])) := fun t k => g87 t (by
    refine XS.dup X86.here hx rfl (hb hby d0_84) rfl rfl ?_
    show Go p e below t T86 m 85 #[rv qa, iv xn] [(.ref b68), (.ref b68)]
    refine XT.iconstV X86.here hx rfl (3 : Int32) (hb hby d0_85) (by decide) ?_
    show Go p e below t T86 m 86 #[rv qa, iv xn] [(.int (3 : Int32)), (.ref b68), (.ref b68)]
    refine XS.aloadN X86.here hx rfl (hb hby d0_86) rfl rfl ?_
    show Go p e below t T86 m 87 #[rv qa, iv xn] [(.ref qa), (.int (3 : Int32)), (.ref b68), (.ref b68)]
    refine XT.iconstV X86.here hx rfl (3 : Int32) (hb hby d0_87) (by decide) ?_
    show Go p e below t T86 m 88 #[rv qa, iv xn] [(.int (3 : Int32)), (.ref qa), (.int (3 : Int32)), (.ref b68), (.ref b68)]
    exact k)
  obtain ⟨cl89, Ar89, q89, S89, M89, H89, G89⟩ := id ((((P0.ext E68).other W74 (Nat.ne_of_lt (Nat.lt_of_lt_of_le P0.lt (Nat.le_of_eq gb68.symm)))).other W80 (Nat.ne_of_lt (Nat.lt_of_lt_of_le P0.lt (Nat.le_of_eq gb68.symm)))).other W86 (Nat.ne_of_lt (Nat.lt_of_lt_of_le P0.lt (Nat.le_of_eq gb68.symm))))
  have g90 : Goes p e below S0 (T86.setTop (mkF m 89 #[rv qa, iv xn] [(.int p3), (.int (3 : Int32)), (.ref b68), (.ref b68)])) := fun t k => g88 t (by
    refine X86.iaload hx (j := (3 : Int32)) (v := (.int p3)) (by rw [e86]; exact Ar89.1) (State.isArrayOf_alike hZ.alike Ar89.2.1) Ar89.2.2 (inb_of S89 ⟨by decide, by decide⟩) (H89.at (inb_of S89 ⟨by decide, by decide⟩) rfl) (g := (mkF m 88 #[rv qa, iv xn] [(.int (3 : Int32)), (.ref qa), (.int (3 : Int32)), (.ref b68), (.ref b68)])) rfl rfl (hb hby d0_88) _ ?_
    show Go p e below t T86 m 89 #[rv qa, iv xn] [(.int p3), (.int (3 : Int32)), (.ref b68), (.ref b68)]
    exact k)
  obtain ⟨cl91, Ar91, q91, S91, M91, H91, G91⟩ := id V86
  obtain ⟨T92, h92, X92, e92, W92, st92⟩ := stI X86 hx hZ e86 Ar91 (j := (3 : Int32)) (inb_of S91 ⟨by decide, by decide⟩) (g := (mkF m 89 #[rv qa, iv xn] [(.int p3), (.int (3 : Int32)), (.ref b68), (.ref b68)])) rfl rfl (hb hby d0_89)
  have N92 := Fr.snoc X92 N86 ng68
  have V92 : Arv Z h92 b68 k68 .int (4 : Int32) [(.int p0), (.int p1), (.int p2), (.int p3)] (.int (0 : Int32)) := Arv.set Ar91 q91 S91 M91 H91 G91 rfl W92 3 rfl (Nat.le_of_ble_eq_true rfl)
  have g93 : Goes p e below S0 (T92.setTop (mkF m 90 #[rv qa, iv xn] [(.ref b68)])) := fun t k => g90 t (st92 t k)
  obtain ⟨fs, hr, hrun, hended, hW, hsame⟩ := X92.leave (v := some (.ref b68)) (fun h => by rw [Bd.returns] at h; cases h)
  refine ⟨_, _, g93 _ (retOut X92 hx Bd.returns rfl (Or.inr (Or.inr (Or.inr (Or.inr ⟨rfl, rfl, rfl⟩)))) (hb hby d0_90) hr), hrun, hended, _, _, rfl, ?_, ⟨_, rfl⟩, hW, hsame.mono (by decide) (by decide)⟩
  show Q_pr4 Z qa xn qk p0 p1 p2 p3 h0 n0 _ T92.heap _
  rw [e92]
  exact ⟨b68, k68, rfl, N92, ((((((Keep.refl h0 []).ext E68).wr W74 (Or.inr sz68)).wr W80 (Or.inr sz68)).wr W86 (Or.inr sz68)).wr W92 (Or.inr sz68)), V92, sz68⟩
theorem d4_0 : decode prog_48_method_2_code 0 = .ok (.aload_n 0, 1) := by decide +kernel
theorem d4_1 : decode prog_48_method_2_code 1 = .ok (.getfield 17, 3) := by decide +kernel
theorem d4_4 : decode prog_48_method_2_code 4 = .ok (.arraylength, 1) := by decide +kernel
theorem d4_5 : decode prog_48_method_2_code 5 = .ok (.iconst 1, 1) := by decide +kernel
theorem d4_6 : decode prog_48_method_2_code 6 = .ok (.isub, 1) := by decide +kernel
theorem d4_7 : decode prog_48_method_2_code 7 = .ok (.newarray .int, 2) := by decide +kernel
theorem d4_9 : decode prog_48_method_2_code 9 = .ok (.astore_n 1, 1) := by decide +kernel
theorem d4_10 : decode prog_48_method_2_code 10 = .ok (.iconst 0, 1) := by decide +kernel
theorem d4_11 : decode prog_48_method_2_code 11 = .ok (.istore_n 2, 1) := by decide +kernel
theorem d4_12 : decode prog_48_method_2_code 12 = .ok (.aload_n 0, 1) := by decide +kernel
theorem d4_13 : decode prog_48_method_2_code 13 = .ok (.getfield 17, 3) := by decide +kernel
theorem d4_16 : decode prog_48_method_2_code 16 = .ok (.astore_n 3, 1) := by decide +kernel
theorem d4_17 : decode prog_48_method_2_code 17 = .ok (.aload_n 3, 1) := by decide +kernel
theorem d4_18 : decode prog_48_method_2_code 18 = .ok (.arraylength, 1) := by decide +kernel
theorem d4_19 : decode prog_48_method_2_code 19 = .ok (.istore 4, 2) := by decide +kernel
theorem d4_21 : decode prog_48_method_2_code 21 = .ok (.iconst 0, 1) := by decide +kernel
theorem d4_22 : decode prog_48_method_2_code 22 = .ok (.istore 5, 2) := by decide +kernel
theorem d4_24 : decode prog_48_method_2_code 24 = .ok (.iload 5, 2) := by decide +kernel
theorem d4_26 : decode prog_48_method_2_code 26 = .ok (.iload 4, 2) := by decide +kernel
theorem d4_28 : decode prog_48_method_2_code 28 = .ok (.if_icmp .ge 32, 3) := by decide +kernel
theorem d4_31 : decode prog_48_method_2_code 31 = .ok (.aload_n 3, 1) := by decide +kernel
theorem d4_32 : decode prog_48_method_2_code 32 = .ok (.iload 5, 2) := by decide +kernel
theorem d4_34 : decode prog_48_method_2_code 34 = .ok (.iaload, 1) := by decide +kernel
theorem d4_35 : decode prog_48_method_2_code 35 = .ok (.istore 6, 2) := by decide +kernel
theorem d4_37 : decode prog_48_method_2_code 37 = .ok (.iload 6, 2) := by decide +kernel
theorem d4_39 : decode prog_48_method_2_code 39 = .ok (.aload_n 0, 1) := by decide +kernel
theorem d4_40 : decode prog_48_method_2_code 40 = .ok (.getfield 7, 3) := by decide +kernel
theorem d4_43 : decode prog_48_method_2_code 43 = .ok (.if_icmp .eq 11, 3) := by decide +kernel
theorem d4_46 : decode prog_48_method_2_code 46 = .ok (.aload_n 1, 1) := by decide +kernel
theorem d4_47 : decode prog_48_method_2_code 47 = .ok (.iload_n 2, 1) := by decide +kernel
theorem d4_48 : decode prog_48_method_2_code 48 = .ok (.iinc 2 1, 3) := by decide +kernel
theorem d4_51 : decode prog_48_method_2_code 51 = .ok (.iload 6, 2) := by decide +kernel
theorem d4_53 : decode prog_48_method_2_code 53 = .ok (.iastore, 1) := by decide +kernel
theorem d4_54 : decode prog_48_method_2_code 54 = .ok (.iinc 5 1, 3) := by decide +kernel
theorem d4_57 : decode prog_48_method_2_code 57 = .ok (.goto (-33), 3) := by decide +kernel
theorem d4_60 : decode prog_48_method_2_code 60 = .ok (.aload_n 1, 1) := by decide +kernel
theorem d4_61 : decode prog_48_method_2_code 61 = .ok (.areturn, 1) := by decide +kernel
theorem pd3 : parseMethodDescriptor "()[I" = some ⟨[], some (.array .int)⟩ := by decide +kernel
theorem pf_md10 : plainFor (⟨"com/example/aristotle/aristotle/EliminationPlan$Step", "made", "()[I"⟩ : MethodName) = true := by first | exact plainFor_of_name (by first | (simp [plainName, overriddenIn, x]; done) | decide +kernel) | exact Jvm.Free.JP.mathPlain rfl (by decide +kernel) | decide +kernel
theorem ef_md10 (m : MethodId) (ma : Addr) : entryFrame m #[(.ref ma)] 7 = mkF m 0 #[rv ma, .unset, .unset, .unset, .unset, .unset, .unset] [] := by first | (simp [entryFrame, mkF, argsToLocals, Value.category, maxLocals]; done) | rfl
def Q_md10 (Z : State) (ma : Addr) (pa : Addr) (pk : ClassId) (p0 : Int32) (h0 : Heap) (n0 : Nat) (v : Option Value) (h : Heap) (L : List Loc) : Prop := ∃ (ra : Addr) (rk : ClassId), v = some (.ref ra) ∧ Fr n0 L ∧ (Keep h0 h []) ∧ (Arv Z h ra rk .int (0 : Int32) [] (.int (0 : Int32))) ∧ (h0.size ≤ ra)
set_option maxRecDepth 65536 in
set_option maxHeartbeats 40000000 in
theorem rm_md10 (l : Launch) (Z : State) (a0 : Array Value) (hw : ∀ d ∈ tables_1, d.before a0 Z = true) (ws : List Jvm.Cond) (ma : Addr) (pa : Addr) (pk : ClassId) (p0 : Int32) (h0 : Heap) (n0 : Nat) (Z0 : n0 ≤ h0.size) (P0 : Fld Z h0 ma "com/example/aristotle/aristotle/EliminationPlan$Step" "product" "[I" (.ref pa)) (P1 : Fld Z h0 ma "com/example/aristotle/aristotle/EliminationPlan$Step" "variable" "I" (.int p0)) (P2 : Arv Z h0 pa pk .int (1 : Int32) [(.int p0)] (.int (0 : Int32)))  :
    MetFree l (⟨"com/example/aristotle/aristotle/EliminationPlan$Step", "made", "()[I"⟩ : MethodName) (head1 (Jvm.Cond.code (⟨"com/example/aristotle/aristotle/EliminationPlan$Step", "made", "()[I"⟩ : MethodName) prog_48_method_2_code 7 (some (.array .int)) :: ws) ({ frames := 0, cells := 1, slots := 0, locals := 0 } : Room)) (fun a U => a = #[(.ref ma)] ∧ Z.Warmed39 U.vm ∧ U.heap = h0) (fun _ _ _ _ _ => True) (fun _ U o U' => ∃ v L, o = .returned v ∧ Q_md10 Z ma pa pk p0 h0 n0 v U'.heap L ∧ FrameEnd U o U' L ({ frames := 0, cells := 1, slots := 0, locals := 0 } : Room).cells ({ frames := 0, cells := 1, slots := 0, locals := 0 } : Room).slots) := by
  refine MetFree.of_bodySF pf_md10 hisR ?_
  intro p e s m args below meth c s₁ Bd hml0 hP hK
  obtain ⟨rfl, hZ, hh⟩ := hP
  have hx := Bd.exec
  have hby := Bd.bytes
  have hml : c.maxLocals = 7 := hml0
  have hown : s.vm.findClass "com/example/aristotle/aristotle/EliminationPlan$Step" = some m.cls := findClass_of_methodNamed Bd.named
  have hnm := (name_of_methodNamed Bd.named Bd.method).1
  have X0 : Stand p l e ({ frames := 0, cells := 1, slots := 0, locals := 0 } : Room) s m #[(.ref ma)] below meth c s₁ [] 0 0 := Stand.of_body Bd
  have e0 : s₁.heap = h0 := by rw [← hh, Bd.state]; rfl
  have N0 := Fr.nil n0
  obtain ⟨S0, hS0⟩ : ∃ z, z = s₁.setTop (entryFrame m #[(.ref ma)] 7) := ⟨_, rfl⟩
  rw [← hS0]
  have g0 : Goes p e below S0 (s₁.setTop (mkF m 0 #[rv ma, .unset, .unset, .unset, .unset, .unset, .unset] [])) := fun t k => by rw [hS0]; exact castTop (ef_md10 m ma) k
  have g94 : Goes p e below S0 (s₁.setTop (mkF m 1 #[rv ma, .unset, .unset, .unset, .unset, .unset, .unset] [(.ref ma)])) := fun t k => g0 t (by
    refine XS.aloadN X0.here hx rfl (hb hby d4_0) rfl rfl ?_
    show Go p e below t s₁ m 1 #[rv ma, .unset, .unset, .unset, .unset, .unset, .unset] [(.ref ma)]
    exact k)
  obtain ⟨T95, X95, e95, st95⟩ := getF X0 hx hZ hown (host := "") (Or.inl (hw _ (List.mem_of_getElem? (i := 25) rfl))) Via.refl e0 P0 (g := (mkF m 1 #[rv ma, .unset, .unset, .unset, .unset, .unset, .unset] [(.ref ma)])) rfl rfl (hb hby d4_1)
  have g96 : Goes p e below S0 (T95.setTop (mkF m 4 #[rv ma, .unset, .unset, .unset, .unset, .unset, .unset] [(.ref pa)])) := fun t k => g94 t (st95 t k)
  obtain ⟨cl97, Ar97, q97, S97, M97, H97, G97⟩ := id P2
  have g98 : Goes p e below S0 (T95.setTop (mkF m 7 #[rv ma, .unset, .unset, .unset, .unset, .unset, .unset] [(.int (0 : Int32))])) := fun t k => g96 t (by
    refine X95.arraylength hx (by rw [e95]; exact Ar97.1) (State.isArrayOf_alike hZ.alike Ar97.2.1) (g := (mkF m 4 #[rv ma, .unset, .unset, .unset, .unset, .unset, .unset] [(.ref pa)])) rfl rfl (hb hby d4_4) _ ?_
    rw [len_of S97 M97]
    show Go p e below t T95 m 5 #[rv ma, .unset, .unset, .unset, .unset, .unset, .unset] [(.int (1 : Int32))]
    refine XT.iconstV X95.here hx rfl (1 : Int32) (hb hby d4_5) (by decide) ?_
    show Go p e below t T95 m 6 #[rv ma, .unset, .unset, .unset, .unset, .unset, .unset] [(.int (1 : Int32)), (.int (1 : Int32))]
    refine XS.isub X95.here hx rfl (hb hby d4_6) rfl ?_
    rw [show ((1 : Int32) - (1 : Int32)) = (0 : Int32) by decide]
    show Go p e below t T95 m 7 #[rv ma, .unset, .unset, .unset, .unset, .unset, .unset] [(.int (0 : Int32))]
    exact k)
  obtain ⟨T99, h99, k99, X99, e99, E99, A99, st99⟩ := newP X95 hx hZ (hw _ (List.mem_of_getElem? (i := 1) rfl)) e95 (g := (mkF m 7 #[rv ma, .unset, .unset, .unset, .unset, .unset, .unset] [(.int (0 : Int32))])) rfl (hb hby d4_7) rfl (by decide) (cap := 0) (by decide) (by decide) (by decide) (by decide)
  obtain ⟨b99, gb99⟩ : ∃ z, z = h0.size := ⟨_, rfl⟩
  have sz99 : h0.size ≤ b99 := Nat.le_trans (Nat.le_refl _) (Nat.le_of_eq gb99.symm)
  have ng99 : n0 ≤ b99 := Nat.le_trans Z0 sz99
  rw [← gb99] at A99 st99
  have V99 : Arv Z h99 b99 k99 .int (0 : Int32) [] (.int (0 : Int32)) := (Arv.new A99 (by decide)).pad (pad_rep [] (.int (0 : Int32)) 0)
  have g100 : Goes p e below S0 (T99.setTop (mkF m 9 #[rv ma, .unset, .unset, .unset, .unset, .unset, .unset] [(.ref b99)])) := fun t k => g98 t (st99 t k)
  have g101 : Goes p e below S0 (T99.setTop (mkF m 13 #[rv ma, rv b99, iv (0 : Int32), .unset, .unset, .unset, .unset] [(.ref ma)])) := fun t k => g100 t (by
    refine XS.astoreN X99.here hx rfl (hb hby d4_9) rfl rfl (l' := #[rv ma, rv b99, .unset, .unset, .unset, .unset, .unset]) rfl ?_
    show Go p e below t T99 m 10 #[rv ma, rv b99, .unset, .unset, .unset, .unset, .unset] []
    refine XT.iconstV X99.here hx rfl (0 : Int32) (hb hby d4_10) (by decide) ?_
    show Go p e below t T99 m 11 #[rv ma, rv b99, .unset, .unset, .unset, .unset, .unset] [(.int (0 : Int32))]
    refine XS.istoreN X99.here hx rfl (hb hby d4_11) rfl (l' := #[rv ma, rv b99, iv (0 : Int32), .unset, .unset, .unset, .unset]) rfl ?_
    show Go p e below t T99 m 12 #[rv ma, rv b99, iv (0 : Int32), .unset, .unset, .unset, .unset] []
    refine XS.aloadN X99.here hx rfl (hb hby d4_12) rfl rfl ?_
    show Go p e below t T99 m 13 #[rv ma, rv b99, iv (0 : Int32), .unset, .unset, .unset, .unset] [(.ref ma)]
    exact k)
  obtain ⟨T102, X102, e102, st102⟩ := getF X99 hx hZ hown (host := "") (Or.inl (hw _ (List.mem_of_getElem? (i := 25) rfl))) Via.refl e99 (P0.ext E99) (g := (mkF m 13 #[rv ma, rv b99, iv (0 : Int32), .unset, .unset, .unset, .unset] [(.ref ma)])) rfl rfl (hb hby d4_13)
  have g103 : Goes p e below S0 (T102.setTop (mkF m 16 #[rv ma, rv b99, iv (0 : Int32), .unset, .unset, .unset, .unset] [(.ref pa)])) := fun t k => g101 t (st102 t k)
  have g104 : Goes p e below S0 (T102.setTop (mkF m 18 #[rv ma, rv b99, iv (0 : Int32), rv pa, .unset, .unset, .unset] [(.ref pa)])) := fun t k => g103 t (by
    refine XS.astoreN X102.here hx rfl (hb hby d4_16) rfl rfl (l' := #[rv ma, rv b99, iv (0 : Int32), rv pa, .unset, .unset, .unset]) rfl ?_
    show Go p e below t T102 m 17 #[rv ma, rv b99, iv (0 : Int32), rv pa, .unset, .unset, .unset] []
    refine XS.aloadN X102.here hx rfl (hb hby d4_17) rfl rfl ?_
    show Go p e below t T102 m 18 #[rv ma, rv b99, iv (0 : Int32), rv pa, .unset, .unset, .unset] [(.ref pa)]
    exact k)
  obtain ⟨cl105, Ar105, q105, S105, M105, H105, G105⟩ := id (P2.ext E99)
  have g106 : Goes p e below S0 (T102.setTop (mkF m 34 #[rv ma, rv b99, iv (0 : Int32), rv pa, iv (1 : Int32), iv (0 : Int32), .unset] [(.int (0 : Int32)), (.ref pa)])) := fun t k => g104 t (by
    refine X102.arraylength hx (by rw [e102]; exact Ar105.1) (State.isArrayOf_alike hZ.alike Ar105.2.1) (g := (mkF m 18 #[rv ma, rv b99, iv (0 : Int32), rv pa, .unset, .unset, .unset] [(.ref pa)])) rfl rfl (hb hby d4_18) _ ?_
    rw [len_of S105 M105]
    show Go p e below t T102 m 19 #[rv ma, rv b99, iv (0 : Int32), rv pa, .unset, .unset, .unset] [(.int (1 : Int32))]
    refine XS.istore X102.here hx rfl (hb hby d4_19) rfl (l' := #[rv ma, rv b99, iv (0 : Int32), rv pa, iv (1 : Int32), .unset, .unset]) rfl ?_
    show Go p e below t T102 m 21 #[rv ma, rv b99, iv (0 : Int32), rv pa, iv (1 : Int32), .unset, .unset] []
    refine XT.iconstV X102.here hx rfl (0 : Int32) (hb hby d4_21) (by decide) ?_
    show Go p e below t T102 m 22 #[rv ma, rv b99, iv (0 : Int32), rv pa, iv (1 : Int32), .unset, .unset] [(.int (0 : Int32))]
    refine XS.istore X102.here hx rfl (hb hby d4_22) rfl (l' := #[rv ma, rv b99, iv (0 : Int32), rv pa, iv (1 : Int32), iv (0 : Int32), .unset]) rfl ?_
    show Go p e below t T102 m 24 #[rv ma, rv b99, iv (0 : Int32), rv pa, iv (1 : Int32), iv (0 : Int32), .unset] []
    refine XS.iload X102.here hx rfl (hb hby d4_24) rfl ?_
    show Go p e below t T102 m 26 #[rv ma, rv b99, iv (0 : Int32), rv pa, iv (1 : Int32), iv (0 : Int32), .unset] [(.int (0 : Int32))]
    refine XS.iload X102.here hx rfl (hb hby d4_26) rfl ?_
    show Go p e below t T102 m 28 #[rv ma, rv b99, iv (0 : Int32), rv pa, iv (1 : Int32), iv (0 : Int32), .unset] [(.int (1 : Int32)), (.int (0 : Int32))]
    refine XS.icmpNo X102.here hx rfl (hb hby d4_28) rfl (XT.ii_ge_f (by decide)) ?_
    show Go p e below t T102 m 31 #[rv ma, rv b99, iv (0 : Int32), rv pa, iv (1 : Int32), iv (0 : Int32), .unset] []
    refine XS.aloadN X102.here hx rfl (hb hby d4_31) rfl rfl ?_
    show Go p e below t T102 m 32 #[rv ma, rv b99, iv (0 : Int32), rv pa, iv (1 : Int32), iv (0 : Int32), .unset] [(.ref pa)]
    refine XS.iload X102.here hx rfl (hb hby d4_32) rfl ?_
    show Go p e below t T102 m 34 #[rv ma, rv b99, iv (0 : Int32), rv pa, iv (1 : Int32), iv (0 : Int32), .unset] [(.int (0 : Int32)), (.ref pa)]
    exact k)
  obtain ⟨cl107, Ar107, q107, S107, M107, H107, G107⟩ := id (P2.ext E99)
  have g108 : Goes p e below S0 (T102.setTop (mkF m 40 #[rv ma, rv b99, iv (0 : Int32), rv pa, iv (1 : Int32), iv (0 : Int32), iv p0] [(.ref ma), (.int p0)])) := fun t k => g106 t (by
    refine X102.iaload hx (j := (0 : Int32)) (v := (.int p0)) (by rw [e102]; exact Ar107.1) (State.isArrayOf_alike hZ.alike Ar107.2.1) Ar107.2.2 (inb_of S107 ⟨by decide, by decide⟩) (H107.at (inb_of S107 ⟨by decide, by decide⟩) rfl) (g := (mkF m 34 #[rv ma, rv b99, iv (0 : Int32), rv pa, iv (1 : Int32), iv (0 : Int32), .unset] [(.int (0 : Int32)), (.ref pa)])) rfl rfl (hb hby d4_34) _ ?_
    show Go p e below t T102 m 35 #[rv ma, rv b99, iv (0 : Int32), rv pa, iv (1 : Int32), iv (0 : Int32), .unset] [(.int p0)]
    refine XS.istore X102.here hx rfl (hb hby d4_35) rfl (l' := #[rv ma, rv b99, iv (0 : Int32), rv pa, iv (1 : Int32), iv (0 : Int32), iv p0]) rfl ?_
    show Go p e below t T102 m 37 #[rv ma, rv b99, iv (0 : Int32), rv pa, iv (1 : Int32), iv (0 : Int32), iv p0] []
    refine XS.iload X102.here hx rfl (hb hby d4_37) rfl ?_
    show Go p e below t T102 m 39 #[rv ma, rv b99, iv (0 : Int32), rv pa, iv (1 : Int32), iv (0 : Int32), iv p0] [(.int p0)]
    refine XS.aloadN X102.here hx rfl (hb hby d4_39) rfl rfl ?_
    show Go p e below t T102 m 40 #[rv ma, rv b99, iv (0 : Int32), rv pa, iv (1 : Int32), iv (0 : Int32), iv p0] [(.ref ma), (.int p0)]
    exact k)
  obtain ⟨T109, X109, e109, st109⟩ := getF X102 hx hZ hown (host := "") (Or.inl (hw _ (List.mem_of_getElem? (i := 21) rfl))) Via.refl e102 (P1.ext E99) (g := (mkF m 40 #[rv ma, rv b99, iv (0 : Int32), rv pa, iv (1 : Int32), iv (0 : Int32), iv p0] [(.ref ma), (.int p0)])) rfl rfl (hb hby d4_40)
  have g110 : Goes p e below S0 (T109.setTop (mkF m 43 #[rv ma, rv b99, iv (0 : Int32), rv pa, iv (1 : Int32), iv (0 : Int32), iv p0] [(.int p0), (.int p0)])) := fun t k => g108 t (st109 t k)
  have g111 : Goes p e below S0 (T109.setTop (mkF m 61 #[rv ma, rv b99, iv (0 : Int32), rv pa, iv (1 : Int32), iv (1 : Int32), iv p0] [(.ref b99)])) := fun t k => g110 t (by
    refine XS.icmpYes X109.here hx rfl (pc0 := 43) (pc' := 54) rfl (hb hby d4_43) rfl (XT.ii_eq_t rfl) (by decide) (by decide) ?_
    show Go p e below t T109 m 54 #[rv ma, rv b99, iv (0 : Int32), rv pa, iv (1 : Int32), iv (0 : Int32), iv p0] []
    refine XT.iincV X109.here hx rfl (1 : Int32) (hb hby d4_54) (by decide) rfl (l' := #[rv ma, rv b99, iv (0 : Int32), rv pa, iv (1 : Int32), iv (1 : Int32), iv p0]) rfl ?_
    show Go p e below t T109 m 57 #[rv ma, rv b99, iv (0 : Int32), rv pa, iv (1 : Int32), iv (1 : Int32), iv p0] []
    refine XS.goto X109.here hx rfl (pc0 := 57) (pc' := 24) rfl (hb hby d4_57) (by decide) (by decide) ?_
    show Go p e below t T109 m 24 #[rv ma, rv b99, iv (0 : Int32), rv pa, iv (1 : Int32), iv (1 : Int32), iv p0] []
    refine XS.iload X109.here hx rfl (hb hby d4_24) rfl ?_
    show Go p e below t T109 m 26 #[rv ma, rv b99, iv (0 : Int32), rv pa, iv (1 : Int32), iv (1 : Int32), iv p0] [(.int (1 : Int32))]
    refine XS.iload X109.here hx rfl (hb hby d4_26) rfl ?_
    show Go p e below t T109 m 28 #[rv ma, rv b99, iv (0 : Int32), rv pa, iv (1 : Int32), iv (1 : Int32), iv p0] [(.int (1 : Int32)), (.int (1 : Int32))]
    refine XS.icmpYes X109.here hx rfl (pc0 := 28) (pc' := 60) rfl (hb hby d4_28) rfl (XT.ii_ge_t (by decide)) (by decide) (by decide) ?_
    show Go p e below t T109 m 60 #[rv ma, rv b99, iv (0 : Int32), rv pa, iv (1 : Int32), iv (1 : Int32), iv p0] []
    refine XS.aloadN X109.here hx rfl (hb hby d4_60) rfl rfl ?_
    show Go p e below t T109 m 61 #[rv ma, rv b99, iv (0 : Int32), rv pa, iv (1 : Int32), iv (1 : Int32), iv p0] [(.ref b99)]
    exact k)
  obtain ⟨fs, hr, hrun, hended, hW, hsame⟩ := X109.leave (v := some (.ref b99)) (fun h => by rw [Bd.returns] at h; cases h)
  refine ⟨_, _, g111 _ (retOut X109 hx Bd.returns rfl (Or.inr (Or.inr (Or.inr (Or.inr ⟨rfl, rfl, rfl⟩)))) (hb hby d4_61) hr), hrun, hended, _, _, rfl, ?_, ⟨_, rfl⟩, hW, hsame.mono (by decide) (by decide)⟩
  show Q_md10 Z ma pa pk p0 h0 n0 _ T109.heap _
  rw [e109]
  exact ⟨b99, k99, rfl, N0, ((Keep.refl h0 []).ext E99), V99, sz99⟩
theorem pf_md20 : plainFor (⟨"com/example/aristotle/aristotle/EliminationPlan$Step", "made", "()[I"⟩ : MethodName) = true := by first | exact plainFor_of_name (by first | (simp [plainName, overriddenIn, x]; done) | decide +kernel) | exact Jvm.Free.JP.mathPlain rfl (by decide +kernel) | decide +kernel
theorem ef_md20 (m : MethodId) (ma : Addr) : entryFrame m #[(.ref ma)] 7 = mkF m 0 #[rv ma, .unset, .unset, .unset, .unset, .unset, .unset] [] := by first | (simp [entryFrame, mkF, argsToLocals, Value.category, maxLocals]; done) | rfl
def Q_md20 (Z : State) (ma : Addr) (pa : Addr) (pk : ClassId) (p0 : Int32) (p1 : Int32) (h0 : Heap) (n0 : Nat) (v : Option Value) (h : Heap) (L : List Loc) : Prop := ∃ (ra : Addr) (rk : ClassId), v = some (.ref ra) ∧ Fr n0 L ∧ (Keep h0 h []) ∧ (Arv Z h ra rk .int (1 : Int32) [(.int p1)] (.int (0 : Int32))) ∧ (h0.size ≤ ra)
set_option maxRecDepth 65536 in
set_option maxHeartbeats 40000000 in
theorem rm_md20 (l : Launch) (Z : State) (a0 : Array Value) (hw : ∀ d ∈ tables_1, d.before a0 Z = true) (ws : List Jvm.Cond) (ma : Addr) (pa : Addr) (pk : ClassId) (p0 : Int32) (p1 : Int32) (h0 : Heap) (n0 : Nat) (Z0 : n0 ≤ h0.size) (P0 : Fld Z h0 ma "com/example/aristotle/aristotle/EliminationPlan$Step" "product" "[I" (.ref pa)) (P1 : Fld Z h0 ma "com/example/aristotle/aristotle/EliminationPlan$Step" "variable" "I" (.int p0)) (P2 : Arv Z h0 pa pk .int (2 : Int32) [(.int p0), (.int p1)] (.int (0 : Int32))) (ne1 : ¬ (p1 = p0))  :
    MetFree l (⟨"com/example/aristotle/aristotle/EliminationPlan$Step", "made", "()[I"⟩ : MethodName) (head1 (Jvm.Cond.code (⟨"com/example/aristotle/aristotle/EliminationPlan$Step", "made", "()[I"⟩ : MethodName) prog_48_method_2_code 7 (some (.array .int)) :: ws) ({ frames := 0, cells := 1, slots := 1, locals := 0 } : Room)) (fun a U => a = #[(.ref ma)] ∧ Z.Warmed39 U.vm ∧ U.heap = h0) (fun _ _ _ _ _ => True) (fun _ U o U' => ∃ v L, o = .returned v ∧ Q_md20 Z ma pa pk p0 p1 h0 n0 v U'.heap L ∧ FrameEnd U o U' L ({ frames := 0, cells := 1, slots := 1, locals := 0 } : Room).cells ({ frames := 0, cells := 1, slots := 1, locals := 0 } : Room).slots) := by
  refine MetFree.of_bodySF pf_md20 hisR ?_
  intro p e s m args below meth c s₁ Bd hml0 hP hK
  obtain ⟨rfl, hZ, hh⟩ := hP
  have hx := Bd.exec
  have hby := Bd.bytes
  have hml : c.maxLocals = 7 := hml0
  have hown : s.vm.findClass "com/example/aristotle/aristotle/EliminationPlan$Step" = some m.cls := findClass_of_methodNamed Bd.named
  have hnm := (name_of_methodNamed Bd.named Bd.method).1
  have X0 : Stand p l e ({ frames := 0, cells := 1, slots := 1, locals := 0 } : Room) s m #[(.ref ma)] below meth c s₁ [] 0 0 := Stand.of_body Bd
  have e0 : s₁.heap = h0 := by rw [← hh, Bd.state]; rfl
  have N0 := Fr.nil n0
  obtain ⟨S0, hS0⟩ : ∃ z, z = s₁.setTop (entryFrame m #[(.ref ma)] 7) := ⟨_, rfl⟩
  rw [← hS0]
  have g0 : Goes p e below S0 (s₁.setTop (mkF m 0 #[rv ma, .unset, .unset, .unset, .unset, .unset, .unset] [])) := fun t k => by rw [hS0]; exact castTop (ef_md20 m ma) k
  have g112 : Goes p e below S0 (s₁.setTop (mkF m 1 #[rv ma, .unset, .unset, .unset, .unset, .unset, .unset] [(.ref ma)])) := fun t k => g0 t (by
    refine XS.aloadN X0.here hx rfl (hb hby d4_0) rfl rfl ?_
    show Go p e below t s₁ m 1 #[rv ma, .unset, .unset, .unset, .unset, .unset, .unset] [(.ref ma)]
    exact k)
  obtain ⟨T113, X113, e113, st113⟩ := getF X0 hx hZ hown (host := "") (Or.inl (hw _ (List.mem_of_getElem? (i := 25) rfl))) Via.refl e0 P0 (g := (mkF m 1 #[rv ma, .unset, .unset, .unset, .unset, .unset, .unset] [(.ref ma)])) rfl rfl (hb hby d4_1)
  have g114 : Goes p e below S0 (T113.setTop (mkF m 4 #[rv ma, .unset, .unset, .unset, .unset, .unset, .unset] [(.ref pa)])) := fun t k => g112 t (st113 t k)
  obtain ⟨cl115, Ar115, q115, S115, M115, H115, G115⟩ := id P2
  have g116 : Goes p e below S0 (T113.setTop (mkF m 7 #[rv ma, .unset, .unset, .unset, .unset, .unset, .unset] [(.int (1 : Int32))])) := fun t k => g114 t (by
    refine X113.arraylength hx (by rw [e113]; exact Ar115.1) (State.isArrayOf_alike hZ.alike Ar115.2.1) (g := (mkF m 4 #[rv ma, .unset, .unset, .unset, .unset, .unset, .unset] [(.ref pa)])) rfl rfl (hb hby d4_4) _ ?_
    rw [len_of S115 M115]
    show Go p e below t T113 m 5 #[rv ma, .unset, .unset, .unset, .unset, .unset, .unset] [(.int (2 : Int32))]
    refine XT.iconstV X113.here hx rfl (1 : Int32) (hb hby d4_5) (by decide) ?_
    show Go p e below t T113 m 6 #[rv ma, .unset, .unset, .unset, .unset, .unset, .unset] [(.int (1 : Int32)), (.int (2 : Int32))]
    refine XS.isub X113.here hx rfl (hb hby d4_6) rfl ?_
    rw [show ((2 : Int32) - (1 : Int32)) = (1 : Int32) by decide]
    show Go p e below t T113 m 7 #[rv ma, .unset, .unset, .unset, .unset, .unset, .unset] [(.int (1 : Int32))]
    exact k)
  obtain ⟨T117, h117, k117, X117, e117, E117, A117, st117⟩ := newP X113 hx hZ (hw _ (List.mem_of_getElem? (i := 1) rfl)) e113 (g := (mkF m 7 #[rv ma, .unset, .unset, .unset, .unset, .unset, .unset] [(.int (1 : Int32))])) rfl (hb hby d4_7) rfl (by decide) (cap := 1) (by decide) (by decide) (by decide) (by decide)
  obtain ⟨b117, gb117⟩ : ∃ z, z = h0.size := ⟨_, rfl⟩
  have sz117 : h0.size ≤ b117 := Nat.le_trans (Nat.le_refl _) (Nat.le_of_eq gb117.symm)
  have ng117 : n0 ≤ b117 := Nat.le_trans Z0 sz117
  rw [← gb117] at A117 st117
  have V117 : Arv Z h117 b117 k117 .int (1 : Int32) [(.int (0 : Int32))] (.int (0 : Int32)) := (Arv.new A117 (by decide)).pad (pad_rep [] (.int (0 : Int32)) 1)
  have g118 : Goes p e below S0 (T117.setTop (mkF m 9 #[rv ma, .unset, .unset, .unset, .unset, .unset, .unset] [(.ref b117)])) := fun t k => g116 t (st117 t k)
  have g119 : Goes p e below S0 (T117.setTop (mkF m 13 #[rv ma, rv b117, iv (0 : Int32), .unset, .unset, .unset, .unset] [(.ref ma)])) := fun t k => g118 t (by
    refine XS.astoreN X117.here hx rfl (hb hby d4_9) rfl rfl (l' := #[rv ma, rv b117, .unset, .unset, .unset, .unset, .unset]) rfl ?_
    show Go p e below t T117 m 10 #[rv ma, rv b117, .unset, .unset, .unset, .unset, .unset] []
    refine XT.iconstV X117.here hx rfl (0 : Int32) (hb hby d4_10) (by decide) ?_
    show Go p e below t T117 m 11 #[rv ma, rv b117, .unset, .unset, .unset, .unset, .unset] [(.int (0 : Int32))]
    refine XS.istoreN X117.here hx rfl (hb hby d4_11) rfl (l' := #[rv ma, rv b117, iv (0 : Int32), .unset, .unset, .unset, .unset]) rfl ?_
    show Go p e below t T117 m 12 #[rv ma, rv b117, iv (0 : Int32), .unset, .unset, .unset, .unset] []
    refine XS.aloadN X117.here hx rfl (hb hby d4_12) rfl rfl ?_
    show Go p e below t T117 m 13 #[rv ma, rv b117, iv (0 : Int32), .unset, .unset, .unset, .unset] [(.ref ma)]
    exact k)
  obtain ⟨T120, X120, e120, st120⟩ := getF X117 hx hZ hown (host := "") (Or.inl (hw _ (List.mem_of_getElem? (i := 25) rfl))) Via.refl e117 (P0.ext E117) (g := (mkF m 13 #[rv ma, rv b117, iv (0 : Int32), .unset, .unset, .unset, .unset] [(.ref ma)])) rfl rfl (hb hby d4_13)
  have g121 : Goes p e below S0 (T120.setTop (mkF m 16 #[rv ma, rv b117, iv (0 : Int32), .unset, .unset, .unset, .unset] [(.ref pa)])) := fun t k => g119 t (st120 t k)
  have g122 : Goes p e below S0 (T120.setTop (mkF m 18 #[rv ma, rv b117, iv (0 : Int32), rv pa, .unset, .unset, .unset] [(.ref pa)])) := fun t k => g121 t (by
    refine XS.astoreN X120.here hx rfl (hb hby d4_16) rfl rfl (l' := #[rv ma, rv b117, iv (0 : Int32), rv pa, .unset, .unset, .unset]) rfl ?_
    show Go p e below t T120 m 17 #[rv ma, rv b117, iv (0 : Int32), rv pa, .unset, .unset, .unset] []
    refine XS.aloadN X120.here hx rfl (hb hby d4_17) rfl rfl ?_
    show Go p e below t T120 m 18 #[rv ma, rv b117, iv (0 : Int32), rv pa, .unset, .unset, .unset] [(.ref pa)]
    exact k)
  obtain ⟨cl123, Ar123, q123, S123, M123, H123, G123⟩ := id (P2.ext E117)
  have g124 : Goes p e below S0 (T120.setTop (mkF m 34 #[rv ma, rv b117, iv (0 : Int32), rv pa, iv (2 : Int32), iv (0 : Int32), .unset] [(.int (0 : Int32)), (.ref pa)])) := fun t k => g122 t (by
    refine X120.arraylength hx (by rw [e120]; exact Ar123.1) (State.isArrayOf_alike hZ.alike Ar123.2.1) (g := (mkF m 18 #[rv ma, rv b117, iv (0 : Int32), rv pa, .unset, .unset, .unset] [(.ref pa)])) rfl rfl (hb hby d4_18) _ ?_
    rw [len_of S123 M123]
    show Go p e below t T120 m 19 #[rv ma, rv b117, iv (0 : Int32), rv pa, .unset, .unset, .unset] [(.int (2 : Int32))]
    refine XS.istore X120.here hx rfl (hb hby d4_19) rfl (l' := #[rv ma, rv b117, iv (0 : Int32), rv pa, iv (2 : Int32), .unset, .unset]) rfl ?_
    show Go p e below t T120 m 21 #[rv ma, rv b117, iv (0 : Int32), rv pa, iv (2 : Int32), .unset, .unset] []
    refine XT.iconstV X120.here hx rfl (0 : Int32) (hb hby d4_21) (by decide) ?_
    show Go p e below t T120 m 22 #[rv ma, rv b117, iv (0 : Int32), rv pa, iv (2 : Int32), .unset, .unset] [(.int (0 : Int32))]
    refine XS.istore X120.here hx rfl (hb hby d4_22) rfl (l' := #[rv ma, rv b117, iv (0 : Int32), rv pa, iv (2 : Int32), iv (0 : Int32), .unset]) rfl ?_
    show Go p e below t T120 m 24 #[rv ma, rv b117, iv (0 : Int32), rv pa, iv (2 : Int32), iv (0 : Int32), .unset] []
    refine XS.iload X120.here hx rfl (hb hby d4_24) rfl ?_
    show Go p e below t T120 m 26 #[rv ma, rv b117, iv (0 : Int32), rv pa, iv (2 : Int32), iv (0 : Int32), .unset] [(.int (0 : Int32))]
    refine XS.iload X120.here hx rfl (hb hby d4_26) rfl ?_
    show Go p e below t T120 m 28 #[rv ma, rv b117, iv (0 : Int32), rv pa, iv (2 : Int32), iv (0 : Int32), .unset] [(.int (2 : Int32)), (.int (0 : Int32))]
    refine XS.icmpNo X120.here hx rfl (hb hby d4_28) rfl (XT.ii_ge_f (by decide)) ?_
    show Go p e below t T120 m 31 #[rv ma, rv b117, iv (0 : Int32), rv pa, iv (2 : Int32), iv (0 : Int32), .unset] []
    refine XS.aloadN X120.here hx rfl (hb hby d4_31) rfl rfl ?_
    show Go p e below t T120 m 32 #[rv ma, rv b117, iv (0 : Int32), rv pa, iv (2 : Int32), iv (0 : Int32), .unset] [(.ref pa)]
    refine XS.iload X120.here hx rfl (hb hby d4_32) rfl ?_
    show Go p e below t T120 m 34 #[rv ma, rv b117, iv (0 : Int32), rv pa, iv (2 : Int32), iv (0 : Int32), .unset] [(.int (0 : Int32)), (.ref pa)]
    exact k)
  obtain ⟨cl125, Ar125, q125, S125, M125, H125, G125⟩ := id (P2.ext E117)
  have g126 : Goes p e below S0 (T120.setTop (mkF m 40 #[rv ma, rv b117, iv (0 : Int32), rv pa, iv (2 : Int32), iv (0 : Int32), iv p0] [(.ref ma), (.int p0)])) := fun t k => g124 t (by
    refine X120.iaload hx (j := (0 : Int32)) (v := (.int p0)) (by rw [e120]; exact Ar125.1) (State.isArrayOf_alike hZ.alike Ar125.2.1) Ar125.2.2 (inb_of S125 ⟨by decide, by decide⟩) (H125.at (inb_of S125 ⟨by decide, by decide⟩) rfl) (g := (mkF m 34 #[rv ma, rv b117, iv (0 : Int32), rv pa, iv (2 : Int32), iv (0 : Int32), .unset] [(.int (0 : Int32)), (.ref pa)])) rfl rfl (hb hby d4_34) _ ?_
    show Go p e below t T120 m 35 #[rv ma, rv b117, iv (0 : Int32), rv pa, iv (2 : Int32), iv (0 : Int32), .unset] [(.int p0)]
    refine XS.istore X120.here hx rfl (hb hby d4_35) rfl (l' := #[rv ma, rv b117, iv (0 : Int32), rv pa, iv (2 : Int32), iv (0 : Int32), iv p0]) rfl ?_
    show Go p e below t T120 m 37 #[rv ma, rv b117, iv (0 : Int32), rv pa, iv (2 : Int32), iv (0 : Int32), iv p0] []
    refine XS.iload X120.here hx rfl (hb hby d4_37) rfl ?_
    show Go p e below t T120 m 39 #[rv ma, rv b117, iv (0 : Int32), rv pa, iv (2 : Int32), iv (0 : Int32), iv p0] [(.int p0)]
    refine XS.aloadN X120.here hx rfl (hb hby d4_39) rfl rfl ?_
    show Go p e below t T120 m 40 #[rv ma, rv b117, iv (0 : Int32), rv pa, iv (2 : Int32), iv (0 : Int32), iv p0] [(.ref ma), (.int p0)]
    exact k)
  obtain ⟨T127, X127, e127, st127⟩ := getF X120 hx hZ hown (host := "") (Or.inl (hw _ (List.mem_of_getElem? (i := 21) rfl))) Via.refl e120 (P1.ext E117) (g := (mkF m 40 #[rv ma, rv b117, iv (0 : Int32), rv pa, iv (2 : Int32), iv (0 : Int32), iv p0] [(.ref ma), (.int p0)])) rfl rfl (hb hby d4_40)
  have g128 : Goes p e below S0 (T127.setTop (mkF m 43 #[rv ma, rv b117, iv (0 : Int32), rv pa, iv (2 : Int32), iv (0 : Int32), iv p0] [(.int p0), (.int p0)])) := fun t k => g126 t (st127 t k)
  have g129 : Goes p e below S0 (T127.setTop (mkF m 34 #[rv ma, rv b117, iv (0 : Int32), rv pa, iv (2 : Int32), iv (1 : Int32), iv p0] [(.int (1 : Int32)), (.ref pa)])) := fun t k => g128 t (by
    refine XS.icmpYes X127.here hx rfl (pc0 := 43) (pc' := 54) rfl (hb hby d4_43) rfl (XT.ii_eq_t rfl) (by decide) (by decide) ?_
    show Go p e below t T127 m 54 #[rv ma, rv b117, iv (0 : Int32), rv pa, iv (2 : Int32), iv (0 : Int32), iv p0] []
    refine XT.iincV X127.here hx rfl (1 : Int32) (hb hby d4_54) (by decide) rfl (l' := #[rv ma, rv b117, iv (0 : Int32), rv pa, iv (2 : Int32), iv (1 : Int32), iv p0]) rfl ?_
    show Go p e below t T127 m 57 #[rv ma, rv b117, iv (0 : Int32), rv pa, iv (2 : Int32), iv (1 : Int32), iv p0] []
    refine XS.goto X127.here hx rfl (pc0 := 57) (pc' := 24) rfl (hb hby d4_57) (by decide) (by decide) ?_
    show Go p e below t T127 m 24 #[rv ma, rv b117, iv (0 : Int32), rv pa, iv (2 : Int32), iv (1 : Int32), iv p0] []
    refine XS.iload X127.here hx rfl (hb hby d4_24) rfl ?_
    show Go p e below t T127 m 26 #[rv ma, rv b117, iv (0 : Int32), rv pa, iv (2 : Int32), iv (1 : Int32), iv p0] [(.int (1 : Int32))]
    refine XS.iload X127.here hx rfl (hb hby d4_26) rfl ?_
    show Go p e below t T127 m 28 #[rv ma, rv b117, iv (0 : Int32), rv pa, iv (2 : Int32), iv (1 : Int32), iv p0] [(.int (2 : Int32)), (.int (1 : Int32))]
    refine XS.icmpNo X127.here hx rfl (hb hby d4_28) rfl (XT.ii_ge_f (by decide)) ?_
    show Go p e below t T127 m 31 #[rv ma, rv b117, iv (0 : Int32), rv pa, iv (2 : Int32), iv (1 : Int32), iv p0] []
    refine XS.aloadN X127.here hx rfl (hb hby d4_31) rfl rfl ?_
    show Go p e below t T127 m 32 #[rv ma, rv b117, iv (0 : Int32), rv pa, iv (2 : Int32), iv (1 : Int32), iv p0] [(.ref pa)]
    refine XS.iload X127.here hx rfl (hb hby d4_32) rfl ?_
    show Go p e below t T127 m 34 #[rv ma, rv b117, iv (0 : Int32), rv pa, iv (2 : Int32), iv (1 : Int32), iv p0] [(.int (1 : Int32)), (.ref pa)]
    exact k)
  obtain ⟨cl130, Ar130, q130, S130, M130, H130, G130⟩ := id (P2.ext E117)
  have g131 : Goes p e below S0 (T127.setTop (mkF m 40 #[rv ma, rv b117, iv (0 : Int32), rv pa, iv (2 : Int32), iv (1 : Int32), iv p1] [(.ref ma), (.int p1)])) := fun t k => g129 t (by
    refine X127.iaload hx (j := (1 : Int32)) (v := (.int p1)) (by rw [e127]; exact Ar130.1) (State.isArrayOf_alike hZ.alike Ar130.2.1) Ar130.2.2 (inb_of S130 ⟨by decide, by decide⟩) (H130.at (inb_of S130 ⟨by decide, by decide⟩) rfl) (g := (mkF m 34 #[rv ma, rv b117, iv (0 : Int32), rv pa, iv (2 : Int32), iv (1 : Int32), iv p0] [(.int (1 : Int32)), (.ref pa)])) rfl rfl (hb hby d4_34) _ ?_
    show Go p e below t T127 m 35 #[rv ma, rv b117, iv (0 : Int32), rv pa, iv (2 : Int32), iv (1 : Int32), iv p0] [(.int p1)]
    refine XS.istore X127.here hx rfl (hb hby d4_35) rfl (l' := #[rv ma, rv b117, iv (0 : Int32), rv pa, iv (2 : Int32), iv (1 : Int32), iv p1]) rfl ?_
    show Go p e below t T127 m 37 #[rv ma, rv b117, iv (0 : Int32), rv pa, iv (2 : Int32), iv (1 : Int32), iv p1] []
    refine XS.iload X127.here hx rfl (hb hby d4_37) rfl ?_
    show Go p e below t T127 m 39 #[rv ma, rv b117, iv (0 : Int32), rv pa, iv (2 : Int32), iv (1 : Int32), iv p1] [(.int p1)]
    refine XS.aloadN X127.here hx rfl (hb hby d4_39) rfl rfl ?_
    show Go p e below t T127 m 40 #[rv ma, rv b117, iv (0 : Int32), rv pa, iv (2 : Int32), iv (1 : Int32), iv p1] [(.ref ma), (.int p1)]
    exact k)
  obtain ⟨T132, X132, e132, st132⟩ := getF X127 hx hZ hown (host := "") (Or.inl (hw _ (List.mem_of_getElem? (i := 21) rfl))) Via.refl e127 (P1.ext E117) (g := (mkF m 40 #[rv ma, rv b117, iv (0 : Int32), rv pa, iv (2 : Int32), iv (1 : Int32), iv p1] [(.ref ma), (.int p1)])) rfl rfl (hb hby d4_40)
  have g133 : Goes p e below S0 (T132.setTop (mkF m 43 #[rv ma, rv b117, iv (0 : Int32), rv pa, iv (2 : Int32), iv (1 : Int32), iv p1] [(.int p0), (.int p1)])) := fun t k => g131 t (st132 t k)
  have g134 : Goes p e below S0 (T132.setTop (mkF m 53 #[rv ma, rv b117, iv (1 : Int32), rv pa, iv (2 : Int32), iv (1 : Int32), iv p1] [(.int p1), (.int (0 : Int32)), (.ref b117)])) := fun t k => g133 t (by
    refine XS.icmpNo X132.here hx rfl (hb hby d4_43) rfl (XT.ii_eq_f ne1) ?_
    show Go p e below t T132 m 46 #[rv ma, rv b117, iv (0 : Int32), rv pa, iv (2 : Int32), iv (1 : Int32), iv p1] []
    refine XS.aloadN X132.here hx rfl (hb hby d4_46) rfl rfl ?_
    show Go p e below t T132 m 47 #[rv ma, rv b117, iv (0 : Int32), rv pa, iv (2 : Int32), iv (1 : Int32), iv p1] [(.ref b117)]
    refine XS.iloadN X132.here hx rfl (hb hby d4_47) rfl ?_
    show Go p e below t T132 m 48 #[rv ma, rv b117, iv (0 : Int32), rv pa, iv (2 : Int32), iv (1 : Int32), iv p1] [(.int (0 : Int32)), (.ref b117)]
    refine XT.iincV X132.here hx rfl (1 : Int32) (hb hby d4_48) (by decide) rfl (l' := #[rv ma, rv b117, iv (1 : Int32), rv pa, iv (2 : Int32), iv (1 : Int32), iv p1]) rfl ?_
    show Go p e below t T132 m 51 #[rv ma, rv b117, iv (1 : Int32), rv pa, iv (2 : Int32), iv (1 : Int32), iv p1] [(.int (0 : Int32)), (.ref b117)]
    refine XS.iload X132.here hx rfl (hb hby d4_51) rfl ?_
    show Go p e below t T132 m 53 #[rv ma, rv b117, iv (1 : Int32), rv pa, iv (2 : Int32), iv (1 : Int32), iv p1] [(.int p1), (.int (0 : Int32)), (.ref b117)]
    exact k)
  obtain ⟨cl135, Ar135, q135, S135, M135, H135, G135⟩ := id V117
  obtain ⟨T136, h136, X136, e136, W136, st136⟩ := stI X132 hx hZ e132 Ar135 (j := (0 : Int32)) (inb_of S135 ⟨by decide, by decide⟩) (g := (mkF m 53 #[rv ma, rv b117, iv (1 : Int32), rv pa, iv (2 : Int32), iv (1 : Int32), iv p1] [(.int p1), (.int (0 : Int32)), (.ref b117)])) rfl rfl (hb hby d4_53)
  have N136 := Fr.snoc X136 N0 ng117
  have V136 : Arv Z h136 b117 k117 .int (1 : Int32) [(.int p1)] (.int (0 : Int32)) := Arv.set Ar135 q135 S135 M135 H135 G135 rfl W136 0 rfl (Nat.le_of_ble_eq_true rfl)
  have g137 : Goes p e below S0 (T136.setTop (mkF m 54 #[rv ma, rv b117, iv (1 : Int32), rv pa, iv (2 : Int32), iv (1 : Int32), iv p1] [])) := fun t k => g134 t (st136 t k)
  have g138 : Goes p e below S0 (T136.setTop (mkF m 61 #[rv ma, rv b117, iv (1 : Int32), rv pa, iv (2 : Int32), iv (2 : Int32), iv p1] [(.ref b117)])) := fun t k => g137 t (by
    refine XT.iincV X136.here hx rfl (1 : Int32) (hb hby d4_54) (by decide) rfl (l' := #[rv ma, rv b117, iv (1 : Int32), rv pa, iv (2 : Int32), iv (2 : Int32), iv p1]) rfl ?_
    show Go p e below t T136 m 57 #[rv ma, rv b117, iv (1 : Int32), rv pa, iv (2 : Int32), iv (2 : Int32), iv p1] []
    refine XS.goto X136.here hx rfl (pc0 := 57) (pc' := 24) rfl (hb hby d4_57) (by decide) (by decide) ?_
    show Go p e below t T136 m 24 #[rv ma, rv b117, iv (1 : Int32), rv pa, iv (2 : Int32), iv (2 : Int32), iv p1] []
    refine XS.iload X136.here hx rfl (hb hby d4_24) rfl ?_
    show Go p e below t T136 m 26 #[rv ma, rv b117, iv (1 : Int32), rv pa, iv (2 : Int32), iv (2 : Int32), iv p1] [(.int (2 : Int32))]
    refine XS.iload X136.here hx rfl (hb hby d4_26) rfl ?_
    show Go p e below t T136 m 28 #[rv ma, rv b117, iv (1 : Int32), rv pa, iv (2 : Int32), iv (2 : Int32), iv p1] [(.int (2 : Int32)), (.int (2 : Int32))]
    refine XS.icmpYes X136.here hx rfl (pc0 := 28) (pc' := 60) rfl (hb hby d4_28) rfl (XT.ii_ge_t (by decide)) (by decide) (by decide) ?_
    show Go p e below t T136 m 60 #[rv ma, rv b117, iv (1 : Int32), rv pa, iv (2 : Int32), iv (2 : Int32), iv p1] []
    refine XS.aloadN X136.here hx rfl (hb hby d4_60) rfl rfl ?_
    show Go p e below t T136 m 61 #[rv ma, rv b117, iv (1 : Int32), rv pa, iv (2 : Int32), iv (2 : Int32), iv p1] [(.ref b117)]
    exact k)
  obtain ⟨fs, hr, hrun, hended, hW, hsame⟩ := X136.leave (v := some (.ref b117)) (fun h => by rw [Bd.returns] at h; cases h)
  refine ⟨_, _, g138 _ (retOut X136 hx Bd.returns rfl (Or.inr (Or.inr (Or.inr (Or.inr ⟨rfl, rfl, rfl⟩)))) (hb hby d4_61) hr), hrun, hended, _, _, rfl, ?_, ⟨_, rfl⟩, hW, hsame.mono (by decide) (by decide)⟩
  show Q_md20 Z ma pa pk p0 p1 h0 n0 _ T136.heap _
  rw [e136]
  exact ⟨b117, k117, rfl, N136, (((Keep.refl h0 []).ext E117).wr W136 (Or.inr sz117)), V136, sz117⟩
theorem pf_md21 : plainFor (⟨"com/example/aristotle/aristotle/EliminationPlan$Step", "made", "()[I"⟩ : MethodName) = true := by first | exact plainFor_of_name (by first | (simp [plainName, overriddenIn, x]; done) | decide +kernel) | exact Jvm.Free.JP.mathPlain rfl (by decide +kernel) | decide +kernel
theorem ef_md21 (m : MethodId) (ma : Addr) : entryFrame m #[(.ref ma)] 7 = mkF m 0 #[rv ma, .unset, .unset, .unset, .unset, .unset, .unset] [] := by first | (simp [entryFrame, mkF, argsToLocals, Value.category, maxLocals]; done) | rfl
def Q_md21 (Z : State) (ma : Addr) (pa : Addr) (pk : ClassId) (p0 : Int32) (p1 : Int32) (h0 : Heap) (n0 : Nat) (v : Option Value) (h : Heap) (L : List Loc) : Prop := ∃ (ra : Addr) (rk : ClassId), v = some (.ref ra) ∧ Fr n0 L ∧ (Keep h0 h []) ∧ (Arv Z h ra rk .int (1 : Int32) [(.int p0)] (.int (0 : Int32))) ∧ (h0.size ≤ ra)
set_option maxRecDepth 65536 in
set_option maxHeartbeats 40000000 in
theorem rm_md21 (l : Launch) (Z : State) (a0 : Array Value) (hw : ∀ d ∈ tables_1, d.before a0 Z = true) (ws : List Jvm.Cond) (ma : Addr) (pa : Addr) (pk : ClassId) (p0 : Int32) (p1 : Int32) (h0 : Heap) (n0 : Nat) (Z0 : n0 ≤ h0.size) (P0 : Fld Z h0 ma "com/example/aristotle/aristotle/EliminationPlan$Step" "product" "[I" (.ref pa)) (P1 : Fld Z h0 ma "com/example/aristotle/aristotle/EliminationPlan$Step" "variable" "I" (.int p1)) (P2 : Arv Z h0 pa pk .int (2 : Int32) [(.int p0), (.int p1)] (.int (0 : Int32))) (ne0 : ¬ (p0 = p1))  :
    MetFree l (⟨"com/example/aristotle/aristotle/EliminationPlan$Step", "made", "()[I"⟩ : MethodName) (head1 (Jvm.Cond.code (⟨"com/example/aristotle/aristotle/EliminationPlan$Step", "made", "()[I"⟩ : MethodName) prog_48_method_2_code 7 (some (.array .int)) :: ws) ({ frames := 0, cells := 1, slots := 1, locals := 0 } : Room)) (fun a U => a = #[(.ref ma)] ∧ Z.Warmed39 U.vm ∧ U.heap = h0) (fun _ _ _ _ _ => True) (fun _ U o U' => ∃ v L, o = .returned v ∧ Q_md21 Z ma pa pk p0 p1 h0 n0 v U'.heap L ∧ FrameEnd U o U' L ({ frames := 0, cells := 1, slots := 1, locals := 0 } : Room).cells ({ frames := 0, cells := 1, slots := 1, locals := 0 } : Room).slots) := by
  refine MetFree.of_bodySF pf_md21 hisR ?_
  intro p e s m args below meth c s₁ Bd hml0 hP hK
  obtain ⟨rfl, hZ, hh⟩ := hP
  have hx := Bd.exec
  have hby := Bd.bytes
  have hml : c.maxLocals = 7 := hml0
  have hown : s.vm.findClass "com/example/aristotle/aristotle/EliminationPlan$Step" = some m.cls := findClass_of_methodNamed Bd.named
  have hnm := (name_of_methodNamed Bd.named Bd.method).1
  have X0 : Stand p l e ({ frames := 0, cells := 1, slots := 1, locals := 0 } : Room) s m #[(.ref ma)] below meth c s₁ [] 0 0 := Stand.of_body Bd
  have e0 : s₁.heap = h0 := by rw [← hh, Bd.state]; rfl
  have N0 := Fr.nil n0
  obtain ⟨S0, hS0⟩ : ∃ z, z = s₁.setTop (entryFrame m #[(.ref ma)] 7) := ⟨_, rfl⟩
  rw [← hS0]
  have g0 : Goes p e below S0 (s₁.setTop (mkF m 0 #[rv ma, .unset, .unset, .unset, .unset, .unset, .unset] [])) := fun t k => by rw [hS0]; exact castTop (ef_md21 m ma) k
  have g139 : Goes p e below S0 (s₁.setTop (mkF m 1 #[rv ma, .unset, .unset, .unset, .unset, .unset, .unset] [(.ref ma)])) := fun t k => g0 t (by
    refine XS.aloadN X0.here hx rfl (hb hby d4_0) rfl rfl ?_
    show Go p e below t s₁ m 1 #[rv ma, .unset, .unset, .unset, .unset, .unset, .unset] [(.ref ma)]
    exact k)
  obtain ⟨T140, X140, e140, st140⟩ := getF X0 hx hZ hown (host := "") (Or.inl (hw _ (List.mem_of_getElem? (i := 25) rfl))) Via.refl e0 P0 (g := (mkF m 1 #[rv ma, .unset, .unset, .unset, .unset, .unset, .unset] [(.ref ma)])) rfl rfl (hb hby d4_1)
  have g141 : Goes p e below S0 (T140.setTop (mkF m 4 #[rv ma, .unset, .unset, .unset, .unset, .unset, .unset] [(.ref pa)])) := fun t k => g139 t (st140 t k)
  obtain ⟨cl142, Ar142, q142, S142, M142, H142, G142⟩ := id P2
  have g143 : Goes p e below S0 (T140.setTop (mkF m 7 #[rv ma, .unset, .unset, .unset, .unset, .unset, .unset] [(.int (1 : Int32))])) := fun t k => g141 t (by
    refine X140.arraylength hx (by rw [e140]; exact Ar142.1) (State.isArrayOf_alike hZ.alike Ar142.2.1) (g := (mkF m 4 #[rv ma, .unset, .unset, .unset, .unset, .unset, .unset] [(.ref pa)])) rfl rfl (hb hby d4_4) _ ?_
    rw [len_of S142 M142]
    show Go p e below t T140 m 5 #[rv ma, .unset, .unset, .unset, .unset, .unset, .unset] [(.int (2 : Int32))]
    refine XT.iconstV X140.here hx rfl (1 : Int32) (hb hby d4_5) (by decide) ?_
    show Go p e below t T140 m 6 #[rv ma, .unset, .unset, .unset, .unset, .unset, .unset] [(.int (1 : Int32)), (.int (2 : Int32))]
    refine XS.isub X140.here hx rfl (hb hby d4_6) rfl ?_
    rw [show ((2 : Int32) - (1 : Int32)) = (1 : Int32) by decide]
    show Go p e below t T140 m 7 #[rv ma, .unset, .unset, .unset, .unset, .unset, .unset] [(.int (1 : Int32))]
    exact k)
  obtain ⟨T144, h144, k144, X144, e144, E144, A144, st144⟩ := newP X140 hx hZ (hw _ (List.mem_of_getElem? (i := 1) rfl)) e140 (g := (mkF m 7 #[rv ma, .unset, .unset, .unset, .unset, .unset, .unset] [(.int (1 : Int32))])) rfl (hb hby d4_7) rfl (by decide) (cap := 1) (by decide) (by decide) (by decide) (by decide)
  obtain ⟨b144, gb144⟩ : ∃ z, z = h0.size := ⟨_, rfl⟩
  have sz144 : h0.size ≤ b144 := Nat.le_trans (Nat.le_refl _) (Nat.le_of_eq gb144.symm)
  have ng144 : n0 ≤ b144 := Nat.le_trans Z0 sz144
  rw [← gb144] at A144 st144
  have V144 : Arv Z h144 b144 k144 .int (1 : Int32) [(.int (0 : Int32))] (.int (0 : Int32)) := (Arv.new A144 (by decide)).pad (pad_rep [] (.int (0 : Int32)) 1)
  have g145 : Goes p e below S0 (T144.setTop (mkF m 9 #[rv ma, .unset, .unset, .unset, .unset, .unset, .unset] [(.ref b144)])) := fun t k => g143 t (st144 t k)
  have g146 : Goes p e below S0 (T144.setTop (mkF m 13 #[rv ma, rv b144, iv (0 : Int32), .unset, .unset, .unset, .unset] [(.ref ma)])) := fun t k => g145 t (by
    refine XS.astoreN X144.here hx rfl (hb hby d4_9) rfl rfl (l' := #[rv ma, rv b144, .unset, .unset, .unset, .unset, .unset]) rfl ?_
    show Go p e below t T144 m 10 #[rv ma, rv b144, .unset, .unset, .unset, .unset, .unset] []
    refine XT.iconstV X144.here hx rfl (0 : Int32) (hb hby d4_10) (by decide) ?_
    show Go p e below t T144 m 11 #[rv ma, rv b144, .unset, .unset, .unset, .unset, .unset] [(.int (0 : Int32))]
    refine XS.istoreN X144.here hx rfl (hb hby d4_11) rfl (l' := #[rv ma, rv b144, iv (0 : Int32), .unset, .unset, .unset, .unset]) rfl ?_
    show Go p e below t T144 m 12 #[rv ma, rv b144, iv (0 : Int32), .unset, .unset, .unset, .unset] []
    refine XS.aloadN X144.here hx rfl (hb hby d4_12) rfl rfl ?_
    show Go p e below t T144 m 13 #[rv ma, rv b144, iv (0 : Int32), .unset, .unset, .unset, .unset] [(.ref ma)]
    exact k)
  obtain ⟨T147, X147, e147, st147⟩ := getF X144 hx hZ hown (host := "") (Or.inl (hw _ (List.mem_of_getElem? (i := 25) rfl))) Via.refl e144 (P0.ext E144) (g := (mkF m 13 #[rv ma, rv b144, iv (0 : Int32), .unset, .unset, .unset, .unset] [(.ref ma)])) rfl rfl (hb hby d4_13)
  have g148 : Goes p e below S0 (T147.setTop (mkF m 16 #[rv ma, rv b144, iv (0 : Int32), .unset, .unset, .unset, .unset] [(.ref pa)])) := fun t k => g146 t (st147 t k)
  have g149 : Goes p e below S0 (T147.setTop (mkF m 18 #[rv ma, rv b144, iv (0 : Int32), rv pa, .unset, .unset, .unset] [(.ref pa)])) := fun t k => g148 t (by
    refine XS.astoreN X147.here hx rfl (hb hby d4_16) rfl rfl (l' := #[rv ma, rv b144, iv (0 : Int32), rv pa, .unset, .unset, .unset]) rfl ?_
    show Go p e below t T147 m 17 #[rv ma, rv b144, iv (0 : Int32), rv pa, .unset, .unset, .unset] []
    refine XS.aloadN X147.here hx rfl (hb hby d4_17) rfl rfl ?_
    show Go p e below t T147 m 18 #[rv ma, rv b144, iv (0 : Int32), rv pa, .unset, .unset, .unset] [(.ref pa)]
    exact k)
  obtain ⟨cl150, Ar150, q150, S150, M150, H150, G150⟩ := id (P2.ext E144)
  have g151 : Goes p e below S0 (T147.setTop (mkF m 34 #[rv ma, rv b144, iv (0 : Int32), rv pa, iv (2 : Int32), iv (0 : Int32), .unset] [(.int (0 : Int32)), (.ref pa)])) := fun t k => g149 t (by
    refine X147.arraylength hx (by rw [e147]; exact Ar150.1) (State.isArrayOf_alike hZ.alike Ar150.2.1) (g := (mkF m 18 #[rv ma, rv b144, iv (0 : Int32), rv pa, .unset, .unset, .unset] [(.ref pa)])) rfl rfl (hb hby d4_18) _ ?_
    rw [len_of S150 M150]
    show Go p e below t T147 m 19 #[rv ma, rv b144, iv (0 : Int32), rv pa, .unset, .unset, .unset] [(.int (2 : Int32))]
    refine XS.istore X147.here hx rfl (hb hby d4_19) rfl (l' := #[rv ma, rv b144, iv (0 : Int32), rv pa, iv (2 : Int32), .unset, .unset]) rfl ?_
    show Go p e below t T147 m 21 #[rv ma, rv b144, iv (0 : Int32), rv pa, iv (2 : Int32), .unset, .unset] []
    refine XT.iconstV X147.here hx rfl (0 : Int32) (hb hby d4_21) (by decide) ?_
    show Go p e below t T147 m 22 #[rv ma, rv b144, iv (0 : Int32), rv pa, iv (2 : Int32), .unset, .unset] [(.int (0 : Int32))]
    refine XS.istore X147.here hx rfl (hb hby d4_22) rfl (l' := #[rv ma, rv b144, iv (0 : Int32), rv pa, iv (2 : Int32), iv (0 : Int32), .unset]) rfl ?_
    show Go p e below t T147 m 24 #[rv ma, rv b144, iv (0 : Int32), rv pa, iv (2 : Int32), iv (0 : Int32), .unset] []
    refine XS.iload X147.here hx rfl (hb hby d4_24) rfl ?_
    show Go p e below t T147 m 26 #[rv ma, rv b144, iv (0 : Int32), rv pa, iv (2 : Int32), iv (0 : Int32), .unset] [(.int (0 : Int32))]
    refine XS.iload X147.here hx rfl (hb hby d4_26) rfl ?_
    show Go p e below t T147 m 28 #[rv ma, rv b144, iv (0 : Int32), rv pa, iv (2 : Int32), iv (0 : Int32), .unset] [(.int (2 : Int32)), (.int (0 : Int32))]
    refine XS.icmpNo X147.here hx rfl (hb hby d4_28) rfl (XT.ii_ge_f (by decide)) ?_
    show Go p e below t T147 m 31 #[rv ma, rv b144, iv (0 : Int32), rv pa, iv (2 : Int32), iv (0 : Int32), .unset] []
    refine XS.aloadN X147.here hx rfl (hb hby d4_31) rfl rfl ?_
    show Go p e below t T147 m 32 #[rv ma, rv b144, iv (0 : Int32), rv pa, iv (2 : Int32), iv (0 : Int32), .unset] [(.ref pa)]
    refine XS.iload X147.here hx rfl (hb hby d4_32) rfl ?_
    show Go p e below t T147 m 34 #[rv ma, rv b144, iv (0 : Int32), rv pa, iv (2 : Int32), iv (0 : Int32), .unset] [(.int (0 : Int32)), (.ref pa)]
    exact k)
  obtain ⟨cl152, Ar152, q152, S152, M152, H152, G152⟩ := id (P2.ext E144)
  have g153 : Goes p e below S0 (T147.setTop (mkF m 40 #[rv ma, rv b144, iv (0 : Int32), rv pa, iv (2 : Int32), iv (0 : Int32), iv p0] [(.ref ma), (.int p0)])) := fun t k => g151 t (by
    refine X147.iaload hx (j := (0 : Int32)) (v := (.int p0)) (by rw [e147]; exact Ar152.1) (State.isArrayOf_alike hZ.alike Ar152.2.1) Ar152.2.2 (inb_of S152 ⟨by decide, by decide⟩) (H152.at (inb_of S152 ⟨by decide, by decide⟩) rfl) (g := (mkF m 34 #[rv ma, rv b144, iv (0 : Int32), rv pa, iv (2 : Int32), iv (0 : Int32), .unset] [(.int (0 : Int32)), (.ref pa)])) rfl rfl (hb hby d4_34) _ ?_
    show Go p e below t T147 m 35 #[rv ma, rv b144, iv (0 : Int32), rv pa, iv (2 : Int32), iv (0 : Int32), .unset] [(.int p0)]
    refine XS.istore X147.here hx rfl (hb hby d4_35) rfl (l' := #[rv ma, rv b144, iv (0 : Int32), rv pa, iv (2 : Int32), iv (0 : Int32), iv p0]) rfl ?_
    show Go p e below t T147 m 37 #[rv ma, rv b144, iv (0 : Int32), rv pa, iv (2 : Int32), iv (0 : Int32), iv p0] []
    refine XS.iload X147.here hx rfl (hb hby d4_37) rfl ?_
    show Go p e below t T147 m 39 #[rv ma, rv b144, iv (0 : Int32), rv pa, iv (2 : Int32), iv (0 : Int32), iv p0] [(.int p0)]
    refine XS.aloadN X147.here hx rfl (hb hby d4_39) rfl rfl ?_
    show Go p e below t T147 m 40 #[rv ma, rv b144, iv (0 : Int32), rv pa, iv (2 : Int32), iv (0 : Int32), iv p0] [(.ref ma), (.int p0)]
    exact k)
  obtain ⟨T154, X154, e154, st154⟩ := getF X147 hx hZ hown (host := "") (Or.inl (hw _ (List.mem_of_getElem? (i := 21) rfl))) Via.refl e147 (P1.ext E144) (g := (mkF m 40 #[rv ma, rv b144, iv (0 : Int32), rv pa, iv (2 : Int32), iv (0 : Int32), iv p0] [(.ref ma), (.int p0)])) rfl rfl (hb hby d4_40)
  have g155 : Goes p e below S0 (T154.setTop (mkF m 43 #[rv ma, rv b144, iv (0 : Int32), rv pa, iv (2 : Int32), iv (0 : Int32), iv p0] [(.int p1), (.int p0)])) := fun t k => g153 t (st154 t k)
  have g156 : Goes p e below S0 (T154.setTop (mkF m 53 #[rv ma, rv b144, iv (1 : Int32), rv pa, iv (2 : Int32), iv (0 : Int32), iv p0] [(.int p0), (.int (0 : Int32)), (.ref b144)])) := fun t k => g155 t (by
    refine XS.icmpNo X154.here hx rfl (hb hby d4_43) rfl (XT.ii_eq_f ne0) ?_
    show Go p e below t T154 m 46 #[rv ma, rv b144, iv (0 : Int32), rv pa, iv (2 : Int32), iv (0 : Int32), iv p0] []
    refine XS.aloadN X154.here hx rfl (hb hby d4_46) rfl rfl ?_
    show Go p e below t T154 m 47 #[rv ma, rv b144, iv (0 : Int32), rv pa, iv (2 : Int32), iv (0 : Int32), iv p0] [(.ref b144)]
    refine XS.iloadN X154.here hx rfl (hb hby d4_47) rfl ?_
    show Go p e below t T154 m 48 #[rv ma, rv b144, iv (0 : Int32), rv pa, iv (2 : Int32), iv (0 : Int32), iv p0] [(.int (0 : Int32)), (.ref b144)]
    refine XT.iincV X154.here hx rfl (1 : Int32) (hb hby d4_48) (by decide) rfl (l' := #[rv ma, rv b144, iv (1 : Int32), rv pa, iv (2 : Int32), iv (0 : Int32), iv p0]) rfl ?_
    show Go p e below t T154 m 51 #[rv ma, rv b144, iv (1 : Int32), rv pa, iv (2 : Int32), iv (0 : Int32), iv p0] [(.int (0 : Int32)), (.ref b144)]
    refine XS.iload X154.here hx rfl (hb hby d4_51) rfl ?_
    show Go p e below t T154 m 53 #[rv ma, rv b144, iv (1 : Int32), rv pa, iv (2 : Int32), iv (0 : Int32), iv p0] [(.int p0), (.int (0 : Int32)), (.ref b144)]
    exact k)
  obtain ⟨cl157, Ar157, q157, S157, M157, H157, G157⟩ := id V144
  obtain ⟨T158, h158, X158, e158, W158, st158⟩ := stI X154 hx hZ e154 Ar157 (j := (0 : Int32)) (inb_of S157 ⟨by decide, by decide⟩) (g := (mkF m 53 #[rv ma, rv b144, iv (1 : Int32), rv pa, iv (2 : Int32), iv (0 : Int32), iv p0] [(.int p0), (.int (0 : Int32)), (.ref b144)])) rfl rfl (hb hby d4_53)
  have N158 := Fr.snoc X158 N0 ng144
  have V158 : Arv Z h158 b144 k144 .int (1 : Int32) [(.int p0)] (.int (0 : Int32)) := Arv.set Ar157 q157 S157 M157 H157 G157 rfl W158 0 rfl (Nat.le_of_ble_eq_true rfl)
  have g159 : Goes p e below S0 (T158.setTop (mkF m 54 #[rv ma, rv b144, iv (1 : Int32), rv pa, iv (2 : Int32), iv (0 : Int32), iv p0] [])) := fun t k => g156 t (st158 t k)
  have g160 : Goes p e below S0 (T158.setTop (mkF m 34 #[rv ma, rv b144, iv (1 : Int32), rv pa, iv (2 : Int32), iv (1 : Int32), iv p0] [(.int (1 : Int32)), (.ref pa)])) := fun t k => g159 t (by
    refine XT.iincV X158.here hx rfl (1 : Int32) (hb hby d4_54) (by decide) rfl (l' := #[rv ma, rv b144, iv (1 : Int32), rv pa, iv (2 : Int32), iv (1 : Int32), iv p0]) rfl ?_
    show Go p e below t T158 m 57 #[rv ma, rv b144, iv (1 : Int32), rv pa, iv (2 : Int32), iv (1 : Int32), iv p0] []
    refine XS.goto X158.here hx rfl (pc0 := 57) (pc' := 24) rfl (hb hby d4_57) (by decide) (by decide) ?_
    show Go p e below t T158 m 24 #[rv ma, rv b144, iv (1 : Int32), rv pa, iv (2 : Int32), iv (1 : Int32), iv p0] []
    refine XS.iload X158.here hx rfl (hb hby d4_24) rfl ?_
    show Go p e below t T158 m 26 #[rv ma, rv b144, iv (1 : Int32), rv pa, iv (2 : Int32), iv (1 : Int32), iv p0] [(.int (1 : Int32))]
    refine XS.iload X158.here hx rfl (hb hby d4_26) rfl ?_
    show Go p e below t T158 m 28 #[rv ma, rv b144, iv (1 : Int32), rv pa, iv (2 : Int32), iv (1 : Int32), iv p0] [(.int (2 : Int32)), (.int (1 : Int32))]
    refine XS.icmpNo X158.here hx rfl (hb hby d4_28) rfl (XT.ii_ge_f (by decide)) ?_
    show Go p e below t T158 m 31 #[rv ma, rv b144, iv (1 : Int32), rv pa, iv (2 : Int32), iv (1 : Int32), iv p0] []
    refine XS.aloadN X158.here hx rfl (hb hby d4_31) rfl rfl ?_
    show Go p e below t T158 m 32 #[rv ma, rv b144, iv (1 : Int32), rv pa, iv (2 : Int32), iv (1 : Int32), iv p0] [(.ref pa)]
    refine XS.iload X158.here hx rfl (hb hby d4_32) rfl ?_
    show Go p e below t T158 m 34 #[rv ma, rv b144, iv (1 : Int32), rv pa, iv (2 : Int32), iv (1 : Int32), iv p0] [(.int (1 : Int32)), (.ref pa)]
    exact k)
  obtain ⟨cl161, Ar161, q161, S161, M161, H161, G161⟩ := id ((P2.ext E144).other W158 (Nat.ne_of_lt (Nat.lt_of_lt_of_le P2.lt (Nat.le_of_eq gb144.symm))))
  have g162 : Goes p e below S0 (T158.setTop (mkF m 40 #[rv ma, rv b144, iv (1 : Int32), rv pa, iv (2 : Int32), iv (1 : Int32), iv p1] [(.ref ma), (.int p1)])) := fun t k => g160 t (by
    refine X158.iaload hx (j := (1 : Int32)) (v := (.int p1)) (by rw [e158]; exact Ar161.1) (State.isArrayOf_alike hZ.alike Ar161.2.1) Ar161.2.2 (inb_of S161 ⟨by decide, by decide⟩) (H161.at (inb_of S161 ⟨by decide, by decide⟩) rfl) (g := (mkF m 34 #[rv ma, rv b144, iv (1 : Int32), rv pa, iv (2 : Int32), iv (1 : Int32), iv p0] [(.int (1 : Int32)), (.ref pa)])) rfl rfl (hb hby d4_34) _ ?_
    show Go p e below t T158 m 35 #[rv ma, rv b144, iv (1 : Int32), rv pa, iv (2 : Int32), iv (1 : Int32), iv p0] [(.int p1)]
    refine XS.istore X158.here hx rfl (hb hby d4_35) rfl (l' := #[rv ma, rv b144, iv (1 : Int32), rv pa, iv (2 : Int32), iv (1 : Int32), iv p1]) rfl ?_
    show Go p e below t T158 m 37 #[rv ma, rv b144, iv (1 : Int32), rv pa, iv (2 : Int32), iv (1 : Int32), iv p1] []
    refine XS.iload X158.here hx rfl (hb hby d4_37) rfl ?_
    show Go p e below t T158 m 39 #[rv ma, rv b144, iv (1 : Int32), rv pa, iv (2 : Int32), iv (1 : Int32), iv p1] [(.int p1)]
    refine XS.aloadN X158.here hx rfl (hb hby d4_39) rfl rfl ?_
    show Go p e below t T158 m 40 #[rv ma, rv b144, iv (1 : Int32), rv pa, iv (2 : Int32), iv (1 : Int32), iv p1] [(.ref ma), (.int p1)]
    exact k)
  obtain ⟨T163, X163, e163, st163⟩ := getF X158 hx hZ hown (host := "") (Or.inl (hw _ (List.mem_of_getElem? (i := 21) rfl))) Via.refl e158 ((P1.ext E144).other W158 (Or.inl (Nat.ne_of_lt (Nat.lt_of_lt_of_le P0.lt (Nat.le_of_eq gb144.symm))))) (g := (mkF m 40 #[rv ma, rv b144, iv (1 : Int32), rv pa, iv (2 : Int32), iv (1 : Int32), iv p1] [(.ref ma), (.int p1)])) rfl rfl (hb hby d4_40)
  have g164 : Goes p e below S0 (T163.setTop (mkF m 43 #[rv ma, rv b144, iv (1 : Int32), rv pa, iv (2 : Int32), iv (1 : Int32), iv p1] [(.int p1), (.int p1)])) := fun t k => g162 t (st163 t k)
  have g165 : Goes p e below S0 (T163.setTop (mkF m 61 #[rv ma, rv b144, iv (1 : Int32), rv pa, iv (2 : Int32), iv (2 : Int32), iv p1] [(.ref b144)])) := fun t k => g164 t (by
    refine XS.icmpYes X163.here hx rfl (pc0 := 43) (pc' := 54) rfl (hb hby d4_43) rfl (XT.ii_eq_t rfl) (by decide) (by decide) ?_
    show Go p e below t T163 m 54 #[rv ma, rv b144, iv (1 : Int32), rv pa, iv (2 : Int32), iv (1 : Int32), iv p1] []
    refine XT.iincV X163.here hx rfl (1 : Int32) (hb hby d4_54) (by decide) rfl (l' := #[rv ma, rv b144, iv (1 : Int32), rv pa, iv (2 : Int32), iv (2 : Int32), iv p1]) rfl ?_
    show Go p e below t T163 m 57 #[rv ma, rv b144, iv (1 : Int32), rv pa, iv (2 : Int32), iv (2 : Int32), iv p1] []
    refine XS.goto X163.here hx rfl (pc0 := 57) (pc' := 24) rfl (hb hby d4_57) (by decide) (by decide) ?_
    show Go p e below t T163 m 24 #[rv ma, rv b144, iv (1 : Int32), rv pa, iv (2 : Int32), iv (2 : Int32), iv p1] []
    refine XS.iload X163.here hx rfl (hb hby d4_24) rfl ?_
    show Go p e below t T163 m 26 #[rv ma, rv b144, iv (1 : Int32), rv pa, iv (2 : Int32), iv (2 : Int32), iv p1] [(.int (2 : Int32))]
    refine XS.iload X163.here hx rfl (hb hby d4_26) rfl ?_
    show Go p e below t T163 m 28 #[rv ma, rv b144, iv (1 : Int32), rv pa, iv (2 : Int32), iv (2 : Int32), iv p1] [(.int (2 : Int32)), (.int (2 : Int32))]
    refine XS.icmpYes X163.here hx rfl (pc0 := 28) (pc' := 60) rfl (hb hby d4_28) rfl (XT.ii_ge_t (by decide)) (by decide) (by decide) ?_
    show Go p e below t T163 m 60 #[rv ma, rv b144, iv (1 : Int32), rv pa, iv (2 : Int32), iv (2 : Int32), iv p1] []
    refine XS.aloadN X163.here hx rfl (hb hby d4_60) rfl rfl ?_
    show Go p e below t T163 m 61 #[rv ma, rv b144, iv (1 : Int32), rv pa, iv (2 : Int32), iv (2 : Int32), iv p1] [(.ref b144)]
    exact k)
  obtain ⟨fs, hr, hrun, hended, hW, hsame⟩ := X163.leave (v := some (.ref b144)) (fun h => by rw [Bd.returns] at h; cases h)
  refine ⟨_, _, g165 _ (retOut X163 hx Bd.returns rfl (Or.inr (Or.inr (Or.inr (Or.inr ⟨rfl, rfl, rfl⟩)))) (hb hby d4_61) hr), hrun, hended, _, _, rfl, ?_, ⟨_, rfl⟩, hW, hsame.mono (by decide) (by decide)⟩
  show Q_md21 Z ma pa pk p0 p1 h0 n0 _ T163.heap _
  rw [e163]
  exact ⟨b144, k144, rfl, N158, (((Keep.refl h0 []).ext E144).wr W158 (Or.inr sz144)), V158, sz144⟩
theorem pf_md30 : plainFor (⟨"com/example/aristotle/aristotle/EliminationPlan$Step", "made", "()[I"⟩ : MethodName) = true := by first | exact plainFor_of_name (by first | (simp [plainName, overriddenIn, x]; done) | decide +kernel) | exact Jvm.Free.JP.mathPlain rfl (by decide +kernel) | decide +kernel
theorem ef_md30 (m : MethodId) (ma : Addr) : entryFrame m #[(.ref ma)] 7 = mkF m 0 #[rv ma, .unset, .unset, .unset, .unset, .unset, .unset] [] := by first | (simp [entryFrame, mkF, argsToLocals, Value.category, maxLocals]; done) | rfl
def Q_md30 (Z : State) (ma : Addr) (pa : Addr) (pk : ClassId) (p0 : Int32) (p1 : Int32) (p2 : Int32) (h0 : Heap) (n0 : Nat) (v : Option Value) (h : Heap) (L : List Loc) : Prop := ∃ (ra : Addr) (rk : ClassId), v = some (.ref ra) ∧ Fr n0 L ∧ (Keep h0 h []) ∧ (Arv Z h ra rk .int (2 : Int32) [(.int p1), (.int p2)] (.int (0 : Int32))) ∧ (h0.size ≤ ra)
set_option maxRecDepth 65536 in
set_option maxHeartbeats 40000000 in
theorem rm_md30 (l : Launch) (Z : State) (a0 : Array Value) (hw : ∀ d ∈ tables_1, d.before a0 Z = true) (ws : List Jvm.Cond) (ma : Addr) (pa : Addr) (pk : ClassId) (p0 : Int32) (p1 : Int32) (p2 : Int32) (h0 : Heap) (n0 : Nat) (Z0 : n0 ≤ h0.size) (P0 : Fld Z h0 ma "com/example/aristotle/aristotle/EliminationPlan$Step" "product" "[I" (.ref pa)) (P1 : Fld Z h0 ma "com/example/aristotle/aristotle/EliminationPlan$Step" "variable" "I" (.int p0)) (P2 : Arv Z h0 pa pk .int (3 : Int32) [(.int p0), (.int p1), (.int p2)] (.int (0 : Int32))) (ne1 : ¬ (p1 = p0)) (ne2 : ¬ (p2 = p0))  :
    MetFree l (⟨"com/example/aristotle/aristotle/EliminationPlan$Step", "made", "()[I"⟩ : MethodName) (head1 (Jvm.Cond.code (⟨"com/example/aristotle/aristotle/EliminationPlan$Step", "made", "()[I"⟩ : MethodName) prog_48_method_2_code 7 (some (.array .int)) :: ws) ({ frames := 0, cells := 1, slots := 2, locals := 0 } : Room)) (fun a U => a = #[(.ref ma)] ∧ Z.Warmed39 U.vm ∧ U.heap = h0) (fun _ _ _ _ _ => True) (fun _ U o U' => ∃ v L, o = .returned v ∧ Q_md30 Z ma pa pk p0 p1 p2 h0 n0 v U'.heap L ∧ FrameEnd U o U' L ({ frames := 0, cells := 1, slots := 2, locals := 0 } : Room).cells ({ frames := 0, cells := 1, slots := 2, locals := 0 } : Room).slots) := by
  refine MetFree.of_bodySF pf_md30 hisR ?_
  intro p e s m args below meth c s₁ Bd hml0 hP hK
  obtain ⟨rfl, hZ, hh⟩ := hP
  have hx := Bd.exec
  have hby := Bd.bytes
  have hml : c.maxLocals = 7 := hml0
  have hown : s.vm.findClass "com/example/aristotle/aristotle/EliminationPlan$Step" = some m.cls := findClass_of_methodNamed Bd.named
  have hnm := (name_of_methodNamed Bd.named Bd.method).1
  have X0 : Stand p l e ({ frames := 0, cells := 1, slots := 2, locals := 0 } : Room) s m #[(.ref ma)] below meth c s₁ [] 0 0 := Stand.of_body Bd
  have e0 : s₁.heap = h0 := by rw [← hh, Bd.state]; rfl
  have N0 := Fr.nil n0
  obtain ⟨S0, hS0⟩ : ∃ z, z = s₁.setTop (entryFrame m #[(.ref ma)] 7) := ⟨_, rfl⟩
  rw [← hS0]
  have g0 : Goes p e below S0 (s₁.setTop (mkF m 0 #[rv ma, .unset, .unset, .unset, .unset, .unset, .unset] [])) := fun t k => by rw [hS0]; exact castTop (ef_md30 m ma) k
  have g166 : Goes p e below S0 (s₁.setTop (mkF m 1 #[rv ma, .unset, .unset, .unset, .unset, .unset, .unset] [(.ref ma)])) := fun t k => g0 t (by
    refine XS.aloadN X0.here hx rfl (hb hby d4_0) rfl rfl ?_
    show Go p e below t s₁ m 1 #[rv ma, .unset, .unset, .unset, .unset, .unset, .unset] [(.ref ma)]
    exact k)
  obtain ⟨T167, X167, e167, st167⟩ := getF X0 hx hZ hown (host := "") (Or.inl (hw _ (List.mem_of_getElem? (i := 25) rfl))) Via.refl e0 P0 (g := (mkF m 1 #[rv ma, .unset, .unset, .unset, .unset, .unset, .unset] [(.ref ma)])) rfl rfl (hb hby d4_1)
  have g168 : Goes p e below S0 (T167.setTop (mkF m 4 #[rv ma, .unset, .unset, .unset, .unset, .unset, .unset] [(.ref pa)])) := fun t k => g166 t (st167 t k)
  obtain ⟨cl169, Ar169, q169, S169, M169, H169, G169⟩ := id P2
  have g170 : Goes p e below S0 (T167.setTop (mkF m 7 #[rv ma, .unset, .unset, .unset, .unset, .unset, .unset] [(.int (2 : Int32))])) := fun t k => g168 t (by
    refine X167.arraylength hx (by rw [e167]; exact Ar169.1) (State.isArrayOf_alike hZ.alike Ar169.2.1) (g := (mkF m 4 #[rv ma, .unset, .unset, .unset, .unset, .unset, .unset] [(.ref pa)])) rfl rfl (hb hby d4_4) _ ?_
    rw [len_of S169 M169]
    show Go p e below t T167 m 5 #[rv ma, .unset, .unset, .unset, .unset, .unset, .unset] [(.int (3 : Int32))]
    refine XT.iconstV X167.here hx rfl (1 : Int32) (hb hby d4_5) (by decide) ?_
    show Go p e below t T167 m 6 #[rv ma, .unset, .unset, .unset, .unset, .unset, .unset] [(.int (1 : Int32)), (.int (3 : Int32))]
    refine XS.isub X167.here hx rfl (hb hby d4_6) rfl ?_
    rw [show ((3 : Int32) - (1 : Int32)) = (2 : Int32) by decide]
    show Go p e below t T167 m 7 #[rv ma, .unset, .unset, .unset, .unset, .unset, .unset] [(.int (2 : Int32))]
    exact k)
  obtain ⟨T171, h171, k171, X171, e171, E171, A171, st171⟩ := newP X167 hx hZ (hw _ (List.mem_of_getElem? (i := 1) rfl)) e167 (g := (mkF m 7 #[rv ma, .unset, .unset, .unset, .unset, .unset, .unset] [(.int (2 : Int32))])) rfl (hb hby d4_7) rfl (by decide) (cap := 2) (by decide) (by decide) (by decide) (by decide)
  obtain ⟨b171, gb171⟩ : ∃ z, z = h0.size := ⟨_, rfl⟩
  have sz171 : h0.size ≤ b171 := Nat.le_trans (Nat.le_refl _) (Nat.le_of_eq gb171.symm)
  have ng171 : n0 ≤ b171 := Nat.le_trans Z0 sz171
  rw [← gb171] at A171 st171
  have V171 : Arv Z h171 b171 k171 .int (2 : Int32) [(.int (0 : Int32)), (.int (0 : Int32))] (.int (0 : Int32)) := (Arv.new A171 (by decide)).pad (pad_rep [] (.int (0 : Int32)) 2)
  have g172 : Goes p e below S0 (T171.setTop (mkF m 9 #[rv ma, .unset, .unset, .unset, .unset, .unset, .unset] [(.ref b171)])) := fun t k => g170 t (st171 t k)
  have g173 : Goes p e below S0 (T171.setTop (mkF m 13 #[rv ma, rv b171, iv (0 : Int32), .unset, .unset, .unset, .unset] [(.ref ma)])) := fun t k => g172 t (by
    refine XS.astoreN X171.here hx rfl (hb hby d4_9) rfl rfl (l' := #[rv ma, rv b171, .unset, .unset, .unset, .unset, .unset]) rfl ?_
    show Go p e below t T171 m 10 #[rv ma, rv b171, .unset, .unset, .unset, .unset, .unset] []
    refine XT.iconstV X171.here hx rfl (0 : Int32) (hb hby d4_10) (by decide) ?_
    show Go p e below t T171 m 11 #[rv ma, rv b171, .unset, .unset, .unset, .unset, .unset] [(.int (0 : Int32))]
    refine XS.istoreN X171.here hx rfl (hb hby d4_11) rfl (l' := #[rv ma, rv b171, iv (0 : Int32), .unset, .unset, .unset, .unset]) rfl ?_
    show Go p e below t T171 m 12 #[rv ma, rv b171, iv (0 : Int32), .unset, .unset, .unset, .unset] []
    refine XS.aloadN X171.here hx rfl (hb hby d4_12) rfl rfl ?_
    show Go p e below t T171 m 13 #[rv ma, rv b171, iv (0 : Int32), .unset, .unset, .unset, .unset] [(.ref ma)]
    exact k)
  obtain ⟨T174, X174, e174, st174⟩ := getF X171 hx hZ hown (host := "") (Or.inl (hw _ (List.mem_of_getElem? (i := 25) rfl))) Via.refl e171 (P0.ext E171) (g := (mkF m 13 #[rv ma, rv b171, iv (0 : Int32), .unset, .unset, .unset, .unset] [(.ref ma)])) rfl rfl (hb hby d4_13)
  have g175 : Goes p e below S0 (T174.setTop (mkF m 16 #[rv ma, rv b171, iv (0 : Int32), .unset, .unset, .unset, .unset] [(.ref pa)])) := fun t k => g173 t (st174 t k)
  have g176 : Goes p e below S0 (T174.setTop (mkF m 18 #[rv ma, rv b171, iv (0 : Int32), rv pa, .unset, .unset, .unset] [(.ref pa)])) := fun t k => g175 t (by
    refine XS.astoreN X174.here hx rfl (hb hby d4_16) rfl rfl (l' := #[rv ma, rv b171, iv (0 : Int32), rv pa, .unset, .unset, .unset]) rfl ?_
    show Go p e below t T174 m 17 #[rv ma, rv b171, iv (0 : Int32), rv pa, .unset, .unset, .unset] []
    refine XS.aloadN X174.here hx rfl (hb hby d4_17) rfl rfl ?_
    show Go p e below t T174 m 18 #[rv ma, rv b171, iv (0 : Int32), rv pa, .unset, .unset, .unset] [(.ref pa)]
    exact k)
  obtain ⟨cl177, Ar177, q177, S177, M177, H177, G177⟩ := id (P2.ext E171)
  have g178 : Goes p e below S0 (T174.setTop (mkF m 34 #[rv ma, rv b171, iv (0 : Int32), rv pa, iv (3 : Int32), iv (0 : Int32), .unset] [(.int (0 : Int32)), (.ref pa)])) := fun t k => g176 t (by
    refine X174.arraylength hx (by rw [e174]; exact Ar177.1) (State.isArrayOf_alike hZ.alike Ar177.2.1) (g := (mkF m 18 #[rv ma, rv b171, iv (0 : Int32), rv pa, .unset, .unset, .unset] [(.ref pa)])) rfl rfl (hb hby d4_18) _ ?_
    rw [len_of S177 M177]
    show Go p e below t T174 m 19 #[rv ma, rv b171, iv (0 : Int32), rv pa, .unset, .unset, .unset] [(.int (3 : Int32))]
    refine XS.istore X174.here hx rfl (hb hby d4_19) rfl (l' := #[rv ma, rv b171, iv (0 : Int32), rv pa, iv (3 : Int32), .unset, .unset]) rfl ?_
    show Go p e below t T174 m 21 #[rv ma, rv b171, iv (0 : Int32), rv pa, iv (3 : Int32), .unset, .unset] []
    refine XT.iconstV X174.here hx rfl (0 : Int32) (hb hby d4_21) (by decide) ?_
    show Go p e below t T174 m 22 #[rv ma, rv b171, iv (0 : Int32), rv pa, iv (3 : Int32), .unset, .unset] [(.int (0 : Int32))]
    refine XS.istore X174.here hx rfl (hb hby d4_22) rfl (l' := #[rv ma, rv b171, iv (0 : Int32), rv pa, iv (3 : Int32), iv (0 : Int32), .unset]) rfl ?_
    show Go p e below t T174 m 24 #[rv ma, rv b171, iv (0 : Int32), rv pa, iv (3 : Int32), iv (0 : Int32), .unset] []
    refine XS.iload X174.here hx rfl (hb hby d4_24) rfl ?_
    show Go p e below t T174 m 26 #[rv ma, rv b171, iv (0 : Int32), rv pa, iv (3 : Int32), iv (0 : Int32), .unset] [(.int (0 : Int32))]
    refine XS.iload X174.here hx rfl (hb hby d4_26) rfl ?_
    show Go p e below t T174 m 28 #[rv ma, rv b171, iv (0 : Int32), rv pa, iv (3 : Int32), iv (0 : Int32), .unset] [(.int (3 : Int32)), (.int (0 : Int32))]
    refine XS.icmpNo X174.here hx rfl (hb hby d4_28) rfl (XT.ii_ge_f (by decide)) ?_
    show Go p e below t T174 m 31 #[rv ma, rv b171, iv (0 : Int32), rv pa, iv (3 : Int32), iv (0 : Int32), .unset] []
    refine XS.aloadN X174.here hx rfl (hb hby d4_31) rfl rfl ?_
    show Go p e below t T174 m 32 #[rv ma, rv b171, iv (0 : Int32), rv pa, iv (3 : Int32), iv (0 : Int32), .unset] [(.ref pa)]
    refine XS.iload X174.here hx rfl (hb hby d4_32) rfl ?_
    show Go p e below t T174 m 34 #[rv ma, rv b171, iv (0 : Int32), rv pa, iv (3 : Int32), iv (0 : Int32), .unset] [(.int (0 : Int32)), (.ref pa)]
    exact k)
  obtain ⟨cl179, Ar179, q179, S179, M179, H179, G179⟩ := id (P2.ext E171)
  have g180 : Goes p e below S0 (T174.setTop (mkF m 40 #[rv ma, rv b171, iv (0 : Int32), rv pa, iv (3 : Int32), iv (0 : Int32), iv p0] [(.ref ma), (.int p0)])) := fun t k => g178 t (by
    refine X174.iaload hx (j := (0 : Int32)) (v := (.int p0)) (by rw [e174]; exact Ar179.1) (State.isArrayOf_alike hZ.alike Ar179.2.1) Ar179.2.2 (inb_of S179 ⟨by decide, by decide⟩) (H179.at (inb_of S179 ⟨by decide, by decide⟩) rfl) (g := (mkF m 34 #[rv ma, rv b171, iv (0 : Int32), rv pa, iv (3 : Int32), iv (0 : Int32), .unset] [(.int (0 : Int32)), (.ref pa)])) rfl rfl (hb hby d4_34) _ ?_
    show Go p e below t T174 m 35 #[rv ma, rv b171, iv (0 : Int32), rv pa, iv (3 : Int32), iv (0 : Int32), .unset] [(.int p0)]
    refine XS.istore X174.here hx rfl (hb hby d4_35) rfl (l' := #[rv ma, rv b171, iv (0 : Int32), rv pa, iv (3 : Int32), iv (0 : Int32), iv p0]) rfl ?_
    show Go p e below t T174 m 37 #[rv ma, rv b171, iv (0 : Int32), rv pa, iv (3 : Int32), iv (0 : Int32), iv p0] []
    refine XS.iload X174.here hx rfl (hb hby d4_37) rfl ?_
    show Go p e below t T174 m 39 #[rv ma, rv b171, iv (0 : Int32), rv pa, iv (3 : Int32), iv (0 : Int32), iv p0] [(.int p0)]
    refine XS.aloadN X174.here hx rfl (hb hby d4_39) rfl rfl ?_
    show Go p e below t T174 m 40 #[rv ma, rv b171, iv (0 : Int32), rv pa, iv (3 : Int32), iv (0 : Int32), iv p0] [(.ref ma), (.int p0)]
    exact k)
  obtain ⟨T181, X181, e181, st181⟩ := getF X174 hx hZ hown (host := "") (Or.inl (hw _ (List.mem_of_getElem? (i := 21) rfl))) Via.refl e174 (P1.ext E171) (g := (mkF m 40 #[rv ma, rv b171, iv (0 : Int32), rv pa, iv (3 : Int32), iv (0 : Int32), iv p0] [(.ref ma), (.int p0)])) rfl rfl (hb hby d4_40)
  have g182 : Goes p e below S0 (T181.setTop (mkF m 43 #[rv ma, rv b171, iv (0 : Int32), rv pa, iv (3 : Int32), iv (0 : Int32), iv p0] [(.int p0), (.int p0)])) := fun t k => g180 t (st181 t k)
  have g183 : Goes p e below S0 (T181.setTop (mkF m 34 #[rv ma, rv b171, iv (0 : Int32), rv pa, iv (3 : Int32), iv (1 : Int32), iv p0] [(.int (1 : Int32)), (.ref pa)])) := fun t k => g182 t (by
    refine XS.icmpYes X181.here hx rfl (pc0 := 43) (pc' := 54) rfl (hb hby d4_43) rfl (XT.ii_eq_t rfl) (by decide) (by decide) ?_
    show Go p e below t T181 m 54 #[rv ma, rv b171, iv (0 : Int32), rv pa, iv (3 : Int32), iv (0 : Int32), iv p0] []
    refine XT.iincV X181.here hx rfl (1 : Int32) (hb hby d4_54) (by decide) rfl (l' := #[rv ma, rv b171, iv (0 : Int32), rv pa, iv (3 : Int32), iv (1 : Int32), iv p0]) rfl ?_
    show Go p e below t T181 m 57 #[rv ma, rv b171, iv (0 : Int32), rv pa, iv (3 : Int32), iv (1 : Int32), iv p0] []
    refine XS.goto X181.here hx rfl (pc0 := 57) (pc' := 24) rfl (hb hby d4_57) (by decide) (by decide) ?_
    show Go p e below t T181 m 24 #[rv ma, rv b171, iv (0 : Int32), rv pa, iv (3 : Int32), iv (1 : Int32), iv p0] []
    refine XS.iload X181.here hx rfl (hb hby d4_24) rfl ?_
    show Go p e below t T181 m 26 #[rv ma, rv b171, iv (0 : Int32), rv pa, iv (3 : Int32), iv (1 : Int32), iv p0] [(.int (1 : Int32))]
    refine XS.iload X181.here hx rfl (hb hby d4_26) rfl ?_
    show Go p e below t T181 m 28 #[rv ma, rv b171, iv (0 : Int32), rv pa, iv (3 : Int32), iv (1 : Int32), iv p0] [(.int (3 : Int32)), (.int (1 : Int32))]
    refine XS.icmpNo X181.here hx rfl (hb hby d4_28) rfl (XT.ii_ge_f (by decide)) ?_
    show Go p e below t T181 m 31 #[rv ma, rv b171, iv (0 : Int32), rv pa, iv (3 : Int32), iv (1 : Int32), iv p0] []
    refine XS.aloadN X181.here hx rfl (hb hby d4_31) rfl rfl ?_
    show Go p e below t T181 m 32 #[rv ma, rv b171, iv (0 : Int32), rv pa, iv (3 : Int32), iv (1 : Int32), iv p0] [(.ref pa)]
    refine XS.iload X181.here hx rfl (hb hby d4_32) rfl ?_
    show Go p e below t T181 m 34 #[rv ma, rv b171, iv (0 : Int32), rv pa, iv (3 : Int32), iv (1 : Int32), iv p0] [(.int (1 : Int32)), (.ref pa)]
    exact k)
  obtain ⟨cl184, Ar184, q184, S184, M184, H184, G184⟩ := id (P2.ext E171)
  have g185 : Goes p e below S0 (T181.setTop (mkF m 40 #[rv ma, rv b171, iv (0 : Int32), rv pa, iv (3 : Int32), iv (1 : Int32), iv p1] [(.ref ma), (.int p1)])) := fun t k => g183 t (by
    refine X181.iaload hx (j := (1 : Int32)) (v := (.int p1)) (by rw [e181]; exact Ar184.1) (State.isArrayOf_alike hZ.alike Ar184.2.1) Ar184.2.2 (inb_of S184 ⟨by decide, by decide⟩) (H184.at (inb_of S184 ⟨by decide, by decide⟩) rfl) (g := (mkF m 34 #[rv ma, rv b171, iv (0 : Int32), rv pa, iv (3 : Int32), iv (1 : Int32), iv p0] [(.int (1 : Int32)), (.ref pa)])) rfl rfl (hb hby d4_34) _ ?_
    show Go p e below t T181 m 35 #[rv ma, rv b171, iv (0 : Int32), rv pa, iv (3 : Int32), iv (1 : Int32), iv p0] [(.int p1)]
    refine XS.istore X181.here hx rfl (hb hby d4_35) rfl (l' := #[rv ma, rv b171, iv (0 : Int32), rv pa, iv (3 : Int32), iv (1 : Int32), iv p1]) rfl ?_
    show Go p e below t T181 m 37 #[rv ma, rv b171, iv (0 : Int32), rv pa, iv (3 : Int32), iv (1 : Int32), iv p1] []
    refine XS.iload X181.here hx rfl (hb hby d4_37) rfl ?_
    show Go p e below t T181 m 39 #[rv ma, rv b171, iv (0 : Int32), rv pa, iv (3 : Int32), iv (1 : Int32), iv p1] [(.int p1)]
    refine XS.aloadN X181.here hx rfl (hb hby d4_39) rfl rfl ?_
    show Go p e below t T181 m 40 #[rv ma, rv b171, iv (0 : Int32), rv pa, iv (3 : Int32), iv (1 : Int32), iv p1] [(.ref ma), (.int p1)]
    exact k)
  obtain ⟨T186, X186, e186, st186⟩ := getF X181 hx hZ hown (host := "") (Or.inl (hw _ (List.mem_of_getElem? (i := 21) rfl))) Via.refl e181 (P1.ext E171) (g := (mkF m 40 #[rv ma, rv b171, iv (0 : Int32), rv pa, iv (3 : Int32), iv (1 : Int32), iv p1] [(.ref ma), (.int p1)])) rfl rfl (hb hby d4_40)
  have g187 : Goes p e below S0 (T186.setTop (mkF m 43 #[rv ma, rv b171, iv (0 : Int32), rv pa, iv (3 : Int32), iv (1 : Int32), iv p1] [(.int p0), (.int p1)])) := fun t k => g185 t (st186 t k)
  have g188 : Goes p e below S0 (T186.setTop (mkF m 53 #[rv ma, rv b171, iv (1 : Int32), rv pa, iv (3 : Int32), iv (1 : Int32), iv p1] [(.int p1), (.int (0 : Int32)), (.ref b171)])) := fun t k => g187 t (by
    refine XS.icmpNo X186.here hx rfl (hb hby d4_43) rfl (XT.ii_eq_f ne1) ?_
    show Go p e below t T186 m 46 #[rv ma, rv b171, iv (0 : Int32), rv pa, iv (3 : Int32), iv (1 : Int32), iv p1] []
    refine XS.aloadN X186.here hx rfl (hb hby d4_46) rfl rfl ?_
    show Go p e below t T186 m 47 #[rv ma, rv b171, iv (0 : Int32), rv pa, iv (3 : Int32), iv (1 : Int32), iv p1] [(.ref b171)]
    refine XS.iloadN X186.here hx rfl (hb hby d4_47) rfl ?_
    show Go p e below t T186 m 48 #[rv ma, rv b171, iv (0 : Int32), rv pa, iv (3 : Int32), iv (1 : Int32), iv p1] [(.int (0 : Int32)), (.ref b171)]
    refine XT.iincV X186.here hx rfl (1 : Int32) (hb hby d4_48) (by decide) rfl (l' := #[rv ma, rv b171, iv (1 : Int32), rv pa, iv (3 : Int32), iv (1 : Int32), iv p1]) rfl ?_
    show Go p e below t T186 m 51 #[rv ma, rv b171, iv (1 : Int32), rv pa, iv (3 : Int32), iv (1 : Int32), iv p1] [(.int (0 : Int32)), (.ref b171)]
    refine XS.iload X186.here hx rfl (hb hby d4_51) rfl ?_
    show Go p e below t T186 m 53 #[rv ma, rv b171, iv (1 : Int32), rv pa, iv (3 : Int32), iv (1 : Int32), iv p1] [(.int p1), (.int (0 : Int32)), (.ref b171)]
    exact k)
  obtain ⟨cl189, Ar189, q189, S189, M189, H189, G189⟩ := id V171
  obtain ⟨T190, h190, X190, e190, W190, st190⟩ := stI X186 hx hZ e186 Ar189 (j := (0 : Int32)) (inb_of S189 ⟨by decide, by decide⟩) (g := (mkF m 53 #[rv ma, rv b171, iv (1 : Int32), rv pa, iv (3 : Int32), iv (1 : Int32), iv p1] [(.int p1), (.int (0 : Int32)), (.ref b171)])) rfl rfl (hb hby d4_53)
  have N190 := Fr.snoc X190 N0 ng171
  have V190 : Arv Z h190 b171 k171 .int (2 : Int32) [(.int p1), (.int (0 : Int32))] (.int (0 : Int32)) := Arv.set Ar189 q189 S189 M189 H189 G189 rfl W190 0 rfl (Nat.le_of_ble_eq_true rfl)
  have g191 : Goes p e below S0 (T190.setTop (mkF m 54 #[rv ma, rv b171, iv (1 : Int32), rv pa, iv (3 : Int32), iv (1 : Int32), iv p1] [])) := fun t k => g188 t (st190 t k)
  have g192 : Goes p e below S0 (T190.setTop (mkF m 34 #[rv ma, rv b171, iv (1 : Int32), rv pa, iv (3 : Int32), iv (2 : Int32), iv p1] [(.int (2 : Int32)), (.ref pa)])) := fun t k => g191 t (by
    refine XT.iincV X190.here hx rfl (1 : Int32) (hb hby d4_54) (by decide) rfl (l' := #[rv ma, rv b171, iv (1 : Int32), rv pa, iv (3 : Int32), iv (2 : Int32), iv p1]) rfl ?_
    show Go p e below t T190 m 57 #[rv ma, rv b171, iv (1 : Int32), rv pa, iv (3 : Int32), iv (2 : Int32), iv p1] []
    refine XS.goto X190.here hx rfl (pc0 := 57) (pc' := 24) rfl (hb hby d4_57) (by decide) (by decide) ?_
    show Go p e below t T190 m 24 #[rv ma, rv b171, iv (1 : Int32), rv pa, iv (3 : Int32), iv (2 : Int32), iv p1] []
    refine XS.iload X190.here hx rfl (hb hby d4_24) rfl ?_
    show Go p e below t T190 m 26 #[rv ma, rv b171, iv (1 : Int32), rv pa, iv (3 : Int32), iv (2 : Int32), iv p1] [(.int (2 : Int32))]
    refine XS.iload X190.here hx rfl (hb hby d4_26) rfl ?_
    show Go p e below t T190 m 28 #[rv ma, rv b171, iv (1 : Int32), rv pa, iv (3 : Int32), iv (2 : Int32), iv p1] [(.int (3 : Int32)), (.int (2 : Int32))]
    refine XS.icmpNo X190.here hx rfl (hb hby d4_28) rfl (XT.ii_ge_f (by decide)) ?_
    show Go p e below t T190 m 31 #[rv ma, rv b171, iv (1 : Int32), rv pa, iv (3 : Int32), iv (2 : Int32), iv p1] []
    refine XS.aloadN X190.here hx rfl (hb hby d4_31) rfl rfl ?_
    show Go p e below t T190 m 32 #[rv ma, rv b171, iv (1 : Int32), rv pa, iv (3 : Int32), iv (2 : Int32), iv p1] [(.ref pa)]
    refine XS.iload X190.here hx rfl (hb hby d4_32) rfl ?_
    show Go p e below t T190 m 34 #[rv ma, rv b171, iv (1 : Int32), rv pa, iv (3 : Int32), iv (2 : Int32), iv p1] [(.int (2 : Int32)), (.ref pa)]
    exact k)
  obtain ⟨cl193, Ar193, q193, S193, M193, H193, G193⟩ := id ((P2.ext E171).other W190 (Nat.ne_of_lt (Nat.lt_of_lt_of_le P2.lt (Nat.le_of_eq gb171.symm))))
  have g194 : Goes p e below S0 (T190.setTop (mkF m 40 #[rv ma, rv b171, iv (1 : Int32), rv pa, iv (3 : Int32), iv (2 : Int32), iv p2] [(.ref ma), (.int p2)])) := fun t k => g192 t (by
    refine X190.iaload hx (j := (2 : Int32)) (v := (.int p2)) (by rw [e190]; exact Ar193.1) (State.isArrayOf_alike hZ.alike Ar193.2.1) Ar193.2.2 (inb_of S193 ⟨by decide, by decide⟩) (H193.at (inb_of S193 ⟨by decide, by decide⟩) rfl) (g := (mkF m 34 #[rv ma, rv b171, iv (1 : Int32), rv pa, iv (3 : Int32), iv (2 : Int32), iv p1] [(.int (2 : Int32)), (.ref pa)])) rfl rfl (hb hby d4_34) _ ?_
    show Go p e below t T190 m 35 #[rv ma, rv b171, iv (1 : Int32), rv pa, iv (3 : Int32), iv (2 : Int32), iv p1] [(.int p2)]
    refine XS.istore X190.here hx rfl (hb hby d4_35) rfl (l' := #[rv ma, rv b171, iv (1 : Int32), rv pa, iv (3 : Int32), iv (2 : Int32), iv p2]) rfl ?_
    show Go p e below t T190 m 37 #[rv ma, rv b171, iv (1 : Int32), rv pa, iv (3 : Int32), iv (2 : Int32), iv p2] []
    refine XS.iload X190.here hx rfl (hb hby d4_37) rfl ?_
    show Go p e below t T190 m 39 #[rv ma, rv b171, iv (1 : Int32), rv pa, iv (3 : Int32), iv (2 : Int32), iv p2] [(.int p2)]
    refine XS.aloadN X190.here hx rfl (hb hby d4_39) rfl rfl ?_
    show Go p e below t T190 m 40 #[rv ma, rv b171, iv (1 : Int32), rv pa, iv (3 : Int32), iv (2 : Int32), iv p2] [(.ref ma), (.int p2)]
    exact k)
  obtain ⟨T195, X195, e195, st195⟩ := getF X190 hx hZ hown (host := "") (Or.inl (hw _ (List.mem_of_getElem? (i := 21) rfl))) Via.refl e190 ((P1.ext E171).other W190 (Or.inl (Nat.ne_of_lt (Nat.lt_of_lt_of_le P0.lt (Nat.le_of_eq gb171.symm))))) (g := (mkF m 40 #[rv ma, rv b171, iv (1 : Int32), rv pa, iv (3 : Int32), iv (2 : Int32), iv p2] [(.ref ma), (.int p2)])) rfl rfl (hb hby d4_40)
  have g196 : Goes p e below S0 (T195.setTop (mkF m 43 #[rv ma, rv b171, iv (1 : Int32), rv pa, iv (3 : Int32), iv (2 : Int32), iv p2] [(.int p0), (.int p2)])) := fun t k => g194 t (st195 t k)
  have g197 : Goes p e below S0 (T195.setTop (mkF m 53 #[rv ma, rv b171, iv (2 : Int32), rv pa, iv (3 : Int32), iv (2 : Int32), iv p2] [(.int p2), (.int (1 : Int32)), (.ref b171)])) := fun t k => g196 t (by
    refine XS.icmpNo X195.here hx rfl (hb hby d4_43) rfl (XT.ii_eq_f ne2) ?_
    show Go p e below t T195 m 46 #[rv ma, rv b171, iv (1 : Int32), rv pa, iv (3 : Int32), iv (2 : Int32), iv p2] []
    refine XS.aloadN X195.here hx rfl (hb hby d4_46) rfl rfl ?_
    show Go p e below t T195 m 47 #[rv ma, rv b171, iv (1 : Int32), rv pa, iv (3 : Int32), iv (2 : Int32), iv p2] [(.ref b171)]
    refine XS.iloadN X195.here hx rfl (hb hby d4_47) rfl ?_
    show Go p e below t T195 m 48 #[rv ma, rv b171, iv (1 : Int32), rv pa, iv (3 : Int32), iv (2 : Int32), iv p2] [(.int (1 : Int32)), (.ref b171)]
    refine XT.iincV X195.here hx rfl (1 : Int32) (hb hby d4_48) (by decide) rfl (l' := #[rv ma, rv b171, iv (2 : Int32), rv pa, iv (3 : Int32), iv (2 : Int32), iv p2]) rfl ?_
    show Go p e below t T195 m 51 #[rv ma, rv b171, iv (2 : Int32), rv pa, iv (3 : Int32), iv (2 : Int32), iv p2] [(.int (1 : Int32)), (.ref b171)]
    refine XS.iload X195.here hx rfl (hb hby d4_51) rfl ?_
    show Go p e below t T195 m 53 #[rv ma, rv b171, iv (2 : Int32), rv pa, iv (3 : Int32), iv (2 : Int32), iv p2] [(.int p2), (.int (1 : Int32)), (.ref b171)]
    exact k)
  obtain ⟨cl198, Ar198, q198, S198, M198, H198, G198⟩ := id V190
  obtain ⟨T199, h199, X199, e199, W199, st199⟩ := stI X195 hx hZ e195 Ar198 (j := (1 : Int32)) (inb_of S198 ⟨by decide, by decide⟩) (g := (mkF m 53 #[rv ma, rv b171, iv (2 : Int32), rv pa, iv (3 : Int32), iv (2 : Int32), iv p2] [(.int p2), (.int (1 : Int32)), (.ref b171)])) rfl rfl (hb hby d4_53)
  have N199 := Fr.snoc X199 N190 ng171
  have V199 : Arv Z h199 b171 k171 .int (2 : Int32) [(.int p1), (.int p2)] (.int (0 : Int32)) := Arv.set Ar198 q198 S198 M198 H198 G198 rfl W199 1 rfl (Nat.le_of_ble_eq_true rfl)
  have g200 : Goes p e below S0 (T199.setTop (mkF m 54 #[rv ma, rv b171, iv (2 : Int32), rv pa, iv (3 : Int32), iv (2 : Int32), iv p2] [])) := fun t k => g197 t (st199 t k)
  have g201 : Goes p e below S0 (T199.setTop (mkF m 61 #[rv ma, rv b171, iv (2 : Int32), rv pa, iv (3 : Int32), iv (3 : Int32), iv p2] [(.ref b171)])) := fun t k => g200 t (by
    refine XT.iincV X199.here hx rfl (1 : Int32) (hb hby d4_54) (by decide) rfl (l' := #[rv ma, rv b171, iv (2 : Int32), rv pa, iv (3 : Int32), iv (3 : Int32), iv p2]) rfl ?_
    show Go p e below t T199 m 57 #[rv ma, rv b171, iv (2 : Int32), rv pa, iv (3 : Int32), iv (3 : Int32), iv p2] []
    refine XS.goto X199.here hx rfl (pc0 := 57) (pc' := 24) rfl (hb hby d4_57) (by decide) (by decide) ?_
    show Go p e below t T199 m 24 #[rv ma, rv b171, iv (2 : Int32), rv pa, iv (3 : Int32), iv (3 : Int32), iv p2] []
    refine XS.iload X199.here hx rfl (hb hby d4_24) rfl ?_
    show Go p e below t T199 m 26 #[rv ma, rv b171, iv (2 : Int32), rv pa, iv (3 : Int32), iv (3 : Int32), iv p2] [(.int (3 : Int32))]
    refine XS.iload X199.here hx rfl (hb hby d4_26) rfl ?_
    show Go p e below t T199 m 28 #[rv ma, rv b171, iv (2 : Int32), rv pa, iv (3 : Int32), iv (3 : Int32), iv p2] [(.int (3 : Int32)), (.int (3 : Int32))]
    refine XS.icmpYes X199.here hx rfl (pc0 := 28) (pc' := 60) rfl (hb hby d4_28) rfl (XT.ii_ge_t (by decide)) (by decide) (by decide) ?_
    show Go p e below t T199 m 60 #[rv ma, rv b171, iv (2 : Int32), rv pa, iv (3 : Int32), iv (3 : Int32), iv p2] []
    refine XS.aloadN X199.here hx rfl (hb hby d4_60) rfl rfl ?_
    show Go p e below t T199 m 61 #[rv ma, rv b171, iv (2 : Int32), rv pa, iv (3 : Int32), iv (3 : Int32), iv p2] [(.ref b171)]
    exact k)
  obtain ⟨fs, hr, hrun, hended, hW, hsame⟩ := X199.leave (v := some (.ref b171)) (fun h => by rw [Bd.returns] at h; cases h)
  refine ⟨_, _, g201 _ (retOut X199 hx Bd.returns rfl (Or.inr (Or.inr (Or.inr (Or.inr ⟨rfl, rfl, rfl⟩)))) (hb hby d4_61) hr), hrun, hended, _, _, rfl, ?_, ⟨_, rfl⟩, hW, hsame.mono (by decide) (by decide)⟩
  show Q_md30 Z ma pa pk p0 p1 p2 h0 n0 _ T199.heap _
  rw [e199]
  exact ⟨b171, k171, rfl, N199, ((((Keep.refl h0 []).ext E171).wr W190 (Or.inr sz171)).wr W199 (Or.inr sz171)), V199, sz171⟩
theorem pf_md31 : plainFor (⟨"com/example/aristotle/aristotle/EliminationPlan$Step", "made", "()[I"⟩ : MethodName) = true := by first | exact plainFor_of_name (by first | (simp [plainName, overriddenIn, x]; done) | decide +kernel) | exact Jvm.Free.JP.mathPlain rfl (by decide +kernel) | decide +kernel
theorem ef_md31 (m : MethodId) (ma : Addr) : entryFrame m #[(.ref ma)] 7 = mkF m 0 #[rv ma, .unset, .unset, .unset, .unset, .unset, .unset] [] := by first | (simp [entryFrame, mkF, argsToLocals, Value.category, maxLocals]; done) | rfl
def Q_md31 (Z : State) (ma : Addr) (pa : Addr) (pk : ClassId) (p0 : Int32) (p1 : Int32) (p2 : Int32) (h0 : Heap) (n0 : Nat) (v : Option Value) (h : Heap) (L : List Loc) : Prop := ∃ (ra : Addr) (rk : ClassId), v = some (.ref ra) ∧ Fr n0 L ∧ (Keep h0 h []) ∧ (Arv Z h ra rk .int (2 : Int32) [(.int p0), (.int p2)] (.int (0 : Int32))) ∧ (h0.size ≤ ra)
set_option maxRecDepth 65536 in
set_option maxHeartbeats 40000000 in
theorem rm_md31 (l : Launch) (Z : State) (a0 : Array Value) (hw : ∀ d ∈ tables_1, d.before a0 Z = true) (ws : List Jvm.Cond) (ma : Addr) (pa : Addr) (pk : ClassId) (p0 : Int32) (p1 : Int32) (p2 : Int32) (h0 : Heap) (n0 : Nat) (Z0 : n0 ≤ h0.size) (P0 : Fld Z h0 ma "com/example/aristotle/aristotle/EliminationPlan$Step" "product" "[I" (.ref pa)) (P1 : Fld Z h0 ma "com/example/aristotle/aristotle/EliminationPlan$Step" "variable" "I" (.int p1)) (P2 : Arv Z h0 pa pk .int (3 : Int32) [(.int p0), (.int p1), (.int p2)] (.int (0 : Int32))) (ne0 : ¬ (p0 = p1)) (ne2 : ¬ (p2 = p1))  :
    MetFree l (⟨"com/example/aristotle/aristotle/EliminationPlan$Step", "made", "()[I"⟩ : MethodName) (head1 (Jvm.Cond.code (⟨"com/example/aristotle/aristotle/EliminationPlan$Step", "made", "()[I"⟩ : MethodName) prog_48_method_2_code 7 (some (.array .int)) :: ws) ({ frames := 0, cells := 1, slots := 2, locals := 0 } : Room)) (fun a U => a = #[(.ref ma)] ∧ Z.Warmed39 U.vm ∧ U.heap = h0) (fun _ _ _ _ _ => True) (fun _ U o U' => ∃ v L, o = .returned v ∧ Q_md31 Z ma pa pk p0 p1 p2 h0 n0 v U'.heap L ∧ FrameEnd U o U' L ({ frames := 0, cells := 1, slots := 2, locals := 0 } : Room).cells ({ frames := 0, cells := 1, slots := 2, locals := 0 } : Room).slots) := by
  refine MetFree.of_bodySF pf_md31 hisR ?_
  intro p e s m args below meth c s₁ Bd hml0 hP hK
  obtain ⟨rfl, hZ, hh⟩ := hP
  have hx := Bd.exec
  have hby := Bd.bytes
  have hml : c.maxLocals = 7 := hml0
  have hown : s.vm.findClass "com/example/aristotle/aristotle/EliminationPlan$Step" = some m.cls := findClass_of_methodNamed Bd.named
  have hnm := (name_of_methodNamed Bd.named Bd.method).1
  have X0 : Stand p l e ({ frames := 0, cells := 1, slots := 2, locals := 0 } : Room) s m #[(.ref ma)] below meth c s₁ [] 0 0 := Stand.of_body Bd
  have e0 : s₁.heap = h0 := by rw [← hh, Bd.state]; rfl
  have N0 := Fr.nil n0
  obtain ⟨S0, hS0⟩ : ∃ z, z = s₁.setTop (entryFrame m #[(.ref ma)] 7) := ⟨_, rfl⟩
  rw [← hS0]
  have g0 : Goes p e below S0 (s₁.setTop (mkF m 0 #[rv ma, .unset, .unset, .unset, .unset, .unset, .unset] [])) := fun t k => by rw [hS0]; exact castTop (ef_md31 m ma) k
  have g202 : Goes p e below S0 (s₁.setTop (mkF m 1 #[rv ma, .unset, .unset, .unset, .unset, .unset, .unset] [(.ref ma)])) := fun t k => g0 t (by
    refine XS.aloadN X0.here hx rfl (hb hby d4_0) rfl rfl ?_
    show Go p e below t s₁ m 1 #[rv ma, .unset, .unset, .unset, .unset, .unset, .unset] [(.ref ma)]
    exact k)
  obtain ⟨T203, X203, e203, st203⟩ := getF X0 hx hZ hown (host := "") (Or.inl (hw _ (List.mem_of_getElem? (i := 25) rfl))) Via.refl e0 P0 (g := (mkF m 1 #[rv ma, .unset, .unset, .unset, .unset, .unset, .unset] [(.ref ma)])) rfl rfl (hb hby d4_1)
  have g204 : Goes p e below S0 (T203.setTop (mkF m 4 #[rv ma, .unset, .unset, .unset, .unset, .unset, .unset] [(.ref pa)])) := fun t k => g202 t (st203 t k)
  obtain ⟨cl205, Ar205, q205, S205, M205, H205, G205⟩ := id P2
  have g206 : Goes p e below S0 (T203.setTop (mkF m 7 #[rv ma, .unset, .unset, .unset, .unset, .unset, .unset] [(.int (2 : Int32))])) := fun t k => g204 t (by
    refine X203.arraylength hx (by rw [e203]; exact Ar205.1) (State.isArrayOf_alike hZ.alike Ar205.2.1) (g := (mkF m 4 #[rv ma, .unset, .unset, .unset, .unset, .unset, .unset] [(.ref pa)])) rfl rfl (hb hby d4_4) _ ?_
    rw [len_of S205 M205]
    show Go p e below t T203 m 5 #[rv ma, .unset, .unset, .unset, .unset, .unset, .unset] [(.int (3 : Int32))]
    refine XT.iconstV X203.here hx rfl (1 : Int32) (hb hby d4_5) (by decide) ?_
    show Go p e below t T203 m 6 #[rv ma, .unset, .unset, .unset, .unset, .unset, .unset] [(.int (1 : Int32)), (.int (3 : Int32))]
    refine XS.isub X203.here hx rfl (hb hby d4_6) rfl ?_
    rw [show ((3 : Int32) - (1 : Int32)) = (2 : Int32) by decide]
    show Go p e below t T203 m 7 #[rv ma, .unset, .unset, .unset, .unset, .unset, .unset] [(.int (2 : Int32))]
    exact k)
  obtain ⟨T207, h207, k207, X207, e207, E207, A207, st207⟩ := newP X203 hx hZ (hw _ (List.mem_of_getElem? (i := 1) rfl)) e203 (g := (mkF m 7 #[rv ma, .unset, .unset, .unset, .unset, .unset, .unset] [(.int (2 : Int32))])) rfl (hb hby d4_7) rfl (by decide) (cap := 2) (by decide) (by decide) (by decide) (by decide)
  obtain ⟨b207, gb207⟩ : ∃ z, z = h0.size := ⟨_, rfl⟩
  have sz207 : h0.size ≤ b207 := Nat.le_trans (Nat.le_refl _) (Nat.le_of_eq gb207.symm)
  have ng207 : n0 ≤ b207 := Nat.le_trans Z0 sz207
  rw [← gb207] at A207 st207
  have V207 : Arv Z h207 b207 k207 .int (2 : Int32) [(.int (0 : Int32)), (.int (0 : Int32))] (.int (0 : Int32)) := (Arv.new A207 (by decide)).pad (pad_rep [] (.int (0 : Int32)) 2)
  have g208 : Goes p e below S0 (T207.setTop (mkF m 9 #[rv ma, .unset, .unset, .unset, .unset, .unset, .unset] [(.ref b207)])) := fun t k => g206 t (st207 t k)
  have g209 : Goes p e below S0 (T207.setTop (mkF m 13 #[rv ma, rv b207, iv (0 : Int32), .unset, .unset, .unset, .unset] [(.ref ma)])) := fun t k => g208 t (by
    refine XS.astoreN X207.here hx rfl (hb hby d4_9) rfl rfl (l' := #[rv ma, rv b207, .unset, .unset, .unset, .unset, .unset]) rfl ?_
    show Go p e below t T207 m 10 #[rv ma, rv b207, .unset, .unset, .unset, .unset, .unset] []
    refine XT.iconstV X207.here hx rfl (0 : Int32) (hb hby d4_10) (by decide) ?_
    show Go p e below t T207 m 11 #[rv ma, rv b207, .unset, .unset, .unset, .unset, .unset] [(.int (0 : Int32))]
    refine XS.istoreN X207.here hx rfl (hb hby d4_11) rfl (l' := #[rv ma, rv b207, iv (0 : Int32), .unset, .unset, .unset, .unset]) rfl ?_
    show Go p e below t T207 m 12 #[rv ma, rv b207, iv (0 : Int32), .unset, .unset, .unset, .unset] []
    refine XS.aloadN X207.here hx rfl (hb hby d4_12) rfl rfl ?_
    show Go p e below t T207 m 13 #[rv ma, rv b207, iv (0 : Int32), .unset, .unset, .unset, .unset] [(.ref ma)]
    exact k)
  obtain ⟨T210, X210, e210, st210⟩ := getF X207 hx hZ hown (host := "") (Or.inl (hw _ (List.mem_of_getElem? (i := 25) rfl))) Via.refl e207 (P0.ext E207) (g := (mkF m 13 #[rv ma, rv b207, iv (0 : Int32), .unset, .unset, .unset, .unset] [(.ref ma)])) rfl rfl (hb hby d4_13)
  have g211 : Goes p e below S0 (T210.setTop (mkF m 16 #[rv ma, rv b207, iv (0 : Int32), .unset, .unset, .unset, .unset] [(.ref pa)])) := fun t k => g209 t (st210 t k)
  have g212 : Goes p e below S0 (T210.setTop (mkF m 18 #[rv ma, rv b207, iv (0 : Int32), rv pa, .unset, .unset, .unset] [(.ref pa)])) := fun t k => g211 t (by
    refine XS.astoreN X210.here hx rfl (hb hby d4_16) rfl rfl (l' := #[rv ma, rv b207, iv (0 : Int32), rv pa, .unset, .unset, .unset]) rfl ?_
    show Go p e below t T210 m 17 #[rv ma, rv b207, iv (0 : Int32), rv pa, .unset, .unset, .unset] []
    refine XS.aloadN X210.here hx rfl (hb hby d4_17) rfl rfl ?_
    show Go p e below t T210 m 18 #[rv ma, rv b207, iv (0 : Int32), rv pa, .unset, .unset, .unset] [(.ref pa)]
    exact k)
  obtain ⟨cl213, Ar213, q213, S213, M213, H213, G213⟩ := id (P2.ext E207)
  have g214 : Goes p e below S0 (T210.setTop (mkF m 34 #[rv ma, rv b207, iv (0 : Int32), rv pa, iv (3 : Int32), iv (0 : Int32), .unset] [(.int (0 : Int32)), (.ref pa)])) := fun t k => g212 t (by
    refine X210.arraylength hx (by rw [e210]; exact Ar213.1) (State.isArrayOf_alike hZ.alike Ar213.2.1) (g := (mkF m 18 #[rv ma, rv b207, iv (0 : Int32), rv pa, .unset, .unset, .unset] [(.ref pa)])) rfl rfl (hb hby d4_18) _ ?_
    rw [len_of S213 M213]
    show Go p e below t T210 m 19 #[rv ma, rv b207, iv (0 : Int32), rv pa, .unset, .unset, .unset] [(.int (3 : Int32))]
    refine XS.istore X210.here hx rfl (hb hby d4_19) rfl (l' := #[rv ma, rv b207, iv (0 : Int32), rv pa, iv (3 : Int32), .unset, .unset]) rfl ?_
    show Go p e below t T210 m 21 #[rv ma, rv b207, iv (0 : Int32), rv pa, iv (3 : Int32), .unset, .unset] []
    refine XT.iconstV X210.here hx rfl (0 : Int32) (hb hby d4_21) (by decide) ?_
    show Go p e below t T210 m 22 #[rv ma, rv b207, iv (0 : Int32), rv pa, iv (3 : Int32), .unset, .unset] [(.int (0 : Int32))]
    refine XS.istore X210.here hx rfl (hb hby d4_22) rfl (l' := #[rv ma, rv b207, iv (0 : Int32), rv pa, iv (3 : Int32), iv (0 : Int32), .unset]) rfl ?_
    show Go p e below t T210 m 24 #[rv ma, rv b207, iv (0 : Int32), rv pa, iv (3 : Int32), iv (0 : Int32), .unset] []
    refine XS.iload X210.here hx rfl (hb hby d4_24) rfl ?_
    show Go p e below t T210 m 26 #[rv ma, rv b207, iv (0 : Int32), rv pa, iv (3 : Int32), iv (0 : Int32), .unset] [(.int (0 : Int32))]
    refine XS.iload X210.here hx rfl (hb hby d4_26) rfl ?_
    show Go p e below t T210 m 28 #[rv ma, rv b207, iv (0 : Int32), rv pa, iv (3 : Int32), iv (0 : Int32), .unset] [(.int (3 : Int32)), (.int (0 : Int32))]
    refine XS.icmpNo X210.here hx rfl (hb hby d4_28) rfl (XT.ii_ge_f (by decide)) ?_
    show Go p e below t T210 m 31 #[rv ma, rv b207, iv (0 : Int32), rv pa, iv (3 : Int32), iv (0 : Int32), .unset] []
    refine XS.aloadN X210.here hx rfl (hb hby d4_31) rfl rfl ?_
    show Go p e below t T210 m 32 #[rv ma, rv b207, iv (0 : Int32), rv pa, iv (3 : Int32), iv (0 : Int32), .unset] [(.ref pa)]
    refine XS.iload X210.here hx rfl (hb hby d4_32) rfl ?_
    show Go p e below t T210 m 34 #[rv ma, rv b207, iv (0 : Int32), rv pa, iv (3 : Int32), iv (0 : Int32), .unset] [(.int (0 : Int32)), (.ref pa)]
    exact k)
  obtain ⟨cl215, Ar215, q215, S215, M215, H215, G215⟩ := id (P2.ext E207)
  have g216 : Goes p e below S0 (T210.setTop (mkF m 40 #[rv ma, rv b207, iv (0 : Int32), rv pa, iv (3 : Int32), iv (0 : Int32), iv p0] [(.ref ma), (.int p0)])) := fun t k => g214 t (by
    refine X210.iaload hx (j := (0 : Int32)) (v := (.int p0)) (by rw [e210]; exact Ar215.1) (State.isArrayOf_alike hZ.alike Ar215.2.1) Ar215.2.2 (inb_of S215 ⟨by decide, by decide⟩) (H215.at (inb_of S215 ⟨by decide, by decide⟩) rfl) (g := (mkF m 34 #[rv ma, rv b207, iv (0 : Int32), rv pa, iv (3 : Int32), iv (0 : Int32), .unset] [(.int (0 : Int32)), (.ref pa)])) rfl rfl (hb hby d4_34) _ ?_
    show Go p e below t T210 m 35 #[rv ma, rv b207, iv (0 : Int32), rv pa, iv (3 : Int32), iv (0 : Int32), .unset] [(.int p0)]
    refine XS.istore X210.here hx rfl (hb hby d4_35) rfl (l' := #[rv ma, rv b207, iv (0 : Int32), rv pa, iv (3 : Int32), iv (0 : Int32), iv p0]) rfl ?_
    show Go p e below t T210 m 37 #[rv ma, rv b207, iv (0 : Int32), rv pa, iv (3 : Int32), iv (0 : Int32), iv p0] []
    refine XS.iload X210.here hx rfl (hb hby d4_37) rfl ?_
    show Go p e below t T210 m 39 #[rv ma, rv b207, iv (0 : Int32), rv pa, iv (3 : Int32), iv (0 : Int32), iv p0] [(.int p0)]
    refine XS.aloadN X210.here hx rfl (hb hby d4_39) rfl rfl ?_
    show Go p e below t T210 m 40 #[rv ma, rv b207, iv (0 : Int32), rv pa, iv (3 : Int32), iv (0 : Int32), iv p0] [(.ref ma), (.int p0)]
    exact k)
  obtain ⟨T217, X217, e217, st217⟩ := getF X210 hx hZ hown (host := "") (Or.inl (hw _ (List.mem_of_getElem? (i := 21) rfl))) Via.refl e210 (P1.ext E207) (g := (mkF m 40 #[rv ma, rv b207, iv (0 : Int32), rv pa, iv (3 : Int32), iv (0 : Int32), iv p0] [(.ref ma), (.int p0)])) rfl rfl (hb hby d4_40)
  have g218 : Goes p e below S0 (T217.setTop (mkF m 43 #[rv ma, rv b207, iv (0 : Int32), rv pa, iv (3 : Int32), iv (0 : Int32), iv p0] [(.int p1), (.int p0)])) := fun t k => g216 t (st217 t k)
  have g219 : Goes p e below S0 (T217.setTop (mkF m 53 #[rv ma, rv b207, iv (1 : Int32), rv pa, iv (3 : Int32), iv (0 : Int32), iv p0] [(.int p0), (.int (0 : Int32)), (.ref b207)])) := fun t k => g218 t (by
    refine XS.icmpNo X217.here hx rfl (hb hby d4_43) rfl (XT.ii_eq_f ne0) ?_
    show Go p e below t T217 m 46 #[rv ma, rv b207, iv (0 : Int32), rv pa, iv (3 : Int32), iv (0 : Int32), iv p0] []
    refine XS.aloadN X217.here hx rfl (hb hby d4_46) rfl rfl ?_
    show Go p e below t T217 m 47 #[rv ma, rv b207, iv (0 : Int32), rv pa, iv (3 : Int32), iv (0 : Int32), iv p0] [(.ref b207)]
    refine XS.iloadN X217.here hx rfl (hb hby d4_47) rfl ?_
    show Go p e below t T217 m 48 #[rv ma, rv b207, iv (0 : Int32), rv pa, iv (3 : Int32), iv (0 : Int32), iv p0] [(.int (0 : Int32)), (.ref b207)]
    refine XT.iincV X217.here hx rfl (1 : Int32) (hb hby d4_48) (by decide) rfl (l' := #[rv ma, rv b207, iv (1 : Int32), rv pa, iv (3 : Int32), iv (0 : Int32), iv p0]) rfl ?_
    show Go p e below t T217 m 51 #[rv ma, rv b207, iv (1 : Int32), rv pa, iv (3 : Int32), iv (0 : Int32), iv p0] [(.int (0 : Int32)), (.ref b207)]
    refine XS.iload X217.here hx rfl (hb hby d4_51) rfl ?_
    show Go p e below t T217 m 53 #[rv ma, rv b207, iv (1 : Int32), rv pa, iv (3 : Int32), iv (0 : Int32), iv p0] [(.int p0), (.int (0 : Int32)), (.ref b207)]
    exact k)
  obtain ⟨cl220, Ar220, q220, S220, M220, H220, G220⟩ := id V207
  obtain ⟨T221, h221, X221, e221, W221, st221⟩ := stI X217 hx hZ e217 Ar220 (j := (0 : Int32)) (inb_of S220 ⟨by decide, by decide⟩) (g := (mkF m 53 #[rv ma, rv b207, iv (1 : Int32), rv pa, iv (3 : Int32), iv (0 : Int32), iv p0] [(.int p0), (.int (0 : Int32)), (.ref b207)])) rfl rfl (hb hby d4_53)
  have N221 := Fr.snoc X221 N0 ng207
  have V221 : Arv Z h221 b207 k207 .int (2 : Int32) [(.int p0), (.int (0 : Int32))] (.int (0 : Int32)) := Arv.set Ar220 q220 S220 M220 H220 G220 rfl W221 0 rfl (Nat.le_of_ble_eq_true rfl)
  have g222 : Goes p e below S0 (T221.setTop (mkF m 54 #[rv ma, rv b207, iv (1 : Int32), rv pa, iv (3 : Int32), iv (0 : Int32), iv p0] [])) := fun t k => g219 t (st221 t k)
  have g223 : Goes p e below S0 (T221.setTop (mkF m 34 #[rv ma, rv b207, iv (1 : Int32), rv pa, iv (3 : Int32), iv (1 : Int32), iv p0] [(.int (1 : Int32)), (.ref pa)])) := fun t k => g222 t (by
    refine XT.iincV X221.here hx rfl (1 : Int32) (hb hby d4_54) (by decide) rfl (l' := #[rv ma, rv b207, iv (1 : Int32), rv pa, iv (3 : Int32), iv (1 : Int32), iv p0]) rfl ?_
    show Go p e below t T221 m 57 #[rv ma, rv b207, iv (1 : Int32), rv pa, iv (3 : Int32), iv (1 : Int32), iv p0] []
    refine XS.goto X221.here hx rfl (pc0 := 57) (pc' := 24) rfl (hb hby d4_57) (by decide) (by decide) ?_
    show Go p e below t T221 m 24 #[rv ma, rv b207, iv (1 : Int32), rv pa, iv (3 : Int32), iv (1 : Int32), iv p0] []
    refine XS.iload X221.here hx rfl (hb hby d4_24) rfl ?_
    show Go p e below t T221 m 26 #[rv ma, rv b207, iv (1 : Int32), rv pa, iv (3 : Int32), iv (1 : Int32), iv p0] [(.int (1 : Int32))]
    refine XS.iload X221.here hx rfl (hb hby d4_26) rfl ?_
    show Go p e below t T221 m 28 #[rv ma, rv b207, iv (1 : Int32), rv pa, iv (3 : Int32), iv (1 : Int32), iv p0] [(.int (3 : Int32)), (.int (1 : Int32))]
    refine XS.icmpNo X221.here hx rfl (hb hby d4_28) rfl (XT.ii_ge_f (by decide)) ?_
    show Go p e below t T221 m 31 #[rv ma, rv b207, iv (1 : Int32), rv pa, iv (3 : Int32), iv (1 : Int32), iv p0] []
    refine XS.aloadN X221.here hx rfl (hb hby d4_31) rfl rfl ?_
    show Go p e below t T221 m 32 #[rv ma, rv b207, iv (1 : Int32), rv pa, iv (3 : Int32), iv (1 : Int32), iv p0] [(.ref pa)]
    refine XS.iload X221.here hx rfl (hb hby d4_32) rfl ?_
    show Go p e below t T221 m 34 #[rv ma, rv b207, iv (1 : Int32), rv pa, iv (3 : Int32), iv (1 : Int32), iv p0] [(.int (1 : Int32)), (.ref pa)]
    exact k)
  obtain ⟨cl224, Ar224, q224, S224, M224, H224, G224⟩ := id ((P2.ext E207).other W221 (Nat.ne_of_lt (Nat.lt_of_lt_of_le P2.lt (Nat.le_of_eq gb207.symm))))
  have g225 : Goes p e below S0 (T221.setTop (mkF m 40 #[rv ma, rv b207, iv (1 : Int32), rv pa, iv (3 : Int32), iv (1 : Int32), iv p1] [(.ref ma), (.int p1)])) := fun t k => g223 t (by
    refine X221.iaload hx (j := (1 : Int32)) (v := (.int p1)) (by rw [e221]; exact Ar224.1) (State.isArrayOf_alike hZ.alike Ar224.2.1) Ar224.2.2 (inb_of S224 ⟨by decide, by decide⟩) (H224.at (inb_of S224 ⟨by decide, by decide⟩) rfl) (g := (mkF m 34 #[rv ma, rv b207, iv (1 : Int32), rv pa, iv (3 : Int32), iv (1 : Int32), iv p0] [(.int (1 : Int32)), (.ref pa)])) rfl rfl (hb hby d4_34) _ ?_
    show Go p e below t T221 m 35 #[rv ma, rv b207, iv (1 : Int32), rv pa, iv (3 : Int32), iv (1 : Int32), iv p0] [(.int p1)]
    refine XS.istore X221.here hx rfl (hb hby d4_35) rfl (l' := #[rv ma, rv b207, iv (1 : Int32), rv pa, iv (3 : Int32), iv (1 : Int32), iv p1]) rfl ?_
    show Go p e below t T221 m 37 #[rv ma, rv b207, iv (1 : Int32), rv pa, iv (3 : Int32), iv (1 : Int32), iv p1] []
    refine XS.iload X221.here hx rfl (hb hby d4_37) rfl ?_
    show Go p e below t T221 m 39 #[rv ma, rv b207, iv (1 : Int32), rv pa, iv (3 : Int32), iv (1 : Int32), iv p1] [(.int p1)]
    refine XS.aloadN X221.here hx rfl (hb hby d4_39) rfl rfl ?_
    show Go p e below t T221 m 40 #[rv ma, rv b207, iv (1 : Int32), rv pa, iv (3 : Int32), iv (1 : Int32), iv p1] [(.ref ma), (.int p1)]
    exact k)
  obtain ⟨T226, X226, e226, st226⟩ := getF X221 hx hZ hown (host := "") (Or.inl (hw _ (List.mem_of_getElem? (i := 21) rfl))) Via.refl e221 ((P1.ext E207).other W221 (Or.inl (Nat.ne_of_lt (Nat.lt_of_lt_of_le P0.lt (Nat.le_of_eq gb207.symm))))) (g := (mkF m 40 #[rv ma, rv b207, iv (1 : Int32), rv pa, iv (3 : Int32), iv (1 : Int32), iv p1] [(.ref ma), (.int p1)])) rfl rfl (hb hby d4_40)
  have g227 : Goes p e below S0 (T226.setTop (mkF m 43 #[rv ma, rv b207, iv (1 : Int32), rv pa, iv (3 : Int32), iv (1 : Int32), iv p1] [(.int p1), (.int p1)])) := fun t k => g225 t (st226 t k)
  have g228 : Goes p e below S0 (T226.setTop (mkF m 34 #[rv ma, rv b207, iv (1 : Int32), rv pa, iv (3 : Int32), iv (2 : Int32), iv p1] [(.int (2 : Int32)), (.ref pa)])) := fun t k => g227 t (by
    refine XS.icmpYes X226.here hx rfl (pc0 := 43) (pc' := 54) rfl (hb hby d4_43) rfl (XT.ii_eq_t rfl) (by decide) (by decide) ?_
    show Go p e below t T226 m 54 #[rv ma, rv b207, iv (1 : Int32), rv pa, iv (3 : Int32), iv (1 : Int32), iv p1] []
    refine XT.iincV X226.here hx rfl (1 : Int32) (hb hby d4_54) (by decide) rfl (l' := #[rv ma, rv b207, iv (1 : Int32), rv pa, iv (3 : Int32), iv (2 : Int32), iv p1]) rfl ?_
    show Go p e below t T226 m 57 #[rv ma, rv b207, iv (1 : Int32), rv pa, iv (3 : Int32), iv (2 : Int32), iv p1] []
    refine XS.goto X226.here hx rfl (pc0 := 57) (pc' := 24) rfl (hb hby d4_57) (by decide) (by decide) ?_
    show Go p e below t T226 m 24 #[rv ma, rv b207, iv (1 : Int32), rv pa, iv (3 : Int32), iv (2 : Int32), iv p1] []
    refine XS.iload X226.here hx rfl (hb hby d4_24) rfl ?_
    show Go p e below t T226 m 26 #[rv ma, rv b207, iv (1 : Int32), rv pa, iv (3 : Int32), iv (2 : Int32), iv p1] [(.int (2 : Int32))]
    refine XS.iload X226.here hx rfl (hb hby d4_26) rfl ?_
    show Go p e below t T226 m 28 #[rv ma, rv b207, iv (1 : Int32), rv pa, iv (3 : Int32), iv (2 : Int32), iv p1] [(.int (3 : Int32)), (.int (2 : Int32))]
    refine XS.icmpNo X226.here hx rfl (hb hby d4_28) rfl (XT.ii_ge_f (by decide)) ?_
    show Go p e below t T226 m 31 #[rv ma, rv b207, iv (1 : Int32), rv pa, iv (3 : Int32), iv (2 : Int32), iv p1] []
    refine XS.aloadN X226.here hx rfl (hb hby d4_31) rfl rfl ?_
    show Go p e below t T226 m 32 #[rv ma, rv b207, iv (1 : Int32), rv pa, iv (3 : Int32), iv (2 : Int32), iv p1] [(.ref pa)]
    refine XS.iload X226.here hx rfl (hb hby d4_32) rfl ?_
    show Go p e below t T226 m 34 #[rv ma, rv b207, iv (1 : Int32), rv pa, iv (3 : Int32), iv (2 : Int32), iv p1] [(.int (2 : Int32)), (.ref pa)]
    exact k)
  obtain ⟨cl229, Ar229, q229, S229, M229, H229, G229⟩ := id ((P2.ext E207).other W221 (Nat.ne_of_lt (Nat.lt_of_lt_of_le P2.lt (Nat.le_of_eq gb207.symm))))
  have g230 : Goes p e below S0 (T226.setTop (mkF m 40 #[rv ma, rv b207, iv (1 : Int32), rv pa, iv (3 : Int32), iv (2 : Int32), iv p2] [(.ref ma), (.int p2)])) := fun t k => g228 t (by
    refine X226.iaload hx (j := (2 : Int32)) (v := (.int p2)) (by rw [e226]; exact Ar229.1) (State.isArrayOf_alike hZ.alike Ar229.2.1) Ar229.2.2 (inb_of S229 ⟨by decide, by decide⟩) (H229.at (inb_of S229 ⟨by decide, by decide⟩) rfl) (g := (mkF m 34 #[rv ma, rv b207, iv (1 : Int32), rv pa, iv (3 : Int32), iv (2 : Int32), iv p1] [(.int (2 : Int32)), (.ref pa)])) rfl rfl (hb hby d4_34) _ ?_
    show Go p e below t T226 m 35 #[rv ma, rv b207, iv (1 : Int32), rv pa, iv (3 : Int32), iv (2 : Int32), iv p1] [(.int p2)]
    refine XS.istore X226.here hx rfl (hb hby d4_35) rfl (l' := #[rv ma, rv b207, iv (1 : Int32), rv pa, iv (3 : Int32), iv (2 : Int32), iv p2]) rfl ?_
    show Go p e below t T226 m 37 #[rv ma, rv b207, iv (1 : Int32), rv pa, iv (3 : Int32), iv (2 : Int32), iv p2] []
    refine XS.iload X226.here hx rfl (hb hby d4_37) rfl ?_
    show Go p e below t T226 m 39 #[rv ma, rv b207, iv (1 : Int32), rv pa, iv (3 : Int32), iv (2 : Int32), iv p2] [(.int p2)]
    refine XS.aloadN X226.here hx rfl (hb hby d4_39) rfl rfl ?_
    show Go p e below t T226 m 40 #[rv ma, rv b207, iv (1 : Int32), rv pa, iv (3 : Int32), iv (2 : Int32), iv p2] [(.ref ma), (.int p2)]
    exact k)
  obtain ⟨T231, X231, e231, st231⟩ := getF X226 hx hZ hown (host := "") (Or.inl (hw _ (List.mem_of_getElem? (i := 21) rfl))) Via.refl e226 ((P1.ext E207).other W221 (Or.inl (Nat.ne_of_lt (Nat.lt_of_lt_of_le P0.lt (Nat.le_of_eq gb207.symm))))) (g := (mkF m 40 #[rv ma, rv b207, iv (1 : Int32), rv pa, iv (3 : Int32), iv (2 : Int32), iv p2] [(.ref ma), (.int p2)])) rfl rfl (hb hby d4_40)
  have g232 : Goes p e below S0 (T231.setTop (mkF m 43 #[rv ma, rv b207, iv (1 : Int32), rv pa, iv (3 : Int32), iv (2 : Int32), iv p2] [(.int p1), (.int p2)])) := fun t k => g230 t (st231 t k)
  have g233 : Goes p e below S0 (T231.setTop (mkF m 53 #[rv ma, rv b207, iv (2 : Int32), rv pa, iv (3 : Int32), iv (2 : Int32), iv p2] [(.int p2), (.int (1 : Int32)), (.ref b207)])) := fun t k => g232 t (by
    refine XS.icmpNo X231.here hx rfl (hb hby d4_43) rfl (XT.ii_eq_f ne2) ?_
    show Go p e below t T231 m 46 #[rv ma, rv b207, iv (1 : Int32), rv pa, iv (3 : Int32), iv (2 : Int32), iv p2] []
    refine XS.aloadN X231.here hx rfl (hb hby d4_46) rfl rfl ?_
    show Go p e below t T231 m 47 #[rv ma, rv b207, iv (1 : Int32), rv pa, iv (3 : Int32), iv (2 : Int32), iv p2] [(.ref b207)]
    refine XS.iloadN X231.here hx rfl (hb hby d4_47) rfl ?_
    show Go p e below t T231 m 48 #[rv ma, rv b207, iv (1 : Int32), rv pa, iv (3 : Int32), iv (2 : Int32), iv p2] [(.int (1 : Int32)), (.ref b207)]
    refine XT.iincV X231.here hx rfl (1 : Int32) (hb hby d4_48) (by decide) rfl (l' := #[rv ma, rv b207, iv (2 : Int32), rv pa, iv (3 : Int32), iv (2 : Int32), iv p2]) rfl ?_
    show Go p e below t T231 m 51 #[rv ma, rv b207, iv (2 : Int32), rv pa, iv (3 : Int32), iv (2 : Int32), iv p2] [(.int (1 : Int32)), (.ref b207)]
    refine XS.iload X231.here hx rfl (hb hby d4_51) rfl ?_
    show Go p e below t T231 m 53 #[rv ma, rv b207, iv (2 : Int32), rv pa, iv (3 : Int32), iv (2 : Int32), iv p2] [(.int p2), (.int (1 : Int32)), (.ref b207)]
    exact k)
  obtain ⟨cl234, Ar234, q234, S234, M234, H234, G234⟩ := id V221
  obtain ⟨T235, h235, X235, e235, W235, st235⟩ := stI X231 hx hZ e231 Ar234 (j := (1 : Int32)) (inb_of S234 ⟨by decide, by decide⟩) (g := (mkF m 53 #[rv ma, rv b207, iv (2 : Int32), rv pa, iv (3 : Int32), iv (2 : Int32), iv p2] [(.int p2), (.int (1 : Int32)), (.ref b207)])) rfl rfl (hb hby d4_53)
  have N235 := Fr.snoc X235 N221 ng207
  have V235 : Arv Z h235 b207 k207 .int (2 : Int32) [(.int p0), (.int p2)] (.int (0 : Int32)) := Arv.set Ar234 q234 S234 M234 H234 G234 rfl W235 1 rfl (Nat.le_of_ble_eq_true rfl)
  have g236 : Goes p e below S0 (T235.setTop (mkF m 54 #[rv ma, rv b207, iv (2 : Int32), rv pa, iv (3 : Int32), iv (2 : Int32), iv p2] [])) := fun t k => g233 t (st235 t k)
  have g237 : Goes p e below S0 (T235.setTop (mkF m 61 #[rv ma, rv b207, iv (2 : Int32), rv pa, iv (3 : Int32), iv (3 : Int32), iv p2] [(.ref b207)])) := fun t k => g236 t (by
    refine XT.iincV X235.here hx rfl (1 : Int32) (hb hby d4_54) (by decide) rfl (l' := #[rv ma, rv b207, iv (2 : Int32), rv pa, iv (3 : Int32), iv (3 : Int32), iv p2]) rfl ?_
    show Go p e below t T235 m 57 #[rv ma, rv b207, iv (2 : Int32), rv pa, iv (3 : Int32), iv (3 : Int32), iv p2] []
    refine XS.goto X235.here hx rfl (pc0 := 57) (pc' := 24) rfl (hb hby d4_57) (by decide) (by decide) ?_
    show Go p e below t T235 m 24 #[rv ma, rv b207, iv (2 : Int32), rv pa, iv (3 : Int32), iv (3 : Int32), iv p2] []
    refine XS.iload X235.here hx rfl (hb hby d4_24) rfl ?_
    show Go p e below t T235 m 26 #[rv ma, rv b207, iv (2 : Int32), rv pa, iv (3 : Int32), iv (3 : Int32), iv p2] [(.int (3 : Int32))]
    refine XS.iload X235.here hx rfl (hb hby d4_26) rfl ?_
    show Go p e below t T235 m 28 #[rv ma, rv b207, iv (2 : Int32), rv pa, iv (3 : Int32), iv (3 : Int32), iv p2] [(.int (3 : Int32)), (.int (3 : Int32))]
    refine XS.icmpYes X235.here hx rfl (pc0 := 28) (pc' := 60) rfl (hb hby d4_28) rfl (XT.ii_ge_t (by decide)) (by decide) (by decide) ?_
    show Go p e below t T235 m 60 #[rv ma, rv b207, iv (2 : Int32), rv pa, iv (3 : Int32), iv (3 : Int32), iv p2] []
    refine XS.aloadN X235.here hx rfl (hb hby d4_60) rfl rfl ?_
    show Go p e below t T235 m 61 #[rv ma, rv b207, iv (2 : Int32), rv pa, iv (3 : Int32), iv (3 : Int32), iv p2] [(.ref b207)]
    exact k)
  obtain ⟨fs, hr, hrun, hended, hW, hsame⟩ := X235.leave (v := some (.ref b207)) (fun h => by rw [Bd.returns] at h; cases h)
  refine ⟨_, _, g237 _ (retOut X235 hx Bd.returns rfl (Or.inr (Or.inr (Or.inr (Or.inr ⟨rfl, rfl, rfl⟩)))) (hb hby d4_61) hr), hrun, hended, _, _, rfl, ?_, ⟨_, rfl⟩, hW, hsame.mono (by decide) (by decide)⟩
  show Q_md31 Z ma pa pk p0 p1 p2 h0 n0 _ T235.heap _
  rw [e235]
  exact ⟨b207, k207, rfl, N235, ((((Keep.refl h0 []).ext E207).wr W221 (Or.inr sz207)).wr W235 (Or.inr sz207)), V235, sz207⟩
theorem pf_md32 : plainFor (⟨"com/example/aristotle/aristotle/EliminationPlan$Step", "made", "()[I"⟩ : MethodName) = true := by first | exact plainFor_of_name (by first | (simp [plainName, overriddenIn, x]; done) | decide +kernel) | exact Jvm.Free.JP.mathPlain rfl (by decide +kernel) | decide +kernel
theorem ef_md32 (m : MethodId) (ma : Addr) : entryFrame m #[(.ref ma)] 7 = mkF m 0 #[rv ma, .unset, .unset, .unset, .unset, .unset, .unset] [] := by first | (simp [entryFrame, mkF, argsToLocals, Value.category, maxLocals]; done) | rfl
def Q_md32 (Z : State) (ma : Addr) (pa : Addr) (pk : ClassId) (p0 : Int32) (p1 : Int32) (p2 : Int32) (h0 : Heap) (n0 : Nat) (v : Option Value) (h : Heap) (L : List Loc) : Prop := ∃ (ra : Addr) (rk : ClassId), v = some (.ref ra) ∧ Fr n0 L ∧ (Keep h0 h []) ∧ (Arv Z h ra rk .int (2 : Int32) [(.int p0), (.int p1)] (.int (0 : Int32))) ∧ (h0.size ≤ ra)
set_option maxRecDepth 65536 in
set_option maxHeartbeats 40000000 in
theorem rm_md32 (l : Launch) (Z : State) (a0 : Array Value) (hw : ∀ d ∈ tables_1, d.before a0 Z = true) (ws : List Jvm.Cond) (ma : Addr) (pa : Addr) (pk : ClassId) (p0 : Int32) (p1 : Int32) (p2 : Int32) (h0 : Heap) (n0 : Nat) (Z0 : n0 ≤ h0.size) (P0 : Fld Z h0 ma "com/example/aristotle/aristotle/EliminationPlan$Step" "product" "[I" (.ref pa)) (P1 : Fld Z h0 ma "com/example/aristotle/aristotle/EliminationPlan$Step" "variable" "I" (.int p2)) (P2 : Arv Z h0 pa pk .int (3 : Int32) [(.int p0), (.int p1), (.int p2)] (.int (0 : Int32))) (ne0 : ¬ (p0 = p2)) (ne1 : ¬ (p1 = p2))  :
    MetFree l (⟨"com/example/aristotle/aristotle/EliminationPlan$Step", "made", "()[I"⟩ : MethodName) (head1 (Jvm.Cond.code (⟨"com/example/aristotle/aristotle/EliminationPlan$Step", "made", "()[I"⟩ : MethodName) prog_48_method_2_code 7 (some (.array .int)) :: ws) ({ frames := 0, cells := 1, slots := 2, locals := 0 } : Room)) (fun a U => a = #[(.ref ma)] ∧ Z.Warmed39 U.vm ∧ U.heap = h0) (fun _ _ _ _ _ => True) (fun _ U o U' => ∃ v L, o = .returned v ∧ Q_md32 Z ma pa pk p0 p1 p2 h0 n0 v U'.heap L ∧ FrameEnd U o U' L ({ frames := 0, cells := 1, slots := 2, locals := 0 } : Room).cells ({ frames := 0, cells := 1, slots := 2, locals := 0 } : Room).slots) := by
  refine MetFree.of_bodySF pf_md32 hisR ?_
  intro p e s m args below meth c s₁ Bd hml0 hP hK
  obtain ⟨rfl, hZ, hh⟩ := hP
  have hx := Bd.exec
  have hby := Bd.bytes
  have hml : c.maxLocals = 7 := hml0
  have hown : s.vm.findClass "com/example/aristotle/aristotle/EliminationPlan$Step" = some m.cls := findClass_of_methodNamed Bd.named
  have hnm := (name_of_methodNamed Bd.named Bd.method).1
  have X0 : Stand p l e ({ frames := 0, cells := 1, slots := 2, locals := 0 } : Room) s m #[(.ref ma)] below meth c s₁ [] 0 0 := Stand.of_body Bd
  have e0 : s₁.heap = h0 := by rw [← hh, Bd.state]; rfl
  have N0 := Fr.nil n0
  obtain ⟨S0, hS0⟩ : ∃ z, z = s₁.setTop (entryFrame m #[(.ref ma)] 7) := ⟨_, rfl⟩
  rw [← hS0]
  have g0 : Goes p e below S0 (s₁.setTop (mkF m 0 #[rv ma, .unset, .unset, .unset, .unset, .unset, .unset] [])) := fun t k => by rw [hS0]; exact castTop (ef_md32 m ma) k
  have g238 : Goes p e below S0 (s₁.setTop (mkF m 1 #[rv ma, .unset, .unset, .unset, .unset, .unset, .unset] [(.ref ma)])) := fun t k => g0 t (by
    refine XS.aloadN X0.here hx rfl (hb hby d4_0) rfl rfl ?_
    show Go p e below t s₁ m 1 #[rv ma, .unset, .unset, .unset, .unset, .unset, .unset] [(.ref ma)]
    exact k)
  obtain ⟨T239, X239, e239, st239⟩ := getF X0 hx hZ hown (host := "") (Or.inl (hw _ (List.mem_of_getElem? (i := 25) rfl))) Via.refl e0 P0 (g := (mkF m 1 #[rv ma, .unset, .unset, .unset, .unset, .unset, .unset] [(.ref ma)])) rfl rfl (hb hby d4_1)
  have g240 : Goes p e below S0 (T239.setTop (mkF m 4 #[rv ma, .unset, .unset, .unset, .unset, .unset, .unset] [(.ref pa)])) := fun t k => g238 t (st239 t k)
  obtain ⟨cl241, Ar241, q241, S241, M241, H241, G241⟩ := id P2
  have g242 : Goes p e below S0 (T239.setTop (mkF m 7 #[rv ma, .unset, .unset, .unset, .unset, .unset, .unset] [(.int (2 : Int32))])) := fun t k => g240 t (by
    refine X239.arraylength hx (by rw [e239]; exact Ar241.1) (State.isArrayOf_alike hZ.alike Ar241.2.1) (g := (mkF m 4 #[rv ma, .unset, .unset, .unset, .unset, .unset, .unset] [(.ref pa)])) rfl rfl (hb hby d4_4) _ ?_
    rw [len_of S241 M241]
    show Go p e below t T239 m 5 #[rv ma, .unset, .unset, .unset, .unset, .unset, .unset] [(.int (3 : Int32))]
    refine XT.iconstV X239.here hx rfl (1 : Int32) (hb hby d4_5) (by decide) ?_
    show Go p e below t T239 m 6 #[rv ma, .unset, .unset, .unset, .unset, .unset, .unset] [(.int (1 : Int32)), (.int (3 : Int32))]
    refine XS.isub X239.here hx rfl (hb hby d4_6) rfl ?_
    rw [show ((3 : Int32) - (1 : Int32)) = (2 : Int32) by decide]
    show Go p e below t T239 m 7 #[rv ma, .unset, .unset, .unset, .unset, .unset, .unset] [(.int (2 : Int32))]
    exact k)
  obtain ⟨T243, h243, k243, X243, e243, E243, A243, st243⟩ := newP X239 hx hZ (hw _ (List.mem_of_getElem? (i := 1) rfl)) e239 (g := (mkF m 7 #[rv ma, .unset, .unset, .unset, .unset, .unset, .unset] [(.int (2 : Int32))])) rfl (hb hby d4_7) rfl (by decide) (cap := 2) (by decide) (by decide) (by decide) (by decide)
  obtain ⟨b243, gb243⟩ : ∃ z, z = h0.size := ⟨_, rfl⟩
  have sz243 : h0.size ≤ b243 := Nat.le_trans (Nat.le_refl _) (Nat.le_of_eq gb243.symm)
  have ng243 : n0 ≤ b243 := Nat.le_trans Z0 sz243
  rw [← gb243] at A243 st243
  have V243 : Arv Z h243 b243 k243 .int (2 : Int32) [(.int (0 : Int32)), (.int (0 : Int32))] (.int (0 : Int32)) := (Arv.new A243 (by decide)).pad (pad_rep [] (.int (0 : Int32)) 2)
  have g244 : Goes p e below S0 (T243.setTop (mkF m 9 #[rv ma, .unset, .unset, .unset, .unset, .unset, .unset] [(.ref b243)])) := fun t k => g242 t (st243 t k)
  have g245 : Goes p e below S0 (T243.setTop (mkF m 13 #[rv ma, rv b243, iv (0 : Int32), .unset, .unset, .unset, .unset] [(.ref ma)])) := fun t k => g244 t (by
    refine XS.astoreN X243.here hx rfl (hb hby d4_9) rfl rfl (l' := #[rv ma, rv b243, .unset, .unset, .unset, .unset, .unset]) rfl ?_
    show Go p e below t T243 m 10 #[rv ma, rv b243, .unset, .unset, .unset, .unset, .unset] []
    refine XT.iconstV X243.here hx rfl (0 : Int32) (hb hby d4_10) (by decide) ?_
    show Go p e below t T243 m 11 #[rv ma, rv b243, .unset, .unset, .unset, .unset, .unset] [(.int (0 : Int32))]
    refine XS.istoreN X243.here hx rfl (hb hby d4_11) rfl (l' := #[rv ma, rv b243, iv (0 : Int32), .unset, .unset, .unset, .unset]) rfl ?_
    show Go p e below t T243 m 12 #[rv ma, rv b243, iv (0 : Int32), .unset, .unset, .unset, .unset] []
    refine XS.aloadN X243.here hx rfl (hb hby d4_12) rfl rfl ?_
    show Go p e below t T243 m 13 #[rv ma, rv b243, iv (0 : Int32), .unset, .unset, .unset, .unset] [(.ref ma)]
    exact k)
  obtain ⟨T246, X246, e246, st246⟩ := getF X243 hx hZ hown (host := "") (Or.inl (hw _ (List.mem_of_getElem? (i := 25) rfl))) Via.refl e243 (P0.ext E243) (g := (mkF m 13 #[rv ma, rv b243, iv (0 : Int32), .unset, .unset, .unset, .unset] [(.ref ma)])) rfl rfl (hb hby d4_13)
  have g247 : Goes p e below S0 (T246.setTop (mkF m 16 #[rv ma, rv b243, iv (0 : Int32), .unset, .unset, .unset, .unset] [(.ref pa)])) := fun t k => g245 t (st246 t k)
  have g248 : Goes p e below S0 (T246.setTop (mkF m 18 #[rv ma, rv b243, iv (0 : Int32), rv pa, .unset, .unset, .unset] [(.ref pa)])) := fun t k => g247 t (by
    refine XS.astoreN X246.here hx rfl (hb hby d4_16) rfl rfl (l' := #[rv ma, rv b243, iv (0 : Int32), rv pa, .unset, .unset, .unset]) rfl ?_
    show Go p e below t T246 m 17 #[rv ma, rv b243, iv (0 : Int32), rv pa, .unset, .unset, .unset] []
    refine XS.aloadN X246.here hx rfl (hb hby d4_17) rfl rfl ?_
    show Go p e below t T246 m 18 #[rv ma, rv b243, iv (0 : Int32), rv pa, .unset, .unset, .unset] [(.ref pa)]
    exact k)
  obtain ⟨cl249, Ar249, q249, S249, M249, H249, G249⟩ := id (P2.ext E243)
  have g250 : Goes p e below S0 (T246.setTop (mkF m 34 #[rv ma, rv b243, iv (0 : Int32), rv pa, iv (3 : Int32), iv (0 : Int32), .unset] [(.int (0 : Int32)), (.ref pa)])) := fun t k => g248 t (by
    refine X246.arraylength hx (by rw [e246]; exact Ar249.1) (State.isArrayOf_alike hZ.alike Ar249.2.1) (g := (mkF m 18 #[rv ma, rv b243, iv (0 : Int32), rv pa, .unset, .unset, .unset] [(.ref pa)])) rfl rfl (hb hby d4_18) _ ?_
    rw [len_of S249 M249]
    show Go p e below t T246 m 19 #[rv ma, rv b243, iv (0 : Int32), rv pa, .unset, .unset, .unset] [(.int (3 : Int32))]
    refine XS.istore X246.here hx rfl (hb hby d4_19) rfl (l' := #[rv ma, rv b243, iv (0 : Int32), rv pa, iv (3 : Int32), .unset, .unset]) rfl ?_
    show Go p e below t T246 m 21 #[rv ma, rv b243, iv (0 : Int32), rv pa, iv (3 : Int32), .unset, .unset] []
    refine XT.iconstV X246.here hx rfl (0 : Int32) (hb hby d4_21) (by decide) ?_
    show Go p e below t T246 m 22 #[rv ma, rv b243, iv (0 : Int32), rv pa, iv (3 : Int32), .unset, .unset] [(.int (0 : Int32))]
    refine XS.istore X246.here hx rfl (hb hby d4_22) rfl (l' := #[rv ma, rv b243, iv (0 : Int32), rv pa, iv (3 : Int32), iv (0 : Int32), .unset]) rfl ?_
    show Go p e below t T246 m 24 #[rv ma, rv b243, iv (0 : Int32), rv pa, iv (3 : Int32), iv (0 : Int32), .unset] []
    refine XS.iload X246.here hx rfl (hb hby d4_24) rfl ?_
    show Go p e below t T246 m 26 #[rv ma, rv b243, iv (0 : Int32), rv pa, iv (3 : Int32), iv (0 : Int32), .unset] [(.int (0 : Int32))]
    refine XS.iload X246.here hx rfl (hb hby d4_26) rfl ?_
    show Go p e below t T246 m 28 #[rv ma, rv b243, iv (0 : Int32), rv pa, iv (3 : Int32), iv (0 : Int32), .unset] [(.int (3 : Int32)), (.int (0 : Int32))]
    refine XS.icmpNo X246.here hx rfl (hb hby d4_28) rfl (XT.ii_ge_f (by decide)) ?_
    show Go p e below t T246 m 31 #[rv ma, rv b243, iv (0 : Int32), rv pa, iv (3 : Int32), iv (0 : Int32), .unset] []
    refine XS.aloadN X246.here hx rfl (hb hby d4_31) rfl rfl ?_
    show Go p e below t T246 m 32 #[rv ma, rv b243, iv (0 : Int32), rv pa, iv (3 : Int32), iv (0 : Int32), .unset] [(.ref pa)]
    refine XS.iload X246.here hx rfl (hb hby d4_32) rfl ?_
    show Go p e below t T246 m 34 #[rv ma, rv b243, iv (0 : Int32), rv pa, iv (3 : Int32), iv (0 : Int32), .unset] [(.int (0 : Int32)), (.ref pa)]
    exact k)
  obtain ⟨cl251, Ar251, q251, S251, M251, H251, G251⟩ := id (P2.ext E243)
  have g252 : Goes p e below S0 (T246.setTop (mkF m 40 #[rv ma, rv b243, iv (0 : Int32), rv pa, iv (3 : Int32), iv (0 : Int32), iv p0] [(.ref ma), (.int p0)])) := fun t k => g250 t (by
    refine X246.iaload hx (j := (0 : Int32)) (v := (.int p0)) (by rw [e246]; exact Ar251.1) (State.isArrayOf_alike hZ.alike Ar251.2.1) Ar251.2.2 (inb_of S251 ⟨by decide, by decide⟩) (H251.at (inb_of S251 ⟨by decide, by decide⟩) rfl) (g := (mkF m 34 #[rv ma, rv b243, iv (0 : Int32), rv pa, iv (3 : Int32), iv (0 : Int32), .unset] [(.int (0 : Int32)), (.ref pa)])) rfl rfl (hb hby d4_34) _ ?_
    show Go p e below t T246 m 35 #[rv ma, rv b243, iv (0 : Int32), rv pa, iv (3 : Int32), iv (0 : Int32), .unset] [(.int p0)]
    refine XS.istore X246.here hx rfl (hb hby d4_35) rfl (l' := #[rv ma, rv b243, iv (0 : Int32), rv pa, iv (3 : Int32), iv (0 : Int32), iv p0]) rfl ?_
    show Go p e below t T246 m 37 #[rv ma, rv b243, iv (0 : Int32), rv pa, iv (3 : Int32), iv (0 : Int32), iv p0] []
    refine XS.iload X246.here hx rfl (hb hby d4_37) rfl ?_
    show Go p e below t T246 m 39 #[rv ma, rv b243, iv (0 : Int32), rv pa, iv (3 : Int32), iv (0 : Int32), iv p0] [(.int p0)]
    refine XS.aloadN X246.here hx rfl (hb hby d4_39) rfl rfl ?_
    show Go p e below t T246 m 40 #[rv ma, rv b243, iv (0 : Int32), rv pa, iv (3 : Int32), iv (0 : Int32), iv p0] [(.ref ma), (.int p0)]
    exact k)
  obtain ⟨T253, X253, e253, st253⟩ := getF X246 hx hZ hown (host := "") (Or.inl (hw _ (List.mem_of_getElem? (i := 21) rfl))) Via.refl e246 (P1.ext E243) (g := (mkF m 40 #[rv ma, rv b243, iv (0 : Int32), rv pa, iv (3 : Int32), iv (0 : Int32), iv p0] [(.ref ma), (.int p0)])) rfl rfl (hb hby d4_40)
  have g254 : Goes p e below S0 (T253.setTop (mkF m 43 #[rv ma, rv b243, iv (0 : Int32), rv pa, iv (3 : Int32), iv (0 : Int32), iv p0] [(.int p2), (.int p0)])) := fun t k => g252 t (st253 t k)
  have g255 : Goes p e below S0 (T253.setTop (mkF m 53 #[rv ma, rv b243, iv (1 : Int32), rv pa, iv (3 : Int32), iv (0 : Int32), iv p0] [(.int p0), (.int (0 : Int32)), (.ref b243)])) := fun t k => g254 t (by
    refine XS.icmpNo X253.here hx rfl (hb hby d4_43) rfl (XT.ii_eq_f ne0) ?_
    show Go p e below t T253 m 46 #[rv ma, rv b243, iv (0 : Int32), rv pa, iv (3 : Int32), iv (0 : Int32), iv p0] []
    refine XS.aloadN X253.here hx rfl (hb hby d4_46) rfl rfl ?_
    show Go p e below t T253 m 47 #[rv ma, rv b243, iv (0 : Int32), rv pa, iv (3 : Int32), iv (0 : Int32), iv p0] [(.ref b243)]
    refine XS.iloadN X253.here hx rfl (hb hby d4_47) rfl ?_
    show Go p e below t T253 m 48 #[rv ma, rv b243, iv (0 : Int32), rv pa, iv (3 : Int32), iv (0 : Int32), iv p0] [(.int (0 : Int32)), (.ref b243)]
    refine XT.iincV X253.here hx rfl (1 : Int32) (hb hby d4_48) (by decide) rfl (l' := #[rv ma, rv b243, iv (1 : Int32), rv pa, iv (3 : Int32), iv (0 : Int32), iv p0]) rfl ?_
    show Go p e below t T253 m 51 #[rv ma, rv b243, iv (1 : Int32), rv pa, iv (3 : Int32), iv (0 : Int32), iv p0] [(.int (0 : Int32)), (.ref b243)]
    refine XS.iload X253.here hx rfl (hb hby d4_51) rfl ?_
    show Go p e below t T253 m 53 #[rv ma, rv b243, iv (1 : Int32), rv pa, iv (3 : Int32), iv (0 : Int32), iv p0] [(.int p0), (.int (0 : Int32)), (.ref b243)]
    exact k)
  obtain ⟨cl256, Ar256, q256, S256, M256, H256, G256⟩ := id V243
  obtain ⟨T257, h257, X257, e257, W257, st257⟩ := stI X253 hx hZ e253 Ar256 (j := (0 : Int32)) (inb_of S256 ⟨by decide, by decide⟩) (g := (mkF m 53 #[rv ma, rv b243, iv (1 : Int32), rv pa, iv (3 : Int32), iv (0 : Int32), iv p0] [(.int p0), (.int (0 : Int32)), (.ref b243)])) rfl rfl (hb hby d4_53)
  have N257 := Fr.snoc X257 N0 ng243
  have V257 : Arv Z h257 b243 k243 .int (2 : Int32) [(.int p0), (.int (0 : Int32))] (.int (0 : Int32)) := Arv.set Ar256 q256 S256 M256 H256 G256 rfl W257 0 rfl (Nat.le_of_ble_eq_true rfl)
  have g258 : Goes p e below S0 (T257.setTop (mkF m 54 #[rv ma, rv b243, iv (1 : Int32), rv pa, iv (3 : Int32), iv (0 : Int32), iv p0] [])) := fun t k => g255 t (st257 t k)
  have g259 : Goes p e below S0 (T257.setTop (mkF m 34 #[rv ma, rv b243, iv (1 : Int32), rv pa, iv (3 : Int32), iv (1 : Int32), iv p0] [(.int (1 : Int32)), (.ref pa)])) := fun t k => g258 t (by
    refine XT.iincV X257.here hx rfl (1 : Int32) (hb hby d4_54) (by decide) rfl (l' := #[rv ma, rv b243, iv (1 : Int32), rv pa, iv (3 : Int32), iv (1 : Int32), iv p0]) rfl ?_
    show Go p e below t T257 m 57 #[rv ma, rv b243, iv (1 : Int32), rv pa, iv (3 : Int32), iv (1 : Int32), iv p0] []
    refine XS.goto X257.here hx rfl (pc0 := 57) (pc' := 24) rfl (hb hby d4_57) (by decide) (by decide) ?_
    show Go p e below t T257 m 24 #[rv ma, rv b243, iv (1 : Int32), rv pa, iv (3 : Int32), iv (1 : Int32), iv p0] []
    refine XS.iload X257.here hx rfl (hb hby d4_24) rfl ?_
    show Go p e below t T257 m 26 #[rv ma, rv b243, iv (1 : Int32), rv pa, iv (3 : Int32), iv (1 : Int32), iv p0] [(.int (1 : Int32))]
    refine XS.iload X257.here hx rfl (hb hby d4_26) rfl ?_
    show Go p e below t T257 m 28 #[rv ma, rv b243, iv (1 : Int32), rv pa, iv (3 : Int32), iv (1 : Int32), iv p0] [(.int (3 : Int32)), (.int (1 : Int32))]
    refine XS.icmpNo X257.here hx rfl (hb hby d4_28) rfl (XT.ii_ge_f (by decide)) ?_
    show Go p e below t T257 m 31 #[rv ma, rv b243, iv (1 : Int32), rv pa, iv (3 : Int32), iv (1 : Int32), iv p0] []
    refine XS.aloadN X257.here hx rfl (hb hby d4_31) rfl rfl ?_
    show Go p e below t T257 m 32 #[rv ma, rv b243, iv (1 : Int32), rv pa, iv (3 : Int32), iv (1 : Int32), iv p0] [(.ref pa)]
    refine XS.iload X257.here hx rfl (hb hby d4_32) rfl ?_
    show Go p e below t T257 m 34 #[rv ma, rv b243, iv (1 : Int32), rv pa, iv (3 : Int32), iv (1 : Int32), iv p0] [(.int (1 : Int32)), (.ref pa)]
    exact k)
  obtain ⟨cl260, Ar260, q260, S260, M260, H260, G260⟩ := id ((P2.ext E243).other W257 (Nat.ne_of_lt (Nat.lt_of_lt_of_le P2.lt (Nat.le_of_eq gb243.symm))))
  have g261 : Goes p e below S0 (T257.setTop (mkF m 40 #[rv ma, rv b243, iv (1 : Int32), rv pa, iv (3 : Int32), iv (1 : Int32), iv p1] [(.ref ma), (.int p1)])) := fun t k => g259 t (by
    refine X257.iaload hx (j := (1 : Int32)) (v := (.int p1)) (by rw [e257]; exact Ar260.1) (State.isArrayOf_alike hZ.alike Ar260.2.1) Ar260.2.2 (inb_of S260 ⟨by decide, by decide⟩) (H260.at (inb_of S260 ⟨by decide, by decide⟩) rfl) (g := (mkF m 34 #[rv ma, rv b243, iv (1 : Int32), rv pa, iv (3 : Int32), iv (1 : Int32), iv p0] [(.int (1 : Int32)), (.ref pa)])) rfl rfl (hb hby d4_34) _ ?_
    show Go p e below t T257 m 35 #[rv ma, rv b243, iv (1 : Int32), rv pa, iv (3 : Int32), iv (1 : Int32), iv p0] [(.int p1)]
    refine XS.istore X257.here hx rfl (hb hby d4_35) rfl (l' := #[rv ma, rv b243, iv (1 : Int32), rv pa, iv (3 : Int32), iv (1 : Int32), iv p1]) rfl ?_
    show Go p e below t T257 m 37 #[rv ma, rv b243, iv (1 : Int32), rv pa, iv (3 : Int32), iv (1 : Int32), iv p1] []
    refine XS.iload X257.here hx rfl (hb hby d4_37) rfl ?_
    show Go p e below t T257 m 39 #[rv ma, rv b243, iv (1 : Int32), rv pa, iv (3 : Int32), iv (1 : Int32), iv p1] [(.int p1)]
    refine XS.aloadN X257.here hx rfl (hb hby d4_39) rfl rfl ?_
    show Go p e below t T257 m 40 #[rv ma, rv b243, iv (1 : Int32), rv pa, iv (3 : Int32), iv (1 : Int32), iv p1] [(.ref ma), (.int p1)]
    exact k)
  obtain ⟨T262, X262, e262, st262⟩ := getF X257 hx hZ hown (host := "") (Or.inl (hw _ (List.mem_of_getElem? (i := 21) rfl))) Via.refl e257 ((P1.ext E243).other W257 (Or.inl (Nat.ne_of_lt (Nat.lt_of_lt_of_le P0.lt (Nat.le_of_eq gb243.symm))))) (g := (mkF m 40 #[rv ma, rv b243, iv (1 : Int32), rv pa, iv (3 : Int32), iv (1 : Int32), iv p1] [(.ref ma), (.int p1)])) rfl rfl (hb hby d4_40)
  have g263 : Goes p e below S0 (T262.setTop (mkF m 43 #[rv ma, rv b243, iv (1 : Int32), rv pa, iv (3 : Int32), iv (1 : Int32), iv p1] [(.int p2), (.int p1)])) := fun t k => g261 t (st262 t k)
  have g264 : Goes p e below S0 (T262.setTop (mkF m 53 #[rv ma, rv b243, iv (2 : Int32), rv pa, iv (3 : Int32), iv (1 : Int32), iv p1] [(.int p1), (.int (1 : Int32)), (.ref b243)])) := fun t k => g263 t (by
    refine XS.icmpNo X262.here hx rfl (hb hby d4_43) rfl (XT.ii_eq_f ne1) ?_
    show Go p e below t T262 m 46 #[rv ma, rv b243, iv (1 : Int32), rv pa, iv (3 : Int32), iv (1 : Int32), iv p1] []
    refine XS.aloadN X262.here hx rfl (hb hby d4_46) rfl rfl ?_
    show Go p e below t T262 m 47 #[rv ma, rv b243, iv (1 : Int32), rv pa, iv (3 : Int32), iv (1 : Int32), iv p1] [(.ref b243)]
    refine XS.iloadN X262.here hx rfl (hb hby d4_47) rfl ?_
    show Go p e below t T262 m 48 #[rv ma, rv b243, iv (1 : Int32), rv pa, iv (3 : Int32), iv (1 : Int32), iv p1] [(.int (1 : Int32)), (.ref b243)]
    refine XT.iincV X262.here hx rfl (1 : Int32) (hb hby d4_48) (by decide) rfl (l' := #[rv ma, rv b243, iv (2 : Int32), rv pa, iv (3 : Int32), iv (1 : Int32), iv p1]) rfl ?_
    show Go p e below t T262 m 51 #[rv ma, rv b243, iv (2 : Int32), rv pa, iv (3 : Int32), iv (1 : Int32), iv p1] [(.int (1 : Int32)), (.ref b243)]
    refine XS.iload X262.here hx rfl (hb hby d4_51) rfl ?_
    show Go p e below t T262 m 53 #[rv ma, rv b243, iv (2 : Int32), rv pa, iv (3 : Int32), iv (1 : Int32), iv p1] [(.int p1), (.int (1 : Int32)), (.ref b243)]
    exact k)
  obtain ⟨cl265, Ar265, q265, S265, M265, H265, G265⟩ := id V257
  obtain ⟨T266, h266, X266, e266, W266, st266⟩ := stI X262 hx hZ e262 Ar265 (j := (1 : Int32)) (inb_of S265 ⟨by decide, by decide⟩) (g := (mkF m 53 #[rv ma, rv b243, iv (2 : Int32), rv pa, iv (3 : Int32), iv (1 : Int32), iv p1] [(.int p1), (.int (1 : Int32)), (.ref b243)])) rfl rfl (hb hby d4_53)
  have N266 := Fr.snoc X266 N257 ng243
  have V266 : Arv Z h266 b243 k243 .int (2 : Int32) [(.int p0), (.int p1)] (.int (0 : Int32)) := Arv.set Ar265 q265 S265 M265 H265 G265 rfl W266 1 rfl (Nat.le_of_ble_eq_true rfl)
  have g267 : Goes p e below S0 (T266.setTop (mkF m 54 #[rv ma, rv b243, iv (2 : Int32), rv pa, iv (3 : Int32), iv (1 : Int32), iv p1] [])) := fun t k => g264 t (st266 t k)
  have g268 : Goes p e below S0 (T266.setTop (mkF m 34 #[rv ma, rv b243, iv (2 : Int32), rv pa, iv (3 : Int32), iv (2 : Int32), iv p1] [(.int (2 : Int32)), (.ref pa)])) := fun t k => g267 t (by
    refine XT.iincV X266.here hx rfl (1 : Int32) (hb hby d4_54) (by decide) rfl (l' := #[rv ma, rv b243, iv (2 : Int32), rv pa, iv (3 : Int32), iv (2 : Int32), iv p1]) rfl ?_
    show Go p e below t T266 m 57 #[rv ma, rv b243, iv (2 : Int32), rv pa, iv (3 : Int32), iv (2 : Int32), iv p1] []
    refine XS.goto X266.here hx rfl (pc0 := 57) (pc' := 24) rfl (hb hby d4_57) (by decide) (by decide) ?_
    show Go p e below t T266 m 24 #[rv ma, rv b243, iv (2 : Int32), rv pa, iv (3 : Int32), iv (2 : Int32), iv p1] []
    refine XS.iload X266.here hx rfl (hb hby d4_24) rfl ?_
    show Go p e below t T266 m 26 #[rv ma, rv b243, iv (2 : Int32), rv pa, iv (3 : Int32), iv (2 : Int32), iv p1] [(.int (2 : Int32))]
    refine XS.iload X266.here hx rfl (hb hby d4_26) rfl ?_
    show Go p e below t T266 m 28 #[rv ma, rv b243, iv (2 : Int32), rv pa, iv (3 : Int32), iv (2 : Int32), iv p1] [(.int (3 : Int32)), (.int (2 : Int32))]
    refine XS.icmpNo X266.here hx rfl (hb hby d4_28) rfl (XT.ii_ge_f (by decide)) ?_
    show Go p e below t T266 m 31 #[rv ma, rv b243, iv (2 : Int32), rv pa, iv (3 : Int32), iv (2 : Int32), iv p1] []
    refine XS.aloadN X266.here hx rfl (hb hby d4_31) rfl rfl ?_
    show Go p e below t T266 m 32 #[rv ma, rv b243, iv (2 : Int32), rv pa, iv (3 : Int32), iv (2 : Int32), iv p1] [(.ref pa)]
    refine XS.iload X266.here hx rfl (hb hby d4_32) rfl ?_
    show Go p e below t T266 m 34 #[rv ma, rv b243, iv (2 : Int32), rv pa, iv (3 : Int32), iv (2 : Int32), iv p1] [(.int (2 : Int32)), (.ref pa)]
    exact k)
  obtain ⟨cl269, Ar269, q269, S269, M269, H269, G269⟩ := id (((P2.ext E243).other W257 (Nat.ne_of_lt (Nat.lt_of_lt_of_le P2.lt (Nat.le_of_eq gb243.symm)))).other W266 (Nat.ne_of_lt (Nat.lt_of_lt_of_le P2.lt (Nat.le_of_eq gb243.symm))))
  have g270 : Goes p e below S0 (T266.setTop (mkF m 40 #[rv ma, rv b243, iv (2 : Int32), rv pa, iv (3 : Int32), iv (2 : Int32), iv p2] [(.ref ma), (.int p2)])) := fun t k => g268 t (by
    refine X266.iaload hx (j := (2 : Int32)) (v := (.int p2)) (by rw [e266]; exact Ar269.1) (State.isArrayOf_alike hZ.alike Ar269.2.1) Ar269.2.2 (inb_of S269 ⟨by decide, by decide⟩) (H269.at (inb_of S269 ⟨by decide, by decide⟩) rfl) (g := (mkF m 34 #[rv ma, rv b243, iv (2 : Int32), rv pa, iv (3 : Int32), iv (2 : Int32), iv p1] [(.int (2 : Int32)), (.ref pa)])) rfl rfl (hb hby d4_34) _ ?_
    show Go p e below t T266 m 35 #[rv ma, rv b243, iv (2 : Int32), rv pa, iv (3 : Int32), iv (2 : Int32), iv p1] [(.int p2)]
    refine XS.istore X266.here hx rfl (hb hby d4_35) rfl (l' := #[rv ma, rv b243, iv (2 : Int32), rv pa, iv (3 : Int32), iv (2 : Int32), iv p2]) rfl ?_
    show Go p e below t T266 m 37 #[rv ma, rv b243, iv (2 : Int32), rv pa, iv (3 : Int32), iv (2 : Int32), iv p2] []
    refine XS.iload X266.here hx rfl (hb hby d4_37) rfl ?_
    show Go p e below t T266 m 39 #[rv ma, rv b243, iv (2 : Int32), rv pa, iv (3 : Int32), iv (2 : Int32), iv p2] [(.int p2)]
    refine XS.aloadN X266.here hx rfl (hb hby d4_39) rfl rfl ?_
    show Go p e below t T266 m 40 #[rv ma, rv b243, iv (2 : Int32), rv pa, iv (3 : Int32), iv (2 : Int32), iv p2] [(.ref ma), (.int p2)]
    exact k)
  obtain ⟨T271, X271, e271, st271⟩ := getF X266 hx hZ hown (host := "") (Or.inl (hw _ (List.mem_of_getElem? (i := 21) rfl))) Via.refl e266 (((P1.ext E243).other W257 (Or.inl (Nat.ne_of_lt (Nat.lt_of_lt_of_le P0.lt (Nat.le_of_eq gb243.symm))))).other W266 (Or.inl (Nat.ne_of_lt (Nat.lt_of_lt_of_le P0.lt (Nat.le_of_eq gb243.symm))))) (g := (mkF m 40 #[rv ma, rv b243, iv (2 : Int32), rv pa, iv (3 : Int32), iv (2 : Int32), iv p2] [(.ref ma), (.int p2)])) rfl rfl (hb hby d4_40)
  have g272 : Goes p e below S0 (T271.setTop (mkF m 43 #[rv ma, rv b243, iv (2 : Int32), rv pa, iv (3 : Int32), iv (2 : Int32), iv p2] [(.int p2), (.int p2)])) := fun t k => g270 t (st271 t k)
  have g273 : Goes p e below S0 (T271.setTop (mkF m 61 #[rv ma, rv b243, iv (2 : Int32), rv pa, iv (3 : Int32), iv (3 : Int32), iv p2] [(.ref b243)])) := fun t k => g272 t (by
    refine XS.icmpYes X271.here hx rfl (pc0 := 43) (pc' := 54) rfl (hb hby d4_43) rfl (XT.ii_eq_t rfl) (by decide) (by decide) ?_
    show Go p e below t T271 m 54 #[rv ma, rv b243, iv (2 : Int32), rv pa, iv (3 : Int32), iv (2 : Int32), iv p2] []
    refine XT.iincV X271.here hx rfl (1 : Int32) (hb hby d4_54) (by decide) rfl (l' := #[rv ma, rv b243, iv (2 : Int32), rv pa, iv (3 : Int32), iv (3 : Int32), iv p2]) rfl ?_
    show Go p e below t T271 m 57 #[rv ma, rv b243, iv (2 : Int32), rv pa, iv (3 : Int32), iv (3 : Int32), iv p2] []
    refine XS.goto X271.here hx rfl (pc0 := 57) (pc' := 24) rfl (hb hby d4_57) (by decide) (by decide) ?_
    show Go p e below t T271 m 24 #[rv ma, rv b243, iv (2 : Int32), rv pa, iv (3 : Int32), iv (3 : Int32), iv p2] []
    refine XS.iload X271.here hx rfl (hb hby d4_24) rfl ?_
    show Go p e below t T271 m 26 #[rv ma, rv b243, iv (2 : Int32), rv pa, iv (3 : Int32), iv (3 : Int32), iv p2] [(.int (3 : Int32))]
    refine XS.iload X271.here hx rfl (hb hby d4_26) rfl ?_
    show Go p e below t T271 m 28 #[rv ma, rv b243, iv (2 : Int32), rv pa, iv (3 : Int32), iv (3 : Int32), iv p2] [(.int (3 : Int32)), (.int (3 : Int32))]
    refine XS.icmpYes X271.here hx rfl (pc0 := 28) (pc' := 60) rfl (hb hby d4_28) rfl (XT.ii_ge_t (by decide)) (by decide) (by decide) ?_
    show Go p e below t T271 m 60 #[rv ma, rv b243, iv (2 : Int32), rv pa, iv (3 : Int32), iv (3 : Int32), iv p2] []
    refine XS.aloadN X271.here hx rfl (hb hby d4_60) rfl rfl ?_
    show Go p e below t T271 m 61 #[rv ma, rv b243, iv (2 : Int32), rv pa, iv (3 : Int32), iv (3 : Int32), iv p2] [(.ref b243)]
    exact k)
  obtain ⟨fs, hr, hrun, hended, hW, hsame⟩ := X271.leave (v := some (.ref b243)) (fun h => by rw [Bd.returns] at h; cases h)
  refine ⟨_, _, g273 _ (retOut X271 hx Bd.returns rfl (Or.inr (Or.inr (Or.inr (Or.inr ⟨rfl, rfl, rfl⟩)))) (hb hby d4_61) hr), hrun, hended, _, _, rfl, ?_, ⟨_, rfl⟩, hW, hsame.mono (by decide) (by decide)⟩
  show Q_md32 Z ma pa pk p0 p1 p2 h0 n0 _ T271.heap _
  rw [e271]
  exact ⟨b243, k243, rfl, N266, ((((Keep.refl h0 []).ext E243).wr W257 (Or.inr sz243)).wr W266 (Or.inr sz243)), V266, sz243⟩
theorem pf_md40 : plainFor (⟨"com/example/aristotle/aristotle/EliminationPlan$Step", "made", "()[I"⟩ : MethodName) = true := by first | exact plainFor_of_name (by first | (simp [plainName, overriddenIn, x]; done) | decide +kernel) | exact Jvm.Free.JP.mathPlain rfl (by decide +kernel) | decide +kernel
theorem ef_md40 (m : MethodId) (ma : Addr) : entryFrame m #[(.ref ma)] 7 = mkF m 0 #[rv ma, .unset, .unset, .unset, .unset, .unset, .unset] [] := by first | (simp [entryFrame, mkF, argsToLocals, Value.category, maxLocals]; done) | rfl
def Q_md40 (Z : State) (ma : Addr) (pa : Addr) (pk : ClassId) (p0 : Int32) (p1 : Int32) (p2 : Int32) (p3 : Int32) (h0 : Heap) (n0 : Nat) (v : Option Value) (h : Heap) (L : List Loc) : Prop := ∃ (ra : Addr) (rk : ClassId), v = some (.ref ra) ∧ Fr n0 L ∧ (Keep h0 h []) ∧ (Arv Z h ra rk .int (3 : Int32) [(.int p1), (.int p2), (.int p3)] (.int (0 : Int32))) ∧ (h0.size ≤ ra)
set_option maxRecDepth 65536 in
set_option maxHeartbeats 40000000 in
theorem rm_md40 (l : Launch) (Z : State) (a0 : Array Value) (hw : ∀ d ∈ tables_1, d.before a0 Z = true) (ws : List Jvm.Cond) (ma : Addr) (pa : Addr) (pk : ClassId) (p0 : Int32) (p1 : Int32) (p2 : Int32) (p3 : Int32) (h0 : Heap) (n0 : Nat) (Z0 : n0 ≤ h0.size) (P0 : Fld Z h0 ma "com/example/aristotle/aristotle/EliminationPlan$Step" "product" "[I" (.ref pa)) (P1 : Fld Z h0 ma "com/example/aristotle/aristotle/EliminationPlan$Step" "variable" "I" (.int p0)) (P2 : Arv Z h0 pa pk .int (4 : Int32) [(.int p0), (.int p1), (.int p2), (.int p3)] (.int (0 : Int32))) (ne1 : ¬ (p1 = p0)) (ne2 : ¬ (p2 = p0)) (ne3 : ¬ (p3 = p0))  :
    MetFree l (⟨"com/example/aristotle/aristotle/EliminationPlan$Step", "made", "()[I"⟩ : MethodName) (head1 (Jvm.Cond.code (⟨"com/example/aristotle/aristotle/EliminationPlan$Step", "made", "()[I"⟩ : MethodName) prog_48_method_2_code 7 (some (.array .int)) :: ws) ({ frames := 0, cells := 1, slots := 3, locals := 0 } : Room)) (fun a U => a = #[(.ref ma)] ∧ Z.Warmed39 U.vm ∧ U.heap = h0) (fun _ _ _ _ _ => True) (fun _ U o U' => ∃ v L, o = .returned v ∧ Q_md40 Z ma pa pk p0 p1 p2 p3 h0 n0 v U'.heap L ∧ FrameEnd U o U' L ({ frames := 0, cells := 1, slots := 3, locals := 0 } : Room).cells ({ frames := 0, cells := 1, slots := 3, locals := 0 } : Room).slots) := by
  refine MetFree.of_bodySF pf_md40 hisR ?_
  intro p e s m args below meth c s₁ Bd hml0 hP hK
  obtain ⟨rfl, hZ, hh⟩ := hP
  have hx := Bd.exec
  have hby := Bd.bytes
  have hml : c.maxLocals = 7 := hml0
  have hown : s.vm.findClass "com/example/aristotle/aristotle/EliminationPlan$Step" = some m.cls := findClass_of_methodNamed Bd.named
  have hnm := (name_of_methodNamed Bd.named Bd.method).1
  have X0 : Stand p l e ({ frames := 0, cells := 1, slots := 3, locals := 0 } : Room) s m #[(.ref ma)] below meth c s₁ [] 0 0 := Stand.of_body Bd
  have e0 : s₁.heap = h0 := by rw [← hh, Bd.state]; rfl
  have N0 := Fr.nil n0
  obtain ⟨S0, hS0⟩ : ∃ z, z = s₁.setTop (entryFrame m #[(.ref ma)] 7) := ⟨_, rfl⟩
  rw [← hS0]
  have g0 : Goes p e below S0 (s₁.setTop (mkF m 0 #[rv ma, .unset, .unset, .unset, .unset, .unset, .unset] [])) := fun t k => by rw [hS0]; exact castTop (ef_md40 m ma) k
  have g274 : Goes p e below S0 (s₁.setTop (mkF m 1 #[rv ma, .unset, .unset, .unset, .unset, .unset, .unset] [(.ref ma)])) := fun t k => g0 t (by
    refine XS.aloadN X0.here hx rfl (hb hby d4_0) rfl rfl ?_
    show Go p e below t s₁ m 1 #[rv ma, .unset, .unset, .unset, .unset, .unset, .unset] [(.ref ma)]
    exact k)
  obtain ⟨T275, X275, e275, st275⟩ := getF X0 hx hZ hown (host := "") (Or.inl (hw _ (List.mem_of_getElem? (i := 25) rfl))) Via.refl e0 P0 (g := (mkF m 1 #[rv ma, .unset, .unset, .unset, .unset, .unset, .unset] [(.ref ma)])) rfl rfl (hb hby d4_1)
  have g276 : Goes p e below S0 (T275.setTop (mkF m 4 #[rv ma, .unset, .unset, .unset, .unset, .unset, .unset] [(.ref pa)])) := fun t k => g274 t (st275 t k)
  obtain ⟨cl277, Ar277, q277, S277, M277, H277, G277⟩ := id P2
  have g278 : Goes p e below S0 (T275.setTop (mkF m 7 #[rv ma, .unset, .unset, .unset, .unset, .unset, .unset] [(.int (3 : Int32))])) := fun t k => g276 t (by
    refine X275.arraylength hx (by rw [e275]; exact Ar277.1) (State.isArrayOf_alike hZ.alike Ar277.2.1) (g := (mkF m 4 #[rv ma, .unset, .unset, .unset, .unset, .unset, .unset] [(.ref pa)])) rfl rfl (hb hby d4_4) _ ?_
    rw [len_of S277 M277]
    show Go p e below t T275 m 5 #[rv ma, .unset, .unset, .unset, .unset, .unset, .unset] [(.int (4 : Int32))]
    refine XT.iconstV X275.here hx rfl (1 : Int32) (hb hby d4_5) (by decide) ?_
    show Go p e below t T275 m 6 #[rv ma, .unset, .unset, .unset, .unset, .unset, .unset] [(.int (1 : Int32)), (.int (4 : Int32))]
    refine XS.isub X275.here hx rfl (hb hby d4_6) rfl ?_
    rw [show ((4 : Int32) - (1 : Int32)) = (3 : Int32) by decide]
    show Go p e below t T275 m 7 #[rv ma, .unset, .unset, .unset, .unset, .unset, .unset] [(.int (3 : Int32))]
    exact k)
  obtain ⟨T279, h279, k279, X279, e279, E279, A279, st279⟩ := newP X275 hx hZ (hw _ (List.mem_of_getElem? (i := 1) rfl)) e275 (g := (mkF m 7 #[rv ma, .unset, .unset, .unset, .unset, .unset, .unset] [(.int (3 : Int32))])) rfl (hb hby d4_7) rfl (by decide) (cap := 3) (by decide) (by decide) (by decide) (by decide)
  obtain ⟨b279, gb279⟩ : ∃ z, z = h0.size := ⟨_, rfl⟩
  have sz279 : h0.size ≤ b279 := Nat.le_trans (Nat.le_refl _) (Nat.le_of_eq gb279.symm)
  have ng279 : n0 ≤ b279 := Nat.le_trans Z0 sz279
  rw [← gb279] at A279 st279
  have V279 : Arv Z h279 b279 k279 .int (3 : Int32) [(.int (0 : Int32)), (.int (0 : Int32)), (.int (0 : Int32))] (.int (0 : Int32)) := (Arv.new A279 (by decide)).pad (pad_rep [] (.int (0 : Int32)) 3)
  have g280 : Goes p e below S0 (T279.setTop (mkF m 9 #[rv ma, .unset, .unset, .unset, .unset, .unset, .unset] [(.ref b279)])) := fun t k => g278 t (st279 t k)
  have g281 : Goes p e below S0 (T279.setTop (mkF m 13 #[rv ma, rv b279, iv (0 : Int32), .unset, .unset, .unset, .unset] [(.ref ma)])) := fun t k => g280 t (by
    refine XS.astoreN X279.here hx rfl (hb hby d4_9) rfl rfl (l' := #[rv ma, rv b279, .unset, .unset, .unset, .unset, .unset]) rfl ?_
    show Go p e below t T279 m 10 #[rv ma, rv b279, .unset, .unset, .unset, .unset, .unset] []
    refine XT.iconstV X279.here hx rfl (0 : Int32) (hb hby d4_10) (by decide) ?_
    show Go p e below t T279 m 11 #[rv ma, rv b279, .unset, .unset, .unset, .unset, .unset] [(.int (0 : Int32))]
    refine XS.istoreN X279.here hx rfl (hb hby d4_11) rfl (l' := #[rv ma, rv b279, iv (0 : Int32), .unset, .unset, .unset, .unset]) rfl ?_
    show Go p e below t T279 m 12 #[rv ma, rv b279, iv (0 : Int32), .unset, .unset, .unset, .unset] []
    refine XS.aloadN X279.here hx rfl (hb hby d4_12) rfl rfl ?_
    show Go p e below t T279 m 13 #[rv ma, rv b279, iv (0 : Int32), .unset, .unset, .unset, .unset] [(.ref ma)]
    exact k)
  obtain ⟨T282, X282, e282, st282⟩ := getF X279 hx hZ hown (host := "") (Or.inl (hw _ (List.mem_of_getElem? (i := 25) rfl))) Via.refl e279 (P0.ext E279) (g := (mkF m 13 #[rv ma, rv b279, iv (0 : Int32), .unset, .unset, .unset, .unset] [(.ref ma)])) rfl rfl (hb hby d4_13)
  have g283 : Goes p e below S0 (T282.setTop (mkF m 16 #[rv ma, rv b279, iv (0 : Int32), .unset, .unset, .unset, .unset] [(.ref pa)])) := fun t k => g281 t (st282 t k)
  have g284 : Goes p e below S0 (T282.setTop (mkF m 18 #[rv ma, rv b279, iv (0 : Int32), rv pa, .unset, .unset, .unset] [(.ref pa)])) := fun t k => g283 t (by
    refine XS.astoreN X282.here hx rfl (hb hby d4_16) rfl rfl (l' := #[rv ma, rv b279, iv (0 : Int32), rv pa, .unset, .unset, .unset]) rfl ?_
    show Go p e below t T282 m 17 #[rv ma, rv b279, iv (0 : Int32), rv pa, .unset, .unset, .unset] []
    refine XS.aloadN X282.here hx rfl (hb hby d4_17) rfl rfl ?_
    show Go p e below t T282 m 18 #[rv ma, rv b279, iv (0 : Int32), rv pa, .unset, .unset, .unset] [(.ref pa)]
    exact k)
  obtain ⟨cl285, Ar285, q285, S285, M285, H285, G285⟩ := id (P2.ext E279)
  have g286 : Goes p e below S0 (T282.setTop (mkF m 34 #[rv ma, rv b279, iv (0 : Int32), rv pa, iv (4 : Int32), iv (0 : Int32), .unset] [(.int (0 : Int32)), (.ref pa)])) := fun t k => g284 t (by
    refine X282.arraylength hx (by rw [e282]; exact Ar285.1) (State.isArrayOf_alike hZ.alike Ar285.2.1) (g := (mkF m 18 #[rv ma, rv b279, iv (0 : Int32), rv pa, .unset, .unset, .unset] [(.ref pa)])) rfl rfl (hb hby d4_18) _ ?_
    rw [len_of S285 M285]
    show Go p e below t T282 m 19 #[rv ma, rv b279, iv (0 : Int32), rv pa, .unset, .unset, .unset] [(.int (4 : Int32))]
    refine XS.istore X282.here hx rfl (hb hby d4_19) rfl (l' := #[rv ma, rv b279, iv (0 : Int32), rv pa, iv (4 : Int32), .unset, .unset]) rfl ?_
    show Go p e below t T282 m 21 #[rv ma, rv b279, iv (0 : Int32), rv pa, iv (4 : Int32), .unset, .unset] []
    refine XT.iconstV X282.here hx rfl (0 : Int32) (hb hby d4_21) (by decide) ?_
    show Go p e below t T282 m 22 #[rv ma, rv b279, iv (0 : Int32), rv pa, iv (4 : Int32), .unset, .unset] [(.int (0 : Int32))]
    refine XS.istore X282.here hx rfl (hb hby d4_22) rfl (l' := #[rv ma, rv b279, iv (0 : Int32), rv pa, iv (4 : Int32), iv (0 : Int32), .unset]) rfl ?_
    show Go p e below t T282 m 24 #[rv ma, rv b279, iv (0 : Int32), rv pa, iv (4 : Int32), iv (0 : Int32), .unset] []
    refine XS.iload X282.here hx rfl (hb hby d4_24) rfl ?_
    show Go p e below t T282 m 26 #[rv ma, rv b279, iv (0 : Int32), rv pa, iv (4 : Int32), iv (0 : Int32), .unset] [(.int (0 : Int32))]
    refine XS.iload X282.here hx rfl (hb hby d4_26) rfl ?_
    show Go p e below t T282 m 28 #[rv ma, rv b279, iv (0 : Int32), rv pa, iv (4 : Int32), iv (0 : Int32), .unset] [(.int (4 : Int32)), (.int (0 : Int32))]
    refine XS.icmpNo X282.here hx rfl (hb hby d4_28) rfl (XT.ii_ge_f (by decide)) ?_
    show Go p e below t T282 m 31 #[rv ma, rv b279, iv (0 : Int32), rv pa, iv (4 : Int32), iv (0 : Int32), .unset] []
    refine XS.aloadN X282.here hx rfl (hb hby d4_31) rfl rfl ?_
    show Go p e below t T282 m 32 #[rv ma, rv b279, iv (0 : Int32), rv pa, iv (4 : Int32), iv (0 : Int32), .unset] [(.ref pa)]
    refine XS.iload X282.here hx rfl (hb hby d4_32) rfl ?_
    show Go p e below t T282 m 34 #[rv ma, rv b279, iv (0 : Int32), rv pa, iv (4 : Int32), iv (0 : Int32), .unset] [(.int (0 : Int32)), (.ref pa)]
    exact k)
  obtain ⟨cl287, Ar287, q287, S287, M287, H287, G287⟩ := id (P2.ext E279)
  have g288 : Goes p e below S0 (T282.setTop (mkF m 40 #[rv ma, rv b279, iv (0 : Int32), rv pa, iv (4 : Int32), iv (0 : Int32), iv p0] [(.ref ma), (.int p0)])) := fun t k => g286 t (by
    refine X282.iaload hx (j := (0 : Int32)) (v := (.int p0)) (by rw [e282]; exact Ar287.1) (State.isArrayOf_alike hZ.alike Ar287.2.1) Ar287.2.2 (inb_of S287 ⟨by decide, by decide⟩) (H287.at (inb_of S287 ⟨by decide, by decide⟩) rfl) (g := (mkF m 34 #[rv ma, rv b279, iv (0 : Int32), rv pa, iv (4 : Int32), iv (0 : Int32), .unset] [(.int (0 : Int32)), (.ref pa)])) rfl rfl (hb hby d4_34) _ ?_
    show Go p e below t T282 m 35 #[rv ma, rv b279, iv (0 : Int32), rv pa, iv (4 : Int32), iv (0 : Int32), .unset] [(.int p0)]
    refine XS.istore X282.here hx rfl (hb hby d4_35) rfl (l' := #[rv ma, rv b279, iv (0 : Int32), rv pa, iv (4 : Int32), iv (0 : Int32), iv p0]) rfl ?_
    show Go p e below t T282 m 37 #[rv ma, rv b279, iv (0 : Int32), rv pa, iv (4 : Int32), iv (0 : Int32), iv p0] []
    refine XS.iload X282.here hx rfl (hb hby d4_37) rfl ?_
    show Go p e below t T282 m 39 #[rv ma, rv b279, iv (0 : Int32), rv pa, iv (4 : Int32), iv (0 : Int32), iv p0] [(.int p0)]
    refine XS.aloadN X282.here hx rfl (hb hby d4_39) rfl rfl ?_
    show Go p e below t T282 m 40 #[rv ma, rv b279, iv (0 : Int32), rv pa, iv (4 : Int32), iv (0 : Int32), iv p0] [(.ref ma), (.int p0)]
    exact k)
  obtain ⟨T289, X289, e289, st289⟩ := getF X282 hx hZ hown (host := "") (Or.inl (hw _ (List.mem_of_getElem? (i := 21) rfl))) Via.refl e282 (P1.ext E279) (g := (mkF m 40 #[rv ma, rv b279, iv (0 : Int32), rv pa, iv (4 : Int32), iv (0 : Int32), iv p0] [(.ref ma), (.int p0)])) rfl rfl (hb hby d4_40)
  have g290 : Goes p e below S0 (T289.setTop (mkF m 43 #[rv ma, rv b279, iv (0 : Int32), rv pa, iv (4 : Int32), iv (0 : Int32), iv p0] [(.int p0), (.int p0)])) := fun t k => g288 t (st289 t k)
  have g291 : Goes p e below S0 (T289.setTop (mkF m 34 #[rv ma, rv b279, iv (0 : Int32), rv pa, iv (4 : Int32), iv (1 : Int32), iv p0] [(.int (1 : Int32)), (.ref pa)])) := fun t k => g290 t (by
    refine XS.icmpYes X289.here hx rfl (pc0 := 43) (pc' := 54) rfl (hb hby d4_43) rfl (XT.ii_eq_t rfl) (by decide) (by decide) ?_
    show Go p e below t T289 m 54 #[rv ma, rv b279, iv (0 : Int32), rv pa, iv (4 : Int32), iv (0 : Int32), iv p0] []
    refine XT.iincV X289.here hx rfl (1 : Int32) (hb hby d4_54) (by decide) rfl (l' := #[rv ma, rv b279, iv (0 : Int32), rv pa, iv (4 : Int32), iv (1 : Int32), iv p0]) rfl ?_
    show Go p e below t T289 m 57 #[rv ma, rv b279, iv (0 : Int32), rv pa, iv (4 : Int32), iv (1 : Int32), iv p0] []
    refine XS.goto X289.here hx rfl (pc0 := 57) (pc' := 24) rfl (hb hby d4_57) (by decide) (by decide) ?_
    show Go p e below t T289 m 24 #[rv ma, rv b279, iv (0 : Int32), rv pa, iv (4 : Int32), iv (1 : Int32), iv p0] []
    refine XS.iload X289.here hx rfl (hb hby d4_24) rfl ?_
    show Go p e below t T289 m 26 #[rv ma, rv b279, iv (0 : Int32), rv pa, iv (4 : Int32), iv (1 : Int32), iv p0] [(.int (1 : Int32))]
    refine XS.iload X289.here hx rfl (hb hby d4_26) rfl ?_
    show Go p e below t T289 m 28 #[rv ma, rv b279, iv (0 : Int32), rv pa, iv (4 : Int32), iv (1 : Int32), iv p0] [(.int (4 : Int32)), (.int (1 : Int32))]
    refine XS.icmpNo X289.here hx rfl (hb hby d4_28) rfl (XT.ii_ge_f (by decide)) ?_
    show Go p e below t T289 m 31 #[rv ma, rv b279, iv (0 : Int32), rv pa, iv (4 : Int32), iv (1 : Int32), iv p0] []
    refine XS.aloadN X289.here hx rfl (hb hby d4_31) rfl rfl ?_
    show Go p e below t T289 m 32 #[rv ma, rv b279, iv (0 : Int32), rv pa, iv (4 : Int32), iv (1 : Int32), iv p0] [(.ref pa)]
    refine XS.iload X289.here hx rfl (hb hby d4_32) rfl ?_
    show Go p e below t T289 m 34 #[rv ma, rv b279, iv (0 : Int32), rv pa, iv (4 : Int32), iv (1 : Int32), iv p0] [(.int (1 : Int32)), (.ref pa)]
    exact k)
  obtain ⟨cl292, Ar292, q292, S292, M292, H292, G292⟩ := id (P2.ext E279)
  have g293 : Goes p e below S0 (T289.setTop (mkF m 40 #[rv ma, rv b279, iv (0 : Int32), rv pa, iv (4 : Int32), iv (1 : Int32), iv p1] [(.ref ma), (.int p1)])) := fun t k => g291 t (by
    refine X289.iaload hx (j := (1 : Int32)) (v := (.int p1)) (by rw [e289]; exact Ar292.1) (State.isArrayOf_alike hZ.alike Ar292.2.1) Ar292.2.2 (inb_of S292 ⟨by decide, by decide⟩) (H292.at (inb_of S292 ⟨by decide, by decide⟩) rfl) (g := (mkF m 34 #[rv ma, rv b279, iv (0 : Int32), rv pa, iv (4 : Int32), iv (1 : Int32), iv p0] [(.int (1 : Int32)), (.ref pa)])) rfl rfl (hb hby d4_34) _ ?_
    show Go p e below t T289 m 35 #[rv ma, rv b279, iv (0 : Int32), rv pa, iv (4 : Int32), iv (1 : Int32), iv p0] [(.int p1)]
    refine XS.istore X289.here hx rfl (hb hby d4_35) rfl (l' := #[rv ma, rv b279, iv (0 : Int32), rv pa, iv (4 : Int32), iv (1 : Int32), iv p1]) rfl ?_
    show Go p e below t T289 m 37 #[rv ma, rv b279, iv (0 : Int32), rv pa, iv (4 : Int32), iv (1 : Int32), iv p1] []
    refine XS.iload X289.here hx rfl (hb hby d4_37) rfl ?_
    show Go p e below t T289 m 39 #[rv ma, rv b279, iv (0 : Int32), rv pa, iv (4 : Int32), iv (1 : Int32), iv p1] [(.int p1)]
    refine XS.aloadN X289.here hx rfl (hb hby d4_39) rfl rfl ?_
    show Go p e below t T289 m 40 #[rv ma, rv b279, iv (0 : Int32), rv pa, iv (4 : Int32), iv (1 : Int32), iv p1] [(.ref ma), (.int p1)]
    exact k)
  obtain ⟨T294, X294, e294, st294⟩ := getF X289 hx hZ hown (host := "") (Or.inl (hw _ (List.mem_of_getElem? (i := 21) rfl))) Via.refl e289 (P1.ext E279) (g := (mkF m 40 #[rv ma, rv b279, iv (0 : Int32), rv pa, iv (4 : Int32), iv (1 : Int32), iv p1] [(.ref ma), (.int p1)])) rfl rfl (hb hby d4_40)
  have g295 : Goes p e below S0 (T294.setTop (mkF m 43 #[rv ma, rv b279, iv (0 : Int32), rv pa, iv (4 : Int32), iv (1 : Int32), iv p1] [(.int p0), (.int p1)])) := fun t k => g293 t (st294 t k)
  have g296 : Goes p e below S0 (T294.setTop (mkF m 53 #[rv ma, rv b279, iv (1 : Int32), rv pa, iv (4 : Int32), iv (1 : Int32), iv p1] [(.int p1), (.int (0 : Int32)), (.ref b279)])) := fun t k => g295 t (by
    refine XS.icmpNo X294.here hx rfl (hb hby d4_43) rfl (XT.ii_eq_f ne1) ?_
    show Go p e below t T294 m 46 #[rv ma, rv b279, iv (0 : Int32), rv pa, iv (4 : Int32), iv (1 : Int32), iv p1] []
    refine XS.aloadN X294.here hx rfl (hb hby d4_46) rfl rfl ?_
    show Go p e below t T294 m 47 #[rv ma, rv b279, iv (0 : Int32), rv pa, iv (4 : Int32), iv (1 : Int32), iv p1] [(.ref b279)]
    refine XS.iloadN X294.here hx rfl (hb hby d4_47) rfl ?_
    show Go p e below t T294 m 48 #[rv ma, rv b279, iv (0 : Int32), rv pa, iv (4 : Int32), iv (1 : Int32), iv p1] [(.int (0 : Int32)), (.ref b279)]
    refine XT.iincV X294.here hx rfl (1 : Int32) (hb hby d4_48) (by decide) rfl (l' := #[rv ma, rv b279, iv (1 : Int32), rv pa, iv (4 : Int32), iv (1 : Int32), iv p1]) rfl ?_
    show Go p e below t T294 m 51 #[rv ma, rv b279, iv (1 : Int32), rv pa, iv (4 : Int32), iv (1 : Int32), iv p1] [(.int (0 : Int32)), (.ref b279)]
    refine XS.iload X294.here hx rfl (hb hby d4_51) rfl ?_
    show Go p e below t T294 m 53 #[rv ma, rv b279, iv (1 : Int32), rv pa, iv (4 : Int32), iv (1 : Int32), iv p1] [(.int p1), (.int (0 : Int32)), (.ref b279)]
    exact k)
  obtain ⟨cl297, Ar297, q297, S297, M297, H297, G297⟩ := id V279
  obtain ⟨T298, h298, X298, e298, W298, st298⟩ := stI X294 hx hZ e294 Ar297 (j := (0 : Int32)) (inb_of S297 ⟨by decide, by decide⟩) (g := (mkF m 53 #[rv ma, rv b279, iv (1 : Int32), rv pa, iv (4 : Int32), iv (1 : Int32), iv p1] [(.int p1), (.int (0 : Int32)), (.ref b279)])) rfl rfl (hb hby d4_53)
  have N298 := Fr.snoc X298 N0 ng279
  have V298 : Arv Z h298 b279 k279 .int (3 : Int32) [(.int p1), (.int (0 : Int32)), (.int (0 : Int32))] (.int (0 : Int32)) := Arv.set Ar297 q297 S297 M297 H297 G297 rfl W298 0 rfl (Nat.le_of_ble_eq_true rfl)
  have g299 : Goes p e below S0 (T298.setTop (mkF m 54 #[rv ma, rv b279, iv (1 : Int32), rv pa, iv (4 : Int32), iv (1 : Int32), iv p1] [])) := fun t k => g296 t (st298 t k)
  have g300 : Goes p e below S0 (T298.setTop (mkF m 34 #[rv ma, rv b279, iv (1 : Int32), rv pa, iv (4 : Int32), iv (2 : Int32), iv p1] [(.int (2 : Int32)), (.ref pa)])) := fun t k => g299 t (by
    refine XT.iincV X298.here hx rfl (1 : Int32) (hb hby d4_54) (by decide) rfl (l' := #[rv ma, rv b279, iv (1 : Int32), rv pa, iv (4 : Int32), iv (2 : Int32), iv p1]) rfl ?_
    show Go p e below t T298 m 57 #[rv ma, rv b279, iv (1 : Int32), rv pa, iv (4 : Int32), iv (2 : Int32), iv p1] []
    refine XS.goto X298.here hx rfl (pc0 := 57) (pc' := 24) rfl (hb hby d4_57) (by decide) (by decide) ?_
    show Go p e below t T298 m 24 #[rv ma, rv b279, iv (1 : Int32), rv pa, iv (4 : Int32), iv (2 : Int32), iv p1] []
    refine XS.iload X298.here hx rfl (hb hby d4_24) rfl ?_
    show Go p e below t T298 m 26 #[rv ma, rv b279, iv (1 : Int32), rv pa, iv (4 : Int32), iv (2 : Int32), iv p1] [(.int (2 : Int32))]
    refine XS.iload X298.here hx rfl (hb hby d4_26) rfl ?_
    show Go p e below t T298 m 28 #[rv ma, rv b279, iv (1 : Int32), rv pa, iv (4 : Int32), iv (2 : Int32), iv p1] [(.int (4 : Int32)), (.int (2 : Int32))]
    refine XS.icmpNo X298.here hx rfl (hb hby d4_28) rfl (XT.ii_ge_f (by decide)) ?_
    show Go p e below t T298 m 31 #[rv ma, rv b279, iv (1 : Int32), rv pa, iv (4 : Int32), iv (2 : Int32), iv p1] []
    refine XS.aloadN X298.here hx rfl (hb hby d4_31) rfl rfl ?_
    show Go p e below t T298 m 32 #[rv ma, rv b279, iv (1 : Int32), rv pa, iv (4 : Int32), iv (2 : Int32), iv p1] [(.ref pa)]
    refine XS.iload X298.here hx rfl (hb hby d4_32) rfl ?_
    show Go p e below t T298 m 34 #[rv ma, rv b279, iv (1 : Int32), rv pa, iv (4 : Int32), iv (2 : Int32), iv p1] [(.int (2 : Int32)), (.ref pa)]
    exact k)
  obtain ⟨cl301, Ar301, q301, S301, M301, H301, G301⟩ := id ((P2.ext E279).other W298 (Nat.ne_of_lt (Nat.lt_of_lt_of_le P2.lt (Nat.le_of_eq gb279.symm))))
  have g302 : Goes p e below S0 (T298.setTop (mkF m 40 #[rv ma, rv b279, iv (1 : Int32), rv pa, iv (4 : Int32), iv (2 : Int32), iv p2] [(.ref ma), (.int p2)])) := fun t k => g300 t (by
    refine X298.iaload hx (j := (2 : Int32)) (v := (.int p2)) (by rw [e298]; exact Ar301.1) (State.isArrayOf_alike hZ.alike Ar301.2.1) Ar301.2.2 (inb_of S301 ⟨by decide, by decide⟩) (H301.at (inb_of S301 ⟨by decide, by decide⟩) rfl) (g := (mkF m 34 #[rv ma, rv b279, iv (1 : Int32), rv pa, iv (4 : Int32), iv (2 : Int32), iv p1] [(.int (2 : Int32)), (.ref pa)])) rfl rfl (hb hby d4_34) _ ?_
    show Go p e below t T298 m 35 #[rv ma, rv b279, iv (1 : Int32), rv pa, iv (4 : Int32), iv (2 : Int32), iv p1] [(.int p2)]
    refine XS.istore X298.here hx rfl (hb hby d4_35) rfl (l' := #[rv ma, rv b279, iv (1 : Int32), rv pa, iv (4 : Int32), iv (2 : Int32), iv p2]) rfl ?_
    show Go p e below t T298 m 37 #[rv ma, rv b279, iv (1 : Int32), rv pa, iv (4 : Int32), iv (2 : Int32), iv p2] []
    refine XS.iload X298.here hx rfl (hb hby d4_37) rfl ?_
    show Go p e below t T298 m 39 #[rv ma, rv b279, iv (1 : Int32), rv pa, iv (4 : Int32), iv (2 : Int32), iv p2] [(.int p2)]
    refine XS.aloadN X298.here hx rfl (hb hby d4_39) rfl rfl ?_
    show Go p e below t T298 m 40 #[rv ma, rv b279, iv (1 : Int32), rv pa, iv (4 : Int32), iv (2 : Int32), iv p2] [(.ref ma), (.int p2)]
    exact k)
  obtain ⟨T303, X303, e303, st303⟩ := getF X298 hx hZ hown (host := "") (Or.inl (hw _ (List.mem_of_getElem? (i := 21) rfl))) Via.refl e298 ((P1.ext E279).other W298 (Or.inl (Nat.ne_of_lt (Nat.lt_of_lt_of_le P0.lt (Nat.le_of_eq gb279.symm))))) (g := (mkF m 40 #[rv ma, rv b279, iv (1 : Int32), rv pa, iv (4 : Int32), iv (2 : Int32), iv p2] [(.ref ma), (.int p2)])) rfl rfl (hb hby d4_40)
  have g304 : Goes p e below S0 (T303.setTop (mkF m 43 #[rv ma, rv b279, iv (1 : Int32), rv pa, iv (4 : Int32), iv (2 : Int32), iv p2] [(.int p0), (.int p2)])) := fun t k => g302 t (st303 t k)
  have g305 : Goes p e below S0 (T303.setTop (mkF m 53 #[rv ma, rv b279, iv (2 : Int32), rv pa, iv (4 : Int32), iv (2 : Int32), iv p2] [(.int p2), (.int (1 : Int32)), (.ref b279)])) := fun t k => g304 t (by
    refine XS.icmpNo X303.here hx rfl (hb hby d4_43) rfl (XT.ii_eq_f ne2) ?_
    show Go p e below t T303 m 46 #[rv ma, rv b279, iv (1 : Int32), rv pa, iv (4 : Int32), iv (2 : Int32), iv p2] []
    refine XS.aloadN X303.here hx rfl (hb hby d4_46) rfl rfl ?_
    show Go p e below t T303 m 47 #[rv ma, rv b279, iv (1 : Int32), rv pa, iv (4 : Int32), iv (2 : Int32), iv p2] [(.ref b279)]
    refine XS.iloadN X303.here hx rfl (hb hby d4_47) rfl ?_
    show Go p e below t T303 m 48 #[rv ma, rv b279, iv (1 : Int32), rv pa, iv (4 : Int32), iv (2 : Int32), iv p2] [(.int (1 : Int32)), (.ref b279)]
    refine XT.iincV X303.here hx rfl (1 : Int32) (hb hby d4_48) (by decide) rfl (l' := #[rv ma, rv b279, iv (2 : Int32), rv pa, iv (4 : Int32), iv (2 : Int32), iv p2]) rfl ?_
    show Go p e below t T303 m 51 #[rv ma, rv b279, iv (2 : Int32), rv pa, iv (4 : Int32), iv (2 : Int32), iv p2] [(.int (1 : Int32)), (.ref b279)]
    refine XS.iload X303.here hx rfl (hb hby d4_51) rfl ?_
    show Go p e below t T303 m 53 #[rv ma, rv b279, iv (2 : Int32), rv pa, iv (4 : Int32), iv (2 : Int32), iv p2] [(.int p2), (.int (1 : Int32)), (.ref b279)]
    exact k)
  obtain ⟨cl306, Ar306, q306, S306, M306, H306, G306⟩ := id V298
  obtain ⟨T307, h307, X307, e307, W307, st307⟩ := stI X303 hx hZ e303 Ar306 (j := (1 : Int32)) (inb_of S306 ⟨by decide, by decide⟩) (g := (mkF m 53 #[rv ma, rv b279, iv (2 : Int32), rv pa, iv (4 : Int32), iv (2 : Int32), iv p2] [(.int p2), (.int (1 : Int32)), (.ref b279)])) rfl rfl (hb hby d4_53)
  have N307 := Fr.snoc X307 N298 ng279
  have V307 : Arv Z h307 b279 k279 .int (3 : Int32) [(.int p1), (.int p2), (.int (0 : Int32))] (.int (0 : Int32)) := Arv.set Ar306 q306 S306 M306 H306 G306 rfl W307 1 rfl (Nat.le_of_ble_eq_true rfl)
  have g308 : Goes p e below S0 (T307.setTop (mkF m 54 #[rv ma, rv b279, iv (2 : Int32), rv pa, iv (4 : Int32), iv (2 : Int32), iv p2] [])) := fun t k => g305 t (st307 t k)
  have g309 : Goes p e below S0 (T307.setTop (mkF m 34 #[rv ma, rv b279, iv (2 : Int32), rv pa, iv (4 : Int32), iv (3 : Int32), iv p2] [(.int (3 : Int32)), (.ref pa)])) := fun t k => g308 t (by
    refine XT.iincV X307.here hx rfl (1 : Int32) (hb hby d4_54) (by decide) rfl (l' := #[rv ma, rv b279, iv (2 : Int32), rv pa, iv (4 : Int32), iv (3 : Int32), iv p2]) rfl ?_
    show Go p e below t T307 m 57 #[rv ma, rv b279, iv (2 : Int32), rv pa, iv (4 : Int32), iv (3 : Int32), iv p2] []
    refine XS.goto X307.here hx rfl (pc0 := 57) (pc' := 24) rfl (hb hby d4_57) (by decide) (by decide) ?_
    show Go p e below t T307 m 24 #[rv ma, rv b279, iv (2 : Int32), rv pa, iv (4 : Int32), iv (3 : Int32), iv p2] []
    refine XS.iload X307.here hx rfl (hb hby d4_24) rfl ?_
    show Go p e below t T307 m 26 #[rv ma, rv b279, iv (2 : Int32), rv pa, iv (4 : Int32), iv (3 : Int32), iv p2] [(.int (3 : Int32))]
    refine XS.iload X307.here hx rfl (hb hby d4_26) rfl ?_
    show Go p e below t T307 m 28 #[rv ma, rv b279, iv (2 : Int32), rv pa, iv (4 : Int32), iv (3 : Int32), iv p2] [(.int (4 : Int32)), (.int (3 : Int32))]
    refine XS.icmpNo X307.here hx rfl (hb hby d4_28) rfl (XT.ii_ge_f (by decide)) ?_
    show Go p e below t T307 m 31 #[rv ma, rv b279, iv (2 : Int32), rv pa, iv (4 : Int32), iv (3 : Int32), iv p2] []
    refine XS.aloadN X307.here hx rfl (hb hby d4_31) rfl rfl ?_
    show Go p e below t T307 m 32 #[rv ma, rv b279, iv (2 : Int32), rv pa, iv (4 : Int32), iv (3 : Int32), iv p2] [(.ref pa)]
    refine XS.iload X307.here hx rfl (hb hby d4_32) rfl ?_
    show Go p e below t T307 m 34 #[rv ma, rv b279, iv (2 : Int32), rv pa, iv (4 : Int32), iv (3 : Int32), iv p2] [(.int (3 : Int32)), (.ref pa)]
    exact k)
  obtain ⟨cl310, Ar310, q310, S310, M310, H310, G310⟩ := id (((P2.ext E279).other W298 (Nat.ne_of_lt (Nat.lt_of_lt_of_le P2.lt (Nat.le_of_eq gb279.symm)))).other W307 (Nat.ne_of_lt (Nat.lt_of_lt_of_le P2.lt (Nat.le_of_eq gb279.symm))))
  have g311 : Goes p e below S0 (T307.setTop (mkF m 40 #[rv ma, rv b279, iv (2 : Int32), rv pa, iv (4 : Int32), iv (3 : Int32), iv p3] [(.ref ma), (.int p3)])) := fun t k => g309 t (by
    refine X307.iaload hx (j := (3 : Int32)) (v := (.int p3)) (by rw [e307]; exact Ar310.1) (State.isArrayOf_alike hZ.alike Ar310.2.1) Ar310.2.2 (inb_of S310 ⟨by decide, by decide⟩) (H310.at (inb_of S310 ⟨by decide, by decide⟩) rfl) (g := (mkF m 34 #[rv ma, rv b279, iv (2 : Int32), rv pa, iv (4 : Int32), iv (3 : Int32), iv p2] [(.int (3 : Int32)), (.ref pa)])) rfl rfl (hb hby d4_34) _ ?_
    show Go p e below t T307 m 35 #[rv ma, rv b279, iv (2 : Int32), rv pa, iv (4 : Int32), iv (3 : Int32), iv p2] [(.int p3)]
    refine XS.istore X307.here hx rfl (hb hby d4_35) rfl (l' := #[rv ma, rv b279, iv (2 : Int32), rv pa, iv (4 : Int32), iv (3 : Int32), iv p3]) rfl ?_
    show Go p e below t T307 m 37 #[rv ma, rv b279, iv (2 : Int32), rv pa, iv (4 : Int32), iv (3 : Int32), iv p3] []
    refine XS.iload X307.here hx rfl (hb hby d4_37) rfl ?_
    show Go p e below t T307 m 39 #[rv ma, rv b279, iv (2 : Int32), rv pa, iv (4 : Int32), iv (3 : Int32), iv p3] [(.int p3)]
    refine XS.aloadN X307.here hx rfl (hb hby d4_39) rfl rfl ?_
    show Go p e below t T307 m 40 #[rv ma, rv b279, iv (2 : Int32), rv pa, iv (4 : Int32), iv (3 : Int32), iv p3] [(.ref ma), (.int p3)]
    exact k)
  obtain ⟨T312, X312, e312, st312⟩ := getF X307 hx hZ hown (host := "") (Or.inl (hw _ (List.mem_of_getElem? (i := 21) rfl))) Via.refl e307 (((P1.ext E279).other W298 (Or.inl (Nat.ne_of_lt (Nat.lt_of_lt_of_le P0.lt (Nat.le_of_eq gb279.symm))))).other W307 (Or.inl (Nat.ne_of_lt (Nat.lt_of_lt_of_le P0.lt (Nat.le_of_eq gb279.symm))))) (g := (mkF m 40 #[rv ma, rv b279, iv (2 : Int32), rv pa, iv (4 : Int32), iv (3 : Int32), iv p3] [(.ref ma), (.int p3)])) rfl rfl (hb hby d4_40)
  have g313 : Goes p e below S0 (T312.setTop (mkF m 43 #[rv ma, rv b279, iv (2 : Int32), rv pa, iv (4 : Int32), iv (3 : Int32), iv p3] [(.int p0), (.int p3)])) := fun t k => g311 t (st312 t k)
  have g314 : Goes p e below S0 (T312.setTop (mkF m 53 #[rv ma, rv b279, iv (3 : Int32), rv pa, iv (4 : Int32), iv (3 : Int32), iv p3] [(.int p3), (.int (2 : Int32)), (.ref b279)])) := fun t k => g313 t (by
    refine XS.icmpNo X312.here hx rfl (hb hby d4_43) rfl (XT.ii_eq_f ne3) ?_
    show Go p e below t T312 m 46 #[rv ma, rv b279, iv (2 : Int32), rv pa, iv (4 : Int32), iv (3 : Int32), iv p3] []
    refine XS.aloadN X312.here hx rfl (hb hby d4_46) rfl rfl ?_
    show Go p e below t T312 m 47 #[rv ma, rv b279, iv (2 : Int32), rv pa, iv (4 : Int32), iv (3 : Int32), iv p3] [(.ref b279)]
    refine XS.iloadN X312.here hx rfl (hb hby d4_47) rfl ?_
    show Go p e below t T312 m 48 #[rv ma, rv b279, iv (2 : Int32), rv pa, iv (4 : Int32), iv (3 : Int32), iv p3] [(.int (2 : Int32)), (.ref b279)]
    refine XT.iincV X312.here hx rfl (1 : Int32) (hb hby d4_48) (by decide) rfl (l' := #[rv ma, rv b279, iv (3 : Int32), rv pa, iv (4 : Int32), iv (3 : Int32), iv p3]) rfl ?_
    show Go p e below t T312 m 51 #[rv ma, rv b279, iv (3 : Int32), rv pa, iv (4 : Int32), iv (3 : Int32), iv p3] [(.int (2 : Int32)), (.ref b279)]
    refine XS.iload X312.here hx rfl (hb hby d4_51) rfl ?_
    show Go p e below t T312 m 53 #[rv ma, rv b279, iv (3 : Int32), rv pa, iv (4 : Int32), iv (3 : Int32), iv p3] [(.int p3), (.int (2 : Int32)), (.ref b279)]
    exact k)
  obtain ⟨cl315, Ar315, q315, S315, M315, H315, G315⟩ := id V307
  obtain ⟨T316, h316, X316, e316, W316, st316⟩ := stI X312 hx hZ e312 Ar315 (j := (2 : Int32)) (inb_of S315 ⟨by decide, by decide⟩) (g := (mkF m 53 #[rv ma, rv b279, iv (3 : Int32), rv pa, iv (4 : Int32), iv (3 : Int32), iv p3] [(.int p3), (.int (2 : Int32)), (.ref b279)])) rfl rfl (hb hby d4_53)
  have N316 := Fr.snoc X316 N307 ng279
  have V316 : Arv Z h316 b279 k279 .int (3 : Int32) [(.int p1), (.int p2), (.int p3)] (.int (0 : Int32)) := Arv.set Ar315 q315 S315 M315 H315 G315 rfl W316 2 rfl (Nat.le_of_ble_eq_true rfl)
  have g317 : Goes p e below S0 (T316.setTop (mkF m 54 #[rv ma, rv b279, iv (3 : Int32), rv pa, iv (4 : Int32), iv (3 : Int32), iv p3] [])) := fun t k => g314 t (st316 t k)
  have g318 : Goes p e below S0 (T316.setTop (mkF m 61 #[rv ma, rv b279, iv (3 : Int32), rv pa, iv (4 : Int32), iv (4 : Int32), iv p3] [(.ref b279)])) := fun t k => g317 t (by
    refine XT.iincV X316.here hx rfl (1 : Int32) (hb hby d4_54) (by decide) rfl (l' := #[rv ma, rv b279, iv (3 : Int32), rv pa, iv (4 : Int32), iv (4 : Int32), iv p3]) rfl ?_
    show Go p e below t T316 m 57 #[rv ma, rv b279, iv (3 : Int32), rv pa, iv (4 : Int32), iv (4 : Int32), iv p3] []
    refine XS.goto X316.here hx rfl (pc0 := 57) (pc' := 24) rfl (hb hby d4_57) (by decide) (by decide) ?_
    show Go p e below t T316 m 24 #[rv ma, rv b279, iv (3 : Int32), rv pa, iv (4 : Int32), iv (4 : Int32), iv p3] []
    refine XS.iload X316.here hx rfl (hb hby d4_24) rfl ?_
    show Go p e below t T316 m 26 #[rv ma, rv b279, iv (3 : Int32), rv pa, iv (4 : Int32), iv (4 : Int32), iv p3] [(.int (4 : Int32))]
    refine XS.iload X316.here hx rfl (hb hby d4_26) rfl ?_
    show Go p e below t T316 m 28 #[rv ma, rv b279, iv (3 : Int32), rv pa, iv (4 : Int32), iv (4 : Int32), iv p3] [(.int (4 : Int32)), (.int (4 : Int32))]
    refine XS.icmpYes X316.here hx rfl (pc0 := 28) (pc' := 60) rfl (hb hby d4_28) rfl (XT.ii_ge_t (by decide)) (by decide) (by decide) ?_
    show Go p e below t T316 m 60 #[rv ma, rv b279, iv (3 : Int32), rv pa, iv (4 : Int32), iv (4 : Int32), iv p3] []
    refine XS.aloadN X316.here hx rfl (hb hby d4_60) rfl rfl ?_
    show Go p e below t T316 m 61 #[rv ma, rv b279, iv (3 : Int32), rv pa, iv (4 : Int32), iv (4 : Int32), iv p3] [(.ref b279)]
    exact k)
  obtain ⟨fs, hr, hrun, hended, hW, hsame⟩ := X316.leave (v := some (.ref b279)) (fun h => by rw [Bd.returns] at h; cases h)
  refine ⟨_, _, g318 _ (retOut X316 hx Bd.returns rfl (Or.inr (Or.inr (Or.inr (Or.inr ⟨rfl, rfl, rfl⟩)))) (hb hby d4_61) hr), hrun, hended, _, _, rfl, ?_, ⟨_, rfl⟩, hW, hsame.mono (by decide) (by decide)⟩
  show Q_md40 Z ma pa pk p0 p1 p2 p3 h0 n0 _ T316.heap _
  rw [e316]
  exact ⟨b279, k279, rfl, N316, (((((Keep.refl h0 []).ext E279).wr W298 (Or.inr sz279)).wr W307 (Or.inr sz279)).wr W316 (Or.inr sz279)), V316, sz279⟩
theorem pf_md41 : plainFor (⟨"com/example/aristotle/aristotle/EliminationPlan$Step", "made", "()[I"⟩ : MethodName) = true := by first | exact plainFor_of_name (by first | (simp [plainName, overriddenIn, x]; done) | decide +kernel) | exact Jvm.Free.JP.mathPlain rfl (by decide +kernel) | decide +kernel
theorem ef_md41 (m : MethodId) (ma : Addr) : entryFrame m #[(.ref ma)] 7 = mkF m 0 #[rv ma, .unset, .unset, .unset, .unset, .unset, .unset] [] := by first | (simp [entryFrame, mkF, argsToLocals, Value.category, maxLocals]; done) | rfl
def Q_md41 (Z : State) (ma : Addr) (pa : Addr) (pk : ClassId) (p0 : Int32) (p1 : Int32) (p2 : Int32) (p3 : Int32) (h0 : Heap) (n0 : Nat) (v : Option Value) (h : Heap) (L : List Loc) : Prop := ∃ (ra : Addr) (rk : ClassId), v = some (.ref ra) ∧ Fr n0 L ∧ (Keep h0 h []) ∧ (Arv Z h ra rk .int (3 : Int32) [(.int p0), (.int p2), (.int p3)] (.int (0 : Int32))) ∧ (h0.size ≤ ra)
set_option maxRecDepth 65536 in
set_option maxHeartbeats 40000000 in
theorem rm_md41 (l : Launch) (Z : State) (a0 : Array Value) (hw : ∀ d ∈ tables_1, d.before a0 Z = true) (ws : List Jvm.Cond) (ma : Addr) (pa : Addr) (pk : ClassId) (p0 : Int32) (p1 : Int32) (p2 : Int32) (p3 : Int32) (h0 : Heap) (n0 : Nat) (Z0 : n0 ≤ h0.size) (P0 : Fld Z h0 ma "com/example/aristotle/aristotle/EliminationPlan$Step" "product" "[I" (.ref pa)) (P1 : Fld Z h0 ma "com/example/aristotle/aristotle/EliminationPlan$Step" "variable" "I" (.int p1)) (P2 : Arv Z h0 pa pk .int (4 : Int32) [(.int p0), (.int p1), (.int p2), (.int p3)] (.int (0 : Int32))) (ne0 : ¬ (p0 = p1)) (ne2 : ¬ (p2 = p1)) (ne3 : ¬ (p3 = p1))  :
    MetFree l (⟨"com/example/aristotle/aristotle/EliminationPlan$Step", "made", "()[I"⟩ : MethodName) (head1 (Jvm.Cond.code (⟨"com/example/aristotle/aristotle/EliminationPlan$Step", "made", "()[I"⟩ : MethodName) prog_48_method_2_code 7 (some (.array .int)) :: ws) ({ frames := 0, cells := 1, slots := 3, locals := 0 } : Room)) (fun a U => a = #[(.ref ma)] ∧ Z.Warmed39 U.vm ∧ U.heap = h0) (fun _ _ _ _ _ => True) (fun _ U o U' => ∃ v L, o = .returned v ∧ Q_md41 Z ma pa pk p0 p1 p2 p3 h0 n0 v U'.heap L ∧ FrameEnd U o U' L ({ frames := 0, cells := 1, slots := 3, locals := 0 } : Room).cells ({ frames := 0, cells := 1, slots := 3, locals := 0 } : Room).slots) := by
  refine MetFree.of_bodySF pf_md41 hisR ?_
  intro p e s m args below meth c s₁ Bd hml0 hP hK
  obtain ⟨rfl, hZ, hh⟩ := hP
  have hx := Bd.exec
  have hby := Bd.bytes
  have hml : c.maxLocals = 7 := hml0
  have hown : s.vm.findClass "com/example/aristotle/aristotle/EliminationPlan$Step" = some m.cls := findClass_of_methodNamed Bd.named
  have hnm := (name_of_methodNamed Bd.named Bd.method).1
  have X0 : Stand p l e ({ frames := 0, cells := 1, slots := 3, locals := 0 } : Room) s m #[(.ref ma)] below meth c s₁ [] 0 0 := Stand.of_body Bd
  have e0 : s₁.heap = h0 := by rw [← hh, Bd.state]; rfl
  have N0 := Fr.nil n0
  obtain ⟨S0, hS0⟩ : ∃ z, z = s₁.setTop (entryFrame m #[(.ref ma)] 7) := ⟨_, rfl⟩
  rw [← hS0]
  have g0 : Goes p e below S0 (s₁.setTop (mkF m 0 #[rv ma, .unset, .unset, .unset, .unset, .unset, .unset] [])) := fun t k => by rw [hS0]; exact castTop (ef_md41 m ma) k
  have g319 : Goes p e below S0 (s₁.setTop (mkF m 1 #[rv ma, .unset, .unset, .unset, .unset, .unset, .unset] [(.ref ma)])) := fun t k => g0 t (by
    refine XS.aloadN X0.here hx rfl (hb hby d4_0) rfl rfl ?_
    show Go p e below t s₁ m 1 #[rv ma, .unset, .unset, .unset, .unset, .unset, .unset] [(.ref ma)]
    exact k)
  obtain ⟨T320, X320, e320, st320⟩ := getF X0 hx hZ hown (host := "") (Or.inl (hw _ (List.mem_of_getElem? (i := 25) rfl))) Via.refl e0 P0 (g := (mkF m 1 #[rv ma, .unset, .unset, .unset, .unset, .unset, .unset] [(.ref ma)])) rfl rfl (hb hby d4_1)
  have g321 : Goes p e below S0 (T320.setTop (mkF m 4 #[rv ma, .unset, .unset, .unset, .unset, .unset, .unset] [(.ref pa)])) := fun t k => g319 t (st320 t k)
  obtain ⟨cl322, Ar322, q322, S322, M322, H322, G322⟩ := id P2
  have g323 : Goes p e below S0 (T320.setTop (mkF m 7 #[rv ma, .unset, .unset, .unset, .unset, .unset, .unset] [(.int (3 : Int32))])) := fun t k => g321 t (by
    refine X320.arraylength hx (by rw [e320]; exact Ar322.1) (State.isArrayOf_alike hZ.alike Ar322.2.1) (g := (mkF m 4 #[rv ma, .unset, .unset, .unset, .unset, .unset, .unset] [(.ref pa)])) rfl rfl (hb hby d4_4) _ ?_
    rw [len_of S322 M322]
    show Go p e below t T320 m 5 #[rv ma, .unset, .unset, .unset, .unset, .unset, .unset] [(.int (4 : Int32))]
    refine XT.iconstV X320.here hx rfl (1 : Int32) (hb hby d4_5) (by decide) ?_
    show Go p e below t T320 m 6 #[rv ma, .unset, .unset, .unset, .unset, .unset, .unset] [(.int (1 : Int32)), (.int (4 : Int32))]
    refine XS.isub X320.here hx rfl (hb hby d4_6) rfl ?_
    rw [show ((4 : Int32) - (1 : Int32)) = (3 : Int32) by decide]
    show Go p e below t T320 m 7 #[rv ma, .unset, .unset, .unset, .unset, .unset, .unset] [(.int (3 : Int32))]
    exact k)
  obtain ⟨T324, h324, k324, X324, e324, E324, A324, st324⟩ := newP X320 hx hZ (hw _ (List.mem_of_getElem? (i := 1) rfl)) e320 (g := (mkF m 7 #[rv ma, .unset, .unset, .unset, .unset, .unset, .unset] [(.int (3 : Int32))])) rfl (hb hby d4_7) rfl (by decide) (cap := 3) (by decide) (by decide) (by decide) (by decide)
  obtain ⟨b324, gb324⟩ : ∃ z, z = h0.size := ⟨_, rfl⟩
  have sz324 : h0.size ≤ b324 := Nat.le_trans (Nat.le_refl _) (Nat.le_of_eq gb324.symm)
  have ng324 : n0 ≤ b324 := Nat.le_trans Z0 sz324
  rw [← gb324] at A324 st324
  have V324 : Arv Z h324 b324 k324 .int (3 : Int32) [(.int (0 : Int32)), (.int (0 : Int32)), (.int (0 : Int32))] (.int (0 : Int32)) := (Arv.new A324 (by decide)).pad (pad_rep [] (.int (0 : Int32)) 3)
  have g325 : Goes p e below S0 (T324.setTop (mkF m 9 #[rv ma, .unset, .unset, .unset, .unset, .unset, .unset] [(.ref b324)])) := fun t k => g323 t (st324 t k)
  have g326 : Goes p e below S0 (T324.setTop (mkF m 13 #[rv ma, rv b324, iv (0 : Int32), .unset, .unset, .unset, .unset] [(.ref ma)])) := fun t k => g325 t (by
    refine XS.astoreN X324.here hx rfl (hb hby d4_9) rfl rfl (l' := #[rv ma, rv b324, .unset, .unset, .unset, .unset, .unset]) rfl ?_
    show Go p e below t T324 m 10 #[rv ma, rv b324, .unset, .unset, .unset, .unset, .unset] []
    refine XT.iconstV X324.here hx rfl (0 : Int32) (hb hby d4_10) (by decide) ?_
    show Go p e below t T324 m 11 #[rv ma, rv b324, .unset, .unset, .unset, .unset, .unset] [(.int (0 : Int32))]
    refine XS.istoreN X324.here hx rfl (hb hby d4_11) rfl (l' := #[rv ma, rv b324, iv (0 : Int32), .unset, .unset, .unset, .unset]) rfl ?_
    show Go p e below t T324 m 12 #[rv ma, rv b324, iv (0 : Int32), .unset, .unset, .unset, .unset] []
    refine XS.aloadN X324.here hx rfl (hb hby d4_12) rfl rfl ?_
    show Go p e below t T324 m 13 #[rv ma, rv b324, iv (0 : Int32), .unset, .unset, .unset, .unset] [(.ref ma)]
    exact k)
  obtain ⟨T327, X327, e327, st327⟩ := getF X324 hx hZ hown (host := "") (Or.inl (hw _ (List.mem_of_getElem? (i := 25) rfl))) Via.refl e324 (P0.ext E324) (g := (mkF m 13 #[rv ma, rv b324, iv (0 : Int32), .unset, .unset, .unset, .unset] [(.ref ma)])) rfl rfl (hb hby d4_13)
  have g328 : Goes p e below S0 (T327.setTop (mkF m 16 #[rv ma, rv b324, iv (0 : Int32), .unset, .unset, .unset, .unset] [(.ref pa)])) := fun t k => g326 t (st327 t k)
  have g329 : Goes p e below S0 (T327.setTop (mkF m 18 #[rv ma, rv b324, iv (0 : Int32), rv pa, .unset, .unset, .unset] [(.ref pa)])) := fun t k => g328 t (by
    refine XS.astoreN X327.here hx rfl (hb hby d4_16) rfl rfl (l' := #[rv ma, rv b324, iv (0 : Int32), rv pa, .unset, .unset, .unset]) rfl ?_
    show Go p e below t T327 m 17 #[rv ma, rv b324, iv (0 : Int32), rv pa, .unset, .unset, .unset] []
    refine XS.aloadN X327.here hx rfl (hb hby d4_17) rfl rfl ?_
    show Go p e below t T327 m 18 #[rv ma, rv b324, iv (0 : Int32), rv pa, .unset, .unset, .unset] [(.ref pa)]
    exact k)
  obtain ⟨cl330, Ar330, q330, S330, M330, H330, G330⟩ := id (P2.ext E324)
  have g331 : Goes p e below S0 (T327.setTop (mkF m 34 #[rv ma, rv b324, iv (0 : Int32), rv pa, iv (4 : Int32), iv (0 : Int32), .unset] [(.int (0 : Int32)), (.ref pa)])) := fun t k => g329 t (by
    refine X327.arraylength hx (by rw [e327]; exact Ar330.1) (State.isArrayOf_alike hZ.alike Ar330.2.1) (g := (mkF m 18 #[rv ma, rv b324, iv (0 : Int32), rv pa, .unset, .unset, .unset] [(.ref pa)])) rfl rfl (hb hby d4_18) _ ?_
    rw [len_of S330 M330]
    show Go p e below t T327 m 19 #[rv ma, rv b324, iv (0 : Int32), rv pa, .unset, .unset, .unset] [(.int (4 : Int32))]
    refine XS.istore X327.here hx rfl (hb hby d4_19) rfl (l' := #[rv ma, rv b324, iv (0 : Int32), rv pa, iv (4 : Int32), .unset, .unset]) rfl ?_
    show Go p e below t T327 m 21 #[rv ma, rv b324, iv (0 : Int32), rv pa, iv (4 : Int32), .unset, .unset] []
    refine XT.iconstV X327.here hx rfl (0 : Int32) (hb hby d4_21) (by decide) ?_
    show Go p e below t T327 m 22 #[rv ma, rv b324, iv (0 : Int32), rv pa, iv (4 : Int32), .unset, .unset] [(.int (0 : Int32))]
    refine XS.istore X327.here hx rfl (hb hby d4_22) rfl (l' := #[rv ma, rv b324, iv (0 : Int32), rv pa, iv (4 : Int32), iv (0 : Int32), .unset]) rfl ?_
    show Go p e below t T327 m 24 #[rv ma, rv b324, iv (0 : Int32), rv pa, iv (4 : Int32), iv (0 : Int32), .unset] []
    refine XS.iload X327.here hx rfl (hb hby d4_24) rfl ?_
    show Go p e below t T327 m 26 #[rv ma, rv b324, iv (0 : Int32), rv pa, iv (4 : Int32), iv (0 : Int32), .unset] [(.int (0 : Int32))]
    refine XS.iload X327.here hx rfl (hb hby d4_26) rfl ?_
    show Go p e below t T327 m 28 #[rv ma, rv b324, iv (0 : Int32), rv pa, iv (4 : Int32), iv (0 : Int32), .unset] [(.int (4 : Int32)), (.int (0 : Int32))]
    refine XS.icmpNo X327.here hx rfl (hb hby d4_28) rfl (XT.ii_ge_f (by decide)) ?_
    show Go p e below t T327 m 31 #[rv ma, rv b324, iv (0 : Int32), rv pa, iv (4 : Int32), iv (0 : Int32), .unset] []
    refine XS.aloadN X327.here hx rfl (hb hby d4_31) rfl rfl ?_
    show Go p e below t T327 m 32 #[rv ma, rv b324, iv (0 : Int32), rv pa, iv (4 : Int32), iv (0 : Int32), .unset] [(.ref pa)]
    refine XS.iload X327.here hx rfl (hb hby d4_32) rfl ?_
    show Go p e below t T327 m 34 #[rv ma, rv b324, iv (0 : Int32), rv pa, iv (4 : Int32), iv (0 : Int32), .unset] [(.int (0 : Int32)), (.ref pa)]
    exact k)
  obtain ⟨cl332, Ar332, q332, S332, M332, H332, G332⟩ := id (P2.ext E324)
  have g333 : Goes p e below S0 (T327.setTop (mkF m 40 #[rv ma, rv b324, iv (0 : Int32), rv pa, iv (4 : Int32), iv (0 : Int32), iv p0] [(.ref ma), (.int p0)])) := fun t k => g331 t (by
    refine X327.iaload hx (j := (0 : Int32)) (v := (.int p0)) (by rw [e327]; exact Ar332.1) (State.isArrayOf_alike hZ.alike Ar332.2.1) Ar332.2.2 (inb_of S332 ⟨by decide, by decide⟩) (H332.at (inb_of S332 ⟨by decide, by decide⟩) rfl) (g := (mkF m 34 #[rv ma, rv b324, iv (0 : Int32), rv pa, iv (4 : Int32), iv (0 : Int32), .unset] [(.int (0 : Int32)), (.ref pa)])) rfl rfl (hb hby d4_34) _ ?_
    show Go p e below t T327 m 35 #[rv ma, rv b324, iv (0 : Int32), rv pa, iv (4 : Int32), iv (0 : Int32), .unset] [(.int p0)]
    refine XS.istore X327.here hx rfl (hb hby d4_35) rfl (l' := #[rv ma, rv b324, iv (0 : Int32), rv pa, iv (4 : Int32), iv (0 : Int32), iv p0]) rfl ?_
    show Go p e below t T327 m 37 #[rv ma, rv b324, iv (0 : Int32), rv pa, iv (4 : Int32), iv (0 : Int32), iv p0] []
    refine XS.iload X327.here hx rfl (hb hby d4_37) rfl ?_
    show Go p e below t T327 m 39 #[rv ma, rv b324, iv (0 : Int32), rv pa, iv (4 : Int32), iv (0 : Int32), iv p0] [(.int p0)]
    refine XS.aloadN X327.here hx rfl (hb hby d4_39) rfl rfl ?_
    show Go p e below t T327 m 40 #[rv ma, rv b324, iv (0 : Int32), rv pa, iv (4 : Int32), iv (0 : Int32), iv p0] [(.ref ma), (.int p0)]
    exact k)
  obtain ⟨T334, X334, e334, st334⟩ := getF X327 hx hZ hown (host := "") (Or.inl (hw _ (List.mem_of_getElem? (i := 21) rfl))) Via.refl e327 (P1.ext E324) (g := (mkF m 40 #[rv ma, rv b324, iv (0 : Int32), rv pa, iv (4 : Int32), iv (0 : Int32), iv p0] [(.ref ma), (.int p0)])) rfl rfl (hb hby d4_40)
  have g335 : Goes p e below S0 (T334.setTop (mkF m 43 #[rv ma, rv b324, iv (0 : Int32), rv pa, iv (4 : Int32), iv (0 : Int32), iv p0] [(.int p1), (.int p0)])) := fun t k => g333 t (st334 t k)
  have g336 : Goes p e below S0 (T334.setTop (mkF m 53 #[rv ma, rv b324, iv (1 : Int32), rv pa, iv (4 : Int32), iv (0 : Int32), iv p0] [(.int p0), (.int (0 : Int32)), (.ref b324)])) := fun t k => g335 t (by
    refine XS.icmpNo X334.here hx rfl (hb hby d4_43) rfl (XT.ii_eq_f ne0) ?_
    show Go p e below t T334 m 46 #[rv ma, rv b324, iv (0 : Int32), rv pa, iv (4 : Int32), iv (0 : Int32), iv p0] []
    refine XS.aloadN X334.here hx rfl (hb hby d4_46) rfl rfl ?_
    show Go p e below t T334 m 47 #[rv ma, rv b324, iv (0 : Int32), rv pa, iv (4 : Int32), iv (0 : Int32), iv p0] [(.ref b324)]
    refine XS.iloadN X334.here hx rfl (hb hby d4_47) rfl ?_
    show Go p e below t T334 m 48 #[rv ma, rv b324, iv (0 : Int32), rv pa, iv (4 : Int32), iv (0 : Int32), iv p0] [(.int (0 : Int32)), (.ref b324)]
    refine XT.iincV X334.here hx rfl (1 : Int32) (hb hby d4_48) (by decide) rfl (l' := #[rv ma, rv b324, iv (1 : Int32), rv pa, iv (4 : Int32), iv (0 : Int32), iv p0]) rfl ?_
    show Go p e below t T334 m 51 #[rv ma, rv b324, iv (1 : Int32), rv pa, iv (4 : Int32), iv (0 : Int32), iv p0] [(.int (0 : Int32)), (.ref b324)]
    refine XS.iload X334.here hx rfl (hb hby d4_51) rfl ?_
    show Go p e below t T334 m 53 #[rv ma, rv b324, iv (1 : Int32), rv pa, iv (4 : Int32), iv (0 : Int32), iv p0] [(.int p0), (.int (0 : Int32)), (.ref b324)]
    exact k)
  obtain ⟨cl337, Ar337, q337, S337, M337, H337, G337⟩ := id V324
  obtain ⟨T338, h338, X338, e338, W338, st338⟩ := stI X334 hx hZ e334 Ar337 (j := (0 : Int32)) (inb_of S337 ⟨by decide, by decide⟩) (g := (mkF m 53 #[rv ma, rv b324, iv (1 : Int32), rv pa, iv (4 : Int32), iv (0 : Int32), iv p0] [(.int p0), (.int (0 : Int32)), (.ref b324)])) rfl rfl (hb hby d4_53)
  have N338 := Fr.snoc X338 N0 ng324
  have V338 : Arv Z h338 b324 k324 .int (3 : Int32) [(.int p0), (.int (0 : Int32)), (.int (0 : Int32))] (.int (0 : Int32)) := Arv.set Ar337 q337 S337 M337 H337 G337 rfl W338 0 rfl (Nat.le_of_ble_eq_true rfl)
  have g339 : Goes p e below S0 (T338.setTop (mkF m 54 #[rv ma, rv b324, iv (1 : Int32), rv pa, iv (4 : Int32), iv (0 : Int32), iv p0] [])) := fun t k => g336 t (st338 t k)
  have g340 : Goes p e below S0 (T338.setTop (mkF m 34 #[rv ma, rv b324, iv (1 : Int32), rv pa, iv (4 : Int32), iv (1 : Int32), iv p0] [(.int (1 : Int32)), (.ref pa)])) := fun t k => g339 t (by
    refine XT.iincV X338.here hx rfl (1 : Int32) (hb hby d4_54) (by decide) rfl (l' := #[rv ma, rv b324, iv (1 : Int32), rv pa, iv (4 : Int32), iv (1 : Int32), iv p0]) rfl ?_
    show Go p e below t T338 m 57 #[rv ma, rv b324, iv (1 : Int32), rv pa, iv (4 : Int32), iv (1 : Int32), iv p0] []
    refine XS.goto X338.here hx rfl (pc0 := 57) (pc' := 24) rfl (hb hby d4_57) (by decide) (by decide) ?_
    show Go p e below t T338 m 24 #[rv ma, rv b324, iv (1 : Int32), rv pa, iv (4 : Int32), iv (1 : Int32), iv p0] []
    refine XS.iload X338.here hx rfl (hb hby d4_24) rfl ?_
    show Go p e below t T338 m 26 #[rv ma, rv b324, iv (1 : Int32), rv pa, iv (4 : Int32), iv (1 : Int32), iv p0] [(.int (1 : Int32))]
    refine XS.iload X338.here hx rfl (hb hby d4_26) rfl ?_
    show Go p e below t T338 m 28 #[rv ma, rv b324, iv (1 : Int32), rv pa, iv (4 : Int32), iv (1 : Int32), iv p0] [(.int (4 : Int32)), (.int (1 : Int32))]
    refine XS.icmpNo X338.here hx rfl (hb hby d4_28) rfl (XT.ii_ge_f (by decide)) ?_
    show Go p e below t T338 m 31 #[rv ma, rv b324, iv (1 : Int32), rv pa, iv (4 : Int32), iv (1 : Int32), iv p0] []
    refine XS.aloadN X338.here hx rfl (hb hby d4_31) rfl rfl ?_
    show Go p e below t T338 m 32 #[rv ma, rv b324, iv (1 : Int32), rv pa, iv (4 : Int32), iv (1 : Int32), iv p0] [(.ref pa)]
    refine XS.iload X338.here hx rfl (hb hby d4_32) rfl ?_
    show Go p e below t T338 m 34 #[rv ma, rv b324, iv (1 : Int32), rv pa, iv (4 : Int32), iv (1 : Int32), iv p0] [(.int (1 : Int32)), (.ref pa)]
    exact k)
  obtain ⟨cl341, Ar341, q341, S341, M341, H341, G341⟩ := id ((P2.ext E324).other W338 (Nat.ne_of_lt (Nat.lt_of_lt_of_le P2.lt (Nat.le_of_eq gb324.symm))))
  have g342 : Goes p e below S0 (T338.setTop (mkF m 40 #[rv ma, rv b324, iv (1 : Int32), rv pa, iv (4 : Int32), iv (1 : Int32), iv p1] [(.ref ma), (.int p1)])) := fun t k => g340 t (by
    refine X338.iaload hx (j := (1 : Int32)) (v := (.int p1)) (by rw [e338]; exact Ar341.1) (State.isArrayOf_alike hZ.alike Ar341.2.1) Ar341.2.2 (inb_of S341 ⟨by decide, by decide⟩) (H341.at (inb_of S341 ⟨by decide, by decide⟩) rfl) (g := (mkF m 34 #[rv ma, rv b324, iv (1 : Int32), rv pa, iv (4 : Int32), iv (1 : Int32), iv p0] [(.int (1 : Int32)), (.ref pa)])) rfl rfl (hb hby d4_34) _ ?_
    show Go p e below t T338 m 35 #[rv ma, rv b324, iv (1 : Int32), rv pa, iv (4 : Int32), iv (1 : Int32), iv p0] [(.int p1)]
    refine XS.istore X338.here hx rfl (hb hby d4_35) rfl (l' := #[rv ma, rv b324, iv (1 : Int32), rv pa, iv (4 : Int32), iv (1 : Int32), iv p1]) rfl ?_
    show Go p e below t T338 m 37 #[rv ma, rv b324, iv (1 : Int32), rv pa, iv (4 : Int32), iv (1 : Int32), iv p1] []
    refine XS.iload X338.here hx rfl (hb hby d4_37) rfl ?_
    show Go p e below t T338 m 39 #[rv ma, rv b324, iv (1 : Int32), rv pa, iv (4 : Int32), iv (1 : Int32), iv p1] [(.int p1)]
    refine XS.aloadN X338.here hx rfl (hb hby d4_39) rfl rfl ?_
    show Go p e below t T338 m 40 #[rv ma, rv b324, iv (1 : Int32), rv pa, iv (4 : Int32), iv (1 : Int32), iv p1] [(.ref ma), (.int p1)]
    exact k)
  obtain ⟨T343, X343, e343, st343⟩ := getF X338 hx hZ hown (host := "") (Or.inl (hw _ (List.mem_of_getElem? (i := 21) rfl))) Via.refl e338 ((P1.ext E324).other W338 (Or.inl (Nat.ne_of_lt (Nat.lt_of_lt_of_le P0.lt (Nat.le_of_eq gb324.symm))))) (g := (mkF m 40 #[rv ma, rv b324, iv (1 : Int32), rv pa, iv (4 : Int32), iv (1 : Int32), iv p1] [(.ref ma), (.int p1)])) rfl rfl (hb hby d4_40)
  have g344 : Goes p e below S0 (T343.setTop (mkF m 43 #[rv ma, rv b324, iv (1 : Int32), rv pa, iv (4 : Int32), iv (1 : Int32), iv p1] [(.int p1), (.int p1)])) := fun t k => g342 t (st343 t k)
  have g345 : Goes p e below S0 (T343.setTop (mkF m 34 #[rv ma, rv b324, iv (1 : Int32), rv pa, iv (4 : Int32), iv (2 : Int32), iv p1] [(.int (2 : Int32)), (.ref pa)])) := fun t k => g344 t (by
    refine XS.icmpYes X343.here hx rfl (pc0 := 43) (pc' := 54) rfl (hb hby d4_43) rfl (XT.ii_eq_t rfl) (by decide) (by decide) ?_
    show Go p e below t T343 m 54 #[rv ma, rv b324, iv (1 : Int32), rv pa, iv (4 : Int32), iv (1 : Int32), iv p1] []
    refine XT.iincV X343.here hx rfl (1 : Int32) (hb hby d4_54) (by decide) rfl (l' := #[rv ma, rv b324, iv (1 : Int32), rv pa, iv (4 : Int32), iv (2 : Int32), iv p1]) rfl ?_
    show Go p e below t T343 m 57 #[rv ma, rv b324, iv (1 : Int32), rv pa, iv (4 : Int32), iv (2 : Int32), iv p1] []
    refine XS.goto X343.here hx rfl (pc0 := 57) (pc' := 24) rfl (hb hby d4_57) (by decide) (by decide) ?_
    show Go p e below t T343 m 24 #[rv ma, rv b324, iv (1 : Int32), rv pa, iv (4 : Int32), iv (2 : Int32), iv p1] []
    refine XS.iload X343.here hx rfl (hb hby d4_24) rfl ?_
    show Go p e below t T343 m 26 #[rv ma, rv b324, iv (1 : Int32), rv pa, iv (4 : Int32), iv (2 : Int32), iv p1] [(.int (2 : Int32))]
    refine XS.iload X343.here hx rfl (hb hby d4_26) rfl ?_
    show Go p e below t T343 m 28 #[rv ma, rv b324, iv (1 : Int32), rv pa, iv (4 : Int32), iv (2 : Int32), iv p1] [(.int (4 : Int32)), (.int (2 : Int32))]
    refine XS.icmpNo X343.here hx rfl (hb hby d4_28) rfl (XT.ii_ge_f (by decide)) ?_
    show Go p e below t T343 m 31 #[rv ma, rv b324, iv (1 : Int32), rv pa, iv (4 : Int32), iv (2 : Int32), iv p1] []
    refine XS.aloadN X343.here hx rfl (hb hby d4_31) rfl rfl ?_
    show Go p e below t T343 m 32 #[rv ma, rv b324, iv (1 : Int32), rv pa, iv (4 : Int32), iv (2 : Int32), iv p1] [(.ref pa)]
    refine XS.iload X343.here hx rfl (hb hby d4_32) rfl ?_
    show Go p e below t T343 m 34 #[rv ma, rv b324, iv (1 : Int32), rv pa, iv (4 : Int32), iv (2 : Int32), iv p1] [(.int (2 : Int32)), (.ref pa)]
    exact k)
  obtain ⟨cl346, Ar346, q346, S346, M346, H346, G346⟩ := id ((P2.ext E324).other W338 (Nat.ne_of_lt (Nat.lt_of_lt_of_le P2.lt (Nat.le_of_eq gb324.symm))))
  have g347 : Goes p e below S0 (T343.setTop (mkF m 40 #[rv ma, rv b324, iv (1 : Int32), rv pa, iv (4 : Int32), iv (2 : Int32), iv p2] [(.ref ma), (.int p2)])) := fun t k => g345 t (by
    refine X343.iaload hx (j := (2 : Int32)) (v := (.int p2)) (by rw [e343]; exact Ar346.1) (State.isArrayOf_alike hZ.alike Ar346.2.1) Ar346.2.2 (inb_of S346 ⟨by decide, by decide⟩) (H346.at (inb_of S346 ⟨by decide, by decide⟩) rfl) (g := (mkF m 34 #[rv ma, rv b324, iv (1 : Int32), rv pa, iv (4 : Int32), iv (2 : Int32), iv p1] [(.int (2 : Int32)), (.ref pa)])) rfl rfl (hb hby d4_34) _ ?_
    show Go p e below t T343 m 35 #[rv ma, rv b324, iv (1 : Int32), rv pa, iv (4 : Int32), iv (2 : Int32), iv p1] [(.int p2)]
    refine XS.istore X343.here hx rfl (hb hby d4_35) rfl (l' := #[rv ma, rv b324, iv (1 : Int32), rv pa, iv (4 : Int32), iv (2 : Int32), iv p2]) rfl ?_
    show Go p e below t T343 m 37 #[rv ma, rv b324, iv (1 : Int32), rv pa, iv (4 : Int32), iv (2 : Int32), iv p2] []
    refine XS.iload X343.here hx rfl (hb hby d4_37) rfl ?_
    show Go p e below t T343 m 39 #[rv ma, rv b324, iv (1 : Int32), rv pa, iv (4 : Int32), iv (2 : Int32), iv p2] [(.int p2)]
    refine XS.aloadN X343.here hx rfl (hb hby d4_39) rfl rfl ?_
    show Go p e below t T343 m 40 #[rv ma, rv b324, iv (1 : Int32), rv pa, iv (4 : Int32), iv (2 : Int32), iv p2] [(.ref ma), (.int p2)]
    exact k)
  obtain ⟨T348, X348, e348, st348⟩ := getF X343 hx hZ hown (host := "") (Or.inl (hw _ (List.mem_of_getElem? (i := 21) rfl))) Via.refl e343 ((P1.ext E324).other W338 (Or.inl (Nat.ne_of_lt (Nat.lt_of_lt_of_le P0.lt (Nat.le_of_eq gb324.symm))))) (g := (mkF m 40 #[rv ma, rv b324, iv (1 : Int32), rv pa, iv (4 : Int32), iv (2 : Int32), iv p2] [(.ref ma), (.int p2)])) rfl rfl (hb hby d4_40)
  have g349 : Goes p e below S0 (T348.setTop (mkF m 43 #[rv ma, rv b324, iv (1 : Int32), rv pa, iv (4 : Int32), iv (2 : Int32), iv p2] [(.int p1), (.int p2)])) := fun t k => g347 t (st348 t k)
  have g350 : Goes p e below S0 (T348.setTop (mkF m 53 #[rv ma, rv b324, iv (2 : Int32), rv pa, iv (4 : Int32), iv (2 : Int32), iv p2] [(.int p2), (.int (1 : Int32)), (.ref b324)])) := fun t k => g349 t (by
    refine XS.icmpNo X348.here hx rfl (hb hby d4_43) rfl (XT.ii_eq_f ne2) ?_
    show Go p e below t T348 m 46 #[rv ma, rv b324, iv (1 : Int32), rv pa, iv (4 : Int32), iv (2 : Int32), iv p2] []
    refine XS.aloadN X348.here hx rfl (hb hby d4_46) rfl rfl ?_
    show Go p e below t T348 m 47 #[rv ma, rv b324, iv (1 : Int32), rv pa, iv (4 : Int32), iv (2 : Int32), iv p2] [(.ref b324)]
    refine XS.iloadN X348.here hx rfl (hb hby d4_47) rfl ?_
    show Go p e below t T348 m 48 #[rv ma, rv b324, iv (1 : Int32), rv pa, iv (4 : Int32), iv (2 : Int32), iv p2] [(.int (1 : Int32)), (.ref b324)]
    refine XT.iincV X348.here hx rfl (1 : Int32) (hb hby d4_48) (by decide) rfl (l' := #[rv ma, rv b324, iv (2 : Int32), rv pa, iv (4 : Int32), iv (2 : Int32), iv p2]) rfl ?_
    show Go p e below t T348 m 51 #[rv ma, rv b324, iv (2 : Int32), rv pa, iv (4 : Int32), iv (2 : Int32), iv p2] [(.int (1 : Int32)), (.ref b324)]
    refine XS.iload X348.here hx rfl (hb hby d4_51) rfl ?_
    show Go p e below t T348 m 53 #[rv ma, rv b324, iv (2 : Int32), rv pa, iv (4 : Int32), iv (2 : Int32), iv p2] [(.int p2), (.int (1 : Int32)), (.ref b324)]
    exact k)
  obtain ⟨cl351, Ar351, q351, S351, M351, H351, G351⟩ := id V338
  obtain ⟨T352, h352, X352, e352, W352, st352⟩ := stI X348 hx hZ e348 Ar351 (j := (1 : Int32)) (inb_of S351 ⟨by decide, by decide⟩) (g := (mkF m 53 #[rv ma, rv b324, iv (2 : Int32), rv pa, iv (4 : Int32), iv (2 : Int32), iv p2] [(.int p2), (.int (1 : Int32)), (.ref b324)])) rfl rfl (hb hby d4_53)
  have N352 := Fr.snoc X352 N338 ng324
  have V352 : Arv Z h352 b324 k324 .int (3 : Int32) [(.int p0), (.int p2), (.int (0 : Int32))] (.int (0 : Int32)) := Arv.set Ar351 q351 S351 M351 H351 G351 rfl W352 1 rfl (Nat.le_of_ble_eq_true rfl)
  have g353 : Goes p e below S0 (T352.setTop (mkF m 54 #[rv ma, rv b324, iv (2 : Int32), rv pa, iv (4 : Int32), iv (2 : Int32), iv p2] [])) := fun t k => g350 t (st352 t k)
  have g354 : Goes p e below S0 (T352.setTop (mkF m 34 #[rv ma, rv b324, iv (2 : Int32), rv pa, iv (4 : Int32), iv (3 : Int32), iv p2] [(.int (3 : Int32)), (.ref pa)])) := fun t k => g353 t (by
    refine XT.iincV X352.here hx rfl (1 : Int32) (hb hby d4_54) (by decide) rfl (l' := #[rv ma, rv b324, iv (2 : Int32), rv pa, iv (4 : Int32), iv (3 : Int32), iv p2]) rfl ?_
    show Go p e below t T352 m 57 #[rv ma, rv b324, iv (2 : Int32), rv pa, iv (4 : Int32), iv (3 : Int32), iv p2] []
    refine XS.goto X352.here hx rfl (pc0 := 57) (pc' := 24) rfl (hb hby d4_57) (by decide) (by decide) ?_
    show Go p e below t T352 m 24 #[rv ma, rv b324, iv (2 : Int32), rv pa, iv (4 : Int32), iv (3 : Int32), iv p2] []
    refine XS.iload X352.here hx rfl (hb hby d4_24) rfl ?_
    show Go p e below t T352 m 26 #[rv ma, rv b324, iv (2 : Int32), rv pa, iv (4 : Int32), iv (3 : Int32), iv p2] [(.int (3 : Int32))]
    refine XS.iload X352.here hx rfl (hb hby d4_26) rfl ?_
    show Go p e below t T352 m 28 #[rv ma, rv b324, iv (2 : Int32), rv pa, iv (4 : Int32), iv (3 : Int32), iv p2] [(.int (4 : Int32)), (.int (3 : Int32))]
    refine XS.icmpNo X352.here hx rfl (hb hby d4_28) rfl (XT.ii_ge_f (by decide)) ?_
    show Go p e below t T352 m 31 #[rv ma, rv b324, iv (2 : Int32), rv pa, iv (4 : Int32), iv (3 : Int32), iv p2] []
    refine XS.aloadN X352.here hx rfl (hb hby d4_31) rfl rfl ?_
    show Go p e below t T352 m 32 #[rv ma, rv b324, iv (2 : Int32), rv pa, iv (4 : Int32), iv (3 : Int32), iv p2] [(.ref pa)]
    refine XS.iload X352.here hx rfl (hb hby d4_32) rfl ?_
    show Go p e below t T352 m 34 #[rv ma, rv b324, iv (2 : Int32), rv pa, iv (4 : Int32), iv (3 : Int32), iv p2] [(.int (3 : Int32)), (.ref pa)]
    exact k)
  obtain ⟨cl355, Ar355, q355, S355, M355, H355, G355⟩ := id (((P2.ext E324).other W338 (Nat.ne_of_lt (Nat.lt_of_lt_of_le P2.lt (Nat.le_of_eq gb324.symm)))).other W352 (Nat.ne_of_lt (Nat.lt_of_lt_of_le P2.lt (Nat.le_of_eq gb324.symm))))
  have g356 : Goes p e below S0 (T352.setTop (mkF m 40 #[rv ma, rv b324, iv (2 : Int32), rv pa, iv (4 : Int32), iv (3 : Int32), iv p3] [(.ref ma), (.int p3)])) := fun t k => g354 t (by
    refine X352.iaload hx (j := (3 : Int32)) (v := (.int p3)) (by rw [e352]; exact Ar355.1) (State.isArrayOf_alike hZ.alike Ar355.2.1) Ar355.2.2 (inb_of S355 ⟨by decide, by decide⟩) (H355.at (inb_of S355 ⟨by decide, by decide⟩) rfl) (g := (mkF m 34 #[rv ma, rv b324, iv (2 : Int32), rv pa, iv (4 : Int32), iv (3 : Int32), iv p2] [(.int (3 : Int32)), (.ref pa)])) rfl rfl (hb hby d4_34) _ ?_
    show Go p e below t T352 m 35 #[rv ma, rv b324, iv (2 : Int32), rv pa, iv (4 : Int32), iv (3 : Int32), iv p2] [(.int p3)]
    refine XS.istore X352.here hx rfl (hb hby d4_35) rfl (l' := #[rv ma, rv b324, iv (2 : Int32), rv pa, iv (4 : Int32), iv (3 : Int32), iv p3]) rfl ?_
    show Go p e below t T352 m 37 #[rv ma, rv b324, iv (2 : Int32), rv pa, iv (4 : Int32), iv (3 : Int32), iv p3] []
    refine XS.iload X352.here hx rfl (hb hby d4_37) rfl ?_
    show Go p e below t T352 m 39 #[rv ma, rv b324, iv (2 : Int32), rv pa, iv (4 : Int32), iv (3 : Int32), iv p3] [(.int p3)]
    refine XS.aloadN X352.here hx rfl (hb hby d4_39) rfl rfl ?_
    show Go p e below t T352 m 40 #[rv ma, rv b324, iv (2 : Int32), rv pa, iv (4 : Int32), iv (3 : Int32), iv p3] [(.ref ma), (.int p3)]
    exact k)
  obtain ⟨T357, X357, e357, st357⟩ := getF X352 hx hZ hown (host := "") (Or.inl (hw _ (List.mem_of_getElem? (i := 21) rfl))) Via.refl e352 (((P1.ext E324).other W338 (Or.inl (Nat.ne_of_lt (Nat.lt_of_lt_of_le P0.lt (Nat.le_of_eq gb324.symm))))).other W352 (Or.inl (Nat.ne_of_lt (Nat.lt_of_lt_of_le P0.lt (Nat.le_of_eq gb324.symm))))) (g := (mkF m 40 #[rv ma, rv b324, iv (2 : Int32), rv pa, iv (4 : Int32), iv (3 : Int32), iv p3] [(.ref ma), (.int p3)])) rfl rfl (hb hby d4_40)
  have g358 : Goes p e below S0 (T357.setTop (mkF m 43 #[rv ma, rv b324, iv (2 : Int32), rv pa, iv (4 : Int32), iv (3 : Int32), iv p3] [(.int p1), (.int p3)])) := fun t k => g356 t (st357 t k)
  have g359 : Goes p e below S0 (T357.setTop (mkF m 53 #[rv ma, rv b324, iv (3 : Int32), rv pa, iv (4 : Int32), iv (3 : Int32), iv p3] [(.int p3), (.int (2 : Int32)), (.ref b324)])) := fun t k => g358 t (by
    refine XS.icmpNo X357.here hx rfl (hb hby d4_43) rfl (XT.ii_eq_f ne3) ?_
    show Go p e below t T357 m 46 #[rv ma, rv b324, iv (2 : Int32), rv pa, iv (4 : Int32), iv (3 : Int32), iv p3] []
    refine XS.aloadN X357.here hx rfl (hb hby d4_46) rfl rfl ?_
    show Go p e below t T357 m 47 #[rv ma, rv b324, iv (2 : Int32), rv pa, iv (4 : Int32), iv (3 : Int32), iv p3] [(.ref b324)]
    refine XS.iloadN X357.here hx rfl (hb hby d4_47) rfl ?_
    show Go p e below t T357 m 48 #[rv ma, rv b324, iv (2 : Int32), rv pa, iv (4 : Int32), iv (3 : Int32), iv p3] [(.int (2 : Int32)), (.ref b324)]
    refine XT.iincV X357.here hx rfl (1 : Int32) (hb hby d4_48) (by decide) rfl (l' := #[rv ma, rv b324, iv (3 : Int32), rv pa, iv (4 : Int32), iv (3 : Int32), iv p3]) rfl ?_
    show Go p e below t T357 m 51 #[rv ma, rv b324, iv (3 : Int32), rv pa, iv (4 : Int32), iv (3 : Int32), iv p3] [(.int (2 : Int32)), (.ref b324)]
    refine XS.iload X357.here hx rfl (hb hby d4_51) rfl ?_
    show Go p e below t T357 m 53 #[rv ma, rv b324, iv (3 : Int32), rv pa, iv (4 : Int32), iv (3 : Int32), iv p3] [(.int p3), (.int (2 : Int32)), (.ref b324)]
    exact k)
  obtain ⟨cl360, Ar360, q360, S360, M360, H360, G360⟩ := id V352
  obtain ⟨T361, h361, X361, e361, W361, st361⟩ := stI X357 hx hZ e357 Ar360 (j := (2 : Int32)) (inb_of S360 ⟨by decide, by decide⟩) (g := (mkF m 53 #[rv ma, rv b324, iv (3 : Int32), rv pa, iv (4 : Int32), iv (3 : Int32), iv p3] [(.int p3), (.int (2 : Int32)), (.ref b324)])) rfl rfl (hb hby d4_53)
  have N361 := Fr.snoc X361 N352 ng324
  have V361 : Arv Z h361 b324 k324 .int (3 : Int32) [(.int p0), (.int p2), (.int p3)] (.int (0 : Int32)) := Arv.set Ar360 q360 S360 M360 H360 G360 rfl W361 2 rfl (Nat.le_of_ble_eq_true rfl)
  have g362 : Goes p e below S0 (T361.setTop (mkF m 54 #[rv ma, rv b324, iv (3 : Int32), rv pa, iv (4 : Int32), iv (3 : Int32), iv p3] [])) := fun t k => g359 t (st361 t k)
  have g363 : Goes p e below S0 (T361.setTop (mkF m 61 #[rv ma, rv b324, iv (3 : Int32), rv pa, iv (4 : Int32), iv (4 : Int32), iv p3] [(.ref b324)])) := fun t k => g362 t (by
    refine XT.iincV X361.here hx rfl (1 : Int32) (hb hby d4_54) (by decide) rfl (l' := #[rv ma, rv b324, iv (3 : Int32), rv pa, iv (4 : Int32), iv (4 : Int32), iv p3]) rfl ?_
    show Go p e below t T361 m 57 #[rv ma, rv b324, iv (3 : Int32), rv pa, iv (4 : Int32), iv (4 : Int32), iv p3] []
    refine XS.goto X361.here hx rfl (pc0 := 57) (pc' := 24) rfl (hb hby d4_57) (by decide) (by decide) ?_
    show Go p e below t T361 m 24 #[rv ma, rv b324, iv (3 : Int32), rv pa, iv (4 : Int32), iv (4 : Int32), iv p3] []
    refine XS.iload X361.here hx rfl (hb hby d4_24) rfl ?_
    show Go p e below t T361 m 26 #[rv ma, rv b324, iv (3 : Int32), rv pa, iv (4 : Int32), iv (4 : Int32), iv p3] [(.int (4 : Int32))]
    refine XS.iload X361.here hx rfl (hb hby d4_26) rfl ?_
    show Go p e below t T361 m 28 #[rv ma, rv b324, iv (3 : Int32), rv pa, iv (4 : Int32), iv (4 : Int32), iv p3] [(.int (4 : Int32)), (.int (4 : Int32))]
    refine XS.icmpYes X361.here hx rfl (pc0 := 28) (pc' := 60) rfl (hb hby d4_28) rfl (XT.ii_ge_t (by decide)) (by decide) (by decide) ?_
    show Go p e below t T361 m 60 #[rv ma, rv b324, iv (3 : Int32), rv pa, iv (4 : Int32), iv (4 : Int32), iv p3] []
    refine XS.aloadN X361.here hx rfl (hb hby d4_60) rfl rfl ?_
    show Go p e below t T361 m 61 #[rv ma, rv b324, iv (3 : Int32), rv pa, iv (4 : Int32), iv (4 : Int32), iv p3] [(.ref b324)]
    exact k)
  obtain ⟨fs, hr, hrun, hended, hW, hsame⟩ := X361.leave (v := some (.ref b324)) (fun h => by rw [Bd.returns] at h; cases h)
  refine ⟨_, _, g363 _ (retOut X361 hx Bd.returns rfl (Or.inr (Or.inr (Or.inr (Or.inr ⟨rfl, rfl, rfl⟩)))) (hb hby d4_61) hr), hrun, hended, _, _, rfl, ?_, ⟨_, rfl⟩, hW, hsame.mono (by decide) (by decide)⟩
  show Q_md41 Z ma pa pk p0 p1 p2 p3 h0 n0 _ T361.heap _
  rw [e361]
  exact ⟨b324, k324, rfl, N361, (((((Keep.refl h0 []).ext E324).wr W338 (Or.inr sz324)).wr W352 (Or.inr sz324)).wr W361 (Or.inr sz324)), V361, sz324⟩
theorem pf_md42 : plainFor (⟨"com/example/aristotle/aristotle/EliminationPlan$Step", "made", "()[I"⟩ : MethodName) = true := by first | exact plainFor_of_name (by first | (simp [plainName, overriddenIn, x]; done) | decide +kernel) | exact Jvm.Free.JP.mathPlain rfl (by decide +kernel) | decide +kernel
theorem ef_md42 (m : MethodId) (ma : Addr) : entryFrame m #[(.ref ma)] 7 = mkF m 0 #[rv ma, .unset, .unset, .unset, .unset, .unset, .unset] [] := by first | (simp [entryFrame, mkF, argsToLocals, Value.category, maxLocals]; done) | rfl
def Q_md42 (Z : State) (ma : Addr) (pa : Addr) (pk : ClassId) (p0 : Int32) (p1 : Int32) (p2 : Int32) (p3 : Int32) (h0 : Heap) (n0 : Nat) (v : Option Value) (h : Heap) (L : List Loc) : Prop := ∃ (ra : Addr) (rk : ClassId), v = some (.ref ra) ∧ Fr n0 L ∧ (Keep h0 h []) ∧ (Arv Z h ra rk .int (3 : Int32) [(.int p0), (.int p1), (.int p3)] (.int (0 : Int32))) ∧ (h0.size ≤ ra)
set_option maxRecDepth 65536 in
set_option maxHeartbeats 40000000 in
theorem rm_md42 (l : Launch) (Z : State) (a0 : Array Value) (hw : ∀ d ∈ tables_1, d.before a0 Z = true) (ws : List Jvm.Cond) (ma : Addr) (pa : Addr) (pk : ClassId) (p0 : Int32) (p1 : Int32) (p2 : Int32) (p3 : Int32) (h0 : Heap) (n0 : Nat) (Z0 : n0 ≤ h0.size) (P0 : Fld Z h0 ma "com/example/aristotle/aristotle/EliminationPlan$Step" "product" "[I" (.ref pa)) (P1 : Fld Z h0 ma "com/example/aristotle/aristotle/EliminationPlan$Step" "variable" "I" (.int p2)) (P2 : Arv Z h0 pa pk .int (4 : Int32) [(.int p0), (.int p1), (.int p2), (.int p3)] (.int (0 : Int32))) (ne0 : ¬ (p0 = p2)) (ne1 : ¬ (p1 = p2)) (ne3 : ¬ (p3 = p2))  :
    MetFree l (⟨"com/example/aristotle/aristotle/EliminationPlan$Step", "made", "()[I"⟩ : MethodName) (head1 (Jvm.Cond.code (⟨"com/example/aristotle/aristotle/EliminationPlan$Step", "made", "()[I"⟩ : MethodName) prog_48_method_2_code 7 (some (.array .int)) :: ws) ({ frames := 0, cells := 1, slots := 3, locals := 0 } : Room)) (fun a U => a = #[(.ref ma)] ∧ Z.Warmed39 U.vm ∧ U.heap = h0) (fun _ _ _ _ _ => True) (fun _ U o U' => ∃ v L, o = .returned v ∧ Q_md42 Z ma pa pk p0 p1 p2 p3 h0 n0 v U'.heap L ∧ FrameEnd U o U' L ({ frames := 0, cells := 1, slots := 3, locals := 0 } : Room).cells ({ frames := 0, cells := 1, slots := 3, locals := 0 } : Room).slots) := by
  refine MetFree.of_bodySF pf_md42 hisR ?_
  intro p e s m args below meth c s₁ Bd hml0 hP hK
  obtain ⟨rfl, hZ, hh⟩ := hP
  have hx := Bd.exec
  have hby := Bd.bytes
  have hml : c.maxLocals = 7 := hml0
  have hown : s.vm.findClass "com/example/aristotle/aristotle/EliminationPlan$Step" = some m.cls := findClass_of_methodNamed Bd.named
  have hnm := (name_of_methodNamed Bd.named Bd.method).1
  have X0 : Stand p l e ({ frames := 0, cells := 1, slots := 3, locals := 0 } : Room) s m #[(.ref ma)] below meth c s₁ [] 0 0 := Stand.of_body Bd
  have e0 : s₁.heap = h0 := by rw [← hh, Bd.state]; rfl
  have N0 := Fr.nil n0
  obtain ⟨S0, hS0⟩ : ∃ z, z = s₁.setTop (entryFrame m #[(.ref ma)] 7) := ⟨_, rfl⟩
  rw [← hS0]
  have g0 : Goes p e below S0 (s₁.setTop (mkF m 0 #[rv ma, .unset, .unset, .unset, .unset, .unset, .unset] [])) := fun t k => by rw [hS0]; exact castTop (ef_md42 m ma) k
  have g364 : Goes p e below S0 (s₁.setTop (mkF m 1 #[rv ma, .unset, .unset, .unset, .unset, .unset, .unset] [(.ref ma)])) := fun t k => g0 t (by
    refine XS.aloadN X0.here hx rfl (hb hby d4_0) rfl rfl ?_
    show Go p e below t s₁ m 1 #[rv ma, .unset, .unset, .unset, .unset, .unset, .unset] [(.ref ma)]
    exact k)
  obtain ⟨T365, X365, e365, st365⟩ := getF X0 hx hZ hown (host := "") (Or.inl (hw _ (List.mem_of_getElem? (i := 25) rfl))) Via.refl e0 P0 (g := (mkF m 1 #[rv ma, .unset, .unset, .unset, .unset, .unset, .unset] [(.ref ma)])) rfl rfl (hb hby d4_1)
  have g366 : Goes p e below S0 (T365.setTop (mkF m 4 #[rv ma, .unset, .unset, .unset, .unset, .unset, .unset] [(.ref pa)])) := fun t k => g364 t (st365 t k)
  obtain ⟨cl367, Ar367, q367, S367, M367, H367, G367⟩ := id P2
  have g368 : Goes p e below S0 (T365.setTop (mkF m 7 #[rv ma, .unset, .unset, .unset, .unset, .unset, .unset] [(.int (3 : Int32))])) := fun t k => g366 t (by
    refine X365.arraylength hx (by rw [e365]; exact Ar367.1) (State.isArrayOf_alike hZ.alike Ar367.2.1) (g := (mkF m 4 #[rv ma, .unset, .unset, .unset, .unset, .unset, .unset] [(.ref pa)])) rfl rfl (hb hby d4_4) _ ?_
    rw [len_of S367 M367]
    show Go p e below t T365 m 5 #[rv ma, .unset, .unset, .unset, .unset, .unset, .unset] [(.int (4 : Int32))]
    refine XT.iconstV X365.here hx rfl (1 : Int32) (hb hby d4_5) (by decide) ?_
    show Go p e below t T365 m 6 #[rv ma, .unset, .unset, .unset, .unset, .unset, .unset] [(.int (1 : Int32)), (.int (4 : Int32))]
    refine XS.isub X365.here hx rfl (hb hby d4_6) rfl ?_
    rw [show ((4 : Int32) - (1 : Int32)) = (3 : Int32) by decide]
    show Go p e below t T365 m 7 #[rv ma, .unset, .unset, .unset, .unset, .unset, .unset] [(.int (3 : Int32))]
    exact k)
  obtain ⟨T369, h369, k369, X369, e369, E369, A369, st369⟩ := newP X365 hx hZ (hw _ (List.mem_of_getElem? (i := 1) rfl)) e365 (g := (mkF m 7 #[rv ma, .unset, .unset, .unset, .unset, .unset, .unset] [(.int (3 : Int32))])) rfl (hb hby d4_7) rfl (by decide) (cap := 3) (by decide) (by decide) (by decide) (by decide)
  obtain ⟨b369, gb369⟩ : ∃ z, z = h0.size := ⟨_, rfl⟩
  have sz369 : h0.size ≤ b369 := Nat.le_trans (Nat.le_refl _) (Nat.le_of_eq gb369.symm)
  have ng369 : n0 ≤ b369 := Nat.le_trans Z0 sz369
  rw [← gb369] at A369 st369
  have V369 : Arv Z h369 b369 k369 .int (3 : Int32) [(.int (0 : Int32)), (.int (0 : Int32)), (.int (0 : Int32))] (.int (0 : Int32)) := (Arv.new A369 (by decide)).pad (pad_rep [] (.int (0 : Int32)) 3)
  have g370 : Goes p e below S0 (T369.setTop (mkF m 9 #[rv ma, .unset, .unset, .unset, .unset, .unset, .unset] [(.ref b369)])) := fun t k => g368 t (st369 t k)
  have g371 : Goes p e below S0 (T369.setTop (mkF m 13 #[rv ma, rv b369, iv (0 : Int32), .unset, .unset, .unset, .unset] [(.ref ma)])) := fun t k => g370 t (by
    refine XS.astoreN X369.here hx rfl (hb hby d4_9) rfl rfl (l' := #[rv ma, rv b369, .unset, .unset, .unset, .unset, .unset]) rfl ?_
    show Go p e below t T369 m 10 #[rv ma, rv b369, .unset, .unset, .unset, .unset, .unset] []
    refine XT.iconstV X369.here hx rfl (0 : Int32) (hb hby d4_10) (by decide) ?_
    show Go p e below t T369 m 11 #[rv ma, rv b369, .unset, .unset, .unset, .unset, .unset] [(.int (0 : Int32))]
    refine XS.istoreN X369.here hx rfl (hb hby d4_11) rfl (l' := #[rv ma, rv b369, iv (0 : Int32), .unset, .unset, .unset, .unset]) rfl ?_
    show Go p e below t T369 m 12 #[rv ma, rv b369, iv (0 : Int32), .unset, .unset, .unset, .unset] []
    refine XS.aloadN X369.here hx rfl (hb hby d4_12) rfl rfl ?_
    show Go p e below t T369 m 13 #[rv ma, rv b369, iv (0 : Int32), .unset, .unset, .unset, .unset] [(.ref ma)]
    exact k)
  obtain ⟨T372, X372, e372, st372⟩ := getF X369 hx hZ hown (host := "") (Or.inl (hw _ (List.mem_of_getElem? (i := 25) rfl))) Via.refl e369 (P0.ext E369) (g := (mkF m 13 #[rv ma, rv b369, iv (0 : Int32), .unset, .unset, .unset, .unset] [(.ref ma)])) rfl rfl (hb hby d4_13)
  have g373 : Goes p e below S0 (T372.setTop (mkF m 16 #[rv ma, rv b369, iv (0 : Int32), .unset, .unset, .unset, .unset] [(.ref pa)])) := fun t k => g371 t (st372 t k)
  have g374 : Goes p e below S0 (T372.setTop (mkF m 18 #[rv ma, rv b369, iv (0 : Int32), rv pa, .unset, .unset, .unset] [(.ref pa)])) := fun t k => g373 t (by
    refine XS.astoreN X372.here hx rfl (hb hby d4_16) rfl rfl (l' := #[rv ma, rv b369, iv (0 : Int32), rv pa, .unset, .unset, .unset]) rfl ?_
    show Go p e below t T372 m 17 #[rv ma, rv b369, iv (0 : Int32), rv pa, .unset, .unset, .unset] []
    refine XS.aloadN X372.here hx rfl (hb hby d4_17) rfl rfl ?_
    show Go p e below t T372 m 18 #[rv ma, rv b369, iv (0 : Int32), rv pa, .unset, .unset, .unset] [(.ref pa)]
    exact k)
  obtain ⟨cl375, Ar375, q375, S375, M375, H375, G375⟩ := id (P2.ext E369)
  have g376 : Goes p e below S0 (T372.setTop (mkF m 34 #[rv ma, rv b369, iv (0 : Int32), rv pa, iv (4 : Int32), iv (0 : Int32), .unset] [(.int (0 : Int32)), (.ref pa)])) := fun t k => g374 t (by
    refine X372.arraylength hx (by rw [e372]; exact Ar375.1) (State.isArrayOf_alike hZ.alike Ar375.2.1) (g := (mkF m 18 #[rv ma, rv b369, iv (0 : Int32), rv pa, .unset, .unset, .unset] [(.ref pa)])) rfl rfl (hb hby d4_18) _ ?_
    rw [len_of S375 M375]
    show Go p e below t T372 m 19 #[rv ma, rv b369, iv (0 : Int32), rv pa, .unset, .unset, .unset] [(.int (4 : Int32))]
    refine XS.istore X372.here hx rfl (hb hby d4_19) rfl (l' := #[rv ma, rv b369, iv (0 : Int32), rv pa, iv (4 : Int32), .unset, .unset]) rfl ?_
    show Go p e below t T372 m 21 #[rv ma, rv b369, iv (0 : Int32), rv pa, iv (4 : Int32), .unset, .unset] []
    refine XT.iconstV X372.here hx rfl (0 : Int32) (hb hby d4_21) (by decide) ?_
    show Go p e below t T372 m 22 #[rv ma, rv b369, iv (0 : Int32), rv pa, iv (4 : Int32), .unset, .unset] [(.int (0 : Int32))]
    refine XS.istore X372.here hx rfl (hb hby d4_22) rfl (l' := #[rv ma, rv b369, iv (0 : Int32), rv pa, iv (4 : Int32), iv (0 : Int32), .unset]) rfl ?_
    show Go p e below t T372 m 24 #[rv ma, rv b369, iv (0 : Int32), rv pa, iv (4 : Int32), iv (0 : Int32), .unset] []
    refine XS.iload X372.here hx rfl (hb hby d4_24) rfl ?_
    show Go p e below t T372 m 26 #[rv ma, rv b369, iv (0 : Int32), rv pa, iv (4 : Int32), iv (0 : Int32), .unset] [(.int (0 : Int32))]
    refine XS.iload X372.here hx rfl (hb hby d4_26) rfl ?_
    show Go p e below t T372 m 28 #[rv ma, rv b369, iv (0 : Int32), rv pa, iv (4 : Int32), iv (0 : Int32), .unset] [(.int (4 : Int32)), (.int (0 : Int32))]
    refine XS.icmpNo X372.here hx rfl (hb hby d4_28) rfl (XT.ii_ge_f (by decide)) ?_
    show Go p e below t T372 m 31 #[rv ma, rv b369, iv (0 : Int32), rv pa, iv (4 : Int32), iv (0 : Int32), .unset] []
    refine XS.aloadN X372.here hx rfl (hb hby d4_31) rfl rfl ?_
    show Go p e below t T372 m 32 #[rv ma, rv b369, iv (0 : Int32), rv pa, iv (4 : Int32), iv (0 : Int32), .unset] [(.ref pa)]
    refine XS.iload X372.here hx rfl (hb hby d4_32) rfl ?_
    show Go p e below t T372 m 34 #[rv ma, rv b369, iv (0 : Int32), rv pa, iv (4 : Int32), iv (0 : Int32), .unset] [(.int (0 : Int32)), (.ref pa)]
    exact k)
  obtain ⟨cl377, Ar377, q377, S377, M377, H377, G377⟩ := id (P2.ext E369)
  have g378 : Goes p e below S0 (T372.setTop (mkF m 40 #[rv ma, rv b369, iv (0 : Int32), rv pa, iv (4 : Int32), iv (0 : Int32), iv p0] [(.ref ma), (.int p0)])) := fun t k => g376 t (by
    refine X372.iaload hx (j := (0 : Int32)) (v := (.int p0)) (by rw [e372]; exact Ar377.1) (State.isArrayOf_alike hZ.alike Ar377.2.1) Ar377.2.2 (inb_of S377 ⟨by decide, by decide⟩) (H377.at (inb_of S377 ⟨by decide, by decide⟩) rfl) (g := (mkF m 34 #[rv ma, rv b369, iv (0 : Int32), rv pa, iv (4 : Int32), iv (0 : Int32), .unset] [(.int (0 : Int32)), (.ref pa)])) rfl rfl (hb hby d4_34) _ ?_
    show Go p e below t T372 m 35 #[rv ma, rv b369, iv (0 : Int32), rv pa, iv (4 : Int32), iv (0 : Int32), .unset] [(.int p0)]
    refine XS.istore X372.here hx rfl (hb hby d4_35) rfl (l' := #[rv ma, rv b369, iv (0 : Int32), rv pa, iv (4 : Int32), iv (0 : Int32), iv p0]) rfl ?_
    show Go p e below t T372 m 37 #[rv ma, rv b369, iv (0 : Int32), rv pa, iv (4 : Int32), iv (0 : Int32), iv p0] []
    refine XS.iload X372.here hx rfl (hb hby d4_37) rfl ?_
    show Go p e below t T372 m 39 #[rv ma, rv b369, iv (0 : Int32), rv pa, iv (4 : Int32), iv (0 : Int32), iv p0] [(.int p0)]
    refine XS.aloadN X372.here hx rfl (hb hby d4_39) rfl rfl ?_
    show Go p e below t T372 m 40 #[rv ma, rv b369, iv (0 : Int32), rv pa, iv (4 : Int32), iv (0 : Int32), iv p0] [(.ref ma), (.int p0)]
    exact k)
  obtain ⟨T379, X379, e379, st379⟩ := getF X372 hx hZ hown (host := "") (Or.inl (hw _ (List.mem_of_getElem? (i := 21) rfl))) Via.refl e372 (P1.ext E369) (g := (mkF m 40 #[rv ma, rv b369, iv (0 : Int32), rv pa, iv (4 : Int32), iv (0 : Int32), iv p0] [(.ref ma), (.int p0)])) rfl rfl (hb hby d4_40)
  have g380 : Goes p e below S0 (T379.setTop (mkF m 43 #[rv ma, rv b369, iv (0 : Int32), rv pa, iv (4 : Int32), iv (0 : Int32), iv p0] [(.int p2), (.int p0)])) := fun t k => g378 t (st379 t k)
  have g381 : Goes p e below S0 (T379.setTop (mkF m 53 #[rv ma, rv b369, iv (1 : Int32), rv pa, iv (4 : Int32), iv (0 : Int32), iv p0] [(.int p0), (.int (0 : Int32)), (.ref b369)])) := fun t k => g380 t (by
    refine XS.icmpNo X379.here hx rfl (hb hby d4_43) rfl (XT.ii_eq_f ne0) ?_
    show Go p e below t T379 m 46 #[rv ma, rv b369, iv (0 : Int32), rv pa, iv (4 : Int32), iv (0 : Int32), iv p0] []
    refine XS.aloadN X379.here hx rfl (hb hby d4_46) rfl rfl ?_
    show Go p e below t T379 m 47 #[rv ma, rv b369, iv (0 : Int32), rv pa, iv (4 : Int32), iv (0 : Int32), iv p0] [(.ref b369)]
    refine XS.iloadN X379.here hx rfl (hb hby d4_47) rfl ?_
    show Go p e below t T379 m 48 #[rv ma, rv b369, iv (0 : Int32), rv pa, iv (4 : Int32), iv (0 : Int32), iv p0] [(.int (0 : Int32)), (.ref b369)]
    refine XT.iincV X379.here hx rfl (1 : Int32) (hb hby d4_48) (by decide) rfl (l' := #[rv ma, rv b369, iv (1 : Int32), rv pa, iv (4 : Int32), iv (0 : Int32), iv p0]) rfl ?_
    show Go p e below t T379 m 51 #[rv ma, rv b369, iv (1 : Int32), rv pa, iv (4 : Int32), iv (0 : Int32), iv p0] [(.int (0 : Int32)), (.ref b369)]
    refine XS.iload X379.here hx rfl (hb hby d4_51) rfl ?_
    show Go p e below t T379 m 53 #[rv ma, rv b369, iv (1 : Int32), rv pa, iv (4 : Int32), iv (0 : Int32), iv p0] [(.int p0), (.int (0 : Int32)), (.ref b369)]
    exact k)
  obtain ⟨cl382, Ar382, q382, S382, M382, H382, G382⟩ := id V369
  obtain ⟨T383, h383, X383, e383, W383, st383⟩ := stI X379 hx hZ e379 Ar382 (j := (0 : Int32)) (inb_of S382 ⟨by decide, by decide⟩) (g := (mkF m 53 #[rv ma, rv b369, iv (1 : Int32), rv pa, iv (4 : Int32), iv (0 : Int32), iv p0] [(.int p0), (.int (0 : Int32)), (.ref b369)])) rfl rfl (hb hby d4_53)
  have N383 := Fr.snoc X383 N0 ng369
  have V383 : Arv Z h383 b369 k369 .int (3 : Int32) [(.int p0), (.int (0 : Int32)), (.int (0 : Int32))] (.int (0 : Int32)) := Arv.set Ar382 q382 S382 M382 H382 G382 rfl W383 0 rfl (Nat.le_of_ble_eq_true rfl)
  have g384 : Goes p e below S0 (T383.setTop (mkF m 54 #[rv ma, rv b369, iv (1 : Int32), rv pa, iv (4 : Int32), iv (0 : Int32), iv p0] [])) := fun t k => g381 t (st383 t k)
  have g385 : Goes p e below S0 (T383.setTop (mkF m 34 #[rv ma, rv b369, iv (1 : Int32), rv pa, iv (4 : Int32), iv (1 : Int32), iv p0] [(.int (1 : Int32)), (.ref pa)])) := fun t k => g384 t (by
    refine XT.iincV X383.here hx rfl (1 : Int32) (hb hby d4_54) (by decide) rfl (l' := #[rv ma, rv b369, iv (1 : Int32), rv pa, iv (4 : Int32), iv (1 : Int32), iv p0]) rfl ?_
    show Go p e below t T383 m 57 #[rv ma, rv b369, iv (1 : Int32), rv pa, iv (4 : Int32), iv (1 : Int32), iv p0] []
    refine XS.goto X383.here hx rfl (pc0 := 57) (pc' := 24) rfl (hb hby d4_57) (by decide) (by decide) ?_
    show Go p e below t T383 m 24 #[rv ma, rv b369, iv (1 : Int32), rv pa, iv (4 : Int32), iv (1 : Int32), iv p0] []
    refine XS.iload X383.here hx rfl (hb hby d4_24) rfl ?_
    show Go p e below t T383 m 26 #[rv ma, rv b369, iv (1 : Int32), rv pa, iv (4 : Int32), iv (1 : Int32), iv p0] [(.int (1 : Int32))]
    refine XS.iload X383.here hx rfl (hb hby d4_26) rfl ?_
    show Go p e below t T383 m 28 #[rv ma, rv b369, iv (1 : Int32), rv pa, iv (4 : Int32), iv (1 : Int32), iv p0] [(.int (4 : Int32)), (.int (1 : Int32))]
    refine XS.icmpNo X383.here hx rfl (hb hby d4_28) rfl (XT.ii_ge_f (by decide)) ?_
    show Go p e below t T383 m 31 #[rv ma, rv b369, iv (1 : Int32), rv pa, iv (4 : Int32), iv (1 : Int32), iv p0] []
    refine XS.aloadN X383.here hx rfl (hb hby d4_31) rfl rfl ?_
    show Go p e below t T383 m 32 #[rv ma, rv b369, iv (1 : Int32), rv pa, iv (4 : Int32), iv (1 : Int32), iv p0] [(.ref pa)]
    refine XS.iload X383.here hx rfl (hb hby d4_32) rfl ?_
    show Go p e below t T383 m 34 #[rv ma, rv b369, iv (1 : Int32), rv pa, iv (4 : Int32), iv (1 : Int32), iv p0] [(.int (1 : Int32)), (.ref pa)]
    exact k)
  obtain ⟨cl386, Ar386, q386, S386, M386, H386, G386⟩ := id ((P2.ext E369).other W383 (Nat.ne_of_lt (Nat.lt_of_lt_of_le P2.lt (Nat.le_of_eq gb369.symm))))
  have g387 : Goes p e below S0 (T383.setTop (mkF m 40 #[rv ma, rv b369, iv (1 : Int32), rv pa, iv (4 : Int32), iv (1 : Int32), iv p1] [(.ref ma), (.int p1)])) := fun t k => g385 t (by
    refine X383.iaload hx (j := (1 : Int32)) (v := (.int p1)) (by rw [e383]; exact Ar386.1) (State.isArrayOf_alike hZ.alike Ar386.2.1) Ar386.2.2 (inb_of S386 ⟨by decide, by decide⟩) (H386.at (inb_of S386 ⟨by decide, by decide⟩) rfl) (g := (mkF m 34 #[rv ma, rv b369, iv (1 : Int32), rv pa, iv (4 : Int32), iv (1 : Int32), iv p0] [(.int (1 : Int32)), (.ref pa)])) rfl rfl (hb hby d4_34) _ ?_
    show Go p e below t T383 m 35 #[rv ma, rv b369, iv (1 : Int32), rv pa, iv (4 : Int32), iv (1 : Int32), iv p0] [(.int p1)]
    refine XS.istore X383.here hx rfl (hb hby d4_35) rfl (l' := #[rv ma, rv b369, iv (1 : Int32), rv pa, iv (4 : Int32), iv (1 : Int32), iv p1]) rfl ?_
    show Go p e below t T383 m 37 #[rv ma, rv b369, iv (1 : Int32), rv pa, iv (4 : Int32), iv (1 : Int32), iv p1] []
    refine XS.iload X383.here hx rfl (hb hby d4_37) rfl ?_
    show Go p e below t T383 m 39 #[rv ma, rv b369, iv (1 : Int32), rv pa, iv (4 : Int32), iv (1 : Int32), iv p1] [(.int p1)]
    refine XS.aloadN X383.here hx rfl (hb hby d4_39) rfl rfl ?_
    show Go p e below t T383 m 40 #[rv ma, rv b369, iv (1 : Int32), rv pa, iv (4 : Int32), iv (1 : Int32), iv p1] [(.ref ma), (.int p1)]
    exact k)
  obtain ⟨T388, X388, e388, st388⟩ := getF X383 hx hZ hown (host := "") (Or.inl (hw _ (List.mem_of_getElem? (i := 21) rfl))) Via.refl e383 ((P1.ext E369).other W383 (Or.inl (Nat.ne_of_lt (Nat.lt_of_lt_of_le P0.lt (Nat.le_of_eq gb369.symm))))) (g := (mkF m 40 #[rv ma, rv b369, iv (1 : Int32), rv pa, iv (4 : Int32), iv (1 : Int32), iv p1] [(.ref ma), (.int p1)])) rfl rfl (hb hby d4_40)
  have g389 : Goes p e below S0 (T388.setTop (mkF m 43 #[rv ma, rv b369, iv (1 : Int32), rv pa, iv (4 : Int32), iv (1 : Int32), iv p1] [(.int p2), (.int p1)])) := fun t k => g387 t (st388 t k)
  have g390 : Goes p e below S0 (T388.setTop (mkF m 53 #[rv ma, rv b369, iv (2 : Int32), rv pa, iv (4 : Int32), iv (1 : Int32), iv p1] [(.int p1), (.int (1 : Int32)), (.ref b369)])) := fun t k => g389 t (by
    refine XS.icmpNo X388.here hx rfl (hb hby d4_43) rfl (XT.ii_eq_f ne1) ?_
    show Go p e below t T388 m 46 #[rv ma, rv b369, iv (1 : Int32), rv pa, iv (4 : Int32), iv (1 : Int32), iv p1] []
    refine XS.aloadN X388.here hx rfl (hb hby d4_46) rfl rfl ?_
    show Go p e below t T388 m 47 #[rv ma, rv b369, iv (1 : Int32), rv pa, iv (4 : Int32), iv (1 : Int32), iv p1] [(.ref b369)]
    refine XS.iloadN X388.here hx rfl (hb hby d4_47) rfl ?_
    show Go p e below t T388 m 48 #[rv ma, rv b369, iv (1 : Int32), rv pa, iv (4 : Int32), iv (1 : Int32), iv p1] [(.int (1 : Int32)), (.ref b369)]
    refine XT.iincV X388.here hx rfl (1 : Int32) (hb hby d4_48) (by decide) rfl (l' := #[rv ma, rv b369, iv (2 : Int32), rv pa, iv (4 : Int32), iv (1 : Int32), iv p1]) rfl ?_
    show Go p e below t T388 m 51 #[rv ma, rv b369, iv (2 : Int32), rv pa, iv (4 : Int32), iv (1 : Int32), iv p1] [(.int (1 : Int32)), (.ref b369)]
    refine XS.iload X388.here hx rfl (hb hby d4_51) rfl ?_
    show Go p e below t T388 m 53 #[rv ma, rv b369, iv (2 : Int32), rv pa, iv (4 : Int32), iv (1 : Int32), iv p1] [(.int p1), (.int (1 : Int32)), (.ref b369)]
    exact k)
  obtain ⟨cl391, Ar391, q391, S391, M391, H391, G391⟩ := id V383
  obtain ⟨T392, h392, X392, e392, W392, st392⟩ := stI X388 hx hZ e388 Ar391 (j := (1 : Int32)) (inb_of S391 ⟨by decide, by decide⟩) (g := (mkF m 53 #[rv ma, rv b369, iv (2 : Int32), rv pa, iv (4 : Int32), iv (1 : Int32), iv p1] [(.int p1), (.int (1 : Int32)), (.ref b369)])) rfl rfl (hb hby d4_53)
  have N392 := Fr.snoc X392 N383 ng369
  have V392 : Arv Z h392 b369 k369 .int (3 : Int32) [(.int p0), (.int p1), (.int (0 : Int32))] (.int (0 : Int32)) := Arv.set Ar391 q391 S391 M391 H391 G391 rfl W392 1 rfl (Nat.le_of_ble_eq_true rfl)
  have g393 : Goes p e below S0 (T392.setTop (mkF m 54 #[rv ma, rv b369, iv (2 : Int32), rv pa, iv (4 : Int32), iv (1 : Int32), iv p1] [])) := fun t k => g390 t (st392 t k)
  have g394 : Goes p e below S0 (T392.setTop (mkF m 34 #[rv ma, rv b369, iv (2 : Int32), rv pa, iv (4 : Int32), iv (2 : Int32), iv p1] [(.int (2 : Int32)), (.ref pa)])) := fun t k => g393 t (by
    refine XT.iincV X392.here hx rfl (1 : Int32) (hb hby d4_54) (by decide) rfl (l' := #[rv ma, rv b369, iv (2 : Int32), rv pa, iv (4 : Int32), iv (2 : Int32), iv p1]) rfl ?_
    show Go p e below t T392 m 57 #[rv ma, rv b369, iv (2 : Int32), rv pa, iv (4 : Int32), iv (2 : Int32), iv p1] []
    refine XS.goto X392.here hx rfl (pc0 := 57) (pc' := 24) rfl (hb hby d4_57) (by decide) (by decide) ?_
    show Go p e below t T392 m 24 #[rv ma, rv b369, iv (2 : Int32), rv pa, iv (4 : Int32), iv (2 : Int32), iv p1] []
    refine XS.iload X392.here hx rfl (hb hby d4_24) rfl ?_
    show Go p e below t T392 m 26 #[rv ma, rv b369, iv (2 : Int32), rv pa, iv (4 : Int32), iv (2 : Int32), iv p1] [(.int (2 : Int32))]
    refine XS.iload X392.here hx rfl (hb hby d4_26) rfl ?_
    show Go p e below t T392 m 28 #[rv ma, rv b369, iv (2 : Int32), rv pa, iv (4 : Int32), iv (2 : Int32), iv p1] [(.int (4 : Int32)), (.int (2 : Int32))]
    refine XS.icmpNo X392.here hx rfl (hb hby d4_28) rfl (XT.ii_ge_f (by decide)) ?_
    show Go p e below t T392 m 31 #[rv ma, rv b369, iv (2 : Int32), rv pa, iv (4 : Int32), iv (2 : Int32), iv p1] []
    refine XS.aloadN X392.here hx rfl (hb hby d4_31) rfl rfl ?_
    show Go p e below t T392 m 32 #[rv ma, rv b369, iv (2 : Int32), rv pa, iv (4 : Int32), iv (2 : Int32), iv p1] [(.ref pa)]
    refine XS.iload X392.here hx rfl (hb hby d4_32) rfl ?_
    show Go p e below t T392 m 34 #[rv ma, rv b369, iv (2 : Int32), rv pa, iv (4 : Int32), iv (2 : Int32), iv p1] [(.int (2 : Int32)), (.ref pa)]
    exact k)
  obtain ⟨cl395, Ar395, q395, S395, M395, H395, G395⟩ := id (((P2.ext E369).other W383 (Nat.ne_of_lt (Nat.lt_of_lt_of_le P2.lt (Nat.le_of_eq gb369.symm)))).other W392 (Nat.ne_of_lt (Nat.lt_of_lt_of_le P2.lt (Nat.le_of_eq gb369.symm))))
  have g396 : Goes p e below S0 (T392.setTop (mkF m 40 #[rv ma, rv b369, iv (2 : Int32), rv pa, iv (4 : Int32), iv (2 : Int32), iv p2] [(.ref ma), (.int p2)])) := fun t k => g394 t (by
    refine X392.iaload hx (j := (2 : Int32)) (v := (.int p2)) (by rw [e392]; exact Ar395.1) (State.isArrayOf_alike hZ.alike Ar395.2.1) Ar395.2.2 (inb_of S395 ⟨by decide, by decide⟩) (H395.at (inb_of S395 ⟨by decide, by decide⟩) rfl) (g := (mkF m 34 #[rv ma, rv b369, iv (2 : Int32), rv pa, iv (4 : Int32), iv (2 : Int32), iv p1] [(.int (2 : Int32)), (.ref pa)])) rfl rfl (hb hby d4_34) _ ?_
    show Go p e below t T392 m 35 #[rv ma, rv b369, iv (2 : Int32), rv pa, iv (4 : Int32), iv (2 : Int32), iv p1] [(.int p2)]
    refine XS.istore X392.here hx rfl (hb hby d4_35) rfl (l' := #[rv ma, rv b369, iv (2 : Int32), rv pa, iv (4 : Int32), iv (2 : Int32), iv p2]) rfl ?_
    show Go p e below t T392 m 37 #[rv ma, rv b369, iv (2 : Int32), rv pa, iv (4 : Int32), iv (2 : Int32), iv p2] []
    refine XS.iload X392.here hx rfl (hb hby d4_37) rfl ?_
    show Go p e below t T392 m 39 #[rv ma, rv b369, iv (2 : Int32), rv pa, iv (4 : Int32), iv (2 : Int32), iv p2] [(.int p2)]
    refine XS.aloadN X392.here hx rfl (hb hby d4_39) rfl rfl ?_
    show Go p e below t T392 m 40 #[rv ma, rv b369, iv (2 : Int32), rv pa, iv (4 : Int32), iv (2 : Int32), iv p2] [(.ref ma), (.int p2)]
    exact k)
  obtain ⟨T397, X397, e397, st397⟩ := getF X392 hx hZ hown (host := "") (Or.inl (hw _ (List.mem_of_getElem? (i := 21) rfl))) Via.refl e392 (((P1.ext E369).other W383 (Or.inl (Nat.ne_of_lt (Nat.lt_of_lt_of_le P0.lt (Nat.le_of_eq gb369.symm))))).other W392 (Or.inl (Nat.ne_of_lt (Nat.lt_of_lt_of_le P0.lt (Nat.le_of_eq gb369.symm))))) (g := (mkF m 40 #[rv ma, rv b369, iv (2 : Int32), rv pa, iv (4 : Int32), iv (2 : Int32), iv p2] [(.ref ma), (.int p2)])) rfl rfl (hb hby d4_40)
  have g398 : Goes p e below S0 (T397.setTop (mkF m 43 #[rv ma, rv b369, iv (2 : Int32), rv pa, iv (4 : Int32), iv (2 : Int32), iv p2] [(.int p2), (.int p2)])) := fun t k => g396 t (st397 t k)
  have g399 : Goes p e below S0 (T397.setTop (mkF m 34 #[rv ma, rv b369, iv (2 : Int32), rv pa, iv (4 : Int32), iv (3 : Int32), iv p2] [(.int (3 : Int32)), (.ref pa)])) := fun t k => g398 t (by
    refine XS.icmpYes X397.here hx rfl (pc0 := 43) (pc' := 54) rfl (hb hby d4_43) rfl (XT.ii_eq_t rfl) (by decide) (by decide) ?_
    show Go p e below t T397 m 54 #[rv ma, rv b369, iv (2 : Int32), rv pa, iv (4 : Int32), iv (2 : Int32), iv p2] []
    refine XT.iincV X397.here hx rfl (1 : Int32) (hb hby d4_54) (by decide) rfl (l' := #[rv ma, rv b369, iv (2 : Int32), rv pa, iv (4 : Int32), iv (3 : Int32), iv p2]) rfl ?_
    show Go p e below t T397 m 57 #[rv ma, rv b369, iv (2 : Int32), rv pa, iv (4 : Int32), iv (3 : Int32), iv p2] []
    refine XS.goto X397.here hx rfl (pc0 := 57) (pc' := 24) rfl (hb hby d4_57) (by decide) (by decide) ?_
    show Go p e below t T397 m 24 #[rv ma, rv b369, iv (2 : Int32), rv pa, iv (4 : Int32), iv (3 : Int32), iv p2] []
    refine XS.iload X397.here hx rfl (hb hby d4_24) rfl ?_
    show Go p e below t T397 m 26 #[rv ma, rv b369, iv (2 : Int32), rv pa, iv (4 : Int32), iv (3 : Int32), iv p2] [(.int (3 : Int32))]
    refine XS.iload X397.here hx rfl (hb hby d4_26) rfl ?_
    show Go p e below t T397 m 28 #[rv ma, rv b369, iv (2 : Int32), rv pa, iv (4 : Int32), iv (3 : Int32), iv p2] [(.int (4 : Int32)), (.int (3 : Int32))]
    refine XS.icmpNo X397.here hx rfl (hb hby d4_28) rfl (XT.ii_ge_f (by decide)) ?_
    show Go p e below t T397 m 31 #[rv ma, rv b369, iv (2 : Int32), rv pa, iv (4 : Int32), iv (3 : Int32), iv p2] []
    refine XS.aloadN X397.here hx rfl (hb hby d4_31) rfl rfl ?_
    show Go p e below t T397 m 32 #[rv ma, rv b369, iv (2 : Int32), rv pa, iv (4 : Int32), iv (3 : Int32), iv p2] [(.ref pa)]
    refine XS.iload X397.here hx rfl (hb hby d4_32) rfl ?_
    show Go p e below t T397 m 34 #[rv ma, rv b369, iv (2 : Int32), rv pa, iv (4 : Int32), iv (3 : Int32), iv p2] [(.int (3 : Int32)), (.ref pa)]
    exact k)
  obtain ⟨cl400, Ar400, q400, S400, M400, H400, G400⟩ := id (((P2.ext E369).other W383 (Nat.ne_of_lt (Nat.lt_of_lt_of_le P2.lt (Nat.le_of_eq gb369.symm)))).other W392 (Nat.ne_of_lt (Nat.lt_of_lt_of_le P2.lt (Nat.le_of_eq gb369.symm))))
  have g401 : Goes p e below S0 (T397.setTop (mkF m 40 #[rv ma, rv b369, iv (2 : Int32), rv pa, iv (4 : Int32), iv (3 : Int32), iv p3] [(.ref ma), (.int p3)])) := fun t k => g399 t (by
    refine X397.iaload hx (j := (3 : Int32)) (v := (.int p3)) (by rw [e397]; exact Ar400.1) (State.isArrayOf_alike hZ.alike Ar400.2.1) Ar400.2.2 (inb_of S400 ⟨by decide, by decide⟩) (H400.at (inb_of S400 ⟨by decide, by decide⟩) rfl) (g := (mkF m 34 #[rv ma, rv b369, iv (2 : Int32), rv pa, iv (4 : Int32), iv (3 : Int32), iv p2] [(.int (3 : Int32)), (.ref pa)])) rfl rfl (hb hby d4_34) _ ?_
    show Go p e below t T397 m 35 #[rv ma, rv b369, iv (2 : Int32), rv pa, iv (4 : Int32), iv (3 : Int32), iv p2] [(.int p3)]
    refine XS.istore X397.here hx rfl (hb hby d4_35) rfl (l' := #[rv ma, rv b369, iv (2 : Int32), rv pa, iv (4 : Int32), iv (3 : Int32), iv p3]) rfl ?_
    show Go p e below t T397 m 37 #[rv ma, rv b369, iv (2 : Int32), rv pa, iv (4 : Int32), iv (3 : Int32), iv p3] []
    refine XS.iload X397.here hx rfl (hb hby d4_37) rfl ?_
    show Go p e below t T397 m 39 #[rv ma, rv b369, iv (2 : Int32), rv pa, iv (4 : Int32), iv (3 : Int32), iv p3] [(.int p3)]
    refine XS.aloadN X397.here hx rfl (hb hby d4_39) rfl rfl ?_
    show Go p e below t T397 m 40 #[rv ma, rv b369, iv (2 : Int32), rv pa, iv (4 : Int32), iv (3 : Int32), iv p3] [(.ref ma), (.int p3)]
    exact k)
  obtain ⟨T402, X402, e402, st402⟩ := getF X397 hx hZ hown (host := "") (Or.inl (hw _ (List.mem_of_getElem? (i := 21) rfl))) Via.refl e397 (((P1.ext E369).other W383 (Or.inl (Nat.ne_of_lt (Nat.lt_of_lt_of_le P0.lt (Nat.le_of_eq gb369.symm))))).other W392 (Or.inl (Nat.ne_of_lt (Nat.lt_of_lt_of_le P0.lt (Nat.le_of_eq gb369.symm))))) (g := (mkF m 40 #[rv ma, rv b369, iv (2 : Int32), rv pa, iv (4 : Int32), iv (3 : Int32), iv p3] [(.ref ma), (.int p3)])) rfl rfl (hb hby d4_40)
  have g403 : Goes p e below S0 (T402.setTop (mkF m 43 #[rv ma, rv b369, iv (2 : Int32), rv pa, iv (4 : Int32), iv (3 : Int32), iv p3] [(.int p2), (.int p3)])) := fun t k => g401 t (st402 t k)
  have g404 : Goes p e below S0 (T402.setTop (mkF m 53 #[rv ma, rv b369, iv (3 : Int32), rv pa, iv (4 : Int32), iv (3 : Int32), iv p3] [(.int p3), (.int (2 : Int32)), (.ref b369)])) := fun t k => g403 t (by
    refine XS.icmpNo X402.here hx rfl (hb hby d4_43) rfl (XT.ii_eq_f ne3) ?_
    show Go p e below t T402 m 46 #[rv ma, rv b369, iv (2 : Int32), rv pa, iv (4 : Int32), iv (3 : Int32), iv p3] []
    refine XS.aloadN X402.here hx rfl (hb hby d4_46) rfl rfl ?_
    show Go p e below t T402 m 47 #[rv ma, rv b369, iv (2 : Int32), rv pa, iv (4 : Int32), iv (3 : Int32), iv p3] [(.ref b369)]
    refine XS.iloadN X402.here hx rfl (hb hby d4_47) rfl ?_
    show Go p e below t T402 m 48 #[rv ma, rv b369, iv (2 : Int32), rv pa, iv (4 : Int32), iv (3 : Int32), iv p3] [(.int (2 : Int32)), (.ref b369)]
    refine XT.iincV X402.here hx rfl (1 : Int32) (hb hby d4_48) (by decide) rfl (l' := #[rv ma, rv b369, iv (3 : Int32), rv pa, iv (4 : Int32), iv (3 : Int32), iv p3]) rfl ?_
    show Go p e below t T402 m 51 #[rv ma, rv b369, iv (3 : Int32), rv pa, iv (4 : Int32), iv (3 : Int32), iv p3] [(.int (2 : Int32)), (.ref b369)]
    refine XS.iload X402.here hx rfl (hb hby d4_51) rfl ?_
    show Go p e below t T402 m 53 #[rv ma, rv b369, iv (3 : Int32), rv pa, iv (4 : Int32), iv (3 : Int32), iv p3] [(.int p3), (.int (2 : Int32)), (.ref b369)]
    exact k)
  obtain ⟨cl405, Ar405, q405, S405, M405, H405, G405⟩ := id V392
  obtain ⟨T406, h406, X406, e406, W406, st406⟩ := stI X402 hx hZ e402 Ar405 (j := (2 : Int32)) (inb_of S405 ⟨by decide, by decide⟩) (g := (mkF m 53 #[rv ma, rv b369, iv (3 : Int32), rv pa, iv (4 : Int32), iv (3 : Int32), iv p3] [(.int p3), (.int (2 : Int32)), (.ref b369)])) rfl rfl (hb hby d4_53)
  have N406 := Fr.snoc X406 N392 ng369
  have V406 : Arv Z h406 b369 k369 .int (3 : Int32) [(.int p0), (.int p1), (.int p3)] (.int (0 : Int32)) := Arv.set Ar405 q405 S405 M405 H405 G405 rfl W406 2 rfl (Nat.le_of_ble_eq_true rfl)
  have g407 : Goes p e below S0 (T406.setTop (mkF m 54 #[rv ma, rv b369, iv (3 : Int32), rv pa, iv (4 : Int32), iv (3 : Int32), iv p3] [])) := fun t k => g404 t (st406 t k)
  have g408 : Goes p e below S0 (T406.setTop (mkF m 61 #[rv ma, rv b369, iv (3 : Int32), rv pa, iv (4 : Int32), iv (4 : Int32), iv p3] [(.ref b369)])) := fun t k => g407 t (by
    refine XT.iincV X406.here hx rfl (1 : Int32) (hb hby d4_54) (by decide) rfl (l' := #[rv ma, rv b369, iv (3 : Int32), rv pa, iv (4 : Int32), iv (4 : Int32), iv p3]) rfl ?_
    show Go p e below t T406 m 57 #[rv ma, rv b369, iv (3 : Int32), rv pa, iv (4 : Int32), iv (4 : Int32), iv p3] []
    refine XS.goto X406.here hx rfl (pc0 := 57) (pc' := 24) rfl (hb hby d4_57) (by decide) (by decide) ?_
    show Go p e below t T406 m 24 #[rv ma, rv b369, iv (3 : Int32), rv pa, iv (4 : Int32), iv (4 : Int32), iv p3] []
    refine XS.iload X406.here hx rfl (hb hby d4_24) rfl ?_
    show Go p e below t T406 m 26 #[rv ma, rv b369, iv (3 : Int32), rv pa, iv (4 : Int32), iv (4 : Int32), iv p3] [(.int (4 : Int32))]
    refine XS.iload X406.here hx rfl (hb hby d4_26) rfl ?_
    show Go p e below t T406 m 28 #[rv ma, rv b369, iv (3 : Int32), rv pa, iv (4 : Int32), iv (4 : Int32), iv p3] [(.int (4 : Int32)), (.int (4 : Int32))]
    refine XS.icmpYes X406.here hx rfl (pc0 := 28) (pc' := 60) rfl (hb hby d4_28) rfl (XT.ii_ge_t (by decide)) (by decide) (by decide) ?_
    show Go p e below t T406 m 60 #[rv ma, rv b369, iv (3 : Int32), rv pa, iv (4 : Int32), iv (4 : Int32), iv p3] []
    refine XS.aloadN X406.here hx rfl (hb hby d4_60) rfl rfl ?_
    show Go p e below t T406 m 61 #[rv ma, rv b369, iv (3 : Int32), rv pa, iv (4 : Int32), iv (4 : Int32), iv p3] [(.ref b369)]
    exact k)
  obtain ⟨fs, hr, hrun, hended, hW, hsame⟩ := X406.leave (v := some (.ref b369)) (fun h => by rw [Bd.returns] at h; cases h)
  refine ⟨_, _, g408 _ (retOut X406 hx Bd.returns rfl (Or.inr (Or.inr (Or.inr (Or.inr ⟨rfl, rfl, rfl⟩)))) (hb hby d4_61) hr), hrun, hended, _, _, rfl, ?_, ⟨_, rfl⟩, hW, hsame.mono (by decide) (by decide)⟩
  show Q_md42 Z ma pa pk p0 p1 p2 p3 h0 n0 _ T406.heap _
  rw [e406]
  exact ⟨b369, k369, rfl, N406, (((((Keep.refl h0 []).ext E369).wr W383 (Or.inr sz369)).wr W392 (Or.inr sz369)).wr W406 (Or.inr sz369)), V406, sz369⟩
theorem pf_md43 : plainFor (⟨"com/example/aristotle/aristotle/EliminationPlan$Step", "made", "()[I"⟩ : MethodName) = true := by first | exact plainFor_of_name (by first | (simp [plainName, overriddenIn, x]; done) | decide +kernel) | exact Jvm.Free.JP.mathPlain rfl (by decide +kernel) | decide +kernel
theorem ef_md43 (m : MethodId) (ma : Addr) : entryFrame m #[(.ref ma)] 7 = mkF m 0 #[rv ma, .unset, .unset, .unset, .unset, .unset, .unset] [] := by first | (simp [entryFrame, mkF, argsToLocals, Value.category, maxLocals]; done) | rfl
def Q_md43 (Z : State) (ma : Addr) (pa : Addr) (pk : ClassId) (p0 : Int32) (p1 : Int32) (p2 : Int32) (p3 : Int32) (h0 : Heap) (n0 : Nat) (v : Option Value) (h : Heap) (L : List Loc) : Prop := ∃ (ra : Addr) (rk : ClassId), v = some (.ref ra) ∧ Fr n0 L ∧ (Keep h0 h []) ∧ (Arv Z h ra rk .int (3 : Int32) [(.int p0), (.int p1), (.int p2)] (.int (0 : Int32))) ∧ (h0.size ≤ ra)
set_option maxRecDepth 65536 in
set_option maxHeartbeats 40000000 in
theorem rm_md43 (l : Launch) (Z : State) (a0 : Array Value) (hw : ∀ d ∈ tables_1, d.before a0 Z = true) (ws : List Jvm.Cond) (ma : Addr) (pa : Addr) (pk : ClassId) (p0 : Int32) (p1 : Int32) (p2 : Int32) (p3 : Int32) (h0 : Heap) (n0 : Nat) (Z0 : n0 ≤ h0.size) (P0 : Fld Z h0 ma "com/example/aristotle/aristotle/EliminationPlan$Step" "product" "[I" (.ref pa)) (P1 : Fld Z h0 ma "com/example/aristotle/aristotle/EliminationPlan$Step" "variable" "I" (.int p3)) (P2 : Arv Z h0 pa pk .int (4 : Int32) [(.int p0), (.int p1), (.int p2), (.int p3)] (.int (0 : Int32))) (ne0 : ¬ (p0 = p3)) (ne1 : ¬ (p1 = p3)) (ne2 : ¬ (p2 = p3))  :
    MetFree l (⟨"com/example/aristotle/aristotle/EliminationPlan$Step", "made", "()[I"⟩ : MethodName) (head1 (Jvm.Cond.code (⟨"com/example/aristotle/aristotle/EliminationPlan$Step", "made", "()[I"⟩ : MethodName) prog_48_method_2_code 7 (some (.array .int)) :: ws) ({ frames := 0, cells := 1, slots := 3, locals := 0 } : Room)) (fun a U => a = #[(.ref ma)] ∧ Z.Warmed39 U.vm ∧ U.heap = h0) (fun _ _ _ _ _ => True) (fun _ U o U' => ∃ v L, o = .returned v ∧ Q_md43 Z ma pa pk p0 p1 p2 p3 h0 n0 v U'.heap L ∧ FrameEnd U o U' L ({ frames := 0, cells := 1, slots := 3, locals := 0 } : Room).cells ({ frames := 0, cells := 1, slots := 3, locals := 0 } : Room).slots) := by
  refine MetFree.of_bodySF pf_md43 hisR ?_
  intro p e s m args below meth c s₁ Bd hml0 hP hK
  obtain ⟨rfl, hZ, hh⟩ := hP
  have hx := Bd.exec
  have hby := Bd.bytes
  have hml : c.maxLocals = 7 := hml0
  have hown : s.vm.findClass "com/example/aristotle/aristotle/EliminationPlan$Step" = some m.cls := findClass_of_methodNamed Bd.named
  have hnm := (name_of_methodNamed Bd.named Bd.method).1
  have X0 : Stand p l e ({ frames := 0, cells := 1, slots := 3, locals := 0 } : Room) s m #[(.ref ma)] below meth c s₁ [] 0 0 := Stand.of_body Bd
  have e0 : s₁.heap = h0 := by rw [← hh, Bd.state]; rfl
  have N0 := Fr.nil n0
  obtain ⟨S0, hS0⟩ : ∃ z, z = s₁.setTop (entryFrame m #[(.ref ma)] 7) := ⟨_, rfl⟩
  rw [← hS0]
  have g0 : Goes p e below S0 (s₁.setTop (mkF m 0 #[rv ma, .unset, .unset, .unset, .unset, .unset, .unset] [])) := fun t k => by rw [hS0]; exact castTop (ef_md43 m ma) k
  have g409 : Goes p e below S0 (s₁.setTop (mkF m 1 #[rv ma, .unset, .unset, .unset, .unset, .unset, .unset] [(.ref ma)])) := fun t k => g0 t (by
    refine XS.aloadN X0.here hx rfl (hb hby d4_0) rfl rfl ?_
    show Go p e below t s₁ m 1 #[rv ma, .unset, .unset, .unset, .unset, .unset, .unset] [(.ref ma)]
    exact k)
  obtain ⟨T410, X410, e410, st410⟩ := getF X0 hx hZ hown (host := "") (Or.inl (hw _ (List.mem_of_getElem? (i := 25) rfl))) Via.refl e0 P0 (g := (mkF m 1 #[rv ma, .unset, .unset, .unset, .unset, .unset, .unset] [(.ref ma)])) rfl rfl (hb hby d4_1)
  have g411 : Goes p e below S0 (T410.setTop (mkF m 4 #[rv ma, .unset, .unset, .unset, .unset, .unset, .unset] [(.ref pa)])) := fun t k => g409 t (st410 t k)
  obtain ⟨cl412, Ar412, q412, S412, M412, H412, G412⟩ := id P2
  have g413 : Goes p e below S0 (T410.setTop (mkF m 7 #[rv ma, .unset, .unset, .unset, .unset, .unset, .unset] [(.int (3 : Int32))])) := fun t k => g411 t (by
    refine X410.arraylength hx (by rw [e410]; exact Ar412.1) (State.isArrayOf_alike hZ.alike Ar412.2.1) (g := (mkF m 4 #[rv ma, .unset, .unset, .unset, .unset, .unset, .unset] [(.ref pa)])) rfl rfl (hb hby d4_4) _ ?_
    rw [len_of S412 M412]
    show Go p e below t T410 m 5 #[rv ma, .unset, .unset, .unset, .unset, .unset, .unset] [(.int (4 : Int32))]
    refine XT.iconstV X410.here hx rfl (1 : Int32) (hb hby d4_5) (by decide) ?_
    show Go p e below t T410 m 6 #[rv ma, .unset, .unset, .unset, .unset, .unset, .unset] [(.int (1 : Int32)), (.int (4 : Int32))]
    refine XS.isub X410.here hx rfl (hb hby d4_6) rfl ?_
    rw [show ((4 : Int32) - (1 : Int32)) = (3 : Int32) by decide]
    show Go p e below t T410 m 7 #[rv ma, .unset, .unset, .unset, .unset, .unset, .unset] [(.int (3 : Int32))]
    exact k)
  obtain ⟨T414, h414, k414, X414, e414, E414, A414, st414⟩ := newP X410 hx hZ (hw _ (List.mem_of_getElem? (i := 1) rfl)) e410 (g := (mkF m 7 #[rv ma, .unset, .unset, .unset, .unset, .unset, .unset] [(.int (3 : Int32))])) rfl (hb hby d4_7) rfl (by decide) (cap := 3) (by decide) (by decide) (by decide) (by decide)
  obtain ⟨b414, gb414⟩ : ∃ z, z = h0.size := ⟨_, rfl⟩
  have sz414 : h0.size ≤ b414 := Nat.le_trans (Nat.le_refl _) (Nat.le_of_eq gb414.symm)
  have ng414 : n0 ≤ b414 := Nat.le_trans Z0 sz414
  rw [← gb414] at A414 st414
  have V414 : Arv Z h414 b414 k414 .int (3 : Int32) [(.int (0 : Int32)), (.int (0 : Int32)), (.int (0 : Int32))] (.int (0 : Int32)) := (Arv.new A414 (by decide)).pad (pad_rep [] (.int (0 : Int32)) 3)
  have g415 : Goes p e below S0 (T414.setTop (mkF m 9 #[rv ma, .unset, .unset, .unset, .unset, .unset, .unset] [(.ref b414)])) := fun t k => g413 t (st414 t k)
  have g416 : Goes p e below S0 (T414.setTop (mkF m 13 #[rv ma, rv b414, iv (0 : Int32), .unset, .unset, .unset, .unset] [(.ref ma)])) := fun t k => g415 t (by
    refine XS.astoreN X414.here hx rfl (hb hby d4_9) rfl rfl (l' := #[rv ma, rv b414, .unset, .unset, .unset, .unset, .unset]) rfl ?_
    show Go p e below t T414 m 10 #[rv ma, rv b414, .unset, .unset, .unset, .unset, .unset] []
    refine XT.iconstV X414.here hx rfl (0 : Int32) (hb hby d4_10) (by decide) ?_
    show Go p e below t T414 m 11 #[rv ma, rv b414, .unset, .unset, .unset, .unset, .unset] [(.int (0 : Int32))]
    refine XS.istoreN X414.here hx rfl (hb hby d4_11) rfl (l' := #[rv ma, rv b414, iv (0 : Int32), .unset, .unset, .unset, .unset]) rfl ?_
    show Go p e below t T414 m 12 #[rv ma, rv b414, iv (0 : Int32), .unset, .unset, .unset, .unset] []
    refine XS.aloadN X414.here hx rfl (hb hby d4_12) rfl rfl ?_
    show Go p e below t T414 m 13 #[rv ma, rv b414, iv (0 : Int32), .unset, .unset, .unset, .unset] [(.ref ma)]
    exact k)
  obtain ⟨T417, X417, e417, st417⟩ := getF X414 hx hZ hown (host := "") (Or.inl (hw _ (List.mem_of_getElem? (i := 25) rfl))) Via.refl e414 (P0.ext E414) (g := (mkF m 13 #[rv ma, rv b414, iv (0 : Int32), .unset, .unset, .unset, .unset] [(.ref ma)])) rfl rfl (hb hby d4_13)
  have g418 : Goes p e below S0 (T417.setTop (mkF m 16 #[rv ma, rv b414, iv (0 : Int32), .unset, .unset, .unset, .unset] [(.ref pa)])) := fun t k => g416 t (st417 t k)
  have g419 : Goes p e below S0 (T417.setTop (mkF m 18 #[rv ma, rv b414, iv (0 : Int32), rv pa, .unset, .unset, .unset] [(.ref pa)])) := fun t k => g418 t (by
    refine XS.astoreN X417.here hx rfl (hb hby d4_16) rfl rfl (l' := #[rv ma, rv b414, iv (0 : Int32), rv pa, .unset, .unset, .unset]) rfl ?_
    show Go p e below t T417 m 17 #[rv ma, rv b414, iv (0 : Int32), rv pa, .unset, .unset, .unset] []
    refine XS.aloadN X417.here hx rfl (hb hby d4_17) rfl rfl ?_
    show Go p e below t T417 m 18 #[rv ma, rv b414, iv (0 : Int32), rv pa, .unset, .unset, .unset] [(.ref pa)]
    exact k)
  obtain ⟨cl420, Ar420, q420, S420, M420, H420, G420⟩ := id (P2.ext E414)
  have g421 : Goes p e below S0 (T417.setTop (mkF m 34 #[rv ma, rv b414, iv (0 : Int32), rv pa, iv (4 : Int32), iv (0 : Int32), .unset] [(.int (0 : Int32)), (.ref pa)])) := fun t k => g419 t (by
    refine X417.arraylength hx (by rw [e417]; exact Ar420.1) (State.isArrayOf_alike hZ.alike Ar420.2.1) (g := (mkF m 18 #[rv ma, rv b414, iv (0 : Int32), rv pa, .unset, .unset, .unset] [(.ref pa)])) rfl rfl (hb hby d4_18) _ ?_
    rw [len_of S420 M420]
    show Go p e below t T417 m 19 #[rv ma, rv b414, iv (0 : Int32), rv pa, .unset, .unset, .unset] [(.int (4 : Int32))]
    refine XS.istore X417.here hx rfl (hb hby d4_19) rfl (l' := #[rv ma, rv b414, iv (0 : Int32), rv pa, iv (4 : Int32), .unset, .unset]) rfl ?_
    show Go p e below t T417 m 21 #[rv ma, rv b414, iv (0 : Int32), rv pa, iv (4 : Int32), .unset, .unset] []
    refine XT.iconstV X417.here hx rfl (0 : Int32) (hb hby d4_21) (by decide) ?_
    show Go p e below t T417 m 22 #[rv ma, rv b414, iv (0 : Int32), rv pa, iv (4 : Int32), .unset, .unset] [(.int (0 : Int32))]
    refine XS.istore X417.here hx rfl (hb hby d4_22) rfl (l' := #[rv ma, rv b414, iv (0 : Int32), rv pa, iv (4 : Int32), iv (0 : Int32), .unset]) rfl ?_
    show Go p e below t T417 m 24 #[rv ma, rv b414, iv (0 : Int32), rv pa, iv (4 : Int32), iv (0 : Int32), .unset] []
    refine XS.iload X417.here hx rfl (hb hby d4_24) rfl ?_
    show Go p e below t T417 m 26 #[rv ma, rv b414, iv (0 : Int32), rv pa, iv (4 : Int32), iv (0 : Int32), .unset] [(.int (0 : Int32))]
    refine XS.iload X417.here hx rfl (hb hby d4_26) rfl ?_
    show Go p e below t T417 m 28 #[rv ma, rv b414, iv (0 : Int32), rv pa, iv (4 : Int32), iv (0 : Int32), .unset] [(.int (4 : Int32)), (.int (0 : Int32))]
    refine XS.icmpNo X417.here hx rfl (hb hby d4_28) rfl (XT.ii_ge_f (by decide)) ?_
    show Go p e below t T417 m 31 #[rv ma, rv b414, iv (0 : Int32), rv pa, iv (4 : Int32), iv (0 : Int32), .unset] []
    refine XS.aloadN X417.here hx rfl (hb hby d4_31) rfl rfl ?_
    show Go p e below t T417 m 32 #[rv ma, rv b414, iv (0 : Int32), rv pa, iv (4 : Int32), iv (0 : Int32), .unset] [(.ref pa)]
    refine XS.iload X417.here hx rfl (hb hby d4_32) rfl ?_
    show Go p e below t T417 m 34 #[rv ma, rv b414, iv (0 : Int32), rv pa, iv (4 : Int32), iv (0 : Int32), .unset] [(.int (0 : Int32)), (.ref pa)]
    exact k)
  obtain ⟨cl422, Ar422, q422, S422, M422, H422, G422⟩ := id (P2.ext E414)
  have g423 : Goes p e below S0 (T417.setTop (mkF m 40 #[rv ma, rv b414, iv (0 : Int32), rv pa, iv (4 : Int32), iv (0 : Int32), iv p0] [(.ref ma), (.int p0)])) := fun t k => g421 t (by
    refine X417.iaload hx (j := (0 : Int32)) (v := (.int p0)) (by rw [e417]; exact Ar422.1) (State.isArrayOf_alike hZ.alike Ar422.2.1) Ar422.2.2 (inb_of S422 ⟨by decide, by decide⟩) (H422.at (inb_of S422 ⟨by decide, by decide⟩) rfl) (g := (mkF m 34 #[rv ma, rv b414, iv (0 : Int32), rv pa, iv (4 : Int32), iv (0 : Int32), .unset] [(.int (0 : Int32)), (.ref pa)])) rfl rfl (hb hby d4_34) _ ?_
    show Go p e below t T417 m 35 #[rv ma, rv b414, iv (0 : Int32), rv pa, iv (4 : Int32), iv (0 : Int32), .unset] [(.int p0)]
    refine XS.istore X417.here hx rfl (hb hby d4_35) rfl (l' := #[rv ma, rv b414, iv (0 : Int32), rv pa, iv (4 : Int32), iv (0 : Int32), iv p0]) rfl ?_
    show Go p e below t T417 m 37 #[rv ma, rv b414, iv (0 : Int32), rv pa, iv (4 : Int32), iv (0 : Int32), iv p0] []
    refine XS.iload X417.here hx rfl (hb hby d4_37) rfl ?_
    show Go p e below t T417 m 39 #[rv ma, rv b414, iv (0 : Int32), rv pa, iv (4 : Int32), iv (0 : Int32), iv p0] [(.int p0)]
    refine XS.aloadN X417.here hx rfl (hb hby d4_39) rfl rfl ?_
    show Go p e below t T417 m 40 #[rv ma, rv b414, iv (0 : Int32), rv pa, iv (4 : Int32), iv (0 : Int32), iv p0] [(.ref ma), (.int p0)]
    exact k)
  obtain ⟨T424, X424, e424, st424⟩ := getF X417 hx hZ hown (host := "") (Or.inl (hw _ (List.mem_of_getElem? (i := 21) rfl))) Via.refl e417 (P1.ext E414) (g := (mkF m 40 #[rv ma, rv b414, iv (0 : Int32), rv pa, iv (4 : Int32), iv (0 : Int32), iv p0] [(.ref ma), (.int p0)])) rfl rfl (hb hby d4_40)
  have g425 : Goes p e below S0 (T424.setTop (mkF m 43 #[rv ma, rv b414, iv (0 : Int32), rv pa, iv (4 : Int32), iv (0 : Int32), iv p0] [(.int p3), (.int p0)])) := fun t k => g423 t (st424 t k)
  have g426 : Goes p e below S0 (T424.setTop (mkF m 53 #[rv ma, rv b414, iv (1 : Int32), rv pa, iv (4 : Int32), iv (0 : Int32), iv p0] [(.int p0), (.int (0 : Int32)), (.ref b414)])) := fun t k => g425 t (by
    refine XS.icmpNo X424.here hx rfl (hb hby d4_43) rfl (XT.ii_eq_f ne0) ?_
    show Go p e below t T424 m 46 #[rv ma, rv b414, iv (0 : Int32), rv pa, iv (4 : Int32), iv (0 : Int32), iv p0] []
    refine XS.aloadN X424.here hx rfl (hb hby d4_46) rfl rfl ?_
    show Go p e below t T424 m 47 #[rv ma, rv b414, iv (0 : Int32), rv pa, iv (4 : Int32), iv (0 : Int32), iv p0] [(.ref b414)]
    refine XS.iloadN X424.here hx rfl (hb hby d4_47) rfl ?_
    show Go p e below t T424 m 48 #[rv ma, rv b414, iv (0 : Int32), rv pa, iv (4 : Int32), iv (0 : Int32), iv p0] [(.int (0 : Int32)), (.ref b414)]
    refine XT.iincV X424.here hx rfl (1 : Int32) (hb hby d4_48) (by decide) rfl (l' := #[rv ma, rv b414, iv (1 : Int32), rv pa, iv (4 : Int32), iv (0 : Int32), iv p0]) rfl ?_
    show Go p e below t T424 m 51 #[rv ma, rv b414, iv (1 : Int32), rv pa, iv (4 : Int32), iv (0 : Int32), iv p0] [(.int (0 : Int32)), (.ref b414)]
    refine XS.iload X424.here hx rfl (hb hby d4_51) rfl ?_
    show Go p e below t T424 m 53 #[rv ma, rv b414, iv (1 : Int32), rv pa, iv (4 : Int32), iv (0 : Int32), iv p0] [(.int p0), (.int (0 : Int32)), (.ref b414)]
    exact k)
  obtain ⟨cl427, Ar427, q427, S427, M427, H427, G427⟩ := id V414
  obtain ⟨T428, h428, X428, e428, W428, st428⟩ := stI X424 hx hZ e424 Ar427 (j := (0 : Int32)) (inb_of S427 ⟨by decide, by decide⟩) (g := (mkF m 53 #[rv ma, rv b414, iv (1 : Int32), rv pa, iv (4 : Int32), iv (0 : Int32), iv p0] [(.int p0), (.int (0 : Int32)), (.ref b414)])) rfl rfl (hb hby d4_53)
  have N428 := Fr.snoc X428 N0 ng414
  have V428 : Arv Z h428 b414 k414 .int (3 : Int32) [(.int p0), (.int (0 : Int32)), (.int (0 : Int32))] (.int (0 : Int32)) := Arv.set Ar427 q427 S427 M427 H427 G427 rfl W428 0 rfl (Nat.le_of_ble_eq_true rfl)
  have g429 : Goes p e below S0 (T428.setTop (mkF m 54 #[rv ma, rv b414, iv (1 : Int32), rv pa, iv (4 : Int32), iv (0 : Int32), iv p0] [])) := fun t k => g426 t (st428 t k)
  have g430 : Goes p e below S0 (T428.setTop (mkF m 34 #[rv ma, rv b414, iv (1 : Int32), rv pa, iv (4 : Int32), iv (1 : Int32), iv p0] [(.int (1 : Int32)), (.ref pa)])) := fun t k => g429 t (by
    refine XT.iincV X428.here hx rfl (1 : Int32) (hb hby d4_54) (by decide) rfl (l' := #[rv ma, rv b414, iv (1 : Int32), rv pa, iv (4 : Int32), iv (1 : Int32), iv p0]) rfl ?_
    show Go p e below t T428 m 57 #[rv ma, rv b414, iv (1 : Int32), rv pa, iv (4 : Int32), iv (1 : Int32), iv p0] []
    refine XS.goto X428.here hx rfl (pc0 := 57) (pc' := 24) rfl (hb hby d4_57) (by decide) (by decide) ?_
    show Go p e below t T428 m 24 #[rv ma, rv b414, iv (1 : Int32), rv pa, iv (4 : Int32), iv (1 : Int32), iv p0] []
    refine XS.iload X428.here hx rfl (hb hby d4_24) rfl ?_
    show Go p e below t T428 m 26 #[rv ma, rv b414, iv (1 : Int32), rv pa, iv (4 : Int32), iv (1 : Int32), iv p0] [(.int (1 : Int32))]
    refine XS.iload X428.here hx rfl (hb hby d4_26) rfl ?_
    show Go p e below t T428 m 28 #[rv ma, rv b414, iv (1 : Int32), rv pa, iv (4 : Int32), iv (1 : Int32), iv p0] [(.int (4 : Int32)), (.int (1 : Int32))]
    refine XS.icmpNo X428.here hx rfl (hb hby d4_28) rfl (XT.ii_ge_f (by decide)) ?_
    show Go p e below t T428 m 31 #[rv ma, rv b414, iv (1 : Int32), rv pa, iv (4 : Int32), iv (1 : Int32), iv p0] []
    refine XS.aloadN X428.here hx rfl (hb hby d4_31) rfl rfl ?_
    show Go p e below t T428 m 32 #[rv ma, rv b414, iv (1 : Int32), rv pa, iv (4 : Int32), iv (1 : Int32), iv p0] [(.ref pa)]
    refine XS.iload X428.here hx rfl (hb hby d4_32) rfl ?_
    show Go p e below t T428 m 34 #[rv ma, rv b414, iv (1 : Int32), rv pa, iv (4 : Int32), iv (1 : Int32), iv p0] [(.int (1 : Int32)), (.ref pa)]
    exact k)
  obtain ⟨cl431, Ar431, q431, S431, M431, H431, G431⟩ := id ((P2.ext E414).other W428 (Nat.ne_of_lt (Nat.lt_of_lt_of_le P2.lt (Nat.le_of_eq gb414.symm))))
  have g432 : Goes p e below S0 (T428.setTop (mkF m 40 #[rv ma, rv b414, iv (1 : Int32), rv pa, iv (4 : Int32), iv (1 : Int32), iv p1] [(.ref ma), (.int p1)])) := fun t k => g430 t (by
    refine X428.iaload hx (j := (1 : Int32)) (v := (.int p1)) (by rw [e428]; exact Ar431.1) (State.isArrayOf_alike hZ.alike Ar431.2.1) Ar431.2.2 (inb_of S431 ⟨by decide, by decide⟩) (H431.at (inb_of S431 ⟨by decide, by decide⟩) rfl) (g := (mkF m 34 #[rv ma, rv b414, iv (1 : Int32), rv pa, iv (4 : Int32), iv (1 : Int32), iv p0] [(.int (1 : Int32)), (.ref pa)])) rfl rfl (hb hby d4_34) _ ?_
    show Go p e below t T428 m 35 #[rv ma, rv b414, iv (1 : Int32), rv pa, iv (4 : Int32), iv (1 : Int32), iv p0] [(.int p1)]
    refine XS.istore X428.here hx rfl (hb hby d4_35) rfl (l' := #[rv ma, rv b414, iv (1 : Int32), rv pa, iv (4 : Int32), iv (1 : Int32), iv p1]) rfl ?_
    show Go p e below t T428 m 37 #[rv ma, rv b414, iv (1 : Int32), rv pa, iv (4 : Int32), iv (1 : Int32), iv p1] []
    refine XS.iload X428.here hx rfl (hb hby d4_37) rfl ?_
    show Go p e below t T428 m 39 #[rv ma, rv b414, iv (1 : Int32), rv pa, iv (4 : Int32), iv (1 : Int32), iv p1] [(.int p1)]
    refine XS.aloadN X428.here hx rfl (hb hby d4_39) rfl rfl ?_
    show Go p e below t T428 m 40 #[rv ma, rv b414, iv (1 : Int32), rv pa, iv (4 : Int32), iv (1 : Int32), iv p1] [(.ref ma), (.int p1)]
    exact k)
  obtain ⟨T433, X433, e433, st433⟩ := getF X428 hx hZ hown (host := "") (Or.inl (hw _ (List.mem_of_getElem? (i := 21) rfl))) Via.refl e428 ((P1.ext E414).other W428 (Or.inl (Nat.ne_of_lt (Nat.lt_of_lt_of_le P0.lt (Nat.le_of_eq gb414.symm))))) (g := (mkF m 40 #[rv ma, rv b414, iv (1 : Int32), rv pa, iv (4 : Int32), iv (1 : Int32), iv p1] [(.ref ma), (.int p1)])) rfl rfl (hb hby d4_40)
  have g434 : Goes p e below S0 (T433.setTop (mkF m 43 #[rv ma, rv b414, iv (1 : Int32), rv pa, iv (4 : Int32), iv (1 : Int32), iv p1] [(.int p3), (.int p1)])) := fun t k => g432 t (st433 t k)
  have g435 : Goes p e below S0 (T433.setTop (mkF m 53 #[rv ma, rv b414, iv (2 : Int32), rv pa, iv (4 : Int32), iv (1 : Int32), iv p1] [(.int p1), (.int (1 : Int32)), (.ref b414)])) := fun t k => g434 t (by
    refine XS.icmpNo X433.here hx rfl (hb hby d4_43) rfl (XT.ii_eq_f ne1) ?_
    show Go p e below t T433 m 46 #[rv ma, rv b414, iv (1 : Int32), rv pa, iv (4 : Int32), iv (1 : Int32), iv p1] []
    refine XS.aloadN X433.here hx rfl (hb hby d4_46) rfl rfl ?_
    show Go p e below t T433 m 47 #[rv ma, rv b414, iv (1 : Int32), rv pa, iv (4 : Int32), iv (1 : Int32), iv p1] [(.ref b414)]
    refine XS.iloadN X433.here hx rfl (hb hby d4_47) rfl ?_
    show Go p e below t T433 m 48 #[rv ma, rv b414, iv (1 : Int32), rv pa, iv (4 : Int32), iv (1 : Int32), iv p1] [(.int (1 : Int32)), (.ref b414)]
    refine XT.iincV X433.here hx rfl (1 : Int32) (hb hby d4_48) (by decide) rfl (l' := #[rv ma, rv b414, iv (2 : Int32), rv pa, iv (4 : Int32), iv (1 : Int32), iv p1]) rfl ?_
    show Go p e below t T433 m 51 #[rv ma, rv b414, iv (2 : Int32), rv pa, iv (4 : Int32), iv (1 : Int32), iv p1] [(.int (1 : Int32)), (.ref b414)]
    refine XS.iload X433.here hx rfl (hb hby d4_51) rfl ?_
    show Go p e below t T433 m 53 #[rv ma, rv b414, iv (2 : Int32), rv pa, iv (4 : Int32), iv (1 : Int32), iv p1] [(.int p1), (.int (1 : Int32)), (.ref b414)]
    exact k)
  obtain ⟨cl436, Ar436, q436, S436, M436, H436, G436⟩ := id V428
  obtain ⟨T437, h437, X437, e437, W437, st437⟩ := stI X433 hx hZ e433 Ar436 (j := (1 : Int32)) (inb_of S436 ⟨by decide, by decide⟩) (g := (mkF m 53 #[rv ma, rv b414, iv (2 : Int32), rv pa, iv (4 : Int32), iv (1 : Int32), iv p1] [(.int p1), (.int (1 : Int32)), (.ref b414)])) rfl rfl (hb hby d4_53)
  have N437 := Fr.snoc X437 N428 ng414
  have V437 : Arv Z h437 b414 k414 .int (3 : Int32) [(.int p0), (.int p1), (.int (0 : Int32))] (.int (0 : Int32)) := Arv.set Ar436 q436 S436 M436 H436 G436 rfl W437 1 rfl (Nat.le_of_ble_eq_true rfl)
  have g438 : Goes p e below S0 (T437.setTop (mkF m 54 #[rv ma, rv b414, iv (2 : Int32), rv pa, iv (4 : Int32), iv (1 : Int32), iv p1] [])) := fun t k => g435 t (st437 t k)
  have g439 : Goes p e below S0 (T437.setTop (mkF m 34 #[rv ma, rv b414, iv (2 : Int32), rv pa, iv (4 : Int32), iv (2 : Int32), iv p1] [(.int (2 : Int32)), (.ref pa)])) := fun t k => g438 t (by
    refine XT.iincV X437.here hx rfl (1 : Int32) (hb hby d4_54) (by decide) rfl (l' := #[rv ma, rv b414, iv (2 : Int32), rv pa, iv (4 : Int32), iv (2 : Int32), iv p1]) rfl ?_
    show Go p e below t T437 m 57 #[rv ma, rv b414, iv (2 : Int32), rv pa, iv (4 : Int32), iv (2 : Int32), iv p1] []
    refine XS.goto X437.here hx rfl (pc0 := 57) (pc' := 24) rfl (hb hby d4_57) (by decide) (by decide) ?_
    show Go p e below t T437 m 24 #[rv ma, rv b414, iv (2 : Int32), rv pa, iv (4 : Int32), iv (2 : Int32), iv p1] []
    refine XS.iload X437.here hx rfl (hb hby d4_24) rfl ?_
    show Go p e below t T437 m 26 #[rv ma, rv b414, iv (2 : Int32), rv pa, iv (4 : Int32), iv (2 : Int32), iv p1] [(.int (2 : Int32))]
    refine XS.iload X437.here hx rfl (hb hby d4_26) rfl ?_
    show Go p e below t T437 m 28 #[rv ma, rv b414, iv (2 : Int32), rv pa, iv (4 : Int32), iv (2 : Int32), iv p1] [(.int (4 : Int32)), (.int (2 : Int32))]
    refine XS.icmpNo X437.here hx rfl (hb hby d4_28) rfl (XT.ii_ge_f (by decide)) ?_
    show Go p e below t T437 m 31 #[rv ma, rv b414, iv (2 : Int32), rv pa, iv (4 : Int32), iv (2 : Int32), iv p1] []
    refine XS.aloadN X437.here hx rfl (hb hby d4_31) rfl rfl ?_
    show Go p e below t T437 m 32 #[rv ma, rv b414, iv (2 : Int32), rv pa, iv (4 : Int32), iv (2 : Int32), iv p1] [(.ref pa)]
    refine XS.iload X437.here hx rfl (hb hby d4_32) rfl ?_
    show Go p e below t T437 m 34 #[rv ma, rv b414, iv (2 : Int32), rv pa, iv (4 : Int32), iv (2 : Int32), iv p1] [(.int (2 : Int32)), (.ref pa)]
    exact k)
  obtain ⟨cl440, Ar440, q440, S440, M440, H440, G440⟩ := id (((P2.ext E414).other W428 (Nat.ne_of_lt (Nat.lt_of_lt_of_le P2.lt (Nat.le_of_eq gb414.symm)))).other W437 (Nat.ne_of_lt (Nat.lt_of_lt_of_le P2.lt (Nat.le_of_eq gb414.symm))))
  have g441 : Goes p e below S0 (T437.setTop (mkF m 40 #[rv ma, rv b414, iv (2 : Int32), rv pa, iv (4 : Int32), iv (2 : Int32), iv p2] [(.ref ma), (.int p2)])) := fun t k => g439 t (by
    refine X437.iaload hx (j := (2 : Int32)) (v := (.int p2)) (by rw [e437]; exact Ar440.1) (State.isArrayOf_alike hZ.alike Ar440.2.1) Ar440.2.2 (inb_of S440 ⟨by decide, by decide⟩) (H440.at (inb_of S440 ⟨by decide, by decide⟩) rfl) (g := (mkF m 34 #[rv ma, rv b414, iv (2 : Int32), rv pa, iv (4 : Int32), iv (2 : Int32), iv p1] [(.int (2 : Int32)), (.ref pa)])) rfl rfl (hb hby d4_34) _ ?_
    show Go p e below t T437 m 35 #[rv ma, rv b414, iv (2 : Int32), rv pa, iv (4 : Int32), iv (2 : Int32), iv p1] [(.int p2)]
    refine XS.istore X437.here hx rfl (hb hby d4_35) rfl (l' := #[rv ma, rv b414, iv (2 : Int32), rv pa, iv (4 : Int32), iv (2 : Int32), iv p2]) rfl ?_
    show Go p e below t T437 m 37 #[rv ma, rv b414, iv (2 : Int32), rv pa, iv (4 : Int32), iv (2 : Int32), iv p2] []
    refine XS.iload X437.here hx rfl (hb hby d4_37) rfl ?_
    show Go p e below t T437 m 39 #[rv ma, rv b414, iv (2 : Int32), rv pa, iv (4 : Int32), iv (2 : Int32), iv p2] [(.int p2)]
    refine XS.aloadN X437.here hx rfl (hb hby d4_39) rfl rfl ?_
    show Go p e below t T437 m 40 #[rv ma, rv b414, iv (2 : Int32), rv pa, iv (4 : Int32), iv (2 : Int32), iv p2] [(.ref ma), (.int p2)]
    exact k)
  obtain ⟨T442, X442, e442, st442⟩ := getF X437 hx hZ hown (host := "") (Or.inl (hw _ (List.mem_of_getElem? (i := 21) rfl))) Via.refl e437 (((P1.ext E414).other W428 (Or.inl (Nat.ne_of_lt (Nat.lt_of_lt_of_le P0.lt (Nat.le_of_eq gb414.symm))))).other W437 (Or.inl (Nat.ne_of_lt (Nat.lt_of_lt_of_le P0.lt (Nat.le_of_eq gb414.symm))))) (g := (mkF m 40 #[rv ma, rv b414, iv (2 : Int32), rv pa, iv (4 : Int32), iv (2 : Int32), iv p2] [(.ref ma), (.int p2)])) rfl rfl (hb hby d4_40)
  have g443 : Goes p e below S0 (T442.setTop (mkF m 43 #[rv ma, rv b414, iv (2 : Int32), rv pa, iv (4 : Int32), iv (2 : Int32), iv p2] [(.int p3), (.int p2)])) := fun t k => g441 t (st442 t k)
  have g444 : Goes p e below S0 (T442.setTop (mkF m 53 #[rv ma, rv b414, iv (3 : Int32), rv pa, iv (4 : Int32), iv (2 : Int32), iv p2] [(.int p2), (.int (2 : Int32)), (.ref b414)])) := fun t k => g443 t (by
    refine XS.icmpNo X442.here hx rfl (hb hby d4_43) rfl (XT.ii_eq_f ne2) ?_
    show Go p e below t T442 m 46 #[rv ma, rv b414, iv (2 : Int32), rv pa, iv (4 : Int32), iv (2 : Int32), iv p2] []
    refine XS.aloadN X442.here hx rfl (hb hby d4_46) rfl rfl ?_
    show Go p e below t T442 m 47 #[rv ma, rv b414, iv (2 : Int32), rv pa, iv (4 : Int32), iv (2 : Int32), iv p2] [(.ref b414)]
    refine XS.iloadN X442.here hx rfl (hb hby d4_47) rfl ?_
    show Go p e below t T442 m 48 #[rv ma, rv b414, iv (2 : Int32), rv pa, iv (4 : Int32), iv (2 : Int32), iv p2] [(.int (2 : Int32)), (.ref b414)]
    refine XT.iincV X442.here hx rfl (1 : Int32) (hb hby d4_48) (by decide) rfl (l' := #[rv ma, rv b414, iv (3 : Int32), rv pa, iv (4 : Int32), iv (2 : Int32), iv p2]) rfl ?_
    show Go p e below t T442 m 51 #[rv ma, rv b414, iv (3 : Int32), rv pa, iv (4 : Int32), iv (2 : Int32), iv p2] [(.int (2 : Int32)), (.ref b414)]
    refine XS.iload X442.here hx rfl (hb hby d4_51) rfl ?_
    show Go p e below t T442 m 53 #[rv ma, rv b414, iv (3 : Int32), rv pa, iv (4 : Int32), iv (2 : Int32), iv p2] [(.int p2), (.int (2 : Int32)), (.ref b414)]
    exact k)
  obtain ⟨cl445, Ar445, q445, S445, M445, H445, G445⟩ := id V437
  obtain ⟨T446, h446, X446, e446, W446, st446⟩ := stI X442 hx hZ e442 Ar445 (j := (2 : Int32)) (inb_of S445 ⟨by decide, by decide⟩) (g := (mkF m 53 #[rv ma, rv b414, iv (3 : Int32), rv pa, iv (4 : Int32), iv (2 : Int32), iv p2] [(.int p2), (.int (2 : Int32)), (.ref b414)])) rfl rfl (hb hby d4_53)
  have N446 := Fr.snoc X446 N437 ng414
  have V446 : Arv Z h446 b414 k414 .int (3 : Int32) [(.int p0), (.int p1), (.int p2)] (.int (0 : Int32)) := Arv.set Ar445 q445 S445 M445 H445 G445 rfl W446 2 rfl (Nat.le_of_ble_eq_true rfl)
  have g447 : Goes p e below S0 (T446.setTop (mkF m 54 #[rv ma, rv b414, iv (3 : Int32), rv pa, iv (4 : Int32), iv (2 : Int32), iv p2] [])) := fun t k => g444 t (st446 t k)
  have g448 : Goes p e below S0 (T446.setTop (mkF m 34 #[rv ma, rv b414, iv (3 : Int32), rv pa, iv (4 : Int32), iv (3 : Int32), iv p2] [(.int (3 : Int32)), (.ref pa)])) := fun t k => g447 t (by
    refine XT.iincV X446.here hx rfl (1 : Int32) (hb hby d4_54) (by decide) rfl (l' := #[rv ma, rv b414, iv (3 : Int32), rv pa, iv (4 : Int32), iv (3 : Int32), iv p2]) rfl ?_
    show Go p e below t T446 m 57 #[rv ma, rv b414, iv (3 : Int32), rv pa, iv (4 : Int32), iv (3 : Int32), iv p2] []
    refine XS.goto X446.here hx rfl (pc0 := 57) (pc' := 24) rfl (hb hby d4_57) (by decide) (by decide) ?_
    show Go p e below t T446 m 24 #[rv ma, rv b414, iv (3 : Int32), rv pa, iv (4 : Int32), iv (3 : Int32), iv p2] []
    refine XS.iload X446.here hx rfl (hb hby d4_24) rfl ?_
    show Go p e below t T446 m 26 #[rv ma, rv b414, iv (3 : Int32), rv pa, iv (4 : Int32), iv (3 : Int32), iv p2] [(.int (3 : Int32))]
    refine XS.iload X446.here hx rfl (hb hby d4_26) rfl ?_
    show Go p e below t T446 m 28 #[rv ma, rv b414, iv (3 : Int32), rv pa, iv (4 : Int32), iv (3 : Int32), iv p2] [(.int (4 : Int32)), (.int (3 : Int32))]
    refine XS.icmpNo X446.here hx rfl (hb hby d4_28) rfl (XT.ii_ge_f (by decide)) ?_
    show Go p e below t T446 m 31 #[rv ma, rv b414, iv (3 : Int32), rv pa, iv (4 : Int32), iv (3 : Int32), iv p2] []
    refine XS.aloadN X446.here hx rfl (hb hby d4_31) rfl rfl ?_
    show Go p e below t T446 m 32 #[rv ma, rv b414, iv (3 : Int32), rv pa, iv (4 : Int32), iv (3 : Int32), iv p2] [(.ref pa)]
    refine XS.iload X446.here hx rfl (hb hby d4_32) rfl ?_
    show Go p e below t T446 m 34 #[rv ma, rv b414, iv (3 : Int32), rv pa, iv (4 : Int32), iv (3 : Int32), iv p2] [(.int (3 : Int32)), (.ref pa)]
    exact k)
  obtain ⟨cl449, Ar449, q449, S449, M449, H449, G449⟩ := id ((((P2.ext E414).other W428 (Nat.ne_of_lt (Nat.lt_of_lt_of_le P2.lt (Nat.le_of_eq gb414.symm)))).other W437 (Nat.ne_of_lt (Nat.lt_of_lt_of_le P2.lt (Nat.le_of_eq gb414.symm)))).other W446 (Nat.ne_of_lt (Nat.lt_of_lt_of_le P2.lt (Nat.le_of_eq gb414.symm))))
  have g450 : Goes p e below S0 (T446.setTop (mkF m 40 #[rv ma, rv b414, iv (3 : Int32), rv pa, iv (4 : Int32), iv (3 : Int32), iv p3] [(.ref ma), (.int p3)])) := fun t k => g448 t (by
    refine X446.iaload hx (j := (3 : Int32)) (v := (.int p3)) (by rw [e446]; exact Ar449.1) (State.isArrayOf_alike hZ.alike Ar449.2.1) Ar449.2.2 (inb_of S449 ⟨by decide, by decide⟩) (H449.at (inb_of S449 ⟨by decide, by decide⟩) rfl) (g := (mkF m 34 #[rv ma, rv b414, iv (3 : Int32), rv pa, iv (4 : Int32), iv (3 : Int32), iv p2] [(.int (3 : Int32)), (.ref pa)])) rfl rfl (hb hby d4_34) _ ?_
    show Go p e below t T446 m 35 #[rv ma, rv b414, iv (3 : Int32), rv pa, iv (4 : Int32), iv (3 : Int32), iv p2] [(.int p3)]
    refine XS.istore X446.here hx rfl (hb hby d4_35) rfl (l' := #[rv ma, rv b414, iv (3 : Int32), rv pa, iv (4 : Int32), iv (3 : Int32), iv p3]) rfl ?_
    show Go p e below t T446 m 37 #[rv ma, rv b414, iv (3 : Int32), rv pa, iv (4 : Int32), iv (3 : Int32), iv p3] []
    refine XS.iload X446.here hx rfl (hb hby d4_37) rfl ?_
    show Go p e below t T446 m 39 #[rv ma, rv b414, iv (3 : Int32), rv pa, iv (4 : Int32), iv (3 : Int32), iv p3] [(.int p3)]
    refine XS.aloadN X446.here hx rfl (hb hby d4_39) rfl rfl ?_
    show Go p e below t T446 m 40 #[rv ma, rv b414, iv (3 : Int32), rv pa, iv (4 : Int32), iv (3 : Int32), iv p3] [(.ref ma), (.int p3)]
    exact k)
  obtain ⟨T451, X451, e451, st451⟩ := getF X446 hx hZ hown (host := "") (Or.inl (hw _ (List.mem_of_getElem? (i := 21) rfl))) Via.refl e446 ((((P1.ext E414).other W428 (Or.inl (Nat.ne_of_lt (Nat.lt_of_lt_of_le P0.lt (Nat.le_of_eq gb414.symm))))).other W437 (Or.inl (Nat.ne_of_lt (Nat.lt_of_lt_of_le P0.lt (Nat.le_of_eq gb414.symm))))).other W446 (Or.inl (Nat.ne_of_lt (Nat.lt_of_lt_of_le P0.lt (Nat.le_of_eq gb414.symm))))) (g := (mkF m 40 #[rv ma, rv b414, iv (3 : Int32), rv pa, iv (4 : Int32), iv (3 : Int32), iv p3] [(.ref ma), (.int p3)])) rfl rfl (hb hby d4_40)
  have g452 : Goes p e below S0 (T451.setTop (mkF m 43 #[rv ma, rv b414, iv (3 : Int32), rv pa, iv (4 : Int32), iv (3 : Int32), iv p3] [(.int p3), (.int p3)])) := fun t k => g450 t (st451 t k)
  have g453 : Goes p e below S0 (T451.setTop (mkF m 61 #[rv ma, rv b414, iv (3 : Int32), rv pa, iv (4 : Int32), iv (4 : Int32), iv p3] [(.ref b414)])) := fun t k => g452 t (by
    refine XS.icmpYes X451.here hx rfl (pc0 := 43) (pc' := 54) rfl (hb hby d4_43) rfl (XT.ii_eq_t rfl) (by decide) (by decide) ?_
    show Go p e below t T451 m 54 #[rv ma, rv b414, iv (3 : Int32), rv pa, iv (4 : Int32), iv (3 : Int32), iv p3] []
    refine XT.iincV X451.here hx rfl (1 : Int32) (hb hby d4_54) (by decide) rfl (l' := #[rv ma, rv b414, iv (3 : Int32), rv pa, iv (4 : Int32), iv (4 : Int32), iv p3]) rfl ?_
    show Go p e below t T451 m 57 #[rv ma, rv b414, iv (3 : Int32), rv pa, iv (4 : Int32), iv (4 : Int32), iv p3] []
    refine XS.goto X451.here hx rfl (pc0 := 57) (pc' := 24) rfl (hb hby d4_57) (by decide) (by decide) ?_
    show Go p e below t T451 m 24 #[rv ma, rv b414, iv (3 : Int32), rv pa, iv (4 : Int32), iv (4 : Int32), iv p3] []
    refine XS.iload X451.here hx rfl (hb hby d4_24) rfl ?_
    show Go p e below t T451 m 26 #[rv ma, rv b414, iv (3 : Int32), rv pa, iv (4 : Int32), iv (4 : Int32), iv p3] [(.int (4 : Int32))]
    refine XS.iload X451.here hx rfl (hb hby d4_26) rfl ?_
    show Go p e below t T451 m 28 #[rv ma, rv b414, iv (3 : Int32), rv pa, iv (4 : Int32), iv (4 : Int32), iv p3] [(.int (4 : Int32)), (.int (4 : Int32))]
    refine XS.icmpYes X451.here hx rfl (pc0 := 28) (pc' := 60) rfl (hb hby d4_28) rfl (XT.ii_ge_t (by decide)) (by decide) (by decide) ?_
    show Go p e below t T451 m 60 #[rv ma, rv b414, iv (3 : Int32), rv pa, iv (4 : Int32), iv (4 : Int32), iv p3] []
    refine XS.aloadN X451.here hx rfl (hb hby d4_60) rfl rfl ?_
    show Go p e below t T451 m 61 #[rv ma, rv b414, iv (3 : Int32), rv pa, iv (4 : Int32), iv (4 : Int32), iv p3] [(.ref b414)]
    exact k)
  obtain ⟨fs, hr, hrun, hended, hW, hsame⟩ := X451.leave (v := some (.ref b414)) (fun h => by rw [Bd.returns] at h; cases h)
  refine ⟨_, _, g453 _ (retOut X451 hx Bd.returns rfl (Or.inr (Or.inr (Or.inr (Or.inr ⟨rfl, rfl, rfl⟩)))) (hb hby d4_61) hr), hrun, hended, _, _, rfl, ?_, ⟨_, rfl⟩, hW, hsame.mono (by decide) (by decide)⟩
  show Q_md43 Z ma pa pk p0 p1 p2 p3 h0 n0 _ T451.heap _
  rw [e451]
  exact ⟨b414, k414, rfl, N446, (((((Keep.refl h0 []).ext E414).wr W428 (Or.inr sz414)).wr W437 (Or.inr sz414)).wr W446 (Or.inr sz414)), V446, sz414⟩
theorem d5_0 : decode method_4_code 0 = .ok (.iload_n 1, 1) := by decide +kernel
theorem d5_1 : decode method_4_code 1 = .ok (.aload_n 0, 1) := by decide +kernel
theorem d5_2 : decode method_4_code 2 = .ok (.arraylength, 1) := by decide +kernel
theorem d5_3 : decode method_4_code 3 = .ok (.if_icmp .lt 5, 3) := by decide +kernel
theorem d5_6 : decode method_4_code 6 = .ok (.iconst 1, 1) := by decide +kernel
theorem d5_7 : decode method_4_code 7 = .ok (.ireturn, 1) := by decide +kernel
theorem d5_8 : decode method_4_code 8 = .ok (.iload_n 1, 1) := by decide +kernel
theorem d5_9 : decode method_4_code 9 = .ok (.iload_n 3, 1) := by decide +kernel
theorem d5_10 : decode method_4_code 10 = .ok (.if_icmp .ge 9, 3) := by decide +kernel
theorem d5_13 : decode method_4_code 13 = .ok (.aload_n 2, 1) := by decide +kernel
theorem d5_14 : decode method_4_code 14 = .ok (.iload_n 1, 1) := by decide +kernel
theorem d5_15 : decode method_4_code 15 = .ok (.iaload, 1) := by decide +kernel
theorem d5_16 : decode method_4_code 16 = .ok (.goto 8, 3) := by decide +kernel
theorem d5_19 : decode method_4_code 19 = .ok (.aload_n 2, 1) := by decide +kernel
theorem d5_20 : decode method_4_code 20 = .ok (.iload_n 1, 1) := by decide +kernel
theorem d5_21 : decode method_4_code 21 = .ok (.iconst 1, 1) := by decide +kernel
theorem d5_22 : decode method_4_code 22 = .ok (.iadd, 1) := by decide +kernel
theorem d5_23 : decode method_4_code 23 = .ok (.iaload, 1) := by decide +kernel
theorem d5_24 : decode method_4_code 24 = .ok (.istore 4, 2) := by decide +kernel
theorem d5_26 : decode method_4_code 26 = .ok (.aload_n 0, 1) := by decide +kernel
theorem d5_27 : decode method_4_code 27 = .ok (.iload_n 1, 1) := by decide +kernel
theorem d5_28 : decode method_4_code 28 = .ok (.iaload, 1) := by decide +kernel
theorem d5_29 : decode method_4_code 29 = .ok (.iload 4, 2) := by decide +kernel
theorem d5_31 : decode method_4_code 31 = .ok (.if_icmp .ne 7, 3) := by decide +kernel
theorem d5_34 : decode method_4_code 34 = .ok (.iconst 1, 1) := by decide +kernel
theorem d5_35 : decode method_4_code 35 = .ok (.goto 4, 3) := by decide +kernel
theorem d5_38 : decode method_4_code 38 = .ok (.iconst 0, 1) := by decide +kernel
theorem d5_39 : decode method_4_code 39 = .ok (.ireturn, 1) := by decide +kernel
theorem pd4 : parseMethodDescriptor "([II[II)Z" = some ⟨[(.array .int), .int, (.array .int), .int], some .boolean⟩ := by decide +kernel
theorem pf_ck0 : plainFor (⟨"com/example/aristotle/aristotle/StepMadePinLaw", "check", "([II[II)Z"⟩ : MethodName) = true := by first | exact plainFor_of_name (by first | (simp [plainName, overriddenIn, x]; done) | decide +kernel) | exact Jvm.Free.JP.mathPlain rfl (by decide +kernel) | decide +kernel
theorem ef_ck0 (m : MethodId) (qa : Addr) (xi : Int32) (pa : Addr) (xj : Int32) : entryFrame m #[(.ref qa), (.int xi), (.ref pa), (.int xj)] 5 = mkF m 0 #[rv qa, iv xi, rv pa, iv xj, .unset] [] := by first | (simp [entryFrame, mkF, argsToLocals, Value.category, maxLocals]; done) | rfl
def Q_ck0 (Z : State) (qa : Addr) (xi : Int32) (pa : Addr) (xj : Int32) (qk : ClassId) (qn : Int32) (qv : List Value) (qd : Value) (h0 : Heap) (n0 : Nat) (v : Option Value) (h : Heap) (L : List Loc) : Prop := v = some (.int (1 : Int32)) ∧ Fr n0 L ∧ h = h0
set_option maxRecDepth 65536 in
set_option maxHeartbeats 40000000 in
theorem rm_ck0 (l : Launch) (Z : State) (a0 : Array Value) (hw : ∀ d ∈ tables_1, d.before a0 Z = true) (ws : List Jvm.Cond) (qa : Addr) (xi : Int32) (pa : Addr) (xj : Int32) (qk : ClassId) (qn : Int32) (qv : List Value) (qd : Value) (h0 : Heap) (n0 : Nat) (Z0 : n0 ≤ h0.size) (P0 : Arv Z h0 qa qk .int qn qv qd) (h1 : ¬ (xi < qn))  :
    MetFree l (⟨"com/example/aristotle/aristotle/StepMadePinLaw", "check", "([II[II)Z"⟩ : MethodName) (head1 (Jvm.Cond.code (⟨"com/example/aristotle/aristotle/StepMadePinLaw", "check", "([II[II)Z"⟩ : MethodName) method_4_code 5 (some .boolean) :: ws) ({ frames := 0, cells := 0, slots := 0, locals := 0 } : Room)) (fun a U => a = #[(.ref qa), (.int xi), (.ref pa), (.int xj)] ∧ Z.Warmed39 U.vm ∧ U.heap = h0) (fun _ _ _ _ _ => True) (fun _ U o U' => ∃ v L, o = .returned v ∧ Q_ck0 Z qa xi pa xj qk qn qv qd h0 n0 v U'.heap L ∧ FrameEnd U o U' L ({ frames := 0, cells := 0, slots := 0, locals := 0 } : Room).cells ({ frames := 0, cells := 0, slots := 0, locals := 0 } : Room).slots) := by
  refine MetFree.of_bodySF pf_ck0 hisR ?_
  intro p e s m args below meth c s₁ Bd hml0 hP hK
  obtain ⟨rfl, hZ, hh⟩ := hP
  have hx := Bd.exec
  have hby := Bd.bytes
  have hml : c.maxLocals = 5 := hml0
  have hown : s.vm.findClass "com/example/aristotle/aristotle/StepMadePinLaw" = some m.cls := findClass_of_methodNamed Bd.named
  have hnm := (name_of_methodNamed Bd.named Bd.method).1
  have X0 : Stand p l e ({ frames := 0, cells := 0, slots := 0, locals := 0 } : Room) s m #[(.ref qa), (.int xi), (.ref pa), (.int xj)] below meth c s₁ [] 0 0 := Stand.of_body Bd
  have e0 : s₁.heap = h0 := by rw [← hh, Bd.state]; rfl
  have N0 := Fr.nil n0
  obtain ⟨S0, hS0⟩ : ∃ z, z = s₁.setTop (entryFrame m #[(.ref qa), (.int xi), (.ref pa), (.int xj)] 5) := ⟨_, rfl⟩
  rw [← hS0]
  have g0 : Goes p e below S0 (s₁.setTop (mkF m 0 #[rv qa, iv xi, rv pa, iv xj, .unset] [])) := fun t k => by rw [hS0]; exact castTop (ef_ck0 m qa xi pa xj) k
  have g454 : Goes p e below S0 (s₁.setTop (mkF m 2 #[rv qa, iv xi, rv pa, iv xj, .unset] [(.ref qa), (.int xi)])) := fun t k => g0 t (by
    refine XS.iloadN X0.here hx rfl (hb hby d5_0) rfl ?_
    show Go p e below t s₁ m 1 #[rv qa, iv xi, rv pa, iv xj, .unset] [(.int xi)]
    refine XS.aloadN X0.here hx rfl (hb hby d5_1) rfl rfl ?_
    show Go p e below t s₁ m 2 #[rv qa, iv xi, rv pa, iv xj, .unset] [(.ref qa), (.int xi)]
    exact k)
  obtain ⟨cl455, Ar455, q455, S455, M455, H455, G455⟩ := id P0
  have g456 : Goes p e below S0 (s₁.setTop (mkF m 7 #[rv qa, iv xi, rv pa, iv xj, .unset] [(.int (1 : Int32))])) := fun t k => g454 t (by
    refine X0.arraylength hx (by rw [e0]; exact Ar455.1) (State.isArrayOf_alike hZ.alike Ar455.2.1) (g := (mkF m 2 #[rv qa, iv xi, rv pa, iv xj, .unset] [(.ref qa), (.int xi)])) rfl rfl (hb hby d5_2) _ ?_
    rw [len_of S455 M455]
    show Go p e below t s₁ m 3 #[rv qa, iv xi, rv pa, iv xj, .unset] [(.int qn), (.int xi)]
    refine XS.icmpNo X0.here hx rfl (hb hby d5_3) rfl (XT.ii_lt_f h1) ?_
    show Go p e below t s₁ m 6 #[rv qa, iv xi, rv pa, iv xj, .unset] []
    refine XT.iconstV X0.here hx rfl (1 : Int32) (hb hby d5_6) (by decide) ?_
    show Go p e below t s₁ m 7 #[rv qa, iv xi, rv pa, iv xj, .unset] [(.int (1 : Int32))]
    exact k)
  obtain ⟨fs, hr, hrun, hended, hW, hsame⟩ := X0.leave (v := some (.int (1 : Int32))) (fun h => by rw [Bd.returns] at h; cases h)
  refine ⟨_, _, g456 _ (retN X0 hx (t := .boolean) Bd.returns (by simp) (hb hby d5_7) hr), hrun, hended, _, _, rfl, ?_, ⟨_, rfl⟩, hW, hsame.mono (by decide) (by decide)⟩
  show Q_ck0 Z qa xi pa xj qk qn qv qd h0 n0 _ s₁.heap _
  rw [e0]
  exact ⟨rfl, N0, rfl⟩
theorem pf_ck1 : plainFor (⟨"com/example/aristotle/aristotle/StepMadePinLaw", "check", "([II[II)Z"⟩ : MethodName) = true := by first | exact plainFor_of_name (by first | (simp [plainName, overriddenIn, x]; done) | decide +kernel) | exact Jvm.Free.JP.mathPlain rfl (by decide +kernel) | decide +kernel
theorem ef_ck1 (m : MethodId) (qa : Addr) (xi : Int32) (pa : Addr) (xj : Int32) : entryFrame m #[(.ref qa), (.int xi), (.ref pa), (.int xj)] 5 = mkF m 0 #[rv qa, iv xi, rv pa, iv xj, .unset] [] := by first | (simp [entryFrame, mkF, argsToLocals, Value.category, maxLocals]; done) | rfl
def Q_ck1 (Z : State) (qa : Addr) (xi : Int32) (pa : Addr) (xj : Int32) (qk : ClassId) (qn : Int32) (qv : List Value) (qd : Value) (pk : ClassId) (pn : Int32) (pv : List Value) (pd : Value) (ex : Int32) (h0 : Heap) (n0 : Nat) (v : Option Value) (h : Heap) (L : List Loc) : Prop := v = some (.int (1 : Int32)) ∧ Fr n0 L ∧ h = h0
set_option maxRecDepth 65536 in
set_option maxHeartbeats 40000000 in
theorem rm_ck1 (l : Launch) (Z : State) (a0 : Array Value) (hw : ∀ d ∈ tables_1, d.before a0 Z = true) (ws : List Jvm.Cond) (qa : Addr) (xi : Int32) (pa : Addr) (xj : Int32) (qk : ClassId) (qn : Int32) (qv : List Value) (qd : Value) (pk : ClassId) (pn : Int32) (pv : List Value) (pd : Value) (ex : Int32) (h0 : Heap) (n0 : Nat) (Z0 : n0 ≤ h0.size) (P0 : Arv Z h0 qa qk .int qn qv qd) (P1 : Arv Z h0 pa pk .int pn pv pd) (h1 : xi < qn) (h2 : xi < xj) (i1 : ¬ xi < 0 ∧ xi < qn) (i2 : ¬ xi < 0 ∧ xi < pn) (e1 : qv.getD xi.toNatClampNeg qd = .int ex) (e2 : pv.getD xi.toNatClampNeg pd = .int ex)  :
    MetFree l (⟨"com/example/aristotle/aristotle/StepMadePinLaw", "check", "([II[II)Z"⟩ : MethodName) (head1 (Jvm.Cond.code (⟨"com/example/aristotle/aristotle/StepMadePinLaw", "check", "([II[II)Z"⟩ : MethodName) method_4_code 5 (some .boolean) :: ws) ({ frames := 0, cells := 0, slots := 0, locals := 0 } : Room)) (fun a U => a = #[(.ref qa), (.int xi), (.ref pa), (.int xj)] ∧ Z.Warmed39 U.vm ∧ U.heap = h0) (fun _ _ _ _ _ => True) (fun _ U o U' => ∃ v L, o = .returned v ∧ Q_ck1 Z qa xi pa xj qk qn qv qd pk pn pv pd ex h0 n0 v U'.heap L ∧ FrameEnd U o U' L ({ frames := 0, cells := 0, slots := 0, locals := 0 } : Room).cells ({ frames := 0, cells := 0, slots := 0, locals := 0 } : Room).slots) := by
  refine MetFree.of_bodySF pf_ck1 hisR ?_
  intro p e s m args below meth c s₁ Bd hml0 hP hK
  obtain ⟨rfl, hZ, hh⟩ := hP
  have hx := Bd.exec
  have hby := Bd.bytes
  have hml : c.maxLocals = 5 := hml0
  have hown : s.vm.findClass "com/example/aristotle/aristotle/StepMadePinLaw" = some m.cls := findClass_of_methodNamed Bd.named
  have hnm := (name_of_methodNamed Bd.named Bd.method).1
  have X0 : Stand p l e ({ frames := 0, cells := 0, slots := 0, locals := 0 } : Room) s m #[(.ref qa), (.int xi), (.ref pa), (.int xj)] below meth c s₁ [] 0 0 := Stand.of_body Bd
  have e0 : s₁.heap = h0 := by rw [← hh, Bd.state]; rfl
  have N0 := Fr.nil n0
  obtain ⟨S0, hS0⟩ : ∃ z, z = s₁.setTop (entryFrame m #[(.ref qa), (.int xi), (.ref pa), (.int xj)] 5) := ⟨_, rfl⟩
  rw [← hS0]
  have g0 : Goes p e below S0 (s₁.setTop (mkF m 0 #[rv qa, iv xi, rv pa, iv xj, .unset] [])) := fun t k => by rw [hS0]; exact castTop (ef_ck1 m qa xi pa xj) k
  have g457 : Goes p e below S0 (s₁.setTop (mkF m 2 #[rv qa, iv xi, rv pa, iv xj, .unset] [(.ref qa), (.int xi)])) := fun t k => g0 t (by
    refine XS.iloadN X0.here hx rfl (hb hby d5_0) rfl ?_
    show Go p e below t s₁ m 1 #[rv qa, iv xi, rv pa, iv xj, .unset] [(.int xi)]
    refine XS.aloadN X0.here hx rfl (hb hby d5_1) rfl rfl ?_
    show Go p e below t s₁ m 2 #[rv qa, iv xi, rv pa, iv xj, .unset] [(.ref qa), (.int xi)]
    exact k)
  obtain ⟨cl458, Ar458, q458, S458, M458, H458, G458⟩ := id P0
  have g459 : Goes p e below S0 (s₁.setTop (mkF m 15 #[rv qa, iv xi, rv pa, iv xj, .unset] [(.int xi), (.ref pa)])) := fun t k => g457 t (by
    refine X0.arraylength hx (by rw [e0]; exact Ar458.1) (State.isArrayOf_alike hZ.alike Ar458.2.1) (g := (mkF m 2 #[rv qa, iv xi, rv pa, iv xj, .unset] [(.ref qa), (.int xi)])) rfl rfl (hb hby d5_2) _ ?_
    rw [len_of S458 M458]
    show Go p e below t s₁ m 3 #[rv qa, iv xi, rv pa, iv xj, .unset] [(.int qn), (.int xi)]
    refine XS.icmpYes X0.here hx rfl (pc0 := 3) (pc' := 8) rfl (hb hby d5_3) rfl (XT.ii_lt_t h1) (by decide) (by decide) ?_
    show Go p e below t s₁ m 8 #[rv qa, iv xi, rv pa, iv xj, .unset] []
    refine XS.iloadN X0.here hx rfl (hb hby d5_8) rfl ?_
    show Go p e below t s₁ m 9 #[rv qa, iv xi, rv pa, iv xj, .unset] [(.int xi)]
    refine XS.iloadN X0.here hx rfl (hb hby d5_9) rfl ?_
    show Go p e below t s₁ m 10 #[rv qa, iv xi, rv pa, iv xj, .unset] [(.int xj), (.int xi)]
    refine XS.icmpNo X0.here hx rfl (hb hby d5_10) rfl (XT.ii_ge_f h2) ?_
    show Go p e below t s₁ m 13 #[rv qa, iv xi, rv pa, iv xj, .unset] []
    refine XS.aloadN X0.here hx rfl (hb hby d5_13) rfl rfl ?_
    show Go p e below t s₁ m 14 #[rv qa, iv xi, rv pa, iv xj, .unset] [(.ref pa)]
    refine XS.iloadN X0.here hx rfl (hb hby d5_14) rfl ?_
    show Go p e below t s₁ m 15 #[rv qa, iv xi, rv pa, iv xj, .unset] [(.int xi), (.ref pa)]
    exact k)
  obtain ⟨cl460, Ar460, q460, S460, M460, H460, G460⟩ := id P1
  have g461 : Goes p e below S0 (s₁.setTop (mkF m 28 #[rv qa, iv xi, rv pa, iv xj, iv ex] [(.int xi), (.ref qa)])) := fun t k => g459 t (by
    refine X0.iaload hx (j := xi) (v := (.int ex)) (by rw [e0]; exact Ar460.1) (State.isArrayOf_alike hZ.alike Ar460.2.1) Ar460.2.2 (inb_of S460 i2) (H460.at (inb_of S460 i2) e2) (g := (mkF m 15 #[rv qa, iv xi, rv pa, iv xj, .unset] [(.int xi), (.ref pa)])) rfl rfl (hb hby d5_15) _ ?_
    show Go p e below t s₁ m 16 #[rv qa, iv xi, rv pa, iv xj, .unset] [(.int ex)]
    refine XS.goto X0.here hx rfl (pc0 := 16) (pc' := 24) rfl (hb hby d5_16) (by decide) (by decide) ?_
    show Go p e below t s₁ m 24 #[rv qa, iv xi, rv pa, iv xj, .unset] [(.int ex)]
    refine XS.istore X0.here hx rfl (hb hby d5_24) rfl (l' := #[rv qa, iv xi, rv pa, iv xj, iv ex]) rfl ?_
    show Go p e below t s₁ m 26 #[rv qa, iv xi, rv pa, iv xj, iv ex] []
    refine XS.aloadN X0.here hx rfl (hb hby d5_26) rfl rfl ?_
    show Go p e below t s₁ m 27 #[rv qa, iv xi, rv pa, iv xj, iv ex] [(.ref qa)]
    refine XS.iloadN X0.here hx rfl (hb hby d5_27) rfl ?_
    show Go p e below t s₁ m 28 #[rv qa, iv xi, rv pa, iv xj, iv ex] [(.int xi), (.ref qa)]
    exact k)
  obtain ⟨cl462, Ar462, q462, S462, M462, H462, G462⟩ := id P0
  have g463 : Goes p e below S0 (s₁.setTop (mkF m 39 #[rv qa, iv xi, rv pa, iv xj, iv ex] [(.int (1 : Int32))])) := fun t k => g461 t (by
    refine X0.iaload hx (j := xi) (v := (.int ex)) (by rw [e0]; exact Ar462.1) (State.isArrayOf_alike hZ.alike Ar462.2.1) Ar462.2.2 (inb_of S462 i1) (H462.at (inb_of S462 i1) e1) (g := (mkF m 28 #[rv qa, iv xi, rv pa, iv xj, iv ex] [(.int xi), (.ref qa)])) rfl rfl (hb hby d5_28) _ ?_
    show Go p e below t s₁ m 29 #[rv qa, iv xi, rv pa, iv xj, iv ex] [(.int ex)]
    refine XS.iload X0.here hx rfl (hb hby d5_29) rfl ?_
    show Go p e below t s₁ m 31 #[rv qa, iv xi, rv pa, iv xj, iv ex] [(.int ex), (.int ex)]
    refine XS.icmpNo X0.here hx rfl (hb hby d5_31) rfl (XT.ii_ne_f rfl) ?_
    show Go p e below t s₁ m 34 #[rv qa, iv xi, rv pa, iv xj, iv ex] []
    refine XT.iconstV X0.here hx rfl (1 : Int32) (hb hby d5_34) (by decide) ?_
    show Go p e below t s₁ m 35 #[rv qa, iv xi, rv pa, iv xj, iv ex] [(.int (1 : Int32))]
    refine XS.goto X0.here hx rfl (pc0 := 35) (pc' := 39) rfl (hb hby d5_35) (by decide) (by decide) ?_
    show Go p e below t s₁ m 39 #[rv qa, iv xi, rv pa, iv xj, iv ex] [(.int (1 : Int32))]
    exact k)
  obtain ⟨fs, hr, hrun, hended, hW, hsame⟩ := X0.leave (v := some (.int (1 : Int32))) (fun h => by rw [Bd.returns] at h; cases h)
  refine ⟨_, _, g463 _ (retN X0 hx (t := .boolean) Bd.returns (by simp) (hb hby d5_39) hr), hrun, hended, _, _, rfl, ?_, ⟨_, rfl⟩, hW, hsame.mono (by decide) (by decide)⟩
  show Q_ck1 Z qa xi pa xj qk qn qv qd pk pn pv pd ex h0 n0 _ s₁.heap _
  rw [e0]
  exact ⟨rfl, N0, rfl⟩
theorem pf_ck2 : plainFor (⟨"com/example/aristotle/aristotle/StepMadePinLaw", "check", "([II[II)Z"⟩ : MethodName) = true := by first | exact plainFor_of_name (by first | (simp [plainName, overriddenIn, x]; done) | decide +kernel) | exact Jvm.Free.JP.mathPlain rfl (by decide +kernel) | decide +kernel
theorem ef_ck2 (m : MethodId) (qa : Addr) (xi : Int32) (pa : Addr) (xj : Int32) : entryFrame m #[(.ref qa), (.int xi), (.ref pa), (.int xj)] 5 = mkF m 0 #[rv qa, iv xi, rv pa, iv xj, .unset] [] := by first | (simp [entryFrame, mkF, argsToLocals, Value.category, maxLocals]; done) | rfl
def Q_ck2 (Z : State) (qa : Addr) (xi : Int32) (pa : Addr) (xj : Int32) (qk : ClassId) (qn : Int32) (qv : List Value) (qd : Value) (pk : ClassId) (pn : Int32) (pv : List Value) (pd : Value) (ex : Int32) (h0 : Heap) (n0 : Nat) (v : Option Value) (h : Heap) (L : List Loc) : Prop := v = some (.int (1 : Int32)) ∧ Fr n0 L ∧ h = h0
set_option maxRecDepth 65536 in
set_option maxHeartbeats 40000000 in
theorem rm_ck2 (l : Launch) (Z : State) (a0 : Array Value) (hw : ∀ d ∈ tables_1, d.before a0 Z = true) (ws : List Jvm.Cond) (qa : Addr) (xi : Int32) (pa : Addr) (xj : Int32) (qk : ClassId) (qn : Int32) (qv : List Value) (qd : Value) (pk : ClassId) (pn : Int32) (pv : List Value) (pd : Value) (ex : Int32) (h0 : Heap) (n0 : Nat) (Z0 : n0 ≤ h0.size) (P0 : Arv Z h0 qa qk .int qn qv qd) (P1 : Arv Z h0 pa pk .int pn pv pd) (h1 : xi < qn) (h2 : ¬ (xi < xj)) (i1 : ¬ xi < 0 ∧ xi < qn) (i2 : ¬ (xi + (1 : Int32)) < 0 ∧ (xi + (1 : Int32)) < pn) (e1 : qv.getD xi.toNatClampNeg qd = .int ex) (e2 : pv.getD (xi + (1 : Int32)).toNatClampNeg pd = .int ex)  :
    MetFree l (⟨"com/example/aristotle/aristotle/StepMadePinLaw", "check", "([II[II)Z"⟩ : MethodName) (head1 (Jvm.Cond.code (⟨"com/example/aristotle/aristotle/StepMadePinLaw", "check", "([II[II)Z"⟩ : MethodName) method_4_code 5 (some .boolean) :: ws) ({ frames := 0, cells := 0, slots := 0, locals := 0 } : Room)) (fun a U => a = #[(.ref qa), (.int xi), (.ref pa), (.int xj)] ∧ Z.Warmed39 U.vm ∧ U.heap = h0) (fun _ _ _ _ _ => True) (fun _ U o U' => ∃ v L, o = .returned v ∧ Q_ck2 Z qa xi pa xj qk qn qv qd pk pn pv pd ex h0 n0 v U'.heap L ∧ FrameEnd U o U' L ({ frames := 0, cells := 0, slots := 0, locals := 0 } : Room).cells ({ frames := 0, cells := 0, slots := 0, locals := 0 } : Room).slots) := by
  refine MetFree.of_bodySF pf_ck2 hisR ?_
  intro p e s m args below meth c s₁ Bd hml0 hP hK
  obtain ⟨rfl, hZ, hh⟩ := hP
  have hx := Bd.exec
  have hby := Bd.bytes
  have hml : c.maxLocals = 5 := hml0
  have hown : s.vm.findClass "com/example/aristotle/aristotle/StepMadePinLaw" = some m.cls := findClass_of_methodNamed Bd.named
  have hnm := (name_of_methodNamed Bd.named Bd.method).1
  have X0 : Stand p l e ({ frames := 0, cells := 0, slots := 0, locals := 0 } : Room) s m #[(.ref qa), (.int xi), (.ref pa), (.int xj)] below meth c s₁ [] 0 0 := Stand.of_body Bd
  have e0 : s₁.heap = h0 := by rw [← hh, Bd.state]; rfl
  have N0 := Fr.nil n0
  obtain ⟨S0, hS0⟩ : ∃ z, z = s₁.setTop (entryFrame m #[(.ref qa), (.int xi), (.ref pa), (.int xj)] 5) := ⟨_, rfl⟩
  rw [← hS0]
  have g0 : Goes p e below S0 (s₁.setTop (mkF m 0 #[rv qa, iv xi, rv pa, iv xj, .unset] [])) := fun t k => by rw [hS0]; exact castTop (ef_ck2 m qa xi pa xj) k
  have g464 : Goes p e below S0 (s₁.setTop (mkF m 2 #[rv qa, iv xi, rv pa, iv xj, .unset] [(.ref qa), (.int xi)])) := fun t k => g0 t (by
    refine XS.iloadN X0.here hx rfl (hb hby d5_0) rfl ?_
    show Go p e below t s₁ m 1 #[rv qa, iv xi, rv pa, iv xj, .unset] [(.int xi)]
    refine XS.aloadN X0.here hx rfl (hb hby d5_1) rfl rfl ?_
    show Go p e below t s₁ m 2 #[rv qa, iv xi, rv pa, iv xj, .unset] [(.ref qa), (.int xi)]
    exact k)
  obtain ⟨cl465, Ar465, q465, S465, M465, H465, G465⟩ := id P0
  have g466 : Goes p e below S0 (s₁.setTop (mkF m 23 #[rv qa, iv xi, rv pa, iv xj, .unset] [(.int (xi + (1 : Int32))), (.ref pa)])) := fun t k => g464 t (by
    refine X0.arraylength hx (by rw [e0]; exact Ar465.1) (State.isArrayOf_alike hZ.alike Ar465.2.1) (g := (mkF m 2 #[rv qa, iv xi, rv pa, iv xj, .unset] [(.ref qa), (.int xi)])) rfl rfl (hb hby d5_2) _ ?_
    rw [len_of S465 M465]
    show Go p e below t s₁ m 3 #[rv qa, iv xi, rv pa, iv xj, .unset] [(.int qn), (.int xi)]
    refine XS.icmpYes X0.here hx rfl (pc0 := 3) (pc' := 8) rfl (hb hby d5_3) rfl (XT.ii_lt_t h1) (by decide) (by decide) ?_
    show Go p e below t s₁ m 8 #[rv qa, iv xi, rv pa, iv xj, .unset] []
    refine XS.iloadN X0.here hx rfl (hb hby d5_8) rfl ?_
    show Go p e below t s₁ m 9 #[rv qa, iv xi, rv pa, iv xj, .unset] [(.int xi)]
    refine XS.iloadN X0.here hx rfl (hb hby d5_9) rfl ?_
    show Go p e below t s₁ m 10 #[rv qa, iv xi, rv pa, iv xj, .unset] [(.int xj), (.int xi)]
    refine XS.icmpYes X0.here hx rfl (pc0 := 10) (pc' := 19) rfl (hb hby d5_10) rfl (XT.ii_ge_t h2) (by decide) (by decide) ?_
    show Go p e below t s₁ m 19 #[rv qa, iv xi, rv pa, iv xj, .unset] []
    refine XS.aloadN X0.here hx rfl (hb hby d5_19) rfl rfl ?_
    show Go p e below t s₁ m 20 #[rv qa, iv xi, rv pa, iv xj, .unset] [(.ref pa)]
    refine XS.iloadN X0.here hx rfl (hb hby d5_20) rfl ?_
    show Go p e below t s₁ m 21 #[rv qa, iv xi, rv pa, iv xj, .unset] [(.int xi), (.ref pa)]
    refine XT.iconstV X0.here hx rfl (1 : Int32) (hb hby d5_21) (by decide) ?_
    show Go p e below t s₁ m 22 #[rv qa, iv xi, rv pa, iv xj, .unset] [(.int (1 : Int32)), (.int xi), (.ref pa)]
    refine XS.iadd X0.here hx rfl (hb hby d5_22) rfl ?_
    show Go p e below t s₁ m 23 #[rv qa, iv xi, rv pa, iv xj, .unset] [(.int (xi + (1 : Int32))), (.ref pa)]
    exact k)
  obtain ⟨cl467, Ar467, q467, S467, M467, H467, G467⟩ := id P1
  have g468 : Goes p e below S0 (s₁.setTop (mkF m 28 #[rv qa, iv xi, rv pa, iv xj, iv ex] [(.int xi), (.ref qa)])) := fun t k => g466 t (by
    refine X0.iaload hx (j := (xi + (1 : Int32))) (v := (.int ex)) (by rw [e0]; exact Ar467.1) (State.isArrayOf_alike hZ.alike Ar467.2.1) Ar467.2.2 (inb_of S467 i2) (H467.at (inb_of S467 i2) e2) (g := (mkF m 23 #[rv qa, iv xi, rv pa, iv xj, .unset] [(.int (xi + (1 : Int32))), (.ref pa)])) rfl rfl (hb hby d5_23) _ ?_
    show Go p e below t s₁ m 24 #[rv qa, iv xi, rv pa, iv xj, .unset] [(.int ex)]
    refine XS.istore X0.here hx rfl (hb hby d5_24) rfl (l' := #[rv qa, iv xi, rv pa, iv xj, iv ex]) rfl ?_
    show Go p e below t s₁ m 26 #[rv qa, iv xi, rv pa, iv xj, iv ex] []
    refine XS.aloadN X0.here hx rfl (hb hby d5_26) rfl rfl ?_
    show Go p e below t s₁ m 27 #[rv qa, iv xi, rv pa, iv xj, iv ex] [(.ref qa)]
    refine XS.iloadN X0.here hx rfl (hb hby d5_27) rfl ?_
    show Go p e below t s₁ m 28 #[rv qa, iv xi, rv pa, iv xj, iv ex] [(.int xi), (.ref qa)]
    exact k)
  obtain ⟨cl469, Ar469, q469, S469, M469, H469, G469⟩ := id P0
  have g470 : Goes p e below S0 (s₁.setTop (mkF m 39 #[rv qa, iv xi, rv pa, iv xj, iv ex] [(.int (1 : Int32))])) := fun t k => g468 t (by
    refine X0.iaload hx (j := xi) (v := (.int ex)) (by rw [e0]; exact Ar469.1) (State.isArrayOf_alike hZ.alike Ar469.2.1) Ar469.2.2 (inb_of S469 i1) (H469.at (inb_of S469 i1) e1) (g := (mkF m 28 #[rv qa, iv xi, rv pa, iv xj, iv ex] [(.int xi), (.ref qa)])) rfl rfl (hb hby d5_28) _ ?_
    show Go p e below t s₁ m 29 #[rv qa, iv xi, rv pa, iv xj, iv ex] [(.int ex)]
    refine XS.iload X0.here hx rfl (hb hby d5_29) rfl ?_
    show Go p e below t s₁ m 31 #[rv qa, iv xi, rv pa, iv xj, iv ex] [(.int ex), (.int ex)]
    refine XS.icmpNo X0.here hx rfl (hb hby d5_31) rfl (XT.ii_ne_f rfl) ?_
    show Go p e below t s₁ m 34 #[rv qa, iv xi, rv pa, iv xj, iv ex] []
    refine XT.iconstV X0.here hx rfl (1 : Int32) (hb hby d5_34) (by decide) ?_
    show Go p e below t s₁ m 35 #[rv qa, iv xi, rv pa, iv xj, iv ex] [(.int (1 : Int32))]
    refine XS.goto X0.here hx rfl (pc0 := 35) (pc' := 39) rfl (hb hby d5_35) (by decide) (by decide) ?_
    show Go p e below t s₁ m 39 #[rv qa, iv xi, rv pa, iv xj, iv ex] [(.int (1 : Int32))]
    exact k)
  obtain ⟨fs, hr, hrun, hended, hW, hsame⟩ := X0.leave (v := some (.int (1 : Int32))) (fun h => by rw [Bd.returns] at h; cases h)
  refine ⟨_, _, g470 _ (retN X0 hx (t := .boolean) Bd.returns (by simp) (hb hby d5_39) hr), hrun, hended, _, _, rfl, ?_, ⟨_, rfl⟩, hW, hsame.mono (by decide) (by decide)⟩
  show Q_ck2 Z qa xi pa xj qk qn qv qd pk pn pv pd ex h0 n0 _ s₁.heap _
  rw [e0]
  exact ⟨rfl, N0, rfl⟩
def nN (a : Int32) : Int32 := 1 + (a &&& 3)
def nJ (a : Int32) : Int32 := ((a.toUInt32 >>> ((2 : Int32) &&& 31).toUInt32).toInt32 &&& 2147483647) % nN a
def nP0 (b : Int32) : Int32 := b >>> ((2 : Int32) &&& 31)
def nP1 (b g1 : Int32) : Int32 := (nP0 b + 1) + (g1 &&& 536870911)
def nP2 (b g1 g2 : Int32) : Int32 := (nP1 b g1 + 1) + (g2 &&& 536870911)
def nP3 (b g1 g2 g3 : Int32) : Int32 := (nP2 b g1 g2 + 1) + (g3 &&& 536870911)
theorem own_z1 : (1 : Int32).toInt = 1 := by decide
theorem own_nr (a : Int32) : 1 ≤ (nN a).toInt ∧ (nN a).toInt ≤ 4 := by
  have h := c_mask a 3 2 (by decide) (by decide)
  have h1 := c_iadd 1 (a &&& 3)
  have h2 := rng32 (1 + (a &&& 3))
  have z := own_z1
  unfold nN; omega
theorem own_nz (a : Int32) : nN a ≠ 0 := fun h => by
  have := own_nr a
  rw [h] at this
  have z : (0 : Int32).toInt = 0 := by decide
  omega
theorem own_jr (a : Int32) : 0 ≤ (nJ a).toInt ∧ (nJ a).toInt < (nN a).toInt := by
  have h := (c_iremV ((a.toUInt32 >>> ((2 : Int32) &&& 31).toUInt32).toInt32 &&& 2147483647) (nN a)).1 (c_and _ 2147483647 (by decide)).1 (by have := own_nr a; omega)
  exact ⟨h.1, h.2.1⟩
theorem own_is {x : Int32} {k : Int32} (h : x.toInt = k.toInt) : x = k := Int32.toInt_inj.mp h
theorem own_nj (a : Int32) : (nN a = 1 ∧ nJ a = 0) ∨ (nN a = 2 ∧ nJ a = 0) ∨ (nN a = 2 ∧ nJ a = 1) ∨ (nN a = 3 ∧ nJ a = 0) ∨ (nN a = 3 ∧ nJ a = 1) ∨ (nN a = 3 ∧ nJ a = 2) ∨ (nN a = 4 ∧ nJ a = 0) ∨ (nN a = 4 ∧ nJ a = 1) ∨ (nN a = 4 ∧ nJ a = 2) ∨ (nN a = 4 ∧ nJ a = 3) := by
  have h := own_nr a
  have h2 := own_jr a
  have h0 : ((nN a).toInt = 1 ∧ (nJ a).toInt = 0) ∨ ((nN a).toInt = 2 ∧ (nJ a).toInt = 0) ∨ ((nN a).toInt = 2 ∧ (nJ a).toInt = 1) ∨ ((nN a).toInt = 3 ∧ (nJ a).toInt = 0) ∨ ((nN a).toInt = 3 ∧ (nJ a).toInt = 1) ∨ ((nN a).toInt = 3 ∧ (nJ a).toInt = 2) ∨ ((nN a).toInt = 4 ∧ (nJ a).toInt = 0) ∨ ((nN a).toInt = 4 ∧ (nJ a).toInt = 1) ∨ ((nN a).toInt = 4 ∧ (nJ a).toInt = 2) ∨ ((nN a).toInt = 4 ∧ (nJ a).toInt = 3) := by omega
  rcases h0 with ⟨h3, h4⟩ | ⟨h3, h4⟩ | ⟨h3, h4⟩ | ⟨h3, h4⟩ | ⟨h3, h4⟩ | ⟨h3, h4⟩ | ⟨h3, h4⟩ | ⟨h3, h4⟩ | ⟨h3, h4⟩ | ⟨h3, h4⟩
  · exact Or.inl ⟨own_is (by rw [h3]; decide), own_is (by rw [h4]; decide)⟩
  · exact Or.inr (Or.inl ⟨own_is (by rw [h3]; decide), own_is (by rw [h4]; decide)⟩)
  · exact Or.inr (Or.inr (Or.inl ⟨own_is (by rw [h3]; decide), own_is (by rw [h4]; decide)⟩))
  · exact Or.inr (Or.inr (Or.inr (Or.inl ⟨own_is (by rw [h3]; decide), own_is (by rw [h4]; decide)⟩)))
  · exact Or.inr (Or.inr (Or.inr (Or.inr (Or.inl ⟨own_is (by rw [h3]; decide), own_is (by rw [h4]; decide)⟩))))
  · exact Or.inr (Or.inr (Or.inr (Or.inr (Or.inr (Or.inl ⟨own_is (by rw [h3]; decide), own_is (by rw [h4]; decide)⟩)))))
  · exact Or.inr (Or.inr (Or.inr (Or.inr (Or.inr (Or.inr (Or.inl ⟨own_is (by rw [h3]; decide), own_is (by rw [h4]; decide)⟩))))))
  · exact Or.inr (Or.inr (Or.inr (Or.inr (Or.inr (Or.inr (Or.inr (Or.inl ⟨own_is (by rw [h3]; decide), own_is (by rw [h4]; decide)⟩)))))))
  · exact Or.inr (Or.inr (Or.inr (Or.inr (Or.inr (Or.inr (Or.inr (Or.inr (Or.inl ⟨own_is (by rw [h3]; decide), own_is (by rw [h4]; decide)⟩))))))))
  · exact Or.inr (Or.inr (Or.inr (Or.inr (Or.inr (Or.inr (Or.inr (Or.inr (Or.inr (⟨own_is (by rw [h3]; decide), own_is (by rw [h4]; decide)⟩)))))))))
theorem own_step {p g : Int32} (h1 : -536870912 ≤ p.toInt) (h2 : p.toInt + 536870912 < 2147483648) : ((p + 1) + (g &&& 536870911)).toInt = p.toInt + 1 + g.toInt % 536870912 := by
  have h := c_mask g 536870911 29 (by decide) (by decide)
  have a1 := c_iadd p 1
  have r1 := rng32 (p + 1)
  have a2 := c_iadd (p + 1) (g &&& 536870911)
  have r2 := rng32 ((p + 1) + (g &&& 536870911))
  have z := own_z1
  omega
theorem own_p0 (b : Int32) : -536870912 ≤ (nP0 b).toInt ∧ (nP0 b).toInt < 536870912 := by
  have h := c_ishr b 2 2 (by decide)
  have r := rng32 b
  unfold nP0; omega
theorem own_p1 (b g1 : Int32) : (nP0 b).toInt < (nP1 b g1).toInt ∧ (nP1 b g1).toInt ≤ (nP0 b).toInt + 536870912 := by
  have h := own_p0 b
  have e := own_step (p := nP0 b) (g := g1) (by omega) (by omega)
  unfold nP1; omega
theorem own_p2 (b g1 g2 : Int32) : (nP1 b g1).toInt < (nP2 b g1 g2).toInt ∧ (nP2 b g1 g2).toInt ≤ (nP1 b g1).toInt + 536870912 := by
  have h0 := own_p0 b
  have h := own_p1 b g1
  have e := own_step (p := nP1 b g1) (g := g2) (by omega) (by omega)
  unfold nP2; omega
theorem own_p3 (b g1 g2 g3 : Int32) : (nP2 b g1 g2).toInt < (nP3 b g1 g2 g3).toInt := by
  have h0 := own_p0 b
  have h1 := own_p1 b g1
  have h := own_p2 b g1 g2
  have e := own_step (p := nP2 b g1 g2) (g := g3) (by omega) (by omega)
  unfold nP3; omega
theorem own_ne01 (b g1 g2 g3 : Int32) : ¬ ((nP0 b) = (nP1 b g1)) := fun h => by
  have h := congrArg Int32.toInt h
  have h1 := own_p1 b g1
  have h2 := own_p2 b g1 g2
  have h3 := own_p3 b g1 g2 g3
  omega
theorem own_ne02 (b g1 g2 g3 : Int32) : ¬ ((nP0 b) = (nP2 b g1 g2)) := fun h => by
  have h := congrArg Int32.toInt h
  have h1 := own_p1 b g1
  have h2 := own_p2 b g1 g2
  have h3 := own_p3 b g1 g2 g3
  omega
theorem own_ne03 (b g1 g2 g3 : Int32) : ¬ ((nP0 b) = (nP3 b g1 g2 g3)) := fun h => by
  have h := congrArg Int32.toInt h
  have h1 := own_p1 b g1
  have h2 := own_p2 b g1 g2
  have h3 := own_p3 b g1 g2 g3
  omega
theorem own_ne10 (b g1 g2 g3 : Int32) : ¬ ((nP1 b g1) = (nP0 b)) := fun h => by
  have h := congrArg Int32.toInt h
  have h1 := own_p1 b g1
  have h2 := own_p2 b g1 g2
  have h3 := own_p3 b g1 g2 g3
  omega
theorem own_ne12 (b g1 g2 g3 : Int32) : ¬ ((nP1 b g1) = (nP2 b g1 g2)) := fun h => by
  have h := congrArg Int32.toInt h
  have h1 := own_p1 b g1
  have h2 := own_p2 b g1 g2
  have h3 := own_p3 b g1 g2 g3
  omega
theorem own_ne13 (b g1 g2 g3 : Int32) : ¬ ((nP1 b g1) = (nP3 b g1 g2 g3)) := fun h => by
  have h := congrArg Int32.toInt h
  have h1 := own_p1 b g1
  have h2 := own_p2 b g1 g2
  have h3 := own_p3 b g1 g2 g3
  omega
theorem own_ne20 (b g1 g2 g3 : Int32) : ¬ ((nP2 b g1 g2) = (nP0 b)) := fun h => by
  have h := congrArg Int32.toInt h
  have h1 := own_p1 b g1
  have h2 := own_p2 b g1 g2
  have h3 := own_p3 b g1 g2 g3
  omega
theorem own_ne21 (b g1 g2 g3 : Int32) : ¬ ((nP2 b g1 g2) = (nP1 b g1)) := fun h => by
  have h := congrArg Int32.toInt h
  have h1 := own_p1 b g1
  have h2 := own_p2 b g1 g2
  have h3 := own_p3 b g1 g2 g3
  omega
theorem own_ne23 (b g1 g2 g3 : Int32) : ¬ ((nP2 b g1 g2) = (nP3 b g1 g2 g3)) := fun h => by
  have h := congrArg Int32.toInt h
  have h1 := own_p1 b g1
  have h2 := own_p2 b g1 g2
  have h3 := own_p3 b g1 g2 g3
  omega
theorem own_ne30 (b g1 g2 g3 : Int32) : ¬ ((nP3 b g1 g2 g3) = (nP0 b)) := fun h => by
  have h := congrArg Int32.toInt h
  have h1 := own_p1 b g1
  have h2 := own_p2 b g1 g2
  have h3 := own_p3 b g1 g2 g3
  omega
theorem own_ne31 (b g1 g2 g3 : Int32) : ¬ ((nP3 b g1 g2 g3) = (nP1 b g1)) := fun h => by
  have h := congrArg Int32.toInt h
  have h1 := own_p1 b g1
  have h2 := own_p2 b g1 g2
  have h3 := own_p3 b g1 g2 g3
  omega
theorem own_ne32 (b g1 g2 g3 : Int32) : ¬ ((nP3 b g1 g2 g3) = (nP2 b g1 g2)) := fun h => by
  have h := congrArg Int32.toInt h
  have h1 := own_p1 b g1
  have h2 := own_p2 b g1 g2
  have h3 := own_p3 b g1 g2 g3
  omega

theorem pd5 : parseMethodDescriptor "(IIIII)Z" = some ⟨[.int, .int, .int, .int, .int], some .boolean⟩ := by decide +kernel
theorem pf_law : plainFor x = true := by first | exact plainFor_of_name (by first | (simp [plainName, overriddenIn, x]; done) | decide +kernel) | exact Jvm.Free.JP.mathPlain rfl (by decide +kernel) | decide +kernel
theorem ef_law (m : MethodId) (i0 : Int32) (i1 : Int32) (i2 : Int32) (i3 : Int32) (i4 : Int32) : entryFrame m #[(.int i0), (.int i1), (.int i2), (.int i3), (.int i4)] maxLocals = mkF m 0 #[iv i0, iv i1, iv i2, iv i3, iv i4, .unset, .unset, .unset, .unset, .unset, .unset, .unset, .unset] [] := by first | (simp [entryFrame, mkF, argsToLocals, Value.category, maxLocals]; done) | rfl
def f_law (i0 : Int32) (i1 : Int32) (i2 : Int32) (i3 : Int32) (i4 : Int32) : Int32 := 1
def Q_law (Z : State) (i0 : Int32) (i1 : Int32) (i2 : Int32) (i3 : Int32) (i4 : Int32)  (h0 : Heap) (n0 : Nat) (v : Option Value) (h : Heap) (L : List Loc) : Prop := v = some (.int (f_law i0 i1 i2 i3 i4)) ∧ Fr n0 L
set_option maxRecDepth 65536 in
set_option maxHeartbeats 40000000 in
theorem rm_law (l : Launch) (Z : State) (a0 : Array Value) (hw : ∀ d ∈ tables_1, d.before a0 Z = true) (ws : List Jvm.Cond) (i0 : Int32) (i1 : Int32) (i2 : Int32) (i3 : Int32) (i4 : Int32)  (h0 : Heap) (n0 : Nat) (Z0 : n0 ≤ h0.size)   :
    MetFree l x (head1 (Jvm.Cond.code x code maxLocals ret :: ws) room_1) (fun a U => a = #[(.int i0), (.int i1), (.int i2), (.int i3), (.int i4)] ∧ Z.Warmed39 U.vm ∧ U.heap = h0) (fun _ _ _ _ _ => True) (fun _ U o U' => ∃ v L, o = .returned v ∧ Q_law Z i0 i1 i2 i3 i4  h0 n0 v U'.heap L ∧ FrameEnd U o U' L 24 128) := by
  refine MetFree.of_bodySF pf_law hisR ?_
  intro p e s m args below meth c s₁ Bd hml0 hP hK
  obtain ⟨rfl, hZ, hh⟩ := hP
  have hx := Bd.exec
  have hby := Bd.bytes
  have hml : c.maxLocals = 13 := hml0
  have hown : s.vm.findClass "com/example/aristotle/aristotle/StepMadePinLaw" = some m.cls := findClass_of_methodNamed Bd.named
  have hnm := (name_of_methodNamed Bd.named Bd.method).1
  have X0 : Stand p l e room_1 s m #[(.int i0), (.int i1), (.int i2), (.int i3), (.int i4)] below meth c s₁ [] 0 0 := Stand.of_body Bd
  have e0 : s₁.heap = h0 := by rw [← hh, Bd.state]; rfl
  have N0 := Fr.nil n0
  obtain ⟨S0, hS0⟩ : ∃ z, z = s₁.setTop (entryFrame m #[(.int i0), (.int i1), (.int i2), (.int i3), (.int i4)] maxLocals) := ⟨_, rfl⟩
  rw [← hS0]
  have g0 : Goes p e below S0 (s₁.setTop (mkF m 0 #[iv i0, iv i1, iv i2, iv i3, iv i4, .unset, .unset, .unset, .unset, .unset, .unset, .unset, .unset] [])) := fun t k => by rw [hS0]; exact castTop (ef_law m i0 i1 i2 i3 i4) k
  have g471 : Goes p e below S0 (s₁.setTop (mkF m 20 #[iv i0, iv i1, iv i2, iv i3, iv i4, iv (nN i4), iv (nJ i4), .unset, .unset, .unset, .unset, .unset, .unset] [])) := fun t k => g0 t (by
    refine XT.iconstV X0.here hx rfl (1 : Int32) (hb hby at_0) (by decide) ?_
    show Go p e below t s₁ m 1 #[iv i0, iv i1, iv i2, iv i3, iv i4, .unset, .unset, .unset, .unset, .unset, .unset, .unset, .unset] [(.int (1 : Int32))]
    refine XS.iload X0.here hx rfl (hb hby at_1) rfl ?_
    show Go p e below t s₁ m 3 #[iv i0, iv i1, iv i2, iv i3, iv i4, .unset, .unset, .unset, .unset, .unset, .unset, .unset, .unset] [(.int i4), (.int (1 : Int32))]
    refine XT.iconstV X0.here hx rfl (3 : Int32) (hb hby at_3) (by decide) ?_
    show Go p e below t s₁ m 4 #[iv i0, iv i1, iv i2, iv i3, iv i4, .unset, .unset, .unset, .unset, .unset, .unset, .unset, .unset] [(.int (3 : Int32)), (.int i4), (.int (1 : Int32))]
    refine XS.iand X0.here hx rfl (hb hby at_4) rfl ?_
    show Go p e below t s₁ m 5 #[iv i0, iv i1, iv i2, iv i3, iv i4, .unset, .unset, .unset, .unset, .unset, .unset, .unset, .unset] [(.int (i4 &&& (3 : Int32))), (.int (1 : Int32))]
    refine XS.iadd X0.here hx rfl (hb hby at_5) rfl ?_
    show Go p e below t s₁ m 6 #[iv i0, iv i1, iv i2, iv i3, iv i4, .unset, .unset, .unset, .unset, .unset, .unset, .unset, .unset] [(.int ((1 : Int32) + (i4 &&& (3 : Int32))))]
    refine XS.istore X0.here hx rfl (hb hby at_6) rfl (l' := #[iv i0, iv i1, iv i2, iv i3, iv i4, iv (nN i4), .unset, .unset, .unset, .unset, .unset, .unset, .unset]) rfl ?_
    show Go p e below t s₁ m 8 #[iv i0, iv i1, iv i2, iv i3, iv i4, iv (nN i4), .unset, .unset, .unset, .unset, .unset, .unset, .unset] []
    refine XS.iload X0.here hx rfl (hb hby at_8) rfl ?_
    show Go p e below t s₁ m 10 #[iv i0, iv i1, iv i2, iv i3, iv i4, iv (nN i4), .unset, .unset, .unset, .unset, .unset, .unset, .unset] [(.int i4)]
    refine XT.iconstV X0.here hx rfl (2 : Int32) (hb hby at_10) (by decide) ?_
    show Go p e below t s₁ m 11 #[iv i0, iv i1, iv i2, iv i3, iv i4, iv (nN i4), .unset, .unset, .unset, .unset, .unset, .unset, .unset] [(.int (2 : Int32)), (.int i4)]
    refine XS.iushr X0.here hx rfl (hb hby at_11) rfl ?_
    show Go p e below t s₁ m 12 #[iv i0, iv i1, iv i2, iv i3, iv i4, iv (nN i4), .unset, .unset, .unset, .unset, .unset, .unset, .unset] [(.int (((i4).toUInt32 >>> ((2 : Int32) &&& 31).toUInt32).toInt32))]
    refine Jvm.Stand.ldcI X0 hx hown (mvT hZ (hw _ (List.mem_of_getElem? (i := 0) rfl))) (g := (mkF m 12 #[iv i0, iv i1, iv i2, iv i3, iv i4, iv (nN i4), .unset, .unset, .unset, .unset, .unset, .unset, .unset] [(.int (((i4).toUInt32 >>> ((2 : Int32) &&& 31).toUInt32).toInt32))])) rfl (hb hby at_12) ?_
    show Go p e below t s₁ m 14 #[iv i0, iv i1, iv i2, iv i3, iv i4, iv (nN i4), .unset, .unset, .unset, .unset, .unset, .unset, .unset] [(.int (2147483647 : Int32)), (.int (((i4).toUInt32 >>> ((2 : Int32) &&& 31).toUInt32).toInt32))]
    refine XS.iand X0.here hx rfl (hb hby at_14) rfl ?_
    show Go p e below t s₁ m 15 #[iv i0, iv i1, iv i2, iv i3, iv i4, iv (nN i4), .unset, .unset, .unset, .unset, .unset, .unset, .unset] [(.int ((((i4).toUInt32 >>> ((2 : Int32) &&& 31).toUInt32).toInt32) &&& (2147483647 : Int32)))]
    refine XS.iload X0.here hx rfl (hb hby at_15) rfl ?_
    show Go p e below t s₁ m 17 #[iv i0, iv i1, iv i2, iv i3, iv i4, iv (nN i4), .unset, .unset, .unset, .unset, .unset, .unset, .unset] [(.int (nN i4)), (.int ((((i4).toUInt32 >>> ((2 : Int32) &&& 31).toUInt32).toInt32) &&& (2147483647 : Int32)))]
    refine iremM X0 hx rfl (hb hby at_17) rfl (own_nz i4) ?_
    show Go p e below t s₁ m 18 #[iv i0, iv i1, iv i2, iv i3, iv i4, iv (nN i4), .unset, .unset, .unset, .unset, .unset, .unset, .unset] [(.int (((((i4).toUInt32 >>> ((2 : Int32) &&& 31).toUInt32).toInt32) &&& (2147483647 : Int32)) % (nN i4)))]
    refine XS.istore X0.here hx rfl (hb hby at_18) rfl (l' := #[iv i0, iv i1, iv i2, iv i3, iv i4, iv (nN i4), iv (nJ i4), .unset, .unset, .unset, .unset, .unset, .unset]) rfl ?_
    show Go p e below t s₁ m 20 #[iv i0, iv i1, iv i2, iv i3, iv i4, iv (nN i4), iv (nJ i4), .unset, .unset, .unset, .unset, .unset, .unset] []
    exact k)
  have gj472 : ∃ z : Int32, Goes p e below S0 (s₁.setTop (mkF m 34 #[iv i0, iv i1, iv i2, iv i3, iv i4, iv (nN i4), iv (nJ i4), .unset, .unset, .unset, .unset, .unset, .unset] [(.int z)])) := by
    have g473 : Goes p e below S0 (s₁.setTop (mkF m 26 #[iv i0, iv i1, iv i2, iv i3, iv i4, iv (nN i4), iv (nJ i4), .unset, .unset, .unset, .unset, .unset, .unset] [(.int ((((i4).toUInt32 >>> ((4 : Int32) &&& 31).toUInt32).toInt32) &&& (1 : Int32)))])) := fun t k => g471 t (by
      refine XS.iload X0.here hx rfl (hb hby at_20) rfl ?_
      show Go p e below t s₁ m 22 #[iv i0, iv i1, iv i2, iv i3, iv i4, iv (nN i4), iv (nJ i4), .unset, .unset, .unset, .unset, .unset, .unset] [(.int i4)]
      refine XT.iconstV X0.here hx rfl (4 : Int32) (hb hby at_22) (by decide) ?_
      show Go p e below t s₁ m 23 #[iv i0, iv i1, iv i2, iv i3, iv i4, iv (nN i4), iv (nJ i4), .unset, .unset, .unset, .unset, .unset, .unset] [(.int (4 : Int32)), (.int i4)]
      refine XS.iushr X0.here hx rfl (hb hby at_23) rfl ?_
      show Go p e below t s₁ m 24 #[iv i0, iv i1, iv i2, iv i3, iv i4, iv (nN i4), iv (nJ i4), .unset, .unset, .unset, .unset, .unset, .unset] [(.int (((i4).toUInt32 >>> ((4 : Int32) &&& 31).toUInt32).toInt32))]
      refine XT.iconstV X0.here hx rfl (1 : Int32) (hb hby at_24) (by decide) ?_
      show Go p e below t s₁ m 25 #[iv i0, iv i1, iv i2, iv i3, iv i4, iv (nN i4), iv (nJ i4), .unset, .unset, .unset, .unset, .unset, .unset] [(.int (1 : Int32)), (.int (((i4).toUInt32 >>> ((4 : Int32) &&& 31).toUInt32).toInt32))]
      refine XS.iand X0.here hx rfl (hb hby at_25) rfl ?_
      show Go p e below t s₁ m 26 #[iv i0, iv i1, iv i2, iv i3, iv i4, iv (nN i4), iv (nJ i4), .unset, .unset, .unset, .unset, .unset, .unset] [(.int ((((i4).toUInt32 >>> ((4 : Int32) &&& 31).toUInt32).toInt32) &&& (1 : Int32)))]
      exact k)
    by_cases h474 : ((((i4).toUInt32 >>> ((4 : Int32) &&& 31).toUInt32).toInt32) &&& (1 : Int32)) = 0
    · skip
      have g475 : Goes p e below S0 (s₁.setTop (mkF m 34 #[iv i0, iv i1, iv i2, iv i3, iv i4, iv (nN i4), iv (nJ i4), .unset, .unset, .unset, .unset, .unset, .unset] [(.int (0 : Int32))])) := fun t k => g473 t (by
        refine XS.ifYes X0.here hx rfl (pc0 := 26) (pc' := 33) rfl (hb hby at_26) rfl (XT.i0_eq_t h474) (by decide) (by decide) ?_
        show Go p e below t s₁ m 33 #[iv i0, iv i1, iv i2, iv i3, iv i4, iv (nN i4), iv (nJ i4), .unset, .unset, .unset, .unset, .unset, .unset] []
        refine XT.iconstV X0.here hx rfl (0 : Int32) (hb hby at_33) (by decide) ?_
        show Go p e below t s₁ m 34 #[iv i0, iv i1, iv i2, iv i3, iv i4, iv (nN i4), iv (nJ i4), .unset, .unset, .unset, .unset, .unset, .unset] [(.int (0 : Int32))]
        exact k)
      exact ⟨_, g475⟩
    · skip
      have g476 : Goes p e below S0 (s₁.setTop (mkF m 34 #[iv i0, iv i1, iv i2, iv i3, iv i4, iv (nN i4), iv (nJ i4), .unset, .unset, .unset, .unset, .unset, .unset] [(.int (1 : Int32))])) := fun t k => g473 t (by
        refine XS.ifNo X0.here hx rfl (hb hby at_26) rfl (XT.i0_eq_f h474) ?_
        show Go p e below t s₁ m 29 #[iv i0, iv i1, iv i2, iv i3, iv i4, iv (nN i4), iv (nJ i4), .unset, .unset, .unset, .unset, .unset, .unset] []
        refine XT.iconstV X0.here hx rfl (1 : Int32) (hb hby at_29) (by decide) ?_
        show Go p e below t s₁ m 30 #[iv i0, iv i1, iv i2, iv i3, iv i4, iv (nN i4), iv (nJ i4), .unset, .unset, .unset, .unset, .unset, .unset] [(.int (1 : Int32))]
        refine XS.goto X0.here hx rfl (pc0 := 30) (pc' := 34) rfl (hb hby at_30) (by decide) (by decide) ?_
        show Go p e below t s₁ m 34 #[iv i0, iv i1, iv i2, iv i3, iv i4, iv (nN i4), iv (nJ i4), .unset, .unset, .unset, .unset, .unset, .unset] [(.int (1 : Int32))]
        exact k)
      exact ⟨_, g476⟩
  obtain ⟨mz, g477⟩ := gj472
  have g478 : Goes p e below S0 (s₁.setTop (mkF m 37 #[iv i0, iv i1, iv i2, iv i3, iv i4, iv (nN i4), iv (nJ i4), iv mz, .unset, .unset, .unset, .unset, .unset] [(.int (4 : Int32))])) := fun t k => g477 t (by
    refine XS.istore X0.here hx rfl (hb hby at_34) rfl (l' := #[iv i0, iv i1, iv i2, iv i3, iv i4, iv (nN i4), iv (nJ i4), iv mz, .unset, .unset, .unset, .unset, .unset]) rfl ?_
    show Go p e below t s₁ m 36 #[iv i0, iv i1, iv i2, iv i3, iv i4, iv (nN i4), iv (nJ i4), iv mz, .unset, .unset, .unset, .unset, .unset] []
    refine XT.iconstV X0.here hx rfl (4 : Int32) (hb hby at_36) (by decide) ?_
    show Go p e below t s₁ m 37 #[iv i0, iv i1, iv i2, iv i3, iv i4, iv (nN i4), iv (nJ i4), iv mz, .unset, .unset, .unset, .unset, .unset] [(.int (4 : Int32))]
    exact k)
  obtain ⟨T479, h479, k479, X479, e479, E479, A479, st479⟩ := newP X0 hx hZ (hw _ (List.mem_of_getElem? (i := 1) rfl)) e0 (g := (mkF m 37 #[iv i0, iv i1, iv i2, iv i3, iv i4, iv (nN i4), iv (nJ i4), iv mz, .unset, .unset, .unset, .unset, .unset] [(.int (4 : Int32))])) rfl (hb hby at_37) rfl (by decide) (cap := 4) (by decide) (by decide) (by decide) (by decide)
  obtain ⟨b479, gb479⟩ : ∃ z, z = h0.size := ⟨_, rfl⟩
  have sz479 : h0.size ≤ b479 := Nat.le_trans (Nat.le_refl _) (Nat.le_of_eq gb479.symm)
  have ng479 : n0 ≤ b479 := Nat.le_trans Z0 sz479
  rw [← gb479] at A479 st479
  have V479 : Arv Z h479 b479 k479 .int (4 : Int32) [(.int (0 : Int32)), (.int (0 : Int32)), (.int (0 : Int32)), (.int (0 : Int32))] (.int (0 : Int32)) := (Arv.new A479 (by decide)).pad (pad_rep [] (.int (0 : Int32)) 4)
  have g480 : Goes p e below S0 (T479.setTop (mkF m 39 #[iv i0, iv i1, iv i2, iv i3, iv i4, iv (nN i4), iv (nJ i4), iv mz, .unset, .unset, .unset, .unset, .unset] [(.ref b479)])) := fun t k => g478 t (st479 t k)
  have g481 : Goes p e below S0 (T479.setTop (mkF m 47 #[iv i0, iv i1, iv i2, iv i3, iv i4, iv (nN i4), iv (nJ i4), iv mz, rv b479, .unset, .unset, .unset, .unset] [(.int (nP0 i0)), (.int (0 : Int32)), (.ref b479)])) := fun t k => g480 t (by
    refine XS.astore X479.here hx rfl (hb hby at_39) rfl rfl (l' := #[iv i0, iv i1, iv i2, iv i3, iv i4, iv (nN i4), iv (nJ i4), iv mz, rv b479, .unset, .unset, .unset, .unset]) rfl ?_
    show Go p e below t T479 m 41 #[iv i0, iv i1, iv i2, iv i3, iv i4, iv (nN i4), iv (nJ i4), iv mz, rv b479, .unset, .unset, .unset, .unset] []
    refine XS.aload X479.here hx rfl (hb hby at_41) rfl rfl ?_
    show Go p e below t T479 m 43 #[iv i0, iv i1, iv i2, iv i3, iv i4, iv (nN i4), iv (nJ i4), iv mz, rv b479, .unset, .unset, .unset, .unset] [(.ref b479)]
    refine XT.iconstV X479.here hx rfl (0 : Int32) (hb hby at_43) (by decide) ?_
    show Go p e below t T479 m 44 #[iv i0, iv i1, iv i2, iv i3, iv i4, iv (nN i4), iv (nJ i4), iv mz, rv b479, .unset, .unset, .unset, .unset] [(.int (0 : Int32)), (.ref b479)]
    refine XS.iloadN X479.here hx rfl (hb hby at_44) rfl ?_
    show Go p e below t T479 m 45 #[iv i0, iv i1, iv i2, iv i3, iv i4, iv (nN i4), iv (nJ i4), iv mz, rv b479, .unset, .unset, .unset, .unset] [(.int i0), (.int (0 : Int32)), (.ref b479)]
    refine XT.iconstV X479.here hx rfl (2 : Int32) (hb hby at_45) (by decide) ?_
    show Go p e below t T479 m 46 #[iv i0, iv i1, iv i2, iv i3, iv i4, iv (nN i4), iv (nJ i4), iv mz, rv b479, .unset, .unset, .unset, .unset] [(.int (2 : Int32)), (.int i0), (.int (0 : Int32)), (.ref b479)]
    refine XS.ishr X479.here hx rfl (hb hby at_46) rfl ?_
    show Go p e below t T479 m 47 #[iv i0, iv i1, iv i2, iv i3, iv i4, iv (nN i4), iv (nJ i4), iv mz, rv b479, .unset, .unset, .unset, .unset] [(.int (i0 >>> ((2 : Int32) &&& 31))), (.int (0 : Int32)), (.ref b479)]
    show Go p e below t T479 m 47 #[iv i0, iv i1, iv i2, iv i3, iv i4, iv (nN i4), iv (nJ i4), iv mz, rv b479, .unset, .unset, .unset, .unset] [(.int (nP0 i0)), (.int (0 : Int32)), (.ref b479)]
    exact k)
  obtain ⟨cl482, Ar482, q482, S482, M482, H482, G482⟩ := id V479
  obtain ⟨T483, h483, X483, e483, W483, st483⟩ := stI X479 hx hZ e479 Ar482 (j := (0 : Int32)) (inb_of S482 ⟨by decide, by decide⟩) (g := (mkF m 47 #[iv i0, iv i1, iv i2, iv i3, iv i4, iv (nN i4), iv (nJ i4), iv mz, rv b479, .unset, .unset, .unset, .unset] [(.int (nP0 i0)), (.int (0 : Int32)), (.ref b479)])) rfl rfl (hb hby at_47)
  have N483 := Fr.snoc X483 N0 ng479
  have V483 : Arv Z h483 b479 k479 .int (4 : Int32) [(.int (nP0 i0)), (.int (0 : Int32)), (.int (0 : Int32)), (.int (0 : Int32))] (.int (0 : Int32)) := Arv.set Ar482 q482 S482 M482 H482 G482 rfl W483 0 rfl (Nat.le_of_ble_eq_true rfl)
  have g484 : Goes p e below S0 (T483.setTop (mkF m 48 #[iv i0, iv i1, iv i2, iv i3, iv i4, iv (nN i4), iv (nJ i4), iv mz, rv b479, .unset, .unset, .unset, .unset] [])) := fun t k => g481 t (st483 t k)
  have g485 : Goes p e below S0 (T483.setTop (mkF m 54 #[iv i0, iv i1, iv i2, iv i3, iv i4, iv (nN i4), iv (nJ i4), iv mz, rv b479, .unset, .unset, .unset, .unset] [(.int (0 : Int32)), (.ref b479), (.int (1 : Int32)), (.ref b479)])) := fun t k => g484 t (by
    refine XS.aload X483.here hx rfl (hb hby at_48) rfl rfl ?_
    show Go p e below t T483 m 50 #[iv i0, iv i1, iv i2, iv i3, iv i4, iv (nN i4), iv (nJ i4), iv mz, rv b479, .unset, .unset, .unset, .unset] [(.ref b479)]
    refine XT.iconstV X483.here hx rfl (1 : Int32) (hb hby at_50) (by decide) ?_
    show Go p e below t T483 m 51 #[iv i0, iv i1, iv i2, iv i3, iv i4, iv (nN i4), iv (nJ i4), iv mz, rv b479, .unset, .unset, .unset, .unset] [(.int (1 : Int32)), (.ref b479)]
    refine XS.aload X483.here hx rfl (hb hby at_51) rfl rfl ?_
    show Go p e below t T483 m 53 #[iv i0, iv i1, iv i2, iv i3, iv i4, iv (nN i4), iv (nJ i4), iv mz, rv b479, .unset, .unset, .unset, .unset] [(.ref b479), (.int (1 : Int32)), (.ref b479)]
    refine XT.iconstV X483.here hx rfl (0 : Int32) (hb hby at_53) (by decide) ?_
    show Go p e below t T483 m 54 #[iv i0, iv i1, iv i2, iv i3, iv i4, iv (nN i4), iv (nJ i4), iv mz, rv b479, .unset, .unset, .unset, .unset] [(.int (0 : Int32)), (.ref b479), (.int (1 : Int32)), (.ref b479)]
    exact k)
  obtain ⟨cl486, Ar486, q486, S486, M486, H486, G486⟩ := id V483
  have g487 : Goes p e below S0 (T483.setTop (mkF m 62 #[iv i0, iv i1, iv i2, iv i3, iv i4, iv (nN i4), iv (nJ i4), iv mz, rv b479, .unset, .unset, .unset, .unset] [(.int (nP1 i0 i1)), (.int (1 : Int32)), (.ref b479)])) := fun t k => g485 t (by
    refine X483.iaload hx (j := (0 : Int32)) (v := (.int (nP0 i0))) (by rw [e483]; exact Ar486.1) (State.isArrayOf_alike hZ.alike Ar486.2.1) Ar486.2.2 (inb_of S486 ⟨by decide, by decide⟩) (H486.at (inb_of S486 ⟨by decide, by decide⟩) rfl) (g := (mkF m 54 #[iv i0, iv i1, iv i2, iv i3, iv i4, iv (nN i4), iv (nJ i4), iv mz, rv b479, .unset, .unset, .unset, .unset] [(.int (0 : Int32)), (.ref b479), (.int (1 : Int32)), (.ref b479)])) rfl rfl (hb hby at_54) _ ?_
    show Go p e below t T483 m 55 #[iv i0, iv i1, iv i2, iv i3, iv i4, iv (nN i4), iv (nJ i4), iv mz, rv b479, .unset, .unset, .unset, .unset] [(.int (nP0 i0)), (.int (1 : Int32)), (.ref b479)]
    refine XT.iconstV X483.here hx rfl (1 : Int32) (hb hby at_55) (by decide) ?_
    show Go p e below t T483 m 56 #[iv i0, iv i1, iv i2, iv i3, iv i4, iv (nN i4), iv (nJ i4), iv mz, rv b479, .unset, .unset, .unset, .unset] [(.int (1 : Int32)), (.int (nP0 i0)), (.int (1 : Int32)), (.ref b479)]
    refine XS.iadd X483.here hx rfl (hb hby at_56) rfl ?_
    show Go p e below t T483 m 57 #[iv i0, iv i1, iv i2, iv i3, iv i4, iv (nN i4), iv (nJ i4), iv mz, rv b479, .unset, .unset, .unset, .unset] [(.int ((nP0 i0) + (1 : Int32))), (.int (1 : Int32)), (.ref b479)]
    refine XS.iloadN X483.here hx rfl (hb hby at_57) rfl ?_
    show Go p e below t T483 m 58 #[iv i0, iv i1, iv i2, iv i3, iv i4, iv (nN i4), iv (nJ i4), iv mz, rv b479, .unset, .unset, .unset, .unset] [(.int i1), (.int ((nP0 i0) + (1 : Int32))), (.int (1 : Int32)), (.ref b479)]
    refine Jvm.Stand.ldcI X483 hx hown (mvT hZ (hw _ (List.mem_of_getElem? (i := 2) rfl))) (g := (mkF m 58 #[iv i0, iv i1, iv i2, iv i3, iv i4, iv (nN i4), iv (nJ i4), iv mz, rv b479, .unset, .unset, .unset, .unset] [(.int i1), (.int ((nP0 i0) + (1 : Int32))), (.int (1 : Int32)), (.ref b479)])) rfl (hb hby at_58) ?_
    show Go p e below t T483 m 60 #[iv i0, iv i1, iv i2, iv i3, iv i4, iv (nN i4), iv (nJ i4), iv mz, rv b479, .unset, .unset, .unset, .unset] [(.int (536870911 : Int32)), (.int i1), (.int ((nP0 i0) + (1 : Int32))), (.int (1 : Int32)), (.ref b479)]
    refine XS.iand X483.here hx rfl (hb hby at_60) rfl ?_
    show Go p e below t T483 m 61 #[iv i0, iv i1, iv i2, iv i3, iv i4, iv (nN i4), iv (nJ i4), iv mz, rv b479, .unset, .unset, .unset, .unset] [(.int (i1 &&& (536870911 : Int32))), (.int ((nP0 i0) + (1 : Int32))), (.int (1 : Int32)), (.ref b479)]
    refine XS.iadd X483.here hx rfl (hb hby at_61) rfl ?_
    show Go p e below t T483 m 62 #[iv i0, iv i1, iv i2, iv i3, iv i4, iv (nN i4), iv (nJ i4), iv mz, rv b479, .unset, .unset, .unset, .unset] [(.int (((nP0 i0) + (1 : Int32)) + (i1 &&& (536870911 : Int32)))), (.int (1 : Int32)), (.ref b479)]
    show Go p e below t T483 m 62 #[iv i0, iv i1, iv i2, iv i3, iv i4, iv (nN i4), iv (nJ i4), iv mz, rv b479, .unset, .unset, .unset, .unset] [(.int (nP1 i0 i1)), (.int (1 : Int32)), (.ref b479)]
    exact k)
  obtain ⟨cl488, Ar488, q488, S488, M488, H488, G488⟩ := id V483
  obtain ⟨T489, h489, X489, e489, W489, st489⟩ := stI X483 hx hZ e483 Ar488 (j := (1 : Int32)) (inb_of S488 ⟨by decide, by decide⟩) (g := (mkF m 62 #[iv i0, iv i1, iv i2, iv i3, iv i4, iv (nN i4), iv (nJ i4), iv mz, rv b479, .unset, .unset, .unset, .unset] [(.int (nP1 i0 i1)), (.int (1 : Int32)), (.ref b479)])) rfl rfl (hb hby at_62)
  have N489 := Fr.snoc X489 N483 ng479
  have V489 : Arv Z h489 b479 k479 .int (4 : Int32) [(.int (nP0 i0)), (.int (nP1 i0 i1)), (.int (0 : Int32)), (.int (0 : Int32))] (.int (0 : Int32)) := Arv.set Ar488 q488 S488 M488 H488 G488 rfl W489 1 rfl (Nat.le_of_ble_eq_true rfl)
  have g490 : Goes p e below S0 (T489.setTop (mkF m 63 #[iv i0, iv i1, iv i2, iv i3, iv i4, iv (nN i4), iv (nJ i4), iv mz, rv b479, .unset, .unset, .unset, .unset] [])) := fun t k => g487 t (st489 t k)
  have g491 : Goes p e below S0 (T489.setTop (mkF m 69 #[iv i0, iv i1, iv i2, iv i3, iv i4, iv (nN i4), iv (nJ i4), iv mz, rv b479, .unset, .unset, .unset, .unset] [(.int (1 : Int32)), (.ref b479), (.int (2 : Int32)), (.ref b479)])) := fun t k => g490 t (by
    refine XS.aload X489.here hx rfl (hb hby at_63) rfl rfl ?_
    show Go p e below t T489 m 65 #[iv i0, iv i1, iv i2, iv i3, iv i4, iv (nN i4), iv (nJ i4), iv mz, rv b479, .unset, .unset, .unset, .unset] [(.ref b479)]
    refine XT.iconstV X489.here hx rfl (2 : Int32) (hb hby at_65) (by decide) ?_
    show Go p e below t T489 m 66 #[iv i0, iv i1, iv i2, iv i3, iv i4, iv (nN i4), iv (nJ i4), iv mz, rv b479, .unset, .unset, .unset, .unset] [(.int (2 : Int32)), (.ref b479)]
    refine XS.aload X489.here hx rfl (hb hby at_66) rfl rfl ?_
    show Go p e below t T489 m 68 #[iv i0, iv i1, iv i2, iv i3, iv i4, iv (nN i4), iv (nJ i4), iv mz, rv b479, .unset, .unset, .unset, .unset] [(.ref b479), (.int (2 : Int32)), (.ref b479)]
    refine XT.iconstV X489.here hx rfl (1 : Int32) (hb hby at_68) (by decide) ?_
    show Go p e below t T489 m 69 #[iv i0, iv i1, iv i2, iv i3, iv i4, iv (nN i4), iv (nJ i4), iv mz, rv b479, .unset, .unset, .unset, .unset] [(.int (1 : Int32)), (.ref b479), (.int (2 : Int32)), (.ref b479)]
    exact k)
  obtain ⟨cl492, Ar492, q492, S492, M492, H492, G492⟩ := id V489
  have g493 : Goes p e below S0 (T489.setTop (mkF m 77 #[iv i0, iv i1, iv i2, iv i3, iv i4, iv (nN i4), iv (nJ i4), iv mz, rv b479, .unset, .unset, .unset, .unset] [(.int (nP2 i0 i1 i2)), (.int (2 : Int32)), (.ref b479)])) := fun t k => g491 t (by
    refine X489.iaload hx (j := (1 : Int32)) (v := (.int (nP1 i0 i1))) (by rw [e489]; exact Ar492.1) (State.isArrayOf_alike hZ.alike Ar492.2.1) Ar492.2.2 (inb_of S492 ⟨by decide, by decide⟩) (H492.at (inb_of S492 ⟨by decide, by decide⟩) rfl) (g := (mkF m 69 #[iv i0, iv i1, iv i2, iv i3, iv i4, iv (nN i4), iv (nJ i4), iv mz, rv b479, .unset, .unset, .unset, .unset] [(.int (1 : Int32)), (.ref b479), (.int (2 : Int32)), (.ref b479)])) rfl rfl (hb hby at_69) _ ?_
    show Go p e below t T489 m 70 #[iv i0, iv i1, iv i2, iv i3, iv i4, iv (nN i4), iv (nJ i4), iv mz, rv b479, .unset, .unset, .unset, .unset] [(.int (nP1 i0 i1)), (.int (2 : Int32)), (.ref b479)]
    refine XT.iconstV X489.here hx rfl (1 : Int32) (hb hby at_70) (by decide) ?_
    show Go p e below t T489 m 71 #[iv i0, iv i1, iv i2, iv i3, iv i4, iv (nN i4), iv (nJ i4), iv mz, rv b479, .unset, .unset, .unset, .unset] [(.int (1 : Int32)), (.int (nP1 i0 i1)), (.int (2 : Int32)), (.ref b479)]
    refine XS.iadd X489.here hx rfl (hb hby at_71) rfl ?_
    show Go p e below t T489 m 72 #[iv i0, iv i1, iv i2, iv i3, iv i4, iv (nN i4), iv (nJ i4), iv mz, rv b479, .unset, .unset, .unset, .unset] [(.int ((nP1 i0 i1) + (1 : Int32))), (.int (2 : Int32)), (.ref b479)]
    refine XS.iloadN X489.here hx rfl (hb hby at_72) rfl ?_
    show Go p e below t T489 m 73 #[iv i0, iv i1, iv i2, iv i3, iv i4, iv (nN i4), iv (nJ i4), iv mz, rv b479, .unset, .unset, .unset, .unset] [(.int i2), (.int ((nP1 i0 i1) + (1 : Int32))), (.int (2 : Int32)), (.ref b479)]
    refine Jvm.Stand.ldcI X489 hx hown (mvT hZ (hw _ (List.mem_of_getElem? (i := 2) rfl))) (g := (mkF m 73 #[iv i0, iv i1, iv i2, iv i3, iv i4, iv (nN i4), iv (nJ i4), iv mz, rv b479, .unset, .unset, .unset, .unset] [(.int i2), (.int ((nP1 i0 i1) + (1 : Int32))), (.int (2 : Int32)), (.ref b479)])) rfl (hb hby at_73) ?_
    show Go p e below t T489 m 75 #[iv i0, iv i1, iv i2, iv i3, iv i4, iv (nN i4), iv (nJ i4), iv mz, rv b479, .unset, .unset, .unset, .unset] [(.int (536870911 : Int32)), (.int i2), (.int ((nP1 i0 i1) + (1 : Int32))), (.int (2 : Int32)), (.ref b479)]
    refine XS.iand X489.here hx rfl (hb hby at_75) rfl ?_
    show Go p e below t T489 m 76 #[iv i0, iv i1, iv i2, iv i3, iv i4, iv (nN i4), iv (nJ i4), iv mz, rv b479, .unset, .unset, .unset, .unset] [(.int (i2 &&& (536870911 : Int32))), (.int ((nP1 i0 i1) + (1 : Int32))), (.int (2 : Int32)), (.ref b479)]
    refine XS.iadd X489.here hx rfl (hb hby at_76) rfl ?_
    show Go p e below t T489 m 77 #[iv i0, iv i1, iv i2, iv i3, iv i4, iv (nN i4), iv (nJ i4), iv mz, rv b479, .unset, .unset, .unset, .unset] [(.int (((nP1 i0 i1) + (1 : Int32)) + (i2 &&& (536870911 : Int32)))), (.int (2 : Int32)), (.ref b479)]
    show Go p e below t T489 m 77 #[iv i0, iv i1, iv i2, iv i3, iv i4, iv (nN i4), iv (nJ i4), iv mz, rv b479, .unset, .unset, .unset, .unset] [(.int (nP2 i0 i1 i2)), (.int (2 : Int32)), (.ref b479)]
    exact k)
  obtain ⟨cl494, Ar494, q494, S494, M494, H494, G494⟩ := id V489
  obtain ⟨T495, h495, X495, e495, W495, st495⟩ := stI X489 hx hZ e489 Ar494 (j := (2 : Int32)) (inb_of S494 ⟨by decide, by decide⟩) (g := (mkF m 77 #[iv i0, iv i1, iv i2, iv i3, iv i4, iv (nN i4), iv (nJ i4), iv mz, rv b479, .unset, .unset, .unset, .unset] [(.int (nP2 i0 i1 i2)), (.int (2 : Int32)), (.ref b479)])) rfl rfl (hb hby at_77)
  have N495 := Fr.snoc X495 N489 ng479
  have V495 : Arv Z h495 b479 k479 .int (4 : Int32) [(.int (nP0 i0)), (.int (nP1 i0 i1)), (.int (nP2 i0 i1 i2)), (.int (0 : Int32))] (.int (0 : Int32)) := Arv.set Ar494 q494 S494 M494 H494 G494 rfl W495 2 rfl (Nat.le_of_ble_eq_true rfl)
  have g496 : Goes p e below S0 (T495.setTop (mkF m 78 #[iv i0, iv i1, iv i2, iv i3, iv i4, iv (nN i4), iv (nJ i4), iv mz, rv b479, .unset, .unset, .unset, .unset] [])) := fun t k => g493 t (st495 t k)
  have g497 : Goes p e below S0 (T495.setTop (mkF m 84 #[iv i0, iv i1, iv i2, iv i3, iv i4, iv (nN i4), iv (nJ i4), iv mz, rv b479, .unset, .unset, .unset, .unset] [(.int (2 : Int32)), (.ref b479), (.int (3 : Int32)), (.ref b479)])) := fun t k => g496 t (by
    refine XS.aload X495.here hx rfl (hb hby at_78) rfl rfl ?_
    show Go p e below t T495 m 80 #[iv i0, iv i1, iv i2, iv i3, iv i4, iv (nN i4), iv (nJ i4), iv mz, rv b479, .unset, .unset, .unset, .unset] [(.ref b479)]
    refine XT.iconstV X495.here hx rfl (3 : Int32) (hb hby at_80) (by decide) ?_
    show Go p e below t T495 m 81 #[iv i0, iv i1, iv i2, iv i3, iv i4, iv (nN i4), iv (nJ i4), iv mz, rv b479, .unset, .unset, .unset, .unset] [(.int (3 : Int32)), (.ref b479)]
    refine XS.aload X495.here hx rfl (hb hby at_81) rfl rfl ?_
    show Go p e below t T495 m 83 #[iv i0, iv i1, iv i2, iv i3, iv i4, iv (nN i4), iv (nJ i4), iv mz, rv b479, .unset, .unset, .unset, .unset] [(.ref b479), (.int (3 : Int32)), (.ref b479)]
    refine XT.iconstV X495.here hx rfl (2 : Int32) (hb hby at_83) (by decide) ?_
    show Go p e below t T495 m 84 #[iv i0, iv i1, iv i2, iv i3, iv i4, iv (nN i4), iv (nJ i4), iv mz, rv b479, .unset, .unset, .unset, .unset] [(.int (2 : Int32)), (.ref b479), (.int (3 : Int32)), (.ref b479)]
    exact k)
  obtain ⟨cl498, Ar498, q498, S498, M498, H498, G498⟩ := id V495
  have g499 : Goes p e below S0 (T495.setTop (mkF m 92 #[iv i0, iv i1, iv i2, iv i3, iv i4, iv (nN i4), iv (nJ i4), iv mz, rv b479, .unset, .unset, .unset, .unset] [(.int (nP3 i0 i1 i2 i3)), (.int (3 : Int32)), (.ref b479)])) := fun t k => g497 t (by
    refine X495.iaload hx (j := (2 : Int32)) (v := (.int (nP2 i0 i1 i2))) (by rw [e495]; exact Ar498.1) (State.isArrayOf_alike hZ.alike Ar498.2.1) Ar498.2.2 (inb_of S498 ⟨by decide, by decide⟩) (H498.at (inb_of S498 ⟨by decide, by decide⟩) rfl) (g := (mkF m 84 #[iv i0, iv i1, iv i2, iv i3, iv i4, iv (nN i4), iv (nJ i4), iv mz, rv b479, .unset, .unset, .unset, .unset] [(.int (2 : Int32)), (.ref b479), (.int (3 : Int32)), (.ref b479)])) rfl rfl (hb hby at_84) _ ?_
    show Go p e below t T495 m 85 #[iv i0, iv i1, iv i2, iv i3, iv i4, iv (nN i4), iv (nJ i4), iv mz, rv b479, .unset, .unset, .unset, .unset] [(.int (nP2 i0 i1 i2)), (.int (3 : Int32)), (.ref b479)]
    refine XT.iconstV X495.here hx rfl (1 : Int32) (hb hby at_85) (by decide) ?_
    show Go p e below t T495 m 86 #[iv i0, iv i1, iv i2, iv i3, iv i4, iv (nN i4), iv (nJ i4), iv mz, rv b479, .unset, .unset, .unset, .unset] [(.int (1 : Int32)), (.int (nP2 i0 i1 i2)), (.int (3 : Int32)), (.ref b479)]
    refine XS.iadd X495.here hx rfl (hb hby at_86) rfl ?_
    show Go p e below t T495 m 87 #[iv i0, iv i1, iv i2, iv i3, iv i4, iv (nN i4), iv (nJ i4), iv mz, rv b479, .unset, .unset, .unset, .unset] [(.int ((nP2 i0 i1 i2) + (1 : Int32))), (.int (3 : Int32)), (.ref b479)]
    refine XS.iloadN X495.here hx rfl (hb hby at_87) rfl ?_
    show Go p e below t T495 m 88 #[iv i0, iv i1, iv i2, iv i3, iv i4, iv (nN i4), iv (nJ i4), iv mz, rv b479, .unset, .unset, .unset, .unset] [(.int i3), (.int ((nP2 i0 i1 i2) + (1 : Int32))), (.int (3 : Int32)), (.ref b479)]
    refine Jvm.Stand.ldcI X495 hx hown (mvT hZ (hw _ (List.mem_of_getElem? (i := 2) rfl))) (g := (mkF m 88 #[iv i0, iv i1, iv i2, iv i3, iv i4, iv (nN i4), iv (nJ i4), iv mz, rv b479, .unset, .unset, .unset, .unset] [(.int i3), (.int ((nP2 i0 i1 i2) + (1 : Int32))), (.int (3 : Int32)), (.ref b479)])) rfl (hb hby at_88) ?_
    show Go p e below t T495 m 90 #[iv i0, iv i1, iv i2, iv i3, iv i4, iv (nN i4), iv (nJ i4), iv mz, rv b479, .unset, .unset, .unset, .unset] [(.int (536870911 : Int32)), (.int i3), (.int ((nP2 i0 i1 i2) + (1 : Int32))), (.int (3 : Int32)), (.ref b479)]
    refine XS.iand X495.here hx rfl (hb hby at_90) rfl ?_
    show Go p e below t T495 m 91 #[iv i0, iv i1, iv i2, iv i3, iv i4, iv (nN i4), iv (nJ i4), iv mz, rv b479, .unset, .unset, .unset, .unset] [(.int (i3 &&& (536870911 : Int32))), (.int ((nP2 i0 i1 i2) + (1 : Int32))), (.int (3 : Int32)), (.ref b479)]
    refine XS.iadd X495.here hx rfl (hb hby at_91) rfl ?_
    show Go p e below t T495 m 92 #[iv i0, iv i1, iv i2, iv i3, iv i4, iv (nN i4), iv (nJ i4), iv mz, rv b479, .unset, .unset, .unset, .unset] [(.int (((nP2 i0 i1 i2) + (1 : Int32)) + (i3 &&& (536870911 : Int32)))), (.int (3 : Int32)), (.ref b479)]
    show Go p e below t T495 m 92 #[iv i0, iv i1, iv i2, iv i3, iv i4, iv (nN i4), iv (nJ i4), iv mz, rv b479, .unset, .unset, .unset, .unset] [(.int (nP3 i0 i1 i2 i3)), (.int (3 : Int32)), (.ref b479)]
    exact k)
  obtain ⟨cl500, Ar500, q500, S500, M500, H500, G500⟩ := id V495
  obtain ⟨T501, h501, X501, e501, W501, st501⟩ := stI X495 hx hZ e495 Ar500 (j := (3 : Int32)) (inb_of S500 ⟨by decide, by decide⟩) (g := (mkF m 92 #[iv i0, iv i1, iv i2, iv i3, iv i4, iv (nN i4), iv (nJ i4), iv mz, rv b479, .unset, .unset, .unset, .unset] [(.int (nP3 i0 i1 i2 i3)), (.int (3 : Int32)), (.ref b479)])) rfl rfl (hb hby at_92)
  have N501 := Fr.snoc X501 N495 ng479
  have V501 : Arv Z h501 b479 k479 .int (4 : Int32) [(.int (nP0 i0)), (.int (nP1 i0 i1)), (.int (nP2 i0 i1 i2)), (.int (nP3 i0 i1 i2 i3))] (.int (0 : Int32)) := Arv.set Ar500 q500 S500 M500 H500 G500 rfl W501 3 rfl (Nat.le_of_ble_eq_true rfl)
  have g502 : Goes p e below S0 (T501.setTop (mkF m 93 #[iv i0, iv i1, iv i2, iv i3, iv i4, iv (nN i4), iv (nJ i4), iv mz, rv b479, .unset, .unset, .unset, .unset] [])) := fun t k => g499 t (st501 t k)
  obtain ⟨n1, hn1⟩ : ∃ z, z = (nN i4) := ⟨_, rfl⟩
  rw [← hn1] at g502
  obtain ⟨j1, hj1⟩ : ∃ z, z = (nJ i4) := ⟨_, rfl⟩
  rw [← hj1] at g502
  rcases (by rw [hn1, hj1]; exact own_nj i4 : (n1 = 1 ∧ j1 = 0) ∨ (n1 = 2 ∧ j1 = 0) ∨ (n1 = 2 ∧ j1 = 1) ∨ (n1 = 3 ∧ j1 = 0) ∨ (n1 = 3 ∧ j1 = 1) ∨ (n1 = 3 ∧ j1 = 2) ∨ (n1 = 4 ∧ j1 = 0) ∨ (n1 = 4 ∧ j1 = 1) ∨ (n1 = 4 ∧ j1 = 2) ∨ (n1 = 4 ∧ j1 = 3)) with ⟨rfl, rfl⟩ | ⟨rfl, rfl⟩ | ⟨rfl, rfl⟩ | ⟨rfl, rfl⟩ | ⟨rfl, rfl⟩ | ⟨rfl, rfl⟩ | ⟨rfl, rfl⟩ | ⟨rfl, rfl⟩ | ⟨rfl, rfl⟩ | ⟨rfl, rfl⟩
  · skip
    have g503 : Goes p e below S0 (T501.setTop (mkF m 97 #[iv i0, iv i1, iv i2, iv i3, iv i4, iv (1 : Int32), iv (0 : Int32), iv mz, rv b479, .unset, .unset, .unset, .unset] [(.int (1 : Int32)), (.ref b479)])) := fun t k => g502 t (by
      refine XS.aload X501.here hx rfl (hb hby at_93) rfl rfl ?_
      show Go p e below t T501 m 95 #[iv i0, iv i1, iv i2, iv i3, iv i4, iv (1 : Int32), iv (0 : Int32), iv mz, rv b479, .unset, .unset, .unset, .unset] [(.ref b479)]
      refine XS.iload X501.here hx rfl (hb hby at_95) rfl ?_
      show Go p e below t T501 m 97 #[iv i0, iv i1, iv i2, iv i3, iv i4, iv (1 : Int32), iv (0 : Int32), iv mz, rv b479, .unset, .unset, .unset, .unset] [(.int (1 : Int32)), (.ref b479)]
      exact k)
    obtain ⟨_, _, ⟨T504, L504, k504, n504⟩, -, X504, ⟨Lc504, hQ504, l504, y504, z504⟩, st504⟩ := Jvm.LawKit.callS X501 hx (y := (⟨"com/example/aristotle/aristotle/StepMadePinLaw", "prefix", "([II)[I"⟩ : MethodName)) hown (mvT hZ (hw _ (List.mem_of_getElem? (i := 3) rfl))) (mvT hZ (hw _ (List.mem_of_getElem? (i := 4) rfl))) (mvT hZ (hw _ (List.mem_of_getElem? (i := 5) rfl))) (mvT hZ (hw _ (List.mem_of_getElem? (i := 6) rfl))) (by decide) (backOf (W := 0) (rm_pr1 l Z a0 hw [] b479 (1 : Int32) k479 (nP0 i0) (nP1 i0 i1) (nP2 i0 i1 i2) (nP3 i0 i1 i2 i3) h501 n0 (Nat.le_trans Z0 (Nat.le_trans (Nat.le_trans (Nat.le_trans (Nat.le_trans (Nat.le_trans (Nat.le_refl _) E479.1) (Nat.le_of_eq W483.size.symm)) (Nat.le_of_eq W489.size.symm)) (Nat.le_of_eq W495.size.symm)) (Nat.le_of_eq W501.size.symm))) V501 rfl) hZ (hw _ (List.mem_of_getElem? (i := 6) rfl)) (hw _ (List.mem_of_getElem? (i := 5) rfl)) (by decide) (by decide)) (g := (mkF m 97 #[iv i0, iv i1, iv i2, iv i3, iv i4, iv (1 : Int32), iv (0 : Int32), iv mz, rv b479, .unset, .unset, .unset, .unset] [(.int (1 : Int32)), (.ref b479)])) rfl (by rw [hml]; rfl) (argsL := [(.ref b479), (.int (1 : Int32))]) (rest := []) (lenOf pd2 rfl) rfl (by show 2 * 0 + _ ≤ _; exact Nat.le_of_eq rfl) (hb hby at_97) (fun _ _ => ⟨rfl, e501, (by decide : 1 + 1 ≤ _), (by decide : 4 + 1 ≤ _)⟩)
    dsimp only [Pt.U, Pt.locs, Pt.cells, Pt.slots] at X504 l504 y504 z504 st504 hQ504
    subst l504 y504 z504
    obtain ⟨ra_504, rk_504, rfl, N504, R504_0, R504_1, R504_2⟩ := hQ504
    have M504 := Fr.app N501 N504
    have sz504_2 : h0.size ≤ ra_504 := Nat.le_trans (Nat.le_trans (Nat.le_trans (Nat.le_trans (Nat.le_trans (Nat.le_trans (Nat.le_refl _) E479.1) (Nat.le_of_eq W483.size.symm)) (Nat.le_of_eq W489.size.symm)) (Nat.le_of_eq W495.size.symm)) (Nat.le_of_eq W501.size.symm)) R504_2
    have ng504_2 : n0 ≤ ra_504 := Nat.le_trans Z0 sz504_2
    have g505 : Goes p e below S0 (T504.setTop (mkF m 100 #[iv i0, iv i1, iv i2, iv i3, iv i4, iv (1 : Int32), iv (0 : Int32), iv mz, rv b479, .unset, .unset, .unset, .unset] [(.ref ra_504)])) := fun t k => g503 t (st504 t k)
    have g506 : Goes p e below S0 (T504.setTop (mkF m 106 #[iv i0, iv i1, iv i2, iv i3, iv i4, iv (1 : Int32), iv (0 : Int32), iv mz, rv b479, rv ra_504, .unset, .unset, .unset] [(.int (0 : Int32)), (.ref b479)])) := fun t k => g505 t (by
      refine XS.astore X504.here hx rfl (hb hby at_100) rfl rfl (l' := #[iv i0, iv i1, iv i2, iv i3, iv i4, iv (1 : Int32), iv (0 : Int32), iv mz, rv b479, rv ra_504, .unset, .unset, .unset]) rfl ?_
      show Go p e below t T504 m 102 #[iv i0, iv i1, iv i2, iv i3, iv i4, iv (1 : Int32), iv (0 : Int32), iv mz, rv b479, rv ra_504, .unset, .unset, .unset] []
      refine XS.aload X504.here hx rfl (hb hby at_102) rfl rfl ?_
      show Go p e below t T504 m 104 #[iv i0, iv i1, iv i2, iv i3, iv i4, iv (1 : Int32), iv (0 : Int32), iv mz, rv b479, rv ra_504, .unset, .unset, .unset] [(.ref b479)]
      refine XS.iload X504.here hx rfl (hb hby at_104) rfl ?_
      show Go p e below t T504 m 106 #[iv i0, iv i1, iv i2, iv i3, iv i4, iv (1 : Int32), iv (0 : Int32), iv mz, rv b479, rv ra_504, .unset, .unset, .unset] [(.int (0 : Int32)), (.ref b479)]
      exact k)
    obtain ⟨cl507, Ar507, q507, S507, M507, H507, G507⟩ := id (V501.keep R504_0 nin0)
    have g508 : Goes p e below S0 (T504.setTop (mkF m 109 #[iv i0, iv i1, iv i2, iv i3, iv i4, iv (1 : Int32), iv (0 : Int32), iv mz, rv b479, rv ra_504, iv (nP0 i0), .unset, .unset] [])) := fun t k => g506 t (by
      refine X504.iaload hx (j := (0 : Int32)) (v := (.int (nP0 i0))) Ar507.1 (State.isArrayOf_alike hZ.alike Ar507.2.1) Ar507.2.2 (inb_of S507 ⟨by decide, by decide⟩) (H507.at (inb_of S507 ⟨by decide, by decide⟩) rfl) (g := (mkF m 106 #[iv i0, iv i1, iv i2, iv i3, iv i4, iv (1 : Int32), iv (0 : Int32), iv mz, rv b479, rv ra_504, .unset, .unset, .unset] [(.int (0 : Int32)), (.ref b479)])) rfl rfl (hb hby at_106) _ ?_
      show Go p e below t T504 m 107 #[iv i0, iv i1, iv i2, iv i3, iv i4, iv (1 : Int32), iv (0 : Int32), iv mz, rv b479, rv ra_504, .unset, .unset, .unset] [(.int (nP0 i0))]
      refine XS.istore X504.here hx rfl (hb hby at_107) rfl (l' := #[iv i0, iv i1, iv i2, iv i3, iv i4, iv (1 : Int32), iv (0 : Int32), iv mz, rv b479, rv ra_504, iv (nP0 i0), .unset, .unset]) rfl ?_
      show Go p e below t T504 m 109 #[iv i0, iv i1, iv i2, iv i3, iv i4, iv (1 : Int32), iv (0 : Int32), iv mz, rv b479, rv ra_504, iv (nP0 i0), .unset, .unset] []
      exact k)
    obtain ⟨T509, h509, X509, e509, E509, A509, D509, -, st509⟩ := newO X504 hx hZ hown (hw _ (List.mem_of_getElem? (i := 7) rfl)) (hw _ (List.mem_of_getElem? (i := 8) rfl)) (hw _ (List.mem_of_getElem? (i := 9) rfl)) rfl (g := (mkF m 109 #[iv i0, iv i1, iv i2, iv i3, iv i4, iv (1 : Int32), iv (0 : Int32), iv mz, rv b479, rv ra_504, iv (nP0 i0), .unset, .unset] [])) rfl (hb hby at_109) (by decide) (by decide)
    obtain ⟨b509, gb509⟩ : ∃ z, z = T504.heap.size := ⟨_, rfl⟩
    have sz509 : h0.size ≤ b509 := Nat.le_trans (Nat.le_trans (Nat.le_trans (Nat.le_trans (Nat.le_trans (Nat.le_trans (Nat.le_trans (Nat.le_refl _) E479.1) (Nat.le_of_eq W483.size.symm)) (Nat.le_of_eq W489.size.symm)) (Nat.le_of_eq W495.size.symm)) (Nat.le_of_eq W501.size.symm)) R504_0.1) (Nat.le_of_eq gb509.symm)
    have ng509 : n0 ≤ b509 := Nat.le_trans Z0 sz509
    rw [← gb509] at A509 D509 st509
    have F509_510 : Fld Z h509 b509 "com/example/aristotle/aristotle/EliminationPlan$Step" "variable" "I" (.int (0 : Int32)) := D509 (Or.inr (hw _ (List.mem_of_getElem? (i := 22) rfl))) (ty := .int) (by decide)
    have F509_511 : Fld Z h509 b509 "com/example/aristotle/aristotle/EliminationPlan$Step" "tables" "[I" .null := D509 (Or.inr (hw _ (List.mem_of_getElem? (i := 24) rfl))) (ty := (.array .int)) (by decide)
    have F509_512 : Fld Z h509 b509 "com/example/aristotle/aristotle/EliminationPlan$Step" "product" "[I" .null := D509 (Or.inr (hw _ (List.mem_of_getElem? (i := 26) rfl))) (ty := (.array .int)) (by decide)
    have F509_513 : Fld Z h509 b509 "com/example/aristotle/aristotle/EliminationPlan$Step" "entries" "D" (.double (0 : UInt64)) := D509 (Or.inr (hw _ (List.mem_of_getElem? (i := 28) rfl))) (ty := .double) (by decide)
    have F509_514 : Fld Z h509 b509 "com/example/aristotle/aristotle/EliminationPlan$Step" "makes" "Z" (.int (0 : Int32)) := D509 (Or.inr (hw _ (List.mem_of_getElem? (i := 30) rfl))) (ty := .boolean) (by decide)
    have g515 : Goes p e below S0 (T509.setTop (mkF m 112 #[iv i0, iv i1, iv i2, iv i3, iv i4, iv (1 : Int32), iv (0 : Int32), iv mz, rv b479, rv ra_504, iv (nP0 i0), .unset, .unset] [(.ref b509)])) := fun t k => g508 t (st509 t k)
    have g516 : Goes p e below S0 (T509.setTop (mkF m 116 #[iv i0, iv i1, iv i2, iv i3, iv i4, iv (1 : Int32), iv (0 : Int32), iv mz, rv b479, rv ra_504, iv (nP0 i0), .unset, .unset] [(.int (0 : Int32)), (.int (nP0 i0)), (.ref b509), (.ref b509)])) := fun t k => g515 t (by
      refine XS.dup X509.here hx rfl (hb hby at_112) rfl rfl ?_
      show Go p e below t T509 m 113 #[iv i0, iv i1, iv i2, iv i3, iv i4, iv (1 : Int32), iv (0 : Int32), iv mz, rv b479, rv ra_504, iv (nP0 i0), .unset, .unset] [(.ref b509), (.ref b509)]
      refine XS.iload X509.here hx rfl (hb hby at_113) rfl ?_
      show Go p e below t T509 m 115 #[iv i0, iv i1, iv i2, iv i3, iv i4, iv (1 : Int32), iv (0 : Int32), iv mz, rv b479, rv ra_504, iv (nP0 i0), .unset, .unset] [(.int (nP0 i0)), (.ref b509), (.ref b509)]
      refine XT.iconstV X509.here hx rfl (0 : Int32) (hb hby at_115) (by decide) ?_
      show Go p e below t T509 m 116 #[iv i0, iv i1, iv i2, iv i3, iv i4, iv (1 : Int32), iv (0 : Int32), iv mz, rv b479, rv ra_504, iv (nP0 i0), .unset, .unset] [(.int (0 : Int32)), (.int (nP0 i0)), (.ref b509), (.ref b509)]
      exact k)
    obtain ⟨T517, h517, k517, X517, e517, E517, A517, st517⟩ := newP X509 hx hZ (hw _ (List.mem_of_getElem? (i := 1) rfl)) e509 (g := (mkF m 116 #[iv i0, iv i1, iv i2, iv i3, iv i4, iv (1 : Int32), iv (0 : Int32), iv mz, rv b479, rv ra_504, iv (nP0 i0), .unset, .unset] [(.int (0 : Int32)), (.int (nP0 i0)), (.ref b509), (.ref b509)])) rfl (hb hby at_116) rfl (by decide) (cap := 0) (by decide) (by decide) (by decide) (by decide)
    obtain ⟨b517, gb517⟩ : ∃ z, z = h509.size := ⟨_, rfl⟩
    have sz517 : h0.size ≤ b517 := Nat.le_trans (Nat.le_trans (Nat.le_trans (Nat.le_trans (Nat.le_trans (Nat.le_trans (Nat.le_trans (Nat.le_trans (Nat.le_refl _) E479.1) (Nat.le_of_eq W483.size.symm)) (Nat.le_of_eq W489.size.symm)) (Nat.le_of_eq W495.size.symm)) (Nat.le_of_eq W501.size.symm)) R504_0.1) E509.1) (Nat.le_of_eq gb517.symm)
    have ng517 : n0 ≤ b517 := Nat.le_trans Z0 sz517
    rw [← gb517] at A517 st517
    have V517 : Arv Z h517 b517 k517 .int (0 : Int32) [] (.int (0 : Int32)) := (Arv.new A517 (by decide)).pad (pad_rep [] (.int (0 : Int32)) 0)
    have g518 : Goes p e below S0 (T517.setTop (mkF m 118 #[iv i0, iv i1, iv i2, iv i3, iv i4, iv (1 : Int32), iv (0 : Int32), iv mz, rv b479, rv ra_504, iv (nP0 i0), .unset, .unset] [(.ref b517), (.int (nP0 i0)), (.ref b509), (.ref b509)])) := fun t k => g516 t (st517 t k)
    have g519 : Goes p e below S0 (T517.setTop (mkF m 125 #[iv i0, iv i1, iv i2, iv i3, iv i4, iv (1 : Int32), iv (0 : Int32), iv mz, rv b479, rv ra_504, iv (nP0 i0), .unset, .unset] [(.int mz), (.double (FP.i2d (1 : Int32))), (.ref ra_504), (.ref b517), (.int (nP0 i0)), (.ref b509), (.ref b509)])) := fun t k => g518 t (by
      refine XS.aload X517.here hx rfl (hb hby at_118) rfl rfl ?_
      show Go p e below t T517 m 120 #[iv i0, iv i1, iv i2, iv i3, iv i4, iv (1 : Int32), iv (0 : Int32), iv mz, rv b479, rv ra_504, iv (nP0 i0), .unset, .unset] [(.ref ra_504), (.ref b517), (.int (nP0 i0)), (.ref b509), (.ref b509)]
      refine XS.iload X517.here hx rfl (hb hby at_120) rfl ?_
      show Go p e below t T517 m 122 #[iv i0, iv i1, iv i2, iv i3, iv i4, iv (1 : Int32), iv (0 : Int32), iv mz, rv b479, rv ra_504, iv (nP0 i0), .unset, .unset] [(.int (1 : Int32)), (.ref ra_504), (.ref b517), (.int (nP0 i0)), (.ref b509), (.ref b509)]
      refine XS.i2dS X517.here hx rfl (hb hby at_122) rfl rfl ?_
      show Go p e below t T517 m 123 #[iv i0, iv i1, iv i2, iv i3, iv i4, iv (1 : Int32), iv (0 : Int32), iv mz, rv b479, rv ra_504, iv (nP0 i0), .unset, .unset] [(.double (FP.i2d (1 : Int32))), (.ref ra_504), (.ref b517), (.int (nP0 i0)), (.ref b509), (.ref b509)]
      refine XS.iload X517.here hx rfl (hb hby at_123) rfl ?_
      show Go p e below t T517 m 125 #[iv i0, iv i1, iv i2, iv i3, iv i4, iv (1 : Int32), iv (0 : Int32), iv mz, rv b479, rv ra_504, iv (nP0 i0), .unset, .unset] [(.int mz), (.double (FP.i2d (1 : Int32))), (.ref ra_504), (.ref b517), (.int (nP0 i0)), (.ref b509), (.ref b509)]
      exact k)
    obtain ⟨_, _, ⟨T520, L520, k520, n520⟩, -, X520, ⟨Lc520, hQ520, l520, y520, z520⟩, st520⟩ := X517.specialBack hx (y := (⟨"com/example/aristotle/aristotle/EliminationPlan$Step", "<init>", "(I[I[IDZ)V"⟩ : MethodName)) rfl hown (mvT hZ (hw _ (List.mem_of_getElem? (i := 10) rfl))) (mvT hZ (hw _ (List.mem_of_getElem? (i := 11) rfl))) (mvT hZ (hw _ (List.mem_of_getElem? (i := 12) rfl))) (by decide) (backOf (W := 1) (rm_ini l Z a0 hw [] b509 (nP0 i0) b517 ra_504 (FP.i2d (1 : Int32)) mz  h517 n0 (Nat.le_trans Z0 (Nat.le_trans (Nat.le_trans (Nat.le_trans (Nat.le_trans (Nat.le_trans (Nat.le_trans (Nat.le_trans (Nat.le_trans (Nat.le_refl _) E479.1) (Nat.le_of_eq W483.size.symm)) (Nat.le_of_eq W489.size.symm)) (Nat.le_of_eq W495.size.symm)) (Nat.le_of_eq W501.size.symm)) R504_0.1) E509.1) E517.1)) (A509.ext E517) ng509 (F509_510.ext E517) (F509_511.ext E517) (F509_512.ext E517) (F509_513.ext E517) (F509_514.ext E517)) hZ (hw _ (List.mem_of_getElem? (i := 12) rfl)) (hw _ (List.mem_of_getElem? (i := 9) rfl)) (by decide) (by decide)) (g := (mkF m 125 #[iv i0, iv i1, iv i2, iv i3, iv i4, iv (1 : Int32), iv (0 : Int32), iv mz, rv b479, rv ra_504, iv (nP0 i0), .unset, .unset] [(.int mz), (.double (FP.i2d (1 : Int32))), (.ref ra_504), (.ref b517), (.int (nP0 i0)), (.ref b509), (.ref b509)])) rfl (by rw [hml]; rfl) (Steps.refl _) (a := b509) (argsL := [(.int (nP0 i0)), (.ref b517), (.ref ra_504), (.double (FP.i2d (1 : Int32))), (.int mz)]) (rest := [(.ref b509)]) (lenOf pd1 rfl) rfl (by show 2 * 0 + _ ≤ _; exact Nat.le_of_eq rfl) (hb hby at_125) (fun _ _ => ⟨rfl, e517, (by decide : 4 + 0 ≤ _), (by decide : 10 + 0 ≤ _)⟩)
    dsimp only [Pt.U, Pt.locs, Pt.cells, Pt.slots] at X520 l520 y520 z520 st520 hQ520
    subst l520 y520 z520
    obtain ⟨rfl, N520, R520_0, R520_1, R520_2, R520_3, R520_4, R520_5, R520_6⟩ := hQ520
    have M520 := Fr.app M504 N520
    have g521 : Goes p e below S0 (T520.setTop (mkF m 128 #[iv i0, iv i1, iv i2, iv i3, iv i4, iv (1 : Int32), iv (0 : Int32), iv mz, rv b479, rv ra_504, iv (nP0 i0), .unset, .unset] [(.ref b509)])) := fun t k => g519 t (st520.trans k)
    have g522 : Goes p e below S0 (T520.setTop (mkF m 132 #[iv i0, iv i1, iv i2, iv i3, iv i4, iv (1 : Int32), iv (0 : Int32), iv mz, rv b479, rv ra_504, iv (nP0 i0), rv b509, .unset] [(.ref b509)])) := fun t k => g521 t (by
      refine XS.astore X520.here hx rfl (hb hby at_128) rfl rfl (l' := #[iv i0, iv i1, iv i2, iv i3, iv i4, iv (1 : Int32), iv (0 : Int32), iv mz, rv b479, rv ra_504, iv (nP0 i0), rv b509, .unset]) rfl ?_
      show Go p e below t T520 m 130 #[iv i0, iv i1, iv i2, iv i3, iv i4, iv (1 : Int32), iv (0 : Int32), iv mz, rv b479, rv ra_504, iv (nP0 i0), rv b509, .unset] []
      refine XS.aload X520.here hx rfl (hb hby at_130) rfl rfl ?_
      show Go p e below t T520 m 132 #[iv i0, iv i1, iv i2, iv i3, iv i4, iv (1 : Int32), iv (0 : Int32), iv mz, rv b479, rv ra_504, iv (nP0 i0), rv b509, .unset] [(.ref b509)]
      exact k)
    obtain ⟨cq523, kq523, q523a, q523b, q523c⟩ := isOf hZ rfl R520_1
    obtain ⟨_, _, ⟨T523, L523, k523, n523⟩, -, X523, ⟨Lc523, hQ523, l523, y523, z523⟩, st523⟩ := X520.virtualBack hx (y := (⟨"com/example/aristotle/aristotle/EliminationPlan$Step", "made", "()[I"⟩ : MethodName)) (z := (⟨"com/example/aristotle/aristotle/EliminationPlan$Step", "made", "()[I"⟩ : MethodName)) hown (mvT hZ (hw _ (List.mem_of_getElem? (i := 31) rfl))) (mvT hZ (hw _ (List.mem_of_getElem? (i := 32) rfl))) (notFace_of_selects (args := #[]) (mvT hZ (hw _ (List.mem_of_getElem? (i := 34) rfl)))) (mvT hZ (hw _ (List.mem_of_getElem? (i := 34) rfl))) (mvT hZ (hw _ (List.mem_of_getElem? (i := 33) rfl))) (by decide) (backOf (W := 0) (rm_md10 l Z a0 hw [] b509 ra_504 rk_504 (nP0 i0) T520.heap n0 (Nat.le_trans Z0 (Nat.le_trans (Nat.le_trans (Nat.le_trans (Nat.le_trans (Nat.le_trans (Nat.le_trans (Nat.le_trans (Nat.le_trans (Nat.le_trans (Nat.le_refl _) E479.1) (Nat.le_of_eq W483.size.symm)) (Nat.le_of_eq W489.size.symm)) (Nat.le_of_eq W495.size.symm)) (Nat.le_of_eq W501.size.symm)) R504_0.1) E509.1) E517.1) R520_0.1)) R520_4 R520_2 (((R504_1.ext E509).ext E517).keep R520_0 (ninS (Nat.ne_of_lt (Nat.lt_of_lt_of_le R504_1.lt (Nat.le_of_eq gb509.symm))) nin0))) hZ (hw _ (List.mem_of_getElem? (i := 35) rfl)) (hw _ (List.mem_of_getElem? (i := 9) rfl)) (by decide) (by decide)) q523a q523c (g := (mkF m 132 #[iv i0, iv i1, iv i2, iv i3, iv i4, iv (1 : Int32), iv (0 : Int32), iv mz, rv b479, rv ra_504, iv (nP0 i0), rv b509, .unset] [(.ref b509)])) rfl (by rw [hml]; rfl) (Steps.refl _) (argsL := []) (rest := []) (lenOf pd3 rfl) rfl (by show 2 * 0 + _ ≤ _; exact Nat.le_of_eq rfl) (hb hby at_132) (fun _ _ => ⟨rfl, rfl, (by decide : 4 + 1 ≤ _), (by decide : 10 + 0 ≤ _)⟩)
    dsimp only [Pt.U, Pt.locs, Pt.cells, Pt.slots] at X523 l523 y523 z523 st523 hQ523
    subst l523 y523 z523
    obtain ⟨ra_523, rk_523, rfl, N523, R523_0, R523_1, R523_2⟩ := hQ523
    have M523 := Fr.app M520 N523
    have sz523_2 : h0.size ≤ ra_523 := Nat.le_trans (Nat.le_trans (Nat.le_trans (Nat.le_trans (Nat.le_trans (Nat.le_trans (Nat.le_trans (Nat.le_trans (Nat.le_trans (Nat.le_trans (Nat.le_refl _) E479.1) (Nat.le_of_eq W483.size.symm)) (Nat.le_of_eq W489.size.symm)) (Nat.le_of_eq W495.size.symm)) (Nat.le_of_eq W501.size.symm)) R504_0.1) E509.1) E517.1) R520_0.1) R523_2
    have ng523_2 : n0 ≤ ra_523 := Nat.le_trans Z0 sz523_2
    have g524 : Goes p e below S0 (T523.setTop (mkF m 135 #[iv i0, iv i1, iv i2, iv i3, iv i4, iv (1 : Int32), iv (0 : Int32), iv mz, rv b479, rv ra_504, iv (nP0 i0), rv b509, .unset] [(.ref ra_523)])) := fun t k => g522 t (st523.trans k)
    have g525 : Goes p e below S0 (T523.setTop (mkF m 139 #[iv i0, iv i1, iv i2, iv i3, iv i4, iv (1 : Int32), iv (0 : Int32), iv mz, rv b479, rv ra_504, iv (nP0 i0), rv b509, rv ra_523] [(.ref ra_523)])) := fun t k => g524 t (by
      refine XS.astore X523.here hx rfl (hb hby at_135) rfl rfl (l' := #[iv i0, iv i1, iv i2, iv i3, iv i4, iv (1 : Int32), iv (0 : Int32), iv mz, rv b479, rv ra_504, iv (nP0 i0), rv b509, rv ra_523]) rfl ?_
      show Go p e below t T523 m 137 #[iv i0, iv i1, iv i2, iv i3, iv i4, iv (1 : Int32), iv (0 : Int32), iv mz, rv b479, rv ra_504, iv (nP0 i0), rv b509, rv ra_523] []
      refine XS.aload X523.here hx rfl (hb hby at_137) rfl rfl ?_
      show Go p e below t T523 m 139 #[iv i0, iv i1, iv i2, iv i3, iv i4, iv (1 : Int32), iv (0 : Int32), iv mz, rv b479, rv ra_504, iv (nP0 i0), rv b509, rv ra_523] [(.ref ra_523)]
      exact k)
    obtain ⟨cl526, Ar526, q526, S526, M526, H526, G526⟩ := id R523_1
    have g527 : Goes p e below S0 (T523.setTop (mkF m 156 #[iv i0, iv i1, iv i2, iv i3, iv i4, iv (1 : Int32), iv (0 : Int32), iv mz, rv b479, rv ra_504, iv (nP0 i0), rv b509, rv ra_523] [(.int (0 : Int32)), (.ref b479), (.int (0 : Int32)), (.ref ra_523)])) := fun t k => g525 t (by
      refine X523.arraylength hx Ar526.1 (State.isArrayOf_alike hZ.alike Ar526.2.1) (g := (mkF m 139 #[iv i0, iv i1, iv i2, iv i3, iv i4, iv (1 : Int32), iv (0 : Int32), iv mz, rv b479, rv ra_504, iv (nP0 i0), rv b509, rv ra_523] [(.ref ra_523)])) rfl rfl (hb hby at_139) _ ?_
      rw [len_of S526 M526]
      show Go p e below t T523 m 140 #[iv i0, iv i1, iv i2, iv i3, iv i4, iv (1 : Int32), iv (0 : Int32), iv mz, rv b479, rv ra_504, iv (nP0 i0), rv b509, rv ra_523] [(.int (0 : Int32))]
      refine XS.iload X523.here hx rfl (hb hby at_140) rfl ?_
      show Go p e below t T523 m 142 #[iv i0, iv i1, iv i2, iv i3, iv i4, iv (1 : Int32), iv (0 : Int32), iv mz, rv b479, rv ra_504, iv (nP0 i0), rv b509, rv ra_523] [(.int (1 : Int32)), (.int (0 : Int32))]
      refine XT.iconstV X523.here hx rfl (1 : Int32) (hb hby at_142) (by decide) ?_
      show Go p e below t T523 m 143 #[iv i0, iv i1, iv i2, iv i3, iv i4, iv (1 : Int32), iv (0 : Int32), iv mz, rv b479, rv ra_504, iv (nP0 i0), rv b509, rv ra_523] [(.int (1 : Int32)), (.int (1 : Int32)), (.int (0 : Int32))]
      refine XS.isub X523.here hx rfl (hb hby at_143) rfl ?_
      rw [show ((1 : Int32) - (1 : Int32)) = (0 : Int32) by decide]
      show Go p e below t T523 m 144 #[iv i0, iv i1, iv i2, iv i3, iv i4, iv (1 : Int32), iv (0 : Int32), iv mz, rv b479, rv ra_504, iv (nP0 i0), rv b509, rv ra_523] [(.int (0 : Int32)), (.int (0 : Int32))]
      refine XS.icmpYes X523.here hx rfl (pc0 := 144) (pc' := 149) rfl (hb hby at_144) rfl (XT.ii_eq_t (by decide)) (by decide) (by decide) ?_
      show Go p e below t T523 m 149 #[iv i0, iv i1, iv i2, iv i3, iv i4, iv (1 : Int32), iv (0 : Int32), iv mz, rv b479, rv ra_504, iv (nP0 i0), rv b509, rv ra_523] []
      refine XS.aload X523.here hx rfl (hb hby at_149) rfl rfl ?_
      show Go p e below t T523 m 151 #[iv i0, iv i1, iv i2, iv i3, iv i4, iv (1 : Int32), iv (0 : Int32), iv mz, rv b479, rv ra_504, iv (nP0 i0), rv b509, rv ra_523] [(.ref ra_523)]
      refine XT.iconstV X523.here hx rfl (0 : Int32) (hb hby at_151) (by decide) ?_
      show Go p e below t T523 m 152 #[iv i0, iv i1, iv i2, iv i3, iv i4, iv (1 : Int32), iv (0 : Int32), iv mz, rv b479, rv ra_504, iv (nP0 i0), rv b509, rv ra_523] [(.int (0 : Int32)), (.ref ra_523)]
      refine XS.aload X523.here hx rfl (hb hby at_152) rfl rfl ?_
      show Go p e below t T523 m 154 #[iv i0, iv i1, iv i2, iv i3, iv i4, iv (1 : Int32), iv (0 : Int32), iv mz, rv b479, rv ra_504, iv (nP0 i0), rv b509, rv ra_523] [(.ref b479), (.int (0 : Int32)), (.ref ra_523)]
      refine XS.iload X523.here hx rfl (hb hby at_154) rfl ?_
      show Go p e below t T523 m 156 #[iv i0, iv i1, iv i2, iv i3, iv i4, iv (1 : Int32), iv (0 : Int32), iv mz, rv b479, rv ra_504, iv (nP0 i0), rv b509, rv ra_523] [(.int (0 : Int32)), (.ref b479), (.int (0 : Int32)), (.ref ra_523)]
      exact k)
    obtain ⟨_, _, ⟨T528, L528, k528, n528⟩, -, X528, ⟨Lc528, hQ528, l528, y528, z528⟩, st528⟩ := Jvm.LawKit.callS X523 hx (y := (⟨"com/example/aristotle/aristotle/StepMadePinLaw", "check", "([II[II)Z"⟩ : MethodName)) hown (mvT hZ (hw _ (List.mem_of_getElem? (i := 36) rfl))) (mvT hZ (hw _ (List.mem_of_getElem? (i := 37) rfl))) (mvT hZ (hw _ (List.mem_of_getElem? (i := 5) rfl))) (mvT hZ (hw _ (List.mem_of_getElem? (i := 38) rfl))) (by decide) (backOf (W := 0) (rm_ck0 l Z a0 hw [] ra_523 (0 : Int32) b479 (0 : Int32) rk_523 (0 : Int32) [] (.int (0 : Int32)) T523.heap n0 (Nat.le_trans Z0 (Nat.le_trans (Nat.le_trans (Nat.le_trans (Nat.le_trans (Nat.le_trans (Nat.le_trans (Nat.le_trans (Nat.le_trans (Nat.le_trans (Nat.le_trans (Nat.le_refl _) E479.1) (Nat.le_of_eq W483.size.symm)) (Nat.le_of_eq W489.size.symm)) (Nat.le_of_eq W495.size.symm)) (Nat.le_of_eq W501.size.symm)) R504_0.1) E509.1) E517.1) R520_0.1) R523_0.1)) R523_1 (by decide)) hZ (hw _ (List.mem_of_getElem? (i := 38) rfl)) (hw _ (List.mem_of_getElem? (i := 5) rfl)) (by decide) (by decide)) (g := (mkF m 156 #[iv i0, iv i1, iv i2, iv i3, iv i4, iv (1 : Int32), iv (0 : Int32), iv mz, rv b479, rv ra_504, iv (nP0 i0), rv b509, rv ra_523] [(.int (0 : Int32)), (.ref b479), (.int (0 : Int32)), (.ref ra_523)])) rfl (by rw [hml]; rfl) (argsL := [(.ref ra_523), (.int (0 : Int32)), (.ref b479), (.int (0 : Int32))]) (rest := []) (lenOf pd4 rfl) rfl (by show 2 * 0 + _ ≤ _; exact Nat.le_of_eq rfl) (hb hby at_156) (fun _ _ => ⟨rfl, rfl, (by decide : 5 + 0 ≤ _), (by decide : 10 + 0 ≤ _)⟩)
    dsimp only [Pt.U, Pt.locs, Pt.cells, Pt.slots] at X528 l528 y528 z528 st528 hQ528
    subst l528 y528 z528
    obtain ⟨rfl, N528, R528_0⟩ := hQ528
    have M528 := Fr.app M523 N528
    have g529 : Goes p e below S0 (T528.setTop (mkF m 159 #[iv i0, iv i1, iv i2, iv i3, iv i4, iv (1 : Int32), iv (0 : Int32), iv mz, rv b479, rv ra_504, iv (nP0 i0), rv b509, rv ra_523] [(.int (1 : Int32))])) := fun t k => g527 t (st528 t k)
    have g530 : Goes p e below S0 (T528.setTop (mkF m 169 #[iv i0, iv i1, iv i2, iv i3, iv i4, iv (1 : Int32), iv (0 : Int32), iv mz, rv b479, rv ra_504, iv (nP0 i0), rv b509, rv ra_523] [(.int (0 : Int32)), (.ref b479), (.int (1 : Int32)), (.ref ra_523)])) := fun t k => g529 t (by
      refine XS.ifNo X528.here hx rfl (hb hby at_159) rfl (XT.i0_eq_f (by decide)) ?_
      show Go p e below t T528 m 162 #[iv i0, iv i1, iv i2, iv i3, iv i4, iv (1 : Int32), iv (0 : Int32), iv mz, rv b479, rv ra_504, iv (nP0 i0), rv b509, rv ra_523] []
      refine XS.aload X528.here hx rfl (hb hby at_162) rfl rfl ?_
      show Go p e below t T528 m 164 #[iv i0, iv i1, iv i2, iv i3, iv i4, iv (1 : Int32), iv (0 : Int32), iv mz, rv b479, rv ra_504, iv (nP0 i0), rv b509, rv ra_523] [(.ref ra_523)]
      refine XT.iconstV X528.here hx rfl (1 : Int32) (hb hby at_164) (by decide) ?_
      show Go p e below t T528 m 165 #[iv i0, iv i1, iv i2, iv i3, iv i4, iv (1 : Int32), iv (0 : Int32), iv mz, rv b479, rv ra_504, iv (nP0 i0), rv b509, rv ra_523] [(.int (1 : Int32)), (.ref ra_523)]
      refine XS.aload X528.here hx rfl (hb hby at_165) rfl rfl ?_
      show Go p e below t T528 m 167 #[iv i0, iv i1, iv i2, iv i3, iv i4, iv (1 : Int32), iv (0 : Int32), iv mz, rv b479, rv ra_504, iv (nP0 i0), rv b509, rv ra_523] [(.ref b479), (.int (1 : Int32)), (.ref ra_523)]
      refine XS.iload X528.here hx rfl (hb hby at_167) rfl ?_
      show Go p e below t T528 m 169 #[iv i0, iv i1, iv i2, iv i3, iv i4, iv (1 : Int32), iv (0 : Int32), iv mz, rv b479, rv ra_504, iv (nP0 i0), rv b509, rv ra_523] [(.int (0 : Int32)), (.ref b479), (.int (1 : Int32)), (.ref ra_523)]
      exact k)
    obtain ⟨_, _, ⟨T531, L531, k531, n531⟩, -, X531, ⟨Lc531, hQ531, l531, y531, z531⟩, st531⟩ := Jvm.LawKit.callS X528 hx (y := (⟨"com/example/aristotle/aristotle/StepMadePinLaw", "check", "([II[II)Z"⟩ : MethodName)) hown (mvT hZ (hw _ (List.mem_of_getElem? (i := 36) rfl))) (mvT hZ (hw _ (List.mem_of_getElem? (i := 37) rfl))) (mvT hZ (hw _ (List.mem_of_getElem? (i := 5) rfl))) (mvT hZ (hw _ (List.mem_of_getElem? (i := 38) rfl))) (by decide) (backOf (W := 0) (rm_ck0 l Z a0 hw [] ra_523 (1 : Int32) b479 (0 : Int32) rk_523 (0 : Int32) [] (.int (0 : Int32)) T523.heap n0 (Nat.le_trans Z0 (Nat.le_trans (Nat.le_trans (Nat.le_trans (Nat.le_trans (Nat.le_trans (Nat.le_trans (Nat.le_trans (Nat.le_trans (Nat.le_trans (Nat.le_trans (Nat.le_refl _) E479.1) (Nat.le_of_eq W483.size.symm)) (Nat.le_of_eq W489.size.symm)) (Nat.le_of_eq W495.size.symm)) (Nat.le_of_eq W501.size.symm)) R504_0.1) E509.1) E517.1) R520_0.1) R523_0.1)) R523_1 (by decide)) hZ (hw _ (List.mem_of_getElem? (i := 38) rfl)) (hw _ (List.mem_of_getElem? (i := 5) rfl)) (by decide) (by decide)) (g := (mkF m 169 #[iv i0, iv i1, iv i2, iv i3, iv i4, iv (1 : Int32), iv (0 : Int32), iv mz, rv b479, rv ra_504, iv (nP0 i0), rv b509, rv ra_523] [(.int (0 : Int32)), (.ref b479), (.int (1 : Int32)), (.ref ra_523)])) rfl (by rw [hml]; rfl) (argsL := [(.ref ra_523), (.int (1 : Int32)), (.ref b479), (.int (0 : Int32))]) (rest := []) (lenOf pd4 rfl) rfl (by show 2 * 0 + _ ≤ _; exact Nat.le_of_eq rfl) (hb hby at_169) (fun _ _ => ⟨rfl, R528_0, (by decide : 5 + 0 ≤ _), (by decide : 10 + 0 ≤ _)⟩)
    dsimp only [Pt.U, Pt.locs, Pt.cells, Pt.slots] at X531 l531 y531 z531 st531 hQ531
    subst l531 y531 z531
    obtain ⟨rfl, N531, R531_0⟩ := hQ531
    have M531 := Fr.app M528 N531
    have g532 : Goes p e below S0 (T531.setTop (mkF m 172 #[iv i0, iv i1, iv i2, iv i3, iv i4, iv (1 : Int32), iv (0 : Int32), iv mz, rv b479, rv ra_504, iv (nP0 i0), rv b509, rv ra_523] [(.int (1 : Int32))])) := fun t k => g530 t (st531 t k)
    have g533 : Goes p e below S0 (T531.setTop (mkF m 182 #[iv i0, iv i1, iv i2, iv i3, iv i4, iv (1 : Int32), iv (0 : Int32), iv mz, rv b479, rv ra_504, iv (nP0 i0), rv b509, rv ra_523] [(.int (0 : Int32)), (.ref b479), (.int (2 : Int32)), (.ref ra_523)])) := fun t k => g532 t (by
      refine XS.ifNo X531.here hx rfl (hb hby at_172) rfl (XT.i0_eq_f (by decide)) ?_
      show Go p e below t T531 m 175 #[iv i0, iv i1, iv i2, iv i3, iv i4, iv (1 : Int32), iv (0 : Int32), iv mz, rv b479, rv ra_504, iv (nP0 i0), rv b509, rv ra_523] []
      refine XS.aload X531.here hx rfl (hb hby at_175) rfl rfl ?_
      show Go p e below t T531 m 177 #[iv i0, iv i1, iv i2, iv i3, iv i4, iv (1 : Int32), iv (0 : Int32), iv mz, rv b479, rv ra_504, iv (nP0 i0), rv b509, rv ra_523] [(.ref ra_523)]
      refine XT.iconstV X531.here hx rfl (2 : Int32) (hb hby at_177) (by decide) ?_
      show Go p e below t T531 m 178 #[iv i0, iv i1, iv i2, iv i3, iv i4, iv (1 : Int32), iv (0 : Int32), iv mz, rv b479, rv ra_504, iv (nP0 i0), rv b509, rv ra_523] [(.int (2 : Int32)), (.ref ra_523)]
      refine XS.aload X531.here hx rfl (hb hby at_178) rfl rfl ?_
      show Go p e below t T531 m 180 #[iv i0, iv i1, iv i2, iv i3, iv i4, iv (1 : Int32), iv (0 : Int32), iv mz, rv b479, rv ra_504, iv (nP0 i0), rv b509, rv ra_523] [(.ref b479), (.int (2 : Int32)), (.ref ra_523)]
      refine XS.iload X531.here hx rfl (hb hby at_180) rfl ?_
      show Go p e below t T531 m 182 #[iv i0, iv i1, iv i2, iv i3, iv i4, iv (1 : Int32), iv (0 : Int32), iv mz, rv b479, rv ra_504, iv (nP0 i0), rv b509, rv ra_523] [(.int (0 : Int32)), (.ref b479), (.int (2 : Int32)), (.ref ra_523)]
      exact k)
    obtain ⟨_, _, ⟨T534, L534, k534, n534⟩, -, X534, ⟨Lc534, hQ534, l534, y534, z534⟩, st534⟩ := Jvm.LawKit.callS X531 hx (y := (⟨"com/example/aristotle/aristotle/StepMadePinLaw", "check", "([II[II)Z"⟩ : MethodName)) hown (mvT hZ (hw _ (List.mem_of_getElem? (i := 36) rfl))) (mvT hZ (hw _ (List.mem_of_getElem? (i := 37) rfl))) (mvT hZ (hw _ (List.mem_of_getElem? (i := 5) rfl))) (mvT hZ (hw _ (List.mem_of_getElem? (i := 38) rfl))) (by decide) (backOf (W := 0) (rm_ck0 l Z a0 hw [] ra_523 (2 : Int32) b479 (0 : Int32) rk_523 (0 : Int32) [] (.int (0 : Int32)) T523.heap n0 (Nat.le_trans Z0 (Nat.le_trans (Nat.le_trans (Nat.le_trans (Nat.le_trans (Nat.le_trans (Nat.le_trans (Nat.le_trans (Nat.le_trans (Nat.le_trans (Nat.le_trans (Nat.le_refl _) E479.1) (Nat.le_of_eq W483.size.symm)) (Nat.le_of_eq W489.size.symm)) (Nat.le_of_eq W495.size.symm)) (Nat.le_of_eq W501.size.symm)) R504_0.1) E509.1) E517.1) R520_0.1) R523_0.1)) R523_1 (by decide)) hZ (hw _ (List.mem_of_getElem? (i := 38) rfl)) (hw _ (List.mem_of_getElem? (i := 5) rfl)) (by decide) (by decide)) (g := (mkF m 182 #[iv i0, iv i1, iv i2, iv i3, iv i4, iv (1 : Int32), iv (0 : Int32), iv mz, rv b479, rv ra_504, iv (nP0 i0), rv b509, rv ra_523] [(.int (0 : Int32)), (.ref b479), (.int (2 : Int32)), (.ref ra_523)])) rfl (by rw [hml]; rfl) (argsL := [(.ref ra_523), (.int (2 : Int32)), (.ref b479), (.int (0 : Int32))]) (rest := []) (lenOf pd4 rfl) rfl (by show 2 * 0 + _ ≤ _; exact Nat.le_of_eq rfl) (hb hby at_182) (fun _ _ => ⟨rfl, R531_0, (by decide : 5 + 0 ≤ _), (by decide : 10 + 0 ≤ _)⟩)
    dsimp only [Pt.U, Pt.locs, Pt.cells, Pt.slots] at X534 l534 y534 z534 st534 hQ534
    subst l534 y534 z534
    obtain ⟨rfl, N534, R534_0⟩ := hQ534
    have M534 := Fr.app M531 N534
    have g535 : Goes p e below S0 (T534.setTop (mkF m 185 #[iv i0, iv i1, iv i2, iv i3, iv i4, iv (1 : Int32), iv (0 : Int32), iv mz, rv b479, rv ra_504, iv (nP0 i0), rv b509, rv ra_523] [(.int (1 : Int32))])) := fun t k => g533 t (st534 t k)
    have g536 : Goes p e below S0 (T534.setTop (mkF m 193 #[iv i0, iv i1, iv i2, iv i3, iv i4, iv (1 : Int32), iv (0 : Int32), iv mz, rv b479, rv ra_504, iv (nP0 i0), rv b509, rv ra_523] [(.int (1 : Int32))])) := fun t k => g535 t (by
      refine XS.ifNo X534.here hx rfl (hb hby at_185) rfl (XT.i0_eq_f (by decide)) ?_
      show Go p e below t T534 m 188 #[iv i0, iv i1, iv i2, iv i3, iv i4, iv (1 : Int32), iv (0 : Int32), iv mz, rv b479, rv ra_504, iv (nP0 i0), rv b509, rv ra_523] []
      refine XT.iconstV X534.here hx rfl (1 : Int32) (hb hby at_188) (by decide) ?_
      show Go p e below t T534 m 189 #[iv i0, iv i1, iv i2, iv i3, iv i4, iv (1 : Int32), iv (0 : Int32), iv mz, rv b479, rv ra_504, iv (nP0 i0), rv b509, rv ra_523] [(.int (1 : Int32))]
      refine XS.goto X534.here hx rfl (pc0 := 189) (pc' := 193) rfl (hb hby at_189) (by decide) (by decide) ?_
      show Go p e below t T534 m 193 #[iv i0, iv i1, iv i2, iv i3, iv i4, iv (1 : Int32), iv (0 : Int32), iv mz, rv b479, rv ra_504, iv (nP0 i0), rv b509, rv ra_523] [(.int (1 : Int32))]
      exact k)
    obtain ⟨fs, hr, hrun, hended, hW, hsame⟩ := X534.leave (v := some (.int (1 : Int32))) (fun h => by rw [Bd.returns] at h; cases h)
    refine ⟨_, _, g536 _ (retN X534 hx (t := .boolean) Bd.returns (by simp) (hb hby at_193) hr), hrun, hended, _, _, rfl, ?_, ⟨_, rfl⟩, hW, hsame.mono (by decide) (by decide)⟩
    show Q_law Z i0 i1 i2 i3 i4  h0 n0 _ T534.heap _
    rw [R534_0]
    exact ⟨rfl, M534⟩
  · skip
    have g537 : Goes p e below S0 (T501.setTop (mkF m 97 #[iv i0, iv i1, iv i2, iv i3, iv i4, iv (2 : Int32), iv (0 : Int32), iv mz, rv b479, .unset, .unset, .unset, .unset] [(.int (2 : Int32)), (.ref b479)])) := fun t k => g502 t (by
      refine XS.aload X501.here hx rfl (hb hby at_93) rfl rfl ?_
      show Go p e below t T501 m 95 #[iv i0, iv i1, iv i2, iv i3, iv i4, iv (2 : Int32), iv (0 : Int32), iv mz, rv b479, .unset, .unset, .unset, .unset] [(.ref b479)]
      refine XS.iload X501.here hx rfl (hb hby at_95) rfl ?_
      show Go p e below t T501 m 97 #[iv i0, iv i1, iv i2, iv i3, iv i4, iv (2 : Int32), iv (0 : Int32), iv mz, rv b479, .unset, .unset, .unset, .unset] [(.int (2 : Int32)), (.ref b479)]
      exact k)
    obtain ⟨_, _, ⟨T538, L538, k538, n538⟩, -, X538, ⟨Lc538, hQ538, l538, y538, z538⟩, st538⟩ := Jvm.LawKit.callS X501 hx (y := (⟨"com/example/aristotle/aristotle/StepMadePinLaw", "prefix", "([II)[I"⟩ : MethodName)) hown (mvT hZ (hw _ (List.mem_of_getElem? (i := 3) rfl))) (mvT hZ (hw _ (List.mem_of_getElem? (i := 4) rfl))) (mvT hZ (hw _ (List.mem_of_getElem? (i := 5) rfl))) (mvT hZ (hw _ (List.mem_of_getElem? (i := 6) rfl))) (by decide) (backOf (W := 0) (rm_pr2 l Z a0 hw [] b479 (2 : Int32) k479 (nP0 i0) (nP1 i0 i1) (nP2 i0 i1 i2) (nP3 i0 i1 i2 i3) h501 n0 (Nat.le_trans Z0 (Nat.le_trans (Nat.le_trans (Nat.le_trans (Nat.le_trans (Nat.le_trans (Nat.le_refl _) E479.1) (Nat.le_of_eq W483.size.symm)) (Nat.le_of_eq W489.size.symm)) (Nat.le_of_eq W495.size.symm)) (Nat.le_of_eq W501.size.symm))) V501 rfl) hZ (hw _ (List.mem_of_getElem? (i := 6) rfl)) (hw _ (List.mem_of_getElem? (i := 5) rfl)) (by decide) (by decide)) (g := (mkF m 97 #[iv i0, iv i1, iv i2, iv i3, iv i4, iv (2 : Int32), iv (0 : Int32), iv mz, rv b479, .unset, .unset, .unset, .unset] [(.int (2 : Int32)), (.ref b479)])) rfl (by rw [hml]; rfl) (argsL := [(.ref b479), (.int (2 : Int32))]) (rest := []) (lenOf pd2 rfl) rfl (by show 2 * 0 + _ ≤ _; exact Nat.le_of_eq rfl) (hb hby at_97) (fun _ _ => ⟨rfl, e501, (by decide : 1 + 1 ≤ _), (by decide : 4 + 2 ≤ _)⟩)
    dsimp only [Pt.U, Pt.locs, Pt.cells, Pt.slots] at X538 l538 y538 z538 st538 hQ538
    subst l538 y538 z538
    obtain ⟨ra_538, rk_538, rfl, N538, R538_0, R538_1, R538_2⟩ := hQ538
    have M538 := Fr.app N501 N538
    have sz538_2 : h0.size ≤ ra_538 := Nat.le_trans (Nat.le_trans (Nat.le_trans (Nat.le_trans (Nat.le_trans (Nat.le_trans (Nat.le_refl _) E479.1) (Nat.le_of_eq W483.size.symm)) (Nat.le_of_eq W489.size.symm)) (Nat.le_of_eq W495.size.symm)) (Nat.le_of_eq W501.size.symm)) R538_2
    have ng538_2 : n0 ≤ ra_538 := Nat.le_trans Z0 sz538_2
    have g539 : Goes p e below S0 (T538.setTop (mkF m 100 #[iv i0, iv i1, iv i2, iv i3, iv i4, iv (2 : Int32), iv (0 : Int32), iv mz, rv b479, .unset, .unset, .unset, .unset] [(.ref ra_538)])) := fun t k => g537 t (st538 t k)
    have g540 : Goes p e below S0 (T538.setTop (mkF m 106 #[iv i0, iv i1, iv i2, iv i3, iv i4, iv (2 : Int32), iv (0 : Int32), iv mz, rv b479, rv ra_538, .unset, .unset, .unset] [(.int (0 : Int32)), (.ref b479)])) := fun t k => g539 t (by
      refine XS.astore X538.here hx rfl (hb hby at_100) rfl rfl (l' := #[iv i0, iv i1, iv i2, iv i3, iv i4, iv (2 : Int32), iv (0 : Int32), iv mz, rv b479, rv ra_538, .unset, .unset, .unset]) rfl ?_
      show Go p e below t T538 m 102 #[iv i0, iv i1, iv i2, iv i3, iv i4, iv (2 : Int32), iv (0 : Int32), iv mz, rv b479, rv ra_538, .unset, .unset, .unset] []
      refine XS.aload X538.here hx rfl (hb hby at_102) rfl rfl ?_
      show Go p e below t T538 m 104 #[iv i0, iv i1, iv i2, iv i3, iv i4, iv (2 : Int32), iv (0 : Int32), iv mz, rv b479, rv ra_538, .unset, .unset, .unset] [(.ref b479)]
      refine XS.iload X538.here hx rfl (hb hby at_104) rfl ?_
      show Go p e below t T538 m 106 #[iv i0, iv i1, iv i2, iv i3, iv i4, iv (2 : Int32), iv (0 : Int32), iv mz, rv b479, rv ra_538, .unset, .unset, .unset] [(.int (0 : Int32)), (.ref b479)]
      exact k)
    obtain ⟨cl541, Ar541, q541, S541, M541, H541, G541⟩ := id (V501.keep R538_0 nin0)
    have g542 : Goes p e below S0 (T538.setTop (mkF m 109 #[iv i0, iv i1, iv i2, iv i3, iv i4, iv (2 : Int32), iv (0 : Int32), iv mz, rv b479, rv ra_538, iv (nP0 i0), .unset, .unset] [])) := fun t k => g540 t (by
      refine X538.iaload hx (j := (0 : Int32)) (v := (.int (nP0 i0))) Ar541.1 (State.isArrayOf_alike hZ.alike Ar541.2.1) Ar541.2.2 (inb_of S541 ⟨by decide, by decide⟩) (H541.at (inb_of S541 ⟨by decide, by decide⟩) rfl) (g := (mkF m 106 #[iv i0, iv i1, iv i2, iv i3, iv i4, iv (2 : Int32), iv (0 : Int32), iv mz, rv b479, rv ra_538, .unset, .unset, .unset] [(.int (0 : Int32)), (.ref b479)])) rfl rfl (hb hby at_106) _ ?_
      show Go p e below t T538 m 107 #[iv i0, iv i1, iv i2, iv i3, iv i4, iv (2 : Int32), iv (0 : Int32), iv mz, rv b479, rv ra_538, .unset, .unset, .unset] [(.int (nP0 i0))]
      refine XS.istore X538.here hx rfl (hb hby at_107) rfl (l' := #[iv i0, iv i1, iv i2, iv i3, iv i4, iv (2 : Int32), iv (0 : Int32), iv mz, rv b479, rv ra_538, iv (nP0 i0), .unset, .unset]) rfl ?_
      show Go p e below t T538 m 109 #[iv i0, iv i1, iv i2, iv i3, iv i4, iv (2 : Int32), iv (0 : Int32), iv mz, rv b479, rv ra_538, iv (nP0 i0), .unset, .unset] []
      exact k)
    obtain ⟨T543, h543, X543, e543, E543, A543, D543, -, st543⟩ := newO X538 hx hZ hown (hw _ (List.mem_of_getElem? (i := 7) rfl)) (hw _ (List.mem_of_getElem? (i := 8) rfl)) (hw _ (List.mem_of_getElem? (i := 9) rfl)) rfl (g := (mkF m 109 #[iv i0, iv i1, iv i2, iv i3, iv i4, iv (2 : Int32), iv (0 : Int32), iv mz, rv b479, rv ra_538, iv (nP0 i0), .unset, .unset] [])) rfl (hb hby at_109) (by decide) (by decide)
    obtain ⟨b543, gb543⟩ : ∃ z, z = T538.heap.size := ⟨_, rfl⟩
    have sz543 : h0.size ≤ b543 := Nat.le_trans (Nat.le_trans (Nat.le_trans (Nat.le_trans (Nat.le_trans (Nat.le_trans (Nat.le_trans (Nat.le_refl _) E479.1) (Nat.le_of_eq W483.size.symm)) (Nat.le_of_eq W489.size.symm)) (Nat.le_of_eq W495.size.symm)) (Nat.le_of_eq W501.size.symm)) R538_0.1) (Nat.le_of_eq gb543.symm)
    have ng543 : n0 ≤ b543 := Nat.le_trans Z0 sz543
    rw [← gb543] at A543 D543 st543
    have F543_544 : Fld Z h543 b543 "com/example/aristotle/aristotle/EliminationPlan$Step" "variable" "I" (.int (0 : Int32)) := D543 (Or.inr (hw _ (List.mem_of_getElem? (i := 22) rfl))) (ty := .int) (by decide)
    have F543_545 : Fld Z h543 b543 "com/example/aristotle/aristotle/EliminationPlan$Step" "tables" "[I" .null := D543 (Or.inr (hw _ (List.mem_of_getElem? (i := 24) rfl))) (ty := (.array .int)) (by decide)
    have F543_546 : Fld Z h543 b543 "com/example/aristotle/aristotle/EliminationPlan$Step" "product" "[I" .null := D543 (Or.inr (hw _ (List.mem_of_getElem? (i := 26) rfl))) (ty := (.array .int)) (by decide)
    have F543_547 : Fld Z h543 b543 "com/example/aristotle/aristotle/EliminationPlan$Step" "entries" "D" (.double (0 : UInt64)) := D543 (Or.inr (hw _ (List.mem_of_getElem? (i := 28) rfl))) (ty := .double) (by decide)
    have F543_548 : Fld Z h543 b543 "com/example/aristotle/aristotle/EliminationPlan$Step" "makes" "Z" (.int (0 : Int32)) := D543 (Or.inr (hw _ (List.mem_of_getElem? (i := 30) rfl))) (ty := .boolean) (by decide)
    have g549 : Goes p e below S0 (T543.setTop (mkF m 112 #[iv i0, iv i1, iv i2, iv i3, iv i4, iv (2 : Int32), iv (0 : Int32), iv mz, rv b479, rv ra_538, iv (nP0 i0), .unset, .unset] [(.ref b543)])) := fun t k => g542 t (st543 t k)
    have g550 : Goes p e below S0 (T543.setTop (mkF m 116 #[iv i0, iv i1, iv i2, iv i3, iv i4, iv (2 : Int32), iv (0 : Int32), iv mz, rv b479, rv ra_538, iv (nP0 i0), .unset, .unset] [(.int (0 : Int32)), (.int (nP0 i0)), (.ref b543), (.ref b543)])) := fun t k => g549 t (by
      refine XS.dup X543.here hx rfl (hb hby at_112) rfl rfl ?_
      show Go p e below t T543 m 113 #[iv i0, iv i1, iv i2, iv i3, iv i4, iv (2 : Int32), iv (0 : Int32), iv mz, rv b479, rv ra_538, iv (nP0 i0), .unset, .unset] [(.ref b543), (.ref b543)]
      refine XS.iload X543.here hx rfl (hb hby at_113) rfl ?_
      show Go p e below t T543 m 115 #[iv i0, iv i1, iv i2, iv i3, iv i4, iv (2 : Int32), iv (0 : Int32), iv mz, rv b479, rv ra_538, iv (nP0 i0), .unset, .unset] [(.int (nP0 i0)), (.ref b543), (.ref b543)]
      refine XT.iconstV X543.here hx rfl (0 : Int32) (hb hby at_115) (by decide) ?_
      show Go p e below t T543 m 116 #[iv i0, iv i1, iv i2, iv i3, iv i4, iv (2 : Int32), iv (0 : Int32), iv mz, rv b479, rv ra_538, iv (nP0 i0), .unset, .unset] [(.int (0 : Int32)), (.int (nP0 i0)), (.ref b543), (.ref b543)]
      exact k)
    obtain ⟨T551, h551, k551, X551, e551, E551, A551, st551⟩ := newP X543 hx hZ (hw _ (List.mem_of_getElem? (i := 1) rfl)) e543 (g := (mkF m 116 #[iv i0, iv i1, iv i2, iv i3, iv i4, iv (2 : Int32), iv (0 : Int32), iv mz, rv b479, rv ra_538, iv (nP0 i0), .unset, .unset] [(.int (0 : Int32)), (.int (nP0 i0)), (.ref b543), (.ref b543)])) rfl (hb hby at_116) rfl (by decide) (cap := 0) (by decide) (by decide) (by decide) (by decide)
    obtain ⟨b551, gb551⟩ : ∃ z, z = h543.size := ⟨_, rfl⟩
    have sz551 : h0.size ≤ b551 := Nat.le_trans (Nat.le_trans (Nat.le_trans (Nat.le_trans (Nat.le_trans (Nat.le_trans (Nat.le_trans (Nat.le_trans (Nat.le_refl _) E479.1) (Nat.le_of_eq W483.size.symm)) (Nat.le_of_eq W489.size.symm)) (Nat.le_of_eq W495.size.symm)) (Nat.le_of_eq W501.size.symm)) R538_0.1) E543.1) (Nat.le_of_eq gb551.symm)
    have ng551 : n0 ≤ b551 := Nat.le_trans Z0 sz551
    rw [← gb551] at A551 st551
    have V551 : Arv Z h551 b551 k551 .int (0 : Int32) [] (.int (0 : Int32)) := (Arv.new A551 (by decide)).pad (pad_rep [] (.int (0 : Int32)) 0)
    have g552 : Goes p e below S0 (T551.setTop (mkF m 118 #[iv i0, iv i1, iv i2, iv i3, iv i4, iv (2 : Int32), iv (0 : Int32), iv mz, rv b479, rv ra_538, iv (nP0 i0), .unset, .unset] [(.ref b551), (.int (nP0 i0)), (.ref b543), (.ref b543)])) := fun t k => g550 t (st551 t k)
    have g553 : Goes p e below S0 (T551.setTop (mkF m 125 #[iv i0, iv i1, iv i2, iv i3, iv i4, iv (2 : Int32), iv (0 : Int32), iv mz, rv b479, rv ra_538, iv (nP0 i0), .unset, .unset] [(.int mz), (.double (FP.i2d (2 : Int32))), (.ref ra_538), (.ref b551), (.int (nP0 i0)), (.ref b543), (.ref b543)])) := fun t k => g552 t (by
      refine XS.aload X551.here hx rfl (hb hby at_118) rfl rfl ?_
      show Go p e below t T551 m 120 #[iv i0, iv i1, iv i2, iv i3, iv i4, iv (2 : Int32), iv (0 : Int32), iv mz, rv b479, rv ra_538, iv (nP0 i0), .unset, .unset] [(.ref ra_538), (.ref b551), (.int (nP0 i0)), (.ref b543), (.ref b543)]
      refine XS.iload X551.here hx rfl (hb hby at_120) rfl ?_
      show Go p e below t T551 m 122 #[iv i0, iv i1, iv i2, iv i3, iv i4, iv (2 : Int32), iv (0 : Int32), iv mz, rv b479, rv ra_538, iv (nP0 i0), .unset, .unset] [(.int (2 : Int32)), (.ref ra_538), (.ref b551), (.int (nP0 i0)), (.ref b543), (.ref b543)]
      refine XS.i2dS X551.here hx rfl (hb hby at_122) rfl rfl ?_
      show Go p e below t T551 m 123 #[iv i0, iv i1, iv i2, iv i3, iv i4, iv (2 : Int32), iv (0 : Int32), iv mz, rv b479, rv ra_538, iv (nP0 i0), .unset, .unset] [(.double (FP.i2d (2 : Int32))), (.ref ra_538), (.ref b551), (.int (nP0 i0)), (.ref b543), (.ref b543)]
      refine XS.iload X551.here hx rfl (hb hby at_123) rfl ?_
      show Go p e below t T551 m 125 #[iv i0, iv i1, iv i2, iv i3, iv i4, iv (2 : Int32), iv (0 : Int32), iv mz, rv b479, rv ra_538, iv (nP0 i0), .unset, .unset] [(.int mz), (.double (FP.i2d (2 : Int32))), (.ref ra_538), (.ref b551), (.int (nP0 i0)), (.ref b543), (.ref b543)]
      exact k)
    obtain ⟨_, _, ⟨T554, L554, k554, n554⟩, -, X554, ⟨Lc554, hQ554, l554, y554, z554⟩, st554⟩ := X551.specialBack hx (y := (⟨"com/example/aristotle/aristotle/EliminationPlan$Step", "<init>", "(I[I[IDZ)V"⟩ : MethodName)) rfl hown (mvT hZ (hw _ (List.mem_of_getElem? (i := 10) rfl))) (mvT hZ (hw _ (List.mem_of_getElem? (i := 11) rfl))) (mvT hZ (hw _ (List.mem_of_getElem? (i := 12) rfl))) (by decide) (backOf (W := 1) (rm_ini l Z a0 hw [] b543 (nP0 i0) b551 ra_538 (FP.i2d (2 : Int32)) mz  h551 n0 (Nat.le_trans Z0 (Nat.le_trans (Nat.le_trans (Nat.le_trans (Nat.le_trans (Nat.le_trans (Nat.le_trans (Nat.le_trans (Nat.le_trans (Nat.le_refl _) E479.1) (Nat.le_of_eq W483.size.symm)) (Nat.le_of_eq W489.size.symm)) (Nat.le_of_eq W495.size.symm)) (Nat.le_of_eq W501.size.symm)) R538_0.1) E543.1) E551.1)) (A543.ext E551) ng543 (F543_544.ext E551) (F543_545.ext E551) (F543_546.ext E551) (F543_547.ext E551) (F543_548.ext E551)) hZ (hw _ (List.mem_of_getElem? (i := 12) rfl)) (hw _ (List.mem_of_getElem? (i := 9) rfl)) (by decide) (by decide)) (g := (mkF m 125 #[iv i0, iv i1, iv i2, iv i3, iv i4, iv (2 : Int32), iv (0 : Int32), iv mz, rv b479, rv ra_538, iv (nP0 i0), .unset, .unset] [(.int mz), (.double (FP.i2d (2 : Int32))), (.ref ra_538), (.ref b551), (.int (nP0 i0)), (.ref b543), (.ref b543)])) rfl (by rw [hml]; rfl) (Steps.refl _) (a := b543) (argsL := [(.int (nP0 i0)), (.ref b551), (.ref ra_538), (.double (FP.i2d (2 : Int32))), (.int mz)]) (rest := [(.ref b543)]) (lenOf pd1 rfl) rfl (by show 2 * 0 + _ ≤ _; exact Nat.le_of_eq rfl) (hb hby at_125) (fun _ _ => ⟨rfl, e551, (by decide : 4 + 0 ≤ _), (by decide : 11 + 0 ≤ _)⟩)
    dsimp only [Pt.U, Pt.locs, Pt.cells, Pt.slots] at X554 l554 y554 z554 st554 hQ554
    subst l554 y554 z554
    obtain ⟨rfl, N554, R554_0, R554_1, R554_2, R554_3, R554_4, R554_5, R554_6⟩ := hQ554
    have M554 := Fr.app M538 N554
    have g555 : Goes p e below S0 (T554.setTop (mkF m 128 #[iv i0, iv i1, iv i2, iv i3, iv i4, iv (2 : Int32), iv (0 : Int32), iv mz, rv b479, rv ra_538, iv (nP0 i0), .unset, .unset] [(.ref b543)])) := fun t k => g553 t (st554.trans k)
    have g556 : Goes p e below S0 (T554.setTop (mkF m 132 #[iv i0, iv i1, iv i2, iv i3, iv i4, iv (2 : Int32), iv (0 : Int32), iv mz, rv b479, rv ra_538, iv (nP0 i0), rv b543, .unset] [(.ref b543)])) := fun t k => g555 t (by
      refine XS.astore X554.here hx rfl (hb hby at_128) rfl rfl (l' := #[iv i0, iv i1, iv i2, iv i3, iv i4, iv (2 : Int32), iv (0 : Int32), iv mz, rv b479, rv ra_538, iv (nP0 i0), rv b543, .unset]) rfl ?_
      show Go p e below t T554 m 130 #[iv i0, iv i1, iv i2, iv i3, iv i4, iv (2 : Int32), iv (0 : Int32), iv mz, rv b479, rv ra_538, iv (nP0 i0), rv b543, .unset] []
      refine XS.aload X554.here hx rfl (hb hby at_130) rfl rfl ?_
      show Go p e below t T554 m 132 #[iv i0, iv i1, iv i2, iv i3, iv i4, iv (2 : Int32), iv (0 : Int32), iv mz, rv b479, rv ra_538, iv (nP0 i0), rv b543, .unset] [(.ref b543)]
      exact k)
    obtain ⟨cq557, kq557, q557a, q557b, q557c⟩ := isOf hZ rfl R554_1
    obtain ⟨_, _, ⟨T557, L557, k557, n557⟩, -, X557, ⟨Lc557, hQ557, l557, y557, z557⟩, st557⟩ := X554.virtualBack hx (y := (⟨"com/example/aristotle/aristotle/EliminationPlan$Step", "made", "()[I"⟩ : MethodName)) (z := (⟨"com/example/aristotle/aristotle/EliminationPlan$Step", "made", "()[I"⟩ : MethodName)) hown (mvT hZ (hw _ (List.mem_of_getElem? (i := 31) rfl))) (mvT hZ (hw _ (List.mem_of_getElem? (i := 32) rfl))) (notFace_of_selects (args := #[]) (mvT hZ (hw _ (List.mem_of_getElem? (i := 34) rfl)))) (mvT hZ (hw _ (List.mem_of_getElem? (i := 34) rfl))) (mvT hZ (hw _ (List.mem_of_getElem? (i := 33) rfl))) (by decide) (backOf (W := 0) (rm_md20 l Z a0 hw [] b543 ra_538 rk_538 (nP0 i0) (nP1 i0 i1) T554.heap n0 (Nat.le_trans Z0 (Nat.le_trans (Nat.le_trans (Nat.le_trans (Nat.le_trans (Nat.le_trans (Nat.le_trans (Nat.le_trans (Nat.le_trans (Nat.le_trans (Nat.le_refl _) E479.1) (Nat.le_of_eq W483.size.symm)) (Nat.le_of_eq W489.size.symm)) (Nat.le_of_eq W495.size.symm)) (Nat.le_of_eq W501.size.symm)) R538_0.1) E543.1) E551.1) R554_0.1)) R554_4 R554_2 (((R538_1.ext E543).ext E551).keep R554_0 (ninS (Nat.ne_of_lt (Nat.lt_of_lt_of_le R538_1.lt (Nat.le_of_eq gb543.symm))) nin0)) (own_ne10 i0 i1 i2 i3)) hZ (hw _ (List.mem_of_getElem? (i := 35) rfl)) (hw _ (List.mem_of_getElem? (i := 9) rfl)) (by decide) (by decide)) q557a q557c (g := (mkF m 132 #[iv i0, iv i1, iv i2, iv i3, iv i4, iv (2 : Int32), iv (0 : Int32), iv mz, rv b479, rv ra_538, iv (nP0 i0), rv b543, .unset] [(.ref b543)])) rfl (by rw [hml]; rfl) (Steps.refl _) (argsL := []) (rest := []) (lenOf pd3 rfl) rfl (by show 2 * 0 + _ ≤ _; exact Nat.le_of_eq rfl) (hb hby at_132) (fun _ _ => ⟨rfl, rfl, (by decide : 4 + 1 ≤ _), (by decide : 11 + 1 ≤ _)⟩)
    dsimp only [Pt.U, Pt.locs, Pt.cells, Pt.slots] at X557 l557 y557 z557 st557 hQ557
    subst l557 y557 z557
    obtain ⟨ra_557, rk_557, rfl, N557, R557_0, R557_1, R557_2⟩ := hQ557
    have M557 := Fr.app M554 N557
    have sz557_2 : h0.size ≤ ra_557 := Nat.le_trans (Nat.le_trans (Nat.le_trans (Nat.le_trans (Nat.le_trans (Nat.le_trans (Nat.le_trans (Nat.le_trans (Nat.le_trans (Nat.le_trans (Nat.le_refl _) E479.1) (Nat.le_of_eq W483.size.symm)) (Nat.le_of_eq W489.size.symm)) (Nat.le_of_eq W495.size.symm)) (Nat.le_of_eq W501.size.symm)) R538_0.1) E543.1) E551.1) R554_0.1) R557_2
    have ng557_2 : n0 ≤ ra_557 := Nat.le_trans Z0 sz557_2
    have g558 : Goes p e below S0 (T557.setTop (mkF m 135 #[iv i0, iv i1, iv i2, iv i3, iv i4, iv (2 : Int32), iv (0 : Int32), iv mz, rv b479, rv ra_538, iv (nP0 i0), rv b543, .unset] [(.ref ra_557)])) := fun t k => g556 t (st557.trans k)
    have g559 : Goes p e below S0 (T557.setTop (mkF m 139 #[iv i0, iv i1, iv i2, iv i3, iv i4, iv (2 : Int32), iv (0 : Int32), iv mz, rv b479, rv ra_538, iv (nP0 i0), rv b543, rv ra_557] [(.ref ra_557)])) := fun t k => g558 t (by
      refine XS.astore X557.here hx rfl (hb hby at_135) rfl rfl (l' := #[iv i0, iv i1, iv i2, iv i3, iv i4, iv (2 : Int32), iv (0 : Int32), iv mz, rv b479, rv ra_538, iv (nP0 i0), rv b543, rv ra_557]) rfl ?_
      show Go p e below t T557 m 137 #[iv i0, iv i1, iv i2, iv i3, iv i4, iv (2 : Int32), iv (0 : Int32), iv mz, rv b479, rv ra_538, iv (nP0 i0), rv b543, rv ra_557] []
      refine XS.aload X557.here hx rfl (hb hby at_137) rfl rfl ?_
      show Go p e below t T557 m 139 #[iv i0, iv i1, iv i2, iv i3, iv i4, iv (2 : Int32), iv (0 : Int32), iv mz, rv b479, rv ra_538, iv (nP0 i0), rv b543, rv ra_557] [(.ref ra_557)]
      exact k)
    obtain ⟨cl560, Ar560, q560, S560, M560, H560, G560⟩ := id R557_1
    have g561 : Goes p e below S0 (T557.setTop (mkF m 156 #[iv i0, iv i1, iv i2, iv i3, iv i4, iv (2 : Int32), iv (0 : Int32), iv mz, rv b479, rv ra_538, iv (nP0 i0), rv b543, rv ra_557] [(.int (0 : Int32)), (.ref b479), (.int (0 : Int32)), (.ref ra_557)])) := fun t k => g559 t (by
      refine X557.arraylength hx Ar560.1 (State.isArrayOf_alike hZ.alike Ar560.2.1) (g := (mkF m 139 #[iv i0, iv i1, iv i2, iv i3, iv i4, iv (2 : Int32), iv (0 : Int32), iv mz, rv b479, rv ra_538, iv (nP0 i0), rv b543, rv ra_557] [(.ref ra_557)])) rfl rfl (hb hby at_139) _ ?_
      rw [len_of S560 M560]
      show Go p e below t T557 m 140 #[iv i0, iv i1, iv i2, iv i3, iv i4, iv (2 : Int32), iv (0 : Int32), iv mz, rv b479, rv ra_538, iv (nP0 i0), rv b543, rv ra_557] [(.int (1 : Int32))]
      refine XS.iload X557.here hx rfl (hb hby at_140) rfl ?_
      show Go p e below t T557 m 142 #[iv i0, iv i1, iv i2, iv i3, iv i4, iv (2 : Int32), iv (0 : Int32), iv mz, rv b479, rv ra_538, iv (nP0 i0), rv b543, rv ra_557] [(.int (2 : Int32)), (.int (1 : Int32))]
      refine XT.iconstV X557.here hx rfl (1 : Int32) (hb hby at_142) (by decide) ?_
      show Go p e below t T557 m 143 #[iv i0, iv i1, iv i2, iv i3, iv i4, iv (2 : Int32), iv (0 : Int32), iv mz, rv b479, rv ra_538, iv (nP0 i0), rv b543, rv ra_557] [(.int (1 : Int32)), (.int (2 : Int32)), (.int (1 : Int32))]
      refine XS.isub X557.here hx rfl (hb hby at_143) rfl ?_
      rw [show ((2 : Int32) - (1 : Int32)) = (1 : Int32) by decide]
      show Go p e below t T557 m 144 #[iv i0, iv i1, iv i2, iv i3, iv i4, iv (2 : Int32), iv (0 : Int32), iv mz, rv b479, rv ra_538, iv (nP0 i0), rv b543, rv ra_557] [(.int (1 : Int32)), (.int (1 : Int32))]
      refine XS.icmpYes X557.here hx rfl (pc0 := 144) (pc' := 149) rfl (hb hby at_144) rfl (XT.ii_eq_t (by decide)) (by decide) (by decide) ?_
      show Go p e below t T557 m 149 #[iv i0, iv i1, iv i2, iv i3, iv i4, iv (2 : Int32), iv (0 : Int32), iv mz, rv b479, rv ra_538, iv (nP0 i0), rv b543, rv ra_557] []
      refine XS.aload X557.here hx rfl (hb hby at_149) rfl rfl ?_
      show Go p e below t T557 m 151 #[iv i0, iv i1, iv i2, iv i3, iv i4, iv (2 : Int32), iv (0 : Int32), iv mz, rv b479, rv ra_538, iv (nP0 i0), rv b543, rv ra_557] [(.ref ra_557)]
      refine XT.iconstV X557.here hx rfl (0 : Int32) (hb hby at_151) (by decide) ?_
      show Go p e below t T557 m 152 #[iv i0, iv i1, iv i2, iv i3, iv i4, iv (2 : Int32), iv (0 : Int32), iv mz, rv b479, rv ra_538, iv (nP0 i0), rv b543, rv ra_557] [(.int (0 : Int32)), (.ref ra_557)]
      refine XS.aload X557.here hx rfl (hb hby at_152) rfl rfl ?_
      show Go p e below t T557 m 154 #[iv i0, iv i1, iv i2, iv i3, iv i4, iv (2 : Int32), iv (0 : Int32), iv mz, rv b479, rv ra_538, iv (nP0 i0), rv b543, rv ra_557] [(.ref b479), (.int (0 : Int32)), (.ref ra_557)]
      refine XS.iload X557.here hx rfl (hb hby at_154) rfl ?_
      show Go p e below t T557 m 156 #[iv i0, iv i1, iv i2, iv i3, iv i4, iv (2 : Int32), iv (0 : Int32), iv mz, rv b479, rv ra_538, iv (nP0 i0), rv b543, rv ra_557] [(.int (0 : Int32)), (.ref b479), (.int (0 : Int32)), (.ref ra_557)]
      exact k)
    obtain ⟨_, _, ⟨T562, L562, k562, n562⟩, -, X562, ⟨Lc562, hQ562, l562, y562, z562⟩, st562⟩ := Jvm.LawKit.callS X557 hx (y := (⟨"com/example/aristotle/aristotle/StepMadePinLaw", "check", "([II[II)Z"⟩ : MethodName)) hown (mvT hZ (hw _ (List.mem_of_getElem? (i := 36) rfl))) (mvT hZ (hw _ (List.mem_of_getElem? (i := 37) rfl))) (mvT hZ (hw _ (List.mem_of_getElem? (i := 5) rfl))) (mvT hZ (hw _ (List.mem_of_getElem? (i := 38) rfl))) (by decide) (backOf (W := 0) (rm_ck2 l Z a0 hw [] ra_557 (0 : Int32) b479 (0 : Int32) rk_557 (1 : Int32) [(.int (nP1 i0 i1))] (.int (0 : Int32)) k479 (4 : Int32) [(.int (nP0 i0)), (.int (nP1 i0 i1)), (.int (nP2 i0 i1 i2)), (.int (nP3 i0 i1 i2 i3))] (.int (0 : Int32)) (nP1 i0 i1) T557.heap n0 (Nat.le_trans Z0 (Nat.le_trans (Nat.le_trans (Nat.le_trans (Nat.le_trans (Nat.le_trans (Nat.le_trans (Nat.le_trans (Nat.le_trans (Nat.le_trans (Nat.le_trans (Nat.le_refl _) E479.1) (Nat.le_of_eq W483.size.symm)) (Nat.le_of_eq W489.size.symm)) (Nat.le_of_eq W495.size.symm)) (Nat.le_of_eq W501.size.symm)) R538_0.1) E543.1) E551.1) R554_0.1) R557_0.1)) R557_1 (((((V501.keep R538_0 nin0).ext E543).ext E551).keep R554_0 (ninS (Nat.ne_of_lt (Nat.lt_of_lt_of_le (V501.keep R538_0 nin0).lt (Nat.le_of_eq gb543.symm))) nin0)).keep R557_0 nin0) (by decide) (by decide) (by decide) (by decide) rfl rfl) hZ (hw _ (List.mem_of_getElem? (i := 38) rfl)) (hw _ (List.mem_of_getElem? (i := 5) rfl)) (by decide) (by decide)) (g := (mkF m 156 #[iv i0, iv i1, iv i2, iv i3, iv i4, iv (2 : Int32), iv (0 : Int32), iv mz, rv b479, rv ra_538, iv (nP0 i0), rv b543, rv ra_557] [(.int (0 : Int32)), (.ref b479), (.int (0 : Int32)), (.ref ra_557)])) rfl (by rw [hml]; rfl) (argsL := [(.ref ra_557), (.int (0 : Int32)), (.ref b479), (.int (0 : Int32))]) (rest := []) (lenOf pd4 rfl) rfl (by show 2 * 0 + _ ≤ _; exact Nat.le_of_eq rfl) (hb hby at_156) (fun _ _ => ⟨rfl, rfl, (by decide : 5 + 0 ≤ _), (by decide : 12 + 0 ≤ _)⟩)
    dsimp only [Pt.U, Pt.locs, Pt.cells, Pt.slots] at X562 l562 y562 z562 st562 hQ562
    subst l562 y562 z562
    obtain ⟨rfl, N562, R562_0⟩ := hQ562
    have M562 := Fr.app M557 N562
    have g563 : Goes p e below S0 (T562.setTop (mkF m 159 #[iv i0, iv i1, iv i2, iv i3, iv i4, iv (2 : Int32), iv (0 : Int32), iv mz, rv b479, rv ra_538, iv (nP0 i0), rv b543, rv ra_557] [(.int (1 : Int32))])) := fun t k => g561 t (st562 t k)
    have g564 : Goes p e below S0 (T562.setTop (mkF m 169 #[iv i0, iv i1, iv i2, iv i3, iv i4, iv (2 : Int32), iv (0 : Int32), iv mz, rv b479, rv ra_538, iv (nP0 i0), rv b543, rv ra_557] [(.int (0 : Int32)), (.ref b479), (.int (1 : Int32)), (.ref ra_557)])) := fun t k => g563 t (by
      refine XS.ifNo X562.here hx rfl (hb hby at_159) rfl (XT.i0_eq_f (by decide)) ?_
      show Go p e below t T562 m 162 #[iv i0, iv i1, iv i2, iv i3, iv i4, iv (2 : Int32), iv (0 : Int32), iv mz, rv b479, rv ra_538, iv (nP0 i0), rv b543, rv ra_557] []
      refine XS.aload X562.here hx rfl (hb hby at_162) rfl rfl ?_
      show Go p e below t T562 m 164 #[iv i0, iv i1, iv i2, iv i3, iv i4, iv (2 : Int32), iv (0 : Int32), iv mz, rv b479, rv ra_538, iv (nP0 i0), rv b543, rv ra_557] [(.ref ra_557)]
      refine XT.iconstV X562.here hx rfl (1 : Int32) (hb hby at_164) (by decide) ?_
      show Go p e below t T562 m 165 #[iv i0, iv i1, iv i2, iv i3, iv i4, iv (2 : Int32), iv (0 : Int32), iv mz, rv b479, rv ra_538, iv (nP0 i0), rv b543, rv ra_557] [(.int (1 : Int32)), (.ref ra_557)]
      refine XS.aload X562.here hx rfl (hb hby at_165) rfl rfl ?_
      show Go p e below t T562 m 167 #[iv i0, iv i1, iv i2, iv i3, iv i4, iv (2 : Int32), iv (0 : Int32), iv mz, rv b479, rv ra_538, iv (nP0 i0), rv b543, rv ra_557] [(.ref b479), (.int (1 : Int32)), (.ref ra_557)]
      refine XS.iload X562.here hx rfl (hb hby at_167) rfl ?_
      show Go p e below t T562 m 169 #[iv i0, iv i1, iv i2, iv i3, iv i4, iv (2 : Int32), iv (0 : Int32), iv mz, rv b479, rv ra_538, iv (nP0 i0), rv b543, rv ra_557] [(.int (0 : Int32)), (.ref b479), (.int (1 : Int32)), (.ref ra_557)]
      exact k)
    obtain ⟨_, _, ⟨T565, L565, k565, n565⟩, -, X565, ⟨Lc565, hQ565, l565, y565, z565⟩, st565⟩ := Jvm.LawKit.callS X562 hx (y := (⟨"com/example/aristotle/aristotle/StepMadePinLaw", "check", "([II[II)Z"⟩ : MethodName)) hown (mvT hZ (hw _ (List.mem_of_getElem? (i := 36) rfl))) (mvT hZ (hw _ (List.mem_of_getElem? (i := 37) rfl))) (mvT hZ (hw _ (List.mem_of_getElem? (i := 5) rfl))) (mvT hZ (hw _ (List.mem_of_getElem? (i := 38) rfl))) (by decide) (backOf (W := 0) (rm_ck0 l Z a0 hw [] ra_557 (1 : Int32) b479 (0 : Int32) rk_557 (1 : Int32) [(.int (nP1 i0 i1))] (.int (0 : Int32)) T557.heap n0 (Nat.le_trans Z0 (Nat.le_trans (Nat.le_trans (Nat.le_trans (Nat.le_trans (Nat.le_trans (Nat.le_trans (Nat.le_trans (Nat.le_trans (Nat.le_trans (Nat.le_trans (Nat.le_refl _) E479.1) (Nat.le_of_eq W483.size.symm)) (Nat.le_of_eq W489.size.symm)) (Nat.le_of_eq W495.size.symm)) (Nat.le_of_eq W501.size.symm)) R538_0.1) E543.1) E551.1) R554_0.1) R557_0.1)) R557_1 (by decide)) hZ (hw _ (List.mem_of_getElem? (i := 38) rfl)) (hw _ (List.mem_of_getElem? (i := 5) rfl)) (by decide) (by decide)) (g := (mkF m 169 #[iv i0, iv i1, iv i2, iv i3, iv i4, iv (2 : Int32), iv (0 : Int32), iv mz, rv b479, rv ra_538, iv (nP0 i0), rv b543, rv ra_557] [(.int (0 : Int32)), (.ref b479), (.int (1 : Int32)), (.ref ra_557)])) rfl (by rw [hml]; rfl) (argsL := [(.ref ra_557), (.int (1 : Int32)), (.ref b479), (.int (0 : Int32))]) (rest := []) (lenOf pd4 rfl) rfl (by show 2 * 0 + _ ≤ _; exact Nat.le_of_eq rfl) (hb hby at_169) (fun _ _ => ⟨rfl, R562_0, (by decide : 5 + 0 ≤ _), (by decide : 12 + 0 ≤ _)⟩)
    dsimp only [Pt.U, Pt.locs, Pt.cells, Pt.slots] at X565 l565 y565 z565 st565 hQ565
    subst l565 y565 z565
    obtain ⟨rfl, N565, R565_0⟩ := hQ565
    have M565 := Fr.app M562 N565
    have g566 : Goes p e below S0 (T565.setTop (mkF m 172 #[iv i0, iv i1, iv i2, iv i3, iv i4, iv (2 : Int32), iv (0 : Int32), iv mz, rv b479, rv ra_538, iv (nP0 i0), rv b543, rv ra_557] [(.int (1 : Int32))])) := fun t k => g564 t (st565 t k)
    have g567 : Goes p e below S0 (T565.setTop (mkF m 182 #[iv i0, iv i1, iv i2, iv i3, iv i4, iv (2 : Int32), iv (0 : Int32), iv mz, rv b479, rv ra_538, iv (nP0 i0), rv b543, rv ra_557] [(.int (0 : Int32)), (.ref b479), (.int (2 : Int32)), (.ref ra_557)])) := fun t k => g566 t (by
      refine XS.ifNo X565.here hx rfl (hb hby at_172) rfl (XT.i0_eq_f (by decide)) ?_
      show Go p e below t T565 m 175 #[iv i0, iv i1, iv i2, iv i3, iv i4, iv (2 : Int32), iv (0 : Int32), iv mz, rv b479, rv ra_538, iv (nP0 i0), rv b543, rv ra_557] []
      refine XS.aload X565.here hx rfl (hb hby at_175) rfl rfl ?_
      show Go p e below t T565 m 177 #[iv i0, iv i1, iv i2, iv i3, iv i4, iv (2 : Int32), iv (0 : Int32), iv mz, rv b479, rv ra_538, iv (nP0 i0), rv b543, rv ra_557] [(.ref ra_557)]
      refine XT.iconstV X565.here hx rfl (2 : Int32) (hb hby at_177) (by decide) ?_
      show Go p e below t T565 m 178 #[iv i0, iv i1, iv i2, iv i3, iv i4, iv (2 : Int32), iv (0 : Int32), iv mz, rv b479, rv ra_538, iv (nP0 i0), rv b543, rv ra_557] [(.int (2 : Int32)), (.ref ra_557)]
      refine XS.aload X565.here hx rfl (hb hby at_178) rfl rfl ?_
      show Go p e below t T565 m 180 #[iv i0, iv i1, iv i2, iv i3, iv i4, iv (2 : Int32), iv (0 : Int32), iv mz, rv b479, rv ra_538, iv (nP0 i0), rv b543, rv ra_557] [(.ref b479), (.int (2 : Int32)), (.ref ra_557)]
      refine XS.iload X565.here hx rfl (hb hby at_180) rfl ?_
      show Go p e below t T565 m 182 #[iv i0, iv i1, iv i2, iv i3, iv i4, iv (2 : Int32), iv (0 : Int32), iv mz, rv b479, rv ra_538, iv (nP0 i0), rv b543, rv ra_557] [(.int (0 : Int32)), (.ref b479), (.int (2 : Int32)), (.ref ra_557)]
      exact k)
    obtain ⟨_, _, ⟨T568, L568, k568, n568⟩, -, X568, ⟨Lc568, hQ568, l568, y568, z568⟩, st568⟩ := Jvm.LawKit.callS X565 hx (y := (⟨"com/example/aristotle/aristotle/StepMadePinLaw", "check", "([II[II)Z"⟩ : MethodName)) hown (mvT hZ (hw _ (List.mem_of_getElem? (i := 36) rfl))) (mvT hZ (hw _ (List.mem_of_getElem? (i := 37) rfl))) (mvT hZ (hw _ (List.mem_of_getElem? (i := 5) rfl))) (mvT hZ (hw _ (List.mem_of_getElem? (i := 38) rfl))) (by decide) (backOf (W := 0) (rm_ck0 l Z a0 hw [] ra_557 (2 : Int32) b479 (0 : Int32) rk_557 (1 : Int32) [(.int (nP1 i0 i1))] (.int (0 : Int32)) T557.heap n0 (Nat.le_trans Z0 (Nat.le_trans (Nat.le_trans (Nat.le_trans (Nat.le_trans (Nat.le_trans (Nat.le_trans (Nat.le_trans (Nat.le_trans (Nat.le_trans (Nat.le_trans (Nat.le_refl _) E479.1) (Nat.le_of_eq W483.size.symm)) (Nat.le_of_eq W489.size.symm)) (Nat.le_of_eq W495.size.symm)) (Nat.le_of_eq W501.size.symm)) R538_0.1) E543.1) E551.1) R554_0.1) R557_0.1)) R557_1 (by decide)) hZ (hw _ (List.mem_of_getElem? (i := 38) rfl)) (hw _ (List.mem_of_getElem? (i := 5) rfl)) (by decide) (by decide)) (g := (mkF m 182 #[iv i0, iv i1, iv i2, iv i3, iv i4, iv (2 : Int32), iv (0 : Int32), iv mz, rv b479, rv ra_538, iv (nP0 i0), rv b543, rv ra_557] [(.int (0 : Int32)), (.ref b479), (.int (2 : Int32)), (.ref ra_557)])) rfl (by rw [hml]; rfl) (argsL := [(.ref ra_557), (.int (2 : Int32)), (.ref b479), (.int (0 : Int32))]) (rest := []) (lenOf pd4 rfl) rfl (by show 2 * 0 + _ ≤ _; exact Nat.le_of_eq rfl) (hb hby at_182) (fun _ _ => ⟨rfl, R565_0, (by decide : 5 + 0 ≤ _), (by decide : 12 + 0 ≤ _)⟩)
    dsimp only [Pt.U, Pt.locs, Pt.cells, Pt.slots] at X568 l568 y568 z568 st568 hQ568
    subst l568 y568 z568
    obtain ⟨rfl, N568, R568_0⟩ := hQ568
    have M568 := Fr.app M565 N568
    have g569 : Goes p e below S0 (T568.setTop (mkF m 185 #[iv i0, iv i1, iv i2, iv i3, iv i4, iv (2 : Int32), iv (0 : Int32), iv mz, rv b479, rv ra_538, iv (nP0 i0), rv b543, rv ra_557] [(.int (1 : Int32))])) := fun t k => g567 t (st568 t k)
    have g570 : Goes p e below S0 (T568.setTop (mkF m 193 #[iv i0, iv i1, iv i2, iv i3, iv i4, iv (2 : Int32), iv (0 : Int32), iv mz, rv b479, rv ra_538, iv (nP0 i0), rv b543, rv ra_557] [(.int (1 : Int32))])) := fun t k => g569 t (by
      refine XS.ifNo X568.here hx rfl (hb hby at_185) rfl (XT.i0_eq_f (by decide)) ?_
      show Go p e below t T568 m 188 #[iv i0, iv i1, iv i2, iv i3, iv i4, iv (2 : Int32), iv (0 : Int32), iv mz, rv b479, rv ra_538, iv (nP0 i0), rv b543, rv ra_557] []
      refine XT.iconstV X568.here hx rfl (1 : Int32) (hb hby at_188) (by decide) ?_
      show Go p e below t T568 m 189 #[iv i0, iv i1, iv i2, iv i3, iv i4, iv (2 : Int32), iv (0 : Int32), iv mz, rv b479, rv ra_538, iv (nP0 i0), rv b543, rv ra_557] [(.int (1 : Int32))]
      refine XS.goto X568.here hx rfl (pc0 := 189) (pc' := 193) rfl (hb hby at_189) (by decide) (by decide) ?_
      show Go p e below t T568 m 193 #[iv i0, iv i1, iv i2, iv i3, iv i4, iv (2 : Int32), iv (0 : Int32), iv mz, rv b479, rv ra_538, iv (nP0 i0), rv b543, rv ra_557] [(.int (1 : Int32))]
      exact k)
    obtain ⟨fs, hr, hrun, hended, hW, hsame⟩ := X568.leave (v := some (.int (1 : Int32))) (fun h => by rw [Bd.returns] at h; cases h)
    refine ⟨_, _, g570 _ (retN X568 hx (t := .boolean) Bd.returns (by simp) (hb hby at_193) hr), hrun, hended, _, _, rfl, ?_, ⟨_, rfl⟩, hW, hsame.mono (by decide) (by decide)⟩
    show Q_law Z i0 i1 i2 i3 i4  h0 n0 _ T568.heap _
    rw [R568_0]
    exact ⟨rfl, M568⟩
  · skip
    have g571 : Goes p e below S0 (T501.setTop (mkF m 97 #[iv i0, iv i1, iv i2, iv i3, iv i4, iv (2 : Int32), iv (1 : Int32), iv mz, rv b479, .unset, .unset, .unset, .unset] [(.int (2 : Int32)), (.ref b479)])) := fun t k => g502 t (by
      refine XS.aload X501.here hx rfl (hb hby at_93) rfl rfl ?_
      show Go p e below t T501 m 95 #[iv i0, iv i1, iv i2, iv i3, iv i4, iv (2 : Int32), iv (1 : Int32), iv mz, rv b479, .unset, .unset, .unset, .unset] [(.ref b479)]
      refine XS.iload X501.here hx rfl (hb hby at_95) rfl ?_
      show Go p e below t T501 m 97 #[iv i0, iv i1, iv i2, iv i3, iv i4, iv (2 : Int32), iv (1 : Int32), iv mz, rv b479, .unset, .unset, .unset, .unset] [(.int (2 : Int32)), (.ref b479)]
      exact k)
    obtain ⟨_, _, ⟨T572, L572, k572, n572⟩, -, X572, ⟨Lc572, hQ572, l572, y572, z572⟩, st572⟩ := Jvm.LawKit.callS X501 hx (y := (⟨"com/example/aristotle/aristotle/StepMadePinLaw", "prefix", "([II)[I"⟩ : MethodName)) hown (mvT hZ (hw _ (List.mem_of_getElem? (i := 3) rfl))) (mvT hZ (hw _ (List.mem_of_getElem? (i := 4) rfl))) (mvT hZ (hw _ (List.mem_of_getElem? (i := 5) rfl))) (mvT hZ (hw _ (List.mem_of_getElem? (i := 6) rfl))) (by decide) (backOf (W := 0) (rm_pr2 l Z a0 hw [] b479 (2 : Int32) k479 (nP0 i0) (nP1 i0 i1) (nP2 i0 i1 i2) (nP3 i0 i1 i2 i3) h501 n0 (Nat.le_trans Z0 (Nat.le_trans (Nat.le_trans (Nat.le_trans (Nat.le_trans (Nat.le_trans (Nat.le_refl _) E479.1) (Nat.le_of_eq W483.size.symm)) (Nat.le_of_eq W489.size.symm)) (Nat.le_of_eq W495.size.symm)) (Nat.le_of_eq W501.size.symm))) V501 rfl) hZ (hw _ (List.mem_of_getElem? (i := 6) rfl)) (hw _ (List.mem_of_getElem? (i := 5) rfl)) (by decide) (by decide)) (g := (mkF m 97 #[iv i0, iv i1, iv i2, iv i3, iv i4, iv (2 : Int32), iv (1 : Int32), iv mz, rv b479, .unset, .unset, .unset, .unset] [(.int (2 : Int32)), (.ref b479)])) rfl (by rw [hml]; rfl) (argsL := [(.ref b479), (.int (2 : Int32))]) (rest := []) (lenOf pd2 rfl) rfl (by show 2 * 0 + _ ≤ _; exact Nat.le_of_eq rfl) (hb hby at_97) (fun _ _ => ⟨rfl, e501, (by decide : 1 + 1 ≤ _), (by decide : 4 + 2 ≤ _)⟩)
    dsimp only [Pt.U, Pt.locs, Pt.cells, Pt.slots] at X572 l572 y572 z572 st572 hQ572
    subst l572 y572 z572
    obtain ⟨ra_572, rk_572, rfl, N572, R572_0, R572_1, R572_2⟩ := hQ572
    have M572 := Fr.app N501 N572
    have sz572_2 : h0.size ≤ ra_572 := Nat.le_trans (Nat.le_trans (Nat.le_trans (Nat.le_trans (Nat.le_trans (Nat.le_trans (Nat.le_refl _) E479.1) (Nat.le_of_eq W483.size.symm)) (Nat.le_of_eq W489.size.symm)) (Nat.le_of_eq W495.size.symm)) (Nat.le_of_eq W501.size.symm)) R572_2
    have ng572_2 : n0 ≤ ra_572 := Nat.le_trans Z0 sz572_2
    have g573 : Goes p e below S0 (T572.setTop (mkF m 100 #[iv i0, iv i1, iv i2, iv i3, iv i4, iv (2 : Int32), iv (1 : Int32), iv mz, rv b479, .unset, .unset, .unset, .unset] [(.ref ra_572)])) := fun t k => g571 t (st572 t k)
    have g574 : Goes p e below S0 (T572.setTop (mkF m 106 #[iv i0, iv i1, iv i2, iv i3, iv i4, iv (2 : Int32), iv (1 : Int32), iv mz, rv b479, rv ra_572, .unset, .unset, .unset] [(.int (1 : Int32)), (.ref b479)])) := fun t k => g573 t (by
      refine XS.astore X572.here hx rfl (hb hby at_100) rfl rfl (l' := #[iv i0, iv i1, iv i2, iv i3, iv i4, iv (2 : Int32), iv (1 : Int32), iv mz, rv b479, rv ra_572, .unset, .unset, .unset]) rfl ?_
      show Go p e below t T572 m 102 #[iv i0, iv i1, iv i2, iv i3, iv i4, iv (2 : Int32), iv (1 : Int32), iv mz, rv b479, rv ra_572, .unset, .unset, .unset] []
      refine XS.aload X572.here hx rfl (hb hby at_102) rfl rfl ?_
      show Go p e below t T572 m 104 #[iv i0, iv i1, iv i2, iv i3, iv i4, iv (2 : Int32), iv (1 : Int32), iv mz, rv b479, rv ra_572, .unset, .unset, .unset] [(.ref b479)]
      refine XS.iload X572.here hx rfl (hb hby at_104) rfl ?_
      show Go p e below t T572 m 106 #[iv i0, iv i1, iv i2, iv i3, iv i4, iv (2 : Int32), iv (1 : Int32), iv mz, rv b479, rv ra_572, .unset, .unset, .unset] [(.int (1 : Int32)), (.ref b479)]
      exact k)
    obtain ⟨cl575, Ar575, q575, S575, M575, H575, G575⟩ := id (V501.keep R572_0 nin0)
    have g576 : Goes p e below S0 (T572.setTop (mkF m 109 #[iv i0, iv i1, iv i2, iv i3, iv i4, iv (2 : Int32), iv (1 : Int32), iv mz, rv b479, rv ra_572, iv (nP1 i0 i1), .unset, .unset] [])) := fun t k => g574 t (by
      refine X572.iaload hx (j := (1 : Int32)) (v := (.int (nP1 i0 i1))) Ar575.1 (State.isArrayOf_alike hZ.alike Ar575.2.1) Ar575.2.2 (inb_of S575 ⟨by decide, by decide⟩) (H575.at (inb_of S575 ⟨by decide, by decide⟩) rfl) (g := (mkF m 106 #[iv i0, iv i1, iv i2, iv i3, iv i4, iv (2 : Int32), iv (1 : Int32), iv mz, rv b479, rv ra_572, .unset, .unset, .unset] [(.int (1 : Int32)), (.ref b479)])) rfl rfl (hb hby at_106) _ ?_
      show Go p e below t T572 m 107 #[iv i0, iv i1, iv i2, iv i3, iv i4, iv (2 : Int32), iv (1 : Int32), iv mz, rv b479, rv ra_572, .unset, .unset, .unset] [(.int (nP1 i0 i1))]
      refine XS.istore X572.here hx rfl (hb hby at_107) rfl (l' := #[iv i0, iv i1, iv i2, iv i3, iv i4, iv (2 : Int32), iv (1 : Int32), iv mz, rv b479, rv ra_572, iv (nP1 i0 i1), .unset, .unset]) rfl ?_
      show Go p e below t T572 m 109 #[iv i0, iv i1, iv i2, iv i3, iv i4, iv (2 : Int32), iv (1 : Int32), iv mz, rv b479, rv ra_572, iv (nP1 i0 i1), .unset, .unset] []
      exact k)
    obtain ⟨T577, h577, X577, e577, E577, A577, D577, -, st577⟩ := newO X572 hx hZ hown (hw _ (List.mem_of_getElem? (i := 7) rfl)) (hw _ (List.mem_of_getElem? (i := 8) rfl)) (hw _ (List.mem_of_getElem? (i := 9) rfl)) rfl (g := (mkF m 109 #[iv i0, iv i1, iv i2, iv i3, iv i4, iv (2 : Int32), iv (1 : Int32), iv mz, rv b479, rv ra_572, iv (nP1 i0 i1), .unset, .unset] [])) rfl (hb hby at_109) (by decide) (by decide)
    obtain ⟨b577, gb577⟩ : ∃ z, z = T572.heap.size := ⟨_, rfl⟩
    have sz577 : h0.size ≤ b577 := Nat.le_trans (Nat.le_trans (Nat.le_trans (Nat.le_trans (Nat.le_trans (Nat.le_trans (Nat.le_trans (Nat.le_refl _) E479.1) (Nat.le_of_eq W483.size.symm)) (Nat.le_of_eq W489.size.symm)) (Nat.le_of_eq W495.size.symm)) (Nat.le_of_eq W501.size.symm)) R572_0.1) (Nat.le_of_eq gb577.symm)
    have ng577 : n0 ≤ b577 := Nat.le_trans Z0 sz577
    rw [← gb577] at A577 D577 st577
    have F577_578 : Fld Z h577 b577 "com/example/aristotle/aristotle/EliminationPlan$Step" "variable" "I" (.int (0 : Int32)) := D577 (Or.inr (hw _ (List.mem_of_getElem? (i := 22) rfl))) (ty := .int) (by decide)
    have F577_579 : Fld Z h577 b577 "com/example/aristotle/aristotle/EliminationPlan$Step" "tables" "[I" .null := D577 (Or.inr (hw _ (List.mem_of_getElem? (i := 24) rfl))) (ty := (.array .int)) (by decide)
    have F577_580 : Fld Z h577 b577 "com/example/aristotle/aristotle/EliminationPlan$Step" "product" "[I" .null := D577 (Or.inr (hw _ (List.mem_of_getElem? (i := 26) rfl))) (ty := (.array .int)) (by decide)
    have F577_581 : Fld Z h577 b577 "com/example/aristotle/aristotle/EliminationPlan$Step" "entries" "D" (.double (0 : UInt64)) := D577 (Or.inr (hw _ (List.mem_of_getElem? (i := 28) rfl))) (ty := .double) (by decide)
    have F577_582 : Fld Z h577 b577 "com/example/aristotle/aristotle/EliminationPlan$Step" "makes" "Z" (.int (0 : Int32)) := D577 (Or.inr (hw _ (List.mem_of_getElem? (i := 30) rfl))) (ty := .boolean) (by decide)
    have g583 : Goes p e below S0 (T577.setTop (mkF m 112 #[iv i0, iv i1, iv i2, iv i3, iv i4, iv (2 : Int32), iv (1 : Int32), iv mz, rv b479, rv ra_572, iv (nP1 i0 i1), .unset, .unset] [(.ref b577)])) := fun t k => g576 t (st577 t k)
    have g584 : Goes p e below S0 (T577.setTop (mkF m 116 #[iv i0, iv i1, iv i2, iv i3, iv i4, iv (2 : Int32), iv (1 : Int32), iv mz, rv b479, rv ra_572, iv (nP1 i0 i1), .unset, .unset] [(.int (0 : Int32)), (.int (nP1 i0 i1)), (.ref b577), (.ref b577)])) := fun t k => g583 t (by
      refine XS.dup X577.here hx rfl (hb hby at_112) rfl rfl ?_
      show Go p e below t T577 m 113 #[iv i0, iv i1, iv i2, iv i3, iv i4, iv (2 : Int32), iv (1 : Int32), iv mz, rv b479, rv ra_572, iv (nP1 i0 i1), .unset, .unset] [(.ref b577), (.ref b577)]
      refine XS.iload X577.here hx rfl (hb hby at_113) rfl ?_
      show Go p e below t T577 m 115 #[iv i0, iv i1, iv i2, iv i3, iv i4, iv (2 : Int32), iv (1 : Int32), iv mz, rv b479, rv ra_572, iv (nP1 i0 i1), .unset, .unset] [(.int (nP1 i0 i1)), (.ref b577), (.ref b577)]
      refine XT.iconstV X577.here hx rfl (0 : Int32) (hb hby at_115) (by decide) ?_
      show Go p e below t T577 m 116 #[iv i0, iv i1, iv i2, iv i3, iv i4, iv (2 : Int32), iv (1 : Int32), iv mz, rv b479, rv ra_572, iv (nP1 i0 i1), .unset, .unset] [(.int (0 : Int32)), (.int (nP1 i0 i1)), (.ref b577), (.ref b577)]
      exact k)
    obtain ⟨T585, h585, k585, X585, e585, E585, A585, st585⟩ := newP X577 hx hZ (hw _ (List.mem_of_getElem? (i := 1) rfl)) e577 (g := (mkF m 116 #[iv i0, iv i1, iv i2, iv i3, iv i4, iv (2 : Int32), iv (1 : Int32), iv mz, rv b479, rv ra_572, iv (nP1 i0 i1), .unset, .unset] [(.int (0 : Int32)), (.int (nP1 i0 i1)), (.ref b577), (.ref b577)])) rfl (hb hby at_116) rfl (by decide) (cap := 0) (by decide) (by decide) (by decide) (by decide)
    obtain ⟨b585, gb585⟩ : ∃ z, z = h577.size := ⟨_, rfl⟩
    have sz585 : h0.size ≤ b585 := Nat.le_trans (Nat.le_trans (Nat.le_trans (Nat.le_trans (Nat.le_trans (Nat.le_trans (Nat.le_trans (Nat.le_trans (Nat.le_refl _) E479.1) (Nat.le_of_eq W483.size.symm)) (Nat.le_of_eq W489.size.symm)) (Nat.le_of_eq W495.size.symm)) (Nat.le_of_eq W501.size.symm)) R572_0.1) E577.1) (Nat.le_of_eq gb585.symm)
    have ng585 : n0 ≤ b585 := Nat.le_trans Z0 sz585
    rw [← gb585] at A585 st585
    have V585 : Arv Z h585 b585 k585 .int (0 : Int32) [] (.int (0 : Int32)) := (Arv.new A585 (by decide)).pad (pad_rep [] (.int (0 : Int32)) 0)
    have g586 : Goes p e below S0 (T585.setTop (mkF m 118 #[iv i0, iv i1, iv i2, iv i3, iv i4, iv (2 : Int32), iv (1 : Int32), iv mz, rv b479, rv ra_572, iv (nP1 i0 i1), .unset, .unset] [(.ref b585), (.int (nP1 i0 i1)), (.ref b577), (.ref b577)])) := fun t k => g584 t (st585 t k)
    have g587 : Goes p e below S0 (T585.setTop (mkF m 125 #[iv i0, iv i1, iv i2, iv i3, iv i4, iv (2 : Int32), iv (1 : Int32), iv mz, rv b479, rv ra_572, iv (nP1 i0 i1), .unset, .unset] [(.int mz), (.double (FP.i2d (2 : Int32))), (.ref ra_572), (.ref b585), (.int (nP1 i0 i1)), (.ref b577), (.ref b577)])) := fun t k => g586 t (by
      refine XS.aload X585.here hx rfl (hb hby at_118) rfl rfl ?_
      show Go p e below t T585 m 120 #[iv i0, iv i1, iv i2, iv i3, iv i4, iv (2 : Int32), iv (1 : Int32), iv mz, rv b479, rv ra_572, iv (nP1 i0 i1), .unset, .unset] [(.ref ra_572), (.ref b585), (.int (nP1 i0 i1)), (.ref b577), (.ref b577)]
      refine XS.iload X585.here hx rfl (hb hby at_120) rfl ?_
      show Go p e below t T585 m 122 #[iv i0, iv i1, iv i2, iv i3, iv i4, iv (2 : Int32), iv (1 : Int32), iv mz, rv b479, rv ra_572, iv (nP1 i0 i1), .unset, .unset] [(.int (2 : Int32)), (.ref ra_572), (.ref b585), (.int (nP1 i0 i1)), (.ref b577), (.ref b577)]
      refine XS.i2dS X585.here hx rfl (hb hby at_122) rfl rfl ?_
      show Go p e below t T585 m 123 #[iv i0, iv i1, iv i2, iv i3, iv i4, iv (2 : Int32), iv (1 : Int32), iv mz, rv b479, rv ra_572, iv (nP1 i0 i1), .unset, .unset] [(.double (FP.i2d (2 : Int32))), (.ref ra_572), (.ref b585), (.int (nP1 i0 i1)), (.ref b577), (.ref b577)]
      refine XS.iload X585.here hx rfl (hb hby at_123) rfl ?_
      show Go p e below t T585 m 125 #[iv i0, iv i1, iv i2, iv i3, iv i4, iv (2 : Int32), iv (1 : Int32), iv mz, rv b479, rv ra_572, iv (nP1 i0 i1), .unset, .unset] [(.int mz), (.double (FP.i2d (2 : Int32))), (.ref ra_572), (.ref b585), (.int (nP1 i0 i1)), (.ref b577), (.ref b577)]
      exact k)
    obtain ⟨_, _, ⟨T588, L588, k588, n588⟩, -, X588, ⟨Lc588, hQ588, l588, y588, z588⟩, st588⟩ := X585.specialBack hx (y := (⟨"com/example/aristotle/aristotle/EliminationPlan$Step", "<init>", "(I[I[IDZ)V"⟩ : MethodName)) rfl hown (mvT hZ (hw _ (List.mem_of_getElem? (i := 10) rfl))) (mvT hZ (hw _ (List.mem_of_getElem? (i := 11) rfl))) (mvT hZ (hw _ (List.mem_of_getElem? (i := 12) rfl))) (by decide) (backOf (W := 1) (rm_ini l Z a0 hw [] b577 (nP1 i0 i1) b585 ra_572 (FP.i2d (2 : Int32)) mz  h585 n0 (Nat.le_trans Z0 (Nat.le_trans (Nat.le_trans (Nat.le_trans (Nat.le_trans (Nat.le_trans (Nat.le_trans (Nat.le_trans (Nat.le_trans (Nat.le_refl _) E479.1) (Nat.le_of_eq W483.size.symm)) (Nat.le_of_eq W489.size.symm)) (Nat.le_of_eq W495.size.symm)) (Nat.le_of_eq W501.size.symm)) R572_0.1) E577.1) E585.1)) (A577.ext E585) ng577 (F577_578.ext E585) (F577_579.ext E585) (F577_580.ext E585) (F577_581.ext E585) (F577_582.ext E585)) hZ (hw _ (List.mem_of_getElem? (i := 12) rfl)) (hw _ (List.mem_of_getElem? (i := 9) rfl)) (by decide) (by decide)) (g := (mkF m 125 #[iv i0, iv i1, iv i2, iv i3, iv i4, iv (2 : Int32), iv (1 : Int32), iv mz, rv b479, rv ra_572, iv (nP1 i0 i1), .unset, .unset] [(.int mz), (.double (FP.i2d (2 : Int32))), (.ref ra_572), (.ref b585), (.int (nP1 i0 i1)), (.ref b577), (.ref b577)])) rfl (by rw [hml]; rfl) (Steps.refl _) (a := b577) (argsL := [(.int (nP1 i0 i1)), (.ref b585), (.ref ra_572), (.double (FP.i2d (2 : Int32))), (.int mz)]) (rest := [(.ref b577)]) (lenOf pd1 rfl) rfl (by show 2 * 0 + _ ≤ _; exact Nat.le_of_eq rfl) (hb hby at_125) (fun _ _ => ⟨rfl, e585, (by decide : 4 + 0 ≤ _), (by decide : 11 + 0 ≤ _)⟩)
    dsimp only [Pt.U, Pt.locs, Pt.cells, Pt.slots] at X588 l588 y588 z588 st588 hQ588
    subst l588 y588 z588
    obtain ⟨rfl, N588, R588_0, R588_1, R588_2, R588_3, R588_4, R588_5, R588_6⟩ := hQ588
    have M588 := Fr.app M572 N588
    have g589 : Goes p e below S0 (T588.setTop (mkF m 128 #[iv i0, iv i1, iv i2, iv i3, iv i4, iv (2 : Int32), iv (1 : Int32), iv mz, rv b479, rv ra_572, iv (nP1 i0 i1), .unset, .unset] [(.ref b577)])) := fun t k => g587 t (st588.trans k)
    have g590 : Goes p e below S0 (T588.setTop (mkF m 132 #[iv i0, iv i1, iv i2, iv i3, iv i4, iv (2 : Int32), iv (1 : Int32), iv mz, rv b479, rv ra_572, iv (nP1 i0 i1), rv b577, .unset] [(.ref b577)])) := fun t k => g589 t (by
      refine XS.astore X588.here hx rfl (hb hby at_128) rfl rfl (l' := #[iv i0, iv i1, iv i2, iv i3, iv i4, iv (2 : Int32), iv (1 : Int32), iv mz, rv b479, rv ra_572, iv (nP1 i0 i1), rv b577, .unset]) rfl ?_
      show Go p e below t T588 m 130 #[iv i0, iv i1, iv i2, iv i3, iv i4, iv (2 : Int32), iv (1 : Int32), iv mz, rv b479, rv ra_572, iv (nP1 i0 i1), rv b577, .unset] []
      refine XS.aload X588.here hx rfl (hb hby at_130) rfl rfl ?_
      show Go p e below t T588 m 132 #[iv i0, iv i1, iv i2, iv i3, iv i4, iv (2 : Int32), iv (1 : Int32), iv mz, rv b479, rv ra_572, iv (nP1 i0 i1), rv b577, .unset] [(.ref b577)]
      exact k)
    obtain ⟨cq591, kq591, q591a, q591b, q591c⟩ := isOf hZ rfl R588_1
    obtain ⟨_, _, ⟨T591, L591, k591, n591⟩, -, X591, ⟨Lc591, hQ591, l591, y591, z591⟩, st591⟩ := X588.virtualBack hx (y := (⟨"com/example/aristotle/aristotle/EliminationPlan$Step", "made", "()[I"⟩ : MethodName)) (z := (⟨"com/example/aristotle/aristotle/EliminationPlan$Step", "made", "()[I"⟩ : MethodName)) hown (mvT hZ (hw _ (List.mem_of_getElem? (i := 31) rfl))) (mvT hZ (hw _ (List.mem_of_getElem? (i := 32) rfl))) (notFace_of_selects (args := #[]) (mvT hZ (hw _ (List.mem_of_getElem? (i := 34) rfl)))) (mvT hZ (hw _ (List.mem_of_getElem? (i := 34) rfl))) (mvT hZ (hw _ (List.mem_of_getElem? (i := 33) rfl))) (by decide) (backOf (W := 0) (rm_md21 l Z a0 hw [] b577 ra_572 rk_572 (nP0 i0) (nP1 i0 i1) T588.heap n0 (Nat.le_trans Z0 (Nat.le_trans (Nat.le_trans (Nat.le_trans (Nat.le_trans (Nat.le_trans (Nat.le_trans (Nat.le_trans (Nat.le_trans (Nat.le_trans (Nat.le_refl _) E479.1) (Nat.le_of_eq W483.size.symm)) (Nat.le_of_eq W489.size.symm)) (Nat.le_of_eq W495.size.symm)) (Nat.le_of_eq W501.size.symm)) R572_0.1) E577.1) E585.1) R588_0.1)) R588_4 R588_2 (((R572_1.ext E577).ext E585).keep R588_0 (ninS (Nat.ne_of_lt (Nat.lt_of_lt_of_le R572_1.lt (Nat.le_of_eq gb577.symm))) nin0)) (own_ne01 i0 i1 i2 i3)) hZ (hw _ (List.mem_of_getElem? (i := 35) rfl)) (hw _ (List.mem_of_getElem? (i := 9) rfl)) (by decide) (by decide)) q591a q591c (g := (mkF m 132 #[iv i0, iv i1, iv i2, iv i3, iv i4, iv (2 : Int32), iv (1 : Int32), iv mz, rv b479, rv ra_572, iv (nP1 i0 i1), rv b577, .unset] [(.ref b577)])) rfl (by rw [hml]; rfl) (Steps.refl _) (argsL := []) (rest := []) (lenOf pd3 rfl) rfl (by show 2 * 0 + _ ≤ _; exact Nat.le_of_eq rfl) (hb hby at_132) (fun _ _ => ⟨rfl, rfl, (by decide : 4 + 1 ≤ _), (by decide : 11 + 1 ≤ _)⟩)
    dsimp only [Pt.U, Pt.locs, Pt.cells, Pt.slots] at X591 l591 y591 z591 st591 hQ591
    subst l591 y591 z591
    obtain ⟨ra_591, rk_591, rfl, N591, R591_0, R591_1, R591_2⟩ := hQ591
    have M591 := Fr.app M588 N591
    have sz591_2 : h0.size ≤ ra_591 := Nat.le_trans (Nat.le_trans (Nat.le_trans (Nat.le_trans (Nat.le_trans (Nat.le_trans (Nat.le_trans (Nat.le_trans (Nat.le_trans (Nat.le_trans (Nat.le_refl _) E479.1) (Nat.le_of_eq W483.size.symm)) (Nat.le_of_eq W489.size.symm)) (Nat.le_of_eq W495.size.symm)) (Nat.le_of_eq W501.size.symm)) R572_0.1) E577.1) E585.1) R588_0.1) R591_2
    have ng591_2 : n0 ≤ ra_591 := Nat.le_trans Z0 sz591_2
    have g592 : Goes p e below S0 (T591.setTop (mkF m 135 #[iv i0, iv i1, iv i2, iv i3, iv i4, iv (2 : Int32), iv (1 : Int32), iv mz, rv b479, rv ra_572, iv (nP1 i0 i1), rv b577, .unset] [(.ref ra_591)])) := fun t k => g590 t (st591.trans k)
    have g593 : Goes p e below S0 (T591.setTop (mkF m 139 #[iv i0, iv i1, iv i2, iv i3, iv i4, iv (2 : Int32), iv (1 : Int32), iv mz, rv b479, rv ra_572, iv (nP1 i0 i1), rv b577, rv ra_591] [(.ref ra_591)])) := fun t k => g592 t (by
      refine XS.astore X591.here hx rfl (hb hby at_135) rfl rfl (l' := #[iv i0, iv i1, iv i2, iv i3, iv i4, iv (2 : Int32), iv (1 : Int32), iv mz, rv b479, rv ra_572, iv (nP1 i0 i1), rv b577, rv ra_591]) rfl ?_
      show Go p e below t T591 m 137 #[iv i0, iv i1, iv i2, iv i3, iv i4, iv (2 : Int32), iv (1 : Int32), iv mz, rv b479, rv ra_572, iv (nP1 i0 i1), rv b577, rv ra_591] []
      refine XS.aload X591.here hx rfl (hb hby at_137) rfl rfl ?_
      show Go p e below t T591 m 139 #[iv i0, iv i1, iv i2, iv i3, iv i4, iv (2 : Int32), iv (1 : Int32), iv mz, rv b479, rv ra_572, iv (nP1 i0 i1), rv b577, rv ra_591] [(.ref ra_591)]
      exact k)
    obtain ⟨cl594, Ar594, q594, S594, M594, H594, G594⟩ := id R591_1
    have g595 : Goes p e below S0 (T591.setTop (mkF m 156 #[iv i0, iv i1, iv i2, iv i3, iv i4, iv (2 : Int32), iv (1 : Int32), iv mz, rv b479, rv ra_572, iv (nP1 i0 i1), rv b577, rv ra_591] [(.int (1 : Int32)), (.ref b479), (.int (0 : Int32)), (.ref ra_591)])) := fun t k => g593 t (by
      refine X591.arraylength hx Ar594.1 (State.isArrayOf_alike hZ.alike Ar594.2.1) (g := (mkF m 139 #[iv i0, iv i1, iv i2, iv i3, iv i4, iv (2 : Int32), iv (1 : Int32), iv mz, rv b479, rv ra_572, iv (nP1 i0 i1), rv b577, rv ra_591] [(.ref ra_591)])) rfl rfl (hb hby at_139) _ ?_
      rw [len_of S594 M594]
      show Go p e below t T591 m 140 #[iv i0, iv i1, iv i2, iv i3, iv i4, iv (2 : Int32), iv (1 : Int32), iv mz, rv b479, rv ra_572, iv (nP1 i0 i1), rv b577, rv ra_591] [(.int (1 : Int32))]
      refine XS.iload X591.here hx rfl (hb hby at_140) rfl ?_
      show Go p e below t T591 m 142 #[iv i0, iv i1, iv i2, iv i3, iv i4, iv (2 : Int32), iv (1 : Int32), iv mz, rv b479, rv ra_572, iv (nP1 i0 i1), rv b577, rv ra_591] [(.int (2 : Int32)), (.int (1 : Int32))]
      refine XT.iconstV X591.here hx rfl (1 : Int32) (hb hby at_142) (by decide) ?_
      show Go p e below t T591 m 143 #[iv i0, iv i1, iv i2, iv i3, iv i4, iv (2 : Int32), iv (1 : Int32), iv mz, rv b479, rv ra_572, iv (nP1 i0 i1), rv b577, rv ra_591] [(.int (1 : Int32)), (.int (2 : Int32)), (.int (1 : Int32))]
      refine XS.isub X591.here hx rfl (hb hby at_143) rfl ?_
      rw [show ((2 : Int32) - (1 : Int32)) = (1 : Int32) by decide]
      show Go p e below t T591 m 144 #[iv i0, iv i1, iv i2, iv i3, iv i4, iv (2 : Int32), iv (1 : Int32), iv mz, rv b479, rv ra_572, iv (nP1 i0 i1), rv b577, rv ra_591] [(.int (1 : Int32)), (.int (1 : Int32))]
      refine XS.icmpYes X591.here hx rfl (pc0 := 144) (pc' := 149) rfl (hb hby at_144) rfl (XT.ii_eq_t (by decide)) (by decide) (by decide) ?_
      show Go p e below t T591 m 149 #[iv i0, iv i1, iv i2, iv i3, iv i4, iv (2 : Int32), iv (1 : Int32), iv mz, rv b479, rv ra_572, iv (nP1 i0 i1), rv b577, rv ra_591] []
      refine XS.aload X591.here hx rfl (hb hby at_149) rfl rfl ?_
      show Go p e below t T591 m 151 #[iv i0, iv i1, iv i2, iv i3, iv i4, iv (2 : Int32), iv (1 : Int32), iv mz, rv b479, rv ra_572, iv (nP1 i0 i1), rv b577, rv ra_591] [(.ref ra_591)]
      refine XT.iconstV X591.here hx rfl (0 : Int32) (hb hby at_151) (by decide) ?_
      show Go p e below t T591 m 152 #[iv i0, iv i1, iv i2, iv i3, iv i4, iv (2 : Int32), iv (1 : Int32), iv mz, rv b479, rv ra_572, iv (nP1 i0 i1), rv b577, rv ra_591] [(.int (0 : Int32)), (.ref ra_591)]
      refine XS.aload X591.here hx rfl (hb hby at_152) rfl rfl ?_
      show Go p e below t T591 m 154 #[iv i0, iv i1, iv i2, iv i3, iv i4, iv (2 : Int32), iv (1 : Int32), iv mz, rv b479, rv ra_572, iv (nP1 i0 i1), rv b577, rv ra_591] [(.ref b479), (.int (0 : Int32)), (.ref ra_591)]
      refine XS.iload X591.here hx rfl (hb hby at_154) rfl ?_
      show Go p e below t T591 m 156 #[iv i0, iv i1, iv i2, iv i3, iv i4, iv (2 : Int32), iv (1 : Int32), iv mz, rv b479, rv ra_572, iv (nP1 i0 i1), rv b577, rv ra_591] [(.int (1 : Int32)), (.ref b479), (.int (0 : Int32)), (.ref ra_591)]
      exact k)
    obtain ⟨_, _, ⟨T596, L596, k596, n596⟩, -, X596, ⟨Lc596, hQ596, l596, y596, z596⟩, st596⟩ := Jvm.LawKit.callS X591 hx (y := (⟨"com/example/aristotle/aristotle/StepMadePinLaw", "check", "([II[II)Z"⟩ : MethodName)) hown (mvT hZ (hw _ (List.mem_of_getElem? (i := 36) rfl))) (mvT hZ (hw _ (List.mem_of_getElem? (i := 37) rfl))) (mvT hZ (hw _ (List.mem_of_getElem? (i := 5) rfl))) (mvT hZ (hw _ (List.mem_of_getElem? (i := 38) rfl))) (by decide) (backOf (W := 0) (rm_ck1 l Z a0 hw [] ra_591 (0 : Int32) b479 (1 : Int32) rk_591 (1 : Int32) [(.int (nP0 i0))] (.int (0 : Int32)) k479 (4 : Int32) [(.int (nP0 i0)), (.int (nP1 i0 i1)), (.int (nP2 i0 i1 i2)), (.int (nP3 i0 i1 i2 i3))] (.int (0 : Int32)) (nP0 i0) T591.heap n0 (Nat.le_trans Z0 (Nat.le_trans (Nat.le_trans (Nat.le_trans (Nat.le_trans (Nat.le_trans (Nat.le_trans (Nat.le_trans (Nat.le_trans (Nat.le_trans (Nat.le_trans (Nat.le_refl _) E479.1) (Nat.le_of_eq W483.size.symm)) (Nat.le_of_eq W489.size.symm)) (Nat.le_of_eq W495.size.symm)) (Nat.le_of_eq W501.size.symm)) R572_0.1) E577.1) E585.1) R588_0.1) R591_0.1)) R591_1 (((((V501.keep R572_0 nin0).ext E577).ext E585).keep R588_0 (ninS (Nat.ne_of_lt (Nat.lt_of_lt_of_le (V501.keep R572_0 nin0).lt (Nat.le_of_eq gb577.symm))) nin0)).keep R591_0 nin0) (by decide) (by decide) (by decide) (by decide) rfl rfl) hZ (hw _ (List.mem_of_getElem? (i := 38) rfl)) (hw _ (List.mem_of_getElem? (i := 5) rfl)) (by decide) (by decide)) (g := (mkF m 156 #[iv i0, iv i1, iv i2, iv i3, iv i4, iv (2 : Int32), iv (1 : Int32), iv mz, rv b479, rv ra_572, iv (nP1 i0 i1), rv b577, rv ra_591] [(.int (1 : Int32)), (.ref b479), (.int (0 : Int32)), (.ref ra_591)])) rfl (by rw [hml]; rfl) (argsL := [(.ref ra_591), (.int (0 : Int32)), (.ref b479), (.int (1 : Int32))]) (rest := []) (lenOf pd4 rfl) rfl (by show 2 * 0 + _ ≤ _; exact Nat.le_of_eq rfl) (hb hby at_156) (fun _ _ => ⟨rfl, rfl, (by decide : 5 + 0 ≤ _), (by decide : 12 + 0 ≤ _)⟩)
    dsimp only [Pt.U, Pt.locs, Pt.cells, Pt.slots] at X596 l596 y596 z596 st596 hQ596
    subst l596 y596 z596
    obtain ⟨rfl, N596, R596_0⟩ := hQ596
    have M596 := Fr.app M591 N596
    have g597 : Goes p e below S0 (T596.setTop (mkF m 159 #[iv i0, iv i1, iv i2, iv i3, iv i4, iv (2 : Int32), iv (1 : Int32), iv mz, rv b479, rv ra_572, iv (nP1 i0 i1), rv b577, rv ra_591] [(.int (1 : Int32))])) := fun t k => g595 t (st596 t k)
    have g598 : Goes p e below S0 (T596.setTop (mkF m 169 #[iv i0, iv i1, iv i2, iv i3, iv i4, iv (2 : Int32), iv (1 : Int32), iv mz, rv b479, rv ra_572, iv (nP1 i0 i1), rv b577, rv ra_591] [(.int (1 : Int32)), (.ref b479), (.int (1 : Int32)), (.ref ra_591)])) := fun t k => g597 t (by
      refine XS.ifNo X596.here hx rfl (hb hby at_159) rfl (XT.i0_eq_f (by decide)) ?_
      show Go p e below t T596 m 162 #[iv i0, iv i1, iv i2, iv i3, iv i4, iv (2 : Int32), iv (1 : Int32), iv mz, rv b479, rv ra_572, iv (nP1 i0 i1), rv b577, rv ra_591] []
      refine XS.aload X596.here hx rfl (hb hby at_162) rfl rfl ?_
      show Go p e below t T596 m 164 #[iv i0, iv i1, iv i2, iv i3, iv i4, iv (2 : Int32), iv (1 : Int32), iv mz, rv b479, rv ra_572, iv (nP1 i0 i1), rv b577, rv ra_591] [(.ref ra_591)]
      refine XT.iconstV X596.here hx rfl (1 : Int32) (hb hby at_164) (by decide) ?_
      show Go p e below t T596 m 165 #[iv i0, iv i1, iv i2, iv i3, iv i4, iv (2 : Int32), iv (1 : Int32), iv mz, rv b479, rv ra_572, iv (nP1 i0 i1), rv b577, rv ra_591] [(.int (1 : Int32)), (.ref ra_591)]
      refine XS.aload X596.here hx rfl (hb hby at_165) rfl rfl ?_
      show Go p e below t T596 m 167 #[iv i0, iv i1, iv i2, iv i3, iv i4, iv (2 : Int32), iv (1 : Int32), iv mz, rv b479, rv ra_572, iv (nP1 i0 i1), rv b577, rv ra_591] [(.ref b479), (.int (1 : Int32)), (.ref ra_591)]
      refine XS.iload X596.here hx rfl (hb hby at_167) rfl ?_
      show Go p e below t T596 m 169 #[iv i0, iv i1, iv i2, iv i3, iv i4, iv (2 : Int32), iv (1 : Int32), iv mz, rv b479, rv ra_572, iv (nP1 i0 i1), rv b577, rv ra_591] [(.int (1 : Int32)), (.ref b479), (.int (1 : Int32)), (.ref ra_591)]
      exact k)
    obtain ⟨_, _, ⟨T599, L599, k599, n599⟩, -, X599, ⟨Lc599, hQ599, l599, y599, z599⟩, st599⟩ := Jvm.LawKit.callS X596 hx (y := (⟨"com/example/aristotle/aristotle/StepMadePinLaw", "check", "([II[II)Z"⟩ : MethodName)) hown (mvT hZ (hw _ (List.mem_of_getElem? (i := 36) rfl))) (mvT hZ (hw _ (List.mem_of_getElem? (i := 37) rfl))) (mvT hZ (hw _ (List.mem_of_getElem? (i := 5) rfl))) (mvT hZ (hw _ (List.mem_of_getElem? (i := 38) rfl))) (by decide) (backOf (W := 0) (rm_ck0 l Z a0 hw [] ra_591 (1 : Int32) b479 (1 : Int32) rk_591 (1 : Int32) [(.int (nP0 i0))] (.int (0 : Int32)) T591.heap n0 (Nat.le_trans Z0 (Nat.le_trans (Nat.le_trans (Nat.le_trans (Nat.le_trans (Nat.le_trans (Nat.le_trans (Nat.le_trans (Nat.le_trans (Nat.le_trans (Nat.le_trans (Nat.le_refl _) E479.1) (Nat.le_of_eq W483.size.symm)) (Nat.le_of_eq W489.size.symm)) (Nat.le_of_eq W495.size.symm)) (Nat.le_of_eq W501.size.symm)) R572_0.1) E577.1) E585.1) R588_0.1) R591_0.1)) R591_1 (by decide)) hZ (hw _ (List.mem_of_getElem? (i := 38) rfl)) (hw _ (List.mem_of_getElem? (i := 5) rfl)) (by decide) (by decide)) (g := (mkF m 169 #[iv i0, iv i1, iv i2, iv i3, iv i4, iv (2 : Int32), iv (1 : Int32), iv mz, rv b479, rv ra_572, iv (nP1 i0 i1), rv b577, rv ra_591] [(.int (1 : Int32)), (.ref b479), (.int (1 : Int32)), (.ref ra_591)])) rfl (by rw [hml]; rfl) (argsL := [(.ref ra_591), (.int (1 : Int32)), (.ref b479), (.int (1 : Int32))]) (rest := []) (lenOf pd4 rfl) rfl (by show 2 * 0 + _ ≤ _; exact Nat.le_of_eq rfl) (hb hby at_169) (fun _ _ => ⟨rfl, R596_0, (by decide : 5 + 0 ≤ _), (by decide : 12 + 0 ≤ _)⟩)
    dsimp only [Pt.U, Pt.locs, Pt.cells, Pt.slots] at X599 l599 y599 z599 st599 hQ599
    subst l599 y599 z599
    obtain ⟨rfl, N599, R599_0⟩ := hQ599
    have M599 := Fr.app M596 N599
    have g600 : Goes p e below S0 (T599.setTop (mkF m 172 #[iv i0, iv i1, iv i2, iv i3, iv i4, iv (2 : Int32), iv (1 : Int32), iv mz, rv b479, rv ra_572, iv (nP1 i0 i1), rv b577, rv ra_591] [(.int (1 : Int32))])) := fun t k => g598 t (st599 t k)
    have g601 : Goes p e below S0 (T599.setTop (mkF m 182 #[iv i0, iv i1, iv i2, iv i3, iv i4, iv (2 : Int32), iv (1 : Int32), iv mz, rv b479, rv ra_572, iv (nP1 i0 i1), rv b577, rv ra_591] [(.int (1 : Int32)), (.ref b479), (.int (2 : Int32)), (.ref ra_591)])) := fun t k => g600 t (by
      refine XS.ifNo X599.here hx rfl (hb hby at_172) rfl (XT.i0_eq_f (by decide)) ?_
      show Go p e below t T599 m 175 #[iv i0, iv i1, iv i2, iv i3, iv i4, iv (2 : Int32), iv (1 : Int32), iv mz, rv b479, rv ra_572, iv (nP1 i0 i1), rv b577, rv ra_591] []
      refine XS.aload X599.here hx rfl (hb hby at_175) rfl rfl ?_
      show Go p e below t T599 m 177 #[iv i0, iv i1, iv i2, iv i3, iv i4, iv (2 : Int32), iv (1 : Int32), iv mz, rv b479, rv ra_572, iv (nP1 i0 i1), rv b577, rv ra_591] [(.ref ra_591)]
      refine XT.iconstV X599.here hx rfl (2 : Int32) (hb hby at_177) (by decide) ?_
      show Go p e below t T599 m 178 #[iv i0, iv i1, iv i2, iv i3, iv i4, iv (2 : Int32), iv (1 : Int32), iv mz, rv b479, rv ra_572, iv (nP1 i0 i1), rv b577, rv ra_591] [(.int (2 : Int32)), (.ref ra_591)]
      refine XS.aload X599.here hx rfl (hb hby at_178) rfl rfl ?_
      show Go p e below t T599 m 180 #[iv i0, iv i1, iv i2, iv i3, iv i4, iv (2 : Int32), iv (1 : Int32), iv mz, rv b479, rv ra_572, iv (nP1 i0 i1), rv b577, rv ra_591] [(.ref b479), (.int (2 : Int32)), (.ref ra_591)]
      refine XS.iload X599.here hx rfl (hb hby at_180) rfl ?_
      show Go p e below t T599 m 182 #[iv i0, iv i1, iv i2, iv i3, iv i4, iv (2 : Int32), iv (1 : Int32), iv mz, rv b479, rv ra_572, iv (nP1 i0 i1), rv b577, rv ra_591] [(.int (1 : Int32)), (.ref b479), (.int (2 : Int32)), (.ref ra_591)]
      exact k)
    obtain ⟨_, _, ⟨T602, L602, k602, n602⟩, -, X602, ⟨Lc602, hQ602, l602, y602, z602⟩, st602⟩ := Jvm.LawKit.callS X599 hx (y := (⟨"com/example/aristotle/aristotle/StepMadePinLaw", "check", "([II[II)Z"⟩ : MethodName)) hown (mvT hZ (hw _ (List.mem_of_getElem? (i := 36) rfl))) (mvT hZ (hw _ (List.mem_of_getElem? (i := 37) rfl))) (mvT hZ (hw _ (List.mem_of_getElem? (i := 5) rfl))) (mvT hZ (hw _ (List.mem_of_getElem? (i := 38) rfl))) (by decide) (backOf (W := 0) (rm_ck0 l Z a0 hw [] ra_591 (2 : Int32) b479 (1 : Int32) rk_591 (1 : Int32) [(.int (nP0 i0))] (.int (0 : Int32)) T591.heap n0 (Nat.le_trans Z0 (Nat.le_trans (Nat.le_trans (Nat.le_trans (Nat.le_trans (Nat.le_trans (Nat.le_trans (Nat.le_trans (Nat.le_trans (Nat.le_trans (Nat.le_trans (Nat.le_refl _) E479.1) (Nat.le_of_eq W483.size.symm)) (Nat.le_of_eq W489.size.symm)) (Nat.le_of_eq W495.size.symm)) (Nat.le_of_eq W501.size.symm)) R572_0.1) E577.1) E585.1) R588_0.1) R591_0.1)) R591_1 (by decide)) hZ (hw _ (List.mem_of_getElem? (i := 38) rfl)) (hw _ (List.mem_of_getElem? (i := 5) rfl)) (by decide) (by decide)) (g := (mkF m 182 #[iv i0, iv i1, iv i2, iv i3, iv i4, iv (2 : Int32), iv (1 : Int32), iv mz, rv b479, rv ra_572, iv (nP1 i0 i1), rv b577, rv ra_591] [(.int (1 : Int32)), (.ref b479), (.int (2 : Int32)), (.ref ra_591)])) rfl (by rw [hml]; rfl) (argsL := [(.ref ra_591), (.int (2 : Int32)), (.ref b479), (.int (1 : Int32))]) (rest := []) (lenOf pd4 rfl) rfl (by show 2 * 0 + _ ≤ _; exact Nat.le_of_eq rfl) (hb hby at_182) (fun _ _ => ⟨rfl, R599_0, (by decide : 5 + 0 ≤ _), (by decide : 12 + 0 ≤ _)⟩)
    dsimp only [Pt.U, Pt.locs, Pt.cells, Pt.slots] at X602 l602 y602 z602 st602 hQ602
    subst l602 y602 z602
    obtain ⟨rfl, N602, R602_0⟩ := hQ602
    have M602 := Fr.app M599 N602
    have g603 : Goes p e below S0 (T602.setTop (mkF m 185 #[iv i0, iv i1, iv i2, iv i3, iv i4, iv (2 : Int32), iv (1 : Int32), iv mz, rv b479, rv ra_572, iv (nP1 i0 i1), rv b577, rv ra_591] [(.int (1 : Int32))])) := fun t k => g601 t (st602 t k)
    have g604 : Goes p e below S0 (T602.setTop (mkF m 193 #[iv i0, iv i1, iv i2, iv i3, iv i4, iv (2 : Int32), iv (1 : Int32), iv mz, rv b479, rv ra_572, iv (nP1 i0 i1), rv b577, rv ra_591] [(.int (1 : Int32))])) := fun t k => g603 t (by
      refine XS.ifNo X602.here hx rfl (hb hby at_185) rfl (XT.i0_eq_f (by decide)) ?_
      show Go p e below t T602 m 188 #[iv i0, iv i1, iv i2, iv i3, iv i4, iv (2 : Int32), iv (1 : Int32), iv mz, rv b479, rv ra_572, iv (nP1 i0 i1), rv b577, rv ra_591] []
      refine XT.iconstV X602.here hx rfl (1 : Int32) (hb hby at_188) (by decide) ?_
      show Go p e below t T602 m 189 #[iv i0, iv i1, iv i2, iv i3, iv i4, iv (2 : Int32), iv (1 : Int32), iv mz, rv b479, rv ra_572, iv (nP1 i0 i1), rv b577, rv ra_591] [(.int (1 : Int32))]
      refine XS.goto X602.here hx rfl (pc0 := 189) (pc' := 193) rfl (hb hby at_189) (by decide) (by decide) ?_
      show Go p e below t T602 m 193 #[iv i0, iv i1, iv i2, iv i3, iv i4, iv (2 : Int32), iv (1 : Int32), iv mz, rv b479, rv ra_572, iv (nP1 i0 i1), rv b577, rv ra_591] [(.int (1 : Int32))]
      exact k)
    obtain ⟨fs, hr, hrun, hended, hW, hsame⟩ := X602.leave (v := some (.int (1 : Int32))) (fun h => by rw [Bd.returns] at h; cases h)
    refine ⟨_, _, g604 _ (retN X602 hx (t := .boolean) Bd.returns (by simp) (hb hby at_193) hr), hrun, hended, _, _, rfl, ?_, ⟨_, rfl⟩, hW, hsame.mono (by decide) (by decide)⟩
    show Q_law Z i0 i1 i2 i3 i4  h0 n0 _ T602.heap _
    rw [R602_0]
    exact ⟨rfl, M602⟩
  · skip
    have g605 : Goes p e below S0 (T501.setTop (mkF m 97 #[iv i0, iv i1, iv i2, iv i3, iv i4, iv (3 : Int32), iv (0 : Int32), iv mz, rv b479, .unset, .unset, .unset, .unset] [(.int (3 : Int32)), (.ref b479)])) := fun t k => g502 t (by
      refine XS.aload X501.here hx rfl (hb hby at_93) rfl rfl ?_
      show Go p e below t T501 m 95 #[iv i0, iv i1, iv i2, iv i3, iv i4, iv (3 : Int32), iv (0 : Int32), iv mz, rv b479, .unset, .unset, .unset, .unset] [(.ref b479)]
      refine XS.iload X501.here hx rfl (hb hby at_95) rfl ?_
      show Go p e below t T501 m 97 #[iv i0, iv i1, iv i2, iv i3, iv i4, iv (3 : Int32), iv (0 : Int32), iv mz, rv b479, .unset, .unset, .unset, .unset] [(.int (3 : Int32)), (.ref b479)]
      exact k)
    obtain ⟨_, _, ⟨T606, L606, k606, n606⟩, -, X606, ⟨Lc606, hQ606, l606, y606, z606⟩, st606⟩ := Jvm.LawKit.callS X501 hx (y := (⟨"com/example/aristotle/aristotle/StepMadePinLaw", "prefix", "([II)[I"⟩ : MethodName)) hown (mvT hZ (hw _ (List.mem_of_getElem? (i := 3) rfl))) (mvT hZ (hw _ (List.mem_of_getElem? (i := 4) rfl))) (mvT hZ (hw _ (List.mem_of_getElem? (i := 5) rfl))) (mvT hZ (hw _ (List.mem_of_getElem? (i := 6) rfl))) (by decide) (backOf (W := 0) (rm_pr3 l Z a0 hw [] b479 (3 : Int32) k479 (nP0 i0) (nP1 i0 i1) (nP2 i0 i1 i2) (nP3 i0 i1 i2 i3) h501 n0 (Nat.le_trans Z0 (Nat.le_trans (Nat.le_trans (Nat.le_trans (Nat.le_trans (Nat.le_trans (Nat.le_refl _) E479.1) (Nat.le_of_eq W483.size.symm)) (Nat.le_of_eq W489.size.symm)) (Nat.le_of_eq W495.size.symm)) (Nat.le_of_eq W501.size.symm))) V501 rfl) hZ (hw _ (List.mem_of_getElem? (i := 6) rfl)) (hw _ (List.mem_of_getElem? (i := 5) rfl)) (by decide) (by decide)) (g := (mkF m 97 #[iv i0, iv i1, iv i2, iv i3, iv i4, iv (3 : Int32), iv (0 : Int32), iv mz, rv b479, .unset, .unset, .unset, .unset] [(.int (3 : Int32)), (.ref b479)])) rfl (by rw [hml]; rfl) (argsL := [(.ref b479), (.int (3 : Int32))]) (rest := []) (lenOf pd2 rfl) rfl (by show 2 * 0 + _ ≤ _; exact Nat.le_of_eq rfl) (hb hby at_97) (fun _ _ => ⟨rfl, e501, (by decide : 1 + 1 ≤ _), (by decide : 4 + 3 ≤ _)⟩)
    dsimp only [Pt.U, Pt.locs, Pt.cells, Pt.slots] at X606 l606 y606 z606 st606 hQ606
    subst l606 y606 z606
    obtain ⟨ra_606, rk_606, rfl, N606, R606_0, R606_1, R606_2⟩ := hQ606
    have M606 := Fr.app N501 N606
    have sz606_2 : h0.size ≤ ra_606 := Nat.le_trans (Nat.le_trans (Nat.le_trans (Nat.le_trans (Nat.le_trans (Nat.le_trans (Nat.le_refl _) E479.1) (Nat.le_of_eq W483.size.symm)) (Nat.le_of_eq W489.size.symm)) (Nat.le_of_eq W495.size.symm)) (Nat.le_of_eq W501.size.symm)) R606_2
    have ng606_2 : n0 ≤ ra_606 := Nat.le_trans Z0 sz606_2
    have g607 : Goes p e below S0 (T606.setTop (mkF m 100 #[iv i0, iv i1, iv i2, iv i3, iv i4, iv (3 : Int32), iv (0 : Int32), iv mz, rv b479, .unset, .unset, .unset, .unset] [(.ref ra_606)])) := fun t k => g605 t (st606 t k)
    have g608 : Goes p e below S0 (T606.setTop (mkF m 106 #[iv i0, iv i1, iv i2, iv i3, iv i4, iv (3 : Int32), iv (0 : Int32), iv mz, rv b479, rv ra_606, .unset, .unset, .unset] [(.int (0 : Int32)), (.ref b479)])) := fun t k => g607 t (by
      refine XS.astore X606.here hx rfl (hb hby at_100) rfl rfl (l' := #[iv i0, iv i1, iv i2, iv i3, iv i4, iv (3 : Int32), iv (0 : Int32), iv mz, rv b479, rv ra_606, .unset, .unset, .unset]) rfl ?_
      show Go p e below t T606 m 102 #[iv i0, iv i1, iv i2, iv i3, iv i4, iv (3 : Int32), iv (0 : Int32), iv mz, rv b479, rv ra_606, .unset, .unset, .unset] []
      refine XS.aload X606.here hx rfl (hb hby at_102) rfl rfl ?_
      show Go p e below t T606 m 104 #[iv i0, iv i1, iv i2, iv i3, iv i4, iv (3 : Int32), iv (0 : Int32), iv mz, rv b479, rv ra_606, .unset, .unset, .unset] [(.ref b479)]
      refine XS.iload X606.here hx rfl (hb hby at_104) rfl ?_
      show Go p e below t T606 m 106 #[iv i0, iv i1, iv i2, iv i3, iv i4, iv (3 : Int32), iv (0 : Int32), iv mz, rv b479, rv ra_606, .unset, .unset, .unset] [(.int (0 : Int32)), (.ref b479)]
      exact k)
    obtain ⟨cl609, Ar609, q609, S609, M609, H609, G609⟩ := id (V501.keep R606_0 nin0)
    have g610 : Goes p e below S0 (T606.setTop (mkF m 109 #[iv i0, iv i1, iv i2, iv i3, iv i4, iv (3 : Int32), iv (0 : Int32), iv mz, rv b479, rv ra_606, iv (nP0 i0), .unset, .unset] [])) := fun t k => g608 t (by
      refine X606.iaload hx (j := (0 : Int32)) (v := (.int (nP0 i0))) Ar609.1 (State.isArrayOf_alike hZ.alike Ar609.2.1) Ar609.2.2 (inb_of S609 ⟨by decide, by decide⟩) (H609.at (inb_of S609 ⟨by decide, by decide⟩) rfl) (g := (mkF m 106 #[iv i0, iv i1, iv i2, iv i3, iv i4, iv (3 : Int32), iv (0 : Int32), iv mz, rv b479, rv ra_606, .unset, .unset, .unset] [(.int (0 : Int32)), (.ref b479)])) rfl rfl (hb hby at_106) _ ?_
      show Go p e below t T606 m 107 #[iv i0, iv i1, iv i2, iv i3, iv i4, iv (3 : Int32), iv (0 : Int32), iv mz, rv b479, rv ra_606, .unset, .unset, .unset] [(.int (nP0 i0))]
      refine XS.istore X606.here hx rfl (hb hby at_107) rfl (l' := #[iv i0, iv i1, iv i2, iv i3, iv i4, iv (3 : Int32), iv (0 : Int32), iv mz, rv b479, rv ra_606, iv (nP0 i0), .unset, .unset]) rfl ?_
      show Go p e below t T606 m 109 #[iv i0, iv i1, iv i2, iv i3, iv i4, iv (3 : Int32), iv (0 : Int32), iv mz, rv b479, rv ra_606, iv (nP0 i0), .unset, .unset] []
      exact k)
    obtain ⟨T611, h611, X611, e611, E611, A611, D611, -, st611⟩ := newO X606 hx hZ hown (hw _ (List.mem_of_getElem? (i := 7) rfl)) (hw _ (List.mem_of_getElem? (i := 8) rfl)) (hw _ (List.mem_of_getElem? (i := 9) rfl)) rfl (g := (mkF m 109 #[iv i0, iv i1, iv i2, iv i3, iv i4, iv (3 : Int32), iv (0 : Int32), iv mz, rv b479, rv ra_606, iv (nP0 i0), .unset, .unset] [])) rfl (hb hby at_109) (by decide) (by decide)
    obtain ⟨b611, gb611⟩ : ∃ z, z = T606.heap.size := ⟨_, rfl⟩
    have sz611 : h0.size ≤ b611 := Nat.le_trans (Nat.le_trans (Nat.le_trans (Nat.le_trans (Nat.le_trans (Nat.le_trans (Nat.le_trans (Nat.le_refl _) E479.1) (Nat.le_of_eq W483.size.symm)) (Nat.le_of_eq W489.size.symm)) (Nat.le_of_eq W495.size.symm)) (Nat.le_of_eq W501.size.symm)) R606_0.1) (Nat.le_of_eq gb611.symm)
    have ng611 : n0 ≤ b611 := Nat.le_trans Z0 sz611
    rw [← gb611] at A611 D611 st611
    have F611_612 : Fld Z h611 b611 "com/example/aristotle/aristotle/EliminationPlan$Step" "variable" "I" (.int (0 : Int32)) := D611 (Or.inr (hw _ (List.mem_of_getElem? (i := 22) rfl))) (ty := .int) (by decide)
    have F611_613 : Fld Z h611 b611 "com/example/aristotle/aristotle/EliminationPlan$Step" "tables" "[I" .null := D611 (Or.inr (hw _ (List.mem_of_getElem? (i := 24) rfl))) (ty := (.array .int)) (by decide)
    have F611_614 : Fld Z h611 b611 "com/example/aristotle/aristotle/EliminationPlan$Step" "product" "[I" .null := D611 (Or.inr (hw _ (List.mem_of_getElem? (i := 26) rfl))) (ty := (.array .int)) (by decide)
    have F611_615 : Fld Z h611 b611 "com/example/aristotle/aristotle/EliminationPlan$Step" "entries" "D" (.double (0 : UInt64)) := D611 (Or.inr (hw _ (List.mem_of_getElem? (i := 28) rfl))) (ty := .double) (by decide)
    have F611_616 : Fld Z h611 b611 "com/example/aristotle/aristotle/EliminationPlan$Step" "makes" "Z" (.int (0 : Int32)) := D611 (Or.inr (hw _ (List.mem_of_getElem? (i := 30) rfl))) (ty := .boolean) (by decide)
    have g617 : Goes p e below S0 (T611.setTop (mkF m 112 #[iv i0, iv i1, iv i2, iv i3, iv i4, iv (3 : Int32), iv (0 : Int32), iv mz, rv b479, rv ra_606, iv (nP0 i0), .unset, .unset] [(.ref b611)])) := fun t k => g610 t (st611 t k)
    have g618 : Goes p e below S0 (T611.setTop (mkF m 116 #[iv i0, iv i1, iv i2, iv i3, iv i4, iv (3 : Int32), iv (0 : Int32), iv mz, rv b479, rv ra_606, iv (nP0 i0), .unset, .unset] [(.int (0 : Int32)), (.int (nP0 i0)), (.ref b611), (.ref b611)])) := fun t k => g617 t (by
      refine XS.dup X611.here hx rfl (hb hby at_112) rfl rfl ?_
      show Go p e below t T611 m 113 #[iv i0, iv i1, iv i2, iv i3, iv i4, iv (3 : Int32), iv (0 : Int32), iv mz, rv b479, rv ra_606, iv (nP0 i0), .unset, .unset] [(.ref b611), (.ref b611)]
      refine XS.iload X611.here hx rfl (hb hby at_113) rfl ?_
      show Go p e below t T611 m 115 #[iv i0, iv i1, iv i2, iv i3, iv i4, iv (3 : Int32), iv (0 : Int32), iv mz, rv b479, rv ra_606, iv (nP0 i0), .unset, .unset] [(.int (nP0 i0)), (.ref b611), (.ref b611)]
      refine XT.iconstV X611.here hx rfl (0 : Int32) (hb hby at_115) (by decide) ?_
      show Go p e below t T611 m 116 #[iv i0, iv i1, iv i2, iv i3, iv i4, iv (3 : Int32), iv (0 : Int32), iv mz, rv b479, rv ra_606, iv (nP0 i0), .unset, .unset] [(.int (0 : Int32)), (.int (nP0 i0)), (.ref b611), (.ref b611)]
      exact k)
    obtain ⟨T619, h619, k619, X619, e619, E619, A619, st619⟩ := newP X611 hx hZ (hw _ (List.mem_of_getElem? (i := 1) rfl)) e611 (g := (mkF m 116 #[iv i0, iv i1, iv i2, iv i3, iv i4, iv (3 : Int32), iv (0 : Int32), iv mz, rv b479, rv ra_606, iv (nP0 i0), .unset, .unset] [(.int (0 : Int32)), (.int (nP0 i0)), (.ref b611), (.ref b611)])) rfl (hb hby at_116) rfl (by decide) (cap := 0) (by decide) (by decide) (by decide) (by decide)
    obtain ⟨b619, gb619⟩ : ∃ z, z = h611.size := ⟨_, rfl⟩
    have sz619 : h0.size ≤ b619 := Nat.le_trans (Nat.le_trans (Nat.le_trans (Nat.le_trans (Nat.le_trans (Nat.le_trans (Nat.le_trans (Nat.le_trans (Nat.le_refl _) E479.1) (Nat.le_of_eq W483.size.symm)) (Nat.le_of_eq W489.size.symm)) (Nat.le_of_eq W495.size.symm)) (Nat.le_of_eq W501.size.symm)) R606_0.1) E611.1) (Nat.le_of_eq gb619.symm)
    have ng619 : n0 ≤ b619 := Nat.le_trans Z0 sz619
    rw [← gb619] at A619 st619
    have V619 : Arv Z h619 b619 k619 .int (0 : Int32) [] (.int (0 : Int32)) := (Arv.new A619 (by decide)).pad (pad_rep [] (.int (0 : Int32)) 0)
    have g620 : Goes p e below S0 (T619.setTop (mkF m 118 #[iv i0, iv i1, iv i2, iv i3, iv i4, iv (3 : Int32), iv (0 : Int32), iv mz, rv b479, rv ra_606, iv (nP0 i0), .unset, .unset] [(.ref b619), (.int (nP0 i0)), (.ref b611), (.ref b611)])) := fun t k => g618 t (st619 t k)
    have g621 : Goes p e below S0 (T619.setTop (mkF m 125 #[iv i0, iv i1, iv i2, iv i3, iv i4, iv (3 : Int32), iv (0 : Int32), iv mz, rv b479, rv ra_606, iv (nP0 i0), .unset, .unset] [(.int mz), (.double (FP.i2d (3 : Int32))), (.ref ra_606), (.ref b619), (.int (nP0 i0)), (.ref b611), (.ref b611)])) := fun t k => g620 t (by
      refine XS.aload X619.here hx rfl (hb hby at_118) rfl rfl ?_
      show Go p e below t T619 m 120 #[iv i0, iv i1, iv i2, iv i3, iv i4, iv (3 : Int32), iv (0 : Int32), iv mz, rv b479, rv ra_606, iv (nP0 i0), .unset, .unset] [(.ref ra_606), (.ref b619), (.int (nP0 i0)), (.ref b611), (.ref b611)]
      refine XS.iload X619.here hx rfl (hb hby at_120) rfl ?_
      show Go p e below t T619 m 122 #[iv i0, iv i1, iv i2, iv i3, iv i4, iv (3 : Int32), iv (0 : Int32), iv mz, rv b479, rv ra_606, iv (nP0 i0), .unset, .unset] [(.int (3 : Int32)), (.ref ra_606), (.ref b619), (.int (nP0 i0)), (.ref b611), (.ref b611)]
      refine XS.i2dS X619.here hx rfl (hb hby at_122) rfl rfl ?_
      show Go p e below t T619 m 123 #[iv i0, iv i1, iv i2, iv i3, iv i4, iv (3 : Int32), iv (0 : Int32), iv mz, rv b479, rv ra_606, iv (nP0 i0), .unset, .unset] [(.double (FP.i2d (3 : Int32))), (.ref ra_606), (.ref b619), (.int (nP0 i0)), (.ref b611), (.ref b611)]
      refine XS.iload X619.here hx rfl (hb hby at_123) rfl ?_
      show Go p e below t T619 m 125 #[iv i0, iv i1, iv i2, iv i3, iv i4, iv (3 : Int32), iv (0 : Int32), iv mz, rv b479, rv ra_606, iv (nP0 i0), .unset, .unset] [(.int mz), (.double (FP.i2d (3 : Int32))), (.ref ra_606), (.ref b619), (.int (nP0 i0)), (.ref b611), (.ref b611)]
      exact k)
    obtain ⟨_, _, ⟨T622, L622, k622, n622⟩, -, X622, ⟨Lc622, hQ622, l622, y622, z622⟩, st622⟩ := X619.specialBack hx (y := (⟨"com/example/aristotle/aristotle/EliminationPlan$Step", "<init>", "(I[I[IDZ)V"⟩ : MethodName)) rfl hown (mvT hZ (hw _ (List.mem_of_getElem? (i := 10) rfl))) (mvT hZ (hw _ (List.mem_of_getElem? (i := 11) rfl))) (mvT hZ (hw _ (List.mem_of_getElem? (i := 12) rfl))) (by decide) (backOf (W := 1) (rm_ini l Z a0 hw [] b611 (nP0 i0) b619 ra_606 (FP.i2d (3 : Int32)) mz  h619 n0 (Nat.le_trans Z0 (Nat.le_trans (Nat.le_trans (Nat.le_trans (Nat.le_trans (Nat.le_trans (Nat.le_trans (Nat.le_trans (Nat.le_trans (Nat.le_refl _) E479.1) (Nat.le_of_eq W483.size.symm)) (Nat.le_of_eq W489.size.symm)) (Nat.le_of_eq W495.size.symm)) (Nat.le_of_eq W501.size.symm)) R606_0.1) E611.1) E619.1)) (A611.ext E619) ng611 (F611_612.ext E619) (F611_613.ext E619) (F611_614.ext E619) (F611_615.ext E619) (F611_616.ext E619)) hZ (hw _ (List.mem_of_getElem? (i := 12) rfl)) (hw _ (List.mem_of_getElem? (i := 9) rfl)) (by decide) (by decide)) (g := (mkF m 125 #[iv i0, iv i1, iv i2, iv i3, iv i4, iv (3 : Int32), iv (0 : Int32), iv mz, rv b479, rv ra_606, iv (nP0 i0), .unset, .unset] [(.int mz), (.double (FP.i2d (3 : Int32))), (.ref ra_606), (.ref b619), (.int (nP0 i0)), (.ref b611), (.ref b611)])) rfl (by rw [hml]; rfl) (Steps.refl _) (a := b611) (argsL := [(.int (nP0 i0)), (.ref b619), (.ref ra_606), (.double (FP.i2d (3 : Int32))), (.int mz)]) (rest := [(.ref b611)]) (lenOf pd1 rfl) rfl (by show 2 * 0 + _ ≤ _; exact Nat.le_of_eq rfl) (hb hby at_125) (fun _ _ => ⟨rfl, e619, (by decide : 4 + 0 ≤ _), (by decide : 12 + 0 ≤ _)⟩)
    dsimp only [Pt.U, Pt.locs, Pt.cells, Pt.slots] at X622 l622 y622 z622 st622 hQ622
    subst l622 y622 z622
    obtain ⟨rfl, N622, R622_0, R622_1, R622_2, R622_3, R622_4, R622_5, R622_6⟩ := hQ622
    have M622 := Fr.app M606 N622
    have g623 : Goes p e below S0 (T622.setTop (mkF m 128 #[iv i0, iv i1, iv i2, iv i3, iv i4, iv (3 : Int32), iv (0 : Int32), iv mz, rv b479, rv ra_606, iv (nP0 i0), .unset, .unset] [(.ref b611)])) := fun t k => g621 t (st622.trans k)
    have g624 : Goes p e below S0 (T622.setTop (mkF m 132 #[iv i0, iv i1, iv i2, iv i3, iv i4, iv (3 : Int32), iv (0 : Int32), iv mz, rv b479, rv ra_606, iv (nP0 i0), rv b611, .unset] [(.ref b611)])) := fun t k => g623 t (by
      refine XS.astore X622.here hx rfl (hb hby at_128) rfl rfl (l' := #[iv i0, iv i1, iv i2, iv i3, iv i4, iv (3 : Int32), iv (0 : Int32), iv mz, rv b479, rv ra_606, iv (nP0 i0), rv b611, .unset]) rfl ?_
      show Go p e below t T622 m 130 #[iv i0, iv i1, iv i2, iv i3, iv i4, iv (3 : Int32), iv (0 : Int32), iv mz, rv b479, rv ra_606, iv (nP0 i0), rv b611, .unset] []
      refine XS.aload X622.here hx rfl (hb hby at_130) rfl rfl ?_
      show Go p e below t T622 m 132 #[iv i0, iv i1, iv i2, iv i3, iv i4, iv (3 : Int32), iv (0 : Int32), iv mz, rv b479, rv ra_606, iv (nP0 i0), rv b611, .unset] [(.ref b611)]
      exact k)
    obtain ⟨cq625, kq625, q625a, q625b, q625c⟩ := isOf hZ rfl R622_1
    obtain ⟨_, _, ⟨T625, L625, k625, n625⟩, -, X625, ⟨Lc625, hQ625, l625, y625, z625⟩, st625⟩ := X622.virtualBack hx (y := (⟨"com/example/aristotle/aristotle/EliminationPlan$Step", "made", "()[I"⟩ : MethodName)) (z := (⟨"com/example/aristotle/aristotle/EliminationPlan$Step", "made", "()[I"⟩ : MethodName)) hown (mvT hZ (hw _ (List.mem_of_getElem? (i := 31) rfl))) (mvT hZ (hw _ (List.mem_of_getElem? (i := 32) rfl))) (notFace_of_selects (args := #[]) (mvT hZ (hw _ (List.mem_of_getElem? (i := 34) rfl)))) (mvT hZ (hw _ (List.mem_of_getElem? (i := 34) rfl))) (mvT hZ (hw _ (List.mem_of_getElem? (i := 33) rfl))) (by decide) (backOf (W := 0) (rm_md30 l Z a0 hw [] b611 ra_606 rk_606 (nP0 i0) (nP1 i0 i1) (nP2 i0 i1 i2) T622.heap n0 (Nat.le_trans Z0 (Nat.le_trans (Nat.le_trans (Nat.le_trans (Nat.le_trans (Nat.le_trans (Nat.le_trans (Nat.le_trans (Nat.le_trans (Nat.le_trans (Nat.le_refl _) E479.1) (Nat.le_of_eq W483.size.symm)) (Nat.le_of_eq W489.size.symm)) (Nat.le_of_eq W495.size.symm)) (Nat.le_of_eq W501.size.symm)) R606_0.1) E611.1) E619.1) R622_0.1)) R622_4 R622_2 (((R606_1.ext E611).ext E619).keep R622_0 (ninS (Nat.ne_of_lt (Nat.lt_of_lt_of_le R606_1.lt (Nat.le_of_eq gb611.symm))) nin0)) (own_ne10 i0 i1 i2 i3) (own_ne20 i0 i1 i2 i3)) hZ (hw _ (List.mem_of_getElem? (i := 35) rfl)) (hw _ (List.mem_of_getElem? (i := 9) rfl)) (by decide) (by decide)) q625a q625c (g := (mkF m 132 #[iv i0, iv i1, iv i2, iv i3, iv i4, iv (3 : Int32), iv (0 : Int32), iv mz, rv b479, rv ra_606, iv (nP0 i0), rv b611, .unset] [(.ref b611)])) rfl (by rw [hml]; rfl) (Steps.refl _) (argsL := []) (rest := []) (lenOf pd3 rfl) rfl (by show 2 * 0 + _ ≤ _; exact Nat.le_of_eq rfl) (hb hby at_132) (fun _ _ => ⟨rfl, rfl, (by decide : 4 + 1 ≤ _), (by decide : 12 + 2 ≤ _)⟩)
    dsimp only [Pt.U, Pt.locs, Pt.cells, Pt.slots] at X625 l625 y625 z625 st625 hQ625
    subst l625 y625 z625
    obtain ⟨ra_625, rk_625, rfl, N625, R625_0, R625_1, R625_2⟩ := hQ625
    have M625 := Fr.app M622 N625
    have sz625_2 : h0.size ≤ ra_625 := Nat.le_trans (Nat.le_trans (Nat.le_trans (Nat.le_trans (Nat.le_trans (Nat.le_trans (Nat.le_trans (Nat.le_trans (Nat.le_trans (Nat.le_trans (Nat.le_refl _) E479.1) (Nat.le_of_eq W483.size.symm)) (Nat.le_of_eq W489.size.symm)) (Nat.le_of_eq W495.size.symm)) (Nat.le_of_eq W501.size.symm)) R606_0.1) E611.1) E619.1) R622_0.1) R625_2
    have ng625_2 : n0 ≤ ra_625 := Nat.le_trans Z0 sz625_2
    have g626 : Goes p e below S0 (T625.setTop (mkF m 135 #[iv i0, iv i1, iv i2, iv i3, iv i4, iv (3 : Int32), iv (0 : Int32), iv mz, rv b479, rv ra_606, iv (nP0 i0), rv b611, .unset] [(.ref ra_625)])) := fun t k => g624 t (st625.trans k)
    have g627 : Goes p e below S0 (T625.setTop (mkF m 139 #[iv i0, iv i1, iv i2, iv i3, iv i4, iv (3 : Int32), iv (0 : Int32), iv mz, rv b479, rv ra_606, iv (nP0 i0), rv b611, rv ra_625] [(.ref ra_625)])) := fun t k => g626 t (by
      refine XS.astore X625.here hx rfl (hb hby at_135) rfl rfl (l' := #[iv i0, iv i1, iv i2, iv i3, iv i4, iv (3 : Int32), iv (0 : Int32), iv mz, rv b479, rv ra_606, iv (nP0 i0), rv b611, rv ra_625]) rfl ?_
      show Go p e below t T625 m 137 #[iv i0, iv i1, iv i2, iv i3, iv i4, iv (3 : Int32), iv (0 : Int32), iv mz, rv b479, rv ra_606, iv (nP0 i0), rv b611, rv ra_625] []
      refine XS.aload X625.here hx rfl (hb hby at_137) rfl rfl ?_
      show Go p e below t T625 m 139 #[iv i0, iv i1, iv i2, iv i3, iv i4, iv (3 : Int32), iv (0 : Int32), iv mz, rv b479, rv ra_606, iv (nP0 i0), rv b611, rv ra_625] [(.ref ra_625)]
      exact k)
    obtain ⟨cl628, Ar628, q628, S628, M628, H628, G628⟩ := id R625_1
    have g629 : Goes p e below S0 (T625.setTop (mkF m 156 #[iv i0, iv i1, iv i2, iv i3, iv i4, iv (3 : Int32), iv (0 : Int32), iv mz, rv b479, rv ra_606, iv (nP0 i0), rv b611, rv ra_625] [(.int (0 : Int32)), (.ref b479), (.int (0 : Int32)), (.ref ra_625)])) := fun t k => g627 t (by
      refine X625.arraylength hx Ar628.1 (State.isArrayOf_alike hZ.alike Ar628.2.1) (g := (mkF m 139 #[iv i0, iv i1, iv i2, iv i3, iv i4, iv (3 : Int32), iv (0 : Int32), iv mz, rv b479, rv ra_606, iv (nP0 i0), rv b611, rv ra_625] [(.ref ra_625)])) rfl rfl (hb hby at_139) _ ?_
      rw [len_of S628 M628]
      show Go p e below t T625 m 140 #[iv i0, iv i1, iv i2, iv i3, iv i4, iv (3 : Int32), iv (0 : Int32), iv mz, rv b479, rv ra_606, iv (nP0 i0), rv b611, rv ra_625] [(.int (2 : Int32))]
      refine XS.iload X625.here hx rfl (hb hby at_140) rfl ?_
      show Go p e below t T625 m 142 #[iv i0, iv i1, iv i2, iv i3, iv i4, iv (3 : Int32), iv (0 : Int32), iv mz, rv b479, rv ra_606, iv (nP0 i0), rv b611, rv ra_625] [(.int (3 : Int32)), (.int (2 : Int32))]
      refine XT.iconstV X625.here hx rfl (1 : Int32) (hb hby at_142) (by decide) ?_
      show Go p e below t T625 m 143 #[iv i0, iv i1, iv i2, iv i3, iv i4, iv (3 : Int32), iv (0 : Int32), iv mz, rv b479, rv ra_606, iv (nP0 i0), rv b611, rv ra_625] [(.int (1 : Int32)), (.int (3 : Int32)), (.int (2 : Int32))]
      refine XS.isub X625.here hx rfl (hb hby at_143) rfl ?_
      rw [show ((3 : Int32) - (1 : Int32)) = (2 : Int32) by decide]
      show Go p e below t T625 m 144 #[iv i0, iv i1, iv i2, iv i3, iv i4, iv (3 : Int32), iv (0 : Int32), iv mz, rv b479, rv ra_606, iv (nP0 i0), rv b611, rv ra_625] [(.int (2 : Int32)), (.int (2 : Int32))]
      refine XS.icmpYes X625.here hx rfl (pc0 := 144) (pc' := 149) rfl (hb hby at_144) rfl (XT.ii_eq_t (by decide)) (by decide) (by decide) ?_
      show Go p e below t T625 m 149 #[iv i0, iv i1, iv i2, iv i3, iv i4, iv (3 : Int32), iv (0 : Int32), iv mz, rv b479, rv ra_606, iv (nP0 i0), rv b611, rv ra_625] []
      refine XS.aload X625.here hx rfl (hb hby at_149) rfl rfl ?_
      show Go p e below t T625 m 151 #[iv i0, iv i1, iv i2, iv i3, iv i4, iv (3 : Int32), iv (0 : Int32), iv mz, rv b479, rv ra_606, iv (nP0 i0), rv b611, rv ra_625] [(.ref ra_625)]
      refine XT.iconstV X625.here hx rfl (0 : Int32) (hb hby at_151) (by decide) ?_
      show Go p e below t T625 m 152 #[iv i0, iv i1, iv i2, iv i3, iv i4, iv (3 : Int32), iv (0 : Int32), iv mz, rv b479, rv ra_606, iv (nP0 i0), rv b611, rv ra_625] [(.int (0 : Int32)), (.ref ra_625)]
      refine XS.aload X625.here hx rfl (hb hby at_152) rfl rfl ?_
      show Go p e below t T625 m 154 #[iv i0, iv i1, iv i2, iv i3, iv i4, iv (3 : Int32), iv (0 : Int32), iv mz, rv b479, rv ra_606, iv (nP0 i0), rv b611, rv ra_625] [(.ref b479), (.int (0 : Int32)), (.ref ra_625)]
      refine XS.iload X625.here hx rfl (hb hby at_154) rfl ?_
      show Go p e below t T625 m 156 #[iv i0, iv i1, iv i2, iv i3, iv i4, iv (3 : Int32), iv (0 : Int32), iv mz, rv b479, rv ra_606, iv (nP0 i0), rv b611, rv ra_625] [(.int (0 : Int32)), (.ref b479), (.int (0 : Int32)), (.ref ra_625)]
      exact k)
    obtain ⟨_, _, ⟨T630, L630, k630, n630⟩, -, X630, ⟨Lc630, hQ630, l630, y630, z630⟩, st630⟩ := Jvm.LawKit.callS X625 hx (y := (⟨"com/example/aristotle/aristotle/StepMadePinLaw", "check", "([II[II)Z"⟩ : MethodName)) hown (mvT hZ (hw _ (List.mem_of_getElem? (i := 36) rfl))) (mvT hZ (hw _ (List.mem_of_getElem? (i := 37) rfl))) (mvT hZ (hw _ (List.mem_of_getElem? (i := 5) rfl))) (mvT hZ (hw _ (List.mem_of_getElem? (i := 38) rfl))) (by decide) (backOf (W := 0) (rm_ck2 l Z a0 hw [] ra_625 (0 : Int32) b479 (0 : Int32) rk_625 (2 : Int32) [(.int (nP1 i0 i1)), (.int (nP2 i0 i1 i2))] (.int (0 : Int32)) k479 (4 : Int32) [(.int (nP0 i0)), (.int (nP1 i0 i1)), (.int (nP2 i0 i1 i2)), (.int (nP3 i0 i1 i2 i3))] (.int (0 : Int32)) (nP1 i0 i1) T625.heap n0 (Nat.le_trans Z0 (Nat.le_trans (Nat.le_trans (Nat.le_trans (Nat.le_trans (Nat.le_trans (Nat.le_trans (Nat.le_trans (Nat.le_trans (Nat.le_trans (Nat.le_trans (Nat.le_refl _) E479.1) (Nat.le_of_eq W483.size.symm)) (Nat.le_of_eq W489.size.symm)) (Nat.le_of_eq W495.size.symm)) (Nat.le_of_eq W501.size.symm)) R606_0.1) E611.1) E619.1) R622_0.1) R625_0.1)) R625_1 (((((V501.keep R606_0 nin0).ext E611).ext E619).keep R622_0 (ninS (Nat.ne_of_lt (Nat.lt_of_lt_of_le (V501.keep R606_0 nin0).lt (Nat.le_of_eq gb611.symm))) nin0)).keep R625_0 nin0) (by decide) (by decide) (by decide) (by decide) rfl rfl) hZ (hw _ (List.mem_of_getElem? (i := 38) rfl)) (hw _ (List.mem_of_getElem? (i := 5) rfl)) (by decide) (by decide)) (g := (mkF m 156 #[iv i0, iv i1, iv i2, iv i3, iv i4, iv (3 : Int32), iv (0 : Int32), iv mz, rv b479, rv ra_606, iv (nP0 i0), rv b611, rv ra_625] [(.int (0 : Int32)), (.ref b479), (.int (0 : Int32)), (.ref ra_625)])) rfl (by rw [hml]; rfl) (argsL := [(.ref ra_625), (.int (0 : Int32)), (.ref b479), (.int (0 : Int32))]) (rest := []) (lenOf pd4 rfl) rfl (by show 2 * 0 + _ ≤ _; exact Nat.le_of_eq rfl) (hb hby at_156) (fun _ _ => ⟨rfl, rfl, (by decide : 5 + 0 ≤ _), (by decide : 14 + 0 ≤ _)⟩)
    dsimp only [Pt.U, Pt.locs, Pt.cells, Pt.slots] at X630 l630 y630 z630 st630 hQ630
    subst l630 y630 z630
    obtain ⟨rfl, N630, R630_0⟩ := hQ630
    have M630 := Fr.app M625 N630
    have g631 : Goes p e below S0 (T630.setTop (mkF m 159 #[iv i0, iv i1, iv i2, iv i3, iv i4, iv (3 : Int32), iv (0 : Int32), iv mz, rv b479, rv ra_606, iv (nP0 i0), rv b611, rv ra_625] [(.int (1 : Int32))])) := fun t k => g629 t (st630 t k)
    have g632 : Goes p e below S0 (T630.setTop (mkF m 169 #[iv i0, iv i1, iv i2, iv i3, iv i4, iv (3 : Int32), iv (0 : Int32), iv mz, rv b479, rv ra_606, iv (nP0 i0), rv b611, rv ra_625] [(.int (0 : Int32)), (.ref b479), (.int (1 : Int32)), (.ref ra_625)])) := fun t k => g631 t (by
      refine XS.ifNo X630.here hx rfl (hb hby at_159) rfl (XT.i0_eq_f (by decide)) ?_
      show Go p e below t T630 m 162 #[iv i0, iv i1, iv i2, iv i3, iv i4, iv (3 : Int32), iv (0 : Int32), iv mz, rv b479, rv ra_606, iv (nP0 i0), rv b611, rv ra_625] []
      refine XS.aload X630.here hx rfl (hb hby at_162) rfl rfl ?_
      show Go p e below t T630 m 164 #[iv i0, iv i1, iv i2, iv i3, iv i4, iv (3 : Int32), iv (0 : Int32), iv mz, rv b479, rv ra_606, iv (nP0 i0), rv b611, rv ra_625] [(.ref ra_625)]
      refine XT.iconstV X630.here hx rfl (1 : Int32) (hb hby at_164) (by decide) ?_
      show Go p e below t T630 m 165 #[iv i0, iv i1, iv i2, iv i3, iv i4, iv (3 : Int32), iv (0 : Int32), iv mz, rv b479, rv ra_606, iv (nP0 i0), rv b611, rv ra_625] [(.int (1 : Int32)), (.ref ra_625)]
      refine XS.aload X630.here hx rfl (hb hby at_165) rfl rfl ?_
      show Go p e below t T630 m 167 #[iv i0, iv i1, iv i2, iv i3, iv i4, iv (3 : Int32), iv (0 : Int32), iv mz, rv b479, rv ra_606, iv (nP0 i0), rv b611, rv ra_625] [(.ref b479), (.int (1 : Int32)), (.ref ra_625)]
      refine XS.iload X630.here hx rfl (hb hby at_167) rfl ?_
      show Go p e below t T630 m 169 #[iv i0, iv i1, iv i2, iv i3, iv i4, iv (3 : Int32), iv (0 : Int32), iv mz, rv b479, rv ra_606, iv (nP0 i0), rv b611, rv ra_625] [(.int (0 : Int32)), (.ref b479), (.int (1 : Int32)), (.ref ra_625)]
      exact k)
    obtain ⟨_, _, ⟨T633, L633, k633, n633⟩, -, X633, ⟨Lc633, hQ633, l633, y633, z633⟩, st633⟩ := Jvm.LawKit.callS X630 hx (y := (⟨"com/example/aristotle/aristotle/StepMadePinLaw", "check", "([II[II)Z"⟩ : MethodName)) hown (mvT hZ (hw _ (List.mem_of_getElem? (i := 36) rfl))) (mvT hZ (hw _ (List.mem_of_getElem? (i := 37) rfl))) (mvT hZ (hw _ (List.mem_of_getElem? (i := 5) rfl))) (mvT hZ (hw _ (List.mem_of_getElem? (i := 38) rfl))) (by decide) (backOf (W := 0) (rm_ck2 l Z a0 hw [] ra_625 (1 : Int32) b479 (0 : Int32) rk_625 (2 : Int32) [(.int (nP1 i0 i1)), (.int (nP2 i0 i1 i2))] (.int (0 : Int32)) k479 (4 : Int32) [(.int (nP0 i0)), (.int (nP1 i0 i1)), (.int (nP2 i0 i1 i2)), (.int (nP3 i0 i1 i2 i3))] (.int (0 : Int32)) (nP2 i0 i1 i2) T625.heap n0 (Nat.le_trans Z0 (Nat.le_trans (Nat.le_trans (Nat.le_trans (Nat.le_trans (Nat.le_trans (Nat.le_trans (Nat.le_trans (Nat.le_trans (Nat.le_trans (Nat.le_trans (Nat.le_refl _) E479.1) (Nat.le_of_eq W483.size.symm)) (Nat.le_of_eq W489.size.symm)) (Nat.le_of_eq W495.size.symm)) (Nat.le_of_eq W501.size.symm)) R606_0.1) E611.1) E619.1) R622_0.1) R625_0.1)) R625_1 (((((V501.keep R606_0 nin0).ext E611).ext E619).keep R622_0 (ninS (Nat.ne_of_lt (Nat.lt_of_lt_of_le (V501.keep R606_0 nin0).lt (Nat.le_of_eq gb611.symm))) nin0)).keep R625_0 nin0) (by decide) (by decide) (by decide) (by decide) rfl rfl) hZ (hw _ (List.mem_of_getElem? (i := 38) rfl)) (hw _ (List.mem_of_getElem? (i := 5) rfl)) (by decide) (by decide)) (g := (mkF m 169 #[iv i0, iv i1, iv i2, iv i3, iv i4, iv (3 : Int32), iv (0 : Int32), iv mz, rv b479, rv ra_606, iv (nP0 i0), rv b611, rv ra_625] [(.int (0 : Int32)), (.ref b479), (.int (1 : Int32)), (.ref ra_625)])) rfl (by rw [hml]; rfl) (argsL := [(.ref ra_625), (.int (1 : Int32)), (.ref b479), (.int (0 : Int32))]) (rest := []) (lenOf pd4 rfl) rfl (by show 2 * 0 + _ ≤ _; exact Nat.le_of_eq rfl) (hb hby at_169) (fun _ _ => ⟨rfl, R630_0, (by decide : 5 + 0 ≤ _), (by decide : 14 + 0 ≤ _)⟩)
    dsimp only [Pt.U, Pt.locs, Pt.cells, Pt.slots] at X633 l633 y633 z633 st633 hQ633
    subst l633 y633 z633
    obtain ⟨rfl, N633, R633_0⟩ := hQ633
    have M633 := Fr.app M630 N633
    have g634 : Goes p e below S0 (T633.setTop (mkF m 172 #[iv i0, iv i1, iv i2, iv i3, iv i4, iv (3 : Int32), iv (0 : Int32), iv mz, rv b479, rv ra_606, iv (nP0 i0), rv b611, rv ra_625] [(.int (1 : Int32))])) := fun t k => g632 t (st633 t k)
    have g635 : Goes p e below S0 (T633.setTop (mkF m 182 #[iv i0, iv i1, iv i2, iv i3, iv i4, iv (3 : Int32), iv (0 : Int32), iv mz, rv b479, rv ra_606, iv (nP0 i0), rv b611, rv ra_625] [(.int (0 : Int32)), (.ref b479), (.int (2 : Int32)), (.ref ra_625)])) := fun t k => g634 t (by
      refine XS.ifNo X633.here hx rfl (hb hby at_172) rfl (XT.i0_eq_f (by decide)) ?_
      show Go p e below t T633 m 175 #[iv i0, iv i1, iv i2, iv i3, iv i4, iv (3 : Int32), iv (0 : Int32), iv mz, rv b479, rv ra_606, iv (nP0 i0), rv b611, rv ra_625] []
      refine XS.aload X633.here hx rfl (hb hby at_175) rfl rfl ?_
      show Go p e below t T633 m 177 #[iv i0, iv i1, iv i2, iv i3, iv i4, iv (3 : Int32), iv (0 : Int32), iv mz, rv b479, rv ra_606, iv (nP0 i0), rv b611, rv ra_625] [(.ref ra_625)]
      refine XT.iconstV X633.here hx rfl (2 : Int32) (hb hby at_177) (by decide) ?_
      show Go p e below t T633 m 178 #[iv i0, iv i1, iv i2, iv i3, iv i4, iv (3 : Int32), iv (0 : Int32), iv mz, rv b479, rv ra_606, iv (nP0 i0), rv b611, rv ra_625] [(.int (2 : Int32)), (.ref ra_625)]
      refine XS.aload X633.here hx rfl (hb hby at_178) rfl rfl ?_
      show Go p e below t T633 m 180 #[iv i0, iv i1, iv i2, iv i3, iv i4, iv (3 : Int32), iv (0 : Int32), iv mz, rv b479, rv ra_606, iv (nP0 i0), rv b611, rv ra_625] [(.ref b479), (.int (2 : Int32)), (.ref ra_625)]
      refine XS.iload X633.here hx rfl (hb hby at_180) rfl ?_
      show Go p e below t T633 m 182 #[iv i0, iv i1, iv i2, iv i3, iv i4, iv (3 : Int32), iv (0 : Int32), iv mz, rv b479, rv ra_606, iv (nP0 i0), rv b611, rv ra_625] [(.int (0 : Int32)), (.ref b479), (.int (2 : Int32)), (.ref ra_625)]
      exact k)
    obtain ⟨_, _, ⟨T636, L636, k636, n636⟩, -, X636, ⟨Lc636, hQ636, l636, y636, z636⟩, st636⟩ := Jvm.LawKit.callS X633 hx (y := (⟨"com/example/aristotle/aristotle/StepMadePinLaw", "check", "([II[II)Z"⟩ : MethodName)) hown (mvT hZ (hw _ (List.mem_of_getElem? (i := 36) rfl))) (mvT hZ (hw _ (List.mem_of_getElem? (i := 37) rfl))) (mvT hZ (hw _ (List.mem_of_getElem? (i := 5) rfl))) (mvT hZ (hw _ (List.mem_of_getElem? (i := 38) rfl))) (by decide) (backOf (W := 0) (rm_ck0 l Z a0 hw [] ra_625 (2 : Int32) b479 (0 : Int32) rk_625 (2 : Int32) [(.int (nP1 i0 i1)), (.int (nP2 i0 i1 i2))] (.int (0 : Int32)) T625.heap n0 (Nat.le_trans Z0 (Nat.le_trans (Nat.le_trans (Nat.le_trans (Nat.le_trans (Nat.le_trans (Nat.le_trans (Nat.le_trans (Nat.le_trans (Nat.le_trans (Nat.le_trans (Nat.le_refl _) E479.1) (Nat.le_of_eq W483.size.symm)) (Nat.le_of_eq W489.size.symm)) (Nat.le_of_eq W495.size.symm)) (Nat.le_of_eq W501.size.symm)) R606_0.1) E611.1) E619.1) R622_0.1) R625_0.1)) R625_1 (by decide)) hZ (hw _ (List.mem_of_getElem? (i := 38) rfl)) (hw _ (List.mem_of_getElem? (i := 5) rfl)) (by decide) (by decide)) (g := (mkF m 182 #[iv i0, iv i1, iv i2, iv i3, iv i4, iv (3 : Int32), iv (0 : Int32), iv mz, rv b479, rv ra_606, iv (nP0 i0), rv b611, rv ra_625] [(.int (0 : Int32)), (.ref b479), (.int (2 : Int32)), (.ref ra_625)])) rfl (by rw [hml]; rfl) (argsL := [(.ref ra_625), (.int (2 : Int32)), (.ref b479), (.int (0 : Int32))]) (rest := []) (lenOf pd4 rfl) rfl (by show 2 * 0 + _ ≤ _; exact Nat.le_of_eq rfl) (hb hby at_182) (fun _ _ => ⟨rfl, R633_0, (by decide : 5 + 0 ≤ _), (by decide : 14 + 0 ≤ _)⟩)
    dsimp only [Pt.U, Pt.locs, Pt.cells, Pt.slots] at X636 l636 y636 z636 st636 hQ636
    subst l636 y636 z636
    obtain ⟨rfl, N636, R636_0⟩ := hQ636
    have M636 := Fr.app M633 N636
    have g637 : Goes p e below S0 (T636.setTop (mkF m 185 #[iv i0, iv i1, iv i2, iv i3, iv i4, iv (3 : Int32), iv (0 : Int32), iv mz, rv b479, rv ra_606, iv (nP0 i0), rv b611, rv ra_625] [(.int (1 : Int32))])) := fun t k => g635 t (st636 t k)
    have g638 : Goes p e below S0 (T636.setTop (mkF m 193 #[iv i0, iv i1, iv i2, iv i3, iv i4, iv (3 : Int32), iv (0 : Int32), iv mz, rv b479, rv ra_606, iv (nP0 i0), rv b611, rv ra_625] [(.int (1 : Int32))])) := fun t k => g637 t (by
      refine XS.ifNo X636.here hx rfl (hb hby at_185) rfl (XT.i0_eq_f (by decide)) ?_
      show Go p e below t T636 m 188 #[iv i0, iv i1, iv i2, iv i3, iv i4, iv (3 : Int32), iv (0 : Int32), iv mz, rv b479, rv ra_606, iv (nP0 i0), rv b611, rv ra_625] []
      refine XT.iconstV X636.here hx rfl (1 : Int32) (hb hby at_188) (by decide) ?_
      show Go p e below t T636 m 189 #[iv i0, iv i1, iv i2, iv i3, iv i4, iv (3 : Int32), iv (0 : Int32), iv mz, rv b479, rv ra_606, iv (nP0 i0), rv b611, rv ra_625] [(.int (1 : Int32))]
      refine XS.goto X636.here hx rfl (pc0 := 189) (pc' := 193) rfl (hb hby at_189) (by decide) (by decide) ?_
      show Go p e below t T636 m 193 #[iv i0, iv i1, iv i2, iv i3, iv i4, iv (3 : Int32), iv (0 : Int32), iv mz, rv b479, rv ra_606, iv (nP0 i0), rv b611, rv ra_625] [(.int (1 : Int32))]
      exact k)
    obtain ⟨fs, hr, hrun, hended, hW, hsame⟩ := X636.leave (v := some (.int (1 : Int32))) (fun h => by rw [Bd.returns] at h; cases h)
    refine ⟨_, _, g638 _ (retN X636 hx (t := .boolean) Bd.returns (by simp) (hb hby at_193) hr), hrun, hended, _, _, rfl, ?_, ⟨_, rfl⟩, hW, hsame.mono (by decide) (by decide)⟩
    show Q_law Z i0 i1 i2 i3 i4  h0 n0 _ T636.heap _
    rw [R636_0]
    exact ⟨rfl, M636⟩
  · skip
    have g639 : Goes p e below S0 (T501.setTop (mkF m 97 #[iv i0, iv i1, iv i2, iv i3, iv i4, iv (3 : Int32), iv (1 : Int32), iv mz, rv b479, .unset, .unset, .unset, .unset] [(.int (3 : Int32)), (.ref b479)])) := fun t k => g502 t (by
      refine XS.aload X501.here hx rfl (hb hby at_93) rfl rfl ?_
      show Go p e below t T501 m 95 #[iv i0, iv i1, iv i2, iv i3, iv i4, iv (3 : Int32), iv (1 : Int32), iv mz, rv b479, .unset, .unset, .unset, .unset] [(.ref b479)]
      refine XS.iload X501.here hx rfl (hb hby at_95) rfl ?_
      show Go p e below t T501 m 97 #[iv i0, iv i1, iv i2, iv i3, iv i4, iv (3 : Int32), iv (1 : Int32), iv mz, rv b479, .unset, .unset, .unset, .unset] [(.int (3 : Int32)), (.ref b479)]
      exact k)
    obtain ⟨_, _, ⟨T640, L640, k640, n640⟩, -, X640, ⟨Lc640, hQ640, l640, y640, z640⟩, st640⟩ := Jvm.LawKit.callS X501 hx (y := (⟨"com/example/aristotle/aristotle/StepMadePinLaw", "prefix", "([II)[I"⟩ : MethodName)) hown (mvT hZ (hw _ (List.mem_of_getElem? (i := 3) rfl))) (mvT hZ (hw _ (List.mem_of_getElem? (i := 4) rfl))) (mvT hZ (hw _ (List.mem_of_getElem? (i := 5) rfl))) (mvT hZ (hw _ (List.mem_of_getElem? (i := 6) rfl))) (by decide) (backOf (W := 0) (rm_pr3 l Z a0 hw [] b479 (3 : Int32) k479 (nP0 i0) (nP1 i0 i1) (nP2 i0 i1 i2) (nP3 i0 i1 i2 i3) h501 n0 (Nat.le_trans Z0 (Nat.le_trans (Nat.le_trans (Nat.le_trans (Nat.le_trans (Nat.le_trans (Nat.le_refl _) E479.1) (Nat.le_of_eq W483.size.symm)) (Nat.le_of_eq W489.size.symm)) (Nat.le_of_eq W495.size.symm)) (Nat.le_of_eq W501.size.symm))) V501 rfl) hZ (hw _ (List.mem_of_getElem? (i := 6) rfl)) (hw _ (List.mem_of_getElem? (i := 5) rfl)) (by decide) (by decide)) (g := (mkF m 97 #[iv i0, iv i1, iv i2, iv i3, iv i4, iv (3 : Int32), iv (1 : Int32), iv mz, rv b479, .unset, .unset, .unset, .unset] [(.int (3 : Int32)), (.ref b479)])) rfl (by rw [hml]; rfl) (argsL := [(.ref b479), (.int (3 : Int32))]) (rest := []) (lenOf pd2 rfl) rfl (by show 2 * 0 + _ ≤ _; exact Nat.le_of_eq rfl) (hb hby at_97) (fun _ _ => ⟨rfl, e501, (by decide : 1 + 1 ≤ _), (by decide : 4 + 3 ≤ _)⟩)
    dsimp only [Pt.U, Pt.locs, Pt.cells, Pt.slots] at X640 l640 y640 z640 st640 hQ640
    subst l640 y640 z640
    obtain ⟨ra_640, rk_640, rfl, N640, R640_0, R640_1, R640_2⟩ := hQ640
    have M640 := Fr.app N501 N640
    have sz640_2 : h0.size ≤ ra_640 := Nat.le_trans (Nat.le_trans (Nat.le_trans (Nat.le_trans (Nat.le_trans (Nat.le_trans (Nat.le_refl _) E479.1) (Nat.le_of_eq W483.size.symm)) (Nat.le_of_eq W489.size.symm)) (Nat.le_of_eq W495.size.symm)) (Nat.le_of_eq W501.size.symm)) R640_2
    have ng640_2 : n0 ≤ ra_640 := Nat.le_trans Z0 sz640_2
    have g641 : Goes p e below S0 (T640.setTop (mkF m 100 #[iv i0, iv i1, iv i2, iv i3, iv i4, iv (3 : Int32), iv (1 : Int32), iv mz, rv b479, .unset, .unset, .unset, .unset] [(.ref ra_640)])) := fun t k => g639 t (st640 t k)
    have g642 : Goes p e below S0 (T640.setTop (mkF m 106 #[iv i0, iv i1, iv i2, iv i3, iv i4, iv (3 : Int32), iv (1 : Int32), iv mz, rv b479, rv ra_640, .unset, .unset, .unset] [(.int (1 : Int32)), (.ref b479)])) := fun t k => g641 t (by
      refine XS.astore X640.here hx rfl (hb hby at_100) rfl rfl (l' := #[iv i0, iv i1, iv i2, iv i3, iv i4, iv (3 : Int32), iv (1 : Int32), iv mz, rv b479, rv ra_640, .unset, .unset, .unset]) rfl ?_
      show Go p e below t T640 m 102 #[iv i0, iv i1, iv i2, iv i3, iv i4, iv (3 : Int32), iv (1 : Int32), iv mz, rv b479, rv ra_640, .unset, .unset, .unset] []
      refine XS.aload X640.here hx rfl (hb hby at_102) rfl rfl ?_
      show Go p e below t T640 m 104 #[iv i0, iv i1, iv i2, iv i3, iv i4, iv (3 : Int32), iv (1 : Int32), iv mz, rv b479, rv ra_640, .unset, .unset, .unset] [(.ref b479)]
      refine XS.iload X640.here hx rfl (hb hby at_104) rfl ?_
      show Go p e below t T640 m 106 #[iv i0, iv i1, iv i2, iv i3, iv i4, iv (3 : Int32), iv (1 : Int32), iv mz, rv b479, rv ra_640, .unset, .unset, .unset] [(.int (1 : Int32)), (.ref b479)]
      exact k)
    obtain ⟨cl643, Ar643, q643, S643, M643, H643, G643⟩ := id (V501.keep R640_0 nin0)
    have g644 : Goes p e below S0 (T640.setTop (mkF m 109 #[iv i0, iv i1, iv i2, iv i3, iv i4, iv (3 : Int32), iv (1 : Int32), iv mz, rv b479, rv ra_640, iv (nP1 i0 i1), .unset, .unset] [])) := fun t k => g642 t (by
      refine X640.iaload hx (j := (1 : Int32)) (v := (.int (nP1 i0 i1))) Ar643.1 (State.isArrayOf_alike hZ.alike Ar643.2.1) Ar643.2.2 (inb_of S643 ⟨by decide, by decide⟩) (H643.at (inb_of S643 ⟨by decide, by decide⟩) rfl) (g := (mkF m 106 #[iv i0, iv i1, iv i2, iv i3, iv i4, iv (3 : Int32), iv (1 : Int32), iv mz, rv b479, rv ra_640, .unset, .unset, .unset] [(.int (1 : Int32)), (.ref b479)])) rfl rfl (hb hby at_106) _ ?_
      show Go p e below t T640 m 107 #[iv i0, iv i1, iv i2, iv i3, iv i4, iv (3 : Int32), iv (1 : Int32), iv mz, rv b479, rv ra_640, .unset, .unset, .unset] [(.int (nP1 i0 i1))]
      refine XS.istore X640.here hx rfl (hb hby at_107) rfl (l' := #[iv i0, iv i1, iv i2, iv i3, iv i4, iv (3 : Int32), iv (1 : Int32), iv mz, rv b479, rv ra_640, iv (nP1 i0 i1), .unset, .unset]) rfl ?_
      show Go p e below t T640 m 109 #[iv i0, iv i1, iv i2, iv i3, iv i4, iv (3 : Int32), iv (1 : Int32), iv mz, rv b479, rv ra_640, iv (nP1 i0 i1), .unset, .unset] []
      exact k)
    obtain ⟨T645, h645, X645, e645, E645, A645, D645, -, st645⟩ := newO X640 hx hZ hown (hw _ (List.mem_of_getElem? (i := 7) rfl)) (hw _ (List.mem_of_getElem? (i := 8) rfl)) (hw _ (List.mem_of_getElem? (i := 9) rfl)) rfl (g := (mkF m 109 #[iv i0, iv i1, iv i2, iv i3, iv i4, iv (3 : Int32), iv (1 : Int32), iv mz, rv b479, rv ra_640, iv (nP1 i0 i1), .unset, .unset] [])) rfl (hb hby at_109) (by decide) (by decide)
    obtain ⟨b645, gb645⟩ : ∃ z, z = T640.heap.size := ⟨_, rfl⟩
    have sz645 : h0.size ≤ b645 := Nat.le_trans (Nat.le_trans (Nat.le_trans (Nat.le_trans (Nat.le_trans (Nat.le_trans (Nat.le_trans (Nat.le_refl _) E479.1) (Nat.le_of_eq W483.size.symm)) (Nat.le_of_eq W489.size.symm)) (Nat.le_of_eq W495.size.symm)) (Nat.le_of_eq W501.size.symm)) R640_0.1) (Nat.le_of_eq gb645.symm)
    have ng645 : n0 ≤ b645 := Nat.le_trans Z0 sz645
    rw [← gb645] at A645 D645 st645
    have F645_646 : Fld Z h645 b645 "com/example/aristotle/aristotle/EliminationPlan$Step" "variable" "I" (.int (0 : Int32)) := D645 (Or.inr (hw _ (List.mem_of_getElem? (i := 22) rfl))) (ty := .int) (by decide)
    have F645_647 : Fld Z h645 b645 "com/example/aristotle/aristotle/EliminationPlan$Step" "tables" "[I" .null := D645 (Or.inr (hw _ (List.mem_of_getElem? (i := 24) rfl))) (ty := (.array .int)) (by decide)
    have F645_648 : Fld Z h645 b645 "com/example/aristotle/aristotle/EliminationPlan$Step" "product" "[I" .null := D645 (Or.inr (hw _ (List.mem_of_getElem? (i := 26) rfl))) (ty := (.array .int)) (by decide)
    have F645_649 : Fld Z h645 b645 "com/example/aristotle/aristotle/EliminationPlan$Step" "entries" "D" (.double (0 : UInt64)) := D645 (Or.inr (hw _ (List.mem_of_getElem? (i := 28) rfl))) (ty := .double) (by decide)
    have F645_650 : Fld Z h645 b645 "com/example/aristotle/aristotle/EliminationPlan$Step" "makes" "Z" (.int (0 : Int32)) := D645 (Or.inr (hw _ (List.mem_of_getElem? (i := 30) rfl))) (ty := .boolean) (by decide)
    have g651 : Goes p e below S0 (T645.setTop (mkF m 112 #[iv i0, iv i1, iv i2, iv i3, iv i4, iv (3 : Int32), iv (1 : Int32), iv mz, rv b479, rv ra_640, iv (nP1 i0 i1), .unset, .unset] [(.ref b645)])) := fun t k => g644 t (st645 t k)
    have g652 : Goes p e below S0 (T645.setTop (mkF m 116 #[iv i0, iv i1, iv i2, iv i3, iv i4, iv (3 : Int32), iv (1 : Int32), iv mz, rv b479, rv ra_640, iv (nP1 i0 i1), .unset, .unset] [(.int (0 : Int32)), (.int (nP1 i0 i1)), (.ref b645), (.ref b645)])) := fun t k => g651 t (by
      refine XS.dup X645.here hx rfl (hb hby at_112) rfl rfl ?_
      show Go p e below t T645 m 113 #[iv i0, iv i1, iv i2, iv i3, iv i4, iv (3 : Int32), iv (1 : Int32), iv mz, rv b479, rv ra_640, iv (nP1 i0 i1), .unset, .unset] [(.ref b645), (.ref b645)]
      refine XS.iload X645.here hx rfl (hb hby at_113) rfl ?_
      show Go p e below t T645 m 115 #[iv i0, iv i1, iv i2, iv i3, iv i4, iv (3 : Int32), iv (1 : Int32), iv mz, rv b479, rv ra_640, iv (nP1 i0 i1), .unset, .unset] [(.int (nP1 i0 i1)), (.ref b645), (.ref b645)]
      refine XT.iconstV X645.here hx rfl (0 : Int32) (hb hby at_115) (by decide) ?_
      show Go p e below t T645 m 116 #[iv i0, iv i1, iv i2, iv i3, iv i4, iv (3 : Int32), iv (1 : Int32), iv mz, rv b479, rv ra_640, iv (nP1 i0 i1), .unset, .unset] [(.int (0 : Int32)), (.int (nP1 i0 i1)), (.ref b645), (.ref b645)]
      exact k)
    obtain ⟨T653, h653, k653, X653, e653, E653, A653, st653⟩ := newP X645 hx hZ (hw _ (List.mem_of_getElem? (i := 1) rfl)) e645 (g := (mkF m 116 #[iv i0, iv i1, iv i2, iv i3, iv i4, iv (3 : Int32), iv (1 : Int32), iv mz, rv b479, rv ra_640, iv (nP1 i0 i1), .unset, .unset] [(.int (0 : Int32)), (.int (nP1 i0 i1)), (.ref b645), (.ref b645)])) rfl (hb hby at_116) rfl (by decide) (cap := 0) (by decide) (by decide) (by decide) (by decide)
    obtain ⟨b653, gb653⟩ : ∃ z, z = h645.size := ⟨_, rfl⟩
    have sz653 : h0.size ≤ b653 := Nat.le_trans (Nat.le_trans (Nat.le_trans (Nat.le_trans (Nat.le_trans (Nat.le_trans (Nat.le_trans (Nat.le_trans (Nat.le_refl _) E479.1) (Nat.le_of_eq W483.size.symm)) (Nat.le_of_eq W489.size.symm)) (Nat.le_of_eq W495.size.symm)) (Nat.le_of_eq W501.size.symm)) R640_0.1) E645.1) (Nat.le_of_eq gb653.symm)
    have ng653 : n0 ≤ b653 := Nat.le_trans Z0 sz653
    rw [← gb653] at A653 st653
    have V653 : Arv Z h653 b653 k653 .int (0 : Int32) [] (.int (0 : Int32)) := (Arv.new A653 (by decide)).pad (pad_rep [] (.int (0 : Int32)) 0)
    have g654 : Goes p e below S0 (T653.setTop (mkF m 118 #[iv i0, iv i1, iv i2, iv i3, iv i4, iv (3 : Int32), iv (1 : Int32), iv mz, rv b479, rv ra_640, iv (nP1 i0 i1), .unset, .unset] [(.ref b653), (.int (nP1 i0 i1)), (.ref b645), (.ref b645)])) := fun t k => g652 t (st653 t k)
    have g655 : Goes p e below S0 (T653.setTop (mkF m 125 #[iv i0, iv i1, iv i2, iv i3, iv i4, iv (3 : Int32), iv (1 : Int32), iv mz, rv b479, rv ra_640, iv (nP1 i0 i1), .unset, .unset] [(.int mz), (.double (FP.i2d (3 : Int32))), (.ref ra_640), (.ref b653), (.int (nP1 i0 i1)), (.ref b645), (.ref b645)])) := fun t k => g654 t (by
      refine XS.aload X653.here hx rfl (hb hby at_118) rfl rfl ?_
      show Go p e below t T653 m 120 #[iv i0, iv i1, iv i2, iv i3, iv i4, iv (3 : Int32), iv (1 : Int32), iv mz, rv b479, rv ra_640, iv (nP1 i0 i1), .unset, .unset] [(.ref ra_640), (.ref b653), (.int (nP1 i0 i1)), (.ref b645), (.ref b645)]
      refine XS.iload X653.here hx rfl (hb hby at_120) rfl ?_
      show Go p e below t T653 m 122 #[iv i0, iv i1, iv i2, iv i3, iv i4, iv (3 : Int32), iv (1 : Int32), iv mz, rv b479, rv ra_640, iv (nP1 i0 i1), .unset, .unset] [(.int (3 : Int32)), (.ref ra_640), (.ref b653), (.int (nP1 i0 i1)), (.ref b645), (.ref b645)]
      refine XS.i2dS X653.here hx rfl (hb hby at_122) rfl rfl ?_
      show Go p e below t T653 m 123 #[iv i0, iv i1, iv i2, iv i3, iv i4, iv (3 : Int32), iv (1 : Int32), iv mz, rv b479, rv ra_640, iv (nP1 i0 i1), .unset, .unset] [(.double (FP.i2d (3 : Int32))), (.ref ra_640), (.ref b653), (.int (nP1 i0 i1)), (.ref b645), (.ref b645)]
      refine XS.iload X653.here hx rfl (hb hby at_123) rfl ?_
      show Go p e below t T653 m 125 #[iv i0, iv i1, iv i2, iv i3, iv i4, iv (3 : Int32), iv (1 : Int32), iv mz, rv b479, rv ra_640, iv (nP1 i0 i1), .unset, .unset] [(.int mz), (.double (FP.i2d (3 : Int32))), (.ref ra_640), (.ref b653), (.int (nP1 i0 i1)), (.ref b645), (.ref b645)]
      exact k)
    obtain ⟨_, _, ⟨T656, L656, k656, n656⟩, -, X656, ⟨Lc656, hQ656, l656, y656, z656⟩, st656⟩ := X653.specialBack hx (y := (⟨"com/example/aristotle/aristotle/EliminationPlan$Step", "<init>", "(I[I[IDZ)V"⟩ : MethodName)) rfl hown (mvT hZ (hw _ (List.mem_of_getElem? (i := 10) rfl))) (mvT hZ (hw _ (List.mem_of_getElem? (i := 11) rfl))) (mvT hZ (hw _ (List.mem_of_getElem? (i := 12) rfl))) (by decide) (backOf (W := 1) (rm_ini l Z a0 hw [] b645 (nP1 i0 i1) b653 ra_640 (FP.i2d (3 : Int32)) mz  h653 n0 (Nat.le_trans Z0 (Nat.le_trans (Nat.le_trans (Nat.le_trans (Nat.le_trans (Nat.le_trans (Nat.le_trans (Nat.le_trans (Nat.le_trans (Nat.le_refl _) E479.1) (Nat.le_of_eq W483.size.symm)) (Nat.le_of_eq W489.size.symm)) (Nat.le_of_eq W495.size.symm)) (Nat.le_of_eq W501.size.symm)) R640_0.1) E645.1) E653.1)) (A645.ext E653) ng645 (F645_646.ext E653) (F645_647.ext E653) (F645_648.ext E653) (F645_649.ext E653) (F645_650.ext E653)) hZ (hw _ (List.mem_of_getElem? (i := 12) rfl)) (hw _ (List.mem_of_getElem? (i := 9) rfl)) (by decide) (by decide)) (g := (mkF m 125 #[iv i0, iv i1, iv i2, iv i3, iv i4, iv (3 : Int32), iv (1 : Int32), iv mz, rv b479, rv ra_640, iv (nP1 i0 i1), .unset, .unset] [(.int mz), (.double (FP.i2d (3 : Int32))), (.ref ra_640), (.ref b653), (.int (nP1 i0 i1)), (.ref b645), (.ref b645)])) rfl (by rw [hml]; rfl) (Steps.refl _) (a := b645) (argsL := [(.int (nP1 i0 i1)), (.ref b653), (.ref ra_640), (.double (FP.i2d (3 : Int32))), (.int mz)]) (rest := [(.ref b645)]) (lenOf pd1 rfl) rfl (by show 2 * 0 + _ ≤ _; exact Nat.le_of_eq rfl) (hb hby at_125) (fun _ _ => ⟨rfl, e653, (by decide : 4 + 0 ≤ _), (by decide : 12 + 0 ≤ _)⟩)
    dsimp only [Pt.U, Pt.locs, Pt.cells, Pt.slots] at X656 l656 y656 z656 st656 hQ656
    subst l656 y656 z656
    obtain ⟨rfl, N656, R656_0, R656_1, R656_2, R656_3, R656_4, R656_5, R656_6⟩ := hQ656
    have M656 := Fr.app M640 N656
    have g657 : Goes p e below S0 (T656.setTop (mkF m 128 #[iv i0, iv i1, iv i2, iv i3, iv i4, iv (3 : Int32), iv (1 : Int32), iv mz, rv b479, rv ra_640, iv (nP1 i0 i1), .unset, .unset] [(.ref b645)])) := fun t k => g655 t (st656.trans k)
    have g658 : Goes p e below S0 (T656.setTop (mkF m 132 #[iv i0, iv i1, iv i2, iv i3, iv i4, iv (3 : Int32), iv (1 : Int32), iv mz, rv b479, rv ra_640, iv (nP1 i0 i1), rv b645, .unset] [(.ref b645)])) := fun t k => g657 t (by
      refine XS.astore X656.here hx rfl (hb hby at_128) rfl rfl (l' := #[iv i0, iv i1, iv i2, iv i3, iv i4, iv (3 : Int32), iv (1 : Int32), iv mz, rv b479, rv ra_640, iv (nP1 i0 i1), rv b645, .unset]) rfl ?_
      show Go p e below t T656 m 130 #[iv i0, iv i1, iv i2, iv i3, iv i4, iv (3 : Int32), iv (1 : Int32), iv mz, rv b479, rv ra_640, iv (nP1 i0 i1), rv b645, .unset] []
      refine XS.aload X656.here hx rfl (hb hby at_130) rfl rfl ?_
      show Go p e below t T656 m 132 #[iv i0, iv i1, iv i2, iv i3, iv i4, iv (3 : Int32), iv (1 : Int32), iv mz, rv b479, rv ra_640, iv (nP1 i0 i1), rv b645, .unset] [(.ref b645)]
      exact k)
    obtain ⟨cq659, kq659, q659a, q659b, q659c⟩ := isOf hZ rfl R656_1
    obtain ⟨_, _, ⟨T659, L659, k659, n659⟩, -, X659, ⟨Lc659, hQ659, l659, y659, z659⟩, st659⟩ := X656.virtualBack hx (y := (⟨"com/example/aristotle/aristotle/EliminationPlan$Step", "made", "()[I"⟩ : MethodName)) (z := (⟨"com/example/aristotle/aristotle/EliminationPlan$Step", "made", "()[I"⟩ : MethodName)) hown (mvT hZ (hw _ (List.mem_of_getElem? (i := 31) rfl))) (mvT hZ (hw _ (List.mem_of_getElem? (i := 32) rfl))) (notFace_of_selects (args := #[]) (mvT hZ (hw _ (List.mem_of_getElem? (i := 34) rfl)))) (mvT hZ (hw _ (List.mem_of_getElem? (i := 34) rfl))) (mvT hZ (hw _ (List.mem_of_getElem? (i := 33) rfl))) (by decide) (backOf (W := 0) (rm_md31 l Z a0 hw [] b645 ra_640 rk_640 (nP0 i0) (nP1 i0 i1) (nP2 i0 i1 i2) T656.heap n0 (Nat.le_trans Z0 (Nat.le_trans (Nat.le_trans (Nat.le_trans (Nat.le_trans (Nat.le_trans (Nat.le_trans (Nat.le_trans (Nat.le_trans (Nat.le_trans (Nat.le_refl _) E479.1) (Nat.le_of_eq W483.size.symm)) (Nat.le_of_eq W489.size.symm)) (Nat.le_of_eq W495.size.symm)) (Nat.le_of_eq W501.size.symm)) R640_0.1) E645.1) E653.1) R656_0.1)) R656_4 R656_2 (((R640_1.ext E645).ext E653).keep R656_0 (ninS (Nat.ne_of_lt (Nat.lt_of_lt_of_le R640_1.lt (Nat.le_of_eq gb645.symm))) nin0)) (own_ne01 i0 i1 i2 i3) (own_ne21 i0 i1 i2 i3)) hZ (hw _ (List.mem_of_getElem? (i := 35) rfl)) (hw _ (List.mem_of_getElem? (i := 9) rfl)) (by decide) (by decide)) q659a q659c (g := (mkF m 132 #[iv i0, iv i1, iv i2, iv i3, iv i4, iv (3 : Int32), iv (1 : Int32), iv mz, rv b479, rv ra_640, iv (nP1 i0 i1), rv b645, .unset] [(.ref b645)])) rfl (by rw [hml]; rfl) (Steps.refl _) (argsL := []) (rest := []) (lenOf pd3 rfl) rfl (by show 2 * 0 + _ ≤ _; exact Nat.le_of_eq rfl) (hb hby at_132) (fun _ _ => ⟨rfl, rfl, (by decide : 4 + 1 ≤ _), (by decide : 12 + 2 ≤ _)⟩)
    dsimp only [Pt.U, Pt.locs, Pt.cells, Pt.slots] at X659 l659 y659 z659 st659 hQ659
    subst l659 y659 z659
    obtain ⟨ra_659, rk_659, rfl, N659, R659_0, R659_1, R659_2⟩ := hQ659
    have M659 := Fr.app M656 N659
    have sz659_2 : h0.size ≤ ra_659 := Nat.le_trans (Nat.le_trans (Nat.le_trans (Nat.le_trans (Nat.le_trans (Nat.le_trans (Nat.le_trans (Nat.le_trans (Nat.le_trans (Nat.le_trans (Nat.le_refl _) E479.1) (Nat.le_of_eq W483.size.symm)) (Nat.le_of_eq W489.size.symm)) (Nat.le_of_eq W495.size.symm)) (Nat.le_of_eq W501.size.symm)) R640_0.1) E645.1) E653.1) R656_0.1) R659_2
    have ng659_2 : n0 ≤ ra_659 := Nat.le_trans Z0 sz659_2
    have g660 : Goes p e below S0 (T659.setTop (mkF m 135 #[iv i0, iv i1, iv i2, iv i3, iv i4, iv (3 : Int32), iv (1 : Int32), iv mz, rv b479, rv ra_640, iv (nP1 i0 i1), rv b645, .unset] [(.ref ra_659)])) := fun t k => g658 t (st659.trans k)
    have g661 : Goes p e below S0 (T659.setTop (mkF m 139 #[iv i0, iv i1, iv i2, iv i3, iv i4, iv (3 : Int32), iv (1 : Int32), iv mz, rv b479, rv ra_640, iv (nP1 i0 i1), rv b645, rv ra_659] [(.ref ra_659)])) := fun t k => g660 t (by
      refine XS.astore X659.here hx rfl (hb hby at_135) rfl rfl (l' := #[iv i0, iv i1, iv i2, iv i3, iv i4, iv (3 : Int32), iv (1 : Int32), iv mz, rv b479, rv ra_640, iv (nP1 i0 i1), rv b645, rv ra_659]) rfl ?_
      show Go p e below t T659 m 137 #[iv i0, iv i1, iv i2, iv i3, iv i4, iv (3 : Int32), iv (1 : Int32), iv mz, rv b479, rv ra_640, iv (nP1 i0 i1), rv b645, rv ra_659] []
      refine XS.aload X659.here hx rfl (hb hby at_137) rfl rfl ?_
      show Go p e below t T659 m 139 #[iv i0, iv i1, iv i2, iv i3, iv i4, iv (3 : Int32), iv (1 : Int32), iv mz, rv b479, rv ra_640, iv (nP1 i0 i1), rv b645, rv ra_659] [(.ref ra_659)]
      exact k)
    obtain ⟨cl662, Ar662, q662, S662, M662, H662, G662⟩ := id R659_1
    have g663 : Goes p e below S0 (T659.setTop (mkF m 156 #[iv i0, iv i1, iv i2, iv i3, iv i4, iv (3 : Int32), iv (1 : Int32), iv mz, rv b479, rv ra_640, iv (nP1 i0 i1), rv b645, rv ra_659] [(.int (1 : Int32)), (.ref b479), (.int (0 : Int32)), (.ref ra_659)])) := fun t k => g661 t (by
      refine X659.arraylength hx Ar662.1 (State.isArrayOf_alike hZ.alike Ar662.2.1) (g := (mkF m 139 #[iv i0, iv i1, iv i2, iv i3, iv i4, iv (3 : Int32), iv (1 : Int32), iv mz, rv b479, rv ra_640, iv (nP1 i0 i1), rv b645, rv ra_659] [(.ref ra_659)])) rfl rfl (hb hby at_139) _ ?_
      rw [len_of S662 M662]
      show Go p e below t T659 m 140 #[iv i0, iv i1, iv i2, iv i3, iv i4, iv (3 : Int32), iv (1 : Int32), iv mz, rv b479, rv ra_640, iv (nP1 i0 i1), rv b645, rv ra_659] [(.int (2 : Int32))]
      refine XS.iload X659.here hx rfl (hb hby at_140) rfl ?_
      show Go p e below t T659 m 142 #[iv i0, iv i1, iv i2, iv i3, iv i4, iv (3 : Int32), iv (1 : Int32), iv mz, rv b479, rv ra_640, iv (nP1 i0 i1), rv b645, rv ra_659] [(.int (3 : Int32)), (.int (2 : Int32))]
      refine XT.iconstV X659.here hx rfl (1 : Int32) (hb hby at_142) (by decide) ?_
      show Go p e below t T659 m 143 #[iv i0, iv i1, iv i2, iv i3, iv i4, iv (3 : Int32), iv (1 : Int32), iv mz, rv b479, rv ra_640, iv (nP1 i0 i1), rv b645, rv ra_659] [(.int (1 : Int32)), (.int (3 : Int32)), (.int (2 : Int32))]
      refine XS.isub X659.here hx rfl (hb hby at_143) rfl ?_
      rw [show ((3 : Int32) - (1 : Int32)) = (2 : Int32) by decide]
      show Go p e below t T659 m 144 #[iv i0, iv i1, iv i2, iv i3, iv i4, iv (3 : Int32), iv (1 : Int32), iv mz, rv b479, rv ra_640, iv (nP1 i0 i1), rv b645, rv ra_659] [(.int (2 : Int32)), (.int (2 : Int32))]
      refine XS.icmpYes X659.here hx rfl (pc0 := 144) (pc' := 149) rfl (hb hby at_144) rfl (XT.ii_eq_t (by decide)) (by decide) (by decide) ?_
      show Go p e below t T659 m 149 #[iv i0, iv i1, iv i2, iv i3, iv i4, iv (3 : Int32), iv (1 : Int32), iv mz, rv b479, rv ra_640, iv (nP1 i0 i1), rv b645, rv ra_659] []
      refine XS.aload X659.here hx rfl (hb hby at_149) rfl rfl ?_
      show Go p e below t T659 m 151 #[iv i0, iv i1, iv i2, iv i3, iv i4, iv (3 : Int32), iv (1 : Int32), iv mz, rv b479, rv ra_640, iv (nP1 i0 i1), rv b645, rv ra_659] [(.ref ra_659)]
      refine XT.iconstV X659.here hx rfl (0 : Int32) (hb hby at_151) (by decide) ?_
      show Go p e below t T659 m 152 #[iv i0, iv i1, iv i2, iv i3, iv i4, iv (3 : Int32), iv (1 : Int32), iv mz, rv b479, rv ra_640, iv (nP1 i0 i1), rv b645, rv ra_659] [(.int (0 : Int32)), (.ref ra_659)]
      refine XS.aload X659.here hx rfl (hb hby at_152) rfl rfl ?_
      show Go p e below t T659 m 154 #[iv i0, iv i1, iv i2, iv i3, iv i4, iv (3 : Int32), iv (1 : Int32), iv mz, rv b479, rv ra_640, iv (nP1 i0 i1), rv b645, rv ra_659] [(.ref b479), (.int (0 : Int32)), (.ref ra_659)]
      refine XS.iload X659.here hx rfl (hb hby at_154) rfl ?_
      show Go p e below t T659 m 156 #[iv i0, iv i1, iv i2, iv i3, iv i4, iv (3 : Int32), iv (1 : Int32), iv mz, rv b479, rv ra_640, iv (nP1 i0 i1), rv b645, rv ra_659] [(.int (1 : Int32)), (.ref b479), (.int (0 : Int32)), (.ref ra_659)]
      exact k)
    obtain ⟨_, _, ⟨T664, L664, k664, n664⟩, -, X664, ⟨Lc664, hQ664, l664, y664, z664⟩, st664⟩ := Jvm.LawKit.callS X659 hx (y := (⟨"com/example/aristotle/aristotle/StepMadePinLaw", "check", "([II[II)Z"⟩ : MethodName)) hown (mvT hZ (hw _ (List.mem_of_getElem? (i := 36) rfl))) (mvT hZ (hw _ (List.mem_of_getElem? (i := 37) rfl))) (mvT hZ (hw _ (List.mem_of_getElem? (i := 5) rfl))) (mvT hZ (hw _ (List.mem_of_getElem? (i := 38) rfl))) (by decide) (backOf (W := 0) (rm_ck1 l Z a0 hw [] ra_659 (0 : Int32) b479 (1 : Int32) rk_659 (2 : Int32) [(.int (nP0 i0)), (.int (nP2 i0 i1 i2))] (.int (0 : Int32)) k479 (4 : Int32) [(.int (nP0 i0)), (.int (nP1 i0 i1)), (.int (nP2 i0 i1 i2)), (.int (nP3 i0 i1 i2 i3))] (.int (0 : Int32)) (nP0 i0) T659.heap n0 (Nat.le_trans Z0 (Nat.le_trans (Nat.le_trans (Nat.le_trans (Nat.le_trans (Nat.le_trans (Nat.le_trans (Nat.le_trans (Nat.le_trans (Nat.le_trans (Nat.le_trans (Nat.le_refl _) E479.1) (Nat.le_of_eq W483.size.symm)) (Nat.le_of_eq W489.size.symm)) (Nat.le_of_eq W495.size.symm)) (Nat.le_of_eq W501.size.symm)) R640_0.1) E645.1) E653.1) R656_0.1) R659_0.1)) R659_1 (((((V501.keep R640_0 nin0).ext E645).ext E653).keep R656_0 (ninS (Nat.ne_of_lt (Nat.lt_of_lt_of_le (V501.keep R640_0 nin0).lt (Nat.le_of_eq gb645.symm))) nin0)).keep R659_0 nin0) (by decide) (by decide) (by decide) (by decide) rfl rfl) hZ (hw _ (List.mem_of_getElem? (i := 38) rfl)) (hw _ (List.mem_of_getElem? (i := 5) rfl)) (by decide) (by decide)) (g := (mkF m 156 #[iv i0, iv i1, iv i2, iv i3, iv i4, iv (3 : Int32), iv (1 : Int32), iv mz, rv b479, rv ra_640, iv (nP1 i0 i1), rv b645, rv ra_659] [(.int (1 : Int32)), (.ref b479), (.int (0 : Int32)), (.ref ra_659)])) rfl (by rw [hml]; rfl) (argsL := [(.ref ra_659), (.int (0 : Int32)), (.ref b479), (.int (1 : Int32))]) (rest := []) (lenOf pd4 rfl) rfl (by show 2 * 0 + _ ≤ _; exact Nat.le_of_eq rfl) (hb hby at_156) (fun _ _ => ⟨rfl, rfl, (by decide : 5 + 0 ≤ _), (by decide : 14 + 0 ≤ _)⟩)
    dsimp only [Pt.U, Pt.locs, Pt.cells, Pt.slots] at X664 l664 y664 z664 st664 hQ664
    subst l664 y664 z664
    obtain ⟨rfl, N664, R664_0⟩ := hQ664
    have M664 := Fr.app M659 N664
    have g665 : Goes p e below S0 (T664.setTop (mkF m 159 #[iv i0, iv i1, iv i2, iv i3, iv i4, iv (3 : Int32), iv (1 : Int32), iv mz, rv b479, rv ra_640, iv (nP1 i0 i1), rv b645, rv ra_659] [(.int (1 : Int32))])) := fun t k => g663 t (st664 t k)
    have g666 : Goes p e below S0 (T664.setTop (mkF m 169 #[iv i0, iv i1, iv i2, iv i3, iv i4, iv (3 : Int32), iv (1 : Int32), iv mz, rv b479, rv ra_640, iv (nP1 i0 i1), rv b645, rv ra_659] [(.int (1 : Int32)), (.ref b479), (.int (1 : Int32)), (.ref ra_659)])) := fun t k => g665 t (by
      refine XS.ifNo X664.here hx rfl (hb hby at_159) rfl (XT.i0_eq_f (by decide)) ?_
      show Go p e below t T664 m 162 #[iv i0, iv i1, iv i2, iv i3, iv i4, iv (3 : Int32), iv (1 : Int32), iv mz, rv b479, rv ra_640, iv (nP1 i0 i1), rv b645, rv ra_659] []
      refine XS.aload X664.here hx rfl (hb hby at_162) rfl rfl ?_
      show Go p e below t T664 m 164 #[iv i0, iv i1, iv i2, iv i3, iv i4, iv (3 : Int32), iv (1 : Int32), iv mz, rv b479, rv ra_640, iv (nP1 i0 i1), rv b645, rv ra_659] [(.ref ra_659)]
      refine XT.iconstV X664.here hx rfl (1 : Int32) (hb hby at_164) (by decide) ?_
      show Go p e below t T664 m 165 #[iv i0, iv i1, iv i2, iv i3, iv i4, iv (3 : Int32), iv (1 : Int32), iv mz, rv b479, rv ra_640, iv (nP1 i0 i1), rv b645, rv ra_659] [(.int (1 : Int32)), (.ref ra_659)]
      refine XS.aload X664.here hx rfl (hb hby at_165) rfl rfl ?_
      show Go p e below t T664 m 167 #[iv i0, iv i1, iv i2, iv i3, iv i4, iv (3 : Int32), iv (1 : Int32), iv mz, rv b479, rv ra_640, iv (nP1 i0 i1), rv b645, rv ra_659] [(.ref b479), (.int (1 : Int32)), (.ref ra_659)]
      refine XS.iload X664.here hx rfl (hb hby at_167) rfl ?_
      show Go p e below t T664 m 169 #[iv i0, iv i1, iv i2, iv i3, iv i4, iv (3 : Int32), iv (1 : Int32), iv mz, rv b479, rv ra_640, iv (nP1 i0 i1), rv b645, rv ra_659] [(.int (1 : Int32)), (.ref b479), (.int (1 : Int32)), (.ref ra_659)]
      exact k)
    obtain ⟨_, _, ⟨T667, L667, k667, n667⟩, -, X667, ⟨Lc667, hQ667, l667, y667, z667⟩, st667⟩ := Jvm.LawKit.callS X664 hx (y := (⟨"com/example/aristotle/aristotle/StepMadePinLaw", "check", "([II[II)Z"⟩ : MethodName)) hown (mvT hZ (hw _ (List.mem_of_getElem? (i := 36) rfl))) (mvT hZ (hw _ (List.mem_of_getElem? (i := 37) rfl))) (mvT hZ (hw _ (List.mem_of_getElem? (i := 5) rfl))) (mvT hZ (hw _ (List.mem_of_getElem? (i := 38) rfl))) (by decide) (backOf (W := 0) (rm_ck2 l Z a0 hw [] ra_659 (1 : Int32) b479 (1 : Int32) rk_659 (2 : Int32) [(.int (nP0 i0)), (.int (nP2 i0 i1 i2))] (.int (0 : Int32)) k479 (4 : Int32) [(.int (nP0 i0)), (.int (nP1 i0 i1)), (.int (nP2 i0 i1 i2)), (.int (nP3 i0 i1 i2 i3))] (.int (0 : Int32)) (nP2 i0 i1 i2) T659.heap n0 (Nat.le_trans Z0 (Nat.le_trans (Nat.le_trans (Nat.le_trans (Nat.le_trans (Nat.le_trans (Nat.le_trans (Nat.le_trans (Nat.le_trans (Nat.le_trans (Nat.le_trans (Nat.le_refl _) E479.1) (Nat.le_of_eq W483.size.symm)) (Nat.le_of_eq W489.size.symm)) (Nat.le_of_eq W495.size.symm)) (Nat.le_of_eq W501.size.symm)) R640_0.1) E645.1) E653.1) R656_0.1) R659_0.1)) R659_1 (((((V501.keep R640_0 nin0).ext E645).ext E653).keep R656_0 (ninS (Nat.ne_of_lt (Nat.lt_of_lt_of_le (V501.keep R640_0 nin0).lt (Nat.le_of_eq gb645.symm))) nin0)).keep R659_0 nin0) (by decide) (by decide) (by decide) (by decide) rfl rfl) hZ (hw _ (List.mem_of_getElem? (i := 38) rfl)) (hw _ (List.mem_of_getElem? (i := 5) rfl)) (by decide) (by decide)) (g := (mkF m 169 #[iv i0, iv i1, iv i2, iv i3, iv i4, iv (3 : Int32), iv (1 : Int32), iv mz, rv b479, rv ra_640, iv (nP1 i0 i1), rv b645, rv ra_659] [(.int (1 : Int32)), (.ref b479), (.int (1 : Int32)), (.ref ra_659)])) rfl (by rw [hml]; rfl) (argsL := [(.ref ra_659), (.int (1 : Int32)), (.ref b479), (.int (1 : Int32))]) (rest := []) (lenOf pd4 rfl) rfl (by show 2 * 0 + _ ≤ _; exact Nat.le_of_eq rfl) (hb hby at_169) (fun _ _ => ⟨rfl, R664_0, (by decide : 5 + 0 ≤ _), (by decide : 14 + 0 ≤ _)⟩)
    dsimp only [Pt.U, Pt.locs, Pt.cells, Pt.slots] at X667 l667 y667 z667 st667 hQ667
    subst l667 y667 z667
    obtain ⟨rfl, N667, R667_0⟩ := hQ667
    have M667 := Fr.app M664 N667
    have g668 : Goes p e below S0 (T667.setTop (mkF m 172 #[iv i0, iv i1, iv i2, iv i3, iv i4, iv (3 : Int32), iv (1 : Int32), iv mz, rv b479, rv ra_640, iv (nP1 i0 i1), rv b645, rv ra_659] [(.int (1 : Int32))])) := fun t k => g666 t (st667 t k)
    have g669 : Goes p e below S0 (T667.setTop (mkF m 182 #[iv i0, iv i1, iv i2, iv i3, iv i4, iv (3 : Int32), iv (1 : Int32), iv mz, rv b479, rv ra_640, iv (nP1 i0 i1), rv b645, rv ra_659] [(.int (1 : Int32)), (.ref b479), (.int (2 : Int32)), (.ref ra_659)])) := fun t k => g668 t (by
      refine XS.ifNo X667.here hx rfl (hb hby at_172) rfl (XT.i0_eq_f (by decide)) ?_
      show Go p e below t T667 m 175 #[iv i0, iv i1, iv i2, iv i3, iv i4, iv (3 : Int32), iv (1 : Int32), iv mz, rv b479, rv ra_640, iv (nP1 i0 i1), rv b645, rv ra_659] []
      refine XS.aload X667.here hx rfl (hb hby at_175) rfl rfl ?_
      show Go p e below t T667 m 177 #[iv i0, iv i1, iv i2, iv i3, iv i4, iv (3 : Int32), iv (1 : Int32), iv mz, rv b479, rv ra_640, iv (nP1 i0 i1), rv b645, rv ra_659] [(.ref ra_659)]
      refine XT.iconstV X667.here hx rfl (2 : Int32) (hb hby at_177) (by decide) ?_
      show Go p e below t T667 m 178 #[iv i0, iv i1, iv i2, iv i3, iv i4, iv (3 : Int32), iv (1 : Int32), iv mz, rv b479, rv ra_640, iv (nP1 i0 i1), rv b645, rv ra_659] [(.int (2 : Int32)), (.ref ra_659)]
      refine XS.aload X667.here hx rfl (hb hby at_178) rfl rfl ?_
      show Go p e below t T667 m 180 #[iv i0, iv i1, iv i2, iv i3, iv i4, iv (3 : Int32), iv (1 : Int32), iv mz, rv b479, rv ra_640, iv (nP1 i0 i1), rv b645, rv ra_659] [(.ref b479), (.int (2 : Int32)), (.ref ra_659)]
      refine XS.iload X667.here hx rfl (hb hby at_180) rfl ?_
      show Go p e below t T667 m 182 #[iv i0, iv i1, iv i2, iv i3, iv i4, iv (3 : Int32), iv (1 : Int32), iv mz, rv b479, rv ra_640, iv (nP1 i0 i1), rv b645, rv ra_659] [(.int (1 : Int32)), (.ref b479), (.int (2 : Int32)), (.ref ra_659)]
      exact k)
    obtain ⟨_, _, ⟨T670, L670, k670, n670⟩, -, X670, ⟨Lc670, hQ670, l670, y670, z670⟩, st670⟩ := Jvm.LawKit.callS X667 hx (y := (⟨"com/example/aristotle/aristotle/StepMadePinLaw", "check", "([II[II)Z"⟩ : MethodName)) hown (mvT hZ (hw _ (List.mem_of_getElem? (i := 36) rfl))) (mvT hZ (hw _ (List.mem_of_getElem? (i := 37) rfl))) (mvT hZ (hw _ (List.mem_of_getElem? (i := 5) rfl))) (mvT hZ (hw _ (List.mem_of_getElem? (i := 38) rfl))) (by decide) (backOf (W := 0) (rm_ck0 l Z a0 hw [] ra_659 (2 : Int32) b479 (1 : Int32) rk_659 (2 : Int32) [(.int (nP0 i0)), (.int (nP2 i0 i1 i2))] (.int (0 : Int32)) T659.heap n0 (Nat.le_trans Z0 (Nat.le_trans (Nat.le_trans (Nat.le_trans (Nat.le_trans (Nat.le_trans (Nat.le_trans (Nat.le_trans (Nat.le_trans (Nat.le_trans (Nat.le_trans (Nat.le_refl _) E479.1) (Nat.le_of_eq W483.size.symm)) (Nat.le_of_eq W489.size.symm)) (Nat.le_of_eq W495.size.symm)) (Nat.le_of_eq W501.size.symm)) R640_0.1) E645.1) E653.1) R656_0.1) R659_0.1)) R659_1 (by decide)) hZ (hw _ (List.mem_of_getElem? (i := 38) rfl)) (hw _ (List.mem_of_getElem? (i := 5) rfl)) (by decide) (by decide)) (g := (mkF m 182 #[iv i0, iv i1, iv i2, iv i3, iv i4, iv (3 : Int32), iv (1 : Int32), iv mz, rv b479, rv ra_640, iv (nP1 i0 i1), rv b645, rv ra_659] [(.int (1 : Int32)), (.ref b479), (.int (2 : Int32)), (.ref ra_659)])) rfl (by rw [hml]; rfl) (argsL := [(.ref ra_659), (.int (2 : Int32)), (.ref b479), (.int (1 : Int32))]) (rest := []) (lenOf pd4 rfl) rfl (by show 2 * 0 + _ ≤ _; exact Nat.le_of_eq rfl) (hb hby at_182) (fun _ _ => ⟨rfl, R667_0, (by decide : 5 + 0 ≤ _), (by decide : 14 + 0 ≤ _)⟩)
    dsimp only [Pt.U, Pt.locs, Pt.cells, Pt.slots] at X670 l670 y670 z670 st670 hQ670
    subst l670 y670 z670
    obtain ⟨rfl, N670, R670_0⟩ := hQ670
    have M670 := Fr.app M667 N670
    have g671 : Goes p e below S0 (T670.setTop (mkF m 185 #[iv i0, iv i1, iv i2, iv i3, iv i4, iv (3 : Int32), iv (1 : Int32), iv mz, rv b479, rv ra_640, iv (nP1 i0 i1), rv b645, rv ra_659] [(.int (1 : Int32))])) := fun t k => g669 t (st670 t k)
    have g672 : Goes p e below S0 (T670.setTop (mkF m 193 #[iv i0, iv i1, iv i2, iv i3, iv i4, iv (3 : Int32), iv (1 : Int32), iv mz, rv b479, rv ra_640, iv (nP1 i0 i1), rv b645, rv ra_659] [(.int (1 : Int32))])) := fun t k => g671 t (by
      refine XS.ifNo X670.here hx rfl (hb hby at_185) rfl (XT.i0_eq_f (by decide)) ?_
      show Go p e below t T670 m 188 #[iv i0, iv i1, iv i2, iv i3, iv i4, iv (3 : Int32), iv (1 : Int32), iv mz, rv b479, rv ra_640, iv (nP1 i0 i1), rv b645, rv ra_659] []
      refine XT.iconstV X670.here hx rfl (1 : Int32) (hb hby at_188) (by decide) ?_
      show Go p e below t T670 m 189 #[iv i0, iv i1, iv i2, iv i3, iv i4, iv (3 : Int32), iv (1 : Int32), iv mz, rv b479, rv ra_640, iv (nP1 i0 i1), rv b645, rv ra_659] [(.int (1 : Int32))]
      refine XS.goto X670.here hx rfl (pc0 := 189) (pc' := 193) rfl (hb hby at_189) (by decide) (by decide) ?_
      show Go p e below t T670 m 193 #[iv i0, iv i1, iv i2, iv i3, iv i4, iv (3 : Int32), iv (1 : Int32), iv mz, rv b479, rv ra_640, iv (nP1 i0 i1), rv b645, rv ra_659] [(.int (1 : Int32))]
      exact k)
    obtain ⟨fs, hr, hrun, hended, hW, hsame⟩ := X670.leave (v := some (.int (1 : Int32))) (fun h => by rw [Bd.returns] at h; cases h)
    refine ⟨_, _, g672 _ (retN X670 hx (t := .boolean) Bd.returns (by simp) (hb hby at_193) hr), hrun, hended, _, _, rfl, ?_, ⟨_, rfl⟩, hW, hsame.mono (by decide) (by decide)⟩
    show Q_law Z i0 i1 i2 i3 i4  h0 n0 _ T670.heap _
    rw [R670_0]
    exact ⟨rfl, M670⟩
  · skip
    have g673 : Goes p e below S0 (T501.setTop (mkF m 97 #[iv i0, iv i1, iv i2, iv i3, iv i4, iv (3 : Int32), iv (2 : Int32), iv mz, rv b479, .unset, .unset, .unset, .unset] [(.int (3 : Int32)), (.ref b479)])) := fun t k => g502 t (by
      refine XS.aload X501.here hx rfl (hb hby at_93) rfl rfl ?_
      show Go p e below t T501 m 95 #[iv i0, iv i1, iv i2, iv i3, iv i4, iv (3 : Int32), iv (2 : Int32), iv mz, rv b479, .unset, .unset, .unset, .unset] [(.ref b479)]
      refine XS.iload X501.here hx rfl (hb hby at_95) rfl ?_
      show Go p e below t T501 m 97 #[iv i0, iv i1, iv i2, iv i3, iv i4, iv (3 : Int32), iv (2 : Int32), iv mz, rv b479, .unset, .unset, .unset, .unset] [(.int (3 : Int32)), (.ref b479)]
      exact k)
    obtain ⟨_, _, ⟨T674, L674, k674, n674⟩, -, X674, ⟨Lc674, hQ674, l674, y674, z674⟩, st674⟩ := Jvm.LawKit.callS X501 hx (y := (⟨"com/example/aristotle/aristotle/StepMadePinLaw", "prefix", "([II)[I"⟩ : MethodName)) hown (mvT hZ (hw _ (List.mem_of_getElem? (i := 3) rfl))) (mvT hZ (hw _ (List.mem_of_getElem? (i := 4) rfl))) (mvT hZ (hw _ (List.mem_of_getElem? (i := 5) rfl))) (mvT hZ (hw _ (List.mem_of_getElem? (i := 6) rfl))) (by decide) (backOf (W := 0) (rm_pr3 l Z a0 hw [] b479 (3 : Int32) k479 (nP0 i0) (nP1 i0 i1) (nP2 i0 i1 i2) (nP3 i0 i1 i2 i3) h501 n0 (Nat.le_trans Z0 (Nat.le_trans (Nat.le_trans (Nat.le_trans (Nat.le_trans (Nat.le_trans (Nat.le_refl _) E479.1) (Nat.le_of_eq W483.size.symm)) (Nat.le_of_eq W489.size.symm)) (Nat.le_of_eq W495.size.symm)) (Nat.le_of_eq W501.size.symm))) V501 rfl) hZ (hw _ (List.mem_of_getElem? (i := 6) rfl)) (hw _ (List.mem_of_getElem? (i := 5) rfl)) (by decide) (by decide)) (g := (mkF m 97 #[iv i0, iv i1, iv i2, iv i3, iv i4, iv (3 : Int32), iv (2 : Int32), iv mz, rv b479, .unset, .unset, .unset, .unset] [(.int (3 : Int32)), (.ref b479)])) rfl (by rw [hml]; rfl) (argsL := [(.ref b479), (.int (3 : Int32))]) (rest := []) (lenOf pd2 rfl) rfl (by show 2 * 0 + _ ≤ _; exact Nat.le_of_eq rfl) (hb hby at_97) (fun _ _ => ⟨rfl, e501, (by decide : 1 + 1 ≤ _), (by decide : 4 + 3 ≤ _)⟩)
    dsimp only [Pt.U, Pt.locs, Pt.cells, Pt.slots] at X674 l674 y674 z674 st674 hQ674
    subst l674 y674 z674
    obtain ⟨ra_674, rk_674, rfl, N674, R674_0, R674_1, R674_2⟩ := hQ674
    have M674 := Fr.app N501 N674
    have sz674_2 : h0.size ≤ ra_674 := Nat.le_trans (Nat.le_trans (Nat.le_trans (Nat.le_trans (Nat.le_trans (Nat.le_trans (Nat.le_refl _) E479.1) (Nat.le_of_eq W483.size.symm)) (Nat.le_of_eq W489.size.symm)) (Nat.le_of_eq W495.size.symm)) (Nat.le_of_eq W501.size.symm)) R674_2
    have ng674_2 : n0 ≤ ra_674 := Nat.le_trans Z0 sz674_2
    have g675 : Goes p e below S0 (T674.setTop (mkF m 100 #[iv i0, iv i1, iv i2, iv i3, iv i4, iv (3 : Int32), iv (2 : Int32), iv mz, rv b479, .unset, .unset, .unset, .unset] [(.ref ra_674)])) := fun t k => g673 t (st674 t k)
    have g676 : Goes p e below S0 (T674.setTop (mkF m 106 #[iv i0, iv i1, iv i2, iv i3, iv i4, iv (3 : Int32), iv (2 : Int32), iv mz, rv b479, rv ra_674, .unset, .unset, .unset] [(.int (2 : Int32)), (.ref b479)])) := fun t k => g675 t (by
      refine XS.astore X674.here hx rfl (hb hby at_100) rfl rfl (l' := #[iv i0, iv i1, iv i2, iv i3, iv i4, iv (3 : Int32), iv (2 : Int32), iv mz, rv b479, rv ra_674, .unset, .unset, .unset]) rfl ?_
      show Go p e below t T674 m 102 #[iv i0, iv i1, iv i2, iv i3, iv i4, iv (3 : Int32), iv (2 : Int32), iv mz, rv b479, rv ra_674, .unset, .unset, .unset] []
      refine XS.aload X674.here hx rfl (hb hby at_102) rfl rfl ?_
      show Go p e below t T674 m 104 #[iv i0, iv i1, iv i2, iv i3, iv i4, iv (3 : Int32), iv (2 : Int32), iv mz, rv b479, rv ra_674, .unset, .unset, .unset] [(.ref b479)]
      refine XS.iload X674.here hx rfl (hb hby at_104) rfl ?_
      show Go p e below t T674 m 106 #[iv i0, iv i1, iv i2, iv i3, iv i4, iv (3 : Int32), iv (2 : Int32), iv mz, rv b479, rv ra_674, .unset, .unset, .unset] [(.int (2 : Int32)), (.ref b479)]
      exact k)
    obtain ⟨cl677, Ar677, q677, S677, M677, H677, G677⟩ := id (V501.keep R674_0 nin0)
    have g678 : Goes p e below S0 (T674.setTop (mkF m 109 #[iv i0, iv i1, iv i2, iv i3, iv i4, iv (3 : Int32), iv (2 : Int32), iv mz, rv b479, rv ra_674, iv (nP2 i0 i1 i2), .unset, .unset] [])) := fun t k => g676 t (by
      refine X674.iaload hx (j := (2 : Int32)) (v := (.int (nP2 i0 i1 i2))) Ar677.1 (State.isArrayOf_alike hZ.alike Ar677.2.1) Ar677.2.2 (inb_of S677 ⟨by decide, by decide⟩) (H677.at (inb_of S677 ⟨by decide, by decide⟩) rfl) (g := (mkF m 106 #[iv i0, iv i1, iv i2, iv i3, iv i4, iv (3 : Int32), iv (2 : Int32), iv mz, rv b479, rv ra_674, .unset, .unset, .unset] [(.int (2 : Int32)), (.ref b479)])) rfl rfl (hb hby at_106) _ ?_
      show Go p e below t T674 m 107 #[iv i0, iv i1, iv i2, iv i3, iv i4, iv (3 : Int32), iv (2 : Int32), iv mz, rv b479, rv ra_674, .unset, .unset, .unset] [(.int (nP2 i0 i1 i2))]
      refine XS.istore X674.here hx rfl (hb hby at_107) rfl (l' := #[iv i0, iv i1, iv i2, iv i3, iv i4, iv (3 : Int32), iv (2 : Int32), iv mz, rv b479, rv ra_674, iv (nP2 i0 i1 i2), .unset, .unset]) rfl ?_
      show Go p e below t T674 m 109 #[iv i0, iv i1, iv i2, iv i3, iv i4, iv (3 : Int32), iv (2 : Int32), iv mz, rv b479, rv ra_674, iv (nP2 i0 i1 i2), .unset, .unset] []
      exact k)
    obtain ⟨T679, h679, X679, e679, E679, A679, D679, -, st679⟩ := newO X674 hx hZ hown (hw _ (List.mem_of_getElem? (i := 7) rfl)) (hw _ (List.mem_of_getElem? (i := 8) rfl)) (hw _ (List.mem_of_getElem? (i := 9) rfl)) rfl (g := (mkF m 109 #[iv i0, iv i1, iv i2, iv i3, iv i4, iv (3 : Int32), iv (2 : Int32), iv mz, rv b479, rv ra_674, iv (nP2 i0 i1 i2), .unset, .unset] [])) rfl (hb hby at_109) (by decide) (by decide)
    obtain ⟨b679, gb679⟩ : ∃ z, z = T674.heap.size := ⟨_, rfl⟩
    have sz679 : h0.size ≤ b679 := Nat.le_trans (Nat.le_trans (Nat.le_trans (Nat.le_trans (Nat.le_trans (Nat.le_trans (Nat.le_trans (Nat.le_refl _) E479.1) (Nat.le_of_eq W483.size.symm)) (Nat.le_of_eq W489.size.symm)) (Nat.le_of_eq W495.size.symm)) (Nat.le_of_eq W501.size.symm)) R674_0.1) (Nat.le_of_eq gb679.symm)
    have ng679 : n0 ≤ b679 := Nat.le_trans Z0 sz679
    rw [← gb679] at A679 D679 st679
    have F679_680 : Fld Z h679 b679 "com/example/aristotle/aristotle/EliminationPlan$Step" "variable" "I" (.int (0 : Int32)) := D679 (Or.inr (hw _ (List.mem_of_getElem? (i := 22) rfl))) (ty := .int) (by decide)
    have F679_681 : Fld Z h679 b679 "com/example/aristotle/aristotle/EliminationPlan$Step" "tables" "[I" .null := D679 (Or.inr (hw _ (List.mem_of_getElem? (i := 24) rfl))) (ty := (.array .int)) (by decide)
    have F679_682 : Fld Z h679 b679 "com/example/aristotle/aristotle/EliminationPlan$Step" "product" "[I" .null := D679 (Or.inr (hw _ (List.mem_of_getElem? (i := 26) rfl))) (ty := (.array .int)) (by decide)
    have F679_683 : Fld Z h679 b679 "com/example/aristotle/aristotle/EliminationPlan$Step" "entries" "D" (.double (0 : UInt64)) := D679 (Or.inr (hw _ (List.mem_of_getElem? (i := 28) rfl))) (ty := .double) (by decide)
    have F679_684 : Fld Z h679 b679 "com/example/aristotle/aristotle/EliminationPlan$Step" "makes" "Z" (.int (0 : Int32)) := D679 (Or.inr (hw _ (List.mem_of_getElem? (i := 30) rfl))) (ty := .boolean) (by decide)
    have g685 : Goes p e below S0 (T679.setTop (mkF m 112 #[iv i0, iv i1, iv i2, iv i3, iv i4, iv (3 : Int32), iv (2 : Int32), iv mz, rv b479, rv ra_674, iv (nP2 i0 i1 i2), .unset, .unset] [(.ref b679)])) := fun t k => g678 t (st679 t k)
    have g686 : Goes p e below S0 (T679.setTop (mkF m 116 #[iv i0, iv i1, iv i2, iv i3, iv i4, iv (3 : Int32), iv (2 : Int32), iv mz, rv b479, rv ra_674, iv (nP2 i0 i1 i2), .unset, .unset] [(.int (0 : Int32)), (.int (nP2 i0 i1 i2)), (.ref b679), (.ref b679)])) := fun t k => g685 t (by
      refine XS.dup X679.here hx rfl (hb hby at_112) rfl rfl ?_
      show Go p e below t T679 m 113 #[iv i0, iv i1, iv i2, iv i3, iv i4, iv (3 : Int32), iv (2 : Int32), iv mz, rv b479, rv ra_674, iv (nP2 i0 i1 i2), .unset, .unset] [(.ref b679), (.ref b679)]
      refine XS.iload X679.here hx rfl (hb hby at_113) rfl ?_
      show Go p e below t T679 m 115 #[iv i0, iv i1, iv i2, iv i3, iv i4, iv (3 : Int32), iv (2 : Int32), iv mz, rv b479, rv ra_674, iv (nP2 i0 i1 i2), .unset, .unset] [(.int (nP2 i0 i1 i2)), (.ref b679), (.ref b679)]
      refine XT.iconstV X679.here hx rfl (0 : Int32) (hb hby at_115) (by decide) ?_
      show Go p e below t T679 m 116 #[iv i0, iv i1, iv i2, iv i3, iv i4, iv (3 : Int32), iv (2 : Int32), iv mz, rv b479, rv ra_674, iv (nP2 i0 i1 i2), .unset, .unset] [(.int (0 : Int32)), (.int (nP2 i0 i1 i2)), (.ref b679), (.ref b679)]
      exact k)
    obtain ⟨T687, h687, k687, X687, e687, E687, A687, st687⟩ := newP X679 hx hZ (hw _ (List.mem_of_getElem? (i := 1) rfl)) e679 (g := (mkF m 116 #[iv i0, iv i1, iv i2, iv i3, iv i4, iv (3 : Int32), iv (2 : Int32), iv mz, rv b479, rv ra_674, iv (nP2 i0 i1 i2), .unset, .unset] [(.int (0 : Int32)), (.int (nP2 i0 i1 i2)), (.ref b679), (.ref b679)])) rfl (hb hby at_116) rfl (by decide) (cap := 0) (by decide) (by decide) (by decide) (by decide)
    obtain ⟨b687, gb687⟩ : ∃ z, z = h679.size := ⟨_, rfl⟩
    have sz687 : h0.size ≤ b687 := Nat.le_trans (Nat.le_trans (Nat.le_trans (Nat.le_trans (Nat.le_trans (Nat.le_trans (Nat.le_trans (Nat.le_trans (Nat.le_refl _) E479.1) (Nat.le_of_eq W483.size.symm)) (Nat.le_of_eq W489.size.symm)) (Nat.le_of_eq W495.size.symm)) (Nat.le_of_eq W501.size.symm)) R674_0.1) E679.1) (Nat.le_of_eq gb687.symm)
    have ng687 : n0 ≤ b687 := Nat.le_trans Z0 sz687
    rw [← gb687] at A687 st687
    have V687 : Arv Z h687 b687 k687 .int (0 : Int32) [] (.int (0 : Int32)) := (Arv.new A687 (by decide)).pad (pad_rep [] (.int (0 : Int32)) 0)
    have g688 : Goes p e below S0 (T687.setTop (mkF m 118 #[iv i0, iv i1, iv i2, iv i3, iv i4, iv (3 : Int32), iv (2 : Int32), iv mz, rv b479, rv ra_674, iv (nP2 i0 i1 i2), .unset, .unset] [(.ref b687), (.int (nP2 i0 i1 i2)), (.ref b679), (.ref b679)])) := fun t k => g686 t (st687 t k)
    have g689 : Goes p e below S0 (T687.setTop (mkF m 125 #[iv i0, iv i1, iv i2, iv i3, iv i4, iv (3 : Int32), iv (2 : Int32), iv mz, rv b479, rv ra_674, iv (nP2 i0 i1 i2), .unset, .unset] [(.int mz), (.double (FP.i2d (3 : Int32))), (.ref ra_674), (.ref b687), (.int (nP2 i0 i1 i2)), (.ref b679), (.ref b679)])) := fun t k => g688 t (by
      refine XS.aload X687.here hx rfl (hb hby at_118) rfl rfl ?_
      show Go p e below t T687 m 120 #[iv i0, iv i1, iv i2, iv i3, iv i4, iv (3 : Int32), iv (2 : Int32), iv mz, rv b479, rv ra_674, iv (nP2 i0 i1 i2), .unset, .unset] [(.ref ra_674), (.ref b687), (.int (nP2 i0 i1 i2)), (.ref b679), (.ref b679)]
      refine XS.iload X687.here hx rfl (hb hby at_120) rfl ?_
      show Go p e below t T687 m 122 #[iv i0, iv i1, iv i2, iv i3, iv i4, iv (3 : Int32), iv (2 : Int32), iv mz, rv b479, rv ra_674, iv (nP2 i0 i1 i2), .unset, .unset] [(.int (3 : Int32)), (.ref ra_674), (.ref b687), (.int (nP2 i0 i1 i2)), (.ref b679), (.ref b679)]
      refine XS.i2dS X687.here hx rfl (hb hby at_122) rfl rfl ?_
      show Go p e below t T687 m 123 #[iv i0, iv i1, iv i2, iv i3, iv i4, iv (3 : Int32), iv (2 : Int32), iv mz, rv b479, rv ra_674, iv (nP2 i0 i1 i2), .unset, .unset] [(.double (FP.i2d (3 : Int32))), (.ref ra_674), (.ref b687), (.int (nP2 i0 i1 i2)), (.ref b679), (.ref b679)]
      refine XS.iload X687.here hx rfl (hb hby at_123) rfl ?_
      show Go p e below t T687 m 125 #[iv i0, iv i1, iv i2, iv i3, iv i4, iv (3 : Int32), iv (2 : Int32), iv mz, rv b479, rv ra_674, iv (nP2 i0 i1 i2), .unset, .unset] [(.int mz), (.double (FP.i2d (3 : Int32))), (.ref ra_674), (.ref b687), (.int (nP2 i0 i1 i2)), (.ref b679), (.ref b679)]
      exact k)
    obtain ⟨_, _, ⟨T690, L690, k690, n690⟩, -, X690, ⟨Lc690, hQ690, l690, y690, z690⟩, st690⟩ := X687.specialBack hx (y := (⟨"com/example/aristotle/aristotle/EliminationPlan$Step", "<init>", "(I[I[IDZ)V"⟩ : MethodName)) rfl hown (mvT hZ (hw _ (List.mem_of_getElem? (i := 10) rfl))) (mvT hZ (hw _ (List.mem_of_getElem? (i := 11) rfl))) (mvT hZ (hw _ (List.mem_of_getElem? (i := 12) rfl))) (by decide) (backOf (W := 1) (rm_ini l Z a0 hw [] b679 (nP2 i0 i1 i2) b687 ra_674 (FP.i2d (3 : Int32)) mz  h687 n0 (Nat.le_trans Z0 (Nat.le_trans (Nat.le_trans (Nat.le_trans (Nat.le_trans (Nat.le_trans (Nat.le_trans (Nat.le_trans (Nat.le_trans (Nat.le_refl _) E479.1) (Nat.le_of_eq W483.size.symm)) (Nat.le_of_eq W489.size.symm)) (Nat.le_of_eq W495.size.symm)) (Nat.le_of_eq W501.size.symm)) R674_0.1) E679.1) E687.1)) (A679.ext E687) ng679 (F679_680.ext E687) (F679_681.ext E687) (F679_682.ext E687) (F679_683.ext E687) (F679_684.ext E687)) hZ (hw _ (List.mem_of_getElem? (i := 12) rfl)) (hw _ (List.mem_of_getElem? (i := 9) rfl)) (by decide) (by decide)) (g := (mkF m 125 #[iv i0, iv i1, iv i2, iv i3, iv i4, iv (3 : Int32), iv (2 : Int32), iv mz, rv b479, rv ra_674, iv (nP2 i0 i1 i2), .unset, .unset] [(.int mz), (.double (FP.i2d (3 : Int32))), (.ref ra_674), (.ref b687), (.int (nP2 i0 i1 i2)), (.ref b679), (.ref b679)])) rfl (by rw [hml]; rfl) (Steps.refl _) (a := b679) (argsL := [(.int (nP2 i0 i1 i2)), (.ref b687), (.ref ra_674), (.double (FP.i2d (3 : Int32))), (.int mz)]) (rest := [(.ref b679)]) (lenOf pd1 rfl) rfl (by show 2 * 0 + _ ≤ _; exact Nat.le_of_eq rfl) (hb hby at_125) (fun _ _ => ⟨rfl, e687, (by decide : 4 + 0 ≤ _), (by decide : 12 + 0 ≤ _)⟩)
    dsimp only [Pt.U, Pt.locs, Pt.cells, Pt.slots] at X690 l690 y690 z690 st690 hQ690
    subst l690 y690 z690
    obtain ⟨rfl, N690, R690_0, R690_1, R690_2, R690_3, R690_4, R690_5, R690_6⟩ := hQ690
    have M690 := Fr.app M674 N690
    have g691 : Goes p e below S0 (T690.setTop (mkF m 128 #[iv i0, iv i1, iv i2, iv i3, iv i4, iv (3 : Int32), iv (2 : Int32), iv mz, rv b479, rv ra_674, iv (nP2 i0 i1 i2), .unset, .unset] [(.ref b679)])) := fun t k => g689 t (st690.trans k)
    have g692 : Goes p e below S0 (T690.setTop (mkF m 132 #[iv i0, iv i1, iv i2, iv i3, iv i4, iv (3 : Int32), iv (2 : Int32), iv mz, rv b479, rv ra_674, iv (nP2 i0 i1 i2), rv b679, .unset] [(.ref b679)])) := fun t k => g691 t (by
      refine XS.astore X690.here hx rfl (hb hby at_128) rfl rfl (l' := #[iv i0, iv i1, iv i2, iv i3, iv i4, iv (3 : Int32), iv (2 : Int32), iv mz, rv b479, rv ra_674, iv (nP2 i0 i1 i2), rv b679, .unset]) rfl ?_
      show Go p e below t T690 m 130 #[iv i0, iv i1, iv i2, iv i3, iv i4, iv (3 : Int32), iv (2 : Int32), iv mz, rv b479, rv ra_674, iv (nP2 i0 i1 i2), rv b679, .unset] []
      refine XS.aload X690.here hx rfl (hb hby at_130) rfl rfl ?_
      show Go p e below t T690 m 132 #[iv i0, iv i1, iv i2, iv i3, iv i4, iv (3 : Int32), iv (2 : Int32), iv mz, rv b479, rv ra_674, iv (nP2 i0 i1 i2), rv b679, .unset] [(.ref b679)]
      exact k)
    obtain ⟨cq693, kq693, q693a, q693b, q693c⟩ := isOf hZ rfl R690_1
    obtain ⟨_, _, ⟨T693, L693, k693, n693⟩, -, X693, ⟨Lc693, hQ693, l693, y693, z693⟩, st693⟩ := X690.virtualBack hx (y := (⟨"com/example/aristotle/aristotle/EliminationPlan$Step", "made", "()[I"⟩ : MethodName)) (z := (⟨"com/example/aristotle/aristotle/EliminationPlan$Step", "made", "()[I"⟩ : MethodName)) hown (mvT hZ (hw _ (List.mem_of_getElem? (i := 31) rfl))) (mvT hZ (hw _ (List.mem_of_getElem? (i := 32) rfl))) (notFace_of_selects (args := #[]) (mvT hZ (hw _ (List.mem_of_getElem? (i := 34) rfl)))) (mvT hZ (hw _ (List.mem_of_getElem? (i := 34) rfl))) (mvT hZ (hw _ (List.mem_of_getElem? (i := 33) rfl))) (by decide) (backOf (W := 0) (rm_md32 l Z a0 hw [] b679 ra_674 rk_674 (nP0 i0) (nP1 i0 i1) (nP2 i0 i1 i2) T690.heap n0 (Nat.le_trans Z0 (Nat.le_trans (Nat.le_trans (Nat.le_trans (Nat.le_trans (Nat.le_trans (Nat.le_trans (Nat.le_trans (Nat.le_trans (Nat.le_trans (Nat.le_refl _) E479.1) (Nat.le_of_eq W483.size.symm)) (Nat.le_of_eq W489.size.symm)) (Nat.le_of_eq W495.size.symm)) (Nat.le_of_eq W501.size.symm)) R674_0.1) E679.1) E687.1) R690_0.1)) R690_4 R690_2 (((R674_1.ext E679).ext E687).keep R690_0 (ninS (Nat.ne_of_lt (Nat.lt_of_lt_of_le R674_1.lt (Nat.le_of_eq gb679.symm))) nin0)) (own_ne02 i0 i1 i2 i3) (own_ne12 i0 i1 i2 i3)) hZ (hw _ (List.mem_of_getElem? (i := 35) rfl)) (hw _ (List.mem_of_getElem? (i := 9) rfl)) (by decide) (by decide)) q693a q693c (g := (mkF m 132 #[iv i0, iv i1, iv i2, iv i3, iv i4, iv (3 : Int32), iv (2 : Int32), iv mz, rv b479, rv ra_674, iv (nP2 i0 i1 i2), rv b679, .unset] [(.ref b679)])) rfl (by rw [hml]; rfl) (Steps.refl _) (argsL := []) (rest := []) (lenOf pd3 rfl) rfl (by show 2 * 0 + _ ≤ _; exact Nat.le_of_eq rfl) (hb hby at_132) (fun _ _ => ⟨rfl, rfl, (by decide : 4 + 1 ≤ _), (by decide : 12 + 2 ≤ _)⟩)
    dsimp only [Pt.U, Pt.locs, Pt.cells, Pt.slots] at X693 l693 y693 z693 st693 hQ693
    subst l693 y693 z693
    obtain ⟨ra_693, rk_693, rfl, N693, R693_0, R693_1, R693_2⟩ := hQ693
    have M693 := Fr.app M690 N693
    have sz693_2 : h0.size ≤ ra_693 := Nat.le_trans (Nat.le_trans (Nat.le_trans (Nat.le_trans (Nat.le_trans (Nat.le_trans (Nat.le_trans (Nat.le_trans (Nat.le_trans (Nat.le_trans (Nat.le_refl _) E479.1) (Nat.le_of_eq W483.size.symm)) (Nat.le_of_eq W489.size.symm)) (Nat.le_of_eq W495.size.symm)) (Nat.le_of_eq W501.size.symm)) R674_0.1) E679.1) E687.1) R690_0.1) R693_2
    have ng693_2 : n0 ≤ ra_693 := Nat.le_trans Z0 sz693_2
    have g694 : Goes p e below S0 (T693.setTop (mkF m 135 #[iv i0, iv i1, iv i2, iv i3, iv i4, iv (3 : Int32), iv (2 : Int32), iv mz, rv b479, rv ra_674, iv (nP2 i0 i1 i2), rv b679, .unset] [(.ref ra_693)])) := fun t k => g692 t (st693.trans k)
    have g695 : Goes p e below S0 (T693.setTop (mkF m 139 #[iv i0, iv i1, iv i2, iv i3, iv i4, iv (3 : Int32), iv (2 : Int32), iv mz, rv b479, rv ra_674, iv (nP2 i0 i1 i2), rv b679, rv ra_693] [(.ref ra_693)])) := fun t k => g694 t (by
      refine XS.astore X693.here hx rfl (hb hby at_135) rfl rfl (l' := #[iv i0, iv i1, iv i2, iv i3, iv i4, iv (3 : Int32), iv (2 : Int32), iv mz, rv b479, rv ra_674, iv (nP2 i0 i1 i2), rv b679, rv ra_693]) rfl ?_
      show Go p e below t T693 m 137 #[iv i0, iv i1, iv i2, iv i3, iv i4, iv (3 : Int32), iv (2 : Int32), iv mz, rv b479, rv ra_674, iv (nP2 i0 i1 i2), rv b679, rv ra_693] []
      refine XS.aload X693.here hx rfl (hb hby at_137) rfl rfl ?_
      show Go p e below t T693 m 139 #[iv i0, iv i1, iv i2, iv i3, iv i4, iv (3 : Int32), iv (2 : Int32), iv mz, rv b479, rv ra_674, iv (nP2 i0 i1 i2), rv b679, rv ra_693] [(.ref ra_693)]
      exact k)
    obtain ⟨cl696, Ar696, q696, S696, M696, H696, G696⟩ := id R693_1
    have g697 : Goes p e below S0 (T693.setTop (mkF m 156 #[iv i0, iv i1, iv i2, iv i3, iv i4, iv (3 : Int32), iv (2 : Int32), iv mz, rv b479, rv ra_674, iv (nP2 i0 i1 i2), rv b679, rv ra_693] [(.int (2 : Int32)), (.ref b479), (.int (0 : Int32)), (.ref ra_693)])) := fun t k => g695 t (by
      refine X693.arraylength hx Ar696.1 (State.isArrayOf_alike hZ.alike Ar696.2.1) (g := (mkF m 139 #[iv i0, iv i1, iv i2, iv i3, iv i4, iv (3 : Int32), iv (2 : Int32), iv mz, rv b479, rv ra_674, iv (nP2 i0 i1 i2), rv b679, rv ra_693] [(.ref ra_693)])) rfl rfl (hb hby at_139) _ ?_
      rw [len_of S696 M696]
      show Go p e below t T693 m 140 #[iv i0, iv i1, iv i2, iv i3, iv i4, iv (3 : Int32), iv (2 : Int32), iv mz, rv b479, rv ra_674, iv (nP2 i0 i1 i2), rv b679, rv ra_693] [(.int (2 : Int32))]
      refine XS.iload X693.here hx rfl (hb hby at_140) rfl ?_
      show Go p e below t T693 m 142 #[iv i0, iv i1, iv i2, iv i3, iv i4, iv (3 : Int32), iv (2 : Int32), iv mz, rv b479, rv ra_674, iv (nP2 i0 i1 i2), rv b679, rv ra_693] [(.int (3 : Int32)), (.int (2 : Int32))]
      refine XT.iconstV X693.here hx rfl (1 : Int32) (hb hby at_142) (by decide) ?_
      show Go p e below t T693 m 143 #[iv i0, iv i1, iv i2, iv i3, iv i4, iv (3 : Int32), iv (2 : Int32), iv mz, rv b479, rv ra_674, iv (nP2 i0 i1 i2), rv b679, rv ra_693] [(.int (1 : Int32)), (.int (3 : Int32)), (.int (2 : Int32))]
      refine XS.isub X693.here hx rfl (hb hby at_143) rfl ?_
      rw [show ((3 : Int32) - (1 : Int32)) = (2 : Int32) by decide]
      show Go p e below t T693 m 144 #[iv i0, iv i1, iv i2, iv i3, iv i4, iv (3 : Int32), iv (2 : Int32), iv mz, rv b479, rv ra_674, iv (nP2 i0 i1 i2), rv b679, rv ra_693] [(.int (2 : Int32)), (.int (2 : Int32))]
      refine XS.icmpYes X693.here hx rfl (pc0 := 144) (pc' := 149) rfl (hb hby at_144) rfl (XT.ii_eq_t (by decide)) (by decide) (by decide) ?_
      show Go p e below t T693 m 149 #[iv i0, iv i1, iv i2, iv i3, iv i4, iv (3 : Int32), iv (2 : Int32), iv mz, rv b479, rv ra_674, iv (nP2 i0 i1 i2), rv b679, rv ra_693] []
      refine XS.aload X693.here hx rfl (hb hby at_149) rfl rfl ?_
      show Go p e below t T693 m 151 #[iv i0, iv i1, iv i2, iv i3, iv i4, iv (3 : Int32), iv (2 : Int32), iv mz, rv b479, rv ra_674, iv (nP2 i0 i1 i2), rv b679, rv ra_693] [(.ref ra_693)]
      refine XT.iconstV X693.here hx rfl (0 : Int32) (hb hby at_151) (by decide) ?_
      show Go p e below t T693 m 152 #[iv i0, iv i1, iv i2, iv i3, iv i4, iv (3 : Int32), iv (2 : Int32), iv mz, rv b479, rv ra_674, iv (nP2 i0 i1 i2), rv b679, rv ra_693] [(.int (0 : Int32)), (.ref ra_693)]
      refine XS.aload X693.here hx rfl (hb hby at_152) rfl rfl ?_
      show Go p e below t T693 m 154 #[iv i0, iv i1, iv i2, iv i3, iv i4, iv (3 : Int32), iv (2 : Int32), iv mz, rv b479, rv ra_674, iv (nP2 i0 i1 i2), rv b679, rv ra_693] [(.ref b479), (.int (0 : Int32)), (.ref ra_693)]
      refine XS.iload X693.here hx rfl (hb hby at_154) rfl ?_
      show Go p e below t T693 m 156 #[iv i0, iv i1, iv i2, iv i3, iv i4, iv (3 : Int32), iv (2 : Int32), iv mz, rv b479, rv ra_674, iv (nP2 i0 i1 i2), rv b679, rv ra_693] [(.int (2 : Int32)), (.ref b479), (.int (0 : Int32)), (.ref ra_693)]
      exact k)
    obtain ⟨_, _, ⟨T698, L698, k698, n698⟩, -, X698, ⟨Lc698, hQ698, l698, y698, z698⟩, st698⟩ := Jvm.LawKit.callS X693 hx (y := (⟨"com/example/aristotle/aristotle/StepMadePinLaw", "check", "([II[II)Z"⟩ : MethodName)) hown (mvT hZ (hw _ (List.mem_of_getElem? (i := 36) rfl))) (mvT hZ (hw _ (List.mem_of_getElem? (i := 37) rfl))) (mvT hZ (hw _ (List.mem_of_getElem? (i := 5) rfl))) (mvT hZ (hw _ (List.mem_of_getElem? (i := 38) rfl))) (by decide) (backOf (W := 0) (rm_ck1 l Z a0 hw [] ra_693 (0 : Int32) b479 (2 : Int32) rk_693 (2 : Int32) [(.int (nP0 i0)), (.int (nP1 i0 i1))] (.int (0 : Int32)) k479 (4 : Int32) [(.int (nP0 i0)), (.int (nP1 i0 i1)), (.int (nP2 i0 i1 i2)), (.int (nP3 i0 i1 i2 i3))] (.int (0 : Int32)) (nP0 i0) T693.heap n0 (Nat.le_trans Z0 (Nat.le_trans (Nat.le_trans (Nat.le_trans (Nat.le_trans (Nat.le_trans (Nat.le_trans (Nat.le_trans (Nat.le_trans (Nat.le_trans (Nat.le_trans (Nat.le_refl _) E479.1) (Nat.le_of_eq W483.size.symm)) (Nat.le_of_eq W489.size.symm)) (Nat.le_of_eq W495.size.symm)) (Nat.le_of_eq W501.size.symm)) R674_0.1) E679.1) E687.1) R690_0.1) R693_0.1)) R693_1 (((((V501.keep R674_0 nin0).ext E679).ext E687).keep R690_0 (ninS (Nat.ne_of_lt (Nat.lt_of_lt_of_le (V501.keep R674_0 nin0).lt (Nat.le_of_eq gb679.symm))) nin0)).keep R693_0 nin0) (by decide) (by decide) (by decide) (by decide) rfl rfl) hZ (hw _ (List.mem_of_getElem? (i := 38) rfl)) (hw _ (List.mem_of_getElem? (i := 5) rfl)) (by decide) (by decide)) (g := (mkF m 156 #[iv i0, iv i1, iv i2, iv i3, iv i4, iv (3 : Int32), iv (2 : Int32), iv mz, rv b479, rv ra_674, iv (nP2 i0 i1 i2), rv b679, rv ra_693] [(.int (2 : Int32)), (.ref b479), (.int (0 : Int32)), (.ref ra_693)])) rfl (by rw [hml]; rfl) (argsL := [(.ref ra_693), (.int (0 : Int32)), (.ref b479), (.int (2 : Int32))]) (rest := []) (lenOf pd4 rfl) rfl (by show 2 * 0 + _ ≤ _; exact Nat.le_of_eq rfl) (hb hby at_156) (fun _ _ => ⟨rfl, rfl, (by decide : 5 + 0 ≤ _), (by decide : 14 + 0 ≤ _)⟩)
    dsimp only [Pt.U, Pt.locs, Pt.cells, Pt.slots] at X698 l698 y698 z698 st698 hQ698
    subst l698 y698 z698
    obtain ⟨rfl, N698, R698_0⟩ := hQ698
    have M698 := Fr.app M693 N698
    have g699 : Goes p e below S0 (T698.setTop (mkF m 159 #[iv i0, iv i1, iv i2, iv i3, iv i4, iv (3 : Int32), iv (2 : Int32), iv mz, rv b479, rv ra_674, iv (nP2 i0 i1 i2), rv b679, rv ra_693] [(.int (1 : Int32))])) := fun t k => g697 t (st698 t k)
    have g700 : Goes p e below S0 (T698.setTop (mkF m 169 #[iv i0, iv i1, iv i2, iv i3, iv i4, iv (3 : Int32), iv (2 : Int32), iv mz, rv b479, rv ra_674, iv (nP2 i0 i1 i2), rv b679, rv ra_693] [(.int (2 : Int32)), (.ref b479), (.int (1 : Int32)), (.ref ra_693)])) := fun t k => g699 t (by
      refine XS.ifNo X698.here hx rfl (hb hby at_159) rfl (XT.i0_eq_f (by decide)) ?_
      show Go p e below t T698 m 162 #[iv i0, iv i1, iv i2, iv i3, iv i4, iv (3 : Int32), iv (2 : Int32), iv mz, rv b479, rv ra_674, iv (nP2 i0 i1 i2), rv b679, rv ra_693] []
      refine XS.aload X698.here hx rfl (hb hby at_162) rfl rfl ?_
      show Go p e below t T698 m 164 #[iv i0, iv i1, iv i2, iv i3, iv i4, iv (3 : Int32), iv (2 : Int32), iv mz, rv b479, rv ra_674, iv (nP2 i0 i1 i2), rv b679, rv ra_693] [(.ref ra_693)]
      refine XT.iconstV X698.here hx rfl (1 : Int32) (hb hby at_164) (by decide) ?_
      show Go p e below t T698 m 165 #[iv i0, iv i1, iv i2, iv i3, iv i4, iv (3 : Int32), iv (2 : Int32), iv mz, rv b479, rv ra_674, iv (nP2 i0 i1 i2), rv b679, rv ra_693] [(.int (1 : Int32)), (.ref ra_693)]
      refine XS.aload X698.here hx rfl (hb hby at_165) rfl rfl ?_
      show Go p e below t T698 m 167 #[iv i0, iv i1, iv i2, iv i3, iv i4, iv (3 : Int32), iv (2 : Int32), iv mz, rv b479, rv ra_674, iv (nP2 i0 i1 i2), rv b679, rv ra_693] [(.ref b479), (.int (1 : Int32)), (.ref ra_693)]
      refine XS.iload X698.here hx rfl (hb hby at_167) rfl ?_
      show Go p e below t T698 m 169 #[iv i0, iv i1, iv i2, iv i3, iv i4, iv (3 : Int32), iv (2 : Int32), iv mz, rv b479, rv ra_674, iv (nP2 i0 i1 i2), rv b679, rv ra_693] [(.int (2 : Int32)), (.ref b479), (.int (1 : Int32)), (.ref ra_693)]
      exact k)
    obtain ⟨_, _, ⟨T701, L701, k701, n701⟩, -, X701, ⟨Lc701, hQ701, l701, y701, z701⟩, st701⟩ := Jvm.LawKit.callS X698 hx (y := (⟨"com/example/aristotle/aristotle/StepMadePinLaw", "check", "([II[II)Z"⟩ : MethodName)) hown (mvT hZ (hw _ (List.mem_of_getElem? (i := 36) rfl))) (mvT hZ (hw _ (List.mem_of_getElem? (i := 37) rfl))) (mvT hZ (hw _ (List.mem_of_getElem? (i := 5) rfl))) (mvT hZ (hw _ (List.mem_of_getElem? (i := 38) rfl))) (by decide) (backOf (W := 0) (rm_ck1 l Z a0 hw [] ra_693 (1 : Int32) b479 (2 : Int32) rk_693 (2 : Int32) [(.int (nP0 i0)), (.int (nP1 i0 i1))] (.int (0 : Int32)) k479 (4 : Int32) [(.int (nP0 i0)), (.int (nP1 i0 i1)), (.int (nP2 i0 i1 i2)), (.int (nP3 i0 i1 i2 i3))] (.int (0 : Int32)) (nP1 i0 i1) T693.heap n0 (Nat.le_trans Z0 (Nat.le_trans (Nat.le_trans (Nat.le_trans (Nat.le_trans (Nat.le_trans (Nat.le_trans (Nat.le_trans (Nat.le_trans (Nat.le_trans (Nat.le_trans (Nat.le_refl _) E479.1) (Nat.le_of_eq W483.size.symm)) (Nat.le_of_eq W489.size.symm)) (Nat.le_of_eq W495.size.symm)) (Nat.le_of_eq W501.size.symm)) R674_0.1) E679.1) E687.1) R690_0.1) R693_0.1)) R693_1 (((((V501.keep R674_0 nin0).ext E679).ext E687).keep R690_0 (ninS (Nat.ne_of_lt (Nat.lt_of_lt_of_le (V501.keep R674_0 nin0).lt (Nat.le_of_eq gb679.symm))) nin0)).keep R693_0 nin0) (by decide) (by decide) (by decide) (by decide) rfl rfl) hZ (hw _ (List.mem_of_getElem? (i := 38) rfl)) (hw _ (List.mem_of_getElem? (i := 5) rfl)) (by decide) (by decide)) (g := (mkF m 169 #[iv i0, iv i1, iv i2, iv i3, iv i4, iv (3 : Int32), iv (2 : Int32), iv mz, rv b479, rv ra_674, iv (nP2 i0 i1 i2), rv b679, rv ra_693] [(.int (2 : Int32)), (.ref b479), (.int (1 : Int32)), (.ref ra_693)])) rfl (by rw [hml]; rfl) (argsL := [(.ref ra_693), (.int (1 : Int32)), (.ref b479), (.int (2 : Int32))]) (rest := []) (lenOf pd4 rfl) rfl (by show 2 * 0 + _ ≤ _; exact Nat.le_of_eq rfl) (hb hby at_169) (fun _ _ => ⟨rfl, R698_0, (by decide : 5 + 0 ≤ _), (by decide : 14 + 0 ≤ _)⟩)
    dsimp only [Pt.U, Pt.locs, Pt.cells, Pt.slots] at X701 l701 y701 z701 st701 hQ701
    subst l701 y701 z701
    obtain ⟨rfl, N701, R701_0⟩ := hQ701
    have M701 := Fr.app M698 N701
    have g702 : Goes p e below S0 (T701.setTop (mkF m 172 #[iv i0, iv i1, iv i2, iv i3, iv i4, iv (3 : Int32), iv (2 : Int32), iv mz, rv b479, rv ra_674, iv (nP2 i0 i1 i2), rv b679, rv ra_693] [(.int (1 : Int32))])) := fun t k => g700 t (st701 t k)
    have g703 : Goes p e below S0 (T701.setTop (mkF m 182 #[iv i0, iv i1, iv i2, iv i3, iv i4, iv (3 : Int32), iv (2 : Int32), iv mz, rv b479, rv ra_674, iv (nP2 i0 i1 i2), rv b679, rv ra_693] [(.int (2 : Int32)), (.ref b479), (.int (2 : Int32)), (.ref ra_693)])) := fun t k => g702 t (by
      refine XS.ifNo X701.here hx rfl (hb hby at_172) rfl (XT.i0_eq_f (by decide)) ?_
      show Go p e below t T701 m 175 #[iv i0, iv i1, iv i2, iv i3, iv i4, iv (3 : Int32), iv (2 : Int32), iv mz, rv b479, rv ra_674, iv (nP2 i0 i1 i2), rv b679, rv ra_693] []
      refine XS.aload X701.here hx rfl (hb hby at_175) rfl rfl ?_
      show Go p e below t T701 m 177 #[iv i0, iv i1, iv i2, iv i3, iv i4, iv (3 : Int32), iv (2 : Int32), iv mz, rv b479, rv ra_674, iv (nP2 i0 i1 i2), rv b679, rv ra_693] [(.ref ra_693)]
      refine XT.iconstV X701.here hx rfl (2 : Int32) (hb hby at_177) (by decide) ?_
      show Go p e below t T701 m 178 #[iv i0, iv i1, iv i2, iv i3, iv i4, iv (3 : Int32), iv (2 : Int32), iv mz, rv b479, rv ra_674, iv (nP2 i0 i1 i2), rv b679, rv ra_693] [(.int (2 : Int32)), (.ref ra_693)]
      refine XS.aload X701.here hx rfl (hb hby at_178) rfl rfl ?_
      show Go p e below t T701 m 180 #[iv i0, iv i1, iv i2, iv i3, iv i4, iv (3 : Int32), iv (2 : Int32), iv mz, rv b479, rv ra_674, iv (nP2 i0 i1 i2), rv b679, rv ra_693] [(.ref b479), (.int (2 : Int32)), (.ref ra_693)]
      refine XS.iload X701.here hx rfl (hb hby at_180) rfl ?_
      show Go p e below t T701 m 182 #[iv i0, iv i1, iv i2, iv i3, iv i4, iv (3 : Int32), iv (2 : Int32), iv mz, rv b479, rv ra_674, iv (nP2 i0 i1 i2), rv b679, rv ra_693] [(.int (2 : Int32)), (.ref b479), (.int (2 : Int32)), (.ref ra_693)]
      exact k)
    obtain ⟨_, _, ⟨T704, L704, k704, n704⟩, -, X704, ⟨Lc704, hQ704, l704, y704, z704⟩, st704⟩ := Jvm.LawKit.callS X701 hx (y := (⟨"com/example/aristotle/aristotle/StepMadePinLaw", "check", "([II[II)Z"⟩ : MethodName)) hown (mvT hZ (hw _ (List.mem_of_getElem? (i := 36) rfl))) (mvT hZ (hw _ (List.mem_of_getElem? (i := 37) rfl))) (mvT hZ (hw _ (List.mem_of_getElem? (i := 5) rfl))) (mvT hZ (hw _ (List.mem_of_getElem? (i := 38) rfl))) (by decide) (backOf (W := 0) (rm_ck0 l Z a0 hw [] ra_693 (2 : Int32) b479 (2 : Int32) rk_693 (2 : Int32) [(.int (nP0 i0)), (.int (nP1 i0 i1))] (.int (0 : Int32)) T693.heap n0 (Nat.le_trans Z0 (Nat.le_trans (Nat.le_trans (Nat.le_trans (Nat.le_trans (Nat.le_trans (Nat.le_trans (Nat.le_trans (Nat.le_trans (Nat.le_trans (Nat.le_trans (Nat.le_refl _) E479.1) (Nat.le_of_eq W483.size.symm)) (Nat.le_of_eq W489.size.symm)) (Nat.le_of_eq W495.size.symm)) (Nat.le_of_eq W501.size.symm)) R674_0.1) E679.1) E687.1) R690_0.1) R693_0.1)) R693_1 (by decide)) hZ (hw _ (List.mem_of_getElem? (i := 38) rfl)) (hw _ (List.mem_of_getElem? (i := 5) rfl)) (by decide) (by decide)) (g := (mkF m 182 #[iv i0, iv i1, iv i2, iv i3, iv i4, iv (3 : Int32), iv (2 : Int32), iv mz, rv b479, rv ra_674, iv (nP2 i0 i1 i2), rv b679, rv ra_693] [(.int (2 : Int32)), (.ref b479), (.int (2 : Int32)), (.ref ra_693)])) rfl (by rw [hml]; rfl) (argsL := [(.ref ra_693), (.int (2 : Int32)), (.ref b479), (.int (2 : Int32))]) (rest := []) (lenOf pd4 rfl) rfl (by show 2 * 0 + _ ≤ _; exact Nat.le_of_eq rfl) (hb hby at_182) (fun _ _ => ⟨rfl, R701_0, (by decide : 5 + 0 ≤ _), (by decide : 14 + 0 ≤ _)⟩)
    dsimp only [Pt.U, Pt.locs, Pt.cells, Pt.slots] at X704 l704 y704 z704 st704 hQ704
    subst l704 y704 z704
    obtain ⟨rfl, N704, R704_0⟩ := hQ704
    have M704 := Fr.app M701 N704
    have g705 : Goes p e below S0 (T704.setTop (mkF m 185 #[iv i0, iv i1, iv i2, iv i3, iv i4, iv (3 : Int32), iv (2 : Int32), iv mz, rv b479, rv ra_674, iv (nP2 i0 i1 i2), rv b679, rv ra_693] [(.int (1 : Int32))])) := fun t k => g703 t (st704 t k)
    have g706 : Goes p e below S0 (T704.setTop (mkF m 193 #[iv i0, iv i1, iv i2, iv i3, iv i4, iv (3 : Int32), iv (2 : Int32), iv mz, rv b479, rv ra_674, iv (nP2 i0 i1 i2), rv b679, rv ra_693] [(.int (1 : Int32))])) := fun t k => g705 t (by
      refine XS.ifNo X704.here hx rfl (hb hby at_185) rfl (XT.i0_eq_f (by decide)) ?_
      show Go p e below t T704 m 188 #[iv i0, iv i1, iv i2, iv i3, iv i4, iv (3 : Int32), iv (2 : Int32), iv mz, rv b479, rv ra_674, iv (nP2 i0 i1 i2), rv b679, rv ra_693] []
      refine XT.iconstV X704.here hx rfl (1 : Int32) (hb hby at_188) (by decide) ?_
      show Go p e below t T704 m 189 #[iv i0, iv i1, iv i2, iv i3, iv i4, iv (3 : Int32), iv (2 : Int32), iv mz, rv b479, rv ra_674, iv (nP2 i0 i1 i2), rv b679, rv ra_693] [(.int (1 : Int32))]
      refine XS.goto X704.here hx rfl (pc0 := 189) (pc' := 193) rfl (hb hby at_189) (by decide) (by decide) ?_
      show Go p e below t T704 m 193 #[iv i0, iv i1, iv i2, iv i3, iv i4, iv (3 : Int32), iv (2 : Int32), iv mz, rv b479, rv ra_674, iv (nP2 i0 i1 i2), rv b679, rv ra_693] [(.int (1 : Int32))]
      exact k)
    obtain ⟨fs, hr, hrun, hended, hW, hsame⟩ := X704.leave (v := some (.int (1 : Int32))) (fun h => by rw [Bd.returns] at h; cases h)
    refine ⟨_, _, g706 _ (retN X704 hx (t := .boolean) Bd.returns (by simp) (hb hby at_193) hr), hrun, hended, _, _, rfl, ?_, ⟨_, rfl⟩, hW, hsame.mono (by decide) (by decide)⟩
    show Q_law Z i0 i1 i2 i3 i4  h0 n0 _ T704.heap _
    rw [R704_0]
    exact ⟨rfl, M704⟩
  · skip
    have g707 : Goes p e below S0 (T501.setTop (mkF m 97 #[iv i0, iv i1, iv i2, iv i3, iv i4, iv (4 : Int32), iv (0 : Int32), iv mz, rv b479, .unset, .unset, .unset, .unset] [(.int (4 : Int32)), (.ref b479)])) := fun t k => g502 t (by
      refine XS.aload X501.here hx rfl (hb hby at_93) rfl rfl ?_
      show Go p e below t T501 m 95 #[iv i0, iv i1, iv i2, iv i3, iv i4, iv (4 : Int32), iv (0 : Int32), iv mz, rv b479, .unset, .unset, .unset, .unset] [(.ref b479)]
      refine XS.iload X501.here hx rfl (hb hby at_95) rfl ?_
      show Go p e below t T501 m 97 #[iv i0, iv i1, iv i2, iv i3, iv i4, iv (4 : Int32), iv (0 : Int32), iv mz, rv b479, .unset, .unset, .unset, .unset] [(.int (4 : Int32)), (.ref b479)]
      exact k)
    obtain ⟨_, _, ⟨T708, L708, k708, n708⟩, -, X708, ⟨Lc708, hQ708, l708, y708, z708⟩, st708⟩ := Jvm.LawKit.callS X501 hx (y := (⟨"com/example/aristotle/aristotle/StepMadePinLaw", "prefix", "([II)[I"⟩ : MethodName)) hown (mvT hZ (hw _ (List.mem_of_getElem? (i := 3) rfl))) (mvT hZ (hw _ (List.mem_of_getElem? (i := 4) rfl))) (mvT hZ (hw _ (List.mem_of_getElem? (i := 5) rfl))) (mvT hZ (hw _ (List.mem_of_getElem? (i := 6) rfl))) (by decide) (backOf (W := 0) (rm_pr4 l Z a0 hw [] b479 (4 : Int32) k479 (nP0 i0) (nP1 i0 i1) (nP2 i0 i1 i2) (nP3 i0 i1 i2 i3) h501 n0 (Nat.le_trans Z0 (Nat.le_trans (Nat.le_trans (Nat.le_trans (Nat.le_trans (Nat.le_trans (Nat.le_refl _) E479.1) (Nat.le_of_eq W483.size.symm)) (Nat.le_of_eq W489.size.symm)) (Nat.le_of_eq W495.size.symm)) (Nat.le_of_eq W501.size.symm))) V501 rfl) hZ (hw _ (List.mem_of_getElem? (i := 6) rfl)) (hw _ (List.mem_of_getElem? (i := 5) rfl)) (by decide) (by decide)) (g := (mkF m 97 #[iv i0, iv i1, iv i2, iv i3, iv i4, iv (4 : Int32), iv (0 : Int32), iv mz, rv b479, .unset, .unset, .unset, .unset] [(.int (4 : Int32)), (.ref b479)])) rfl (by rw [hml]; rfl) (argsL := [(.ref b479), (.int (4 : Int32))]) (rest := []) (lenOf pd2 rfl) rfl (by show 2 * 0 + _ ≤ _; exact Nat.le_of_eq rfl) (hb hby at_97) (fun _ _ => ⟨rfl, e501, (by decide : 1 + 1 ≤ _), (by decide : 4 + 4 ≤ _)⟩)
    dsimp only [Pt.U, Pt.locs, Pt.cells, Pt.slots] at X708 l708 y708 z708 st708 hQ708
    subst l708 y708 z708
    obtain ⟨ra_708, rk_708, rfl, N708, R708_0, R708_1, R708_2⟩ := hQ708
    have M708 := Fr.app N501 N708
    have sz708_2 : h0.size ≤ ra_708 := Nat.le_trans (Nat.le_trans (Nat.le_trans (Nat.le_trans (Nat.le_trans (Nat.le_trans (Nat.le_refl _) E479.1) (Nat.le_of_eq W483.size.symm)) (Nat.le_of_eq W489.size.symm)) (Nat.le_of_eq W495.size.symm)) (Nat.le_of_eq W501.size.symm)) R708_2
    have ng708_2 : n0 ≤ ra_708 := Nat.le_trans Z0 sz708_2
    have g709 : Goes p e below S0 (T708.setTop (mkF m 100 #[iv i0, iv i1, iv i2, iv i3, iv i4, iv (4 : Int32), iv (0 : Int32), iv mz, rv b479, .unset, .unset, .unset, .unset] [(.ref ra_708)])) := fun t k => g707 t (st708 t k)
    have g710 : Goes p e below S0 (T708.setTop (mkF m 106 #[iv i0, iv i1, iv i2, iv i3, iv i4, iv (4 : Int32), iv (0 : Int32), iv mz, rv b479, rv ra_708, .unset, .unset, .unset] [(.int (0 : Int32)), (.ref b479)])) := fun t k => g709 t (by
      refine XS.astore X708.here hx rfl (hb hby at_100) rfl rfl (l' := #[iv i0, iv i1, iv i2, iv i3, iv i4, iv (4 : Int32), iv (0 : Int32), iv mz, rv b479, rv ra_708, .unset, .unset, .unset]) rfl ?_
      show Go p e below t T708 m 102 #[iv i0, iv i1, iv i2, iv i3, iv i4, iv (4 : Int32), iv (0 : Int32), iv mz, rv b479, rv ra_708, .unset, .unset, .unset] []
      refine XS.aload X708.here hx rfl (hb hby at_102) rfl rfl ?_
      show Go p e below t T708 m 104 #[iv i0, iv i1, iv i2, iv i3, iv i4, iv (4 : Int32), iv (0 : Int32), iv mz, rv b479, rv ra_708, .unset, .unset, .unset] [(.ref b479)]
      refine XS.iload X708.here hx rfl (hb hby at_104) rfl ?_
      show Go p e below t T708 m 106 #[iv i0, iv i1, iv i2, iv i3, iv i4, iv (4 : Int32), iv (0 : Int32), iv mz, rv b479, rv ra_708, .unset, .unset, .unset] [(.int (0 : Int32)), (.ref b479)]
      exact k)
    obtain ⟨cl711, Ar711, q711, S711, M711, H711, G711⟩ := id (V501.keep R708_0 nin0)
    have g712 : Goes p e below S0 (T708.setTop (mkF m 109 #[iv i0, iv i1, iv i2, iv i3, iv i4, iv (4 : Int32), iv (0 : Int32), iv mz, rv b479, rv ra_708, iv (nP0 i0), .unset, .unset] [])) := fun t k => g710 t (by
      refine X708.iaload hx (j := (0 : Int32)) (v := (.int (nP0 i0))) Ar711.1 (State.isArrayOf_alike hZ.alike Ar711.2.1) Ar711.2.2 (inb_of S711 ⟨by decide, by decide⟩) (H711.at (inb_of S711 ⟨by decide, by decide⟩) rfl) (g := (mkF m 106 #[iv i0, iv i1, iv i2, iv i3, iv i4, iv (4 : Int32), iv (0 : Int32), iv mz, rv b479, rv ra_708, .unset, .unset, .unset] [(.int (0 : Int32)), (.ref b479)])) rfl rfl (hb hby at_106) _ ?_
      show Go p e below t T708 m 107 #[iv i0, iv i1, iv i2, iv i3, iv i4, iv (4 : Int32), iv (0 : Int32), iv mz, rv b479, rv ra_708, .unset, .unset, .unset] [(.int (nP0 i0))]
      refine XS.istore X708.here hx rfl (hb hby at_107) rfl (l' := #[iv i0, iv i1, iv i2, iv i3, iv i4, iv (4 : Int32), iv (0 : Int32), iv mz, rv b479, rv ra_708, iv (nP0 i0), .unset, .unset]) rfl ?_
      show Go p e below t T708 m 109 #[iv i0, iv i1, iv i2, iv i3, iv i4, iv (4 : Int32), iv (0 : Int32), iv mz, rv b479, rv ra_708, iv (nP0 i0), .unset, .unset] []
      exact k)
    obtain ⟨T713, h713, X713, e713, E713, A713, D713, -, st713⟩ := newO X708 hx hZ hown (hw _ (List.mem_of_getElem? (i := 7) rfl)) (hw _ (List.mem_of_getElem? (i := 8) rfl)) (hw _ (List.mem_of_getElem? (i := 9) rfl)) rfl (g := (mkF m 109 #[iv i0, iv i1, iv i2, iv i3, iv i4, iv (4 : Int32), iv (0 : Int32), iv mz, rv b479, rv ra_708, iv (nP0 i0), .unset, .unset] [])) rfl (hb hby at_109) (by decide) (by decide)
    obtain ⟨b713, gb713⟩ : ∃ z, z = T708.heap.size := ⟨_, rfl⟩
    have sz713 : h0.size ≤ b713 := Nat.le_trans (Nat.le_trans (Nat.le_trans (Nat.le_trans (Nat.le_trans (Nat.le_trans (Nat.le_trans (Nat.le_refl _) E479.1) (Nat.le_of_eq W483.size.symm)) (Nat.le_of_eq W489.size.symm)) (Nat.le_of_eq W495.size.symm)) (Nat.le_of_eq W501.size.symm)) R708_0.1) (Nat.le_of_eq gb713.symm)
    have ng713 : n0 ≤ b713 := Nat.le_trans Z0 sz713
    rw [← gb713] at A713 D713 st713
    have F713_714 : Fld Z h713 b713 "com/example/aristotle/aristotle/EliminationPlan$Step" "variable" "I" (.int (0 : Int32)) := D713 (Or.inr (hw _ (List.mem_of_getElem? (i := 22) rfl))) (ty := .int) (by decide)
    have F713_715 : Fld Z h713 b713 "com/example/aristotle/aristotle/EliminationPlan$Step" "tables" "[I" .null := D713 (Or.inr (hw _ (List.mem_of_getElem? (i := 24) rfl))) (ty := (.array .int)) (by decide)
    have F713_716 : Fld Z h713 b713 "com/example/aristotle/aristotle/EliminationPlan$Step" "product" "[I" .null := D713 (Or.inr (hw _ (List.mem_of_getElem? (i := 26) rfl))) (ty := (.array .int)) (by decide)
    have F713_717 : Fld Z h713 b713 "com/example/aristotle/aristotle/EliminationPlan$Step" "entries" "D" (.double (0 : UInt64)) := D713 (Or.inr (hw _ (List.mem_of_getElem? (i := 28) rfl))) (ty := .double) (by decide)
    have F713_718 : Fld Z h713 b713 "com/example/aristotle/aristotle/EliminationPlan$Step" "makes" "Z" (.int (0 : Int32)) := D713 (Or.inr (hw _ (List.mem_of_getElem? (i := 30) rfl))) (ty := .boolean) (by decide)
    have g719 : Goes p e below S0 (T713.setTop (mkF m 112 #[iv i0, iv i1, iv i2, iv i3, iv i4, iv (4 : Int32), iv (0 : Int32), iv mz, rv b479, rv ra_708, iv (nP0 i0), .unset, .unset] [(.ref b713)])) := fun t k => g712 t (st713 t k)
    have g720 : Goes p e below S0 (T713.setTop (mkF m 116 #[iv i0, iv i1, iv i2, iv i3, iv i4, iv (4 : Int32), iv (0 : Int32), iv mz, rv b479, rv ra_708, iv (nP0 i0), .unset, .unset] [(.int (0 : Int32)), (.int (nP0 i0)), (.ref b713), (.ref b713)])) := fun t k => g719 t (by
      refine XS.dup X713.here hx rfl (hb hby at_112) rfl rfl ?_
      show Go p e below t T713 m 113 #[iv i0, iv i1, iv i2, iv i3, iv i4, iv (4 : Int32), iv (0 : Int32), iv mz, rv b479, rv ra_708, iv (nP0 i0), .unset, .unset] [(.ref b713), (.ref b713)]
      refine XS.iload X713.here hx rfl (hb hby at_113) rfl ?_
      show Go p e below t T713 m 115 #[iv i0, iv i1, iv i2, iv i3, iv i4, iv (4 : Int32), iv (0 : Int32), iv mz, rv b479, rv ra_708, iv (nP0 i0), .unset, .unset] [(.int (nP0 i0)), (.ref b713), (.ref b713)]
      refine XT.iconstV X713.here hx rfl (0 : Int32) (hb hby at_115) (by decide) ?_
      show Go p e below t T713 m 116 #[iv i0, iv i1, iv i2, iv i3, iv i4, iv (4 : Int32), iv (0 : Int32), iv mz, rv b479, rv ra_708, iv (nP0 i0), .unset, .unset] [(.int (0 : Int32)), (.int (nP0 i0)), (.ref b713), (.ref b713)]
      exact k)
    obtain ⟨T721, h721, k721, X721, e721, E721, A721, st721⟩ := newP X713 hx hZ (hw _ (List.mem_of_getElem? (i := 1) rfl)) e713 (g := (mkF m 116 #[iv i0, iv i1, iv i2, iv i3, iv i4, iv (4 : Int32), iv (0 : Int32), iv mz, rv b479, rv ra_708, iv (nP0 i0), .unset, .unset] [(.int (0 : Int32)), (.int (nP0 i0)), (.ref b713), (.ref b713)])) rfl (hb hby at_116) rfl (by decide) (cap := 0) (by decide) (by decide) (by decide) (by decide)
    obtain ⟨b721, gb721⟩ : ∃ z, z = h713.size := ⟨_, rfl⟩
    have sz721 : h0.size ≤ b721 := Nat.le_trans (Nat.le_trans (Nat.le_trans (Nat.le_trans (Nat.le_trans (Nat.le_trans (Nat.le_trans (Nat.le_trans (Nat.le_refl _) E479.1) (Nat.le_of_eq W483.size.symm)) (Nat.le_of_eq W489.size.symm)) (Nat.le_of_eq W495.size.symm)) (Nat.le_of_eq W501.size.symm)) R708_0.1) E713.1) (Nat.le_of_eq gb721.symm)
    have ng721 : n0 ≤ b721 := Nat.le_trans Z0 sz721
    rw [← gb721] at A721 st721
    have V721 : Arv Z h721 b721 k721 .int (0 : Int32) [] (.int (0 : Int32)) := (Arv.new A721 (by decide)).pad (pad_rep [] (.int (0 : Int32)) 0)
    have g722 : Goes p e below S0 (T721.setTop (mkF m 118 #[iv i0, iv i1, iv i2, iv i3, iv i4, iv (4 : Int32), iv (0 : Int32), iv mz, rv b479, rv ra_708, iv (nP0 i0), .unset, .unset] [(.ref b721), (.int (nP0 i0)), (.ref b713), (.ref b713)])) := fun t k => g720 t (st721 t k)
    have g723 : Goes p e below S0 (T721.setTop (mkF m 125 #[iv i0, iv i1, iv i2, iv i3, iv i4, iv (4 : Int32), iv (0 : Int32), iv mz, rv b479, rv ra_708, iv (nP0 i0), .unset, .unset] [(.int mz), (.double (FP.i2d (4 : Int32))), (.ref ra_708), (.ref b721), (.int (nP0 i0)), (.ref b713), (.ref b713)])) := fun t k => g722 t (by
      refine XS.aload X721.here hx rfl (hb hby at_118) rfl rfl ?_
      show Go p e below t T721 m 120 #[iv i0, iv i1, iv i2, iv i3, iv i4, iv (4 : Int32), iv (0 : Int32), iv mz, rv b479, rv ra_708, iv (nP0 i0), .unset, .unset] [(.ref ra_708), (.ref b721), (.int (nP0 i0)), (.ref b713), (.ref b713)]
      refine XS.iload X721.here hx rfl (hb hby at_120) rfl ?_
      show Go p e below t T721 m 122 #[iv i0, iv i1, iv i2, iv i3, iv i4, iv (4 : Int32), iv (0 : Int32), iv mz, rv b479, rv ra_708, iv (nP0 i0), .unset, .unset] [(.int (4 : Int32)), (.ref ra_708), (.ref b721), (.int (nP0 i0)), (.ref b713), (.ref b713)]
      refine XS.i2dS X721.here hx rfl (hb hby at_122) rfl rfl ?_
      show Go p e below t T721 m 123 #[iv i0, iv i1, iv i2, iv i3, iv i4, iv (4 : Int32), iv (0 : Int32), iv mz, rv b479, rv ra_708, iv (nP0 i0), .unset, .unset] [(.double (FP.i2d (4 : Int32))), (.ref ra_708), (.ref b721), (.int (nP0 i0)), (.ref b713), (.ref b713)]
      refine XS.iload X721.here hx rfl (hb hby at_123) rfl ?_
      show Go p e below t T721 m 125 #[iv i0, iv i1, iv i2, iv i3, iv i4, iv (4 : Int32), iv (0 : Int32), iv mz, rv b479, rv ra_708, iv (nP0 i0), .unset, .unset] [(.int mz), (.double (FP.i2d (4 : Int32))), (.ref ra_708), (.ref b721), (.int (nP0 i0)), (.ref b713), (.ref b713)]
      exact k)
    obtain ⟨_, _, ⟨T724, L724, k724, n724⟩, -, X724, ⟨Lc724, hQ724, l724, y724, z724⟩, st724⟩ := X721.specialBack hx (y := (⟨"com/example/aristotle/aristotle/EliminationPlan$Step", "<init>", "(I[I[IDZ)V"⟩ : MethodName)) rfl hown (mvT hZ (hw _ (List.mem_of_getElem? (i := 10) rfl))) (mvT hZ (hw _ (List.mem_of_getElem? (i := 11) rfl))) (mvT hZ (hw _ (List.mem_of_getElem? (i := 12) rfl))) (by decide) (backOf (W := 1) (rm_ini l Z a0 hw [] b713 (nP0 i0) b721 ra_708 (FP.i2d (4 : Int32)) mz  h721 n0 (Nat.le_trans Z0 (Nat.le_trans (Nat.le_trans (Nat.le_trans (Nat.le_trans (Nat.le_trans (Nat.le_trans (Nat.le_trans (Nat.le_trans (Nat.le_refl _) E479.1) (Nat.le_of_eq W483.size.symm)) (Nat.le_of_eq W489.size.symm)) (Nat.le_of_eq W495.size.symm)) (Nat.le_of_eq W501.size.symm)) R708_0.1) E713.1) E721.1)) (A713.ext E721) ng713 (F713_714.ext E721) (F713_715.ext E721) (F713_716.ext E721) (F713_717.ext E721) (F713_718.ext E721)) hZ (hw _ (List.mem_of_getElem? (i := 12) rfl)) (hw _ (List.mem_of_getElem? (i := 9) rfl)) (by decide) (by decide)) (g := (mkF m 125 #[iv i0, iv i1, iv i2, iv i3, iv i4, iv (4 : Int32), iv (0 : Int32), iv mz, rv b479, rv ra_708, iv (nP0 i0), .unset, .unset] [(.int mz), (.double (FP.i2d (4 : Int32))), (.ref ra_708), (.ref b721), (.int (nP0 i0)), (.ref b713), (.ref b713)])) rfl (by rw [hml]; rfl) (Steps.refl _) (a := b713) (argsL := [(.int (nP0 i0)), (.ref b721), (.ref ra_708), (.double (FP.i2d (4 : Int32))), (.int mz)]) (rest := [(.ref b713)]) (lenOf pd1 rfl) rfl (by show 2 * 0 + _ ≤ _; exact Nat.le_of_eq rfl) (hb hby at_125) (fun _ _ => ⟨rfl, e721, (by decide : 4 + 0 ≤ _), (by decide : 13 + 0 ≤ _)⟩)
    dsimp only [Pt.U, Pt.locs, Pt.cells, Pt.slots] at X724 l724 y724 z724 st724 hQ724
    subst l724 y724 z724
    obtain ⟨rfl, N724, R724_0, R724_1, R724_2, R724_3, R724_4, R724_5, R724_6⟩ := hQ724
    have M724 := Fr.app M708 N724
    have g725 : Goes p e below S0 (T724.setTop (mkF m 128 #[iv i0, iv i1, iv i2, iv i3, iv i4, iv (4 : Int32), iv (0 : Int32), iv mz, rv b479, rv ra_708, iv (nP0 i0), .unset, .unset] [(.ref b713)])) := fun t k => g723 t (st724.trans k)
    have g726 : Goes p e below S0 (T724.setTop (mkF m 132 #[iv i0, iv i1, iv i2, iv i3, iv i4, iv (4 : Int32), iv (0 : Int32), iv mz, rv b479, rv ra_708, iv (nP0 i0), rv b713, .unset] [(.ref b713)])) := fun t k => g725 t (by
      refine XS.astore X724.here hx rfl (hb hby at_128) rfl rfl (l' := #[iv i0, iv i1, iv i2, iv i3, iv i4, iv (4 : Int32), iv (0 : Int32), iv mz, rv b479, rv ra_708, iv (nP0 i0), rv b713, .unset]) rfl ?_
      show Go p e below t T724 m 130 #[iv i0, iv i1, iv i2, iv i3, iv i4, iv (4 : Int32), iv (0 : Int32), iv mz, rv b479, rv ra_708, iv (nP0 i0), rv b713, .unset] []
      refine XS.aload X724.here hx rfl (hb hby at_130) rfl rfl ?_
      show Go p e below t T724 m 132 #[iv i0, iv i1, iv i2, iv i3, iv i4, iv (4 : Int32), iv (0 : Int32), iv mz, rv b479, rv ra_708, iv (nP0 i0), rv b713, .unset] [(.ref b713)]
      exact k)
    obtain ⟨cq727, kq727, q727a, q727b, q727c⟩ := isOf hZ rfl R724_1
    obtain ⟨_, _, ⟨T727, L727, k727, n727⟩, -, X727, ⟨Lc727, hQ727, l727, y727, z727⟩, st727⟩ := X724.virtualBack hx (y := (⟨"com/example/aristotle/aristotle/EliminationPlan$Step", "made", "()[I"⟩ : MethodName)) (z := (⟨"com/example/aristotle/aristotle/EliminationPlan$Step", "made", "()[I"⟩ : MethodName)) hown (mvT hZ (hw _ (List.mem_of_getElem? (i := 31) rfl))) (mvT hZ (hw _ (List.mem_of_getElem? (i := 32) rfl))) (notFace_of_selects (args := #[]) (mvT hZ (hw _ (List.mem_of_getElem? (i := 34) rfl)))) (mvT hZ (hw _ (List.mem_of_getElem? (i := 34) rfl))) (mvT hZ (hw _ (List.mem_of_getElem? (i := 33) rfl))) (by decide) (backOf (W := 0) (rm_md40 l Z a0 hw [] b713 ra_708 rk_708 (nP0 i0) (nP1 i0 i1) (nP2 i0 i1 i2) (nP3 i0 i1 i2 i3) T724.heap n0 (Nat.le_trans Z0 (Nat.le_trans (Nat.le_trans (Nat.le_trans (Nat.le_trans (Nat.le_trans (Nat.le_trans (Nat.le_trans (Nat.le_trans (Nat.le_trans (Nat.le_refl _) E479.1) (Nat.le_of_eq W483.size.symm)) (Nat.le_of_eq W489.size.symm)) (Nat.le_of_eq W495.size.symm)) (Nat.le_of_eq W501.size.symm)) R708_0.1) E713.1) E721.1) R724_0.1)) R724_4 R724_2 (((R708_1.ext E713).ext E721).keep R724_0 (ninS (Nat.ne_of_lt (Nat.lt_of_lt_of_le R708_1.lt (Nat.le_of_eq gb713.symm))) nin0)) (own_ne10 i0 i1 i2 i3) (own_ne20 i0 i1 i2 i3) (own_ne30 i0 i1 i2 i3)) hZ (hw _ (List.mem_of_getElem? (i := 35) rfl)) (hw _ (List.mem_of_getElem? (i := 9) rfl)) (by decide) (by decide)) q727a q727c (g := (mkF m 132 #[iv i0, iv i1, iv i2, iv i3, iv i4, iv (4 : Int32), iv (0 : Int32), iv mz, rv b479, rv ra_708, iv (nP0 i0), rv b713, .unset] [(.ref b713)])) rfl (by rw [hml]; rfl) (Steps.refl _) (argsL := []) (rest := []) (lenOf pd3 rfl) rfl (by show 2 * 0 + _ ≤ _; exact Nat.le_of_eq rfl) (hb hby at_132) (fun _ _ => ⟨rfl, rfl, (by decide : 4 + 1 ≤ _), (by decide : 13 + 3 ≤ _)⟩)
    dsimp only [Pt.U, Pt.locs, Pt.cells, Pt.slots] at X727 l727 y727 z727 st727 hQ727
    subst l727 y727 z727
    obtain ⟨ra_727, rk_727, rfl, N727, R727_0, R727_1, R727_2⟩ := hQ727
    have M727 := Fr.app M724 N727
    have sz727_2 : h0.size ≤ ra_727 := Nat.le_trans (Nat.le_trans (Nat.le_trans (Nat.le_trans (Nat.le_trans (Nat.le_trans (Nat.le_trans (Nat.le_trans (Nat.le_trans (Nat.le_trans (Nat.le_refl _) E479.1) (Nat.le_of_eq W483.size.symm)) (Nat.le_of_eq W489.size.symm)) (Nat.le_of_eq W495.size.symm)) (Nat.le_of_eq W501.size.symm)) R708_0.1) E713.1) E721.1) R724_0.1) R727_2
    have ng727_2 : n0 ≤ ra_727 := Nat.le_trans Z0 sz727_2
    have g728 : Goes p e below S0 (T727.setTop (mkF m 135 #[iv i0, iv i1, iv i2, iv i3, iv i4, iv (4 : Int32), iv (0 : Int32), iv mz, rv b479, rv ra_708, iv (nP0 i0), rv b713, .unset] [(.ref ra_727)])) := fun t k => g726 t (st727.trans k)
    have g729 : Goes p e below S0 (T727.setTop (mkF m 139 #[iv i0, iv i1, iv i2, iv i3, iv i4, iv (4 : Int32), iv (0 : Int32), iv mz, rv b479, rv ra_708, iv (nP0 i0), rv b713, rv ra_727] [(.ref ra_727)])) := fun t k => g728 t (by
      refine XS.astore X727.here hx rfl (hb hby at_135) rfl rfl (l' := #[iv i0, iv i1, iv i2, iv i3, iv i4, iv (4 : Int32), iv (0 : Int32), iv mz, rv b479, rv ra_708, iv (nP0 i0), rv b713, rv ra_727]) rfl ?_
      show Go p e below t T727 m 137 #[iv i0, iv i1, iv i2, iv i3, iv i4, iv (4 : Int32), iv (0 : Int32), iv mz, rv b479, rv ra_708, iv (nP0 i0), rv b713, rv ra_727] []
      refine XS.aload X727.here hx rfl (hb hby at_137) rfl rfl ?_
      show Go p e below t T727 m 139 #[iv i0, iv i1, iv i2, iv i3, iv i4, iv (4 : Int32), iv (0 : Int32), iv mz, rv b479, rv ra_708, iv (nP0 i0), rv b713, rv ra_727] [(.ref ra_727)]
      exact k)
    obtain ⟨cl730, Ar730, q730, S730, M730, H730, G730⟩ := id R727_1
    have g731 : Goes p e below S0 (T727.setTop (mkF m 156 #[iv i0, iv i1, iv i2, iv i3, iv i4, iv (4 : Int32), iv (0 : Int32), iv mz, rv b479, rv ra_708, iv (nP0 i0), rv b713, rv ra_727] [(.int (0 : Int32)), (.ref b479), (.int (0 : Int32)), (.ref ra_727)])) := fun t k => g729 t (by
      refine X727.arraylength hx Ar730.1 (State.isArrayOf_alike hZ.alike Ar730.2.1) (g := (mkF m 139 #[iv i0, iv i1, iv i2, iv i3, iv i4, iv (4 : Int32), iv (0 : Int32), iv mz, rv b479, rv ra_708, iv (nP0 i0), rv b713, rv ra_727] [(.ref ra_727)])) rfl rfl (hb hby at_139) _ ?_
      rw [len_of S730 M730]
      show Go p e below t T727 m 140 #[iv i0, iv i1, iv i2, iv i3, iv i4, iv (4 : Int32), iv (0 : Int32), iv mz, rv b479, rv ra_708, iv (nP0 i0), rv b713, rv ra_727] [(.int (3 : Int32))]
      refine XS.iload X727.here hx rfl (hb hby at_140) rfl ?_
      show Go p e below t T727 m 142 #[iv i0, iv i1, iv i2, iv i3, iv i4, iv (4 : Int32), iv (0 : Int32), iv mz, rv b479, rv ra_708, iv (nP0 i0), rv b713, rv ra_727] [(.int (4 : Int32)), (.int (3 : Int32))]
      refine XT.iconstV X727.here hx rfl (1 : Int32) (hb hby at_142) (by decide) ?_
      show Go p e below t T727 m 143 #[iv i0, iv i1, iv i2, iv i3, iv i4, iv (4 : Int32), iv (0 : Int32), iv mz, rv b479, rv ra_708, iv (nP0 i0), rv b713, rv ra_727] [(.int (1 : Int32)), (.int (4 : Int32)), (.int (3 : Int32))]
      refine XS.isub X727.here hx rfl (hb hby at_143) rfl ?_
      rw [show ((4 : Int32) - (1 : Int32)) = (3 : Int32) by decide]
      show Go p e below t T727 m 144 #[iv i0, iv i1, iv i2, iv i3, iv i4, iv (4 : Int32), iv (0 : Int32), iv mz, rv b479, rv ra_708, iv (nP0 i0), rv b713, rv ra_727] [(.int (3 : Int32)), (.int (3 : Int32))]
      refine XS.icmpYes X727.here hx rfl (pc0 := 144) (pc' := 149) rfl (hb hby at_144) rfl (XT.ii_eq_t (by decide)) (by decide) (by decide) ?_
      show Go p e below t T727 m 149 #[iv i0, iv i1, iv i2, iv i3, iv i4, iv (4 : Int32), iv (0 : Int32), iv mz, rv b479, rv ra_708, iv (nP0 i0), rv b713, rv ra_727] []
      refine XS.aload X727.here hx rfl (hb hby at_149) rfl rfl ?_
      show Go p e below t T727 m 151 #[iv i0, iv i1, iv i2, iv i3, iv i4, iv (4 : Int32), iv (0 : Int32), iv mz, rv b479, rv ra_708, iv (nP0 i0), rv b713, rv ra_727] [(.ref ra_727)]
      refine XT.iconstV X727.here hx rfl (0 : Int32) (hb hby at_151) (by decide) ?_
      show Go p e below t T727 m 152 #[iv i0, iv i1, iv i2, iv i3, iv i4, iv (4 : Int32), iv (0 : Int32), iv mz, rv b479, rv ra_708, iv (nP0 i0), rv b713, rv ra_727] [(.int (0 : Int32)), (.ref ra_727)]
      refine XS.aload X727.here hx rfl (hb hby at_152) rfl rfl ?_
      show Go p e below t T727 m 154 #[iv i0, iv i1, iv i2, iv i3, iv i4, iv (4 : Int32), iv (0 : Int32), iv mz, rv b479, rv ra_708, iv (nP0 i0), rv b713, rv ra_727] [(.ref b479), (.int (0 : Int32)), (.ref ra_727)]
      refine XS.iload X727.here hx rfl (hb hby at_154) rfl ?_
      show Go p e below t T727 m 156 #[iv i0, iv i1, iv i2, iv i3, iv i4, iv (4 : Int32), iv (0 : Int32), iv mz, rv b479, rv ra_708, iv (nP0 i0), rv b713, rv ra_727] [(.int (0 : Int32)), (.ref b479), (.int (0 : Int32)), (.ref ra_727)]
      exact k)
    obtain ⟨_, _, ⟨T732, L732, k732, n732⟩, -, X732, ⟨Lc732, hQ732, l732, y732, z732⟩, st732⟩ := Jvm.LawKit.callS X727 hx (y := (⟨"com/example/aristotle/aristotle/StepMadePinLaw", "check", "([II[II)Z"⟩ : MethodName)) hown (mvT hZ (hw _ (List.mem_of_getElem? (i := 36) rfl))) (mvT hZ (hw _ (List.mem_of_getElem? (i := 37) rfl))) (mvT hZ (hw _ (List.mem_of_getElem? (i := 5) rfl))) (mvT hZ (hw _ (List.mem_of_getElem? (i := 38) rfl))) (by decide) (backOf (W := 0) (rm_ck2 l Z a0 hw [] ra_727 (0 : Int32) b479 (0 : Int32) rk_727 (3 : Int32) [(.int (nP1 i0 i1)), (.int (nP2 i0 i1 i2)), (.int (nP3 i0 i1 i2 i3))] (.int (0 : Int32)) k479 (4 : Int32) [(.int (nP0 i0)), (.int (nP1 i0 i1)), (.int (nP2 i0 i1 i2)), (.int (nP3 i0 i1 i2 i3))] (.int (0 : Int32)) (nP1 i0 i1) T727.heap n0 (Nat.le_trans Z0 (Nat.le_trans (Nat.le_trans (Nat.le_trans (Nat.le_trans (Nat.le_trans (Nat.le_trans (Nat.le_trans (Nat.le_trans (Nat.le_trans (Nat.le_trans (Nat.le_refl _) E479.1) (Nat.le_of_eq W483.size.symm)) (Nat.le_of_eq W489.size.symm)) (Nat.le_of_eq W495.size.symm)) (Nat.le_of_eq W501.size.symm)) R708_0.1) E713.1) E721.1) R724_0.1) R727_0.1)) R727_1 (((((V501.keep R708_0 nin0).ext E713).ext E721).keep R724_0 (ninS (Nat.ne_of_lt (Nat.lt_of_lt_of_le (V501.keep R708_0 nin0).lt (Nat.le_of_eq gb713.symm))) nin0)).keep R727_0 nin0) (by decide) (by decide) (by decide) (by decide) rfl rfl) hZ (hw _ (List.mem_of_getElem? (i := 38) rfl)) (hw _ (List.mem_of_getElem? (i := 5) rfl)) (by decide) (by decide)) (g := (mkF m 156 #[iv i0, iv i1, iv i2, iv i3, iv i4, iv (4 : Int32), iv (0 : Int32), iv mz, rv b479, rv ra_708, iv (nP0 i0), rv b713, rv ra_727] [(.int (0 : Int32)), (.ref b479), (.int (0 : Int32)), (.ref ra_727)])) rfl (by rw [hml]; rfl) (argsL := [(.ref ra_727), (.int (0 : Int32)), (.ref b479), (.int (0 : Int32))]) (rest := []) (lenOf pd4 rfl) rfl (by show 2 * 0 + _ ≤ _; exact Nat.le_of_eq rfl) (hb hby at_156) (fun _ _ => ⟨rfl, rfl, (by decide : 5 + 0 ≤ _), (by decide : 16 + 0 ≤ _)⟩)
    dsimp only [Pt.U, Pt.locs, Pt.cells, Pt.slots] at X732 l732 y732 z732 st732 hQ732
    subst l732 y732 z732
    obtain ⟨rfl, N732, R732_0⟩ := hQ732
    have M732 := Fr.app M727 N732
    have g733 : Goes p e below S0 (T732.setTop (mkF m 159 #[iv i0, iv i1, iv i2, iv i3, iv i4, iv (4 : Int32), iv (0 : Int32), iv mz, rv b479, rv ra_708, iv (nP0 i0), rv b713, rv ra_727] [(.int (1 : Int32))])) := fun t k => g731 t (st732 t k)
    have g734 : Goes p e below S0 (T732.setTop (mkF m 169 #[iv i0, iv i1, iv i2, iv i3, iv i4, iv (4 : Int32), iv (0 : Int32), iv mz, rv b479, rv ra_708, iv (nP0 i0), rv b713, rv ra_727] [(.int (0 : Int32)), (.ref b479), (.int (1 : Int32)), (.ref ra_727)])) := fun t k => g733 t (by
      refine XS.ifNo X732.here hx rfl (hb hby at_159) rfl (XT.i0_eq_f (by decide)) ?_
      show Go p e below t T732 m 162 #[iv i0, iv i1, iv i2, iv i3, iv i4, iv (4 : Int32), iv (0 : Int32), iv mz, rv b479, rv ra_708, iv (nP0 i0), rv b713, rv ra_727] []
      refine XS.aload X732.here hx rfl (hb hby at_162) rfl rfl ?_
      show Go p e below t T732 m 164 #[iv i0, iv i1, iv i2, iv i3, iv i4, iv (4 : Int32), iv (0 : Int32), iv mz, rv b479, rv ra_708, iv (nP0 i0), rv b713, rv ra_727] [(.ref ra_727)]
      refine XT.iconstV X732.here hx rfl (1 : Int32) (hb hby at_164) (by decide) ?_
      show Go p e below t T732 m 165 #[iv i0, iv i1, iv i2, iv i3, iv i4, iv (4 : Int32), iv (0 : Int32), iv mz, rv b479, rv ra_708, iv (nP0 i0), rv b713, rv ra_727] [(.int (1 : Int32)), (.ref ra_727)]
      refine XS.aload X732.here hx rfl (hb hby at_165) rfl rfl ?_
      show Go p e below t T732 m 167 #[iv i0, iv i1, iv i2, iv i3, iv i4, iv (4 : Int32), iv (0 : Int32), iv mz, rv b479, rv ra_708, iv (nP0 i0), rv b713, rv ra_727] [(.ref b479), (.int (1 : Int32)), (.ref ra_727)]
      refine XS.iload X732.here hx rfl (hb hby at_167) rfl ?_
      show Go p e below t T732 m 169 #[iv i0, iv i1, iv i2, iv i3, iv i4, iv (4 : Int32), iv (0 : Int32), iv mz, rv b479, rv ra_708, iv (nP0 i0), rv b713, rv ra_727] [(.int (0 : Int32)), (.ref b479), (.int (1 : Int32)), (.ref ra_727)]
      exact k)
    obtain ⟨_, _, ⟨T735, L735, k735, n735⟩, -, X735, ⟨Lc735, hQ735, l735, y735, z735⟩, st735⟩ := Jvm.LawKit.callS X732 hx (y := (⟨"com/example/aristotle/aristotle/StepMadePinLaw", "check", "([II[II)Z"⟩ : MethodName)) hown (mvT hZ (hw _ (List.mem_of_getElem? (i := 36) rfl))) (mvT hZ (hw _ (List.mem_of_getElem? (i := 37) rfl))) (mvT hZ (hw _ (List.mem_of_getElem? (i := 5) rfl))) (mvT hZ (hw _ (List.mem_of_getElem? (i := 38) rfl))) (by decide) (backOf (W := 0) (rm_ck2 l Z a0 hw [] ra_727 (1 : Int32) b479 (0 : Int32) rk_727 (3 : Int32) [(.int (nP1 i0 i1)), (.int (nP2 i0 i1 i2)), (.int (nP3 i0 i1 i2 i3))] (.int (0 : Int32)) k479 (4 : Int32) [(.int (nP0 i0)), (.int (nP1 i0 i1)), (.int (nP2 i0 i1 i2)), (.int (nP3 i0 i1 i2 i3))] (.int (0 : Int32)) (nP2 i0 i1 i2) T727.heap n0 (Nat.le_trans Z0 (Nat.le_trans (Nat.le_trans (Nat.le_trans (Nat.le_trans (Nat.le_trans (Nat.le_trans (Nat.le_trans (Nat.le_trans (Nat.le_trans (Nat.le_trans (Nat.le_refl _) E479.1) (Nat.le_of_eq W483.size.symm)) (Nat.le_of_eq W489.size.symm)) (Nat.le_of_eq W495.size.symm)) (Nat.le_of_eq W501.size.symm)) R708_0.1) E713.1) E721.1) R724_0.1) R727_0.1)) R727_1 (((((V501.keep R708_0 nin0).ext E713).ext E721).keep R724_0 (ninS (Nat.ne_of_lt (Nat.lt_of_lt_of_le (V501.keep R708_0 nin0).lt (Nat.le_of_eq gb713.symm))) nin0)).keep R727_0 nin0) (by decide) (by decide) (by decide) (by decide) rfl rfl) hZ (hw _ (List.mem_of_getElem? (i := 38) rfl)) (hw _ (List.mem_of_getElem? (i := 5) rfl)) (by decide) (by decide)) (g := (mkF m 169 #[iv i0, iv i1, iv i2, iv i3, iv i4, iv (4 : Int32), iv (0 : Int32), iv mz, rv b479, rv ra_708, iv (nP0 i0), rv b713, rv ra_727] [(.int (0 : Int32)), (.ref b479), (.int (1 : Int32)), (.ref ra_727)])) rfl (by rw [hml]; rfl) (argsL := [(.ref ra_727), (.int (1 : Int32)), (.ref b479), (.int (0 : Int32))]) (rest := []) (lenOf pd4 rfl) rfl (by show 2 * 0 + _ ≤ _; exact Nat.le_of_eq rfl) (hb hby at_169) (fun _ _ => ⟨rfl, R732_0, (by decide : 5 + 0 ≤ _), (by decide : 16 + 0 ≤ _)⟩)
    dsimp only [Pt.U, Pt.locs, Pt.cells, Pt.slots] at X735 l735 y735 z735 st735 hQ735
    subst l735 y735 z735
    obtain ⟨rfl, N735, R735_0⟩ := hQ735
    have M735 := Fr.app M732 N735
    have g736 : Goes p e below S0 (T735.setTop (mkF m 172 #[iv i0, iv i1, iv i2, iv i3, iv i4, iv (4 : Int32), iv (0 : Int32), iv mz, rv b479, rv ra_708, iv (nP0 i0), rv b713, rv ra_727] [(.int (1 : Int32))])) := fun t k => g734 t (st735 t k)
    have g737 : Goes p e below S0 (T735.setTop (mkF m 182 #[iv i0, iv i1, iv i2, iv i3, iv i4, iv (4 : Int32), iv (0 : Int32), iv mz, rv b479, rv ra_708, iv (nP0 i0), rv b713, rv ra_727] [(.int (0 : Int32)), (.ref b479), (.int (2 : Int32)), (.ref ra_727)])) := fun t k => g736 t (by
      refine XS.ifNo X735.here hx rfl (hb hby at_172) rfl (XT.i0_eq_f (by decide)) ?_
      show Go p e below t T735 m 175 #[iv i0, iv i1, iv i2, iv i3, iv i4, iv (4 : Int32), iv (0 : Int32), iv mz, rv b479, rv ra_708, iv (nP0 i0), rv b713, rv ra_727] []
      refine XS.aload X735.here hx rfl (hb hby at_175) rfl rfl ?_
      show Go p e below t T735 m 177 #[iv i0, iv i1, iv i2, iv i3, iv i4, iv (4 : Int32), iv (0 : Int32), iv mz, rv b479, rv ra_708, iv (nP0 i0), rv b713, rv ra_727] [(.ref ra_727)]
      refine XT.iconstV X735.here hx rfl (2 : Int32) (hb hby at_177) (by decide) ?_
      show Go p e below t T735 m 178 #[iv i0, iv i1, iv i2, iv i3, iv i4, iv (4 : Int32), iv (0 : Int32), iv mz, rv b479, rv ra_708, iv (nP0 i0), rv b713, rv ra_727] [(.int (2 : Int32)), (.ref ra_727)]
      refine XS.aload X735.here hx rfl (hb hby at_178) rfl rfl ?_
      show Go p e below t T735 m 180 #[iv i0, iv i1, iv i2, iv i3, iv i4, iv (4 : Int32), iv (0 : Int32), iv mz, rv b479, rv ra_708, iv (nP0 i0), rv b713, rv ra_727] [(.ref b479), (.int (2 : Int32)), (.ref ra_727)]
      refine XS.iload X735.here hx rfl (hb hby at_180) rfl ?_
      show Go p e below t T735 m 182 #[iv i0, iv i1, iv i2, iv i3, iv i4, iv (4 : Int32), iv (0 : Int32), iv mz, rv b479, rv ra_708, iv (nP0 i0), rv b713, rv ra_727] [(.int (0 : Int32)), (.ref b479), (.int (2 : Int32)), (.ref ra_727)]
      exact k)
    obtain ⟨_, _, ⟨T738, L738, k738, n738⟩, -, X738, ⟨Lc738, hQ738, l738, y738, z738⟩, st738⟩ := Jvm.LawKit.callS X735 hx (y := (⟨"com/example/aristotle/aristotle/StepMadePinLaw", "check", "([II[II)Z"⟩ : MethodName)) hown (mvT hZ (hw _ (List.mem_of_getElem? (i := 36) rfl))) (mvT hZ (hw _ (List.mem_of_getElem? (i := 37) rfl))) (mvT hZ (hw _ (List.mem_of_getElem? (i := 5) rfl))) (mvT hZ (hw _ (List.mem_of_getElem? (i := 38) rfl))) (by decide) (backOf (W := 0) (rm_ck2 l Z a0 hw [] ra_727 (2 : Int32) b479 (0 : Int32) rk_727 (3 : Int32) [(.int (nP1 i0 i1)), (.int (nP2 i0 i1 i2)), (.int (nP3 i0 i1 i2 i3))] (.int (0 : Int32)) k479 (4 : Int32) [(.int (nP0 i0)), (.int (nP1 i0 i1)), (.int (nP2 i0 i1 i2)), (.int (nP3 i0 i1 i2 i3))] (.int (0 : Int32)) (nP3 i0 i1 i2 i3) T727.heap n0 (Nat.le_trans Z0 (Nat.le_trans (Nat.le_trans (Nat.le_trans (Nat.le_trans (Nat.le_trans (Nat.le_trans (Nat.le_trans (Nat.le_trans (Nat.le_trans (Nat.le_trans (Nat.le_refl _) E479.1) (Nat.le_of_eq W483.size.symm)) (Nat.le_of_eq W489.size.symm)) (Nat.le_of_eq W495.size.symm)) (Nat.le_of_eq W501.size.symm)) R708_0.1) E713.1) E721.1) R724_0.1) R727_0.1)) R727_1 (((((V501.keep R708_0 nin0).ext E713).ext E721).keep R724_0 (ninS (Nat.ne_of_lt (Nat.lt_of_lt_of_le (V501.keep R708_0 nin0).lt (Nat.le_of_eq gb713.symm))) nin0)).keep R727_0 nin0) (by decide) (by decide) (by decide) (by decide) rfl rfl) hZ (hw _ (List.mem_of_getElem? (i := 38) rfl)) (hw _ (List.mem_of_getElem? (i := 5) rfl)) (by decide) (by decide)) (g := (mkF m 182 #[iv i0, iv i1, iv i2, iv i3, iv i4, iv (4 : Int32), iv (0 : Int32), iv mz, rv b479, rv ra_708, iv (nP0 i0), rv b713, rv ra_727] [(.int (0 : Int32)), (.ref b479), (.int (2 : Int32)), (.ref ra_727)])) rfl (by rw [hml]; rfl) (argsL := [(.ref ra_727), (.int (2 : Int32)), (.ref b479), (.int (0 : Int32))]) (rest := []) (lenOf pd4 rfl) rfl (by show 2 * 0 + _ ≤ _; exact Nat.le_of_eq rfl) (hb hby at_182) (fun _ _ => ⟨rfl, R735_0, (by decide : 5 + 0 ≤ _), (by decide : 16 + 0 ≤ _)⟩)
    dsimp only [Pt.U, Pt.locs, Pt.cells, Pt.slots] at X738 l738 y738 z738 st738 hQ738
    subst l738 y738 z738
    obtain ⟨rfl, N738, R738_0⟩ := hQ738
    have M738 := Fr.app M735 N738
    have g739 : Goes p e below S0 (T738.setTop (mkF m 185 #[iv i0, iv i1, iv i2, iv i3, iv i4, iv (4 : Int32), iv (0 : Int32), iv mz, rv b479, rv ra_708, iv (nP0 i0), rv b713, rv ra_727] [(.int (1 : Int32))])) := fun t k => g737 t (st738 t k)
    have g740 : Goes p e below S0 (T738.setTop (mkF m 193 #[iv i0, iv i1, iv i2, iv i3, iv i4, iv (4 : Int32), iv (0 : Int32), iv mz, rv b479, rv ra_708, iv (nP0 i0), rv b713, rv ra_727] [(.int (1 : Int32))])) := fun t k => g739 t (by
      refine XS.ifNo X738.here hx rfl (hb hby at_185) rfl (XT.i0_eq_f (by decide)) ?_
      show Go p e below t T738 m 188 #[iv i0, iv i1, iv i2, iv i3, iv i4, iv (4 : Int32), iv (0 : Int32), iv mz, rv b479, rv ra_708, iv (nP0 i0), rv b713, rv ra_727] []
      refine XT.iconstV X738.here hx rfl (1 : Int32) (hb hby at_188) (by decide) ?_
      show Go p e below t T738 m 189 #[iv i0, iv i1, iv i2, iv i3, iv i4, iv (4 : Int32), iv (0 : Int32), iv mz, rv b479, rv ra_708, iv (nP0 i0), rv b713, rv ra_727] [(.int (1 : Int32))]
      refine XS.goto X738.here hx rfl (pc0 := 189) (pc' := 193) rfl (hb hby at_189) (by decide) (by decide) ?_
      show Go p e below t T738 m 193 #[iv i0, iv i1, iv i2, iv i3, iv i4, iv (4 : Int32), iv (0 : Int32), iv mz, rv b479, rv ra_708, iv (nP0 i0), rv b713, rv ra_727] [(.int (1 : Int32))]
      exact k)
    obtain ⟨fs, hr, hrun, hended, hW, hsame⟩ := X738.leave (v := some (.int (1 : Int32))) (fun h => by rw [Bd.returns] at h; cases h)
    refine ⟨_, _, g740 _ (retN X738 hx (t := .boolean) Bd.returns (by simp) (hb hby at_193) hr), hrun, hended, _, _, rfl, ?_, ⟨_, rfl⟩, hW, hsame.mono (by decide) (by decide)⟩
    show Q_law Z i0 i1 i2 i3 i4  h0 n0 _ T738.heap _
    rw [R738_0]
    exact ⟨rfl, M738⟩
  · skip
    have g741 : Goes p e below S0 (T501.setTop (mkF m 97 #[iv i0, iv i1, iv i2, iv i3, iv i4, iv (4 : Int32), iv (1 : Int32), iv mz, rv b479, .unset, .unset, .unset, .unset] [(.int (4 : Int32)), (.ref b479)])) := fun t k => g502 t (by
      refine XS.aload X501.here hx rfl (hb hby at_93) rfl rfl ?_
      show Go p e below t T501 m 95 #[iv i0, iv i1, iv i2, iv i3, iv i4, iv (4 : Int32), iv (1 : Int32), iv mz, rv b479, .unset, .unset, .unset, .unset] [(.ref b479)]
      refine XS.iload X501.here hx rfl (hb hby at_95) rfl ?_
      show Go p e below t T501 m 97 #[iv i0, iv i1, iv i2, iv i3, iv i4, iv (4 : Int32), iv (1 : Int32), iv mz, rv b479, .unset, .unset, .unset, .unset] [(.int (4 : Int32)), (.ref b479)]
      exact k)
    obtain ⟨_, _, ⟨T742, L742, k742, n742⟩, -, X742, ⟨Lc742, hQ742, l742, y742, z742⟩, st742⟩ := Jvm.LawKit.callS X501 hx (y := (⟨"com/example/aristotle/aristotle/StepMadePinLaw", "prefix", "([II)[I"⟩ : MethodName)) hown (mvT hZ (hw _ (List.mem_of_getElem? (i := 3) rfl))) (mvT hZ (hw _ (List.mem_of_getElem? (i := 4) rfl))) (mvT hZ (hw _ (List.mem_of_getElem? (i := 5) rfl))) (mvT hZ (hw _ (List.mem_of_getElem? (i := 6) rfl))) (by decide) (backOf (W := 0) (rm_pr4 l Z a0 hw [] b479 (4 : Int32) k479 (nP0 i0) (nP1 i0 i1) (nP2 i0 i1 i2) (nP3 i0 i1 i2 i3) h501 n0 (Nat.le_trans Z0 (Nat.le_trans (Nat.le_trans (Nat.le_trans (Nat.le_trans (Nat.le_trans (Nat.le_refl _) E479.1) (Nat.le_of_eq W483.size.symm)) (Nat.le_of_eq W489.size.symm)) (Nat.le_of_eq W495.size.symm)) (Nat.le_of_eq W501.size.symm))) V501 rfl) hZ (hw _ (List.mem_of_getElem? (i := 6) rfl)) (hw _ (List.mem_of_getElem? (i := 5) rfl)) (by decide) (by decide)) (g := (mkF m 97 #[iv i0, iv i1, iv i2, iv i3, iv i4, iv (4 : Int32), iv (1 : Int32), iv mz, rv b479, .unset, .unset, .unset, .unset] [(.int (4 : Int32)), (.ref b479)])) rfl (by rw [hml]; rfl) (argsL := [(.ref b479), (.int (4 : Int32))]) (rest := []) (lenOf pd2 rfl) rfl (by show 2 * 0 + _ ≤ _; exact Nat.le_of_eq rfl) (hb hby at_97) (fun _ _ => ⟨rfl, e501, (by decide : 1 + 1 ≤ _), (by decide : 4 + 4 ≤ _)⟩)
    dsimp only [Pt.U, Pt.locs, Pt.cells, Pt.slots] at X742 l742 y742 z742 st742 hQ742
    subst l742 y742 z742
    obtain ⟨ra_742, rk_742, rfl, N742, R742_0, R742_1, R742_2⟩ := hQ742
    have M742 := Fr.app N501 N742
    have sz742_2 : h0.size ≤ ra_742 := Nat.le_trans (Nat.le_trans (Nat.le_trans (Nat.le_trans (Nat.le_trans (Nat.le_trans (Nat.le_refl _) E479.1) (Nat.le_of_eq W483.size.symm)) (Nat.le_of_eq W489.size.symm)) (Nat.le_of_eq W495.size.symm)) (Nat.le_of_eq W501.size.symm)) R742_2
    have ng742_2 : n0 ≤ ra_742 := Nat.le_trans Z0 sz742_2
    have g743 : Goes p e below S0 (T742.setTop (mkF m 100 #[iv i0, iv i1, iv i2, iv i3, iv i4, iv (4 : Int32), iv (1 : Int32), iv mz, rv b479, .unset, .unset, .unset, .unset] [(.ref ra_742)])) := fun t k => g741 t (st742 t k)
    have g744 : Goes p e below S0 (T742.setTop (mkF m 106 #[iv i0, iv i1, iv i2, iv i3, iv i4, iv (4 : Int32), iv (1 : Int32), iv mz, rv b479, rv ra_742, .unset, .unset, .unset] [(.int (1 : Int32)), (.ref b479)])) := fun t k => g743 t (by
      refine XS.astore X742.here hx rfl (hb hby at_100) rfl rfl (l' := #[iv i0, iv i1, iv i2, iv i3, iv i4, iv (4 : Int32), iv (1 : Int32), iv mz, rv b479, rv ra_742, .unset, .unset, .unset]) rfl ?_
      show Go p e below t T742 m 102 #[iv i0, iv i1, iv i2, iv i3, iv i4, iv (4 : Int32), iv (1 : Int32), iv mz, rv b479, rv ra_742, .unset, .unset, .unset] []
      refine XS.aload X742.here hx rfl (hb hby at_102) rfl rfl ?_
      show Go p e below t T742 m 104 #[iv i0, iv i1, iv i2, iv i3, iv i4, iv (4 : Int32), iv (1 : Int32), iv mz, rv b479, rv ra_742, .unset, .unset, .unset] [(.ref b479)]
      refine XS.iload X742.here hx rfl (hb hby at_104) rfl ?_
      show Go p e below t T742 m 106 #[iv i0, iv i1, iv i2, iv i3, iv i4, iv (4 : Int32), iv (1 : Int32), iv mz, rv b479, rv ra_742, .unset, .unset, .unset] [(.int (1 : Int32)), (.ref b479)]
      exact k)
    obtain ⟨cl745, Ar745, q745, S745, M745, H745, G745⟩ := id (V501.keep R742_0 nin0)
    have g746 : Goes p e below S0 (T742.setTop (mkF m 109 #[iv i0, iv i1, iv i2, iv i3, iv i4, iv (4 : Int32), iv (1 : Int32), iv mz, rv b479, rv ra_742, iv (nP1 i0 i1), .unset, .unset] [])) := fun t k => g744 t (by
      refine X742.iaload hx (j := (1 : Int32)) (v := (.int (nP1 i0 i1))) Ar745.1 (State.isArrayOf_alike hZ.alike Ar745.2.1) Ar745.2.2 (inb_of S745 ⟨by decide, by decide⟩) (H745.at (inb_of S745 ⟨by decide, by decide⟩) rfl) (g := (mkF m 106 #[iv i0, iv i1, iv i2, iv i3, iv i4, iv (4 : Int32), iv (1 : Int32), iv mz, rv b479, rv ra_742, .unset, .unset, .unset] [(.int (1 : Int32)), (.ref b479)])) rfl rfl (hb hby at_106) _ ?_
      show Go p e below t T742 m 107 #[iv i0, iv i1, iv i2, iv i3, iv i4, iv (4 : Int32), iv (1 : Int32), iv mz, rv b479, rv ra_742, .unset, .unset, .unset] [(.int (nP1 i0 i1))]
      refine XS.istore X742.here hx rfl (hb hby at_107) rfl (l' := #[iv i0, iv i1, iv i2, iv i3, iv i4, iv (4 : Int32), iv (1 : Int32), iv mz, rv b479, rv ra_742, iv (nP1 i0 i1), .unset, .unset]) rfl ?_
      show Go p e below t T742 m 109 #[iv i0, iv i1, iv i2, iv i3, iv i4, iv (4 : Int32), iv (1 : Int32), iv mz, rv b479, rv ra_742, iv (nP1 i0 i1), .unset, .unset] []
      exact k)
    obtain ⟨T747, h747, X747, e747, E747, A747, D747, -, st747⟩ := newO X742 hx hZ hown (hw _ (List.mem_of_getElem? (i := 7) rfl)) (hw _ (List.mem_of_getElem? (i := 8) rfl)) (hw _ (List.mem_of_getElem? (i := 9) rfl)) rfl (g := (mkF m 109 #[iv i0, iv i1, iv i2, iv i3, iv i4, iv (4 : Int32), iv (1 : Int32), iv mz, rv b479, rv ra_742, iv (nP1 i0 i1), .unset, .unset] [])) rfl (hb hby at_109) (by decide) (by decide)
    obtain ⟨b747, gb747⟩ : ∃ z, z = T742.heap.size := ⟨_, rfl⟩
    have sz747 : h0.size ≤ b747 := Nat.le_trans (Nat.le_trans (Nat.le_trans (Nat.le_trans (Nat.le_trans (Nat.le_trans (Nat.le_trans (Nat.le_refl _) E479.1) (Nat.le_of_eq W483.size.symm)) (Nat.le_of_eq W489.size.symm)) (Nat.le_of_eq W495.size.symm)) (Nat.le_of_eq W501.size.symm)) R742_0.1) (Nat.le_of_eq gb747.symm)
    have ng747 : n0 ≤ b747 := Nat.le_trans Z0 sz747
    rw [← gb747] at A747 D747 st747
    have F747_748 : Fld Z h747 b747 "com/example/aristotle/aristotle/EliminationPlan$Step" "variable" "I" (.int (0 : Int32)) := D747 (Or.inr (hw _ (List.mem_of_getElem? (i := 22) rfl))) (ty := .int) (by decide)
    have F747_749 : Fld Z h747 b747 "com/example/aristotle/aristotle/EliminationPlan$Step" "tables" "[I" .null := D747 (Or.inr (hw _ (List.mem_of_getElem? (i := 24) rfl))) (ty := (.array .int)) (by decide)
    have F747_750 : Fld Z h747 b747 "com/example/aristotle/aristotle/EliminationPlan$Step" "product" "[I" .null := D747 (Or.inr (hw _ (List.mem_of_getElem? (i := 26) rfl))) (ty := (.array .int)) (by decide)
    have F747_751 : Fld Z h747 b747 "com/example/aristotle/aristotle/EliminationPlan$Step" "entries" "D" (.double (0 : UInt64)) := D747 (Or.inr (hw _ (List.mem_of_getElem? (i := 28) rfl))) (ty := .double) (by decide)
    have F747_752 : Fld Z h747 b747 "com/example/aristotle/aristotle/EliminationPlan$Step" "makes" "Z" (.int (0 : Int32)) := D747 (Or.inr (hw _ (List.mem_of_getElem? (i := 30) rfl))) (ty := .boolean) (by decide)
    have g753 : Goes p e below S0 (T747.setTop (mkF m 112 #[iv i0, iv i1, iv i2, iv i3, iv i4, iv (4 : Int32), iv (1 : Int32), iv mz, rv b479, rv ra_742, iv (nP1 i0 i1), .unset, .unset] [(.ref b747)])) := fun t k => g746 t (st747 t k)
    have g754 : Goes p e below S0 (T747.setTop (mkF m 116 #[iv i0, iv i1, iv i2, iv i3, iv i4, iv (4 : Int32), iv (1 : Int32), iv mz, rv b479, rv ra_742, iv (nP1 i0 i1), .unset, .unset] [(.int (0 : Int32)), (.int (nP1 i0 i1)), (.ref b747), (.ref b747)])) := fun t k => g753 t (by
      refine XS.dup X747.here hx rfl (hb hby at_112) rfl rfl ?_
      show Go p e below t T747 m 113 #[iv i0, iv i1, iv i2, iv i3, iv i4, iv (4 : Int32), iv (1 : Int32), iv mz, rv b479, rv ra_742, iv (nP1 i0 i1), .unset, .unset] [(.ref b747), (.ref b747)]
      refine XS.iload X747.here hx rfl (hb hby at_113) rfl ?_
      show Go p e below t T747 m 115 #[iv i0, iv i1, iv i2, iv i3, iv i4, iv (4 : Int32), iv (1 : Int32), iv mz, rv b479, rv ra_742, iv (nP1 i0 i1), .unset, .unset] [(.int (nP1 i0 i1)), (.ref b747), (.ref b747)]
      refine XT.iconstV X747.here hx rfl (0 : Int32) (hb hby at_115) (by decide) ?_
      show Go p e below t T747 m 116 #[iv i0, iv i1, iv i2, iv i3, iv i4, iv (4 : Int32), iv (1 : Int32), iv mz, rv b479, rv ra_742, iv (nP1 i0 i1), .unset, .unset] [(.int (0 : Int32)), (.int (nP1 i0 i1)), (.ref b747), (.ref b747)]
      exact k)
    obtain ⟨T755, h755, k755, X755, e755, E755, A755, st755⟩ := newP X747 hx hZ (hw _ (List.mem_of_getElem? (i := 1) rfl)) e747 (g := (mkF m 116 #[iv i0, iv i1, iv i2, iv i3, iv i4, iv (4 : Int32), iv (1 : Int32), iv mz, rv b479, rv ra_742, iv (nP1 i0 i1), .unset, .unset] [(.int (0 : Int32)), (.int (nP1 i0 i1)), (.ref b747), (.ref b747)])) rfl (hb hby at_116) rfl (by decide) (cap := 0) (by decide) (by decide) (by decide) (by decide)
    obtain ⟨b755, gb755⟩ : ∃ z, z = h747.size := ⟨_, rfl⟩
    have sz755 : h0.size ≤ b755 := Nat.le_trans (Nat.le_trans (Nat.le_trans (Nat.le_trans (Nat.le_trans (Nat.le_trans (Nat.le_trans (Nat.le_trans (Nat.le_refl _) E479.1) (Nat.le_of_eq W483.size.symm)) (Nat.le_of_eq W489.size.symm)) (Nat.le_of_eq W495.size.symm)) (Nat.le_of_eq W501.size.symm)) R742_0.1) E747.1) (Nat.le_of_eq gb755.symm)
    have ng755 : n0 ≤ b755 := Nat.le_trans Z0 sz755
    rw [← gb755] at A755 st755
    have V755 : Arv Z h755 b755 k755 .int (0 : Int32) [] (.int (0 : Int32)) := (Arv.new A755 (by decide)).pad (pad_rep [] (.int (0 : Int32)) 0)
    have g756 : Goes p e below S0 (T755.setTop (mkF m 118 #[iv i0, iv i1, iv i2, iv i3, iv i4, iv (4 : Int32), iv (1 : Int32), iv mz, rv b479, rv ra_742, iv (nP1 i0 i1), .unset, .unset] [(.ref b755), (.int (nP1 i0 i1)), (.ref b747), (.ref b747)])) := fun t k => g754 t (st755 t k)
    have g757 : Goes p e below S0 (T755.setTop (mkF m 125 #[iv i0, iv i1, iv i2, iv i3, iv i4, iv (4 : Int32), iv (1 : Int32), iv mz, rv b479, rv ra_742, iv (nP1 i0 i1), .unset, .unset] [(.int mz), (.double (FP.i2d (4 : Int32))), (.ref ra_742), (.ref b755), (.int (nP1 i0 i1)), (.ref b747), (.ref b747)])) := fun t k => g756 t (by
      refine XS.aload X755.here hx rfl (hb hby at_118) rfl rfl ?_
      show Go p e below t T755 m 120 #[iv i0, iv i1, iv i2, iv i3, iv i4, iv (4 : Int32), iv (1 : Int32), iv mz, rv b479, rv ra_742, iv (nP1 i0 i1), .unset, .unset] [(.ref ra_742), (.ref b755), (.int (nP1 i0 i1)), (.ref b747), (.ref b747)]
      refine XS.iload X755.here hx rfl (hb hby at_120) rfl ?_
      show Go p e below t T755 m 122 #[iv i0, iv i1, iv i2, iv i3, iv i4, iv (4 : Int32), iv (1 : Int32), iv mz, rv b479, rv ra_742, iv (nP1 i0 i1), .unset, .unset] [(.int (4 : Int32)), (.ref ra_742), (.ref b755), (.int (nP1 i0 i1)), (.ref b747), (.ref b747)]
      refine XS.i2dS X755.here hx rfl (hb hby at_122) rfl rfl ?_
      show Go p e below t T755 m 123 #[iv i0, iv i1, iv i2, iv i3, iv i4, iv (4 : Int32), iv (1 : Int32), iv mz, rv b479, rv ra_742, iv (nP1 i0 i1), .unset, .unset] [(.double (FP.i2d (4 : Int32))), (.ref ra_742), (.ref b755), (.int (nP1 i0 i1)), (.ref b747), (.ref b747)]
      refine XS.iload X755.here hx rfl (hb hby at_123) rfl ?_
      show Go p e below t T755 m 125 #[iv i0, iv i1, iv i2, iv i3, iv i4, iv (4 : Int32), iv (1 : Int32), iv mz, rv b479, rv ra_742, iv (nP1 i0 i1), .unset, .unset] [(.int mz), (.double (FP.i2d (4 : Int32))), (.ref ra_742), (.ref b755), (.int (nP1 i0 i1)), (.ref b747), (.ref b747)]
      exact k)
    obtain ⟨_, _, ⟨T758, L758, k758, n758⟩, -, X758, ⟨Lc758, hQ758, l758, y758, z758⟩, st758⟩ := X755.specialBack hx (y := (⟨"com/example/aristotle/aristotle/EliminationPlan$Step", "<init>", "(I[I[IDZ)V"⟩ : MethodName)) rfl hown (mvT hZ (hw _ (List.mem_of_getElem? (i := 10) rfl))) (mvT hZ (hw _ (List.mem_of_getElem? (i := 11) rfl))) (mvT hZ (hw _ (List.mem_of_getElem? (i := 12) rfl))) (by decide) (backOf (W := 1) (rm_ini l Z a0 hw [] b747 (nP1 i0 i1) b755 ra_742 (FP.i2d (4 : Int32)) mz  h755 n0 (Nat.le_trans Z0 (Nat.le_trans (Nat.le_trans (Nat.le_trans (Nat.le_trans (Nat.le_trans (Nat.le_trans (Nat.le_trans (Nat.le_trans (Nat.le_refl _) E479.1) (Nat.le_of_eq W483.size.symm)) (Nat.le_of_eq W489.size.symm)) (Nat.le_of_eq W495.size.symm)) (Nat.le_of_eq W501.size.symm)) R742_0.1) E747.1) E755.1)) (A747.ext E755) ng747 (F747_748.ext E755) (F747_749.ext E755) (F747_750.ext E755) (F747_751.ext E755) (F747_752.ext E755)) hZ (hw _ (List.mem_of_getElem? (i := 12) rfl)) (hw _ (List.mem_of_getElem? (i := 9) rfl)) (by decide) (by decide)) (g := (mkF m 125 #[iv i0, iv i1, iv i2, iv i3, iv i4, iv (4 : Int32), iv (1 : Int32), iv mz, rv b479, rv ra_742, iv (nP1 i0 i1), .unset, .unset] [(.int mz), (.double (FP.i2d (4 : Int32))), (.ref ra_742), (.ref b755), (.int (nP1 i0 i1)), (.ref b747), (.ref b747)])) rfl (by rw [hml]; rfl) (Steps.refl _) (a := b747) (argsL := [(.int (nP1 i0 i1)), (.ref b755), (.ref ra_742), (.double (FP.i2d (4 : Int32))), (.int mz)]) (rest := [(.ref b747)]) (lenOf pd1 rfl) rfl (by show 2 * 0 + _ ≤ _; exact Nat.le_of_eq rfl) (hb hby at_125) (fun _ _ => ⟨rfl, e755, (by decide : 4 + 0 ≤ _), (by decide : 13 + 0 ≤ _)⟩)
    dsimp only [Pt.U, Pt.locs, Pt.cells, Pt.slots] at X758 l758 y758 z758 st758 hQ758
    subst l758 y758 z758
    obtain ⟨rfl, N758, R758_0, R758_1, R758_2, R758_3, R758_4, R758_5, R758_6⟩ := hQ758
    have M758 := Fr.app M742 N758
    have g759 : Goes p e below S0 (T758.setTop (mkF m 128 #[iv i0, iv i1, iv i2, iv i3, iv i4, iv (4 : Int32), iv (1 : Int32), iv mz, rv b479, rv ra_742, iv (nP1 i0 i1), .unset, .unset] [(.ref b747)])) := fun t k => g757 t (st758.trans k)
    have g760 : Goes p e below S0 (T758.setTop (mkF m 132 #[iv i0, iv i1, iv i2, iv i3, iv i4, iv (4 : Int32), iv (1 : Int32), iv mz, rv b479, rv ra_742, iv (nP1 i0 i1), rv b747, .unset] [(.ref b747)])) := fun t k => g759 t (by
      refine XS.astore X758.here hx rfl (hb hby at_128) rfl rfl (l' := #[iv i0, iv i1, iv i2, iv i3, iv i4, iv (4 : Int32), iv (1 : Int32), iv mz, rv b479, rv ra_742, iv (nP1 i0 i1), rv b747, .unset]) rfl ?_
      show Go p e below t T758 m 130 #[iv i0, iv i1, iv i2, iv i3, iv i4, iv (4 : Int32), iv (1 : Int32), iv mz, rv b479, rv ra_742, iv (nP1 i0 i1), rv b747, .unset] []
      refine XS.aload X758.here hx rfl (hb hby at_130) rfl rfl ?_
      show Go p e below t T758 m 132 #[iv i0, iv i1, iv i2, iv i3, iv i4, iv (4 : Int32), iv (1 : Int32), iv mz, rv b479, rv ra_742, iv (nP1 i0 i1), rv b747, .unset] [(.ref b747)]
      exact k)
    obtain ⟨cq761, kq761, q761a, q761b, q761c⟩ := isOf hZ rfl R758_1
    obtain ⟨_, _, ⟨T761, L761, k761, n761⟩, -, X761, ⟨Lc761, hQ761, l761, y761, z761⟩, st761⟩ := X758.virtualBack hx (y := (⟨"com/example/aristotle/aristotle/EliminationPlan$Step", "made", "()[I"⟩ : MethodName)) (z := (⟨"com/example/aristotle/aristotle/EliminationPlan$Step", "made", "()[I"⟩ : MethodName)) hown (mvT hZ (hw _ (List.mem_of_getElem? (i := 31) rfl))) (mvT hZ (hw _ (List.mem_of_getElem? (i := 32) rfl))) (notFace_of_selects (args := #[]) (mvT hZ (hw _ (List.mem_of_getElem? (i := 34) rfl)))) (mvT hZ (hw _ (List.mem_of_getElem? (i := 34) rfl))) (mvT hZ (hw _ (List.mem_of_getElem? (i := 33) rfl))) (by decide) (backOf (W := 0) (rm_md41 l Z a0 hw [] b747 ra_742 rk_742 (nP0 i0) (nP1 i0 i1) (nP2 i0 i1 i2) (nP3 i0 i1 i2 i3) T758.heap n0 (Nat.le_trans Z0 (Nat.le_trans (Nat.le_trans (Nat.le_trans (Nat.le_trans (Nat.le_trans (Nat.le_trans (Nat.le_trans (Nat.le_trans (Nat.le_trans (Nat.le_refl _) E479.1) (Nat.le_of_eq W483.size.symm)) (Nat.le_of_eq W489.size.symm)) (Nat.le_of_eq W495.size.symm)) (Nat.le_of_eq W501.size.symm)) R742_0.1) E747.1) E755.1) R758_0.1)) R758_4 R758_2 (((R742_1.ext E747).ext E755).keep R758_0 (ninS (Nat.ne_of_lt (Nat.lt_of_lt_of_le R742_1.lt (Nat.le_of_eq gb747.symm))) nin0)) (own_ne01 i0 i1 i2 i3) (own_ne21 i0 i1 i2 i3) (own_ne31 i0 i1 i2 i3)) hZ (hw _ (List.mem_of_getElem? (i := 35) rfl)) (hw _ (List.mem_of_getElem? (i := 9) rfl)) (by decide) (by decide)) q761a q761c (g := (mkF m 132 #[iv i0, iv i1, iv i2, iv i3, iv i4, iv (4 : Int32), iv (1 : Int32), iv mz, rv b479, rv ra_742, iv (nP1 i0 i1), rv b747, .unset] [(.ref b747)])) rfl (by rw [hml]; rfl) (Steps.refl _) (argsL := []) (rest := []) (lenOf pd3 rfl) rfl (by show 2 * 0 + _ ≤ _; exact Nat.le_of_eq rfl) (hb hby at_132) (fun _ _ => ⟨rfl, rfl, (by decide : 4 + 1 ≤ _), (by decide : 13 + 3 ≤ _)⟩)
    dsimp only [Pt.U, Pt.locs, Pt.cells, Pt.slots] at X761 l761 y761 z761 st761 hQ761
    subst l761 y761 z761
    obtain ⟨ra_761, rk_761, rfl, N761, R761_0, R761_1, R761_2⟩ := hQ761
    have M761 := Fr.app M758 N761
    have sz761_2 : h0.size ≤ ra_761 := Nat.le_trans (Nat.le_trans (Nat.le_trans (Nat.le_trans (Nat.le_trans (Nat.le_trans (Nat.le_trans (Nat.le_trans (Nat.le_trans (Nat.le_trans (Nat.le_refl _) E479.1) (Nat.le_of_eq W483.size.symm)) (Nat.le_of_eq W489.size.symm)) (Nat.le_of_eq W495.size.symm)) (Nat.le_of_eq W501.size.symm)) R742_0.1) E747.1) E755.1) R758_0.1) R761_2
    have ng761_2 : n0 ≤ ra_761 := Nat.le_trans Z0 sz761_2
    have g762 : Goes p e below S0 (T761.setTop (mkF m 135 #[iv i0, iv i1, iv i2, iv i3, iv i4, iv (4 : Int32), iv (1 : Int32), iv mz, rv b479, rv ra_742, iv (nP1 i0 i1), rv b747, .unset] [(.ref ra_761)])) := fun t k => g760 t (st761.trans k)
    have g763 : Goes p e below S0 (T761.setTop (mkF m 139 #[iv i0, iv i1, iv i2, iv i3, iv i4, iv (4 : Int32), iv (1 : Int32), iv mz, rv b479, rv ra_742, iv (nP1 i0 i1), rv b747, rv ra_761] [(.ref ra_761)])) := fun t k => g762 t (by
      refine XS.astore X761.here hx rfl (hb hby at_135) rfl rfl (l' := #[iv i0, iv i1, iv i2, iv i3, iv i4, iv (4 : Int32), iv (1 : Int32), iv mz, rv b479, rv ra_742, iv (nP1 i0 i1), rv b747, rv ra_761]) rfl ?_
      show Go p e below t T761 m 137 #[iv i0, iv i1, iv i2, iv i3, iv i4, iv (4 : Int32), iv (1 : Int32), iv mz, rv b479, rv ra_742, iv (nP1 i0 i1), rv b747, rv ra_761] []
      refine XS.aload X761.here hx rfl (hb hby at_137) rfl rfl ?_
      show Go p e below t T761 m 139 #[iv i0, iv i1, iv i2, iv i3, iv i4, iv (4 : Int32), iv (1 : Int32), iv mz, rv b479, rv ra_742, iv (nP1 i0 i1), rv b747, rv ra_761] [(.ref ra_761)]
      exact k)
    obtain ⟨cl764, Ar764, q764, S764, M764, H764, G764⟩ := id R761_1
    have g765 : Goes p e below S0 (T761.setTop (mkF m 156 #[iv i0, iv i1, iv i2, iv i3, iv i4, iv (4 : Int32), iv (1 : Int32), iv mz, rv b479, rv ra_742, iv (nP1 i0 i1), rv b747, rv ra_761] [(.int (1 : Int32)), (.ref b479), (.int (0 : Int32)), (.ref ra_761)])) := fun t k => g763 t (by
      refine X761.arraylength hx Ar764.1 (State.isArrayOf_alike hZ.alike Ar764.2.1) (g := (mkF m 139 #[iv i0, iv i1, iv i2, iv i3, iv i4, iv (4 : Int32), iv (1 : Int32), iv mz, rv b479, rv ra_742, iv (nP1 i0 i1), rv b747, rv ra_761] [(.ref ra_761)])) rfl rfl (hb hby at_139) _ ?_
      rw [len_of S764 M764]
      show Go p e below t T761 m 140 #[iv i0, iv i1, iv i2, iv i3, iv i4, iv (4 : Int32), iv (1 : Int32), iv mz, rv b479, rv ra_742, iv (nP1 i0 i1), rv b747, rv ra_761] [(.int (3 : Int32))]
      refine XS.iload X761.here hx rfl (hb hby at_140) rfl ?_
      show Go p e below t T761 m 142 #[iv i0, iv i1, iv i2, iv i3, iv i4, iv (4 : Int32), iv (1 : Int32), iv mz, rv b479, rv ra_742, iv (nP1 i0 i1), rv b747, rv ra_761] [(.int (4 : Int32)), (.int (3 : Int32))]
      refine XT.iconstV X761.here hx rfl (1 : Int32) (hb hby at_142) (by decide) ?_
      show Go p e below t T761 m 143 #[iv i0, iv i1, iv i2, iv i3, iv i4, iv (4 : Int32), iv (1 : Int32), iv mz, rv b479, rv ra_742, iv (nP1 i0 i1), rv b747, rv ra_761] [(.int (1 : Int32)), (.int (4 : Int32)), (.int (3 : Int32))]
      refine XS.isub X761.here hx rfl (hb hby at_143) rfl ?_
      rw [show ((4 : Int32) - (1 : Int32)) = (3 : Int32) by decide]
      show Go p e below t T761 m 144 #[iv i0, iv i1, iv i2, iv i3, iv i4, iv (4 : Int32), iv (1 : Int32), iv mz, rv b479, rv ra_742, iv (nP1 i0 i1), rv b747, rv ra_761] [(.int (3 : Int32)), (.int (3 : Int32))]
      refine XS.icmpYes X761.here hx rfl (pc0 := 144) (pc' := 149) rfl (hb hby at_144) rfl (XT.ii_eq_t (by decide)) (by decide) (by decide) ?_
      show Go p e below t T761 m 149 #[iv i0, iv i1, iv i2, iv i3, iv i4, iv (4 : Int32), iv (1 : Int32), iv mz, rv b479, rv ra_742, iv (nP1 i0 i1), rv b747, rv ra_761] []
      refine XS.aload X761.here hx rfl (hb hby at_149) rfl rfl ?_
      show Go p e below t T761 m 151 #[iv i0, iv i1, iv i2, iv i3, iv i4, iv (4 : Int32), iv (1 : Int32), iv mz, rv b479, rv ra_742, iv (nP1 i0 i1), rv b747, rv ra_761] [(.ref ra_761)]
      refine XT.iconstV X761.here hx rfl (0 : Int32) (hb hby at_151) (by decide) ?_
      show Go p e below t T761 m 152 #[iv i0, iv i1, iv i2, iv i3, iv i4, iv (4 : Int32), iv (1 : Int32), iv mz, rv b479, rv ra_742, iv (nP1 i0 i1), rv b747, rv ra_761] [(.int (0 : Int32)), (.ref ra_761)]
      refine XS.aload X761.here hx rfl (hb hby at_152) rfl rfl ?_
      show Go p e below t T761 m 154 #[iv i0, iv i1, iv i2, iv i3, iv i4, iv (4 : Int32), iv (1 : Int32), iv mz, rv b479, rv ra_742, iv (nP1 i0 i1), rv b747, rv ra_761] [(.ref b479), (.int (0 : Int32)), (.ref ra_761)]
      refine XS.iload X761.here hx rfl (hb hby at_154) rfl ?_
      show Go p e below t T761 m 156 #[iv i0, iv i1, iv i2, iv i3, iv i4, iv (4 : Int32), iv (1 : Int32), iv mz, rv b479, rv ra_742, iv (nP1 i0 i1), rv b747, rv ra_761] [(.int (1 : Int32)), (.ref b479), (.int (0 : Int32)), (.ref ra_761)]
      exact k)
    obtain ⟨_, _, ⟨T766, L766, k766, n766⟩, -, X766, ⟨Lc766, hQ766, l766, y766, z766⟩, st766⟩ := Jvm.LawKit.callS X761 hx (y := (⟨"com/example/aristotle/aristotle/StepMadePinLaw", "check", "([II[II)Z"⟩ : MethodName)) hown (mvT hZ (hw _ (List.mem_of_getElem? (i := 36) rfl))) (mvT hZ (hw _ (List.mem_of_getElem? (i := 37) rfl))) (mvT hZ (hw _ (List.mem_of_getElem? (i := 5) rfl))) (mvT hZ (hw _ (List.mem_of_getElem? (i := 38) rfl))) (by decide) (backOf (W := 0) (rm_ck1 l Z a0 hw [] ra_761 (0 : Int32) b479 (1 : Int32) rk_761 (3 : Int32) [(.int (nP0 i0)), (.int (nP2 i0 i1 i2)), (.int (nP3 i0 i1 i2 i3))] (.int (0 : Int32)) k479 (4 : Int32) [(.int (nP0 i0)), (.int (nP1 i0 i1)), (.int (nP2 i0 i1 i2)), (.int (nP3 i0 i1 i2 i3))] (.int (0 : Int32)) (nP0 i0) T761.heap n0 (Nat.le_trans Z0 (Nat.le_trans (Nat.le_trans (Nat.le_trans (Nat.le_trans (Nat.le_trans (Nat.le_trans (Nat.le_trans (Nat.le_trans (Nat.le_trans (Nat.le_trans (Nat.le_refl _) E479.1) (Nat.le_of_eq W483.size.symm)) (Nat.le_of_eq W489.size.symm)) (Nat.le_of_eq W495.size.symm)) (Nat.le_of_eq W501.size.symm)) R742_0.1) E747.1) E755.1) R758_0.1) R761_0.1)) R761_1 (((((V501.keep R742_0 nin0).ext E747).ext E755).keep R758_0 (ninS (Nat.ne_of_lt (Nat.lt_of_lt_of_le (V501.keep R742_0 nin0).lt (Nat.le_of_eq gb747.symm))) nin0)).keep R761_0 nin0) (by decide) (by decide) (by decide) (by decide) rfl rfl) hZ (hw _ (List.mem_of_getElem? (i := 38) rfl)) (hw _ (List.mem_of_getElem? (i := 5) rfl)) (by decide) (by decide)) (g := (mkF m 156 #[iv i0, iv i1, iv i2, iv i3, iv i4, iv (4 : Int32), iv (1 : Int32), iv mz, rv b479, rv ra_742, iv (nP1 i0 i1), rv b747, rv ra_761] [(.int (1 : Int32)), (.ref b479), (.int (0 : Int32)), (.ref ra_761)])) rfl (by rw [hml]; rfl) (argsL := [(.ref ra_761), (.int (0 : Int32)), (.ref b479), (.int (1 : Int32))]) (rest := []) (lenOf pd4 rfl) rfl (by show 2 * 0 + _ ≤ _; exact Nat.le_of_eq rfl) (hb hby at_156) (fun _ _ => ⟨rfl, rfl, (by decide : 5 + 0 ≤ _), (by decide : 16 + 0 ≤ _)⟩)
    dsimp only [Pt.U, Pt.locs, Pt.cells, Pt.slots] at X766 l766 y766 z766 st766 hQ766
    subst l766 y766 z766
    obtain ⟨rfl, N766, R766_0⟩ := hQ766
    have M766 := Fr.app M761 N766
    have g767 : Goes p e below S0 (T766.setTop (mkF m 159 #[iv i0, iv i1, iv i2, iv i3, iv i4, iv (4 : Int32), iv (1 : Int32), iv mz, rv b479, rv ra_742, iv (nP1 i0 i1), rv b747, rv ra_761] [(.int (1 : Int32))])) := fun t k => g765 t (st766 t k)
    have g768 : Goes p e below S0 (T766.setTop (mkF m 169 #[iv i0, iv i1, iv i2, iv i3, iv i4, iv (4 : Int32), iv (1 : Int32), iv mz, rv b479, rv ra_742, iv (nP1 i0 i1), rv b747, rv ra_761] [(.int (1 : Int32)), (.ref b479), (.int (1 : Int32)), (.ref ra_761)])) := fun t k => g767 t (by
      refine XS.ifNo X766.here hx rfl (hb hby at_159) rfl (XT.i0_eq_f (by decide)) ?_
      show Go p e below t T766 m 162 #[iv i0, iv i1, iv i2, iv i3, iv i4, iv (4 : Int32), iv (1 : Int32), iv mz, rv b479, rv ra_742, iv (nP1 i0 i1), rv b747, rv ra_761] []
      refine XS.aload X766.here hx rfl (hb hby at_162) rfl rfl ?_
      show Go p e below t T766 m 164 #[iv i0, iv i1, iv i2, iv i3, iv i4, iv (4 : Int32), iv (1 : Int32), iv mz, rv b479, rv ra_742, iv (nP1 i0 i1), rv b747, rv ra_761] [(.ref ra_761)]
      refine XT.iconstV X766.here hx rfl (1 : Int32) (hb hby at_164) (by decide) ?_
      show Go p e below t T766 m 165 #[iv i0, iv i1, iv i2, iv i3, iv i4, iv (4 : Int32), iv (1 : Int32), iv mz, rv b479, rv ra_742, iv (nP1 i0 i1), rv b747, rv ra_761] [(.int (1 : Int32)), (.ref ra_761)]
      refine XS.aload X766.here hx rfl (hb hby at_165) rfl rfl ?_
      show Go p e below t T766 m 167 #[iv i0, iv i1, iv i2, iv i3, iv i4, iv (4 : Int32), iv (1 : Int32), iv mz, rv b479, rv ra_742, iv (nP1 i0 i1), rv b747, rv ra_761] [(.ref b479), (.int (1 : Int32)), (.ref ra_761)]
      refine XS.iload X766.here hx rfl (hb hby at_167) rfl ?_
      show Go p e below t T766 m 169 #[iv i0, iv i1, iv i2, iv i3, iv i4, iv (4 : Int32), iv (1 : Int32), iv mz, rv b479, rv ra_742, iv (nP1 i0 i1), rv b747, rv ra_761] [(.int (1 : Int32)), (.ref b479), (.int (1 : Int32)), (.ref ra_761)]
      exact k)
    obtain ⟨_, _, ⟨T769, L769, k769, n769⟩, -, X769, ⟨Lc769, hQ769, l769, y769, z769⟩, st769⟩ := Jvm.LawKit.callS X766 hx (y := (⟨"com/example/aristotle/aristotle/StepMadePinLaw", "check", "([II[II)Z"⟩ : MethodName)) hown (mvT hZ (hw _ (List.mem_of_getElem? (i := 36) rfl))) (mvT hZ (hw _ (List.mem_of_getElem? (i := 37) rfl))) (mvT hZ (hw _ (List.mem_of_getElem? (i := 5) rfl))) (mvT hZ (hw _ (List.mem_of_getElem? (i := 38) rfl))) (by decide) (backOf (W := 0) (rm_ck2 l Z a0 hw [] ra_761 (1 : Int32) b479 (1 : Int32) rk_761 (3 : Int32) [(.int (nP0 i0)), (.int (nP2 i0 i1 i2)), (.int (nP3 i0 i1 i2 i3))] (.int (0 : Int32)) k479 (4 : Int32) [(.int (nP0 i0)), (.int (nP1 i0 i1)), (.int (nP2 i0 i1 i2)), (.int (nP3 i0 i1 i2 i3))] (.int (0 : Int32)) (nP2 i0 i1 i2) T761.heap n0 (Nat.le_trans Z0 (Nat.le_trans (Nat.le_trans (Nat.le_trans (Nat.le_trans (Nat.le_trans (Nat.le_trans (Nat.le_trans (Nat.le_trans (Nat.le_trans (Nat.le_trans (Nat.le_refl _) E479.1) (Nat.le_of_eq W483.size.symm)) (Nat.le_of_eq W489.size.symm)) (Nat.le_of_eq W495.size.symm)) (Nat.le_of_eq W501.size.symm)) R742_0.1) E747.1) E755.1) R758_0.1) R761_0.1)) R761_1 (((((V501.keep R742_0 nin0).ext E747).ext E755).keep R758_0 (ninS (Nat.ne_of_lt (Nat.lt_of_lt_of_le (V501.keep R742_0 nin0).lt (Nat.le_of_eq gb747.symm))) nin0)).keep R761_0 nin0) (by decide) (by decide) (by decide) (by decide) rfl rfl) hZ (hw _ (List.mem_of_getElem? (i := 38) rfl)) (hw _ (List.mem_of_getElem? (i := 5) rfl)) (by decide) (by decide)) (g := (mkF m 169 #[iv i0, iv i1, iv i2, iv i3, iv i4, iv (4 : Int32), iv (1 : Int32), iv mz, rv b479, rv ra_742, iv (nP1 i0 i1), rv b747, rv ra_761] [(.int (1 : Int32)), (.ref b479), (.int (1 : Int32)), (.ref ra_761)])) rfl (by rw [hml]; rfl) (argsL := [(.ref ra_761), (.int (1 : Int32)), (.ref b479), (.int (1 : Int32))]) (rest := []) (lenOf pd4 rfl) rfl (by show 2 * 0 + _ ≤ _; exact Nat.le_of_eq rfl) (hb hby at_169) (fun _ _ => ⟨rfl, R766_0, (by decide : 5 + 0 ≤ _), (by decide : 16 + 0 ≤ _)⟩)
    dsimp only [Pt.U, Pt.locs, Pt.cells, Pt.slots] at X769 l769 y769 z769 st769 hQ769
    subst l769 y769 z769
    obtain ⟨rfl, N769, R769_0⟩ := hQ769
    have M769 := Fr.app M766 N769
    have g770 : Goes p e below S0 (T769.setTop (mkF m 172 #[iv i0, iv i1, iv i2, iv i3, iv i4, iv (4 : Int32), iv (1 : Int32), iv mz, rv b479, rv ra_742, iv (nP1 i0 i1), rv b747, rv ra_761] [(.int (1 : Int32))])) := fun t k => g768 t (st769 t k)
    have g771 : Goes p e below S0 (T769.setTop (mkF m 182 #[iv i0, iv i1, iv i2, iv i3, iv i4, iv (4 : Int32), iv (1 : Int32), iv mz, rv b479, rv ra_742, iv (nP1 i0 i1), rv b747, rv ra_761] [(.int (1 : Int32)), (.ref b479), (.int (2 : Int32)), (.ref ra_761)])) := fun t k => g770 t (by
      refine XS.ifNo X769.here hx rfl (hb hby at_172) rfl (XT.i0_eq_f (by decide)) ?_
      show Go p e below t T769 m 175 #[iv i0, iv i1, iv i2, iv i3, iv i4, iv (4 : Int32), iv (1 : Int32), iv mz, rv b479, rv ra_742, iv (nP1 i0 i1), rv b747, rv ra_761] []
      refine XS.aload X769.here hx rfl (hb hby at_175) rfl rfl ?_
      show Go p e below t T769 m 177 #[iv i0, iv i1, iv i2, iv i3, iv i4, iv (4 : Int32), iv (1 : Int32), iv mz, rv b479, rv ra_742, iv (nP1 i0 i1), rv b747, rv ra_761] [(.ref ra_761)]
      refine XT.iconstV X769.here hx rfl (2 : Int32) (hb hby at_177) (by decide) ?_
      show Go p e below t T769 m 178 #[iv i0, iv i1, iv i2, iv i3, iv i4, iv (4 : Int32), iv (1 : Int32), iv mz, rv b479, rv ra_742, iv (nP1 i0 i1), rv b747, rv ra_761] [(.int (2 : Int32)), (.ref ra_761)]
      refine XS.aload X769.here hx rfl (hb hby at_178) rfl rfl ?_
      show Go p e below t T769 m 180 #[iv i0, iv i1, iv i2, iv i3, iv i4, iv (4 : Int32), iv (1 : Int32), iv mz, rv b479, rv ra_742, iv (nP1 i0 i1), rv b747, rv ra_761] [(.ref b479), (.int (2 : Int32)), (.ref ra_761)]
      refine XS.iload X769.here hx rfl (hb hby at_180) rfl ?_
      show Go p e below t T769 m 182 #[iv i0, iv i1, iv i2, iv i3, iv i4, iv (4 : Int32), iv (1 : Int32), iv mz, rv b479, rv ra_742, iv (nP1 i0 i1), rv b747, rv ra_761] [(.int (1 : Int32)), (.ref b479), (.int (2 : Int32)), (.ref ra_761)]
      exact k)
    obtain ⟨_, _, ⟨T772, L772, k772, n772⟩, -, X772, ⟨Lc772, hQ772, l772, y772, z772⟩, st772⟩ := Jvm.LawKit.callS X769 hx (y := (⟨"com/example/aristotle/aristotle/StepMadePinLaw", "check", "([II[II)Z"⟩ : MethodName)) hown (mvT hZ (hw _ (List.mem_of_getElem? (i := 36) rfl))) (mvT hZ (hw _ (List.mem_of_getElem? (i := 37) rfl))) (mvT hZ (hw _ (List.mem_of_getElem? (i := 5) rfl))) (mvT hZ (hw _ (List.mem_of_getElem? (i := 38) rfl))) (by decide) (backOf (W := 0) (rm_ck2 l Z a0 hw [] ra_761 (2 : Int32) b479 (1 : Int32) rk_761 (3 : Int32) [(.int (nP0 i0)), (.int (nP2 i0 i1 i2)), (.int (nP3 i0 i1 i2 i3))] (.int (0 : Int32)) k479 (4 : Int32) [(.int (nP0 i0)), (.int (nP1 i0 i1)), (.int (nP2 i0 i1 i2)), (.int (nP3 i0 i1 i2 i3))] (.int (0 : Int32)) (nP3 i0 i1 i2 i3) T761.heap n0 (Nat.le_trans Z0 (Nat.le_trans (Nat.le_trans (Nat.le_trans (Nat.le_trans (Nat.le_trans (Nat.le_trans (Nat.le_trans (Nat.le_trans (Nat.le_trans (Nat.le_trans (Nat.le_refl _) E479.1) (Nat.le_of_eq W483.size.symm)) (Nat.le_of_eq W489.size.symm)) (Nat.le_of_eq W495.size.symm)) (Nat.le_of_eq W501.size.symm)) R742_0.1) E747.1) E755.1) R758_0.1) R761_0.1)) R761_1 (((((V501.keep R742_0 nin0).ext E747).ext E755).keep R758_0 (ninS (Nat.ne_of_lt (Nat.lt_of_lt_of_le (V501.keep R742_0 nin0).lt (Nat.le_of_eq gb747.symm))) nin0)).keep R761_0 nin0) (by decide) (by decide) (by decide) (by decide) rfl rfl) hZ (hw _ (List.mem_of_getElem? (i := 38) rfl)) (hw _ (List.mem_of_getElem? (i := 5) rfl)) (by decide) (by decide)) (g := (mkF m 182 #[iv i0, iv i1, iv i2, iv i3, iv i4, iv (4 : Int32), iv (1 : Int32), iv mz, rv b479, rv ra_742, iv (nP1 i0 i1), rv b747, rv ra_761] [(.int (1 : Int32)), (.ref b479), (.int (2 : Int32)), (.ref ra_761)])) rfl (by rw [hml]; rfl) (argsL := [(.ref ra_761), (.int (2 : Int32)), (.ref b479), (.int (1 : Int32))]) (rest := []) (lenOf pd4 rfl) rfl (by show 2 * 0 + _ ≤ _; exact Nat.le_of_eq rfl) (hb hby at_182) (fun _ _ => ⟨rfl, R769_0, (by decide : 5 + 0 ≤ _), (by decide : 16 + 0 ≤ _)⟩)
    dsimp only [Pt.U, Pt.locs, Pt.cells, Pt.slots] at X772 l772 y772 z772 st772 hQ772
    subst l772 y772 z772
    obtain ⟨rfl, N772, R772_0⟩ := hQ772
    have M772 := Fr.app M769 N772
    have g773 : Goes p e below S0 (T772.setTop (mkF m 185 #[iv i0, iv i1, iv i2, iv i3, iv i4, iv (4 : Int32), iv (1 : Int32), iv mz, rv b479, rv ra_742, iv (nP1 i0 i1), rv b747, rv ra_761] [(.int (1 : Int32))])) := fun t k => g771 t (st772 t k)
    have g774 : Goes p e below S0 (T772.setTop (mkF m 193 #[iv i0, iv i1, iv i2, iv i3, iv i4, iv (4 : Int32), iv (1 : Int32), iv mz, rv b479, rv ra_742, iv (nP1 i0 i1), rv b747, rv ra_761] [(.int (1 : Int32))])) := fun t k => g773 t (by
      refine XS.ifNo X772.here hx rfl (hb hby at_185) rfl (XT.i0_eq_f (by decide)) ?_
      show Go p e below t T772 m 188 #[iv i0, iv i1, iv i2, iv i3, iv i4, iv (4 : Int32), iv (1 : Int32), iv mz, rv b479, rv ra_742, iv (nP1 i0 i1), rv b747, rv ra_761] []
      refine XT.iconstV X772.here hx rfl (1 : Int32) (hb hby at_188) (by decide) ?_
      show Go p e below t T772 m 189 #[iv i0, iv i1, iv i2, iv i3, iv i4, iv (4 : Int32), iv (1 : Int32), iv mz, rv b479, rv ra_742, iv (nP1 i0 i1), rv b747, rv ra_761] [(.int (1 : Int32))]
      refine XS.goto X772.here hx rfl (pc0 := 189) (pc' := 193) rfl (hb hby at_189) (by decide) (by decide) ?_
      show Go p e below t T772 m 193 #[iv i0, iv i1, iv i2, iv i3, iv i4, iv (4 : Int32), iv (1 : Int32), iv mz, rv b479, rv ra_742, iv (nP1 i0 i1), rv b747, rv ra_761] [(.int (1 : Int32))]
      exact k)
    obtain ⟨fs, hr, hrun, hended, hW, hsame⟩ := X772.leave (v := some (.int (1 : Int32))) (fun h => by rw [Bd.returns] at h; cases h)
    refine ⟨_, _, g774 _ (retN X772 hx (t := .boolean) Bd.returns (by simp) (hb hby at_193) hr), hrun, hended, _, _, rfl, ?_, ⟨_, rfl⟩, hW, hsame.mono (by decide) (by decide)⟩
    show Q_law Z i0 i1 i2 i3 i4  h0 n0 _ T772.heap _
    rw [R772_0]
    exact ⟨rfl, M772⟩
  · skip
    have g775 : Goes p e below S0 (T501.setTop (mkF m 97 #[iv i0, iv i1, iv i2, iv i3, iv i4, iv (4 : Int32), iv (2 : Int32), iv mz, rv b479, .unset, .unset, .unset, .unset] [(.int (4 : Int32)), (.ref b479)])) := fun t k => g502 t (by
      refine XS.aload X501.here hx rfl (hb hby at_93) rfl rfl ?_
      show Go p e below t T501 m 95 #[iv i0, iv i1, iv i2, iv i3, iv i4, iv (4 : Int32), iv (2 : Int32), iv mz, rv b479, .unset, .unset, .unset, .unset] [(.ref b479)]
      refine XS.iload X501.here hx rfl (hb hby at_95) rfl ?_
      show Go p e below t T501 m 97 #[iv i0, iv i1, iv i2, iv i3, iv i4, iv (4 : Int32), iv (2 : Int32), iv mz, rv b479, .unset, .unset, .unset, .unset] [(.int (4 : Int32)), (.ref b479)]
      exact k)
    obtain ⟨_, _, ⟨T776, L776, k776, n776⟩, -, X776, ⟨Lc776, hQ776, l776, y776, z776⟩, st776⟩ := Jvm.LawKit.callS X501 hx (y := (⟨"com/example/aristotle/aristotle/StepMadePinLaw", "prefix", "([II)[I"⟩ : MethodName)) hown (mvT hZ (hw _ (List.mem_of_getElem? (i := 3) rfl))) (mvT hZ (hw _ (List.mem_of_getElem? (i := 4) rfl))) (mvT hZ (hw _ (List.mem_of_getElem? (i := 5) rfl))) (mvT hZ (hw _ (List.mem_of_getElem? (i := 6) rfl))) (by decide) (backOf (W := 0) (rm_pr4 l Z a0 hw [] b479 (4 : Int32) k479 (nP0 i0) (nP1 i0 i1) (nP2 i0 i1 i2) (nP3 i0 i1 i2 i3) h501 n0 (Nat.le_trans Z0 (Nat.le_trans (Nat.le_trans (Nat.le_trans (Nat.le_trans (Nat.le_trans (Nat.le_refl _) E479.1) (Nat.le_of_eq W483.size.symm)) (Nat.le_of_eq W489.size.symm)) (Nat.le_of_eq W495.size.symm)) (Nat.le_of_eq W501.size.symm))) V501 rfl) hZ (hw _ (List.mem_of_getElem? (i := 6) rfl)) (hw _ (List.mem_of_getElem? (i := 5) rfl)) (by decide) (by decide)) (g := (mkF m 97 #[iv i0, iv i1, iv i2, iv i3, iv i4, iv (4 : Int32), iv (2 : Int32), iv mz, rv b479, .unset, .unset, .unset, .unset] [(.int (4 : Int32)), (.ref b479)])) rfl (by rw [hml]; rfl) (argsL := [(.ref b479), (.int (4 : Int32))]) (rest := []) (lenOf pd2 rfl) rfl (by show 2 * 0 + _ ≤ _; exact Nat.le_of_eq rfl) (hb hby at_97) (fun _ _ => ⟨rfl, e501, (by decide : 1 + 1 ≤ _), (by decide : 4 + 4 ≤ _)⟩)
    dsimp only [Pt.U, Pt.locs, Pt.cells, Pt.slots] at X776 l776 y776 z776 st776 hQ776
    subst l776 y776 z776
    obtain ⟨ra_776, rk_776, rfl, N776, R776_0, R776_1, R776_2⟩ := hQ776
    have M776 := Fr.app N501 N776
    have sz776_2 : h0.size ≤ ra_776 := Nat.le_trans (Nat.le_trans (Nat.le_trans (Nat.le_trans (Nat.le_trans (Nat.le_trans (Nat.le_refl _) E479.1) (Nat.le_of_eq W483.size.symm)) (Nat.le_of_eq W489.size.symm)) (Nat.le_of_eq W495.size.symm)) (Nat.le_of_eq W501.size.symm)) R776_2
    have ng776_2 : n0 ≤ ra_776 := Nat.le_trans Z0 sz776_2
    have g777 : Goes p e below S0 (T776.setTop (mkF m 100 #[iv i0, iv i1, iv i2, iv i3, iv i4, iv (4 : Int32), iv (2 : Int32), iv mz, rv b479, .unset, .unset, .unset, .unset] [(.ref ra_776)])) := fun t k => g775 t (st776 t k)
    have g778 : Goes p e below S0 (T776.setTop (mkF m 106 #[iv i0, iv i1, iv i2, iv i3, iv i4, iv (4 : Int32), iv (2 : Int32), iv mz, rv b479, rv ra_776, .unset, .unset, .unset] [(.int (2 : Int32)), (.ref b479)])) := fun t k => g777 t (by
      refine XS.astore X776.here hx rfl (hb hby at_100) rfl rfl (l' := #[iv i0, iv i1, iv i2, iv i3, iv i4, iv (4 : Int32), iv (2 : Int32), iv mz, rv b479, rv ra_776, .unset, .unset, .unset]) rfl ?_
      show Go p e below t T776 m 102 #[iv i0, iv i1, iv i2, iv i3, iv i4, iv (4 : Int32), iv (2 : Int32), iv mz, rv b479, rv ra_776, .unset, .unset, .unset] []
      refine XS.aload X776.here hx rfl (hb hby at_102) rfl rfl ?_
      show Go p e below t T776 m 104 #[iv i0, iv i1, iv i2, iv i3, iv i4, iv (4 : Int32), iv (2 : Int32), iv mz, rv b479, rv ra_776, .unset, .unset, .unset] [(.ref b479)]
      refine XS.iload X776.here hx rfl (hb hby at_104) rfl ?_
      show Go p e below t T776 m 106 #[iv i0, iv i1, iv i2, iv i3, iv i4, iv (4 : Int32), iv (2 : Int32), iv mz, rv b479, rv ra_776, .unset, .unset, .unset] [(.int (2 : Int32)), (.ref b479)]
      exact k)
    obtain ⟨cl779, Ar779, q779, S779, M779, H779, G779⟩ := id (V501.keep R776_0 nin0)
    have g780 : Goes p e below S0 (T776.setTop (mkF m 109 #[iv i0, iv i1, iv i2, iv i3, iv i4, iv (4 : Int32), iv (2 : Int32), iv mz, rv b479, rv ra_776, iv (nP2 i0 i1 i2), .unset, .unset] [])) := fun t k => g778 t (by
      refine X776.iaload hx (j := (2 : Int32)) (v := (.int (nP2 i0 i1 i2))) Ar779.1 (State.isArrayOf_alike hZ.alike Ar779.2.1) Ar779.2.2 (inb_of S779 ⟨by decide, by decide⟩) (H779.at (inb_of S779 ⟨by decide, by decide⟩) rfl) (g := (mkF m 106 #[iv i0, iv i1, iv i2, iv i3, iv i4, iv (4 : Int32), iv (2 : Int32), iv mz, rv b479, rv ra_776, .unset, .unset, .unset] [(.int (2 : Int32)), (.ref b479)])) rfl rfl (hb hby at_106) _ ?_
      show Go p e below t T776 m 107 #[iv i0, iv i1, iv i2, iv i3, iv i4, iv (4 : Int32), iv (2 : Int32), iv mz, rv b479, rv ra_776, .unset, .unset, .unset] [(.int (nP2 i0 i1 i2))]
      refine XS.istore X776.here hx rfl (hb hby at_107) rfl (l' := #[iv i0, iv i1, iv i2, iv i3, iv i4, iv (4 : Int32), iv (2 : Int32), iv mz, rv b479, rv ra_776, iv (nP2 i0 i1 i2), .unset, .unset]) rfl ?_
      show Go p e below t T776 m 109 #[iv i0, iv i1, iv i2, iv i3, iv i4, iv (4 : Int32), iv (2 : Int32), iv mz, rv b479, rv ra_776, iv (nP2 i0 i1 i2), .unset, .unset] []
      exact k)
    obtain ⟨T781, h781, X781, e781, E781, A781, D781, -, st781⟩ := newO X776 hx hZ hown (hw _ (List.mem_of_getElem? (i := 7) rfl)) (hw _ (List.mem_of_getElem? (i := 8) rfl)) (hw _ (List.mem_of_getElem? (i := 9) rfl)) rfl (g := (mkF m 109 #[iv i0, iv i1, iv i2, iv i3, iv i4, iv (4 : Int32), iv (2 : Int32), iv mz, rv b479, rv ra_776, iv (nP2 i0 i1 i2), .unset, .unset] [])) rfl (hb hby at_109) (by decide) (by decide)
    obtain ⟨b781, gb781⟩ : ∃ z, z = T776.heap.size := ⟨_, rfl⟩
    have sz781 : h0.size ≤ b781 := Nat.le_trans (Nat.le_trans (Nat.le_trans (Nat.le_trans (Nat.le_trans (Nat.le_trans (Nat.le_trans (Nat.le_refl _) E479.1) (Nat.le_of_eq W483.size.symm)) (Nat.le_of_eq W489.size.symm)) (Nat.le_of_eq W495.size.symm)) (Nat.le_of_eq W501.size.symm)) R776_0.1) (Nat.le_of_eq gb781.symm)
    have ng781 : n0 ≤ b781 := Nat.le_trans Z0 sz781
    rw [← gb781] at A781 D781 st781
    have F781_782 : Fld Z h781 b781 "com/example/aristotle/aristotle/EliminationPlan$Step" "variable" "I" (.int (0 : Int32)) := D781 (Or.inr (hw _ (List.mem_of_getElem? (i := 22) rfl))) (ty := .int) (by decide)
    have F781_783 : Fld Z h781 b781 "com/example/aristotle/aristotle/EliminationPlan$Step" "tables" "[I" .null := D781 (Or.inr (hw _ (List.mem_of_getElem? (i := 24) rfl))) (ty := (.array .int)) (by decide)
    have F781_784 : Fld Z h781 b781 "com/example/aristotle/aristotle/EliminationPlan$Step" "product" "[I" .null := D781 (Or.inr (hw _ (List.mem_of_getElem? (i := 26) rfl))) (ty := (.array .int)) (by decide)
    have F781_785 : Fld Z h781 b781 "com/example/aristotle/aristotle/EliminationPlan$Step" "entries" "D" (.double (0 : UInt64)) := D781 (Or.inr (hw _ (List.mem_of_getElem? (i := 28) rfl))) (ty := .double) (by decide)
    have F781_786 : Fld Z h781 b781 "com/example/aristotle/aristotle/EliminationPlan$Step" "makes" "Z" (.int (0 : Int32)) := D781 (Or.inr (hw _ (List.mem_of_getElem? (i := 30) rfl))) (ty := .boolean) (by decide)
    have g787 : Goes p e below S0 (T781.setTop (mkF m 112 #[iv i0, iv i1, iv i2, iv i3, iv i4, iv (4 : Int32), iv (2 : Int32), iv mz, rv b479, rv ra_776, iv (nP2 i0 i1 i2), .unset, .unset] [(.ref b781)])) := fun t k => g780 t (st781 t k)
    have g788 : Goes p e below S0 (T781.setTop (mkF m 116 #[iv i0, iv i1, iv i2, iv i3, iv i4, iv (4 : Int32), iv (2 : Int32), iv mz, rv b479, rv ra_776, iv (nP2 i0 i1 i2), .unset, .unset] [(.int (0 : Int32)), (.int (nP2 i0 i1 i2)), (.ref b781), (.ref b781)])) := fun t k => g787 t (by
      refine XS.dup X781.here hx rfl (hb hby at_112) rfl rfl ?_
      show Go p e below t T781 m 113 #[iv i0, iv i1, iv i2, iv i3, iv i4, iv (4 : Int32), iv (2 : Int32), iv mz, rv b479, rv ra_776, iv (nP2 i0 i1 i2), .unset, .unset] [(.ref b781), (.ref b781)]
      refine XS.iload X781.here hx rfl (hb hby at_113) rfl ?_
      show Go p e below t T781 m 115 #[iv i0, iv i1, iv i2, iv i3, iv i4, iv (4 : Int32), iv (2 : Int32), iv mz, rv b479, rv ra_776, iv (nP2 i0 i1 i2), .unset, .unset] [(.int (nP2 i0 i1 i2)), (.ref b781), (.ref b781)]
      refine XT.iconstV X781.here hx rfl (0 : Int32) (hb hby at_115) (by decide) ?_
      show Go p e below t T781 m 116 #[iv i0, iv i1, iv i2, iv i3, iv i4, iv (4 : Int32), iv (2 : Int32), iv mz, rv b479, rv ra_776, iv (nP2 i0 i1 i2), .unset, .unset] [(.int (0 : Int32)), (.int (nP2 i0 i1 i2)), (.ref b781), (.ref b781)]
      exact k)
    obtain ⟨T789, h789, k789, X789, e789, E789, A789, st789⟩ := newP X781 hx hZ (hw _ (List.mem_of_getElem? (i := 1) rfl)) e781 (g := (mkF m 116 #[iv i0, iv i1, iv i2, iv i3, iv i4, iv (4 : Int32), iv (2 : Int32), iv mz, rv b479, rv ra_776, iv (nP2 i0 i1 i2), .unset, .unset] [(.int (0 : Int32)), (.int (nP2 i0 i1 i2)), (.ref b781), (.ref b781)])) rfl (hb hby at_116) rfl (by decide) (cap := 0) (by decide) (by decide) (by decide) (by decide)
    obtain ⟨b789, gb789⟩ : ∃ z, z = h781.size := ⟨_, rfl⟩
    have sz789 : h0.size ≤ b789 := Nat.le_trans (Nat.le_trans (Nat.le_trans (Nat.le_trans (Nat.le_trans (Nat.le_trans (Nat.le_trans (Nat.le_trans (Nat.le_refl _) E479.1) (Nat.le_of_eq W483.size.symm)) (Nat.le_of_eq W489.size.symm)) (Nat.le_of_eq W495.size.symm)) (Nat.le_of_eq W501.size.symm)) R776_0.1) E781.1) (Nat.le_of_eq gb789.symm)
    have ng789 : n0 ≤ b789 := Nat.le_trans Z0 sz789
    rw [← gb789] at A789 st789
    have V789 : Arv Z h789 b789 k789 .int (0 : Int32) [] (.int (0 : Int32)) := (Arv.new A789 (by decide)).pad (pad_rep [] (.int (0 : Int32)) 0)
    have g790 : Goes p e below S0 (T789.setTop (mkF m 118 #[iv i0, iv i1, iv i2, iv i3, iv i4, iv (4 : Int32), iv (2 : Int32), iv mz, rv b479, rv ra_776, iv (nP2 i0 i1 i2), .unset, .unset] [(.ref b789), (.int (nP2 i0 i1 i2)), (.ref b781), (.ref b781)])) := fun t k => g788 t (st789 t k)
    have g791 : Goes p e below S0 (T789.setTop (mkF m 125 #[iv i0, iv i1, iv i2, iv i3, iv i4, iv (4 : Int32), iv (2 : Int32), iv mz, rv b479, rv ra_776, iv (nP2 i0 i1 i2), .unset, .unset] [(.int mz), (.double (FP.i2d (4 : Int32))), (.ref ra_776), (.ref b789), (.int (nP2 i0 i1 i2)), (.ref b781), (.ref b781)])) := fun t k => g790 t (by
      refine XS.aload X789.here hx rfl (hb hby at_118) rfl rfl ?_
      show Go p e below t T789 m 120 #[iv i0, iv i1, iv i2, iv i3, iv i4, iv (4 : Int32), iv (2 : Int32), iv mz, rv b479, rv ra_776, iv (nP2 i0 i1 i2), .unset, .unset] [(.ref ra_776), (.ref b789), (.int (nP2 i0 i1 i2)), (.ref b781), (.ref b781)]
      refine XS.iload X789.here hx rfl (hb hby at_120) rfl ?_
      show Go p e below t T789 m 122 #[iv i0, iv i1, iv i2, iv i3, iv i4, iv (4 : Int32), iv (2 : Int32), iv mz, rv b479, rv ra_776, iv (nP2 i0 i1 i2), .unset, .unset] [(.int (4 : Int32)), (.ref ra_776), (.ref b789), (.int (nP2 i0 i1 i2)), (.ref b781), (.ref b781)]
      refine XS.i2dS X789.here hx rfl (hb hby at_122) rfl rfl ?_
      show Go p e below t T789 m 123 #[iv i0, iv i1, iv i2, iv i3, iv i4, iv (4 : Int32), iv (2 : Int32), iv mz, rv b479, rv ra_776, iv (nP2 i0 i1 i2), .unset, .unset] [(.double (FP.i2d (4 : Int32))), (.ref ra_776), (.ref b789), (.int (nP2 i0 i1 i2)), (.ref b781), (.ref b781)]
      refine XS.iload X789.here hx rfl (hb hby at_123) rfl ?_
      show Go p e below t T789 m 125 #[iv i0, iv i1, iv i2, iv i3, iv i4, iv (4 : Int32), iv (2 : Int32), iv mz, rv b479, rv ra_776, iv (nP2 i0 i1 i2), .unset, .unset] [(.int mz), (.double (FP.i2d (4 : Int32))), (.ref ra_776), (.ref b789), (.int (nP2 i0 i1 i2)), (.ref b781), (.ref b781)]
      exact k)
    obtain ⟨_, _, ⟨T792, L792, k792, n792⟩, -, X792, ⟨Lc792, hQ792, l792, y792, z792⟩, st792⟩ := X789.specialBack hx (y := (⟨"com/example/aristotle/aristotle/EliminationPlan$Step", "<init>", "(I[I[IDZ)V"⟩ : MethodName)) rfl hown (mvT hZ (hw _ (List.mem_of_getElem? (i := 10) rfl))) (mvT hZ (hw _ (List.mem_of_getElem? (i := 11) rfl))) (mvT hZ (hw _ (List.mem_of_getElem? (i := 12) rfl))) (by decide) (backOf (W := 1) (rm_ini l Z a0 hw [] b781 (nP2 i0 i1 i2) b789 ra_776 (FP.i2d (4 : Int32)) mz  h789 n0 (Nat.le_trans Z0 (Nat.le_trans (Nat.le_trans (Nat.le_trans (Nat.le_trans (Nat.le_trans (Nat.le_trans (Nat.le_trans (Nat.le_trans (Nat.le_refl _) E479.1) (Nat.le_of_eq W483.size.symm)) (Nat.le_of_eq W489.size.symm)) (Nat.le_of_eq W495.size.symm)) (Nat.le_of_eq W501.size.symm)) R776_0.1) E781.1) E789.1)) (A781.ext E789) ng781 (F781_782.ext E789) (F781_783.ext E789) (F781_784.ext E789) (F781_785.ext E789) (F781_786.ext E789)) hZ (hw _ (List.mem_of_getElem? (i := 12) rfl)) (hw _ (List.mem_of_getElem? (i := 9) rfl)) (by decide) (by decide)) (g := (mkF m 125 #[iv i0, iv i1, iv i2, iv i3, iv i4, iv (4 : Int32), iv (2 : Int32), iv mz, rv b479, rv ra_776, iv (nP2 i0 i1 i2), .unset, .unset] [(.int mz), (.double (FP.i2d (4 : Int32))), (.ref ra_776), (.ref b789), (.int (nP2 i0 i1 i2)), (.ref b781), (.ref b781)])) rfl (by rw [hml]; rfl) (Steps.refl _) (a := b781) (argsL := [(.int (nP2 i0 i1 i2)), (.ref b789), (.ref ra_776), (.double (FP.i2d (4 : Int32))), (.int mz)]) (rest := [(.ref b781)]) (lenOf pd1 rfl) rfl (by show 2 * 0 + _ ≤ _; exact Nat.le_of_eq rfl) (hb hby at_125) (fun _ _ => ⟨rfl, e789, (by decide : 4 + 0 ≤ _), (by decide : 13 + 0 ≤ _)⟩)
    dsimp only [Pt.U, Pt.locs, Pt.cells, Pt.slots] at X792 l792 y792 z792 st792 hQ792
    subst l792 y792 z792
    obtain ⟨rfl, N792, R792_0, R792_1, R792_2, R792_3, R792_4, R792_5, R792_6⟩ := hQ792
    have M792 := Fr.app M776 N792
    have g793 : Goes p e below S0 (T792.setTop (mkF m 128 #[iv i0, iv i1, iv i2, iv i3, iv i4, iv (4 : Int32), iv (2 : Int32), iv mz, rv b479, rv ra_776, iv (nP2 i0 i1 i2), .unset, .unset] [(.ref b781)])) := fun t k => g791 t (st792.trans k)
    have g794 : Goes p e below S0 (T792.setTop (mkF m 132 #[iv i0, iv i1, iv i2, iv i3, iv i4, iv (4 : Int32), iv (2 : Int32), iv mz, rv b479, rv ra_776, iv (nP2 i0 i1 i2), rv b781, .unset] [(.ref b781)])) := fun t k => g793 t (by
      refine XS.astore X792.here hx rfl (hb hby at_128) rfl rfl (l' := #[iv i0, iv i1, iv i2, iv i3, iv i4, iv (4 : Int32), iv (2 : Int32), iv mz, rv b479, rv ra_776, iv (nP2 i0 i1 i2), rv b781, .unset]) rfl ?_
      show Go p e below t T792 m 130 #[iv i0, iv i1, iv i2, iv i3, iv i4, iv (4 : Int32), iv (2 : Int32), iv mz, rv b479, rv ra_776, iv (nP2 i0 i1 i2), rv b781, .unset] []
      refine XS.aload X792.here hx rfl (hb hby at_130) rfl rfl ?_
      show Go p e below t T792 m 132 #[iv i0, iv i1, iv i2, iv i3, iv i4, iv (4 : Int32), iv (2 : Int32), iv mz, rv b479, rv ra_776, iv (nP2 i0 i1 i2), rv b781, .unset] [(.ref b781)]
      exact k)
    obtain ⟨cq795, kq795, q795a, q795b, q795c⟩ := isOf hZ rfl R792_1
    obtain ⟨_, _, ⟨T795, L795, k795, n795⟩, -, X795, ⟨Lc795, hQ795, l795, y795, z795⟩, st795⟩ := X792.virtualBack hx (y := (⟨"com/example/aristotle/aristotle/EliminationPlan$Step", "made", "()[I"⟩ : MethodName)) (z := (⟨"com/example/aristotle/aristotle/EliminationPlan$Step", "made", "()[I"⟩ : MethodName)) hown (mvT hZ (hw _ (List.mem_of_getElem? (i := 31) rfl))) (mvT hZ (hw _ (List.mem_of_getElem? (i := 32) rfl))) (notFace_of_selects (args := #[]) (mvT hZ (hw _ (List.mem_of_getElem? (i := 34) rfl)))) (mvT hZ (hw _ (List.mem_of_getElem? (i := 34) rfl))) (mvT hZ (hw _ (List.mem_of_getElem? (i := 33) rfl))) (by decide) (backOf (W := 0) (rm_md42 l Z a0 hw [] b781 ra_776 rk_776 (nP0 i0) (nP1 i0 i1) (nP2 i0 i1 i2) (nP3 i0 i1 i2 i3) T792.heap n0 (Nat.le_trans Z0 (Nat.le_trans (Nat.le_trans (Nat.le_trans (Nat.le_trans (Nat.le_trans (Nat.le_trans (Nat.le_trans (Nat.le_trans (Nat.le_trans (Nat.le_refl _) E479.1) (Nat.le_of_eq W483.size.symm)) (Nat.le_of_eq W489.size.symm)) (Nat.le_of_eq W495.size.symm)) (Nat.le_of_eq W501.size.symm)) R776_0.1) E781.1) E789.1) R792_0.1)) R792_4 R792_2 (((R776_1.ext E781).ext E789).keep R792_0 (ninS (Nat.ne_of_lt (Nat.lt_of_lt_of_le R776_1.lt (Nat.le_of_eq gb781.symm))) nin0)) (own_ne02 i0 i1 i2 i3) (own_ne12 i0 i1 i2 i3) (own_ne32 i0 i1 i2 i3)) hZ (hw _ (List.mem_of_getElem? (i := 35) rfl)) (hw _ (List.mem_of_getElem? (i := 9) rfl)) (by decide) (by decide)) q795a q795c (g := (mkF m 132 #[iv i0, iv i1, iv i2, iv i3, iv i4, iv (4 : Int32), iv (2 : Int32), iv mz, rv b479, rv ra_776, iv (nP2 i0 i1 i2), rv b781, .unset] [(.ref b781)])) rfl (by rw [hml]; rfl) (Steps.refl _) (argsL := []) (rest := []) (lenOf pd3 rfl) rfl (by show 2 * 0 + _ ≤ _; exact Nat.le_of_eq rfl) (hb hby at_132) (fun _ _ => ⟨rfl, rfl, (by decide : 4 + 1 ≤ _), (by decide : 13 + 3 ≤ _)⟩)
    dsimp only [Pt.U, Pt.locs, Pt.cells, Pt.slots] at X795 l795 y795 z795 st795 hQ795
    subst l795 y795 z795
    obtain ⟨ra_795, rk_795, rfl, N795, R795_0, R795_1, R795_2⟩ := hQ795
    have M795 := Fr.app M792 N795
    have sz795_2 : h0.size ≤ ra_795 := Nat.le_trans (Nat.le_trans (Nat.le_trans (Nat.le_trans (Nat.le_trans (Nat.le_trans (Nat.le_trans (Nat.le_trans (Nat.le_trans (Nat.le_trans (Nat.le_refl _) E479.1) (Nat.le_of_eq W483.size.symm)) (Nat.le_of_eq W489.size.symm)) (Nat.le_of_eq W495.size.symm)) (Nat.le_of_eq W501.size.symm)) R776_0.1) E781.1) E789.1) R792_0.1) R795_2
    have ng795_2 : n0 ≤ ra_795 := Nat.le_trans Z0 sz795_2
    have g796 : Goes p e below S0 (T795.setTop (mkF m 135 #[iv i0, iv i1, iv i2, iv i3, iv i4, iv (4 : Int32), iv (2 : Int32), iv mz, rv b479, rv ra_776, iv (nP2 i0 i1 i2), rv b781, .unset] [(.ref ra_795)])) := fun t k => g794 t (st795.trans k)
    have g797 : Goes p e below S0 (T795.setTop (mkF m 139 #[iv i0, iv i1, iv i2, iv i3, iv i4, iv (4 : Int32), iv (2 : Int32), iv mz, rv b479, rv ra_776, iv (nP2 i0 i1 i2), rv b781, rv ra_795] [(.ref ra_795)])) := fun t k => g796 t (by
      refine XS.astore X795.here hx rfl (hb hby at_135) rfl rfl (l' := #[iv i0, iv i1, iv i2, iv i3, iv i4, iv (4 : Int32), iv (2 : Int32), iv mz, rv b479, rv ra_776, iv (nP2 i0 i1 i2), rv b781, rv ra_795]) rfl ?_
      show Go p e below t T795 m 137 #[iv i0, iv i1, iv i2, iv i3, iv i4, iv (4 : Int32), iv (2 : Int32), iv mz, rv b479, rv ra_776, iv (nP2 i0 i1 i2), rv b781, rv ra_795] []
      refine XS.aload X795.here hx rfl (hb hby at_137) rfl rfl ?_
      show Go p e below t T795 m 139 #[iv i0, iv i1, iv i2, iv i3, iv i4, iv (4 : Int32), iv (2 : Int32), iv mz, rv b479, rv ra_776, iv (nP2 i0 i1 i2), rv b781, rv ra_795] [(.ref ra_795)]
      exact k)
    obtain ⟨cl798, Ar798, q798, S798, M798, H798, G798⟩ := id R795_1
    have g799 : Goes p e below S0 (T795.setTop (mkF m 156 #[iv i0, iv i1, iv i2, iv i3, iv i4, iv (4 : Int32), iv (2 : Int32), iv mz, rv b479, rv ra_776, iv (nP2 i0 i1 i2), rv b781, rv ra_795] [(.int (2 : Int32)), (.ref b479), (.int (0 : Int32)), (.ref ra_795)])) := fun t k => g797 t (by
      refine X795.arraylength hx Ar798.1 (State.isArrayOf_alike hZ.alike Ar798.2.1) (g := (mkF m 139 #[iv i0, iv i1, iv i2, iv i3, iv i4, iv (4 : Int32), iv (2 : Int32), iv mz, rv b479, rv ra_776, iv (nP2 i0 i1 i2), rv b781, rv ra_795] [(.ref ra_795)])) rfl rfl (hb hby at_139) _ ?_
      rw [len_of S798 M798]
      show Go p e below t T795 m 140 #[iv i0, iv i1, iv i2, iv i3, iv i4, iv (4 : Int32), iv (2 : Int32), iv mz, rv b479, rv ra_776, iv (nP2 i0 i1 i2), rv b781, rv ra_795] [(.int (3 : Int32))]
      refine XS.iload X795.here hx rfl (hb hby at_140) rfl ?_
      show Go p e below t T795 m 142 #[iv i0, iv i1, iv i2, iv i3, iv i4, iv (4 : Int32), iv (2 : Int32), iv mz, rv b479, rv ra_776, iv (nP2 i0 i1 i2), rv b781, rv ra_795] [(.int (4 : Int32)), (.int (3 : Int32))]
      refine XT.iconstV X795.here hx rfl (1 : Int32) (hb hby at_142) (by decide) ?_
      show Go p e below t T795 m 143 #[iv i0, iv i1, iv i2, iv i3, iv i4, iv (4 : Int32), iv (2 : Int32), iv mz, rv b479, rv ra_776, iv (nP2 i0 i1 i2), rv b781, rv ra_795] [(.int (1 : Int32)), (.int (4 : Int32)), (.int (3 : Int32))]
      refine XS.isub X795.here hx rfl (hb hby at_143) rfl ?_
      rw [show ((4 : Int32) - (1 : Int32)) = (3 : Int32) by decide]
      show Go p e below t T795 m 144 #[iv i0, iv i1, iv i2, iv i3, iv i4, iv (4 : Int32), iv (2 : Int32), iv mz, rv b479, rv ra_776, iv (nP2 i0 i1 i2), rv b781, rv ra_795] [(.int (3 : Int32)), (.int (3 : Int32))]
      refine XS.icmpYes X795.here hx rfl (pc0 := 144) (pc' := 149) rfl (hb hby at_144) rfl (XT.ii_eq_t (by decide)) (by decide) (by decide) ?_
      show Go p e below t T795 m 149 #[iv i0, iv i1, iv i2, iv i3, iv i4, iv (4 : Int32), iv (2 : Int32), iv mz, rv b479, rv ra_776, iv (nP2 i0 i1 i2), rv b781, rv ra_795] []
      refine XS.aload X795.here hx rfl (hb hby at_149) rfl rfl ?_
      show Go p e below t T795 m 151 #[iv i0, iv i1, iv i2, iv i3, iv i4, iv (4 : Int32), iv (2 : Int32), iv mz, rv b479, rv ra_776, iv (nP2 i0 i1 i2), rv b781, rv ra_795] [(.ref ra_795)]
      refine XT.iconstV X795.here hx rfl (0 : Int32) (hb hby at_151) (by decide) ?_
      show Go p e below t T795 m 152 #[iv i0, iv i1, iv i2, iv i3, iv i4, iv (4 : Int32), iv (2 : Int32), iv mz, rv b479, rv ra_776, iv (nP2 i0 i1 i2), rv b781, rv ra_795] [(.int (0 : Int32)), (.ref ra_795)]
      refine XS.aload X795.here hx rfl (hb hby at_152) rfl rfl ?_
      show Go p e below t T795 m 154 #[iv i0, iv i1, iv i2, iv i3, iv i4, iv (4 : Int32), iv (2 : Int32), iv mz, rv b479, rv ra_776, iv (nP2 i0 i1 i2), rv b781, rv ra_795] [(.ref b479), (.int (0 : Int32)), (.ref ra_795)]
      refine XS.iload X795.here hx rfl (hb hby at_154) rfl ?_
      show Go p e below t T795 m 156 #[iv i0, iv i1, iv i2, iv i3, iv i4, iv (4 : Int32), iv (2 : Int32), iv mz, rv b479, rv ra_776, iv (nP2 i0 i1 i2), rv b781, rv ra_795] [(.int (2 : Int32)), (.ref b479), (.int (0 : Int32)), (.ref ra_795)]
      exact k)
    obtain ⟨_, _, ⟨T800, L800, k800, n800⟩, -, X800, ⟨Lc800, hQ800, l800, y800, z800⟩, st800⟩ := Jvm.LawKit.callS X795 hx (y := (⟨"com/example/aristotle/aristotle/StepMadePinLaw", "check", "([II[II)Z"⟩ : MethodName)) hown (mvT hZ (hw _ (List.mem_of_getElem? (i := 36) rfl))) (mvT hZ (hw _ (List.mem_of_getElem? (i := 37) rfl))) (mvT hZ (hw _ (List.mem_of_getElem? (i := 5) rfl))) (mvT hZ (hw _ (List.mem_of_getElem? (i := 38) rfl))) (by decide) (backOf (W := 0) (rm_ck1 l Z a0 hw [] ra_795 (0 : Int32) b479 (2 : Int32) rk_795 (3 : Int32) [(.int (nP0 i0)), (.int (nP1 i0 i1)), (.int (nP3 i0 i1 i2 i3))] (.int (0 : Int32)) k479 (4 : Int32) [(.int (nP0 i0)), (.int (nP1 i0 i1)), (.int (nP2 i0 i1 i2)), (.int (nP3 i0 i1 i2 i3))] (.int (0 : Int32)) (nP0 i0) T795.heap n0 (Nat.le_trans Z0 (Nat.le_trans (Nat.le_trans (Nat.le_trans (Nat.le_trans (Nat.le_trans (Nat.le_trans (Nat.le_trans (Nat.le_trans (Nat.le_trans (Nat.le_trans (Nat.le_refl _) E479.1) (Nat.le_of_eq W483.size.symm)) (Nat.le_of_eq W489.size.symm)) (Nat.le_of_eq W495.size.symm)) (Nat.le_of_eq W501.size.symm)) R776_0.1) E781.1) E789.1) R792_0.1) R795_0.1)) R795_1 (((((V501.keep R776_0 nin0).ext E781).ext E789).keep R792_0 (ninS (Nat.ne_of_lt (Nat.lt_of_lt_of_le (V501.keep R776_0 nin0).lt (Nat.le_of_eq gb781.symm))) nin0)).keep R795_0 nin0) (by decide) (by decide) (by decide) (by decide) rfl rfl) hZ (hw _ (List.mem_of_getElem? (i := 38) rfl)) (hw _ (List.mem_of_getElem? (i := 5) rfl)) (by decide) (by decide)) (g := (mkF m 156 #[iv i0, iv i1, iv i2, iv i3, iv i4, iv (4 : Int32), iv (2 : Int32), iv mz, rv b479, rv ra_776, iv (nP2 i0 i1 i2), rv b781, rv ra_795] [(.int (2 : Int32)), (.ref b479), (.int (0 : Int32)), (.ref ra_795)])) rfl (by rw [hml]; rfl) (argsL := [(.ref ra_795), (.int (0 : Int32)), (.ref b479), (.int (2 : Int32))]) (rest := []) (lenOf pd4 rfl) rfl (by show 2 * 0 + _ ≤ _; exact Nat.le_of_eq rfl) (hb hby at_156) (fun _ _ => ⟨rfl, rfl, (by decide : 5 + 0 ≤ _), (by decide : 16 + 0 ≤ _)⟩)
    dsimp only [Pt.U, Pt.locs, Pt.cells, Pt.slots] at X800 l800 y800 z800 st800 hQ800
    subst l800 y800 z800
    obtain ⟨rfl, N800, R800_0⟩ := hQ800
    have M800 := Fr.app M795 N800
    have g801 : Goes p e below S0 (T800.setTop (mkF m 159 #[iv i0, iv i1, iv i2, iv i3, iv i4, iv (4 : Int32), iv (2 : Int32), iv mz, rv b479, rv ra_776, iv (nP2 i0 i1 i2), rv b781, rv ra_795] [(.int (1 : Int32))])) := fun t k => g799 t (st800 t k)
    have g802 : Goes p e below S0 (T800.setTop (mkF m 169 #[iv i0, iv i1, iv i2, iv i3, iv i4, iv (4 : Int32), iv (2 : Int32), iv mz, rv b479, rv ra_776, iv (nP2 i0 i1 i2), rv b781, rv ra_795] [(.int (2 : Int32)), (.ref b479), (.int (1 : Int32)), (.ref ra_795)])) := fun t k => g801 t (by
      refine XS.ifNo X800.here hx rfl (hb hby at_159) rfl (XT.i0_eq_f (by decide)) ?_
      show Go p e below t T800 m 162 #[iv i0, iv i1, iv i2, iv i3, iv i4, iv (4 : Int32), iv (2 : Int32), iv mz, rv b479, rv ra_776, iv (nP2 i0 i1 i2), rv b781, rv ra_795] []
      refine XS.aload X800.here hx rfl (hb hby at_162) rfl rfl ?_
      show Go p e below t T800 m 164 #[iv i0, iv i1, iv i2, iv i3, iv i4, iv (4 : Int32), iv (2 : Int32), iv mz, rv b479, rv ra_776, iv (nP2 i0 i1 i2), rv b781, rv ra_795] [(.ref ra_795)]
      refine XT.iconstV X800.here hx rfl (1 : Int32) (hb hby at_164) (by decide) ?_
      show Go p e below t T800 m 165 #[iv i0, iv i1, iv i2, iv i3, iv i4, iv (4 : Int32), iv (2 : Int32), iv mz, rv b479, rv ra_776, iv (nP2 i0 i1 i2), rv b781, rv ra_795] [(.int (1 : Int32)), (.ref ra_795)]
      refine XS.aload X800.here hx rfl (hb hby at_165) rfl rfl ?_
      show Go p e below t T800 m 167 #[iv i0, iv i1, iv i2, iv i3, iv i4, iv (4 : Int32), iv (2 : Int32), iv mz, rv b479, rv ra_776, iv (nP2 i0 i1 i2), rv b781, rv ra_795] [(.ref b479), (.int (1 : Int32)), (.ref ra_795)]
      refine XS.iload X800.here hx rfl (hb hby at_167) rfl ?_
      show Go p e below t T800 m 169 #[iv i0, iv i1, iv i2, iv i3, iv i4, iv (4 : Int32), iv (2 : Int32), iv mz, rv b479, rv ra_776, iv (nP2 i0 i1 i2), rv b781, rv ra_795] [(.int (2 : Int32)), (.ref b479), (.int (1 : Int32)), (.ref ra_795)]
      exact k)
    obtain ⟨_, _, ⟨T803, L803, k803, n803⟩, -, X803, ⟨Lc803, hQ803, l803, y803, z803⟩, st803⟩ := Jvm.LawKit.callS X800 hx (y := (⟨"com/example/aristotle/aristotle/StepMadePinLaw", "check", "([II[II)Z"⟩ : MethodName)) hown (mvT hZ (hw _ (List.mem_of_getElem? (i := 36) rfl))) (mvT hZ (hw _ (List.mem_of_getElem? (i := 37) rfl))) (mvT hZ (hw _ (List.mem_of_getElem? (i := 5) rfl))) (mvT hZ (hw _ (List.mem_of_getElem? (i := 38) rfl))) (by decide) (backOf (W := 0) (rm_ck1 l Z a0 hw [] ra_795 (1 : Int32) b479 (2 : Int32) rk_795 (3 : Int32) [(.int (nP0 i0)), (.int (nP1 i0 i1)), (.int (nP3 i0 i1 i2 i3))] (.int (0 : Int32)) k479 (4 : Int32) [(.int (nP0 i0)), (.int (nP1 i0 i1)), (.int (nP2 i0 i1 i2)), (.int (nP3 i0 i1 i2 i3))] (.int (0 : Int32)) (nP1 i0 i1) T795.heap n0 (Nat.le_trans Z0 (Nat.le_trans (Nat.le_trans (Nat.le_trans (Nat.le_trans (Nat.le_trans (Nat.le_trans (Nat.le_trans (Nat.le_trans (Nat.le_trans (Nat.le_trans (Nat.le_refl _) E479.1) (Nat.le_of_eq W483.size.symm)) (Nat.le_of_eq W489.size.symm)) (Nat.le_of_eq W495.size.symm)) (Nat.le_of_eq W501.size.symm)) R776_0.1) E781.1) E789.1) R792_0.1) R795_0.1)) R795_1 (((((V501.keep R776_0 nin0).ext E781).ext E789).keep R792_0 (ninS (Nat.ne_of_lt (Nat.lt_of_lt_of_le (V501.keep R776_0 nin0).lt (Nat.le_of_eq gb781.symm))) nin0)).keep R795_0 nin0) (by decide) (by decide) (by decide) (by decide) rfl rfl) hZ (hw _ (List.mem_of_getElem? (i := 38) rfl)) (hw _ (List.mem_of_getElem? (i := 5) rfl)) (by decide) (by decide)) (g := (mkF m 169 #[iv i0, iv i1, iv i2, iv i3, iv i4, iv (4 : Int32), iv (2 : Int32), iv mz, rv b479, rv ra_776, iv (nP2 i0 i1 i2), rv b781, rv ra_795] [(.int (2 : Int32)), (.ref b479), (.int (1 : Int32)), (.ref ra_795)])) rfl (by rw [hml]; rfl) (argsL := [(.ref ra_795), (.int (1 : Int32)), (.ref b479), (.int (2 : Int32))]) (rest := []) (lenOf pd4 rfl) rfl (by show 2 * 0 + _ ≤ _; exact Nat.le_of_eq rfl) (hb hby at_169) (fun _ _ => ⟨rfl, R800_0, (by decide : 5 + 0 ≤ _), (by decide : 16 + 0 ≤ _)⟩)
    dsimp only [Pt.U, Pt.locs, Pt.cells, Pt.slots] at X803 l803 y803 z803 st803 hQ803
    subst l803 y803 z803
    obtain ⟨rfl, N803, R803_0⟩ := hQ803
    have M803 := Fr.app M800 N803
    have g804 : Goes p e below S0 (T803.setTop (mkF m 172 #[iv i0, iv i1, iv i2, iv i3, iv i4, iv (4 : Int32), iv (2 : Int32), iv mz, rv b479, rv ra_776, iv (nP2 i0 i1 i2), rv b781, rv ra_795] [(.int (1 : Int32))])) := fun t k => g802 t (st803 t k)
    have g805 : Goes p e below S0 (T803.setTop (mkF m 182 #[iv i0, iv i1, iv i2, iv i3, iv i4, iv (4 : Int32), iv (2 : Int32), iv mz, rv b479, rv ra_776, iv (nP2 i0 i1 i2), rv b781, rv ra_795] [(.int (2 : Int32)), (.ref b479), (.int (2 : Int32)), (.ref ra_795)])) := fun t k => g804 t (by
      refine XS.ifNo X803.here hx rfl (hb hby at_172) rfl (XT.i0_eq_f (by decide)) ?_
      show Go p e below t T803 m 175 #[iv i0, iv i1, iv i2, iv i3, iv i4, iv (4 : Int32), iv (2 : Int32), iv mz, rv b479, rv ra_776, iv (nP2 i0 i1 i2), rv b781, rv ra_795] []
      refine XS.aload X803.here hx rfl (hb hby at_175) rfl rfl ?_
      show Go p e below t T803 m 177 #[iv i0, iv i1, iv i2, iv i3, iv i4, iv (4 : Int32), iv (2 : Int32), iv mz, rv b479, rv ra_776, iv (nP2 i0 i1 i2), rv b781, rv ra_795] [(.ref ra_795)]
      refine XT.iconstV X803.here hx rfl (2 : Int32) (hb hby at_177) (by decide) ?_
      show Go p e below t T803 m 178 #[iv i0, iv i1, iv i2, iv i3, iv i4, iv (4 : Int32), iv (2 : Int32), iv mz, rv b479, rv ra_776, iv (nP2 i0 i1 i2), rv b781, rv ra_795] [(.int (2 : Int32)), (.ref ra_795)]
      refine XS.aload X803.here hx rfl (hb hby at_178) rfl rfl ?_
      show Go p e below t T803 m 180 #[iv i0, iv i1, iv i2, iv i3, iv i4, iv (4 : Int32), iv (2 : Int32), iv mz, rv b479, rv ra_776, iv (nP2 i0 i1 i2), rv b781, rv ra_795] [(.ref b479), (.int (2 : Int32)), (.ref ra_795)]
      refine XS.iload X803.here hx rfl (hb hby at_180) rfl ?_
      show Go p e below t T803 m 182 #[iv i0, iv i1, iv i2, iv i3, iv i4, iv (4 : Int32), iv (2 : Int32), iv mz, rv b479, rv ra_776, iv (nP2 i0 i1 i2), rv b781, rv ra_795] [(.int (2 : Int32)), (.ref b479), (.int (2 : Int32)), (.ref ra_795)]
      exact k)
    obtain ⟨_, _, ⟨T806, L806, k806, n806⟩, -, X806, ⟨Lc806, hQ806, l806, y806, z806⟩, st806⟩ := Jvm.LawKit.callS X803 hx (y := (⟨"com/example/aristotle/aristotle/StepMadePinLaw", "check", "([II[II)Z"⟩ : MethodName)) hown (mvT hZ (hw _ (List.mem_of_getElem? (i := 36) rfl))) (mvT hZ (hw _ (List.mem_of_getElem? (i := 37) rfl))) (mvT hZ (hw _ (List.mem_of_getElem? (i := 5) rfl))) (mvT hZ (hw _ (List.mem_of_getElem? (i := 38) rfl))) (by decide) (backOf (W := 0) (rm_ck2 l Z a0 hw [] ra_795 (2 : Int32) b479 (2 : Int32) rk_795 (3 : Int32) [(.int (nP0 i0)), (.int (nP1 i0 i1)), (.int (nP3 i0 i1 i2 i3))] (.int (0 : Int32)) k479 (4 : Int32) [(.int (nP0 i0)), (.int (nP1 i0 i1)), (.int (nP2 i0 i1 i2)), (.int (nP3 i0 i1 i2 i3))] (.int (0 : Int32)) (nP3 i0 i1 i2 i3) T795.heap n0 (Nat.le_trans Z0 (Nat.le_trans (Nat.le_trans (Nat.le_trans (Nat.le_trans (Nat.le_trans (Nat.le_trans (Nat.le_trans (Nat.le_trans (Nat.le_trans (Nat.le_trans (Nat.le_refl _) E479.1) (Nat.le_of_eq W483.size.symm)) (Nat.le_of_eq W489.size.symm)) (Nat.le_of_eq W495.size.symm)) (Nat.le_of_eq W501.size.symm)) R776_0.1) E781.1) E789.1) R792_0.1) R795_0.1)) R795_1 (((((V501.keep R776_0 nin0).ext E781).ext E789).keep R792_0 (ninS (Nat.ne_of_lt (Nat.lt_of_lt_of_le (V501.keep R776_0 nin0).lt (Nat.le_of_eq gb781.symm))) nin0)).keep R795_0 nin0) (by decide) (by decide) (by decide) (by decide) rfl rfl) hZ (hw _ (List.mem_of_getElem? (i := 38) rfl)) (hw _ (List.mem_of_getElem? (i := 5) rfl)) (by decide) (by decide)) (g := (mkF m 182 #[iv i0, iv i1, iv i2, iv i3, iv i4, iv (4 : Int32), iv (2 : Int32), iv mz, rv b479, rv ra_776, iv (nP2 i0 i1 i2), rv b781, rv ra_795] [(.int (2 : Int32)), (.ref b479), (.int (2 : Int32)), (.ref ra_795)])) rfl (by rw [hml]; rfl) (argsL := [(.ref ra_795), (.int (2 : Int32)), (.ref b479), (.int (2 : Int32))]) (rest := []) (lenOf pd4 rfl) rfl (by show 2 * 0 + _ ≤ _; exact Nat.le_of_eq rfl) (hb hby at_182) (fun _ _ => ⟨rfl, R803_0, (by decide : 5 + 0 ≤ _), (by decide : 16 + 0 ≤ _)⟩)
    dsimp only [Pt.U, Pt.locs, Pt.cells, Pt.slots] at X806 l806 y806 z806 st806 hQ806
    subst l806 y806 z806
    obtain ⟨rfl, N806, R806_0⟩ := hQ806
    have M806 := Fr.app M803 N806
    have g807 : Goes p e below S0 (T806.setTop (mkF m 185 #[iv i0, iv i1, iv i2, iv i3, iv i4, iv (4 : Int32), iv (2 : Int32), iv mz, rv b479, rv ra_776, iv (nP2 i0 i1 i2), rv b781, rv ra_795] [(.int (1 : Int32))])) := fun t k => g805 t (st806 t k)
    have g808 : Goes p e below S0 (T806.setTop (mkF m 193 #[iv i0, iv i1, iv i2, iv i3, iv i4, iv (4 : Int32), iv (2 : Int32), iv mz, rv b479, rv ra_776, iv (nP2 i0 i1 i2), rv b781, rv ra_795] [(.int (1 : Int32))])) := fun t k => g807 t (by
      refine XS.ifNo X806.here hx rfl (hb hby at_185) rfl (XT.i0_eq_f (by decide)) ?_
      show Go p e below t T806 m 188 #[iv i0, iv i1, iv i2, iv i3, iv i4, iv (4 : Int32), iv (2 : Int32), iv mz, rv b479, rv ra_776, iv (nP2 i0 i1 i2), rv b781, rv ra_795] []
      refine XT.iconstV X806.here hx rfl (1 : Int32) (hb hby at_188) (by decide) ?_
      show Go p e below t T806 m 189 #[iv i0, iv i1, iv i2, iv i3, iv i4, iv (4 : Int32), iv (2 : Int32), iv mz, rv b479, rv ra_776, iv (nP2 i0 i1 i2), rv b781, rv ra_795] [(.int (1 : Int32))]
      refine XS.goto X806.here hx rfl (pc0 := 189) (pc' := 193) rfl (hb hby at_189) (by decide) (by decide) ?_
      show Go p e below t T806 m 193 #[iv i0, iv i1, iv i2, iv i3, iv i4, iv (4 : Int32), iv (2 : Int32), iv mz, rv b479, rv ra_776, iv (nP2 i0 i1 i2), rv b781, rv ra_795] [(.int (1 : Int32))]
      exact k)
    obtain ⟨fs, hr, hrun, hended, hW, hsame⟩ := X806.leave (v := some (.int (1 : Int32))) (fun h => by rw [Bd.returns] at h; cases h)
    refine ⟨_, _, g808 _ (retN X806 hx (t := .boolean) Bd.returns (by simp) (hb hby at_193) hr), hrun, hended, _, _, rfl, ?_, ⟨_, rfl⟩, hW, hsame.mono (by decide) (by decide)⟩
    show Q_law Z i0 i1 i2 i3 i4  h0 n0 _ T806.heap _
    rw [R806_0]
    exact ⟨rfl, M806⟩
  · skip
    have g809 : Goes p e below S0 (T501.setTop (mkF m 97 #[iv i0, iv i1, iv i2, iv i3, iv i4, iv (4 : Int32), iv (3 : Int32), iv mz, rv b479, .unset, .unset, .unset, .unset] [(.int (4 : Int32)), (.ref b479)])) := fun t k => g502 t (by
      refine XS.aload X501.here hx rfl (hb hby at_93) rfl rfl ?_
      show Go p e below t T501 m 95 #[iv i0, iv i1, iv i2, iv i3, iv i4, iv (4 : Int32), iv (3 : Int32), iv mz, rv b479, .unset, .unset, .unset, .unset] [(.ref b479)]
      refine XS.iload X501.here hx rfl (hb hby at_95) rfl ?_
      show Go p e below t T501 m 97 #[iv i0, iv i1, iv i2, iv i3, iv i4, iv (4 : Int32), iv (3 : Int32), iv mz, rv b479, .unset, .unset, .unset, .unset] [(.int (4 : Int32)), (.ref b479)]
      exact k)
    obtain ⟨_, _, ⟨T810, L810, k810, n810⟩, -, X810, ⟨Lc810, hQ810, l810, y810, z810⟩, st810⟩ := Jvm.LawKit.callS X501 hx (y := (⟨"com/example/aristotle/aristotle/StepMadePinLaw", "prefix", "([II)[I"⟩ : MethodName)) hown (mvT hZ (hw _ (List.mem_of_getElem? (i := 3) rfl))) (mvT hZ (hw _ (List.mem_of_getElem? (i := 4) rfl))) (mvT hZ (hw _ (List.mem_of_getElem? (i := 5) rfl))) (mvT hZ (hw _ (List.mem_of_getElem? (i := 6) rfl))) (by decide) (backOf (W := 0) (rm_pr4 l Z a0 hw [] b479 (4 : Int32) k479 (nP0 i0) (nP1 i0 i1) (nP2 i0 i1 i2) (nP3 i0 i1 i2 i3) h501 n0 (Nat.le_trans Z0 (Nat.le_trans (Nat.le_trans (Nat.le_trans (Nat.le_trans (Nat.le_trans (Nat.le_refl _) E479.1) (Nat.le_of_eq W483.size.symm)) (Nat.le_of_eq W489.size.symm)) (Nat.le_of_eq W495.size.symm)) (Nat.le_of_eq W501.size.symm))) V501 rfl) hZ (hw _ (List.mem_of_getElem? (i := 6) rfl)) (hw _ (List.mem_of_getElem? (i := 5) rfl)) (by decide) (by decide)) (g := (mkF m 97 #[iv i0, iv i1, iv i2, iv i3, iv i4, iv (4 : Int32), iv (3 : Int32), iv mz, rv b479, .unset, .unset, .unset, .unset] [(.int (4 : Int32)), (.ref b479)])) rfl (by rw [hml]; rfl) (argsL := [(.ref b479), (.int (4 : Int32))]) (rest := []) (lenOf pd2 rfl) rfl (by show 2 * 0 + _ ≤ _; exact Nat.le_of_eq rfl) (hb hby at_97) (fun _ _ => ⟨rfl, e501, (by decide : 1 + 1 ≤ _), (by decide : 4 + 4 ≤ _)⟩)
    dsimp only [Pt.U, Pt.locs, Pt.cells, Pt.slots] at X810 l810 y810 z810 st810 hQ810
    subst l810 y810 z810
    obtain ⟨ra_810, rk_810, rfl, N810, R810_0, R810_1, R810_2⟩ := hQ810
    have M810 := Fr.app N501 N810
    have sz810_2 : h0.size ≤ ra_810 := Nat.le_trans (Nat.le_trans (Nat.le_trans (Nat.le_trans (Nat.le_trans (Nat.le_trans (Nat.le_refl _) E479.1) (Nat.le_of_eq W483.size.symm)) (Nat.le_of_eq W489.size.symm)) (Nat.le_of_eq W495.size.symm)) (Nat.le_of_eq W501.size.symm)) R810_2
    have ng810_2 : n0 ≤ ra_810 := Nat.le_trans Z0 sz810_2
    have g811 : Goes p e below S0 (T810.setTop (mkF m 100 #[iv i0, iv i1, iv i2, iv i3, iv i4, iv (4 : Int32), iv (3 : Int32), iv mz, rv b479, .unset, .unset, .unset, .unset] [(.ref ra_810)])) := fun t k => g809 t (st810 t k)
    have g812 : Goes p e below S0 (T810.setTop (mkF m 106 #[iv i0, iv i1, iv i2, iv i3, iv i4, iv (4 : Int32), iv (3 : Int32), iv mz, rv b479, rv ra_810, .unset, .unset, .unset] [(.int (3 : Int32)), (.ref b479)])) := fun t k => g811 t (by
      refine XS.astore X810.here hx rfl (hb hby at_100) rfl rfl (l' := #[iv i0, iv i1, iv i2, iv i3, iv i4, iv (4 : Int32), iv (3 : Int32), iv mz, rv b479, rv ra_810, .unset, .unset, .unset]) rfl ?_
      show Go p e below t T810 m 102 #[iv i0, iv i1, iv i2, iv i3, iv i4, iv (4 : Int32), iv (3 : Int32), iv mz, rv b479, rv ra_810, .unset, .unset, .unset] []
      refine XS.aload X810.here hx rfl (hb hby at_102) rfl rfl ?_
      show Go p e below t T810 m 104 #[iv i0, iv i1, iv i2, iv i3, iv i4, iv (4 : Int32), iv (3 : Int32), iv mz, rv b479, rv ra_810, .unset, .unset, .unset] [(.ref b479)]
      refine XS.iload X810.here hx rfl (hb hby at_104) rfl ?_
      show Go p e below t T810 m 106 #[iv i0, iv i1, iv i2, iv i3, iv i4, iv (4 : Int32), iv (3 : Int32), iv mz, rv b479, rv ra_810, .unset, .unset, .unset] [(.int (3 : Int32)), (.ref b479)]
      exact k)
    obtain ⟨cl813, Ar813, q813, S813, M813, H813, G813⟩ := id (V501.keep R810_0 nin0)
    have g814 : Goes p e below S0 (T810.setTop (mkF m 109 #[iv i0, iv i1, iv i2, iv i3, iv i4, iv (4 : Int32), iv (3 : Int32), iv mz, rv b479, rv ra_810, iv (nP3 i0 i1 i2 i3), .unset, .unset] [])) := fun t k => g812 t (by
      refine X810.iaload hx (j := (3 : Int32)) (v := (.int (nP3 i0 i1 i2 i3))) Ar813.1 (State.isArrayOf_alike hZ.alike Ar813.2.1) Ar813.2.2 (inb_of S813 ⟨by decide, by decide⟩) (H813.at (inb_of S813 ⟨by decide, by decide⟩) rfl) (g := (mkF m 106 #[iv i0, iv i1, iv i2, iv i3, iv i4, iv (4 : Int32), iv (3 : Int32), iv mz, rv b479, rv ra_810, .unset, .unset, .unset] [(.int (3 : Int32)), (.ref b479)])) rfl rfl (hb hby at_106) _ ?_
      show Go p e below t T810 m 107 #[iv i0, iv i1, iv i2, iv i3, iv i4, iv (4 : Int32), iv (3 : Int32), iv mz, rv b479, rv ra_810, .unset, .unset, .unset] [(.int (nP3 i0 i1 i2 i3))]
      refine XS.istore X810.here hx rfl (hb hby at_107) rfl (l' := #[iv i0, iv i1, iv i2, iv i3, iv i4, iv (4 : Int32), iv (3 : Int32), iv mz, rv b479, rv ra_810, iv (nP3 i0 i1 i2 i3), .unset, .unset]) rfl ?_
      show Go p e below t T810 m 109 #[iv i0, iv i1, iv i2, iv i3, iv i4, iv (4 : Int32), iv (3 : Int32), iv mz, rv b479, rv ra_810, iv (nP3 i0 i1 i2 i3), .unset, .unset] []
      exact k)
    obtain ⟨T815, h815, X815, e815, E815, A815, D815, -, st815⟩ := newO X810 hx hZ hown (hw _ (List.mem_of_getElem? (i := 7) rfl)) (hw _ (List.mem_of_getElem? (i := 8) rfl)) (hw _ (List.mem_of_getElem? (i := 9) rfl)) rfl (g := (mkF m 109 #[iv i0, iv i1, iv i2, iv i3, iv i4, iv (4 : Int32), iv (3 : Int32), iv mz, rv b479, rv ra_810, iv (nP3 i0 i1 i2 i3), .unset, .unset] [])) rfl (hb hby at_109) (by decide) (by decide)
    obtain ⟨b815, gb815⟩ : ∃ z, z = T810.heap.size := ⟨_, rfl⟩
    have sz815 : h0.size ≤ b815 := Nat.le_trans (Nat.le_trans (Nat.le_trans (Nat.le_trans (Nat.le_trans (Nat.le_trans (Nat.le_trans (Nat.le_refl _) E479.1) (Nat.le_of_eq W483.size.symm)) (Nat.le_of_eq W489.size.symm)) (Nat.le_of_eq W495.size.symm)) (Nat.le_of_eq W501.size.symm)) R810_0.1) (Nat.le_of_eq gb815.symm)
    have ng815 : n0 ≤ b815 := Nat.le_trans Z0 sz815
    rw [← gb815] at A815 D815 st815
    have F815_816 : Fld Z h815 b815 "com/example/aristotle/aristotle/EliminationPlan$Step" "variable" "I" (.int (0 : Int32)) := D815 (Or.inr (hw _ (List.mem_of_getElem? (i := 22) rfl))) (ty := .int) (by decide)
    have F815_817 : Fld Z h815 b815 "com/example/aristotle/aristotle/EliminationPlan$Step" "tables" "[I" .null := D815 (Or.inr (hw _ (List.mem_of_getElem? (i := 24) rfl))) (ty := (.array .int)) (by decide)
    have F815_818 : Fld Z h815 b815 "com/example/aristotle/aristotle/EliminationPlan$Step" "product" "[I" .null := D815 (Or.inr (hw _ (List.mem_of_getElem? (i := 26) rfl))) (ty := (.array .int)) (by decide)
    have F815_819 : Fld Z h815 b815 "com/example/aristotle/aristotle/EliminationPlan$Step" "entries" "D" (.double (0 : UInt64)) := D815 (Or.inr (hw _ (List.mem_of_getElem? (i := 28) rfl))) (ty := .double) (by decide)
    have F815_820 : Fld Z h815 b815 "com/example/aristotle/aristotle/EliminationPlan$Step" "makes" "Z" (.int (0 : Int32)) := D815 (Or.inr (hw _ (List.mem_of_getElem? (i := 30) rfl))) (ty := .boolean) (by decide)
    have g821 : Goes p e below S0 (T815.setTop (mkF m 112 #[iv i0, iv i1, iv i2, iv i3, iv i4, iv (4 : Int32), iv (3 : Int32), iv mz, rv b479, rv ra_810, iv (nP3 i0 i1 i2 i3), .unset, .unset] [(.ref b815)])) := fun t k => g814 t (st815 t k)
    have g822 : Goes p e below S0 (T815.setTop (mkF m 116 #[iv i0, iv i1, iv i2, iv i3, iv i4, iv (4 : Int32), iv (3 : Int32), iv mz, rv b479, rv ra_810, iv (nP3 i0 i1 i2 i3), .unset, .unset] [(.int (0 : Int32)), (.int (nP3 i0 i1 i2 i3)), (.ref b815), (.ref b815)])) := fun t k => g821 t (by
      refine XS.dup X815.here hx rfl (hb hby at_112) rfl rfl ?_
      show Go p e below t T815 m 113 #[iv i0, iv i1, iv i2, iv i3, iv i4, iv (4 : Int32), iv (3 : Int32), iv mz, rv b479, rv ra_810, iv (nP3 i0 i1 i2 i3), .unset, .unset] [(.ref b815), (.ref b815)]
      refine XS.iload X815.here hx rfl (hb hby at_113) rfl ?_
      show Go p e below t T815 m 115 #[iv i0, iv i1, iv i2, iv i3, iv i4, iv (4 : Int32), iv (3 : Int32), iv mz, rv b479, rv ra_810, iv (nP3 i0 i1 i2 i3), .unset, .unset] [(.int (nP3 i0 i1 i2 i3)), (.ref b815), (.ref b815)]
      refine XT.iconstV X815.here hx rfl (0 : Int32) (hb hby at_115) (by decide) ?_
      show Go p e below t T815 m 116 #[iv i0, iv i1, iv i2, iv i3, iv i4, iv (4 : Int32), iv (3 : Int32), iv mz, rv b479, rv ra_810, iv (nP3 i0 i1 i2 i3), .unset, .unset] [(.int (0 : Int32)), (.int (nP3 i0 i1 i2 i3)), (.ref b815), (.ref b815)]
      exact k)
    obtain ⟨T823, h823, k823, X823, e823, E823, A823, st823⟩ := newP X815 hx hZ (hw _ (List.mem_of_getElem? (i := 1) rfl)) e815 (g := (mkF m 116 #[iv i0, iv i1, iv i2, iv i3, iv i4, iv (4 : Int32), iv (3 : Int32), iv mz, rv b479, rv ra_810, iv (nP3 i0 i1 i2 i3), .unset, .unset] [(.int (0 : Int32)), (.int (nP3 i0 i1 i2 i3)), (.ref b815), (.ref b815)])) rfl (hb hby at_116) rfl (by decide) (cap := 0) (by decide) (by decide) (by decide) (by decide)
    obtain ⟨b823, gb823⟩ : ∃ z, z = h815.size := ⟨_, rfl⟩
    have sz823 : h0.size ≤ b823 := Nat.le_trans (Nat.le_trans (Nat.le_trans (Nat.le_trans (Nat.le_trans (Nat.le_trans (Nat.le_trans (Nat.le_trans (Nat.le_refl _) E479.1) (Nat.le_of_eq W483.size.symm)) (Nat.le_of_eq W489.size.symm)) (Nat.le_of_eq W495.size.symm)) (Nat.le_of_eq W501.size.symm)) R810_0.1) E815.1) (Nat.le_of_eq gb823.symm)
    have ng823 : n0 ≤ b823 := Nat.le_trans Z0 sz823
    rw [← gb823] at A823 st823
    have V823 : Arv Z h823 b823 k823 .int (0 : Int32) [] (.int (0 : Int32)) := (Arv.new A823 (by decide)).pad (pad_rep [] (.int (0 : Int32)) 0)
    have g824 : Goes p e below S0 (T823.setTop (mkF m 118 #[iv i0, iv i1, iv i2, iv i3, iv i4, iv (4 : Int32), iv (3 : Int32), iv mz, rv b479, rv ra_810, iv (nP3 i0 i1 i2 i3), .unset, .unset] [(.ref b823), (.int (nP3 i0 i1 i2 i3)), (.ref b815), (.ref b815)])) := fun t k => g822 t (st823 t k)
    have g825 : Goes p e below S0 (T823.setTop (mkF m 125 #[iv i0, iv i1, iv i2, iv i3, iv i4, iv (4 : Int32), iv (3 : Int32), iv mz, rv b479, rv ra_810, iv (nP3 i0 i1 i2 i3), .unset, .unset] [(.int mz), (.double (FP.i2d (4 : Int32))), (.ref ra_810), (.ref b823), (.int (nP3 i0 i1 i2 i3)), (.ref b815), (.ref b815)])) := fun t k => g824 t (by
      refine XS.aload X823.here hx rfl (hb hby at_118) rfl rfl ?_
      show Go p e below t T823 m 120 #[iv i0, iv i1, iv i2, iv i3, iv i4, iv (4 : Int32), iv (3 : Int32), iv mz, rv b479, rv ra_810, iv (nP3 i0 i1 i2 i3), .unset, .unset] [(.ref ra_810), (.ref b823), (.int (nP3 i0 i1 i2 i3)), (.ref b815), (.ref b815)]
      refine XS.iload X823.here hx rfl (hb hby at_120) rfl ?_
      show Go p e below t T823 m 122 #[iv i0, iv i1, iv i2, iv i3, iv i4, iv (4 : Int32), iv (3 : Int32), iv mz, rv b479, rv ra_810, iv (nP3 i0 i1 i2 i3), .unset, .unset] [(.int (4 : Int32)), (.ref ra_810), (.ref b823), (.int (nP3 i0 i1 i2 i3)), (.ref b815), (.ref b815)]
      refine XS.i2dS X823.here hx rfl (hb hby at_122) rfl rfl ?_
      show Go p e below t T823 m 123 #[iv i0, iv i1, iv i2, iv i3, iv i4, iv (4 : Int32), iv (3 : Int32), iv mz, rv b479, rv ra_810, iv (nP3 i0 i1 i2 i3), .unset, .unset] [(.double (FP.i2d (4 : Int32))), (.ref ra_810), (.ref b823), (.int (nP3 i0 i1 i2 i3)), (.ref b815), (.ref b815)]
      refine XS.iload X823.here hx rfl (hb hby at_123) rfl ?_
      show Go p e below t T823 m 125 #[iv i0, iv i1, iv i2, iv i3, iv i4, iv (4 : Int32), iv (3 : Int32), iv mz, rv b479, rv ra_810, iv (nP3 i0 i1 i2 i3), .unset, .unset] [(.int mz), (.double (FP.i2d (4 : Int32))), (.ref ra_810), (.ref b823), (.int (nP3 i0 i1 i2 i3)), (.ref b815), (.ref b815)]
      exact k)
    obtain ⟨_, _, ⟨T826, L826, k826, n826⟩, -, X826, ⟨Lc826, hQ826, l826, y826, z826⟩, st826⟩ := X823.specialBack hx (y := (⟨"com/example/aristotle/aristotle/EliminationPlan$Step", "<init>", "(I[I[IDZ)V"⟩ : MethodName)) rfl hown (mvT hZ (hw _ (List.mem_of_getElem? (i := 10) rfl))) (mvT hZ (hw _ (List.mem_of_getElem? (i := 11) rfl))) (mvT hZ (hw _ (List.mem_of_getElem? (i := 12) rfl))) (by decide) (backOf (W := 1) (rm_ini l Z a0 hw [] b815 (nP3 i0 i1 i2 i3) b823 ra_810 (FP.i2d (4 : Int32)) mz  h823 n0 (Nat.le_trans Z0 (Nat.le_trans (Nat.le_trans (Nat.le_trans (Nat.le_trans (Nat.le_trans (Nat.le_trans (Nat.le_trans (Nat.le_trans (Nat.le_refl _) E479.1) (Nat.le_of_eq W483.size.symm)) (Nat.le_of_eq W489.size.symm)) (Nat.le_of_eq W495.size.symm)) (Nat.le_of_eq W501.size.symm)) R810_0.1) E815.1) E823.1)) (A815.ext E823) ng815 (F815_816.ext E823) (F815_817.ext E823) (F815_818.ext E823) (F815_819.ext E823) (F815_820.ext E823)) hZ (hw _ (List.mem_of_getElem? (i := 12) rfl)) (hw _ (List.mem_of_getElem? (i := 9) rfl)) (by decide) (by decide)) (g := (mkF m 125 #[iv i0, iv i1, iv i2, iv i3, iv i4, iv (4 : Int32), iv (3 : Int32), iv mz, rv b479, rv ra_810, iv (nP3 i0 i1 i2 i3), .unset, .unset] [(.int mz), (.double (FP.i2d (4 : Int32))), (.ref ra_810), (.ref b823), (.int (nP3 i0 i1 i2 i3)), (.ref b815), (.ref b815)])) rfl (by rw [hml]; rfl) (Steps.refl _) (a := b815) (argsL := [(.int (nP3 i0 i1 i2 i3)), (.ref b823), (.ref ra_810), (.double (FP.i2d (4 : Int32))), (.int mz)]) (rest := [(.ref b815)]) (lenOf pd1 rfl) rfl (by show 2 * 0 + _ ≤ _; exact Nat.le_of_eq rfl) (hb hby at_125) (fun _ _ => ⟨rfl, e823, (by decide : 4 + 0 ≤ _), (by decide : 13 + 0 ≤ _)⟩)
    dsimp only [Pt.U, Pt.locs, Pt.cells, Pt.slots] at X826 l826 y826 z826 st826 hQ826
    subst l826 y826 z826
    obtain ⟨rfl, N826, R826_0, R826_1, R826_2, R826_3, R826_4, R826_5, R826_6⟩ := hQ826
    have M826 := Fr.app M810 N826
    have g827 : Goes p e below S0 (T826.setTop (mkF m 128 #[iv i0, iv i1, iv i2, iv i3, iv i4, iv (4 : Int32), iv (3 : Int32), iv mz, rv b479, rv ra_810, iv (nP3 i0 i1 i2 i3), .unset, .unset] [(.ref b815)])) := fun t k => g825 t (st826.trans k)
    have g828 : Goes p e below S0 (T826.setTop (mkF m 132 #[iv i0, iv i1, iv i2, iv i3, iv i4, iv (4 : Int32), iv (3 : Int32), iv mz, rv b479, rv ra_810, iv (nP3 i0 i1 i2 i3), rv b815, .unset] [(.ref b815)])) := fun t k => g827 t (by
      refine XS.astore X826.here hx rfl (hb hby at_128) rfl rfl (l' := #[iv i0, iv i1, iv i2, iv i3, iv i4, iv (4 : Int32), iv (3 : Int32), iv mz, rv b479, rv ra_810, iv (nP3 i0 i1 i2 i3), rv b815, .unset]) rfl ?_
      show Go p e below t T826 m 130 #[iv i0, iv i1, iv i2, iv i3, iv i4, iv (4 : Int32), iv (3 : Int32), iv mz, rv b479, rv ra_810, iv (nP3 i0 i1 i2 i3), rv b815, .unset] []
      refine XS.aload X826.here hx rfl (hb hby at_130) rfl rfl ?_
      show Go p e below t T826 m 132 #[iv i0, iv i1, iv i2, iv i3, iv i4, iv (4 : Int32), iv (3 : Int32), iv mz, rv b479, rv ra_810, iv (nP3 i0 i1 i2 i3), rv b815, .unset] [(.ref b815)]
      exact k)
    obtain ⟨cq829, kq829, q829a, q829b, q829c⟩ := isOf hZ rfl R826_1
    obtain ⟨_, _, ⟨T829, L829, k829, n829⟩, -, X829, ⟨Lc829, hQ829, l829, y829, z829⟩, st829⟩ := X826.virtualBack hx (y := (⟨"com/example/aristotle/aristotle/EliminationPlan$Step", "made", "()[I"⟩ : MethodName)) (z := (⟨"com/example/aristotle/aristotle/EliminationPlan$Step", "made", "()[I"⟩ : MethodName)) hown (mvT hZ (hw _ (List.mem_of_getElem? (i := 31) rfl))) (mvT hZ (hw _ (List.mem_of_getElem? (i := 32) rfl))) (notFace_of_selects (args := #[]) (mvT hZ (hw _ (List.mem_of_getElem? (i := 34) rfl)))) (mvT hZ (hw _ (List.mem_of_getElem? (i := 34) rfl))) (mvT hZ (hw _ (List.mem_of_getElem? (i := 33) rfl))) (by decide) (backOf (W := 0) (rm_md43 l Z a0 hw [] b815 ra_810 rk_810 (nP0 i0) (nP1 i0 i1) (nP2 i0 i1 i2) (nP3 i0 i1 i2 i3) T826.heap n0 (Nat.le_trans Z0 (Nat.le_trans (Nat.le_trans (Nat.le_trans (Nat.le_trans (Nat.le_trans (Nat.le_trans (Nat.le_trans (Nat.le_trans (Nat.le_trans (Nat.le_refl _) E479.1) (Nat.le_of_eq W483.size.symm)) (Nat.le_of_eq W489.size.symm)) (Nat.le_of_eq W495.size.symm)) (Nat.le_of_eq W501.size.symm)) R810_0.1) E815.1) E823.1) R826_0.1)) R826_4 R826_2 (((R810_1.ext E815).ext E823).keep R826_0 (ninS (Nat.ne_of_lt (Nat.lt_of_lt_of_le R810_1.lt (Nat.le_of_eq gb815.symm))) nin0)) (own_ne03 i0 i1 i2 i3) (own_ne13 i0 i1 i2 i3) (own_ne23 i0 i1 i2 i3)) hZ (hw _ (List.mem_of_getElem? (i := 35) rfl)) (hw _ (List.mem_of_getElem? (i := 9) rfl)) (by decide) (by decide)) q829a q829c (g := (mkF m 132 #[iv i0, iv i1, iv i2, iv i3, iv i4, iv (4 : Int32), iv (3 : Int32), iv mz, rv b479, rv ra_810, iv (nP3 i0 i1 i2 i3), rv b815, .unset] [(.ref b815)])) rfl (by rw [hml]; rfl) (Steps.refl _) (argsL := []) (rest := []) (lenOf pd3 rfl) rfl (by show 2 * 0 + _ ≤ _; exact Nat.le_of_eq rfl) (hb hby at_132) (fun _ _ => ⟨rfl, rfl, (by decide : 4 + 1 ≤ _), (by decide : 13 + 3 ≤ _)⟩)
    dsimp only [Pt.U, Pt.locs, Pt.cells, Pt.slots] at X829 l829 y829 z829 st829 hQ829
    subst l829 y829 z829
    obtain ⟨ra_829, rk_829, rfl, N829, R829_0, R829_1, R829_2⟩ := hQ829
    have M829 := Fr.app M826 N829
    have sz829_2 : h0.size ≤ ra_829 := Nat.le_trans (Nat.le_trans (Nat.le_trans (Nat.le_trans (Nat.le_trans (Nat.le_trans (Nat.le_trans (Nat.le_trans (Nat.le_trans (Nat.le_trans (Nat.le_refl _) E479.1) (Nat.le_of_eq W483.size.symm)) (Nat.le_of_eq W489.size.symm)) (Nat.le_of_eq W495.size.symm)) (Nat.le_of_eq W501.size.symm)) R810_0.1) E815.1) E823.1) R826_0.1) R829_2
    have ng829_2 : n0 ≤ ra_829 := Nat.le_trans Z0 sz829_2
    have g830 : Goes p e below S0 (T829.setTop (mkF m 135 #[iv i0, iv i1, iv i2, iv i3, iv i4, iv (4 : Int32), iv (3 : Int32), iv mz, rv b479, rv ra_810, iv (nP3 i0 i1 i2 i3), rv b815, .unset] [(.ref ra_829)])) := fun t k => g828 t (st829.trans k)
    have g831 : Goes p e below S0 (T829.setTop (mkF m 139 #[iv i0, iv i1, iv i2, iv i3, iv i4, iv (4 : Int32), iv (3 : Int32), iv mz, rv b479, rv ra_810, iv (nP3 i0 i1 i2 i3), rv b815, rv ra_829] [(.ref ra_829)])) := fun t k => g830 t (by
      refine XS.astore X829.here hx rfl (hb hby at_135) rfl rfl (l' := #[iv i0, iv i1, iv i2, iv i3, iv i4, iv (4 : Int32), iv (3 : Int32), iv mz, rv b479, rv ra_810, iv (nP3 i0 i1 i2 i3), rv b815, rv ra_829]) rfl ?_
      show Go p e below t T829 m 137 #[iv i0, iv i1, iv i2, iv i3, iv i4, iv (4 : Int32), iv (3 : Int32), iv mz, rv b479, rv ra_810, iv (nP3 i0 i1 i2 i3), rv b815, rv ra_829] []
      refine XS.aload X829.here hx rfl (hb hby at_137) rfl rfl ?_
      show Go p e below t T829 m 139 #[iv i0, iv i1, iv i2, iv i3, iv i4, iv (4 : Int32), iv (3 : Int32), iv mz, rv b479, rv ra_810, iv (nP3 i0 i1 i2 i3), rv b815, rv ra_829] [(.ref ra_829)]
      exact k)
    obtain ⟨cl832, Ar832, q832, S832, M832, H832, G832⟩ := id R829_1
    have g833 : Goes p e below S0 (T829.setTop (mkF m 156 #[iv i0, iv i1, iv i2, iv i3, iv i4, iv (4 : Int32), iv (3 : Int32), iv mz, rv b479, rv ra_810, iv (nP3 i0 i1 i2 i3), rv b815, rv ra_829] [(.int (3 : Int32)), (.ref b479), (.int (0 : Int32)), (.ref ra_829)])) := fun t k => g831 t (by
      refine X829.arraylength hx Ar832.1 (State.isArrayOf_alike hZ.alike Ar832.2.1) (g := (mkF m 139 #[iv i0, iv i1, iv i2, iv i3, iv i4, iv (4 : Int32), iv (3 : Int32), iv mz, rv b479, rv ra_810, iv (nP3 i0 i1 i2 i3), rv b815, rv ra_829] [(.ref ra_829)])) rfl rfl (hb hby at_139) _ ?_
      rw [len_of S832 M832]
      show Go p e below t T829 m 140 #[iv i0, iv i1, iv i2, iv i3, iv i4, iv (4 : Int32), iv (3 : Int32), iv mz, rv b479, rv ra_810, iv (nP3 i0 i1 i2 i3), rv b815, rv ra_829] [(.int (3 : Int32))]
      refine XS.iload X829.here hx rfl (hb hby at_140) rfl ?_
      show Go p e below t T829 m 142 #[iv i0, iv i1, iv i2, iv i3, iv i4, iv (4 : Int32), iv (3 : Int32), iv mz, rv b479, rv ra_810, iv (nP3 i0 i1 i2 i3), rv b815, rv ra_829] [(.int (4 : Int32)), (.int (3 : Int32))]
      refine XT.iconstV X829.here hx rfl (1 : Int32) (hb hby at_142) (by decide) ?_
      show Go p e below t T829 m 143 #[iv i0, iv i1, iv i2, iv i3, iv i4, iv (4 : Int32), iv (3 : Int32), iv mz, rv b479, rv ra_810, iv (nP3 i0 i1 i2 i3), rv b815, rv ra_829] [(.int (1 : Int32)), (.int (4 : Int32)), (.int (3 : Int32))]
      refine XS.isub X829.here hx rfl (hb hby at_143) rfl ?_
      rw [show ((4 : Int32) - (1 : Int32)) = (3 : Int32) by decide]
      show Go p e below t T829 m 144 #[iv i0, iv i1, iv i2, iv i3, iv i4, iv (4 : Int32), iv (3 : Int32), iv mz, rv b479, rv ra_810, iv (nP3 i0 i1 i2 i3), rv b815, rv ra_829] [(.int (3 : Int32)), (.int (3 : Int32))]
      refine XS.icmpYes X829.here hx rfl (pc0 := 144) (pc' := 149) rfl (hb hby at_144) rfl (XT.ii_eq_t (by decide)) (by decide) (by decide) ?_
      show Go p e below t T829 m 149 #[iv i0, iv i1, iv i2, iv i3, iv i4, iv (4 : Int32), iv (3 : Int32), iv mz, rv b479, rv ra_810, iv (nP3 i0 i1 i2 i3), rv b815, rv ra_829] []
      refine XS.aload X829.here hx rfl (hb hby at_149) rfl rfl ?_
      show Go p e below t T829 m 151 #[iv i0, iv i1, iv i2, iv i3, iv i4, iv (4 : Int32), iv (3 : Int32), iv mz, rv b479, rv ra_810, iv (nP3 i0 i1 i2 i3), rv b815, rv ra_829] [(.ref ra_829)]
      refine XT.iconstV X829.here hx rfl (0 : Int32) (hb hby at_151) (by decide) ?_
      show Go p e below t T829 m 152 #[iv i0, iv i1, iv i2, iv i3, iv i4, iv (4 : Int32), iv (3 : Int32), iv mz, rv b479, rv ra_810, iv (nP3 i0 i1 i2 i3), rv b815, rv ra_829] [(.int (0 : Int32)), (.ref ra_829)]
      refine XS.aload X829.here hx rfl (hb hby at_152) rfl rfl ?_
      show Go p e below t T829 m 154 #[iv i0, iv i1, iv i2, iv i3, iv i4, iv (4 : Int32), iv (3 : Int32), iv mz, rv b479, rv ra_810, iv (nP3 i0 i1 i2 i3), rv b815, rv ra_829] [(.ref b479), (.int (0 : Int32)), (.ref ra_829)]
      refine XS.iload X829.here hx rfl (hb hby at_154) rfl ?_
      show Go p e below t T829 m 156 #[iv i0, iv i1, iv i2, iv i3, iv i4, iv (4 : Int32), iv (3 : Int32), iv mz, rv b479, rv ra_810, iv (nP3 i0 i1 i2 i3), rv b815, rv ra_829] [(.int (3 : Int32)), (.ref b479), (.int (0 : Int32)), (.ref ra_829)]
      exact k)
    obtain ⟨_, _, ⟨T834, L834, k834, n834⟩, -, X834, ⟨Lc834, hQ834, l834, y834, z834⟩, st834⟩ := Jvm.LawKit.callS X829 hx (y := (⟨"com/example/aristotle/aristotle/StepMadePinLaw", "check", "([II[II)Z"⟩ : MethodName)) hown (mvT hZ (hw _ (List.mem_of_getElem? (i := 36) rfl))) (mvT hZ (hw _ (List.mem_of_getElem? (i := 37) rfl))) (mvT hZ (hw _ (List.mem_of_getElem? (i := 5) rfl))) (mvT hZ (hw _ (List.mem_of_getElem? (i := 38) rfl))) (by decide) (backOf (W := 0) (rm_ck1 l Z a0 hw [] ra_829 (0 : Int32) b479 (3 : Int32) rk_829 (3 : Int32) [(.int (nP0 i0)), (.int (nP1 i0 i1)), (.int (nP2 i0 i1 i2))] (.int (0 : Int32)) k479 (4 : Int32) [(.int (nP0 i0)), (.int (nP1 i0 i1)), (.int (nP2 i0 i1 i2)), (.int (nP3 i0 i1 i2 i3))] (.int (0 : Int32)) (nP0 i0) T829.heap n0 (Nat.le_trans Z0 (Nat.le_trans (Nat.le_trans (Nat.le_trans (Nat.le_trans (Nat.le_trans (Nat.le_trans (Nat.le_trans (Nat.le_trans (Nat.le_trans (Nat.le_trans (Nat.le_refl _) E479.1) (Nat.le_of_eq W483.size.symm)) (Nat.le_of_eq W489.size.symm)) (Nat.le_of_eq W495.size.symm)) (Nat.le_of_eq W501.size.symm)) R810_0.1) E815.1) E823.1) R826_0.1) R829_0.1)) R829_1 (((((V501.keep R810_0 nin0).ext E815).ext E823).keep R826_0 (ninS (Nat.ne_of_lt (Nat.lt_of_lt_of_le (V501.keep R810_0 nin0).lt (Nat.le_of_eq gb815.symm))) nin0)).keep R829_0 nin0) (by decide) (by decide) (by decide) (by decide) rfl rfl) hZ (hw _ (List.mem_of_getElem? (i := 38) rfl)) (hw _ (List.mem_of_getElem? (i := 5) rfl)) (by decide) (by decide)) (g := (mkF m 156 #[iv i0, iv i1, iv i2, iv i3, iv i4, iv (4 : Int32), iv (3 : Int32), iv mz, rv b479, rv ra_810, iv (nP3 i0 i1 i2 i3), rv b815, rv ra_829] [(.int (3 : Int32)), (.ref b479), (.int (0 : Int32)), (.ref ra_829)])) rfl (by rw [hml]; rfl) (argsL := [(.ref ra_829), (.int (0 : Int32)), (.ref b479), (.int (3 : Int32))]) (rest := []) (lenOf pd4 rfl) rfl (by show 2 * 0 + _ ≤ _; exact Nat.le_of_eq rfl) (hb hby at_156) (fun _ _ => ⟨rfl, rfl, (by decide : 5 + 0 ≤ _), (by decide : 16 + 0 ≤ _)⟩)
    dsimp only [Pt.U, Pt.locs, Pt.cells, Pt.slots] at X834 l834 y834 z834 st834 hQ834
    subst l834 y834 z834
    obtain ⟨rfl, N834, R834_0⟩ := hQ834
    have M834 := Fr.app M829 N834
    have g835 : Goes p e below S0 (T834.setTop (mkF m 159 #[iv i0, iv i1, iv i2, iv i3, iv i4, iv (4 : Int32), iv (3 : Int32), iv mz, rv b479, rv ra_810, iv (nP3 i0 i1 i2 i3), rv b815, rv ra_829] [(.int (1 : Int32))])) := fun t k => g833 t (st834 t k)
    have g836 : Goes p e below S0 (T834.setTop (mkF m 169 #[iv i0, iv i1, iv i2, iv i3, iv i4, iv (4 : Int32), iv (3 : Int32), iv mz, rv b479, rv ra_810, iv (nP3 i0 i1 i2 i3), rv b815, rv ra_829] [(.int (3 : Int32)), (.ref b479), (.int (1 : Int32)), (.ref ra_829)])) := fun t k => g835 t (by
      refine XS.ifNo X834.here hx rfl (hb hby at_159) rfl (XT.i0_eq_f (by decide)) ?_
      show Go p e below t T834 m 162 #[iv i0, iv i1, iv i2, iv i3, iv i4, iv (4 : Int32), iv (3 : Int32), iv mz, rv b479, rv ra_810, iv (nP3 i0 i1 i2 i3), rv b815, rv ra_829] []
      refine XS.aload X834.here hx rfl (hb hby at_162) rfl rfl ?_
      show Go p e below t T834 m 164 #[iv i0, iv i1, iv i2, iv i3, iv i4, iv (4 : Int32), iv (3 : Int32), iv mz, rv b479, rv ra_810, iv (nP3 i0 i1 i2 i3), rv b815, rv ra_829] [(.ref ra_829)]
      refine XT.iconstV X834.here hx rfl (1 : Int32) (hb hby at_164) (by decide) ?_
      show Go p e below t T834 m 165 #[iv i0, iv i1, iv i2, iv i3, iv i4, iv (4 : Int32), iv (3 : Int32), iv mz, rv b479, rv ra_810, iv (nP3 i0 i1 i2 i3), rv b815, rv ra_829] [(.int (1 : Int32)), (.ref ra_829)]
      refine XS.aload X834.here hx rfl (hb hby at_165) rfl rfl ?_
      show Go p e below t T834 m 167 #[iv i0, iv i1, iv i2, iv i3, iv i4, iv (4 : Int32), iv (3 : Int32), iv mz, rv b479, rv ra_810, iv (nP3 i0 i1 i2 i3), rv b815, rv ra_829] [(.ref b479), (.int (1 : Int32)), (.ref ra_829)]
      refine XS.iload X834.here hx rfl (hb hby at_167) rfl ?_
      show Go p e below t T834 m 169 #[iv i0, iv i1, iv i2, iv i3, iv i4, iv (4 : Int32), iv (3 : Int32), iv mz, rv b479, rv ra_810, iv (nP3 i0 i1 i2 i3), rv b815, rv ra_829] [(.int (3 : Int32)), (.ref b479), (.int (1 : Int32)), (.ref ra_829)]
      exact k)
    obtain ⟨_, _, ⟨T837, L837, k837, n837⟩, -, X837, ⟨Lc837, hQ837, l837, y837, z837⟩, st837⟩ := Jvm.LawKit.callS X834 hx (y := (⟨"com/example/aristotle/aristotle/StepMadePinLaw", "check", "([II[II)Z"⟩ : MethodName)) hown (mvT hZ (hw _ (List.mem_of_getElem? (i := 36) rfl))) (mvT hZ (hw _ (List.mem_of_getElem? (i := 37) rfl))) (mvT hZ (hw _ (List.mem_of_getElem? (i := 5) rfl))) (mvT hZ (hw _ (List.mem_of_getElem? (i := 38) rfl))) (by decide) (backOf (W := 0) (rm_ck1 l Z a0 hw [] ra_829 (1 : Int32) b479 (3 : Int32) rk_829 (3 : Int32) [(.int (nP0 i0)), (.int (nP1 i0 i1)), (.int (nP2 i0 i1 i2))] (.int (0 : Int32)) k479 (4 : Int32) [(.int (nP0 i0)), (.int (nP1 i0 i1)), (.int (nP2 i0 i1 i2)), (.int (nP3 i0 i1 i2 i3))] (.int (0 : Int32)) (nP1 i0 i1) T829.heap n0 (Nat.le_trans Z0 (Nat.le_trans (Nat.le_trans (Nat.le_trans (Nat.le_trans (Nat.le_trans (Nat.le_trans (Nat.le_trans (Nat.le_trans (Nat.le_trans (Nat.le_trans (Nat.le_refl _) E479.1) (Nat.le_of_eq W483.size.symm)) (Nat.le_of_eq W489.size.symm)) (Nat.le_of_eq W495.size.symm)) (Nat.le_of_eq W501.size.symm)) R810_0.1) E815.1) E823.1) R826_0.1) R829_0.1)) R829_1 (((((V501.keep R810_0 nin0).ext E815).ext E823).keep R826_0 (ninS (Nat.ne_of_lt (Nat.lt_of_lt_of_le (V501.keep R810_0 nin0).lt (Nat.le_of_eq gb815.symm))) nin0)).keep R829_0 nin0) (by decide) (by decide) (by decide) (by decide) rfl rfl) hZ (hw _ (List.mem_of_getElem? (i := 38) rfl)) (hw _ (List.mem_of_getElem? (i := 5) rfl)) (by decide) (by decide)) (g := (mkF m 169 #[iv i0, iv i1, iv i2, iv i3, iv i4, iv (4 : Int32), iv (3 : Int32), iv mz, rv b479, rv ra_810, iv (nP3 i0 i1 i2 i3), rv b815, rv ra_829] [(.int (3 : Int32)), (.ref b479), (.int (1 : Int32)), (.ref ra_829)])) rfl (by rw [hml]; rfl) (argsL := [(.ref ra_829), (.int (1 : Int32)), (.ref b479), (.int (3 : Int32))]) (rest := []) (lenOf pd4 rfl) rfl (by show 2 * 0 + _ ≤ _; exact Nat.le_of_eq rfl) (hb hby at_169) (fun _ _ => ⟨rfl, R834_0, (by decide : 5 + 0 ≤ _), (by decide : 16 + 0 ≤ _)⟩)
    dsimp only [Pt.U, Pt.locs, Pt.cells, Pt.slots] at X837 l837 y837 z837 st837 hQ837
    subst l837 y837 z837
    obtain ⟨rfl, N837, R837_0⟩ := hQ837
    have M837 := Fr.app M834 N837
    have g838 : Goes p e below S0 (T837.setTop (mkF m 172 #[iv i0, iv i1, iv i2, iv i3, iv i4, iv (4 : Int32), iv (3 : Int32), iv mz, rv b479, rv ra_810, iv (nP3 i0 i1 i2 i3), rv b815, rv ra_829] [(.int (1 : Int32))])) := fun t k => g836 t (st837 t k)
    have g839 : Goes p e below S0 (T837.setTop (mkF m 182 #[iv i0, iv i1, iv i2, iv i3, iv i4, iv (4 : Int32), iv (3 : Int32), iv mz, rv b479, rv ra_810, iv (nP3 i0 i1 i2 i3), rv b815, rv ra_829] [(.int (3 : Int32)), (.ref b479), (.int (2 : Int32)), (.ref ra_829)])) := fun t k => g838 t (by
      refine XS.ifNo X837.here hx rfl (hb hby at_172) rfl (XT.i0_eq_f (by decide)) ?_
      show Go p e below t T837 m 175 #[iv i0, iv i1, iv i2, iv i3, iv i4, iv (4 : Int32), iv (3 : Int32), iv mz, rv b479, rv ra_810, iv (nP3 i0 i1 i2 i3), rv b815, rv ra_829] []
      refine XS.aload X837.here hx rfl (hb hby at_175) rfl rfl ?_
      show Go p e below t T837 m 177 #[iv i0, iv i1, iv i2, iv i3, iv i4, iv (4 : Int32), iv (3 : Int32), iv mz, rv b479, rv ra_810, iv (nP3 i0 i1 i2 i3), rv b815, rv ra_829] [(.ref ra_829)]
      refine XT.iconstV X837.here hx rfl (2 : Int32) (hb hby at_177) (by decide) ?_
      show Go p e below t T837 m 178 #[iv i0, iv i1, iv i2, iv i3, iv i4, iv (4 : Int32), iv (3 : Int32), iv mz, rv b479, rv ra_810, iv (nP3 i0 i1 i2 i3), rv b815, rv ra_829] [(.int (2 : Int32)), (.ref ra_829)]
      refine XS.aload X837.here hx rfl (hb hby at_178) rfl rfl ?_
      show Go p e below t T837 m 180 #[iv i0, iv i1, iv i2, iv i3, iv i4, iv (4 : Int32), iv (3 : Int32), iv mz, rv b479, rv ra_810, iv (nP3 i0 i1 i2 i3), rv b815, rv ra_829] [(.ref b479), (.int (2 : Int32)), (.ref ra_829)]
      refine XS.iload X837.here hx rfl (hb hby at_180) rfl ?_
      show Go p e below t T837 m 182 #[iv i0, iv i1, iv i2, iv i3, iv i4, iv (4 : Int32), iv (3 : Int32), iv mz, rv b479, rv ra_810, iv (nP3 i0 i1 i2 i3), rv b815, rv ra_829] [(.int (3 : Int32)), (.ref b479), (.int (2 : Int32)), (.ref ra_829)]
      exact k)
    obtain ⟨_, _, ⟨T840, L840, k840, n840⟩, -, X840, ⟨Lc840, hQ840, l840, y840, z840⟩, st840⟩ := Jvm.LawKit.callS X837 hx (y := (⟨"com/example/aristotle/aristotle/StepMadePinLaw", "check", "([II[II)Z"⟩ : MethodName)) hown (mvT hZ (hw _ (List.mem_of_getElem? (i := 36) rfl))) (mvT hZ (hw _ (List.mem_of_getElem? (i := 37) rfl))) (mvT hZ (hw _ (List.mem_of_getElem? (i := 5) rfl))) (mvT hZ (hw _ (List.mem_of_getElem? (i := 38) rfl))) (by decide) (backOf (W := 0) (rm_ck1 l Z a0 hw [] ra_829 (2 : Int32) b479 (3 : Int32) rk_829 (3 : Int32) [(.int (nP0 i0)), (.int (nP1 i0 i1)), (.int (nP2 i0 i1 i2))] (.int (0 : Int32)) k479 (4 : Int32) [(.int (nP0 i0)), (.int (nP1 i0 i1)), (.int (nP2 i0 i1 i2)), (.int (nP3 i0 i1 i2 i3))] (.int (0 : Int32)) (nP2 i0 i1 i2) T829.heap n0 (Nat.le_trans Z0 (Nat.le_trans (Nat.le_trans (Nat.le_trans (Nat.le_trans (Nat.le_trans (Nat.le_trans (Nat.le_trans (Nat.le_trans (Nat.le_trans (Nat.le_trans (Nat.le_refl _) E479.1) (Nat.le_of_eq W483.size.symm)) (Nat.le_of_eq W489.size.symm)) (Nat.le_of_eq W495.size.symm)) (Nat.le_of_eq W501.size.symm)) R810_0.1) E815.1) E823.1) R826_0.1) R829_0.1)) R829_1 (((((V501.keep R810_0 nin0).ext E815).ext E823).keep R826_0 (ninS (Nat.ne_of_lt (Nat.lt_of_lt_of_le (V501.keep R810_0 nin0).lt (Nat.le_of_eq gb815.symm))) nin0)).keep R829_0 nin0) (by decide) (by decide) (by decide) (by decide) rfl rfl) hZ (hw _ (List.mem_of_getElem? (i := 38) rfl)) (hw _ (List.mem_of_getElem? (i := 5) rfl)) (by decide) (by decide)) (g := (mkF m 182 #[iv i0, iv i1, iv i2, iv i3, iv i4, iv (4 : Int32), iv (3 : Int32), iv mz, rv b479, rv ra_810, iv (nP3 i0 i1 i2 i3), rv b815, rv ra_829] [(.int (3 : Int32)), (.ref b479), (.int (2 : Int32)), (.ref ra_829)])) rfl (by rw [hml]; rfl) (argsL := [(.ref ra_829), (.int (2 : Int32)), (.ref b479), (.int (3 : Int32))]) (rest := []) (lenOf pd4 rfl) rfl (by show 2 * 0 + _ ≤ _; exact Nat.le_of_eq rfl) (hb hby at_182) (fun _ _ => ⟨rfl, R837_0, (by decide : 5 + 0 ≤ _), (by decide : 16 + 0 ≤ _)⟩)
    dsimp only [Pt.U, Pt.locs, Pt.cells, Pt.slots] at X840 l840 y840 z840 st840 hQ840
    subst l840 y840 z840
    obtain ⟨rfl, N840, R840_0⟩ := hQ840
    have M840 := Fr.app M837 N840
    have g841 : Goes p e below S0 (T840.setTop (mkF m 185 #[iv i0, iv i1, iv i2, iv i3, iv i4, iv (4 : Int32), iv (3 : Int32), iv mz, rv b479, rv ra_810, iv (nP3 i0 i1 i2 i3), rv b815, rv ra_829] [(.int (1 : Int32))])) := fun t k => g839 t (st840 t k)
    have g842 : Goes p e below S0 (T840.setTop (mkF m 193 #[iv i0, iv i1, iv i2, iv i3, iv i4, iv (4 : Int32), iv (3 : Int32), iv mz, rv b479, rv ra_810, iv (nP3 i0 i1 i2 i3), rv b815, rv ra_829] [(.int (1 : Int32))])) := fun t k => g841 t (by
      refine XS.ifNo X840.here hx rfl (hb hby at_185) rfl (XT.i0_eq_f (by decide)) ?_
      show Go p e below t T840 m 188 #[iv i0, iv i1, iv i2, iv i3, iv i4, iv (4 : Int32), iv (3 : Int32), iv mz, rv b479, rv ra_810, iv (nP3 i0 i1 i2 i3), rv b815, rv ra_829] []
      refine XT.iconstV X840.here hx rfl (1 : Int32) (hb hby at_188) (by decide) ?_
      show Go p e below t T840 m 189 #[iv i0, iv i1, iv i2, iv i3, iv i4, iv (4 : Int32), iv (3 : Int32), iv mz, rv b479, rv ra_810, iv (nP3 i0 i1 i2 i3), rv b815, rv ra_829] [(.int (1 : Int32))]
      refine XS.goto X840.here hx rfl (pc0 := 189) (pc' := 193) rfl (hb hby at_189) (by decide) (by decide) ?_
      show Go p e below t T840 m 193 #[iv i0, iv i1, iv i2, iv i3, iv i4, iv (4 : Int32), iv (3 : Int32), iv mz, rv b479, rv ra_810, iv (nP3 i0 i1 i2 i3), rv b815, rv ra_829] [(.int (1 : Int32))]
      exact k)
    obtain ⟨fs, hr, hrun, hended, hW, hsame⟩ := X840.leave (v := some (.int (1 : Int32))) (fun h => by rw [Bd.returns] at h; cases h)
    refine ⟨_, _, g842 _ (retN X840 hx (t := .boolean) Bd.returns (by simp) (hb hby at_193) hr), hrun, hended, _, _, rfl, ?_, ⟨_, rfl⟩, hW, hsame.mono (by decide) (by decide)⟩
    show Q_law Z i0 i1 i2 i3 i4  h0 n0 _ T840.heap _
    rw [R840_0]
    exact ⟨rfl, M840⟩
theorem own_one (a b c d e : Int32) : f_law a b c d e = 1 := rfl
set_option maxRecDepth 65536 in
set_option maxHeartbeats 40000000 in
theorem comes_1 {Post : Tables → Env → Array Value → State → Outcome → State → Prop} (hpost : ∀ tb e args s v u, (limb_1_1.after args s (.returned v) u = true ∧ limb_1_2.after args s (.returned v) u = true ∧ True) → FrameEnd s (.returned v) u (Jvm.fieldLocs frame_1_writes args s ++ Jvm.arrayLocs frame_1_arrays args s ++ Jvm.staticLocs frame_1_statics s) 24 128 → Post tb e args s (.returned v) u) :
    ArmFor flags0 classFile x code maxLocals ret World_1 tables_1 room_1 Calls_1 rest_1 Pre_1 Post := by
  intro l hfl _ _ p e ha hc hk s m args below hf hA hF happ hP
  obtain ⟨hcalls, hrest, hpre⟩ := hP
  obtain ⟨-, -, -, hnamed, -, -, -, hat⟩ := (Spec.applies_iff hf).mp happ
  obtain ⟨hg, hn⟩ := and_e (Cond.before_iff.mp (show (Jvm.Cond.and given_1 narrow_1).before args s = true from hpre))
  obtain ⟨hcount, q0⟩ := and_e hg
  obtain ⟨b0, q1⟩ := and_e q0
  obtain ⟨b1, q2⟩ := and_e q1
  obtain ⟨b2, q3⟩ := and_e q2
  obtain ⟨b3, q4⟩ := and_e q3
  have b4 := q4
  obtain ⟨w0, w1, w2, w3, w4, rfl⟩ : ∃ w0 w1 w2 w3 w4 : Value, args = #[w0, w1, w2, w3, w4] := by
    have hs : args.size = 5 := by simpa [Cond.value, given_1] using hcount
    obtain ⟨L⟩ := args
    match L, hs with
    | [w0, w1, w2, w3, w4], _ => exact ⟨w0, w1, w2, w3, w4, rfl⟩
  have hw := fun d (hd : d ∈ tables_1) => atoms_spec (ws := Jvm.Cond.code x code maxLocals ret :: tables_1) hat d (List.mem_cons_of_mem _ hd)
  have hfit : Fit s := fun {y c} hc i hi => by
    obtain ⟨ha, rfl⟩ := Array.getElem?_eq_some_iff.mp hc
    have q := List.all_eq_true.mp ((Array.all_eq_true_iff_forall_mem.mp hF) _ (Array.getElem_mem ha)) i (List.mem_range.mpr hi)
    simpa [Array.getElem?_eq_getElem hi] using q
  obtain ⟨i0, r0⟩ := is_v b0
  obtain rfl : w0 = (.int i0) := Option.some.inj r0
  obtain ⟨i1, r1⟩ := is_v b1
  obtain rfl : w1 = (.int i1) := Option.some.inj r1
  obtain ⟨i2, r2⟩ := is_v b2
  obtain rfl : w2 = (.int i2) := Option.some.inj r2
  obtain ⟨i3, r3⟩ := is_v b3
  obtain rfl : w3 = (.int i3) := Option.some.inj r3
  obtain ⟨i4, r4⟩ := is_v b4
  obtain rfl : w4 = (.int i4) := Option.some.inj r4
  obtain ⟨n, o, h1, h2, h3, v, L, rfl, ⟨hv, N⟩, hq⟩ := rm_law l s _ hw tables_1 i0 i1 i2 i3 i4  s.heap s.heap.size (Nat.le_refl _)  p e ha hc hk s m _ below hf ((Spec.applies_iff_loose hf).mp happ).1 ⟨rfl, State.Warmed39.refl s, rfl⟩ trivial
  obtain rfl : v = some (.int 1) := by rw [hv, own_one]
  refine ⟨n, _, h1, h2, h3, hpost _ _ _ _ _ _ ⟨Cond.after_iff.mpr rfl, Cond.after_iff.mpr (eq_i res_at (Term.int_eval (1)) rfl), trivial⟩ ⟨hq.1, hq.2.1, (hq.2.2.sift fun y hy => Or.inr (N y hy)).mono (by decide) (by decide)⟩⟩
theorem main_1_1 : Claimed_1_1 := comes_1 fun _ _ _ _ _ _ h hF => ⟨h.1, hF⟩
theorem main_1_2 : Claimed_1_2 := comes_1 fun _ _ _ _ _ _ h hF => ⟨h.2.1, hF⟩
end Jvm.Pilot.@@N@@
namespace Jvm.Pilot.@@N@@
open Jvm Jvm.ClassFile Sem Op Lib Jvm.Free Jvm.Stand Jvm.Pilot.@@N@@.Jvm.D
/-! MADE BY PROGRAM (witnessworld.py) out of the Statement's table words and the real class files: 10 classes; the members and pool entries that the words name. The judged class is class 1, her method 1. -/
namespace start1
open Jvm.ClassFile
def u (s : String) : CpInfo := .utf8 (stringToUtf16 s)
/-- a pool by its gaps: so many unusable entries, then the entry; so many at the end -/
def gap : Nat → List CpInfo → List CpInfo
  | 0, r => r
  | n + 1, r => .unusable :: gap n r
def poolList (es : List (Nat × CpInfo)) (last : Nat) : List CpInfo := es.foldr (fun e r => gap e.1 (e.2 :: r)) (gap last [])
def pool (es : List (Nat × CpInfo)) (last : Nat) : Array CpInfo := ⟨poolList es last⟩
def fileOf (pool : Array CpInfo) (this : Nat) (attrs : Array Attribute := #[]) (ms : Array MethodInfo := #[]) (fl : Nat := 33) (sup : Nat := 0) (ifs : Array Nat := #[]) (fds : Array FieldInfo := #[]) : ClassFile where
  minorVersion := 0
  majorVersion := 65
  constantPool := pool
  accessFlags := fl
  thisClass := this
  superClass := sup
  interfaces := ifs
  fields := fds
  methods := ms
  attributes := attrs
def plain (name : String) (sup : Option ClassId) : Class where
  name := name
  kind := .ordinary
  loader := none
  accessFlags := 33
  super := sup
  interfaces := #[]
  cf := none
  fields := #[]
  methods := #[]
  instanceTypes := #[]
  staticTypes := #[]
  resolved := #[]
  callSites := []
  init := .initialized
  statics := none
  mirror := none

def pool0 : Array CpInfo := pool [(5, u "<init>"), (0, u "()V"), (1, .class_ 10), (1, u "java/lang/Object")] 113

def k0c0 : Code := { maxStack := 0, maxLocals := 1, code := object_method_1_code, exceptionTable := #[], attributes := #[] }
def k0m0 : Method := { name := "<init>", desc := "()V", sig := { parameters := [], returnType := none }, accessFlags := 1, code := some k0c0 }
/-- java/lang/Object -/
def k0 : Class := { plain "java/lang/Object" none with
  accessFlags := 33
  interfaces := #[]
  cf := some (fileOf pool0 8 #[] #[{ accessFlags := 1, nameIndex := 5, descriptorIndex := 6, attributes := #[] }] 33 0 #[] #[])
  fields := #[]
  methods := #[k0m0]
  instanceTypes := #[]
  staticTypes := #[]
  resolved := Array.replicate 124 none
  statics := none }

def pool1 : Array CpInfo := pool [(2, .class_ 4), (1, u "java/lang/Object"), (0, u "<init>"), (0, u "()V"), (0, .integer 2147483647), (0, .integer 536870911), (0, .methodref 10 11), (0, .class_ 12), (0, .nameAndType 13 14), (0, u "com/example/aristotle/aristotle/StepMadePinLaw"), (0, u "prefix"), (0, u "([II)[I"), (0, .class_ 16), (0, u "com/example/aristotle/aristotle/EliminationPlan$Step"), (0, .methodref 15 18), (0, .nameAndType 5 19), (0, u "(I[I[IDZ)V"), (0, .methodref 15 21), (0, .nameAndType 22 23), (0, u "made"), (0, u "()[I"), (0, .methodref 10 25), (0, .nameAndType 26 27), (0, u "check"), (0, u "([II[II)Z"), (2, u "law"), (0, u "(IIIII)Z")] 9

def k1m0 : Method := { name := "<init>", desc := "()V", sig := { parameters := [], returnType := none }, accessFlags := 2, code := none }
def k1c1 : Code := { maxStack := 8, maxLocals := 13, code := code, exceptionTable := #[], attributes := #[] }
def k1m1 : Method := { name := "law", desc := "(IIIII)Z", sig := { parameters := [.int, .int, .int, .int, .int], returnType := some .boolean }, accessFlags := 9, code := some k1c1 }
def k1c2 : Code := { maxStack := 5, maxLocals := 2, code := method_3_code, exceptionTable := #[], attributes := #[] }
def k1m2 : Method := { name := "prefix", desc := "([II)[I", sig := { parameters := [(.array .int), .int], returnType := some (.array .int) }, accessFlags := 10, code := some k1c2 }
def k1c3 : Code := { maxStack := 3, maxLocals := 5, code := method_4_code, exceptionTable := #[], attributes := #[] }
def k1m3 : Method := { name := "check", desc := "([II[II)Z", sig := { parameters := [(.array .int), .int, (.array .int), .int], returnType := some .boolean }, accessFlags := 10, code := some k1c3 }
/-- com/example/aristotle/aristotle/StepMadePinLaw -/
def k1 : Class := { plain "com/example/aristotle/aristotle/StepMadePinLaw" (some 0) with
  accessFlags := 49
  interfaces := #[]
  cf := some (fileOf pool1 10 #[] #[{ accessFlags := 2, nameIndex := 5, descriptorIndex := 6, attributes := #[] }, { accessFlags := 9, nameIndex := 30, descriptorIndex := 31, attributes := #[] }, { accessFlags := 10, nameIndex := 13, descriptorIndex := 14, attributes := #[] }, { accessFlags := 10, nameIndex := 26, descriptorIndex := 27, attributes := #[] }] 49 2 #[] #[])
  fields := #[]
  methods := #[k1m0, k1m1, k1m2, k1m3]
  instanceTypes := #[]
  staticTypes := #[]
  resolved := Array.replicate 41 none
  statics := none }

def pool2 : Array CpInfo := pool [(1, .methodref 2 3), (0, .class_ 4), (0, .nameAndType 5 6), (0, u "java/lang/Object"), (0, u "<init>"), (0, u "()V"), (0, .class_ 8), (0, u "java/lang/Record")] 13

def k2c0 : Code := { maxStack := 1, maxLocals := 1, code := jdk_30_method_1_code, exceptionTable := #[], attributes := #[] }
def k2m0 : Method := { name := "<init>", desc := "()V", sig := { parameters := [], returnType := none }, accessFlags := 4, code := some k2c0 }
/-- java/lang/Record -/
def k2 : Class := { plain "java/lang/Record" (some 0) with
  accessFlags := 1057
  interfaces := #[]
  cf := some (fileOf pool2 7 #[] #[{ accessFlags := 4, nameIndex := 5, descriptorIndex := 6, attributes := #[] }] 1057 2 #[] #[])
  fields := #[]
  methods := #[k2m0]
  instanceTypes := #[]
  staticTypes := #[]
  resolved := Array.replicate 22 none
  statics := none }

def pool3 : Array CpInfo := pool [(1, .methodref 2 3), (0, .class_ 4), (0, .nameAndType 5 6), (0, u "java/lang/Record"), (0, u "<init>"), (0, u "()V"), (0, .fieldref 8 9), (0, .class_ 10), (0, .nameAndType 11 12), (0, u "com/example/aristotle/aristotle/EliminationPlan$Step"), (0, u "variable"), (0, u "I"), (0, .fieldref 8 14), (0, .nameAndType 15 16), (0, u "tables"), (0, u "[I"), (0, .fieldref 8 18), (0, .nameAndType 19 16), (0, u "product"), (0, .fieldref 8 21), (0, .nameAndType 22 23), (0, u "entries"), (0, u "D"), (0, .fieldref 8 25), (0, .nameAndType 26 27), (0, u "makes"), (0, u "Z"), (12, u "(I[I[IDZ)V"), (3, u "made"), (0, u "()[I"), (10, .class_ 57), (0, u "com/example/aristotle/aristotle/EliminationPlan")] 23

def k3c0 : Code := { maxStack := 3, maxLocals := 7, code := prog_48_method_1_code, exceptionTable := #[], attributes := #[] }
def k3m0 : Method := { name := "<init>", desc := "(I[I[IDZ)V", sig := { parameters := [.int, (.array .int), (.array .int), .double, .boolean], returnType := none }, accessFlags := 0, code := some k3c0 }
def k3c1 : Code := { maxStack := 3, maxLocals := 7, code := prog_48_method_2_code, exceptionTable := #[], attributes := #[] }
def k3m1 : Method := { name := "made", desc := "()[I", sig := { parameters := [], returnType := some (.array .int) }, accessFlags := 0, code := some k3c1 }
/-- com/example/aristotle/aristotle/EliminationPlan$Step -/
def k3 : Class := { plain "com/example/aristotle/aristotle/EliminationPlan$Step" (some 2) with
  accessFlags := 48
  interfaces := #[]
  cf := some (fileOf pool3 8 #[.nestHost 56] #[{ accessFlags := 0, nameIndex := 5, descriptorIndex := 40, attributes := #[] }, { accessFlags := 0, nameIndex := 44, descriptorIndex := 45, attributes := #[] }] 48 2 #[] #[{ accessFlags := 18, nameIndex := 11, descriptorIndex := 12, attributes := #[] }, { accessFlags := 18, nameIndex := 15, descriptorIndex := 16, attributes := #[] }, { accessFlags := 18, nameIndex := 19, descriptorIndex := 16, attributes := #[] }, { accessFlags := 18, nameIndex := 22, descriptorIndex := 23, attributes := #[] }, { accessFlags := 18, nameIndex := 26, descriptorIndex := 27, attributes := #[] }])
  fields := #[{ name := "variable", type := .int, accessFlags := 18, slot := 0, constantValue := 0 }, { name := "tables", type := (.array .int), accessFlags := 18, slot := 1, constantValue := 0 }, { name := "product", type := (.array .int), accessFlags := 18, slot := 2, constantValue := 0 }, { name := "entries", type := .double, accessFlags := 18, slot := 3, constantValue := 0 }, { name := "makes", type := .boolean, accessFlags := 18, slot := 4, constantValue := 0 }]
  methods := #[k3m0, k3m1]
  instanceTypes := #[.int, (.array .int), (.array .int), .double, .boolean]
  staticTypes := #[]
  resolved := Array.replicate 81 none
  statics := none }

def pool4 : Array CpInfo := pool [(1, u "java/lang/Cloneable"), (0, .class_ 1), (0, u "java/lang/Object"), (0, .class_ 3)] 3

/-- java/lang/Cloneable -/
def k4 : Class := { plain "java/lang/Cloneable" (some 0) with
  accessFlags := 1537
  interfaces := #[]
  cf := some (fileOf pool4 2 #[] #[] 1537 4 #[] #[])
  fields := #[]
  methods := #[]
  instanceTypes := #[]
  staticTypes := #[]
  resolved := Array.replicate 8 none
  statics := none }

def pool5 : Array CpInfo := pool [(1, u "java/io/Serializable"), (0, .class_ 1), (0, u "java/lang/Object"), (0, .class_ 3)] 3

/-- java/io/Serializable -/
def k5 : Class := { plain "java/io/Serializable" (some 0) with
  accessFlags := 1537
  interfaces := #[]
  cf := some (fileOf pool5 2 #[] #[] 1537 4 #[] #[])
  fields := #[]
  methods := #[]
  instanceTypes := #[]
  staticTypes := #[]
  resolved := Array.replicate 8 none
  statics := none }

/-- the primitive byte -/
def k6 : Class := { plain "byte" none with kind := .primitive 'B', accessFlags := 0x411 }
/-- [B -/
def k7 : Class := { plain "[B" (some 0) with kind := .array 6 .byte, interfaces := #[4, 5], accessFlags := 1041 }

/-- the primitive int -/
def k8 : Class := { plain "int" none with kind := .primitive 'I', accessFlags := 0x411 }
/-- [I -/
def k9 : Class := { plain "[I" (some 0) with kind := .array 8 .int, interfaces := #[4, 5], accessFlags := 1041 }

def heap : Heap := #[]
def classes : Array Class := #[k0, k1, k2, k3, k4, k5, k6, k7, k8, k9]
def interned : List (Array UInt16 × Addr) := []
def slotsUsed : Nat := 0
def theMethod : MethodId := ⟨1, 1⟩
def args0 : Array Value := #[.int 5, .int 7, .int 9, .int 11, .int 13]
def aboutOver (below : List Frame) : State where
  vm := { classes := classes, interned := interned.toArray }
  heap := heap
  slotsUsed := slotsUsed
  threads := #[{ frames := .invoking theMethod args0 :: below }]
def below0 : List Frame := [.native { method := ⟨0, 0⟩, args := #[] }]
def about1 : State := aboutOver below0
def p0 : Program := .bare "" "" ""
def e0 : Env := launch0.env 0 0 0
theorem w_frames : about1.frames = Frame.invoking theMethod args0 :: below0 := rfl
set_option maxRecDepth 65536 in
theorem w_args : argsFit about1.vm theMethod args0 = true := by decide +kernel
set_option maxRecDepth 65536 in
theorem w_heap : heapFits about1 = true := by decide +kernel
set_option maxRecDepth 65536 in
theorem w_runnable : about1.curStatus? = some .runnable := by decide +kernel
set_option maxRecDepth 65536 in
theorem w_alone : about1.alone = true := by decide +kernel
set_option maxRecDepth 65536 in
theorem w_named : about1.methodNamed? x = some theMethod := by decide +kernel
set_option maxRecDepth 65536 in
theorem w_hears : about1.hears theMethod below0 = true := by decide +kernel
set_option maxRecDepth 65536 in
theorem w_ripe : about1.ripe theMethod args0 below0 = true := by decide +kernel
theorem w_running : about1.status = .running := rfl
set_option maxRecDepth 65536 in
theorem w_room : about1.hasRoom e0.platform room_1 = true :=
  launch0.hasRoom_least _ room_1 (by decide +kernel) (by decide +kernel) (by decide +kernel) (by decide +kernel) (by decide +kernel) (by decide +kernel)
theorem allAtoms_all (ts : List Jvm.Cond) (a : Array Jvm.Value) (st : Jvm.State) : (allAtoms ts).before a st = ts.all (fun c => c.before a st) := by
  induction ts with
  | nil => rfl
  | cons c t ih =>
    show (Jvm.Cond.and c (allAtoms t)).before a st = _
    rw [Jvm.Cond.before_and, ih, List.all_cons]
def words1 : List Jvm.Cond := Jvm.Cond.code x code maxLocals ret :: tables_1
/-- a 'code' word, met by the world's own term for the bytes: nothing is compared byte by byte -/
theorem code_word {y : MethodName} {bytes : ByteArray} {mx : Nat} {rt : Option FieldType} {a : Array Value} {s : State} {m : MethodId} {meth : Method} {c : Code} (h1 : s.methodNamed? y = some m) (h2 : s.vm.method? m = some meth) (h3 : meth.code = some c) (h4 : c.code = bytes)
    (h5 : (c.maxLocals == mx && c.exceptionTable.isEmpty && decide (c.maxStack ≤ mostOperands) && decide (meth.sig.returnType = rt) && !meth.locks && decide (parseMethodDescriptor y.desc = some meth.sig)) = true) : (Jvm.Cond.code y bytes mx rt).before a s = true := by
  simp only [Bool.and_eq_true, beq_iff_eq, Bool.not_eq_true', decide_eq_true_eq] at h5
  obtain ⟨⟨⟨⟨⟨g1, g2⟩, g3⟩, g4⟩, g5⟩, g6⟩ := h5
  simp [Cond.before, Cond.holds, Cond.value, h1, h2, h3, h4, g1, g2, g3, g4, g5, g6]
def isCode : Jvm.Cond → Bool
  | .code _ _ _ _ => true
  | _ => false
theorem all_split {L : List Jvm.Cond} {P : Jvm.Cond → Bool} (h1 : L.all (fun c => isCode c || P c) = true) (h2 : ∀ c ∈ L.filter isCode, P c = true) : L.all P = true := by
  refine List.all_eq_true.mpr fun c hc => ?_
  have h := List.all_eq_true.mp h1 c hc
  rcases Bool.eq_false_or_eq_true (isCode c) with hi | hi
  · exact h2 c (List.mem_filter.mpr ⟨hc, hi⟩)
  · simpa [hi] using h
set_option maxRecDepth 65536 in
theorem w_c0 : (Jvm.Cond.code x code maxLocals ret).before args0 about1 = true := code_word (m := ⟨1, 1⟩) (meth := k1m1) (c := k1c1) (by decide +kernel) rfl rfl rfl (by decide +kernel)
set_option maxRecDepth 65536 in
theorem w_c1 : (Jvm.Cond.code ({ cls := "com/example/aristotle/aristotle/StepMadePinLaw", name := "prefix", desc := "([II)[I" } : Jvm.MethodName) method_3_code (2 : Nat) (Option.some (Jvm.ClassFile.FieldType.array Jvm.ClassFile.FieldType.int))).before args0 about1 = true := code_word (m := ⟨1, 2⟩) (meth := k1m2) (c := k1c2) (by decide +kernel) rfl rfl rfl (by decide +kernel)
set_option maxRecDepth 65536 in
theorem w_c2 : (Jvm.Cond.code ({ cls := "com/example/aristotle/aristotle/EliminationPlan$Step", name := "<init>", desc := "(I[I[IDZ)V" } : Jvm.MethodName) prog_48_method_1_code (7 : Nat) (Option.none : Option Jvm.ClassFile.FieldType)).before args0 about1 = true := code_word (m := ⟨3, 0⟩) (meth := k3m0) (c := k3c0) (by decide +kernel) rfl rfl rfl (by decide +kernel)
set_option maxRecDepth 65536 in
theorem w_c3 : (Jvm.Cond.code ({ cls := "java/lang/Record", name := "<init>", desc := "()V" } : Jvm.MethodName) jdk_30_method_1_code (1 : Nat) (Option.none : Option Jvm.ClassFile.FieldType)).before args0 about1 = true := code_word (m := ⟨2, 0⟩) (meth := k2m0) (c := k2c0) (by decide +kernel) rfl rfl rfl (by decide +kernel)
set_option maxRecDepth 65536 in
theorem w_c4 : (Jvm.Cond.code ({ cls := "java/lang/Object", name := "<init>", desc := "()V" } : Jvm.MethodName) object_method_1_code (1 : Nat) (Option.none : Option Jvm.ClassFile.FieldType)).before args0 about1 = true := code_word (m := ⟨0, 0⟩) (meth := k0m0) (c := k0c0) (by decide +kernel) rfl rfl rfl (by decide +kernel)
set_option maxRecDepth 65536 in
theorem w_c5 : (Jvm.Cond.code ({ cls := "com/example/aristotle/aristotle/EliminationPlan$Step", name := "made", desc := "()[I" } : Jvm.MethodName) prog_48_method_2_code (7 : Nat) (Option.some (Jvm.ClassFile.FieldType.array Jvm.ClassFile.FieldType.int))).before args0 about1 = true := code_word (m := ⟨3, 1⟩) (meth := k3m1) (c := k3c1) (by decide +kernel) rfl rfl rfl (by decide +kernel)
set_option maxRecDepth 65536 in
theorem w_c6 : (Jvm.Cond.code ({ cls := "com/example/aristotle/aristotle/StepMadePinLaw", name := "check", desc := "([II[II)Z" } : Jvm.MethodName) method_4_code (5 : Nat) (Option.some Jvm.ClassFile.FieldType.boolean)).before args0 about1 = true := code_word (m := ⟨1, 3⟩) (meth := k1m3) (c := k1c3) (by decide +kernel) rfl rfl rfl (by decide +kernel)
def codes1 : List Jvm.Cond := [Jvm.Cond.code x code maxLocals ret, Jvm.Cond.code ({ cls := "com/example/aristotle/aristotle/StepMadePinLaw", name := "prefix", desc := "([II)[I" } : Jvm.MethodName) method_3_code (2 : Nat) (Option.some (Jvm.ClassFile.FieldType.array Jvm.ClassFile.FieldType.int)), Jvm.Cond.code ({ cls := "com/example/aristotle/aristotle/EliminationPlan$Step", name := "<init>", desc := "(I[I[IDZ)V" } : Jvm.MethodName) prog_48_method_1_code (7 : Nat) (Option.none : Option Jvm.ClassFile.FieldType), Jvm.Cond.code ({ cls := "java/lang/Record", name := "<init>", desc := "()V" } : Jvm.MethodName) jdk_30_method_1_code (1 : Nat) (Option.none : Option Jvm.ClassFile.FieldType), Jvm.Cond.code ({ cls := "java/lang/Object", name := "<init>", desc := "()V" } : Jvm.MethodName) object_method_1_code (1 : Nat) (Option.none : Option Jvm.ClassFile.FieldType), Jvm.Cond.code ({ cls := "com/example/aristotle/aristotle/EliminationPlan$Step", name := "made", desc := "()[I" } : Jvm.MethodName) prog_48_method_2_code (7 : Nat) (Option.some (Jvm.ClassFile.FieldType.array Jvm.ClassFile.FieldType.int)), Jvm.Cond.code ({ cls := "com/example/aristotle/aristotle/StepMadePinLaw", name := "check", desc := "([II[II)Z" } : Jvm.MethodName) method_4_code (5 : Nat) (Option.some Jvm.ClassFile.FieldType.boolean)]
set_option maxRecDepth 65536 in
theorem codes_eq : words1.filter isCode = codes1 := rfl
theorem w_codes : ∀ c ∈ words1.filter isCode, c.before args0 about1 = true := by
  rw [codes_eq]
  intro c hc
  simp only [codes1, List.mem_cons, List.not_mem_nil, or_false] at hc
  rcases hc with rfl | rfl | rfl | rfl | rfl | rfl | rfl
  · exact w_c0
  · exact w_c1
  · exact w_c2
  · exact w_c3
  · exact w_c4
  · exact w_c5
  · exact w_c6
set_option maxRecDepth 65536 in
theorem w_t1 : (words1.take 24).all (fun c => isCode c || c.before args0 about1) = true := by decide +kernel
set_option maxRecDepth 65536 in
theorem w_t2 : (words1.drop 24).all (fun c => isCode c || c.before args0 about1) = true := by decide +kernel
theorem w_tables : (allAtoms (Jvm.Cond.code x code maxLocals ret :: tables_1)).before args0 about1 = true := by
  rw [allAtoms_all]
  show words1.all (fun c => c.before args0 about1) = true
  refine all_split ?_ w_codes
  rw [← List.take_append_drop 24 words1, List.all_append, w_t1, w_t2]
  rfl
set_option maxRecDepth 65536 in
theorem w_case : (Jvm.Cond.and given_1 narrow_1).before args0 about1 = true := by decide +kernel
theorem w_applies : (headSpec (Jvm.Cond.code x code maxLocals ret :: tables_1) room_1).applies x e0.platform about1 = true :=
  (Spec.applies_iff w_frames).mpr ⟨w_running, w_runnable, w_alone, w_named, w_hears, w_ripe, w_room, w_tables⟩
theorem atStart : AtStart classFile x code maxLocals ret World_1 tables_1 room_1 Calls_1 rest_1 Pre_1 launch0 p0 e0 about1 theMethod args0 below0 :=
  ⟨lists_1, trivial, launch0.admits_env _ _ _, launch0.least_env, fairChoices_fair.cas, fairChoices_fair.clock, w_frames, w_args, w_heap, w_applies, trivial, trivial, w_case⟩
end start1
theorem witness_1 : WitnessClaimed_1 := ⟨start1.p0, start1.e0, start1.about1, start1.theMethod, start1.args0, start1.below0, start1.atStart⟩
end Jvm.Pilot.@@N@@
