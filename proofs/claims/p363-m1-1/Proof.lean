import JvmDerived
import JvmDerived.Pilot.@@N@@Statement
import JvmDerived.Pilot.@@N@@Code
set_option linter.unusedVariables false
set_option linter.unusedSimpArgs false
namespace Jvm.Pilot.@@N@@
open Jvm Jvm.ClassFile Sem Op Lib Jvm.Free Jvm.Stand Jvm.LawKit Jvm.RoadKit Bundle Jvm.Pilot.@@N@@.Jvm.D
abbrev Go (p : Program) (e : Env) (below : List Frame) (t T : State) (m : MethodId) (pc : Nat) (ls : Array Slot) (st : List Value) : Prop := Steps p.tables e below (T.setTop (mkF m pc ls st)) t
/-- from A the run comes to B -/
def Goes (p : Program) (e : Env) (below : List Frame) (A B : State) : Prop := ∀ t, Steps p.tables e below B t → Steps p.tables e below A t
abbrev dLt (x y : UInt64) : Prop := FP.dcmp x y = some .lt
abbrev dEq (x y : UInt64) : Prop := FP.dcmp x y = some .eq
abbrev dLe (x y : UInt64) : Prop := FP.dcmp x y = some .lt ∨ FP.dcmp x y = some .eq
abbrev fLt (x y : UInt32) : Prop := FP.fcmp x y = some .lt
abbrev fEq (x y : UInt32) : Prop := FP.fcmp x y = some .eq
abbrev fLe (x y : UInt32) : Prop := FP.fcmp x y = some .lt ∨ FP.fcmp x y = some .eq
theorem Sta.keepO {Z : State} {h h' : Heap} {C n d : String} {v : Value} {ws : List Addr} (F : Sta Z h C n d v) (K : Keep h h' ws) (q : ∀ x ∈ ws, ∀ cell : Cell, h[x]? = some cell → cell.vm.isStatics = false) : Sta Z h' C n d v := by
  obtain ⟨cf, i, k, f, st, cell, h1, h2, h3, h4, h5, h6, h7⟩ := F
  refine ⟨cf, i, k, f, st, cell, h1, h2, h3, h4, K.2.1 _ _ h5 fun hm => ?_, h6, h7⟩
  rw [q _ hm _ h5] at h6; cases h6
theorem own_swap (o : Option Ordering) : o.map Ordering.swap = some .lt ↔ o = some .gt := by rcases o with _ | (_ | _ | _) <;> simp [Ordering.swap]
theorem own_swapE (o : Option Ordering) : o.map Ordering.swap = some .eq ↔ o = some .eq := by rcases o with _ | (_ | _ | _) <;> simp [Ordering.swap]
theorem own_dgt (x y : UInt64) : dLt y x ↔ FP.dcmp x y = some .gt := by
  show FP.Core.dcmp y x = some .lt ↔ FP.Core.dcmp x y = some .gt
  rw [FP.Core.dcmp_swap x y]; exact own_swap _
theorem own_dge (x y : UInt64) : dLe y x ↔ (FP.dcmp x y = some .gt ∨ FP.dcmp x y = some .eq) := by
  show (FP.Core.dcmp y x = some .lt ∨ FP.Core.dcmp y x = some .eq) ↔ (FP.Core.dcmp x y = some .gt ∨ FP.Core.dcmp x y = some .eq)
  rw [FP.Core.dcmp_swap x y, own_swap, own_swapE]
theorem own_fgt (x y : UInt32) : fLt y x ↔ FP.fcmp x y = some .gt := by
  show FP.Core.fcmp y x = some .lt ↔ FP.Core.fcmp x y = some .gt
  rw [FP.Core.fcmp_swap x y]; exact own_swap _
theorem own_fge (x y : UInt32) : fLe y x ↔ (FP.fcmp x y = some .gt ∨ FP.fcmp x y = some .eq) := by
  show (FP.Core.fcmp y x = some .lt ∨ FP.Core.fcmp y x = some .eq) ↔ (FP.Core.fcmp x y = some .gt ∨ FP.Core.fcmp x y = some .eq)
  rw [FP.Core.fcmp_swap x y, own_swap, own_swapE]
theorem own_c (o : Option Ordering) :
    (o = some .lt → ifCond.holds .ge (cmpValue o .g) = false ∧ ifCond.holds .lt (cmpValue o .g) = true) ∧
    (¬ o = some .lt → ifCond.holds .ge (cmpValue o .g) = true ∧ ifCond.holds .lt (cmpValue o .g) = false) ∧
    ((o = some .lt ∨ o = some .eq) → ifCond.holds .gt (cmpValue o .g) = false ∧ ifCond.holds .le (cmpValue o .g) = true) ∧
    (¬ (o = some .lt ∨ o = some .eq) → ifCond.holds .gt (cmpValue o .g) = true ∧ ifCond.holds .le (cmpValue o .g) = false) ∧
    (o = some .gt → ifCond.holds .le (cmpValue o .l) = false ∧ ifCond.holds .gt (cmpValue o .l) = true) ∧
    (¬ o = some .gt → ifCond.holds .le (cmpValue o .l) = true ∧ ifCond.holds .gt (cmpValue o .l) = false) ∧
    ((o = some .gt ∨ o = some .eq) → ifCond.holds .lt (cmpValue o .l) = false ∧ ifCond.holds .ge (cmpValue o .l) = true) ∧
    (¬ (o = some .gt ∨ o = some .eq) → ifCond.holds .lt (cmpValue o .l) = true ∧ ifCond.holds .ge (cmpValue o .l) = false) ∧
    (o = some .eq → ∀ q, ifCond.holds .ne (cmpValue o q) = false ∧ ifCond.holds .eq (cmpValue o q) = true) ∧
    (¬ o = some .eq → ∀ q, ifCond.holds .ne (cmpValue o q) = true ∧ ifCond.holds .eq (cmpValue o q) = false) := by
  refine ⟨?_, ?_, ?_, ?_, ?_, ?_, ?_, ?_, ?_, ?_⟩ <;> rcases o with _ | (_ | _ | _) <;> first | (intro h; exact ⟨by decide, by decide⟩) | (intro h q; cases q <;> exact ⟨by decide, by decide⟩) | (intro h; simp at h; done) | (intro h; exact absurd rfl h) | (intro h; exact absurd (Or.inl rfl) h) | (intro h; exact absurd (Or.inr rfl) h)
theorem dc_g_ge_f {x y : UInt64} (h : dLt x y) : ifCond.holds .ge (cmpValue (FP.dcmp x y) .g) = false := ((own_c _).1 h).1
theorem dc_g_ge_t {x y : UInt64} (h : ¬ dLt x y) : ifCond.holds .ge (cmpValue (FP.dcmp x y) .g) = true := ((own_c _).2.1 h).1
theorem dc_g_lt_t {x y : UInt64} (h : dLt x y) : ifCond.holds .lt (cmpValue (FP.dcmp x y) .g) = true := ((own_c _).1 h).2
theorem dc_g_lt_f {x y : UInt64} (h : ¬ dLt x y) : ifCond.holds .lt (cmpValue (FP.dcmp x y) .g) = false := ((own_c _).2.1 h).2
theorem dc_g_gt_f {x y : UInt64} (h : dLe x y) : ifCond.holds .gt (cmpValue (FP.dcmp x y) .g) = false := ((own_c _).2.2.1 h).1
theorem dc_g_gt_t {x y : UInt64} (h : ¬ dLe x y) : ifCond.holds .gt (cmpValue (FP.dcmp x y) .g) = true := ((own_c _).2.2.2.1 h).1
theorem dc_g_le_t {x y : UInt64} (h : dLe x y) : ifCond.holds .le (cmpValue (FP.dcmp x y) .g) = true := ((own_c _).2.2.1 h).2
theorem dc_g_le_f {x y : UInt64} (h : ¬ dLe x y) : ifCond.holds .le (cmpValue (FP.dcmp x y) .g) = false := ((own_c _).2.2.2.1 h).2
theorem dc_l_le_f {x y : UInt64} (h : dLt y x) : ifCond.holds .le (cmpValue (FP.dcmp x y) .l) = false := ((own_c _).2.2.2.2.1 ((own_dgt x y).mp h)).1
theorem dc_l_le_t {x y : UInt64} (h : ¬ dLt y x) : ifCond.holds .le (cmpValue (FP.dcmp x y) .l) = true := ((own_c _).2.2.2.2.2.1 (fun q => h ((own_dgt x y).mpr q))).1
theorem dc_l_gt_t {x y : UInt64} (h : dLt y x) : ifCond.holds .gt (cmpValue (FP.dcmp x y) .l) = true := ((own_c _).2.2.2.2.1 ((own_dgt x y).mp h)).2
theorem dc_l_gt_f {x y : UInt64} (h : ¬ dLt y x) : ifCond.holds .gt (cmpValue (FP.dcmp x y) .l) = false := ((own_c _).2.2.2.2.2.1 (fun q => h ((own_dgt x y).mpr q))).2
theorem dc_l_lt_f {x y : UInt64} (h : dLe y x) : ifCond.holds .lt (cmpValue (FP.dcmp x y) .l) = false := ((own_c _).2.2.2.2.2.2.1 ((own_dge x y).mp h)).1
theorem dc_l_lt_t {x y : UInt64} (h : ¬ dLe y x) : ifCond.holds .lt (cmpValue (FP.dcmp x y) .l) = true := ((own_c _).2.2.2.2.2.2.2.1 (fun q => h ((own_dge x y).mpr q))).1
theorem dc_l_ge_t {x y : UInt64} (h : dLe y x) : ifCond.holds .ge (cmpValue (FP.dcmp x y) .l) = true := ((own_c _).2.2.2.2.2.2.1 ((own_dge x y).mp h)).2
theorem dc_l_ge_f {x y : UInt64} (h : ¬ dLe y x) : ifCond.holds .ge (cmpValue (FP.dcmp x y) .l) = false := ((own_c _).2.2.2.2.2.2.2.1 (fun q => h ((own_dge x y).mpr q))).2
theorem dc_l_ne_f {x y : UInt64} (h : dEq x y) : ifCond.holds .ne (cmpValue (FP.dcmp x y) .l) = false := ((own_c _).2.2.2.2.2.2.2.2.1 h _).1
theorem dc_l_ne_t {x y : UInt64} (h : ¬ dEq x y) : ifCond.holds .ne (cmpValue (FP.dcmp x y) .l) = true := ((own_c _).2.2.2.2.2.2.2.2.2 h _).1
theorem dc_l_eq_t {x y : UInt64} (h : dEq x y) : ifCond.holds .eq (cmpValue (FP.dcmp x y) .l) = true := ((own_c _).2.2.2.2.2.2.2.2.1 h _).2
theorem dc_l_eq_f {x y : UInt64} (h : ¬ dEq x y) : ifCond.holds .eq (cmpValue (FP.dcmp x y) .l) = false := ((own_c _).2.2.2.2.2.2.2.2.2 h _).2
theorem dc_g_ne_f {x y : UInt64} (h : dEq x y) : ifCond.holds .ne (cmpValue (FP.dcmp x y) .g) = false := ((own_c _).2.2.2.2.2.2.2.2.1 h _).1
theorem dc_g_ne_t {x y : UInt64} (h : ¬ dEq x y) : ifCond.holds .ne (cmpValue (FP.dcmp x y) .g) = true := ((own_c _).2.2.2.2.2.2.2.2.2 h _).1
theorem dc_g_eq_t {x y : UInt64} (h : dEq x y) : ifCond.holds .eq (cmpValue (FP.dcmp x y) .g) = true := ((own_c _).2.2.2.2.2.2.2.2.1 h _).2
theorem dc_g_eq_f {x y : UInt64} (h : ¬ dEq x y) : ifCond.holds .eq (cmpValue (FP.dcmp x y) .g) = false := ((own_c _).2.2.2.2.2.2.2.2.2 h _).2
theorem fc_g_ge_f {x y : UInt32} (h : fLt x y) : ifCond.holds .ge (cmpValue (FP.fcmp x y) .g) = false := ((own_c _).1 h).1
theorem fc_g_ge_t {x y : UInt32} (h : ¬ fLt x y) : ifCond.holds .ge (cmpValue (FP.fcmp x y) .g) = true := ((own_c _).2.1 h).1
theorem fc_g_lt_t {x y : UInt32} (h : fLt x y) : ifCond.holds .lt (cmpValue (FP.fcmp x y) .g) = true := ((own_c _).1 h).2
theorem fc_g_lt_f {x y : UInt32} (h : ¬ fLt x y) : ifCond.holds .lt (cmpValue (FP.fcmp x y) .g) = false := ((own_c _).2.1 h).2
theorem fc_g_gt_f {x y : UInt32} (h : fLe x y) : ifCond.holds .gt (cmpValue (FP.fcmp x y) .g) = false := ((own_c _).2.2.1 h).1
theorem fc_g_gt_t {x y : UInt32} (h : ¬ fLe x y) : ifCond.holds .gt (cmpValue (FP.fcmp x y) .g) = true := ((own_c _).2.2.2.1 h).1
theorem fc_g_le_t {x y : UInt32} (h : fLe x y) : ifCond.holds .le (cmpValue (FP.fcmp x y) .g) = true := ((own_c _).2.2.1 h).2
theorem fc_g_le_f {x y : UInt32} (h : ¬ fLe x y) : ifCond.holds .le (cmpValue (FP.fcmp x y) .g) = false := ((own_c _).2.2.2.1 h).2
theorem fc_l_le_f {x y : UInt32} (h : fLt y x) : ifCond.holds .le (cmpValue (FP.fcmp x y) .l) = false := ((own_c _).2.2.2.2.1 ((own_fgt x y).mp h)).1
theorem fc_l_le_t {x y : UInt32} (h : ¬ fLt y x) : ifCond.holds .le (cmpValue (FP.fcmp x y) .l) = true := ((own_c _).2.2.2.2.2.1 (fun q => h ((own_fgt x y).mpr q))).1
theorem fc_l_gt_t {x y : UInt32} (h : fLt y x) : ifCond.holds .gt (cmpValue (FP.fcmp x y) .l) = true := ((own_c _).2.2.2.2.1 ((own_fgt x y).mp h)).2
theorem fc_l_gt_f {x y : UInt32} (h : ¬ fLt y x) : ifCond.holds .gt (cmpValue (FP.fcmp x y) .l) = false := ((own_c _).2.2.2.2.2.1 (fun q => h ((own_fgt x y).mpr q))).2
theorem fc_l_lt_f {x y : UInt32} (h : fLe y x) : ifCond.holds .lt (cmpValue (FP.fcmp x y) .l) = false := ((own_c _).2.2.2.2.2.2.1 ((own_fge x y).mp h)).1
theorem fc_l_lt_t {x y : UInt32} (h : ¬ fLe y x) : ifCond.holds .lt (cmpValue (FP.fcmp x y) .l) = true := ((own_c _).2.2.2.2.2.2.2.1 (fun q => h ((own_fge x y).mpr q))).1
theorem fc_l_ge_t {x y : UInt32} (h : fLe y x) : ifCond.holds .ge (cmpValue (FP.fcmp x y) .l) = true := ((own_c _).2.2.2.2.2.2.1 ((own_fge x y).mp h)).2
theorem fc_l_ge_f {x y : UInt32} (h : ¬ fLe y x) : ifCond.holds .ge (cmpValue (FP.fcmp x y) .l) = false := ((own_c _).2.2.2.2.2.2.2.1 (fun q => h ((own_fge x y).mpr q))).2
theorem fc_l_ne_f {x y : UInt32} (h : fEq x y) : ifCond.holds .ne (cmpValue (FP.fcmp x y) .l) = false := ((own_c _).2.2.2.2.2.2.2.2.1 h _).1
theorem fc_l_ne_t {x y : UInt32} (h : ¬ fEq x y) : ifCond.holds .ne (cmpValue (FP.fcmp x y) .l) = true := ((own_c _).2.2.2.2.2.2.2.2.2 h _).1
theorem fc_l_eq_t {x y : UInt32} (h : fEq x y) : ifCond.holds .eq (cmpValue (FP.fcmp x y) .l) = true := ((own_c _).2.2.2.2.2.2.2.2.1 h _).2
theorem fc_l_eq_f {x y : UInt32} (h : ¬ fEq x y) : ifCond.holds .eq (cmpValue (FP.fcmp x y) .l) = false := ((own_c _).2.2.2.2.2.2.2.2.2 h _).2
theorem fc_g_ne_f {x y : UInt32} (h : fEq x y) : ifCond.holds .ne (cmpValue (FP.fcmp x y) .g) = false := ((own_c _).2.2.2.2.2.2.2.2.1 h _).1
theorem fc_g_ne_t {x y : UInt32} (h : ¬ fEq x y) : ifCond.holds .ne (cmpValue (FP.fcmp x y) .g) = true := ((own_c _).2.2.2.2.2.2.2.2.2 h _).1
theorem fc_g_eq_t {x y : UInt32} (h : fEq x y) : ifCond.holds .eq (cmpValue (FP.fcmp x y) .g) = true := ((own_c _).2.2.2.2.2.2.2.2.1 h _).2
theorem fc_g_eq_f {x y : UInt32} (h : ¬ fEq x y) : ifCond.holds .eq (cmpValue (FP.fcmp x y) .g) = false := ((own_c _).2.2.2.2.2.2.2.2.2 h _).2
theorem d1_0 : decode jdk_30_method_1_code 0 = .ok (.aload_n 0, 1) := by decide +kernel
theorem d1_1 : decode jdk_30_method_1_code 1 = .ok (.invokespecial 1, 3) := by decide +kernel
theorem d1_4 : decode jdk_30_method_1_code 4 = .ok (.return_, 1) := by decide +kernel
theorem pd0 : parseMethodDescriptor "()V" = some ⟨[], none⟩ := by decide +kernel
theorem pf_rec : plainFor (⟨"java/lang/Record", "<init>", "()V"⟩ : MethodName) = true := by first | exact plainFor_of_name (by first | (simp [plainName, overriddenIn, x]; done) | decide +kernel) | exact Jvm.Free.JP.mathPlain rfl (by decide +kernel) | decide +kernel
theorem ef_rec (m : MethodId) (ra : Addr) : entryFrame m #[(.ref ra)] 1 = mkF m 0 #[rv ra] [] := by first | (simp [entryFrame, mkF, argsToLocals, Value.category, maxLocals]; done) | rfl
def Q_rec (Z : State) (ra : Addr)  (h0 : Heap) (n0 : Nat) (v : Option Value) (h : Heap) (L : List Loc) : Prop := v = none ∧ Fr n0 L ∧ h = h0
set_option maxRecDepth 65536 in
set_option maxHeartbeats 40000000 in
theorem rm_rec (l : Launch) (Z : State) (a0 : Array Value) (hw : ∀ d ∈ tables_1, d.before a0 Z = true) (ws : List Jvm.Cond) (ra : Addr)  (h0 : Heap) (n0 : Nat) (Z0 : n0 ≤ h0.size)   :
    MetFree l (⟨"java/lang/Record", "<init>", "()V"⟩ : MethodName) (head1 (Jvm.Cond.code (⟨"java/lang/Record", "<init>", "()V"⟩ : MethodName) jdk_30_method_1_code 1 none :: ws) ({ frames := 1, cells := 0, slots := 0, locals := 12 } : Room)) (fun a U => a = #[(.ref ra)] ∧ Z.Warmed39 U.vm ∧ U.heap = h0) (fun _ _ _ _ _ => True) (fun _ U o U' => ∃ v L, o = .returned v ∧ Q_rec Z ra  h0 n0 v U'.heap L ∧ FrameEnd U o U' L ({ frames := 1, cells := 0, slots := 0, locals := 12 } : Room).cells ({ frames := 1, cells := 0, slots := 0, locals := 12 } : Room).slots) := by
  refine MetFree.of_bodySF pf_rec hisR ?_
  intro p e s m args below meth c s₁ Bd hml0 hP hK
  obtain ⟨rfl, hZ, hh⟩ := hP
  have hx := Bd.exec
  have hby := Bd.bytes
  have hml : c.maxLocals = 1 := hml0
  have hown : s.vm.findClass "java/lang/Record" = some m.cls := findClass_of_methodNamed Bd.named
  have hnm := (name_of_methodNamed Bd.named Bd.method).1
  have X0 : Stand p l e ({ frames := 1, cells := 0, slots := 0, locals := 12 } : Room) s m #[(.ref ra)] below meth c s₁ [] 0 0 := Stand.of_body Bd
  have e0 : s₁.heap = h0 := by rw [← hh, Bd.state]; rfl
  have N0 := Fr.nil n0
  obtain ⟨S0, hS0⟩ : ∃ z, z = s₁.setTop (entryFrame m #[(.ref ra)] 1) := ⟨_, rfl⟩
  rw [← hS0]
  have g0 : Goes p e below S0 (s₁.setTop (mkF m 0 #[rv ra] [])) := fun t k => by rw [hS0]; exact castTop (ef_rec m ra) k
  have g1 : Goes p e below S0 (s₁.setTop (mkF m 1 #[rv ra] [(.ref ra)])) := fun t k => g0 t (by
    refine XS.aloadN X0.here hx rfl (hb hby d1_0) rfl rfl ?_
    show Go p e below t s₁ m 1 #[rv ra] [(.ref ra)]
    exact k)
  obtain ⟨T2, X2, e2, st2⟩ := initO X0 hx hZ hown (hw _ (List.mem_of_getElem? (i := 11) rfl)) (hw _ (List.mem_of_getElem? (i := 12) rfl)) (hw _ (List.mem_of_getElem? (i := 13) rfl)) e0 (g := (mkF m 1 #[rv ra] [(.ref ra)])) rfl (by rw [hml]; rfl) rfl (hb hby d1_1) (by decide) (W := 0) (by show 2 * 0 + _ ≤ _; exact Nat.le_of_eq rfl) (by decide)
  have g3 : Goes p e below S0 (T2.setTop (mkF m 4 #[rv ra] [])) := fun t k => g1 t (st2 t k)
  obtain ⟨fs, hr, hrun, hended, hW, hsame⟩ := X2.leave (v := none) (fun _ => rfl)
  refine ⟨_, _, g3 _ (X2.returnOut hx Bd.returns (hb hby d1_4) hr), hrun, hended, _, _, rfl, ?_, ⟨_, rfl⟩, hW, hsame.mono (by decide) (by decide)⟩
  show Q_rec Z ra  h0 n0 _ T2.heap _
  rw [e2]
  exact ⟨rfl, N0, rfl⟩
theorem d0_0 : decode prog_58_method_1_code 0 = .ok (.aload_n 0, 1) := by decide +kernel
theorem d0_1 : decode prog_58_method_1_code 1 = .ok (.invokespecial 1, 3) := by decide +kernel
theorem d0_4 : decode prog_58_method_1_code 4 = .ok (.aload_n 0, 1) := by decide +kernel
theorem d0_5 : decode prog_58_method_1_code 5 = .ok (.dload_n 1, 1) := by decide +kernel
theorem d0_6 : decode prog_58_method_1_code 6 = .ok (.putfield 7, 3) := by decide +kernel
theorem d0_9 : decode prog_58_method_1_code 9 = .ok (.aload_n 0, 1) := by decide +kernel
theorem d0_10 : decode prog_58_method_1_code 10 = .ok (.dload_n 3, 1) := by decide +kernel
theorem d0_11 : decode prog_58_method_1_code 11 = .ok (.putfield 13, 3) := by decide +kernel
theorem d0_14 : decode prog_58_method_1_code 14 = .ok (.return_, 1) := by decide +kernel
theorem pd1 : parseMethodDescriptor "(DD)V" = some ⟨[.double, .double], none⟩ := by decide +kernel
theorem pf_ini : plainFor (⟨"com/example/forager/forager/Window", "<init>", "(DD)V"⟩ : MethodName) = true := by first | exact plainFor_of_name (by first | (simp [plainName, overriddenIn, x]; done) | decide +kernel) | exact Jvm.Free.JP.mathPlain rfl (by decide +kernel) | decide +kernel
theorem ef_ini (m : MethodId) (ca : Addr) (cx : UInt64) (cy : UInt64) : entryFrame m #[(.ref ca), (.double cx), (.double cy)] 5 = mkF m 0 #[rv ca, .val (.double cx), .second, .val (.double cy), .second] [] := by first | (simp [entryFrame, mkF, argsToLocals, Value.category, maxLocals]; done) | rfl
def Q_ini (Z : State) (ca : Addr) (cx : UInt64) (cy : UInt64)  (h0 : Heap) (n0 : Nat) (v : Option Value) (h : Heap) (L : List Loc) : Prop := v = none ∧ Fr n0 L ∧ (Keep h0 h [ca]) ∧ (Exa Z h ca "com/example/forager/forager/Window") ∧ (Fld Z h ca "com/example/forager/forager/Window" "from" "D" (.double cx)) ∧ (Fld Z h ca "com/example/forager/forager/Window" "to" "D" (.double cy))
set_option maxRecDepth 65536 in
set_option maxHeartbeats 40000000 in
theorem rm_ini (l : Launch) (Z : State) (a0 : Array Value) (hw : ∀ d ∈ tables_1, d.before a0 Z = true) (ws : List Jvm.Cond) (ca : Addr) (cx : UInt64) (cy : UInt64)  (h0 : Heap) (n0 : Nat) (Z0 : n0 ≤ h0.size) (P0 : Exa Z h0 ca "com/example/forager/forager/Window") (P1 : Fld Z h0 ca "com/example/forager/forager/Window" "from" "D" (.double (0 : UInt64))) (P2 : Fld Z h0 ca "com/example/forager/forager/Window" "to" "D" (.double (0 : UInt64))) (P3 : n0 ≤ ca)  :
    MetFree l (⟨"com/example/forager/forager/Window", "<init>", "(DD)V"⟩ : MethodName) (head1 (Jvm.Cond.code (⟨"com/example/forager/forager/Window", "<init>", "(DD)V"⟩ : MethodName) prog_58_method_1_code 5 none :: ws) ({ frames := 2, cells := 0, slots := 0, locals := 24 } : Room)) (fun a U => a = #[(.ref ca), (.double cx), (.double cy)] ∧ Z.Warmed39 U.vm ∧ U.heap = h0) (fun _ _ _ _ _ => True) (fun _ U o U' => ∃ v L, o = .returned v ∧ Q_ini Z ca cx cy  h0 n0 v U'.heap L ∧ FrameEnd U o U' L ({ frames := 2, cells := 0, slots := 0, locals := 24 } : Room).cells ({ frames := 2, cells := 0, slots := 0, locals := 24 } : Room).slots) := by
  refine MetFree.of_bodySF pf_ini hisR ?_
  intro p e s m args below meth c s₁ Bd hml0 hP hK
  obtain ⟨rfl, hZ, hh⟩ := hP
  have hx := Bd.exec
  have hby := Bd.bytes
  have hml : c.maxLocals = 5 := hml0
  have hown : s.vm.findClass "com/example/forager/forager/Window" = some m.cls := findClass_of_methodNamed Bd.named
  have hnm := (name_of_methodNamed Bd.named Bd.method).1
  have X0 : Stand p l e ({ frames := 2, cells := 0, slots := 0, locals := 24 } : Room) s m #[(.ref ca), (.double cx), (.double cy)] below meth c s₁ [] 0 0 := Stand.of_body Bd
  have e0 : s₁.heap = h0 := by rw [← hh, Bd.state]; rfl
  have N0 := Fr.nil n0
  obtain ⟨S0, hS0⟩ : ∃ z, z = s₁.setTop (entryFrame m #[(.ref ca), (.double cx), (.double cy)] 5) := ⟨_, rfl⟩
  rw [← hS0]
  have g0 : Goes p e below S0 (s₁.setTop (mkF m 0 #[rv ca, .val (.double cx), .second, .val (.double cy), .second] [])) := fun t k => by rw [hS0]; exact castTop (ef_ini m ca cx cy) k
  have g4 : Goes p e below S0 (s₁.setTop (mkF m 1 #[rv ca, .val (.double cx), .second, .val (.double cy), .second] [(.ref ca)])) := fun t k => g0 t (by
    refine XS.aloadN X0.here hx rfl (hb hby d0_0) rfl rfl ?_
    show Go p e below t s₁ m 1 #[rv ca, .val (.double cx), .second, .val (.double cy), .second] [(.ref ca)]
    exact k)
  obtain ⟨_, _, ⟨T5, L5, k5, n5⟩, -, X5, ⟨Lc5, hQ5, l5, y5, z5⟩, st5⟩ := X0.specialBack hx (y := (⟨"java/lang/Record", "<init>", "()V"⟩ : MethodName)) rfl hown (mvT hZ (hw _ (List.mem_of_getElem? (i := 6) rfl))) (mvT hZ (hw _ (List.mem_of_getElem? (i := 7) rfl))) (mvT hZ (hw _ (List.mem_of_getElem? (i := 10) rfl))) (by decide) (backOf (W := 0) (rm_rec l Z a0 hw [] ca  h0 n0 Z0 ) hZ (hw _ (List.mem_of_getElem? (i := 10) rfl)) (hw _ (List.mem_of_getElem? (i := 9) rfl)) (by decide) (by decide)) (g := (mkF m 1 #[rv ca, .val (.double cx), .second, .val (.double cy), .second] [(.ref ca)])) rfl (by rw [hml]; rfl) (Steps.refl _) (a := ca) (argsL := []) (rest := []) (lenOf pd0 rfl) rfl (by show 2 * 0 + _ ≤ _; exact Nat.le_of_eq rfl) (hb hby d0_1) (fun _ _ => ⟨rfl, e0, (by decide : 0 + 0 ≤ _), (by decide : 0 + 0 ≤ _)⟩)
  dsimp only [Pt.U, Pt.locs, Pt.cells, Pt.slots] at X5 l5 y5 z5 st5 hQ5
  subst l5 y5 z5
  obtain ⟨rfl, N5, R5_0⟩ := hQ5
  have M5 := Fr.app N0 N5
  have g6 : Goes p e below S0 (T5.setTop (mkF m 4 #[rv ca, .val (.double cx), .second, .val (.double cy), .second] [])) := fun t k => g4 t (st5.trans k)
  have g7 : Goes p e below S0 (T5.setTop (mkF m 6 #[rv ca, .val (.double cx), .second, .val (.double cy), .second] [(.double cx), (.ref ca)])) := fun t k => g6 t (by
    refine XS.aloadN X5.here hx rfl (hb hby d0_4) rfl rfl ?_
    show Go p e below t T5 m 5 #[rv ca, .val (.double cx), .second, .val (.double cy), .second] [(.ref ca)]
    refine XS.dloadN X5.here hx rfl (hb hby d0_5) rfl ?_
    show Go p e below t T5 m 6 #[rv ca, .val (.double cx), .second, .val (.double cy), .second] [(.double cx), (.ref ca)]
    exact k)
  obtain ⟨T8, h8, X8, e8, W8, st8⟩ := putF X5 hx hZ hown (host := "") (Or.inl (hw _ (List.mem_of_getElem? (i := 14) rfl))) Via.refl R5_0 P1 P0 (Or.inr ⟨(hw _ (List.mem_of_getElem? (i := 15) rfl)), rfl, hnm⟩) (hw _ (List.mem_of_getElem? (i := 1) rfl)) (ty := .double) (by decide) rfl rfl (g := (mkF m 6 #[rv ca, .val (.double cx), .second, .val (.double cy), .second] [(.double cx), (.ref ca)])) rfl rfl (hb hby d0_6)
  have N8 := Fr.snoc X8 M5 P3
  have Fw8 := Fld.same W8 P1
  have g9 : Goes p e below S0 (T8.setTop (mkF m 9 #[rv ca, .val (.double cx), .second, .val (.double cy), .second] [])) := fun t k => g7 t (st8 t k)
  have g10 : Goes p e below S0 (T8.setTop (mkF m 11 #[rv ca, .val (.double cx), .second, .val (.double cy), .second] [(.double cy), (.ref ca)])) := fun t k => g9 t (by
    refine XS.aloadN X8.here hx rfl (hb hby d0_9) rfl rfl ?_
    show Go p e below t T8 m 10 #[rv ca, .val (.double cx), .second, .val (.double cy), .second] [(.ref ca)]
    refine XS.dloadN X8.here hx rfl (hb hby d0_10) rfl ?_
    show Go p e below t T8 m 11 #[rv ca, .val (.double cx), .second, .val (.double cy), .second] [(.double cy), (.ref ca)]
    exact k)
  obtain ⟨T11, h11, X11, e11, W11, st11⟩ := putF X8 hx hZ hown (host := "") (Or.inl (hw _ (List.mem_of_getElem? (i := 16) rfl))) Via.refl e8 (P2.other W8 (Or.inr (slot_ne (Or.inr (hw _ (List.mem_of_getElem? (i := 17) rfl))) (Or.inr (hw _ (List.mem_of_getElem? (i := 15) rfl))) (by decide) (t := .double) (t' := .double) (by decide) (by decide)))) (P0.wr W8) (Or.inr ⟨(hw _ (List.mem_of_getElem? (i := 17) rfl)), rfl, hnm⟩) (hw _ (List.mem_of_getElem? (i := 1) rfl)) (ty := .double) (by decide) rfl rfl (g := (mkF m 11 #[rv ca, .val (.double cx), .second, .val (.double cy), .second] [(.double cy), (.ref ca)])) rfl rfl (hb hby d0_11)
  have N11 := Fr.snoc X11 N8 P3
  have Fw11 := Fld.same W11 (P2.other W8 (Or.inr (slot_ne (Or.inr (hw _ (List.mem_of_getElem? (i := 17) rfl))) (Or.inr (hw _ (List.mem_of_getElem? (i := 15) rfl))) (by decide) (t := .double) (t' := .double) (by decide) (by decide))))
  have g12 : Goes p e below S0 (T11.setTop (mkF m 14 #[rv ca, .val (.double cx), .second, .val (.double cy), .second] [])) := fun t k => g10 t (st11 t k)
  obtain ⟨fs, hr, hrun, hended, hW, hsame⟩ := X11.leave (v := none) (fun _ => rfl)
  refine ⟨_, _, g12 _ (X11.returnOut hx Bd.returns (hb hby d0_14) hr), hrun, hended, _, _, rfl, ?_, ⟨_, rfl⟩, hW, hsame.mono (by decide) (by decide)⟩
  show Q_ini Z ca cx cy  h0 n0 _ T11.heap _
  rw [e11]
  exact ⟨rfl, N11, (((Keep.refl h0 [ca]).wr W8 (Or.inl (List.mem_of_getElem? (i := 0) rfl))).wr W11 (Or.inl (List.mem_of_getElem? (i := 0) rfl))), ((P0.wr W8).wr W11), (Fw8.other W11 (Or.inr (slot_ne (Or.inr (hw _ (List.mem_of_getElem? (i := 15) rfl))) (Or.inr (hw _ (List.mem_of_getElem? (i := 17) rfl))) (by decide) (t := .double) (t' := .double) (by decide) (by decide)))), Fw11⟩
theorem d4_0 : decode prog_27_method_1_code 0 = .ok (.aload_n 0, 1) := by decide +kernel
theorem d4_1 : decode prog_27_method_1_code 1 = .ok (.invokespecial 1, 3) := by decide +kernel
theorem d4_4 : decode prog_27_method_1_code 4 = .ok (.aload_n 0, 1) := by decide +kernel
theorem d4_5 : decode prog_27_method_1_code 5 = .ok (.aload_n 1, 1) := by decide +kernel
theorem d4_6 : decode prog_27_method_1_code 6 = .ok (.putfield 7, 3) := by decide +kernel
theorem d4_9 : decode prog_27_method_1_code 9 = .ok (.aload_n 0, 1) := by decide +kernel
theorem d4_10 : decode prog_27_method_1_code 10 = .ok (.iload_n 2, 1) := by decide +kernel
theorem d4_11 : decode prog_27_method_1_code 11 = .ok (.putfield 13, 3) := by decide +kernel
theorem d4_14 : decode prog_27_method_1_code 14 = .ok (.aload_n 0, 1) := by decide +kernel
theorem d4_15 : decode prog_27_method_1_code 15 = .ok (.aload_n 3, 1) := by decide +kernel
theorem d4_16 : decode prog_27_method_1_code 16 = .ok (.putfield 17, 3) := by decide +kernel
theorem d4_19 : decode prog_27_method_1_code 19 = .ok (.aload_n 0, 1) := by decide +kernel
theorem d4_20 : decode prog_27_method_1_code 20 = .ok (.aload 4, 2) := by decide +kernel
theorem d4_22 : decode prog_27_method_1_code 22 = .ok (.putfield 21, 3) := by decide +kernel
theorem d4_25 : decode prog_27_method_1_code 25 = .ok (.return_, 1) := by decide +kernel
theorem pd2 : parseMethodDescriptor "(Lcom/example/forager/forager/Window;I[DLcom/example/forager/forager/Progress$End;)V" = some ⟨[(.object "com/example/forager/forager/Window"), .int, (.array .double), (.object "com/example/forager/forager/Progress$End")], none⟩ := by decide +kernel
theorem pf_pin : plainFor (⟨"com/example/forager/forager/Progress", "<init>", "(Lcom/example/forager/forager/Window;I[DLcom/example/forager/forager/Progress$End;)V"⟩ : MethodName) = true := by first | exact plainFor_of_name (by first | (simp [plainName, overriddenIn, x]; done) | decide +kernel) | exact Jvm.Free.JP.mathPlain rfl (by decide +kernel) | decide +kernel
theorem ef_pin (m : MethodId) (ca : Addr) (cw : Addr) (cn : Int32) (cl : Addr) (ce : Addr) : entryFrame m #[(.ref ca), (.ref cw), (.int cn), (.ref cl), (.ref ce)] 5 = mkF m 0 #[rv ca, rv cw, iv cn, rv cl, rv ce] [] := by first | (simp [entryFrame, mkF, argsToLocals, Value.category, maxLocals]; done) | rfl
def Q_pin (Z : State) (ca : Addr) (cw : Addr) (cn : Int32) (cl : Addr) (ce : Addr)  (h0 : Heap) (n0 : Nat) (v : Option Value) (h : Heap) (L : List Loc) : Prop := v = none ∧ Fr n0 L ∧ (Keep h0 h [ca]) ∧ (Exa Z h ca "com/example/forager/forager/Progress") ∧ (Fld Z h ca "com/example/forager/forager/Progress" "departures" "Lcom/example/forager/forager/Window;" (.ref cw)) ∧ (Fld Z h ca "com/example/forager/forager/Progress" "stops" "I" (.int cn)) ∧ (Fld Z h ca "com/example/forager/forager/Progress" "legs" "[D" (.ref cl)) ∧ (Fld Z h ca "com/example/forager/forager/Progress" "end" "Lcom/example/forager/forager/Progress$End;" (.ref ce))
set_option maxRecDepth 65536 in
set_option maxHeartbeats 40000000 in
theorem rm_pin (l : Launch) (Z : State) (a0 : Array Value) (hw : ∀ d ∈ tables_1, d.before a0 Z = true) (ws : List Jvm.Cond) (ca : Addr) (cw : Addr) (cn : Int32) (cl : Addr) (ce : Addr)  (h0 : Heap) (n0 : Nat) (Z0 : n0 ≤ h0.size) (P0 : Exa Z h0 ca "com/example/forager/forager/Progress") (P1 : n0 ≤ ca) (P2 : Fld Z h0 ca "com/example/forager/forager/Progress" "departures" "Lcom/example/forager/forager/Window;" .null) (P3 : Fld Z h0 ca "com/example/forager/forager/Progress" "stops" "I" (.int (0 : Int32))) (P4 : Fld Z h0 ca "com/example/forager/forager/Progress" "legs" "[D" .null) (P5 : Fld Z h0 ca "com/example/forager/forager/Progress" "end" "Lcom/example/forager/forager/Progress$End;" .null)  :
    MetFree l (⟨"com/example/forager/forager/Progress", "<init>", "(Lcom/example/forager/forager/Window;I[DLcom/example/forager/forager/Progress$End;)V"⟩ : MethodName) (head1 (Jvm.Cond.code (⟨"com/example/forager/forager/Progress", "<init>", "(Lcom/example/forager/forager/Window;I[DLcom/example/forager/forager/Progress$End;)V"⟩ : MethodName) prog_27_method_1_code 5 none :: ws) ({ frames := 2, cells := 0, slots := 0, locals := 24 } : Room)) (fun a U => a = #[(.ref ca), (.ref cw), (.int cn), (.ref cl), (.ref ce)] ∧ Z.Warmed39 U.vm ∧ U.heap = h0) (fun _ _ _ _ _ => True) (fun _ U o U' => ∃ v L, o = .returned v ∧ Q_pin Z ca cw cn cl ce  h0 n0 v U'.heap L ∧ FrameEnd U o U' L ({ frames := 2, cells := 0, slots := 0, locals := 24 } : Room).cells ({ frames := 2, cells := 0, slots := 0, locals := 24 } : Room).slots) := by
  refine MetFree.of_bodySF pf_pin hisR ?_
  intro p e s m args below meth c s₁ Bd hml0 hP hK
  obtain ⟨rfl, hZ, hh⟩ := hP
  have hx := Bd.exec
  have hby := Bd.bytes
  have hml : c.maxLocals = 5 := hml0
  have hown : s.vm.findClass "com/example/forager/forager/Progress" = some m.cls := findClass_of_methodNamed Bd.named
  have hnm := (name_of_methodNamed Bd.named Bd.method).1
  have X0 : Stand p l e ({ frames := 2, cells := 0, slots := 0, locals := 24 } : Room) s m #[(.ref ca), (.ref cw), (.int cn), (.ref cl), (.ref ce)] below meth c s₁ [] 0 0 := Stand.of_body Bd
  have e0 : s₁.heap = h0 := by rw [← hh, Bd.state]; rfl
  have N0 := Fr.nil n0
  obtain ⟨S0, hS0⟩ : ∃ z, z = s₁.setTop (entryFrame m #[(.ref ca), (.ref cw), (.int cn), (.ref cl), (.ref ce)] 5) := ⟨_, rfl⟩
  rw [← hS0]
  have g0 : Goes p e below S0 (s₁.setTop (mkF m 0 #[rv ca, rv cw, iv cn, rv cl, rv ce] [])) := fun t k => by rw [hS0]; exact castTop (ef_pin m ca cw cn cl ce) k
  have g13 : Goes p e below S0 (s₁.setTop (mkF m 1 #[rv ca, rv cw, iv cn, rv cl, rv ce] [(.ref ca)])) := fun t k => g0 t (by
    refine XS.aloadN X0.here hx rfl (hb hby d4_0) rfl rfl ?_
    show Go p e below t s₁ m 1 #[rv ca, rv cw, iv cn, rv cl, rv ce] [(.ref ca)]
    exact k)
  obtain ⟨_, _, ⟨T14, L14, k14, n14⟩, -, X14, ⟨Lc14, hQ14, l14, y14, z14⟩, st14⟩ := X0.specialBack hx (y := (⟨"java/lang/Record", "<init>", "()V"⟩ : MethodName)) rfl hown (mvT hZ (hw _ (List.mem_of_getElem? (i := 31) rfl))) (mvT hZ (hw _ (List.mem_of_getElem? (i := 7) rfl))) (mvT hZ (hw _ (List.mem_of_getElem? (i := 10) rfl))) (by decide) (backOf (W := 0) (rm_rec l Z a0 hw [] ca  h0 n0 Z0 ) hZ (hw _ (List.mem_of_getElem? (i := 10) rfl)) (hw _ (List.mem_of_getElem? (i := 9) rfl)) (by decide) (by decide)) (g := (mkF m 1 #[rv ca, rv cw, iv cn, rv cl, rv ce] [(.ref ca)])) rfl (by rw [hml]; rfl) (Steps.refl _) (a := ca) (argsL := []) (rest := []) (lenOf pd0 rfl) rfl (by show 2 * 0 + _ ≤ _; exact Nat.le_of_eq rfl) (hb hby d4_1) (fun _ _ => ⟨rfl, e0, (by decide : 0 + 0 ≤ _), (by decide : 0 + 0 ≤ _)⟩)
  dsimp only [Pt.U, Pt.locs, Pt.cells, Pt.slots] at X14 l14 y14 z14 st14 hQ14
  subst l14 y14 z14
  obtain ⟨rfl, N14, R14_0⟩ := hQ14
  have M14 := Fr.app N0 N14
  have g15 : Goes p e below S0 (T14.setTop (mkF m 4 #[rv ca, rv cw, iv cn, rv cl, rv ce] [])) := fun t k => g13 t (st14.trans k)
  have g16 : Goes p e below S0 (T14.setTop (mkF m 6 #[rv ca, rv cw, iv cn, rv cl, rv ce] [(.ref cw), (.ref ca)])) := fun t k => g15 t (by
    refine XS.aloadN X14.here hx rfl (hb hby d4_4) rfl rfl ?_
    show Go p e below t T14 m 5 #[rv ca, rv cw, iv cn, rv cl, rv ce] [(.ref ca)]
    refine XS.aloadN X14.here hx rfl (hb hby d4_5) rfl rfl ?_
    show Go p e below t T14 m 6 #[rv ca, rv cw, iv cn, rv cl, rv ce] [(.ref cw), (.ref ca)]
    exact k)
  obtain ⟨T17, h17, X17, e17, W17, st17⟩ := putF X14 hx hZ hown (host := "") (Or.inl (hw _ (List.mem_of_getElem? (i := 32) rfl))) Via.refl R14_0 P2 P0 (Or.inr ⟨(hw _ (List.mem_of_getElem? (i := 33) rfl)), rfl, hnm⟩) (hw _ (List.mem_of_getElem? (i := 23) rfl)) (ty := (.object "com/example/forager/forager/Window")) (by decide) rfl rfl (g := (mkF m 6 #[rv ca, rv cw, iv cn, rv cl, rv ce] [(.ref cw), (.ref ca)])) rfl rfl (hb hby d4_6)
  have N17 := Fr.snoc X17 M14 P1
  have Fw17 := Fld.same W17 P2
  have g18 : Goes p e below S0 (T17.setTop (mkF m 9 #[rv ca, rv cw, iv cn, rv cl, rv ce] [])) := fun t k => g16 t (st17 t k)
  have g19 : Goes p e below S0 (T17.setTop (mkF m 11 #[rv ca, rv cw, iv cn, rv cl, rv ce] [(.int cn), (.ref ca)])) := fun t k => g18 t (by
    refine XS.aloadN X17.here hx rfl (hb hby d4_9) rfl rfl ?_
    show Go p e below t T17 m 10 #[rv ca, rv cw, iv cn, rv cl, rv ce] [(.ref ca)]
    refine XS.iloadN X17.here hx rfl (hb hby d4_10) rfl ?_
    show Go p e below t T17 m 11 #[rv ca, rv cw, iv cn, rv cl, rv ce] [(.int cn), (.ref ca)]
    exact k)
  obtain ⟨T20, h20, X20, e20, W20, st20⟩ := putF X17 hx hZ hown (host := "") (Or.inl (hw _ (List.mem_of_getElem? (i := 34) rfl))) Via.refl e17 (P3.other W17 (Or.inr (slot_ne (Or.inr (hw _ (List.mem_of_getElem? (i := 35) rfl))) (Or.inr (hw _ (List.mem_of_getElem? (i := 33) rfl))) (by decide) (t := .int) (t' := (.object "com/example/forager/forager/Window")) (by decide) (by decide)))) (P0.wr W17) (Or.inr ⟨(hw _ (List.mem_of_getElem? (i := 35) rfl)), rfl, hnm⟩) (hw _ (List.mem_of_getElem? (i := 23) rfl)) (ty := .int) (by decide) rfl rfl (g := (mkF m 11 #[rv ca, rv cw, iv cn, rv cl, rv ce] [(.int cn), (.ref ca)])) rfl rfl (hb hby d4_11)
  have N20 := Fr.snoc X20 N17 P1
  have Fw20 := Fld.same W20 (P3.other W17 (Or.inr (slot_ne (Or.inr (hw _ (List.mem_of_getElem? (i := 35) rfl))) (Or.inr (hw _ (List.mem_of_getElem? (i := 33) rfl))) (by decide) (t := .int) (t' := (.object "com/example/forager/forager/Window")) (by decide) (by decide))))
  have g21 : Goes p e below S0 (T20.setTop (mkF m 14 #[rv ca, rv cw, iv cn, rv cl, rv ce] [])) := fun t k => g19 t (st20 t k)
  have g22 : Goes p e below S0 (T20.setTop (mkF m 16 #[rv ca, rv cw, iv cn, rv cl, rv ce] [(.ref cl), (.ref ca)])) := fun t k => g21 t (by
    refine XS.aloadN X20.here hx rfl (hb hby d4_14) rfl rfl ?_
    show Go p e below t T20 m 15 #[rv ca, rv cw, iv cn, rv cl, rv ce] [(.ref ca)]
    refine XS.aloadN X20.here hx rfl (hb hby d4_15) rfl rfl ?_
    show Go p e below t T20 m 16 #[rv ca, rv cw, iv cn, rv cl, rv ce] [(.ref cl), (.ref ca)]
    exact k)
  obtain ⟨T23, h23, X23, e23, W23, st23⟩ := putF X20 hx hZ hown (host := "") (Or.inl (hw _ (List.mem_of_getElem? (i := 36) rfl))) Via.refl e20 ((P4.other W17 (Or.inr (slot_ne (Or.inr (hw _ (List.mem_of_getElem? (i := 37) rfl))) (Or.inr (hw _ (List.mem_of_getElem? (i := 33) rfl))) (by decide) (t := (.array .double)) (t' := (.object "com/example/forager/forager/Window")) (by decide) (by decide)))).other W20 (Or.inr (slot_ne (Or.inr (hw _ (List.mem_of_getElem? (i := 37) rfl))) (Or.inr (hw _ (List.mem_of_getElem? (i := 35) rfl))) (by decide) (t := (.array .double)) (t' := .int) (by decide) (by decide)))) ((P0.wr W17).wr W20) (Or.inr ⟨(hw _ (List.mem_of_getElem? (i := 37) rfl)), rfl, hnm⟩) (hw _ (List.mem_of_getElem? (i := 23) rfl)) (ty := (.array .double)) (by decide) rfl rfl (g := (mkF m 16 #[rv ca, rv cw, iv cn, rv cl, rv ce] [(.ref cl), (.ref ca)])) rfl rfl (hb hby d4_16)
  have N23 := Fr.snoc X23 N20 P1
  have Fw23 := Fld.same W23 ((P4.other W17 (Or.inr (slot_ne (Or.inr (hw _ (List.mem_of_getElem? (i := 37) rfl))) (Or.inr (hw _ (List.mem_of_getElem? (i := 33) rfl))) (by decide) (t := (.array .double)) (t' := (.object "com/example/forager/forager/Window")) (by decide) (by decide)))).other W20 (Or.inr (slot_ne (Or.inr (hw _ (List.mem_of_getElem? (i := 37) rfl))) (Or.inr (hw _ (List.mem_of_getElem? (i := 35) rfl))) (by decide) (t := (.array .double)) (t' := .int) (by decide) (by decide))))
  have g24 : Goes p e below S0 (T23.setTop (mkF m 19 #[rv ca, rv cw, iv cn, rv cl, rv ce] [])) := fun t k => g22 t (st23 t k)
  have g25 : Goes p e below S0 (T23.setTop (mkF m 22 #[rv ca, rv cw, iv cn, rv cl, rv ce] [(.ref ce), (.ref ca)])) := fun t k => g24 t (by
    refine XS.aloadN X23.here hx rfl (hb hby d4_19) rfl rfl ?_
    show Go p e below t T23 m 20 #[rv ca, rv cw, iv cn, rv cl, rv ce] [(.ref ca)]
    refine XS.aload X23.here hx rfl (hb hby d4_20) rfl rfl ?_
    show Go p e below t T23 m 22 #[rv ca, rv cw, iv cn, rv cl, rv ce] [(.ref ce), (.ref ca)]
    exact k)
  obtain ⟨T26, h26, X26, e26, W26, st26⟩ := putF X23 hx hZ hown (host := "") (Or.inl (hw _ (List.mem_of_getElem? (i := 38) rfl))) Via.refl e23 (((P5.other W17 (Or.inr (slot_ne (Or.inr (hw _ (List.mem_of_getElem? (i := 39) rfl))) (Or.inr (hw _ (List.mem_of_getElem? (i := 33) rfl))) (by decide) (t := (.object "com/example/forager/forager/Progress$End")) (t' := (.object "com/example/forager/forager/Window")) (by decide) (by decide)))).other W20 (Or.inr (slot_ne (Or.inr (hw _ (List.mem_of_getElem? (i := 39) rfl))) (Or.inr (hw _ (List.mem_of_getElem? (i := 35) rfl))) (by decide) (t := (.object "com/example/forager/forager/Progress$End")) (t' := .int) (by decide) (by decide)))).other W23 (Or.inr (slot_ne (Or.inr (hw _ (List.mem_of_getElem? (i := 39) rfl))) (Or.inr (hw _ (List.mem_of_getElem? (i := 37) rfl))) (by decide) (t := (.object "com/example/forager/forager/Progress$End")) (t' := (.array .double)) (by decide) (by decide)))) (((P0.wr W17).wr W20).wr W23) (Or.inr ⟨(hw _ (List.mem_of_getElem? (i := 39) rfl)), rfl, hnm⟩) (hw _ (List.mem_of_getElem? (i := 23) rfl)) (ty := (.object "com/example/forager/forager/Progress$End")) (by decide) rfl rfl (g := (mkF m 22 #[rv ca, rv cw, iv cn, rv cl, rv ce] [(.ref ce), (.ref ca)])) rfl rfl (hb hby d4_22)
  have N26 := Fr.snoc X26 N23 P1
  have Fw26 := Fld.same W26 (((P5.other W17 (Or.inr (slot_ne (Or.inr (hw _ (List.mem_of_getElem? (i := 39) rfl))) (Or.inr (hw _ (List.mem_of_getElem? (i := 33) rfl))) (by decide) (t := (.object "com/example/forager/forager/Progress$End")) (t' := (.object "com/example/forager/forager/Window")) (by decide) (by decide)))).other W20 (Or.inr (slot_ne (Or.inr (hw _ (List.mem_of_getElem? (i := 39) rfl))) (Or.inr (hw _ (List.mem_of_getElem? (i := 35) rfl))) (by decide) (t := (.object "com/example/forager/forager/Progress$End")) (t' := .int) (by decide) (by decide)))).other W23 (Or.inr (slot_ne (Or.inr (hw _ (List.mem_of_getElem? (i := 39) rfl))) (Or.inr (hw _ (List.mem_of_getElem? (i := 37) rfl))) (by decide) (t := (.object "com/example/forager/forager/Progress$End")) (t' := (.array .double)) (by decide) (by decide))))
  have g27 : Goes p e below S0 (T26.setTop (mkF m 25 #[rv ca, rv cw, iv cn, rv cl, rv ce] [])) := fun t k => g25 t (st26 t k)
  obtain ⟨fs, hr, hrun, hended, hW, hsame⟩ := X26.leave (v := none) (fun _ => rfl)
  refine ⟨_, _, g27 _ (X26.returnOut hx Bd.returns (hb hby d4_25) hr), hrun, hended, _, _, rfl, ?_, ⟨_, rfl⟩, hW, hsame.mono (by decide) (by decide)⟩
  show Q_pin Z ca cw cn cl ce  h0 n0 _ T26.heap _
  rw [e26]
  exact ⟨rfl, N26, (((((Keep.refl h0 [ca]).wr W17 (Or.inl (List.mem_of_getElem? (i := 0) rfl))).wr W20 (Or.inl (List.mem_of_getElem? (i := 0) rfl))).wr W23 (Or.inl (List.mem_of_getElem? (i := 0) rfl))).wr W26 (Or.inl (List.mem_of_getElem? (i := 0) rfl))), ((((P0.wr W17).wr W20).wr W23).wr W26), (((Fw17.other W20 (Or.inr (slot_ne (Or.inr (hw _ (List.mem_of_getElem? (i := 33) rfl))) (Or.inr (hw _ (List.mem_of_getElem? (i := 35) rfl))) (by decide) (t := (.object "com/example/forager/forager/Window")) (t' := .int) (by decide) (by decide)))).other W23 (Or.inr (slot_ne (Or.inr (hw _ (List.mem_of_getElem? (i := 33) rfl))) (Or.inr (hw _ (List.mem_of_getElem? (i := 37) rfl))) (by decide) (t := (.object "com/example/forager/forager/Window")) (t' := (.array .double)) (by decide) (by decide)))).other W26 (Or.inr (slot_ne (Or.inr (hw _ (List.mem_of_getElem? (i := 33) rfl))) (Or.inr (hw _ (List.mem_of_getElem? (i := 39) rfl))) (by decide) (t := (.object "com/example/forager/forager/Window")) (t' := (.object "com/example/forager/forager/Progress$End")) (by decide) (by decide)))), ((Fw20.other W23 (Or.inr (slot_ne (Or.inr (hw _ (List.mem_of_getElem? (i := 35) rfl))) (Or.inr (hw _ (List.mem_of_getElem? (i := 37) rfl))) (by decide) (t := .int) (t' := (.array .double)) (by decide) (by decide)))).other W26 (Or.inr (slot_ne (Or.inr (hw _ (List.mem_of_getElem? (i := 35) rfl))) (Or.inr (hw _ (List.mem_of_getElem? (i := 39) rfl))) (by decide) (t := .int) (t' := (.object "com/example/forager/forager/Progress$End")) (by decide) (by decide)))), (Fw23.other W26 (Or.inr (slot_ne (Or.inr (hw _ (List.mem_of_getElem? (i := 37) rfl))) (Or.inr (hw _ (List.mem_of_getElem? (i := 39) rfl))) (by decide) (t := (.array .double)) (t' := (.object "com/example/forager/forager/Progress$End")) (by decide) (by decide)))), Fw26⟩
theorem d3_0 : decode prog_27_method_2_code 0 = .ok (.new 8, 3) := by decide +kernel
theorem d3_3 : decode prog_27_method_2_code 3 = .ok (.dup, 1) := by decide +kernel
theorem d3_4 : decode prog_27_method_2_code 4 = .ok (.aload_n 0, 1) := by decide +kernel
theorem d3_5 : decode prog_27_method_2_code 5 = .ok (.iconst 0, 1) := by decide +kernel
theorem d3_6 : decode prog_27_method_2_code 6 = .ok (.iconst 0, 1) := by decide +kernel
theorem d3_7 : decode prog_27_method_2_code 7 = .ok (.newarray .double, 2) := by decide +kernel
theorem d3_9 : decode prog_27_method_2_code 9 = .ok (.getstatic 25, 3) := by decide +kernel
theorem d3_12 : decode prog_27_method_2_code 12 = .ok (.invokespecial 30, 3) := by decide +kernel
theorem d3_15 : decode prog_27_method_2_code 15 = .ok (.areturn, 1) := by decide +kernel
theorem pd3 : parseMethodDescriptor "(Lcom/example/forager/forager/Window;)Lcom/example/forager/forager/Progress;" = some ⟨[(.object "com/example/forager/forager/Window")], some (.object "com/example/forager/forager/Progress")⟩ := by decide +kernel
theorem pf_nl : plainFor (⟨"com/example/forager/forager/Progress", "notLeft", "(Lcom/example/forager/forager/Window;)Lcom/example/forager/forager/Progress;"⟩ : MethodName) = true := by first | exact plainFor_of_name (by first | (simp [plainName, overriddenIn, x]; done) | decide +kernel) | exact Jvm.Free.JP.mathPlain rfl (by decide +kernel) | decide +kernel
theorem ef_nl (m : MethodId) (wa : Addr) : entryFrame m #[(.ref wa)] 1 = mkF m 0 #[rv wa] [] := by first | (simp [entryFrame, mkF, argsToLocals, Value.category, maxLocals]; done) | rfl
def Q_nl (Z : State) (wa : Addr) (sb : Addr) (h0 : Heap) (n0 : Nat) (v : Option Value) (h : Heap) (L : List Loc) : Prop := ∃ (pa : Addr) (la : Addr) (lk : ClassId), v = some (.ref pa) ∧ Fr n0 L ∧ (Keep h0 h []) ∧ (Exa Z h pa "com/example/forager/forager/Progress") ∧ (Fld Z h pa "com/example/forager/forager/Progress" "departures" "Lcom/example/forager/forager/Window;" (.ref wa)) ∧ (Fld Z h pa "com/example/forager/forager/Progress" "stops" "I" (.int (0 : Int32))) ∧ (Fld Z h pa "com/example/forager/forager/Progress" "legs" "[D" (.ref la)) ∧ (Fld Z h pa "com/example/forager/forager/Progress" "end" "Lcom/example/forager/forager/Progress$End;" (.ref sb)) ∧ (Arv Z h la lk .double (0 : Int32) [] (.double (0 : UInt64)))
set_option maxRecDepth 65536 in
set_option maxHeartbeats 40000000 in
theorem rm_nl (l : Launch) (Z : State) (a0 : Array Value) (hw : ∀ d ∈ tables_1, d.before a0 Z = true) (ws : List Jvm.Cond) (wa : Addr) (sb : Addr) (h0 : Heap) (n0 : Nat) (Z0 : n0 ≤ h0.size) (P0 : Sta Z h0 "com/example/forager/forager/Progress$End" "BACK" "Lcom/example/forager/forager/Progress$End;" (.ref sb))  :
    MetFree l (⟨"com/example/forager/forager/Progress", "notLeft", "(Lcom/example/forager/forager/Window;)Lcom/example/forager/forager/Progress;"⟩ : MethodName) (head1 (Jvm.Cond.code (⟨"com/example/forager/forager/Progress", "notLeft", "(Lcom/example/forager/forager/Window;)Lcom/example/forager/forager/Progress;"⟩ : MethodName) prog_27_method_2_code 1 (some (.object "com/example/forager/forager/Progress")) :: ws) ({ frames := 3, cells := 2, slots := 4, locals := 41 } : Room)) (fun a U => a = #[(.ref wa)] ∧ Z.Warmed39 U.vm ∧ U.heap = h0) (fun _ _ _ _ _ => True) (fun _ U o U' => ∃ v L, o = .returned v ∧ Q_nl Z wa sb h0 n0 v U'.heap L ∧ FrameEnd U o U' L ({ frames := 3, cells := 2, slots := 4, locals := 41 } : Room).cells ({ frames := 3, cells := 2, slots := 4, locals := 41 } : Room).slots) := by
  refine MetFree.of_bodySF pf_nl hisR ?_
  intro p e s m args below meth c s₁ Bd hml0 hP hK
  obtain ⟨rfl, hZ, hh⟩ := hP
  have hx := Bd.exec
  have hby := Bd.bytes
  have hml : c.maxLocals = 1 := hml0
  have hown : s.vm.findClass "com/example/forager/forager/Progress" = some m.cls := findClass_of_methodNamed Bd.named
  have hnm := (name_of_methodNamed Bd.named Bd.method).1
  have X0 : Stand p l e ({ frames := 3, cells := 2, slots := 4, locals := 41 } : Room) s m #[(.ref wa)] below meth c s₁ [] 0 0 := Stand.of_body Bd
  have e0 : s₁.heap = h0 := by rw [← hh, Bd.state]; rfl
  have N0 := Fr.nil n0
  obtain ⟨S0, hS0⟩ : ∃ z, z = s₁.setTop (entryFrame m #[(.ref wa)] 1) := ⟨_, rfl⟩
  rw [← hS0]
  have g0 : Goes p e below S0 (s₁.setTop (mkF m 0 #[rv wa] [])) := fun t k => by rw [hS0]; exact castTop (ef_nl m wa) k
  obtain ⟨T28, h28, X28, e28, E28, A28, D28, -, st28⟩ := newO X0 hx hZ hown (hw _ (List.mem_of_getElem? (i := 22) rfl)) (hw _ (List.mem_of_getElem? (i := 23) rfl)) (hw _ (List.mem_of_getElem? (i := 20) rfl)) e0 (g := (mkF m 0 #[rv wa] [])) rfl (hb hby d3_0) (by decide) (by decide)
  obtain ⟨b28, gb28⟩ : ∃ z, z = h0.size := ⟨_, rfl⟩
  have sz28 : h0.size ≤ b28 := Nat.le_trans (Nat.le_refl _) (Nat.le_of_eq gb28.symm)
  have ng28 : n0 ≤ b28 := Nat.le_trans Z0 sz28
  rw [← gb28] at A28 D28 st28
  have F28_29 : Fld Z h28 b28 "com/example/forager/forager/Progress" "departures" "Lcom/example/forager/forager/Window;" .null := D28 (Or.inr (hw _ (List.mem_of_getElem? (i := 33) rfl))) (ty := (.object "com/example/forager/forager/Window")) (by decide)
  have F28_30 : Fld Z h28 b28 "com/example/forager/forager/Progress" "stops" "I" (.int (0 : Int32)) := D28 (Or.inr (hw _ (List.mem_of_getElem? (i := 35) rfl))) (ty := .int) (by decide)
  have F28_31 : Fld Z h28 b28 "com/example/forager/forager/Progress" "legs" "[D" .null := D28 (Or.inr (hw _ (List.mem_of_getElem? (i := 37) rfl))) (ty := (.array .double)) (by decide)
  have F28_32 : Fld Z h28 b28 "com/example/forager/forager/Progress" "end" "Lcom/example/forager/forager/Progress$End;" .null := D28 (Or.inr (hw _ (List.mem_of_getElem? (i := 39) rfl))) (ty := (.object "com/example/forager/forager/Progress$End")) (by decide)
  have g33 : Goes p e below S0 (T28.setTop (mkF m 3 #[rv wa] [(.ref b28)])) := fun t k => g0 t (st28 t k)
  have g34 : Goes p e below S0 (T28.setTop (mkF m 7 #[rv wa] [(.int (0 : Int32)), (.int (0 : Int32)), (.ref wa), (.ref b28), (.ref b28)])) := fun t k => g33 t (by
    refine XS.dup X28.here hx rfl (hb hby d3_3) rfl rfl ?_
    show Go p e below t T28 m 4 #[rv wa] [(.ref b28), (.ref b28)]
    refine XS.aloadN X28.here hx rfl (hb hby d3_4) rfl rfl ?_
    show Go p e below t T28 m 5 #[rv wa] [(.ref wa), (.ref b28), (.ref b28)]
    refine XT.iconstV X28.here hx rfl (0 : Int32) (hb hby d3_5) (by decide) ?_
    show Go p e below t T28 m 6 #[rv wa] [(.int (0 : Int32)), (.ref wa), (.ref b28), (.ref b28)]
    refine XT.iconstV X28.here hx rfl (0 : Int32) (hb hby d3_6) (by decide) ?_
    show Go p e below t T28 m 7 #[rv wa] [(.int (0 : Int32)), (.int (0 : Int32)), (.ref wa), (.ref b28), (.ref b28)]
    exact k)
  obtain ⟨T35, h35, k35, X35, e35, E35, A35, st35⟩ := newP X28 hx hZ (hw _ (List.mem_of_getElem? (i := 24) rfl)) e28 (g := (mkF m 7 #[rv wa] [(.int (0 : Int32)), (.int (0 : Int32)), (.ref wa), (.ref b28), (.ref b28)])) rfl (hb hby d3_7) rfl (by decide) (cap := 0) (by decide) (by decide) (by decide) (by decide)
  obtain ⟨b35, gb35⟩ : ∃ z, z = h28.size := ⟨_, rfl⟩
  have sz35 : h0.size ≤ b35 := Nat.le_trans (Nat.le_trans (Nat.le_refl _) E28.1) (Nat.le_of_eq gb35.symm)
  have ng35 : n0 ≤ b35 := Nat.le_trans Z0 sz35
  rw [← gb35] at A35 st35
  have V35 : Arv Z h35 b35 k35 .double (0 : Int32) [] (.double (0 : UInt64)) := (Arv.new A35 (by decide)).pad (pad_rep [] (.double (0 : UInt64)) 0)
  have g36 : Goes p e below S0 (T35.setTop (mkF m 9 #[rv wa] [(.ref b35), (.int (0 : Int32)), (.ref wa), (.ref b28), (.ref b28)])) := fun t k => g34 t (st35 t k)
  obtain ⟨T37, X37, e37, st37⟩ := getS (host := "") X35 hx hZ hown (hw _ (List.mem_of_getElem? (i := 25) rfl)) Via.refl e35 ((P0.ext E28).ext E35) (g := (mkF m 9 #[rv wa] [(.ref b35), (.int (0 : Int32)), (.ref wa), (.ref b28), (.ref b28)])) rfl (hb hby d3_9)
  have g38 : Goes p e below S0 (T37.setTop (mkF m 12 #[rv wa] [(.ref sb), (.ref b35), (.int (0 : Int32)), (.ref wa), (.ref b28), (.ref b28)])) := fun t k => g36 t (st37 t k)
  obtain ⟨_, _, ⟨T39, L39, k39, n39⟩, -, X39, ⟨Lc39, hQ39, l39, y39, z39⟩, st39⟩ := X37.specialBack hx (y := (⟨"com/example/forager/forager/Progress", "<init>", "(Lcom/example/forager/forager/Window;I[DLcom/example/forager/forager/Progress$End;)V"⟩ : MethodName)) rfl hown (mvT hZ (hw _ (List.mem_of_getElem? (i := 28) rfl))) (mvT hZ (hw _ (List.mem_of_getElem? (i := 29) rfl))) (mvT hZ (hw _ (List.mem_of_getElem? (i := 30) rfl))) (by decide) (backOf (W := 1) (rm_pin l Z a0 hw [] b28 wa (0 : Int32) b35 sb  h35 n0 (Nat.le_trans Z0 (Nat.le_trans (Nat.le_trans (Nat.le_refl _) E28.1) E35.1)) (A28.ext E35) ng28 (F28_29.ext E35) (F28_30.ext E35) (F28_31.ext E35) (F28_32.ext E35)) hZ (hw _ (List.mem_of_getElem? (i := 30) rfl)) (hw _ (List.mem_of_getElem? (i := 20) rfl)) (by decide) (by decide)) (g := (mkF m 12 #[rv wa] [(.ref sb), (.ref b35), (.int (0 : Int32)), (.ref wa), (.ref b28), (.ref b28)])) rfl (by rw [hml]; rfl) (Steps.refl _) (a := b28) (argsL := [(.ref wa), (.int (0 : Int32)), (.ref b35), (.ref sb)]) (rest := [(.ref b28)]) (lenOf pd2 rfl) rfl (by show 2 * 0 + _ ≤ _; exact Nat.le_of_eq rfl) (hb hby d3_12) (fun _ _ => ⟨rfl, e37, (by decide : 2 + 0 ≤ _), (by decide : 4 + 0 ≤ _)⟩)
  dsimp only [Pt.U, Pt.locs, Pt.cells, Pt.slots] at X39 l39 y39 z39 st39 hQ39
  subst l39 y39 z39
  obtain ⟨rfl, N39, R39_0, R39_1, R39_2, R39_3, R39_4, R39_5⟩ := hQ39
  have M39 := Fr.app N0 N39
  have g40 : Goes p e below S0 (T39.setTop (mkF m 15 #[rv wa] [(.ref b28)])) := fun t k => g38 t (st39.trans k)
  obtain ⟨fs, hr, hrun, hended, hW, hsame⟩ := X39.leave (v := some (.ref b28)) (fun h => by rw [Bd.returns] at h; cases h)
  refine ⟨_, _, g40 _ (retOut X39 hx Bd.returns rfl (Or.inr (Or.inr (Or.inr (Or.inr ⟨rfl, rfl, rfl⟩)))) (hb hby d3_15) hr), hrun, hended, _, _, rfl, ?_, ⟨_, rfl⟩, hW, hsame.mono (by decide) (by decide)⟩
  show Q_nl Z wa sb h0 n0 _ T39.heap _
  exact ⟨b28, b35, k35, rfl, M39, ((((Keep.refl h0 []).ext E28).ext E35).trans R39_0 (allS (Or.inr sz28) all0)), R39_1, R39_2, R39_3, R39_4, R39_5, (V35.keep R39_0 (ninS (Ne.symm (Nat.ne_of_lt (Nat.lt_of_lt_of_le A28.lt (Nat.le_of_eq gb35.symm)))) nin0))⟩
theorem d6_0 : decode prog_27_method_6_code 0 = .ok (.aload_n 0, 1) := by decide +kernel
theorem d6_1 : decode prog_27_method_6_code 1 = .ok (.getfield 7, 3) := by decide +kernel
theorem d6_4 : decode prog_27_method_6_code 4 = .ok (.areturn, 1) := by decide +kernel
theorem pd4 : parseMethodDescriptor "()Lcom/example/forager/forager/Window;" = some ⟨[], some (.object "com/example/forager/forager/Window")⟩ := by decide +kernel
theorem pf_g_departures : plainFor (⟨"com/example/forager/forager/Progress", "departures", "()Lcom/example/forager/forager/Window;"⟩ : MethodName) = true := by first | exact plainFor_of_name (by first | (simp [plainName, overriddenIn, x]; done) | decide +kernel) | exact Jvm.Free.JP.mathPlain rfl (by decide +kernel) | decide +kernel
theorem ef_g_departures (m : MethodId) (za : Addr) : entryFrame m #[(.ref za)] 1 = mkF m 0 #[rv za] [] := by first | (simp [entryFrame, mkF, argsToLocals, Value.category, maxLocals]; done) | rfl
def Q_g_departures (Z : State) (za : Addr) (gx : Addr) (h0 : Heap) (n0 : Nat) (v : Option Value) (h : Heap) (L : List Loc) : Prop := v = some (.ref gx) ∧ Fr n0 L ∧ h = h0
set_option maxRecDepth 65536 in
set_option maxHeartbeats 40000000 in
theorem rm_g_departures (l : Launch) (Z : State) (a0 : Array Value) (hw : ∀ d ∈ tables_1, d.before a0 Z = true) (ws : List Jvm.Cond) (za : Addr) (gx : Addr) (h0 : Heap) (n0 : Nat) (Z0 : n0 ≤ h0.size) (P0 : Fld Z h0 za "com/example/forager/forager/Progress" "departures" "Lcom/example/forager/forager/Window;" (.ref gx))  :
    MetFree l (⟨"com/example/forager/forager/Progress", "departures", "()Lcom/example/forager/forager/Window;"⟩ : MethodName) (head1 (Jvm.Cond.code (⟨"com/example/forager/forager/Progress", "departures", "()Lcom/example/forager/forager/Window;"⟩ : MethodName) prog_27_method_6_code 1 (some (.object "com/example/forager/forager/Window")) :: ws) ({ frames := 0, cells := 0, slots := 0, locals := 0 } : Room)) (fun a U => a = #[(.ref za)] ∧ Z.Warmed39 U.vm ∧ U.heap = h0) (fun _ _ _ _ _ => True) (fun _ U o U' => ∃ v L, o = .returned v ∧ Q_g_departures Z za gx h0 n0 v U'.heap L ∧ FrameEnd U o U' L ({ frames := 0, cells := 0, slots := 0, locals := 0 } : Room).cells ({ frames := 0, cells := 0, slots := 0, locals := 0 } : Room).slots) := by
  refine MetFree.of_bodySF pf_g_departures hisR ?_
  intro p e s m args below meth c s₁ Bd hml0 hP hK
  obtain ⟨rfl, hZ, hh⟩ := hP
  have hx := Bd.exec
  have hby := Bd.bytes
  have hml : c.maxLocals = 1 := hml0
  have hown : s.vm.findClass "com/example/forager/forager/Progress" = some m.cls := findClass_of_methodNamed Bd.named
  have hnm := (name_of_methodNamed Bd.named Bd.method).1
  have X0 : Stand p l e ({ frames := 0, cells := 0, slots := 0, locals := 0 } : Room) s m #[(.ref za)] below meth c s₁ [] 0 0 := Stand.of_body Bd
  have e0 : s₁.heap = h0 := by rw [← hh, Bd.state]; rfl
  have N0 := Fr.nil n0
  obtain ⟨S0, hS0⟩ : ∃ z, z = s₁.setTop (entryFrame m #[(.ref za)] 1) := ⟨_, rfl⟩
  rw [← hS0]
  have g0 : Goes p e below S0 (s₁.setTop (mkF m 0 #[rv za] [])) := fun t k => by rw [hS0]; exact castTop (ef_g_departures m za) k
  have g41 : Goes p e below S0 (s₁.setTop (mkF m 1 #[rv za] [(.ref za)])) := fun t k => g0 t (by
    refine XS.aloadN X0.here hx rfl (hb hby d6_0) rfl rfl ?_
    show Go p e below t s₁ m 1 #[rv za] [(.ref za)]
    exact k)
  obtain ⟨T42, X42, e42, st42⟩ := getF X0 hx hZ hown (host := "") (Or.inl (hw _ (List.mem_of_getElem? (i := 32) rfl))) Via.refl e0 P0 (g := (mkF m 1 #[rv za] [(.ref za)])) rfl rfl (hb hby d6_1)
  have g43 : Goes p e below S0 (T42.setTop (mkF m 4 #[rv za] [(.ref gx)])) := fun t k => g41 t (st42 t k)
  obtain ⟨fs, hr, hrun, hended, hW, hsame⟩ := X42.leave (v := some (.ref gx)) (fun h => by rw [Bd.returns] at h; cases h)
  refine ⟨_, _, g43 _ (retOut X42 hx Bd.returns rfl (Or.inr (Or.inr (Or.inr (Or.inr ⟨rfl, rfl, rfl⟩)))) (hb hby d6_4) hr), hrun, hended, _, _, rfl, ?_, ⟨_, rfl⟩, hW, hsame.mono (by decide) (by decide)⟩
  show Q_g_departures Z za gx h0 n0 _ T42.heap _
  rw [e42]
  exact ⟨rfl, N0, rfl⟩
theorem d7_0 : decode prog_27_method_7_code 0 = .ok (.aload_n 0, 1) := by decide +kernel
theorem d7_1 : decode prog_27_method_7_code 1 = .ok (.getfield 13, 3) := by decide +kernel
theorem d7_4 : decode prog_27_method_7_code 4 = .ok (.ireturn, 1) := by decide +kernel
theorem pd5 : parseMethodDescriptor "()I" = some ⟨[], some .int⟩ := by decide +kernel
theorem pf_g_stops : plainFor (⟨"com/example/forager/forager/Progress", "stops", "()I"⟩ : MethodName) = true := by first | exact plainFor_of_name (by first | (simp [plainName, overriddenIn, x]; done) | decide +kernel) | exact Jvm.Free.JP.mathPlain rfl (by decide +kernel) | decide +kernel
theorem ef_g_stops (m : MethodId) (za : Addr) : entryFrame m #[(.ref za)] 1 = mkF m 0 #[rv za] [] := by first | (simp [entryFrame, mkF, argsToLocals, Value.category, maxLocals]; done) | rfl
def Q_g_stops (Z : State) (za : Addr) (gx : Int32) (h0 : Heap) (n0 : Nat) (v : Option Value) (h : Heap) (L : List Loc) : Prop := v = some (.int gx) ∧ Fr n0 L ∧ h = h0
set_option maxRecDepth 65536 in
set_option maxHeartbeats 40000000 in
theorem rm_g_stops (l : Launch) (Z : State) (a0 : Array Value) (hw : ∀ d ∈ tables_1, d.before a0 Z = true) (ws : List Jvm.Cond) (za : Addr) (gx : Int32) (h0 : Heap) (n0 : Nat) (Z0 : n0 ≤ h0.size) (P0 : Fld Z h0 za "com/example/forager/forager/Progress" "stops" "I" (.int gx))  :
    MetFree l (⟨"com/example/forager/forager/Progress", "stops", "()I"⟩ : MethodName) (head1 (Jvm.Cond.code (⟨"com/example/forager/forager/Progress", "stops", "()I"⟩ : MethodName) prog_27_method_7_code 1 (some .int) :: ws) ({ frames := 0, cells := 0, slots := 0, locals := 0 } : Room)) (fun a U => a = #[(.ref za)] ∧ Z.Warmed39 U.vm ∧ U.heap = h0) (fun _ _ _ _ _ => True) (fun _ U o U' => ∃ v L, o = .returned v ∧ Q_g_stops Z za gx h0 n0 v U'.heap L ∧ FrameEnd U o U' L ({ frames := 0, cells := 0, slots := 0, locals := 0 } : Room).cells ({ frames := 0, cells := 0, slots := 0, locals := 0 } : Room).slots) := by
  refine MetFree.of_bodySF pf_g_stops hisR ?_
  intro p e s m args below meth c s₁ Bd hml0 hP hK
  obtain ⟨rfl, hZ, hh⟩ := hP
  have hx := Bd.exec
  have hby := Bd.bytes
  have hml : c.maxLocals = 1 := hml0
  have hown : s.vm.findClass "com/example/forager/forager/Progress" = some m.cls := findClass_of_methodNamed Bd.named
  have hnm := (name_of_methodNamed Bd.named Bd.method).1
  have X0 : Stand p l e ({ frames := 0, cells := 0, slots := 0, locals := 0 } : Room) s m #[(.ref za)] below meth c s₁ [] 0 0 := Stand.of_body Bd
  have e0 : s₁.heap = h0 := by rw [← hh, Bd.state]; rfl
  have N0 := Fr.nil n0
  obtain ⟨S0, hS0⟩ : ∃ z, z = s₁.setTop (entryFrame m #[(.ref za)] 1) := ⟨_, rfl⟩
  rw [← hS0]
  have g0 : Goes p e below S0 (s₁.setTop (mkF m 0 #[rv za] [])) := fun t k => by rw [hS0]; exact castTop (ef_g_stops m za) k
  have g44 : Goes p e below S0 (s₁.setTop (mkF m 1 #[rv za] [(.ref za)])) := fun t k => g0 t (by
    refine XS.aloadN X0.here hx rfl (hb hby d7_0) rfl rfl ?_
    show Go p e below t s₁ m 1 #[rv za] [(.ref za)]
    exact k)
  obtain ⟨T45, X45, e45, st45⟩ := getF X0 hx hZ hown (host := "") (Or.inl (hw _ (List.mem_of_getElem? (i := 34) rfl))) Via.refl e0 P0 (g := (mkF m 1 #[rv za] [(.ref za)])) rfl rfl (hb hby d7_1)
  have g46 : Goes p e below S0 (T45.setTop (mkF m 4 #[rv za] [(.int gx)])) := fun t k => g44 t (st45 t k)
  obtain ⟨fs, hr, hrun, hended, hW, hsame⟩ := X45.leave (v := some (.int gx)) (fun h => by rw [Bd.returns] at h; cases h)
  refine ⟨_, _, g46 _ (retOut X45 hx Bd.returns rfl (Or.inl ⟨rfl, Or.inl rfl, _, rfl⟩) (hb hby d7_4) hr), hrun, hended, _, _, rfl, ?_, ⟨_, rfl⟩, hW, hsame.mono (by decide) (by decide)⟩
  show Q_g_stops Z za gx h0 n0 _ T45.heap _
  rw [e45]
  exact ⟨rfl, N0, rfl⟩
theorem d5_0 : decode prog_27_method_8_code 0 = .ok (.aload_n 0, 1) := by decide +kernel
theorem d5_1 : decode prog_27_method_8_code 1 = .ok (.getfield 17, 3) := by decide +kernel
theorem d5_4 : decode prog_27_method_8_code 4 = .ok (.areturn, 1) := by decide +kernel
theorem pd6 : parseMethodDescriptor "()[D" = some ⟨[], some (.array .double)⟩ := by decide +kernel
theorem pf_g_legs : plainFor (⟨"com/example/forager/forager/Progress", "legs", "()[D"⟩ : MethodName) = true := by first | exact plainFor_of_name (by first | (simp [plainName, overriddenIn, x]; done) | decide +kernel) | exact Jvm.Free.JP.mathPlain rfl (by decide +kernel) | decide +kernel
theorem ef_g_legs (m : MethodId) (za : Addr) : entryFrame m #[(.ref za)] 1 = mkF m 0 #[rv za] [] := by first | (simp [entryFrame, mkF, argsToLocals, Value.category, maxLocals]; done) | rfl
def Q_g_legs (Z : State) (za : Addr) (gx : Addr) (h0 : Heap) (n0 : Nat) (v : Option Value) (h : Heap) (L : List Loc) : Prop := v = some (.ref gx) ∧ Fr n0 L ∧ h = h0
set_option maxRecDepth 65536 in
set_option maxHeartbeats 40000000 in
theorem rm_g_legs (l : Launch) (Z : State) (a0 : Array Value) (hw : ∀ d ∈ tables_1, d.before a0 Z = true) (ws : List Jvm.Cond) (za : Addr) (gx : Addr) (h0 : Heap) (n0 : Nat) (Z0 : n0 ≤ h0.size) (P0 : Fld Z h0 za "com/example/forager/forager/Progress" "legs" "[D" (.ref gx))  :
    MetFree l (⟨"com/example/forager/forager/Progress", "legs", "()[D"⟩ : MethodName) (head1 (Jvm.Cond.code (⟨"com/example/forager/forager/Progress", "legs", "()[D"⟩ : MethodName) prog_27_method_8_code 1 (some (.array .double)) :: ws) ({ frames := 0, cells := 0, slots := 0, locals := 0 } : Room)) (fun a U => a = #[(.ref za)] ∧ Z.Warmed39 U.vm ∧ U.heap = h0) (fun _ _ _ _ _ => True) (fun _ U o U' => ∃ v L, o = .returned v ∧ Q_g_legs Z za gx h0 n0 v U'.heap L ∧ FrameEnd U o U' L ({ frames := 0, cells := 0, slots := 0, locals := 0 } : Room).cells ({ frames := 0, cells := 0, slots := 0, locals := 0 } : Room).slots) := by
  refine MetFree.of_bodySF pf_g_legs hisR ?_
  intro p e s m args below meth c s₁ Bd hml0 hP hK
  obtain ⟨rfl, hZ, hh⟩ := hP
  have hx := Bd.exec
  have hby := Bd.bytes
  have hml : c.maxLocals = 1 := hml0
  have hown : s.vm.findClass "com/example/forager/forager/Progress" = some m.cls := findClass_of_methodNamed Bd.named
  have hnm := (name_of_methodNamed Bd.named Bd.method).1
  have X0 : Stand p l e ({ frames := 0, cells := 0, slots := 0, locals := 0 } : Room) s m #[(.ref za)] below meth c s₁ [] 0 0 := Stand.of_body Bd
  have e0 : s₁.heap = h0 := by rw [← hh, Bd.state]; rfl
  have N0 := Fr.nil n0
  obtain ⟨S0, hS0⟩ : ∃ z, z = s₁.setTop (entryFrame m #[(.ref za)] 1) := ⟨_, rfl⟩
  rw [← hS0]
  have g0 : Goes p e below S0 (s₁.setTop (mkF m 0 #[rv za] [])) := fun t k => by rw [hS0]; exact castTop (ef_g_legs m za) k
  have g47 : Goes p e below S0 (s₁.setTop (mkF m 1 #[rv za] [(.ref za)])) := fun t k => g0 t (by
    refine XS.aloadN X0.here hx rfl (hb hby d5_0) rfl rfl ?_
    show Go p e below t s₁ m 1 #[rv za] [(.ref za)]
    exact k)
  obtain ⟨T48, X48, e48, st48⟩ := getF X0 hx hZ hown (host := "") (Or.inl (hw _ (List.mem_of_getElem? (i := 36) rfl))) Via.refl e0 P0 (g := (mkF m 1 #[rv za] [(.ref za)])) rfl rfl (hb hby d5_1)
  have g49 : Goes p e below S0 (T48.setTop (mkF m 4 #[rv za] [(.ref gx)])) := fun t k => g47 t (st48 t k)
  obtain ⟨fs, hr, hrun, hended, hW, hsame⟩ := X48.leave (v := some (.ref gx)) (fun h => by rw [Bd.returns] at h; cases h)
  refine ⟨_, _, g49 _ (retOut X48 hx Bd.returns rfl (Or.inr (Or.inr (Or.inr (Or.inr ⟨rfl, rfl, rfl⟩)))) (hb hby d5_4) hr), hrun, hended, _, _, rfl, ?_, ⟨_, rfl⟩, hW, hsame.mono (by decide) (by decide)⟩
  show Q_g_legs Z za gx h0 n0 _ T48.heap _
  rw [e48]
  exact ⟨rfl, N0, rfl⟩
theorem d8_0 : decode prog_27_method_9_code 0 = .ok (.aload_n 0, 1) := by decide +kernel
theorem d8_1 : decode prog_27_method_9_code 1 = .ok (.getfield 21, 3) := by decide +kernel
theorem d8_4 : decode prog_27_method_9_code 4 = .ok (.areturn, 1) := by decide +kernel
theorem pd7 : parseMethodDescriptor "()Lcom/example/forager/forager/Progress$End;" = some ⟨[], some (.object "com/example/forager/forager/Progress$End")⟩ := by decide +kernel
theorem pf_g_end : plainFor (⟨"com/example/forager/forager/Progress", "end", "()Lcom/example/forager/forager/Progress$End;"⟩ : MethodName) = true := by first | exact plainFor_of_name (by first | (simp [plainName, overriddenIn, x]; done) | decide +kernel) | exact Jvm.Free.JP.mathPlain rfl (by decide +kernel) | decide +kernel
theorem ef_g_end (m : MethodId) (za : Addr) : entryFrame m #[(.ref za)] 1 = mkF m 0 #[rv za] [] := by first | (simp [entryFrame, mkF, argsToLocals, Value.category, maxLocals]; done) | rfl
def Q_g_end (Z : State) (za : Addr) (gx : Addr) (h0 : Heap) (n0 : Nat) (v : Option Value) (h : Heap) (L : List Loc) : Prop := v = some (.ref gx) ∧ Fr n0 L ∧ h = h0
set_option maxRecDepth 65536 in
set_option maxHeartbeats 40000000 in
theorem rm_g_end (l : Launch) (Z : State) (a0 : Array Value) (hw : ∀ d ∈ tables_1, d.before a0 Z = true) (ws : List Jvm.Cond) (za : Addr) (gx : Addr) (h0 : Heap) (n0 : Nat) (Z0 : n0 ≤ h0.size) (P0 : Fld Z h0 za "com/example/forager/forager/Progress" "end" "Lcom/example/forager/forager/Progress$End;" (.ref gx))  :
    MetFree l (⟨"com/example/forager/forager/Progress", "end", "()Lcom/example/forager/forager/Progress$End;"⟩ : MethodName) (head1 (Jvm.Cond.code (⟨"com/example/forager/forager/Progress", "end", "()Lcom/example/forager/forager/Progress$End;"⟩ : MethodName) prog_27_method_9_code 1 (some (.object "com/example/forager/forager/Progress$End")) :: ws) ({ frames := 0, cells := 0, slots := 0, locals := 0 } : Room)) (fun a U => a = #[(.ref za)] ∧ Z.Warmed39 U.vm ∧ U.heap = h0) (fun _ _ _ _ _ => True) (fun _ U o U' => ∃ v L, o = .returned v ∧ Q_g_end Z za gx h0 n0 v U'.heap L ∧ FrameEnd U o U' L ({ frames := 0, cells := 0, slots := 0, locals := 0 } : Room).cells ({ frames := 0, cells := 0, slots := 0, locals := 0 } : Room).slots) := by
  refine MetFree.of_bodySF pf_g_end hisR ?_
  intro p e s m args below meth c s₁ Bd hml0 hP hK
  obtain ⟨rfl, hZ, hh⟩ := hP
  have hx := Bd.exec
  have hby := Bd.bytes
  have hml : c.maxLocals = 1 := hml0
  have hown : s.vm.findClass "com/example/forager/forager/Progress" = some m.cls := findClass_of_methodNamed Bd.named
  have hnm := (name_of_methodNamed Bd.named Bd.method).1
  have X0 : Stand p l e ({ frames := 0, cells := 0, slots := 0, locals := 0 } : Room) s m #[(.ref za)] below meth c s₁ [] 0 0 := Stand.of_body Bd
  have e0 : s₁.heap = h0 := by rw [← hh, Bd.state]; rfl
  have N0 := Fr.nil n0
  obtain ⟨S0, hS0⟩ : ∃ z, z = s₁.setTop (entryFrame m #[(.ref za)] 1) := ⟨_, rfl⟩
  rw [← hS0]
  have g0 : Goes p e below S0 (s₁.setTop (mkF m 0 #[rv za] [])) := fun t k => by rw [hS0]; exact castTop (ef_g_end m za) k
  have g50 : Goes p e below S0 (s₁.setTop (mkF m 1 #[rv za] [(.ref za)])) := fun t k => g0 t (by
    refine XS.aloadN X0.here hx rfl (hb hby d8_0) rfl rfl ?_
    show Go p e below t s₁ m 1 #[rv za] [(.ref za)]
    exact k)
  obtain ⟨T51, X51, e51, st51⟩ := getF X0 hx hZ hown (host := "") (Or.inl (hw _ (List.mem_of_getElem? (i := 38) rfl))) Via.refl e0 P0 (g := (mkF m 1 #[rv za] [(.ref za)])) rfl rfl (hb hby d8_1)
  have g52 : Goes p e below S0 (T51.setTop (mkF m 4 #[rv za] [(.ref gx)])) := fun t k => g50 t (st51 t k)
  obtain ⟨fs, hr, hrun, hended, hW, hsame⟩ := X51.leave (v := some (.ref gx)) (fun h => by rw [Bd.returns] at h; cases h)
  refine ⟨_, _, g52 _ (retOut X51 hx Bd.returns rfl (Or.inr (Or.inr (Or.inr (Or.inr ⟨rfl, rfl, rfl⟩)))) (hb hby d8_4) hr), hrun, hended, _, _, rfl, ?_, ⟨_, rfl⟩, hW, hsame.mono (by decide) (by decide)⟩
  show Q_g_end Z za gx h0 n0 _ T51.heap _
  rw [e51]
  exact ⟨rfl, N0, rfl⟩
theorem pd8 : parseMethodDescriptor "(II)Z" = some ⟨[.int, .int], some .boolean⟩ := by decide +kernel
theorem pf_law : plainFor x = true := by first | exact plainFor_of_name (by first | (simp [plainName, overriddenIn, x]; done) | decide +kernel) | exact Jvm.Free.JP.mathPlain rfl (by decide +kernel) | decide +kernel
theorem ef_law (m : MethodId) (i0 : Int32) (i1 : Int32) : entryFrame m #[(.int i0), (.int i1)] maxLocals = mkF m 0 #[iv i0, iv i1, .unset, .unset, .unset] [] := by first | (simp [entryFrame, mkF, argsToLocals, Value.category, maxLocals]; done) | rfl
def f_law (i0 : Int32) (i1 : Int32) : Int32 := (1 : Int32)
def Q_law (Z : State) (i0 : Int32) (i1 : Int32) (sb : Addr) (h0 : Heap) (n0 : Nat) (v : Option Value) (h : Heap) (L : List Loc) : Prop := v = some (.int (f_law i0 i1)) ∧ Fr n0 L
set_option maxRecDepth 65536 in
set_option maxHeartbeats 40000000 in
theorem rm_law (l : Launch) (Z : State) (a0 : Array Value) (hw : ∀ d ∈ tables_1, d.before a0 Z = true) (ws : List Jvm.Cond) (i0 : Int32) (i1 : Int32) (sb : Addr) (h0 : Heap) (n0 : Nat) (Z0 : n0 ≤ h0.size) (P0 : Sta Z h0 "com/example/forager/forager/Progress$End" "BACK" "Lcom/example/forager/forager/Progress$End;" (.ref sb))  :
    MetFree l x (head1 (Jvm.Cond.code x code maxLocals ret :: ws) room_1) (fun a U => a = #[(.int i0), (.int i1)] ∧ Z.Warmed39 U.vm ∧ U.heap = h0) (fun _ _ _ _ _ => True) (fun _ U o U' => ∃ v L, o = .returned v ∧ Q_law Z i0 i1 sb h0 n0 v U'.heap L ∧ FrameEnd U o U' L 16 128) := by
  refine MetFree.of_bodySF pf_law hisR ?_
  intro p e s m args below meth c s₁ Bd hml0 hP hK
  obtain ⟨rfl, hZ, hh⟩ := hP
  have hx := Bd.exec
  have hby := Bd.bytes
  have hml : c.maxLocals = 5 := hml0
  have hown : s.vm.findClass "com/example/forager/forager/ProgressNotLeftPinLaw" = some m.cls := findClass_of_methodNamed Bd.named
  have hnm := (name_of_methodNamed Bd.named Bd.method).1
  have X0 : Stand p l e room_1 s m #[(.int i0), (.int i1)] below meth c s₁ [] 0 0 := Stand.of_body Bd
  have e0 : s₁.heap = h0 := by rw [← hh, Bd.state]; rfl
  have N0 := Fr.nil n0
  obtain ⟨S0, hS0⟩ : ∃ z, z = s₁.setTop (entryFrame m #[(.int i0), (.int i1)] maxLocals) := ⟨_, rfl⟩
  rw [← hS0]
  have g0 : Goes p e below S0 (s₁.setTop (mkF m 0 #[iv i0, iv i1, .unset, .unset, .unset] [])) := fun t k => by rw [hS0]; exact castTop (ef_law m i0 i1) k
  obtain ⟨T53, h53, X53, e53, E53, A53, D53, -, st53⟩ := newO X0 hx hZ hown (hw _ (List.mem_of_getElem? (i := 0) rfl)) (hw _ (List.mem_of_getElem? (i := 1) rfl)) (hw _ (List.mem_of_getElem? (i := 2) rfl)) e0 (g := (mkF m 0 #[iv i0, iv i1, .unset, .unset, .unset] [])) rfl (hb hby at_0) (by decide) (by decide)
  obtain ⟨b53, gb53⟩ : ∃ z, z = h0.size := ⟨_, rfl⟩
  have sz53 : h0.size ≤ b53 := Nat.le_trans (Nat.le_refl _) (Nat.le_of_eq gb53.symm)
  have ng53 : n0 ≤ b53 := Nat.le_trans Z0 sz53
  rw [← gb53] at A53 D53 st53
  have F53_54 : Fld Z h53 b53 "com/example/forager/forager/Window" "from" "D" (.double (0 : UInt64)) := D53 (Or.inr (hw _ (List.mem_of_getElem? (i := 15) rfl))) (ty := .double) (by decide)
  have F53_55 : Fld Z h53 b53 "com/example/forager/forager/Window" "to" "D" (.double (0 : UInt64)) := D53 (Or.inr (hw _ (List.mem_of_getElem? (i := 17) rfl))) (ty := .double) (by decide)
  have g56 : Goes p e below S0 (T53.setTop (mkF m 3 #[iv i0, iv i1, .unset, .unset, .unset] [(.ref b53)])) := fun t k => g0 t (st53 t k)
  have g57 : Goes p e below S0 (T53.setTop (mkF m 8 #[iv i0, iv i1, .unset, .unset, .unset] [(.double (FP.i2d i1)), (.double (FP.i2d i0)), (.ref b53), (.ref b53)])) := fun t k => g56 t (by
    refine XS.dup X53.here hx rfl (hb hby at_3) rfl rfl ?_
    show Go p e below t T53 m 4 #[iv i0, iv i1, .unset, .unset, .unset] [(.ref b53), (.ref b53)]
    refine XS.iloadN X53.here hx rfl (hb hby at_4) rfl ?_
    show Go p e below t T53 m 5 #[iv i0, iv i1, .unset, .unset, .unset] [(.int i0), (.ref b53), (.ref b53)]
    refine XS.i2dS X53.here hx rfl (hb hby at_5) rfl rfl ?_
    show Go p e below t T53 m 6 #[iv i0, iv i1, .unset, .unset, .unset] [(.double (FP.i2d i0)), (.ref b53), (.ref b53)]
    refine XS.iloadN X53.here hx rfl (hb hby at_6) rfl ?_
    show Go p e below t T53 m 7 #[iv i0, iv i1, .unset, .unset, .unset] [(.int i1), (.double (FP.i2d i0)), (.ref b53), (.ref b53)]
    refine XS.i2dS X53.here hx rfl (hb hby at_7) rfl rfl ?_
    show Go p e below t T53 m 8 #[iv i0, iv i1, .unset, .unset, .unset] [(.double (FP.i2d i1)), (.double (FP.i2d i0)), (.ref b53), (.ref b53)]
    exact k)
  obtain ⟨_, _, ⟨T58, L58, k58, n58⟩, -, X58, ⟨Lc58, hQ58, l58, y58, z58⟩, st58⟩ := X53.specialBack hx (y := (⟨"com/example/forager/forager/Window", "<init>", "(DD)V"⟩ : MethodName)) rfl hown (mvT hZ (hw _ (List.mem_of_getElem? (i := 3) rfl))) (mvT hZ (hw _ (List.mem_of_getElem? (i := 4) rfl))) (mvT hZ (hw _ (List.mem_of_getElem? (i := 5) rfl))) (by decide) (backOf (W := 1) (rm_ini l Z a0 hw [] b53 (FP.i2d i0) (FP.i2d i1)  h53 n0 (Nat.le_trans Z0 (Nat.le_trans (Nat.le_refl _) E53.1)) A53 F53_54 F53_55 ng53) hZ (hw _ (List.mem_of_getElem? (i := 5) rfl)) (hw _ (List.mem_of_getElem? (i := 2) rfl)) (by decide) (by decide)) (g := (mkF m 8 #[iv i0, iv i1, .unset, .unset, .unset] [(.double (FP.i2d i1)), (.double (FP.i2d i0)), (.ref b53), (.ref b53)])) rfl (by rw [hml]; rfl) (Steps.refl _) (a := b53) (argsL := [(.double (FP.i2d i0)), (.double (FP.i2d i1))]) (rest := [(.ref b53)]) (lenOf pd1 rfl) rfl (by show 2 * 0 + _ ≤ _; exact Nat.le_of_eq rfl) (hb hby at_8) (fun _ _ => ⟨rfl, e53, (by decide : 1 + 0 ≤ _), (by decide : 2 + 0 ≤ _)⟩)
  dsimp only [Pt.U, Pt.locs, Pt.cells, Pt.slots] at X58 l58 y58 z58 st58 hQ58
  subst l58 y58 z58
  obtain ⟨rfl, N58, R58_0, R58_1, R58_2, R58_3⟩ := hQ58
  have M58 := Fr.app N0 N58
  have g59 : Goes p e below S0 (T58.setTop (mkF m 11 #[iv i0, iv i1, .unset, .unset, .unset] [(.ref b53)])) := fun t k => g57 t (st58.trans k)
  have g60 : Goes p e below S0 (T58.setTop (mkF m 13 #[iv i0, iv i1, rv b53, .unset, .unset] [(.ref b53)])) := fun t k => g59 t (by
    refine XS.astoreN X58.here hx rfl (hb hby at_11) rfl rfl (l' := #[iv i0, iv i1, rv b53, .unset, .unset]) rfl ?_
    show Go p e below t T58 m 12 #[iv i0, iv i1, rv b53, .unset, .unset] []
    refine XS.aloadN X58.here hx rfl (hb hby at_12) rfl rfl ?_
    show Go p e below t T58 m 13 #[iv i0, iv i1, rv b53, .unset, .unset] [(.ref b53)]
    exact k)
  obtain ⟨_, _, ⟨T61, L61, k61, n61⟩, -, X61, ⟨Lc61, hQ61, l61, y61, z61⟩, st61⟩ := Jvm.LawKit.callS X58 hx (y := (⟨"com/example/forager/forager/Progress", "notLeft", "(Lcom/example/forager/forager/Window;)Lcom/example/forager/forager/Progress;"⟩ : MethodName)) hown (mvT hZ (hw _ (List.mem_of_getElem? (i := 18) rfl))) (mvT hZ (hw _ (List.mem_of_getElem? (i := 19) rfl))) (mvT hZ (hw _ (List.mem_of_getElem? (i := 20) rfl))) (mvT hZ (hw _ (List.mem_of_getElem? (i := 21) rfl))) (by decide) (backOf (W := 0) (rm_nl l Z a0 hw [] b53 sb T58.heap n0 (Nat.le_trans Z0 (Nat.le_trans (Nat.le_trans (Nat.le_refl _) E53.1) R58_0.1)) (Sta.keepO (P0.ext E53) R58_0 (nsS (Exa.nostat A53) ns0))) hZ (hw _ (List.mem_of_getElem? (i := 21) rfl)) (hw _ (List.mem_of_getElem? (i := 20) rfl)) (by decide) (by decide)) (g := (mkF m 13 #[iv i0, iv i1, rv b53, .unset, .unset] [(.ref b53)])) rfl (by rw [hml]; rfl) (argsL := [(.ref b53)]) (rest := []) (lenOf pd3 rfl) rfl (by show 2 * 0 + _ ≤ _; exact Nat.le_of_eq rfl) (hb hby at_13) (fun _ _ => ⟨rfl, rfl, (by decide : 1 + 2 ≤ _), (by decide : 2 + 4 ≤ _)⟩)
  dsimp only [Pt.U, Pt.locs, Pt.cells, Pt.slots] at X61 l61 y61 z61 st61 hQ61
  subst l61 y61 z61
  obtain ⟨pa_61, la_61, lk_61, rfl, N61, R61_0, R61_1, R61_2, R61_3, R61_4, R61_5, R61_6⟩ := hQ61
  have M61 := Fr.app M58 N61
  have g62 : Goes p e below S0 (T61.setTop (mkF m 16 #[iv i0, iv i1, rv b53, .unset, .unset] [(.ref pa_61)])) := fun t k => g60 t (st61 t k)
  have g63 : Goes p e below S0 (T61.setTop (mkF m 24 #[iv i0, iv i1, rv b53, rv pa_61, .unset] [(.ref pa_61)])) := fun t k => g62 t (by
    refine XS.astoreN X61.here hx rfl (hb hby at_16) rfl rfl (l' := #[iv i0, iv i1, rv b53, rv pa_61, .unset]) rfl ?_
    show Go p e below t T61 m 17 #[iv i0, iv i1, rv b53, rv pa_61, .unset] []
    refine XS.aloadN X61.here hx rfl (hb hby at_17) rfl rfl ?_
    show Go p e below t T61 m 18 #[iv i0, iv i1, rv b53, rv pa_61, .unset] [(.ref pa_61)]
    refine XS.ifnonnullYes X61.here hx rfl (pc0 := 18) (pc' := 23) rfl (hb hby at_18) rfl (by decide) (by decide) ?_
    show Go p e below t T61 m 23 #[iv i0, iv i1, rv b53, rv pa_61, .unset] []
    refine XS.aloadN X61.here hx rfl (hb hby at_23) rfl rfl ?_
    show Go p e below t T61 m 24 #[iv i0, iv i1, rv b53, rv pa_61, .unset] [(.ref pa_61)]
    exact k)
  obtain ⟨cq64, kq64, q64a, q64b, q64c⟩ := isOf hZ rfl R61_1
  obtain ⟨_, _, ⟨T64, L64, k64, n64⟩, -, X64, ⟨Lc64, hQ64, l64, y64, z64⟩, st64⟩ := X61.virtualBack hx (y := (⟨"com/example/forager/forager/Progress", "legs", "()[D"⟩ : MethodName)) (z := (⟨"com/example/forager/forager/Progress", "legs", "()[D"⟩ : MethodName)) hown (mvT hZ (hw _ (List.mem_of_getElem? (i := 40) rfl))) (mvT hZ (hw _ (List.mem_of_getElem? (i := 41) rfl))) (notFace_of_selects (args := #[]) (mvT hZ (hw _ (List.mem_of_getElem? (i := 43) rfl)))) (mvT hZ (hw _ (List.mem_of_getElem? (i := 43) rfl))) (mvT hZ (hw _ (List.mem_of_getElem? (i := 42) rfl))) (by decide) (backOf (W := 0) (rm_g_legs l Z a0 hw [] pa_61 la_61 T61.heap n0 (Nat.le_trans Z0 (Nat.le_trans (Nat.le_trans (Nat.le_trans (Nat.le_refl _) E53.1) R58_0.1) R61_0.1)) R61_4) hZ (hw _ (List.mem_of_getElem? (i := 44) rfl)) (hw _ (List.mem_of_getElem? (i := 20) rfl)) (by decide) (by decide)) q64a q64c (g := (mkF m 24 #[iv i0, iv i1, rv b53, rv pa_61, .unset] [(.ref pa_61)])) rfl (by rw [hml]; rfl) (Steps.refl _) (argsL := []) (rest := []) (lenOf pd6 rfl) rfl (by show 2 * 0 + _ ≤ _; exact Nat.le_of_eq rfl) (hb hby at_24) (fun _ _ => ⟨rfl, rfl, (by decide : 3 + 0 ≤ _), (by decide : 6 + 0 ≤ _)⟩)
  dsimp only [Pt.U, Pt.locs, Pt.cells, Pt.slots] at X64 l64 y64 z64 st64 hQ64
  subst l64 y64 z64
  obtain ⟨rfl, N64, R64_0⟩ := hQ64
  have M64 := Fr.app M61 N64
  have g65 : Goes p e below S0 (T64.setTop (mkF m 27 #[iv i0, iv i1, rv b53, rv pa_61, .unset] [(.ref la_61)])) := fun t k => g63 t (st64.trans k)
  have g66 : Goes p e below S0 (T64.setTop (mkF m 30 #[iv i0, iv i1, rv b53, rv pa_61, rv la_61] [(.ref pa_61)])) := fun t k => g65 t (by
    refine XS.astore X64.here hx rfl (hb hby at_27) rfl rfl (l' := #[iv i0, iv i1, rv b53, rv pa_61, rv la_61]) rfl ?_
    show Go p e below t T64 m 29 #[iv i0, iv i1, rv b53, rv pa_61, rv la_61] []
    refine XS.aloadN X64.here hx rfl (hb hby at_29) rfl rfl ?_
    show Go p e below t T64 m 30 #[iv i0, iv i1, rv b53, rv pa_61, rv la_61] [(.ref pa_61)]
    exact k)
  obtain ⟨cq67, kq67, q67a, q67b, q67c⟩ := isOf hZ R64_0 R61_1
  obtain ⟨_, _, ⟨T67, L67, k67, n67⟩, -, X67, ⟨Lc67, hQ67, l67, y67, z67⟩, st67⟩ := X64.virtualBack hx (y := (⟨"com/example/forager/forager/Progress", "departures", "()Lcom/example/forager/forager/Window;"⟩ : MethodName)) (z := (⟨"com/example/forager/forager/Progress", "departures", "()Lcom/example/forager/forager/Window;"⟩ : MethodName)) hown (mvT hZ (hw _ (List.mem_of_getElem? (i := 45) rfl))) (mvT hZ (hw _ (List.mem_of_getElem? (i := 46) rfl))) (notFace_of_selects (args := #[]) (mvT hZ (hw _ (List.mem_of_getElem? (i := 48) rfl)))) (mvT hZ (hw _ (List.mem_of_getElem? (i := 48) rfl))) (mvT hZ (hw _ (List.mem_of_getElem? (i := 47) rfl))) (by decide) (backOf (W := 0) (rm_g_departures l Z a0 hw [] pa_61 b53 T61.heap n0 (Nat.le_trans Z0 (Nat.le_trans (Nat.le_trans (Nat.le_trans (Nat.le_refl _) E53.1) R58_0.1) R61_0.1)) R61_2) hZ (hw _ (List.mem_of_getElem? (i := 49) rfl)) (hw _ (List.mem_of_getElem? (i := 20) rfl)) (by decide) (by decide)) q67a q67c (g := (mkF m 30 #[iv i0, iv i1, rv b53, rv pa_61, rv la_61] [(.ref pa_61)])) rfl (by rw [hml]; rfl) (Steps.refl _) (argsL := []) (rest := []) (lenOf pd4 rfl) rfl (by show 2 * 0 + _ ≤ _; exact Nat.le_of_eq rfl) (hb hby at_30) (fun _ _ => ⟨rfl, R64_0, (by decide : 3 + 0 ≤ _), (by decide : 6 + 0 ≤ _)⟩)
  dsimp only [Pt.U, Pt.locs, Pt.cells, Pt.slots] at X67 l67 y67 z67 st67 hQ67
  subst l67 y67 z67
  obtain ⟨rfl, N67, R67_0⟩ := hQ67
  have M67 := Fr.app M64 N67
  have g68 : Goes p e below S0 (T67.setTop (mkF m 33 #[iv i0, iv i1, rv b53, rv pa_61, rv la_61] [(.ref b53)])) := fun t k => g66 t (st67.trans k)
  have g69 : Goes p e below S0 (T67.setTop (mkF m 38 #[iv i0, iv i1, rv b53, rv pa_61, rv la_61] [(.ref pa_61)])) := fun t k => g68 t (by
    refine XS.aloadN X67.here hx rfl (hb hby at_33) rfl rfl ?_
    show Go p e below t T67 m 34 #[iv i0, iv i1, rv b53, rv pa_61, rv la_61] [(.ref b53), (.ref b53)]
    refine XS.acmpNo X67.here hx rfl (hb hby at_34) rfl (by simp [if_acmp.holds]) ?_
    show Go p e below t T67 m 37 #[iv i0, iv i1, rv b53, rv pa_61, rv la_61] []
    refine XS.aloadN X67.here hx rfl (hb hby at_37) rfl rfl ?_
    show Go p e below t T67 m 38 #[iv i0, iv i1, rv b53, rv pa_61, rv la_61] [(.ref pa_61)]
    exact k)
  obtain ⟨cq70, kq70, q70a, q70b, q70c⟩ := isOf hZ R67_0 R61_1
  obtain ⟨_, _, ⟨T70, L70, k70, n70⟩, -, X70, ⟨Lc70, hQ70, l70, y70, z70⟩, st70⟩ := X67.virtualBack hx (y := (⟨"com/example/forager/forager/Progress", "stops", "()I"⟩ : MethodName)) (z := (⟨"com/example/forager/forager/Progress", "stops", "()I"⟩ : MethodName)) hown (mvT hZ (hw _ (List.mem_of_getElem? (i := 50) rfl))) (mvT hZ (hw _ (List.mem_of_getElem? (i := 51) rfl))) (notFace_of_selects (args := #[]) (mvT hZ (hw _ (List.mem_of_getElem? (i := 53) rfl)))) (mvT hZ (hw _ (List.mem_of_getElem? (i := 53) rfl))) (mvT hZ (hw _ (List.mem_of_getElem? (i := 52) rfl))) (by decide) (backOf (W := 0) (rm_g_stops l Z a0 hw [] pa_61 (0 : Int32) T61.heap n0 (Nat.le_trans Z0 (Nat.le_trans (Nat.le_trans (Nat.le_trans (Nat.le_refl _) E53.1) R58_0.1) R61_0.1)) R61_3) hZ (hw _ (List.mem_of_getElem? (i := 54) rfl)) (hw _ (List.mem_of_getElem? (i := 20) rfl)) (by decide) (by decide)) q70a q70c (g := (mkF m 38 #[iv i0, iv i1, rv b53, rv pa_61, rv la_61] [(.ref pa_61)])) rfl (by rw [hml]; rfl) (Steps.refl _) (argsL := []) (rest := []) (lenOf pd5 rfl) rfl (by show 2 * 0 + _ ≤ _; exact Nat.le_of_eq rfl) (hb hby at_38) (fun _ _ => ⟨rfl, R67_0, (by decide : 3 + 0 ≤ _), (by decide : 6 + 0 ≤ _)⟩)
  dsimp only [Pt.U, Pt.locs, Pt.cells, Pt.slots] at X70 l70 y70 z70 st70 hQ70
  subst l70 y70 z70
  obtain ⟨rfl, N70, R70_0⟩ := hQ70
  have M70 := Fr.app M67 N70
  have g71 : Goes p e below S0 (T70.setTop (mkF m 41 #[iv i0, iv i1, rv b53, rv pa_61, rv la_61] [(.int (0 : Int32))])) := fun t k => g69 t (st70.trans k)
  have g72 : Goes p e below S0 (T70.setTop (mkF m 51 #[iv i0, iv i1, rv b53, rv pa_61, rv la_61] [(.ref la_61)])) := fun t k => g71 t (by
    refine XS.ifNo X70.here hx rfl (hb hby at_41) rfl (XT.i0_ne_f (by decide)) ?_
    show Go p e below t T70 m 44 #[iv i0, iv i1, rv b53, rv pa_61, rv la_61] []
    refine XS.aload X70.here hx rfl (hb hby at_44) rfl rfl ?_
    show Go p e below t T70 m 46 #[iv i0, iv i1, rv b53, rv pa_61, rv la_61] [(.ref la_61)]
    refine XS.ifnullNo X70.here hx rfl (hb hby at_46) rfl ?_
    show Go p e below t T70 m 49 #[iv i0, iv i1, rv b53, rv pa_61, rv la_61] []
    refine XS.aload X70.here hx rfl (hb hby at_49) rfl rfl ?_
    show Go p e below t T70 m 51 #[iv i0, iv i1, rv b53, rv pa_61, rv la_61] [(.ref la_61)]
    exact k)
  obtain ⟨cl73, Ar73, q73, S73, M73, H73, G73⟩ := id R61_6
  have g74 : Goes p e below S0 (T70.setTop (mkF m 56 #[iv i0, iv i1, rv b53, rv pa_61, rv la_61] [(.ref pa_61)])) := fun t k => g72 t (by
    refine X70.arraylength hx (by rw [R70_0]; exact Ar73.1) (State.isArrayOf_alike hZ.alike Ar73.2.1) (g := (mkF m 51 #[iv i0, iv i1, rv b53, rv pa_61, rv la_61] [(.ref la_61)])) rfl rfl (hb hby at_51) _ ?_
    rw [len_of S73 M73]
    show Go p e below t T70 m 52 #[iv i0, iv i1, rv b53, rv pa_61, rv la_61] [(.int (0 : Int32))]
    refine XS.ifNo X70.here hx rfl (hb hby at_52) rfl (XT.i0_ne_f (by decide)) ?_
    show Go p e below t T70 m 55 #[iv i0, iv i1, rv b53, rv pa_61, rv la_61] []
    refine XS.aloadN X70.here hx rfl (hb hby at_55) rfl rfl ?_
    show Go p e below t T70 m 56 #[iv i0, iv i1, rv b53, rv pa_61, rv la_61] [(.ref pa_61)]
    exact k)
  obtain ⟨cq75, kq75, q75a, q75b, q75c⟩ := isOf hZ R70_0 R61_1
  obtain ⟨_, _, ⟨T75, L75, k75, n75⟩, -, X75, ⟨Lc75, hQ75, l75, y75, z75⟩, st75⟩ := X70.virtualBack hx (y := (⟨"com/example/forager/forager/Progress", "end", "()Lcom/example/forager/forager/Progress$End;"⟩ : MethodName)) (z := (⟨"com/example/forager/forager/Progress", "end", "()Lcom/example/forager/forager/Progress$End;"⟩ : MethodName)) hown (mvT hZ (hw _ (List.mem_of_getElem? (i := 55) rfl))) (mvT hZ (hw _ (List.mem_of_getElem? (i := 56) rfl))) (notFace_of_selects (args := #[]) (mvT hZ (hw _ (List.mem_of_getElem? (i := 58) rfl)))) (mvT hZ (hw _ (List.mem_of_getElem? (i := 58) rfl))) (mvT hZ (hw _ (List.mem_of_getElem? (i := 57) rfl))) (by decide) (backOf (W := 0) (rm_g_end l Z a0 hw [] pa_61 sb T61.heap n0 (Nat.le_trans Z0 (Nat.le_trans (Nat.le_trans (Nat.le_trans (Nat.le_refl _) E53.1) R58_0.1) R61_0.1)) R61_5) hZ (hw _ (List.mem_of_getElem? (i := 59) rfl)) (hw _ (List.mem_of_getElem? (i := 20) rfl)) (by decide) (by decide)) q75a q75c (g := (mkF m 56 #[iv i0, iv i1, rv b53, rv pa_61, rv la_61] [(.ref pa_61)])) rfl (by rw [hml]; rfl) (Steps.refl _) (argsL := []) (rest := []) (lenOf pd7 rfl) rfl (by show 2 * 0 + _ ≤ _; exact Nat.le_of_eq rfl) (hb hby at_56) (fun _ _ => ⟨rfl, R70_0, (by decide : 3 + 0 ≤ _), (by decide : 6 + 0 ≤ _)⟩)
  dsimp only [Pt.U, Pt.locs, Pt.cells, Pt.slots] at X75 l75 y75 z75 st75 hQ75
  subst l75 y75 z75
  obtain ⟨rfl, N75, R75_0⟩ := hQ75
  have M75 := Fr.app M70 N75
  have g76 : Goes p e below S0 (T75.setTop (mkF m 59 #[iv i0, iv i1, rv b53, rv pa_61, rv la_61] [(.ref sb)])) := fun t k => g74 t (st75.trans k)
  obtain ⟨T77, X77, e77, st77⟩ := getS (host := "") X75 hx hZ hown (hw _ (List.mem_of_getElem? (i := 60) rfl)) Via.refl R75_0 (Sta.keepO (Sta.keepO (P0.ext E53) R58_0 (nsS (Exa.nostat A53) ns0)) R61_0 ns0) (g := (mkF m 59 #[iv i0, iv i1, rv b53, rv pa_61, rv la_61] [(.ref sb)])) rfl (hb hby at_59)
  have g78 : Goes p e below S0 (T77.setTop (mkF m 62 #[iv i0, iv i1, rv b53, rv pa_61, rv la_61] [(.ref sb), (.ref sb)])) := fun t k => g76 t (st77 t k)
  have g79 : Goes p e below S0 (T77.setTop (mkF m 70 #[iv i0, iv i1, rv b53, rv pa_61, rv la_61] [(.int (1 : Int32))])) := fun t k => g78 t (by
    refine XS.acmpNo X77.here hx rfl (hb hby at_62) rfl (by simp [if_acmp.holds]) ?_
    show Go p e below t T77 m 65 #[iv i0, iv i1, rv b53, rv pa_61, rv la_61] []
    refine XT.iconstV X77.here hx rfl (1 : Int32) (hb hby at_65) (by decide) ?_
    show Go p e below t T77 m 66 #[iv i0, iv i1, rv b53, rv pa_61, rv la_61] [(.int (1 : Int32))]
    refine XS.goto X77.here hx rfl (pc0 := 66) (pc' := 70) rfl (hb hby at_66) (by decide) (by decide) ?_
    show Go p e below t T77 m 70 #[iv i0, iv i1, rv b53, rv pa_61, rv la_61] [(.int (1 : Int32))]
    exact k)
  obtain ⟨fs, hr, hrun, hended, hW, hsame⟩ := X77.leave (v := some (.int (1 : Int32))) (fun h => by rw [Bd.returns] at h; cases h)
  refine ⟨_, _, g79 _ (retN X77 hx (t := .boolean) Bd.returns (by simp) (hb hby at_70) hr), hrun, hended, _, _, rfl, ?_, ⟨_, rfl⟩, hW, hsame.mono (by decide) (by decide)⟩
  show Q_law Z i0 i1 sb h0 n0 _ T77.heap _
  rw [e77]
  exact ⟨rfl, M75⟩
theorem own_one (a b : Int32) : f_law a b = 1 := rfl
set_option maxRecDepth 65536 in
set_option maxHeartbeats 40000000 in
theorem comes_1 {Post : Tables → Env → Array Value → State → Outcome → State → Prop} (hpost : ∀ tb e args s v u, (limb_1_1.after args s (.returned v) u = true ∧ limb_1_2.after args s (.returned v) u = true ∧ True) → FrameEnd s (.returned v) u (Jvm.fieldLocs frame_1_writes args s ++ Jvm.arrayLocs frame_1_arrays args s ++ Jvm.staticLocs frame_1_statics s) 16 128 → Post tb e args s (.returned v) u) :
    ArmFor flags0 classFile x code maxLocals ret World_1 tables_1 room_1 Calls_1 rest_1 Pre_1 Post := by
  intro l hfl _ _ p e ha hc hk s m args below hf hA hF happ hP
  obtain ⟨hcalls, hrest, hpre⟩ := hP
  obtain ⟨-, -, -, hnamed, -, -, -, hat⟩ := (Spec.applies_iff hf).mp happ
  obtain ⟨hg, hn⟩ := and_e (Cond.before_iff.mp (show (Jvm.Cond.and given_1 narrow_1).before args s = true from hpre))
  obtain ⟨hcount, q0⟩ := and_e hg
  obtain ⟨b0, q1⟩ := and_e q0
  have b1 := q1
  obtain ⟨w0, w1, rfl⟩ : ∃ w0 w1 : Value, args = #[w0, w1] := by
    have hs : args.size = 2 := by simpa [Cond.value, given_1] using hcount
    obtain ⟨L⟩ := args
    match L, hs with
    | [w0, w1], _ => exact ⟨w0, w1, rfl⟩
  have hw := fun d (hd : d ∈ tables_1) => atoms_spec (ws := Jvm.Cond.code x code maxLocals ret :: tables_1) hat d (List.mem_cons_of_mem _ hd)
  have hfit : Fit s := fun {y c} hc i hi => by
    obtain ⟨ha, rfl⟩ := Array.getElem?_eq_some_iff.mp hc
    have q := List.all_eq_true.mp ((Array.all_eq_true_iff_forall_mem.mp hF) _ (Array.getElem_mem ha)) i (List.mem_range.mpr hi)
    simpa [Array.getElem?_eq_getElem hi] using q
  obtain ⟨i0, r0⟩ := is_v b0
  obtain rfl : w0 = (.int i0) := Option.some.inj r0
  obtain ⟨i1, r1⟩ := is_v b1
  obtain rfl : w1 = (.int i1) := Option.some.inj r1
  obtain ⟨sb, ev⟩ := exa_v hn
  have S1 := Sta.start (args := _) ev (Or.inr ⟨hw _ (List.mem_of_getElem? (i := 26) rfl), hw _ (List.mem_of_getElem? (i := 27) rfl)⟩)
  obtain ⟨n, o, h1, h2, h3, v, L, rfl, ⟨hv, N⟩, hq⟩ := rm_law l s _ hw tables_1 i0 i1 sb s.heap s.heap.size (Nat.le_refl _) S1 p e ha hc hk s m _ below hf ((Spec.applies_iff_loose hf).mp happ).1 ⟨rfl, State.Warmed39.refl s, rfl⟩ trivial
  obtain rfl : v = some (.int 1) := by rw [hv, own_one]
  refine ⟨n, _, h1, h2, h3, hpost _ _ _ _ _ _ ⟨Cond.after_iff.mpr rfl, Cond.after_iff.mpr (eq_i res_at (Term.int_eval (1)) rfl), trivial⟩ ⟨hq.1, hq.2.1, (hq.2.2.sift fun y hy => Or.inr (N y hy)).mono (by decide) (by decide)⟩⟩
theorem main_1_1 : Claimed_1_1 := comes_1 fun _ _ _ _ _ _ h hF => ⟨h.1, hF⟩
theorem main_1_2 : Claimed_1_2 := comes_1 fun _ _ _ _ _ _ h hF => ⟨h.2.1, hF⟩
end Jvm.Pilot.@@N@@
namespace Jvm.Pilot.@@N@@
open Jvm Jvm.ClassFile Sem Op Lib Jvm.Free Jvm.Stand Jvm.Pilot.@@N@@.Jvm.D
/-! MADE BY PROGRAM (witnessworld.py) out of the Statement's table words and the real class files: 17 classes; the members and pool entries that the words name. The judged class is class 1, her method 1. -/
namespace start1
open Jvm.ClassFile
def u (s : String) : CpInfo := .utf8 (stringToUtf16 s)
/-- a pool by its gaps: so many unusable entries, then the entry; so many at the end -/
def gap : Nat → List CpInfo → List CpInfo
  | 0, r => r
  | n + 1, r => .unusable :: gap n r
def poolList (es : List (Nat × CpInfo)) (last : Nat) : List CpInfo := es.foldr (fun e r => gap e.1 (e.2 :: r)) (gap last [])
def pool (es : List (Nat × CpInfo)) (last : Nat) : Array CpInfo := ⟨poolList es last⟩
def fileOf (pool : Array CpInfo) (this : Nat) (attrs : Array Attribute := #[]) (ms : Array MethodInfo := #[]) (fl : Nat := 33) (sup : Nat := 0) (ifs : Array Nat := #[]) (fds : Array FieldInfo := #[]) : ClassFile where
  minorVersion := 0
  majorVersion := 65
  constantPool := pool
  accessFlags := fl
  thisClass := this
  superClass := sup
  interfaces := ifs
  fields := fds
  methods := ms
  attributes := attrs
def plain (name : String) (sup : Option ClassId) : Class where
  name := name
  kind := .ordinary
  loader := none
  accessFlags := 33
  super := sup
  interfaces := #[]
  cf := none
  fields := #[]
  methods := #[]
  instanceTypes := #[]
  staticTypes := #[]
  resolved := #[]
  callSites := []
  init := .initialized
  statics := none
  mirror := none

def pool0 : Array CpInfo := pool [(5, u "<init>"), (0, u "()V"), (1, .class_ 10), (1, u "java/lang/Object")] 113

def k0c0 : Code := { maxStack := 0, maxLocals := 1, code := object_method_1_code, exceptionTable := #[], attributes := #[] }
def k0m0 : Method := { name := "<init>", desc := "()V", sig := { parameters := [], returnType := none }, accessFlags := 1, code := some k0c0 }
/-- java/lang/Object -/
def k0 : Class := { plain "java/lang/Object" none with
  accessFlags := 33
  interfaces := #[]
  cf := some (fileOf pool0 8 #[] #[{ accessFlags := 1, nameIndex := 5, descriptorIndex := 6, attributes := #[] }] 33 0 #[] #[])
  fields := #[]
  methods := #[k0m0]
  instanceTypes := #[]
  staticTypes := #[]
  resolved := Array.replicate 124 none
  statics := none }

def pool1 : Array CpInfo := pool [(2, .class_ 4), (1, u "java/lang/Object"), (0, u "<init>"), (0, u "()V"), (0, .class_ 8), (0, u "com/example/forager/forager/Window"), (0, .methodref 7 10), (0, .nameAndType 5 11), (0, u "(DD)V"), (0, .methodref 13 14), (0, .class_ 15), (0, .nameAndType 16 17), (0, u "com/example/forager/forager/Progress"), (0, u "notLeft"), (0, u "(Lcom/example/forager/forager/Window;)Lcom/example/forager/forager/Progress;"), (0, .methodref 13 19), (0, .nameAndType 20 21), (0, u "legs"), (0, u "()[D"), (0, .methodref 13 23), (0, .nameAndType 24 25), (0, u "departures"), (0, u "()Lcom/example/forager/forager/Window;"), (0, .methodref 13 27), (0, .nameAndType 28 29), (0, u "stops"), (0, u "()I"), (0, .methodref 13 31), (0, .nameAndType 32 33), (0, u "end"), (0, u "()Lcom/example/forager/forager/Progress$End;"), (0, .fieldref 35 36), (0, .class_ 37), (0, .nameAndType 38 39), (0, u "com/example/forager/forager/Progress$End"), (0, u "BACK"), (0, u "Lcom/example/forager/forager/Progress$End;"), (0, .class_ 41), (0, u "com/example/forager/forager/ProgressNotLeftPinLaw"), (2, u "law"), (0, u "(II)Z")] 7

def k1m0 : Method := { name := "<init>", desc := "()V", sig := { parameters := [], returnType := none }, accessFlags := 1, code := none }
def k1c1 : Code := { maxStack := 6, maxLocals := 5, code := code, exceptionTable := #[], attributes := #[] }
def k1m1 : Method := { name := "law", desc := "(II)Z", sig := { parameters := [.int, .int], returnType := some .boolean }, accessFlags := 9, code := some k1c1 }
/-- com/example/forager/forager/ProgressNotLeftPinLaw -/
def k1 : Class := { plain "com/example/forager/forager/ProgressNotLeftPinLaw" (some 0) with
  accessFlags := 49
  interfaces := #[]
  cf := some (fileOf pool1 40 #[] #[{ accessFlags := 1, nameIndex := 5, descriptorIndex := 6, attributes := #[] }, { accessFlags := 9, nameIndex := 44, descriptorIndex := 45, attributes := #[] }] 49 2 #[] #[])
  fields := #[]
  methods := #[k1m0, k1m1]
  instanceTypes := #[]
  staticTypes := #[]
  resolved := Array.replicate 53 none
  statics := none }

def pool2 : Array CpInfo := pool [(1, .methodref 2 3), (0, .class_ 4), (0, .nameAndType 5 6), (0, u "java/lang/Object"), (0, u "<init>"), (0, u "()V"), (0, .class_ 8), (0, u "java/lang/Record")] 13

def k2c0 : Code := { maxStack := 1, maxLocals := 1, code := jdk_30_method_1_code, exceptionTable := #[], attributes := #[] }
def k2m0 : Method := { name := "<init>", desc := "()V", sig := { parameters := [], returnType := none }, accessFlags := 4, code := some k2c0 }
/-- java/lang/Record -/
def k2 : Class := { plain "java/lang/Record" (some 0) with
  accessFlags := 1057
  interfaces := #[]
  cf := some (fileOf pool2 7 #[] #[{ accessFlags := 4, nameIndex := 5, descriptorIndex := 6, attributes := #[] }] 1057 2 #[] #[])
  fields := #[]
  methods := #[k2m0]
  instanceTypes := #[]
  staticTypes := #[]
  resolved := Array.replicate 22 none
  statics := none }

def pool3 : Array CpInfo := pool [(1, .methodref 2 3), (0, .class_ 4), (0, .nameAndType 5 6), (0, u "java/lang/Record"), (0, u "<init>"), (0, u "()V"), (0, .fieldref 8 9), (0, .class_ 10), (0, .nameAndType 11 12), (0, u "com/example/forager/forager/Window"), (0, u "from"), (0, u "D"), (0, .fieldref 8 14), (0, .nameAndType 15 12), (0, u "to"), (46, u "(DD)V"), (2, u "ALWAYS"), (0, u "Lcom/example/forager/forager/Window;")] 31

def k3c0 : Code := { maxStack := 3, maxLocals := 5, code := prog_58_method_1_code, exceptionTable := #[], attributes := #[] }
def k3m0 : Method := { name := "<init>", desc := "(DD)V", sig := { parameters := [.double, .double], returnType := none }, accessFlags := 1, code := some k3c0 }
/-- com/example/forager/forager/Window -/
def k3 : Class := { plain "com/example/forager/forager/Window" (some 2) with
  accessFlags := 49
  interfaces := #[]
  cf := some (fileOf pool3 8 #[] #[{ accessFlags := 1, nameIndex := 5, descriptorIndex := 62, attributes := #[] }] 49 2 #[] #[{ accessFlags := 18, nameIndex := 11, descriptorIndex := 12, attributes := #[] }, { accessFlags := 18, nameIndex := 15, descriptorIndex := 12, attributes := #[] }, { accessFlags := 25, nameIndex := 65, descriptorIndex := 66, attributes := #[] }])
  fields := #[{ name := "from", type := .double, accessFlags := 18, slot := 0, constantValue := 0 }, { name := "to", type := .double, accessFlags := 18, slot := 1, constantValue := 0 }, { name := "ALWAYS", type := (.object "com/example/forager/forager/Window"), accessFlags := 25, slot := 0, constantValue := 0 }]
  methods := #[k3m0]
  instanceTypes := #[.double, .double]
  staticTypes := #[(.object "com/example/forager/forager/Window")]
  resolved := Array.replicate 98 none
  statics := none }

def pool4 : Array CpInfo := pool [(1, .methodref 2 3), (0, .class_ 4), (0, .nameAndType 5 6), (0, u "java/lang/Record"), (0, u "<init>"), (0, u "()V"), (0, .fieldref 8 9), (0, .class_ 10), (0, .nameAndType 11 12), (0, u "com/example/forager/forager/Progress"), (0, u "departures"), (0, u "Lcom/example/forager/forager/Window;"), (0, .fieldref 8 14), (0, .nameAndType 15 16), (0, u "stops"), (0, u "I"), (0, .fieldref 8 18), (0, .nameAndType 19 20), (0, u "legs"), (0, u "[D"), (0, .fieldref 8 22), (0, .nameAndType 23 24), (0, u "end"), (0, u "Lcom/example/forager/forager/Progress$End;"), (0, .fieldref 26 27), (0, .class_ 28), (0, .nameAndType 29 24), (0, u "com/example/forager/forager/Progress$End"), (0, u "BACK"), (0, .methodref 8 31), (0, .nameAndType 5 32), (0, u "(Lcom/example/forager/forager/Window;I[DLcom/example/forager/forager/Progress$End;)V"), (15, u "notLeft"), (0, u "(Lcom/example/forager/forager/Window;)Lcom/example/forager/forager/Progress;"), (1, u "()I"), (1, u "()Lcom/example/forager/forager/Window;"), (0, u "()[D"), (0, u "()Lcom/example/forager/forager/Progress$End;")] 25

def k4c0 : Code := { maxStack := 2, maxLocals := 5, code := prog_27_method_1_code, exceptionTable := #[], attributes := #[] }
def k4m0 : Method := { name := "<init>", desc := "(Lcom/example/forager/forager/Window;I[DLcom/example/forager/forager/Progress$End;)V", sig := { parameters := [(.object "com/example/forager/forager/Window"), .int, (.array .double), (.object "com/example/forager/forager/Progress$End")], returnType := none }, accessFlags := 0, code := some k4c0 }
def k4c1 : Code := { maxStack := 6, maxLocals := 1, code := prog_27_method_2_code, exceptionTable := #[], attributes := #[] }
def k4m1 : Method := { name := "notLeft", desc := "(Lcom/example/forager/forager/Window;)Lcom/example/forager/forager/Progress;", sig := { parameters := [(.object "com/example/forager/forager/Window")], returnType := some (.object "com/example/forager/forager/Progress") }, accessFlags := 8, code := some k4c1 }
def k4c2 : Code := { maxStack := 1, maxLocals := 1, code := prog_27_method_6_code, exceptionTable := #[], attributes := #[] }
def k4m2 : Method := { name := "departures", desc := "()Lcom/example/forager/forager/Window;", sig := { parameters := [], returnType := some (.object "com/example/forager/forager/Window") }, accessFlags := 1, code := some k4c2 }
def k4c3 : Code := { maxStack := 1, maxLocals := 1, code := prog_27_method_7_code, exceptionTable := #[], attributes := #[] }
def k4m3 : Method := { name := "stops", desc := "()I", sig := { parameters := [], returnType := some .int }, accessFlags := 1, code := some k4c3 }
def k4c4 : Code := { maxStack := 1, maxLocals := 1, code := prog_27_method_8_code, exceptionTable := #[], attributes := #[] }
def k4m4 : Method := { name := "legs", desc := "()[D", sig := { parameters := [], returnType := some (.array .double) }, accessFlags := 1, code := some k4c4 }
def k4c5 : Code := { maxStack := 1, maxLocals := 1, code := prog_27_method_9_code, exceptionTable := #[], attributes := #[] }
def k4m5 : Method := { name := "end", desc := "()Lcom/example/forager/forager/Progress$End;", sig := { parameters := [], returnType := some (.object "com/example/forager/forager/Progress$End") }, accessFlags := 1, code := some k4c5 }
/-- com/example/forager/forager/Progress -/
def k4 : Class := { plain "com/example/forager/forager/Progress" (some 2) with
  accessFlags := 48
  interfaces := #[]
  cf := some (fileOf pool4 8 #[.nestMembers #[26]] #[{ accessFlags := 0, nameIndex := 5, descriptorIndex := 32, attributes := #[] }, { accessFlags := 8, nameIndex := 48, descriptorIndex := 49, attributes := #[] }, { accessFlags := 1, nameIndex := 11, descriptorIndex := 53, attributes := #[] }, { accessFlags := 1, nameIndex := 15, descriptorIndex := 51, attributes := #[] }, { accessFlags := 1, nameIndex := 19, descriptorIndex := 54, attributes := #[] }, { accessFlags := 1, nameIndex := 23, descriptorIndex := 55, attributes := #[] }] 48 2 #[] #[{ accessFlags := 18, nameIndex := 11, descriptorIndex := 12, attributes := #[] }, { accessFlags := 18, nameIndex := 15, descriptorIndex := 16, attributes := #[] }, { accessFlags := 18, nameIndex := 19, descriptorIndex := 20, attributes := #[] }, { accessFlags := 18, nameIndex := 23, descriptorIndex := 24, attributes := #[] }])
  fields := #[{ name := "departures", type := (.object "com/example/forager/forager/Window"), accessFlags := 18, slot := 0, constantValue := 0 }, { name := "stops", type := .int, accessFlags := 18, slot := 1, constantValue := 0 }, { name := "legs", type := (.array .double), accessFlags := 18, slot := 2, constantValue := 0 }, { name := "end", type := (.object "com/example/forager/forager/Progress$End"), accessFlags := 18, slot := 3, constantValue := 0 }]
  methods := #[k4m0, k4m1, k4m2, k4m3, k4m4, k4m5]
  instanceTypes := #[(.object "com/example/forager/forager/Window"), .int, (.array .double), (.object "com/example/forager/forager/Progress$End")]
  staticTypes := #[]
  resolved := Array.replicate 81 none
  statics := none }

def pool5 : Array CpInfo := pool [(1, .class_ 2), (0, u "java/lang/constant/Constable"), (0, .class_ 4), (0, u "java/lang/Object")] 6

/-- java/lang/constant/Constable -/
def k5 : Class := { plain "java/lang/constant/Constable" (some 0) with
  accessFlags := 1537
  interfaces := #[]
  cf := some (fileOf pool5 1 #[] #[] 1537 3 #[] #[])
  fields := #[]
  methods := #[]
  instanceTypes := #[]
  staticTypes := #[]
  resolved := Array.replicate 11 none
  statics := none }

def pool6 : Array CpInfo := pool [(1, .class_ 2), (0, u "java/lang/Comparable"), (0, .class_ 4), (0, u "java/lang/Object")] 7

/-- java/lang/Comparable -/
def k6 : Class := { plain "java/lang/Comparable" (some 0) with
  accessFlags := 1537
  interfaces := #[]
  cf := some (fileOf pool6 1 #[] #[] 1537 3 #[] #[])
  fields := #[]
  methods := #[]
  instanceTypes := #[]
  staticTypes := #[]
  resolved := Array.replicate 12 none
  statics := none }

def pool7 : Array CpInfo := pool [(1, .class_ 2), (0, u "java/io/Serializable"), (0, .class_ 4), (0, u "java/lang/Object")] 2

/-- java/io/Serializable -/
def k7 : Class := { plain "java/io/Serializable" (some 0) with
  accessFlags := 1537
  interfaces := #[]
  cf := some (fileOf pool7 1 #[] #[] 1537 3 #[] #[])
  fields := #[]
  methods := #[]
  instanceTypes := #[]
  staticTypes := #[]
  resolved := Array.replicate 7 none
  statics := none }

def pool8 : Array CpInfo := pool [(2, .class_ 4), (1, u "java/lang/Enum"), (0, u "name"), (0, u "Ljava/lang/String;"), (2, u "ordinal"), (0, u "I"), (1, .class_ 14), (1, u "java/lang/Object"), (4, u "hash"), (86, .class_ 108), (1, u "java/lang/Enum$EnumDesc"), (2, .class_ 112), (0, u "java/lang/constant/Constable"), (0, .class_ 114), (0, u "java/lang/Comparable"), (0, .class_ 116), (0, u "java/io/Serializable")] 87

/-- java/lang/Enum -/
def k8 : Class := { plain "java/lang/Enum" (some 0) with
  accessFlags := 1057
  interfaces := #[5, 6, 7]
  cf := some (fileOf pool8 2 #[.nestMembers #[106]] #[] 1057 12 #[111, 113, 115] #[{ accessFlags := 18, nameIndex := 5, descriptorIndex := 6, attributes := #[] }, { accessFlags := 18, nameIndex := 9, descriptorIndex := 10, attributes := #[] }, { accessFlags := 2, nameIndex := 19, descriptorIndex := 10, attributes := #[] }])
  fields := #[{ name := "name", type := (.object "java/lang/String"), accessFlags := 18, slot := 0, constantValue := 0 }, { name := "ordinal", type := .int, accessFlags := 18, slot := 1, constantValue := 0 }, { name := "hash", type := .int, accessFlags := 2, slot := 2, constantValue := 0 }]
  methods := #[]
  instanceTypes := #[(.object "java/lang/String"), .int, .int]
  staticTypes := #[]
  resolved := Array.replicate 204 none
  statics := none }

def pool9 : Array CpInfo := pool [(1, .class_ 2), (0, u "com/example/forager/forager/Progress$End"), (2, u "BACK"), (0, u "Lcom/example/forager/forager/Progress$End;"), (2, u "BROKEN_DOWN"), (2, u "CUT_OFF"), (2, u "$VALUES"), (0, u "[Lcom/example/forager/forager/Progress$End;"), (6, .class_ 25), (1, u "java/lang/Enum"), (26, .class_ 53), (0, u "com/example/forager/forager/Progress")] 2

/-- com/example/forager/forager/Progress$End -/
def k9 : Class := { plain "com/example/forager/forager/Progress$End" (some 8) with
  accessFlags := 16432
  interfaces := #[]
  cf := some (fileOf pool9 1 #[.nestHost 52] #[] 16432 23 #[] #[{ accessFlags := 16409, nameIndex := 5, descriptorIndex := 6, attributes := #[] }, { accessFlags := 16409, nameIndex := 9, descriptorIndex := 6, attributes := #[] }, { accessFlags := 16409, nameIndex := 12, descriptorIndex := 6, attributes := #[] }, { accessFlags := 4122, nameIndex := 15, descriptorIndex := 16, attributes := #[] }])
  fields := #[{ name := "BACK", type := (.object "com/example/forager/forager/Progress$End"), accessFlags := 16409, slot := 0, constantValue := 0 }, { name := "BROKEN_DOWN", type := (.object "com/example/forager/forager/Progress$End"), accessFlags := 16409, slot := 1, constantValue := 0 }, { name := "CUT_OFF", type := (.object "com/example/forager/forager/Progress$End"), accessFlags := 16409, slot := 2, constantValue := 0 }, { name := "$VALUES", type := (.array (.object "com/example/forager/forager/Progress$End")), accessFlags := 4122, slot := 3, constantValue := 0 }]
  methods := #[]
  instanceTypes := #[(.object "java/lang/String"), .int, .int]
  staticTypes := #[(.object "com/example/forager/forager/Progress$End"), (.object "com/example/forager/forager/Progress$End"), (.object "com/example/forager/forager/Progress$End"), (.array (.object "com/example/forager/forager/Progress$End"))]
  resolved := Array.replicate 56 none
  statics := some 0 }

def pool10 : Array CpInfo := pool [(1, u "java/lang/Cloneable"), (0, .class_ 1), (0, u "java/lang/Object"), (0, .class_ 3)] 3

/-- java/lang/Cloneable -/
def k10 : Class := { plain "java/lang/Cloneable" (some 0) with
  accessFlags := 1537
  interfaces := #[]
  cf := some (fileOf pool10 2 #[] #[] 1537 4 #[] #[])
  fields := #[]
  methods := #[]
  instanceTypes := #[]
  staticTypes := #[]
  resolved := Array.replicate 8 none
  statics := none }

/-- the primitive byte -/
def k11 : Class := { plain "byte" none with kind := .primitive 'B', accessFlags := 0x411 }
/-- [B -/
def k12 : Class := { plain "[B" (some 0) with kind := .array 11 .byte, interfaces := #[10, 7], accessFlags := 1041 }

/-- the primitive double -/
def k13 : Class := { plain "double" none with kind := .primitive 'D', accessFlags := 0x411 }
/-- [D -/
def k14 : Class := { plain "[D" (some 0) with kind := .array 13 .double, interfaces := #[10, 7], accessFlags := 1041 }

/-- the primitive int -/
def k15 : Class := { plain "int" none with kind := .primitive 'I', accessFlags := 0x411 }
/-- [I -/
def k16 : Class := { plain "[I" (some 0) with kind := .array 15 .int, interfaces := #[10, 7], accessFlags := 1041 }

def heap : Heap := #[{ cls := 9, slots := #[.ref 1, .null, .null, .null], vm := .statics 9 },
  { cls := 9, slots := #[.null, .int 0, .int 0], vm := .none }]
def classes : Array Class := #[k0, k1, k2, k3, k4, k5, k6, k7, k8, k9, k10, k11, k12, k13, k14, k15, k16]
def interned : List (Array UInt16 × Addr) := []
def slotsUsed : Nat := 7
def theMethod : MethodId := ⟨1, 1⟩
def args0 : Array Value := #[.int 5, .int 7]
def aboutOver (below : List Frame) : State where
  vm := { classes := classes, interned := interned.toArray }
  heap := heap
  slotsUsed := slotsUsed
  threads := #[{ frames := .invoking theMethod args0 :: below }]
def below0 : List Frame := [.native { method := ⟨0, 0⟩, args := #[] }]
def about1 : State := aboutOver below0
def p0 : Program := .bare "" "" ""
def e0 : Env := launch0.env 0 0 0
theorem w_frames : about1.frames = Frame.invoking theMethod args0 :: below0 := rfl
set_option maxRecDepth 65536 in
theorem w_args : argsFit about1.vm theMethod args0 = true := by decide +kernel
set_option maxRecDepth 65536 in
theorem w_heap : heapFits about1 = true := by decide +kernel
set_option maxRecDepth 65536 in
theorem w_runnable : about1.curStatus? = some .runnable := by decide +kernel
set_option maxRecDepth 65536 in
theorem w_alone : about1.alone = true := by decide +kernel
set_option maxRecDepth 65536 in
theorem w_named : about1.methodNamed? x = some theMethod := by decide +kernel
set_option maxRecDepth 65536 in
theorem w_hears : about1.hears theMethod below0 = true := by decide +kernel
set_option maxRecDepth 65536 in
theorem w_ripe : about1.ripe theMethod args0 below0 = true := by decide +kernel
theorem w_running : about1.status = .running := rfl
set_option maxRecDepth 65536 in
theorem w_room : about1.hasRoom e0.platform room_1 = true :=
  launch0.hasRoom_least _ room_1 (by decide +kernel) (by decide +kernel) (by decide +kernel) (by decide +kernel) (by decide +kernel) (by decide +kernel)
theorem allAtoms_all (ts : List Jvm.Cond) (a : Array Jvm.Value) (st : Jvm.State) : (allAtoms ts).before a st = ts.all (fun c => c.before a st) := by
  induction ts with
  | nil => rfl
  | cons c t ih =>
    show (Jvm.Cond.and c (allAtoms t)).before a st = _
    rw [Jvm.Cond.before_and, ih, List.all_cons]
def words1 : List Jvm.Cond := Jvm.Cond.code x code maxLocals ret :: tables_1
/-- a 'code' word, met by the world's own term for the bytes: nothing is compared byte by byte -/
theorem code_word {y : MethodName} {bytes : ByteArray} {mx : Nat} {rt : Option FieldType} {a : Array Value} {s : State} {m : MethodId} {meth : Method} {c : Code} (h1 : s.methodNamed? y = some m) (h2 : s.vm.method? m = some meth) (h3 : meth.code = some c) (h4 : c.code = bytes)
    (h5 : (c.maxLocals == mx && c.exceptionTable.isEmpty && decide (c.maxStack ≤ mostOperands) && decide (meth.sig.returnType = rt) && !meth.locks && decide (parseMethodDescriptor y.desc = some meth.sig)) = true) : (Jvm.Cond.code y bytes mx rt).before a s = true := by
  simp only [Bool.and_eq_true, beq_iff_eq, Bool.not_eq_true', decide_eq_true_eq] at h5
  obtain ⟨⟨⟨⟨⟨g1, g2⟩, g3⟩, g4⟩, g5⟩, g6⟩ := h5
  simp [Cond.before, Cond.holds, Cond.value, h1, h2, h3, h4, g1, g2, g3, g4, g5, g6]
def isCode : Jvm.Cond → Bool
  | .code _ _ _ _ => true
  | _ => false
theorem all_split {L : List Jvm.Cond} {P : Jvm.Cond → Bool} (h1 : L.all (fun c => isCode c || P c) = true) (h2 : ∀ c ∈ L.filter isCode, P c = true) : L.all P = true := by
  refine List.all_eq_true.mpr fun c hc => ?_
  have h := List.all_eq_true.mp h1 c hc
  rcases Bool.eq_false_or_eq_true (isCode c) with hi | hi
  · exact h2 c (List.mem_filter.mpr ⟨hc, hi⟩)
  · simpa [hi] using h
set_option maxRecDepth 65536 in
theorem w_c0 : (Jvm.Cond.code x code maxLocals ret).before args0 about1 = true := code_word (m := ⟨1, 1⟩) (meth := k1m1) (c := k1c1) (by decide +kernel) rfl rfl rfl (by decide +kernel)
set_option maxRecDepth 65536 in
theorem w_c1 : (Jvm.Cond.code ({ cls := "com/example/forager/forager/Window", name := "<init>", desc := "(DD)V" } : Jvm.MethodName) prog_58_method_1_code (5 : Nat) (Option.none : Option Jvm.ClassFile.FieldType)).before args0 about1 = true := code_word (m := ⟨3, 0⟩) (meth := k3m0) (c := k3c0) (by decide +kernel) rfl rfl rfl (by decide +kernel)
set_option maxRecDepth 65536 in
theorem w_c2 : (Jvm.Cond.code ({ cls := "java/lang/Record", name := "<init>", desc := "()V" } : Jvm.MethodName) jdk_30_method_1_code (1 : Nat) (Option.none : Option Jvm.ClassFile.FieldType)).before args0 about1 = true := code_word (m := ⟨2, 0⟩) (meth := k2m0) (c := k2c0) (by decide +kernel) rfl rfl rfl (by decide +kernel)
set_option maxRecDepth 65536 in
theorem w_c3 : (Jvm.Cond.code ({ cls := "java/lang/Object", name := "<init>", desc := "()V" } : Jvm.MethodName) object_method_1_code (1 : Nat) (Option.none : Option Jvm.ClassFile.FieldType)).before args0 about1 = true := code_word (m := ⟨0, 0⟩) (meth := k0m0) (c := k0c0) (by decide +kernel) rfl rfl rfl (by decide +kernel)
set_option maxRecDepth 65536 in
theorem w_c4 : (Jvm.Cond.code ({ cls := "com/example/forager/forager/Progress", name := "notLeft", desc := "(Lcom/example/forager/forager/Window;)Lcom/example/forager/forager/Progress;" } : Jvm.MethodName) prog_27_method_2_code (1 : Nat) (Option.some (Jvm.ClassFile.FieldType.object "com/example/forager/forager/Progress"))).before args0 about1 = true := code_word (m := ⟨4, 1⟩) (meth := k4m1) (c := k4c1) (by decide +kernel) rfl rfl rfl (by decide +kernel)
set_option maxRecDepth 65536 in
theorem w_c5 : (Jvm.Cond.code ({ cls := "com/example/forager/forager/Progress", name := "<init>", desc := "(Lcom/example/forager/forager/Window;I[DLcom/example/forager/forager/Progress$End;)V" } : Jvm.MethodName) prog_27_method_1_code (5 : Nat) (Option.none : Option Jvm.ClassFile.FieldType)).before args0 about1 = true := code_word (m := ⟨4, 0⟩) (meth := k4m0) (c := k4c0) (by decide +kernel) rfl rfl rfl (by decide +kernel)
set_option maxRecDepth 65536 in
theorem w_c6 : (Jvm.Cond.code ({ cls := "com/example/forager/forager/Progress", name := "legs", desc := "()[D" } : Jvm.MethodName) prog_27_method_8_code (1 : Nat) (Option.some (Jvm.ClassFile.FieldType.array Jvm.ClassFile.FieldType.double))).before args0 about1 = true := code_word (m := ⟨4, 4⟩) (meth := k4m4) (c := k4c4) (by decide +kernel) rfl rfl rfl (by decide +kernel)
set_option maxRecDepth 65536 in
theorem w_c7 : (Jvm.Cond.code ({ cls := "com/example/forager/forager/Progress", name := "departures", desc := "()Lcom/example/forager/forager/Window;" } : Jvm.MethodName) prog_27_method_6_code (1 : Nat) (Option.some (Jvm.ClassFile.FieldType.object "com/example/forager/forager/Window"))).before args0 about1 = true := code_word (m := ⟨4, 2⟩) (meth := k4m2) (c := k4c2) (by decide +kernel) rfl rfl rfl (by decide +kernel)
set_option maxRecDepth 65536 in
theorem w_c8 : (Jvm.Cond.code ({ cls := "com/example/forager/forager/Progress", name := "stops", desc := "()I" } : Jvm.MethodName) prog_27_method_7_code (1 : Nat) (Option.some Jvm.ClassFile.FieldType.int)).before args0 about1 = true := code_word (m := ⟨4, 3⟩) (meth := k4m3) (c := k4c3) (by decide +kernel) rfl rfl rfl (by decide +kernel)
set_option maxRecDepth 65536 in
theorem w_c9 : (Jvm.Cond.code ({ cls := "com/example/forager/forager/Progress", name := "end", desc := "()Lcom/example/forager/forager/Progress$End;" } : Jvm.MethodName) prog_27_method_9_code (1 : Nat) (Option.some (Jvm.ClassFile.FieldType.object "com/example/forager/forager/Progress$End"))).before args0 about1 = true := code_word (m := ⟨4, 5⟩) (meth := k4m5) (c := k4c5) (by decide +kernel) rfl rfl rfl (by decide +kernel)
def codes1 : List Jvm.Cond := [Jvm.Cond.code x code maxLocals ret, Jvm.Cond.code ({ cls := "com/example/forager/forager/Window", name := "<init>", desc := "(DD)V" } : Jvm.MethodName) prog_58_method_1_code (5 : Nat) (Option.none : Option Jvm.ClassFile.FieldType), Jvm.Cond.code ({ cls := "java/lang/Record", name := "<init>", desc := "()V" } : Jvm.MethodName) jdk_30_method_1_code (1 : Nat) (Option.none : Option Jvm.ClassFile.FieldType), Jvm.Cond.code ({ cls := "java/lang/Object", name := "<init>", desc := "()V" } : Jvm.MethodName) object_method_1_code (1 : Nat) (Option.none : Option Jvm.ClassFile.FieldType), Jvm.Cond.code ({ cls := "com/example/forager/forager/Progress", name := "notLeft", desc := "(Lcom/example/forager/forager/Window;)Lcom/example/forager/forager/Progress;" } : Jvm.MethodName) prog_27_method_2_code (1 : Nat) (Option.some (Jvm.ClassFile.FieldType.object "com/example/forager/forager/Progress")), Jvm.Cond.code ({ cls := "com/example/forager/forager/Progress", name := "<init>", desc := "(Lcom/example/forager/forager/Window;I[DLcom/example/forager/forager/Progress$End;)V" } : Jvm.MethodName) prog_27_method_1_code (5 : Nat) (Option.none : Option Jvm.ClassFile.FieldType), Jvm.Cond.code ({ cls := "com/example/forager/forager/Progress", name := "legs", desc := "()[D" } : Jvm.MethodName) prog_27_method_8_code (1 : Nat) (Option.some (Jvm.ClassFile.FieldType.array Jvm.ClassFile.FieldType.double)), Jvm.Cond.code ({ cls := "com/example/forager/forager/Progress", name := "departures", desc := "()Lcom/example/forager/forager/Window;" } : Jvm.MethodName) prog_27_method_6_code (1 : Nat) (Option.some (Jvm.ClassFile.FieldType.object "com/example/forager/forager/Window")), Jvm.Cond.code ({ cls := "com/example/forager/forager/Progress", name := "stops", desc := "()I" } : Jvm.MethodName) prog_27_method_7_code (1 : Nat) (Option.some Jvm.ClassFile.FieldType.int), Jvm.Cond.code ({ cls := "com/example/forager/forager/Progress", name := "end", desc := "()Lcom/example/forager/forager/Progress$End;" } : Jvm.MethodName) prog_27_method_9_code (1 : Nat) (Option.some (Jvm.ClassFile.FieldType.object "com/example/forager/forager/Progress$End"))]
set_option maxRecDepth 65536 in
theorem codes_eq : words1.filter isCode = codes1 := rfl
theorem w_codes : ∀ c ∈ words1.filter isCode, c.before args0 about1 = true := by
  rw [codes_eq]
  intro c hc
  simp only [codes1, List.mem_cons, List.not_mem_nil, or_false] at hc
  rcases hc with rfl | rfl | rfl | rfl | rfl | rfl | rfl | rfl | rfl | rfl
  · exact w_c0
  · exact w_c1
  · exact w_c2
  · exact w_c3
  · exact w_c4
  · exact w_c5
  · exact w_c6
  · exact w_c7
  · exact w_c8
  · exact w_c9
set_option maxRecDepth 65536 in
theorem w_t1 : (words1.take 24).all (fun c => isCode c || c.before args0 about1) = true := by decide +kernel
set_option maxRecDepth 65536 in
theorem w_t2 : ((words1.drop 24).take 24).all (fun c => isCode c || c.before args0 about1) = true := by decide +kernel
set_option maxRecDepth 65536 in
theorem w_t3 : ((words1.drop 24).drop 24).all (fun c => isCode c || c.before args0 about1) = true := by decide +kernel
theorem w_tables : (allAtoms (Jvm.Cond.code x code maxLocals ret :: tables_1)).before args0 about1 = true := by
  rw [allAtoms_all]
  show words1.all (fun c => c.before args0 about1) = true
  refine all_split ?_ w_codes
  rw [← List.take_append_drop 24 words1, List.all_append, w_t1, ← List.take_append_drop 24 (words1.drop 24), List.all_append, w_t2, w_t3]
  rfl
set_option maxRecDepth 65536 in
theorem w_case : (Jvm.Cond.and given_1 narrow_1).before args0 about1 = true := by decide +kernel
theorem w_applies : (headSpec (Jvm.Cond.code x code maxLocals ret :: tables_1) room_1).applies x e0.platform about1 = true :=
  (Spec.applies_iff w_frames).mpr ⟨w_running, w_runnable, w_alone, w_named, w_hears, w_ripe, w_room, w_tables⟩
theorem atStart : AtStart classFile x code maxLocals ret World_1 tables_1 room_1 Calls_1 rest_1 Pre_1 launch0 p0 e0 about1 theMethod args0 below0 :=
  ⟨lists_1, trivial, launch0.admits_env _ _ _, launch0.least_env, fairChoices_fair.cas, fairChoices_fair.clock, w_frames, w_args, w_heap, w_applies, trivial, trivial, w_case⟩
end start1
theorem witness_1 : WitnessClaimed_1 := ⟨start1.p0, start1.e0, start1.about1, start1.theMethod, start1.args0, start1.below0, start1.atStart⟩
end Jvm.Pilot.@@N@@
