import JvmDerived
import JvmDerived.Pilot.@@N@@Statement
import JvmDerived.Pilot.@@N@@Code
set_option linter.unusedVariables false
set_option linter.unusedSimpArgs false
namespace Jvm.Pilot.@@N@@
open Jvm Jvm.ClassFile Sem Op Lib Jvm.Free Jvm.Stand Jvm.LawKit Jvm.RoadKit Bundle Jvm.Pilot.@@N@@.Jvm.D
abbrev Go (p : Program) (e : Env) (below : List Frame) (t T : State) (m : MethodId) (pc : Nat) (ls : Array Slot) (st : List Value) : Prop := Steps p.tables e below (T.setTop (mkF m pc ls st)) t
/-- from A the run comes to B -/
def Goes (p : Program) (e : Env) (below : List Frame) (A B : State) : Prop := ∀ t, Steps p.tables e below B t → Steps p.tables e below A t
abbrev dLt (x y : UInt64) : Prop := FP.dcmp x y = some .lt
abbrev dEq (x y : UInt64) : Prop := FP.dcmp x y = some .eq
abbrev dLe (x y : UInt64) : Prop := FP.dcmp x y = some .lt ∨ FP.dcmp x y = some .eq
abbrev fLt (x y : UInt32) : Prop := FP.fcmp x y = some .lt
abbrev fEq (x y : UInt32) : Prop := FP.fcmp x y = some .eq
abbrev fLe (x y : UInt32) : Prop := FP.fcmp x y = some .lt ∨ FP.fcmp x y = some .eq
theorem Sta.keepO {Z : State} {h h' : Heap} {C n d : String} {v : Value} {ws : List Addr} (F : Sta Z h C n d v) (K : Keep h h' ws) (q : ∀ x ∈ ws, ∀ cell : Cell, h[x]? = some cell → cell.vm.isStatics = false) : Sta Z h' C n d v := by
  obtain ⟨cf, i, k, f, st, cell, h1, h2, h3, h4, h5, h6, h7⟩ := F
  refine ⟨cf, i, k, f, st, cell, h1, h2, h3, h4, K.2.1 _ _ h5 fun hm => ?_, h6, h7⟩
  rw [q _ hm _ h5] at h6; cases h6
theorem own_swap (o : Option Ordering) : o.map Ordering.swap = some .lt ↔ o = some .gt := by rcases o with _ | (_ | _ | _) <;> simp [Ordering.swap]
theorem own_swapE (o : Option Ordering) : o.map Ordering.swap = some .eq ↔ o = some .eq := by rcases o with _ | (_ | _ | _) <;> simp [Ordering.swap]
theorem own_dgt (x y : UInt64) : dLt y x ↔ FP.dcmp x y = some .gt := by
  show FP.Core.dcmp y x = some .lt ↔ FP.Core.dcmp x y = some .gt
  rw [FP.Core.dcmp_swap x y]; exact own_swap _
theorem own_dge (x y : UInt64) : dLe y x ↔ (FP.dcmp x y = some .gt ∨ FP.dcmp x y = some .eq) := by
  show (FP.Core.dcmp y x = some .lt ∨ FP.Core.dcmp y x = some .eq) ↔ (FP.Core.dcmp x y = some .gt ∨ FP.Core.dcmp x y = some .eq)
  rw [FP.Core.dcmp_swap x y, own_swap, own_swapE]
theorem own_fgt (x y : UInt32) : fLt y x ↔ FP.fcmp x y = some .gt := by
  show FP.Core.fcmp y x = some .lt ↔ FP.Core.fcmp x y = some .gt
  rw [FP.Core.fcmp_swap x y]; exact own_swap _
theorem own_fge (x y : UInt32) : fLe y x ↔ (FP.fcmp x y = some .gt ∨ FP.fcmp x y = some .eq) := by
  show (FP.Core.fcmp y x = some .lt ∨ FP.Core.fcmp y x = some .eq) ↔ (FP.Core.fcmp x y = some .gt ∨ FP.Core.fcmp x y = some .eq)
  rw [FP.Core.fcmp_swap x y, own_swap, own_swapE]
theorem own_c (o : Option Ordering) :
    (o = some .lt → ifCond.holds .ge (cmpValue o .g) = false ∧ ifCond.holds .lt (cmpValue o .g) = true) ∧
    (¬ o = some .lt → ifCond.holds .ge (cmpValue o .g) = true ∧ ifCond.holds .lt (cmpValue o .g) = false) ∧
    ((o = some .lt ∨ o = some .eq) → ifCond.holds .gt (cmpValue o .g) = false ∧ ifCond.holds .le (cmpValue o .g) = true) ∧
    (¬ (o = some .lt ∨ o = some .eq) → ifCond.holds .gt (cmpValue o .g) = true ∧ ifCond.holds .le (cmpValue o .g) = false) ∧
    (o = some .gt → ifCond.holds .le (cmpValue o .l) = false ∧ ifCond.holds .gt (cmpValue o .l) = true) ∧
    (¬ o = some .gt → ifCond.holds .le (cmpValue o .l) = true ∧ ifCond.holds .gt (cmpValue o .l) = false) ∧
    ((o = some .gt ∨ o = some .eq) → ifCond.holds .lt (cmpValue o .l) = false ∧ ifCond.holds .ge (cmpValue o .l) = true) ∧
    (¬ (o = some .gt ∨ o = some .eq) → ifCond.holds .lt (cmpValue o .l) = true ∧ ifCond.holds .ge (cmpValue o .l) = false) ∧
    (o = some .eq → ∀ q, ifCond.holds .ne (cmpValue o q) = false ∧ ifCond.holds .eq (cmpValue o q) = true) ∧
    (¬ o = some .eq → ∀ q, ifCond.holds .ne (cmpValue o q) = true ∧ ifCond.holds .eq (cmpValue o q) = false) := by
  refine ⟨?_, ?_, ?_, ?_, ?_, ?_, ?_, ?_, ?_, ?_⟩ <;> rcases o with _ | (_ | _ | _) <;> first | (intro h; exact ⟨by decide, by decide⟩) | (intro h q; cases q <;> exact ⟨by decide, by decide⟩) | (intro h; simp at h; done) | (intro h; exact absurd rfl h) | (intro h; exact absurd (Or.inl rfl) h) | (intro h; exact absurd (Or.inr rfl) h)
theorem dc_g_ge_f {x y : UInt64} (h : dLt x y) : ifCond.holds .ge (cmpValue (FP.dcmp x y) .g) = false := ((own_c _).1 h).1
theorem dc_g_ge_t {x y : UInt64} (h : ¬ dLt x y) : ifCond.holds .ge (cmpValue (FP.dcmp x y) .g) = true := ((own_c _).2.1 h).1
theorem dc_g_lt_t {x y : UInt64} (h : dLt x y) : ifCond.holds .lt (cmpValue (FP.dcmp x y) .g) = true := ((own_c _).1 h).2
theorem dc_g_lt_f {x y : UInt64} (h : ¬ dLt x y) : ifCond.holds .lt (cmpValue (FP.dcmp x y) .g) = false := ((own_c _).2.1 h).2
theorem dc_g_gt_f {x y : UInt64} (h : dLe x y) : ifCond.holds .gt (cmpValue (FP.dcmp x y) .g) = false := ((own_c _).2.2.1 h).1
theorem dc_g_gt_t {x y : UInt64} (h : ¬ dLe x y) : ifCond.holds .gt (cmpValue (FP.dcmp x y) .g) = true := ((own_c _).2.2.2.1 h).1
theorem dc_g_le_t {x y : UInt64} (h : dLe x y) : ifCond.holds .le (cmpValue (FP.dcmp x y) .g) = true := ((own_c _).2.2.1 h).2
theorem dc_g_le_f {x y : UInt64} (h : ¬ dLe x y) : ifCond.holds .le (cmpValue (FP.dcmp x y) .g) = false := ((own_c _).2.2.2.1 h).2
theorem dc_l_le_f {x y : UInt64} (h : dLt y x) : ifCond.holds .le (cmpValue (FP.dcmp x y) .l) = false := ((own_c _).2.2.2.2.1 ((own_dgt x y).mp h)).1
theorem dc_l_le_t {x y : UInt64} (h : ¬ dLt y x) : ifCond.holds .le (cmpValue (FP.dcmp x y) .l) = true := ((own_c _).2.2.2.2.2.1 (fun q => h ((own_dgt x y).mpr q))).1
theorem dc_l_gt_t {x y : UInt64} (h : dLt y x) : ifCond.holds .gt (cmpValue (FP.dcmp x y) .l) = true := ((own_c _).2.2.2.2.1 ((own_dgt x y).mp h)).2
theorem dc_l_gt_f {x y : UInt64} (h : ¬ dLt y x) : ifCond.holds .gt (cmpValue (FP.dcmp x y) .l) = false := ((own_c _).2.2.2.2.2.1 (fun q => h ((own_dgt x y).mpr q))).2
theorem dc_l_lt_f {x y : UInt64} (h : dLe y x) : ifCond.holds .lt (cmpValue (FP.dcmp x y) .l) = false := ((own_c _).2.2.2.2.2.2.1 ((own_dge x y).mp h)).1
theorem dc_l_lt_t {x y : UInt64} (h : ¬ dLe y x) : ifCond.holds .lt (cmpValue (FP.dcmp x y) .l) = true := ((own_c _).2.2.2.2.2.2.2.1 (fun q => h ((own_dge x y).mpr q))).1
theorem dc_l_ge_t {x y : UInt64} (h : dLe y x) : ifCond.holds .ge (cmpValue (FP.dcmp x y) .l) = true := ((own_c _).2.2.2.2.2.2.1 ((own_dge x y).mp h)).2
theorem dc_l_ge_f {x y : UInt64} (h : ¬ dLe y x) : ifCond.holds .ge (cmpValue (FP.dcmp x y) .l) = false := ((own_c _).2.2.2.2.2.2.2.1 (fun q => h ((own_dge x y).mpr q))).2
theorem dc_l_ne_f {x y : UInt64} (h : dEq x y) : ifCond.holds .ne (cmpValue (FP.dcmp x y) .l) = false := ((own_c _).2.2.2.2.2.2.2.2.1 h _).1
theorem dc_l_ne_t {x y : UInt64} (h : ¬ dEq x y) : ifCond.holds .ne (cmpValue (FP.dcmp x y) .l) = true := ((own_c _).2.2.2.2.2.2.2.2.2 h _).1
theorem dc_l_eq_t {x y : UInt64} (h : dEq x y) : ifCond.holds .eq (cmpValue (FP.dcmp x y) .l) = true := ((own_c _).2.2.2.2.2.2.2.2.1 h _).2
theorem dc_l_eq_f {x y : UInt64} (h : ¬ dEq x y) : ifCond.holds .eq (cmpValue (FP.dcmp x y) .l) = false := ((own_c _).2.2.2.2.2.2.2.2.2 h _).2
theorem dc_g_ne_f {x y : UInt64} (h : dEq x y) : ifCond.holds .ne (cmpValue (FP.dcmp x y) .g) = false := ((own_c _).2.2.2.2.2.2.2.2.1 h _).1
theorem dc_g_ne_t {x y : UInt64} (h : ¬ dEq x y) : ifCond.holds .ne (cmpValue (FP.dcmp x y) .g) = true := ((own_c _).2.2.2.2.2.2.2.2.2 h _).1
theorem dc_g_eq_t {x y : UInt64} (h : dEq x y) : ifCond.holds .eq (cmpValue (FP.dcmp x y) .g) = true := ((own_c _).2.2.2.2.2.2.2.2.1 h _).2
theorem dc_g_eq_f {x y : UInt64} (h : ¬ dEq x y) : ifCond.holds .eq (cmpValue (FP.dcmp x y) .g) = false := ((own_c _).2.2.2.2.2.2.2.2.2 h _).2
theorem fc_g_ge_f {x y : UInt32} (h : fLt x y) : ifCond.holds .ge (cmpValue (FP.fcmp x y) .g) = false := ((own_c _).1 h).1
theorem fc_g_ge_t {x y : UInt32} (h : ¬ fLt x y) : ifCond.holds .ge (cmpValue (FP.fcmp x y) .g) = true := ((own_c _).2.1 h).1
theorem fc_g_lt_t {x y : UInt32} (h : fLt x y) : ifCond.holds .lt (cmpValue (FP.fcmp x y) .g) = true := ((own_c _).1 h).2
theorem fc_g_lt_f {x y : UInt32} (h : ¬ fLt x y) : ifCond.holds .lt (cmpValue (FP.fcmp x y) .g) = false := ((own_c _).2.1 h).2
theorem fc_g_gt_f {x y : UInt32} (h : fLe x y) : ifCond.holds .gt (cmpValue (FP.fcmp x y) .g) = false := ((own_c _).2.2.1 h).1
theorem fc_g_gt_t {x y : UInt32} (h : ¬ fLe x y) : ifCond.holds .gt (cmpValue (FP.fcmp x y) .g) = true := ((own_c _).2.2.2.1 h).1
theorem fc_g_le_t {x y : UInt32} (h : fLe x y) : ifCond.holds .le (cmpValue (FP.fcmp x y) .g) = true := ((own_c _).2.2.1 h).2
theorem fc_g_le_f {x y : UInt32} (h : ¬ fLe x y) : ifCond.holds .le (cmpValue (FP.fcmp x y) .g) = false := ((own_c _).2.2.2.1 h).2
theorem fc_l_le_f {x y : UInt32} (h : fLt y x) : ifCond.holds .le (cmpValue (FP.fcmp x y) .l) = false := ((own_c _).2.2.2.2.1 ((own_fgt x y).mp h)).1
theorem fc_l_le_t {x y : UInt32} (h : ¬ fLt y x) : ifCond.holds .le (cmpValue (FP.fcmp x y) .l) = true := ((own_c _).2.2.2.2.2.1 (fun q => h ((own_fgt x y).mpr q))).1
theorem fc_l_gt_t {x y : UInt32} (h : fLt y x) : ifCond.holds .gt (cmpValue (FP.fcmp x y) .l) = true := ((own_c _).2.2.2.2.1 ((own_fgt x y).mp h)).2
theorem fc_l_gt_f {x y : UInt32} (h : ¬ fLt y x) : ifCond.holds .gt (cmpValue (FP.fcmp x y) .l) = false := ((own_c _).2.2.2.2.2.1 (fun q => h ((own_fgt x y).mpr q))).2
theorem fc_l_lt_f {x y : UInt32} (h : fLe y x) : ifCond.holds .lt (cmpValue (FP.fcmp x y) .l) = false := ((own_c _).2.2.2.2.2.2.1 ((own_fge x y).mp h)).1
theorem fc_l_lt_t {x y : UInt32} (h : ¬ fLe y x) : ifCond.holds .lt (cmpValue (FP.fcmp x y) .l) = true := ((own_c _).2.2.2.2.2.2.2.1 (fun q => h ((own_fge x y).mpr q))).1
theorem fc_l_ge_t {x y : UInt32} (h : fLe y x) : ifCond.holds .ge (cmpValue (FP.fcmp x y) .l) = true := ((own_c _).2.2.2.2.2.2.1 ((own_fge x y).mp h)).2
theorem fc_l_ge_f {x y : UInt32} (h : ¬ fLe y x) : ifCond.holds .ge (cmpValue (FP.fcmp x y) .l) = false := ((own_c _).2.2.2.2.2.2.2.1 (fun q => h ((own_fge x y).mpr q))).2
theorem fc_l_ne_f {x y : UInt32} (h : fEq x y) : ifCond.holds .ne (cmpValue (FP.fcmp x y) .l) = false := ((own_c _).2.2.2.2.2.2.2.2.1 h _).1
theorem fc_l_ne_t {x y : UInt32} (h : ¬ fEq x y) : ifCond.holds .ne (cmpValue (FP.fcmp x y) .l) = true := ((own_c _).2.2.2.2.2.2.2.2.2 h _).1
theorem fc_l_eq_t {x y : UInt32} (h : fEq x y) : ifCond.holds .eq (cmpValue (FP.fcmp x y) .l) = true := ((own_c _).2.2.2.2.2.2.2.2.1 h _).2
theorem fc_l_eq_f {x y : UInt32} (h : ¬ fEq x y) : ifCond.holds .eq (cmpValue (FP.fcmp x y) .l) = false := ((own_c _).2.2.2.2.2.2.2.2.2 h _).2
theorem fc_g_ne_f {x y : UInt32} (h : fEq x y) : ifCond.holds .ne (cmpValue (FP.fcmp x y) .g) = false := ((own_c _).2.2.2.2.2.2.2.2.1 h _).1
theorem fc_g_ne_t {x y : UInt32} (h : ¬ fEq x y) : ifCond.holds .ne (cmpValue (FP.fcmp x y) .g) = true := ((own_c _).2.2.2.2.2.2.2.2.2 h _).1
theorem fc_g_eq_t {x y : UInt32} (h : fEq x y) : ifCond.holds .eq (cmpValue (FP.fcmp x y) .g) = true := ((own_c _).2.2.2.2.2.2.2.2.1 h _).2
theorem fc_g_eq_f {x y : UInt32} (h : ¬ fEq x y) : ifCond.holds .eq (cmpValue (FP.fcmp x y) .g) = false := ((own_c _).2.2.2.2.2.2.2.2.2 h _).2
theorem own_selp {s : State} {args : Array Value} {y z : MethodName} {K : String} (h : (Jvm.Cond.selects K z z).before args s = true) (e : z.cls = y.cls) (hp : s.PrivateAt y) (hi : (Jvm.Cond.instanceMethod y).before args s = true) (hy : y.cls ≠ "java/lang/invoke/MethodHandle" ∧ y.cls ≠ "java/lang/invoke/VarHandle") : (Jvm.Cond.selects y.cls y y).before args s = true := by
  obtain ⟨c, r, m, -, -, h3, -, k, hk, hni⟩ := Cond.selects_spec h
  exact Jvm.Stand.selects_self_of_private (e ▸ findClass_of_methodNamed h3) hk hni hp hi hy

theorem own_same {s : State} {args : Array Value} {y z : MethodName} {K : String} (hi : (Jvm.Cond.instanceMethod y).before args s = true) (h : (Jvm.Cond.selects K z z).before args s = true) (e : z.cls = y.cls) (hy : y.cls ≠ "java/lang/invoke/MethodHandle" ∧ y.cls ≠ "java/lang/invoke/VarHandle") : (Jvm.Cond.sameMethod y.cls y.cls y.name y.desc).before args s = true := by
  obtain ⟨c, r, m, -, -, h3, -, k, hk, hni⟩ := Cond.selects_spec h
  obtain ⟨mk, methM, hnamed, hmethM, -, -⟩ := Cond.instanceMethod_spec hi
  have hf := State.methodFound?_of_named hnamed hy
  have hc := findClass_of_methodNamed hnamed
  have hc2 := findClass_of_methodNamed h3
  rw [e] at hc2
  have he : m.cls = mk.cls := Option.some.inj (hc2.symm.trans hc)
  have hn2 : s.methodNamed? ⟨y.cls, y.name, y.desc⟩ = some mk := hnamed
  rw [he] at hk
  simp only [Jvm.Cond.before, Jvm.Cond.holds, Jvm.Cond.value, hc, hf, hn2, hk]
  simp [hni, hk]

theorem own_nf {s : State} {args : Array Value} {x y z : MethodName} {K : String} (h : (Jvm.Cond.selects K x y).before args s = true) (e : y.cls = z.cls) : NotFace s z := fun r0 h0 => by
  obtain ⟨c, r, m, -, -, h3, -, k, hk, hni⟩ := Cond.selects_spec h
  have h4 := findClass_of_methodNamed h3
  have h5 := findClass_of_methodNamed h0
  rw [e] at h4
  have h6 : m.cls = r0.cls := Option.some.inj (h4.symm.trans h5)
  exact ⟨k, h6 ▸ hk, hni⟩

theorem own_backH {l : Launch} {R : Room} {p : Program} {e : Env} {below : List Frame} {s : State} {args : Array Value} {Z : State} {a0 : Array Value} {EL : List (String × Nat)} {h : Heap} {vm0 : Vm} {y : MethodName} {bytes : ByteArray} {maxL : Nat} {ret : Option FieldType} {rm : Room} {len W : Nat} {as' : Array Value} {Q : Option Value → Heap → List Loc → Prop} {xs : List Addr}
    (hM : MetFree l y (head1 [Jvm.Cond.code y bytes maxL ret] rm) (fun a U => a = as' ∧ Z.Warmed39 U.vm ∧ U.heap = h ∧ CHv Z EL U.vm h ∧ ∀ x ∈ xs, Safe Z EL U.vm h x) (fun _ _ _ _ _ => True) (fun _ U o U' => ∃ v L, o = .returned v ∧ Q v U'.heap L ∧ CHr Z EL U.vm U.heap U'.vm U'.heap ∧ ReturnedEndW U o U' L rm.cells rm.slots))
    (hZ : Z.Warmed39 vm0) (wc : (Jvm.Cond.code y bytes maxL ret).before a0 Z = true) (wz : (Jvm.Cond.initialized y.cls).before a0 Z = true) (hf : rm.frames + 1 ≤ R.frames) (hl : W + (maxL + 11) + rm.locals ≤ R.locals) (hEL : EW Z a0 EL) (H : CHv Z EL vm0 h) (hs : ∀ x ∈ xs, x < h.size ∧ Safe Z EL vm0 h x) :
    BackS l R p e below (s.setVm vm0) args y len W (fun A a => a = as' ∧ A.U.heap = h ∧ A.cells + rm.cells ≤ R.cells ∧ A.slots + rm.slots ≤ R.slots)
      (fun A _ v B => ∃ L, Q v B.U.heap L ∧ B.locs = A.locs ++ L ∧ B.cells = A.cells + rm.cells ∧ B.slots = A.slots + rm.slots ∧ CHr Z EL vm0 h B.U.vm B.U.heap) :=
  BackS.of_freeW (bytes := bytes) (maxL := maxL) (ret := ret) (E := fun _ first o t L k n => k = rm.cells ∧ n = rm.slots ∧ (∃ v, o = .returned v ∧ Q v t.heap L) ∧ CHr Z EL first.vm first.heap t.vm t.heap) hM hf hl
    (fun m meth c A a Y hp => have hU : Z.Warmed39 A.U.vm := wtrans (s := s.setVm vm0) hZ Y.warmed
      ⟨by show (Jvm.Cond.and _ .tt).before a A.U = true; rw [Cond.before_and, mv hU wc]; rfl, mv hU wc, mv hU wz, hp.2.2.1, hp.2.2.2⟩)
    (fun m meth c A a g mk Y hp => ⟨hp.1, wtrans (s := s.setVm vm0) hZ Y.warmed, hp.2.1, (CHv.at Y hZ hEL H).1, fun x hx => (CHv.at Y hZ hEL H).safe (hs x hx).1 (hs x hx).2⟩) (fun _ _ _ _ _ _ _ _ _ => trivial)
    (fun _ _ _ _ ⟨v, L, h1, h2, h3, h4⟩ => ⟨L, _, _, h4, rfl, rfl, ⟨v, h1, h2⟩, h3⟩)
    (fun m meth c A a g mk v t L k n Y hp _ _ ⟨e1, e2, ⟨v', e3, e4⟩, e5⟩ => by
      cases e3; subst e1 e2
      refine ⟨L, e4, rfl, rfl, rfl, (CHv.at Y hZ hEL H).trans ?_⟩
      rw [← hp.2.1]; exact e5)

theorem own_EW {Z : State} {a0 : Array Value} (hw : ∀ d ∈ tables_1, d.before a0 Z = true) : EW Z a0 consts_1 :=
  EW.cons (text := "-") (hw _ (List.mem_of_getElem? (i := 115) rfl)) (by decide) (EW.cons (text := "") (hw _ (List.mem_of_getElem? (i := 18) rfl)) (by decide) EW.nil)
def own_cr (i : Int32) : Int32 := (i &&& (255 : Int32)).toUInt32.toUInt16.toUInt32.toInt32
def own_f (i : Int32) : Int32 := (i &&& (3 : Int32)) % (3 : Int32)
def own_t (i : Int32) : Int32 := ((i.toUInt32 >>> ((2 : Int32) &&& 31).toUInt32).toInt32 &&& (3 : Int32)) % (3 : Int32)
def own_chr (b : Int32) : Int32 := nar .char ((b &&& (255 : Int32)).toUInt32.toUInt16.toUInt32.toInt32)
theorem own_ofI (x : Int32) : x = Int32.ofInt x.toInt := by first | exact (Int32.ofInt_toInt x).symm | simp
theorem own_all3 : ∀ n : Fin 4, (Int32.ofInt (n.1 : Int)) % (3 : Int32) = 0 ∨ (Int32.ofInt (n.1 : Int)) % (3 : Int32) = 1 ∨ (Int32.ofInt (n.1 : Int)) % (3 : Int32) = 2 := by decide +kernel
theorem own_m3 (x : Int32) (h : 0 ≤ x.toInt ∧ x.toInt ≤ 3) : x % (3 : Int32) = 0 ∨ x % (3 : Int32) = 1 ∨ x % (3 : Int32) = 2 := by
  obtain ⟨n, hn⟩ := Int.eq_ofNat_of_zero_le h.1
  rw [own_ofI x, hn]
  exact own_all3 ⟨n, by omega⟩
theorem own_f3 {i fl : Int32} (h : fl = own_f i) : fl = 0 ∨ fl = 1 ∨ fl = 2 := by
  rw [h]; exact own_m3 _ (by have q := c_and i 3 (by decide); rw [show (3 : Int32).toInt = 3 by decide] at q; exact q)
theorem own_t3 {i tl : Int32} (h : tl = own_t i) : tl = 0 ∨ tl = 1 ∨ tl = 2 := by
  rw [h]; exact own_m3 _ (by have q := c_and (i.toUInt32 >>> ((2 : Int32) &&& 31).toUInt32).toInt32 3 (by decide); rw [show (3 : Int32).toInt = 3 by decide] at q; exact q)
theorem own_chrE (b : Int32) : own_chr b = b &&& (255 : Int32) := by
  unfold own_chr
  rw [i2c_mask]; exact i2c_mask b
theorem own_narI (b : Int32) : nar .char (own_chr b) = own_chr b := by
  rw [own_chrE]; exact i2c_mask b
theorem own_cre (i : Int32) : own_cr i = i &&& (255 : Int32) := i2c_mask i
theorem own_ch (i : Int32) : ¬ ((255 : Int32) < nar .char (own_cr i)) := by
  rw [own_cre, show nar .char (i &&& (255 : Int32)) = i &&& (255 : Int32) from i2c_mask i]
  have h := c_and i 255 (by decide)
  rw [Int32.lt_iff_toInt_lt]; omega
theorem own_all : ∀ n : Fin 256, own_chr (((Int32.ofInt (n.1 : Int)).toInt8.toInt32).toInt8.toInt32) = Int32.ofInt (n.1 : Int) := by decide +kernel
theorem own_rt0 (x : Int32) (h : 0 ≤ x.toInt ∧ x.toInt ≤ 255) : own_chr ((x.toInt8.toInt32).toInt8.toInt32) = x := by
  obtain ⟨n, hn⟩ := Int.eq_ofNat_of_zero_le h.1
  rw [own_ofI x, hn]
  exact own_all ⟨n, by omega⟩
theorem own_rt (i : Int32) : own_chr (((nar .char (own_cr i)).toInt8.toInt32).toInt8.toInt32) = own_cr i := by
  rw [own_cre, show nar .char (i &&& (255 : Int32)) = i &&& (255 : Int32) from i2c_mask i]
  have h := c_and i 255 (by decide)
  rw [show (255 : Int32).toInt = 255 by decide] at h
  exact own_rt0 _ h
theorem own_shr0 (x : Int32) : (x >>> ((0 : Int32) &&& 31)) = x := Int32.toInt_inj.mp (by rw [c_ishr x 0 0 (by decide)]; simp)
theorem own_shl0 (x : Int32) : (x <<< ((0 : Int32) &&& 31)) = x := by
  have h := c_ishl x 0 0 (by decide)
  have h1 := rng32 x
  have h2 := rng32 (x <<< ((0 : Int32) &&& 31))
  rw [show ((2 ^ 0 : Nat) : Int) = 1 from rfl, Int.mul_one] at h
  exact Int32.toInt_inj.mp (by omega)
theorem own_sub0 (x : Int32) : x - (0 : Int32) = x := by
  have h := c_isub x 0
  have h1 := rng32 x
  have h2 := rng32 (x - 0)
  have h3 : (0 : Int32).toInt = 0 := by decide
  exact Int32.toInt_inj.mp (by omega)
theorem own_e0 : (0 : Int32).toNatClampNeg = 0 := by decide
theorem own_e16 : (16 : Int32).toNatClampNeg = 16 := by decide
def own_ok (xc sz : Int32) (us vs : List Value) : Prop := ¬ xc < 0 ∧ ¬ sz < 0 ∧ xc.toNatClampNeg + sz.toNatClampNeg ≤ (16 : Int32).toNatClampNeg ∧ us.length = sz.toNatClampNeg ∧ vs.length = 16 ∧ ¬ (0 < ((xc + sz) - (16 : Int32)))
def own_app (vs : List Value) (xc sz : Int32) (us : List Value) : List Value := vs.take xc.toNatClampNeg ++ us ++ vs.drop (xc.toNatClampNeg + sz.toNatClampNeg)
theorem own_hl {xc sz : Int32} {us vs : List Value} (h : own_ok xc sz us vs) : xc.toNatClampNeg + sz.toNatClampNeg ≤ vs.length := by
  obtain ⟨h1, h2, h3, h4, h5, h6⟩ := h
  rw [own_e16] at h3; rw [h5]; exact h3
theorem own_appl {xc sz : Int32} {us vs : List Value} (h : own_ok xc sz us vs) : (own_app vs xc sz us).length = 16 := by
  obtain ⟨h1, h2, h3, h4, h5, h6⟩ := h
  rw [own_e16] at h3
  simp only [own_app, List.length_append, List.length_take, List.length_drop, h4, h5]; omega
theorem own_us {us : List Value} {n : Int32} {d : Value} (h : us.length = n.toNatClampNeg) : us = (List.range n.toNatClampNeg).map fun i => us.getD ((0 : Int32).toNatClampNeg + i) d := by
  rw [own_e0, ← h]
  apply List.ext_getElem
  · simp
  · intro i h1 h2
    simp [List.getD_eq_getElem?_getD, List.getElem?_eq_getElem h1]
def own_sm (z : Int32) (us : List Value) : Prop := (z = 0 ∨ z = 1 ∨ z = 2) ∧ us.length = z.toNatClampNeg
abbrev own_z : List Value := [(.int (0 : Int32)), (.int (0 : Int32)), (.int (0 : Int32)), (.int (0 : Int32)), (.int (0 : Int32)), (.int (0 : Int32)), (.int (0 : Int32)), (.int (0 : Int32)), (.int (0 : Int32)), (.int (0 : Int32)), (.int (0 : Int32)), (.int (0 : Int32)), (.int (0 : Int32)), (.int (0 : Int32)), (.int (0 : Int32)), (.int (0 : Int32))]
theorem own_ok1 {zf : Int32} {uf : List Value} (h : own_sm zf uf) : own_ok (0 : Int32) zf uf own_z := by
  obtain ⟨hz, hl⟩ := h
  refine ⟨by decide, ?_, ?_, hl, rfl, ?_⟩ <;> clear hl <;> rcases hz with rfl | rfl | rfl <;> decide
theorem own_ok2 {zf : Int32} {uf : List Value} (h : own_sm zf uf) : own_ok ((0 : Int32) + zf) (1 : Int32) [(.int (45 : Int32))] (own_app own_z (0 : Int32) zf uf) := by
  have hl := own_appl (own_ok1 h)
  obtain ⟨hz, -⟩ := h
  refine ⟨?_, by decide, ?_, by decide, hl, ?_⟩ <;> clear hl <;> rcases hz with rfl | rfl | rfl <;> decide
theorem own_ok3 {zf zt : Int32} {uf ut : List Value} (h : own_sm zf uf) (h' : own_sm zt ut) : own_ok (((0 : Int32) + zf) + (1 : Int32)) zt ut (own_app (own_app own_z (0 : Int32) zf uf) ((0 : Int32) + zf) (1 : Int32) [(.int (45 : Int32))]) := by
  have hl := own_appl (own_ok2 h)
  obtain ⟨hz, -⟩ := h
  obtain ⟨hz', hl'⟩ := h'
  refine ⟨?_, ?_, ?_, hl', hl, ?_⟩ <;> clear hl hl' <;> rcases hz with rfl | rfl | rfl <;> rcases hz' with rfl | rfl | rfl <;> decide
def own_ct (x : Int32) : Prop := ¬ x < 0 ∧ x.toNatClampNeg ≤ 8 ∧ x < (16 : Int32) ∧ ¬ (x = (16 : Int32))
theorem own_ct3 {zf zt : Int32} {uf ut : List Value} (h : own_sm zf uf) (h' : own_sm zt ut) : own_ct ((((0 : Int32) + zf) + (1 : Int32)) + zt) := by
  obtain ⟨hz, -⟩ := h
  obtain ⟨hz', -⟩ := h'
  refine ⟨?_, ?_, ?_, ?_⟩ <;> rcases hz with rfl | rfl | rfl <;> rcases hz' with rfl | rfl | rfl <;> decide
def own_res (vs : List Value) (n : Int32) : List Value := (List.range n.toNatClampNeg).map fun i => vs.getD ((0 : Int32).toNatClampNeg + i) (.int (0 : Int32))
def own_cnt (zf zt : Int32) : Int32 := ((((0 : Int32) + zf) + (1 : Int32)) + zt)
def own_nm (zf : Int32) (uf : List Value) (zt : Int32) (ut : List Value) : List Value := own_res (own_app (own_app (own_app own_z (0 : Int32) zf uf) ((0 : Int32) + zf) (1 : Int32) [(.int (45 : Int32))]) (((0 : Int32) + zf) + (1 : Int32)) zt ut) ((((0 : Int32) + zf) + (1 : Int32)) + zt)
theorem own_le0 (n : Int32) : (0 : Int32).toNatClampNeg + n.toNatClampNeg ≤ n.toNatClampNeg := by rw [own_e0]; omega
theorem own_h4 {x : Int32} (h : own_ct x) : (0 : Int32).toNatClampNeg + x.toNatClampNeg ≤ (16 : Int32).toNatClampNeg := by
  have q := h.2.1
  rw [own_e0, own_e16]; omega
theorem own_hr (n : Int32) (d : Value) : (0 : Int32).toNatClampNeg + n.toNatClampNeg ≤ (([] : List Value) ++ List.replicate n.toNatClampNeg d).length := by
  rw [own_e0]; simp
theorem own_cutA {Z : State} {h : Heap} {a : Addr} {k : ClassId} {z n : Int32} {us : List Value} {d : Value} (A : Arv Z h a k .byte z ((([] : List Value) ++ List.replicate n.toNatClampNeg d).take (0 : Int32).toNatClampNeg ++ us ++ (([] : List Value) ++ List.replicate n.toNatClampNeg d).drop ((0 : Int32).toNatClampNeg + n.toNatClampNeg)) d) : Arv Z h a k .byte z us d := by
  have e : (([] : List Value) ++ List.replicate n.toNatClampNeg d).take (0 : Int32).toNatClampNeg ++ us ++ (([] : List Value) ++ List.replicate n.toNatClampNeg d).drop ((0 : Int32).toNatClampNeg + n.toNatClampNeg) = us := by
    rw [own_e0]; simp
  rw [e] at A; exact A
theorem own_notz {s : State} {args : Array Value} {t : Term} {k : Int32} (ev : t.eval args s none [] s = some (.int k)) (h : (Jvm.Cond.not (Jvm.Cond.eq t (.int 0))).value args s none s [] = some true) : ¬ k = 0 := by
  have e2 : (Term.int 0).eval args s none [] s = some (.int 0) := rfl
  simp only [Jvm.Cond.value, ev, e2] at h
  simpa using h
theorem own_lit0 : (∀ c ∈ "-".toList, c.toNat < 256) ∧ "-".toList.map (fun c => Value.int (Jvm.Lit.byteI c.toNat.toUInt16)) = [(.int (45 : Int32))] := ⟨by decide, by first | rfl | decide | (simp [Jvm.Lit.byteI]; done)⟩
theorem own_lit1 : (∀ c ∈ "".toList, c.toNat < 256) ∧ "".toList.map (fun c => Value.int (Jvm.Lit.byteI c.toNat.toUInt16)) = [] := ⟨by decide, by first | rfl | decide | (simp [Jvm.Lit.byteI]; done)⟩

theorem own_nmA00 {Z : State} {h : Heap} {a : Addr} {k : ClassId}  (A : Arv Z h a k .byte (own_cnt (0 : Int32) (0 : Int32)) (own_nm (0 : Int32) [] (0 : Int32) []) (.int (0 : Int32))) : Arv Z h a k .byte (1 : Int32) [(.int (45 : Int32))] (.int (0 : Int32)) := by
  have e1 : own_cnt (0 : Int32) (0 : Int32) = (1 : Int32) := by decide
  have e2 : own_nm (0 : Int32) [] (0 : Int32) [] = [(.int (45 : Int32))] := by first | rfl | (simp [own_nm, own_res, own_app, List.range, List.range.loop, show (0 : Int32).toNatClampNeg = 0 by decide, show (1 : Int32).toNatClampNeg = 1 by decide, show (2 : Int32).toNatClampNeg = 2 by decide, show (3 : Int32).toNatClampNeg = 3 by decide, show (4 : Int32).toNatClampNeg = 4 by decide, show (5 : Int32).toNatClampNeg = 5 by decide]; done)
  rw [e1, e2] at A; exact A
theorem own_nmA01 {Z : State} {h : Heap} {a : Addr} {k : ClassId} {y0 : Value} (A : Arv Z h a k .byte (own_cnt (0 : Int32) (1 : Int32)) (own_nm (0 : Int32) [] (1 : Int32) [y0]) (.int (0 : Int32))) : Arv Z h a k .byte (2 : Int32) [(.int (45 : Int32)), y0] (.int (0 : Int32)) := by
  have e1 : own_cnt (0 : Int32) (1 : Int32) = (2 : Int32) := by decide
  have e2 : own_nm (0 : Int32) [] (1 : Int32) [y0] = [(.int (45 : Int32)), y0] := by first | rfl | (simp [own_nm, own_res, own_app, List.range, List.range.loop, show (0 : Int32).toNatClampNeg = 0 by decide, show (1 : Int32).toNatClampNeg = 1 by decide, show (2 : Int32).toNatClampNeg = 2 by decide, show (3 : Int32).toNatClampNeg = 3 by decide, show (4 : Int32).toNatClampNeg = 4 by decide, show (5 : Int32).toNatClampNeg = 5 by decide]; done)
  rw [e1, e2] at A; exact A
theorem own_nmA02 {Z : State} {h : Heap} {a : Addr} {k : ClassId} {y0 y1 : Value} (A : Arv Z h a k .byte (own_cnt (0 : Int32) (2 : Int32)) (own_nm (0 : Int32) [] (2 : Int32) [y0, y1]) (.int (0 : Int32))) : Arv Z h a k .byte (3 : Int32) [(.int (45 : Int32)), y0, y1] (.int (0 : Int32)) := by
  have e1 : own_cnt (0 : Int32) (2 : Int32) = (3 : Int32) := by decide
  have e2 : own_nm (0 : Int32) [] (2 : Int32) [y0, y1] = [(.int (45 : Int32)), y0, y1] := by first | rfl | (simp [own_nm, own_res, own_app, List.range, List.range.loop, show (0 : Int32).toNatClampNeg = 0 by decide, show (1 : Int32).toNatClampNeg = 1 by decide, show (2 : Int32).toNatClampNeg = 2 by decide, show (3 : Int32).toNatClampNeg = 3 by decide, show (4 : Int32).toNatClampNeg = 4 by decide, show (5 : Int32).toNatClampNeg = 5 by decide]; done)
  rw [e1, e2] at A; exact A
theorem own_nmA10 {Z : State} {h : Heap} {a : Addr} {k : ClassId} {x0 : Value} (A : Arv Z h a k .byte (own_cnt (1 : Int32) (0 : Int32)) (own_nm (1 : Int32) [x0] (0 : Int32) []) (.int (0 : Int32))) : Arv Z h a k .byte (2 : Int32) [x0, (.int (45 : Int32))] (.int (0 : Int32)) := by
  have e1 : own_cnt (1 : Int32) (0 : Int32) = (2 : Int32) := by decide
  have e2 : own_nm (1 : Int32) [x0] (0 : Int32) [] = [x0, (.int (45 : Int32))] := by first | rfl | (simp [own_nm, own_res, own_app, List.range, List.range.loop, show (0 : Int32).toNatClampNeg = 0 by decide, show (1 : Int32).toNatClampNeg = 1 by decide, show (2 : Int32).toNatClampNeg = 2 by decide, show (3 : Int32).toNatClampNeg = 3 by decide, show (4 : Int32).toNatClampNeg = 4 by decide, show (5 : Int32).toNatClampNeg = 5 by decide]; done)
  rw [e1, e2] at A; exact A
theorem own_nmA11 {Z : State} {h : Heap} {a : Addr} {k : ClassId} {x0 y0 : Value} (A : Arv Z h a k .byte (own_cnt (1 : Int32) (1 : Int32)) (own_nm (1 : Int32) [x0] (1 : Int32) [y0]) (.int (0 : Int32))) : Arv Z h a k .byte (3 : Int32) [x0, (.int (45 : Int32)), y0] (.int (0 : Int32)) := by
  have e1 : own_cnt (1 : Int32) (1 : Int32) = (3 : Int32) := by decide
  have e2 : own_nm (1 : Int32) [x0] (1 : Int32) [y0] = [x0, (.int (45 : Int32)), y0] := by first | rfl | (simp [own_nm, own_res, own_app, List.range, List.range.loop, show (0 : Int32).toNatClampNeg = 0 by decide, show (1 : Int32).toNatClampNeg = 1 by decide, show (2 : Int32).toNatClampNeg = 2 by decide, show (3 : Int32).toNatClampNeg = 3 by decide, show (4 : Int32).toNatClampNeg = 4 by decide, show (5 : Int32).toNatClampNeg = 5 by decide]; done)
  rw [e1, e2] at A; exact A
theorem own_nmA12 {Z : State} {h : Heap} {a : Addr} {k : ClassId} {x0 y0 y1 : Value} (A : Arv Z h a k .byte (own_cnt (1 : Int32) (2 : Int32)) (own_nm (1 : Int32) [x0] (2 : Int32) [y0, y1]) (.int (0 : Int32))) : Arv Z h a k .byte (4 : Int32) [x0, (.int (45 : Int32)), y0, y1] (.int (0 : Int32)) := by
  have e1 : own_cnt (1 : Int32) (2 : Int32) = (4 : Int32) := by decide
  have e2 : own_nm (1 : Int32) [x0] (2 : Int32) [y0, y1] = [x0, (.int (45 : Int32)), y0, y1] := by first | rfl | (simp [own_nm, own_res, own_app, List.range, List.range.loop, show (0 : Int32).toNatClampNeg = 0 by decide, show (1 : Int32).toNatClampNeg = 1 by decide, show (2 : Int32).toNatClampNeg = 2 by decide, show (3 : Int32).toNatClampNeg = 3 by decide, show (4 : Int32).toNatClampNeg = 4 by decide, show (5 : Int32).toNatClampNeg = 5 by decide]; done)
  rw [e1, e2] at A; exact A
theorem own_nmA20 {Z : State} {h : Heap} {a : Addr} {k : ClassId} {x0 x1 : Value} (A : Arv Z h a k .byte (own_cnt (2 : Int32) (0 : Int32)) (own_nm (2 : Int32) [x0, x1] (0 : Int32) []) (.int (0 : Int32))) : Arv Z h a k .byte (3 : Int32) [x0, x1, (.int (45 : Int32))] (.int (0 : Int32)) := by
  have e1 : own_cnt (2 : Int32) (0 : Int32) = (3 : Int32) := by decide
  have e2 : own_nm (2 : Int32) [x0, x1] (0 : Int32) [] = [x0, x1, (.int (45 : Int32))] := by first | rfl | (simp [own_nm, own_res, own_app, List.range, List.range.loop, show (0 : Int32).toNatClampNeg = 0 by decide, show (1 : Int32).toNatClampNeg = 1 by decide, show (2 : Int32).toNatClampNeg = 2 by decide, show (3 : Int32).toNatClampNeg = 3 by decide, show (4 : Int32).toNatClampNeg = 4 by decide, show (5 : Int32).toNatClampNeg = 5 by decide]; done)
  rw [e1, e2] at A; exact A
theorem own_nmA21 {Z : State} {h : Heap} {a : Addr} {k : ClassId} {x0 x1 y0 : Value} (A : Arv Z h a k .byte (own_cnt (2 : Int32) (1 : Int32)) (own_nm (2 : Int32) [x0, x1] (1 : Int32) [y0]) (.int (0 : Int32))) : Arv Z h a k .byte (4 : Int32) [x0, x1, (.int (45 : Int32)), y0] (.int (0 : Int32)) := by
  have e1 : own_cnt (2 : Int32) (1 : Int32) = (4 : Int32) := by decide
  have e2 : own_nm (2 : Int32) [x0, x1] (1 : Int32) [y0] = [x0, x1, (.int (45 : Int32)), y0] := by first | rfl | (simp [own_nm, own_res, own_app, List.range, List.range.loop, show (0 : Int32).toNatClampNeg = 0 by decide, show (1 : Int32).toNatClampNeg = 1 by decide, show (2 : Int32).toNatClampNeg = 2 by decide, show (3 : Int32).toNatClampNeg = 3 by decide, show (4 : Int32).toNatClampNeg = 4 by decide, show (5 : Int32).toNatClampNeg = 5 by decide]; done)
  rw [e1, e2] at A; exact A
theorem own_nmA22 {Z : State} {h : Heap} {a : Addr} {k : ClassId} {x0 x1 y0 y1 : Value} (A : Arv Z h a k .byte (own_cnt (2 : Int32) (2 : Int32)) (own_nm (2 : Int32) [x0, x1] (2 : Int32) [y0, y1]) (.int (0 : Int32))) : Arv Z h a k .byte (5 : Int32) [x0, x1, (.int (45 : Int32)), y0, y1] (.int (0 : Int32)) := by
  have e1 : own_cnt (2 : Int32) (2 : Int32) = (5 : Int32) := by decide
  have e2 : own_nm (2 : Int32) [x0, x1] (2 : Int32) [y0, y1] = [x0, x1, (.int (45 : Int32)), y0, y1] := by first | rfl | (simp [own_nm, own_res, own_app, List.range, List.range.loop, show (0 : Int32).toNatClampNeg = 0 by decide, show (1 : Int32).toNatClampNeg = 1 by decide, show (2 : Int32).toNatClampNeg = 2 by decide, show (3 : Int32).toNatClampNeg = 3 by decide, show (4 : Int32).toNatClampNeg = 4 by decide, show (5 : Int32).toNatClampNeg = 5 by decide]; done)
  rw [e1, e2] at A; exact A
theorem d12_0 : decode jdk_42_method_152_code 0 = .ok (.getstatic 38, 3) := by decide +kernel
theorem d12_3 : decode jdk_42_method_152_code 3 = .ok (.ifCond .eq 10, 3) := by decide +kernel
theorem d12_6 : decode jdk_42_method_152_code 6 = .ok (.aload_n 0, 1) := by decide +kernel
theorem d12_7 : decode jdk_42_method_152_code 7 = .ok (.getfield 15, 3) := by decide +kernel
theorem d12_10 : decode jdk_42_method_152_code 10 = .ok (.goto 4, 3) := by decide +kernel
theorem d12_13 : decode jdk_42_method_152_code 13 = .ok (.iconst 1, 1) := by decide +kernel
theorem d12_14 : decode jdk_42_method_152_code 14 = .ok (.ireturn, 1) := by decide +kernel
theorem pd0 : parseMethodDescriptor "()B" = some ⟨[], some .byte⟩ := by decide +kernel
theorem pf_cod : plainFor (⟨"java/lang/String", "coder", "()B"⟩ : MethodName) = true := by first | exact plainFor_of_name (by first | (simp [plainName, overriddenIn, x]; done) | decide +kernel) | exact Jvm.Free.JP.mathPlain rfl (by decide +kernel) | decide +kernel
theorem ef_cod (m : MethodId) (sa : Addr) : entryFrame m #[(.ref sa)] 1 = mkF m 0 #[rv sa] [] := by first | (simp [entryFrame, mkF, argsToLocals, Value.category, maxLocals]; done) | rfl
def Q_cod (Z : State) (sa : Addr) (cz : Int32) (h0 : Heap) (n0 : Nat) (v : Option Value) (h : Heap) (L : List Loc) : Prop := v = some (.int (0 : Int32)) ∧ Fr n0 L ∧ h = h0
set_option maxRecDepth 65536 in
set_option maxHeartbeats 40000000 in
theorem rm_cod (l : Launch) (Z : State) (a0 : Array Value) (hw : ∀ d ∈ tables_1, d.before a0 Z = true) (ws : List Jvm.Cond) (sa : Addr) (cz : Int32) (h0 : Heap) (n0 : Nat) (Z0 : n0 ≤ h0.size) (P0 : Fld Z h0 sa "java/lang/String" "coder" "B" (.int (0 : Int32))) (P1 : Sta Z h0 "java/lang/String" "COMPACT_STRINGS" "Z" (.int cz)) (hz : ¬ cz = 0)  :
    MetFree l (⟨"java/lang/String", "coder", "()B"⟩ : MethodName) (head1 (Jvm.Cond.code (⟨"java/lang/String", "coder", "()B"⟩ : MethodName) jdk_42_method_152_code 1 (some .byte) :: ws) ({ frames := 0, cells := 0, slots := 0, locals := 0 } : Room)) (fun a U => a = #[(.ref sa)] ∧ Z.Warmed39 U.vm ∧ U.heap = h0) (fun _ _ _ _ _ => True) (fun _ U o U' => ∃ v L, o = .returned v ∧ Q_cod Z sa cz h0 n0 v U'.heap L ∧ FrameEnd U o U' L ({ frames := 0, cells := 0, slots := 0, locals := 0 } : Room).cells ({ frames := 0, cells := 0, slots := 0, locals := 0 } : Room).slots) := by
  refine MetFree.of_bodySF pf_cod hisR ?_
  intro p e s m args below meth c s₁ Bd hml0 hP hK
  obtain ⟨rfl, hZ, hh⟩ := hP
  have hx := Bd.exec
  have hby := Bd.bytes
  have hml : c.maxLocals = 1 := hml0
  have hown : s.vm.findClass "java/lang/String" = some m.cls := findClass_of_methodNamed Bd.named
  have hnm := (name_of_methodNamed Bd.named Bd.method).1
  have X0 : Stand p l e ({ frames := 0, cells := 0, slots := 0, locals := 0 } : Room) s m #[(.ref sa)] below meth c s₁ [] 0 0 := Stand.of_body Bd
  have e0 : s₁.heap = h0 := by rw [← hh, Bd.state]; rfl
  have N0 := Fr.nil n0
  obtain ⟨S0, hS0⟩ : ∃ z, z = s₁.setTop (entryFrame m #[(.ref sa)] 1) := ⟨_, rfl⟩
  rw [← hS0]
  have g0 : Goes p e below S0 (s₁.setTop (mkF m 0 #[rv sa] [])) := fun t k => by rw [hS0]; exact castTop (ef_cod m sa) k
  obtain ⟨T1, X1, e1, st1⟩ := getS (host := "") X0 hx hZ hown (hw _ (List.mem_of_getElem? (i := 87) rfl)) Via.refl e0 P1 (g := (mkF m 0 #[rv sa] [])) rfl (hb hby d12_0)
  have g2 : Goes p e below S0 (T1.setTop (mkF m 3 #[rv sa] [(.int cz)])) := fun t k => g0 t (st1 t k)
  have g3 : Goes p e below S0 (T1.setTop (mkF m 7 #[rv sa] [(.ref sa)])) := fun t k => g2 t (by
    refine XS.ifNo X1.here hx rfl (hb hby d12_3) rfl (XT.i0_eq_f hz) ?_
    show Go p e below t T1 m 6 #[rv sa] []
    refine XS.aloadN X1.here hx rfl (hb hby d12_6) rfl rfl ?_
    show Go p e below t T1 m 7 #[rv sa] [(.ref sa)]
    exact k)
  obtain ⟨T4, X4, e4, st4⟩ := getF X1 hx hZ hown (host := "") (Or.inl (hw _ (List.mem_of_getElem? (i := 25) rfl))) Via.refl e1 P0 (g := (mkF m 7 #[rv sa] [(.ref sa)])) rfl rfl (hb hby d12_7)
  have g5 : Goes p e below S0 (T4.setTop (mkF m 10 #[rv sa] [(.int (0 : Int32))])) := fun t k => g3 t (st4 t k)
  have g6 : Goes p e below S0 (T4.setTop (mkF m 14 #[rv sa] [(.int (0 : Int32))])) := fun t k => g5 t (by
    refine XS.goto X4.here hx rfl (pc0 := 10) (pc' := 14) rfl (hb hby d12_10) (by decide) (by decide) ?_
    show Go p e below t T4 m 14 #[rv sa] [(.int (0 : Int32))]
    exact k)
  obtain ⟨fs, hr, hrun, hended, hW, hsame⟩ := X4.leave (v := some (.int (nar .byte (0 : Int32)))) (fun h => by rw [Bd.returns] at h; cases h)
  refine ⟨_, _, g6 _ (retN X4 hx (t := .byte) Bd.returns (by simp) (hb hby d12_14) hr), hrun, hended, _, _, rfl, ?_, ⟨_, rfl⟩, hW, hsame.mono (by decide) (by decide)⟩
  show Q_cod Z sa cz h0 n0 _ T4.heap _
  rw [e4]
  exact ⟨(congrArg some (congrArg Value.int (by decide))), N0, rfl⟩
theorem d11_0 : decode jdk_42_method_54_code 0 = .ok (.aload_n 0, 1) := by decide +kernel
theorem d11_1 : decode jdk_42_method_54_code 1 = .ok (.getfield 9, 3) := by decide +kernel
theorem d11_4 : decode jdk_42_method_54_code 4 = .ok (.arraylength, 1) := by decide +kernel
theorem d11_5 : decode jdk_42_method_54_code 5 = .ok (.aload_n 0, 1) := by decide +kernel
theorem d11_6 : decode jdk_42_method_54_code 6 = .ok (.invokevirtual 335, 3) := by decide +kernel
theorem d11_9 : decode jdk_42_method_54_code 9 = .ok (.ishr, 1) := by decide +kernel
theorem d11_10 : decode jdk_42_method_54_code 10 = .ok (.ireturn, 1) := by decide +kernel
theorem pd1 : parseMethodDescriptor "()I" = some ⟨[], some .int⟩ := by decide +kernel
theorem pf_len : plainFor (⟨"java/lang/String", "length", "()I"⟩ : MethodName) = true := by first | exact plainFor_of_name (by first | (simp [plainName, overriddenIn, x]; done) | decide +kernel) | exact Jvm.Free.JP.mathPlain rfl (by decide +kernel) | decide +kernel
theorem ef_len (m : MethodId) (sa : Addr) : entryFrame m #[(.ref sa)] 1 = mkF m 0 #[rv sa] [] := by first | (simp [entryFrame, mkF, argsToLocals, Value.category, maxLocals]; done) | rfl
def Q_len (Z : State) (sa : Addr) (ba : Addr) (kb : ClassId) (zb : Int32) (us : List Value) (cz : Int32) (h0 : Heap) (n0 : Nat) (v : Option Value) (h : Heap) (L : List Loc) : Prop := v = some (.int zb) ∧ Fr n0 L ∧ h = h0
set_option maxRecDepth 65536 in
set_option maxHeartbeats 40000000 in
theorem rm_len (l : Launch) (Z : State) (a0 : Array Value) (hw : ∀ d ∈ tables_1, d.before a0 Z = true) (ws : List Jvm.Cond) (sa : Addr) (ba : Addr) (kb : ClassId) (zb : Int32) (us : List Value) (cz : Int32) (h0 : Heap) (n0 : Nat) (Z0 : n0 ≤ h0.size) (P0 : Exa Z h0 sa "java/lang/String") (P1 : Fld Z h0 sa "java/lang/String" "value" "[B" (.ref ba)) (P2 : Fld Z h0 sa "java/lang/String" "coder" "B" (.int (0 : Int32))) (P3 : Arv Z h0 ba kb .byte zb us (.int (0 : Int32))) (P4 : Sta Z h0 "java/lang/String" "COMPACT_STRINGS" "Z" (.int cz)) (hz : ¬ cz = 0)  :
    MetFree l (⟨"java/lang/String", "length", "()I"⟩ : MethodName) (head1 (Jvm.Cond.code (⟨"java/lang/String", "length", "()I"⟩ : MethodName) jdk_42_method_54_code 1 (some .int) :: ws) ({ frames := 1, cells := 0, slots := 0, locals := 13 } : Room)) (fun a U => a = #[(.ref sa)] ∧ Z.Warmed39 U.vm ∧ U.heap = h0) (fun _ _ _ _ _ => True) (fun _ U o U' => ∃ v L, o = .returned v ∧ Q_len Z sa ba kb zb us cz h0 n0 v U'.heap L ∧ FrameEnd U o U' L ({ frames := 1, cells := 0, slots := 0, locals := 13 } : Room).cells ({ frames := 1, cells := 0, slots := 0, locals := 13 } : Room).slots) := by
  refine MetFree.of_bodySF pf_len hisR ?_
  intro p e s m args below meth c s₁ Bd hml0 hP hK
  obtain ⟨rfl, hZ, hh⟩ := hP
  have hx := Bd.exec
  have hby := Bd.bytes
  have hml : c.maxLocals = 1 := hml0
  have hown : s.vm.findClass "java/lang/String" = some m.cls := findClass_of_methodNamed Bd.named
  have hnm := (name_of_methodNamed Bd.named Bd.method).1
  have X0 : Stand p l e ({ frames := 1, cells := 0, slots := 0, locals := 13 } : Room) s m #[(.ref sa)] below meth c s₁ [] 0 0 := Stand.of_body Bd
  have e0 : s₁.heap = h0 := by rw [← hh, Bd.state]; rfl
  have N0 := Fr.nil n0
  obtain ⟨S0, hS0⟩ : ∃ z, z = s₁.setTop (entryFrame m #[(.ref sa)] 1) := ⟨_, rfl⟩
  rw [← hS0]
  have g0 : Goes p e below S0 (s₁.setTop (mkF m 0 #[rv sa] [])) := fun t k => by rw [hS0]; exact castTop (ef_len m sa) k
  have g7 : Goes p e below S0 (s₁.setTop (mkF m 1 #[rv sa] [(.ref sa)])) := fun t k => g0 t (by
    refine XS.aloadN X0.here hx rfl (hb hby d11_0) rfl rfl ?_
    show Go p e below t s₁ m 1 #[rv sa] [(.ref sa)]
    exact k)
  obtain ⟨T8, X8, e8, st8⟩ := getF X0 hx hZ hown (host := "") (Or.inl (hw _ (List.mem_of_getElem? (i := 24) rfl))) Via.refl e0 P1 (g := (mkF m 1 #[rv sa] [(.ref sa)])) rfl rfl (hb hby d11_1)
  have g9 : Goes p e below S0 (T8.setTop (mkF m 4 #[rv sa] [(.ref ba)])) := fun t k => g7 t (st8 t k)
  obtain ⟨cl10, Ar10, q10, S10, M10, H10, G10⟩ := id P3
  have g11 : Goes p e below S0 (T8.setTop (mkF m 6 #[rv sa] [(.ref sa), (.int zb)])) := fun t k => g9 t (by
    refine X8.arraylength hx (by rw [e8]; exact Ar10.1) (State.isArrayOf_alike hZ.alike Ar10.2.1) (g := (mkF m 4 #[rv sa] [(.ref ba)])) rfl rfl (hb hby d11_4) _ ?_
    rw [len_of S10 M10]
    show Go p e below t T8 m 5 #[rv sa] [(.int zb)]
    refine XS.aloadN X8.here hx rfl (hb hby d11_5) rfl rfl ?_
    show Go p e below t T8 m 6 #[rv sa] [(.ref sa), (.int zb)]
    exact k)
  obtain ⟨cq12, kq12, q12a, q12b, q12c⟩ := isOf hZ e8 P0
  obtain ⟨_, _, ⟨T12, L12, k12, n12⟩, -, X12, ⟨Lc12, hQ12, l12, y12, z12⟩, st12⟩ := X8.virtualBack hx (y := (⟨"java/lang/String", "coder", "()B"⟩ : MethodName)) (z := (⟨"java/lang/String", "coder", "()B"⟩ : MethodName)) hown (mvT hZ (hw _ (List.mem_of_getElem? (i := 82) rfl))) (mvT hZ (hw _ (List.mem_of_getElem? (i := 83) rfl))) (notFace_of_selects (args := #[]) (mvT hZ (hw _ (List.mem_of_getElem? (i := 85) rfl)))) (mvT hZ (hw _ (List.mem_of_getElem? (i := 85) rfl))) (mvT hZ (hw _ (List.mem_of_getElem? (i := 84) rfl))) (by decide) (backOf (W := 1) (rm_cod l Z a0 hw [] sa cz h0 n0 Z0 P2 P4 hz) hZ (hw _ (List.mem_of_getElem? (i := 86) rfl)) (hw _ (List.mem_of_getElem? (i := 6) rfl)) (by decide) (by decide)) q12a q12c (g := (mkF m 6 #[rv sa] [(.ref sa), (.int zb)])) rfl (by rw [hml]; rfl) (Steps.refl _) (argsL := []) (rest := [(.int zb)]) (lenOf pd0 rfl) rfl (by show 2 * 0 + _ ≤ _; exact Nat.le_of_eq rfl) (hb hby d11_6) (fun _ _ => ⟨rfl, e8, (by decide : 0 + 0 ≤ _), (by decide : 0 + 0 ≤ _)⟩)
  dsimp only [Pt.U, Pt.locs, Pt.cells, Pt.slots] at X12 l12 y12 z12 st12 hQ12
  subst l12 y12 z12
  obtain ⟨rfl, N12, R12_0⟩ := hQ12
  have M12 := Fr.app N0 N12
  have g13 : Goes p e below S0 (T12.setTop (mkF m 9 #[rv sa] [(.int (0 : Int32)), (.int zb)])) := fun t k => g11 t (st12.trans k)
  have g14 : Goes p e below S0 (T12.setTop (mkF m 10 #[rv sa] [(.int (zb >>> ((0 : Int32) &&& 31)))])) := fun t k => g13 t (by
    refine XS.ishr X12.here hx rfl (hb hby d11_9) rfl ?_
    show Go p e below t T12 m 10 #[rv sa] [(.int (zb >>> ((0 : Int32) &&& 31)))]
    exact k)
  rw [show (zb >>> ((0 : Int32) &&& 31)) = zb from (own_shr0 _)] at g14
  obtain ⟨fs, hr, hrun, hended, hW, hsame⟩ := X12.leave (v := some (.int zb)) (fun h => by rw [Bd.returns] at h; cases h)
  refine ⟨_, _, g14 _ (retOut X12 hx Bd.returns rfl (Or.inl ⟨rfl, Or.inl rfl, _, rfl⟩) (hb hby d11_10) hr), hrun, hended, _, _, rfl, ?_, ⟨_, rfl⟩, hW, hsame.mono (by decide) (by decide)⟩
  show Q_len Z sa ba kb zb us cz h0 n0 _ T12.heap _
  rw [R12_0]
  exact ⟨rfl, M12, rfl⟩
theorem d34_0 : decode jdk_52_method_21_code 0 = .ok (.iconst 0, 1) := by decide +kernel
theorem d34_1 : decode jdk_52_method_21_code 1 = .ok (.istore 5, 2) := by decide +kernel
theorem d34_3 : decode jdk_52_method_21_code 3 = .ok (.iload 5, 2) := by decide +kernel
theorem d34_5 : decode jdk_52_method_21_code 5 = .ok (.iload 4, 2) := by decide +kernel
theorem d34_7 : decode jdk_52_method_21_code 7 = .ok (.if_icmp .ge 37, 3) := by decide +kernel
theorem d34_10 : decode jdk_52_method_21_code 10 = .ok (.aload_n 0, 1) := by decide +kernel
theorem d34_11 : decode jdk_52_method_21_code 11 = .ok (.iload_n 1, 1) := by decide +kernel
theorem d34_12 : decode jdk_52_method_21_code 12 = .ok (.caload, 1) := by decide +kernel
theorem d34_13 : decode jdk_52_method_21_code 13 = .ok (.istore 6, 2) := by decide +kernel
theorem d34_15 : decode jdk_52_method_21_code 15 = .ok (.iload 6, 2) := by decide +kernel
theorem d34_17 : decode jdk_52_method_21_code 17 = .ok (.sipush 255, 3) := by decide +kernel
theorem d34_20 : decode jdk_52_method_21_code 20 = .ok (.if_icmp .le 6, 3) := by decide +kernel
theorem d34_23 : decode jdk_52_method_21_code 23 = .ok (.iload 5, 2) := by decide +kernel
theorem d34_25 : decode jdk_52_method_21_code 25 = .ok (.ireturn, 1) := by decide +kernel
theorem d34_26 : decode jdk_52_method_21_code 26 = .ok (.aload_n 2, 1) := by decide +kernel
theorem d34_27 : decode jdk_52_method_21_code 27 = .ok (.iload_n 3, 1) := by decide +kernel
theorem d34_28 : decode jdk_52_method_21_code 28 = .ok (.iload 6, 2) := by decide +kernel
theorem d34_30 : decode jdk_52_method_21_code 30 = .ok (.i2b, 1) := by decide +kernel
theorem d34_31 : decode jdk_52_method_21_code 31 = .ok (.bastore, 1) := by decide +kernel
theorem d34_32 : decode jdk_52_method_21_code 32 = .ok (.iinc 1 1, 3) := by decide +kernel
theorem d34_35 : decode jdk_52_method_21_code 35 = .ok (.iinc 3 1, 3) := by decide +kernel
theorem d34_38 : decode jdk_52_method_21_code 38 = .ok (.iinc 5 1, 3) := by decide +kernel
theorem d34_41 : decode jdk_52_method_21_code 41 = .ok (.goto (-38), 3) := by decide +kernel
theorem d34_44 : decode jdk_52_method_21_code 44 = .ok (.iload 4, 2) := by decide +kernel
theorem d34_46 : decode jdk_52_method_21_code 46 = .ok (.ireturn, 1) := by decide +kernel
theorem pd2 : parseMethodDescriptor "([CI[BII)I" = some ⟨[(.array .char), .int, (.array .byte), .int, .int], some .int⟩ := by decide +kernel
theorem pf_czl1 : plainFor (⟨"java/lang/StringUTF16", "compress", "([CI[BII)I"⟩ : MethodName) = true := by first | exact plainFor_of_name (by first | (simp [plainName, overriddenIn, x]; done) | decide +kernel) | exact Jvm.Free.JP.mathPlain rfl (by decide +kernel) | decide +kernel
theorem ef_czl1 (m : MethodId) (ca : Addr) (xo : Int32) (ba : Addr) (yo : Int32) (xl : Int32) : entryFrame m #[(.ref ca), (.int xo), (.ref ba), (.int yo), (.int xl)] 7 = mkF m 0 #[rv ca, iv xo, rv ba, iv yo, iv xl, .unset, .unset] [] := by first | (simp [entryFrame, mkF, argsToLocals, Value.category, maxLocals]; done) | rfl
def Q_czl1 (Z : State) (ca : Addr) (xo : Int32) (ba : Addr) (yo : Int32) (xl : Int32) (kc : ClassId) (kb : ClassId) (v0 : Int32) (h0 : Heap) (n0 : Nat) (v : Option Value) (h : Heap) (L : List Loc) : Prop := v = some (.int (1 : Int32)) ∧ Fr n0 L ∧ (Keep h0 h [ba]) ∧ (Arv Z h ba kb .byte (1 : Int32) [(.int (((v0).toInt8.toInt32).toInt8.toInt32))] (.int (0 : Int32)))
set_option maxRecDepth 65536 in
set_option maxHeartbeats 40000000 in
theorem rm_czl1 (l : Launch) (Z : State) (a0 : Array Value) (hw : ∀ d ∈ tables_1, d.before a0 Z = true) (ws : List Jvm.Cond) (ca : Addr) (xo : Int32) (ba : Addr) (yo : Int32) (xl : Int32) (kc : ClassId) (kb : ClassId) (v0 : Int32) (h0 : Heap) (n0 : Nat) (Z0 : n0 ≤ h0.size) (P0 : Arv Z h0 ca kc .char (1 : Int32) [(.int v0)] (.int (0 : Int32))) (P1 : Arv Z h0 ba kb .byte (1 : Int32) [(.int (0 : Int32))] (.int (0 : Int32))) (P2 : n0 ≤ ba) (P3 : ca ≠ ba) (hv0 : ¬ ((255 : Int32) < v0)) (q1 : xo = (0 : Int32)) (q2 : yo = (0 : Int32)) (q3 : xl = (1 : Int32))  :
    MetFree l (⟨"java/lang/StringUTF16", "compress", "([CI[BII)I"⟩ : MethodName) (head1 (Jvm.Cond.code (⟨"java/lang/StringUTF16", "compress", "([CI[BII)I"⟩ : MethodName) jdk_52_method_21_code 7 (some .int) :: ws) ({ frames := 0, cells := 0, slots := 0, locals := 0 } : Room)) (fun a U => a = #[(.ref ca), (.int xo), (.ref ba), (.int yo), (.int xl)] ∧ Z.Warmed39 U.vm ∧ U.heap = h0) (fun _ _ _ _ _ => True) (fun _ U o U' => ∃ v L, o = .returned v ∧ Q_czl1 Z ca xo ba yo xl kc kb v0 h0 n0 v U'.heap L ∧ FrameEnd U o U' L ({ frames := 0, cells := 0, slots := 0, locals := 0 } : Room).cells ({ frames := 0, cells := 0, slots := 0, locals := 0 } : Room).slots) := by
  refine MetFree.of_bodySF pf_czl1 hisR ?_
  intro p e s m args below meth c s₁ Bd hml0 hP hK
  obtain ⟨rfl, hZ, hh⟩ := hP
  have hx := Bd.exec
  have hby := Bd.bytes
  have hml : c.maxLocals = 7 := hml0
  have hown : s.vm.findClass "java/lang/StringUTF16" = some m.cls := findClass_of_methodNamed Bd.named
  have hnm := (name_of_methodNamed Bd.named Bd.method).1
  have X0 : Stand p l e ({ frames := 0, cells := 0, slots := 0, locals := 0 } : Room) s m #[(.ref ca), (.int xo), (.ref ba), (.int yo), (.int xl)] below meth c s₁ [] 0 0 := Stand.of_body Bd
  have e0 : s₁.heap = h0 := by rw [← hh, Bd.state]; rfl
  have N0 := Fr.nil n0
  obtain ⟨S0, hS0⟩ : ∃ z, z = s₁.setTop (entryFrame m #[(.ref ca), (.int xo), (.ref ba), (.int yo), (.int xl)] 7) := ⟨_, rfl⟩
  rw [← hS0]
  have g0 : Goes p e below S0 (s₁.setTop (mkF m 0 #[rv ca, iv xo, rv ba, iv yo, iv xl, .unset, .unset] [])) := fun t k => by rw [hS0]; exact castTop (ef_czl1 m ca xo ba yo xl) k
  obtain rfl : xo = (0 : Int32) := q1
  obtain rfl : yo = (0 : Int32) := q2
  obtain rfl : xl = (1 : Int32) := q3
  have g15 : Goes p e below S0 (s₁.setTop (mkF m 12 #[rv ca, iv (0 : Int32), rv ba, iv (0 : Int32), iv (1 : Int32), iv (0 : Int32), .unset] [(.int (0 : Int32)), (.ref ca)])) := fun t k => g0 t (by
    refine XT.iconstV X0.here hx rfl (0 : Int32) (hb hby d34_0) (by decide) ?_
    show Go p e below t s₁ m 1 #[rv ca, iv (0 : Int32), rv ba, iv (0 : Int32), iv (1 : Int32), .unset, .unset] [(.int (0 : Int32))]
    refine XS.istore X0.here hx rfl (hb hby d34_1) rfl (l' := #[rv ca, iv (0 : Int32), rv ba, iv (0 : Int32), iv (1 : Int32), iv (0 : Int32), .unset]) rfl ?_
    show Go p e below t s₁ m 3 #[rv ca, iv (0 : Int32), rv ba, iv (0 : Int32), iv (1 : Int32), iv (0 : Int32), .unset] []
    refine XS.iload X0.here hx rfl (hb hby d34_3) rfl ?_
    show Go p e below t s₁ m 5 #[rv ca, iv (0 : Int32), rv ba, iv (0 : Int32), iv (1 : Int32), iv (0 : Int32), .unset] [(.int (0 : Int32))]
    refine XS.iload X0.here hx rfl (hb hby d34_5) rfl ?_
    show Go p e below t s₁ m 7 #[rv ca, iv (0 : Int32), rv ba, iv (0 : Int32), iv (1 : Int32), iv (0 : Int32), .unset] [(.int (1 : Int32)), (.int (0 : Int32))]
    refine XS.icmpNo X0.here hx rfl (hb hby d34_7) rfl (XT.ii_ge_f (by decide)) ?_
    show Go p e below t s₁ m 10 #[rv ca, iv (0 : Int32), rv ba, iv (0 : Int32), iv (1 : Int32), iv (0 : Int32), .unset] []
    refine XS.aloadN X0.here hx rfl (hb hby d34_10) rfl rfl ?_
    show Go p e below t s₁ m 11 #[rv ca, iv (0 : Int32), rv ba, iv (0 : Int32), iv (1 : Int32), iv (0 : Int32), .unset] [(.ref ca)]
    refine XS.iloadN X0.here hx rfl (hb hby d34_11) rfl ?_
    show Go p e below t s₁ m 12 #[rv ca, iv (0 : Int32), rv ba, iv (0 : Int32), iv (1 : Int32), iv (0 : Int32), .unset] [(.int (0 : Int32)), (.ref ca)]
    exact k)
  obtain ⟨cl16, Ar16, q16, S16, M16, H16, G16⟩ := id P0
  have g17 : Goes p e below S0 (s₁.setTop (mkF m 31 #[rv ca, iv (0 : Int32), rv ba, iv (0 : Int32), iv (1 : Int32), iv (0 : Int32), iv v0] [(.int ((v0).toInt8.toInt32)), (.int (0 : Int32)), (.ref ba)])) := fun t k => g15 t (by
    refine X0.caload hx (j := (0 : Int32)) (v := (.int v0)) (by rw [e0]; exact Ar16.1) (State.isArrayOf_alike hZ.alike Ar16.2.1) Ar16.2.2 (inb_of S16 ⟨by decide, by decide⟩) (H16.at (inb_of S16 ⟨by decide, by decide⟩) rfl) (g := (mkF m 12 #[rv ca, iv (0 : Int32), rv ba, iv (0 : Int32), iv (1 : Int32), iv (0 : Int32), .unset] [(.int (0 : Int32)), (.ref ca)])) rfl rfl (hb hby d34_12) _ ?_
    show Go p e below t s₁ m 13 #[rv ca, iv (0 : Int32), rv ba, iv (0 : Int32), iv (1 : Int32), iv (0 : Int32), .unset] [(.int v0)]
    refine XS.istore X0.here hx rfl (hb hby d34_13) rfl (l' := #[rv ca, iv (0 : Int32), rv ba, iv (0 : Int32), iv (1 : Int32), iv (0 : Int32), iv v0]) rfl ?_
    show Go p e below t s₁ m 15 #[rv ca, iv (0 : Int32), rv ba, iv (0 : Int32), iv (1 : Int32), iv (0 : Int32), iv v0] []
    refine XS.iload X0.here hx rfl (hb hby d34_15) rfl ?_
    show Go p e below t s₁ m 17 #[rv ca, iv (0 : Int32), rv ba, iv (0 : Int32), iv (1 : Int32), iv (0 : Int32), iv v0] [(.int v0)]
    refine XT.sipushV X0.here hx rfl (255 : Int32) (hb hby d34_17) (by decide) ?_
    show Go p e below t s₁ m 20 #[rv ca, iv (0 : Int32), rv ba, iv (0 : Int32), iv (1 : Int32), iv (0 : Int32), iv v0] [(.int (255 : Int32)), (.int v0)]
    refine XS.icmpYes X0.here hx rfl (pc0 := 20) (pc' := 26) rfl (hb hby d34_20) rfl (XT.ii_le_t hv0) (by decide) (by decide) ?_
    show Go p e below t s₁ m 26 #[rv ca, iv (0 : Int32), rv ba, iv (0 : Int32), iv (1 : Int32), iv (0 : Int32), iv v0] []
    refine XS.aloadN X0.here hx rfl (hb hby d34_26) rfl rfl ?_
    show Go p e below t s₁ m 27 #[rv ca, iv (0 : Int32), rv ba, iv (0 : Int32), iv (1 : Int32), iv (0 : Int32), iv v0] [(.ref ba)]
    refine XS.iloadN X0.here hx rfl (hb hby d34_27) rfl ?_
    show Go p e below t s₁ m 28 #[rv ca, iv (0 : Int32), rv ba, iv (0 : Int32), iv (1 : Int32), iv (0 : Int32), iv v0] [(.int (0 : Int32)), (.ref ba)]
    refine XS.iload X0.here hx rfl (hb hby d34_28) rfl ?_
    show Go p e below t s₁ m 30 #[rv ca, iv (0 : Int32), rv ba, iv (0 : Int32), iv (1 : Int32), iv (0 : Int32), iv v0] [(.int v0), (.int (0 : Int32)), (.ref ba)]
    refine XS.i2b X0.here hx rfl (hb hby d34_30) rfl ?_
    show Go p e below t s₁ m 31 #[rv ca, iv (0 : Int32), rv ba, iv (0 : Int32), iv (1 : Int32), iv (0 : Int32), iv v0] [(.int ((v0).toInt8.toInt32)), (.int (0 : Int32)), (.ref ba)]
    exact k)
  obtain ⟨cl18, Ar18, q18, S18, M18, H18, G18⟩ := id P1
  obtain ⟨T19, h19, X19, e19, W19, st19⟩ := stB X0 hx hZ e0 Ar18 (j := (0 : Int32)) (inb_of S18 ⟨by decide, by decide⟩) (g := (mkF m 31 #[rv ca, iv (0 : Int32), rv ba, iv (0 : Int32), iv (1 : Int32), iv (0 : Int32), iv v0] [(.int ((v0).toInt8.toInt32)), (.int (0 : Int32)), (.ref ba)])) rfl rfl (hb hby d34_31)
  have N19 := Fr.snoc X19 N0 P2
  have V19 : Arv Z h19 ba kb .byte (1 : Int32) [(.int ((((v0).toInt8.toInt32)).toInt8.toInt32))] (.int (0 : Int32)) := Arv.set Ar18 q18 S18 M18 H18 G18 (fits_nar_byte _) W19 0 rfl (Nat.le_of_ble_eq_true rfl)
  have g20 : Goes p e below S0 (T19.setTop (mkF m 32 #[rv ca, iv (0 : Int32), rv ba, iv (0 : Int32), iv (1 : Int32), iv (0 : Int32), iv v0] [])) := fun t k => g17 t (st19 t k)
  have g21 : Goes p e below S0 (T19.setTop (mkF m 46 #[rv ca, iv (1 : Int32), rv ba, iv (1 : Int32), iv (1 : Int32), iv (1 : Int32), iv v0] [(.int (1 : Int32))])) := fun t k => g20 t (by
    refine XT.iincV X19.here hx rfl (1 : Int32) (hb hby d34_32) (by decide) rfl (l' := #[rv ca, iv (1 : Int32), rv ba, iv (0 : Int32), iv (1 : Int32), iv (0 : Int32), iv v0]) rfl ?_
    show Go p e below t T19 m 35 #[rv ca, iv (1 : Int32), rv ba, iv (0 : Int32), iv (1 : Int32), iv (0 : Int32), iv v0] []
    refine XT.iincV X19.here hx rfl (1 : Int32) (hb hby d34_35) (by decide) rfl (l' := #[rv ca, iv (1 : Int32), rv ba, iv (1 : Int32), iv (1 : Int32), iv (0 : Int32), iv v0]) rfl ?_
    show Go p e below t T19 m 38 #[rv ca, iv (1 : Int32), rv ba, iv (1 : Int32), iv (1 : Int32), iv (0 : Int32), iv v0] []
    refine XT.iincV X19.here hx rfl (1 : Int32) (hb hby d34_38) (by decide) rfl (l' := #[rv ca, iv (1 : Int32), rv ba, iv (1 : Int32), iv (1 : Int32), iv (1 : Int32), iv v0]) rfl ?_
    show Go p e below t T19 m 41 #[rv ca, iv (1 : Int32), rv ba, iv (1 : Int32), iv (1 : Int32), iv (1 : Int32), iv v0] []
    refine XS.goto X19.here hx rfl (pc0 := 41) (pc' := 3) rfl (hb hby d34_41) (by decide) (by decide) ?_
    show Go p e below t T19 m 3 #[rv ca, iv (1 : Int32), rv ba, iv (1 : Int32), iv (1 : Int32), iv (1 : Int32), iv v0] []
    refine XS.iload X19.here hx rfl (hb hby d34_3) rfl ?_
    show Go p e below t T19 m 5 #[rv ca, iv (1 : Int32), rv ba, iv (1 : Int32), iv (1 : Int32), iv (1 : Int32), iv v0] [(.int (1 : Int32))]
    refine XS.iload X19.here hx rfl (hb hby d34_5) rfl ?_
    show Go p e below t T19 m 7 #[rv ca, iv (1 : Int32), rv ba, iv (1 : Int32), iv (1 : Int32), iv (1 : Int32), iv v0] [(.int (1 : Int32)), (.int (1 : Int32))]
    refine XS.icmpYes X19.here hx rfl (pc0 := 7) (pc' := 44) rfl (hb hby d34_7) rfl (XT.ii_ge_t (by decide)) (by decide) (by decide) ?_
    show Go p e below t T19 m 44 #[rv ca, iv (1 : Int32), rv ba, iv (1 : Int32), iv (1 : Int32), iv (1 : Int32), iv v0] []
    refine XS.iload X19.here hx rfl (hb hby d34_44) rfl ?_
    show Go p e below t T19 m 46 #[rv ca, iv (1 : Int32), rv ba, iv (1 : Int32), iv (1 : Int32), iv (1 : Int32), iv v0] [(.int (1 : Int32))]
    exact k)
  obtain ⟨fs, hr, hrun, hended, hW, hsame⟩ := X19.leave (v := some (.int (1 : Int32))) (fun h => by rw [Bd.returns] at h; cases h)
  refine ⟨_, _, g21 _ (retOut X19 hx Bd.returns rfl (Or.inl ⟨rfl, Or.inl rfl, _, rfl⟩) (hb hby d34_46) hr), hrun, hended, _, _, rfl, ?_, ⟨_, rfl⟩, hW, hsame.mono (by decide) (by decide)⟩
  show Q_czl1 Z ca (0 : Int32) ba (0 : Int32) (1 : Int32) kc kb v0 h0 n0 _ T19.heap _
  rw [e19]
  exact ⟨rfl, N19, ((Keep.refl h0 [ba]).wr W19 (Or.inl (List.mem_of_getElem? (i := 0) rfl))), V19⟩
theorem d33_0 : decode jdk_52_method_16_code 0 = .ok (.iload_n 2, 1) := by decide +kernel
theorem d33_1 : decode jdk_52_method_16_code 1 = .ok (.newarray .byte, 2) := by decide +kernel
theorem d33_3 : decode jdk_52_method_16_code 3 = .ok (.astore_n 3, 1) := by decide +kernel
theorem d33_4 : decode jdk_52_method_16_code 4 = .ok (.aload_n 0, 1) := by decide +kernel
theorem d33_5 : decode jdk_52_method_16_code 5 = .ok (.iload_n 1, 1) := by decide +kernel
theorem d33_6 : decode jdk_52_method_16_code 6 = .ok (.aload_n 3, 1) := by decide +kernel
theorem d33_7 : decode jdk_52_method_16_code 7 = .ok (.iconst 0, 1) := by decide +kernel
theorem d33_8 : decode jdk_52_method_16_code 8 = .ok (.iload_n 2, 1) := by decide +kernel
theorem d33_9 : decode jdk_52_method_16_code 9 = .ok (.invokestatic 115, 3) := by decide +kernel
theorem d33_12 : decode jdk_52_method_16_code 12 = .ok (.istore 4, 2) := by decide +kernel
theorem d33_14 : decode jdk_52_method_16_code 14 = .ok (.iload 4, 2) := by decide +kernel
theorem d33_16 : decode jdk_52_method_16_code 16 = .ok (.iload_n 2, 1) := by decide +kernel
theorem d33_17 : decode jdk_52_method_16_code 17 = .ok (.if_icmp .eq 40, 3) := by decide +kernel
theorem d33_20 : decode jdk_52_method_16_code 20 = .ok (.aload_n 0, 1) := by decide +kernel
theorem d33_21 : decode jdk_52_method_16_code 21 = .ok (.iload_n 1, 1) := by decide +kernel
theorem d33_22 : decode jdk_52_method_16_code 22 = .ok (.iload_n 2, 1) := by decide +kernel
theorem d33_23 : decode jdk_52_method_16_code 23 = .ok (.invokestatic 119, 3) := by decide +kernel
theorem d33_26 : decode jdk_52_method_16_code 26 = .ok (.astore 5, 2) := by decide +kernel
theorem d33_28 : decode jdk_52_method_16_code 28 = .ok (.aload 5, 2) := by decide +kernel
theorem d33_30 : decode jdk_52_method_16_code 30 = .ok (.iload 4, 2) := by decide +kernel
theorem d33_32 : decode jdk_52_method_16_code 32 = .ok (.invokestatic 71, 3) := by decide +kernel
theorem d33_35 : decode jdk_52_method_16_code 35 = .ok (.sipush 255, 3) := by decide +kernel
theorem d33_38 : decode jdk_52_method_16_code 38 = .ok (.if_icmp .gt 16, 3) := by decide +kernel
theorem d33_41 : decode jdk_52_method_16_code 41 = .ok (.aload 5, 2) := by decide +kernel
theorem d33_43 : decode jdk_52_method_16_code 43 = .ok (.iconst 0, 1) := by decide +kernel
theorem d33_44 : decode jdk_52_method_16_code 44 = .ok (.aload_n 3, 1) := by decide +kernel
theorem d33_45 : decode jdk_52_method_16_code 45 = .ok (.iconst 0, 1) := by decide +kernel
theorem d33_46 : decode jdk_52_method_16_code 46 = .ok (.iload_n 2, 1) := by decide +kernel
theorem d33_47 : decode jdk_52_method_16_code 47 = .ok (.invokestatic 123, 3) := by decide +kernel
theorem d33_50 : decode jdk_52_method_16_code 50 = .ok (.iload_n 2, 1) := by decide +kernel
theorem d33_51 : decode jdk_52_method_16_code 51 = .ok (.if_icmp .eq 6, 3) := by decide +kernel
theorem d33_54 : decode jdk_52_method_16_code 54 = .ok (.aload 5, 2) := by decide +kernel
theorem d33_56 : decode jdk_52_method_16_code 56 = .ok (.areturn, 1) := by decide +kernel
theorem d33_57 : decode jdk_52_method_16_code 57 = .ok (.aload_n 3, 1) := by decide +kernel
theorem d33_58 : decode jdk_52_method_16_code 58 = .ok (.areturn, 1) := by decide +kernel
theorem pd3 : parseMethodDescriptor "([CII)[B" = some ⟨[(.array .char), .int, .int], some (.array .byte)⟩ := by decide +kernel
theorem pf_cma1 : plainFor (⟨"java/lang/StringUTF16", "compress", "([CII)[B"⟩ : MethodName) = true := by first | exact plainFor_of_name (by first | (simp [plainName, overriddenIn, x]; done) | decide +kernel) | exact Jvm.Free.JP.mathPlain rfl (by decide +kernel) | decide +kernel
theorem ef_cma1 (m : MethodId) (ca : Addr) (xo : Int32) (xl : Int32) : entryFrame m #[(.ref ca), (.int xo), (.int xl)] 6 = mkF m 0 #[rv ca, iv xo, iv xl, .unset, .unset, .unset] [] := by first | (simp [entryFrame, mkF, argsToLocals, Value.category, maxLocals]; done) | rfl
def Q_cma1 (Z : State) (ca : Addr) (xo : Int32) (xl : Int32) (kc : ClassId) (v0 : Int32) (h0 : Heap) (n0 : Nat) (v : Option Value) (h : Heap) (L : List Loc) : Prop := ∃ (tb : Addr) (tk : ClassId), v = some (.ref tb) ∧ Fr n0 L ∧ (Keep h0 h []) ∧ (h0.size ≤ tb) ∧ (Arv Z h tb tk .byte (1 : Int32) [(.int (((v0).toInt8.toInt32).toInt8.toInt32))] (.int (0 : Int32)))
set_option maxRecDepth 65536 in
set_option maxHeartbeats 40000000 in
theorem rm_cma1 (l : Launch) (Z : State) (a0 : Array Value) (hw : ∀ d ∈ tables_1, d.before a0 Z = true) (ws : List Jvm.Cond) (ca : Addr) (xo : Int32) (xl : Int32) (kc : ClassId) (v0 : Int32) (h0 : Heap) (n0 : Nat) (Z0 : n0 ≤ h0.size) (P0 : Arv Z h0 ca kc .char (1 : Int32) [(.int v0)] (.int (0 : Int32))) (hv0 : ¬ ((255 : Int32) < v0)) (q1 : xo = (0 : Int32)) (q3 : xl = (1 : Int32))  :
    MetFree l (⟨"java/lang/StringUTF16", "compress", "([CII)[B"⟩ : MethodName) (head1 (Jvm.Cond.code (⟨"java/lang/StringUTF16", "compress", "([CII)[B"⟩ : MethodName) jdk_52_method_16_code 6 (some (.array .byte)) :: ws) ({ frames := 1, cells := 1, slots := 1, locals := 18 } : Room)) (fun a U => a = #[(.ref ca), (.int xo), (.int xl)] ∧ Z.Warmed39 U.vm ∧ U.heap = h0) (fun _ _ _ _ _ => True) (fun _ U o U' => ∃ v L, o = .returned v ∧ Q_cma1 Z ca xo xl kc v0 h0 n0 v U'.heap L ∧ FrameEnd U o U' L ({ frames := 1, cells := 1, slots := 1, locals := 18 } : Room).cells ({ frames := 1, cells := 1, slots := 1, locals := 18 } : Room).slots) := by
  refine MetFree.of_bodySF pf_cma1 hisR ?_
  intro p e s m args below meth c s₁ Bd hml0 hP hK
  obtain ⟨rfl, hZ, hh⟩ := hP
  have hx := Bd.exec
  have hby := Bd.bytes
  have hml : c.maxLocals = 6 := hml0
  have hown : s.vm.findClass "java/lang/StringUTF16" = some m.cls := findClass_of_methodNamed Bd.named
  have hnm := (name_of_methodNamed Bd.named Bd.method).1
  have X0 : Stand p l e ({ frames := 1, cells := 1, slots := 1, locals := 18 } : Room) s m #[(.ref ca), (.int xo), (.int xl)] below meth c s₁ [] 0 0 := Stand.of_body Bd
  have e0 : s₁.heap = h0 := by rw [← hh, Bd.state]; rfl
  have N0 := Fr.nil n0
  obtain ⟨S0, hS0⟩ : ∃ z, z = s₁.setTop (entryFrame m #[(.ref ca), (.int xo), (.int xl)] 6) := ⟨_, rfl⟩
  rw [← hS0]
  have g0 : Goes p e below S0 (s₁.setTop (mkF m 0 #[rv ca, iv xo, iv xl, .unset, .unset, .unset] [])) := fun t k => by rw [hS0]; exact castTop (ef_cma1 m ca xo xl) k
  obtain rfl : xo = (0 : Int32) := q1
  obtain rfl : xl = (1 : Int32) := q3
  have g22 : Goes p e below S0 (s₁.setTop (mkF m 1 #[rv ca, iv (0 : Int32), iv (1 : Int32), .unset, .unset, .unset] [(.int (1 : Int32))])) := fun t k => g0 t (by
    refine XS.iloadN X0.here hx rfl (hb hby d33_0) rfl ?_
    show Go p e below t s₁ m 1 #[rv ca, iv (0 : Int32), iv (1 : Int32), .unset, .unset, .unset] [(.int (1 : Int32))]
    exact k)
  obtain ⟨T23, h23, k23, X23, e23, E23, A23, st23⟩ := newP X0 hx hZ (hw _ (List.mem_of_getElem? (i := 19) rfl)) e0 (g := (mkF m 1 #[rv ca, iv (0 : Int32), iv (1 : Int32), .unset, .unset, .unset] [(.int (1 : Int32))])) rfl (hb hby d33_1) rfl (by decide) (cap := 1) (by decide) (by decide) (by decide) (by decide)
  obtain ⟨b23, gb23⟩ : ∃ z, z = h0.size := ⟨_, rfl⟩
  have sz23 : h0.size ≤ b23 := Nat.le_trans (Nat.le_refl _) (Nat.le_of_eq gb23.symm)
  have ng23 : n0 ≤ b23 := Nat.le_trans Z0 sz23
  rw [← gb23] at A23 st23
  have V23 : Arv Z h23 b23 k23 .byte (1 : Int32) [(.int (0 : Int32))] (.int (0 : Int32)) := (Arv.new A23 (by decide)).pad (pad_rep [] (.int (0 : Int32)) 1)
  have g24 : Goes p e below S0 (T23.setTop (mkF m 3 #[rv ca, iv (0 : Int32), iv (1 : Int32), .unset, .unset, .unset] [(.ref b23)])) := fun t k => g22 t (st23 t k)
  have g25 : Goes p e below S0 (T23.setTop (mkF m 9 #[rv ca, iv (0 : Int32), iv (1 : Int32), rv b23, .unset, .unset] [(.int (1 : Int32)), (.int (0 : Int32)), (.ref b23), (.int (0 : Int32)), (.ref ca)])) := fun t k => g24 t (by
    refine XS.astoreN X23.here hx rfl (hb hby d33_3) rfl rfl (l' := #[rv ca, iv (0 : Int32), iv (1 : Int32), rv b23, .unset, .unset]) rfl ?_
    show Go p e below t T23 m 4 #[rv ca, iv (0 : Int32), iv (1 : Int32), rv b23, .unset, .unset] []
    refine XS.aloadN X23.here hx rfl (hb hby d33_4) rfl rfl ?_
    show Go p e below t T23 m 5 #[rv ca, iv (0 : Int32), iv (1 : Int32), rv b23, .unset, .unset] [(.ref ca)]
    refine XS.iloadN X23.here hx rfl (hb hby d33_5) rfl ?_
    show Go p e below t T23 m 6 #[rv ca, iv (0 : Int32), iv (1 : Int32), rv b23, .unset, .unset] [(.int (0 : Int32)), (.ref ca)]
    refine XS.aloadN X23.here hx rfl (hb hby d33_6) rfl rfl ?_
    show Go p e below t T23 m 7 #[rv ca, iv (0 : Int32), iv (1 : Int32), rv b23, .unset, .unset] [(.ref b23), (.int (0 : Int32)), (.ref ca)]
    refine XT.iconstV X23.here hx rfl (0 : Int32) (hb hby d33_7) (by decide) ?_
    show Go p e below t T23 m 8 #[rv ca, iv (0 : Int32), iv (1 : Int32), rv b23, .unset, .unset] [(.int (0 : Int32)), (.ref b23), (.int (0 : Int32)), (.ref ca)]
    refine XS.iloadN X23.here hx rfl (hb hby d33_8) rfl ?_
    show Go p e below t T23 m 9 #[rv ca, iv (0 : Int32), iv (1 : Int32), rv b23, .unset, .unset] [(.int (1 : Int32)), (.int (0 : Int32)), (.ref b23), (.int (0 : Int32)), (.ref ca)]
    exact k)
  obtain ⟨_, _, ⟨T26, L26, k26, n26⟩, -, X26, ⟨Lc26, hQ26, l26, y26, z26⟩, st26⟩ := Jvm.LawKit.callS X23 hx (y := (⟨"java/lang/StringUTF16", "compress", "([CI[BII)I"⟩ : MethodName)) hown (mvT hZ (hw _ (List.mem_of_getElem? (i := 188) rfl))) (mvT hZ (hw _ (List.mem_of_getElem? (i := 189) rfl))) (mvT hZ (hw _ (List.mem_of_getElem? (i := 186) rfl))) (mvT hZ (hw _ (List.mem_of_getElem? (i := 190) rfl))) (by decide) (backOf (W := 0) (rm_czl1 l Z a0 hw [] ca (0 : Int32) b23 (0 : Int32) (1 : Int32) kc k23 v0 h23 n0 (Nat.le_trans Z0 (Nat.le_trans (Nat.le_refl _) E23.1)) (P0.ext E23) V23 ng23 (Nat.ne_of_lt (Nat.lt_of_lt_of_le P0.lt (Nat.le_of_eq gb23.symm))) hv0 rfl rfl rfl) hZ (hw _ (List.mem_of_getElem? (i := 190) rfl)) (hw _ (List.mem_of_getElem? (i := 186) rfl)) (by decide) (by decide)) (g := (mkF m 9 #[rv ca, iv (0 : Int32), iv (1 : Int32), rv b23, .unset, .unset] [(.int (1 : Int32)), (.int (0 : Int32)), (.ref b23), (.int (0 : Int32)), (.ref ca)])) rfl (by rw [hml]; rfl) (argsL := [(.ref ca), (.int (0 : Int32)), (.ref b23), (.int (0 : Int32)), (.int (1 : Int32))]) (rest := []) (lenOf pd2 rfl) rfl (by show 2 * 0 + _ ≤ _; exact Nat.le_of_eq rfl) (hb hby d33_9) (fun _ _ => ⟨rfl, e23, (by decide : 1 + 0 ≤ _), (by decide : 1 + 0 ≤ _)⟩)
  dsimp only [Pt.U, Pt.locs, Pt.cells, Pt.slots] at X26 l26 y26 z26 st26 hQ26
  subst l26 y26 z26
  obtain ⟨rfl, N26, R26_0, R26_1⟩ := hQ26
  have M26 := Fr.app N0 N26
  have g27 : Goes p e below S0 (T26.setTop (mkF m 12 #[rv ca, iv (0 : Int32), iv (1 : Int32), rv b23, .unset, .unset] [(.int (1 : Int32))])) := fun t k => g25 t (st26 t k)
  have g28 : Goes p e below S0 (T26.setTop (mkF m 58 #[rv ca, iv (0 : Int32), iv (1 : Int32), rv b23, iv (1 : Int32), .unset] [(.ref b23)])) := fun t k => g27 t (by
    refine XS.istore X26.here hx rfl (hb hby d33_12) rfl (l' := #[rv ca, iv (0 : Int32), iv (1 : Int32), rv b23, iv (1 : Int32), .unset]) rfl ?_
    show Go p e below t T26 m 14 #[rv ca, iv (0 : Int32), iv (1 : Int32), rv b23, iv (1 : Int32), .unset] []
    refine XS.iload X26.here hx rfl (hb hby d33_14) rfl ?_
    show Go p e below t T26 m 16 #[rv ca, iv (0 : Int32), iv (1 : Int32), rv b23, iv (1 : Int32), .unset] [(.int (1 : Int32))]
    refine XS.iloadN X26.here hx rfl (hb hby d33_16) rfl ?_
    show Go p e below t T26 m 17 #[rv ca, iv (0 : Int32), iv (1 : Int32), rv b23, iv (1 : Int32), .unset] [(.int (1 : Int32)), (.int (1 : Int32))]
    refine XS.icmpYes X26.here hx rfl (pc0 := 17) (pc' := 57) rfl (hb hby d33_17) rfl (XT.ii_eq_t (by decide)) (by decide) (by decide) ?_
    show Go p e below t T26 m 57 #[rv ca, iv (0 : Int32), iv (1 : Int32), rv b23, iv (1 : Int32), .unset] []
    refine XS.aloadN X26.here hx rfl (hb hby d33_57) rfl rfl ?_
    show Go p e below t T26 m 58 #[rv ca, iv (0 : Int32), iv (1 : Int32), rv b23, iv (1 : Int32), .unset] [(.ref b23)]
    exact k)
  obtain ⟨fs, hr, hrun, hended, hW, hsame⟩ := X26.leave (v := some (.ref b23)) (fun h => by rw [Bd.returns] at h; cases h)
  refine ⟨_, _, g28 _ (retOut X26 hx Bd.returns rfl (Or.inr (Or.inr (Or.inr (Or.inr ⟨rfl, rfl, rfl⟩)))) (hb hby d33_58) hr), hrun, hended, _, _, rfl, ?_, ⟨_, rfl⟩, hW, hsame.mono (by decide) (by decide)⟩
  show Q_cma1 Z ca (0 : Int32) (1 : Int32) kc v0 h0 n0 _ T26.heap _
  exact ⟨b23, k23, rfl, M26, (((Keep.refl h0 []).ext E23).trans R26_0 (allS (Or.inr sz23) all0)), sz23, R26_1⟩
theorem d35_0 : decode jdk_52_method_15_code 0 = .ok (.iload_n 1, 1) := by decide +kernel
theorem d35_1 : decode jdk_52_method_15_code 1 = .ok (.aload_n 0, 1) := by decide +kernel
theorem d35_2 : decode jdk_52_method_15_code 2 = .ok (.arraylength, 1) := by decide +kernel
theorem d35_3 : decode jdk_52_method_15_code 3 = .ok (.isub, 1) := by decide +kernel
theorem d35_4 : decode jdk_52_method_15_code 4 = .ok (.bipush 31, 2) := by decide +kernel
theorem d35_6 : decode jdk_52_method_15_code 6 = .ok (.iushr, 1) := by decide +kernel
theorem d35_7 : decode jdk_52_method_15_code 7 = .ok (.i2b, 1) := by decide +kernel
theorem d35_8 : decode jdk_52_method_15_code 8 = .ok (.ireturn, 1) := by decide +kernel
theorem pd4 : parseMethodDescriptor "([BI)B" = some ⟨[(.array .byte), .int], some .byte⟩ := by decide +kernel
theorem pf_cfl1 : plainFor (⟨"java/lang/StringUTF16", "coderFromArrayLen", "([BI)B"⟩ : MethodName) = true := by first | exact plainFor_of_name (by first | (simp [plainName, overriddenIn, x]; done) | decide +kernel) | exact Jvm.Free.JP.mathPlain rfl (by decide +kernel) | decide +kernel
theorem ef_cfl1 (m : MethodId) (ba : Addr) (xl : Int32) : entryFrame m #[(.ref ba), (.int xl)] 2 = mkF m 0 #[rv ba, iv xl] [] := by first | (simp [entryFrame, mkF, argsToLocals, Value.category, maxLocals]; done) | rfl
def Q_cfl1 (Z : State) (ba : Addr) (xl : Int32) (kb : ClassId) (v0 : Int32) (h0 : Heap) (n0 : Nat) (v : Option Value) (h : Heap) (L : List Loc) : Prop := v = some (.int (0 : Int32)) ∧ Fr n0 L ∧ h = h0
set_option maxRecDepth 65536 in
set_option maxHeartbeats 40000000 in
theorem rm_cfl1 (l : Launch) (Z : State) (a0 : Array Value) (hw : ∀ d ∈ tables_1, d.before a0 Z = true) (ws : List Jvm.Cond) (ba : Addr) (xl : Int32) (kb : ClassId) (v0 : Int32) (h0 : Heap) (n0 : Nat) (Z0 : n0 ≤ h0.size) (P0 : Arv Z h0 ba kb .byte (1 : Int32) [(.int v0)] (.int (0 : Int32))) (q3 : xl = (1 : Int32))  :
    MetFree l (⟨"java/lang/StringUTF16", "coderFromArrayLen", "([BI)B"⟩ : MethodName) (head1 (Jvm.Cond.code (⟨"java/lang/StringUTF16", "coderFromArrayLen", "([BI)B"⟩ : MethodName) jdk_52_method_15_code 2 (some .byte) :: ws) ({ frames := 0, cells := 0, slots := 0, locals := 0 } : Room)) (fun a U => a = #[(.ref ba), (.int xl)] ∧ Z.Warmed39 U.vm ∧ U.heap = h0) (fun _ _ _ _ _ => True) (fun _ U o U' => ∃ v L, o = .returned v ∧ Q_cfl1 Z ba xl kb v0 h0 n0 v U'.heap L ∧ FrameEnd U o U' L ({ frames := 0, cells := 0, slots := 0, locals := 0 } : Room).cells ({ frames := 0, cells := 0, slots := 0, locals := 0 } : Room).slots) := by
  refine MetFree.of_bodySF pf_cfl1 hisR ?_
  intro p e s m args below meth c s₁ Bd hml0 hP hK
  obtain ⟨rfl, hZ, hh⟩ := hP
  have hx := Bd.exec
  have hby := Bd.bytes
  have hml : c.maxLocals = 2 := hml0
  have hown : s.vm.findClass "java/lang/StringUTF16" = some m.cls := findClass_of_methodNamed Bd.named
  have hnm := (name_of_methodNamed Bd.named Bd.method).1
  have X0 : Stand p l e ({ frames := 0, cells := 0, slots := 0, locals := 0 } : Room) s m #[(.ref ba), (.int xl)] below meth c s₁ [] 0 0 := Stand.of_body Bd
  have e0 : s₁.heap = h0 := by rw [← hh, Bd.state]; rfl
  have N0 := Fr.nil n0
  obtain ⟨S0, hS0⟩ : ∃ z, z = s₁.setTop (entryFrame m #[(.ref ba), (.int xl)] 2) := ⟨_, rfl⟩
  rw [← hS0]
  have g0 : Goes p e below S0 (s₁.setTop (mkF m 0 #[rv ba, iv xl] [])) := fun t k => by rw [hS0]; exact castTop (ef_cfl1 m ba xl) k
  obtain rfl : xl = (1 : Int32) := q3
  have g29 : Goes p e below S0 (s₁.setTop (mkF m 2 #[rv ba, iv (1 : Int32)] [(.ref ba), (.int (1 : Int32))])) := fun t k => g0 t (by
    refine XS.iloadN X0.here hx rfl (hb hby d35_0) rfl ?_
    show Go p e below t s₁ m 1 #[rv ba, iv (1 : Int32)] [(.int (1 : Int32))]
    refine XS.aloadN X0.here hx rfl (hb hby d35_1) rfl rfl ?_
    show Go p e below t s₁ m 2 #[rv ba, iv (1 : Int32)] [(.ref ba), (.int (1 : Int32))]
    exact k)
  obtain ⟨cl30, Ar30, q30, S30, M30, H30, G30⟩ := id P0
  have g31 : Goes p e below S0 (s₁.setTop (mkF m 7 #[rv ba, iv (1 : Int32)] [(.int ((((0 : Int32)).toUInt32 >>> ((31 : Int32) &&& 31).toUInt32).toInt32))])) := fun t k => g29 t (by
    refine X0.arraylength hx (by rw [e0]; exact Ar30.1) (State.isArrayOf_alike hZ.alike Ar30.2.1) (g := (mkF m 2 #[rv ba, iv (1 : Int32)] [(.ref ba), (.int (1 : Int32))])) rfl rfl (hb hby d35_2) _ ?_
    rw [len_of S30 M30]
    show Go p e below t s₁ m 3 #[rv ba, iv (1 : Int32)] [(.int (1 : Int32)), (.int (1 : Int32))]
    refine XS.isub X0.here hx rfl (hb hby d35_3) rfl ?_
    rw [show ((1 : Int32) - (1 : Int32)) = (0 : Int32) by decide]
    show Go p e below t s₁ m 4 #[rv ba, iv (1 : Int32)] [(.int (0 : Int32))]
    refine XT.bipushV X0.here hx rfl (31 : Int32) (hb hby d35_4) (by decide) ?_
    show Go p e below t s₁ m 6 #[rv ba, iv (1 : Int32)] [(.int (31 : Int32)), (.int (0 : Int32))]
    refine XS.iushr X0.here hx rfl (hb hby d35_6) rfl ?_
    show Go p e below t s₁ m 7 #[rv ba, iv (1 : Int32)] [(.int ((((0 : Int32)).toUInt32 >>> ((31 : Int32) &&& 31).toUInt32).toInt32))]
    exact k)
  rw [show ((((0 : Int32)).toUInt32 >>> ((31 : Int32) &&& 31).toUInt32).toInt32) = (0 : Int32) from (by decide)] at g31
  have g32 : Goes p e below S0 (s₁.setTop (mkF m 8 #[rv ba, iv (1 : Int32)] [(.int ((0 : Int32).toInt8.toInt32))])) := fun t k => g31 t (by
    refine XS.i2b X0.here hx rfl (hb hby d35_7) rfl ?_
    show Go p e below t s₁ m 8 #[rv ba, iv (1 : Int32)] [(.int ((0 : Int32).toInt8.toInt32))]
    exact k)
  rw [show (0 : Int32).toInt8.toInt32 = (0 : Int32) from (by decide)] at g32
  obtain ⟨fs, hr, hrun, hended, hW, hsame⟩ := X0.leave (v := some (.int (nar .byte (0 : Int32)))) (fun h => by rw [Bd.returns] at h; cases h)
  refine ⟨_, _, g32 _ (retN X0 hx (t := .byte) Bd.returns (by simp) (hb hby d35_8) hr), hrun, hended, _, _, rfl, ?_, ⟨_, rfl⟩, hW, hsame.mono (by decide) (by decide)⟩
  show Q_cfl1 Z ba (1 : Int32) kb v0 h0 n0 _ s₁.heap _
  rw [e0]
  exact ⟨(congrArg some (congrArg Value.int (by decide))), N0, rfl⟩
theorem d2_0 : decode jdk_42_method_149_code 0 = .ok (.aload_n 0, 1) := by decide +kernel
theorem d2_1 : decode jdk_42_method_149_code 1 = .ok (.invokespecial 1, 3) := by decide +kernel
theorem d2_4 : decode jdk_42_method_149_code 4 = .ok (.iload_n 3, 1) := by decide +kernel
theorem d2_5 : decode jdk_42_method_149_code 5 = .ok (.ifCond .ne 22, 3) := by decide +kernel
theorem d2_8 : decode jdk_42_method_149_code 8 = .ok (.aload_n 0, 1) := by decide +kernel
theorem d2_9 : decode jdk_42_method_149_code 9 = .ok (.ldc 7, 2) := by decide +kernel
theorem d2_11 : decode jdk_42_method_149_code 11 = .ok (.getfield 9, 3) := by decide +kernel
theorem d2_14 : decode jdk_42_method_149_code 14 = .ok (.putfield 9, 3) := by decide +kernel
theorem d2_17 : decode jdk_42_method_149_code 17 = .ok (.aload_n 0, 1) := by decide +kernel
theorem d2_18 : decode jdk_42_method_149_code 18 = .ok (.ldc 7, 2) := by decide +kernel
theorem d2_20 : decode jdk_42_method_149_code 20 = .ok (.getfield 15, 3) := by decide +kernel
theorem d2_23 : decode jdk_42_method_149_code 23 = .ok (.putfield 15, 3) := by decide +kernel
theorem d2_26 : decode jdk_42_method_149_code 26 = .ok (.return_, 1) := by decide +kernel
theorem d2_27 : decode jdk_42_method_149_code 27 = .ok (.getstatic 38, 3) := by decide +kernel
theorem d2_30 : decode jdk_42_method_149_code 30 = .ok (.ifCond .eq 28, 3) := by decide +kernel
theorem d2_33 : decode jdk_42_method_149_code 33 = .ok (.aload_n 1, 1) := by decide +kernel
theorem d2_34 : decode jdk_42_method_149_code 34 = .ok (.iload_n 2, 1) := by decide +kernel
theorem d2_35 : decode jdk_42_method_149_code 35 = .ok (.iload_n 3, 1) := by decide +kernel
theorem d2_36 : decode jdk_42_method_149_code 36 = .ok (.invokestatic 177, 3) := by decide +kernel
theorem d2_39 : decode jdk_42_method_149_code 39 = .ok (.astore 5, 2) := by decide +kernel
theorem d2_41 : decode jdk_42_method_149_code 41 = .ok (.aload_n 0, 1) := by decide +kernel
theorem d2_42 : decode jdk_42_method_149_code 42 = .ok (.aload 5, 2) := by decide +kernel
theorem d2_44 : decode jdk_42_method_149_code 44 = .ok (.iload_n 3, 1) := by decide +kernel
theorem d2_45 : decode jdk_42_method_149_code 45 = .ok (.invokestatic 47, 3) := by decide +kernel
theorem d2_48 : decode jdk_42_method_149_code 48 = .ok (.putfield 15, 3) := by decide +kernel
theorem d2_51 : decode jdk_42_method_149_code 51 = .ok (.aload_n 0, 1) := by decide +kernel
theorem d2_52 : decode jdk_42_method_149_code 52 = .ok (.aload 5, 2) := by decide +kernel
theorem d2_54 : decode jdk_42_method_149_code 54 = .ok (.putfield 9, 3) := by decide +kernel
theorem d2_57 : decode jdk_42_method_149_code 57 = .ok (.return_, 1) := by decide +kernel
theorem d2_58 : decode jdk_42_method_149_code 58 = .ok (.aload_n 0, 1) := by decide +kernel
theorem d2_59 : decode jdk_42_method_149_code 59 = .ok (.iconst 1, 1) := by decide +kernel
theorem d2_60 : decode jdk_42_method_149_code 60 = .ok (.putfield 15, 3) := by decide +kernel
theorem d2_63 : decode jdk_42_method_149_code 63 = .ok (.aload_n 0, 1) := by decide +kernel
theorem d2_64 : decode jdk_42_method_149_code 64 = .ok (.aload_n 1, 1) := by decide +kernel
theorem d2_65 : decode jdk_42_method_149_code 65 = .ok (.iload_n 2, 1) := by decide +kernel
theorem d2_66 : decode jdk_42_method_149_code 66 = .ok (.iload_n 3, 1) := by decide +kernel
theorem d2_67 : decode jdk_42_method_149_code 67 = .ok (.invokestatic 180, 3) := by decide +kernel
theorem d2_70 : decode jdk_42_method_149_code 70 = .ok (.putfield 9, 3) := by decide +kernel
theorem d2_73 : decode jdk_42_method_149_code 73 = .ok (.return_, 1) := by decide +kernel
theorem pd5 : parseMethodDescriptor "([CIILjava/lang/Void;)V" = some ⟨[(.array .char), .int, .int, (.object "java/lang/Void")], none⟩ := by decide +kernel
theorem pf_ina1 : plainFor (⟨"java/lang/String", "<init>", "([CIILjava/lang/Void;)V"⟩ : MethodName) = true := by first | exact plainFor_of_name (by first | (simp [plainName, overriddenIn, x]; done) | decide +kernel) | exact Jvm.Free.JP.mathPlain rfl (by decide +kernel) | decide +kernel
theorem ef_ina1 (m : MethodId) (sa : Addr) (ca : Addr) (xo : Int32) (xl : Int32) : entryFrame m #[(.ref sa), (.ref ca), (.int xo), (.int xl), .null] 6 = mkF m 0 #[rv sa, rv ca, iv xo, iv xl, .val .null, .unset] [] := by first | (simp [entryFrame, mkF, argsToLocals, Value.category, maxLocals]; done) | rfl
def Q_ina1 (Z : State) (sa : Addr) (ca : Addr) (xo : Int32) (xl : Int32) (kc : ClassId) (v0 : Int32) (cz : Int32) (h0 : Heap) (n0 : Nat) (v : Option Value) (h : Heap) (L : List Loc) : Prop := ∃ (tb : Addr) (tk : ClassId), v = none ∧ Fr n0 L ∧ (Keep h0 h [sa]) ∧ (h0.size ≤ tb) ∧ (Exa Z h sa "java/lang/String") ∧ (Fld Z h sa "java/lang/String" "value" "[B" (.ref tb)) ∧ (Fld Z h sa "java/lang/String" "coder" "B" (.int (0 : Int32))) ∧ (Arv Z h tb tk .byte (1 : Int32) [(.int (((v0).toInt8.toInt32).toInt8.toInt32))] (.int (0 : Int32)))
set_option maxRecDepth 65536 in
set_option maxHeartbeats 40000000 in
theorem rm_ina1 (l : Launch) (Z : State) (a0 : Array Value) (hw : ∀ d ∈ tables_1, d.before a0 Z = true) (ws : List Jvm.Cond) (sa : Addr) (ca : Addr) (xo : Int32) (xl : Int32) (kc : ClassId) (v0 : Int32) (cz : Int32) (h0 : Heap) (n0 : Nat) (Z0 : n0 ≤ h0.size) (P0 : Exa Z h0 sa "java/lang/String") (P1 : Fld Z h0 sa "java/lang/String" "value" "[B" .null) (P2 : Fld Z h0 sa "java/lang/String" "coder" "B" (.int (0 : Int32))) (P3 : n0 ≤ sa) (P4 : Arv Z h0 ca kc .char (1 : Int32) [(.int v0)] (.int (0 : Int32))) (hv0 : ¬ ((255 : Int32) < v0)) (P6 : Sta Z h0 "java/lang/String" "COMPACT_STRINGS" "Z" (.int cz)) (hz : ¬ cz = 0) (q1 : xo = (0 : Int32)) (q3 : xl = (1 : Int32))  :
    MetFree l (⟨"java/lang/String", "<init>", "([CIILjava/lang/Void;)V"⟩ : MethodName) (head1 (Jvm.Cond.code (⟨"java/lang/String", "<init>", "([CIILjava/lang/Void;)V"⟩ : MethodName) jdk_42_method_149_code 6 none :: ws) ({ frames := 2, cells := 1, slots := 1, locals := 40 } : Room)) (fun a U => a = #[(.ref sa), (.ref ca), (.int xo), (.int xl), .null] ∧ Z.Warmed39 U.vm ∧ U.heap = h0) (fun _ _ _ _ _ => True) (fun _ U o U' => ∃ v L, o = .returned v ∧ Q_ina1 Z sa ca xo xl kc v0 cz h0 n0 v U'.heap L ∧ FrameEnd U o U' L ({ frames := 2, cells := 1, slots := 1, locals := 40 } : Room).cells ({ frames := 2, cells := 1, slots := 1, locals := 40 } : Room).slots) := by
  refine MetFree.of_bodySF pf_ina1 hisR ?_
  intro p e s m args below meth c s₁ Bd hml0 hP hK
  obtain ⟨rfl, hZ, hh⟩ := hP
  have hx := Bd.exec
  have hby := Bd.bytes
  have hml : c.maxLocals = 6 := hml0
  have hown : s.vm.findClass "java/lang/String" = some m.cls := findClass_of_methodNamed Bd.named
  have hnm := (name_of_methodNamed Bd.named Bd.method).1
  have X0 : Stand p l e ({ frames := 2, cells := 1, slots := 1, locals := 40 } : Room) s m #[(.ref sa), (.ref ca), (.int xo), (.int xl), .null] below meth c s₁ [] 0 0 := Stand.of_body Bd
  have e0 : s₁.heap = h0 := by rw [← hh, Bd.state]; rfl
  have N0 := Fr.nil n0
  obtain ⟨S0, hS0⟩ : ∃ z, z = s₁.setTop (entryFrame m #[(.ref sa), (.ref ca), (.int xo), (.int xl), .null] 6) := ⟨_, rfl⟩
  rw [← hS0]
  have g0 : Goes p e below S0 (s₁.setTop (mkF m 0 #[rv sa, rv ca, iv xo, iv xl, .val .null, .unset] [])) := fun t k => by rw [hS0]; exact castTop (ef_ina1 m sa ca xo xl) k
  obtain rfl : xo = (0 : Int32) := q1
  obtain rfl : xl = (1 : Int32) := q3
  have g33 : Goes p e below S0 (s₁.setTop (mkF m 1 #[rv sa, rv ca, iv (0 : Int32), iv (1 : Int32), .val .null, .unset] [(.ref sa)])) := fun t k => g0 t (by
    refine XS.aloadN X0.here hx rfl (hb hby d2_0) rfl rfl ?_
    show Go p e below t s₁ m 1 #[rv sa, rv ca, iv (0 : Int32), iv (1 : Int32), .val .null, .unset] [(.ref sa)]
    exact k)
  obtain ⟨T34, X34, e34, st34⟩ := initO X0 hx hZ hown (hw _ (List.mem_of_getElem? (i := 15) rfl)) (hw _ (List.mem_of_getElem? (i := 16) rfl)) (hw _ (List.mem_of_getElem? (i := 17) rfl)) e0 (g := (mkF m 1 #[rv sa, rv ca, iv (0 : Int32), iv (1 : Int32), .val .null, .unset] [(.ref sa)])) rfl (by rw [hml]; rfl) rfl (hb hby d2_1) (by decide) (W := 0) (by show 2 * 0 + _ ≤ _; exact Nat.le_of_eq rfl) (by decide)
  have g35 : Goes p e below S0 (T34.setTop (mkF m 4 #[rv sa, rv ca, iv (0 : Int32), iv (1 : Int32), .val .null, .unset] [])) := fun t k => g33 t (st34 t k)
  have g36 : Goes p e below S0 (T34.setTop (mkF m 27 #[rv sa, rv ca, iv (0 : Int32), iv (1 : Int32), .val .null, .unset] [])) := fun t k => g35 t (by
    refine XS.iloadN X34.here hx rfl (hb hby d2_4) rfl ?_
    show Go p e below t T34 m 5 #[rv sa, rv ca, iv (0 : Int32), iv (1 : Int32), .val .null, .unset] [(.int (1 : Int32))]
    refine XS.ifYes X34.here hx rfl (pc0 := 5) (pc' := 27) rfl (hb hby d2_5) rfl (XT.i0_ne_t (by decide)) (by decide) (by decide) ?_
    show Go p e below t T34 m 27 #[rv sa, rv ca, iv (0 : Int32), iv (1 : Int32), .val .null, .unset] []
    exact k)
  obtain ⟨T37, X37, e37, st37⟩ := getS (host := "") X34 hx hZ hown (hw _ (List.mem_of_getElem? (i := 87) rfl)) Via.refl e34 P6 (g := (mkF m 27 #[rv sa, rv ca, iv (0 : Int32), iv (1 : Int32), .val .null, .unset] [])) rfl (hb hby d2_27)
  have g38 : Goes p e below S0 (T37.setTop (mkF m 30 #[rv sa, rv ca, iv (0 : Int32), iv (1 : Int32), .val .null, .unset] [(.int cz)])) := fun t k => g36 t (st37 t k)
  have g39 : Goes p e below S0 (T37.setTop (mkF m 36 #[rv sa, rv ca, iv (0 : Int32), iv (1 : Int32), .val .null, .unset] [(.int (1 : Int32)), (.int (0 : Int32)), (.ref ca)])) := fun t k => g38 t (by
    refine XS.ifNo X37.here hx rfl (hb hby d2_30) rfl (XT.i0_eq_f hz) ?_
    show Go p e below t T37 m 33 #[rv sa, rv ca, iv (0 : Int32), iv (1 : Int32), .val .null, .unset] []
    refine XS.aloadN X37.here hx rfl (hb hby d2_33) rfl rfl ?_
    show Go p e below t T37 m 34 #[rv sa, rv ca, iv (0 : Int32), iv (1 : Int32), .val .null, .unset] [(.ref ca)]
    refine XS.iloadN X37.here hx rfl (hb hby d2_34) rfl ?_
    show Go p e below t T37 m 35 #[rv sa, rv ca, iv (0 : Int32), iv (1 : Int32), .val .null, .unset] [(.int (0 : Int32)), (.ref ca)]
    refine XS.iloadN X37.here hx rfl (hb hby d2_35) rfl ?_
    show Go p e below t T37 m 36 #[rv sa, rv ca, iv (0 : Int32), iv (1 : Int32), .val .null, .unset] [(.int (1 : Int32)), (.int (0 : Int32)), (.ref ca)]
    exact k)
  obtain ⟨_, _, ⟨T40, L40, k40, n40⟩, -, X40, ⟨Lc40, hQ40, l40, y40, z40⟩, st40⟩ := Jvm.LawKit.callS X37 hx (y := (⟨"java/lang/StringUTF16", "compress", "([CII)[B"⟩ : MethodName)) hown (mvT hZ (hw _ (List.mem_of_getElem? (i := 184) rfl))) (mvT hZ (hw _ (List.mem_of_getElem? (i := 185) rfl))) (mvT hZ (hw _ (List.mem_of_getElem? (i := 186) rfl))) (mvT hZ (hw _ (List.mem_of_getElem? (i := 187) rfl))) (by decide) (backOf (W := 0) (rm_cma1 l Z a0 hw [] ca (0 : Int32) (1 : Int32) kc v0 h0 n0 Z0 P4 hv0 rfl rfl) hZ (hw _ (List.mem_of_getElem? (i := 187) rfl)) (hw _ (List.mem_of_getElem? (i := 186) rfl)) (by decide) (by decide)) (g := (mkF m 36 #[rv sa, rv ca, iv (0 : Int32), iv (1 : Int32), .val .null, .unset] [(.int (1 : Int32)), (.int (0 : Int32)), (.ref ca)])) rfl (by rw [hml]; rfl) (argsL := [(.ref ca), (.int (0 : Int32)), (.int (1 : Int32))]) (rest := []) (lenOf pd3 rfl) rfl (by show 2 * 0 + _ ≤ _; exact Nat.le_of_eq rfl) (hb hby d2_36) (fun _ _ => ⟨rfl, e37, (by decide : 0 + 1 ≤ _), (by decide : 0 + 1 ≤ _)⟩)
  dsimp only [Pt.U, Pt.locs, Pt.cells, Pt.slots] at X40 l40 y40 z40 st40 hQ40
  subst l40 y40 z40
  obtain ⟨tb_40, tk_40, rfl, N40, R40_0, R40_1, R40_2⟩ := hQ40
  have M40 := Fr.app N0 N40
  have sz40_1 : h0.size ≤ tb_40 := Nat.le_trans (Nat.le_refl _) R40_1
  have ng40_1 : n0 ≤ tb_40 := Nat.le_trans Z0 sz40_1
  have g41 : Goes p e below S0 (T40.setTop (mkF m 39 #[rv sa, rv ca, iv (0 : Int32), iv (1 : Int32), .val .null, .unset] [(.ref tb_40)])) := fun t k => g39 t (st40 t k)
  have g42 : Goes p e below S0 (T40.setTop (mkF m 45 #[rv sa, rv ca, iv (0 : Int32), iv (1 : Int32), .val .null, rv tb_40] [(.int (1 : Int32)), (.ref tb_40), (.ref sa)])) := fun t k => g41 t (by
    refine XS.astore X40.here hx rfl (hb hby d2_39) rfl rfl (l' := #[rv sa, rv ca, iv (0 : Int32), iv (1 : Int32), .val .null, rv tb_40]) rfl ?_
    show Go p e below t T40 m 41 #[rv sa, rv ca, iv (0 : Int32), iv (1 : Int32), .val .null, rv tb_40] []
    refine XS.aloadN X40.here hx rfl (hb hby d2_41) rfl rfl ?_
    show Go p e below t T40 m 42 #[rv sa, rv ca, iv (0 : Int32), iv (1 : Int32), .val .null, rv tb_40] [(.ref sa)]
    refine XS.aload X40.here hx rfl (hb hby d2_42) rfl rfl ?_
    show Go p e below t T40 m 44 #[rv sa, rv ca, iv (0 : Int32), iv (1 : Int32), .val .null, rv tb_40] [(.ref tb_40), (.ref sa)]
    refine XS.iloadN X40.here hx rfl (hb hby d2_44) rfl ?_
    show Go p e below t T40 m 45 #[rv sa, rv ca, iv (0 : Int32), iv (1 : Int32), .val .null, rv tb_40] [(.int (1 : Int32)), (.ref tb_40), (.ref sa)]
    exact k)
  obtain ⟨_, _, ⟨T43, L43, k43, n43⟩, -, X43, ⟨Lc43, hQ43, l43, y43, z43⟩, st43⟩ := Jvm.LawKit.callS X40 hx (y := (⟨"java/lang/StringUTF16", "coderFromArrayLen", "([BI)B"⟩ : MethodName)) hown (mvT hZ (hw _ (List.mem_of_getElem? (i := 191) rfl))) (mvT hZ (hw _ (List.mem_of_getElem? (i := 192) rfl))) (mvT hZ (hw _ (List.mem_of_getElem? (i := 186) rfl))) (mvT hZ (hw _ (List.mem_of_getElem? (i := 193) rfl))) (by decide) (backOf (W := 1) (rm_cfl1 l Z a0 hw [] tb_40 (1 : Int32) tk_40 (((v0).toInt8.toInt32).toInt8.toInt32) T40.heap n0 (Nat.le_trans Z0 (Nat.le_trans (Nat.le_refl _) R40_0.1)) R40_2 rfl) hZ (hw _ (List.mem_of_getElem? (i := 193) rfl)) (hw _ (List.mem_of_getElem? (i := 186) rfl)) (by decide) (by decide)) (g := (mkF m 45 #[rv sa, rv ca, iv (0 : Int32), iv (1 : Int32), .val .null, rv tb_40] [(.int (1 : Int32)), (.ref tb_40), (.ref sa)])) rfl (by rw [hml]; rfl) (argsL := [(.ref tb_40), (.int (1 : Int32))]) (rest := [(.ref sa)]) (lenOf pd4 rfl) rfl (by show 2 * 0 + _ ≤ _; exact Nat.le_of_eq rfl) (hb hby d2_45) (fun _ _ => ⟨rfl, rfl, (by decide : 1 + 0 ≤ _), (by decide : 1 + 0 ≤ _)⟩)
  dsimp only [Pt.U, Pt.locs, Pt.cells, Pt.slots] at X43 l43 y43 z43 st43 hQ43
  subst l43 y43 z43
  obtain ⟨rfl, N43, R43_0⟩ := hQ43
  have M43 := Fr.app M40 N43
  have g44 : Goes p e below S0 (T43.setTop (mkF m 48 #[rv sa, rv ca, iv (0 : Int32), iv (1 : Int32), .val .null, rv tb_40] [(.int (0 : Int32)), (.ref sa)])) := fun t k => g42 t (st43 t k)
  obtain ⟨T45, h45, X45, e45, W45, st45⟩ := putFN X43 hx hZ hown (hw _ (List.mem_of_getElem? (i := 25) rfl)) Via.refl R43_0 (P2.keep R40_0 nin0) (P0.keep R40_0) (Or.inr ⟨(hw _ (List.mem_of_getElem? (i := 21) rfl)), rfl, hnm⟩) (hw _ (List.mem_of_getElem? (i := 5) rfl)) (ty := .byte) (v' := (.int (0 : Int32))) (by decide) (by decide) (by decide) (g := (mkF m 48 #[rv sa, rv ca, iv (0 : Int32), iv (1 : Int32), .val .null, rv tb_40] [(.int (0 : Int32)), (.ref sa)])) rfl rfl (hb hby d2_48)
  have N45 := Fr.snoc X45 M43 P3
  have Fw45 := Fld.same W45 (P2.keep R40_0 nin0)
  have g46 : Goes p e below S0 (T45.setTop (mkF m 51 #[rv sa, rv ca, iv (0 : Int32), iv (1 : Int32), .val .null, rv tb_40] [])) := fun t k => g44 t (st45 t k)
  have g47 : Goes p e below S0 (T45.setTop (mkF m 54 #[rv sa, rv ca, iv (0 : Int32), iv (1 : Int32), .val .null, rv tb_40] [(.ref tb_40), (.ref sa)])) := fun t k => g46 t (by
    refine XS.aloadN X45.here hx rfl (hb hby d2_51) rfl rfl ?_
    show Go p e below t T45 m 52 #[rv sa, rv ca, iv (0 : Int32), iv (1 : Int32), .val .null, rv tb_40] [(.ref sa)]
    refine XS.aload X45.here hx rfl (hb hby d2_52) rfl rfl ?_
    show Go p e below t T45 m 54 #[rv sa, rv ca, iv (0 : Int32), iv (1 : Int32), .val .null, rv tb_40] [(.ref tb_40), (.ref sa)]
    exact k)
  obtain ⟨T48, h48, X48, e48, W48, st48⟩ := putF X45 hx hZ hown (host := "") (Or.inl (hw _ (List.mem_of_getElem? (i := 24) rfl))) Via.refl e45 ((P1.keep R40_0 nin0).other W45 (Or.inr (slot_ne (Or.inr (hw _ (List.mem_of_getElem? (i := 20) rfl))) (Or.inr (hw _ (List.mem_of_getElem? (i := 21) rfl))) (by decide) (t := (.array .byte)) (t' := .byte) (by decide) (by decide)))) ((P0.keep R40_0).wr W45) (Or.inr ⟨(hw _ (List.mem_of_getElem? (i := 20) rfl)), rfl, hnm⟩) (hw _ (List.mem_of_getElem? (i := 5) rfl)) (ty := (.array .byte)) (by decide) rfl rfl (g := (mkF m 54 #[rv sa, rv ca, iv (0 : Int32), iv (1 : Int32), .val .null, rv tb_40] [(.ref tb_40), (.ref sa)])) rfl rfl (hb hby d2_54)
  have N48 := Fr.snoc X48 N45 P3
  have Fw48 := Fld.same W48 ((P1.keep R40_0 nin0).other W45 (Or.inr (slot_ne (Or.inr (hw _ (List.mem_of_getElem? (i := 20) rfl))) (Or.inr (hw _ (List.mem_of_getElem? (i := 21) rfl))) (by decide) (t := (.array .byte)) (t' := .byte) (by decide) (by decide))))
  have g49 : Goes p e below S0 (T48.setTop (mkF m 57 #[rv sa, rv ca, iv (0 : Int32), iv (1 : Int32), .val .null, rv tb_40] [])) := fun t k => g47 t (st48 t k)
  obtain ⟨fs, hr, hrun, hended, hW, hsame⟩ := X48.leave (v := none) (fun _ => rfl)
  refine ⟨_, _, g49 _ (X48.returnOut hx Bd.returns (hb hby d2_57) hr), hrun, hended, _, _, rfl, ?_, ⟨_, rfl⟩, hW, hsame.mono (by decide) (by decide)⟩
  show Q_ina1 Z sa ca (0 : Int32) (1 : Int32) kc v0 cz h0 n0 _ T48.heap _
  rw [e48]
  exact ⟨tb_40, tk_40, rfl, N48, ((((Keep.refl h0 [sa]).trans R40_0 all0).wr W45 (Or.inl (List.mem_of_getElem? (i := 0) rfl))).wr W48 (Or.inl (List.mem_of_getElem? (i := 0) rfl))), sz40_1, (((P0.keep R40_0).wr W45).wr W48), Fw48, (Fw45.other W48 (Or.inr (slot_ne (Or.inr (hw _ (List.mem_of_getElem? (i := 21) rfl))) (Or.inr (hw _ (List.mem_of_getElem? (i := 20) rfl))) (by decide) (t := .byte) (t' := (.array .byte)) (by decide) (by decide)))), ((R40_2.other W45 (Ne.symm (Nat.ne_of_lt (Nat.lt_of_lt_of_le P0.lt R40_1)))).other W48 (Ne.symm (Nat.ne_of_lt (Nat.lt_of_lt_of_le P0.lt R40_1))))⟩
theorem d1_0 : decode jdk_42_method_3_code 0 = .ok (.aload_n 0, 1) := by decide +kernel
theorem d1_1 : decode jdk_42_method_3_code 1 = .ok (.aload_n 1, 1) := by decide +kernel
theorem d1_2 : decode jdk_42_method_3_code 2 = .ok (.iconst 0, 1) := by decide +kernel
theorem d1_3 : decode jdk_42_method_3_code 3 = .ok (.aload_n 1, 1) := by decide +kernel
theorem d1_4 : decode jdk_42_method_3_code 4 = .ok (.arraylength, 1) := by decide +kernel
theorem d1_5 : decode jdk_42_method_3_code 5 = .ok (.aconst_null, 1) := by decide +kernel
theorem d1_6 : decode jdk_42_method_3_code 6 = .ok (.invokespecial 27, 3) := by decide +kernel
theorem d1_9 : decode jdk_42_method_3_code 9 = .ok (.return_, 1) := by decide +kernel
theorem pd6 : parseMethodDescriptor "([C)V" = some ⟨[(.array .char)], none⟩ := by decide +kernel
theorem pf_inb1 : plainFor (⟨"java/lang/String", "<init>", "([C)V"⟩ : MethodName) = true := by first | exact plainFor_of_name (by first | (simp [plainName, overriddenIn, x]; done) | decide +kernel) | exact Jvm.Free.JP.mathPlain rfl (by decide +kernel) | decide +kernel
theorem ef_inb1 (m : MethodId) (sa : Addr) (ca : Addr) : entryFrame m #[(.ref sa), (.ref ca)] 2 = mkF m 0 #[rv sa, rv ca] [] := by first | (simp [entryFrame, mkF, argsToLocals, Value.category, maxLocals]; done) | rfl
def Q_inb1 (Z : State) (sa : Addr) (ca : Addr) (kc : ClassId) (v0 : Int32) (cz : Int32) (h0 : Heap) (n0 : Nat) (v : Option Value) (h : Heap) (L : List Loc) : Prop := ∃ (tb : Addr) (tk : ClassId), v = none ∧ Fr n0 L ∧ (Keep h0 h [sa]) ∧ (h0.size ≤ tb) ∧ (Exa Z h sa "java/lang/String") ∧ (Fld Z h sa "java/lang/String" "value" "[B" (.ref tb)) ∧ (Fld Z h sa "java/lang/String" "coder" "B" (.int (0 : Int32))) ∧ (Arv Z h tb tk .byte (1 : Int32) [(.int (((v0).toInt8.toInt32).toInt8.toInt32))] (.int (0 : Int32)))
set_option maxRecDepth 65536 in
set_option maxHeartbeats 40000000 in
theorem rm_inb1 (l : Launch) (Z : State) (a0 : Array Value) (hw : ∀ d ∈ tables_1, d.before a0 Z = true) (ws : List Jvm.Cond) (sa : Addr) (ca : Addr) (kc : ClassId) (v0 : Int32) (cz : Int32) (h0 : Heap) (n0 : Nat) (Z0 : n0 ≤ h0.size) (P0 : Exa Z h0 sa "java/lang/String") (P1 : Fld Z h0 sa "java/lang/String" "value" "[B" .null) (P2 : Fld Z h0 sa "java/lang/String" "coder" "B" (.int (0 : Int32))) (P3 : n0 ≤ sa) (P4 : Arv Z h0 ca kc .char (1 : Int32) [(.int v0)] (.int (0 : Int32))) (hv0 : ¬ ((255 : Int32) < v0)) (P6 : Sta Z h0 "java/lang/String" "COMPACT_STRINGS" "Z" (.int cz)) (hz : ¬ cz = 0)  :
    MetFree l (⟨"java/lang/String", "<init>", "([C)V"⟩ : MethodName) (head1 (Jvm.Cond.code (⟨"java/lang/String", "<init>", "([C)V"⟩ : MethodName) jdk_42_method_3_code 2 none :: ws) ({ frames := 3, cells := 1, slots := 1, locals := 57 } : Room)) (fun a U => a = #[(.ref sa), (.ref ca)] ∧ Z.Warmed39 U.vm ∧ U.heap = h0) (fun _ _ _ _ _ => True) (fun _ U o U' => ∃ v L, o = .returned v ∧ Q_inb1 Z sa ca kc v0 cz h0 n0 v U'.heap L ∧ FrameEnd U o U' L ({ frames := 3, cells := 1, slots := 1, locals := 57 } : Room).cells ({ frames := 3, cells := 1, slots := 1, locals := 57 } : Room).slots) := by
  refine MetFree.of_bodySF pf_inb1 hisR ?_
  intro p e s m args below meth c s₁ Bd hml0 hP hK
  obtain ⟨rfl, hZ, hh⟩ := hP
  have hx := Bd.exec
  have hby := Bd.bytes
  have hml : c.maxLocals = 2 := hml0
  have hown : s.vm.findClass "java/lang/String" = some m.cls := findClass_of_methodNamed Bd.named
  have hnm := (name_of_methodNamed Bd.named Bd.method).1
  have X0 : Stand p l e ({ frames := 3, cells := 1, slots := 1, locals := 57 } : Room) s m #[(.ref sa), (.ref ca)] below meth c s₁ [] 0 0 := Stand.of_body Bd
  have e0 : s₁.heap = h0 := by rw [← hh, Bd.state]; rfl
  have N0 := Fr.nil n0
  obtain ⟨S0, hS0⟩ : ∃ z, z = s₁.setTop (entryFrame m #[(.ref sa), (.ref ca)] 2) := ⟨_, rfl⟩
  rw [← hS0]
  have g0 : Goes p e below S0 (s₁.setTop (mkF m 0 #[rv sa, rv ca] [])) := fun t k => by rw [hS0]; exact castTop (ef_inb1 m sa ca) k
  have g50 : Goes p e below S0 (s₁.setTop (mkF m 4 #[rv sa, rv ca] [(.ref ca), (.int (0 : Int32)), (.ref ca), (.ref sa)])) := fun t k => g0 t (by
    refine XS.aloadN X0.here hx rfl (hb hby d1_0) rfl rfl ?_
    show Go p e below t s₁ m 1 #[rv sa, rv ca] [(.ref sa)]
    refine XS.aloadN X0.here hx rfl (hb hby d1_1) rfl rfl ?_
    show Go p e below t s₁ m 2 #[rv sa, rv ca] [(.ref ca), (.ref sa)]
    refine XT.iconstV X0.here hx rfl (0 : Int32) (hb hby d1_2) (by decide) ?_
    show Go p e below t s₁ m 3 #[rv sa, rv ca] [(.int (0 : Int32)), (.ref ca), (.ref sa)]
    refine XS.aloadN X0.here hx rfl (hb hby d1_3) rfl rfl ?_
    show Go p e below t s₁ m 4 #[rv sa, rv ca] [(.ref ca), (.int (0 : Int32)), (.ref ca), (.ref sa)]
    exact k)
  obtain ⟨cl51, Ar51, q51, S51, M51, H51, G51⟩ := id P4
  have g52 : Goes p e below S0 (s₁.setTop (mkF m 6 #[rv sa, rv ca] [.null, (.int (1 : Int32)), (.int (0 : Int32)), (.ref ca), (.ref sa)])) := fun t k => g50 t (by
    refine X0.arraylength hx (by rw [e0]; exact Ar51.1) (State.isArrayOf_alike hZ.alike Ar51.2.1) (g := (mkF m 4 #[rv sa, rv ca] [(.ref ca), (.int (0 : Int32)), (.ref ca), (.ref sa)])) rfl rfl (hb hby d1_4) _ ?_
    rw [len_of S51 M51]
    show Go p e below t s₁ m 5 #[rv sa, rv ca] [(.int (1 : Int32)), (.int (0 : Int32)), (.ref ca), (.ref sa)]
    refine XS.aconstNull X0.here hx rfl (hb hby d1_5) ?_
    show Go p e below t s₁ m 6 #[rv sa, rv ca] [.null, (.int (1 : Int32)), (.int (0 : Int32)), (.ref ca), (.ref sa)]
    exact k)
  obtain ⟨_, _, ⟨T53, L53, k53, n53⟩, -, X53, ⟨Lc53, hQ53, l53, y53, z53⟩, st53⟩ := X0.specialBack hx (y := (⟨"java/lang/String", "<init>", "([CIILjava/lang/Void;)V"⟩ : MethodName)) rfl hown (mvT hZ (hw _ (List.mem_of_getElem? (i := 11) rfl))) (mvT hZ (hw _ (List.mem_of_getElem? (i := 12) rfl))) (mvT hZ (hw _ (List.mem_of_getElem? (i := 14) rfl))) (by decide) (backOf (W := 0) (rm_ina1 l Z a0 hw [] sa ca (0 : Int32) (1 : Int32) kc v0 cz h0 n0 Z0 P0 P1 P2 P3 P4 hv0 P6 hz rfl rfl) hZ (hw _ (List.mem_of_getElem? (i := 14) rfl)) (hw _ (List.mem_of_getElem? (i := 6) rfl)) (by decide) (by decide)) (g := (mkF m 6 #[rv sa, rv ca] [.null, (.int (1 : Int32)), (.int (0 : Int32)), (.ref ca), (.ref sa)])) rfl (by rw [hml]; rfl) (Steps.refl _) (a := sa) (argsL := [(.ref ca), (.int (0 : Int32)), (.int (1 : Int32)), .null]) (rest := []) (lenOf pd5 rfl) rfl (by show 2 * 0 + _ ≤ _; exact Nat.le_of_eq rfl) (hb hby d1_6) (fun _ _ => ⟨rfl, e0, (by decide : 0 + 1 ≤ _), (by decide : 0 + 1 ≤ _)⟩)
  dsimp only [Pt.U, Pt.locs, Pt.cells, Pt.slots] at X53 l53 y53 z53 st53 hQ53
  subst l53 y53 z53
  obtain ⟨tb_53, tk_53, rfl, N53, R53_0, R53_1, R53_2, R53_3, R53_4, R53_5⟩ := hQ53
  have M53 := Fr.app N0 N53
  have sz53_1 : h0.size ≤ tb_53 := Nat.le_trans (Nat.le_refl _) R53_1
  have ng53_1 : n0 ≤ tb_53 := Nat.le_trans Z0 sz53_1
  have g54 : Goes p e below S0 (T53.setTop (mkF m 9 #[rv sa, rv ca] [])) := fun t k => g52 t (st53.trans k)
  obtain ⟨fs, hr, hrun, hended, hW, hsame⟩ := X53.leave (v := none) (fun _ => rfl)
  refine ⟨_, _, g54 _ (X53.returnOut hx Bd.returns (hb hby d1_9) hr), hrun, hended, _, _, rfl, ?_, ⟨_, rfl⟩, hW, hsame.mono (by decide) (by decide)⟩
  show Q_inb1 Z sa ca kc v0 cz h0 n0 _ T53.heap _
  exact ⟨tb_53, tk_53, rfl, M53, ((Keep.refl h0 [sa]).trans R53_0 (allS (Or.inl (List.mem_of_getElem? (i := 0) rfl)) all0)), sz53_1, R53_2, R53_3, R53_4, R53_5⟩
theorem d0_0 : decode method_2_code 0 = .ok (.iload_n 0, 1) := by decide +kernel
theorem d0_1 : decode method_2_code 1 = .ok (.ifCond .ne 14, 3) := by decide +kernel
theorem d0_4 : decode method_2_code 4 = .ok (.new 7, 3) := by decide +kernel
theorem d0_7 : decode method_2_code 7 = .ok (.dup, 1) := by decide +kernel
theorem d0_8 : decode method_2_code 8 = .ok (.iconst 0, 1) := by decide +kernel
theorem d0_9 : decode method_2_code 9 = .ok (.newarray .char, 2) := by decide +kernel
theorem d0_11 : decode method_2_code 11 = .ok (.invokespecial 9, 3) := by decide +kernel
theorem d0_14 : decode method_2_code 14 = .ok (.areturn, 1) := by decide +kernel
theorem d0_15 : decode method_2_code 15 = .ok (.iload_n 0, 1) := by decide +kernel
theorem d0_16 : decode method_2_code 16 = .ok (.iconst 1, 1) := by decide +kernel
theorem d0_17 : decode method_2_code 17 = .ok (.if_icmp .ne 18, 3) := by decide +kernel
theorem d0_20 : decode method_2_code 20 = .ok (.new 7, 3) := by decide +kernel
theorem d0_23 : decode method_2_code 23 = .ok (.dup, 1) := by decide +kernel
theorem d0_24 : decode method_2_code 24 = .ok (.iconst 1, 1) := by decide +kernel
theorem d0_25 : decode method_2_code 25 = .ok (.newarray .char, 2) := by decide +kernel
theorem d0_27 : decode method_2_code 27 = .ok (.dup, 1) := by decide +kernel
theorem d0_28 : decode method_2_code 28 = .ok (.iconst 0, 1) := by decide +kernel
theorem d0_29 : decode method_2_code 29 = .ok (.iload_n 1, 1) := by decide +kernel
theorem d0_30 : decode method_2_code 30 = .ok (.castore, 1) := by decide +kernel
theorem d0_31 : decode method_2_code 31 = .ok (.invokespecial 9, 3) := by decide +kernel
theorem d0_34 : decode method_2_code 34 = .ok (.areturn, 1) := by decide +kernel
theorem d0_35 : decode method_2_code 35 = .ok (.new 7, 3) := by decide +kernel
theorem d0_38 : decode method_2_code 38 = .ok (.dup, 1) := by decide +kernel
theorem d0_39 : decode method_2_code 39 = .ok (.iconst 2, 1) := by decide +kernel
theorem d0_40 : decode method_2_code 40 = .ok (.newarray .char, 2) := by decide +kernel
theorem d0_42 : decode method_2_code 42 = .ok (.dup, 1) := by decide +kernel
theorem d0_43 : decode method_2_code 43 = .ok (.iconst 0, 1) := by decide +kernel
theorem d0_44 : decode method_2_code 44 = .ok (.iload_n 1, 1) := by decide +kernel
theorem d0_45 : decode method_2_code 45 = .ok (.castore, 1) := by decide +kernel
theorem d0_46 : decode method_2_code 46 = .ok (.dup, 1) := by decide +kernel
theorem d0_47 : decode method_2_code 47 = .ok (.iconst 1, 1) := by decide +kernel
theorem d0_48 : decode method_2_code 48 = .ok (.iload_n 2, 1) := by decide +kernel
theorem d0_49 : decode method_2_code 49 = .ok (.castore, 1) := by decide +kernel
theorem d0_50 : decode method_2_code 50 = .ok (.invokespecial 9, 3) := by decide +kernel
theorem d0_53 : decode method_2_code 53 = .ok (.areturn, 1) := by decide +kernel
theorem pd7 : parseMethodDescriptor "(ICC)Ljava/lang/String;" = some ⟨[.int, .char, .char], some (.object "java/lang/String")⟩ := by decide +kernel
theorem pf_mk1 : plainFor (⟨"com/example/forager/forager/RoadNamePinLaw", "mk", "(ICC)Ljava/lang/String;"⟩ : MethodName) = true := by first | exact plainFor_of_name (by first | (simp [plainName, overriddenIn, x]; done) | decide +kernel) | exact Jvm.Free.JP.mathPlain rfl (by decide +kernel) | decide +kernel
theorem ef_mk1 (m : MethodId) (xl : Int32) (xc : Int32) (yc : Int32) : entryFrame m #[(.int xl), (.int xc), (.int yc)] 3 = mkF m 0 #[iv xl, iv xc, iv yc] [] := by first | (simp [entryFrame, mkF, argsToLocals, Value.category, maxLocals]; done) | rfl
def Q_mk1 (Z : State) (xl : Int32) (xc : Int32) (yc : Int32) (cz : Int32) (h0 : Heap) (n0 : Nat) (v : Option Value) (h : Heap) (L : List Loc) : Prop := ∃ (vr : Addr) (tb : Addr) (tk : ClassId), v = some (.ref vr) ∧ Fr n0 L ∧ (Keep h0 h []) ∧ (h0.size ≤ vr) ∧ (Exa Z h vr "java/lang/String") ∧ (Fld Z h vr "java/lang/String" "value" "[B" (.ref tb)) ∧ (Fld Z h vr "java/lang/String" "coder" "B" (.int (0 : Int32))) ∧ (Arv Z h tb tk .byte (1 : Int32) [(.int (((nar .char xc).toInt8.toInt32).toInt8.toInt32))] (.int (0 : Int32)))
set_option maxRecDepth 65536 in
set_option maxHeartbeats 40000000 in
theorem rm_mk1 (l : Launch) (Z : State) (a0 : Array Value) (hw : ∀ d ∈ tables_1, d.before a0 Z = true) (ws : List Jvm.Cond) (xl : Int32) (xc : Int32) (yc : Int32) (cz : Int32) (h0 : Heap) (n0 : Nat) (Z0 : n0 ≤ h0.size) (P0 : Sta Z h0 "java/lang/String" "COMPACT_STRINGS" "Z" (.int cz)) (hz : ¬ cz = 0) (q3 : xl = (1 : Int32)) (hx0 : ¬ ((255 : Int32) < (nar .char xc)))  :
    MetFree l (⟨"com/example/forager/forager/RoadNamePinLaw", "mk", "(ICC)Ljava/lang/String;"⟩ : MethodName) (head1 (Jvm.Cond.code (⟨"com/example/forager/forager/RoadNamePinLaw", "mk", "(ICC)Ljava/lang/String;"⟩ : MethodName) method_2_code 3 (some (.object "java/lang/String")) :: ws) ({ frames := 4, cells := 3, slots := 6, locals := 71 } : Room)) (fun a U => a = #[(.int xl), (.int xc), (.int yc)] ∧ Z.Warmed39 U.vm ∧ U.heap = h0) (fun _ _ _ _ _ => True) (fun _ U o U' => ∃ v L, o = .returned v ∧ Q_mk1 Z xl xc yc cz h0 n0 v U'.heap L ∧ FrameEnd U o U' L ({ frames := 4, cells := 3, slots := 6, locals := 71 } : Room).cells ({ frames := 4, cells := 3, slots := 6, locals := 71 } : Room).slots) := by
  refine MetFree.of_bodySF pf_mk1 hisR ?_
  intro p e s m args below meth c s₁ Bd hml0 hP hK
  obtain ⟨rfl, hZ, hh⟩ := hP
  have hx := Bd.exec
  have hby := Bd.bytes
  have hml : c.maxLocals = 3 := hml0
  have hown : s.vm.findClass "com/example/forager/forager/RoadNamePinLaw" = some m.cls := findClass_of_methodNamed Bd.named
  have hnm := (name_of_methodNamed Bd.named Bd.method).1
  have X0 : Stand p l e ({ frames := 4, cells := 3, slots := 6, locals := 71 } : Room) s m #[(.int xl), (.int xc), (.int yc)] below meth c s₁ [] 0 0 := Stand.of_body Bd
  have e0 : s₁.heap = h0 := by rw [← hh, Bd.state]; rfl
  have N0 := Fr.nil n0
  obtain ⟨S0, hS0⟩ : ∃ z, z = s₁.setTop (entryFrame m #[(.int xl), (.int xc), (.int yc)] 3) := ⟨_, rfl⟩
  rw [← hS0]
  have g0 : Goes p e below S0 (s₁.setTop (mkF m 0 #[iv xl, iv xc, iv yc] [])) := fun t k => by rw [hS0]; exact castTop (ef_mk1 m xl xc yc) k
  obtain rfl : xl = (1 : Int32) := q3
  have g55 : Goes p e below S0 (s₁.setTop (mkF m 20 #[iv (1 : Int32), iv xc, iv yc] [])) := fun t k => g0 t (by
    refine XS.iloadN X0.here hx rfl (hb hby d0_0) rfl ?_
    show Go p e below t s₁ m 1 #[iv (1 : Int32), iv xc, iv yc] [(.int (1 : Int32))]
    refine XS.ifYes X0.here hx rfl (pc0 := 1) (pc' := 15) rfl (hb hby d0_1) rfl (XT.i0_ne_t (by decide)) (by decide) (by decide) ?_
    show Go p e below t s₁ m 15 #[iv (1 : Int32), iv xc, iv yc] []
    refine XS.iloadN X0.here hx rfl (hb hby d0_15) rfl ?_
    show Go p e below t s₁ m 16 #[iv (1 : Int32), iv xc, iv yc] [(.int (1 : Int32))]
    refine XT.iconstV X0.here hx rfl (1 : Int32) (hb hby d0_16) (by decide) ?_
    show Go p e below t s₁ m 17 #[iv (1 : Int32), iv xc, iv yc] [(.int (1 : Int32)), (.int (1 : Int32))]
    refine XS.icmpNo X0.here hx rfl (hb hby d0_17) rfl (XT.ii_ne_f (by decide)) ?_
    show Go p e below t s₁ m 20 #[iv (1 : Int32), iv xc, iv yc] []
    exact k)
  obtain ⟨T56, h56, X56, e56, E56, A56, D56, -, st56⟩ := newO X0 hx hZ hown (hw _ (List.mem_of_getElem? (i := 4) rfl)) (hw _ (List.mem_of_getElem? (i := 5) rfl)) (hw _ (List.mem_of_getElem? (i := 6) rfl)) e0 (g := (mkF m 20 #[iv (1 : Int32), iv xc, iv yc] [])) rfl (hb hby d0_20) (by decide) (by decide)
  obtain ⟨b56, gb56⟩ : ∃ z, z = h0.size := ⟨_, rfl⟩
  have sz56 : h0.size ≤ b56 := Nat.le_trans (Nat.le_refl _) (Nat.le_of_eq gb56.symm)
  have ng56 : n0 ≤ b56 := Nat.le_trans Z0 sz56
  rw [← gb56] at A56 D56 st56
  have F56_57 : Fld Z h56 b56 "java/lang/String" "value" "[B" .null := D56 (Or.inr (hw _ (List.mem_of_getElem? (i := 20) rfl))) (ty := (.array .byte)) (by decide)
  have F56_58 : Fld Z h56 b56 "java/lang/String" "coder" "B" (.int (0 : Int32)) := D56 (Or.inr (hw _ (List.mem_of_getElem? (i := 21) rfl))) (ty := .byte) (by decide)
  have g59 : Goes p e below S0 (T56.setTop (mkF m 23 #[iv (1 : Int32), iv xc, iv yc] [(.ref b56)])) := fun t k => g55 t (st56 t k)
  have g60 : Goes p e below S0 (T56.setTop (mkF m 25 #[iv (1 : Int32), iv xc, iv yc] [(.int (1 : Int32)), (.ref b56), (.ref b56)])) := fun t k => g59 t (by
    refine XS.dup X56.here hx rfl (hb hby d0_23) rfl rfl ?_
    show Go p e below t T56 m 24 #[iv (1 : Int32), iv xc, iv yc] [(.ref b56), (.ref b56)]
    refine XT.iconstV X56.here hx rfl (1 : Int32) (hb hby d0_24) (by decide) ?_
    show Go p e below t T56 m 25 #[iv (1 : Int32), iv xc, iv yc] [(.int (1 : Int32)), (.ref b56), (.ref b56)]
    exact k)
  obtain ⟨T61, h61, k61, X61, e61, E61, A61, st61⟩ := newP X56 hx hZ (hw _ (List.mem_of_getElem? (i := 7) rfl)) e56 (g := (mkF m 25 #[iv (1 : Int32), iv xc, iv yc] [(.int (1 : Int32)), (.ref b56), (.ref b56)])) rfl (hb hby d0_25) rfl (by decide) (cap := 1) (by decide) (by decide) (by decide) (by decide)
  obtain ⟨b61, gb61⟩ : ∃ z, z = h56.size := ⟨_, rfl⟩
  have sz61 : h0.size ≤ b61 := Nat.le_trans (Nat.le_trans (Nat.le_refl _) E56.1) (Nat.le_of_eq gb61.symm)
  have ng61 : n0 ≤ b61 := Nat.le_trans Z0 sz61
  rw [← gb61] at A61 st61
  have V61 : Arv Z h61 b61 k61 .char (1 : Int32) [(.int (0 : Int32))] (.int (0 : Int32)) := (Arv.new A61 (by decide)).pad (pad_rep [] (.int (0 : Int32)) 1)
  have g62 : Goes p e below S0 (T61.setTop (mkF m 27 #[iv (1 : Int32), iv xc, iv yc] [(.ref b61), (.ref b56), (.ref b56)])) := fun t k => g60 t (st61 t k)
  have g63 : Goes p e below S0 (T61.setTop (mkF m 30 #[iv (1 : Int32), iv xc, iv yc] [(.int xc), (.int (0 : Int32)), (.ref b61), (.ref b61), (.ref b56), (.ref b56)])) := fun t k => g62 t (by
    refine XS.dup X61.here hx rfl (hb hby d0_27) rfl rfl ?_
    show Go p e below t T61 m 28 #[iv (1 : Int32), iv xc, iv yc] [(.ref b61), (.ref b61), (.ref b56), (.ref b56)]
    refine XT.iconstV X61.here hx rfl (0 : Int32) (hb hby d0_28) (by decide) ?_
    show Go p e below t T61 m 29 #[iv (1 : Int32), iv xc, iv yc] [(.int (0 : Int32)), (.ref b61), (.ref b61), (.ref b56), (.ref b56)]
    refine XS.iloadN X61.here hx rfl (hb hby d0_29) rfl ?_
    show Go p e below t T61 m 30 #[iv (1 : Int32), iv xc, iv yc] [(.int xc), (.int (0 : Int32)), (.ref b61), (.ref b61), (.ref b56), (.ref b56)]
    exact k)
  obtain ⟨cl64, Ar64, q64, S64, M64, H64, G64⟩ := id V61
  obtain ⟨T65, h65, X65, e65, W65, st65⟩ := stC X61 hx hZ e61 Ar64 (j := (0 : Int32)) (inb_of S64 ⟨by decide, by decide⟩) (g := (mkF m 30 #[iv (1 : Int32), iv xc, iv yc] [(.int xc), (.int (0 : Int32)), (.ref b61), (.ref b61), (.ref b56), (.ref b56)])) rfl rfl (hb hby d0_30)
  have N65 := Fr.snoc X65 N0 ng61
  have V65 : Arv Z h65 b61 k61 .char (1 : Int32) [(.int (nar .char xc))] (.int (0 : Int32)) := Arv.set Ar64 q64 S64 M64 H64 G64 (fits_nar_char _) W65 0 rfl (Nat.le_of_ble_eq_true rfl)
  have g66 : Goes p e below S0 (T65.setTop (mkF m 31 #[iv (1 : Int32), iv xc, iv yc] [(.ref b61), (.ref b56), (.ref b56)])) := fun t k => g63 t (st65 t k)
  obtain ⟨_, _, ⟨T67, L67, k67, n67⟩, -, X67, ⟨Lc67, hQ67, l67, y67, z67⟩, st67⟩ := X65.specialBack hx (y := (⟨"java/lang/String", "<init>", "([C)V"⟩ : MethodName)) rfl hown (mvT hZ (hw _ (List.mem_of_getElem? (i := 8) rfl))) (mvT hZ (hw _ (List.mem_of_getElem? (i := 9) rfl))) (mvT hZ (hw _ (List.mem_of_getElem? (i := 10) rfl))) (by decide) (backOf (W := 1) (rm_inb1 l Z a0 hw [] b56 b61 k61 (nar .char xc) cz h65 n0 (Nat.le_trans Z0 (Nat.le_trans (Nat.le_trans (Nat.le_trans (Nat.le_refl _) E56.1) E61.1) (Nat.le_of_eq W65.size.symm))) ((A56.ext E61).wr W65) ((F56_57.ext E61).other W65 (Or.inl (Nat.ne_of_lt (Nat.lt_of_lt_of_le A56.lt (Nat.le_of_eq gb61.symm))))) ((F56_58.ext E61).other W65 (Or.inl (Nat.ne_of_lt (Nat.lt_of_lt_of_le A56.lt (Nat.le_of_eq gb61.symm))))) ng56 V65 hx0 (((P0.ext E56).ext E61).wr W65) hz) hZ (hw _ (List.mem_of_getElem? (i := 10) rfl)) (hw _ (List.mem_of_getElem? (i := 6) rfl)) (by decide) (by decide)) (g := (mkF m 31 #[iv (1 : Int32), iv xc, iv yc] [(.ref b61), (.ref b56), (.ref b56)])) rfl (by rw [hml]; rfl) (Steps.refl _) (a := b56) (argsL := [(.ref b61)]) (rest := [(.ref b56)]) (lenOf pd6 rfl) rfl (by show 2 * 0 + _ ≤ _; exact Nat.le_of_eq rfl) (hb hby d0_31) (fun _ _ => ⟨rfl, e65, (by decide : 2 + 1 ≤ _), (by decide : 5 + 1 ≤ _)⟩)
  dsimp only [Pt.U, Pt.locs, Pt.cells, Pt.slots] at X67 l67 y67 z67 st67 hQ67
  subst l67 y67 z67
  obtain ⟨tb_67, tk_67, rfl, N67, R67_0, R67_1, R67_2, R67_3, R67_4, R67_5⟩ := hQ67
  have M67 := Fr.app N65 N67
  have sz67_1 : h0.size ≤ tb_67 := Nat.le_trans (Nat.le_trans (Nat.le_trans (Nat.le_trans (Nat.le_refl _) E56.1) E61.1) (Nat.le_of_eq W65.size.symm)) R67_1
  have ng67_1 : n0 ≤ tb_67 := Nat.le_trans Z0 sz67_1
  have g68 : Goes p e below S0 (T67.setTop (mkF m 34 #[iv (1 : Int32), iv xc, iv yc] [(.ref b56)])) := fun t k => g66 t (st67.trans k)
  obtain ⟨fs, hr, hrun, hended, hW, hsame⟩ := X67.leave (v := some (.ref b56)) (fun h => by rw [Bd.returns] at h; cases h)
  refine ⟨_, _, g68 _ (retOut X67 hx Bd.returns rfl (Or.inr (Or.inr (Or.inr (Or.inr ⟨rfl, rfl, rfl⟩)))) (hb hby d0_34) hr), hrun, hended, _, _, rfl, ?_, ⟨_, rfl⟩, hW, hsame.mono (by decide) (by decide)⟩
  show Q_mk1 Z (1 : Int32) xc yc cz h0 n0 _ T67.heap _
  exact ⟨b56, tb_67, tk_67, rfl, M67, (((((Keep.refl h0 []).ext E56).ext E61).wr W65 (Or.inr sz61)).trans R67_0 (allS (Or.inr sz56) all0)), sz56, R67_2, R67_3, R67_4, R67_5⟩
theorem pf_czl2 : plainFor (⟨"java/lang/StringUTF16", "compress", "([CI[BII)I"⟩ : MethodName) = true := by first | exact plainFor_of_name (by first | (simp [plainName, overriddenIn, x]; done) | decide +kernel) | exact Jvm.Free.JP.mathPlain rfl (by decide +kernel) | decide +kernel
theorem ef_czl2 (m : MethodId) (ca : Addr) (xo : Int32) (ba : Addr) (yo : Int32) (xl : Int32) : entryFrame m #[(.ref ca), (.int xo), (.ref ba), (.int yo), (.int xl)] 7 = mkF m 0 #[rv ca, iv xo, rv ba, iv yo, iv xl, .unset, .unset] [] := by first | (simp [entryFrame, mkF, argsToLocals, Value.category, maxLocals]; done) | rfl
def Q_czl2 (Z : State) (ca : Addr) (xo : Int32) (ba : Addr) (yo : Int32) (xl : Int32) (kc : ClassId) (kb : ClassId) (v0 : Int32) (v1 : Int32) (h0 : Heap) (n0 : Nat) (v : Option Value) (h : Heap) (L : List Loc) : Prop := v = some (.int (2 : Int32)) ∧ Fr n0 L ∧ (Keep h0 h [ba]) ∧ (Arv Z h ba kb .byte (2 : Int32) [(.int (((v0).toInt8.toInt32).toInt8.toInt32)), (.int (((v1).toInt8.toInt32).toInt8.toInt32))] (.int (0 : Int32)))
set_option maxRecDepth 65536 in
set_option maxHeartbeats 40000000 in
theorem rm_czl2 (l : Launch) (Z : State) (a0 : Array Value) (hw : ∀ d ∈ tables_1, d.before a0 Z = true) (ws : List Jvm.Cond) (ca : Addr) (xo : Int32) (ba : Addr) (yo : Int32) (xl : Int32) (kc : ClassId) (kb : ClassId) (v0 : Int32) (v1 : Int32) (h0 : Heap) (n0 : Nat) (Z0 : n0 ≤ h0.size) (P0 : Arv Z h0 ca kc .char (2 : Int32) [(.int v0), (.int v1)] (.int (0 : Int32))) (P1 : Arv Z h0 ba kb .byte (2 : Int32) [(.int (0 : Int32)), (.int (0 : Int32))] (.int (0 : Int32))) (P2 : n0 ≤ ba) (P3 : ca ≠ ba) (hv0 : ¬ ((255 : Int32) < v0)) (hv1 : ¬ ((255 : Int32) < v1)) (q1 : xo = (0 : Int32)) (q2 : yo = (0 : Int32)) (q3 : xl = (2 : Int32))  :
    MetFree l (⟨"java/lang/StringUTF16", "compress", "([CI[BII)I"⟩ : MethodName) (head1 (Jvm.Cond.code (⟨"java/lang/StringUTF16", "compress", "([CI[BII)I"⟩ : MethodName) jdk_52_method_21_code 7 (some .int) :: ws) ({ frames := 0, cells := 0, slots := 0, locals := 0 } : Room)) (fun a U => a = #[(.ref ca), (.int xo), (.ref ba), (.int yo), (.int xl)] ∧ Z.Warmed39 U.vm ∧ U.heap = h0) (fun _ _ _ _ _ => True) (fun _ U o U' => ∃ v L, o = .returned v ∧ Q_czl2 Z ca xo ba yo xl kc kb v0 v1 h0 n0 v U'.heap L ∧ FrameEnd U o U' L ({ frames := 0, cells := 0, slots := 0, locals := 0 } : Room).cells ({ frames := 0, cells := 0, slots := 0, locals := 0 } : Room).slots) := by
  refine MetFree.of_bodySF pf_czl2 hisR ?_
  intro p e s m args below meth c s₁ Bd hml0 hP hK
  obtain ⟨rfl, hZ, hh⟩ := hP
  have hx := Bd.exec
  have hby := Bd.bytes
  have hml : c.maxLocals = 7 := hml0
  have hown : s.vm.findClass "java/lang/StringUTF16" = some m.cls := findClass_of_methodNamed Bd.named
  have hnm := (name_of_methodNamed Bd.named Bd.method).1
  have X0 : Stand p l e ({ frames := 0, cells := 0, slots := 0, locals := 0 } : Room) s m #[(.ref ca), (.int xo), (.ref ba), (.int yo), (.int xl)] below meth c s₁ [] 0 0 := Stand.of_body Bd
  have e0 : s₁.heap = h0 := by rw [← hh, Bd.state]; rfl
  have N0 := Fr.nil n0
  obtain ⟨S0, hS0⟩ : ∃ z, z = s₁.setTop (entryFrame m #[(.ref ca), (.int xo), (.ref ba), (.int yo), (.int xl)] 7) := ⟨_, rfl⟩
  rw [← hS0]
  have g0 : Goes p e below S0 (s₁.setTop (mkF m 0 #[rv ca, iv xo, rv ba, iv yo, iv xl, .unset, .unset] [])) := fun t k => by rw [hS0]; exact castTop (ef_czl2 m ca xo ba yo xl) k
  obtain rfl : xo = (0 : Int32) := q1
  obtain rfl : yo = (0 : Int32) := q2
  obtain rfl : xl = (2 : Int32) := q3
  have g69 : Goes p e below S0 (s₁.setTop (mkF m 12 #[rv ca, iv (0 : Int32), rv ba, iv (0 : Int32), iv (2 : Int32), iv (0 : Int32), .unset] [(.int (0 : Int32)), (.ref ca)])) := fun t k => g0 t (by
    refine XT.iconstV X0.here hx rfl (0 : Int32) (hb hby d34_0) (by decide) ?_
    show Go p e below t s₁ m 1 #[rv ca, iv (0 : Int32), rv ba, iv (0 : Int32), iv (2 : Int32), .unset, .unset] [(.int (0 : Int32))]
    refine XS.istore X0.here hx rfl (hb hby d34_1) rfl (l' := #[rv ca, iv (0 : Int32), rv ba, iv (0 : Int32), iv (2 : Int32), iv (0 : Int32), .unset]) rfl ?_
    show Go p e below t s₁ m 3 #[rv ca, iv (0 : Int32), rv ba, iv (0 : Int32), iv (2 : Int32), iv (0 : Int32), .unset] []
    refine XS.iload X0.here hx rfl (hb hby d34_3) rfl ?_
    show Go p e below t s₁ m 5 #[rv ca, iv (0 : Int32), rv ba, iv (0 : Int32), iv (2 : Int32), iv (0 : Int32), .unset] [(.int (0 : Int32))]
    refine XS.iload X0.here hx rfl (hb hby d34_5) rfl ?_
    show Go p e below t s₁ m 7 #[rv ca, iv (0 : Int32), rv ba, iv (0 : Int32), iv (2 : Int32), iv (0 : Int32), .unset] [(.int (2 : Int32)), (.int (0 : Int32))]
    refine XS.icmpNo X0.here hx rfl (hb hby d34_7) rfl (XT.ii_ge_f (by decide)) ?_
    show Go p e below t s₁ m 10 #[rv ca, iv (0 : Int32), rv ba, iv (0 : Int32), iv (2 : Int32), iv (0 : Int32), .unset] []
    refine XS.aloadN X0.here hx rfl (hb hby d34_10) rfl rfl ?_
    show Go p e below t s₁ m 11 #[rv ca, iv (0 : Int32), rv ba, iv (0 : Int32), iv (2 : Int32), iv (0 : Int32), .unset] [(.ref ca)]
    refine XS.iloadN X0.here hx rfl (hb hby d34_11) rfl ?_
    show Go p e below t s₁ m 12 #[rv ca, iv (0 : Int32), rv ba, iv (0 : Int32), iv (2 : Int32), iv (0 : Int32), .unset] [(.int (0 : Int32)), (.ref ca)]
    exact k)
  obtain ⟨cl70, Ar70, q70, S70, M70, H70, G70⟩ := id P0
  have g71 : Goes p e below S0 (s₁.setTop (mkF m 31 #[rv ca, iv (0 : Int32), rv ba, iv (0 : Int32), iv (2 : Int32), iv (0 : Int32), iv v0] [(.int ((v0).toInt8.toInt32)), (.int (0 : Int32)), (.ref ba)])) := fun t k => g69 t (by
    refine X0.caload hx (j := (0 : Int32)) (v := (.int v0)) (by rw [e0]; exact Ar70.1) (State.isArrayOf_alike hZ.alike Ar70.2.1) Ar70.2.2 (inb_of S70 ⟨by decide, by decide⟩) (H70.at (inb_of S70 ⟨by decide, by decide⟩) rfl) (g := (mkF m 12 #[rv ca, iv (0 : Int32), rv ba, iv (0 : Int32), iv (2 : Int32), iv (0 : Int32), .unset] [(.int (0 : Int32)), (.ref ca)])) rfl rfl (hb hby d34_12) _ ?_
    show Go p e below t s₁ m 13 #[rv ca, iv (0 : Int32), rv ba, iv (0 : Int32), iv (2 : Int32), iv (0 : Int32), .unset] [(.int v0)]
    refine XS.istore X0.here hx rfl (hb hby d34_13) rfl (l' := #[rv ca, iv (0 : Int32), rv ba, iv (0 : Int32), iv (2 : Int32), iv (0 : Int32), iv v0]) rfl ?_
    show Go p e below t s₁ m 15 #[rv ca, iv (0 : Int32), rv ba, iv (0 : Int32), iv (2 : Int32), iv (0 : Int32), iv v0] []
    refine XS.iload X0.here hx rfl (hb hby d34_15) rfl ?_
    show Go p e below t s₁ m 17 #[rv ca, iv (0 : Int32), rv ba, iv (0 : Int32), iv (2 : Int32), iv (0 : Int32), iv v0] [(.int v0)]
    refine XT.sipushV X0.here hx rfl (255 : Int32) (hb hby d34_17) (by decide) ?_
    show Go p e below t s₁ m 20 #[rv ca, iv (0 : Int32), rv ba, iv (0 : Int32), iv (2 : Int32), iv (0 : Int32), iv v0] [(.int (255 : Int32)), (.int v0)]
    refine XS.icmpYes X0.here hx rfl (pc0 := 20) (pc' := 26) rfl (hb hby d34_20) rfl (XT.ii_le_t hv0) (by decide) (by decide) ?_
    show Go p e below t s₁ m 26 #[rv ca, iv (0 : Int32), rv ba, iv (0 : Int32), iv (2 : Int32), iv (0 : Int32), iv v0] []
    refine XS.aloadN X0.here hx rfl (hb hby d34_26) rfl rfl ?_
    show Go p e below t s₁ m 27 #[rv ca, iv (0 : Int32), rv ba, iv (0 : Int32), iv (2 : Int32), iv (0 : Int32), iv v0] [(.ref ba)]
    refine XS.iloadN X0.here hx rfl (hb hby d34_27) rfl ?_
    show Go p e below t s₁ m 28 #[rv ca, iv (0 : Int32), rv ba, iv (0 : Int32), iv (2 : Int32), iv (0 : Int32), iv v0] [(.int (0 : Int32)), (.ref ba)]
    refine XS.iload X0.here hx rfl (hb hby d34_28) rfl ?_
    show Go p e below t s₁ m 30 #[rv ca, iv (0 : Int32), rv ba, iv (0 : Int32), iv (2 : Int32), iv (0 : Int32), iv v0] [(.int v0), (.int (0 : Int32)), (.ref ba)]
    refine XS.i2b X0.here hx rfl (hb hby d34_30) rfl ?_
    show Go p e below t s₁ m 31 #[rv ca, iv (0 : Int32), rv ba, iv (0 : Int32), iv (2 : Int32), iv (0 : Int32), iv v0] [(.int ((v0).toInt8.toInt32)), (.int (0 : Int32)), (.ref ba)]
    exact k)
  obtain ⟨cl72, Ar72, q72, S72, M72, H72, G72⟩ := id P1
  obtain ⟨T73, h73, X73, e73, W73, st73⟩ := stB X0 hx hZ e0 Ar72 (j := (0 : Int32)) (inb_of S72 ⟨by decide, by decide⟩) (g := (mkF m 31 #[rv ca, iv (0 : Int32), rv ba, iv (0 : Int32), iv (2 : Int32), iv (0 : Int32), iv v0] [(.int ((v0).toInt8.toInt32)), (.int (0 : Int32)), (.ref ba)])) rfl rfl (hb hby d34_31)
  have N73 := Fr.snoc X73 N0 P2
  have V73 : Arv Z h73 ba kb .byte (2 : Int32) [(.int ((((v0).toInt8.toInt32)).toInt8.toInt32)), (.int (0 : Int32))] (.int (0 : Int32)) := Arv.set Ar72 q72 S72 M72 H72 G72 (fits_nar_byte _) W73 0 rfl (Nat.le_of_ble_eq_true rfl)
  have g74 : Goes p e below S0 (T73.setTop (mkF m 32 #[rv ca, iv (0 : Int32), rv ba, iv (0 : Int32), iv (2 : Int32), iv (0 : Int32), iv v0] [])) := fun t k => g71 t (st73 t k)
  have g75 : Goes p e below S0 (T73.setTop (mkF m 12 #[rv ca, iv (1 : Int32), rv ba, iv (1 : Int32), iv (2 : Int32), iv (1 : Int32), iv v0] [(.int (1 : Int32)), (.ref ca)])) := fun t k => g74 t (by
    refine XT.iincV X73.here hx rfl (1 : Int32) (hb hby d34_32) (by decide) rfl (l' := #[rv ca, iv (1 : Int32), rv ba, iv (0 : Int32), iv (2 : Int32), iv (0 : Int32), iv v0]) rfl ?_
    show Go p e below t T73 m 35 #[rv ca, iv (1 : Int32), rv ba, iv (0 : Int32), iv (2 : Int32), iv (0 : Int32), iv v0] []
    refine XT.iincV X73.here hx rfl (1 : Int32) (hb hby d34_35) (by decide) rfl (l' := #[rv ca, iv (1 : Int32), rv ba, iv (1 : Int32), iv (2 : Int32), iv (0 : Int32), iv v0]) rfl ?_
    show Go p e below t T73 m 38 #[rv ca, iv (1 : Int32), rv ba, iv (1 : Int32), iv (2 : Int32), iv (0 : Int32), iv v0] []
    refine XT.iincV X73.here hx rfl (1 : Int32) (hb hby d34_38) (by decide) rfl (l' := #[rv ca, iv (1 : Int32), rv ba, iv (1 : Int32), iv (2 : Int32), iv (1 : Int32), iv v0]) rfl ?_
    show Go p e below t T73 m 41 #[rv ca, iv (1 : Int32), rv ba, iv (1 : Int32), iv (2 : Int32), iv (1 : Int32), iv v0] []
    refine XS.goto X73.here hx rfl (pc0 := 41) (pc' := 3) rfl (hb hby d34_41) (by decide) (by decide) ?_
    show Go p e below t T73 m 3 #[rv ca, iv (1 : Int32), rv ba, iv (1 : Int32), iv (2 : Int32), iv (1 : Int32), iv v0] []
    refine XS.iload X73.here hx rfl (hb hby d34_3) rfl ?_
    show Go p e below t T73 m 5 #[rv ca, iv (1 : Int32), rv ba, iv (1 : Int32), iv (2 : Int32), iv (1 : Int32), iv v0] [(.int (1 : Int32))]
    refine XS.iload X73.here hx rfl (hb hby d34_5) rfl ?_
    show Go p e below t T73 m 7 #[rv ca, iv (1 : Int32), rv ba, iv (1 : Int32), iv (2 : Int32), iv (1 : Int32), iv v0] [(.int (2 : Int32)), (.int (1 : Int32))]
    refine XS.icmpNo X73.here hx rfl (hb hby d34_7) rfl (XT.ii_ge_f (by decide)) ?_
    show Go p e below t T73 m 10 #[rv ca, iv (1 : Int32), rv ba, iv (1 : Int32), iv (2 : Int32), iv (1 : Int32), iv v0] []
    refine XS.aloadN X73.here hx rfl (hb hby d34_10) rfl rfl ?_
    show Go p e below t T73 m 11 #[rv ca, iv (1 : Int32), rv ba, iv (1 : Int32), iv (2 : Int32), iv (1 : Int32), iv v0] [(.ref ca)]
    refine XS.iloadN X73.here hx rfl (hb hby d34_11) rfl ?_
    show Go p e below t T73 m 12 #[rv ca, iv (1 : Int32), rv ba, iv (1 : Int32), iv (2 : Int32), iv (1 : Int32), iv v0] [(.int (1 : Int32)), (.ref ca)]
    exact k)
  obtain ⟨cl76, Ar76, q76, S76, M76, H76, G76⟩ := id (P0.other W73 P3)
  have g77 : Goes p e below S0 (T73.setTop (mkF m 31 #[rv ca, iv (1 : Int32), rv ba, iv (1 : Int32), iv (2 : Int32), iv (1 : Int32), iv v1] [(.int ((v1).toInt8.toInt32)), (.int (1 : Int32)), (.ref ba)])) := fun t k => g75 t (by
    refine X73.caload hx (j := (1 : Int32)) (v := (.int v1)) (by rw [e73]; exact Ar76.1) (State.isArrayOf_alike hZ.alike Ar76.2.1) Ar76.2.2 (inb_of S76 ⟨by decide, by decide⟩) (H76.at (inb_of S76 ⟨by decide, by decide⟩) rfl) (g := (mkF m 12 #[rv ca, iv (1 : Int32), rv ba, iv (1 : Int32), iv (2 : Int32), iv (1 : Int32), iv v0] [(.int (1 : Int32)), (.ref ca)])) rfl rfl (hb hby d34_12) _ ?_
    show Go p e below t T73 m 13 #[rv ca, iv (1 : Int32), rv ba, iv (1 : Int32), iv (2 : Int32), iv (1 : Int32), iv v0] [(.int v1)]
    refine XS.istore X73.here hx rfl (hb hby d34_13) rfl (l' := #[rv ca, iv (1 : Int32), rv ba, iv (1 : Int32), iv (2 : Int32), iv (1 : Int32), iv v1]) rfl ?_
    show Go p e below t T73 m 15 #[rv ca, iv (1 : Int32), rv ba, iv (1 : Int32), iv (2 : Int32), iv (1 : Int32), iv v1] []
    refine XS.iload X73.here hx rfl (hb hby d34_15) rfl ?_
    show Go p e below t T73 m 17 #[rv ca, iv (1 : Int32), rv ba, iv (1 : Int32), iv (2 : Int32), iv (1 : Int32), iv v1] [(.int v1)]
    refine XT.sipushV X73.here hx rfl (255 : Int32) (hb hby d34_17) (by decide) ?_
    show Go p e below t T73 m 20 #[rv ca, iv (1 : Int32), rv ba, iv (1 : Int32), iv (2 : Int32), iv (1 : Int32), iv v1] [(.int (255 : Int32)), (.int v1)]
    refine XS.icmpYes X73.here hx rfl (pc0 := 20) (pc' := 26) rfl (hb hby d34_20) rfl (XT.ii_le_t hv1) (by decide) (by decide) ?_
    show Go p e below t T73 m 26 #[rv ca, iv (1 : Int32), rv ba, iv (1 : Int32), iv (2 : Int32), iv (1 : Int32), iv v1] []
    refine XS.aloadN X73.here hx rfl (hb hby d34_26) rfl rfl ?_
    show Go p e below t T73 m 27 #[rv ca, iv (1 : Int32), rv ba, iv (1 : Int32), iv (2 : Int32), iv (1 : Int32), iv v1] [(.ref ba)]
    refine XS.iloadN X73.here hx rfl (hb hby d34_27) rfl ?_
    show Go p e below t T73 m 28 #[rv ca, iv (1 : Int32), rv ba, iv (1 : Int32), iv (2 : Int32), iv (1 : Int32), iv v1] [(.int (1 : Int32)), (.ref ba)]
    refine XS.iload X73.here hx rfl (hb hby d34_28) rfl ?_
    show Go p e below t T73 m 30 #[rv ca, iv (1 : Int32), rv ba, iv (1 : Int32), iv (2 : Int32), iv (1 : Int32), iv v1] [(.int v1), (.int (1 : Int32)), (.ref ba)]
    refine XS.i2b X73.here hx rfl (hb hby d34_30) rfl ?_
    show Go p e below t T73 m 31 #[rv ca, iv (1 : Int32), rv ba, iv (1 : Int32), iv (2 : Int32), iv (1 : Int32), iv v1] [(.int ((v1).toInt8.toInt32)), (.int (1 : Int32)), (.ref ba)]
    exact k)
  obtain ⟨cl78, Ar78, q78, S78, M78, H78, G78⟩ := id V73
  obtain ⟨T79, h79, X79, e79, W79, st79⟩ := stB X73 hx hZ e73 Ar78 (j := (1 : Int32)) (inb_of S78 ⟨by decide, by decide⟩) (g := (mkF m 31 #[rv ca, iv (1 : Int32), rv ba, iv (1 : Int32), iv (2 : Int32), iv (1 : Int32), iv v1] [(.int ((v1).toInt8.toInt32)), (.int (1 : Int32)), (.ref ba)])) rfl rfl (hb hby d34_31)
  have N79 := Fr.snoc X79 N73 P2
  have V79 : Arv Z h79 ba kb .byte (2 : Int32) [(.int ((((v0).toInt8.toInt32)).toInt8.toInt32)), (.int ((((v1).toInt8.toInt32)).toInt8.toInt32))] (.int (0 : Int32)) := Arv.set Ar78 q78 S78 M78 H78 G78 (fits_nar_byte _) W79 1 rfl (Nat.le_of_ble_eq_true rfl)
  have g80 : Goes p e below S0 (T79.setTop (mkF m 32 #[rv ca, iv (1 : Int32), rv ba, iv (1 : Int32), iv (2 : Int32), iv (1 : Int32), iv v1] [])) := fun t k => g77 t (st79 t k)
  have g81 : Goes p e below S0 (T79.setTop (mkF m 46 #[rv ca, iv (2 : Int32), rv ba, iv (2 : Int32), iv (2 : Int32), iv (2 : Int32), iv v1] [(.int (2 : Int32))])) := fun t k => g80 t (by
    refine XT.iincV X79.here hx rfl (1 : Int32) (hb hby d34_32) (by decide) rfl (l' := #[rv ca, iv (2 : Int32), rv ba, iv (1 : Int32), iv (2 : Int32), iv (1 : Int32), iv v1]) rfl ?_
    show Go p e below t T79 m 35 #[rv ca, iv (2 : Int32), rv ba, iv (1 : Int32), iv (2 : Int32), iv (1 : Int32), iv v1] []
    refine XT.iincV X79.here hx rfl (1 : Int32) (hb hby d34_35) (by decide) rfl (l' := #[rv ca, iv (2 : Int32), rv ba, iv (2 : Int32), iv (2 : Int32), iv (1 : Int32), iv v1]) rfl ?_
    show Go p e below t T79 m 38 #[rv ca, iv (2 : Int32), rv ba, iv (2 : Int32), iv (2 : Int32), iv (1 : Int32), iv v1] []
    refine XT.iincV X79.here hx rfl (1 : Int32) (hb hby d34_38) (by decide) rfl (l' := #[rv ca, iv (2 : Int32), rv ba, iv (2 : Int32), iv (2 : Int32), iv (2 : Int32), iv v1]) rfl ?_
    show Go p e below t T79 m 41 #[rv ca, iv (2 : Int32), rv ba, iv (2 : Int32), iv (2 : Int32), iv (2 : Int32), iv v1] []
    refine XS.goto X79.here hx rfl (pc0 := 41) (pc' := 3) rfl (hb hby d34_41) (by decide) (by decide) ?_
    show Go p e below t T79 m 3 #[rv ca, iv (2 : Int32), rv ba, iv (2 : Int32), iv (2 : Int32), iv (2 : Int32), iv v1] []
    refine XS.iload X79.here hx rfl (hb hby d34_3) rfl ?_
    show Go p e below t T79 m 5 #[rv ca, iv (2 : Int32), rv ba, iv (2 : Int32), iv (2 : Int32), iv (2 : Int32), iv v1] [(.int (2 : Int32))]
    refine XS.iload X79.here hx rfl (hb hby d34_5) rfl ?_
    show Go p e below t T79 m 7 #[rv ca, iv (2 : Int32), rv ba, iv (2 : Int32), iv (2 : Int32), iv (2 : Int32), iv v1] [(.int (2 : Int32)), (.int (2 : Int32))]
    refine XS.icmpYes X79.here hx rfl (pc0 := 7) (pc' := 44) rfl (hb hby d34_7) rfl (XT.ii_ge_t (by decide)) (by decide) (by decide) ?_
    show Go p e below t T79 m 44 #[rv ca, iv (2 : Int32), rv ba, iv (2 : Int32), iv (2 : Int32), iv (2 : Int32), iv v1] []
    refine XS.iload X79.here hx rfl (hb hby d34_44) rfl ?_
    show Go p e below t T79 m 46 #[rv ca, iv (2 : Int32), rv ba, iv (2 : Int32), iv (2 : Int32), iv (2 : Int32), iv v1] [(.int (2 : Int32))]
    exact k)
  obtain ⟨fs, hr, hrun, hended, hW, hsame⟩ := X79.leave (v := some (.int (2 : Int32))) (fun h => by rw [Bd.returns] at h; cases h)
  refine ⟨_, _, g81 _ (retOut X79 hx Bd.returns rfl (Or.inl ⟨rfl, Or.inl rfl, _, rfl⟩) (hb hby d34_46) hr), hrun, hended, _, _, rfl, ?_, ⟨_, rfl⟩, hW, hsame.mono (by decide) (by decide)⟩
  show Q_czl2 Z ca (0 : Int32) ba (0 : Int32) (2 : Int32) kc kb v0 v1 h0 n0 _ T79.heap _
  rw [e79]
  exact ⟨rfl, N79, (((Keep.refl h0 [ba]).wr W73 (Or.inl (List.mem_of_getElem? (i := 0) rfl))).wr W79 (Or.inl (List.mem_of_getElem? (i := 0) rfl))), V79⟩
theorem pf_cma2 : plainFor (⟨"java/lang/StringUTF16", "compress", "([CII)[B"⟩ : MethodName) = true := by first | exact plainFor_of_name (by first | (simp [plainName, overriddenIn, x]; done) | decide +kernel) | exact Jvm.Free.JP.mathPlain rfl (by decide +kernel) | decide +kernel
theorem ef_cma2 (m : MethodId) (ca : Addr) (xo : Int32) (xl : Int32) : entryFrame m #[(.ref ca), (.int xo), (.int xl)] 6 = mkF m 0 #[rv ca, iv xo, iv xl, .unset, .unset, .unset] [] := by first | (simp [entryFrame, mkF, argsToLocals, Value.category, maxLocals]; done) | rfl
def Q_cma2 (Z : State) (ca : Addr) (xo : Int32) (xl : Int32) (kc : ClassId) (v0 : Int32) (v1 : Int32) (h0 : Heap) (n0 : Nat) (v : Option Value) (h : Heap) (L : List Loc) : Prop := ∃ (tb : Addr) (tk : ClassId), v = some (.ref tb) ∧ Fr n0 L ∧ (Keep h0 h []) ∧ (h0.size ≤ tb) ∧ (Arv Z h tb tk .byte (2 : Int32) [(.int (((v0).toInt8.toInt32).toInt8.toInt32)), (.int (((v1).toInt8.toInt32).toInt8.toInt32))] (.int (0 : Int32)))
set_option maxRecDepth 65536 in
set_option maxHeartbeats 40000000 in
theorem rm_cma2 (l : Launch) (Z : State) (a0 : Array Value) (hw : ∀ d ∈ tables_1, d.before a0 Z = true) (ws : List Jvm.Cond) (ca : Addr) (xo : Int32) (xl : Int32) (kc : ClassId) (v0 : Int32) (v1 : Int32) (h0 : Heap) (n0 : Nat) (Z0 : n0 ≤ h0.size) (P0 : Arv Z h0 ca kc .char (2 : Int32) [(.int v0), (.int v1)] (.int (0 : Int32))) (hv0 : ¬ ((255 : Int32) < v0)) (hv1 : ¬ ((255 : Int32) < v1)) (q1 : xo = (0 : Int32)) (q3 : xl = (2 : Int32))  :
    MetFree l (⟨"java/lang/StringUTF16", "compress", "([CII)[B"⟩ : MethodName) (head1 (Jvm.Cond.code (⟨"java/lang/StringUTF16", "compress", "([CII)[B"⟩ : MethodName) jdk_52_method_16_code 6 (some (.array .byte)) :: ws) ({ frames := 1, cells := 1, slots := 2, locals := 18 } : Room)) (fun a U => a = #[(.ref ca), (.int xo), (.int xl)] ∧ Z.Warmed39 U.vm ∧ U.heap = h0) (fun _ _ _ _ _ => True) (fun _ U o U' => ∃ v L, o = .returned v ∧ Q_cma2 Z ca xo xl kc v0 v1 h0 n0 v U'.heap L ∧ FrameEnd U o U' L ({ frames := 1, cells := 1, slots := 2, locals := 18 } : Room).cells ({ frames := 1, cells := 1, slots := 2, locals := 18 } : Room).slots) := by
  refine MetFree.of_bodySF pf_cma2 hisR ?_
  intro p e s m args below meth c s₁ Bd hml0 hP hK
  obtain ⟨rfl, hZ, hh⟩ := hP
  have hx := Bd.exec
  have hby := Bd.bytes
  have hml : c.maxLocals = 6 := hml0
  have hown : s.vm.findClass "java/lang/StringUTF16" = some m.cls := findClass_of_methodNamed Bd.named
  have hnm := (name_of_methodNamed Bd.named Bd.method).1
  have X0 : Stand p l e ({ frames := 1, cells := 1, slots := 2, locals := 18 } : Room) s m #[(.ref ca), (.int xo), (.int xl)] below meth c s₁ [] 0 0 := Stand.of_body Bd
  have e0 : s₁.heap = h0 := by rw [← hh, Bd.state]; rfl
  have N0 := Fr.nil n0
  obtain ⟨S0, hS0⟩ : ∃ z, z = s₁.setTop (entryFrame m #[(.ref ca), (.int xo), (.int xl)] 6) := ⟨_, rfl⟩
  rw [← hS0]
  have g0 : Goes p e below S0 (s₁.setTop (mkF m 0 #[rv ca, iv xo, iv xl, .unset, .unset, .unset] [])) := fun t k => by rw [hS0]; exact castTop (ef_cma2 m ca xo xl) k
  obtain rfl : xo = (0 : Int32) := q1
  obtain rfl : xl = (2 : Int32) := q3
  have g82 : Goes p e below S0 (s₁.setTop (mkF m 1 #[rv ca, iv (0 : Int32), iv (2 : Int32), .unset, .unset, .unset] [(.int (2 : Int32))])) := fun t k => g0 t (by
    refine XS.iloadN X0.here hx rfl (hb hby d33_0) rfl ?_
    show Go p e below t s₁ m 1 #[rv ca, iv (0 : Int32), iv (2 : Int32), .unset, .unset, .unset] [(.int (2 : Int32))]
    exact k)
  obtain ⟨T83, h83, k83, X83, e83, E83, A83, st83⟩ := newP X0 hx hZ (hw _ (List.mem_of_getElem? (i := 19) rfl)) e0 (g := (mkF m 1 #[rv ca, iv (0 : Int32), iv (2 : Int32), .unset, .unset, .unset] [(.int (2 : Int32))])) rfl (hb hby d33_1) rfl (by decide) (cap := 2) (by decide) (by decide) (by decide) (by decide)
  obtain ⟨b83, gb83⟩ : ∃ z, z = h0.size := ⟨_, rfl⟩
  have sz83 : h0.size ≤ b83 := Nat.le_trans (Nat.le_refl _) (Nat.le_of_eq gb83.symm)
  have ng83 : n0 ≤ b83 := Nat.le_trans Z0 sz83
  rw [← gb83] at A83 st83
  have V83 : Arv Z h83 b83 k83 .byte (2 : Int32) [(.int (0 : Int32)), (.int (0 : Int32))] (.int (0 : Int32)) := (Arv.new A83 (by decide)).pad (pad_rep [] (.int (0 : Int32)) 2)
  have g84 : Goes p e below S0 (T83.setTop (mkF m 3 #[rv ca, iv (0 : Int32), iv (2 : Int32), .unset, .unset, .unset] [(.ref b83)])) := fun t k => g82 t (st83 t k)
  have g85 : Goes p e below S0 (T83.setTop (mkF m 9 #[rv ca, iv (0 : Int32), iv (2 : Int32), rv b83, .unset, .unset] [(.int (2 : Int32)), (.int (0 : Int32)), (.ref b83), (.int (0 : Int32)), (.ref ca)])) := fun t k => g84 t (by
    refine XS.astoreN X83.here hx rfl (hb hby d33_3) rfl rfl (l' := #[rv ca, iv (0 : Int32), iv (2 : Int32), rv b83, .unset, .unset]) rfl ?_
    show Go p e below t T83 m 4 #[rv ca, iv (0 : Int32), iv (2 : Int32), rv b83, .unset, .unset] []
    refine XS.aloadN X83.here hx rfl (hb hby d33_4) rfl rfl ?_
    show Go p e below t T83 m 5 #[rv ca, iv (0 : Int32), iv (2 : Int32), rv b83, .unset, .unset] [(.ref ca)]
    refine XS.iloadN X83.here hx rfl (hb hby d33_5) rfl ?_
    show Go p e below t T83 m 6 #[rv ca, iv (0 : Int32), iv (2 : Int32), rv b83, .unset, .unset] [(.int (0 : Int32)), (.ref ca)]
    refine XS.aloadN X83.here hx rfl (hb hby d33_6) rfl rfl ?_
    show Go p e below t T83 m 7 #[rv ca, iv (0 : Int32), iv (2 : Int32), rv b83, .unset, .unset] [(.ref b83), (.int (0 : Int32)), (.ref ca)]
    refine XT.iconstV X83.here hx rfl (0 : Int32) (hb hby d33_7) (by decide) ?_
    show Go p e below t T83 m 8 #[rv ca, iv (0 : Int32), iv (2 : Int32), rv b83, .unset, .unset] [(.int (0 : Int32)), (.ref b83), (.int (0 : Int32)), (.ref ca)]
    refine XS.iloadN X83.here hx rfl (hb hby d33_8) rfl ?_
    show Go p e below t T83 m 9 #[rv ca, iv (0 : Int32), iv (2 : Int32), rv b83, .unset, .unset] [(.int (2 : Int32)), (.int (0 : Int32)), (.ref b83), (.int (0 : Int32)), (.ref ca)]
    exact k)
  obtain ⟨_, _, ⟨T86, L86, k86, n86⟩, -, X86, ⟨Lc86, hQ86, l86, y86, z86⟩, st86⟩ := Jvm.LawKit.callS X83 hx (y := (⟨"java/lang/StringUTF16", "compress", "([CI[BII)I"⟩ : MethodName)) hown (mvT hZ (hw _ (List.mem_of_getElem? (i := 188) rfl))) (mvT hZ (hw _ (List.mem_of_getElem? (i := 189) rfl))) (mvT hZ (hw _ (List.mem_of_getElem? (i := 186) rfl))) (mvT hZ (hw _ (List.mem_of_getElem? (i := 190) rfl))) (by decide) (backOf (W := 0) (rm_czl2 l Z a0 hw [] ca (0 : Int32) b83 (0 : Int32) (2 : Int32) kc k83 v0 v1 h83 n0 (Nat.le_trans Z0 (Nat.le_trans (Nat.le_refl _) E83.1)) (P0.ext E83) V83 ng83 (Nat.ne_of_lt (Nat.lt_of_lt_of_le P0.lt (Nat.le_of_eq gb83.symm))) hv0 hv1 rfl rfl rfl) hZ (hw _ (List.mem_of_getElem? (i := 190) rfl)) (hw _ (List.mem_of_getElem? (i := 186) rfl)) (by decide) (by decide)) (g := (mkF m 9 #[rv ca, iv (0 : Int32), iv (2 : Int32), rv b83, .unset, .unset] [(.int (2 : Int32)), (.int (0 : Int32)), (.ref b83), (.int (0 : Int32)), (.ref ca)])) rfl (by rw [hml]; rfl) (argsL := [(.ref ca), (.int (0 : Int32)), (.ref b83), (.int (0 : Int32)), (.int (2 : Int32))]) (rest := []) (lenOf pd2 rfl) rfl (by show 2 * 0 + _ ≤ _; exact Nat.le_of_eq rfl) (hb hby d33_9) (fun _ _ => ⟨rfl, e83, (by decide : 1 + 0 ≤ _), (by decide : 2 + 0 ≤ _)⟩)
  dsimp only [Pt.U, Pt.locs, Pt.cells, Pt.slots] at X86 l86 y86 z86 st86 hQ86
  subst l86 y86 z86
  obtain ⟨rfl, N86, R86_0, R86_1⟩ := hQ86
  have M86 := Fr.app N0 N86
  have g87 : Goes p e below S0 (T86.setTop (mkF m 12 #[rv ca, iv (0 : Int32), iv (2 : Int32), rv b83, .unset, .unset] [(.int (2 : Int32))])) := fun t k => g85 t (st86 t k)
  have g88 : Goes p e below S0 (T86.setTop (mkF m 58 #[rv ca, iv (0 : Int32), iv (2 : Int32), rv b83, iv (2 : Int32), .unset] [(.ref b83)])) := fun t k => g87 t (by
    refine XS.istore X86.here hx rfl (hb hby d33_12) rfl (l' := #[rv ca, iv (0 : Int32), iv (2 : Int32), rv b83, iv (2 : Int32), .unset]) rfl ?_
    show Go p e below t T86 m 14 #[rv ca, iv (0 : Int32), iv (2 : Int32), rv b83, iv (2 : Int32), .unset] []
    refine XS.iload X86.here hx rfl (hb hby d33_14) rfl ?_
    show Go p e below t T86 m 16 #[rv ca, iv (0 : Int32), iv (2 : Int32), rv b83, iv (2 : Int32), .unset] [(.int (2 : Int32))]
    refine XS.iloadN X86.here hx rfl (hb hby d33_16) rfl ?_
    show Go p e below t T86 m 17 #[rv ca, iv (0 : Int32), iv (2 : Int32), rv b83, iv (2 : Int32), .unset] [(.int (2 : Int32)), (.int (2 : Int32))]
    refine XS.icmpYes X86.here hx rfl (pc0 := 17) (pc' := 57) rfl (hb hby d33_17) rfl (XT.ii_eq_t (by decide)) (by decide) (by decide) ?_
    show Go p e below t T86 m 57 #[rv ca, iv (0 : Int32), iv (2 : Int32), rv b83, iv (2 : Int32), .unset] []
    refine XS.aloadN X86.here hx rfl (hb hby d33_57) rfl rfl ?_
    show Go p e below t T86 m 58 #[rv ca, iv (0 : Int32), iv (2 : Int32), rv b83, iv (2 : Int32), .unset] [(.ref b83)]
    exact k)
  obtain ⟨fs, hr, hrun, hended, hW, hsame⟩ := X86.leave (v := some (.ref b83)) (fun h => by rw [Bd.returns] at h; cases h)
  refine ⟨_, _, g88 _ (retOut X86 hx Bd.returns rfl (Or.inr (Or.inr (Or.inr (Or.inr ⟨rfl, rfl, rfl⟩)))) (hb hby d33_58) hr), hrun, hended, _, _, rfl, ?_, ⟨_, rfl⟩, hW, hsame.mono (by decide) (by decide)⟩
  show Q_cma2 Z ca (0 : Int32) (2 : Int32) kc v0 v1 h0 n0 _ T86.heap _
  exact ⟨b83, k83, rfl, M86, (((Keep.refl h0 []).ext E83).trans R86_0 (allS (Or.inr sz83) all0)), sz83, R86_1⟩
theorem pf_cfl2 : plainFor (⟨"java/lang/StringUTF16", "coderFromArrayLen", "([BI)B"⟩ : MethodName) = true := by first | exact plainFor_of_name (by first | (simp [plainName, overriddenIn, x]; done) | decide +kernel) | exact Jvm.Free.JP.mathPlain rfl (by decide +kernel) | decide +kernel
theorem ef_cfl2 (m : MethodId) (ba : Addr) (xl : Int32) : entryFrame m #[(.ref ba), (.int xl)] 2 = mkF m 0 #[rv ba, iv xl] [] := by first | (simp [entryFrame, mkF, argsToLocals, Value.category, maxLocals]; done) | rfl
def Q_cfl2 (Z : State) (ba : Addr) (xl : Int32) (kb : ClassId) (v0 : Int32) (v1 : Int32) (h0 : Heap) (n0 : Nat) (v : Option Value) (h : Heap) (L : List Loc) : Prop := v = some (.int (0 : Int32)) ∧ Fr n0 L ∧ h = h0
set_option maxRecDepth 65536 in
set_option maxHeartbeats 40000000 in
theorem rm_cfl2 (l : Launch) (Z : State) (a0 : Array Value) (hw : ∀ d ∈ tables_1, d.before a0 Z = true) (ws : List Jvm.Cond) (ba : Addr) (xl : Int32) (kb : ClassId) (v0 : Int32) (v1 : Int32) (h0 : Heap) (n0 : Nat) (Z0 : n0 ≤ h0.size) (P0 : Arv Z h0 ba kb .byte (2 : Int32) [(.int v0), (.int v1)] (.int (0 : Int32))) (q3 : xl = (2 : Int32))  :
    MetFree l (⟨"java/lang/StringUTF16", "coderFromArrayLen", "([BI)B"⟩ : MethodName) (head1 (Jvm.Cond.code (⟨"java/lang/StringUTF16", "coderFromArrayLen", "([BI)B"⟩ : MethodName) jdk_52_method_15_code 2 (some .byte) :: ws) ({ frames := 0, cells := 0, slots := 0, locals := 0 } : Room)) (fun a U => a = #[(.ref ba), (.int xl)] ∧ Z.Warmed39 U.vm ∧ U.heap = h0) (fun _ _ _ _ _ => True) (fun _ U o U' => ∃ v L, o = .returned v ∧ Q_cfl2 Z ba xl kb v0 v1 h0 n0 v U'.heap L ∧ FrameEnd U o U' L ({ frames := 0, cells := 0, slots := 0, locals := 0 } : Room).cells ({ frames := 0, cells := 0, slots := 0, locals := 0 } : Room).slots) := by
  refine MetFree.of_bodySF pf_cfl2 hisR ?_
  intro p e s m args below meth c s₁ Bd hml0 hP hK
  obtain ⟨rfl, hZ, hh⟩ := hP
  have hx := Bd.exec
  have hby := Bd.bytes
  have hml : c.maxLocals = 2 := hml0
  have hown : s.vm.findClass "java/lang/StringUTF16" = some m.cls := findClass_of_methodNamed Bd.named
  have hnm := (name_of_methodNamed Bd.named Bd.method).1
  have X0 : Stand p l e ({ frames := 0, cells := 0, slots := 0, locals := 0 } : Room) s m #[(.ref ba), (.int xl)] below meth c s₁ [] 0 0 := Stand.of_body Bd
  have e0 : s₁.heap = h0 := by rw [← hh, Bd.state]; rfl
  have N0 := Fr.nil n0
  obtain ⟨S0, hS0⟩ : ∃ z, z = s₁.setTop (entryFrame m #[(.ref ba), (.int xl)] 2) := ⟨_, rfl⟩
  rw [← hS0]
  have g0 : Goes p e below S0 (s₁.setTop (mkF m 0 #[rv ba, iv xl] [])) := fun t k => by rw [hS0]; exact castTop (ef_cfl2 m ba xl) k
  obtain rfl : xl = (2 : Int32) := q3
  have g89 : Goes p e below S0 (s₁.setTop (mkF m 2 #[rv ba, iv (2 : Int32)] [(.ref ba), (.int (2 : Int32))])) := fun t k => g0 t (by
    refine XS.iloadN X0.here hx rfl (hb hby d35_0) rfl ?_
    show Go p e below t s₁ m 1 #[rv ba, iv (2 : Int32)] [(.int (2 : Int32))]
    refine XS.aloadN X0.here hx rfl (hb hby d35_1) rfl rfl ?_
    show Go p e below t s₁ m 2 #[rv ba, iv (2 : Int32)] [(.ref ba), (.int (2 : Int32))]
    exact k)
  obtain ⟨cl90, Ar90, q90, S90, M90, H90, G90⟩ := id P0
  have g91 : Goes p e below S0 (s₁.setTop (mkF m 7 #[rv ba, iv (2 : Int32)] [(.int ((((0 : Int32)).toUInt32 >>> ((31 : Int32) &&& 31).toUInt32).toInt32))])) := fun t k => g89 t (by
    refine X0.arraylength hx (by rw [e0]; exact Ar90.1) (State.isArrayOf_alike hZ.alike Ar90.2.1) (g := (mkF m 2 #[rv ba, iv (2 : Int32)] [(.ref ba), (.int (2 : Int32))])) rfl rfl (hb hby d35_2) _ ?_
    rw [len_of S90 M90]
    show Go p e below t s₁ m 3 #[rv ba, iv (2 : Int32)] [(.int (2 : Int32)), (.int (2 : Int32))]
    refine XS.isub X0.here hx rfl (hb hby d35_3) rfl ?_
    rw [show ((2 : Int32) - (2 : Int32)) = (0 : Int32) by decide]
    show Go p e below t s₁ m 4 #[rv ba, iv (2 : Int32)] [(.int (0 : Int32))]
    refine XT.bipushV X0.here hx rfl (31 : Int32) (hb hby d35_4) (by decide) ?_
    show Go p e below t s₁ m 6 #[rv ba, iv (2 : Int32)] [(.int (31 : Int32)), (.int (0 : Int32))]
    refine XS.iushr X0.here hx rfl (hb hby d35_6) rfl ?_
    show Go p e below t s₁ m 7 #[rv ba, iv (2 : Int32)] [(.int ((((0 : Int32)).toUInt32 >>> ((31 : Int32) &&& 31).toUInt32).toInt32))]
    exact k)
  rw [show ((((0 : Int32)).toUInt32 >>> ((31 : Int32) &&& 31).toUInt32).toInt32) = (0 : Int32) from (by decide)] at g91
  have g92 : Goes p e below S0 (s₁.setTop (mkF m 8 #[rv ba, iv (2 : Int32)] [(.int ((0 : Int32).toInt8.toInt32))])) := fun t k => g91 t (by
    refine XS.i2b X0.here hx rfl (hb hby d35_7) rfl ?_
    show Go p e below t s₁ m 8 #[rv ba, iv (2 : Int32)] [(.int ((0 : Int32).toInt8.toInt32))]
    exact k)
  rw [show (0 : Int32).toInt8.toInt32 = (0 : Int32) from (by decide)] at g92
  obtain ⟨fs, hr, hrun, hended, hW, hsame⟩ := X0.leave (v := some (.int (nar .byte (0 : Int32)))) (fun h => by rw [Bd.returns] at h; cases h)
  refine ⟨_, _, g92 _ (retN X0 hx (t := .byte) Bd.returns (by simp) (hb hby d35_8) hr), hrun, hended, _, _, rfl, ?_, ⟨_, rfl⟩, hW, hsame.mono (by decide) (by decide)⟩
  show Q_cfl2 Z ba (2 : Int32) kb v0 v1 h0 n0 _ s₁.heap _
  rw [e0]
  exact ⟨(congrArg some (congrArg Value.int (by decide))), N0, rfl⟩
theorem pf_ina2 : plainFor (⟨"java/lang/String", "<init>", "([CIILjava/lang/Void;)V"⟩ : MethodName) = true := by first | exact plainFor_of_name (by first | (simp [plainName, overriddenIn, x]; done) | decide +kernel) | exact Jvm.Free.JP.mathPlain rfl (by decide +kernel) | decide +kernel
theorem ef_ina2 (m : MethodId) (sa : Addr) (ca : Addr) (xo : Int32) (xl : Int32) : entryFrame m #[(.ref sa), (.ref ca), (.int xo), (.int xl), .null] 6 = mkF m 0 #[rv sa, rv ca, iv xo, iv xl, .val .null, .unset] [] := by first | (simp [entryFrame, mkF, argsToLocals, Value.category, maxLocals]; done) | rfl
def Q_ina2 (Z : State) (sa : Addr) (ca : Addr) (xo : Int32) (xl : Int32) (kc : ClassId) (v0 : Int32) (v1 : Int32) (cz : Int32) (h0 : Heap) (n0 : Nat) (v : Option Value) (h : Heap) (L : List Loc) : Prop := ∃ (tb : Addr) (tk : ClassId), v = none ∧ Fr n0 L ∧ (Keep h0 h [sa]) ∧ (h0.size ≤ tb) ∧ (Exa Z h sa "java/lang/String") ∧ (Fld Z h sa "java/lang/String" "value" "[B" (.ref tb)) ∧ (Fld Z h sa "java/lang/String" "coder" "B" (.int (0 : Int32))) ∧ (Arv Z h tb tk .byte (2 : Int32) [(.int (((v0).toInt8.toInt32).toInt8.toInt32)), (.int (((v1).toInt8.toInt32).toInt8.toInt32))] (.int (0 : Int32)))
set_option maxRecDepth 65536 in
set_option maxHeartbeats 40000000 in
theorem rm_ina2 (l : Launch) (Z : State) (a0 : Array Value) (hw : ∀ d ∈ tables_1, d.before a0 Z = true) (ws : List Jvm.Cond) (sa : Addr) (ca : Addr) (xo : Int32) (xl : Int32) (kc : ClassId) (v0 : Int32) (v1 : Int32) (cz : Int32) (h0 : Heap) (n0 : Nat) (Z0 : n0 ≤ h0.size) (P0 : Exa Z h0 sa "java/lang/String") (P1 : Fld Z h0 sa "java/lang/String" "value" "[B" .null) (P2 : Fld Z h0 sa "java/lang/String" "coder" "B" (.int (0 : Int32))) (P3 : n0 ≤ sa) (P4 : Arv Z h0 ca kc .char (2 : Int32) [(.int v0), (.int v1)] (.int (0 : Int32))) (hv0 : ¬ ((255 : Int32) < v0)) (hv1 : ¬ ((255 : Int32) < v1)) (P7 : Sta Z h0 "java/lang/String" "COMPACT_STRINGS" "Z" (.int cz)) (hz : ¬ cz = 0) (q1 : xo = (0 : Int32)) (q3 : xl = (2 : Int32))  :
    MetFree l (⟨"java/lang/String", "<init>", "([CIILjava/lang/Void;)V"⟩ : MethodName) (head1 (Jvm.Cond.code (⟨"java/lang/String", "<init>", "([CIILjava/lang/Void;)V"⟩ : MethodName) jdk_42_method_149_code 6 none :: ws) ({ frames := 2, cells := 1, slots := 2, locals := 40 } : Room)) (fun a U => a = #[(.ref sa), (.ref ca), (.int xo), (.int xl), .null] ∧ Z.Warmed39 U.vm ∧ U.heap = h0) (fun _ _ _ _ _ => True) (fun _ U o U' => ∃ v L, o = .returned v ∧ Q_ina2 Z sa ca xo xl kc v0 v1 cz h0 n0 v U'.heap L ∧ FrameEnd U o U' L ({ frames := 2, cells := 1, slots := 2, locals := 40 } : Room).cells ({ frames := 2, cells := 1, slots := 2, locals := 40 } : Room).slots) := by
  refine MetFree.of_bodySF pf_ina2 hisR ?_
  intro p e s m args below meth c s₁ Bd hml0 hP hK
  obtain ⟨rfl, hZ, hh⟩ := hP
  have hx := Bd.exec
  have hby := Bd.bytes
  have hml : c.maxLocals = 6 := hml0
  have hown : s.vm.findClass "java/lang/String" = some m.cls := findClass_of_methodNamed Bd.named
  have hnm := (name_of_methodNamed Bd.named Bd.method).1
  have X0 : Stand p l e ({ frames := 2, cells := 1, slots := 2, locals := 40 } : Room) s m #[(.ref sa), (.ref ca), (.int xo), (.int xl), .null] below meth c s₁ [] 0 0 := Stand.of_body Bd
  have e0 : s₁.heap = h0 := by rw [← hh, Bd.state]; rfl
  have N0 := Fr.nil n0
  obtain ⟨S0, hS0⟩ : ∃ z, z = s₁.setTop (entryFrame m #[(.ref sa), (.ref ca), (.int xo), (.int xl), .null] 6) := ⟨_, rfl⟩
  rw [← hS0]
  have g0 : Goes p e below S0 (s₁.setTop (mkF m 0 #[rv sa, rv ca, iv xo, iv xl, .val .null, .unset] [])) := fun t k => by rw [hS0]; exact castTop (ef_ina2 m sa ca xo xl) k
  obtain rfl : xo = (0 : Int32) := q1
  obtain rfl : xl = (2 : Int32) := q3
  have g93 : Goes p e below S0 (s₁.setTop (mkF m 1 #[rv sa, rv ca, iv (0 : Int32), iv (2 : Int32), .val .null, .unset] [(.ref sa)])) := fun t k => g0 t (by
    refine XS.aloadN X0.here hx rfl (hb hby d2_0) rfl rfl ?_
    show Go p e below t s₁ m 1 #[rv sa, rv ca, iv (0 : Int32), iv (2 : Int32), .val .null, .unset] [(.ref sa)]
    exact k)
  obtain ⟨T94, X94, e94, st94⟩ := initO X0 hx hZ hown (hw _ (List.mem_of_getElem? (i := 15) rfl)) (hw _ (List.mem_of_getElem? (i := 16) rfl)) (hw _ (List.mem_of_getElem? (i := 17) rfl)) e0 (g := (mkF m 1 #[rv sa, rv ca, iv (0 : Int32), iv (2 : Int32), .val .null, .unset] [(.ref sa)])) rfl (by rw [hml]; rfl) rfl (hb hby d2_1) (by decide) (W := 0) (by show 2 * 0 + _ ≤ _; exact Nat.le_of_eq rfl) (by decide)
  have g95 : Goes p e below S0 (T94.setTop (mkF m 4 #[rv sa, rv ca, iv (0 : Int32), iv (2 : Int32), .val .null, .unset] [])) := fun t k => g93 t (st94 t k)
  have g96 : Goes p e below S0 (T94.setTop (mkF m 27 #[rv sa, rv ca, iv (0 : Int32), iv (2 : Int32), .val .null, .unset] [])) := fun t k => g95 t (by
    refine XS.iloadN X94.here hx rfl (hb hby d2_4) rfl ?_
    show Go p e below t T94 m 5 #[rv sa, rv ca, iv (0 : Int32), iv (2 : Int32), .val .null, .unset] [(.int (2 : Int32))]
    refine XS.ifYes X94.here hx rfl (pc0 := 5) (pc' := 27) rfl (hb hby d2_5) rfl (XT.i0_ne_t (by decide)) (by decide) (by decide) ?_
    show Go p e below t T94 m 27 #[rv sa, rv ca, iv (0 : Int32), iv (2 : Int32), .val .null, .unset] []
    exact k)
  obtain ⟨T97, X97, e97, st97⟩ := getS (host := "") X94 hx hZ hown (hw _ (List.mem_of_getElem? (i := 87) rfl)) Via.refl e94 P7 (g := (mkF m 27 #[rv sa, rv ca, iv (0 : Int32), iv (2 : Int32), .val .null, .unset] [])) rfl (hb hby d2_27)
  have g98 : Goes p e below S0 (T97.setTop (mkF m 30 #[rv sa, rv ca, iv (0 : Int32), iv (2 : Int32), .val .null, .unset] [(.int cz)])) := fun t k => g96 t (st97 t k)
  have g99 : Goes p e below S0 (T97.setTop (mkF m 36 #[rv sa, rv ca, iv (0 : Int32), iv (2 : Int32), .val .null, .unset] [(.int (2 : Int32)), (.int (0 : Int32)), (.ref ca)])) := fun t k => g98 t (by
    refine XS.ifNo X97.here hx rfl (hb hby d2_30) rfl (XT.i0_eq_f hz) ?_
    show Go p e below t T97 m 33 #[rv sa, rv ca, iv (0 : Int32), iv (2 : Int32), .val .null, .unset] []
    refine XS.aloadN X97.here hx rfl (hb hby d2_33) rfl rfl ?_
    show Go p e below t T97 m 34 #[rv sa, rv ca, iv (0 : Int32), iv (2 : Int32), .val .null, .unset] [(.ref ca)]
    refine XS.iloadN X97.here hx rfl (hb hby d2_34) rfl ?_
    show Go p e below t T97 m 35 #[rv sa, rv ca, iv (0 : Int32), iv (2 : Int32), .val .null, .unset] [(.int (0 : Int32)), (.ref ca)]
    refine XS.iloadN X97.here hx rfl (hb hby d2_35) rfl ?_
    show Go p e below t T97 m 36 #[rv sa, rv ca, iv (0 : Int32), iv (2 : Int32), .val .null, .unset] [(.int (2 : Int32)), (.int (0 : Int32)), (.ref ca)]
    exact k)
  obtain ⟨_, _, ⟨T100, L100, k100, n100⟩, -, X100, ⟨Lc100, hQ100, l100, y100, z100⟩, st100⟩ := Jvm.LawKit.callS X97 hx (y := (⟨"java/lang/StringUTF16", "compress", "([CII)[B"⟩ : MethodName)) hown (mvT hZ (hw _ (List.mem_of_getElem? (i := 184) rfl))) (mvT hZ (hw _ (List.mem_of_getElem? (i := 185) rfl))) (mvT hZ (hw _ (List.mem_of_getElem? (i := 186) rfl))) (mvT hZ (hw _ (List.mem_of_getElem? (i := 187) rfl))) (by decide) (backOf (W := 0) (rm_cma2 l Z a0 hw [] ca (0 : Int32) (2 : Int32) kc v0 v1 h0 n0 Z0 P4 hv0 hv1 rfl rfl) hZ (hw _ (List.mem_of_getElem? (i := 187) rfl)) (hw _ (List.mem_of_getElem? (i := 186) rfl)) (by decide) (by decide)) (g := (mkF m 36 #[rv sa, rv ca, iv (0 : Int32), iv (2 : Int32), .val .null, .unset] [(.int (2 : Int32)), (.int (0 : Int32)), (.ref ca)])) rfl (by rw [hml]; rfl) (argsL := [(.ref ca), (.int (0 : Int32)), (.int (2 : Int32))]) (rest := []) (lenOf pd3 rfl) rfl (by show 2 * 0 + _ ≤ _; exact Nat.le_of_eq rfl) (hb hby d2_36) (fun _ _ => ⟨rfl, e97, (by decide : 0 + 1 ≤ _), (by decide : 0 + 2 ≤ _)⟩)
  dsimp only [Pt.U, Pt.locs, Pt.cells, Pt.slots] at X100 l100 y100 z100 st100 hQ100
  subst l100 y100 z100
  obtain ⟨tb_100, tk_100, rfl, N100, R100_0, R100_1, R100_2⟩ := hQ100
  have M100 := Fr.app N0 N100
  have sz100_1 : h0.size ≤ tb_100 := Nat.le_trans (Nat.le_refl _) R100_1
  have ng100_1 : n0 ≤ tb_100 := Nat.le_trans Z0 sz100_1
  have g101 : Goes p e below S0 (T100.setTop (mkF m 39 #[rv sa, rv ca, iv (0 : Int32), iv (2 : Int32), .val .null, .unset] [(.ref tb_100)])) := fun t k => g99 t (st100 t k)
  have g102 : Goes p e below S0 (T100.setTop (mkF m 45 #[rv sa, rv ca, iv (0 : Int32), iv (2 : Int32), .val .null, rv tb_100] [(.int (2 : Int32)), (.ref tb_100), (.ref sa)])) := fun t k => g101 t (by
    refine XS.astore X100.here hx rfl (hb hby d2_39) rfl rfl (l' := #[rv sa, rv ca, iv (0 : Int32), iv (2 : Int32), .val .null, rv tb_100]) rfl ?_
    show Go p e below t T100 m 41 #[rv sa, rv ca, iv (0 : Int32), iv (2 : Int32), .val .null, rv tb_100] []
    refine XS.aloadN X100.here hx rfl (hb hby d2_41) rfl rfl ?_
    show Go p e below t T100 m 42 #[rv sa, rv ca, iv (0 : Int32), iv (2 : Int32), .val .null, rv tb_100] [(.ref sa)]
    refine XS.aload X100.here hx rfl (hb hby d2_42) rfl rfl ?_
    show Go p e below t T100 m 44 #[rv sa, rv ca, iv (0 : Int32), iv (2 : Int32), .val .null, rv tb_100] [(.ref tb_100), (.ref sa)]
    refine XS.iloadN X100.here hx rfl (hb hby d2_44) rfl ?_
    show Go p e below t T100 m 45 #[rv sa, rv ca, iv (0 : Int32), iv (2 : Int32), .val .null, rv tb_100] [(.int (2 : Int32)), (.ref tb_100), (.ref sa)]
    exact k)
  obtain ⟨_, _, ⟨T103, L103, k103, n103⟩, -, X103, ⟨Lc103, hQ103, l103, y103, z103⟩, st103⟩ := Jvm.LawKit.callS X100 hx (y := (⟨"java/lang/StringUTF16", "coderFromArrayLen", "([BI)B"⟩ : MethodName)) hown (mvT hZ (hw _ (List.mem_of_getElem? (i := 191) rfl))) (mvT hZ (hw _ (List.mem_of_getElem? (i := 192) rfl))) (mvT hZ (hw _ (List.mem_of_getElem? (i := 186) rfl))) (mvT hZ (hw _ (List.mem_of_getElem? (i := 193) rfl))) (by decide) (backOf (W := 1) (rm_cfl2 l Z a0 hw [] tb_100 (2 : Int32) tk_100 (((v0).toInt8.toInt32).toInt8.toInt32) (((v1).toInt8.toInt32).toInt8.toInt32) T100.heap n0 (Nat.le_trans Z0 (Nat.le_trans (Nat.le_refl _) R100_0.1)) R100_2 rfl) hZ (hw _ (List.mem_of_getElem? (i := 193) rfl)) (hw _ (List.mem_of_getElem? (i := 186) rfl)) (by decide) (by decide)) (g := (mkF m 45 #[rv sa, rv ca, iv (0 : Int32), iv (2 : Int32), .val .null, rv tb_100] [(.int (2 : Int32)), (.ref tb_100), (.ref sa)])) rfl (by rw [hml]; rfl) (argsL := [(.ref tb_100), (.int (2 : Int32))]) (rest := [(.ref sa)]) (lenOf pd4 rfl) rfl (by show 2 * 0 + _ ≤ _; exact Nat.le_of_eq rfl) (hb hby d2_45) (fun _ _ => ⟨rfl, rfl, (by decide : 1 + 0 ≤ _), (by decide : 2 + 0 ≤ _)⟩)
  dsimp only [Pt.U, Pt.locs, Pt.cells, Pt.slots] at X103 l103 y103 z103 st103 hQ103
  subst l103 y103 z103
  obtain ⟨rfl, N103, R103_0⟩ := hQ103
  have M103 := Fr.app M100 N103
  have g104 : Goes p e below S0 (T103.setTop (mkF m 48 #[rv sa, rv ca, iv (0 : Int32), iv (2 : Int32), .val .null, rv tb_100] [(.int (0 : Int32)), (.ref sa)])) := fun t k => g102 t (st103 t k)
  obtain ⟨T105, h105, X105, e105, W105, st105⟩ := putFN X103 hx hZ hown (hw _ (List.mem_of_getElem? (i := 25) rfl)) Via.refl R103_0 (P2.keep R100_0 nin0) (P0.keep R100_0) (Or.inr ⟨(hw _ (List.mem_of_getElem? (i := 21) rfl)), rfl, hnm⟩) (hw _ (List.mem_of_getElem? (i := 5) rfl)) (ty := .byte) (v' := (.int (0 : Int32))) (by decide) (by decide) (by decide) (g := (mkF m 48 #[rv sa, rv ca, iv (0 : Int32), iv (2 : Int32), .val .null, rv tb_100] [(.int (0 : Int32)), (.ref sa)])) rfl rfl (hb hby d2_48)
  have N105 := Fr.snoc X105 M103 P3
  have Fw105 := Fld.same W105 (P2.keep R100_0 nin0)
  have g106 : Goes p e below S0 (T105.setTop (mkF m 51 #[rv sa, rv ca, iv (0 : Int32), iv (2 : Int32), .val .null, rv tb_100] [])) := fun t k => g104 t (st105 t k)
  have g107 : Goes p e below S0 (T105.setTop (mkF m 54 #[rv sa, rv ca, iv (0 : Int32), iv (2 : Int32), .val .null, rv tb_100] [(.ref tb_100), (.ref sa)])) := fun t k => g106 t (by
    refine XS.aloadN X105.here hx rfl (hb hby d2_51) rfl rfl ?_
    show Go p e below t T105 m 52 #[rv sa, rv ca, iv (0 : Int32), iv (2 : Int32), .val .null, rv tb_100] [(.ref sa)]
    refine XS.aload X105.here hx rfl (hb hby d2_52) rfl rfl ?_
    show Go p e below t T105 m 54 #[rv sa, rv ca, iv (0 : Int32), iv (2 : Int32), .val .null, rv tb_100] [(.ref tb_100), (.ref sa)]
    exact k)
  obtain ⟨T108, h108, X108, e108, W108, st108⟩ := putF X105 hx hZ hown (host := "") (Or.inl (hw _ (List.mem_of_getElem? (i := 24) rfl))) Via.refl e105 ((P1.keep R100_0 nin0).other W105 (Or.inr (slot_ne (Or.inr (hw _ (List.mem_of_getElem? (i := 20) rfl))) (Or.inr (hw _ (List.mem_of_getElem? (i := 21) rfl))) (by decide) (t := (.array .byte)) (t' := .byte) (by decide) (by decide)))) ((P0.keep R100_0).wr W105) (Or.inr ⟨(hw _ (List.mem_of_getElem? (i := 20) rfl)), rfl, hnm⟩) (hw _ (List.mem_of_getElem? (i := 5) rfl)) (ty := (.array .byte)) (by decide) rfl rfl (g := (mkF m 54 #[rv sa, rv ca, iv (0 : Int32), iv (2 : Int32), .val .null, rv tb_100] [(.ref tb_100), (.ref sa)])) rfl rfl (hb hby d2_54)
  have N108 := Fr.snoc X108 N105 P3
  have Fw108 := Fld.same W108 ((P1.keep R100_0 nin0).other W105 (Or.inr (slot_ne (Or.inr (hw _ (List.mem_of_getElem? (i := 20) rfl))) (Or.inr (hw _ (List.mem_of_getElem? (i := 21) rfl))) (by decide) (t := (.array .byte)) (t' := .byte) (by decide) (by decide))))
  have g109 : Goes p e below S0 (T108.setTop (mkF m 57 #[rv sa, rv ca, iv (0 : Int32), iv (2 : Int32), .val .null, rv tb_100] [])) := fun t k => g107 t (st108 t k)
  obtain ⟨fs, hr, hrun, hended, hW, hsame⟩ := X108.leave (v := none) (fun _ => rfl)
  refine ⟨_, _, g109 _ (X108.returnOut hx Bd.returns (hb hby d2_57) hr), hrun, hended, _, _, rfl, ?_, ⟨_, rfl⟩, hW, hsame.mono (by decide) (by decide)⟩
  show Q_ina2 Z sa ca (0 : Int32) (2 : Int32) kc v0 v1 cz h0 n0 _ T108.heap _
  rw [e108]
  exact ⟨tb_100, tk_100, rfl, N108, ((((Keep.refl h0 [sa]).trans R100_0 all0).wr W105 (Or.inl (List.mem_of_getElem? (i := 0) rfl))).wr W108 (Or.inl (List.mem_of_getElem? (i := 0) rfl))), sz100_1, (((P0.keep R100_0).wr W105).wr W108), Fw108, (Fw105.other W108 (Or.inr (slot_ne (Or.inr (hw _ (List.mem_of_getElem? (i := 21) rfl))) (Or.inr (hw _ (List.mem_of_getElem? (i := 20) rfl))) (by decide) (t := .byte) (t' := (.array .byte)) (by decide) (by decide)))), ((R100_2.other W105 (Ne.symm (Nat.ne_of_lt (Nat.lt_of_lt_of_le P0.lt R100_1)))).other W108 (Ne.symm (Nat.ne_of_lt (Nat.lt_of_lt_of_le P0.lt R100_1))))⟩
theorem pf_inb2 : plainFor (⟨"java/lang/String", "<init>", "([C)V"⟩ : MethodName) = true := by first | exact plainFor_of_name (by first | (simp [plainName, overriddenIn, x]; done) | decide +kernel) | exact Jvm.Free.JP.mathPlain rfl (by decide +kernel) | decide +kernel
theorem ef_inb2 (m : MethodId) (sa : Addr) (ca : Addr) : entryFrame m #[(.ref sa), (.ref ca)] 2 = mkF m 0 #[rv sa, rv ca] [] := by first | (simp [entryFrame, mkF, argsToLocals, Value.category, maxLocals]; done) | rfl
def Q_inb2 (Z : State) (sa : Addr) (ca : Addr) (kc : ClassId) (v0 : Int32) (v1 : Int32) (cz : Int32) (h0 : Heap) (n0 : Nat) (v : Option Value) (h : Heap) (L : List Loc) : Prop := ∃ (tb : Addr) (tk : ClassId), v = none ∧ Fr n0 L ∧ (Keep h0 h [sa]) ∧ (h0.size ≤ tb) ∧ (Exa Z h sa "java/lang/String") ∧ (Fld Z h sa "java/lang/String" "value" "[B" (.ref tb)) ∧ (Fld Z h sa "java/lang/String" "coder" "B" (.int (0 : Int32))) ∧ (Arv Z h tb tk .byte (2 : Int32) [(.int (((v0).toInt8.toInt32).toInt8.toInt32)), (.int (((v1).toInt8.toInt32).toInt8.toInt32))] (.int (0 : Int32)))
set_option maxRecDepth 65536 in
set_option maxHeartbeats 40000000 in
theorem rm_inb2 (l : Launch) (Z : State) (a0 : Array Value) (hw : ∀ d ∈ tables_1, d.before a0 Z = true) (ws : List Jvm.Cond) (sa : Addr) (ca : Addr) (kc : ClassId) (v0 : Int32) (v1 : Int32) (cz : Int32) (h0 : Heap) (n0 : Nat) (Z0 : n0 ≤ h0.size) (P0 : Exa Z h0 sa "java/lang/String") (P1 : Fld Z h0 sa "java/lang/String" "value" "[B" .null) (P2 : Fld Z h0 sa "java/lang/String" "coder" "B" (.int (0 : Int32))) (P3 : n0 ≤ sa) (P4 : Arv Z h0 ca kc .char (2 : Int32) [(.int v0), (.int v1)] (.int (0 : Int32))) (hv0 : ¬ ((255 : Int32) < v0)) (hv1 : ¬ ((255 : Int32) < v1)) (P7 : Sta Z h0 "java/lang/String" "COMPACT_STRINGS" "Z" (.int cz)) (hz : ¬ cz = 0)  :
    MetFree l (⟨"java/lang/String", "<init>", "([C)V"⟩ : MethodName) (head1 (Jvm.Cond.code (⟨"java/lang/String", "<init>", "([C)V"⟩ : MethodName) jdk_42_method_3_code 2 none :: ws) ({ frames := 3, cells := 1, slots := 2, locals := 57 } : Room)) (fun a U => a = #[(.ref sa), (.ref ca)] ∧ Z.Warmed39 U.vm ∧ U.heap = h0) (fun _ _ _ _ _ => True) (fun _ U o U' => ∃ v L, o = .returned v ∧ Q_inb2 Z sa ca kc v0 v1 cz h0 n0 v U'.heap L ∧ FrameEnd U o U' L ({ frames := 3, cells := 1, slots := 2, locals := 57 } : Room).cells ({ frames := 3, cells := 1, slots := 2, locals := 57 } : Room).slots) := by
  refine MetFree.of_bodySF pf_inb2 hisR ?_
  intro p e s m args below meth c s₁ Bd hml0 hP hK
  obtain ⟨rfl, hZ, hh⟩ := hP
  have hx := Bd.exec
  have hby := Bd.bytes
  have hml : c.maxLocals = 2 := hml0
  have hown : s.vm.findClass "java/lang/String" = some m.cls := findClass_of_methodNamed Bd.named
  have hnm := (name_of_methodNamed Bd.named Bd.method).1
  have X0 : Stand p l e ({ frames := 3, cells := 1, slots := 2, locals := 57 } : Room) s m #[(.ref sa), (.ref ca)] below meth c s₁ [] 0 0 := Stand.of_body Bd
  have e0 : s₁.heap = h0 := by rw [← hh, Bd.state]; rfl
  have N0 := Fr.nil n0
  obtain ⟨S0, hS0⟩ : ∃ z, z = s₁.setTop (entryFrame m #[(.ref sa), (.ref ca)] 2) := ⟨_, rfl⟩
  rw [← hS0]
  have g0 : Goes p e below S0 (s₁.setTop (mkF m 0 #[rv sa, rv ca] [])) := fun t k => by rw [hS0]; exact castTop (ef_inb2 m sa ca) k
  have g110 : Goes p e below S0 (s₁.setTop (mkF m 4 #[rv sa, rv ca] [(.ref ca), (.int (0 : Int32)), (.ref ca), (.ref sa)])) := fun t k => g0 t (by
    refine XS.aloadN X0.here hx rfl (hb hby d1_0) rfl rfl ?_
    show Go p e below t s₁ m 1 #[rv sa, rv ca] [(.ref sa)]
    refine XS.aloadN X0.here hx rfl (hb hby d1_1) rfl rfl ?_
    show Go p e below t s₁ m 2 #[rv sa, rv ca] [(.ref ca), (.ref sa)]
    refine XT.iconstV X0.here hx rfl (0 : Int32) (hb hby d1_2) (by decide) ?_
    show Go p e below t s₁ m 3 #[rv sa, rv ca] [(.int (0 : Int32)), (.ref ca), (.ref sa)]
    refine XS.aloadN X0.here hx rfl (hb hby d1_3) rfl rfl ?_
    show Go p e below t s₁ m 4 #[rv sa, rv ca] [(.ref ca), (.int (0 : Int32)), (.ref ca), (.ref sa)]
    exact k)
  obtain ⟨cl111, Ar111, q111, S111, M111, H111, G111⟩ := id P4
  have g112 : Goes p e below S0 (s₁.setTop (mkF m 6 #[rv sa, rv ca] [.null, (.int (2 : Int32)), (.int (0 : Int32)), (.ref ca), (.ref sa)])) := fun t k => g110 t (by
    refine X0.arraylength hx (by rw [e0]; exact Ar111.1) (State.isArrayOf_alike hZ.alike Ar111.2.1) (g := (mkF m 4 #[rv sa, rv ca] [(.ref ca), (.int (0 : Int32)), (.ref ca), (.ref sa)])) rfl rfl (hb hby d1_4) _ ?_
    rw [len_of S111 M111]
    show Go p e below t s₁ m 5 #[rv sa, rv ca] [(.int (2 : Int32)), (.int (0 : Int32)), (.ref ca), (.ref sa)]
    refine XS.aconstNull X0.here hx rfl (hb hby d1_5) ?_
    show Go p e below t s₁ m 6 #[rv sa, rv ca] [.null, (.int (2 : Int32)), (.int (0 : Int32)), (.ref ca), (.ref sa)]
    exact k)
  obtain ⟨_, _, ⟨T113, L113, k113, n113⟩, -, X113, ⟨Lc113, hQ113, l113, y113, z113⟩, st113⟩ := X0.specialBack hx (y := (⟨"java/lang/String", "<init>", "([CIILjava/lang/Void;)V"⟩ : MethodName)) rfl hown (mvT hZ (hw _ (List.mem_of_getElem? (i := 11) rfl))) (mvT hZ (hw _ (List.mem_of_getElem? (i := 12) rfl))) (mvT hZ (hw _ (List.mem_of_getElem? (i := 14) rfl))) (by decide) (backOf (W := 0) (rm_ina2 l Z a0 hw [] sa ca (0 : Int32) (2 : Int32) kc v0 v1 cz h0 n0 Z0 P0 P1 P2 P3 P4 hv0 hv1 P7 hz rfl rfl) hZ (hw _ (List.mem_of_getElem? (i := 14) rfl)) (hw _ (List.mem_of_getElem? (i := 6) rfl)) (by decide) (by decide)) (g := (mkF m 6 #[rv sa, rv ca] [.null, (.int (2 : Int32)), (.int (0 : Int32)), (.ref ca), (.ref sa)])) rfl (by rw [hml]; rfl) (Steps.refl _) (a := sa) (argsL := [(.ref ca), (.int (0 : Int32)), (.int (2 : Int32)), .null]) (rest := []) (lenOf pd5 rfl) rfl (by show 2 * 0 + _ ≤ _; exact Nat.le_of_eq rfl) (hb hby d1_6) (fun _ _ => ⟨rfl, e0, (by decide : 0 + 1 ≤ _), (by decide : 0 + 2 ≤ _)⟩)
  dsimp only [Pt.U, Pt.locs, Pt.cells, Pt.slots] at X113 l113 y113 z113 st113 hQ113
  subst l113 y113 z113
  obtain ⟨tb_113, tk_113, rfl, N113, R113_0, R113_1, R113_2, R113_3, R113_4, R113_5⟩ := hQ113
  have M113 := Fr.app N0 N113
  have sz113_1 : h0.size ≤ tb_113 := Nat.le_trans (Nat.le_refl _) R113_1
  have ng113_1 : n0 ≤ tb_113 := Nat.le_trans Z0 sz113_1
  have g114 : Goes p e below S0 (T113.setTop (mkF m 9 #[rv sa, rv ca] [])) := fun t k => g112 t (st113.trans k)
  obtain ⟨fs, hr, hrun, hended, hW, hsame⟩ := X113.leave (v := none) (fun _ => rfl)
  refine ⟨_, _, g114 _ (X113.returnOut hx Bd.returns (hb hby d1_9) hr), hrun, hended, _, _, rfl, ?_, ⟨_, rfl⟩, hW, hsame.mono (by decide) (by decide)⟩
  show Q_inb2 Z sa ca kc v0 v1 cz h0 n0 _ T113.heap _
  exact ⟨tb_113, tk_113, rfl, M113, ((Keep.refl h0 [sa]).trans R113_0 (allS (Or.inl (List.mem_of_getElem? (i := 0) rfl)) all0)), sz113_1, R113_2, R113_3, R113_4, R113_5⟩
theorem pf_mk2 : plainFor (⟨"com/example/forager/forager/RoadNamePinLaw", "mk", "(ICC)Ljava/lang/String;"⟩ : MethodName) = true := by first | exact plainFor_of_name (by first | (simp [plainName, overriddenIn, x]; done) | decide +kernel) | exact Jvm.Free.JP.mathPlain rfl (by decide +kernel) | decide +kernel
theorem ef_mk2 (m : MethodId) (xl : Int32) (xc : Int32) (yc : Int32) : entryFrame m #[(.int xl), (.int xc), (.int yc)] 3 = mkF m 0 #[iv xl, iv xc, iv yc] [] := by first | (simp [entryFrame, mkF, argsToLocals, Value.category, maxLocals]; done) | rfl
def Q_mk2 (Z : State) (xl : Int32) (xc : Int32) (yc : Int32) (cz : Int32) (h0 : Heap) (n0 : Nat) (v : Option Value) (h : Heap) (L : List Loc) : Prop := ∃ (vr : Addr) (tb : Addr) (tk : ClassId), v = some (.ref vr) ∧ Fr n0 L ∧ (Keep h0 h []) ∧ (h0.size ≤ vr) ∧ (Exa Z h vr "java/lang/String") ∧ (Fld Z h vr "java/lang/String" "value" "[B" (.ref tb)) ∧ (Fld Z h vr "java/lang/String" "coder" "B" (.int (0 : Int32))) ∧ (Arv Z h tb tk .byte (2 : Int32) [(.int (((nar .char xc).toInt8.toInt32).toInt8.toInt32)), (.int (((nar .char yc).toInt8.toInt32).toInt8.toInt32))] (.int (0 : Int32)))
set_option maxRecDepth 65536 in
set_option maxHeartbeats 40000000 in
theorem rm_mk2 (l : Launch) (Z : State) (a0 : Array Value) (hw : ∀ d ∈ tables_1, d.before a0 Z = true) (ws : List Jvm.Cond) (xl : Int32) (xc : Int32) (yc : Int32) (cz : Int32) (h0 : Heap) (n0 : Nat) (Z0 : n0 ≤ h0.size) (P0 : Sta Z h0 "java/lang/String" "COMPACT_STRINGS" "Z" (.int cz)) (hz : ¬ cz = 0) (q3 : xl = (2 : Int32)) (hx0 : ¬ ((255 : Int32) < (nar .char xc))) (hx1 : ¬ ((255 : Int32) < (nar .char yc)))  :
    MetFree l (⟨"com/example/forager/forager/RoadNamePinLaw", "mk", "(ICC)Ljava/lang/String;"⟩ : MethodName) (head1 (Jvm.Cond.code (⟨"com/example/forager/forager/RoadNamePinLaw", "mk", "(ICC)Ljava/lang/String;"⟩ : MethodName) method_2_code 3 (some (.object "java/lang/String")) :: ws) ({ frames := 4, cells := 3, slots := 8, locals := 71 } : Room)) (fun a U => a = #[(.int xl), (.int xc), (.int yc)] ∧ Z.Warmed39 U.vm ∧ U.heap = h0) (fun _ _ _ _ _ => True) (fun _ U o U' => ∃ v L, o = .returned v ∧ Q_mk2 Z xl xc yc cz h0 n0 v U'.heap L ∧ FrameEnd U o U' L ({ frames := 4, cells := 3, slots := 8, locals := 71 } : Room).cells ({ frames := 4, cells := 3, slots := 8, locals := 71 } : Room).slots) := by
  refine MetFree.of_bodySF pf_mk2 hisR ?_
  intro p e s m args below meth c s₁ Bd hml0 hP hK
  obtain ⟨rfl, hZ, hh⟩ := hP
  have hx := Bd.exec
  have hby := Bd.bytes
  have hml : c.maxLocals = 3 := hml0
  have hown : s.vm.findClass "com/example/forager/forager/RoadNamePinLaw" = some m.cls := findClass_of_methodNamed Bd.named
  have hnm := (name_of_methodNamed Bd.named Bd.method).1
  have X0 : Stand p l e ({ frames := 4, cells := 3, slots := 8, locals := 71 } : Room) s m #[(.int xl), (.int xc), (.int yc)] below meth c s₁ [] 0 0 := Stand.of_body Bd
  have e0 : s₁.heap = h0 := by rw [← hh, Bd.state]; rfl
  have N0 := Fr.nil n0
  obtain ⟨S0, hS0⟩ : ∃ z, z = s₁.setTop (entryFrame m #[(.int xl), (.int xc), (.int yc)] 3) := ⟨_, rfl⟩
  rw [← hS0]
  have g0 : Goes p e below S0 (s₁.setTop (mkF m 0 #[iv xl, iv xc, iv yc] [])) := fun t k => by rw [hS0]; exact castTop (ef_mk2 m xl xc yc) k
  obtain rfl : xl = (2 : Int32) := q3
  have g115 : Goes p e below S0 (s₁.setTop (mkF m 35 #[iv (2 : Int32), iv xc, iv yc] [])) := fun t k => g0 t (by
    refine XS.iloadN X0.here hx rfl (hb hby d0_0) rfl ?_
    show Go p e below t s₁ m 1 #[iv (2 : Int32), iv xc, iv yc] [(.int (2 : Int32))]
    refine XS.ifYes X0.here hx rfl (pc0 := 1) (pc' := 15) rfl (hb hby d0_1) rfl (XT.i0_ne_t (by decide)) (by decide) (by decide) ?_
    show Go p e below t s₁ m 15 #[iv (2 : Int32), iv xc, iv yc] []
    refine XS.iloadN X0.here hx rfl (hb hby d0_15) rfl ?_
    show Go p e below t s₁ m 16 #[iv (2 : Int32), iv xc, iv yc] [(.int (2 : Int32))]
    refine XT.iconstV X0.here hx rfl (1 : Int32) (hb hby d0_16) (by decide) ?_
    show Go p e below t s₁ m 17 #[iv (2 : Int32), iv xc, iv yc] [(.int (1 : Int32)), (.int (2 : Int32))]
    refine XS.icmpYes X0.here hx rfl (pc0 := 17) (pc' := 35) rfl (hb hby d0_17) rfl (XT.ii_ne_t (by decide)) (by decide) (by decide) ?_
    show Go p e below t s₁ m 35 #[iv (2 : Int32), iv xc, iv yc] []
    exact k)
  obtain ⟨T116, h116, X116, e116, E116, A116, D116, -, st116⟩ := newO X0 hx hZ hown (hw _ (List.mem_of_getElem? (i := 4) rfl)) (hw _ (List.mem_of_getElem? (i := 5) rfl)) (hw _ (List.mem_of_getElem? (i := 6) rfl)) e0 (g := (mkF m 35 #[iv (2 : Int32), iv xc, iv yc] [])) rfl (hb hby d0_35) (by decide) (by decide)
  obtain ⟨b116, gb116⟩ : ∃ z, z = h0.size := ⟨_, rfl⟩
  have sz116 : h0.size ≤ b116 := Nat.le_trans (Nat.le_refl _) (Nat.le_of_eq gb116.symm)
  have ng116 : n0 ≤ b116 := Nat.le_trans Z0 sz116
  rw [← gb116] at A116 D116 st116
  have F116_117 : Fld Z h116 b116 "java/lang/String" "value" "[B" .null := D116 (Or.inr (hw _ (List.mem_of_getElem? (i := 20) rfl))) (ty := (.array .byte)) (by decide)
  have F116_118 : Fld Z h116 b116 "java/lang/String" "coder" "B" (.int (0 : Int32)) := D116 (Or.inr (hw _ (List.mem_of_getElem? (i := 21) rfl))) (ty := .byte) (by decide)
  have g119 : Goes p e below S0 (T116.setTop (mkF m 38 #[iv (2 : Int32), iv xc, iv yc] [(.ref b116)])) := fun t k => g115 t (st116 t k)
  have g120 : Goes p e below S0 (T116.setTop (mkF m 40 #[iv (2 : Int32), iv xc, iv yc] [(.int (2 : Int32)), (.ref b116), (.ref b116)])) := fun t k => g119 t (by
    refine XS.dup X116.here hx rfl (hb hby d0_38) rfl rfl ?_
    show Go p e below t T116 m 39 #[iv (2 : Int32), iv xc, iv yc] [(.ref b116), (.ref b116)]
    refine XT.iconstV X116.here hx rfl (2 : Int32) (hb hby d0_39) (by decide) ?_
    show Go p e below t T116 m 40 #[iv (2 : Int32), iv xc, iv yc] [(.int (2 : Int32)), (.ref b116), (.ref b116)]
    exact k)
  obtain ⟨T121, h121, k121, X121, e121, E121, A121, st121⟩ := newP X116 hx hZ (hw _ (List.mem_of_getElem? (i := 7) rfl)) e116 (g := (mkF m 40 #[iv (2 : Int32), iv xc, iv yc] [(.int (2 : Int32)), (.ref b116), (.ref b116)])) rfl (hb hby d0_40) rfl (by decide) (cap := 2) (by decide) (by decide) (by decide) (by decide)
  obtain ⟨b121, gb121⟩ : ∃ z, z = h116.size := ⟨_, rfl⟩
  have sz121 : h0.size ≤ b121 := Nat.le_trans (Nat.le_trans (Nat.le_refl _) E116.1) (Nat.le_of_eq gb121.symm)
  have ng121 : n0 ≤ b121 := Nat.le_trans Z0 sz121
  rw [← gb121] at A121 st121
  have V121 : Arv Z h121 b121 k121 .char (2 : Int32) [(.int (0 : Int32)), (.int (0 : Int32))] (.int (0 : Int32)) := (Arv.new A121 (by decide)).pad (pad_rep [] (.int (0 : Int32)) 2)
  have g122 : Goes p e below S0 (T121.setTop (mkF m 42 #[iv (2 : Int32), iv xc, iv yc] [(.ref b121), (.ref b116), (.ref b116)])) := fun t k => g120 t (st121 t k)
  have g123 : Goes p e below S0 (T121.setTop (mkF m 45 #[iv (2 : Int32), iv xc, iv yc] [(.int xc), (.int (0 : Int32)), (.ref b121), (.ref b121), (.ref b116), (.ref b116)])) := fun t k => g122 t (by
    refine XS.dup X121.here hx rfl (hb hby d0_42) rfl rfl ?_
    show Go p e below t T121 m 43 #[iv (2 : Int32), iv xc, iv yc] [(.ref b121), (.ref b121), (.ref b116), (.ref b116)]
    refine XT.iconstV X121.here hx rfl (0 : Int32) (hb hby d0_43) (by decide) ?_
    show Go p e below t T121 m 44 #[iv (2 : Int32), iv xc, iv yc] [(.int (0 : Int32)), (.ref b121), (.ref b121), (.ref b116), (.ref b116)]
    refine XS.iloadN X121.here hx rfl (hb hby d0_44) rfl ?_
    show Go p e below t T121 m 45 #[iv (2 : Int32), iv xc, iv yc] [(.int xc), (.int (0 : Int32)), (.ref b121), (.ref b121), (.ref b116), (.ref b116)]
    exact k)
  obtain ⟨cl124, Ar124, q124, S124, M124, H124, G124⟩ := id V121
  obtain ⟨T125, h125, X125, e125, W125, st125⟩ := stC X121 hx hZ e121 Ar124 (j := (0 : Int32)) (inb_of S124 ⟨by decide, by decide⟩) (g := (mkF m 45 #[iv (2 : Int32), iv xc, iv yc] [(.int xc), (.int (0 : Int32)), (.ref b121), (.ref b121), (.ref b116), (.ref b116)])) rfl rfl (hb hby d0_45)
  have N125 := Fr.snoc X125 N0 ng121
  have V125 : Arv Z h125 b121 k121 .char (2 : Int32) [(.int (nar .char xc)), (.int (0 : Int32))] (.int (0 : Int32)) := Arv.set Ar124 q124 S124 M124 H124 G124 (fits_nar_char _) W125 0 rfl (Nat.le_of_ble_eq_true rfl)
  have g126 : Goes p e below S0 (T125.setTop (mkF m 46 #[iv (2 : Int32), iv xc, iv yc] [(.ref b121), (.ref b116), (.ref b116)])) := fun t k => g123 t (st125 t k)
  have g127 : Goes p e below S0 (T125.setTop (mkF m 49 #[iv (2 : Int32), iv xc, iv yc] [(.int yc), (.int (1 : Int32)), (.ref b121), (.ref b121), (.ref b116), (.ref b116)])) := fun t k => g126 t (by
    refine XS.dup X125.here hx rfl (hb hby d0_46) rfl rfl ?_
    show Go p e below t T125 m 47 #[iv (2 : Int32), iv xc, iv yc] [(.ref b121), (.ref b121), (.ref b116), (.ref b116)]
    refine XT.iconstV X125.here hx rfl (1 : Int32) (hb hby d0_47) (by decide) ?_
    show Go p e below t T125 m 48 #[iv (2 : Int32), iv xc, iv yc] [(.int (1 : Int32)), (.ref b121), (.ref b121), (.ref b116), (.ref b116)]
    refine XS.iloadN X125.here hx rfl (hb hby d0_48) rfl ?_
    show Go p e below t T125 m 49 #[iv (2 : Int32), iv xc, iv yc] [(.int yc), (.int (1 : Int32)), (.ref b121), (.ref b121), (.ref b116), (.ref b116)]
    exact k)
  obtain ⟨cl128, Ar128, q128, S128, M128, H128, G128⟩ := id V125
  obtain ⟨T129, h129, X129, e129, W129, st129⟩ := stC X125 hx hZ e125 Ar128 (j := (1 : Int32)) (inb_of S128 ⟨by decide, by decide⟩) (g := (mkF m 49 #[iv (2 : Int32), iv xc, iv yc] [(.int yc), (.int (1 : Int32)), (.ref b121), (.ref b121), (.ref b116), (.ref b116)])) rfl rfl (hb hby d0_49)
  have N129 := Fr.snoc X129 N125 ng121
  have V129 : Arv Z h129 b121 k121 .char (2 : Int32) [(.int (nar .char xc)), (.int (nar .char yc))] (.int (0 : Int32)) := Arv.set Ar128 q128 S128 M128 H128 G128 (fits_nar_char _) W129 1 rfl (Nat.le_of_ble_eq_true rfl)
  have g130 : Goes p e below S0 (T129.setTop (mkF m 50 #[iv (2 : Int32), iv xc, iv yc] [(.ref b121), (.ref b116), (.ref b116)])) := fun t k => g127 t (st129 t k)
  obtain ⟨_, _, ⟨T131, L131, k131, n131⟩, -, X131, ⟨Lc131, hQ131, l131, y131, z131⟩, st131⟩ := X129.specialBack hx (y := (⟨"java/lang/String", "<init>", "([C)V"⟩ : MethodName)) rfl hown (mvT hZ (hw _ (List.mem_of_getElem? (i := 8) rfl))) (mvT hZ (hw _ (List.mem_of_getElem? (i := 9) rfl))) (mvT hZ (hw _ (List.mem_of_getElem? (i := 10) rfl))) (by decide) (backOf (W := 1) (rm_inb2 l Z a0 hw [] b116 b121 k121 (nar .char xc) (nar .char yc) cz h129 n0 (Nat.le_trans Z0 (Nat.le_trans (Nat.le_trans (Nat.le_trans (Nat.le_trans (Nat.le_refl _) E116.1) E121.1) (Nat.le_of_eq W125.size.symm)) (Nat.le_of_eq W129.size.symm))) (((A116.ext E121).wr W125).wr W129) (((F116_117.ext E121).other W125 (Or.inl (Nat.ne_of_lt (Nat.lt_of_lt_of_le A116.lt (Nat.le_of_eq gb121.symm))))).other W129 (Or.inl (Nat.ne_of_lt (Nat.lt_of_lt_of_le A116.lt (Nat.le_of_eq gb121.symm))))) (((F116_118.ext E121).other W125 (Or.inl (Nat.ne_of_lt (Nat.lt_of_lt_of_le A116.lt (Nat.le_of_eq gb121.symm))))).other W129 (Or.inl (Nat.ne_of_lt (Nat.lt_of_lt_of_le A116.lt (Nat.le_of_eq gb121.symm))))) ng116 V129 hx0 hx1 ((((P0.ext E116).ext E121).wr W125).wr W129) hz) hZ (hw _ (List.mem_of_getElem? (i := 10) rfl)) (hw _ (List.mem_of_getElem? (i := 6) rfl)) (by decide) (by decide)) (g := (mkF m 50 #[iv (2 : Int32), iv xc, iv yc] [(.ref b121), (.ref b116), (.ref b116)])) rfl (by rw [hml]; rfl) (Steps.refl _) (a := b116) (argsL := [(.ref b121)]) (rest := [(.ref b116)]) (lenOf pd6 rfl) rfl (by show 2 * 0 + _ ≤ _; exact Nat.le_of_eq rfl) (hb hby d0_50) (fun _ _ => ⟨rfl, e129, (by decide : 2 + 1 ≤ _), (by decide : 6 + 2 ≤ _)⟩)
  dsimp only [Pt.U, Pt.locs, Pt.cells, Pt.slots] at X131 l131 y131 z131 st131 hQ131
  subst l131 y131 z131
  obtain ⟨tb_131, tk_131, rfl, N131, R131_0, R131_1, R131_2, R131_3, R131_4, R131_5⟩ := hQ131
  have M131 := Fr.app N129 N131
  have sz131_1 : h0.size ≤ tb_131 := Nat.le_trans (Nat.le_trans (Nat.le_trans (Nat.le_trans (Nat.le_trans (Nat.le_refl _) E116.1) E121.1) (Nat.le_of_eq W125.size.symm)) (Nat.le_of_eq W129.size.symm)) R131_1
  have ng131_1 : n0 ≤ tb_131 := Nat.le_trans Z0 sz131_1
  have g132 : Goes p e below S0 (T131.setTop (mkF m 53 #[iv (2 : Int32), iv xc, iv yc] [(.ref b116)])) := fun t k => g130 t (st131.trans k)
  obtain ⟨fs, hr, hrun, hended, hW, hsame⟩ := X131.leave (v := some (.ref b116)) (fun h => by rw [Bd.returns] at h; cases h)
  refine ⟨_, _, g132 _ (retOut X131 hx Bd.returns rfl (Or.inr (Or.inr (Or.inr (Or.inr ⟨rfl, rfl, rfl⟩)))) (hb hby d0_53) hr), hrun, hended, _, _, rfl, ?_, ⟨_, rfl⟩, hW, hsame.mono (by decide) (by decide)⟩
  show Q_mk2 Z (2 : Int32) xc yc cz h0 n0 _ T131.heap _
  exact ⟨b116, tb_131, tk_131, rfl, M131, ((((((Keep.refl h0 []).ext E116).ext E121).wr W125 (Or.inr sz121)).wr W129 (Or.inr sz121)).trans R131_0 (allS (Or.inr sz116) all0)), sz116, R131_2, R131_3, R131_4, R131_5⟩
theorem pf_ina0 : plainFor (⟨"java/lang/String", "<init>", "([CIILjava/lang/Void;)V"⟩ : MethodName) = true := by first | exact plainFor_of_name (by first | (simp [plainName, overriddenIn, x]; done) | decide +kernel) | exact Jvm.Free.JP.mathPlain rfl (by decide +kernel) | decide +kernel
theorem ef_ina0 (m : MethodId) (sa : Addr) (ca : Addr) (xo : Int32) (xl : Int32) : entryFrame m #[(.ref sa), (.ref ca), (.int xo), (.int xl), .null] 6 = mkF m 0 #[rv sa, rv ca, iv xo, iv xl, .val .null, .unset] [] := by first | (simp [entryFrame, mkF, argsToLocals, Value.category, maxLocals]; done) | rfl
def Q_ina0 (Z : State) (sa : Addr) (ca : Addr) (xo : Int32) (xl : Int32)  (h0 : Heap) (n0 : Nat) (v : Option Value) (h : Heap) (L : List Loc) : Prop := ∃ (tb : Addr) (tk : ClassId), v = none ∧ Fr n0 L ∧ (Keep h0 h [sa]) ∧ (Exa Z h sa "java/lang/String") ∧ (Fld Z h sa "java/lang/String" "value" "[B" (.ref tb)) ∧ (Fld Z h sa "java/lang/String" "coder" "B" (.int (0 : Int32))) ∧ (Arv Z h tb tk .byte (0 : Int32) [] (.int (0 : Int32)))
set_option maxRecDepth 65536 in
set_option maxHeartbeats 40000000 in
theorem rm_ina0 (l : Launch) (Z : State) (a0 : Array Value) (hw : ∀ d ∈ tables_1, d.before a0 Z = true) (ws : List Jvm.Cond) (sa : Addr) (ca : Addr) (xo : Int32) (xl : Int32)  (h0 : Heap) (n0 : Nat) (Z0 : n0 ≤ h0.size) (P0 : Exa Z h0 sa "java/lang/String") (P1 : Fld Z h0 sa "java/lang/String" "value" "[B" .null) (P2 : Fld Z h0 sa "java/lang/String" "coder" "B" (.int (0 : Int32))) (P3 : n0 ≤ sa) (q3 : xl = (0 : Int32))  :
    MetFree l (⟨"java/lang/String", "<init>", "([CIILjava/lang/Void;)V"⟩ : MethodName) (head1 (Jvm.Cond.code (⟨"java/lang/String", "<init>", "([CIILjava/lang/Void;)V"⟩ : MethodName) jdk_42_method_149_code 6 none :: ws) ({ frames := 1, cells := 4, slots := 8, locals := 12 } : Room)) (fun a U => a = #[(.ref sa), (.ref ca), (.int xo), (.int xl), .null] ∧ Z.Warmed39 U.vm ∧ U.heap = h0 ∧ CHv Z consts_1 U.vm h0 ∧ ∀ x ∈ ([sa] : List Addr), Safe Z consts_1 U.vm h0 x) (fun _ _ _ _ _ => True) (fun _ U o U' => ∃ v L, o = .returned v ∧ Q_ina0 Z sa ca xo xl  h0 n0 v U'.heap L ∧ CHr Z consts_1 U.vm U.heap U'.vm U'.heap ∧ ReturnedEndW U o U' L ({ frames := 1, cells := 4, slots := 8, locals := 12 } : Room).cells ({ frames := 1, cells := 4, slots := 8, locals := 12 } : Room).slots) := by
  refine MetFree.of_bodySF pf_ina0 hisR ?_
  intro p e s m args below meth c s₁ Bd hml0 hP hK
  obtain ⟨rfl, hZ, hh, hC, hSf⟩ := hP
  have hEL : EW Z a0 consts_1 := own_EW hw
  have ch0 : CHr Z consts_1 s.vm h0 s.vm h0 := CHr.refl hC
  have hx := Bd.exec
  have hby := Bd.bytes
  have hml : c.maxLocals = 6 := hml0
  have hown : s.vm.findClass "java/lang/String" = some m.cls := findClass_of_methodNamed Bd.named
  have hnm := (name_of_methodNamed Bd.named Bd.method).1
  have X0 : Stand p l e ({ frames := 1, cells := 4, slots := 8, locals := 12 } : Room) s m #[(.ref sa), (.ref ca), (.int xo), (.int xl), .null] below meth c s₁ [] 0 0 := Stand.of_body Bd
  have e0 : s₁.heap = h0 := by rw [← hh, Bd.state]; rfl
  have N0 := Fr.nil n0
  obtain ⟨S0, hS0⟩ : ∃ z, z = s₁.setTop (entryFrame m #[(.ref sa), (.ref ca), (.int xo), (.int xl), .null] 6) := ⟨_, rfl⟩
  rw [← hS0]
  have g0 : Goes p e below S0 (s₁.setTop (mkF m 0 #[rv sa, rv ca, iv xo, iv xl, .val .null, .unset] [])) := fun t k => by rw [hS0]; exact castTop (ef_ina0 m sa ca xo xl) k
  obtain rfl : xl = (0 : Int32) := q3
  have g133 : Goes p e below S0 (s₁.setTop (mkF m 1 #[rv sa, rv ca, iv xo, iv (0 : Int32), .val .null, .unset] [(.ref sa)])) := fun t k => g0 t (by
    refine XS.aloadN X0.here hx rfl (hb hby d2_0) rfl rfl ?_
    show Go p e below t s₁ m 1 #[rv sa, rv ca, iv xo, iv (0 : Int32), .val .null, .unset] [(.ref sa)]
    exact k)
  obtain ⟨T134, X134, e134, st134⟩ := initO X0 hx hZ hown (hw _ (List.mem_of_getElem? (i := 15) rfl)) (hw _ (List.mem_of_getElem? (i := 16) rfl)) (hw _ (List.mem_of_getElem? (i := 17) rfl)) e0 (g := (mkF m 1 #[rv sa, rv ca, iv xo, iv (0 : Int32), .val .null, .unset] [(.ref sa)])) rfl (by rw [hml]; rfl) rfl (hb hby d2_1) (by decide) (W := 0) (by show 2 * 0 + _ ≤ _; exact Nat.le_of_eq rfl) (by decide)
  have g135 : Goes p e below S0 (T134.setTop (mkF m 4 #[rv sa, rv ca, iv xo, iv (0 : Int32), .val .null, .unset] [])) := fun t k => g133 t (st134 t k)
  have g136 : Goes p e below S0 (T134.setTop (mkF m 9 #[rv sa, rv ca, iv xo, iv (0 : Int32), .val .null, .unset] [(.ref sa)])) := fun t k => g135 t (by
    refine XS.iloadN X134.here hx rfl (hb hby d2_4) rfl ?_
    show Go p e below t T134 m 5 #[rv sa, rv ca, iv xo, iv (0 : Int32), .val .null, .unset] [(.int (0 : Int32))]
    refine XS.ifNo X134.here hx rfl (hb hby d2_5) rfl (XT.i0_ne_f (by decide)) ?_
    show Go p e below t T134 m 8 #[rv sa, rv ca, iv xo, iv (0 : Int32), .val .null, .unset] []
    refine XS.aloadN X134.here hx rfl (hb hby d2_8) rfl rfl ?_
    show Go p e below t T134 m 9 #[rv sa, rv ca, iv xo, iv (0 : Int32), .val .null, .unset] [(.ref sa)]
    exact k)
  have wS : ∀ a ∈ Bundle.stringAtoms, a.before a0 Z = true := fun d hd => by
    simp only [Bundle.stringAtoms, List.mem_cons, List.not_mem_nil, or_false] at hd
    rcases hd with rfl | rfl | rfl | rfl | rfl | rfl | rfl
    · exact hw _ (List.mem_of_getElem? (i := 6) rfl)
    · exact hw _ (List.mem_of_getElem? (i := 5) rfl)
    · exact hw _ (List.mem_of_getElem? (i := 19) rfl)
    · exact hw _ (List.mem_of_getElem? (i := 20) rfl)
    · exact hw _ (List.mem_of_getElem? (i := 21) rfl)
    · exact hw _ (List.mem_of_getElem? (i := 22) rfl)
    · exact hw _ (List.mem_of_getElem? (i := 23) rfl)
  obtain ⟨a137, T137, h137, kk137, b137, kb137, X137, e137, E137, sn137, ks137, hZ, hown, EA137, FC137, FV137, AV137, -, -, cr137, -, sf137, st137⟩ := ldcCH (s := s) (vm0 := s.vm) (EL := consts_1) X134 hx hZ hown (hw _ (List.mem_of_getElem? (i := 18) rfl)) wS e134 ((State.WarmedH.refl s).since 0) (Nat.zero_le _) hEL (List.mem_of_getElem? (i := 1) rfl) ch0.1 (vs := []) (z := (0 : Int32)) own_lit1 (by decide) (by decide) (g := (mkF m 9 #[rv sa, rv ca, iv xo, iv (0 : Int32), .val .null, .unset] [(.ref sa)])) rfl (hb hby d2_9) (n := 0) (by decide) (by decide) (by decide) (by decide)
  have g138 : Goes p e below S0 (T137.setTop (mkF m 11 #[rv sa, rv ca, iv xo, iv (0 : Int32), .val .null, .unset] [(.ref a137), (.ref sa)])) := fun t k => g136 t (st137 t k)
  obtain ⟨T139, X139, e139, st139⟩ := getF X137 hx hZ hown (host := "") (Or.inl (hw _ (List.mem_of_getElem? (i := 24) rfl))) Via.refl e137 FV137 (g := (mkF m 11 #[rv sa, rv ca, iv xo, iv (0 : Int32), .val .null, .unset] [(.ref a137), (.ref sa)])) rfl rfl (hb hby d2_11)
  have g140 : Goes p e below S0 (T139.setTop (mkF m 14 #[rv sa, rv ca, iv xo, iv (0 : Int32), .val .null, .unset] [(.ref b137), (.ref sa)])) := fun t k => g138 t (st139 t k)
  obtain ⟨T141, h141, X141, e141, W141, st141⟩ := putF X139 hx hZ hown (host := "") (Or.inl (hw _ (List.mem_of_getElem? (i := 24) rfl))) Via.refl e139 (P1.ext E137) (P0.ext E137) (Or.inr ⟨(hw _ (List.mem_of_getElem? (i := 20) rfl)), rfl, hnm⟩) (hw _ (List.mem_of_getElem? (i := 5) rfl)) (ty := (.array .byte)) (by decide) rfl rfl (g := (mkF m 14 #[rv sa, rv ca, iv xo, iv (0 : Int32), .val .null, .unset] [(.ref b137), (.ref sa)])) rfl rfl (hb hby d2_14)
  have N141 := Fr.snoc X141 N0 P3
  have Fw141 := Fld.same W141 (P1.ext E137)
  have g142 : Goes p e below S0 (T141.setTop (mkF m 17 #[rv sa, rv ca, iv xo, iv (0 : Int32), .val .null, .unset] [])) := fun t k => g140 t (st141 t k)
  have g143 : Goes p e below S0 (T141.setTop (mkF m 18 #[rv sa, rv ca, iv xo, iv (0 : Int32), .val .null, .unset] [(.ref sa)])) := fun t k => g142 t (by
    refine XS.aloadN X141.here hx rfl (hb hby d2_17) rfl rfl ?_
    show Go p e below t T141 m 18 #[rv sa, rv ca, iv xo, iv (0 : Int32), .val .null, .unset] [(.ref sa)]
    exact k)
  have ch145 := ch0.trans cr137
  have hs146 : Safe Z consts_1 T137.vm h137 sa := (CHr.safe cr137 P0.lt (hSf sa (List.mem_of_getElem? (i := 0) rfl)))
  have ch146 := ch145.trans (CHr.wr W141 hs146 ch145.1)
  obtain ⟨a144, T144, h144, kk144, b144, kb144, X144, e144, E144, sn144, ks144, hZ, hown, EA144, FC144, FV144, AV144, -, -, cr144, -, sf144, st144⟩ := ldcCH (s := s) (vm0 := T137.vm) (EL := consts_1) X141 hx hZ hown (hw _ (List.mem_of_getElem? (i := 18) rfl)) wS e141 sn137 (Nat.le_trans ks137 (Nat.le_of_eq W141.size.symm)) hEL (List.mem_of_getElem? (i := 1) rfl) ch146.1 (vs := []) (z := (0 : Int32)) own_lit1 (by decide) (by decide) (g := (mkF m 18 #[rv sa, rv ca, iv xo, iv (0 : Int32), .val .null, .unset] [(.ref sa)])) rfl (hb hby d2_18) (n := 0) (by decide) (by decide) (by decide) (by decide)
  have g147 : Goes p e below S0 (T144.setTop (mkF m 20 #[rv sa, rv ca, iv xo, iv (0 : Int32), .val .null, .unset] [(.ref a144), (.ref sa)])) := fun t k => g143 t (st144 t k)
  obtain ⟨T148, X148, e148, st148⟩ := getF X144 hx hZ hown (host := "") (Or.inl (hw _ (List.mem_of_getElem? (i := 25) rfl))) Via.refl e144 FC144 (g := (mkF m 20 #[rv sa, rv ca, iv xo, iv (0 : Int32), .val .null, .unset] [(.ref a144), (.ref sa)])) rfl rfl (hb hby d2_20)
  have g149 : Goes p e below S0 (T148.setTop (mkF m 23 #[rv sa, rv ca, iv xo, iv (0 : Int32), .val .null, .unset] [(.int (0 : Int32)), (.ref sa)])) := fun t k => g147 t (st148 t k)
  obtain ⟨T150, h150, X150, e150, W150, st150⟩ := putFN X148 hx hZ hown (hw _ (List.mem_of_getElem? (i := 25) rfl)) Via.refl e148 (((P2.ext E137).other W141 (Or.inr (slot_ne (Or.inr (hw _ (List.mem_of_getElem? (i := 21) rfl))) (Or.inr (hw _ (List.mem_of_getElem? (i := 20) rfl))) (by decide) (t := .byte) (t' := (.array .byte)) (by decide) (by decide)))).ext E144) (((P0.ext E137).wr W141).ext E144) (Or.inr ⟨(hw _ (List.mem_of_getElem? (i := 21) rfl)), rfl, hnm⟩) (hw _ (List.mem_of_getElem? (i := 5) rfl)) (ty := .byte) (v' := (.int (0 : Int32))) (by decide) (by decide) (by decide) (g := (mkF m 23 #[rv sa, rv ca, iv xo, iv (0 : Int32), .val .null, .unset] [(.int (0 : Int32)), (.ref sa)])) rfl rfl (hb hby d2_23)
  have N150 := Fr.snoc X150 N141 P3
  have Fw150 := Fld.same W150 (((P2.ext E137).other W141 (Or.inr (slot_ne (Or.inr (hw _ (List.mem_of_getElem? (i := 21) rfl))) (Or.inr (hw _ (List.mem_of_getElem? (i := 20) rfl))) (by decide) (t := .byte) (t' := (.array .byte)) (by decide) (by decide)))).ext E144)
  have g151 : Goes p e below S0 (T150.setTop (mkF m 26 #[rv sa, rv ca, iv xo, iv (0 : Int32), .val .null, .unset] [])) := fun t k => g149 t (st150 t k)
  have ch152 := ch146.trans cr144
  have hs153 : Safe Z consts_1 T144.vm h144 sa := (CHr.safe cr144 ((P0.ext E137).wr W141).lt (Safe.wr W141 hs146 ch145.1 (CHr.safe cr137 P0.lt (hSf sa (List.mem_of_getElem? (i := 0) rfl)))))
  have ch153 := ch152.trans (CHr.wr W150 hs153 ch152.1)
  obtain ⟨fs, hr, hrun, hended, hE1, hE2, hE3, hE4⟩ := Stand.leaveW (s := s) (vm₁ := T144.vm) X150 sn144 (by rw [e150]; exact (Nat.le_trans ks144 (Nat.le_of_eq W150.size.symm))) (v := none) (fun _ => rfl)
  refine ⟨_, _, g151 _ (X150.returnOut hx Bd.returns (hb hby d2_26) hr), hrun, hended, _, _, rfl, ?_, (by show CHr Z consts_1 s.vm s.heap T150.vm T150.heap; rw [hh, e150]; exact ch153.trans (CHv.at (s := s) (vm0 := T144.vm) X150 hZ hEL ch153.1)), hE1, hE2, hE3, hE4.mono (by decide) (by decide)⟩
  show Q_ina0 Z sa ca xo (0 : Int32)  h0 n0 _ T150.heap _
  rw [e150]
  exact ⟨b137, kb137, rfl, N150, (((((Keep.refl h0 [sa]).ext E137).wr W141 (Or.inl (List.mem_of_getElem? (i := 0) rfl))).ext E144).wr W150 (Or.inl (List.mem_of_getElem? (i := 0) rfl))), ((((P0.ext E137).wr W141).ext E144).wr W150), ((Fw141.ext E144).other W150 (Or.inr (slot_ne (Or.inr (hw _ (List.mem_of_getElem? (i := 20) rfl))) (Or.inr (hw _ (List.mem_of_getElem? (i := 21) rfl))) (by decide) (t := (.array .byte)) (t' := .byte) (by decide) (by decide)))), Fw150, (((AV137.other W141 (Ne.symm (sf137 sa (CHr.safe cr137 P0.lt (hSf sa (List.mem_of_getElem? (i := 0) rfl)))).2)).ext E144).other W150 (Ne.symm (sf137 sa (CHr.safe cr137 P0.lt (hSf sa (List.mem_of_getElem? (i := 0) rfl)))).2))⟩
theorem pf_inb0 : plainFor (⟨"java/lang/String", "<init>", "([C)V"⟩ : MethodName) = true := by first | exact plainFor_of_name (by first | (simp [plainName, overriddenIn, x]; done) | decide +kernel) | exact Jvm.Free.JP.mathPlain rfl (by decide +kernel) | decide +kernel
theorem ef_inb0 (m : MethodId) (sa : Addr) (ca : Addr) : entryFrame m #[(.ref sa), (.ref ca)] 2 = mkF m 0 #[rv sa, rv ca] [] := by first | (simp [entryFrame, mkF, argsToLocals, Value.category, maxLocals]; done) | rfl
def Q_inb0 (Z : State) (sa : Addr) (ca : Addr) (kc : ClassId) (h0 : Heap) (n0 : Nat) (v : Option Value) (h : Heap) (L : List Loc) : Prop := ∃ (tb : Addr) (tk : ClassId), v = none ∧ Fr n0 L ∧ (Keep h0 h [sa]) ∧ (Exa Z h sa "java/lang/String") ∧ (Fld Z h sa "java/lang/String" "value" "[B" (.ref tb)) ∧ (Fld Z h sa "java/lang/String" "coder" "B" (.int (0 : Int32))) ∧ (Arv Z h tb tk .byte (0 : Int32) [] (.int (0 : Int32)))
set_option maxRecDepth 65536 in
set_option maxHeartbeats 40000000 in
theorem rm_inb0 (l : Launch) (Z : State) (a0 : Array Value) (hw : ∀ d ∈ tables_1, d.before a0 Z = true) (ws : List Jvm.Cond) (sa : Addr) (ca : Addr) (kc : ClassId) (h0 : Heap) (n0 : Nat) (Z0 : n0 ≤ h0.size) (P0 : Exa Z h0 sa "java/lang/String") (P1 : Fld Z h0 sa "java/lang/String" "value" "[B" .null) (P2 : Fld Z h0 sa "java/lang/String" "coder" "B" (.int (0 : Int32))) (P3 : n0 ≤ sa) (P4 : Arv Z h0 ca kc .char (0 : Int32) [] (.int (0 : Int32)))  :
    MetFree l (⟨"java/lang/String", "<init>", "([C)V"⟩ : MethodName) (head1 (Jvm.Cond.code (⟨"java/lang/String", "<init>", "([C)V"⟩ : MethodName) jdk_42_method_3_code 2 none :: ws) ({ frames := 2, cells := 4, slots := 8, locals := 29 } : Room)) (fun a U => a = #[(.ref sa), (.ref ca)] ∧ Z.Warmed39 U.vm ∧ U.heap = h0 ∧ CHv Z consts_1 U.vm h0 ∧ ∀ x ∈ ([sa] : List Addr), Safe Z consts_1 U.vm h0 x) (fun _ _ _ _ _ => True) (fun _ U o U' => ∃ v L, o = .returned v ∧ Q_inb0 Z sa ca kc h0 n0 v U'.heap L ∧ CHr Z consts_1 U.vm U.heap U'.vm U'.heap ∧ ReturnedEndW U o U' L ({ frames := 2, cells := 4, slots := 8, locals := 29 } : Room).cells ({ frames := 2, cells := 4, slots := 8, locals := 29 } : Room).slots) := by
  refine MetFree.of_bodySF pf_inb0 hisR ?_
  intro p e s m args below meth c s₁ Bd hml0 hP hK
  obtain ⟨rfl, hZ, hh, hC, hSf⟩ := hP
  have hEL : EW Z a0 consts_1 := own_EW hw
  have ch0 : CHr Z consts_1 s.vm h0 s.vm h0 := CHr.refl hC
  have hx := Bd.exec
  have hby := Bd.bytes
  have hml : c.maxLocals = 2 := hml0
  have hown : s.vm.findClass "java/lang/String" = some m.cls := findClass_of_methodNamed Bd.named
  have hnm := (name_of_methodNamed Bd.named Bd.method).1
  have X0 : Stand p l e ({ frames := 2, cells := 4, slots := 8, locals := 29 } : Room) s m #[(.ref sa), (.ref ca)] below meth c s₁ [] 0 0 := Stand.of_body Bd
  have e0 : s₁.heap = h0 := by rw [← hh, Bd.state]; rfl
  have N0 := Fr.nil n0
  obtain ⟨S0, hS0⟩ : ∃ z, z = s₁.setTop (entryFrame m #[(.ref sa), (.ref ca)] 2) := ⟨_, rfl⟩
  rw [← hS0]
  have g0 : Goes p e below S0 (s₁.setTop (mkF m 0 #[rv sa, rv ca] [])) := fun t k => by rw [hS0]; exact castTop (ef_inb0 m sa ca) k
  have g154 : Goes p e below S0 (s₁.setTop (mkF m 4 #[rv sa, rv ca] [(.ref ca), (.int (0 : Int32)), (.ref ca), (.ref sa)])) := fun t k => g0 t (by
    refine XS.aloadN X0.here hx rfl (hb hby d1_0) rfl rfl ?_
    show Go p e below t s₁ m 1 #[rv sa, rv ca] [(.ref sa)]
    refine XS.aloadN X0.here hx rfl (hb hby d1_1) rfl rfl ?_
    show Go p e below t s₁ m 2 #[rv sa, rv ca] [(.ref ca), (.ref sa)]
    refine XT.iconstV X0.here hx rfl (0 : Int32) (hb hby d1_2) (by decide) ?_
    show Go p e below t s₁ m 3 #[rv sa, rv ca] [(.int (0 : Int32)), (.ref ca), (.ref sa)]
    refine XS.aloadN X0.here hx rfl (hb hby d1_3) rfl rfl ?_
    show Go p e below t s₁ m 4 #[rv sa, rv ca] [(.ref ca), (.int (0 : Int32)), (.ref ca), (.ref sa)]
    exact k)
  obtain ⟨cl155, Ar155, q155, S155, M155, H155, G155⟩ := id P4
  have g156 : Goes p e below S0 (s₁.setTop (mkF m 6 #[rv sa, rv ca] [.null, (.int (0 : Int32)), (.int (0 : Int32)), (.ref ca), (.ref sa)])) := fun t k => g154 t (by
    refine X0.arraylength hx (by rw [e0]; exact Ar155.1) (State.isArrayOf_alike hZ.alike Ar155.2.1) (g := (mkF m 4 #[rv sa, rv ca] [(.ref ca), (.int (0 : Int32)), (.ref ca), (.ref sa)])) rfl rfl (hb hby d1_4) _ ?_
    rw [len_of S155 M155]
    show Go p e below t s₁ m 5 #[rv sa, rv ca] [(.int (0 : Int32)), (.int (0 : Int32)), (.ref ca), (.ref sa)]
    refine XS.aconstNull X0.here hx rfl (hb hby d1_5) ?_
    show Go p e below t s₁ m 6 #[rv sa, rv ca] [.null, (.int (0 : Int32)), (.int (0 : Int32)), (.ref ca), (.ref sa)]
    exact k)
  obtain ⟨_, _, ⟨T157, L157, k157, n157⟩, -, X157, sn157, gr157, ⟨Lc157, hQ157, l157, y157, z157, cr157⟩, st157⟩ := X0.specialBackS hx (y := (⟨"java/lang/String", "<init>", "([CIILjava/lang/Void;)V"⟩ : MethodName)) rfl hown (mvT hZ (hw _ (List.mem_of_getElem? (i := 11) rfl))) (mvT hZ (hw _ (List.mem_of_getElem? (i := 12) rfl))) (mvT hZ (hw _ (List.mem_of_getElem? (i := 14) rfl))) (by decide) (own_backH (s := s) (vm0 := s.vm) (W := 0) (rm_ina0 l Z a0 hw [] sa ca (0 : Int32) (0 : Int32)  h0 n0 Z0 P0 P1 P2 P3 rfl) hZ (hw _ (List.mem_of_getElem? (i := 14) rfl)) (hw _ (List.mem_of_getElem? (i := 6) rfl)) (by decide) (by decide) hEL ch0.1 (allS ⟨P0.lt, (hSf sa (List.mem_of_getElem? (i := 0) rfl))⟩ all0)) (g := (mkF m 6 #[rv sa, rv ca] [.null, (.int (0 : Int32)), (.int (0 : Int32)), (.ref ca), (.ref sa)])) rfl (by rw [hml]; rfl) (Steps.refl _) (a := sa) (argsL := [(.ref ca), (.int (0 : Int32)), (.int (0 : Int32)), .null]) (rest := []) (lenOf pd5 rfl) rfl (by show 2 * 0 + _ ≤ _; exact Nat.le_of_eq rfl) (hb hby d1_6) (fun _ _ => ⟨rfl, e0, (by decide : 0 + 4 ≤ _), (by decide : 0 + 8 ≤ _)⟩)
  dsimp only [Pt.U, Pt.locs, Pt.cells, Pt.slots] at X157 sn157 gr157 l157 y157 z157 cr157 st157 hQ157
  subst l157 y157 z157
  obtain ⟨Y157, so157, hZ, hown⟩ := rebS (s := s) (vm0 := s.vm) ((State.WarmedH.refl s).since 0) (by rw [e0]; exact (Nat.zero_le _)) X157 sn157 gr157 hZ hown
  obtain ⟨tb_157, tk_157, rfl, N157, R157_0, R157_1, R157_2, R157_3, R157_4⟩ := hQ157
  have M157 := Fr.app N0 N157
  have g158 : Goes p e below S0 (T157.setTop (mkF m 9 #[rv sa, rv ca] [])) := fun t k => g156 t (st157.trans k)
  have ch159 := ch0.trans cr157
  obtain ⟨fs, hr, hrun, hended, hE1, hE2, hE3, hE4⟩ := Stand.leaveW (s := s) (vm₁ := T157.vm) Y157 so157 (Nat.le_refl _) (v := none) (fun _ => rfl)
  refine ⟨_, _, g158 _ (Y157.returnOut hx Bd.returns (hb hby d1_9) hr), hrun, hended, _, _, rfl, ?_, (by show CHr Z consts_1 s.vm s.heap T157.vm T157.heap; rw [hh]; exact ch159.trans (CHv.at (s := s) (vm0 := T157.vm) Y157 hZ hEL ch159.1)), hE1, hE2, hE3, hE4.mono (by decide) (by decide)⟩
  show Q_inb0 Z sa ca kc h0 n0 _ T157.heap _
  exact ⟨tb_157, tk_157, rfl, M157, ((Keep.refl h0 [sa]).trans R157_0 (allS (Or.inl (List.mem_of_getElem? (i := 0) rfl)) all0)), R157_1, R157_2, R157_3, R157_4⟩
theorem pf_mk0 : plainFor (⟨"com/example/forager/forager/RoadNamePinLaw", "mk", "(ICC)Ljava/lang/String;"⟩ : MethodName) = true := by first | exact plainFor_of_name (by first | (simp [plainName, overriddenIn, x]; done) | decide +kernel) | exact Jvm.Free.JP.mathPlain rfl (by decide +kernel) | decide +kernel
theorem ef_mk0 (m : MethodId) (xl : Int32) (xc : Int32) (yc : Int32) : entryFrame m #[(.int xl), (.int xc), (.int yc)] 3 = mkF m 0 #[iv xl, iv xc, iv yc] [] := by first | (simp [entryFrame, mkF, argsToLocals, Value.category, maxLocals]; done) | rfl
def Q_mk0 (Z : State) (xl : Int32) (xc : Int32) (yc : Int32)  (h0 : Heap) (n0 : Nat) (v : Option Value) (h : Heap) (L : List Loc) : Prop := ∃ (vr : Addr) (tb : Addr) (tk : ClassId), v = some (.ref vr) ∧ Fr n0 L ∧ (Keep h0 h []) ∧ (h0.size ≤ vr) ∧ (Exa Z h vr "java/lang/String") ∧ (Fld Z h vr "java/lang/String" "value" "[B" (.ref tb)) ∧ (Fld Z h vr "java/lang/String" "coder" "B" (.int (0 : Int32))) ∧ (Arv Z h tb tk .byte (0 : Int32) [] (.int (0 : Int32)))
set_option maxRecDepth 65536 in
set_option maxHeartbeats 40000000 in
theorem rm_mk0 (l : Launch) (Z : State) (a0 : Array Value) (hw : ∀ d ∈ tables_1, d.before a0 Z = true) (ws : List Jvm.Cond) (xl : Int32) (xc : Int32) (yc : Int32)  (h0 : Heap) (n0 : Nat) (Z0 : n0 ≤ h0.size) (q3 : xl = (0 : Int32))  :
    MetFree l (⟨"com/example/forager/forager/RoadNamePinLaw", "mk", "(ICC)Ljava/lang/String;"⟩ : MethodName) (head1 (Jvm.Cond.code (⟨"com/example/forager/forager/RoadNamePinLaw", "mk", "(ICC)Ljava/lang/String;"⟩ : MethodName) method_2_code 3 (some (.object "java/lang/String")) :: ws) ({ frames := 3, cells := 6, slots := 12, locals := 43 } : Room)) (fun a U => a = #[(.int xl), (.int xc), (.int yc)] ∧ Z.Warmed39 U.vm ∧ U.heap = h0 ∧ CHv Z consts_1 U.vm h0 ∧ ∀ x ∈ ([] : List Addr), Safe Z consts_1 U.vm h0 x) (fun _ _ _ _ _ => True) (fun _ U o U' => ∃ v L, o = .returned v ∧ Q_mk0 Z xl xc yc  h0 n0 v U'.heap L ∧ CHr Z consts_1 U.vm U.heap U'.vm U'.heap ∧ ReturnedEndW U o U' L ({ frames := 3, cells := 6, slots := 12, locals := 43 } : Room).cells ({ frames := 3, cells := 6, slots := 12, locals := 43 } : Room).slots) := by
  refine MetFree.of_bodySF pf_mk0 hisR ?_
  intro p e s m args below meth c s₁ Bd hml0 hP hK
  obtain ⟨rfl, hZ, hh, hC, hSf⟩ := hP
  have hEL : EW Z a0 consts_1 := own_EW hw
  have ch0 : CHr Z consts_1 s.vm h0 s.vm h0 := CHr.refl hC
  have hx := Bd.exec
  have hby := Bd.bytes
  have hml : c.maxLocals = 3 := hml0
  have hown : s.vm.findClass "com/example/forager/forager/RoadNamePinLaw" = some m.cls := findClass_of_methodNamed Bd.named
  have hnm := (name_of_methodNamed Bd.named Bd.method).1
  have X0 : Stand p l e ({ frames := 3, cells := 6, slots := 12, locals := 43 } : Room) s m #[(.int xl), (.int xc), (.int yc)] below meth c s₁ [] 0 0 := Stand.of_body Bd
  have e0 : s₁.heap = h0 := by rw [← hh, Bd.state]; rfl
  have N0 := Fr.nil n0
  obtain ⟨S0, hS0⟩ : ∃ z, z = s₁.setTop (entryFrame m #[(.int xl), (.int xc), (.int yc)] 3) := ⟨_, rfl⟩
  rw [← hS0]
  have g0 : Goes p e below S0 (s₁.setTop (mkF m 0 #[iv xl, iv xc, iv yc] [])) := fun t k => by rw [hS0]; exact castTop (ef_mk0 m xl xc yc) k
  obtain rfl : xl = (0 : Int32) := q3
  have g160 : Goes p e below S0 (s₁.setTop (mkF m 4 #[iv (0 : Int32), iv xc, iv yc] [])) := fun t k => g0 t (by
    refine XS.iloadN X0.here hx rfl (hb hby d0_0) rfl ?_
    show Go p e below t s₁ m 1 #[iv (0 : Int32), iv xc, iv yc] [(.int (0 : Int32))]
    refine XS.ifNo X0.here hx rfl (hb hby d0_1) rfl (XT.i0_ne_f (by decide)) ?_
    show Go p e below t s₁ m 4 #[iv (0 : Int32), iv xc, iv yc] []
    exact k)
  obtain ⟨T161, h161, X161, e161, E161, A161, D161, -, st161⟩ := newO X0 hx hZ hown (hw _ (List.mem_of_getElem? (i := 4) rfl)) (hw _ (List.mem_of_getElem? (i := 5) rfl)) (hw _ (List.mem_of_getElem? (i := 6) rfl)) e0 (g := (mkF m 4 #[iv (0 : Int32), iv xc, iv yc] [])) rfl (hb hby d0_4) (by decide) (by decide)
  obtain ⟨b161, gb161⟩ : ∃ z, z = h0.size := ⟨_, rfl⟩
  have sz161 : h0.size ≤ b161 := Nat.le_trans (Nat.le_refl _) (Nat.le_of_eq gb161.symm)
  have ng161 : n0 ≤ b161 := Nat.le_trans Z0 sz161
  rw [← gb161] at A161 D161 st161
  have F161_162 : Fld Z h161 b161 "java/lang/String" "value" "[B" .null := D161 (Or.inr (hw _ (List.mem_of_getElem? (i := 20) rfl))) (ty := (.array .byte)) (by decide)
  have F161_163 : Fld Z h161 b161 "java/lang/String" "coder" "B" (.int (0 : Int32)) := D161 (Or.inr (hw _ (List.mem_of_getElem? (i := 21) rfl))) (ty := .byte) (by decide)
  have g164 : Goes p e below S0 (T161.setTop (mkF m 7 #[iv (0 : Int32), iv xc, iv yc] [(.ref b161)])) := fun t k => g160 t (st161 t k)
  have g165 : Goes p e below S0 (T161.setTop (mkF m 9 #[iv (0 : Int32), iv xc, iv yc] [(.int (0 : Int32)), (.ref b161), (.ref b161)])) := fun t k => g164 t (by
    refine XS.dup X161.here hx rfl (hb hby d0_7) rfl rfl ?_
    show Go p e below t T161 m 8 #[iv (0 : Int32), iv xc, iv yc] [(.ref b161), (.ref b161)]
    refine XT.iconstV X161.here hx rfl (0 : Int32) (hb hby d0_8) (by decide) ?_
    show Go p e below t T161 m 9 #[iv (0 : Int32), iv xc, iv yc] [(.int (0 : Int32)), (.ref b161), (.ref b161)]
    exact k)
  obtain ⟨T166, h166, k166, X166, e166, E166, A166, st166⟩ := newP X161 hx hZ (hw _ (List.mem_of_getElem? (i := 7) rfl)) e161 (g := (mkF m 9 #[iv (0 : Int32), iv xc, iv yc] [(.int (0 : Int32)), (.ref b161), (.ref b161)])) rfl (hb hby d0_9) rfl (by decide) (cap := 0) (by decide) (by decide) (by decide) (by decide)
  obtain ⟨b166, gb166⟩ : ∃ z, z = h161.size := ⟨_, rfl⟩
  have sz166 : h0.size ≤ b166 := Nat.le_trans (Nat.le_trans (Nat.le_refl _) E161.1) (Nat.le_of_eq gb166.symm)
  have ng166 : n0 ≤ b166 := Nat.le_trans Z0 sz166
  rw [← gb166] at A166 st166
  have V166 : Arv Z h166 b166 k166 .char (0 : Int32) [] (.int (0 : Int32)) := (Arv.new A166 (by decide)).pad (pad_rep [] (.int (0 : Int32)) 0)
  have g167 : Goes p e below S0 (T166.setTop (mkF m 11 #[iv (0 : Int32), iv xc, iv yc] [(.ref b166), (.ref b161), (.ref b161)])) := fun t k => g165 t (st166 t k)
  have ch169 := ch0.trans (CHr.ext E161 ch0.1)
  have ch170 := ch169.trans (CHr.ext E166 ch169.1)
  obtain ⟨_, _, ⟨T168, L168, k168, n168⟩, -, X168, sn168, gr168, ⟨Lc168, hQ168, l168, y168, z168, cr168⟩, st168⟩ := X166.specialBackS hx (y := (⟨"java/lang/String", "<init>", "([C)V"⟩ : MethodName)) rfl hown (mvT hZ (hw _ (List.mem_of_getElem? (i := 8) rfl))) (mvT hZ (hw _ (List.mem_of_getElem? (i := 9) rfl))) (mvT hZ (hw _ (List.mem_of_getElem? (i := 10) rfl))) (by decide) (own_backH (s := s) (vm0 := s.vm) (W := 1) (rm_inb0 l Z a0 hw [] b161 b166 k166 h166 n0 (Nat.le_trans Z0 (Nat.le_trans (Nat.le_trans (Nat.le_refl _) E161.1) E166.1)) (A161.ext E166) (F161_162.ext E166) (F161_163.ext E166) ng161 V166) hZ (hw _ (List.mem_of_getElem? (i := 10) rfl)) (hw _ (List.mem_of_getElem? (i := 6) rfl)) (by decide) (by decide) hEL ch170.1 (allS ⟨(A161.ext E166).lt, (Safe.ext E166 ch169.1 (Safe.ext E161 ch0.1 (Safe.new (Nat.le_of_eq gb161.symm))))⟩ all0)) (g := (mkF m 11 #[iv (0 : Int32), iv xc, iv yc] [(.ref b166), (.ref b161), (.ref b161)])) rfl (by rw [hml]; rfl) (Steps.refl _) (a := b161) (argsL := [(.ref b166)]) (rest := [(.ref b161)]) (lenOf pd6 rfl) rfl (by show 2 * 0 + _ ≤ _; exact Nat.le_of_eq rfl) (hb hby d0_11) (fun _ _ => ⟨rfl, e166, (by decide : 2 + 4 ≤ _), (by decide : 4 + 8 ≤ _)⟩)
  dsimp only [Pt.U, Pt.locs, Pt.cells, Pt.slots] at X168 sn168 gr168 l168 y168 z168 cr168 st168 hQ168
  subst l168 y168 z168
  obtain ⟨Y168, so168, hZ, hown⟩ := rebS (s := s) (vm0 := s.vm) ((State.WarmedH.refl s).since 0) (by rw [e166]; exact (Nat.le_trans (Nat.le_trans (Nat.zero_le _) E161.1) E166.1)) X168 sn168 gr168 hZ hown
  obtain ⟨tb_168, tk_168, rfl, N168, R168_0, R168_1, R168_2, R168_3, R168_4⟩ := hQ168
  have M168 := Fr.app N0 N168
  have g171 : Goes p e below S0 (T168.setTop (mkF m 14 #[iv (0 : Int32), iv xc, iv yc] [(.ref b161)])) := fun t k => g167 t (st168.trans k)
  have ch172 := ch170.trans cr168
  obtain ⟨fs, hr, hrun, hended, hE1, hE2, hE3, hE4⟩ := Stand.leaveW (s := s) (vm₁ := T168.vm) Y168 so168 (Nat.le_refl _) (v := some (.ref b161)) (fun h => by rw [Bd.returns] at h; cases h)
  refine ⟨_, _, g171 _ (retOut Y168 hx Bd.returns rfl (Or.inr (Or.inr (Or.inr (Or.inr ⟨rfl, rfl, rfl⟩)))) (hb hby d0_14) hr), hrun, hended, _, _, rfl, ?_, (by show CHr Z consts_1 s.vm s.heap T168.vm T168.heap; rw [hh]; exact ch172.trans (CHv.at (s := s) (vm0 := T168.vm) Y168 hZ hEL ch172.1)), hE1, hE2, hE3, hE4.mono (by decide) (by decide)⟩
  show Q_mk0 Z (0 : Int32) xc yc  h0 n0 _ T168.heap _
  exact ⟨b161, tb_168, tk_168, rfl, M168, ((((Keep.refl h0 []).ext E161).ext E166).trans R168_0 (allS (Or.inr sz161) all0)), sz161, R168_1, R168_2, R168_3, R168_4⟩
theorem d5_0 : decode jdk_30_method_1_code 0 = .ok (.aload_n 0, 1) := by decide +kernel
theorem d5_1 : decode jdk_30_method_1_code 1 = .ok (.invokespecial 1, 3) := by decide +kernel
theorem d5_4 : decode jdk_30_method_1_code 4 = .ok (.return_, 1) := by decide +kernel
theorem pd8 : parseMethodDescriptor "()V" = some ⟨[], none⟩ := by decide +kernel
theorem pf_rec : plainFor (⟨"java/lang/Record", "<init>", "()V"⟩ : MethodName) = true := by first | exact plainFor_of_name (by first | (simp [plainName, overriddenIn, x]; done) | decide +kernel) | exact Jvm.Free.JP.mathPlain rfl (by decide +kernel) | decide +kernel
theorem ef_rec (m : MethodId) (ra : Addr) : entryFrame m #[(.ref ra)] 1 = mkF m 0 #[rv ra] [] := by first | (simp [entryFrame, mkF, argsToLocals, Value.category, maxLocals]; done) | rfl
def Q_rec (Z : State) (ra : Addr)  (h0 : Heap) (n0 : Nat) (v : Option Value) (h : Heap) (L : List Loc) : Prop := v = none ∧ Fr n0 L ∧ h = h0
set_option maxRecDepth 65536 in
set_option maxHeartbeats 40000000 in
theorem rm_rec (l : Launch) (Z : State) (a0 : Array Value) (hw : ∀ d ∈ tables_1, d.before a0 Z = true) (ws : List Jvm.Cond) (ra : Addr)  (h0 : Heap) (n0 : Nat) (Z0 : n0 ≤ h0.size)   :
    MetFree l (⟨"java/lang/Record", "<init>", "()V"⟩ : MethodName) (head1 (Jvm.Cond.code (⟨"java/lang/Record", "<init>", "()V"⟩ : MethodName) jdk_30_method_1_code 1 none :: ws) ({ frames := 1, cells := 0, slots := 0, locals := 12 } : Room)) (fun a U => a = #[(.ref ra)] ∧ Z.Warmed39 U.vm ∧ U.heap = h0) (fun _ _ _ _ _ => True) (fun _ U o U' => ∃ v L, o = .returned v ∧ Q_rec Z ra  h0 n0 v U'.heap L ∧ FrameEnd U o U' L ({ frames := 1, cells := 0, slots := 0, locals := 12 } : Room).cells ({ frames := 1, cells := 0, slots := 0, locals := 12 } : Room).slots) := by
  refine MetFree.of_bodySF pf_rec hisR ?_
  intro p e s m args below meth c s₁ Bd hml0 hP hK
  obtain ⟨rfl, hZ, hh⟩ := hP
  have hx := Bd.exec
  have hby := Bd.bytes
  have hml : c.maxLocals = 1 := hml0
  have hown : s.vm.findClass "java/lang/Record" = some m.cls := findClass_of_methodNamed Bd.named
  have hnm := (name_of_methodNamed Bd.named Bd.method).1
  have X0 : Stand p l e ({ frames := 1, cells := 0, slots := 0, locals := 12 } : Room) s m #[(.ref ra)] below meth c s₁ [] 0 0 := Stand.of_body Bd
  have e0 : s₁.heap = h0 := by rw [← hh, Bd.state]; rfl
  have N0 := Fr.nil n0
  obtain ⟨S0, hS0⟩ : ∃ z, z = s₁.setTop (entryFrame m #[(.ref ra)] 1) := ⟨_, rfl⟩
  rw [← hS0]
  have g0 : Goes p e below S0 (s₁.setTop (mkF m 0 #[rv ra] [])) := fun t k => by rw [hS0]; exact castTop (ef_rec m ra) k
  have g173 : Goes p e below S0 (s₁.setTop (mkF m 1 #[rv ra] [(.ref ra)])) := fun t k => g0 t (by
    refine XS.aloadN X0.here hx rfl (hb hby d5_0) rfl rfl ?_
    show Go p e below t s₁ m 1 #[rv ra] [(.ref ra)]
    exact k)
  obtain ⟨T174, X174, e174, st174⟩ := initO X0 hx hZ hown (hw _ (List.mem_of_getElem? (i := 37) rfl)) (hw _ (List.mem_of_getElem? (i := 16) rfl)) (hw _ (List.mem_of_getElem? (i := 17) rfl)) e0 (g := (mkF m 1 #[rv ra] [(.ref ra)])) rfl (by rw [hml]; rfl) rfl (hb hby d5_1) (by decide) (W := 0) (by show 2 * 0 + _ ≤ _; exact Nat.le_of_eq rfl) (by decide)
  have g175 : Goes p e below S0 (T174.setTop (mkF m 4 #[rv ra] [])) := fun t k => g173 t (st174 t k)
  obtain ⟨fs, hr, hrun, hended, hW, hsame⟩ := X174.leave (v := none) (fun _ => rfl)
  refine ⟨_, _, g175 _ (X174.returnOut hx Bd.returns (hb hby d5_4) hr), hrun, hended, _, _, rfl, ?_, ⟨_, rfl⟩, hW, hsame.mono (by decide) (by decide)⟩
  show Q_rec Z ra  h0 n0 _ T174.heap _
  rw [e174]
  exact ⟨rfl, N0, rfl⟩
theorem d4_0 : decode prog_30_method_1_code 0 = .ok (.aload_n 0, 1) := by decide +kernel
theorem d4_1 : decode prog_30_method_1_code 1 = .ok (.invokespecial 1, 3) := by decide +kernel
theorem d4_4 : decode prog_30_method_1_code 4 = .ok (.aload_n 0, 1) := by decide +kernel
theorem d4_5 : decode prog_30_method_1_code 5 = .ok (.aload_n 1, 1) := by decide +kernel
theorem d4_6 : decode prog_30_method_1_code 6 = .ok (.putfield 7, 3) := by decide +kernel
theorem d4_9 : decode prog_30_method_1_code 9 = .ok (.aload_n 0, 1) := by decide +kernel
theorem d4_10 : decode prog_30_method_1_code 10 = .ok (.aload_n 2, 1) := by decide +kernel
theorem d4_11 : decode prog_30_method_1_code 11 = .ok (.putfield 13, 3) := by decide +kernel
theorem d4_14 : decode prog_30_method_1_code 14 = .ok (.aload_n 0, 1) := by decide +kernel
theorem d4_15 : decode prog_30_method_1_code 15 = .ok (.dload_n 3, 1) := by decide +kernel
theorem d4_16 : decode prog_30_method_1_code 16 = .ok (.putfield 16, 3) := by decide +kernel
theorem d4_19 : decode prog_30_method_1_code 19 = .ok (.return_, 1) := by decide +kernel
theorem pd9 : parseMethodDescriptor "(Ljava/lang/String;Ljava/lang/String;D)V" = some ⟨[(.object "java/lang/String"), (.object "java/lang/String"), .double], none⟩ := by decide +kernel
theorem pf_ri : plainFor (⟨"com/example/forager/forager/Road", "<init>", "(Ljava/lang/String;Ljava/lang/String;D)V"⟩ : MethodName) = true := by first | exact plainFor_of_name (by first | (simp [plainName, overriddenIn, x]; done) | decide +kernel) | exact Jvm.Free.JP.mathPlain rfl (by decide +kernel) | decide +kernel
theorem ef_ri (m : MethodId) (ra : Addr) (sfa : Addr) (sta : Addr) (rd : UInt64) : entryFrame m #[(.ref ra), (.ref sfa), (.ref sta), (.double rd)] 5 = mkF m 0 #[rv ra, rv sfa, rv sta, .val (.double rd), .second] [] := by first | (simp [entryFrame, mkF, argsToLocals, Value.category, maxLocals]; done) | rfl
def Q_ri (Z : State) (ra : Addr) (sfa : Addr) (sta : Addr) (rd : UInt64)  (h0 : Heap) (n0 : Nat) (v : Option Value) (h : Heap) (L : List Loc) : Prop := v = none ∧ Fr n0 L ∧ (Keep h0 h [ra]) ∧ (Exa Z h ra "com/example/forager/forager/Road") ∧ (Fld Z h ra "com/example/forager/forager/Road" "from" "Ljava/lang/String;" (.ref sfa)) ∧ (Fld Z h ra "com/example/forager/forager/Road" "to" "Ljava/lang/String;" (.ref sta))
set_option maxRecDepth 65536 in
set_option maxHeartbeats 40000000 in
theorem rm_ri (l : Launch) (Z : State) (a0 : Array Value) (hw : ∀ d ∈ tables_1, d.before a0 Z = true) (ws : List Jvm.Cond) (ra : Addr) (sfa : Addr) (sta : Addr) (rd : UInt64)  (h0 : Heap) (n0 : Nat) (Z0 : n0 ≤ h0.size) (P0 : Exa Z h0 ra "com/example/forager/forager/Road") (P1 : Fld Z h0 ra "com/example/forager/forager/Road" "from" "Ljava/lang/String;" .null) (P2 : Fld Z h0 ra "com/example/forager/forager/Road" "to" "Ljava/lang/String;" .null) (P3 : Fld Z h0 ra "com/example/forager/forager/Road" "length" "D" (.double (0 : UInt64))) (P4 : n0 ≤ ra)  :
    MetFree l (⟨"com/example/forager/forager/Road", "<init>", "(Ljava/lang/String;Ljava/lang/String;D)V"⟩ : MethodName) (head1 (Jvm.Cond.code (⟨"com/example/forager/forager/Road", "<init>", "(Ljava/lang/String;Ljava/lang/String;D)V"⟩ : MethodName) prog_30_method_1_code 5 none :: ws) ({ frames := 2, cells := 0, slots := 0, locals := 24 } : Room)) (fun a U => a = #[(.ref ra), (.ref sfa), (.ref sta), (.double rd)] ∧ Z.Warmed39 U.vm ∧ U.heap = h0) (fun _ _ _ _ _ => True) (fun _ U o U' => ∃ v L, o = .returned v ∧ Q_ri Z ra sfa sta rd  h0 n0 v U'.heap L ∧ FrameEnd U o U' L ({ frames := 2, cells := 0, slots := 0, locals := 24 } : Room).cells ({ frames := 2, cells := 0, slots := 0, locals := 24 } : Room).slots) := by
  refine MetFree.of_bodySF pf_ri hisR ?_
  intro p e s m args below meth c s₁ Bd hml0 hP hK
  obtain ⟨rfl, hZ, hh⟩ := hP
  have hx := Bd.exec
  have hby := Bd.bytes
  have hml : c.maxLocals = 5 := hml0
  have hown : s.vm.findClass "com/example/forager/forager/Road" = some m.cls := findClass_of_methodNamed Bd.named
  have hnm := (name_of_methodNamed Bd.named Bd.method).1
  have X0 : Stand p l e ({ frames := 2, cells := 0, slots := 0, locals := 24 } : Room) s m #[(.ref ra), (.ref sfa), (.ref sta), (.double rd)] below meth c s₁ [] 0 0 := Stand.of_body Bd
  have e0 : s₁.heap = h0 := by rw [← hh, Bd.state]; rfl
  have N0 := Fr.nil n0
  obtain ⟨S0, hS0⟩ : ∃ z, z = s₁.setTop (entryFrame m #[(.ref ra), (.ref sfa), (.ref sta), (.double rd)] 5) := ⟨_, rfl⟩
  rw [← hS0]
  have g0 : Goes p e below S0 (s₁.setTop (mkF m 0 #[rv ra, rv sfa, rv sta, .val (.double rd), .second] [])) := fun t k => by rw [hS0]; exact castTop (ef_ri m ra sfa sta rd) k
  have g176 : Goes p e below S0 (s₁.setTop (mkF m 1 #[rv ra, rv sfa, rv sta, .val (.double rd), .second] [(.ref ra)])) := fun t k => g0 t (by
    refine XS.aloadN X0.here hx rfl (hb hby d4_0) rfl rfl ?_
    show Go p e below t s₁ m 1 #[rv ra, rv sfa, rv sta, .val (.double rd), .second] [(.ref ra)]
    exact k)
  obtain ⟨_, _, ⟨T177, L177, k177, n177⟩, -, X177, ⟨Lc177, hQ177, l177, y177, z177⟩, st177⟩ := X0.specialBack hx (y := (⟨"java/lang/Record", "<init>", "()V"⟩ : MethodName)) rfl hown (mvT hZ (hw _ (List.mem_of_getElem? (i := 32) rfl))) (mvT hZ (hw _ (List.mem_of_getElem? (i := 33) rfl))) (mvT hZ (hw _ (List.mem_of_getElem? (i := 36) rfl))) (by decide) (backOf (W := 0) (rm_rec l Z a0 hw [] ra  h0 n0 Z0 ) hZ (hw _ (List.mem_of_getElem? (i := 36) rfl)) (hw _ (List.mem_of_getElem? (i := 35) rfl)) (by decide) (by decide)) (g := (mkF m 1 #[rv ra, rv sfa, rv sta, .val (.double rd), .second] [(.ref ra)])) rfl (by rw [hml]; rfl) (Steps.refl _) (a := ra) (argsL := []) (rest := []) (lenOf pd8 rfl) rfl (by show 2 * 0 + _ ≤ _; exact Nat.le_of_eq rfl) (hb hby d4_1) (fun _ _ => ⟨rfl, e0, (by decide : 0 + 0 ≤ _), (by decide : 0 + 0 ≤ _)⟩)
  dsimp only [Pt.U, Pt.locs, Pt.cells, Pt.slots] at X177 l177 y177 z177 st177 hQ177
  subst l177 y177 z177
  obtain ⟨rfl, N177, R177_0⟩ := hQ177
  have M177 := Fr.app N0 N177
  have g178 : Goes p e below S0 (T177.setTop (mkF m 4 #[rv ra, rv sfa, rv sta, .val (.double rd), .second] [])) := fun t k => g176 t (st177.trans k)
  have g179 : Goes p e below S0 (T177.setTop (mkF m 6 #[rv ra, rv sfa, rv sta, .val (.double rd), .second] [(.ref sfa), (.ref ra)])) := fun t k => g178 t (by
    refine XS.aloadN X177.here hx rfl (hb hby d4_4) rfl rfl ?_
    show Go p e below t T177 m 5 #[rv ra, rv sfa, rv sta, .val (.double rd), .second] [(.ref ra)]
    refine XS.aloadN X177.here hx rfl (hb hby d4_5) rfl rfl ?_
    show Go p e below t T177 m 6 #[rv ra, rv sfa, rv sta, .val (.double rd), .second] [(.ref sfa), (.ref ra)]
    exact k)
  obtain ⟨T180, h180, X180, e180, W180, st180⟩ := putF X177 hx hZ hown (host := "") (Or.inl (hw _ (List.mem_of_getElem? (i := 38) rfl))) Via.refl R177_0 P1 P0 (Or.inr ⟨(hw _ (List.mem_of_getElem? (i := 39) rfl)), rfl, hnm⟩) (hw _ (List.mem_of_getElem? (i := 27) rfl)) (ty := (.object "java/lang/String")) (by decide) rfl rfl (g := (mkF m 6 #[rv ra, rv sfa, rv sta, .val (.double rd), .second] [(.ref sfa), (.ref ra)])) rfl rfl (hb hby d4_6)
  have N180 := Fr.snoc X180 M177 P4
  have Fw180 := Fld.same W180 P1
  have g181 : Goes p e below S0 (T180.setTop (mkF m 9 #[rv ra, rv sfa, rv sta, .val (.double rd), .second] [])) := fun t k => g179 t (st180 t k)
  have g182 : Goes p e below S0 (T180.setTop (mkF m 11 #[rv ra, rv sfa, rv sta, .val (.double rd), .second] [(.ref sta), (.ref ra)])) := fun t k => g181 t (by
    refine XS.aloadN X180.here hx rfl (hb hby d4_9) rfl rfl ?_
    show Go p e below t T180 m 10 #[rv ra, rv sfa, rv sta, .val (.double rd), .second] [(.ref ra)]
    refine XS.aloadN X180.here hx rfl (hb hby d4_10) rfl rfl ?_
    show Go p e below t T180 m 11 #[rv ra, rv sfa, rv sta, .val (.double rd), .second] [(.ref sta), (.ref ra)]
    exact k)
  obtain ⟨T183, h183, X183, e183, W183, st183⟩ := putF X180 hx hZ hown (host := "") (Or.inl (hw _ (List.mem_of_getElem? (i := 40) rfl))) Via.refl e180 (P2.other W180 (Or.inr (slot_ne (Or.inr (hw _ (List.mem_of_getElem? (i := 41) rfl))) (Or.inr (hw _ (List.mem_of_getElem? (i := 39) rfl))) (by decide) (t := (.object "java/lang/String")) (t' := (.object "java/lang/String")) (by decide) (by decide)))) (P0.wr W180) (Or.inr ⟨(hw _ (List.mem_of_getElem? (i := 41) rfl)), rfl, hnm⟩) (hw _ (List.mem_of_getElem? (i := 27) rfl)) (ty := (.object "java/lang/String")) (by decide) rfl rfl (g := (mkF m 11 #[rv ra, rv sfa, rv sta, .val (.double rd), .second] [(.ref sta), (.ref ra)])) rfl rfl (hb hby d4_11)
  have N183 := Fr.snoc X183 N180 P4
  have Fw183 := Fld.same W183 (P2.other W180 (Or.inr (slot_ne (Or.inr (hw _ (List.mem_of_getElem? (i := 41) rfl))) (Or.inr (hw _ (List.mem_of_getElem? (i := 39) rfl))) (by decide) (t := (.object "java/lang/String")) (t' := (.object "java/lang/String")) (by decide) (by decide))))
  have g184 : Goes p e below S0 (T183.setTop (mkF m 14 #[rv ra, rv sfa, rv sta, .val (.double rd), .second] [])) := fun t k => g182 t (st183 t k)
  have g185 : Goes p e below S0 (T183.setTop (mkF m 16 #[rv ra, rv sfa, rv sta, .val (.double rd), .second] [(.double rd), (.ref ra)])) := fun t k => g184 t (by
    refine XS.aloadN X183.here hx rfl (hb hby d4_14) rfl rfl ?_
    show Go p e below t T183 m 15 #[rv ra, rv sfa, rv sta, .val (.double rd), .second] [(.ref ra)]
    refine XS.dloadN X183.here hx rfl (hb hby d4_15) rfl ?_
    show Go p e below t T183 m 16 #[rv ra, rv sfa, rv sta, .val (.double rd), .second] [(.double rd), (.ref ra)]
    exact k)
  obtain ⟨T186, h186, X186, e186, W186, st186⟩ := putF X183 hx hZ hown (host := "") (Or.inl (hw _ (List.mem_of_getElem? (i := 42) rfl))) Via.refl e183 ((P3.other W180 (Or.inr (slot_ne (Or.inr (hw _ (List.mem_of_getElem? (i := 43) rfl))) (Or.inr (hw _ (List.mem_of_getElem? (i := 39) rfl))) (by decide) (t := .double) (t' := (.object "java/lang/String")) (by decide) (by decide)))).other W183 (Or.inr (slot_ne (Or.inr (hw _ (List.mem_of_getElem? (i := 43) rfl))) (Or.inr (hw _ (List.mem_of_getElem? (i := 41) rfl))) (by decide) (t := .double) (t' := (.object "java/lang/String")) (by decide) (by decide)))) ((P0.wr W180).wr W183) (Or.inr ⟨(hw _ (List.mem_of_getElem? (i := 43) rfl)), rfl, hnm⟩) (hw _ (List.mem_of_getElem? (i := 27) rfl)) (ty := .double) (by decide) rfl rfl (g := (mkF m 16 #[rv ra, rv sfa, rv sta, .val (.double rd), .second] [(.double rd), (.ref ra)])) rfl rfl (hb hby d4_16)
  have N186 := Fr.snoc X186 N183 P4
  have Fw186 := Fld.same W186 ((P3.other W180 (Or.inr (slot_ne (Or.inr (hw _ (List.mem_of_getElem? (i := 43) rfl))) (Or.inr (hw _ (List.mem_of_getElem? (i := 39) rfl))) (by decide) (t := .double) (t' := (.object "java/lang/String")) (by decide) (by decide)))).other W183 (Or.inr (slot_ne (Or.inr (hw _ (List.mem_of_getElem? (i := 43) rfl))) (Or.inr (hw _ (List.mem_of_getElem? (i := 41) rfl))) (by decide) (t := .double) (t' := (.object "java/lang/String")) (by decide) (by decide))))
  have g187 : Goes p e below S0 (T186.setTop (mkF m 19 #[rv ra, rv sfa, rv sta, .val (.double rd), .second] [])) := fun t k => g185 t (st186 t k)
  obtain ⟨fs, hr, hrun, hended, hW, hsame⟩ := X186.leave (v := none) (fun _ => rfl)
  refine ⟨_, _, g187 _ (X186.returnOut hx Bd.returns (hb hby d4_19) hr), hrun, hended, _, _, rfl, ?_, ⟨_, rfl⟩, hW, hsame.mono (by decide) (by decide)⟩
  show Q_ri Z ra sfa sta rd  h0 n0 _ T186.heap _
  rw [e186]
  exact ⟨rfl, N186, ((((Keep.refl h0 [ra]).wr W180 (Or.inl (List.mem_of_getElem? (i := 0) rfl))).wr W183 (Or.inl (List.mem_of_getElem? (i := 0) rfl))).wr W186 (Or.inl (List.mem_of_getElem? (i := 0) rfl))), (((P0.wr W180).wr W183).wr W186), ((Fw180.other W183 (Or.inr (slot_ne (Or.inr (hw _ (List.mem_of_getElem? (i := 39) rfl))) (Or.inr (hw _ (List.mem_of_getElem? (i := 41) rfl))) (by decide) (t := (.object "java/lang/String")) (t' := (.object "java/lang/String")) (by decide) (by decide)))).other W186 (Or.inr (slot_ne (Or.inr (hw _ (List.mem_of_getElem? (i := 39) rfl))) (Or.inr (hw _ (List.mem_of_getElem? (i := 43) rfl))) (by decide) (t := (.object "java/lang/String")) (t' := .double) (by decide) (by decide)))), (Fw183.other W186 (Or.inr (slot_ne (Or.inr (hw _ (List.mem_of_getElem? (i := 41) rfl))) (Or.inr (hw _ (List.mem_of_getElem? (i := 43) rfl))) (by decide) (t := (.object "java/lang/String")) (t' := .double) (by decide) (by decide))))⟩
theorem d8_0 : decode jdk_68_method_2_code 0 = .ok (.aload_n 0, 1) := by decide +kernel
theorem d8_1 : decode jdk_68_method_2_code 1 = .ok (.invokespecial 3, 3) := by decide +kernel
theorem d8_4 : decode jdk_68_method_2_code 4 = .ok (.getstatic 18, 3) := by decide +kernel
theorem d8_7 : decode jdk_68_method_2_code 7 = .ok (.ifCond .eq 18, 3) := by decide +kernel
theorem d8_10 : decode jdk_68_method_2_code 10 = .ok (.aload_n 0, 1) := by decide +kernel
theorem d8_11 : decode jdk_68_method_2_code 11 = .ok (.iload_n 1, 1) := by decide +kernel
theorem d8_12 : decode jdk_68_method_2_code 12 = .ok (.newarray .byte, 2) := by decide +kernel
theorem d8_14 : decode jdk_68_method_2_code 14 = .ok (.putfield 15, 3) := by decide +kernel
theorem d8_17 : decode jdk_68_method_2_code 17 = .ok (.aload_n 0, 1) := by decide +kernel
theorem d8_18 : decode jdk_68_method_2_code 18 = .ok (.iconst 0, 1) := by decide +kernel
theorem d8_19 : decode jdk_68_method_2_code 19 = .ok (.putfield 22, 3) := by decide +kernel
theorem d8_22 : decode jdk_68_method_2_code 22 = .ok (.goto 16, 3) := by decide +kernel
theorem d8_25 : decode jdk_68_method_2_code 25 = .ok (.aload_n 0, 1) := by decide +kernel
theorem d8_26 : decode jdk_68_method_2_code 26 = .ok (.iload_n 1, 1) := by decide +kernel
theorem d8_27 : decode jdk_68_method_2_code 27 = .ok (.invokestatic 26, 3) := by decide +kernel
theorem d8_30 : decode jdk_68_method_2_code 30 = .ok (.putfield 15, 3) := by decide +kernel
theorem d8_33 : decode jdk_68_method_2_code 33 = .ok (.aload_n 0, 1) := by decide +kernel
theorem d8_34 : decode jdk_68_method_2_code 34 = .ok (.iconst 1, 1) := by decide +kernel
theorem d8_35 : decode jdk_68_method_2_code 35 = .ok (.putfield 22, 3) := by decide +kernel
theorem d8_38 : decode jdk_68_method_2_code 38 = .ok (.return_, 1) := by decide +kernel
theorem pd10 : parseMethodDescriptor "(I)V" = some ⟨[.int], none⟩ := by decide +kernel
theorem pf_asi : plainFor (⟨"java/lang/AbstractStringBuilder", "<init>", "(I)V"⟩ : MethodName) = true := by first | exact plainFor_of_name (by first | (simp [plainName, overriddenIn, x]; done) | decide +kernel) | exact Jvm.Free.JP.mathPlain rfl (by decide +kernel) | decide +kernel
theorem ef_asi (m : MethodId) (aa : Addr) (xi : Int32) : entryFrame m #[(.ref aa), (.int xi)] 2 = mkF m 0 #[rv aa, iv xi] [] := by first | (simp [entryFrame, mkF, argsToLocals, Value.category, maxLocals]; done) | rfl
def Q_asi (Z : State) (aa : Addr) (xi : Int32) (cz : Int32) (h0 : Heap) (n0 : Nat) (v : Option Value) (h : Heap) (L : List Loc) : Prop := ∃ (ea : Addr) (ek : ClassId), v = none ∧ Fr n0 L ∧ (Keep h0 h [aa]) ∧ (h0.size ≤ ea) ∧ (Exa Z h aa "java/lang/StringBuilder") ∧ (Fld Z h aa "java/lang/AbstractStringBuilder" "value" "[B" (.ref ea)) ∧ (Fld Z h aa "java/lang/AbstractStringBuilder" "coder" "B" (.int (0 : Int32))) ∧ (Fld Z h aa "java/lang/AbstractStringBuilder" "count" "I" (.int (0 : Int32))) ∧ (Arv Z h ea ek .byte (16 : Int32) [(.int (0 : Int32)), (.int (0 : Int32)), (.int (0 : Int32)), (.int (0 : Int32)), (.int (0 : Int32)), (.int (0 : Int32)), (.int (0 : Int32)), (.int (0 : Int32)), (.int (0 : Int32)), (.int (0 : Int32)), (.int (0 : Int32)), (.int (0 : Int32)), (.int (0 : Int32)), (.int (0 : Int32)), (.int (0 : Int32)), (.int (0 : Int32))] (.int (0 : Int32)))
set_option maxRecDepth 65536 in
set_option maxHeartbeats 40000000 in
theorem rm_asi (l : Launch) (Z : State) (a0 : Array Value) (hw : ∀ d ∈ tables_1, d.before a0 Z = true) (ws : List Jvm.Cond) (aa : Addr) (xi : Int32) (cz : Int32) (h0 : Heap) (n0 : Nat) (Z0 : n0 ≤ h0.size) (P0 : Exa Z h0 aa "java/lang/StringBuilder") (P1 : Fld Z h0 aa "java/lang/AbstractStringBuilder" "value" "[B" .null) (P2 : Fld Z h0 aa "java/lang/AbstractStringBuilder" "coder" "B" (.int (0 : Int32))) (P3 : Fld Z h0 aa "java/lang/AbstractStringBuilder" "count" "I" (.int (0 : Int32))) (P4 : n0 ≤ aa) (P5 : Sta Z h0 "java/lang/String" "COMPACT_STRINGS" "Z" (.int cz)) (hz : ¬ cz = 0) (q1 : xi = (16 : Int32))  :
    MetFree l (⟨"java/lang/AbstractStringBuilder", "<init>", "(I)V"⟩ : MethodName) (head1 (Jvm.Cond.code (⟨"java/lang/AbstractStringBuilder", "<init>", "(I)V"⟩ : MethodName) jdk_68_method_2_code 2 none :: ws) ({ frames := 1, cells := 1, slots := 16, locals := 12 } : Room)) (fun a U => a = #[(.ref aa), (.int xi)] ∧ Z.Warmed39 U.vm ∧ U.heap = h0) (fun _ _ _ _ _ => True) (fun _ U o U' => ∃ v L, o = .returned v ∧ Q_asi Z aa xi cz h0 n0 v U'.heap L ∧ FrameEnd U o U' L ({ frames := 1, cells := 1, slots := 16, locals := 12 } : Room).cells ({ frames := 1, cells := 1, slots := 16, locals := 12 } : Room).slots) := by
  refine MetFree.of_bodySF pf_asi hisR ?_
  intro p e s m args below meth c s₁ Bd hml0 hP hK
  obtain ⟨rfl, hZ, hh⟩ := hP
  have hx := Bd.exec
  have hby := Bd.bytes
  have hml : c.maxLocals = 2 := hml0
  have hown : s.vm.findClass "java/lang/AbstractStringBuilder" = some m.cls := findClass_of_methodNamed Bd.named
  have hnm := (name_of_methodNamed Bd.named Bd.method).1
  have X0 : Stand p l e ({ frames := 1, cells := 1, slots := 16, locals := 12 } : Room) s m #[(.ref aa), (.int xi)] below meth c s₁ [] 0 0 := Stand.of_body Bd
  have e0 : s₁.heap = h0 := by rw [← hh, Bd.state]; rfl
  have N0 := Fr.nil n0
  obtain ⟨S0, hS0⟩ : ∃ z, z = s₁.setTop (entryFrame m #[(.ref aa), (.int xi)] 2) := ⟨_, rfl⟩
  rw [← hS0]
  have g0 : Goes p e below S0 (s₁.setTop (mkF m 0 #[rv aa, iv xi] [])) := fun t k => by rw [hS0]; exact castTop (ef_asi m aa xi) k
  obtain rfl : xi = (16 : Int32) := q1
  have g188 : Goes p e below S0 (s₁.setTop (mkF m 1 #[rv aa, iv (16 : Int32)] [(.ref aa)])) := fun t k => g0 t (by
    refine XS.aloadN X0.here hx rfl (hb hby d8_0) rfl rfl ?_
    show Go p e below t s₁ m 1 #[rv aa, iv (16 : Int32)] [(.ref aa)]
    exact k)
  obtain ⟨T189, X189, e189, st189⟩ := initO X0 hx hZ hown (hw _ (List.mem_of_getElem? (i := 61) rfl)) (hw _ (List.mem_of_getElem? (i := 16) rfl)) (hw _ (List.mem_of_getElem? (i := 17) rfl)) e0 (g := (mkF m 1 #[rv aa, iv (16 : Int32)] [(.ref aa)])) rfl (by rw [hml]; rfl) rfl (hb hby d8_1) (by decide) (W := 0) (by show 2 * 0 + _ ≤ _; exact Nat.le_of_eq rfl) (by decide)
  have g190 : Goes p e below S0 (T189.setTop (mkF m 4 #[rv aa, iv (16 : Int32)] [])) := fun t k => g188 t (st189 t k)
  obtain ⟨T191, X191, e191, st191⟩ := getS (host := "") X189 hx hZ hown (hw _ (List.mem_of_getElem? (i := 62) rfl)) Via.refl e189 P5 (g := (mkF m 4 #[rv aa, iv (16 : Int32)] [])) rfl (hb hby d8_4)
  have g192 : Goes p e below S0 (T191.setTop (mkF m 7 #[rv aa, iv (16 : Int32)] [(.int cz)])) := fun t k => g190 t (st191 t k)
  have g193 : Goes p e below S0 (T191.setTop (mkF m 12 #[rv aa, iv (16 : Int32)] [(.int (16 : Int32)), (.ref aa)])) := fun t k => g192 t (by
    refine XS.ifNo X191.here hx rfl (hb hby d8_7) rfl (XT.i0_eq_f hz) ?_
    show Go p e below t T191 m 10 #[rv aa, iv (16 : Int32)] []
    refine XS.aloadN X191.here hx rfl (hb hby d8_10) rfl rfl ?_
    show Go p e below t T191 m 11 #[rv aa, iv (16 : Int32)] [(.ref aa)]
    refine XS.iloadN X191.here hx rfl (hb hby d8_11) rfl ?_
    show Go p e below t T191 m 12 #[rv aa, iv (16 : Int32)] [(.int (16 : Int32)), (.ref aa)]
    exact k)
  obtain ⟨T194, h194, k194, X194, e194, E194, A194, st194⟩ := newP X191 hx hZ (hw _ (List.mem_of_getElem? (i := 19) rfl)) e191 (g := (mkF m 12 #[rv aa, iv (16 : Int32)] [(.int (16 : Int32)), (.ref aa)])) rfl (hb hby d8_12) rfl (by decide) (cap := 16) (by decide) (by decide) (by decide) (by decide)
  obtain ⟨b194, gb194⟩ : ∃ z, z = h0.size := ⟨_, rfl⟩
  have sz194 : h0.size ≤ b194 := Nat.le_trans (Nat.le_refl _) (Nat.le_of_eq gb194.symm)
  have ng194 : n0 ≤ b194 := Nat.le_trans Z0 sz194
  rw [← gb194] at A194 st194
  have V194 : Arv Z h194 b194 k194 .byte (16 : Int32) [(.int (0 : Int32)), (.int (0 : Int32)), (.int (0 : Int32)), (.int (0 : Int32)), (.int (0 : Int32)), (.int (0 : Int32)), (.int (0 : Int32)), (.int (0 : Int32)), (.int (0 : Int32)), (.int (0 : Int32)), (.int (0 : Int32)), (.int (0 : Int32)), (.int (0 : Int32)), (.int (0 : Int32)), (.int (0 : Int32)), (.int (0 : Int32))] (.int (0 : Int32)) := (Arv.new A194 (by decide)).pad (pad_rep [] (.int (0 : Int32)) 16)
  have g195 : Goes p e below S0 (T194.setTop (mkF m 14 #[rv aa, iv (16 : Int32)] [(.ref b194), (.ref aa)])) := fun t k => g193 t (st194 t k)
  obtain ⟨T196, h196, X196, e196, W196, st196⟩ := putF X194 hx hZ hown (host := "") (Or.inl (hw _ (List.mem_of_getElem? (i := 63) rfl))) Via.refl e194 (P1.ext E194) (P0.ext E194) (Or.inl (hw _ (List.mem_of_getElem? (i := 64) rfl))) (hw _ (List.mem_of_getElem? (i := 50) rfl)) (ty := (.array .byte)) (by decide) rfl rfl (g := (mkF m 14 #[rv aa, iv (16 : Int32)] [(.ref b194), (.ref aa)])) rfl rfl (hb hby d8_14)
  have N196 := Fr.snoc X196 N0 P4
  have Fw196 := Fld.same W196 (P1.ext E194)
  have g197 : Goes p e below S0 (T196.setTop (mkF m 17 #[rv aa, iv (16 : Int32)] [])) := fun t k => g195 t (st196 t k)
  have g198 : Goes p e below S0 (T196.setTop (mkF m 19 #[rv aa, iv (16 : Int32)] [(.int (0 : Int32)), (.ref aa)])) := fun t k => g197 t (by
    refine XS.aloadN X196.here hx rfl (hb hby d8_17) rfl rfl ?_
    show Go p e below t T196 m 18 #[rv aa, iv (16 : Int32)] [(.ref aa)]
    refine XT.iconstV X196.here hx rfl (0 : Int32) (hb hby d8_18) (by decide) ?_
    show Go p e below t T196 m 19 #[rv aa, iv (16 : Int32)] [(.int (0 : Int32)), (.ref aa)]
    exact k)
  obtain ⟨T199, h199, X199, e199, W199, st199⟩ := putFN X196 hx hZ hown (hw _ (List.mem_of_getElem? (i := 65) rfl)) Via.refl e196 ((P2.ext E194).other W196 (Or.inr (slot_ne (Or.inl (hw _ (List.mem_of_getElem? (i := 66) rfl))) (Or.inl (hw _ (List.mem_of_getElem? (i := 64) rfl))) (by decide) (t := .byte) (t' := (.array .byte)) (by decide) (by decide)))) ((P0.ext E194).wr W196) (Or.inl (hw _ (List.mem_of_getElem? (i := 66) rfl))) (hw _ (List.mem_of_getElem? (i := 50) rfl)) (ty := .byte) (v' := (.int (0 : Int32))) (by decide) (by decide) (by decide) (g := (mkF m 19 #[rv aa, iv (16 : Int32)] [(.int (0 : Int32)), (.ref aa)])) rfl rfl (hb hby d8_19)
  have N199 := Fr.snoc X199 N196 P4
  have Fw199 := Fld.same W199 ((P2.ext E194).other W196 (Or.inr (slot_ne (Or.inl (hw _ (List.mem_of_getElem? (i := 66) rfl))) (Or.inl (hw _ (List.mem_of_getElem? (i := 64) rfl))) (by decide) (t := .byte) (t' := (.array .byte)) (by decide) (by decide))))
  have g200 : Goes p e below S0 (T199.setTop (mkF m 22 #[rv aa, iv (16 : Int32)] [])) := fun t k => g198 t (st199 t k)
  have g201 : Goes p e below S0 (T199.setTop (mkF m 38 #[rv aa, iv (16 : Int32)] [])) := fun t k => g200 t (by
    refine XS.goto X199.here hx rfl (pc0 := 22) (pc' := 38) rfl (hb hby d8_22) (by decide) (by decide) ?_
    show Go p e below t T199 m 38 #[rv aa, iv (16 : Int32)] []
    exact k)
  obtain ⟨fs, hr, hrun, hended, hW, hsame⟩ := X199.leave (v := none) (fun _ => rfl)
  refine ⟨_, _, g201 _ (X199.returnOut hx Bd.returns (hb hby d8_38) hr), hrun, hended, _, _, rfl, ?_, ⟨_, rfl⟩, hW, hsame.mono (by decide) (by decide)⟩
  show Q_asi Z aa (16 : Int32) cz h0 n0 _ T199.heap _
  rw [e199]
  exact ⟨b194, k194, rfl, N199, ((((Keep.refl h0 [aa]).ext E194).wr W196 (Or.inl (List.mem_of_getElem? (i := 0) rfl))).wr W199 (Or.inl (List.mem_of_getElem? (i := 0) rfl))), sz194, (((P0.ext E194).wr W196).wr W199), (Fw196.other W199 (Or.inr (slot_ne (Or.inl (hw _ (List.mem_of_getElem? (i := 64) rfl))) (Or.inl (hw _ (List.mem_of_getElem? (i := 66) rfl))) (by decide) (t := (.array .byte)) (t' := .byte) (by decide) (by decide)))), Fw199, (((P3.ext E194).other W196 (Or.inr (slot_ne (Or.inl (hw _ (List.mem_of_getElem? (i := 89) rfl))) (Or.inl (hw _ (List.mem_of_getElem? (i := 64) rfl))) (by decide) (t := .int) (t' := (.array .byte)) (by decide) (by decide)))).other W199 (Or.inr (slot_ne (Or.inl (hw _ (List.mem_of_getElem? (i := 89) rfl))) (Or.inl (hw _ (List.mem_of_getElem? (i := 66) rfl))) (by decide) (t := .int) (t' := .byte) (by decide) (by decide)))), ((V194.other W196 (Ne.symm (Nat.ne_of_lt (Nat.lt_of_lt_of_le P0.lt (Nat.le_of_eq gb194.symm))))).other W199 (Ne.symm (Nat.ne_of_lt (Nat.lt_of_lt_of_le P0.lt (Nat.le_of_eq gb194.symm)))))⟩
theorem d7_0 : decode jdk_67_method_1_code 0 = .ok (.aload_n 0, 1) := by decide +kernel
theorem d7_1 : decode jdk_67_method_1_code 1 = .ok (.bipush 16, 2) := by decide +kernel
theorem d7_3 : decode jdk_67_method_1_code 3 = .ok (.invokespecial 1, 3) := by decide +kernel
theorem d7_6 : decode jdk_67_method_1_code 6 = .ok (.return_, 1) := by decide +kernel
theorem pf_sbi : plainFor (⟨"java/lang/StringBuilder", "<init>", "()V"⟩ : MethodName) = true := by first | exact plainFor_of_name (by first | (simp [plainName, overriddenIn, x]; done) | decide +kernel) | exact Jvm.Free.JP.mathPlain rfl (by decide +kernel) | decide +kernel
theorem ef_sbi (m : MethodId) (aa : Addr) : entryFrame m #[(.ref aa)] 1 = mkF m 0 #[rv aa] [] := by first | (simp [entryFrame, mkF, argsToLocals, Value.category, maxLocals]; done) | rfl
def Q_sbi (Z : State) (aa : Addr) (cz : Int32) (h0 : Heap) (n0 : Nat) (v : Option Value) (h : Heap) (L : List Loc) : Prop := ∃ (ea : Addr) (ek : ClassId), v = none ∧ Fr n0 L ∧ (Keep h0 h [aa]) ∧ (h0.size ≤ ea) ∧ (Exa Z h aa "java/lang/StringBuilder") ∧ (Fld Z h aa "java/lang/AbstractStringBuilder" "value" "[B" (.ref ea)) ∧ (Fld Z h aa "java/lang/AbstractStringBuilder" "coder" "B" (.int (0 : Int32))) ∧ (Fld Z h aa "java/lang/AbstractStringBuilder" "count" "I" (.int (0 : Int32))) ∧ (Arv Z h ea ek .byte (16 : Int32) [(.int (0 : Int32)), (.int (0 : Int32)), (.int (0 : Int32)), (.int (0 : Int32)), (.int (0 : Int32)), (.int (0 : Int32)), (.int (0 : Int32)), (.int (0 : Int32)), (.int (0 : Int32)), (.int (0 : Int32)), (.int (0 : Int32)), (.int (0 : Int32)), (.int (0 : Int32)), (.int (0 : Int32)), (.int (0 : Int32)), (.int (0 : Int32))] (.int (0 : Int32)))
set_option maxRecDepth 65536 in
set_option maxHeartbeats 40000000 in
theorem rm_sbi (l : Launch) (Z : State) (a0 : Array Value) (hw : ∀ d ∈ tables_1, d.before a0 Z = true) (ws : List Jvm.Cond) (aa : Addr) (cz : Int32) (h0 : Heap) (n0 : Nat) (Z0 : n0 ≤ h0.size) (P0 : Exa Z h0 aa "java/lang/StringBuilder") (P1 : Fld Z h0 aa "java/lang/AbstractStringBuilder" "value" "[B" .null) (P2 : Fld Z h0 aa "java/lang/AbstractStringBuilder" "coder" "B" (.int (0 : Int32))) (P3 : Fld Z h0 aa "java/lang/AbstractStringBuilder" "count" "I" (.int (0 : Int32))) (P4 : n0 ≤ aa) (P5 : Sta Z h0 "java/lang/String" "COMPACT_STRINGS" "Z" (.int cz)) (hz : ¬ cz = 0)  :
    MetFree l (⟨"java/lang/StringBuilder", "<init>", "()V"⟩ : MethodName) (head1 (Jvm.Cond.code (⟨"java/lang/StringBuilder", "<init>", "()V"⟩ : MethodName) jdk_67_method_1_code 1 none :: ws) ({ frames := 2, cells := 1, slots := 16, locals := 25 } : Room)) (fun a U => a = #[(.ref aa)] ∧ Z.Warmed39 U.vm ∧ U.heap = h0) (fun _ _ _ _ _ => True) (fun _ U o U' => ∃ v L, o = .returned v ∧ Q_sbi Z aa cz h0 n0 v U'.heap L ∧ FrameEnd U o U' L ({ frames := 2, cells := 1, slots := 16, locals := 25 } : Room).cells ({ frames := 2, cells := 1, slots := 16, locals := 25 } : Room).slots) := by
  refine MetFree.of_bodySF pf_sbi hisR ?_
  intro p e s m args below meth c s₁ Bd hml0 hP hK
  obtain ⟨rfl, hZ, hh⟩ := hP
  have hx := Bd.exec
  have hby := Bd.bytes
  have hml : c.maxLocals = 1 := hml0
  have hown : s.vm.findClass "java/lang/StringBuilder" = some m.cls := findClass_of_methodNamed Bd.named
  have hnm := (name_of_methodNamed Bd.named Bd.method).1
  have X0 : Stand p l e ({ frames := 2, cells := 1, slots := 16, locals := 25 } : Room) s m #[(.ref aa)] below meth c s₁ [] 0 0 := Stand.of_body Bd
  have e0 : s₁.heap = h0 := by rw [← hh, Bd.state]; rfl
  have N0 := Fr.nil n0
  obtain ⟨S0, hS0⟩ : ∃ z, z = s₁.setTop (entryFrame m #[(.ref aa)] 1) := ⟨_, rfl⟩
  rw [← hS0]
  have g0 : Goes p e below S0 (s₁.setTop (mkF m 0 #[rv aa] [])) := fun t k => by rw [hS0]; exact castTop (ef_sbi m aa) k
  have g202 : Goes p e below S0 (s₁.setTop (mkF m 3 #[rv aa] [(.int (16 : Int32)), (.ref aa)])) := fun t k => g0 t (by
    refine XS.aloadN X0.here hx rfl (hb hby d7_0) rfl rfl ?_
    show Go p e below t s₁ m 1 #[rv aa] [(.ref aa)]
    refine XT.bipushV X0.here hx rfl (16 : Int32) (hb hby d7_1) (by decide) ?_
    show Go p e below t s₁ m 3 #[rv aa] [(.int (16 : Int32)), (.ref aa)]
    exact k)
  obtain ⟨_, _, ⟨T203, L203, k203, n203⟩, -, X203, ⟨Lc203, hQ203, l203, y203, z203⟩, st203⟩ := X0.specialBack hx (y := (⟨"java/lang/AbstractStringBuilder", "<init>", "(I)V"⟩ : MethodName)) rfl hown (mvT hZ (hw _ (List.mem_of_getElem? (i := 55) rfl))) (mvT hZ (hw _ (List.mem_of_getElem? (i := 56) rfl))) (mvT hZ (hw _ (List.mem_of_getElem? (i := 60) rfl))) (by decide) (backOf (W := 0) (rm_asi l Z a0 hw [] aa (16 : Int32) cz h0 n0 Z0 P0 P1 P2 P3 P4 P5 hz rfl) hZ (hw _ (List.mem_of_getElem? (i := 60) rfl)) (hw _ (List.mem_of_getElem? (i := 59) rfl)) (by decide) (by decide)) (g := (mkF m 3 #[rv aa] [(.int (16 : Int32)), (.ref aa)])) rfl (by rw [hml]; rfl) (Steps.refl _) (a := aa) (argsL := [(.int (16 : Int32))]) (rest := []) (lenOf pd10 rfl) rfl (by show 2 * 0 + _ ≤ _; exact Nat.le_of_eq rfl) (hb hby d7_3) (fun _ _ => ⟨rfl, e0, (by decide : 0 + 1 ≤ _), (by decide : 0 + 16 ≤ _)⟩)
  dsimp only [Pt.U, Pt.locs, Pt.cells, Pt.slots] at X203 l203 y203 z203 st203 hQ203
  subst l203 y203 z203
  obtain ⟨ea_203, ek_203, rfl, N203, R203_0, R203_1, R203_2, R203_3, R203_4, R203_5, R203_6⟩ := hQ203
  have M203 := Fr.app N0 N203
  have sz203_1 : h0.size ≤ ea_203 := Nat.le_trans (Nat.le_refl _) R203_1
  have ng203_1 : n0 ≤ ea_203 := Nat.le_trans Z0 sz203_1
  have g204 : Goes p e below S0 (T203.setTop (mkF m 6 #[rv aa] [])) := fun t k => g202 t (st203.trans k)
  obtain ⟨fs, hr, hrun, hended, hW, hsame⟩ := X203.leave (v := none) (fun _ => rfl)
  refine ⟨_, _, g204 _ (X203.returnOut hx Bd.returns (hb hby d7_6) hr), hrun, hended, _, _, rfl, ?_, ⟨_, rfl⟩, hW, hsame.mono (by decide) (by decide)⟩
  show Q_sbi Z aa cz h0 n0 _ T203.heap _
  exact ⟨ea_203, ek_203, rfl, M203, ((Keep.refl h0 [aa]).trans R203_0 (allS (Or.inl (List.mem_of_getElem? (i := 0) rfl)) all0)), sz203_1, R203_2, R203_3, R203_4, R203_5, R203_6⟩
theorem d13_0 : decode jdk_68_method_9_code 0 = .ok (.aload_n 0, 1) := by decide +kernel
theorem d13_1 : decode jdk_68_method_9_code 1 = .ok (.getfield 15, 3) := by decide +kernel
theorem d13_4 : decode jdk_68_method_9_code 4 = .ok (.arraylength, 1) := by decide +kernel
theorem d13_5 : decode jdk_68_method_9_code 5 = .ok (.aload_n 0, 1) := by decide +kernel
theorem d13_6 : decode jdk_68_method_9_code 6 = .ok (.getfield 22, 3) := by decide +kernel
theorem d13_9 : decode jdk_68_method_9_code 9 = .ok (.ishr, 1) := by decide +kernel
theorem d13_10 : decode jdk_68_method_9_code 10 = .ok (.istore_n 2, 1) := by decide +kernel
theorem d13_11 : decode jdk_68_method_9_code 11 = .ok (.iload_n 1, 1) := by decide +kernel
theorem d13_12 : decode jdk_68_method_9_code 12 = .ok (.iload_n 2, 1) := by decide +kernel
theorem d13_13 : decode jdk_68_method_9_code 13 = .ok (.isub, 1) := by decide +kernel
theorem d13_14 : decode jdk_68_method_9_code 14 = .ok (.ifCond .le 24, 3) := by decide +kernel
theorem d13_17 : decode jdk_68_method_9_code 17 = .ok (.aload_n 0, 1) := by decide +kernel
theorem d13_18 : decode jdk_68_method_9_code 18 = .ok (.aload_n 0, 1) := by decide +kernel
theorem d13_19 : decode jdk_68_method_9_code 19 = .ok (.getfield 15, 3) := by decide +kernel
theorem d13_22 : decode jdk_68_method_9_code 22 = .ok (.aload_n 0, 1) := by decide +kernel
theorem d13_23 : decode jdk_68_method_9_code 23 = .ok (.iload_n 1, 1) := by decide +kernel
theorem d13_24 : decode jdk_68_method_9_code 24 = .ok (.invokevirtual 104, 3) := by decide +kernel
theorem d13_27 : decode jdk_68_method_9_code 27 = .ok (.aload_n 0, 1) := by decide +kernel
theorem d13_28 : decode jdk_68_method_9_code 28 = .ok (.getfield 22, 3) := by decide +kernel
theorem d13_31 : decode jdk_68_method_9_code 31 = .ok (.ishl, 1) := by decide +kernel
theorem d13_32 : decode jdk_68_method_9_code 32 = .ok (.invokestatic 108, 3) := by decide +kernel
theorem d13_35 : decode jdk_68_method_9_code 35 = .ok (.putfield 15, 3) := by decide +kernel
theorem d13_38 : decode jdk_68_method_9_code 38 = .ok (.return_, 1) := by decide +kernel
theorem pf_ens : plainFor (⟨"java/lang/AbstractStringBuilder", "ensureCapacityInternal", "(I)V"⟩ : MethodName) = true := by first | exact plainFor_of_name (by first | (simp [plainName, overriddenIn, x]; done) | decide +kernel) | exact Jvm.Free.JP.mathPlain rfl (by decide +kernel) | decide +kernel
theorem ef_ens (m : MethodId) (aa : Addr) (xm : Int32) : entryFrame m #[(.ref aa), (.int xm)] 3 = mkF m 0 #[rv aa, iv xm, .unset] [] := by first | (simp [entryFrame, mkF, argsToLocals, Value.category, maxLocals]; done) | rfl
def Q_ens (Z : State) (aa : Addr) (xm : Int32) (ea : Addr) (ek : ClassId) (vs : List Value) (h0 : Heap) (n0 : Nat) (v : Option Value) (h : Heap) (L : List Loc) : Prop := v = none ∧ Fr n0 L ∧ h = h0
set_option maxRecDepth 65536 in
set_option maxHeartbeats 40000000 in
theorem rm_ens (l : Launch) (Z : State) (a0 : Array Value) (hw : ∀ d ∈ tables_1, d.before a0 Z = true) (ws : List Jvm.Cond) (aa : Addr) (xm : Int32) (ea : Addr) (ek : ClassId) (vs : List Value) (h0 : Heap) (n0 : Nat) (Z0 : n0 ≤ h0.size) (P0 : Fld Z h0 aa "java/lang/AbstractStringBuilder" "value" "[B" (.ref ea)) (P1 : Fld Z h0 aa "java/lang/AbstractStringBuilder" "coder" "B" (.int (0 : Int32))) (P2 : Arv Z h0 ea ek .byte (16 : Int32) vs (.int (0 : Int32))) (hm : ¬ (0 < (xm - (16 : Int32))))  :
    MetFree l (⟨"java/lang/AbstractStringBuilder", "ensureCapacityInternal", "(I)V"⟩ : MethodName) (head1 (Jvm.Cond.code (⟨"java/lang/AbstractStringBuilder", "ensureCapacityInternal", "(I)V"⟩ : MethodName) jdk_68_method_9_code 3 none :: ws) ({ frames := 0, cells := 0, slots := 0, locals := 0 } : Room)) (fun a U => a = #[(.ref aa), (.int xm)] ∧ Z.Warmed39 U.vm ∧ U.heap = h0) (fun _ _ _ _ _ => True) (fun _ U o U' => ∃ v L, o = .returned v ∧ Q_ens Z aa xm ea ek vs h0 n0 v U'.heap L ∧ FrameEnd U o U' L ({ frames := 0, cells := 0, slots := 0, locals := 0 } : Room).cells ({ frames := 0, cells := 0, slots := 0, locals := 0 } : Room).slots) := by
  refine MetFree.of_bodySF pf_ens hisR ?_
  intro p e s m args below meth c s₁ Bd hml0 hP hK
  obtain ⟨rfl, hZ, hh⟩ := hP
  have hx := Bd.exec
  have hby := Bd.bytes
  have hml : c.maxLocals = 3 := hml0
  have hown : s.vm.findClass "java/lang/AbstractStringBuilder" = some m.cls := findClass_of_methodNamed Bd.named
  have hnm := (name_of_methodNamed Bd.named Bd.method).1
  have X0 : Stand p l e ({ frames := 0, cells := 0, slots := 0, locals := 0 } : Room) s m #[(.ref aa), (.int xm)] below meth c s₁ [] 0 0 := Stand.of_body Bd
  have e0 : s₁.heap = h0 := by rw [← hh, Bd.state]; rfl
  have N0 := Fr.nil n0
  obtain ⟨S0, hS0⟩ : ∃ z, z = s₁.setTop (entryFrame m #[(.ref aa), (.int xm)] 3) := ⟨_, rfl⟩
  rw [← hS0]
  have g0 : Goes p e below S0 (s₁.setTop (mkF m 0 #[rv aa, iv xm, .unset] [])) := fun t k => by rw [hS0]; exact castTop (ef_ens m aa xm) k
  have g205 : Goes p e below S0 (s₁.setTop (mkF m 1 #[rv aa, iv xm, .unset] [(.ref aa)])) := fun t k => g0 t (by
    refine XS.aloadN X0.here hx rfl (hb hby d13_0) rfl rfl ?_
    show Go p e below t s₁ m 1 #[rv aa, iv xm, .unset] [(.ref aa)]
    exact k)
  obtain ⟨T206, X206, e206, st206⟩ := getF X0 hx hZ hown (host := "") (Or.inl (hw _ (List.mem_of_getElem? (i := 63) rfl))) Via.refl e0 P0 (g := (mkF m 1 #[rv aa, iv xm, .unset] [(.ref aa)])) rfl rfl (hb hby d13_1)
  have g207 : Goes p e below S0 (T206.setTop (mkF m 4 #[rv aa, iv xm, .unset] [(.ref ea)])) := fun t k => g205 t (st206 t k)
  obtain ⟨cl208, Ar208, q208, S208, M208, H208, G208⟩ := id P2
  have g209 : Goes p e below S0 (T206.setTop (mkF m 6 #[rv aa, iv xm, .unset] [(.ref aa), (.int (16 : Int32))])) := fun t k => g207 t (by
    refine X206.arraylength hx (by rw [e206]; exact Ar208.1) (State.isArrayOf_alike hZ.alike Ar208.2.1) (g := (mkF m 4 #[rv aa, iv xm, .unset] [(.ref ea)])) rfl rfl (hb hby d13_4) _ ?_
    rw [len_of S208 M208]
    show Go p e below t T206 m 5 #[rv aa, iv xm, .unset] [(.int (16 : Int32))]
    refine XS.aloadN X206.here hx rfl (hb hby d13_5) rfl rfl ?_
    show Go p e below t T206 m 6 #[rv aa, iv xm, .unset] [(.ref aa), (.int (16 : Int32))]
    exact k)
  obtain ⟨T210, X210, e210, st210⟩ := getF X206 hx hZ hown (host := "") (Or.inl (hw _ (List.mem_of_getElem? (i := 65) rfl))) Via.refl e206 P1 (g := (mkF m 6 #[rv aa, iv xm, .unset] [(.ref aa), (.int (16 : Int32))])) rfl rfl (hb hby d13_6)
  have g211 : Goes p e below S0 (T210.setTop (mkF m 9 #[rv aa, iv xm, .unset] [(.int (0 : Int32)), (.int (16 : Int32))])) := fun t k => g209 t (st210 t k)
  have g212 : Goes p e below S0 (T210.setTop (mkF m 10 #[rv aa, iv xm, .unset] [(.int ((16 : Int32) >>> ((0 : Int32) &&& 31)))])) := fun t k => g211 t (by
    refine XS.ishr X210.here hx rfl (hb hby d13_9) rfl ?_
    show Go p e below t T210 m 10 #[rv aa, iv xm, .unset] [(.int ((16 : Int32) >>> ((0 : Int32) &&& 31)))]
    exact k)
  rw [show ((16 : Int32) >>> ((0 : Int32) &&& 31)) = (16 : Int32) from (by decide)] at g212
  have g213 : Goes p e below S0 (T210.setTop (mkF m 38 #[rv aa, iv xm, iv (16 : Int32)] [])) := fun t k => g212 t (by
    refine XS.istoreN X210.here hx rfl (hb hby d13_10) rfl (l' := #[rv aa, iv xm, iv (16 : Int32)]) rfl ?_
    show Go p e below t T210 m 11 #[rv aa, iv xm, iv (16 : Int32)] []
    refine XS.iloadN X210.here hx rfl (hb hby d13_11) rfl ?_
    show Go p e below t T210 m 12 #[rv aa, iv xm, iv (16 : Int32)] [(.int xm)]
    refine XS.iloadN X210.here hx rfl (hb hby d13_12) rfl ?_
    show Go p e below t T210 m 13 #[rv aa, iv xm, iv (16 : Int32)] [(.int (16 : Int32)), (.int xm)]
    refine XS.isub X210.here hx rfl (hb hby d13_13) rfl ?_
    show Go p e below t T210 m 14 #[rv aa, iv xm, iv (16 : Int32)] [(.int (xm - (16 : Int32)))]
    refine XS.ifYes X210.here hx rfl (pc0 := 14) (pc' := 38) rfl (hb hby d13_14) rfl (XT.i0_le_t hm) (by decide) (by decide) ?_
    show Go p e below t T210 m 38 #[rv aa, iv xm, iv (16 : Int32)] []
    exact k)
  obtain ⟨fs, hr, hrun, hended, hW, hsame⟩ := X210.leave (v := none) (fun _ => rfl)
  refine ⟨_, _, g213 _ (X210.returnOut hx Bd.returns (hb hby d13_38) hr), hrun, hended, _, _, rfl, ?_, ⟨_, rfl⟩, hW, hsame.mono (by decide) (by decide)⟩
  show Q_ens Z aa xm ea ek vs h0 n0 _ T210.heap _
  rw [e210]
  exact ⟨rfl, N0, rfl⟩
theorem d15_0 : decode jdk_68_method_71_code 0 = .ok (.getstatic 18, 3) := by decide +kernel
theorem d15_3 : decode jdk_68_method_71_code 3 = .ok (.ifCond .eq 18, 3) := by decide +kernel
theorem d15_6 : decode jdk_68_method_71_code 6 = .ok (.aload_n 0, 1) := by decide +kernel
theorem d15_7 : decode jdk_68_method_71_code 7 = .ok (.getfield 22, 3) := by decide +kernel
theorem d15_10 : decode jdk_68_method_71_code 10 = .ok (.aload_n 1, 1) := by decide +kernel
theorem d15_11 : decode jdk_68_method_71_code 11 = .ok (.invokevirtual 40, 3) := by decide +kernel
theorem d15_14 : decode jdk_68_method_71_code 14 = .ok (.if_icmp .eq 7, 3) := by decide +kernel
theorem d15_17 : decode jdk_68_method_71_code 17 = .ok (.aload_n 0, 1) := by decide +kernel
theorem d15_18 : decode jdk_68_method_71_code 18 = .ok (.invokevirtual 195, 3) := by decide +kernel
theorem d15_21 : decode jdk_68_method_71_code 21 = .ok (.return_, 1) := by decide +kernel
theorem pd11 : parseMethodDescriptor "(Ljava/lang/String;)V" = some ⟨[(.object "java/lang/String")], none⟩ := by decide +kernel
theorem pf_inf : plainFor (⟨"java/lang/AbstractStringBuilder", "inflateIfNeededFor", "(Ljava/lang/String;)V"⟩ : MethodName) = true := by first | exact plainFor_of_name (by first | (simp [plainName, overriddenIn, x]; done) | decide +kernel) | exact Jvm.Free.JP.mathPlain rfl (by decide +kernel) | decide +kernel
theorem ef_inf (m : MethodId) (aa : Addr) (ss : Addr) : entryFrame m #[(.ref aa), (.ref ss)] 2 = mkF m 0 #[rv aa, rv ss] [] := by first | (simp [entryFrame, mkF, argsToLocals, Value.category, maxLocals]; done) | rfl
def Q_inf (Z : State) (aa : Addr) (ss : Addr) (cz : Int32) (h0 : Heap) (n0 : Nat) (v : Option Value) (h : Heap) (L : List Loc) : Prop := v = none ∧ Fr n0 L ∧ h = h0
set_option maxRecDepth 65536 in
set_option maxHeartbeats 40000000 in
theorem rm_inf (l : Launch) (Z : State) (a0 : Array Value) (hw : ∀ d ∈ tables_1, d.before a0 Z = true) (ws : List Jvm.Cond) (aa : Addr) (ss : Addr) (cz : Int32) (h0 : Heap) (n0 : Nat) (Z0 : n0 ≤ h0.size) (P0 : Fld Z h0 aa "java/lang/AbstractStringBuilder" "coder" "B" (.int (0 : Int32))) (P1 : Exa Z h0 ss "java/lang/String") (P2 : Fld Z h0 ss "java/lang/String" "coder" "B" (.int (0 : Int32))) (P3 : Sta Z h0 "java/lang/String" "COMPACT_STRINGS" "Z" (.int cz)) (hz : ¬ cz = 0)  :
    MetFree l (⟨"java/lang/AbstractStringBuilder", "inflateIfNeededFor", "(Ljava/lang/String;)V"⟩ : MethodName) (head1 (Jvm.Cond.code (⟨"java/lang/AbstractStringBuilder", "inflateIfNeededFor", "(Ljava/lang/String;)V"⟩ : MethodName) jdk_68_method_71_code 2 none :: ws) ({ frames := 1, cells := 0, slots := 0, locals := 13 } : Room)) (fun a U => a = #[(.ref aa), (.ref ss)] ∧ Z.Warmed39 U.vm ∧ U.heap = h0) (fun _ _ _ _ _ => True) (fun _ U o U' => ∃ v L, o = .returned v ∧ Q_inf Z aa ss cz h0 n0 v U'.heap L ∧ FrameEnd U o U' L ({ frames := 1, cells := 0, slots := 0, locals := 13 } : Room).cells ({ frames := 1, cells := 0, slots := 0, locals := 13 } : Room).slots) := by
  refine MetFree.of_bodySF pf_inf hisR ?_
  intro p e s m args below meth c s₁ Bd hml0 hP hK
  obtain ⟨rfl, hZ, hh⟩ := hP
  have hx := Bd.exec
  have hby := Bd.bytes
  have hml : c.maxLocals = 2 := hml0
  have hown : s.vm.findClass "java/lang/AbstractStringBuilder" = some m.cls := findClass_of_methodNamed Bd.named
  have hnm := (name_of_methodNamed Bd.named Bd.method).1
  have X0 : Stand p l e ({ frames := 1, cells := 0, slots := 0, locals := 13 } : Room) s m #[(.ref aa), (.ref ss)] below meth c s₁ [] 0 0 := Stand.of_body Bd
  have e0 : s₁.heap = h0 := by rw [← hh, Bd.state]; rfl
  have N0 := Fr.nil n0
  obtain ⟨S0, hS0⟩ : ∃ z, z = s₁.setTop (entryFrame m #[(.ref aa), (.ref ss)] 2) := ⟨_, rfl⟩
  rw [← hS0]
  have g0 : Goes p e below S0 (s₁.setTop (mkF m 0 #[rv aa, rv ss] [])) := fun t k => by rw [hS0]; exact castTop (ef_inf m aa ss) k
  obtain ⟨T214, X214, e214, st214⟩ := getS (host := "") X0 hx hZ hown (hw _ (List.mem_of_getElem? (i := 62) rfl)) Via.refl e0 P3 (g := (mkF m 0 #[rv aa, rv ss] [])) rfl (hb hby d15_0)
  have g215 : Goes p e below S0 (T214.setTop (mkF m 3 #[rv aa, rv ss] [(.int cz)])) := fun t k => g0 t (st214 t k)
  have g216 : Goes p e below S0 (T214.setTop (mkF m 7 #[rv aa, rv ss] [(.ref aa)])) := fun t k => g215 t (by
    refine XS.ifNo X214.here hx rfl (hb hby d15_3) rfl (XT.i0_eq_f hz) ?_
    show Go p e below t T214 m 6 #[rv aa, rv ss] []
    refine XS.aloadN X214.here hx rfl (hb hby d15_6) rfl rfl ?_
    show Go p e below t T214 m 7 #[rv aa, rv ss] [(.ref aa)]
    exact k)
  obtain ⟨T217, X217, e217, st217⟩ := getF X214 hx hZ hown (host := "") (Or.inl (hw _ (List.mem_of_getElem? (i := 65) rfl))) Via.refl e214 P0 (g := (mkF m 7 #[rv aa, rv ss] [(.ref aa)])) rfl rfl (hb hby d15_7)
  have g218 : Goes p e below S0 (T217.setTop (mkF m 10 #[rv aa, rv ss] [(.int (0 : Int32))])) := fun t k => g216 t (st217 t k)
  have g219 : Goes p e below S0 (T217.setTop (mkF m 11 #[rv aa, rv ss] [(.ref ss), (.int (0 : Int32))])) := fun t k => g218 t (by
    refine XS.aloadN X217.here hx rfl (hb hby d15_10) rfl rfl ?_
    show Go p e below t T217 m 11 #[rv aa, rv ss] [(.ref ss), (.int (0 : Int32))]
    exact k)
  obtain ⟨cq220, kq220, q220a, q220b, q220c⟩ := isOf hZ e217 P1
  obtain ⟨_, _, ⟨T220, L220, k220, n220⟩, -, X220, ⟨Lc220, hQ220, l220, y220, z220⟩, st220⟩ := X217.virtualBack hx (y := (⟨"java/lang/String", "coder", "()B"⟩ : MethodName)) (z := (⟨"java/lang/String", "coder", "()B"⟩ : MethodName)) hown (mvT hZ (hw _ (List.mem_of_getElem? (i := 105) rfl))) (mvT hZ (hw _ (List.mem_of_getElem? (i := 83) rfl))) (notFace_of_selects (args := #[]) (mvT hZ (hw _ (List.mem_of_getElem? (i := 85) rfl)))) (mvT hZ (hw _ (List.mem_of_getElem? (i := 85) rfl))) (mvT hZ (hw _ (List.mem_of_getElem? (i := 84) rfl))) (by decide) (backOf (W := 1) (rm_cod l Z a0 hw [] ss cz h0 n0 Z0 P2 P3 hz) hZ (hw _ (List.mem_of_getElem? (i := 86) rfl)) (hw _ (List.mem_of_getElem? (i := 6) rfl)) (by decide) (by decide)) q220a q220c (g := (mkF m 11 #[rv aa, rv ss] [(.ref ss), (.int (0 : Int32))])) rfl (by rw [hml]; rfl) (Steps.refl _) (argsL := []) (rest := [(.int (0 : Int32))]) (lenOf pd0 rfl) rfl (by show 2 * 0 + _ ≤ _; exact Nat.le_of_eq rfl) (hb hby d15_11) (fun _ _ => ⟨rfl, e217, (by decide : 0 + 0 ≤ _), (by decide : 0 + 0 ≤ _)⟩)
  dsimp only [Pt.U, Pt.locs, Pt.cells, Pt.slots] at X220 l220 y220 z220 st220 hQ220
  subst l220 y220 z220
  obtain ⟨rfl, N220, R220_0⟩ := hQ220
  have M220 := Fr.app N0 N220
  have g221 : Goes p e below S0 (T220.setTop (mkF m 14 #[rv aa, rv ss] [(.int (0 : Int32)), (.int (0 : Int32))])) := fun t k => g219 t (st220.trans k)
  have g222 : Goes p e below S0 (T220.setTop (mkF m 21 #[rv aa, rv ss] [])) := fun t k => g221 t (by
    refine XS.icmpYes X220.here hx rfl (pc0 := 14) (pc' := 21) rfl (hb hby d15_14) rfl (XT.ii_eq_t (by decide)) (by decide) (by decide) ?_
    show Go p e below t T220 m 21 #[rv aa, rv ss] []
    exact k)
  obtain ⟨fs, hr, hrun, hended, hW, hsame⟩ := X220.leave (v := none) (fun _ => rfl)
  refine ⟨_, _, g222 _ (X220.returnOut hx Bd.returns (hb hby d15_21) hr), hrun, hended, _, _, rfl, ?_, ⟨_, rfl⟩, hW, hsame.mono (by decide) (by decide)⟩
  show Q_inf Z aa ss cz h0 n0 _ T220.heap _
  rw [R220_0]
  exact ⟨rfl, M220, rfl⟩
theorem d16_0 : decode jdk_42_method_147_code 0 = .ok (.aload_n 0, 1) := by decide +kernel
theorem d16_1 : decode jdk_42_method_147_code 1 = .ok (.invokevirtual 335, 3) := by decide +kernel
theorem d16_4 : decode jdk_42_method_147_code 4 = .ok (.iload_n 3, 1) := by decide +kernel
theorem d16_5 : decode jdk_42_method_147_code 5 = .ok (.if_icmp .ne 23, 3) := by decide +kernel
theorem d16_8 : decode jdk_42_method_147_code 8 = .ok (.aload_n 0, 1) := by decide +kernel
theorem d16_9 : decode jdk_42_method_147_code 9 = .ok (.getfield 9, 3) := by decide +kernel
theorem d16_12 : decode jdk_42_method_147_code 12 = .ok (.iconst 0, 1) := by decide +kernel
theorem d16_13 : decode jdk_42_method_147_code 13 = .ok (.aload_n 1, 1) := by decide +kernel
theorem d16_14 : decode jdk_42_method_147_code 14 = .ok (.iload_n 2, 1) := by decide +kernel
theorem d16_15 : decode jdk_42_method_147_code 15 = .ok (.iload_n 3, 1) := by decide +kernel
theorem d16_16 : decode jdk_42_method_147_code 16 = .ok (.ishl, 1) := by decide +kernel
theorem d16_17 : decode jdk_42_method_147_code 17 = .ok (.aload_n 0, 1) := by decide +kernel
theorem d16_18 : decode jdk_42_method_147_code 18 = .ok (.getfield 9, 3) := by decide +kernel
theorem d16_21 : decode jdk_42_method_147_code 21 = .ok (.arraylength, 1) := by decide +kernel
theorem d16_22 : decode jdk_42_method_147_code 22 = .ok (.invokestatic 212, 3) := by decide +kernel
theorem d16_25 : decode jdk_42_method_147_code 25 = .ok (.goto 18, 3) := by decide +kernel
theorem d16_28 : decode jdk_42_method_147_code 28 = .ok (.aload_n 0, 1) := by decide +kernel
theorem d16_29 : decode jdk_42_method_147_code 29 = .ok (.getfield 9, 3) := by decide +kernel
theorem d16_32 : decode jdk_42_method_147_code 32 = .ok (.iconst 0, 1) := by decide +kernel
theorem d16_33 : decode jdk_42_method_147_code 33 = .ok (.aload_n 1, 1) := by decide +kernel
theorem d16_34 : decode jdk_42_method_147_code 34 = .ok (.iload_n 2, 1) := by decide +kernel
theorem d16_35 : decode jdk_42_method_147_code 35 = .ok (.aload_n 0, 1) := by decide +kernel
theorem d16_36 : decode jdk_42_method_147_code 36 = .ok (.getfield 9, 3) := by decide +kernel
theorem d16_39 : decode jdk_42_method_147_code 39 = .ok (.arraylength, 1) := by decide +kernel
theorem d16_40 : decode jdk_42_method_147_code 40 = .ok (.invokestatic 106, 3) := by decide +kernel
theorem d16_43 : decode jdk_42_method_147_code 43 = .ok (.return_, 1) := by decide +kernel
theorem pd12 : parseMethodDescriptor "([BIB)V" = some ⟨[(.array .byte), .int, .byte], none⟩ := by decide +kernel
theorem pf_gby : plainFor (⟨"java/lang/String", "getBytes", "([BIB)V"⟩ : MethodName) = true := by first | exact plainFor_of_name (by first | (simp [plainName, overriddenIn, x]; done) | decide +kernel) | exact Jvm.Free.JP.mathPlain rfl (by decide +kernel) | decide +kernel
theorem ef_gby (m : MethodId) (sa : Addr) (da : Addr) (xb : Int32) (xk : Int32) : entryFrame m #[(.ref sa), (.ref da), (.int xb), (.int xk)] 4 = mkF m 0 #[rv sa, rv da, iv xb, iv xk] [] := by first | (simp [entryFrame, mkF, argsToLocals, Value.category, maxLocals]; done) | rfl
def Q_gby (Z : State) (sa : Addr) (da : Addr) (xb : Int32) (xk : Int32) (sb : Addr) (kb : ClassId) (sz : Int32) (us : List Value) (dk : ClassId) (vs : List Value) (cz : Int32) (h0 : Heap) (n0 : Nat) (v : Option Value) (h : Heap) (L : List Loc) : Prop := v = none ∧ Fr n0 L ∧ (Keep h0 h [da]) ∧ (Arv Z h da dk .byte (16 : Int32) (own_app vs xb sz us) (.int (0 : Int32)))
set_option maxRecDepth 65536 in
set_option maxHeartbeats 40000000 in
theorem rm_gby (l : Launch) (Z : State) (a0 : Array Value) (hw : ∀ d ∈ tables_1, d.before a0 Z = true) (ws : List Jvm.Cond) (sa : Addr) (da : Addr) (xb : Int32) (xk : Int32) (sb : Addr) (kb : ClassId) (sz : Int32) (us : List Value) (dk : ClassId) (vs : List Value) (cz : Int32) (h0 : Heap) (n0 : Nat) (Z0 : n0 ≤ h0.size) (P0 : Exa Z h0 sa "java/lang/String") (P1 : Fld Z h0 sa "java/lang/String" "value" "[B" (.ref sb)) (P2 : Fld Z h0 sa "java/lang/String" "coder" "B" (.int (0 : Int32))) (P3 : Arv Z h0 sb kb .byte sz us (.int (0 : Int32))) (P4 : Arv Z h0 da dk .byte (16 : Int32) vs (.int (0 : Int32))) (P5 : n0 ≤ da) (P6 : Sta Z h0 "java/lang/String" "COMPACT_STRINGS" "Z" (.int cz)) (hz : ¬ cz = 0) (hok : own_ok xb sz us vs) (q1 : xk = (0 : Int32))  :
    MetFree l (⟨"java/lang/String", "getBytes", "([BIB)V"⟩ : MethodName) (head1 (Jvm.Cond.code (⟨"java/lang/String", "getBytes", "([BIB)V"⟩ : MethodName) jdk_42_method_147_code 4 none :: ws) ({ frames := 1, cells := 0, slots := 0, locals := 18 } : Room)) (fun a U => a = #[(.ref sa), (.ref da), (.int xb), (.int xk)] ∧ Z.Warmed39 U.vm ∧ U.heap = h0) (fun _ _ _ _ _ => True) (fun _ U o U' => ∃ v L, o = .returned v ∧ Q_gby Z sa da xb xk sb kb sz us dk vs cz h0 n0 v U'.heap L ∧ FrameEnd U o U' L ({ frames := 1, cells := 0, slots := 0, locals := 18 } : Room).cells ({ frames := 1, cells := 0, slots := 0, locals := 18 } : Room).slots) := by
  refine MetFree.of_bodySF pf_gby hisR ?_
  intro p e s m args below meth c s₁ Bd hml0 hP hK
  obtain ⟨rfl, hZ, hh⟩ := hP
  have hx := Bd.exec
  have hby := Bd.bytes
  have hml : c.maxLocals = 4 := hml0
  have hown : s.vm.findClass "java/lang/String" = some m.cls := findClass_of_methodNamed Bd.named
  have hnm := (name_of_methodNamed Bd.named Bd.method).1
  have X0 : Stand p l e ({ frames := 1, cells := 0, slots := 0, locals := 18 } : Room) s m #[(.ref sa), (.ref da), (.int xb), (.int xk)] below meth c s₁ [] 0 0 := Stand.of_body Bd
  have e0 : s₁.heap = h0 := by rw [← hh, Bd.state]; rfl
  have N0 := Fr.nil n0
  obtain ⟨S0, hS0⟩ : ∃ z, z = s₁.setTop (entryFrame m #[(.ref sa), (.ref da), (.int xb), (.int xk)] 4) := ⟨_, rfl⟩
  rw [← hS0]
  have g0 : Goes p e below S0 (s₁.setTop (mkF m 0 #[rv sa, rv da, iv xb, iv xk] [])) := fun t k => by rw [hS0]; exact castTop (ef_gby m sa da xb xk) k
  obtain rfl : xk = (0 : Int32) := q1
  have g223 : Goes p e below S0 (s₁.setTop (mkF m 1 #[rv sa, rv da, iv xb, iv (0 : Int32)] [(.ref sa)])) := fun t k => g0 t (by
    refine XS.aloadN X0.here hx rfl (hb hby d16_0) rfl rfl ?_
    show Go p e below t s₁ m 1 #[rv sa, rv da, iv xb, iv (0 : Int32)] [(.ref sa)]
    exact k)
  obtain ⟨cq224, kq224, q224a, q224b, q224c⟩ := isOf hZ e0 P0
  obtain ⟨_, _, ⟨T224, L224, k224, n224⟩, -, X224, ⟨Lc224, hQ224, l224, y224, z224⟩, st224⟩ := X0.virtualBack hx (y := (⟨"java/lang/String", "coder", "()B"⟩ : MethodName)) (z := (⟨"java/lang/String", "coder", "()B"⟩ : MethodName)) hown (mvT hZ (hw _ (List.mem_of_getElem? (i := 82) rfl))) (mvT hZ (hw _ (List.mem_of_getElem? (i := 83) rfl))) (notFace_of_selects (args := #[]) (mvT hZ (hw _ (List.mem_of_getElem? (i := 85) rfl)))) (mvT hZ (hw _ (List.mem_of_getElem? (i := 85) rfl))) (mvT hZ (hw _ (List.mem_of_getElem? (i := 84) rfl))) (by decide) (backOf (W := 0) (rm_cod l Z a0 hw [] sa cz h0 n0 Z0 P2 P6 hz) hZ (hw _ (List.mem_of_getElem? (i := 86) rfl)) (hw _ (List.mem_of_getElem? (i := 6) rfl)) (by decide) (by decide)) q224a q224c (g := (mkF m 1 #[rv sa, rv da, iv xb, iv (0 : Int32)] [(.ref sa)])) rfl (by rw [hml]; rfl) (Steps.refl _) (argsL := []) (rest := []) (lenOf pd0 rfl) rfl (by show 2 * 0 + _ ≤ _; exact Nat.le_of_eq rfl) (hb hby d16_1) (fun _ _ => ⟨rfl, e0, (by decide : 0 + 0 ≤ _), (by decide : 0 + 0 ≤ _)⟩)
  dsimp only [Pt.U, Pt.locs, Pt.cells, Pt.slots] at X224 l224 y224 z224 st224 hQ224
  subst l224 y224 z224
  obtain ⟨rfl, N224, R224_0⟩ := hQ224
  have M224 := Fr.app N0 N224
  have g225 : Goes p e below S0 (T224.setTop (mkF m 4 #[rv sa, rv da, iv xb, iv (0 : Int32)] [(.int (0 : Int32))])) := fun t k => g223 t (st224.trans k)
  have g226 : Goes p e below S0 (T224.setTop (mkF m 9 #[rv sa, rv da, iv xb, iv (0 : Int32)] [(.ref sa)])) := fun t k => g225 t (by
    refine XS.iloadN X224.here hx rfl (hb hby d16_4) rfl ?_
    show Go p e below t T224 m 5 #[rv sa, rv da, iv xb, iv (0 : Int32)] [(.int (0 : Int32)), (.int (0 : Int32))]
    refine XS.icmpNo X224.here hx rfl (hb hby d16_5) rfl (XT.ii_ne_f (by decide)) ?_
    show Go p e below t T224 m 8 #[rv sa, rv da, iv xb, iv (0 : Int32)] []
    refine XS.aloadN X224.here hx rfl (hb hby d16_8) rfl rfl ?_
    show Go p e below t T224 m 9 #[rv sa, rv da, iv xb, iv (0 : Int32)] [(.ref sa)]
    exact k)
  obtain ⟨T227, X227, e227, st227⟩ := getF X224 hx hZ hown (host := "") (Or.inl (hw _ (List.mem_of_getElem? (i := 24) rfl))) Via.refl R224_0 P1 (g := (mkF m 9 #[rv sa, rv da, iv xb, iv (0 : Int32)] [(.ref sa)])) rfl rfl (hb hby d16_9)
  have g228 : Goes p e below S0 (T227.setTop (mkF m 12 #[rv sa, rv da, iv xb, iv (0 : Int32)] [(.ref sb)])) := fun t k => g226 t (st227 t k)
  have g229 : Goes p e below S0 (T227.setTop (mkF m 17 #[rv sa, rv da, iv xb, iv (0 : Int32)] [(.int (xb <<< ((0 : Int32) &&& 31))), (.ref da), (.int (0 : Int32)), (.ref sb)])) := fun t k => g228 t (by
    refine XT.iconstV X227.here hx rfl (0 : Int32) (hb hby d16_12) (by decide) ?_
    show Go p e below t T227 m 13 #[rv sa, rv da, iv xb, iv (0 : Int32)] [(.int (0 : Int32)), (.ref sb)]
    refine XS.aloadN X227.here hx rfl (hb hby d16_13) rfl rfl ?_
    show Go p e below t T227 m 14 #[rv sa, rv da, iv xb, iv (0 : Int32)] [(.ref da), (.int (0 : Int32)), (.ref sb)]
    refine XS.iloadN X227.here hx rfl (hb hby d16_14) rfl ?_
    show Go p e below t T227 m 15 #[rv sa, rv da, iv xb, iv (0 : Int32)] [(.int xb), (.ref da), (.int (0 : Int32)), (.ref sb)]
    refine XS.iloadN X227.here hx rfl (hb hby d16_15) rfl ?_
    show Go p e below t T227 m 16 #[rv sa, rv da, iv xb, iv (0 : Int32)] [(.int (0 : Int32)), (.int xb), (.ref da), (.int (0 : Int32)), (.ref sb)]
    refine XS.ishl X227.here hx rfl (hb hby d16_16) rfl ?_
    show Go p e below t T227 m 17 #[rv sa, rv da, iv xb, iv (0 : Int32)] [(.int (xb <<< ((0 : Int32) &&& 31))), (.ref da), (.int (0 : Int32)), (.ref sb)]
    exact k)
  rw [show (xb <<< ((0 : Int32) &&& 31)) = xb from (own_shl0 _)] at g229
  have g230 : Goes p e below S0 (T227.setTop (mkF m 18 #[rv sa, rv da, iv xb, iv (0 : Int32)] [(.ref sa), (.int xb), (.ref da), (.int (0 : Int32)), (.ref sb)])) := fun t k => g229 t (by
    refine XS.aloadN X227.here hx rfl (hb hby d16_17) rfl rfl ?_
    show Go p e below t T227 m 18 #[rv sa, rv da, iv xb, iv (0 : Int32)] [(.ref sa), (.int xb), (.ref da), (.int (0 : Int32)), (.ref sb)]
    exact k)
  obtain ⟨T231, X231, e231, st231⟩ := getF X227 hx hZ hown (host := "") (Or.inl (hw _ (List.mem_of_getElem? (i := 24) rfl))) Via.refl e227 P1 (g := (mkF m 18 #[rv sa, rv da, iv xb, iv (0 : Int32)] [(.ref sa), (.int xb), (.ref da), (.int (0 : Int32)), (.ref sb)])) rfl rfl (hb hby d16_18)
  have g232 : Goes p e below S0 (T231.setTop (mkF m 21 #[rv sa, rv da, iv xb, iv (0 : Int32)] [(.ref sb), (.int xb), (.ref da), (.int (0 : Int32)), (.ref sb)])) := fun t k => g230 t (st231 t k)
  obtain ⟨cl233, Ar233, q233, S233, M233, H233, G233⟩ := id P3
  have g234 : Goes p e below S0 (T231.setTop (mkF m 22 #[rv sa, rv da, iv xb, iv (0 : Int32)] [(.int sz), (.int xb), (.ref da), (.int (0 : Int32)), (.ref sb)])) := fun t k => g232 t (by
    refine X231.arraylength hx (by rw [e231]; exact Ar233.1) (State.isArrayOf_alike hZ.alike Ar233.2.1) (g := (mkF m 21 #[rv sa, rv da, iv xb, iv (0 : Int32)] [(.ref sb), (.int xb), (.ref da), (.int (0 : Int32)), (.ref sb)])) rfl rfl (hb hby d16_21) _ ?_
    rw [len_of S233 M233]
    show Go p e below t T231 m 22 #[rv sa, rv da, iv xb, iv (0 : Int32)] [(.int sz), (.int xb), (.ref da), (.int (0 : Int32)), (.ref sb)]
    exact k)
  obtain ⟨T235, h235, L235, X235, e235, N235, K235, A235, st235⟩ := cpA X231 hx hZ hown (hw _ (List.mem_of_getElem? (i := 111) rfl)) (hw _ (List.mem_of_getElem? (i := 114) rfl)) (hw _ (List.mem_of_getElem? (i := 112) rfl)) (hw _ (List.mem_of_getElem? (i := 113) rfl)) e231 (sp := (0 : Int32)) (dp := xb) (nn := sz) (us := us) P3 P4 (Or.inl ⟨rfl, rfl⟩) (by decide) hok.1 hok.2.1 (own_le0 _) hok.2.2.1 (own_us hok.2.2.2.1) (own_hl hok) M224 P5 (g := (mkF m 22 #[rv sa, rv da, iv xb, iv (0 : Int32)] [(.int sz), (.int xb), (.ref da), (.int (0 : Int32)), (.ref sb)])) rfl (by rw [hml]; rfl) (rest := []) rfl (hb hby d16_22) (by decide) (W := 0) (by show 2 * 0 + _ ≤ _; exact Nat.le_of_eq rfl) (by decide)
  have V235 : Arv Z h235 da dk .byte (16 : Int32) (own_app vs xb sz us) (.int (0 : Int32)) := A235
  have g236 : Goes p e below S0 (T235.setTop (mkF m 25 #[rv sa, rv da, iv xb, iv (0 : Int32)] [])) := fun t k => g234 t (st235 t k)
  have g237 : Goes p e below S0 (T235.setTop (mkF m 43 #[rv sa, rv da, iv xb, iv (0 : Int32)] [])) := fun t k => g236 t (by
    refine XS.goto X235.here hx rfl (pc0 := 25) (pc' := 43) rfl (hb hby d16_25) (by decide) (by decide) ?_
    show Go p e below t T235 m 43 #[rv sa, rv da, iv xb, iv (0 : Int32)] []
    exact k)
  obtain ⟨fs, hr, hrun, hended, hW, hsame⟩ := X235.leave (v := none) (fun _ => rfl)
  refine ⟨_, _, g237 _ (X235.returnOut hx Bd.returns (hb hby d16_43) hr), hrun, hended, _, _, rfl, ?_, ⟨_, rfl⟩, hW, hsame.mono (by decide) (by decide)⟩
  show Q_gby Z sa da xb (0 : Int32) sb kb sz us dk vs cz h0 n0 _ T235.heap _
  rw [e235]
  exact ⟨rfl, N235, ((Keep.refl h0 [da]).trans K235 (allS (Or.inl (List.mem_of_getElem? (i := 0) rfl)) all0)), V235⟩
theorem d14_0 : decode jdk_68_method_73_code 0 = .ok (.aload_n 0, 1) := by decide +kernel
theorem d14_1 : decode jdk_68_method_73_code 1 = .ok (.aload_n 2, 1) := by decide +kernel
theorem d14_2 : decode jdk_68_method_73_code 2 = .ok (.invokevirtual 397, 3) := by decide +kernel
theorem d14_5 : decode jdk_68_method_73_code 5 = .ok (.aload_n 2, 1) := by decide +kernel
theorem d14_6 : decode jdk_68_method_73_code 6 = .ok (.aload_n 0, 1) := by decide +kernel
theorem d14_7 : decode jdk_68_method_73_code 7 = .ok (.getfield 15, 3) := by decide +kernel
theorem d14_10 : decode jdk_68_method_73_code 10 = .ok (.iload_n 1, 1) := by decide +kernel
theorem d14_11 : decode jdk_68_method_73_code 11 = .ok (.aload_n 0, 1) := by decide +kernel
theorem d14_12 : decode jdk_68_method_73_code 12 = .ok (.getfield 22, 3) := by decide +kernel
theorem d14_15 : decode jdk_68_method_73_code 15 = .ok (.invokevirtual 399, 3) := by decide +kernel
theorem d14_18 : decode jdk_68_method_73_code 18 = .ok (.return_, 1) := by decide +kernel
theorem pd13 : parseMethodDescriptor "(ILjava/lang/String;)V" = some ⟨[.int, (.object "java/lang/String")], none⟩ := by decide +kernel
theorem pf_put : plainFor (⟨"java/lang/AbstractStringBuilder", "putStringAt", "(ILjava/lang/String;)V"⟩ : MethodName) = true := by first | exact plainFor_of_name (by first | (simp [plainName, overriddenIn, x]; done) | decide +kernel) | exact Jvm.Free.JP.mathPlain rfl (by decide +kernel) | decide +kernel
theorem ef_put (m : MethodId) (aa : Addr) (xi : Int32) (ss : Addr) : entryFrame m #[(.ref aa), (.int xi), (.ref ss)] 3 = mkF m 0 #[rv aa, iv xi, rv ss] [] := by first | (simp [entryFrame, mkF, argsToLocals, Value.category, maxLocals]; done) | rfl
def Q_put (Z : State) (aa : Addr) (xi : Int32) (ss : Addr) (ea : Addr) (ek : ClassId) (vs : List Value) (sb : Addr) (kb : ClassId) (sz : Int32) (us : List Value) (cz : Int32) (h0 : Heap) (n0 : Nat) (v : Option Value) (h : Heap) (L : List Loc) : Prop := v = none ∧ Fr n0 L ∧ (Keep h0 h [ea]) ∧ (Arv Z h ea ek .byte (16 : Int32) (own_app vs xi sz us) (.int (0 : Int32)))
set_option maxRecDepth 65536 in
set_option maxHeartbeats 40000000 in
theorem rm_put (l : Launch) (Z : State) (a0 : Array Value) (hw : ∀ d ∈ tables_1, d.before a0 Z = true) (ws : List Jvm.Cond) (aa : Addr) (xi : Int32) (ss : Addr) (ea : Addr) (ek : ClassId) (vs : List Value) (sb : Addr) (kb : ClassId) (sz : Int32) (us : List Value) (cz : Int32) (h0 : Heap) (n0 : Nat) (Z0 : n0 ≤ h0.size) (P0 : Exa Z h0 aa "java/lang/StringBuilder") (P1 : Fld Z h0 aa "java/lang/AbstractStringBuilder" "value" "[B" (.ref ea)) (P2 : Fld Z h0 aa "java/lang/AbstractStringBuilder" "coder" "B" (.int (0 : Int32))) (P3 : Arv Z h0 ea ek .byte (16 : Int32) vs (.int (0 : Int32))) (P4 : n0 ≤ ea) (P5 : aa ≠ ea) (P6 : Exa Z h0 ss "java/lang/String") (P7 : Fld Z h0 ss "java/lang/String" "value" "[B" (.ref sb)) (P8 : Fld Z h0 ss "java/lang/String" "coder" "B" (.int (0 : Int32))) (P9 : Arv Z h0 sb kb .byte sz us (.int (0 : Int32))) (P10 : Sta Z h0 "java/lang/String" "COMPACT_STRINGS" "Z" (.int cz)) (hz : ¬ cz = 0) (hok : own_ok xi sz us vs)  :
    MetFree l (⟨"java/lang/AbstractStringBuilder", "putStringAt", "(ILjava/lang/String;)V"⟩ : MethodName) (head1 (Jvm.Cond.code (⟨"java/lang/AbstractStringBuilder", "putStringAt", "(ILjava/lang/String;)V"⟩ : MethodName) jdk_68_method_73_code 3 none :: ws) ({ frames := 2, cells := 0, slots := 0, locals := 33 } : Room)) (fun a U => a = #[(.ref aa), (.int xi), (.ref ss)] ∧ Z.Warmed39 U.vm ∧ U.heap = h0) (fun _ _ _ _ _ => True) (fun _ U o U' => ∃ v L, o = .returned v ∧ Q_put Z aa xi ss ea ek vs sb kb sz us cz h0 n0 v U'.heap L ∧ FrameEnd U o U' L ({ frames := 2, cells := 0, slots := 0, locals := 33 } : Room).cells ({ frames := 2, cells := 0, slots := 0, locals := 33 } : Room).slots) := by
  refine MetFree.of_bodySF pf_put hisR ?_
  intro p e s m args below meth c s₁ Bd hml0 hP hK
  obtain ⟨rfl, hZ, hh⟩ := hP
  have hx := Bd.exec
  have hby := Bd.bytes
  have hml : c.maxLocals = 3 := hml0
  have hown : s.vm.findClass "java/lang/AbstractStringBuilder" = some m.cls := findClass_of_methodNamed Bd.named
  have hnm := (name_of_methodNamed Bd.named Bd.method).1
  have X0 : Stand p l e ({ frames := 2, cells := 0, slots := 0, locals := 33 } : Room) s m #[(.ref aa), (.int xi), (.ref ss)] below meth c s₁ [] 0 0 := Stand.of_body Bd
  have e0 : s₁.heap = h0 := by rw [← hh, Bd.state]; rfl
  have N0 := Fr.nil n0
  obtain ⟨S0, hS0⟩ : ∃ z, z = s₁.setTop (entryFrame m #[(.ref aa), (.int xi), (.ref ss)] 3) := ⟨_, rfl⟩
  rw [← hS0]
  have g0 : Goes p e below S0 (s₁.setTop (mkF m 0 #[rv aa, iv xi, rv ss] [])) := fun t k => by rw [hS0]; exact castTop (ef_put m aa xi ss) k
  have g238 : Goes p e below S0 (s₁.setTop (mkF m 2 #[rv aa, iv xi, rv ss] [(.ref ss), (.ref aa)])) := fun t k => g0 t (by
    refine XS.aloadN X0.here hx rfl (hb hby d14_0) rfl rfl ?_
    show Go p e below t s₁ m 1 #[rv aa, iv xi, rv ss] [(.ref aa)]
    refine XS.aloadN X0.here hx rfl (hb hby d14_1) rfl rfl ?_
    show Go p e below t s₁ m 2 #[rv aa, iv xi, rv ss] [(.ref ss), (.ref aa)]
    exact k)
  obtain ⟨cq239, q239, q239b⟩ := Exa.cell P0
  obtain ⟨_, _, ⟨T239, L239, k239, n239⟩, -, X239, ⟨Lc239, hQ239, l239, y239, z239⟩, st239⟩ := X0.privateBack hx (y := (⟨"java/lang/AbstractStringBuilder", "inflateIfNeededFor", "(Ljava/lang/String;)V"⟩ : MethodName)) hown (mvT hZ (hw _ (List.mem_of_getElem? (i := 100) rfl))) (mvT hZ (hw _ (List.mem_of_getElem? (i := 101) rfl))) (own_selp (mvT hZ (hw _ (List.mem_of_getElem? (i := 93) rfl))) rfl (Cond.privateMethod_at (mvP hZ (hw _ (List.mem_of_getElem? (i := 102) rfl)) (args := #[]))) (mvT hZ (hw _ (List.mem_of_getElem? (i := 101) rfl))) (by decide)) (Cond.privateMethod_at (mvP hZ (hw _ (List.mem_of_getElem? (i := 102) rfl)) (args := #[]))) (mvT hZ (hw _ (List.mem_of_getElem? (i := 104) rfl))) (by decide) (backOf (W := 0) (rm_inf l Z a0 hw [] aa ss cz h0 n0 Z0 P2 P6 P8 P10 hz) hZ (hw _ (List.mem_of_getElem? (i := 104) rfl)) (hw _ (List.mem_of_getElem? (i := 59) rfl)) (by decide) (by decide)) (g := (mkF m 2 #[rv aa, iv xi, rv ss] [(.ref ss), (.ref aa)])) rfl (by rw [hml]; rfl) (Steps.refl _) (a := aa) (by rw [e0]; exact q239) q239b (argsL := [(.ref ss)]) (rest := []) (lenOf pd11 rfl) rfl (by show 2 * 0 + _ ≤ _; exact Nat.le_of_eq rfl) (hb hby d14_2) (fun _ _ => ⟨rfl, e0, (by decide : 0 + 0 ≤ _), (by decide : 0 + 0 ≤ _)⟩)
  dsimp only [Pt.U, Pt.locs, Pt.cells, Pt.slots] at X239 l239 y239 z239 st239 hQ239
  subst l239 y239 z239
  obtain ⟨rfl, N239, R239_0⟩ := hQ239
  have M239 := Fr.app N0 N239
  have g240 : Goes p e below S0 (T239.setTop (mkF m 5 #[rv aa, iv xi, rv ss] [])) := fun t k => g238 t (st239.trans k)
  have g241 : Goes p e below S0 (T239.setTop (mkF m 7 #[rv aa, iv xi, rv ss] [(.ref aa), (.ref ss)])) := fun t k => g240 t (by
    refine XS.aloadN X239.here hx rfl (hb hby d14_5) rfl rfl ?_
    show Go p e below t T239 m 6 #[rv aa, iv xi, rv ss] [(.ref ss)]
    refine XS.aloadN X239.here hx rfl (hb hby d14_6) rfl rfl ?_
    show Go p e below t T239 m 7 #[rv aa, iv xi, rv ss] [(.ref aa), (.ref ss)]
    exact k)
  obtain ⟨T242, X242, e242, st242⟩ := getF X239 hx hZ hown (host := "") (Or.inl (hw _ (List.mem_of_getElem? (i := 63) rfl))) Via.refl R239_0 P1 (g := (mkF m 7 #[rv aa, iv xi, rv ss] [(.ref aa), (.ref ss)])) rfl rfl (hb hby d14_7)
  have g243 : Goes p e below S0 (T242.setTop (mkF m 10 #[rv aa, iv xi, rv ss] [(.ref ea), (.ref ss)])) := fun t k => g241 t (st242 t k)
  have g244 : Goes p e below S0 (T242.setTop (mkF m 12 #[rv aa, iv xi, rv ss] [(.ref aa), (.int xi), (.ref ea), (.ref ss)])) := fun t k => g243 t (by
    refine XS.iloadN X242.here hx rfl (hb hby d14_10) rfl ?_
    show Go p e below t T242 m 11 #[rv aa, iv xi, rv ss] [(.int xi), (.ref ea), (.ref ss)]
    refine XS.aloadN X242.here hx rfl (hb hby d14_11) rfl rfl ?_
    show Go p e below t T242 m 12 #[rv aa, iv xi, rv ss] [(.ref aa), (.int xi), (.ref ea), (.ref ss)]
    exact k)
  obtain ⟨T245, X245, e245, st245⟩ := getF X242 hx hZ hown (host := "") (Or.inl (hw _ (List.mem_of_getElem? (i := 65) rfl))) Via.refl e242 P2 (g := (mkF m 12 #[rv aa, iv xi, rv ss] [(.ref aa), (.int xi), (.ref ea), (.ref ss)])) rfl rfl (hb hby d14_12)
  have g246 : Goes p e below S0 (T245.setTop (mkF m 15 #[rv aa, iv xi, rv ss] [(.int (0 : Int32)), (.int xi), (.ref ea), (.ref ss)])) := fun t k => g244 t (st245 t k)
  obtain ⟨cq247, kq247, q247a, q247b, q247c⟩ := isOf hZ e245 P6
  obtain ⟨_, _, ⟨T247, L247, k247, n247⟩, -, X247, ⟨Lc247, hQ247, l247, y247, z247⟩, st247⟩ := X245.virtualBack hx (y := (⟨"java/lang/String", "getBytes", "([BIB)V"⟩ : MethodName)) (z := (⟨"java/lang/String", "getBytes", "([BIB)V"⟩ : MethodName)) hown (mvT hZ (hw _ (List.mem_of_getElem? (i := 106) rfl))) (mvT hZ (hw _ (List.mem_of_getElem? (i := 107) rfl))) (notFace_of_selects (args := #[]) (mvT hZ (hw _ (List.mem_of_getElem? (i := 109) rfl)))) (mvT hZ (hw _ (List.mem_of_getElem? (i := 109) rfl))) (mvT hZ (hw _ (List.mem_of_getElem? (i := 108) rfl))) (by decide) (backOf (W := 0) (rm_gby l Z a0 hw [] ss ea xi (0 : Int32) sb kb sz us ek vs cz h0 n0 Z0 P6 P7 P8 P9 P3 P4 P10 hz hok rfl) hZ (hw _ (List.mem_of_getElem? (i := 110) rfl)) (hw _ (List.mem_of_getElem? (i := 6) rfl)) (by decide) (by decide)) q247a q247c (g := (mkF m 15 #[rv aa, iv xi, rv ss] [(.int (0 : Int32)), (.int xi), (.ref ea), (.ref ss)])) rfl (by rw [hml]; rfl) (Steps.refl _) (argsL := [(.ref ea), (.int xi), (.int (0 : Int32))]) (rest := []) (lenOf pd12 rfl) rfl (by show 2 * 0 + _ ≤ _; exact Nat.le_of_eq rfl) (hb hby d14_15) (fun _ _ => ⟨rfl, e245, (by decide : 0 + 0 ≤ _), (by decide : 0 + 0 ≤ _)⟩)
  dsimp only [Pt.U, Pt.locs, Pt.cells, Pt.slots] at X247 l247 y247 z247 st247 hQ247
  subst l247 y247 z247
  obtain ⟨rfl, N247, R247_0, R247_1⟩ := hQ247
  have M247 := Fr.app M239 N247
  have g248 : Goes p e below S0 (T247.setTop (mkF m 18 #[rv aa, iv xi, rv ss] [])) := fun t k => g246 t (st247.trans k)
  obtain ⟨fs, hr, hrun, hended, hW, hsame⟩ := X247.leave (v := none) (fun _ => rfl)
  refine ⟨_, _, g248 _ (X247.returnOut hx Bd.returns (hb hby d14_18) hr), hrun, hended, _, _, rfl, ?_, ⟨_, rfl⟩, hW, hsame.mono (by decide) (by decide)⟩
  show Q_put Z aa xi ss ea ek vs sb kb sz us cz h0 n0 _ T247.heap _
  exact ⟨rfl, M247, ((Keep.refl h0 [ea]).trans R247_0 (allS (Or.inl (List.mem_of_getElem? (i := 0) rfl)) all0)), R247_1⟩
theorem d10_0 : decode jdk_68_method_22_code 0 = .ok (.aload_n 1, 1) := by decide +kernel
theorem d10_1 : decode jdk_68_method_22_code 1 = .ok (.ifnonnull 8, 3) := by decide +kernel
theorem d10_4 : decode jdk_68_method_22_code 4 = .ok (.aload_n 0, 1) := by decide +kernel
theorem d10_5 : decode jdk_68_method_22_code 5 = .ok (.invokevirtual 204, 3) := by decide +kernel
theorem d10_8 : decode jdk_68_method_22_code 8 = .ok (.areturn, 1) := by decide +kernel
theorem d10_9 : decode jdk_68_method_22_code 9 = .ok (.aload_n 1, 1) := by decide +kernel
theorem d10_10 : decode jdk_68_method_22_code 10 = .ok (.invokevirtual 32, 3) := by decide +kernel
theorem d10_13 : decode jdk_68_method_22_code 13 = .ok (.istore_n 2, 1) := by decide +kernel
theorem d10_14 : decode jdk_68_method_22_code 14 = .ok (.aload_n 0, 1) := by decide +kernel
theorem d10_15 : decode jdk_68_method_22_code 15 = .ok (.aload_n 0, 1) := by decide +kernel
theorem d10_16 : decode jdk_68_method_22_code 16 = .ok (.getfield 79, 3) := by decide +kernel
theorem d10_19 : decode jdk_68_method_22_code 19 = .ok (.iload_n 2, 1) := by decide +kernel
theorem d10_20 : decode jdk_68_method_22_code 20 = .ok (.iadd, 1) := by decide +kernel
theorem d10_21 : decode jdk_68_method_22_code 21 = .ok (.invokevirtual 100, 3) := by decide +kernel
theorem d10_24 : decode jdk_68_method_22_code 24 = .ok (.aload_n 0, 1) := by decide +kernel
theorem d10_25 : decode jdk_68_method_22_code 25 = .ok (.aload_n 0, 1) := by decide +kernel
theorem d10_26 : decode jdk_68_method_22_code 26 = .ok (.getfield 79, 3) := by decide +kernel
theorem d10_29 : decode jdk_68_method_22_code 29 = .ok (.aload_n 1, 1) := by decide +kernel
theorem d10_30 : decode jdk_68_method_22_code 30 = .ok (.invokevirtual 208, 3) := by decide +kernel
theorem d10_33 : decode jdk_68_method_22_code 33 = .ok (.aload_n 0, 1) := by decide +kernel
theorem d10_34 : decode jdk_68_method_22_code 34 = .ok (.dup, 1) := by decide +kernel
theorem d10_35 : decode jdk_68_method_22_code 35 = .ok (.getfield 79, 3) := by decide +kernel
theorem d10_38 : decode jdk_68_method_22_code 38 = .ok (.iload_n 2, 1) := by decide +kernel
theorem d10_39 : decode jdk_68_method_22_code 39 = .ok (.iadd, 1) := by decide +kernel
theorem d10_40 : decode jdk_68_method_22_code 40 = .ok (.putfield 79, 3) := by decide +kernel
theorem d10_43 : decode jdk_68_method_22_code 43 = .ok (.aload_n 0, 1) := by decide +kernel
theorem d10_44 : decode jdk_68_method_22_code 44 = .ok (.areturn, 1) := by decide +kernel
theorem pd14 : parseMethodDescriptor "(Ljava/lang/String;)Ljava/lang/AbstractStringBuilder;" = some ⟨[(.object "java/lang/String")], some (.object "java/lang/AbstractStringBuilder")⟩ := by decide +kernel
theorem pf_app : plainFor (⟨"java/lang/AbstractStringBuilder", "append", "(Ljava/lang/String;)Ljava/lang/AbstractStringBuilder;"⟩ : MethodName) = true := by first | exact plainFor_of_name (by first | (simp [plainName, overriddenIn, x]; done) | decide +kernel) | exact Jvm.Free.JP.mathPlain rfl (by decide +kernel) | decide +kernel
theorem ef_app (m : MethodId) (aa : Addr) (ss : Addr) : entryFrame m #[(.ref aa), (.ref ss)] 3 = mkF m 0 #[rv aa, rv ss, .unset] [] := by first | (simp [entryFrame, mkF, argsToLocals, Value.category, maxLocals]; done) | rfl
def Q_app (Z : State) (aa : Addr) (ss : Addr) (ea : Addr) (ek : ClassId) (vs : List Value) (xc : Int32) (sb : Addr) (kb : ClassId) (sz : Int32) (us : List Value) (cz : Int32) (h0 : Heap) (n0 : Nat) (v : Option Value) (h : Heap) (L : List Loc) : Prop := v = some (.ref aa) ∧ Fr n0 L ∧ (Keep h0 h [aa, ea]) ∧ (Exa Z h aa "java/lang/StringBuilder") ∧ (Fld Z h aa "java/lang/AbstractStringBuilder" "value" "[B" (.ref ea)) ∧ (Fld Z h aa "java/lang/AbstractStringBuilder" "coder" "B" (.int (0 : Int32))) ∧ (Fld Z h aa "java/lang/AbstractStringBuilder" "count" "I" (.int (xc + sz))) ∧ (Arv Z h ea ek .byte (16 : Int32) (own_app vs xc sz us) (.int (0 : Int32)))
set_option maxRecDepth 65536 in
set_option maxHeartbeats 40000000 in
theorem rm_app (l : Launch) (Z : State) (a0 : Array Value) (hw : ∀ d ∈ tables_1, d.before a0 Z = true) (ws : List Jvm.Cond) (aa : Addr) (ss : Addr) (ea : Addr) (ek : ClassId) (vs : List Value) (xc : Int32) (sb : Addr) (kb : ClassId) (sz : Int32) (us : List Value) (cz : Int32) (h0 : Heap) (n0 : Nat) (Z0 : n0 ≤ h0.size) (P0 : Exa Z h0 aa "java/lang/StringBuilder") (P1 : Fld Z h0 aa "java/lang/AbstractStringBuilder" "value" "[B" (.ref ea)) (P2 : Fld Z h0 aa "java/lang/AbstractStringBuilder" "coder" "B" (.int (0 : Int32))) (P3 : Fld Z h0 aa "java/lang/AbstractStringBuilder" "count" "I" (.int xc)) (P4 : n0 ≤ aa) (P5 : n0 ≤ ea) (P6 : aa ≠ ea) (P7 : Arv Z h0 ea ek .byte (16 : Int32) vs (.int (0 : Int32))) (P8 : Exa Z h0 ss "java/lang/String") (P9 : Fld Z h0 ss "java/lang/String" "value" "[B" (.ref sb)) (P10 : Fld Z h0 ss "java/lang/String" "coder" "B" (.int (0 : Int32))) (P11 : Arv Z h0 sb kb .byte sz us (.int (0 : Int32))) (P12 : Sta Z h0 "java/lang/String" "COMPACT_STRINGS" "Z" (.int cz)) (hz : ¬ cz = 0) (hok : own_ok xc sz us vs)  :
    MetFree l (⟨"java/lang/AbstractStringBuilder", "append", "(Ljava/lang/String;)Ljava/lang/AbstractStringBuilder;"⟩ : MethodName) (head1 (Jvm.Cond.code (⟨"java/lang/AbstractStringBuilder", "append", "(Ljava/lang/String;)Ljava/lang/AbstractStringBuilder;"⟩ : MethodName) jdk_68_method_22_code 3 (some (.object "java/lang/AbstractStringBuilder")) :: ws) ({ frames := 3, cells := 0, slots := 0, locals := 47 } : Room)) (fun a U => a = #[(.ref aa), (.ref ss)] ∧ Z.Warmed39 U.vm ∧ U.heap = h0) (fun _ _ _ _ _ => True) (fun _ U o U' => ∃ v L, o = .returned v ∧ Q_app Z aa ss ea ek vs xc sb kb sz us cz h0 n0 v U'.heap L ∧ FrameEnd U o U' L ({ frames := 3, cells := 0, slots := 0, locals := 47 } : Room).cells ({ frames := 3, cells := 0, slots := 0, locals := 47 } : Room).slots) := by
  refine MetFree.of_bodySF pf_app hisR ?_
  intro p e s m args below meth c s₁ Bd hml0 hP hK
  obtain ⟨rfl, hZ, hh⟩ := hP
  have hx := Bd.exec
  have hby := Bd.bytes
  have hml : c.maxLocals = 3 := hml0
  have hown : s.vm.findClass "java/lang/AbstractStringBuilder" = some m.cls := findClass_of_methodNamed Bd.named
  have hnm := (name_of_methodNamed Bd.named Bd.method).1
  have X0 : Stand p l e ({ frames := 3, cells := 0, slots := 0, locals := 47 } : Room) s m #[(.ref aa), (.ref ss)] below meth c s₁ [] 0 0 := Stand.of_body Bd
  have e0 : s₁.heap = h0 := by rw [← hh, Bd.state]; rfl
  have N0 := Fr.nil n0
  obtain ⟨S0, hS0⟩ : ∃ z, z = s₁.setTop (entryFrame m #[(.ref aa), (.ref ss)] 3) := ⟨_, rfl⟩
  rw [← hS0]
  have g0 : Goes p e below S0 (s₁.setTop (mkF m 0 #[rv aa, rv ss, .unset] [])) := fun t k => by rw [hS0]; exact castTop (ef_app m aa ss) k
  have g249 : Goes p e below S0 (s₁.setTop (mkF m 10 #[rv aa, rv ss, .unset] [(.ref ss)])) := fun t k => g0 t (by
    refine XS.aloadN X0.here hx rfl (hb hby d10_0) rfl rfl ?_
    show Go p e below t s₁ m 1 #[rv aa, rv ss, .unset] [(.ref ss)]
    refine XS.ifnonnullYes X0.here hx rfl (pc0 := 1) (pc' := 9) rfl (hb hby d10_1) rfl (by decide) (by decide) ?_
    show Go p e below t s₁ m 9 #[rv aa, rv ss, .unset] []
    refine XS.aloadN X0.here hx rfl (hb hby d10_9) rfl rfl ?_
    show Go p e below t s₁ m 10 #[rv aa, rv ss, .unset] [(.ref ss)]
    exact k)
  obtain ⟨cq250, kq250, q250a, q250b, q250c⟩ := isOf hZ e0 P8
  obtain ⟨_, _, ⟨T250, L250, k250, n250⟩, -, X250, ⟨Lc250, hQ250, l250, y250, z250⟩, st250⟩ := X0.virtualBack hx (y := (⟨"java/lang/String", "length", "()I"⟩ : MethodName)) (z := (⟨"java/lang/String", "length", "()I"⟩ : MethodName)) hown (mvT hZ (hw _ (List.mem_of_getElem? (i := 77) rfl))) (mvT hZ (hw _ (List.mem_of_getElem? (i := 78) rfl))) (notFace_of_selects (args := #[]) (mvT hZ (hw _ (List.mem_of_getElem? (i := 80) rfl)))) (mvT hZ (hw _ (List.mem_of_getElem? (i := 80) rfl))) (mvT hZ (hw _ (List.mem_of_getElem? (i := 79) rfl))) (by decide) (backOf (W := 0) (rm_len l Z a0 hw [] ss sb kb sz us cz h0 n0 Z0 P8 P9 P10 P11 P12 hz) hZ (hw _ (List.mem_of_getElem? (i := 81) rfl)) (hw _ (List.mem_of_getElem? (i := 6) rfl)) (by decide) (by decide)) q250a q250c (g := (mkF m 10 #[rv aa, rv ss, .unset] [(.ref ss)])) rfl (by rw [hml]; rfl) (Steps.refl _) (argsL := []) (rest := []) (lenOf pd1 rfl) rfl (by show 2 * 0 + _ ≤ _; exact Nat.le_of_eq rfl) (hb hby d10_10) (fun _ _ => ⟨rfl, e0, (by decide : 0 + 0 ≤ _), (by decide : 0 + 0 ≤ _)⟩)
  dsimp only [Pt.U, Pt.locs, Pt.cells, Pt.slots] at X250 l250 y250 z250 st250 hQ250
  subst l250 y250 z250
  obtain ⟨rfl, N250, R250_0⟩ := hQ250
  have M250 := Fr.app N0 N250
  have g251 : Goes p e below S0 (T250.setTop (mkF m 13 #[rv aa, rv ss, .unset] [(.int sz)])) := fun t k => g249 t (st250.trans k)
  have g252 : Goes p e below S0 (T250.setTop (mkF m 16 #[rv aa, rv ss, iv sz] [(.ref aa), (.ref aa)])) := fun t k => g251 t (by
    refine XS.istoreN X250.here hx rfl (hb hby d10_13) rfl (l' := #[rv aa, rv ss, iv sz]) rfl ?_
    show Go p e below t T250 m 14 #[rv aa, rv ss, iv sz] []
    refine XS.aloadN X250.here hx rfl (hb hby d10_14) rfl rfl ?_
    show Go p e below t T250 m 15 #[rv aa, rv ss, iv sz] [(.ref aa)]
    refine XS.aloadN X250.here hx rfl (hb hby d10_15) rfl rfl ?_
    show Go p e below t T250 m 16 #[rv aa, rv ss, iv sz] [(.ref aa), (.ref aa)]
    exact k)
  obtain ⟨T253, X253, e253, st253⟩ := getF X250 hx hZ hown (host := "") (Or.inl (hw _ (List.mem_of_getElem? (i := 88) rfl))) Via.refl R250_0 P3 (g := (mkF m 16 #[rv aa, rv ss, iv sz] [(.ref aa), (.ref aa)])) rfl rfl (hb hby d10_16)
  have g254 : Goes p e below S0 (T253.setTop (mkF m 19 #[rv aa, rv ss, iv sz] [(.int xc), (.ref aa)])) := fun t k => g252 t (st253 t k)
  have g255 : Goes p e below S0 (T253.setTop (mkF m 21 #[rv aa, rv ss, iv sz] [(.int (xc + sz)), (.ref aa)])) := fun t k => g254 t (by
    refine XS.iloadN X253.here hx rfl (hb hby d10_19) rfl ?_
    show Go p e below t T253 m 20 #[rv aa, rv ss, iv sz] [(.int sz), (.int xc), (.ref aa)]
    refine XS.iadd X253.here hx rfl (hb hby d10_20) rfl ?_
    show Go p e below t T253 m 21 #[rv aa, rv ss, iv sz] [(.int (xc + sz)), (.ref aa)]
    exact k)
  obtain ⟨cq256, q256, q256b⟩ := Exa.cell P0
  obtain ⟨_, _, ⟨T256, L256, k256, n256⟩, -, X256, ⟨Lc256, hQ256, l256, y256, z256⟩, st256⟩ := X253.privateBack hx (y := (⟨"java/lang/AbstractStringBuilder", "ensureCapacityInternal", "(I)V"⟩ : MethodName)) hown (mvT hZ (hw _ (List.mem_of_getElem? (i := 90) rfl))) (mvT hZ (hw _ (List.mem_of_getElem? (i := 91) rfl))) (own_selp (mvT hZ (hw _ (List.mem_of_getElem? (i := 93) rfl))) rfl (Cond.privateMethod_at (mvP hZ (hw _ (List.mem_of_getElem? (i := 92) rfl)) (args := #[]))) (mvT hZ (hw _ (List.mem_of_getElem? (i := 91) rfl))) (by decide)) (Cond.privateMethod_at (mvP hZ (hw _ (List.mem_of_getElem? (i := 92) rfl)) (args := #[]))) (mvT hZ (hw _ (List.mem_of_getElem? (i := 94) rfl))) (by decide) (backOf (W := 0) (rm_ens l Z a0 hw [] aa (xc + sz) ea ek vs h0 n0 Z0 P1 P2 P7 hok.2.2.2.2.2) hZ (hw _ (List.mem_of_getElem? (i := 94) rfl)) (hw _ (List.mem_of_getElem? (i := 59) rfl)) (by decide) (by decide)) (g := (mkF m 21 #[rv aa, rv ss, iv sz] [(.int (xc + sz)), (.ref aa)])) rfl (by rw [hml]; rfl) (Steps.refl _) (a := aa) (by rw [e253]; exact q256) q256b (argsL := [(.int (xc + sz))]) (rest := []) (lenOf pd10 rfl) rfl (by show 2 * 0 + _ ≤ _; exact Nat.le_of_eq rfl) (hb hby d10_21) (fun _ _ => ⟨rfl, e253, (by decide : 0 + 0 ≤ _), (by decide : 0 + 0 ≤ _)⟩)
  dsimp only [Pt.U, Pt.locs, Pt.cells, Pt.slots] at X256 l256 y256 z256 st256 hQ256
  subst l256 y256 z256
  obtain ⟨rfl, N256, R256_0⟩ := hQ256
  have M256 := Fr.app M250 N256
  have g257 : Goes p e below S0 (T256.setTop (mkF m 24 #[rv aa, rv ss, iv sz] [])) := fun t k => g255 t (st256.trans k)
  have g258 : Goes p e below S0 (T256.setTop (mkF m 26 #[rv aa, rv ss, iv sz] [(.ref aa), (.ref aa)])) := fun t k => g257 t (by
    refine XS.aloadN X256.here hx rfl (hb hby d10_24) rfl rfl ?_
    show Go p e below t T256 m 25 #[rv aa, rv ss, iv sz] [(.ref aa)]
    refine XS.aloadN X256.here hx rfl (hb hby d10_25) rfl rfl ?_
    show Go p e below t T256 m 26 #[rv aa, rv ss, iv sz] [(.ref aa), (.ref aa)]
    exact k)
  obtain ⟨T259, X259, e259, st259⟩ := getF X256 hx hZ hown (host := "") (Or.inl (hw _ (List.mem_of_getElem? (i := 88) rfl))) Via.refl R256_0 P3 (g := (mkF m 26 #[rv aa, rv ss, iv sz] [(.ref aa), (.ref aa)])) rfl rfl (hb hby d10_26)
  have g260 : Goes p e below S0 (T259.setTop (mkF m 29 #[rv aa, rv ss, iv sz] [(.int xc), (.ref aa)])) := fun t k => g258 t (st259 t k)
  have g261 : Goes p e below S0 (T259.setTop (mkF m 30 #[rv aa, rv ss, iv sz] [(.ref ss), (.int xc), (.ref aa)])) := fun t k => g260 t (by
    refine XS.aloadN X259.here hx rfl (hb hby d10_29) rfl rfl ?_
    show Go p e below t T259 m 30 #[rv aa, rv ss, iv sz] [(.ref ss), (.int xc), (.ref aa)]
    exact k)
  obtain ⟨cq262, q262, q262b⟩ := Exa.cell P0
  obtain ⟨_, _, ⟨T262, L262, k262, n262⟩, -, X262, ⟨Lc262, hQ262, l262, y262, z262⟩, st262⟩ := X259.privateBack hx (y := (⟨"java/lang/AbstractStringBuilder", "putStringAt", "(ILjava/lang/String;)V"⟩ : MethodName)) hown (mvT hZ (hw _ (List.mem_of_getElem? (i := 95) rfl))) (mvT hZ (hw _ (List.mem_of_getElem? (i := 96) rfl))) (own_selp (mvT hZ (hw _ (List.mem_of_getElem? (i := 93) rfl))) rfl (Cond.privateMethod_at (mvP hZ (hw _ (List.mem_of_getElem? (i := 97) rfl)) (args := #[]))) (mvT hZ (hw _ (List.mem_of_getElem? (i := 96) rfl))) (by decide)) (Cond.privateMethod_at (mvP hZ (hw _ (List.mem_of_getElem? (i := 97) rfl)) (args := #[]))) (mvT hZ (hw _ (List.mem_of_getElem? (i := 99) rfl))) (by decide) (backOf (W := 0) (rm_put l Z a0 hw [] aa xc ss ea ek vs sb kb sz us cz h0 n0 Z0 P0 P1 P2 P7 P5 P6 P8 P9 P10 P11 P12 hz hok) hZ (hw _ (List.mem_of_getElem? (i := 99) rfl)) (hw _ (List.mem_of_getElem? (i := 59) rfl)) (by decide) (by decide)) (g := (mkF m 30 #[rv aa, rv ss, iv sz] [(.ref ss), (.int xc), (.ref aa)])) rfl (by rw [hml]; rfl) (Steps.refl _) (a := aa) (by rw [e259]; exact q262) q262b (argsL := [(.int xc), (.ref ss)]) (rest := []) (lenOf pd13 rfl) rfl (by show 2 * 0 + _ ≤ _; exact Nat.le_of_eq rfl) (hb hby d10_30) (fun _ _ => ⟨rfl, e259, (by decide : 0 + 0 ≤ _), (by decide : 0 + 0 ≤ _)⟩)
  dsimp only [Pt.U, Pt.locs, Pt.cells, Pt.slots] at X262 l262 y262 z262 st262 hQ262
  subst l262 y262 z262
  obtain ⟨rfl, N262, R262_0, R262_1⟩ := hQ262
  have M262 := Fr.app M256 N262
  have g263 : Goes p e below S0 (T262.setTop (mkF m 33 #[rv aa, rv ss, iv sz] [])) := fun t k => g261 t (st262.trans k)
  have g264 : Goes p e below S0 (T262.setTop (mkF m 35 #[rv aa, rv ss, iv sz] [(.ref aa), (.ref aa)])) := fun t k => g263 t (by
    refine XS.aloadN X262.here hx rfl (hb hby d10_33) rfl rfl ?_
    show Go p e below t T262 m 34 #[rv aa, rv ss, iv sz] [(.ref aa)]
    refine XS.dup X262.here hx rfl (hb hby d10_34) rfl rfl ?_
    show Go p e below t T262 m 35 #[rv aa, rv ss, iv sz] [(.ref aa), (.ref aa)]
    exact k)
  obtain ⟨T265, X265, e265, st265⟩ := getF X262 hx hZ hown (host := "") (Or.inl (hw _ (List.mem_of_getElem? (i := 88) rfl))) Via.refl rfl (P3.keep R262_0 (ninS P6 nin0)) (g := (mkF m 35 #[rv aa, rv ss, iv sz] [(.ref aa), (.ref aa)])) rfl rfl (hb hby d10_35)
  have g266 : Goes p e below S0 (T265.setTop (mkF m 38 #[rv aa, rv ss, iv sz] [(.int xc), (.ref aa)])) := fun t k => g264 t (st265 t k)
  have g267 : Goes p e below S0 (T265.setTop (mkF m 40 #[rv aa, rv ss, iv sz] [(.int (xc + sz)), (.ref aa)])) := fun t k => g266 t (by
    refine XS.iloadN X265.here hx rfl (hb hby d10_38) rfl ?_
    show Go p e below t T265 m 39 #[rv aa, rv ss, iv sz] [(.int sz), (.int xc), (.ref aa)]
    refine XS.iadd X265.here hx rfl (hb hby d10_39) rfl ?_
    show Go p e below t T265 m 40 #[rv aa, rv ss, iv sz] [(.int (xc + sz)), (.ref aa)]
    exact k)
  obtain ⟨T268, h268, X268, e268, W268, st268⟩ := putF X265 hx hZ hown (host := "") (Or.inl (hw _ (List.mem_of_getElem? (i := 88) rfl))) Via.refl e265 (P3.keep R262_0 (ninS P6 nin0)) (P0.keep R262_0) (Or.inl (hw _ (List.mem_of_getElem? (i := 89) rfl))) (hw _ (List.mem_of_getElem? (i := 50) rfl)) (ty := .int) (by decide) rfl rfl (g := (mkF m 40 #[rv aa, rv ss, iv sz] [(.int (xc + sz)), (.ref aa)])) rfl rfl (hb hby d10_40)
  have N268 := Fr.snoc X268 M262 P4
  have Fw268 := Fld.same W268 (P3.keep R262_0 (ninS P6 nin0))
  have g269 : Goes p e below S0 (T268.setTop (mkF m 43 #[rv aa, rv ss, iv sz] [])) := fun t k => g267 t (st268 t k)
  have g270 : Goes p e below S0 (T268.setTop (mkF m 44 #[rv aa, rv ss, iv sz] [(.ref aa)])) := fun t k => g269 t (by
    refine XS.aloadN X268.here hx rfl (hb hby d10_43) rfl rfl ?_
    show Go p e below t T268 m 44 #[rv aa, rv ss, iv sz] [(.ref aa)]
    exact k)
  obtain ⟨fs, hr, hrun, hended, hW, hsame⟩ := X268.leave (v := some (.ref aa)) (fun h => by rw [Bd.returns] at h; cases h)
  refine ⟨_, _, g270 _ (retOut X268 hx Bd.returns rfl (Or.inr (Or.inr (Or.inr (Or.inr ⟨rfl, rfl, rfl⟩)))) (hb hby d10_44) hr), hrun, hended, _, _, rfl, ?_, ⟨_, rfl⟩, hW, hsame.mono (by decide) (by decide)⟩
  show Q_app Z aa ss ea ek vs xc sb kb sz us cz h0 n0 _ T268.heap _
  rw [e268]
  exact ⟨rfl, N268, (((Keep.refl h0 [aa, ea]).trans R262_0 (allS (Or.inl (List.mem_of_getElem? (i := 1) rfl)) all0)).wr W268 (Or.inl (List.mem_of_getElem? (i := 0) rfl))), ((P0.keep R262_0).wr W268), ((P1.keep R262_0 (ninS P6 nin0)).other W268 (Or.inr (slot_ne (Or.inl (hw _ (List.mem_of_getElem? (i := 64) rfl))) (Or.inl (hw _ (List.mem_of_getElem? (i := 89) rfl))) (by decide) (t := (.array .byte)) (t' := .int) (by decide) (by decide)))), ((P2.keep R262_0 (ninS P6 nin0)).other W268 (Or.inr (slot_ne (Or.inl (hw _ (List.mem_of_getElem? (i := 66) rfl))) (Or.inl (hw _ (List.mem_of_getElem? (i := 89) rfl))) (by decide) (t := .byte) (t' := .int) (by decide) (by decide)))), Fw268, (R262_1.other W268 (Ne.symm P6))⟩
theorem d9_0 : decode jdk_67_method_7_code 0 = .ok (.aload_n 0, 1) := by decide +kernel
theorem d9_1 : decode jdk_67_method_7_code 1 = .ok (.aload_n 1, 1) := by decide +kernel
theorem d9_2 : decode jdk_67_method_7_code 2 = .ok (.invokespecial 29, 3) := by decide +kernel
theorem d9_5 : decode jdk_67_method_7_code 5 = .ok (.pop, 1) := by decide +kernel
theorem d9_6 : decode jdk_67_method_7_code 6 = .ok (.aload_n 0, 1) := by decide +kernel
theorem d9_7 : decode jdk_67_method_7_code 7 = .ok (.areturn, 1) := by decide +kernel
theorem pd15 : parseMethodDescriptor "(Ljava/lang/String;)Ljava/lang/StringBuilder;" = some ⟨[(.object "java/lang/String")], some (.object "java/lang/StringBuilder")⟩ := by decide +kernel
theorem pf_sap : plainFor (⟨"java/lang/StringBuilder", "append", "(Ljava/lang/String;)Ljava/lang/StringBuilder;"⟩ : MethodName) = true := by first | exact plainFor_of_name (by first | (simp [plainName, overriddenIn, x]; done) | decide +kernel) | exact Jvm.Free.JP.mathPlain rfl (by decide +kernel) | decide +kernel
theorem ef_sap (m : MethodId) (aa : Addr) (ss : Addr) : entryFrame m #[(.ref aa), (.ref ss)] 2 = mkF m 0 #[rv aa, rv ss] [] := by first | (simp [entryFrame, mkF, argsToLocals, Value.category, maxLocals]; done) | rfl
def Q_sap (Z : State) (aa : Addr) (ss : Addr) (ea : Addr) (ek : ClassId) (vs : List Value) (xc : Int32) (sb : Addr) (kb : ClassId) (sz : Int32) (us : List Value) (cz : Int32) (h0 : Heap) (n0 : Nat) (v : Option Value) (h : Heap) (L : List Loc) : Prop := v = some (.ref aa) ∧ Fr n0 L ∧ (Keep h0 h [aa, ea]) ∧ (Exa Z h aa "java/lang/StringBuilder") ∧ (Fld Z h aa "java/lang/AbstractStringBuilder" "value" "[B" (.ref ea)) ∧ (Fld Z h aa "java/lang/AbstractStringBuilder" "coder" "B" (.int (0 : Int32))) ∧ (Fld Z h aa "java/lang/AbstractStringBuilder" "count" "I" (.int (xc + sz))) ∧ (Arv Z h ea ek .byte (16 : Int32) (own_app vs xc sz us) (.int (0 : Int32)))
set_option maxRecDepth 65536 in
set_option maxHeartbeats 40000000 in
theorem rm_sap (l : Launch) (Z : State) (a0 : Array Value) (hw : ∀ d ∈ tables_1, d.before a0 Z = true) (ws : List Jvm.Cond) (aa : Addr) (ss : Addr) (ea : Addr) (ek : ClassId) (vs : List Value) (xc : Int32) (sb : Addr) (kb : ClassId) (sz : Int32) (us : List Value) (cz : Int32) (h0 : Heap) (n0 : Nat) (Z0 : n0 ≤ h0.size) (P0 : Exa Z h0 aa "java/lang/StringBuilder") (P1 : Fld Z h0 aa "java/lang/AbstractStringBuilder" "value" "[B" (.ref ea)) (P2 : Fld Z h0 aa "java/lang/AbstractStringBuilder" "coder" "B" (.int (0 : Int32))) (P3 : Fld Z h0 aa "java/lang/AbstractStringBuilder" "count" "I" (.int xc)) (P4 : n0 ≤ aa) (P5 : n0 ≤ ea) (P6 : aa ≠ ea) (P7 : Arv Z h0 ea ek .byte (16 : Int32) vs (.int (0 : Int32))) (P8 : Exa Z h0 ss "java/lang/String") (P9 : Fld Z h0 ss "java/lang/String" "value" "[B" (.ref sb)) (P10 : Fld Z h0 ss "java/lang/String" "coder" "B" (.int (0 : Int32))) (P11 : Arv Z h0 sb kb .byte sz us (.int (0 : Int32))) (P12 : Sta Z h0 "java/lang/String" "COMPACT_STRINGS" "Z" (.int cz)) (hz : ¬ cz = 0) (hok : own_ok xc sz us vs)  :
    MetFree l (⟨"java/lang/StringBuilder", "append", "(Ljava/lang/String;)Ljava/lang/StringBuilder;"⟩ : MethodName) (head1 (Jvm.Cond.code (⟨"java/lang/StringBuilder", "append", "(Ljava/lang/String;)Ljava/lang/StringBuilder;"⟩ : MethodName) jdk_67_method_7_code 2 (some (.object "java/lang/StringBuilder")) :: ws) ({ frames := 4, cells := 0, slots := 0, locals := 61 } : Room)) (fun a U => a = #[(.ref aa), (.ref ss)] ∧ Z.Warmed39 U.vm ∧ U.heap = h0) (fun _ _ _ _ _ => True) (fun _ U o U' => ∃ v L, o = .returned v ∧ Q_sap Z aa ss ea ek vs xc sb kb sz us cz h0 n0 v U'.heap L ∧ FrameEnd U o U' L ({ frames := 4, cells := 0, slots := 0, locals := 61 } : Room).cells ({ frames := 4, cells := 0, slots := 0, locals := 61 } : Room).slots) := by
  refine MetFree.of_bodySF pf_sap hisR ?_
  intro p e s m args below meth c s₁ Bd hml0 hP hK
  obtain ⟨rfl, hZ, hh⟩ := hP
  have hx := Bd.exec
  have hby := Bd.bytes
  have hml : c.maxLocals = 2 := hml0
  have hown : s.vm.findClass "java/lang/StringBuilder" = some m.cls := findClass_of_methodNamed Bd.named
  have hnm := (name_of_methodNamed Bd.named Bd.method).1
  have X0 : Stand p l e ({ frames := 4, cells := 0, slots := 0, locals := 61 } : Room) s m #[(.ref aa), (.ref ss)] below meth c s₁ [] 0 0 := Stand.of_body Bd
  have e0 : s₁.heap = h0 := by rw [← hh, Bd.state]; rfl
  have N0 := Fr.nil n0
  obtain ⟨S0, hS0⟩ : ∃ z, z = s₁.setTop (entryFrame m #[(.ref aa), (.ref ss)] 2) := ⟨_, rfl⟩
  rw [← hS0]
  have g0 : Goes p e below S0 (s₁.setTop (mkF m 0 #[rv aa, rv ss] [])) := fun t k => by rw [hS0]; exact castTop (ef_sap m aa ss) k
  have g271 : Goes p e below S0 (s₁.setTop (mkF m 2 #[rv aa, rv ss] [(.ref ss), (.ref aa)])) := fun t k => g0 t (by
    refine XS.aloadN X0.here hx rfl (hb hby d9_0) rfl rfl ?_
    show Go p e below t s₁ m 1 #[rv aa, rv ss] [(.ref aa)]
    refine XS.aloadN X0.here hx rfl (hb hby d9_1) rfl rfl ?_
    show Go p e below t s₁ m 2 #[rv aa, rv ss] [(.ref ss), (.ref aa)]
    exact k)
  obtain ⟨_, _, ⟨T272, L272, k272, n272⟩, -, X272, ⟨Lc272, hQ272, l272, y272, z272⟩, st272⟩ := superBack X0 hx hZ (y := (⟨"java/lang/AbstractStringBuilder", "append", "(Ljava/lang/String;)Ljava/lang/AbstractStringBuilder;"⟩ : MethodName)) hown (hw _ (List.mem_of_getElem? (i := 72) rfl)) (own_same (hw _ (List.mem_of_getElem? (i := 73) rfl)) (hw _ (List.mem_of_getElem? (i := 93) rfl)) rfl (by decide)) (hw _ (List.mem_of_getElem? (i := 73) rfl)) (hw _ (List.mem_of_getElem? (i := 74) rfl)) (by decide) (backOf (W := 0) (rm_app l Z a0 hw [] aa ss ea ek vs xc sb kb sz us cz h0 n0 Z0 P0 P1 P2 P3 P4 P5 P6 P7 P8 P9 P10 P11 P12 hz hok) hZ (hw _ (List.mem_of_getElem? (i := 76) rfl)) (hw _ (List.mem_of_getElem? (i := 59) rfl)) (by decide) (by decide)) e0 (Ins.of_exa P0 (hw _ (List.mem_of_getElem? (i := 58) rfl))) (g := (mkF m 2 #[rv aa, rv ss] [(.ref ss), (.ref aa)])) rfl (by rw [hml]; rfl) (hw _ (List.mem_of_getElem? (i := 76) rfl)) (argsL := [(.ref ss)]) (rest := []) (lenOf pd14 rfl) rfl (by show 2 * 0 + _ ≤ _; exact Nat.le_of_eq rfl) (hb hby d9_2) (fun _ _ => ⟨rfl, e0, (by decide : 0 + 0 ≤ _), (by decide : 0 + 0 ≤ _)⟩)
  dsimp only [Pt.U, Pt.locs, Pt.cells, Pt.slots] at X272 l272 y272 z272 st272 hQ272
  subst l272 y272 z272
  obtain ⟨rfl, N272, R272_0, R272_1, R272_2, R272_3, R272_4, R272_5⟩ := hQ272
  have M272 := Fr.app N0 N272
  have g273 : Goes p e below S0 (T272.setTop (mkF m 5 #[rv aa, rv ss] [(.ref aa)])) := fun t k => g271 t (st272.trans k)
  have g274 : Goes p e below S0 (T272.setTop (mkF m 7 #[rv aa, rv ss] [(.ref aa)])) := fun t k => g273 t (by
    refine XS.pop X272.here hx rfl (hb hby d9_5) rfl rfl ?_
    show Go p e below t T272 m 6 #[rv aa, rv ss] []
    refine XS.aloadN X272.here hx rfl (hb hby d9_6) rfl rfl ?_
    show Go p e below t T272 m 7 #[rv aa, rv ss] [(.ref aa)]
    exact k)
  obtain ⟨fs, hr, hrun, hended, hW, hsame⟩ := X272.leave (v := some (.ref aa)) (fun h => by rw [Bd.returns] at h; cases h)
  refine ⟨_, _, g274 _ (retOut X272 hx Bd.returns rfl (Or.inr (Or.inr (Or.inr (Or.inr ⟨rfl, rfl, rfl⟩)))) (hb hby d9_7) hr), hrun, hended, _, _, rfl, ?_, ⟨_, rfl⟩, hW, hsame.mono (by decide) (by decide)⟩
  show Q_sap Z aa ss ea ek vs xc sb kb sz us cz h0 n0 _ T272.heap _
  exact ⟨rfl, M272, ((Keep.refl h0 [aa, ea]).trans R272_0 (allS (Or.inl (List.mem_of_getElem? (i := 0) rfl)) (allS (Or.inl (List.mem_of_getElem? (i := 1) rfl)) all0))), R272_1, R272_2, R272_3, R272_4, R272_5⟩
theorem d23_0 : decode jdk_68_method_68_code 0 = .ok (.getstatic 18, 3) := by decide +kernel
theorem d23_3 : decode jdk_68_method_68_code 3 = .ok (.ifCond .eq 14, 3) := by decide +kernel
theorem d23_6 : decode jdk_68_method_68_code 6 = .ok (.aload_n 0, 1) := by decide +kernel
theorem d23_7 : decode jdk_68_method_68_code 7 = .ok (.getfield 22, 3) := by decide +kernel
theorem d23_10 : decode jdk_68_method_68_code 10 = .ok (.ifCond .ne 7, 3) := by decide +kernel
theorem d23_13 : decode jdk_68_method_68_code 13 = .ok (.iconst 1, 1) := by decide +kernel
theorem d23_14 : decode jdk_68_method_68_code 14 = .ok (.goto 4, 3) := by decide +kernel
theorem d23_17 : decode jdk_68_method_68_code 17 = .ok (.iconst 0, 1) := by decide +kernel
theorem d23_18 : decode jdk_68_method_68_code 18 = .ok (.ireturn, 1) := by decide +kernel
theorem pd16 : parseMethodDescriptor "()Z" = some ⟨[], some .boolean⟩ := by decide +kernel
theorem pf_isl : plainFor (⟨"java/lang/AbstractStringBuilder", "isLatin1", "()Z"⟩ : MethodName) = true := by first | exact plainFor_of_name (by first | (simp [plainName, overriddenIn, x]; done) | decide +kernel) | exact Jvm.Free.JP.mathPlain rfl (by decide +kernel) | decide +kernel
theorem ef_isl (m : MethodId) (aa : Addr) : entryFrame m #[(.ref aa)] 1 = mkF m 0 #[rv aa] [] := by first | (simp [entryFrame, mkF, argsToLocals, Value.category, maxLocals]; done) | rfl
def Q_isl (Z : State) (aa : Addr) (cz : Int32) (h0 : Heap) (n0 : Nat) (v : Option Value) (h : Heap) (L : List Loc) : Prop := v = some (.int (1 : Int32)) ∧ Fr n0 L ∧ h = h0
set_option maxRecDepth 65536 in
set_option maxHeartbeats 40000000 in
theorem rm_isl (l : Launch) (Z : State) (a0 : Array Value) (hw : ∀ d ∈ tables_1, d.before a0 Z = true) (ws : List Jvm.Cond) (aa : Addr) (cz : Int32) (h0 : Heap) (n0 : Nat) (Z0 : n0 ≤ h0.size) (P0 : Fld Z h0 aa "java/lang/AbstractStringBuilder" "coder" "B" (.int (0 : Int32))) (P1 : Sta Z h0 "java/lang/String" "COMPACT_STRINGS" "Z" (.int cz)) (hz : ¬ cz = 0)  :
    MetFree l (⟨"java/lang/AbstractStringBuilder", "isLatin1", "()Z"⟩ : MethodName) (head1 (Jvm.Cond.code (⟨"java/lang/AbstractStringBuilder", "isLatin1", "()Z"⟩ : MethodName) jdk_68_method_68_code 1 (some .boolean) :: ws) ({ frames := 0, cells := 0, slots := 0, locals := 0 } : Room)) (fun a U => a = #[(.ref aa)] ∧ Z.Warmed39 U.vm ∧ U.heap = h0) (fun _ _ _ _ _ => True) (fun _ U o U' => ∃ v L, o = .returned v ∧ Q_isl Z aa cz h0 n0 v U'.heap L ∧ FrameEnd U o U' L ({ frames := 0, cells := 0, slots := 0, locals := 0 } : Room).cells ({ frames := 0, cells := 0, slots := 0, locals := 0 } : Room).slots) := by
  refine MetFree.of_bodySF pf_isl hisR ?_
  intro p e s m args below meth c s₁ Bd hml0 hP hK
  obtain ⟨rfl, hZ, hh⟩ := hP
  have hx := Bd.exec
  have hby := Bd.bytes
  have hml : c.maxLocals = 1 := hml0
  have hown : s.vm.findClass "java/lang/AbstractStringBuilder" = some m.cls := findClass_of_methodNamed Bd.named
  have hnm := (name_of_methodNamed Bd.named Bd.method).1
  have X0 : Stand p l e ({ frames := 0, cells := 0, slots := 0, locals := 0 } : Room) s m #[(.ref aa)] below meth c s₁ [] 0 0 := Stand.of_body Bd
  have e0 : s₁.heap = h0 := by rw [← hh, Bd.state]; rfl
  have N0 := Fr.nil n0
  obtain ⟨S0, hS0⟩ : ∃ z, z = s₁.setTop (entryFrame m #[(.ref aa)] 1) := ⟨_, rfl⟩
  rw [← hS0]
  have g0 : Goes p e below S0 (s₁.setTop (mkF m 0 #[rv aa] [])) := fun t k => by rw [hS0]; exact castTop (ef_isl m aa) k
  obtain ⟨T275, X275, e275, st275⟩ := getS (host := "") X0 hx hZ hown (hw _ (List.mem_of_getElem? (i := 62) rfl)) Via.refl e0 P1 (g := (mkF m 0 #[rv aa] [])) rfl (hb hby d23_0)
  have g276 : Goes p e below S0 (T275.setTop (mkF m 3 #[rv aa] [(.int cz)])) := fun t k => g0 t (st275 t k)
  have g277 : Goes p e below S0 (T275.setTop (mkF m 7 #[rv aa] [(.ref aa)])) := fun t k => g276 t (by
    refine XS.ifNo X275.here hx rfl (hb hby d23_3) rfl (XT.i0_eq_f hz) ?_
    show Go p e below t T275 m 6 #[rv aa] []
    refine XS.aloadN X275.here hx rfl (hb hby d23_6) rfl rfl ?_
    show Go p e below t T275 m 7 #[rv aa] [(.ref aa)]
    exact k)
  obtain ⟨T278, X278, e278, st278⟩ := getF X275 hx hZ hown (host := "") (Or.inl (hw _ (List.mem_of_getElem? (i := 65) rfl))) Via.refl e275 P0 (g := (mkF m 7 #[rv aa] [(.ref aa)])) rfl rfl (hb hby d23_7)
  have g279 : Goes p e below S0 (T278.setTop (mkF m 10 #[rv aa] [(.int (0 : Int32))])) := fun t k => g277 t (st278 t k)
  have g280 : Goes p e below S0 (T278.setTop (mkF m 18 #[rv aa] [(.int (1 : Int32))])) := fun t k => g279 t (by
    refine XS.ifNo X278.here hx rfl (hb hby d23_10) rfl (XT.i0_ne_f (by decide)) ?_
    show Go p e below t T278 m 13 #[rv aa] []
    refine XT.iconstV X278.here hx rfl (1 : Int32) (hb hby d23_13) (by decide) ?_
    show Go p e below t T278 m 14 #[rv aa] [(.int (1 : Int32))]
    refine XS.goto X278.here hx rfl (pc0 := 14) (pc' := 18) rfl (hb hby d23_14) (by decide) (by decide) ?_
    show Go p e below t T278 m 18 #[rv aa] [(.int (1 : Int32))]
    exact k)
  obtain ⟨fs, hr, hrun, hended, hW, hsame⟩ := X278.leave (v := some (.int (1 : Int32))) (fun h => by rw [Bd.returns] at h; cases h)
  refine ⟨_, _, g280 _ (retN X278 hx (t := .boolean) Bd.returns (by simp) (hb hby d23_18) hr), hrun, hended, _, _, rfl, ?_, ⟨_, rfl⟩, hW, hsame.mono (by decide) (by decide)⟩
  show Q_isl Z aa cz h0 n0 _ T278.heap _
  rw [e278]
  exact ⟨rfl, N0, rfl⟩
theorem d20_0 : decode jdk_68_method_64_code 0 = .ok (.aload_n 0, 1) := by decide +kernel
theorem d20_1 : decode jdk_68_method_64_code 1 = .ok (.getfield 15, 3) := by decide +kernel
theorem d20_4 : decode jdk_68_method_64_code 4 = .ok (.areturn, 1) := by decide +kernel
theorem pd17 : parseMethodDescriptor "()[B" = some ⟨[], some (.array .byte)⟩ := by decide +kernel
theorem pf_gvl : plainFor (⟨"java/lang/AbstractStringBuilder", "getValue", "()[B"⟩ : MethodName) = true := by first | exact plainFor_of_name (by first | (simp [plainName, overriddenIn, x]; done) | decide +kernel) | exact Jvm.Free.JP.mathPlain rfl (by decide +kernel) | decide +kernel
theorem ef_gvl (m : MethodId) (aa : Addr) : entryFrame m #[(.ref aa)] 1 = mkF m 0 #[rv aa] [] := by first | (simp [entryFrame, mkF, argsToLocals, Value.category, maxLocals]; done) | rfl
def Q_gvl (Z : State) (aa : Addr) (ea : Addr) (h0 : Heap) (n0 : Nat) (v : Option Value) (h : Heap) (L : List Loc) : Prop := v = some (.ref ea) ∧ Fr n0 L ∧ h = h0
set_option maxRecDepth 65536 in
set_option maxHeartbeats 40000000 in
theorem rm_gvl (l : Launch) (Z : State) (a0 : Array Value) (hw : ∀ d ∈ tables_1, d.before a0 Z = true) (ws : List Jvm.Cond) (aa : Addr) (ea : Addr) (h0 : Heap) (n0 : Nat) (Z0 : n0 ≤ h0.size) (P0 : Fld Z h0 aa "java/lang/AbstractStringBuilder" "value" "[B" (.ref ea))  :
    MetFree l (⟨"java/lang/AbstractStringBuilder", "getValue", "()[B"⟩ : MethodName) (head1 (Jvm.Cond.code (⟨"java/lang/AbstractStringBuilder", "getValue", "()[B"⟩ : MethodName) jdk_68_method_64_code 1 (some (.array .byte)) :: ws) ({ frames := 0, cells := 0, slots := 0, locals := 0 } : Room)) (fun a U => a = #[(.ref aa)] ∧ Z.Warmed39 U.vm ∧ U.heap = h0) (fun _ _ _ _ _ => True) (fun _ U o U' => ∃ v L, o = .returned v ∧ Q_gvl Z aa ea h0 n0 v U'.heap L ∧ FrameEnd U o U' L ({ frames := 0, cells := 0, slots := 0, locals := 0 } : Room).cells ({ frames := 0, cells := 0, slots := 0, locals := 0 } : Room).slots) := by
  refine MetFree.of_bodySF pf_gvl hisR ?_
  intro p e s m args below meth c s₁ Bd hml0 hP hK
  obtain ⟨rfl, hZ, hh⟩ := hP
  have hx := Bd.exec
  have hby := Bd.bytes
  have hml : c.maxLocals = 1 := hml0
  have hown : s.vm.findClass "java/lang/AbstractStringBuilder" = some m.cls := findClass_of_methodNamed Bd.named
  have hnm := (name_of_methodNamed Bd.named Bd.method).1
  have X0 : Stand p l e ({ frames := 0, cells := 0, slots := 0, locals := 0 } : Room) s m #[(.ref aa)] below meth c s₁ [] 0 0 := Stand.of_body Bd
  have e0 : s₁.heap = h0 := by rw [← hh, Bd.state]; rfl
  have N0 := Fr.nil n0
  obtain ⟨S0, hS0⟩ : ∃ z, z = s₁.setTop (entryFrame m #[(.ref aa)] 1) := ⟨_, rfl⟩
  rw [← hS0]
  have g0 : Goes p e below S0 (s₁.setTop (mkF m 0 #[rv aa] [])) := fun t k => by rw [hS0]; exact castTop (ef_gvl m aa) k
  have g281 : Goes p e below S0 (s₁.setTop (mkF m 1 #[rv aa] [(.ref aa)])) := fun t k => g0 t (by
    refine XS.aloadN X0.here hx rfl (hb hby d20_0) rfl rfl ?_
    show Go p e below t s₁ m 1 #[rv aa] [(.ref aa)]
    exact k)
  obtain ⟨T282, X282, e282, st282⟩ := getF X0 hx hZ hown (host := "") (Or.inl (hw _ (List.mem_of_getElem? (i := 63) rfl))) Via.refl e0 P0 (g := (mkF m 1 #[rv aa] [(.ref aa)])) rfl rfl (hb hby d20_1)
  have g283 : Goes p e below S0 (T282.setTop (mkF m 4 #[rv aa] [(.ref ea)])) := fun t k => g281 t (st282 t k)
  obtain ⟨fs, hr, hrun, hended, hW, hsame⟩ := X282.leave (v := some (.ref ea)) (fun h => by rw [Bd.returns] at h; cases h)
  refine ⟨_, _, g283 _ (retOut X282 hx Bd.returns rfl (Or.inr (Or.inr (Or.inr (Or.inr ⟨rfl, rfl, rfl⟩)))) (hb hby d20_4) hr), hrun, hended, _, _, rfl, ?_, ⟨_, rfl⟩, hW, hsame.mono (by decide) (by decide)⟩
  show Q_gvl Z aa ea h0 n0 _ T282.heap _
  rw [e282]
  exact ⟨rfl, N0, rfl⟩
theorem d22_0 : decode jdk_68_method_6_code 0 = .ok (.aload_n 0, 1) := by decide +kernel
theorem d22_1 : decode jdk_68_method_6_code 1 = .ok (.getfield 79, 3) := by decide +kernel
theorem d22_4 : decode jdk_68_method_6_code 4 = .ok (.ireturn, 1) := by decide +kernel
theorem pf_aln : plainFor (⟨"java/lang/AbstractStringBuilder", "length", "()I"⟩ : MethodName) = true := by first | exact plainFor_of_name (by first | (simp [plainName, overriddenIn, x]; done) | decide +kernel) | exact Jvm.Free.JP.mathPlain rfl (by decide +kernel) | decide +kernel
theorem ef_aln (m : MethodId) (aa : Addr) : entryFrame m #[(.ref aa)] 1 = mkF m 0 #[rv aa] [] := by first | (simp [entryFrame, mkF, argsToLocals, Value.category, maxLocals]; done) | rfl
def Q_aln (Z : State) (aa : Addr) (xc : Int32) (h0 : Heap) (n0 : Nat) (v : Option Value) (h : Heap) (L : List Loc) : Prop := v = some (.int xc) ∧ Fr n0 L ∧ h = h0
set_option maxRecDepth 65536 in
set_option maxHeartbeats 40000000 in
theorem rm_aln (l : Launch) (Z : State) (a0 : Array Value) (hw : ∀ d ∈ tables_1, d.before a0 Z = true) (ws : List Jvm.Cond) (aa : Addr) (xc : Int32) (h0 : Heap) (n0 : Nat) (Z0 : n0 ≤ h0.size) (P0 : Fld Z h0 aa "java/lang/AbstractStringBuilder" "count" "I" (.int xc))  :
    MetFree l (⟨"java/lang/AbstractStringBuilder", "length", "()I"⟩ : MethodName) (head1 (Jvm.Cond.code (⟨"java/lang/AbstractStringBuilder", "length", "()I"⟩ : MethodName) jdk_68_method_6_code 1 (some .int) :: ws) ({ frames := 0, cells := 0, slots := 0, locals := 0 } : Room)) (fun a U => a = #[(.ref aa)] ∧ Z.Warmed39 U.vm ∧ U.heap = h0) (fun _ _ _ _ _ => True) (fun _ U o U' => ∃ v L, o = .returned v ∧ Q_aln Z aa xc h0 n0 v U'.heap L ∧ FrameEnd U o U' L ({ frames := 0, cells := 0, slots := 0, locals := 0 } : Room).cells ({ frames := 0, cells := 0, slots := 0, locals := 0 } : Room).slots) := by
  refine MetFree.of_bodySF pf_aln hisR ?_
  intro p e s m args below meth c s₁ Bd hml0 hP hK
  obtain ⟨rfl, hZ, hh⟩ := hP
  have hx := Bd.exec
  have hby := Bd.bytes
  have hml : c.maxLocals = 1 := hml0
  have hown : s.vm.findClass "java/lang/AbstractStringBuilder" = some m.cls := findClass_of_methodNamed Bd.named
  have hnm := (name_of_methodNamed Bd.named Bd.method).1
  have X0 : Stand p l e ({ frames := 0, cells := 0, slots := 0, locals := 0 } : Room) s m #[(.ref aa)] below meth c s₁ [] 0 0 := Stand.of_body Bd
  have e0 : s₁.heap = h0 := by rw [← hh, Bd.state]; rfl
  have N0 := Fr.nil n0
  obtain ⟨S0, hS0⟩ : ∃ z, z = s₁.setTop (entryFrame m #[(.ref aa)] 1) := ⟨_, rfl⟩
  rw [← hS0]
  have g0 : Goes p e below S0 (s₁.setTop (mkF m 0 #[rv aa] [])) := fun t k => by rw [hS0]; exact castTop (ef_aln m aa) k
  have g284 : Goes p e below S0 (s₁.setTop (mkF m 1 #[rv aa] [(.ref aa)])) := fun t k => g0 t (by
    refine XS.aloadN X0.here hx rfl (hb hby d22_0) rfl rfl ?_
    show Go p e below t s₁ m 1 #[rv aa] [(.ref aa)]
    exact k)
  obtain ⟨T285, X285, e285, st285⟩ := getF X0 hx hZ hown (host := "") (Or.inl (hw _ (List.mem_of_getElem? (i := 88) rfl))) Via.refl e0 P0 (g := (mkF m 1 #[rv aa] [(.ref aa)])) rfl rfl (hb hby d22_1)
  have g286 : Goes p e below S0 (T285.setTop (mkF m 4 #[rv aa] [(.int xc)])) := fun t k => g284 t (st285 t k)
  obtain ⟨fs, hr, hrun, hended, hW, hsame⟩ := X285.leave (v := some (.int xc)) (fun h => by rw [Bd.returns] at h; cases h)
  refine ⟨_, _, g286 _ (retOut X285 hx Bd.returns rfl (Or.inl ⟨rfl, Or.inl rfl, _, rfl⟩) (hb hby d22_4) hr), hrun, hended, _, _, rfl, ?_, ⟨_, rfl⟩, hW, hsame.mono (by decide) (by decide)⟩
  show Q_aln Z aa xc h0 n0 _ T285.heap _
  rw [e285]
  exact ⟨rfl, N0, rfl⟩
theorem d21_0 : decode jdk_67_method_93_code 0 = .ok (.aload_n 0, 1) := by decide +kernel
theorem d21_1 : decode jdk_67_method_93_code 1 = .ok (.invokespecial 343, 3) := by decide +kernel
theorem d21_4 : decode jdk_67_method_93_code 4 = .ok (.ireturn, 1) := by decide +kernel
theorem pf_sln : plainFor (⟨"java/lang/StringBuilder", "length", "()I"⟩ : MethodName) = true := by first | exact plainFor_of_name (by first | (simp [plainName, overriddenIn, x]; done) | decide +kernel) | exact Jvm.Free.JP.mathPlain rfl (by decide +kernel) | decide +kernel
theorem ef_sln (m : MethodId) (aa : Addr) : entryFrame m #[(.ref aa)] 1 = mkF m 0 #[rv aa] [] := by first | (simp [entryFrame, mkF, argsToLocals, Value.category, maxLocals]; done) | rfl
def Q_sln (Z : State) (aa : Addr) (xc : Int32) (h0 : Heap) (n0 : Nat) (v : Option Value) (h : Heap) (L : List Loc) : Prop := v = some (.int xc) ∧ Fr n0 L ∧ h = h0
set_option maxRecDepth 65536 in
set_option maxHeartbeats 40000000 in
theorem rm_sln (l : Launch) (Z : State) (a0 : Array Value) (hw : ∀ d ∈ tables_1, d.before a0 Z = true) (ws : List Jvm.Cond) (aa : Addr) (xc : Int32) (h0 : Heap) (n0 : Nat) (Z0 : n0 ≤ h0.size) (P0 : Exa Z h0 aa "java/lang/StringBuilder") (P1 : Fld Z h0 aa "java/lang/AbstractStringBuilder" "count" "I" (.int xc))  :
    MetFree l (⟨"java/lang/StringBuilder", "length", "()I"⟩ : MethodName) (head1 (Jvm.Cond.code (⟨"java/lang/StringBuilder", "length", "()I"⟩ : MethodName) jdk_67_method_93_code 1 (some .int) :: ws) ({ frames := 1, cells := 0, slots := 0, locals := 12 } : Room)) (fun a U => a = #[(.ref aa)] ∧ Z.Warmed39 U.vm ∧ U.heap = h0) (fun _ _ _ _ _ => True) (fun _ U o U' => ∃ v L, o = .returned v ∧ Q_sln Z aa xc h0 n0 v U'.heap L ∧ FrameEnd U o U' L ({ frames := 1, cells := 0, slots := 0, locals := 12 } : Room).cells ({ frames := 1, cells := 0, slots := 0, locals := 12 } : Room).slots) := by
  refine MetFree.of_bodySF pf_sln hisR ?_
  intro p e s m args below meth c s₁ Bd hml0 hP hK
  obtain ⟨rfl, hZ, hh⟩ := hP
  have hx := Bd.exec
  have hby := Bd.bytes
  have hml : c.maxLocals = 1 := hml0
  have hown : s.vm.findClass "java/lang/StringBuilder" = some m.cls := findClass_of_methodNamed Bd.named
  have hnm := (name_of_methodNamed Bd.named Bd.method).1
  have X0 : Stand p l e ({ frames := 1, cells := 0, slots := 0, locals := 12 } : Room) s m #[(.ref aa)] below meth c s₁ [] 0 0 := Stand.of_body Bd
  have e0 : s₁.heap = h0 := by rw [← hh, Bd.state]; rfl
  have N0 := Fr.nil n0
  obtain ⟨S0, hS0⟩ : ∃ z, z = s₁.setTop (entryFrame m #[(.ref aa)] 1) := ⟨_, rfl⟩
  rw [← hS0]
  have g0 : Goes p e below S0 (s₁.setTop (mkF m 0 #[rv aa] [])) := fun t k => by rw [hS0]; exact castTop (ef_sln m aa) k
  have g287 : Goes p e below S0 (s₁.setTop (mkF m 1 #[rv aa] [(.ref aa)])) := fun t k => g0 t (by
    refine XS.aloadN X0.here hx rfl (hb hby d21_0) rfl rfl ?_
    show Go p e below t s₁ m 1 #[rv aa] [(.ref aa)]
    exact k)
  obtain ⟨_, _, ⟨T288, L288, k288, n288⟩, -, X288, ⟨Lc288, hQ288, l288, y288, z288⟩, st288⟩ := superBack X0 hx hZ (y := (⟨"java/lang/AbstractStringBuilder", "length", "()I"⟩ : MethodName)) hown (hw _ (List.mem_of_getElem? (i := 139) rfl)) (own_same (hw _ (List.mem_of_getElem? (i := 135) rfl)) (hw _ (List.mem_of_getElem? (i := 93) rfl)) rfl (by decide)) (hw _ (List.mem_of_getElem? (i := 135) rfl)) (hw _ (List.mem_of_getElem? (i := 74) rfl)) (by decide) (backOf (W := 0) (rm_aln l Z a0 hw [] aa xc h0 n0 Z0 P1) hZ (hw _ (List.mem_of_getElem? (i := 140) rfl)) (hw _ (List.mem_of_getElem? (i := 59) rfl)) (by decide) (by decide)) e0 (Ins.of_exa P0 (hw _ (List.mem_of_getElem? (i := 58) rfl))) (g := (mkF m 1 #[rv aa] [(.ref aa)])) rfl (by rw [hml]; rfl) (hw _ (List.mem_of_getElem? (i := 140) rfl)) (argsL := []) (rest := []) (lenOf pd1 rfl) rfl (by show 2 * 0 + _ ≤ _; exact Nat.le_of_eq rfl) (hb hby d21_1) (fun _ _ => ⟨rfl, e0, (by decide : 0 + 0 ≤ _), (by decide : 0 + 0 ≤ _)⟩)
  dsimp only [Pt.U, Pt.locs, Pt.cells, Pt.slots] at X288 l288 y288 z288 st288 hQ288
  subst l288 y288 z288
  obtain ⟨rfl, N288, R288_0⟩ := hQ288
  have M288 := Fr.app N0 N288
  have g289 : Goes p e below S0 (T288.setTop (mkF m 4 #[rv aa] [(.int xc)])) := fun t k => g287 t (st288.trans k)
  obtain ⟨fs, hr, hrun, hended, hW, hsame⟩ := X288.leave (v := some (.int xc)) (fun h => by rw [Bd.returns] at h; cases h)
  refine ⟨_, _, g289 _ (retOut X288 hx Bd.returns rfl (Or.inl ⟨rfl, Or.inl rfl, _, rfl⟩) (hb hby d21_4) hr), hrun, hended, _, _, rfl, ?_, ⟨_, rfl⟩, hW, hsame.mono (by decide) (by decide)⟩
  show Q_sln Z aa xc h0 n0 _ T288.heap _
  rw [R288_0]
  exact ⟨rfl, M288, rfl⟩
theorem d26_0 : decode jdk_65_method_131_code 0 = .ok (.iload_n 1, 1) := by decide +kernel
theorem d26_1 : decode jdk_65_method_131_code 1 = .ok (.iload_n 0, 1) := by decide +kernel
theorem d26_2 : decode jdk_65_method_131_code 2 = .ok (.if_icmp .ge 35, 3) := by decide +kernel
theorem d26_5 : decode jdk_65_method_131_code 5 = .ok (.new 43, 3) := by decide +kernel
theorem d26_8 : decode jdk_65_method_131_code 8 = .ok (.dup, 1) := by decide +kernel
theorem d26_9 : decode jdk_65_method_131_code 9 = .ok (.new 45, 3) := by decide +kernel
theorem d26_12 : decode jdk_65_method_131_code 12 = .ok (.dup, 1) := by decide +kernel
theorem d26_13 : decode jdk_65_method_131_code 13 = .ok (.invokespecial 47, 3) := by decide +kernel
theorem d26_16 : decode jdk_65_method_131_code 16 = .ok (.iload_n 0, 1) := by decide +kernel
theorem d26_17 : decode jdk_65_method_131_code 17 = .ok (.invokevirtual 54, 3) := by decide +kernel
theorem d26_20 : decode jdk_65_method_131_code 20 = .ok (.ldc_w 337, 3) := by decide +kernel
theorem d26_23 : decode jdk_65_method_131_code 23 = .ok (.invokevirtual 50, 3) := by decide +kernel
theorem d26_26 : decode jdk_65_method_131_code 26 = .ok (.iload_n 1, 1) := by decide +kernel
theorem d26_27 : decode jdk_65_method_131_code 27 = .ok (.invokevirtual 54, 3) := by decide +kernel
theorem d26_30 : decode jdk_65_method_131_code 30 = .ok (.invokevirtual 61, 3) := by decide +kernel
theorem d26_33 : decode jdk_65_method_131_code 33 = .ok (.invokespecial 65, 3) := by decide +kernel
theorem d26_36 : decode jdk_65_method_131_code 36 = .ok (.athrow, 1) := by decide +kernel
theorem d26_37 : decode jdk_65_method_131_code 37 = .ok (.return_, 1) := by decide +kernel
theorem pd18 : parseMethodDescriptor "(II)V" = some ⟨[.int, .int], none⟩ := by decide +kernel
theorem pf_ckl : plainFor (⟨"java/util/Arrays", "checkLength", "(II)V"⟩ : MethodName) = true := by first | exact plainFor_of_name (by first | (simp [plainName, overriddenIn, x]; done) | decide +kernel) | exact Jvm.Free.JP.mathPlain rfl (by decide +kernel) | decide +kernel
theorem ef_ckl (m : MethodId) (xa : Int32) (xb : Int32) : entryFrame m #[(.int xa), (.int xb)] 2 = mkF m 0 #[iv xa, iv xb] [] := by first | (simp [entryFrame, mkF, argsToLocals, Value.category, maxLocals]; done) | rfl
def Q_ckl (Z : State) (xa : Int32) (xb : Int32)  (h0 : Heap) (n0 : Nat) (v : Option Value) (h : Heap) (L : List Loc) : Prop := v = none ∧ Fr n0 L ∧ h = h0
set_option maxRecDepth 65536 in
set_option maxHeartbeats 40000000 in
theorem rm_ckl (l : Launch) (Z : State) (a0 : Array Value) (hw : ∀ d ∈ tables_1, d.before a0 Z = true) (ws : List Jvm.Cond) (xa : Int32) (xb : Int32)  (h0 : Heap) (n0 : Nat) (Z0 : n0 ≤ h0.size) (hck : ¬ (xb < xa))  :
    MetFree l (⟨"java/util/Arrays", "checkLength", "(II)V"⟩ : MethodName) (head1 (Jvm.Cond.code (⟨"java/util/Arrays", "checkLength", "(II)V"⟩ : MethodName) jdk_65_method_131_code 2 none :: ws) ({ frames := 0, cells := 0, slots := 0, locals := 0 } : Room)) (fun a U => a = #[(.int xa), (.int xb)] ∧ Z.Warmed39 U.vm ∧ U.heap = h0) (fun _ _ _ _ _ => True) (fun _ U o U' => ∃ v L, o = .returned v ∧ Q_ckl Z xa xb  h0 n0 v U'.heap L ∧ FrameEnd U o U' L ({ frames := 0, cells := 0, slots := 0, locals := 0 } : Room).cells ({ frames := 0, cells := 0, slots := 0, locals := 0 } : Room).slots) := by
  refine MetFree.of_bodySF pf_ckl hisR ?_
  intro p e s m args below meth c s₁ Bd hml0 hP hK
  obtain ⟨rfl, hZ, hh⟩ := hP
  have hx := Bd.exec
  have hby := Bd.bytes
  have hml : c.maxLocals = 2 := hml0
  have hown : s.vm.findClass "java/util/Arrays" = some m.cls := findClass_of_methodNamed Bd.named
  have hnm := (name_of_methodNamed Bd.named Bd.method).1
  have X0 : Stand p l e ({ frames := 0, cells := 0, slots := 0, locals := 0 } : Room) s m #[(.int xa), (.int xb)] below meth c s₁ [] 0 0 := Stand.of_body Bd
  have e0 : s₁.heap = h0 := by rw [← hh, Bd.state]; rfl
  have N0 := Fr.nil n0
  obtain ⟨S0, hS0⟩ : ∃ z, z = s₁.setTop (entryFrame m #[(.int xa), (.int xb)] 2) := ⟨_, rfl⟩
  rw [← hS0]
  have g0 : Goes p e below S0 (s₁.setTop (mkF m 0 #[iv xa, iv xb] [])) := fun t k => by rw [hS0]; exact castTop (ef_ckl m xa xb) k
  have g290 : Goes p e below S0 (s₁.setTop (mkF m 37 #[iv xa, iv xb] [])) := fun t k => g0 t (by
    refine XS.iloadN X0.here hx rfl (hb hby d26_0) rfl ?_
    show Go p e below t s₁ m 1 #[iv xa, iv xb] [(.int xb)]
    refine XS.iloadN X0.here hx rfl (hb hby d26_1) rfl ?_
    show Go p e below t s₁ m 2 #[iv xa, iv xb] [(.int xa), (.int xb)]
    refine XS.icmpYes X0.here hx rfl (pc0 := 2) (pc' := 37) rfl (hb hby d26_2) rfl (XT.ii_ge_t hck) (by decide) (by decide) ?_
    show Go p e below t s₁ m 37 #[iv xa, iv xb] []
    exact k)
  obtain ⟨fs, hr, hrun, hended, hW, hsame⟩ := X0.leave (v := none) (fun _ => rfl)
  refine ⟨_, _, g290 _ (X0.returnOut hx Bd.returns (hb hby d26_37) hr), hrun, hended, _, _, rfl, ?_, ⟨_, rfl⟩, hW, hsame.mono (by decide) (by decide)⟩
  show Q_ckl Z xa xb  h0 n0 _ s₁.heap _
  rw [e0]
  exact ⟨rfl, N0, rfl⟩
theorem d27_0 : decode jdk_29_method_69_code 0 = .ok (.iload_n 0, 1) := by decide +kernel
theorem d27_1 : decode jdk_29_method_69_code 1 = .ok (.iload_n 1, 1) := by decide +kernel
theorem d27_2 : decode jdk_29_method_69_code 2 = .ok (.if_icmp .gt 7, 3) := by decide +kernel
theorem d27_5 : decode jdk_29_method_69_code 5 = .ok (.iload_n 0, 1) := by decide +kernel
theorem d27_6 : decode jdk_29_method_69_code 6 = .ok (.goto 4, 3) := by decide +kernel
theorem d27_9 : decode jdk_29_method_69_code 9 = .ok (.iload_n 1, 1) := by decide +kernel
theorem d27_10 : decode jdk_29_method_69_code 10 = .ok (.ireturn, 1) := by decide +kernel
theorem pd19 : parseMethodDescriptor "(II)I" = some ⟨[.int, .int], some .int⟩ := by decide +kernel
theorem pf_mnn : plainFor (⟨"java/lang/Math", "min", "(II)I"⟩ : MethodName) = true := by first | exact plainFor_of_name (by first | (simp [plainName, overriddenIn, x]; done) | decide +kernel) | exact Jvm.Free.JP.mathPlain rfl (by decide +kernel) | decide +kernel
theorem ef_mnn (m : MethodId) (xa : Int32) (xb : Int32) : entryFrame m #[(.int xa), (.int xb)] 2 = mkF m 0 #[iv xa, iv xb] [] := by first | (simp [entryFrame, mkF, argsToLocals, Value.category, maxLocals]; done) | rfl
def Q_mnn (Z : State) (xa : Int32) (xb : Int32)  (h0 : Heap) (n0 : Nat) (v : Option Value) (h : Heap) (L : List Loc) : Prop := v = some (.int xb) ∧ Fr n0 L ∧ h = h0
set_option maxRecDepth 65536 in
set_option maxHeartbeats 40000000 in
theorem rm_mnn (l : Launch) (Z : State) (a0 : Array Value) (hw : ∀ d ∈ tables_1, d.before a0 Z = true) (ws : List Jvm.Cond) (xa : Int32) (xb : Int32)  (h0 : Heap) (n0 : Nat) (Z0 : n0 ≤ h0.size) (hlt : xb < xa)  :
    MetFree l (⟨"java/lang/Math", "min", "(II)I"⟩ : MethodName) (head1 (Jvm.Cond.code (⟨"java/lang/Math", "min", "(II)I"⟩ : MethodName) jdk_29_method_69_code 2 (some .int) :: ws) ({ frames := 0, cells := 0, slots := 0, locals := 0 } : Room)) (fun a U => a = #[(.int xa), (.int xb)] ∧ Z.Warmed39 U.vm ∧ U.heap = h0) (fun _ _ _ _ _ => True) (fun _ U o U' => ∃ v L, o = .returned v ∧ Q_mnn Z xa xb  h0 n0 v U'.heap L ∧ FrameEnd U o U' L ({ frames := 0, cells := 0, slots := 0, locals := 0 } : Room).cells ({ frames := 0, cells := 0, slots := 0, locals := 0 } : Room).slots) := by
  refine MetFree.of_bodySF pf_mnn hisR ?_
  intro p e s m args below meth c s₁ Bd hml0 hP hK
  obtain ⟨rfl, hZ, hh⟩ := hP
  have hx := Bd.exec
  have hby := Bd.bytes
  have hml : c.maxLocals = 2 := hml0
  have hown : s.vm.findClass "java/lang/Math" = some m.cls := findClass_of_methodNamed Bd.named
  have hnm := (name_of_methodNamed Bd.named Bd.method).1
  have X0 : Stand p l e ({ frames := 0, cells := 0, slots := 0, locals := 0 } : Room) s m #[(.int xa), (.int xb)] below meth c s₁ [] 0 0 := Stand.of_body Bd
  have e0 : s₁.heap = h0 := by rw [← hh, Bd.state]; rfl
  have N0 := Fr.nil n0
  obtain ⟨S0, hS0⟩ : ∃ z, z = s₁.setTop (entryFrame m #[(.int xa), (.int xb)] 2) := ⟨_, rfl⟩
  rw [← hS0]
  have g0 : Goes p e below S0 (s₁.setTop (mkF m 0 #[iv xa, iv xb] [])) := fun t k => by rw [hS0]; exact castTop (ef_mnn m xa xb) k
  have g291 : Goes p e below S0 (s₁.setTop (mkF m 10 #[iv xa, iv xb] [(.int xb)])) := fun t k => g0 t (by
    refine XS.iloadN X0.here hx rfl (hb hby d27_0) rfl ?_
    show Go p e below t s₁ m 1 #[iv xa, iv xb] [(.int xa)]
    refine XS.iloadN X0.here hx rfl (hb hby d27_1) rfl ?_
    show Go p e below t s₁ m 2 #[iv xa, iv xb] [(.int xb), (.int xa)]
    refine XS.icmpYes X0.here hx rfl (pc0 := 2) (pc' := 9) rfl (hb hby d27_2) rfl (XT.ii_gt_t hlt) (by decide) (by decide) ?_
    show Go p e below t s₁ m 9 #[iv xa, iv xb] []
    refine XS.iloadN X0.here hx rfl (hb hby d27_9) rfl ?_
    show Go p e below t s₁ m 10 #[iv xa, iv xb] [(.int xb)]
    exact k)
  obtain ⟨fs, hr, hrun, hended, hW, hsame⟩ := X0.leave (v := some (.int xb)) (fun h => by rw [Bd.returns] at h; cases h)
  refine ⟨_, _, g291 _ (retOut X0 hx Bd.returns rfl (Or.inl ⟨rfl, Or.inl rfl, _, rfl⟩) (hb hby d27_10) hr), hrun, hended, _, _, rfl, ?_, ⟨_, rfl⟩, hW, hsame.mono (by decide) (by decide)⟩
  show Q_mnn Z xa xb  h0 n0 _ s₁.heap _
  rw [e0]
  exact ⟨rfl, N0, rfl⟩
theorem d25_0 : decode jdk_65_method_133_code 0 = .ok (.iload_n 1, 1) := by decide +kernel
theorem d25_1 : decode jdk_65_method_133_code 1 = .ok (.iload_n 2, 1) := by decide +kernel
theorem d25_2 : decode jdk_65_method_133_code 2 = .ok (.invokestatic 343, 3) := by decide +kernel
theorem d25_5 : decode jdk_65_method_133_code 5 = .ok (.iload_n 2, 1) := by decide +kernel
theorem d25_6 : decode jdk_65_method_133_code 6 = .ok (.iload_n 1, 1) := by decide +kernel
theorem d25_7 : decode jdk_65_method_133_code 7 = .ok (.isub, 1) := by decide +kernel
theorem d25_8 : decode jdk_65_method_133_code 8 = .ok (.istore_n 3, 1) := by decide +kernel
theorem d25_9 : decode jdk_65_method_133_code 9 = .ok (.iload_n 3, 1) := by decide +kernel
theorem d25_10 : decode jdk_65_method_133_code 10 = .ok (.newarray .byte, 2) := by decide +kernel
theorem d25_12 : decode jdk_65_method_133_code 12 = .ok (.astore 4, 2) := by decide +kernel
theorem d25_14 : decode jdk_65_method_133_code 14 = .ok (.aload_n 0, 1) := by decide +kernel
theorem d25_15 : decode jdk_65_method_133_code 15 = .ok (.iload_n 1, 1) := by decide +kernel
theorem d25_16 : decode jdk_65_method_133_code 16 = .ok (.aload 4, 2) := by decide +kernel
theorem d25_18 : decode jdk_65_method_133_code 18 = .ok (.iconst 0, 1) := by decide +kernel
theorem d25_19 : decode jdk_65_method_133_code 19 = .ok (.aload_n 0, 1) := by decide +kernel
theorem d25_20 : decode jdk_65_method_133_code 20 = .ok (.arraylength, 1) := by decide +kernel
theorem d25_21 : decode jdk_65_method_133_code 21 = .ok (.iload_n 1, 1) := by decide +kernel
theorem d25_22 : decode jdk_65_method_133_code 22 = .ok (.isub, 1) := by decide +kernel
theorem d25_23 : decode jdk_65_method_133_code 23 = .ok (.iload_n 3, 1) := by decide +kernel
theorem d25_24 : decode jdk_65_method_133_code 24 = .ok (.invokestatic 304, 3) := by decide +kernel
theorem d25_27 : decode jdk_65_method_133_code 27 = .ok (.invokestatic 150, 3) := by decide +kernel
theorem d25_30 : decode jdk_65_method_133_code 30 = .ok (.aload 4, 2) := by decide +kernel
theorem d25_32 : decode jdk_65_method_133_code 32 = .ok (.areturn, 1) := by decide +kernel
theorem pd20 : parseMethodDescriptor "([BII)[B" = some ⟨[(.array .byte), .int, .int], some (.array .byte)⟩ := by decide +kernel
theorem pf_crb : plainFor (⟨"java/util/Arrays", "copyOfRangeByte", "([BII)[B"⟩ : MethodName) = true := by first | exact plainFor_of_name (by first | (simp [plainName, overriddenIn, x]; done) | decide +kernel) | exact Jvm.Free.JP.mathPlain rfl (by decide +kernel) | decide +kernel
theorem ef_crb (m : MethodId) (ba : Addr) (xf : Int32) (xt : Int32) : entryFrame m #[(.ref ba), (.int xf), (.int xt)] 5 = mkF m 0 #[rv ba, iv xf, iv xt, .unset, .unset] [] := by first | (simp [entryFrame, mkF, argsToLocals, Value.category, maxLocals]; done) | rfl
def Q_crb (Z : State) (ba : Addr) (xf : Int32) (xt : Int32) (bk : ClassId) (vs : List Value) (h0 : Heap) (n0 : Nat) (v : Option Value) (h : Heap) (L : List Loc) : Prop := ∃ (tb : Addr) (tk : ClassId), v = some (.ref tb) ∧ Fr n0 L ∧ (Keep h0 h []) ∧ (h0.size ≤ tb) ∧ (Arv Z h tb tk .byte xt (own_res vs xt) (.int (0 : Int32)))
set_option maxRecDepth 65536 in
set_option maxHeartbeats 40000000 in
theorem rm_crb (l : Launch) (Z : State) (a0 : Array Value) (hw : ∀ d ∈ tables_1, d.before a0 Z = true) (ws : List Jvm.Cond) (ba : Addr) (xf : Int32) (xt : Int32) (bk : ClassId) (vs : List Value) (h0 : Heap) (n0 : Nat) (Z0 : n0 ≤ h0.size) (P0 : Arv Z h0 ba bk .byte (16 : Int32) vs (.int (0 : Int32))) (q1 : xf = (0 : Int32)) (hct : own_ct xt)  :
    MetFree l (⟨"java/util/Arrays", "copyOfRangeByte", "([BII)[B"⟩ : MethodName) (head1 (Jvm.Cond.code (⟨"java/util/Arrays", "copyOfRangeByte", "([BII)[B"⟩ : MethodName) jdk_65_method_133_code 5 (some (.array .byte)) :: ws) ({ frames := 1, cells := 1, slots := 8, locals := 18 } : Room)) (fun a U => a = #[(.ref ba), (.int xf), (.int xt)] ∧ Z.Warmed39 U.vm ∧ U.heap = h0) (fun _ _ _ _ _ => True) (fun _ U o U' => ∃ v L, o = .returned v ∧ Q_crb Z ba xf xt bk vs h0 n0 v U'.heap L ∧ FrameEnd U o U' L ({ frames := 1, cells := 1, slots := 8, locals := 18 } : Room).cells ({ frames := 1, cells := 1, slots := 8, locals := 18 } : Room).slots) := by
  refine MetFree.of_bodySF pf_crb hisR ?_
  intro p e s m args below meth c s₁ Bd hml0 hP hK
  obtain ⟨rfl, hZ, hh⟩ := hP
  have hx := Bd.exec
  have hby := Bd.bytes
  have hml : c.maxLocals = 5 := hml0
  have hown : s.vm.findClass "java/util/Arrays" = some m.cls := findClass_of_methodNamed Bd.named
  have hnm := (name_of_methodNamed Bd.named Bd.method).1
  have X0 : Stand p l e ({ frames := 1, cells := 1, slots := 8, locals := 18 } : Room) s m #[(.ref ba), (.int xf), (.int xt)] below meth c s₁ [] 0 0 := Stand.of_body Bd
  have e0 : s₁.heap = h0 := by rw [← hh, Bd.state]; rfl
  have N0 := Fr.nil n0
  obtain ⟨S0, hS0⟩ : ∃ z, z = s₁.setTop (entryFrame m #[(.ref ba), (.int xf), (.int xt)] 5) := ⟨_, rfl⟩
  rw [← hS0]
  have g0 : Goes p e below S0 (s₁.setTop (mkF m 0 #[rv ba, iv xf, iv xt, .unset, .unset] [])) := fun t k => by rw [hS0]; exact castTop (ef_crb m ba xf xt) k
  obtain rfl : xf = (0 : Int32) := q1
  have g292 : Goes p e below S0 (s₁.setTop (mkF m 2 #[rv ba, iv (0 : Int32), iv xt, .unset, .unset] [(.int xt), (.int (0 : Int32))])) := fun t k => g0 t (by
    refine XS.iloadN X0.here hx rfl (hb hby d25_0) rfl ?_
    show Go p e below t s₁ m 1 #[rv ba, iv (0 : Int32), iv xt, .unset, .unset] [(.int (0 : Int32))]
    refine XS.iloadN X0.here hx rfl (hb hby d25_1) rfl ?_
    show Go p e below t s₁ m 2 #[rv ba, iv (0 : Int32), iv xt, .unset, .unset] [(.int xt), (.int (0 : Int32))]
    exact k)
  obtain ⟨_, _, ⟨T293, L293, k293, n293⟩, -, X293, ⟨Lc293, hQ293, l293, y293, z293⟩, st293⟩ := Jvm.LawKit.callS X0 hx (y := (⟨"java/util/Arrays", "checkLength", "(II)V"⟩ : MethodName)) hown (mvT hZ (hw _ (List.mem_of_getElem? (i := 153) rfl))) (mvT hZ (hw _ (List.mem_of_getElem? (i := 154) rfl))) (mvT hZ (hw _ (List.mem_of_getElem? (i := 148) rfl))) (mvT hZ (hw _ (List.mem_of_getElem? (i := 155) rfl))) (by decide) (backOf (W := 0) (rm_ckl l Z a0 hw [] (0 : Int32) xt  h0 n0 Z0 hct.1) hZ (hw _ (List.mem_of_getElem? (i := 155) rfl)) (hw _ (List.mem_of_getElem? (i := 148) rfl)) (by decide) (by decide)) (g := (mkF m 2 #[rv ba, iv (0 : Int32), iv xt, .unset, .unset] [(.int xt), (.int (0 : Int32))])) rfl (by rw [hml]; rfl) (argsL := [(.int (0 : Int32)), (.int xt)]) (rest := []) (lenOf pd18 rfl) rfl (by show 2 * 0 + _ ≤ _; exact Nat.le_of_eq rfl) (hb hby d25_2) (fun _ _ => ⟨rfl, e0, (by decide : 0 + 0 ≤ _), (by decide : 0 + 0 ≤ _)⟩)
  dsimp only [Pt.U, Pt.locs, Pt.cells, Pt.slots] at X293 l293 y293 z293 st293 hQ293
  subst l293 y293 z293
  obtain ⟨rfl, N293, R293_0⟩ := hQ293
  have M293 := Fr.app N0 N293
  have g294 : Goes p e below S0 (T293.setTop (mkF m 5 #[rv ba, iv (0 : Int32), iv xt, .unset, .unset] [])) := fun t k => g292 t (st293 t k)
  have g295 : Goes p e below S0 (T293.setTop (mkF m 8 #[rv ba, iv (0 : Int32), iv xt, .unset, .unset] [(.int (xt - (0 : Int32)))])) := fun t k => g294 t (by
    refine XS.iloadN X293.here hx rfl (hb hby d25_5) rfl ?_
    show Go p e below t T293 m 6 #[rv ba, iv (0 : Int32), iv xt, .unset, .unset] [(.int xt)]
    refine XS.iloadN X293.here hx rfl (hb hby d25_6) rfl ?_
    show Go p e below t T293 m 7 #[rv ba, iv (0 : Int32), iv xt, .unset, .unset] [(.int (0 : Int32)), (.int xt)]
    refine XS.isub X293.here hx rfl (hb hby d25_7) rfl ?_
    show Go p e below t T293 m 8 #[rv ba, iv (0 : Int32), iv xt, .unset, .unset] [(.int (xt - (0 : Int32)))]
    exact k)
  rw [show (xt - (0 : Int32)) = xt from (own_sub0 _)] at g295
  have g296 : Goes p e below S0 (T293.setTop (mkF m 10 #[rv ba, iv (0 : Int32), iv xt, iv xt, .unset] [(.int xt)])) := fun t k => g295 t (by
    refine XS.istoreN X293.here hx rfl (hb hby d25_8) rfl (l' := #[rv ba, iv (0 : Int32), iv xt, iv xt, .unset]) rfl ?_
    show Go p e below t T293 m 9 #[rv ba, iv (0 : Int32), iv xt, iv xt, .unset] []
    refine XS.iloadN X293.here hx rfl (hb hby d25_9) rfl ?_
    show Go p e below t T293 m 10 #[rv ba, iv (0 : Int32), iv xt, iv xt, .unset] [(.int xt)]
    exact k)
  obtain ⟨T297, h297, k297, X297, e297, E297, A297, st297⟩ := newP X293 hx hZ (hw _ (List.mem_of_getElem? (i := 19) rfl)) R293_0 (g := (mkF m 10 #[rv ba, iv (0 : Int32), iv xt, iv xt, .unset] [(.int xt)])) rfl (hb hby d25_10) rfl hct.1 (cap := 8) hct.2.1 (by decide) (by decide) (by decide)
  obtain ⟨b297, gb297⟩ : ∃ z, z = h0.size := ⟨_, rfl⟩
  have sz297 : h0.size ≤ b297 := Nat.le_trans (Nat.le_refl _) (Nat.le_of_eq gb297.symm)
  have ng297 : n0 ≤ b297 := Nat.le_trans Z0 sz297
  rw [← gb297] at A297 st297
  have V297 : Arv Z h297 b297 k297 .byte xt [] (.int (0 : Int32)) := (Arv.new A297 hct.1)
  have g298 : Goes p e below S0 (T297.setTop (mkF m 12 #[rv ba, iv (0 : Int32), iv xt, iv xt, .unset] [(.ref b297)])) := fun t k => g296 t (st297 t k)
  have Vp299 : Arv Z h297 b297 k297 .byte xt ([] ++ List.replicate xt.toNatClampNeg (.int (0 : Int32))) (.int (0 : Int32)) := Arv.pad V297 (pad_rep [] (.int (0 : Int32)) xt.toNatClampNeg)
  have g300 : Goes p e below S0 (T297.setTop (mkF m 20 #[rv ba, iv (0 : Int32), iv xt, iv xt, rv b297] [(.ref ba), (.int (0 : Int32)), (.ref b297), (.int (0 : Int32)), (.ref ba)])) := fun t k => g298 t (by
    refine XS.astore X297.here hx rfl (hb hby d25_12) rfl rfl (l' := #[rv ba, iv (0 : Int32), iv xt, iv xt, rv b297]) rfl ?_
    show Go p e below t T297 m 14 #[rv ba, iv (0 : Int32), iv xt, iv xt, rv b297] []
    refine XS.aloadN X297.here hx rfl (hb hby d25_14) rfl rfl ?_
    show Go p e below t T297 m 15 #[rv ba, iv (0 : Int32), iv xt, iv xt, rv b297] [(.ref ba)]
    refine XS.iloadN X297.here hx rfl (hb hby d25_15) rfl ?_
    show Go p e below t T297 m 16 #[rv ba, iv (0 : Int32), iv xt, iv xt, rv b297] [(.int (0 : Int32)), (.ref ba)]
    refine XS.aload X297.here hx rfl (hb hby d25_16) rfl rfl ?_
    show Go p e below t T297 m 18 #[rv ba, iv (0 : Int32), iv xt, iv xt, rv b297] [(.ref b297), (.int (0 : Int32)), (.ref ba)]
    refine XT.iconstV X297.here hx rfl (0 : Int32) (hb hby d25_18) (by decide) ?_
    show Go p e below t T297 m 19 #[rv ba, iv (0 : Int32), iv xt, iv xt, rv b297] [(.int (0 : Int32)), (.ref b297), (.int (0 : Int32)), (.ref ba)]
    refine XS.aloadN X297.here hx rfl (hb hby d25_19) rfl rfl ?_
    show Go p e below t T297 m 20 #[rv ba, iv (0 : Int32), iv xt, iv xt, rv b297] [(.ref ba), (.int (0 : Int32)), (.ref b297), (.int (0 : Int32)), (.ref ba)]
    exact k)
  obtain ⟨cl301, Ar301, q301, S301, M301, H301, G301⟩ := id (P0.ext E297)
  have g302 : Goes p e below S0 (T297.setTop (mkF m 24 #[rv ba, iv (0 : Int32), iv xt, iv xt, rv b297] [(.int xt), (.int (16 : Int32)), (.int (0 : Int32)), (.ref b297), (.int (0 : Int32)), (.ref ba)])) := fun t k => g300 t (by
    refine X297.arraylength hx (by rw [e297]; exact Ar301.1) (State.isArrayOf_alike hZ.alike Ar301.2.1) (g := (mkF m 20 #[rv ba, iv (0 : Int32), iv xt, iv xt, rv b297] [(.ref ba), (.int (0 : Int32)), (.ref b297), (.int (0 : Int32)), (.ref ba)])) rfl rfl (hb hby d25_20) _ ?_
    rw [len_of S301 M301]
    show Go p e below t T297 m 21 #[rv ba, iv (0 : Int32), iv xt, iv xt, rv b297] [(.int (16 : Int32)), (.int (0 : Int32)), (.ref b297), (.int (0 : Int32)), (.ref ba)]
    refine XS.iloadN X297.here hx rfl (hb hby d25_21) rfl ?_
    show Go p e below t T297 m 22 #[rv ba, iv (0 : Int32), iv xt, iv xt, rv b297] [(.int (0 : Int32)), (.int (16 : Int32)), (.int (0 : Int32)), (.ref b297), (.int (0 : Int32)), (.ref ba)]
    refine XS.isub X297.here hx rfl (hb hby d25_22) rfl ?_
    rw [show ((16 : Int32) - (0 : Int32)) = (16 : Int32) by decide]
    show Go p e below t T297 m 23 #[rv ba, iv (0 : Int32), iv xt, iv xt, rv b297] [(.int (16 : Int32)), (.int (0 : Int32)), (.ref b297), (.int (0 : Int32)), (.ref ba)]
    refine XS.iloadN X297.here hx rfl (hb hby d25_23) rfl ?_
    show Go p e below t T297 m 24 #[rv ba, iv (0 : Int32), iv xt, iv xt, rv b297] [(.int xt), (.int (16 : Int32)), (.int (0 : Int32)), (.ref b297), (.int (0 : Int32)), (.ref ba)]
    exact k)
  obtain ⟨_, _, ⟨T303, L303, k303, n303⟩, -, X303, ⟨Lc303, hQ303, l303, y303, z303⟩, st303⟩ := Jvm.LawKit.callS X297 hx (y := (⟨"java/lang/Math", "min", "(II)I"⟩ : MethodName)) hown (mvT hZ (hw _ (List.mem_of_getElem? (i := 156) rfl))) (mvT hZ (hw _ (List.mem_of_getElem? (i := 157) rfl))) (mvT hZ (hw _ (List.mem_of_getElem? (i := 158) rfl))) (mvT hZ (hw _ (List.mem_of_getElem? (i := 159) rfl))) (by decide) (backOf (W := 4) (rm_mnn l Z a0 hw [] (16 : Int32) xt  h297 n0 (Nat.le_trans Z0 (Nat.le_trans (Nat.le_refl _) E297.1)) hct.2.2.1) hZ (hw _ (List.mem_of_getElem? (i := 159) rfl)) (hw _ (List.mem_of_getElem? (i := 158) rfl)) (by decide) (by decide)) (g := (mkF m 24 #[rv ba, iv (0 : Int32), iv xt, iv xt, rv b297] [(.int xt), (.int (16 : Int32)), (.int (0 : Int32)), (.ref b297), (.int (0 : Int32)), (.ref ba)])) rfl (by rw [hml]; rfl) (argsL := [(.int (16 : Int32)), (.int xt)]) (rest := [(.int (0 : Int32)), (.ref b297), (.int (0 : Int32)), (.ref ba)]) (lenOf pd19 rfl) rfl (by show 2 * 0 + _ ≤ _; exact Nat.le_of_eq rfl) (hb hby d25_24) (fun _ _ => ⟨rfl, e297, (by decide : 1 + 0 ≤ _), (by decide : 8 + 0 ≤ _)⟩)
  dsimp only [Pt.U, Pt.locs, Pt.cells, Pt.slots] at X303 l303 y303 z303 st303 hQ303
  subst l303 y303 z303
  obtain ⟨rfl, N303, R303_0⟩ := hQ303
  have M303 := Fr.app M293 N303
  have g304 : Goes p e below S0 (T303.setTop (mkF m 27 #[rv ba, iv (0 : Int32), iv xt, iv xt, rv b297] [(.int xt), (.int (0 : Int32)), (.ref b297), (.int (0 : Int32)), (.ref ba)])) := fun t k => g302 t (st303 t k)
  obtain ⟨T305, h305, L305, X305, e305, N305, K305, A305, st305⟩ := cpA X303 hx hZ hown (hw _ (List.mem_of_getElem? (i := 160) rfl)) (hw _ (List.mem_of_getElem? (i := 114) rfl)) (hw _ (List.mem_of_getElem? (i := 112) rfl)) (hw _ (List.mem_of_getElem? (i := 113) rfl)) R303_0 (sp := (0 : Int32)) (dp := (0 : Int32)) (nn := xt) (us := (own_res vs xt)) (P0.ext E297) Vp299 (Or.inl ⟨rfl, rfl⟩) (by decide) (by decide) hct.1 (own_h4 hct) (own_le0 _) rfl (own_hr _ _) M303 ng297 (g := (mkF m 27 #[rv ba, iv (0 : Int32), iv xt, iv xt, rv b297] [(.int xt), (.int (0 : Int32)), (.ref b297), (.int (0 : Int32)), (.ref ba)])) rfl (by rw [hml]; rfl) (rest := []) rfl (hb hby d25_27) (by decide) (W := 0) (by show 2 * 0 + _ ≤ _; exact Nat.le_of_eq rfl) (by decide)
  have V305 : Arv Z h305 b297 k297 .byte xt (own_res vs xt) (.int (0 : Int32)) := (own_cutA A305)
  have g306 : Goes p e below S0 (T305.setTop (mkF m 30 #[rv ba, iv (0 : Int32), iv xt, iv xt, rv b297] [])) := fun t k => g304 t (st305 t k)
  have g307 : Goes p e below S0 (T305.setTop (mkF m 32 #[rv ba, iv (0 : Int32), iv xt, iv xt, rv b297] [(.ref b297)])) := fun t k => g306 t (by
    refine XS.aload X305.here hx rfl (hb hby d25_30) rfl rfl ?_
    show Go p e below t T305 m 32 #[rv ba, iv (0 : Int32), iv xt, iv xt, rv b297] [(.ref b297)]
    exact k)
  obtain ⟨fs, hr, hrun, hended, hW, hsame⟩ := X305.leave (v := some (.ref b297)) (fun h => by rw [Bd.returns] at h; cases h)
  refine ⟨_, _, g307 _ (retOut X305 hx Bd.returns rfl (Or.inr (Or.inr (Or.inr (Or.inr ⟨rfl, rfl, rfl⟩)))) (hb hby d25_32) hr), hrun, hended, _, _, rfl, ?_, ⟨_, rfl⟩, hW, hsame.mono (by decide) (by decide)⟩
  show Q_crb Z ba (0 : Int32) xt bk vs h0 n0 _ T305.heap _
  rw [e305]
  exact ⟨b297, k297, rfl, N305, (((Keep.refl h0 []).ext E297).trans K305 (allS (Or.inr sz297) all0)), sz297, V305⟩
theorem d24_0 : decode jdk_65_method_132_code 0 = .ok (.iload_n 1, 1) := by decide +kernel
theorem d24_1 : decode jdk_65_method_132_code 1 = .ok (.ifCond .ne 9, 3) := by decide +kernel
theorem d24_4 : decode jdk_65_method_132_code 4 = .ok (.iload_n 2, 1) := by decide +kernel
theorem d24_5 : decode jdk_65_method_132_code 5 = .ok (.aload_n 0, 1) := by decide +kernel
theorem d24_6 : decode jdk_65_method_132_code 6 = .ok (.arraylength, 1) := by decide +kernel
theorem d24_7 : decode jdk_65_method_132_code 7 = .ok (.if_icmp .eq 10, 3) := by decide +kernel
theorem d24_10 : decode jdk_65_method_132_code 10 = .ok (.aload_n 0, 1) := by decide +kernel
theorem d24_11 : decode jdk_65_method_132_code 11 = .ok (.iload_n 1, 1) := by decide +kernel
theorem d24_12 : decode jdk_65_method_132_code 12 = .ok (.iload_n 2, 1) := by decide +kernel
theorem d24_13 : decode jdk_65_method_132_code 13 = .ok (.invokestatic 339, 3) := by decide +kernel
theorem d24_16 : decode jdk_65_method_132_code 16 = .ok (.areturn, 1) := by decide +kernel
theorem d24_17 : decode jdk_65_method_132_code 17 = .ok (.aload_n 0, 1) := by decide +kernel
theorem d24_18 : decode jdk_65_method_132_code 18 = .ok (.invokevirtual 310, 3) := by decide +kernel
theorem d24_21 : decode jdk_65_method_132_code 21 = .ok (.checkcast 311, 3) := by decide +kernel
theorem d24_24 : decode jdk_65_method_132_code 24 = .ok (.areturn, 1) := by decide +kernel
theorem pf_cor : plainFor (⟨"java/util/Arrays", "copyOfRange", "([BII)[B"⟩ : MethodName) = true := by first | exact plainFor_of_name (by first | (simp [plainName, overriddenIn, x]; done) | decide +kernel) | exact Jvm.Free.JP.mathPlain rfl (by decide +kernel) | decide +kernel
theorem ef_cor (m : MethodId) (ba : Addr) (xf : Int32) (xt : Int32) : entryFrame m #[(.ref ba), (.int xf), (.int xt)] 3 = mkF m 0 #[rv ba, iv xf, iv xt] [] := by first | (simp [entryFrame, mkF, argsToLocals, Value.category, maxLocals]; done) | rfl
def Q_cor (Z : State) (ba : Addr) (xf : Int32) (xt : Int32) (bk : ClassId) (vs : List Value) (h0 : Heap) (n0 : Nat) (v : Option Value) (h : Heap) (L : List Loc) : Prop := ∃ (tb : Addr) (tk : ClassId), v = some (.ref tb) ∧ Fr n0 L ∧ (Keep h0 h []) ∧ (h0.size ≤ tb) ∧ (Arv Z h tb tk .byte xt (own_res vs xt) (.int (0 : Int32)))
set_option maxRecDepth 65536 in
set_option maxHeartbeats 40000000 in
theorem rm_cor (l : Launch) (Z : State) (a0 : Array Value) (hw : ∀ d ∈ tables_1, d.before a0 Z = true) (ws : List Jvm.Cond) (ba : Addr) (xf : Int32) (xt : Int32) (bk : ClassId) (vs : List Value) (h0 : Heap) (n0 : Nat) (Z0 : n0 ≤ h0.size) (P0 : Arv Z h0 ba bk .byte (16 : Int32) vs (.int (0 : Int32))) (q1 : xf = (0 : Int32)) (hct : own_ct xt)  :
    MetFree l (⟨"java/util/Arrays", "copyOfRange", "([BII)[B"⟩ : MethodName) (head1 (Jvm.Cond.code (⟨"java/util/Arrays", "copyOfRange", "([BII)[B"⟩ : MethodName) jdk_65_method_132_code 3 (some (.array .byte)) :: ws) ({ frames := 2, cells := 1, slots := 8, locals := 34 } : Room)) (fun a U => a = #[(.ref ba), (.int xf), (.int xt)] ∧ Z.Warmed39 U.vm ∧ U.heap = h0) (fun _ _ _ _ _ => True) (fun _ U o U' => ∃ v L, o = .returned v ∧ Q_cor Z ba xf xt bk vs h0 n0 v U'.heap L ∧ FrameEnd U o U' L ({ frames := 2, cells := 1, slots := 8, locals := 34 } : Room).cells ({ frames := 2, cells := 1, slots := 8, locals := 34 } : Room).slots) := by
  refine MetFree.of_bodySF pf_cor hisR ?_
  intro p e s m args below meth c s₁ Bd hml0 hP hK
  obtain ⟨rfl, hZ, hh⟩ := hP
  have hx := Bd.exec
  have hby := Bd.bytes
  have hml : c.maxLocals = 3 := hml0
  have hown : s.vm.findClass "java/util/Arrays" = some m.cls := findClass_of_methodNamed Bd.named
  have hnm := (name_of_methodNamed Bd.named Bd.method).1
  have X0 : Stand p l e ({ frames := 2, cells := 1, slots := 8, locals := 34 } : Room) s m #[(.ref ba), (.int xf), (.int xt)] below meth c s₁ [] 0 0 := Stand.of_body Bd
  have e0 : s₁.heap = h0 := by rw [← hh, Bd.state]; rfl
  have N0 := Fr.nil n0
  obtain ⟨S0, hS0⟩ : ∃ z, z = s₁.setTop (entryFrame m #[(.ref ba), (.int xf), (.int xt)] 3) := ⟨_, rfl⟩
  rw [← hS0]
  have g0 : Goes p e below S0 (s₁.setTop (mkF m 0 #[rv ba, iv xf, iv xt] [])) := fun t k => by rw [hS0]; exact castTop (ef_cor m ba xf xt) k
  obtain rfl : xf = (0 : Int32) := q1
  have g308 : Goes p e below S0 (s₁.setTop (mkF m 6 #[rv ba, iv (0 : Int32), iv xt] [(.ref ba), (.int xt)])) := fun t k => g0 t (by
    refine XS.iloadN X0.here hx rfl (hb hby d24_0) rfl ?_
    show Go p e below t s₁ m 1 #[rv ba, iv (0 : Int32), iv xt] [(.int (0 : Int32))]
    refine XS.ifNo X0.here hx rfl (hb hby d24_1) rfl (XT.i0_ne_f (by decide)) ?_
    show Go p e below t s₁ m 4 #[rv ba, iv (0 : Int32), iv xt] []
    refine XS.iloadN X0.here hx rfl (hb hby d24_4) rfl ?_
    show Go p e below t s₁ m 5 #[rv ba, iv (0 : Int32), iv xt] [(.int xt)]
    refine XS.aloadN X0.here hx rfl (hb hby d24_5) rfl rfl ?_
    show Go p e below t s₁ m 6 #[rv ba, iv (0 : Int32), iv xt] [(.ref ba), (.int xt)]
    exact k)
  obtain ⟨cl309, Ar309, q309, S309, M309, H309, G309⟩ := id P0
  have g310 : Goes p e below S0 (s₁.setTop (mkF m 13 #[rv ba, iv (0 : Int32), iv xt] [(.int xt), (.int (0 : Int32)), (.ref ba)])) := fun t k => g308 t (by
    refine X0.arraylength hx (by rw [e0]; exact Ar309.1) (State.isArrayOf_alike hZ.alike Ar309.2.1) (g := (mkF m 6 #[rv ba, iv (0 : Int32), iv xt] [(.ref ba), (.int xt)])) rfl rfl (hb hby d24_6) _ ?_
    rw [len_of S309 M309]
    show Go p e below t s₁ m 7 #[rv ba, iv (0 : Int32), iv xt] [(.int (16 : Int32)), (.int xt)]
    refine XS.icmpNo X0.here hx rfl (hb hby d24_7) rfl (XT.ii_eq_f hct.2.2.2) ?_
    show Go p e below t s₁ m 10 #[rv ba, iv (0 : Int32), iv xt] []
    refine XS.aloadN X0.here hx rfl (hb hby d24_10) rfl rfl ?_
    show Go p e below t s₁ m 11 #[rv ba, iv (0 : Int32), iv xt] [(.ref ba)]
    refine XS.iloadN X0.here hx rfl (hb hby d24_11) rfl ?_
    show Go p e below t s₁ m 12 #[rv ba, iv (0 : Int32), iv xt] [(.int (0 : Int32)), (.ref ba)]
    refine XS.iloadN X0.here hx rfl (hb hby d24_12) rfl ?_
    show Go p e below t s₁ m 13 #[rv ba, iv (0 : Int32), iv xt] [(.int xt), (.int (0 : Int32)), (.ref ba)]
    exact k)
  obtain ⟨_, _, ⟨T311, L311, k311, n311⟩, -, X311, ⟨Lc311, hQ311, l311, y311, z311⟩, st311⟩ := Jvm.LawKit.callS X0 hx (y := (⟨"java/util/Arrays", "copyOfRangeByte", "([BII)[B"⟩ : MethodName)) hown (mvT hZ (hw _ (List.mem_of_getElem? (i := 150) rfl))) (mvT hZ (hw _ (List.mem_of_getElem? (i := 151) rfl))) (mvT hZ (hw _ (List.mem_of_getElem? (i := 148) rfl))) (mvT hZ (hw _ (List.mem_of_getElem? (i := 152) rfl))) (by decide) (backOf (W := 0) (rm_crb l Z a0 hw [] ba (0 : Int32) xt bk vs h0 n0 Z0 P0 rfl hct) hZ (hw _ (List.mem_of_getElem? (i := 152) rfl)) (hw _ (List.mem_of_getElem? (i := 148) rfl)) (by decide) (by decide)) (g := (mkF m 13 #[rv ba, iv (0 : Int32), iv xt] [(.int xt), (.int (0 : Int32)), (.ref ba)])) rfl (by rw [hml]; rfl) (argsL := [(.ref ba), (.int (0 : Int32)), (.int xt)]) (rest := []) (lenOf pd20 rfl) rfl (by show 2 * 0 + _ ≤ _; exact Nat.le_of_eq rfl) (hb hby d24_13) (fun _ _ => ⟨rfl, e0, (by decide : 0 + 1 ≤ _), (by decide : 0 + 8 ≤ _)⟩)
  dsimp only [Pt.U, Pt.locs, Pt.cells, Pt.slots] at X311 l311 y311 z311 st311 hQ311
  subst l311 y311 z311
  obtain ⟨tb_311, tk_311, rfl, N311, R311_0, R311_1, R311_2⟩ := hQ311
  have M311 := Fr.app N0 N311
  have sz311_1 : h0.size ≤ tb_311 := Nat.le_trans (Nat.le_refl _) R311_1
  have ng311_1 : n0 ≤ tb_311 := Nat.le_trans Z0 sz311_1
  have g312 : Goes p e below S0 (T311.setTop (mkF m 16 #[rv ba, iv (0 : Int32), iv xt] [(.ref tb_311)])) := fun t k => g310 t (st311 t k)
  obtain ⟨fs, hr, hrun, hended, hW, hsame⟩ := X311.leave (v := some (.ref tb_311)) (fun h => by rw [Bd.returns] at h; cases h)
  refine ⟨_, _, g312 _ (retOut X311 hx Bd.returns rfl (Or.inr (Or.inr (Or.inr (Or.inr ⟨rfl, rfl, rfl⟩)))) (hb hby d24_16) hr), hrun, hended, _, _, rfl, ?_, ⟨_, rfl⟩, hW, hsame.mono (by decide) (by decide)⟩
  show Q_cor Z ba (0 : Int32) xt bk vs h0 n0 _ T311.heap _
  exact ⟨tb_311, tk_311, rfl, M311, ((Keep.refl h0 []).trans R311_0 all0), sz311_1, R311_2⟩
theorem d19_0 : decode jdk_42_method_150_code 0 = .ok (.aload_n 0, 1) := by decide +kernel
theorem d19_1 : decode jdk_42_method_150_code 1 = .ok (.invokespecial 1, 3) := by decide +kernel
theorem d19_4 : decode jdk_42_method_150_code 4 = .ok (.aload_n 1, 1) := by decide +kernel
theorem d19_5 : decode jdk_42_method_150_code 5 = .ok (.invokevirtual 552, 3) := by decide +kernel
theorem d19_8 : decode jdk_42_method_150_code 8 = .ok (.astore_n 3, 1) := by decide +kernel
theorem d19_9 : decode jdk_42_method_150_code 9 = .ok (.aload_n 1, 1) := by decide +kernel
theorem d19_10 : decode jdk_42_method_150_code 10 = .ok (.invokevirtual 549, 3) := by decide +kernel
theorem d19_13 : decode jdk_42_method_150_code 13 = .ok (.istore 4, 2) := by decide +kernel
theorem d19_15 : decode jdk_42_method_150_code 15 = .ok (.aload_n 1, 1) := by decide +kernel
theorem d19_16 : decode jdk_42_method_150_code 16 = .ok (.invokevirtual 1047, 3) := by decide +kernel
theorem d19_19 : decode jdk_42_method_150_code 19 = .ok (.ifCond .eq 22, 3) := by decide +kernel
theorem d19_22 : decode jdk_42_method_150_code 22 = .ok (.aload_n 0, 1) := by decide +kernel
theorem d19_23 : decode jdk_42_method_150_code 23 = .ok (.iconst 0, 1) := by decide +kernel
theorem d19_24 : decode jdk_42_method_150_code 24 = .ok (.putfield 15, 3) := by decide +kernel
theorem d19_27 : decode jdk_42_method_150_code 27 = .ok (.aload_n 0, 1) := by decide +kernel
theorem d19_28 : decode jdk_42_method_150_code 28 = .ok (.aload_n 3, 1) := by decide +kernel
theorem d19_29 : decode jdk_42_method_150_code 29 = .ok (.iconst 0, 1) := by decide +kernel
theorem d19_30 : decode jdk_42_method_150_code 30 = .ok (.iload 4, 2) := by decide +kernel
theorem d19_32 : decode jdk_42_method_150_code 32 = .ok (.invokestatic 54, 3) := by decide +kernel
theorem d19_35 : decode jdk_42_method_150_code 35 = .ok (.putfield 9, 3) := by decide +kernel
theorem d19_38 : decode jdk_42_method_150_code 38 = .ok (.goto 59, 3) := by decide +kernel
theorem d19_41 : decode jdk_42_method_150_code 41 = .ok (.getstatic 38, 3) := by decide +kernel
theorem d19_44 : decode jdk_42_method_150_code 44 = .ok (.ifCond .eq 35, 3) := by decide +kernel
theorem d19_47 : decode jdk_42_method_150_code 47 = .ok (.aload_n 1, 1) := by decide +kernel
theorem d19_48 : decode jdk_42_method_150_code 48 = .ok (.getfield 1048, 3) := by decide +kernel
theorem d19_51 : decode jdk_42_method_150_code 51 = .ok (.ifCond .eq 28, 3) := by decide +kernel
theorem d19_54 : decode jdk_42_method_150_code 54 = .ok (.aload_n 0, 1) := by decide +kernel
theorem d19_55 : decode jdk_42_method_150_code 55 = .ok (.aload_n 3, 1) := by decide +kernel
theorem d19_56 : decode jdk_42_method_150_code 56 = .ok (.iconst 0, 1) := by decide +kernel
theorem d19_57 : decode jdk_42_method_150_code 57 = .ok (.iload 4, 2) := by decide +kernel
theorem d19_59 : decode jdk_42_method_150_code 59 = .ok (.invokestatic 1051, 3) := by decide +kernel
theorem d19_62 : decode jdk_42_method_150_code 62 = .ok (.putfield 9, 3) := by decide +kernel
theorem d19_65 : decode jdk_42_method_150_code 65 = .ok (.aload_n 0, 1) := by decide +kernel
theorem d19_66 : decode jdk_42_method_150_code 66 = .ok (.aload_n 0, 1) := by decide +kernel
theorem d19_67 : decode jdk_42_method_150_code 67 = .ok (.getfield 9, 3) := by decide +kernel
theorem d19_70 : decode jdk_42_method_150_code 70 = .ok (.iload 4, 2) := by decide +kernel
theorem d19_72 : decode jdk_42_method_150_code 72 = .ok (.invokestatic 47, 3) := by decide +kernel
theorem d19_75 : decode jdk_42_method_150_code 75 = .ok (.putfield 15, 3) := by decide +kernel
theorem d19_78 : decode jdk_42_method_150_code 78 = .ok (.return_, 1) := by decide +kernel
theorem d19_79 : decode jdk_42_method_150_code 79 = .ok (.aload_n 0, 1) := by decide +kernel
theorem d19_80 : decode jdk_42_method_150_code 80 = .ok (.iconst 1, 1) := by decide +kernel
theorem d19_81 : decode jdk_42_method_150_code 81 = .ok (.putfield 15, 3) := by decide +kernel
theorem d19_84 : decode jdk_42_method_150_code 84 = .ok (.aload_n 0, 1) := by decide +kernel
theorem d19_85 : decode jdk_42_method_150_code 85 = .ok (.aload_n 3, 1) := by decide +kernel
theorem d19_86 : decode jdk_42_method_150_code 86 = .ok (.iconst 0, 1) := by decide +kernel
theorem d19_87 : decode jdk_42_method_150_code 87 = .ok (.iload 4, 2) := by decide +kernel
theorem d19_89 : decode jdk_42_method_150_code 89 = .ok (.iconst 1, 1) := by decide +kernel
theorem d19_90 : decode jdk_42_method_150_code 90 = .ok (.ishl, 1) := by decide +kernel
theorem d19_91 : decode jdk_42_method_150_code 91 = .ok (.invokestatic 54, 3) := by decide +kernel
theorem d19_94 : decode jdk_42_method_150_code 94 = .ok (.putfield 9, 3) := by decide +kernel
theorem d19_97 : decode jdk_42_method_150_code 97 = .ok (.return_, 1) := by decide +kernel
theorem pd21 : parseMethodDescriptor "(Ljava/lang/AbstractStringBuilder;Ljava/lang/Void;)V" = some ⟨[(.object "java/lang/AbstractStringBuilder"), (.object "java/lang/Void")], none⟩ := by decide +kernel
theorem pf_sia : plainFor (⟨"java/lang/String", "<init>", "(Ljava/lang/AbstractStringBuilder;Ljava/lang/Void;)V"⟩ : MethodName) = true := by first | exact plainFor_of_name (by first | (simp [plainName, overriddenIn, x]; done) | decide +kernel) | exact Jvm.Free.JP.mathPlain rfl (by decide +kernel) | decide +kernel
theorem ef_sia (m : MethodId) (sa : Addr) (aa : Addr) : entryFrame m #[(.ref sa), (.ref aa), .null] 5 = mkF m 0 #[rv sa, rv aa, .val .null, .unset, .unset] [] := by first | (simp [entryFrame, mkF, argsToLocals, Value.category, maxLocals]; done) | rfl
def Q_sia (Z : State) (sa : Addr) (aa : Addr) (ea : Addr) (ek : ClassId) (vs : List Value) (xc : Int32) (cz : Int32) (h0 : Heap) (n0 : Nat) (v : Option Value) (h : Heap) (L : List Loc) : Prop := ∃ (tb : Addr) (tk : ClassId), v = none ∧ Fr n0 L ∧ (Keep h0 h [sa]) ∧ (h0.size ≤ tb) ∧ (Exa Z h sa "java/lang/String") ∧ (Fld Z h sa "java/lang/String" "value" "[B" (.ref tb)) ∧ (Fld Z h sa "java/lang/String" "coder" "B" (.int (0 : Int32))) ∧ (Arv Z h tb tk .byte xc (own_res vs xc) (.int (0 : Int32)))
set_option maxRecDepth 65536 in
set_option maxHeartbeats 40000000 in
theorem rm_sia (l : Launch) (Z : State) (a0 : Array Value) (hw : ∀ d ∈ tables_1, d.before a0 Z = true) (ws : List Jvm.Cond) (sa : Addr) (aa : Addr) (ea : Addr) (ek : ClassId) (vs : List Value) (xc : Int32) (cz : Int32) (h0 : Heap) (n0 : Nat) (Z0 : n0 ≤ h0.size) (P0 : Exa Z h0 sa "java/lang/String") (P1 : Fld Z h0 sa "java/lang/String" "value" "[B" .null) (P2 : Fld Z h0 sa "java/lang/String" "coder" "B" (.int (0 : Int32))) (P3 : n0 ≤ sa) (P4 : Exa Z h0 aa "java/lang/StringBuilder") (P5 : Fld Z h0 aa "java/lang/AbstractStringBuilder" "value" "[B" (.ref ea)) (P6 : Fld Z h0 aa "java/lang/AbstractStringBuilder" "coder" "B" (.int (0 : Int32))) (P7 : Fld Z h0 aa "java/lang/AbstractStringBuilder" "count" "I" (.int xc)) (P8 : Arv Z h0 ea ek .byte (16 : Int32) vs (.int (0 : Int32))) (P9 : Sta Z h0 "java/lang/String" "COMPACT_STRINGS" "Z" (.int cz)) (hz : ¬ cz = 0) (hct : own_ct xc) (P12 : ea ≠ sa)  :
    MetFree l (⟨"java/lang/String", "<init>", "(Ljava/lang/AbstractStringBuilder;Ljava/lang/Void;)V"⟩ : MethodName) (head1 (Jvm.Cond.code (⟨"java/lang/String", "<init>", "(Ljava/lang/AbstractStringBuilder;Ljava/lang/Void;)V"⟩ : MethodName) jdk_42_method_150_code 5 none :: ws) ({ frames := 3, cells := 1, slots := 8, locals := 49 } : Room)) (fun a U => a = #[(.ref sa), (.ref aa), .null] ∧ Z.Warmed39 U.vm ∧ U.heap = h0) (fun _ _ _ _ _ => True) (fun _ U o U' => ∃ v L, o = .returned v ∧ Q_sia Z sa aa ea ek vs xc cz h0 n0 v U'.heap L ∧ FrameEnd U o U' L ({ frames := 3, cells := 1, slots := 8, locals := 49 } : Room).cells ({ frames := 3, cells := 1, slots := 8, locals := 49 } : Room).slots) := by
  refine MetFree.of_bodySF pf_sia hisR ?_
  intro p e s m args below meth c s₁ Bd hml0 hP hK
  obtain ⟨rfl, hZ, hh⟩ := hP
  have hx := Bd.exec
  have hby := Bd.bytes
  have hml : c.maxLocals = 5 := hml0
  have hown : s.vm.findClass "java/lang/String" = some m.cls := findClass_of_methodNamed Bd.named
  have hnm := (name_of_methodNamed Bd.named Bd.method).1
  have X0 : Stand p l e ({ frames := 3, cells := 1, slots := 8, locals := 49 } : Room) s m #[(.ref sa), (.ref aa), .null] below meth c s₁ [] 0 0 := Stand.of_body Bd
  have e0 : s₁.heap = h0 := by rw [← hh, Bd.state]; rfl
  have N0 := Fr.nil n0
  obtain ⟨S0, hS0⟩ : ∃ z, z = s₁.setTop (entryFrame m #[(.ref sa), (.ref aa), .null] 5) := ⟨_, rfl⟩
  rw [← hS0]
  have g0 : Goes p e below S0 (s₁.setTop (mkF m 0 #[rv sa, rv aa, .val .null, .unset, .unset] [])) := fun t k => by rw [hS0]; exact castTop (ef_sia m sa aa) k
  have g313 : Goes p e below S0 (s₁.setTop (mkF m 1 #[rv sa, rv aa, .val .null, .unset, .unset] [(.ref sa)])) := fun t k => g0 t (by
    refine XS.aloadN X0.here hx rfl (hb hby d19_0) rfl rfl ?_
    show Go p e below t s₁ m 1 #[rv sa, rv aa, .val .null, .unset, .unset] [(.ref sa)]
    exact k)
  obtain ⟨T314, X314, e314, st314⟩ := initO X0 hx hZ hown (hw _ (List.mem_of_getElem? (i := 15) rfl)) (hw _ (List.mem_of_getElem? (i := 16) rfl)) (hw _ (List.mem_of_getElem? (i := 17) rfl)) e0 (g := (mkF m 1 #[rv sa, rv aa, .val .null, .unset, .unset] [(.ref sa)])) rfl (by rw [hml]; rfl) rfl (hb hby d19_1) (by decide) (W := 0) (by show 2 * 0 + _ ≤ _; exact Nat.le_of_eq rfl) (by decide)
  have g315 : Goes p e below S0 (T314.setTop (mkF m 4 #[rv sa, rv aa, .val .null, .unset, .unset] [])) := fun t k => g313 t (st314 t k)
  have g316 : Goes p e below S0 (T314.setTop (mkF m 5 #[rv sa, rv aa, .val .null, .unset, .unset] [(.ref aa)])) := fun t k => g315 t (by
    refine XS.aloadN X314.here hx rfl (hb hby d19_4) rfl rfl ?_
    show Go p e below t T314 m 5 #[rv sa, rv aa, .val .null, .unset, .unset] [(.ref aa)]
    exact k)
  obtain ⟨cq317, kq317, q317a, q317b, q317c⟩ := isOf hZ e314 P4
  obtain ⟨_, _, ⟨T317, L317, k317, n317⟩, -, X317, ⟨Lc317, hQ317, l317, y317, z317⟩, st317⟩ := X314.virtualBack hx (y := (⟨"java/lang/AbstractStringBuilder", "getValue", "()[B"⟩ : MethodName)) (z := (⟨"java/lang/AbstractStringBuilder", "getValue", "()[B"⟩ : MethodName)) hown (mvT hZ (hw _ (List.mem_of_getElem? (i := 128) rfl))) (mvT hZ (hw _ (List.mem_of_getElem? (i := 129) rfl))) (notFace_of_selects (args := #[]) (mvT hZ (hw _ (List.mem_of_getElem? (i := 131) rfl)))) (mvT hZ (hw _ (List.mem_of_getElem? (i := 131) rfl))) (mvT hZ (hw _ (List.mem_of_getElem? (i := 130) rfl))) (by decide) (backOf (W := 0) (rm_gvl l Z a0 hw [] aa ea h0 n0 Z0 P5) hZ (hw _ (List.mem_of_getElem? (i := 132) rfl)) (hw _ (List.mem_of_getElem? (i := 59) rfl)) (by decide) (by decide)) q317a q317c (g := (mkF m 5 #[rv sa, rv aa, .val .null, .unset, .unset] [(.ref aa)])) rfl (by rw [hml]; rfl) (Steps.refl _) (argsL := []) (rest := []) (lenOf pd17 rfl) rfl (by show 2 * 0 + _ ≤ _; exact Nat.le_of_eq rfl) (hb hby d19_5) (fun _ _ => ⟨rfl, e314, (by decide : 0 + 0 ≤ _), (by decide : 0 + 0 ≤ _)⟩)
  dsimp only [Pt.U, Pt.locs, Pt.cells, Pt.slots] at X317 l317 y317 z317 st317 hQ317
  subst l317 y317 z317
  obtain ⟨rfl, N317, R317_0⟩ := hQ317
  have M317 := Fr.app N0 N317
  have g318 : Goes p e below S0 (T317.setTop (mkF m 8 #[rv sa, rv aa, .val .null, .unset, .unset] [(.ref ea)])) := fun t k => g316 t (st317.trans k)
  have g319 : Goes p e below S0 (T317.setTop (mkF m 10 #[rv sa, rv aa, .val .null, rv ea, .unset] [(.ref aa)])) := fun t k => g318 t (by
    refine XS.astoreN X317.here hx rfl (hb hby d19_8) rfl rfl (l' := #[rv sa, rv aa, .val .null, rv ea, .unset]) rfl ?_
    show Go p e below t T317 m 9 #[rv sa, rv aa, .val .null, rv ea, .unset] []
    refine XS.aloadN X317.here hx rfl (hb hby d19_9) rfl rfl ?_
    show Go p e below t T317 m 10 #[rv sa, rv aa, .val .null, rv ea, .unset] [(.ref aa)]
    exact k)
  obtain ⟨cq320, kq320, q320a, q320b, q320c⟩ := isOf hZ R317_0 P4
  obtain ⟨_, _, ⟨T320, L320, k320, n320⟩, -, X320, ⟨Lc320, hQ320, l320, y320, z320⟩, st320⟩ := X317.virtualBack hx (y := (⟨"java/lang/AbstractStringBuilder", "length", "()I"⟩ : MethodName)) (z := (⟨"java/lang/StringBuilder", "length", "()I"⟩ : MethodName)) hown (mvT hZ (hw _ (List.mem_of_getElem? (i := 133) rfl))) (mvT hZ (hw _ (List.mem_of_getElem? (i := 134) rfl))) (own_nf (args := #[]) (mvT hZ (hw _ (List.mem_of_getElem? (i := 93) rfl))) rfl) (mvT hZ (hw _ (List.mem_of_getElem? (i := 136) rfl))) (mvT hZ (hw _ (List.mem_of_getElem? (i := 137) rfl))) (by decide) (backOf (W := 0) (rm_sln l Z a0 hw [] aa xc h0 n0 Z0 P4 P7) hZ (hw _ (List.mem_of_getElem? (i := 138) rfl)) (hw _ (List.mem_of_getElem? (i := 51) rfl)) (by decide) (by decide)) q320a q320c (g := (mkF m 10 #[rv sa, rv aa, .val .null, rv ea, .unset] [(.ref aa)])) rfl (by rw [hml]; rfl) (Steps.refl _) (argsL := []) (rest := []) (lenOf pd1 rfl) rfl (by show 2 * 0 + _ ≤ _; exact Nat.le_of_eq rfl) (hb hby d19_10) (fun _ _ => ⟨rfl, R317_0, (by decide : 0 + 0 ≤ _), (by decide : 0 + 0 ≤ _)⟩)
  dsimp only [Pt.U, Pt.locs, Pt.cells, Pt.slots] at X320 l320 y320 z320 st320 hQ320
  subst l320 y320 z320
  obtain ⟨rfl, N320, R320_0⟩ := hQ320
  have M320 := Fr.app M317 N320
  have g321 : Goes p e below S0 (T320.setTop (mkF m 13 #[rv sa, rv aa, .val .null, rv ea, .unset] [(.int xc)])) := fun t k => g319 t (st320.trans k)
  have g322 : Goes p e below S0 (T320.setTop (mkF m 16 #[rv sa, rv aa, .val .null, rv ea, iv xc] [(.ref aa)])) := fun t k => g321 t (by
    refine XS.istore X320.here hx rfl (hb hby d19_13) rfl (l' := #[rv sa, rv aa, .val .null, rv ea, iv xc]) rfl ?_
    show Go p e below t T320 m 15 #[rv sa, rv aa, .val .null, rv ea, iv xc] []
    refine XS.aloadN X320.here hx rfl (hb hby d19_15) rfl rfl ?_
    show Go p e below t T320 m 16 #[rv sa, rv aa, .val .null, rv ea, iv xc] [(.ref aa)]
    exact k)
  obtain ⟨cq323, kq323, q323a, q323b, q323c⟩ := isOf hZ R320_0 P4
  obtain ⟨_, _, ⟨T323, L323, k323, n323⟩, -, X323, ⟨Lc323, hQ323, l323, y323, z323⟩, st323⟩ := X320.virtualBack hx (y := (⟨"java/lang/AbstractStringBuilder", "isLatin1", "()Z"⟩ : MethodName)) (z := (⟨"java/lang/AbstractStringBuilder", "isLatin1", "()Z"⟩ : MethodName)) hown (mvT hZ (hw _ (List.mem_of_getElem? (i := 141) rfl))) (mvT hZ (hw _ (List.mem_of_getElem? (i := 142) rfl))) (notFace_of_selects (args := #[]) (mvT hZ (hw _ (List.mem_of_getElem? (i := 144) rfl)))) (mvT hZ (hw _ (List.mem_of_getElem? (i := 144) rfl))) (mvT hZ (hw _ (List.mem_of_getElem? (i := 143) rfl))) (by decide) (backOf (W := 0) (rm_isl l Z a0 hw [] aa cz h0 n0 Z0 P6 P9 hz) hZ (hw _ (List.mem_of_getElem? (i := 145) rfl)) (hw _ (List.mem_of_getElem? (i := 59) rfl)) (by decide) (by decide)) q323a q323c (g := (mkF m 16 #[rv sa, rv aa, .val .null, rv ea, iv xc] [(.ref aa)])) rfl (by rw [hml]; rfl) (Steps.refl _) (argsL := []) (rest := []) (lenOf pd16 rfl) rfl (by show 2 * 0 + _ ≤ _; exact Nat.le_of_eq rfl) (hb hby d19_16) (fun _ _ => ⟨rfl, R320_0, (by decide : 0 + 0 ≤ _), (by decide : 0 + 0 ≤ _)⟩)
  dsimp only [Pt.U, Pt.locs, Pt.cells, Pt.slots] at X323 l323 y323 z323 st323 hQ323
  subst l323 y323 z323
  obtain ⟨rfl, N323, R323_0⟩ := hQ323
  have M323 := Fr.app M320 N323
  have g324 : Goes p e below S0 (T323.setTop (mkF m 19 #[rv sa, rv aa, .val .null, rv ea, iv xc] [(.int (1 : Int32))])) := fun t k => g322 t (st323.trans k)
  have g325 : Goes p e below S0 (T323.setTop (mkF m 24 #[rv sa, rv aa, .val .null, rv ea, iv xc] [(.int (0 : Int32)), (.ref sa)])) := fun t k => g324 t (by
    refine XS.ifNo X323.here hx rfl (hb hby d19_19) rfl (XT.i0_eq_f (by decide)) ?_
    show Go p e below t T323 m 22 #[rv sa, rv aa, .val .null, rv ea, iv xc] []
    refine XS.aloadN X323.here hx rfl (hb hby d19_22) rfl rfl ?_
    show Go p e below t T323 m 23 #[rv sa, rv aa, .val .null, rv ea, iv xc] [(.ref sa)]
    refine XT.iconstV X323.here hx rfl (0 : Int32) (hb hby d19_23) (by decide) ?_
    show Go p e below t T323 m 24 #[rv sa, rv aa, .val .null, rv ea, iv xc] [(.int (0 : Int32)), (.ref sa)]
    exact k)
  obtain ⟨T326, h326, X326, e326, W326, st326⟩ := putFN X323 hx hZ hown (hw _ (List.mem_of_getElem? (i := 25) rfl)) Via.refl R323_0 P2 P0 (Or.inr ⟨(hw _ (List.mem_of_getElem? (i := 21) rfl)), rfl, hnm⟩) (hw _ (List.mem_of_getElem? (i := 5) rfl)) (ty := .byte) (v' := (.int (0 : Int32))) (by decide) (by decide) (by decide) (g := (mkF m 24 #[rv sa, rv aa, .val .null, rv ea, iv xc] [(.int (0 : Int32)), (.ref sa)])) rfl rfl (hb hby d19_24)
  have N326 := Fr.snoc X326 M323 P3
  have Fw326 := Fld.same W326 P2
  have g327 : Goes p e below S0 (T326.setTop (mkF m 27 #[rv sa, rv aa, .val .null, rv ea, iv xc] [])) := fun t k => g325 t (st326 t k)
  have g328 : Goes p e below S0 (T326.setTop (mkF m 32 #[rv sa, rv aa, .val .null, rv ea, iv xc] [(.int xc), (.int (0 : Int32)), (.ref ea), (.ref sa)])) := fun t k => g327 t (by
    refine XS.aloadN X326.here hx rfl (hb hby d19_27) rfl rfl ?_
    show Go p e below t T326 m 28 #[rv sa, rv aa, .val .null, rv ea, iv xc] [(.ref sa)]
    refine XS.aloadN X326.here hx rfl (hb hby d19_28) rfl rfl ?_
    show Go p e below t T326 m 29 #[rv sa, rv aa, .val .null, rv ea, iv xc] [(.ref ea), (.ref sa)]
    refine XT.iconstV X326.here hx rfl (0 : Int32) (hb hby d19_29) (by decide) ?_
    show Go p e below t T326 m 30 #[rv sa, rv aa, .val .null, rv ea, iv xc] [(.int (0 : Int32)), (.ref ea), (.ref sa)]
    refine XS.iload X326.here hx rfl (hb hby d19_30) rfl ?_
    show Go p e below t T326 m 32 #[rv sa, rv aa, .val .null, rv ea, iv xc] [(.int xc), (.int (0 : Int32)), (.ref ea), (.ref sa)]
    exact k)
  obtain ⟨_, _, ⟨T329, L329, k329, n329⟩, -, X329, ⟨Lc329, hQ329, l329, y329, z329⟩, st329⟩ := Jvm.LawKit.callS X326 hx (y := (⟨"java/util/Arrays", "copyOfRange", "([BII)[B"⟩ : MethodName)) hown (mvT hZ (hw _ (List.mem_of_getElem? (i := 146) rfl))) (mvT hZ (hw _ (List.mem_of_getElem? (i := 147) rfl))) (mvT hZ (hw _ (List.mem_of_getElem? (i := 148) rfl))) (mvT hZ (hw _ (List.mem_of_getElem? (i := 149) rfl))) (by decide) (backOf (W := 1) (rm_cor l Z a0 hw [] ea (0 : Int32) xc ek vs h326 n0 (Nat.le_trans Z0 (Nat.le_trans (Nat.le_refl _) (Nat.le_of_eq W326.size.symm))) (P8.other W326 P12) rfl hct) hZ (hw _ (List.mem_of_getElem? (i := 149) rfl)) (hw _ (List.mem_of_getElem? (i := 148) rfl)) (by decide) (by decide)) (g := (mkF m 32 #[rv sa, rv aa, .val .null, rv ea, iv xc] [(.int xc), (.int (0 : Int32)), (.ref ea), (.ref sa)])) rfl (by rw [hml]; rfl) (argsL := [(.ref ea), (.int (0 : Int32)), (.int xc)]) (rest := [(.ref sa)]) (lenOf pd20 rfl) rfl (by show 2 * 0 + _ ≤ _; exact Nat.le_of_eq rfl) (hb hby d19_32) (fun _ _ => ⟨rfl, e326, (by decide : 0 + 1 ≤ _), (by decide : 0 + 8 ≤ _)⟩)
  dsimp only [Pt.U, Pt.locs, Pt.cells, Pt.slots] at X329 l329 y329 z329 st329 hQ329
  subst l329 y329 z329
  obtain ⟨tb_329, tk_329, rfl, N329, R329_0, R329_1, R329_2⟩ := hQ329
  have M329 := Fr.app N326 N329
  have sz329_1 : h0.size ≤ tb_329 := Nat.le_trans (Nat.le_trans (Nat.le_refl _) (Nat.le_of_eq W326.size.symm)) R329_1
  have ng329_1 : n0 ≤ tb_329 := Nat.le_trans Z0 sz329_1
  have g330 : Goes p e below S0 (T329.setTop (mkF m 35 #[rv sa, rv aa, .val .null, rv ea, iv xc] [(.ref tb_329), (.ref sa)])) := fun t k => g328 t (st329 t k)
  obtain ⟨T331, h331, X331, e331, W331, st331⟩ := putF X329 hx hZ hown (host := "") (Or.inl (hw _ (List.mem_of_getElem? (i := 24) rfl))) Via.refl rfl ((P1.other W326 (Or.inr (slot_ne (Or.inr (hw _ (List.mem_of_getElem? (i := 20) rfl))) (Or.inr (hw _ (List.mem_of_getElem? (i := 21) rfl))) (by decide) (t := (.array .byte)) (t' := .byte) (by decide) (by decide)))).keep R329_0 nin0) ((P0.wr W326).keep R329_0) (Or.inr ⟨(hw _ (List.mem_of_getElem? (i := 20) rfl)), rfl, hnm⟩) (hw _ (List.mem_of_getElem? (i := 5) rfl)) (ty := (.array .byte)) (by decide) rfl rfl (g := (mkF m 35 #[rv sa, rv aa, .val .null, rv ea, iv xc] [(.ref tb_329), (.ref sa)])) rfl rfl (hb hby d19_35)
  have N331 := Fr.snoc X331 M329 P3
  have Fw331 := Fld.same W331 ((P1.other W326 (Or.inr (slot_ne (Or.inr (hw _ (List.mem_of_getElem? (i := 20) rfl))) (Or.inr (hw _ (List.mem_of_getElem? (i := 21) rfl))) (by decide) (t := (.array .byte)) (t' := .byte) (by decide) (by decide)))).keep R329_0 nin0)
  have g332 : Goes p e below S0 (T331.setTop (mkF m 38 #[rv sa, rv aa, .val .null, rv ea, iv xc] [])) := fun t k => g330 t (st331 t k)
  have g333 : Goes p e below S0 (T331.setTop (mkF m 97 #[rv sa, rv aa, .val .null, rv ea, iv xc] [])) := fun t k => g332 t (by
    refine XS.goto X331.here hx rfl (pc0 := 38) (pc' := 97) rfl (hb hby d19_38) (by decide) (by decide) ?_
    show Go p e below t T331 m 97 #[rv sa, rv aa, .val .null, rv ea, iv xc] []
    exact k)
  obtain ⟨fs, hr, hrun, hended, hW, hsame⟩ := X331.leave (v := none) (fun _ => rfl)
  refine ⟨_, _, g333 _ (X331.returnOut hx Bd.returns (hb hby d19_97) hr), hrun, hended, _, _, rfl, ?_, ⟨_, rfl⟩, hW, hsame.mono (by decide) (by decide)⟩
  show Q_sia Z sa aa ea ek vs xc cz h0 n0 _ T331.heap _
  rw [e331]
  exact ⟨tb_329, tk_329, rfl, N331, ((((Keep.refl h0 [sa]).wr W326 (Or.inl (List.mem_of_getElem? (i := 0) rfl))).trans R329_0 all0).wr W331 (Or.inl (List.mem_of_getElem? (i := 0) rfl))), sz329_1, (((P0.wr W326).keep R329_0).wr W331), Fw331, ((Fw326.keep R329_0 nin0).other W331 (Or.inr (slot_ne (Or.inr (hw _ (List.mem_of_getElem? (i := 21) rfl))) (Or.inr (hw _ (List.mem_of_getElem? (i := 20) rfl))) (by decide) (t := .byte) (t' := (.array .byte)) (by decide) (by decide)))), (R329_2.other W331 (Ne.symm (Nat.ne_of_lt (Nat.lt_of_lt_of_le (P0.wr W326).lt R329_1))))⟩
theorem d18_0 : decode jdk_42_method_53_code 0 = .ok (.aload_n 0, 1) := by decide +kernel
theorem d18_1 : decode jdk_42_method_53_code 1 = .ok (.aload_n 1, 1) := by decide +kernel
theorem d18_2 : decode jdk_42_method_53_code 2 = .ok (.aconst_null, 1) := by decide +kernel
theorem d18_3 : decode jdk_42_method_53_code 3 = .ok (.invokespecial 489, 3) := by decide +kernel
theorem d18_6 : decode jdk_42_method_53_code 6 = .ok (.return_, 1) := by decide +kernel
theorem pd22 : parseMethodDescriptor "(Ljava/lang/StringBuilder;)V" = some ⟨[(.object "java/lang/StringBuilder")], none⟩ := by decide +kernel
theorem pf_sib : plainFor (⟨"java/lang/String", "<init>", "(Ljava/lang/StringBuilder;)V"⟩ : MethodName) = true := by first | exact plainFor_of_name (by first | (simp [plainName, overriddenIn, x]; done) | decide +kernel) | exact Jvm.Free.JP.mathPlain rfl (by decide +kernel) | decide +kernel
theorem ef_sib (m : MethodId) (sa : Addr) (aa : Addr) : entryFrame m #[(.ref sa), (.ref aa)] 2 = mkF m 0 #[rv sa, rv aa] [] := by first | (simp [entryFrame, mkF, argsToLocals, Value.category, maxLocals]; done) | rfl
def Q_sib (Z : State) (sa : Addr) (aa : Addr) (ea : Addr) (ek : ClassId) (vs : List Value) (xc : Int32) (cz : Int32) (h0 : Heap) (n0 : Nat) (v : Option Value) (h : Heap) (L : List Loc) : Prop := ∃ (tb : Addr) (tk : ClassId), v = none ∧ Fr n0 L ∧ (Keep h0 h [sa]) ∧ (h0.size ≤ tb) ∧ (Exa Z h sa "java/lang/String") ∧ (Fld Z h sa "java/lang/String" "value" "[B" (.ref tb)) ∧ (Fld Z h sa "java/lang/String" "coder" "B" (.int (0 : Int32))) ∧ (Arv Z h tb tk .byte xc (own_res vs xc) (.int (0 : Int32)))
set_option maxRecDepth 65536 in
set_option maxHeartbeats 40000000 in
theorem rm_sib (l : Launch) (Z : State) (a0 : Array Value) (hw : ∀ d ∈ tables_1, d.before a0 Z = true) (ws : List Jvm.Cond) (sa : Addr) (aa : Addr) (ea : Addr) (ek : ClassId) (vs : List Value) (xc : Int32) (cz : Int32) (h0 : Heap) (n0 : Nat) (Z0 : n0 ≤ h0.size) (P0 : Exa Z h0 sa "java/lang/String") (P1 : Fld Z h0 sa "java/lang/String" "value" "[B" .null) (P2 : Fld Z h0 sa "java/lang/String" "coder" "B" (.int (0 : Int32))) (P3 : n0 ≤ sa) (P4 : Exa Z h0 aa "java/lang/StringBuilder") (P5 : Fld Z h0 aa "java/lang/AbstractStringBuilder" "value" "[B" (.ref ea)) (P6 : Fld Z h0 aa "java/lang/AbstractStringBuilder" "coder" "B" (.int (0 : Int32))) (P7 : Fld Z h0 aa "java/lang/AbstractStringBuilder" "count" "I" (.int xc)) (P8 : Arv Z h0 ea ek .byte (16 : Int32) vs (.int (0 : Int32))) (P9 : Sta Z h0 "java/lang/String" "COMPACT_STRINGS" "Z" (.int cz)) (hz : ¬ cz = 0) (hct : own_ct xc) (P12 : ea ≠ sa)  :
    MetFree l (⟨"java/lang/String", "<init>", "(Ljava/lang/StringBuilder;)V"⟩ : MethodName) (head1 (Jvm.Cond.code (⟨"java/lang/String", "<init>", "(Ljava/lang/StringBuilder;)V"⟩ : MethodName) jdk_42_method_53_code 2 none :: ws) ({ frames := 4, cells := 1, slots := 8, locals := 65 } : Room)) (fun a U => a = #[(.ref sa), (.ref aa)] ∧ Z.Warmed39 U.vm ∧ U.heap = h0) (fun _ _ _ _ _ => True) (fun _ U o U' => ∃ v L, o = .returned v ∧ Q_sib Z sa aa ea ek vs xc cz h0 n0 v U'.heap L ∧ FrameEnd U o U' L ({ frames := 4, cells := 1, slots := 8, locals := 65 } : Room).cells ({ frames := 4, cells := 1, slots := 8, locals := 65 } : Room).slots) := by
  refine MetFree.of_bodySF pf_sib hisR ?_
  intro p e s m args below meth c s₁ Bd hml0 hP hK
  obtain ⟨rfl, hZ, hh⟩ := hP
  have hx := Bd.exec
  have hby := Bd.bytes
  have hml : c.maxLocals = 2 := hml0
  have hown : s.vm.findClass "java/lang/String" = some m.cls := findClass_of_methodNamed Bd.named
  have hnm := (name_of_methodNamed Bd.named Bd.method).1
  have X0 : Stand p l e ({ frames := 4, cells := 1, slots := 8, locals := 65 } : Room) s m #[(.ref sa), (.ref aa)] below meth c s₁ [] 0 0 := Stand.of_body Bd
  have e0 : s₁.heap = h0 := by rw [← hh, Bd.state]; rfl
  have N0 := Fr.nil n0
  obtain ⟨S0, hS0⟩ : ∃ z, z = s₁.setTop (entryFrame m #[(.ref sa), (.ref aa)] 2) := ⟨_, rfl⟩
  rw [← hS0]
  have g0 : Goes p e below S0 (s₁.setTop (mkF m 0 #[rv sa, rv aa] [])) := fun t k => by rw [hS0]; exact castTop (ef_sib m sa aa) k
  have g334 : Goes p e below S0 (s₁.setTop (mkF m 3 #[rv sa, rv aa] [.null, (.ref aa), (.ref sa)])) := fun t k => g0 t (by
    refine XS.aloadN X0.here hx rfl (hb hby d18_0) rfl rfl ?_
    show Go p e below t s₁ m 1 #[rv sa, rv aa] [(.ref sa)]
    refine XS.aloadN X0.here hx rfl (hb hby d18_1) rfl rfl ?_
    show Go p e below t s₁ m 2 #[rv sa, rv aa] [(.ref aa), (.ref sa)]
    refine XS.aconstNull X0.here hx rfl (hb hby d18_2) ?_
    show Go p e below t s₁ m 3 #[rv sa, rv aa] [.null, (.ref aa), (.ref sa)]
    exact k)
  obtain ⟨_, _, ⟨T335, L335, k335, n335⟩, -, X335, ⟨Lc335, hQ335, l335, y335, z335⟩, st335⟩ := X0.specialBack hx (y := (⟨"java/lang/String", "<init>", "(Ljava/lang/AbstractStringBuilder;Ljava/lang/Void;)V"⟩ : MethodName)) rfl hown (mvT hZ (hw _ (List.mem_of_getElem? (i := 125) rfl))) (mvT hZ (hw _ (List.mem_of_getElem? (i := 126) rfl))) (mvT hZ (hw _ (List.mem_of_getElem? (i := 127) rfl))) (by decide) (backOf (W := 0) (rm_sia l Z a0 hw [] sa aa ea ek vs xc cz h0 n0 Z0 P0 P1 P2 P3 P4 P5 P6 P7 P8 P9 hz hct P12) hZ (hw _ (List.mem_of_getElem? (i := 127) rfl)) (hw _ (List.mem_of_getElem? (i := 6) rfl)) (by decide) (by decide)) (g := (mkF m 3 #[rv sa, rv aa] [.null, (.ref aa), (.ref sa)])) rfl (by rw [hml]; rfl) (Steps.refl _) (a := sa) (argsL := [(.ref aa), .null]) (rest := []) (lenOf pd21 rfl) rfl (by show 2 * 0 + _ ≤ _; exact Nat.le_of_eq rfl) (hb hby d18_3) (fun _ _ => ⟨rfl, e0, (by decide : 0 + 1 ≤ _), (by decide : 0 + 8 ≤ _)⟩)
  dsimp only [Pt.U, Pt.locs, Pt.cells, Pt.slots] at X335 l335 y335 z335 st335 hQ335
  subst l335 y335 z335
  obtain ⟨tb_335, tk_335, rfl, N335, R335_0, R335_1, R335_2, R335_3, R335_4, R335_5⟩ := hQ335
  have M335 := Fr.app N0 N335
  have sz335_1 : h0.size ≤ tb_335 := Nat.le_trans (Nat.le_refl _) R335_1
  have ng335_1 : n0 ≤ tb_335 := Nat.le_trans Z0 sz335_1
  have g336 : Goes p e below S0 (T335.setTop (mkF m 6 #[rv sa, rv aa] [])) := fun t k => g334 t (st335.trans k)
  obtain ⟨fs, hr, hrun, hended, hW, hsame⟩ := X335.leave (v := none) (fun _ => rfl)
  refine ⟨_, _, g336 _ (X335.returnOut hx Bd.returns (hb hby d18_6) hr), hrun, hended, _, _, rfl, ?_, ⟨_, rfl⟩, hW, hsame.mono (by decide) (by decide)⟩
  show Q_sib Z sa aa ea ek vs xc cz h0 n0 _ T335.heap _
  exact ⟨tb_335, tk_335, rfl, M335, ((Keep.refl h0 [sa]).trans R335_0 (allS (Or.inl (List.mem_of_getElem? (i := 0) rfl)) all0)), sz335_1, R335_2, R335_3, R335_4, R335_5⟩
theorem d17_0 : decode jdk_67_method_42_code 0 = .ok (.new 18, 3) := by decide +kernel
theorem d17_3 : decode jdk_67_method_42_code 3 = .ok (.dup, 1) := by decide +kernel
theorem d17_4 : decode jdk_67_method_42_code 4 = .ok (.aload_n 0, 1) := by decide +kernel
theorem d17_5 : decode jdk_67_method_42_code 5 = .ok (.invokespecial 137, 3) := by decide +kernel
theorem d17_8 : decode jdk_67_method_42_code 8 = .ok (.areturn, 1) := by decide +kernel
theorem pd23 : parseMethodDescriptor "()Ljava/lang/String;" = some ⟨[], some (.object "java/lang/String")⟩ := by decide +kernel
theorem pf_tos : plainFor (⟨"java/lang/StringBuilder", "toString", "()Ljava/lang/String;"⟩ : MethodName) = true := by first | exact plainFor_of_name (by first | (simp [plainName, overriddenIn, x]; done) | decide +kernel) | exact Jvm.Free.JP.mathPlain rfl (by decide +kernel) | decide +kernel
theorem ef_tos (m : MethodId) (aa : Addr) : entryFrame m #[(.ref aa)] 1 = mkF m 0 #[rv aa] [] := by first | (simp [entryFrame, mkF, argsToLocals, Value.category, maxLocals]; done) | rfl
def Q_tos (Z : State) (aa : Addr) (ea : Addr) (ek : ClassId) (vs : List Value) (xc : Int32) (cz : Int32) (h0 : Heap) (n0 : Nat) (v : Option Value) (h : Heap) (L : List Loc) : Prop := ∃ (nr : Addr) (tb : Addr) (tk : ClassId), v = some (.ref nr) ∧ Fr n0 L ∧ (Keep h0 h []) ∧ (h0.size ≤ nr) ∧ (Exa Z h nr "java/lang/String") ∧ (Fld Z h nr "java/lang/String" "value" "[B" (.ref tb)) ∧ (Fld Z h nr "java/lang/String" "coder" "B" (.int (0 : Int32))) ∧ (Arv Z h tb tk .byte xc (own_res vs xc) (.int (0 : Int32)))
set_option maxRecDepth 65536 in
set_option maxHeartbeats 40000000 in
theorem rm_tos (l : Launch) (Z : State) (a0 : Array Value) (hw : ∀ d ∈ tables_1, d.before a0 Z = true) (ws : List Jvm.Cond) (aa : Addr) (ea : Addr) (ek : ClassId) (vs : List Value) (xc : Int32) (cz : Int32) (h0 : Heap) (n0 : Nat) (Z0 : n0 ≤ h0.size) (P0 : Exa Z h0 aa "java/lang/StringBuilder") (P1 : Fld Z h0 aa "java/lang/AbstractStringBuilder" "value" "[B" (.ref ea)) (P2 : Fld Z h0 aa "java/lang/AbstractStringBuilder" "coder" "B" (.int (0 : Int32))) (P3 : Fld Z h0 aa "java/lang/AbstractStringBuilder" "count" "I" (.int xc)) (P4 : Arv Z h0 ea ek .byte (16 : Int32) vs (.int (0 : Int32))) (P5 : Sta Z h0 "java/lang/String" "COMPACT_STRINGS" "Z" (.int cz)) (hz : ¬ cz = 0) (hct : own_ct xc)  :
    MetFree l (⟨"java/lang/StringBuilder", "toString", "()Ljava/lang/String;"⟩ : MethodName) (head1 (Jvm.Cond.code (⟨"java/lang/StringBuilder", "toString", "()Ljava/lang/String;"⟩ : MethodName) jdk_67_method_42_code 1 (some (.object "java/lang/String")) :: ws) ({ frames := 5, cells := 2, slots := 12, locals := 79 } : Room)) (fun a U => a = #[(.ref aa)] ∧ Z.Warmed39 U.vm ∧ U.heap = h0) (fun _ _ _ _ _ => True) (fun _ U o U' => ∃ v L, o = .returned v ∧ Q_tos Z aa ea ek vs xc cz h0 n0 v U'.heap L ∧ FrameEnd U o U' L ({ frames := 5, cells := 2, slots := 12, locals := 79 } : Room).cells ({ frames := 5, cells := 2, slots := 12, locals := 79 } : Room).slots) := by
  refine MetFree.of_bodySF pf_tos hisR ?_
  intro p e s m args below meth c s₁ Bd hml0 hP hK
  obtain ⟨rfl, hZ, hh⟩ := hP
  have hx := Bd.exec
  have hby := Bd.bytes
  have hml : c.maxLocals = 1 := hml0
  have hown : s.vm.findClass "java/lang/StringBuilder" = some m.cls := findClass_of_methodNamed Bd.named
  have hnm := (name_of_methodNamed Bd.named Bd.method).1
  have X0 : Stand p l e ({ frames := 5, cells := 2, slots := 12, locals := 79 } : Room) s m #[(.ref aa)] below meth c s₁ [] 0 0 := Stand.of_body Bd
  have e0 : s₁.heap = h0 := by rw [← hh, Bd.state]; rfl
  have N0 := Fr.nil n0
  obtain ⟨S0, hS0⟩ : ∃ z, z = s₁.setTop (entryFrame m #[(.ref aa)] 1) := ⟨_, rfl⟩
  rw [← hS0]
  have g0 : Goes p e below S0 (s₁.setTop (mkF m 0 #[rv aa] [])) := fun t k => by rw [hS0]; exact castTop (ef_tos m aa) k
  obtain ⟨T337, h337, X337, e337, E337, A337, D337, -, st337⟩ := newO X0 hx hZ hown (hw _ (List.mem_of_getElem? (i := 121) rfl)) (hw _ (List.mem_of_getElem? (i := 5) rfl)) (hw _ (List.mem_of_getElem? (i := 6) rfl)) e0 (g := (mkF m 0 #[rv aa] [])) rfl (hb hby d17_0) (by decide) (by decide)
  obtain ⟨b337, gb337⟩ : ∃ z, z = h0.size := ⟨_, rfl⟩
  have sz337 : h0.size ≤ b337 := Nat.le_trans (Nat.le_refl _) (Nat.le_of_eq gb337.symm)
  have ng337 : n0 ≤ b337 := Nat.le_trans Z0 sz337
  rw [← gb337] at A337 D337 st337
  have F337_338 : Fld Z h337 b337 "java/lang/String" "value" "[B" .null := D337 (Or.inr (hw _ (List.mem_of_getElem? (i := 20) rfl))) (ty := (.array .byte)) (by decide)
  have F337_339 : Fld Z h337 b337 "java/lang/String" "coder" "B" (.int (0 : Int32)) := D337 (Or.inr (hw _ (List.mem_of_getElem? (i := 21) rfl))) (ty := .byte) (by decide)
  have g340 : Goes p e below S0 (T337.setTop (mkF m 3 #[rv aa] [(.ref b337)])) := fun t k => g0 t (st337 t k)
  have g341 : Goes p e below S0 (T337.setTop (mkF m 5 #[rv aa] [(.ref aa), (.ref b337), (.ref b337)])) := fun t k => g340 t (by
    refine XS.dup X337.here hx rfl (hb hby d17_3) rfl rfl ?_
    show Go p e below t T337 m 4 #[rv aa] [(.ref b337), (.ref b337)]
    refine XS.aloadN X337.here hx rfl (hb hby d17_4) rfl rfl ?_
    show Go p e below t T337 m 5 #[rv aa] [(.ref aa), (.ref b337), (.ref b337)]
    exact k)
  obtain ⟨_, _, ⟨T342, L342, k342, n342⟩, -, X342, ⟨Lc342, hQ342, l342, y342, z342⟩, st342⟩ := X337.specialBack hx (y := (⟨"java/lang/String", "<init>", "(Ljava/lang/StringBuilder;)V"⟩ : MethodName)) rfl hown (mvT hZ (hw _ (List.mem_of_getElem? (i := 122) rfl))) (mvT hZ (hw _ (List.mem_of_getElem? (i := 123) rfl))) (mvT hZ (hw _ (List.mem_of_getElem? (i := 124) rfl))) (by decide) (backOf (W := 1) (rm_sib l Z a0 hw [] b337 aa ea ek vs xc cz h337 n0 (Nat.le_trans Z0 (Nat.le_trans (Nat.le_refl _) E337.1)) A337 F337_338 F337_339 ng337 (P0.ext E337) (P1.ext E337) (P2.ext E337) (P3.ext E337) (P4.ext E337) (P5.ext E337) hz hct (Nat.ne_of_lt (Nat.lt_of_lt_of_le P4.lt (Nat.le_of_eq gb337.symm)))) hZ (hw _ (List.mem_of_getElem? (i := 124) rfl)) (hw _ (List.mem_of_getElem? (i := 6) rfl)) (by decide) (by decide)) (g := (mkF m 5 #[rv aa] [(.ref aa), (.ref b337), (.ref b337)])) rfl (by rw [hml]; rfl) (Steps.refl _) (a := b337) (argsL := [(.ref aa)]) (rest := [(.ref b337)]) (lenOf pd22 rfl) rfl (by show 2 * 0 + _ ≤ _; exact Nat.le_of_eq rfl) (hb hby d17_5) (fun _ _ => ⟨rfl, e337, (by decide : 1 + 1 ≤ _), (by decide : 4 + 8 ≤ _)⟩)
  dsimp only [Pt.U, Pt.locs, Pt.cells, Pt.slots] at X342 l342 y342 z342 st342 hQ342
  subst l342 y342 z342
  obtain ⟨tb_342, tk_342, rfl, N342, R342_0, R342_1, R342_2, R342_3, R342_4, R342_5⟩ := hQ342
  have M342 := Fr.app N0 N342
  have sz342_1 : h0.size ≤ tb_342 := Nat.le_trans (Nat.le_trans (Nat.le_refl _) E337.1) R342_1
  have ng342_1 : n0 ≤ tb_342 := Nat.le_trans Z0 sz342_1
  have g343 : Goes p e below S0 (T342.setTop (mkF m 8 #[rv aa] [(.ref b337)])) := fun t k => g341 t (st342.trans k)
  obtain ⟨fs, hr, hrun, hended, hW, hsame⟩ := X342.leave (v := some (.ref b337)) (fun h => by rw [Bd.returns] at h; cases h)
  refine ⟨_, _, g343 _ (retOut X342 hx Bd.returns rfl (Or.inr (Or.inr (Or.inr (Or.inr ⟨rfl, rfl, rfl⟩)))) (hb hby d17_8) hr), hrun, hended, _, _, rfl, ?_, ⟨_, rfl⟩, hW, hsame.mono (by decide) (by decide)⟩
  show Q_tos Z aa ea ek vs xc cz h0 n0 _ T342.heap _
  exact ⟨b337, tb_342, tk_342, rfl, M342, (((Keep.refl h0 []).ext E337).trans R342_0 (allS (Or.inr sz337) all0)), sz337, R342_2, R342_3, R342_4, R342_5⟩
theorem d6_0 : decode prog_30_method_2_code 0 = .ok (.new 20, 3) := by decide +kernel
theorem d6_3 : decode prog_30_method_2_code 3 = .ok (.dup, 1) := by decide +kernel
theorem d6_4 : decode prog_30_method_2_code 4 = .ok (.invokespecial 22, 3) := by decide +kernel
theorem d6_7 : decode prog_30_method_2_code 7 = .ok (.aload_n 0, 1) := by decide +kernel
theorem d6_8 : decode prog_30_method_2_code 8 = .ok (.getfield 7, 3) := by decide +kernel
theorem d6_11 : decode prog_30_method_2_code 11 = .ok (.invokevirtual 23, 3) := by decide +kernel
theorem d6_14 : decode prog_30_method_2_code 14 = .ok (.ldc 27, 2) := by decide +kernel
theorem d6_16 : decode prog_30_method_2_code 16 = .ok (.invokevirtual 23, 3) := by decide +kernel
theorem d6_19 : decode prog_30_method_2_code 19 = .ok (.aload_n 0, 1) := by decide +kernel
theorem d6_20 : decode prog_30_method_2_code 20 = .ok (.getfield 13, 3) := by decide +kernel
theorem d6_23 : decode prog_30_method_2_code 23 = .ok (.invokevirtual 23, 3) := by decide +kernel
theorem d6_26 : decode prog_30_method_2_code 26 = .ok (.invokevirtual 29, 3) := by decide +kernel
theorem d6_29 : decode prog_30_method_2_code 29 = .ok (.areturn, 1) := by decide +kernel
theorem pf_nam : plainFor (⟨"com/example/forager/forager/Road", "name", "()Ljava/lang/String;"⟩ : MethodName) = true := by first | exact plainFor_of_name (by first | (simp [plainName, overriddenIn, x]; done) | decide +kernel) | exact Jvm.Free.JP.mathPlain rfl (by decide +kernel) | decide +kernel
theorem ef_nam (m : MethodId) (ra : Addr) : entryFrame m #[(.ref ra)] 1 = mkF m 0 #[rv ra] [] := by first | (simp [entryFrame, mkF, argsToLocals, Value.category, maxLocals]; done) | rfl
def Q_nam (Z : State) (ra : Addr) (sfa : Addr) (sta : Addr) (bf : Addr) (kf : ClassId) (zf : Int32) (uf : List Value) (bt : Addr) (kt : ClassId) (zt : Int32) (ut : List Value) (cz : Int32) (h0 : Heap) (n0 : Nat) (v : Option Value) (h : Heap) (L : List Loc) : Prop := ∃ (nr : Addr) (tb : Addr) (tk : ClassId), v = some (.ref nr) ∧ Fr n0 L ∧ (Keep h0 h []) ∧ (h0.size ≤ nr) ∧ (Exa Z h nr "java/lang/String") ∧ (Fld Z h nr "java/lang/String" "value" "[B" (.ref tb)) ∧ (Fld Z h nr "java/lang/String" "coder" "B" (.int (0 : Int32))) ∧ (Arv Z h tb tk .byte (own_cnt zf zt) (own_nm zf uf zt ut) (.int (0 : Int32)))
set_option maxRecDepth 65536 in
set_option maxHeartbeats 40000000 in
theorem rm_nam (l : Launch) (Z : State) (a0 : Array Value) (hw : ∀ d ∈ tables_1, d.before a0 Z = true) (ws : List Jvm.Cond) (ra : Addr) (sfa : Addr) (sta : Addr) (bf : Addr) (kf : ClassId) (zf : Int32) (uf : List Value) (bt : Addr) (kt : ClassId) (zt : Int32) (ut : List Value) (cz : Int32) (h0 : Heap) (n0 : Nat) (Z0 : n0 ≤ h0.size) (P0 : Fld Z h0 ra "com/example/forager/forager/Road" "from" "Ljava/lang/String;" (.ref sfa)) (P1 : Fld Z h0 ra "com/example/forager/forager/Road" "to" "Ljava/lang/String;" (.ref sta)) (P2 : Exa Z h0 sfa "java/lang/String") (P3 : Fld Z h0 sfa "java/lang/String" "value" "[B" (.ref bf)) (P4 : Fld Z h0 sfa "java/lang/String" "coder" "B" (.int (0 : Int32))) (P5 : Arv Z h0 bf kf .byte zf uf (.int (0 : Int32))) (P6 : Exa Z h0 sta "java/lang/String") (P7 : Fld Z h0 sta "java/lang/String" "value" "[B" (.ref bt)) (P8 : Fld Z h0 sta "java/lang/String" "coder" "B" (.int (0 : Int32))) (P9 : Arv Z h0 bt kt .byte zt ut (.int (0 : Int32))) (P10 : Sta Z h0 "java/lang/String" "COMPACT_STRINGS" "Z" (.int cz)) (hz : ¬ cz = 0) (hsf : own_sm zf uf) (hst : own_sm zt ut)  :
    MetFree l (⟨"com/example/forager/forager/Road", "name", "()Ljava/lang/String;"⟩ : MethodName) (head1 (Jvm.Cond.code (⟨"com/example/forager/forager/Road", "name", "()Ljava/lang/String;"⟩ : MethodName) prog_30_method_2_code 1 (some (.object "java/lang/String")) :: ws) ({ frames := 6, cells := 6, slots := 40, locals := 91 } : Room)) (fun a U => a = #[(.ref ra)] ∧ Z.Warmed39 U.vm ∧ U.heap = h0 ∧ CHv Z consts_1 U.vm h0 ∧ ∀ x ∈ ([] : List Addr), Safe Z consts_1 U.vm h0 x) (fun _ _ _ _ _ => True) (fun _ U o U' => ∃ v L, o = .returned v ∧ Q_nam Z ra sfa sta bf kf zf uf bt kt zt ut cz h0 n0 v U'.heap L ∧ CHr Z consts_1 U.vm U.heap U'.vm U'.heap ∧ ReturnedEndW U o U' L ({ frames := 6, cells := 6, slots := 40, locals := 91 } : Room).cells ({ frames := 6, cells := 6, slots := 40, locals := 91 } : Room).slots) := by
  refine MetFree.of_bodySF pf_nam hisR ?_
  intro p e s m args below meth c s₁ Bd hml0 hP hK
  obtain ⟨rfl, hZ, hh, hC, hSf⟩ := hP
  have hEL : EW Z a0 consts_1 := own_EW hw
  have ch0 : CHr Z consts_1 s.vm h0 s.vm h0 := CHr.refl hC
  have hx := Bd.exec
  have hby := Bd.bytes
  have hml : c.maxLocals = 1 := hml0
  have hown : s.vm.findClass "com/example/forager/forager/Road" = some m.cls := findClass_of_methodNamed Bd.named
  have hnm := (name_of_methodNamed Bd.named Bd.method).1
  have X0 : Stand p l e ({ frames := 6, cells := 6, slots := 40, locals := 91 } : Room) s m #[(.ref ra)] below meth c s₁ [] 0 0 := Stand.of_body Bd
  have e0 : s₁.heap = h0 := by rw [← hh, Bd.state]; rfl
  have N0 := Fr.nil n0
  obtain ⟨S0, hS0⟩ : ∃ z, z = s₁.setTop (entryFrame m #[(.ref ra)] 1) := ⟨_, rfl⟩
  rw [← hS0]
  have g0 : Goes p e below S0 (s₁.setTop (mkF m 0 #[rv ra] [])) := fun t k => by rw [hS0]; exact castTop (ef_nam m ra) k
  obtain ⟨T344, h344, X344, e344, E344, A344, D344, -, st344⟩ := newO X0 hx hZ hown (hw _ (List.mem_of_getElem? (i := 49) rfl)) (hw _ (List.mem_of_getElem? (i := 50) rfl)) (hw _ (List.mem_of_getElem? (i := 51) rfl)) e0 (g := (mkF m 0 #[rv ra] [])) rfl (hb hby d6_0) (by decide) (by decide)
  obtain ⟨b344, gb344⟩ : ∃ z, z = h0.size := ⟨_, rfl⟩
  have sz344 : h0.size ≤ b344 := Nat.le_trans (Nat.le_refl _) (Nat.le_of_eq gb344.symm)
  have ng344 : n0 ≤ b344 := Nat.le_trans Z0 sz344
  rw [← gb344] at A344 D344 st344
  have F344_345 : Fld Z h344 b344 "java/lang/AbstractStringBuilder" "value" "[B" .null := D344 (Or.inl (hw _ (List.mem_of_getElem? (i := 64) rfl))) (ty := (.array .byte)) (by decide)
  have F344_346 : Fld Z h344 b344 "java/lang/AbstractStringBuilder" "coder" "B" (.int (0 : Int32)) := D344 (Or.inl (hw _ (List.mem_of_getElem? (i := 66) rfl))) (ty := .byte) (by decide)
  have F344_347 : Fld Z h344 b344 "java/lang/AbstractStringBuilder" "count" "I" (.int (0 : Int32)) := D344 (Or.inl (hw _ (List.mem_of_getElem? (i := 89) rfl))) (ty := .int) (by decide)
  have g348 : Goes p e below S0 (T344.setTop (mkF m 3 #[rv ra] [(.ref b344)])) := fun t k => g0 t (st344 t k)
  have g349 : Goes p e below S0 (T344.setTop (mkF m 4 #[rv ra] [(.ref b344), (.ref b344)])) := fun t k => g348 t (by
    refine XS.dup X344.here hx rfl (hb hby d6_3) rfl rfl ?_
    show Go p e below t T344 m 4 #[rv ra] [(.ref b344), (.ref b344)]
    exact k)
  obtain ⟨_, _, ⟨T350, L350, k350, n350⟩, -, X350, ⟨Lc350, hQ350, l350, y350, z350⟩, st350⟩ := X344.specialBack hx (y := (⟨"java/lang/StringBuilder", "<init>", "()V"⟩ : MethodName)) rfl hown (mvT hZ (hw _ (List.mem_of_getElem? (i := 52) rfl))) (mvT hZ (hw _ (List.mem_of_getElem? (i := 53) rfl))) (mvT hZ (hw _ (List.mem_of_getElem? (i := 54) rfl))) (by decide) (backOf (W := 1) (rm_sbi l Z a0 hw [] b344 cz h344 n0 (Nat.le_trans Z0 (Nat.le_trans (Nat.le_refl _) E344.1)) A344 F344_345 F344_346 F344_347 ng344 (P10.ext E344) hz) hZ (hw _ (List.mem_of_getElem? (i := 54) rfl)) (hw _ (List.mem_of_getElem? (i := 51) rfl)) (by decide) (by decide)) (g := (mkF m 4 #[rv ra] [(.ref b344), (.ref b344)])) rfl (by rw [hml]; rfl) (Steps.refl _) (a := b344) (argsL := []) (rest := [(.ref b344)]) (lenOf pd8 rfl) rfl (by show 2 * 0 + _ ≤ _; exact Nat.le_of_eq rfl) (hb hby d6_4) (fun _ _ => ⟨rfl, e344, (by decide : 1 + 1 ≤ _), (by decide : 4 + 16 ≤ _)⟩)
  dsimp only [Pt.U, Pt.locs, Pt.cells, Pt.slots] at X350 l350 y350 z350 st350 hQ350
  subst l350 y350 z350
  obtain ⟨ea_350, ek_350, rfl, N350, R350_0, R350_1, R350_2, R350_3, R350_4, R350_5, R350_6⟩ := hQ350
  have M350 := Fr.app N0 N350
  have sz350_1 : h0.size ≤ ea_350 := Nat.le_trans (Nat.le_trans (Nat.le_refl _) E344.1) R350_1
  have ng350_1 : n0 ≤ ea_350 := Nat.le_trans Z0 sz350_1
  have g351 : Goes p e below S0 (T350.setTop (mkF m 7 #[rv ra] [(.ref b344)])) := fun t k => g349 t (st350.trans k)
  have g352 : Goes p e below S0 (T350.setTop (mkF m 8 #[rv ra] [(.ref ra), (.ref b344)])) := fun t k => g351 t (by
    refine XS.aloadN X350.here hx rfl (hb hby d6_7) rfl rfl ?_
    show Go p e below t T350 m 8 #[rv ra] [(.ref ra), (.ref b344)]
    exact k)
  obtain ⟨T353, X353, e353, st353⟩ := getF X350 hx hZ hown (host := "") (Or.inl (hw _ (List.mem_of_getElem? (i := 38) rfl))) Via.refl rfl ((P0.ext E344).keep R350_0 (ninS (Nat.ne_of_lt (Nat.lt_of_lt_of_le P0.lt (Nat.le_of_eq gb344.symm))) nin0)) (g := (mkF m 8 #[rv ra] [(.ref ra), (.ref b344)])) rfl rfl (hb hby d6_8)
  have g354 : Goes p e below S0 (T353.setTop (mkF m 11 #[rv ra] [(.ref sfa), (.ref b344)])) := fun t k => g352 t (st353 t k)
  obtain ⟨cq355, kq355, q355a, q355b, q355c⟩ := isOf hZ e353 R350_2
  obtain ⟨_, _, ⟨T355, L355, k355, n355⟩, -, X355, ⟨Lc355, hQ355, l355, y355, z355⟩, st355⟩ := X353.virtualBack hx (y := (⟨"java/lang/StringBuilder", "append", "(Ljava/lang/String;)Ljava/lang/StringBuilder;"⟩ : MethodName)) (z := (⟨"java/lang/StringBuilder", "append", "(Ljava/lang/String;)Ljava/lang/StringBuilder;"⟩ : MethodName)) hown (mvT hZ (hw _ (List.mem_of_getElem? (i := 67) rfl))) (mvT hZ (hw _ (List.mem_of_getElem? (i := 68) rfl))) (notFace_of_selects (args := #[]) (mvT hZ (hw _ (List.mem_of_getElem? (i := 70) rfl)))) (mvT hZ (hw _ (List.mem_of_getElem? (i := 70) rfl))) (mvT hZ (hw _ (List.mem_of_getElem? (i := 69) rfl))) (by decide) (backOf (W := 0) (rm_sap l Z a0 hw [] b344 sfa ea_350 ek_350 [(.int (0 : Int32)), (.int (0 : Int32)), (.int (0 : Int32)), (.int (0 : Int32)), (.int (0 : Int32)), (.int (0 : Int32)), (.int (0 : Int32)), (.int (0 : Int32)), (.int (0 : Int32)), (.int (0 : Int32)), (.int (0 : Int32)), (.int (0 : Int32)), (.int (0 : Int32)), (.int (0 : Int32)), (.int (0 : Int32)), (.int (0 : Int32))] (0 : Int32) bf kf zf uf cz T350.heap n0 (Nat.le_trans Z0 (Nat.le_trans (Nat.le_trans (Nat.le_refl _) E344.1) R350_0.1)) R350_2 R350_3 R350_4 R350_5 ng344 ng350_1 (Nat.ne_of_lt (Nat.lt_of_lt_of_le A344.lt R350_1)) R350_6 ((P2.ext E344).keep R350_0) ((P3.ext E344).keep R350_0 (ninS (Nat.ne_of_lt (Nat.lt_of_lt_of_le P2.lt (Nat.le_of_eq gb344.symm))) nin0)) ((P4.ext E344).keep R350_0 (ninS (Nat.ne_of_lt (Nat.lt_of_lt_of_le P2.lt (Nat.le_of_eq gb344.symm))) nin0)) ((P5.ext E344).keep R350_0 (ninS (Nat.ne_of_lt (Nat.lt_of_lt_of_le P5.lt (Nat.le_of_eq gb344.symm))) nin0)) (Sta.keepO (P10.ext E344) R350_0 (nsS (Exa.nostat A344) ns0)) hz (own_ok1 hsf)) hZ (hw _ (List.mem_of_getElem? (i := 71) rfl)) (hw _ (List.mem_of_getElem? (i := 51) rfl)) (by decide) (by decide)) q355a q355c (g := (mkF m 11 #[rv ra] [(.ref sfa), (.ref b344)])) rfl (by rw [hml]; rfl) (Steps.refl _) (argsL := [(.ref sfa)]) (rest := []) (lenOf pd15 rfl) rfl (by show 2 * 0 + _ ≤ _; exact Nat.le_of_eq rfl) (hb hby d6_11) (fun _ _ => ⟨rfl, e353, (by decide : 2 + 0 ≤ _), (by decide : 20 + 0 ≤ _)⟩)
  dsimp only [Pt.U, Pt.locs, Pt.cells, Pt.slots] at X355 l355 y355 z355 st355 hQ355
  subst l355 y355 z355
  obtain ⟨rfl, N355, R355_0, R355_1, R355_2, R355_3, R355_4, R355_5⟩ := hQ355
  have M355 := Fr.app M350 N355
  have g356 : Goes p e below S0 (T355.setTop (mkF m 14 #[rv ra] [(.ref b344)])) := fun t k => g354 t (st355.trans k)
  have ch358 := ch0.trans (CHr.ext E344 ch0.1)
  have hs359 : ∀ x ∈ ([b344] : List Addr), Safe Z consts_1 s.vm h344 x := (sfS (Safe.exa hZ.alike A344 (by decide) (by decide)) sf0)
  have ch359 := ch358.trans (CHr.keep R350_0 hs359 ch358.1)
  have hs360 : ∀ x ∈ ([b344, ea_350] : List Addr), Safe Z consts_1 s.vm T350.heap x := (sfS (Safe.exa hZ.alike R350_2 (by decide) (by decide)) (sfS (Safe.keep R350_0 hs359 ch358.1 (Safe.new R350_1)) sf0))
  have ch360 := ch359.trans (CHr.keep R355_0 hs360 ch359.1)
  have wS : ∀ a ∈ Bundle.stringAtoms, a.before a0 Z = true := fun d hd => by
    simp only [Bundle.stringAtoms, List.mem_cons, List.not_mem_nil, or_false] at hd
    rcases hd with rfl | rfl | rfl | rfl | rfl | rfl | rfl
    · exact hw _ (List.mem_of_getElem? (i := 6) rfl)
    · exact hw _ (List.mem_of_getElem? (i := 5) rfl)
    · exact hw _ (List.mem_of_getElem? (i := 19) rfl)
    · exact hw _ (List.mem_of_getElem? (i := 20) rfl)
    · exact hw _ (List.mem_of_getElem? (i := 21) rfl)
    · exact hw _ (List.mem_of_getElem? (i := 22) rfl)
    · exact hw _ (List.mem_of_getElem? (i := 23) rfl)
  obtain ⟨a357, T357, h357, kk357, b357, kb357, X357, e357, E357, sn357, ks357, hZ, hown, EA357, FC357, FV357, AV357, -, -, cr357, -, sf357, st357⟩ := ldcCH (s := s) (vm0 := s.vm) (EL := consts_1) X355 hx hZ hown (hw _ (List.mem_of_getElem? (i := 115) rfl)) wS rfl ((State.WarmedH.refl s).since 0) (Nat.le_trans (Nat.le_trans (Nat.le_trans (Nat.zero_le _) E344.1) R350_0.1) R355_0.1) hEL (List.mem_of_getElem? (i := 0) rfl) ch360.1 (vs := [(.int (45 : Int32))]) (z := (1 : Int32)) own_lit0 (by decide) (by decide) (g := (mkF m 14 #[rv ra] [(.ref b344)])) rfl (hb hby d6_14) (n := 4) (by decide) (by decide) (by decide) (by decide)
  have g361 : Goes p e below S0 (T357.setTop (mkF m 16 #[rv ra] [(.ref a357), (.ref b344)])) := fun t k => g356 t (st357 t k)
  obtain ⟨cq362, kq362, q362a, q362b, q362c⟩ := isOf hZ e357 (R355_1.ext E357)
  obtain ⟨_, _, ⟨T362, L362, k362, n362⟩, -, X362, ⟨Lc362, hQ362, l362, y362, z362⟩, st362⟩ := X357.virtualBack hx (y := (⟨"java/lang/StringBuilder", "append", "(Ljava/lang/String;)Ljava/lang/StringBuilder;"⟩ : MethodName)) (z := (⟨"java/lang/StringBuilder", "append", "(Ljava/lang/String;)Ljava/lang/StringBuilder;"⟩ : MethodName)) hown (mvT hZ (hw _ (List.mem_of_getElem? (i := 67) rfl))) (mvT hZ (hw _ (List.mem_of_getElem? (i := 68) rfl))) (notFace_of_selects (args := #[]) (mvT hZ (hw _ (List.mem_of_getElem? (i := 70) rfl)))) (mvT hZ (hw _ (List.mem_of_getElem? (i := 70) rfl))) (mvT hZ (hw _ (List.mem_of_getElem? (i := 69) rfl))) (by decide) (backOf (W := 0) (rm_sap l Z a0 hw [] b344 a357 ea_350 ek_350 (own_app [(.int (0 : Int32)), (.int (0 : Int32)), (.int (0 : Int32)), (.int (0 : Int32)), (.int (0 : Int32)), (.int (0 : Int32)), (.int (0 : Int32)), (.int (0 : Int32)), (.int (0 : Int32)), (.int (0 : Int32)), (.int (0 : Int32)), (.int (0 : Int32)), (.int (0 : Int32)), (.int (0 : Int32)), (.int (0 : Int32)), (.int (0 : Int32))] (0 : Int32) zf uf) ((0 : Int32) + zf) b357 kb357 (1 : Int32) [(.int (45 : Int32))] cz h357 n0 (Nat.le_trans Z0 (Nat.le_trans (Nat.le_trans (Nat.le_trans (Nat.le_trans (Nat.le_refl _) E344.1) R350_0.1) R355_0.1) E357.1)) (R355_1.ext E357) (R355_2.ext E357) (R355_3.ext E357) (R355_4.ext E357) ng344 ng350_1 (Nat.ne_of_lt (Nat.lt_of_lt_of_le A344.lt R350_1)) (R355_5.ext E357) EA357 FV357 FC357 AV357 ((Sta.keepO (Sta.keepO (P10.ext E344) R350_0 (nsS (Exa.nostat A344) ns0)) R355_0 (nsS (Exa.nostat R350_2) (nsS (Arv.nostat R350_6) ns0))).ext E357) hz (own_ok2 hsf)) hZ (hw _ (List.mem_of_getElem? (i := 71) rfl)) (hw _ (List.mem_of_getElem? (i := 51) rfl)) (by decide) (by decide)) q362a q362c (g := (mkF m 16 #[rv ra] [(.ref a357), (.ref b344)])) rfl (by rw [hml]; rfl) (Steps.refl _) (argsL := [(.ref a357)]) (rest := []) (lenOf pd15 rfl) rfl (by show 2 * 0 + _ ≤ _; exact Nat.le_of_eq rfl) (hb hby d6_16) (fun _ _ => ⟨rfl, e357, (by decide : 4 + 0 ≤ _), (by decide : 28 + 0 ≤ _)⟩)
  dsimp only [Pt.U, Pt.locs, Pt.cells, Pt.slots] at X362 l362 y362 z362 st362 hQ362
  subst l362 y362 z362
  obtain ⟨rfl, N362, R362_0, R362_1, R362_2, R362_3, R362_4, R362_5⟩ := hQ362
  have M362 := Fr.app M355 N362
  have g363 : Goes p e below S0 (T362.setTop (mkF m 19 #[rv ra] [(.ref b344)])) := fun t k => g361 t (st362.trans k)
  have g364 : Goes p e below S0 (T362.setTop (mkF m 20 #[rv ra] [(.ref ra), (.ref b344)])) := fun t k => g363 t (by
    refine XS.aloadN X362.here hx rfl (hb hby d6_19) rfl rfl ?_
    show Go p e below t T362 m 20 #[rv ra] [(.ref ra), (.ref b344)]
    exact k)
  obtain ⟨T365, X365, e365, st365⟩ := getF X362 hx hZ hown (host := "") (Or.inl (hw _ (List.mem_of_getElem? (i := 40) rfl))) Via.refl rfl (((((P1.ext E344).keep R350_0 (ninS (Nat.ne_of_lt (Nat.lt_of_lt_of_le P0.lt (Nat.le_of_eq gb344.symm))) nin0)).keep R355_0 (ninS (Nat.ne_of_lt (Nat.lt_of_lt_of_le P0.lt (Nat.le_of_eq gb344.symm))) (ninS (Nat.ne_of_lt (Nat.lt_of_lt_of_le (P0.ext E344).lt R350_1)) nin0))).ext E357).keep R362_0 (ninS (Nat.ne_of_lt (Nat.lt_of_lt_of_le P0.lt (Nat.le_of_eq gb344.symm))) (ninS (Nat.ne_of_lt (Nat.lt_of_lt_of_le (P0.ext E344).lt R350_1)) nin0))) (g := (mkF m 20 #[rv ra] [(.ref ra), (.ref b344)])) rfl rfl (hb hby d6_20)
  have g366 : Goes p e below S0 (T365.setTop (mkF m 23 #[rv ra] [(.ref sta), (.ref b344)])) := fun t k => g364 t (st365 t k)
  obtain ⟨cq367, kq367, q367a, q367b, q367c⟩ := isOf hZ e365 R362_1
  obtain ⟨_, _, ⟨T367, L367, k367, n367⟩, -, X367, ⟨Lc367, hQ367, l367, y367, z367⟩, st367⟩ := X365.virtualBack hx (y := (⟨"java/lang/StringBuilder", "append", "(Ljava/lang/String;)Ljava/lang/StringBuilder;"⟩ : MethodName)) (z := (⟨"java/lang/StringBuilder", "append", "(Ljava/lang/String;)Ljava/lang/StringBuilder;"⟩ : MethodName)) hown (mvT hZ (hw _ (List.mem_of_getElem? (i := 67) rfl))) (mvT hZ (hw _ (List.mem_of_getElem? (i := 68) rfl))) (notFace_of_selects (args := #[]) (mvT hZ (hw _ (List.mem_of_getElem? (i := 70) rfl)))) (mvT hZ (hw _ (List.mem_of_getElem? (i := 70) rfl))) (mvT hZ (hw _ (List.mem_of_getElem? (i := 69) rfl))) (by decide) (backOf (W := 0) (rm_sap l Z a0 hw [] b344 sta ea_350 ek_350 (own_app (own_app [(.int (0 : Int32)), (.int (0 : Int32)), (.int (0 : Int32)), (.int (0 : Int32)), (.int (0 : Int32)), (.int (0 : Int32)), (.int (0 : Int32)), (.int (0 : Int32)), (.int (0 : Int32)), (.int (0 : Int32)), (.int (0 : Int32)), (.int (0 : Int32)), (.int (0 : Int32)), (.int (0 : Int32)), (.int (0 : Int32)), (.int (0 : Int32))] (0 : Int32) zf uf) ((0 : Int32) + zf) (1 : Int32) [(.int (45 : Int32))]) (((0 : Int32) + zf) + (1 : Int32)) bt kt zt ut cz T362.heap n0 (Nat.le_trans Z0 (Nat.le_trans (Nat.le_trans (Nat.le_trans (Nat.le_trans (Nat.le_trans (Nat.le_refl _) E344.1) R350_0.1) R355_0.1) E357.1) R362_0.1)) R362_1 R362_2 R362_3 R362_4 ng344 ng350_1 (Nat.ne_of_lt (Nat.lt_of_lt_of_le A344.lt R350_1)) R362_5 (((((P6.ext E344).keep R350_0).keep R355_0).ext E357).keep R362_0) (((((P7.ext E344).keep R350_0 (ninS (Nat.ne_of_lt (Nat.lt_of_lt_of_le P6.lt (Nat.le_of_eq gb344.symm))) nin0)).keep R355_0 (ninS (Nat.ne_of_lt (Nat.lt_of_lt_of_le P6.lt (Nat.le_of_eq gb344.symm))) (ninS (Nat.ne_of_lt (Nat.lt_of_lt_of_le (P6.ext E344).lt R350_1)) nin0))).ext E357).keep R362_0 (ninS (Nat.ne_of_lt (Nat.lt_of_lt_of_le P6.lt (Nat.le_of_eq gb344.symm))) (ninS (Nat.ne_of_lt (Nat.lt_of_lt_of_le (P6.ext E344).lt R350_1)) nin0))) (((((P8.ext E344).keep R350_0 (ninS (Nat.ne_of_lt (Nat.lt_of_lt_of_le P6.lt (Nat.le_of_eq gb344.symm))) nin0)).keep R355_0 (ninS (Nat.ne_of_lt (Nat.lt_of_lt_of_le P6.lt (Nat.le_of_eq gb344.symm))) (ninS (Nat.ne_of_lt (Nat.lt_of_lt_of_le (P6.ext E344).lt R350_1)) nin0))).ext E357).keep R362_0 (ninS (Nat.ne_of_lt (Nat.lt_of_lt_of_le P6.lt (Nat.le_of_eq gb344.symm))) (ninS (Nat.ne_of_lt (Nat.lt_of_lt_of_le (P6.ext E344).lt R350_1)) nin0))) (((((P9.ext E344).keep R350_0 (ninS (Nat.ne_of_lt (Nat.lt_of_lt_of_le P9.lt (Nat.le_of_eq gb344.symm))) nin0)).keep R355_0 (ninS (Nat.ne_of_lt (Nat.lt_of_lt_of_le P9.lt (Nat.le_of_eq gb344.symm))) (ninS (Nat.ne_of_lt (Nat.lt_of_lt_of_le (P9.ext E344).lt R350_1)) nin0))).ext E357).keep R362_0 (ninS (Nat.ne_of_lt (Nat.lt_of_lt_of_le P9.lt (Nat.le_of_eq gb344.symm))) (ninS (Nat.ne_of_lt (Nat.lt_of_lt_of_le (P9.ext E344).lt R350_1)) nin0))) (Sta.keepO ((Sta.keepO (Sta.keepO (P10.ext E344) R350_0 (nsS (Exa.nostat A344) ns0)) R355_0 (nsS (Exa.nostat R350_2) (nsS (Arv.nostat R350_6) ns0))).ext E357) R362_0 (nsS (Exa.nostat (R355_1.ext E357)) (nsS (Arv.nostat (R355_5.ext E357)) ns0))) hz (own_ok3 hsf hst)) hZ (hw _ (List.mem_of_getElem? (i := 71) rfl)) (hw _ (List.mem_of_getElem? (i := 51) rfl)) (by decide) (by decide)) q367a q367c (g := (mkF m 23 #[rv ra] [(.ref sta), (.ref b344)])) rfl (by rw [hml]; rfl) (Steps.refl _) (argsL := [(.ref sta)]) (rest := []) (lenOf pd15 rfl) rfl (by show 2 * 0 + _ ≤ _; exact Nat.le_of_eq rfl) (hb hby d6_23) (fun _ _ => ⟨rfl, e365, (by decide : 4 + 0 ≤ _), (by decide : 28 + 0 ≤ _)⟩)
  dsimp only [Pt.U, Pt.locs, Pt.cells, Pt.slots] at X367 l367 y367 z367 st367 hQ367
  subst l367 y367 z367
  obtain ⟨rfl, N367, R367_0, R367_1, R367_2, R367_3, R367_4, R367_5⟩ := hQ367
  have M367 := Fr.app M362 N367
  have g368 : Goes p e below S0 (T367.setTop (mkF m 26 #[rv ra] [(.ref b344)])) := fun t k => g366 t (st367.trans k)
  obtain ⟨cq369, kq369, q369a, q369b, q369c⟩ := isOf hZ rfl R367_1
  obtain ⟨_, _, ⟨T369, L369, k369, n369⟩, -, X369, ⟨Lc369, hQ369, l369, y369, z369⟩, st369⟩ := X367.virtualBack hx (y := (⟨"java/lang/StringBuilder", "toString", "()Ljava/lang/String;"⟩ : MethodName)) (z := (⟨"java/lang/StringBuilder", "toString", "()Ljava/lang/String;"⟩ : MethodName)) hown (mvT hZ (hw _ (List.mem_of_getElem? (i := 116) rfl))) (mvT hZ (hw _ (List.mem_of_getElem? (i := 117) rfl))) (notFace_of_selects (args := #[]) (mvT hZ (hw _ (List.mem_of_getElem? (i := 119) rfl)))) (mvT hZ (hw _ (List.mem_of_getElem? (i := 119) rfl))) (mvT hZ (hw _ (List.mem_of_getElem? (i := 118) rfl))) (by decide) (backOf (W := 0) (rm_tos l Z a0 hw [] b344 ea_350 ek_350 (own_app (own_app (own_app [(.int (0 : Int32)), (.int (0 : Int32)), (.int (0 : Int32)), (.int (0 : Int32)), (.int (0 : Int32)), (.int (0 : Int32)), (.int (0 : Int32)), (.int (0 : Int32)), (.int (0 : Int32)), (.int (0 : Int32)), (.int (0 : Int32)), (.int (0 : Int32)), (.int (0 : Int32)), (.int (0 : Int32)), (.int (0 : Int32)), (.int (0 : Int32))] (0 : Int32) zf uf) ((0 : Int32) + zf) (1 : Int32) [(.int (45 : Int32))]) (((0 : Int32) + zf) + (1 : Int32)) zt ut) ((((0 : Int32) + zf) + (1 : Int32)) + zt) cz T367.heap n0 (Nat.le_trans Z0 (Nat.le_trans (Nat.le_trans (Nat.le_trans (Nat.le_trans (Nat.le_trans (Nat.le_trans (Nat.le_refl _) E344.1) R350_0.1) R355_0.1) E357.1) R362_0.1) R367_0.1)) R367_1 R367_2 R367_3 R367_4 R367_5 (Sta.keepO (Sta.keepO ((Sta.keepO (Sta.keepO (P10.ext E344) R350_0 (nsS (Exa.nostat A344) ns0)) R355_0 (nsS (Exa.nostat R350_2) (nsS (Arv.nostat R350_6) ns0))).ext E357) R362_0 (nsS (Exa.nostat (R355_1.ext E357)) (nsS (Arv.nostat (R355_5.ext E357)) ns0))) R367_0 (nsS (Exa.nostat R362_1) (nsS (Arv.nostat R362_5) ns0))) hz (own_ct3 hsf hst)) hZ (hw _ (List.mem_of_getElem? (i := 120) rfl)) (hw _ (List.mem_of_getElem? (i := 51) rfl)) (by decide) (by decide)) q369a q369c (g := (mkF m 26 #[rv ra] [(.ref b344)])) rfl (by rw [hml]; rfl) (Steps.refl _) (argsL := []) (rest := []) (lenOf pd23 rfl) rfl (by show 2 * 0 + _ ≤ _; exact Nat.le_of_eq rfl) (hb hby d6_26) (fun _ _ => ⟨rfl, rfl, (by decide : 4 + 2 ≤ _), (by decide : 28 + 12 ≤ _)⟩)
  dsimp only [Pt.U, Pt.locs, Pt.cells, Pt.slots] at X369 l369 y369 z369 st369 hQ369
  subst l369 y369 z369
  obtain ⟨nr_369, tb_369, tk_369, rfl, N369, R369_0, R369_1, R369_2, R369_3, R369_4, R369_5⟩ := hQ369
  have M369 := Fr.app M367 N369
  have sz369_1 : h0.size ≤ nr_369 := Nat.le_trans (Nat.le_trans (Nat.le_trans (Nat.le_trans (Nat.le_trans (Nat.le_trans (Nat.le_trans (Nat.le_refl _) E344.1) R350_0.1) R355_0.1) E357.1) R362_0.1) R367_0.1) R369_1
  have ng369_1 : n0 ≤ nr_369 := Nat.le_trans Z0 sz369_1
  have g370 : Goes p e below S0 (T369.setTop (mkF m 29 #[rv ra] [(.ref nr_369)])) := fun t k => g368 t (st369.trans k)
  have ch371 := ch360.trans cr357
  have hs372 : ∀ x ∈ ([b344, ea_350] : List Addr), Safe Z consts_1 T357.vm h357 x := (sfS (Safe.exa hZ.alike (R355_1.ext E357) (by decide) (by decide)) (sfS (CHr.safe cr357 R355_5.lt (Safe.keep R355_0 hs360 ch359.1 (Safe.keep R350_0 hs359 ch358.1 (Safe.new R350_1)))) sf0))
  have ch372 := ch371.trans (CHr.keep R362_0 hs372 ch371.1)
  have hs373 : ∀ x ∈ ([b344, ea_350] : List Addr), Safe Z consts_1 T357.vm T362.heap x := (sfS (Safe.exa hZ.alike R362_1 (by decide) (by decide)) (sfS (Safe.keep R362_0 hs372 ch371.1 (CHr.safe cr357 R355_5.lt (Safe.keep R355_0 hs360 ch359.1 (Safe.keep R350_0 hs359 ch358.1 (Safe.new R350_1))))) sf0))
  have ch373 := ch372.trans (CHr.keep R367_0 hs373 ch372.1)
  have hs374 : ∀ x ∈ ([] : List Addr), Safe Z consts_1 T357.vm T367.heap x := sf0
  have ch374 := ch373.trans (CHr.keep R369_0 hs374 ch373.1)
  obtain ⟨fs, hr, hrun, hended, hE1, hE2, hE3, hE4⟩ := Stand.leaveW (s := s) (vm₁ := T357.vm) X369 sn357 (Nat.le_trans (Nat.le_trans (Nat.le_trans ks357 R362_0.1) R367_0.1) R369_0.1) (v := some (.ref nr_369)) (fun h => by rw [Bd.returns] at h; cases h)
  refine ⟨_, _, g370 _ (retOut X369 hx Bd.returns rfl (Or.inr (Or.inr (Or.inr (Or.inr ⟨rfl, rfl, rfl⟩)))) (hb hby d6_29) hr), hrun, hended, _, _, rfl, ?_, (by show CHr Z consts_1 s.vm s.heap T369.vm T369.heap; rw [hh]; exact ch374.trans (CHv.at (s := s) (vm0 := T357.vm) X369 hZ hEL ch374.1)), hE1, hE2, hE3, hE4.mono (by decide) (by decide)⟩
  show Q_nam Z ra sfa sta bf kf zf uf bt kt zt ut cz h0 n0 _ T369.heap _
  exact ⟨nr_369, tb_369, tk_369, rfl, M369, ((((((((Keep.refl h0 []).ext E344).trans R350_0 (allS (Or.inr sz344) all0)).trans R355_0 (allS (Or.inr sz344) (allS (Or.inr sz350_1) all0))).ext E357).trans R362_0 (allS (Or.inr sz344) (allS (Or.inr sz350_1) all0))).trans R367_0 (allS (Or.inr sz344) (allS (Or.inr sz350_1) all0))).trans R369_0 all0), sz369_1, R369_2, R369_3, R369_4, R369_5⟩
theorem d32_0 : decode jdk_41_method_11_code 0 = .ok (.iload_n 0, 1) := by decide +kernel
theorem d32_1 : decode jdk_41_method_11_code 1 = .ok (.ifCond .lt 8, 3) := by decide +kernel
theorem d32_4 : decode jdk_41_method_11_code 4 = .ok (.iload_n 0, 1) := by decide +kernel
theorem d32_5 : decode jdk_41_method_11_code 5 = .ok (.iload_n 1, 1) := by decide +kernel
theorem d32_6 : decode jdk_41_method_11_code 6 = .ok (.if_icmp .lt 10, 3) := by decide +kernel
theorem d32_9 : decode jdk_41_method_11_code 9 = .ok (.aload_n 2, 1) := by decide +kernel
theorem d32_10 : decode jdk_41_method_11_code 10 = .ok (.iload_n 0, 1) := by decide +kernel
theorem d32_11 : decode jdk_41_method_11_code 11 = .ok (.iload_n 1, 1) := by decide +kernel
theorem d32_12 : decode jdk_41_method_11_code 12 = .ok (.invokestatic 95, 3) := by decide +kernel
theorem d32_15 : decode jdk_41_method_11_code 15 = .ok (.athrow, 1) := by decide +kernel
theorem d32_16 : decode jdk_41_method_11_code 16 = .ok (.iload_n 0, 1) := by decide +kernel
theorem d32_17 : decode jdk_41_method_11_code 17 = .ok (.ireturn, 1) := by decide +kernel
theorem pd24 : parseMethodDescriptor "(IILjava/util/function/BiFunction;)I" = some ⟨[.int, .int, (.object "java/util/function/BiFunction")], some .int⟩ := by decide +kernel
theorem pf_pciN : plainFor (⟨"jdk/internal/util/Preconditions", "checkIndex", "(IILjava/util/function/BiFunction;)I"⟩ : MethodName) = true := by first | exact plainFor_of_name (by first | (simp [plainName, overriddenIn, x]; done) | decide +kernel) | exact Jvm.Free.JP.mathPlain rfl (by decide +kernel) | decide +kernel
theorem ef_pciN (m : MethodId) (xi : Int32) (xl : Int32) : entryFrame m #[(.int xi), (.int xl), .null] 3 = mkF m 0 #[iv xi, iv xl, .val .null] [] := by first | (simp [entryFrame, mkF, argsToLocals, Value.category, maxLocals]; done) | rfl
def Q_pciN (Z : State) (xi : Int32) (xl : Int32)  (h0 : Heap) (n0 : Nat) (v : Option Value) (h : Heap) (L : List Loc) : Prop := v = some (.int xi) ∧ Fr n0 L ∧ h = h0
set_option maxRecDepth 65536 in
set_option maxHeartbeats 40000000 in
theorem rm_pciN (l : Launch) (Z : State) (a0 : Array Value) (hw : ∀ d ∈ tables_1, d.before a0 Z = true) (ws : List Jvm.Cond) (xi : Int32) (xl : Int32)  (h0 : Heap) (n0 : Nat) (Z0 : n0 ≤ h0.size) (h0_ : ¬ (xi < 0)) (h1_ : xi < xl)  :
    MetFree l (⟨"jdk/internal/util/Preconditions", "checkIndex", "(IILjava/util/function/BiFunction;)I"⟩ : MethodName) (head1 (Jvm.Cond.code (⟨"jdk/internal/util/Preconditions", "checkIndex", "(IILjava/util/function/BiFunction;)I"⟩ : MethodName) jdk_41_method_11_code 3 (some .int) :: ws) ({ frames := 0, cells := 0, slots := 0, locals := 0 } : Room)) (fun a U => a = #[(.int xi), (.int xl), .null] ∧ Z.Warmed39 U.vm ∧ U.heap = h0) (fun _ _ _ _ _ => True) (fun _ U o U' => ∃ v L, o = .returned v ∧ Q_pciN Z xi xl  h0 n0 v U'.heap L ∧ FrameEnd U o U' L ({ frames := 0, cells := 0, slots := 0, locals := 0 } : Room).cells ({ frames := 0, cells := 0, slots := 0, locals := 0 } : Room).slots) := by
  refine MetFree.of_bodySF pf_pciN hisR ?_
  intro p e s m args below meth c s₁ Bd hml0 hP hK
  obtain ⟨rfl, hZ, hh⟩ := hP
  have hx := Bd.exec
  have hby := Bd.bytes
  have hml : c.maxLocals = 3 := hml0
  have hown : s.vm.findClass "jdk/internal/util/Preconditions" = some m.cls := findClass_of_methodNamed Bd.named
  have hnm := (name_of_methodNamed Bd.named Bd.method).1
  have X0 : Stand p l e ({ frames := 0, cells := 0, slots := 0, locals := 0 } : Room) s m #[(.int xi), (.int xl), .null] below meth c s₁ [] 0 0 := Stand.of_body Bd
  have e0 : s₁.heap = h0 := by rw [← hh, Bd.state]; rfl
  have N0 := Fr.nil n0
  obtain ⟨S0, hS0⟩ : ∃ z, z = s₁.setTop (entryFrame m #[(.int xi), (.int xl), .null] 3) := ⟨_, rfl⟩
  rw [← hS0]
  have g0 : Goes p e below S0 (s₁.setTop (mkF m 0 #[iv xi, iv xl, .val .null] [])) := fun t k => by rw [hS0]; exact castTop (ef_pciN m xi xl) k
  have g375 : Goes p e below S0 (s₁.setTop (mkF m 17 #[iv xi, iv xl, .val .null] [(.int xi)])) := fun t k => g0 t (by
    refine XS.iloadN X0.here hx rfl (hb hby d32_0) rfl ?_
    show Go p e below t s₁ m 1 #[iv xi, iv xl, .val .null] [(.int xi)]
    refine XS.ifNo X0.here hx rfl (hb hby d32_1) rfl (XT.i0_lt_f h0_) ?_
    show Go p e below t s₁ m 4 #[iv xi, iv xl, .val .null] []
    refine XS.iloadN X0.here hx rfl (hb hby d32_4) rfl ?_
    show Go p e below t s₁ m 5 #[iv xi, iv xl, .val .null] [(.int xi)]
    refine XS.iloadN X0.here hx rfl (hb hby d32_5) rfl ?_
    show Go p e below t s₁ m 6 #[iv xi, iv xl, .val .null] [(.int xl), (.int xi)]
    refine XS.icmpYes X0.here hx rfl (pc0 := 6) (pc' := 16) rfl (hb hby d32_6) rfl (XT.ii_lt_t h1_) (by decide) (by decide) ?_
    show Go p e below t s₁ m 16 #[iv xi, iv xl, .val .null] []
    refine XS.iloadN X0.here hx rfl (hb hby d32_16) rfl ?_
    show Go p e below t s₁ m 17 #[iv xi, iv xl, .val .null] [(.int xi)]
    exact k)
  obtain ⟨fs, hr, hrun, hended, hW, hsame⟩ := X0.leave (v := some (.int xi)) (fun h => by rw [Bd.returns] at h; cases h)
  refine ⟨_, _, g375 _ (retOut X0 hx Bd.returns rfl (Or.inl ⟨rfl, Or.inl rfl, _, rfl⟩) (hb hby d32_17) hr), hrun, hended, _, _, rfl, ?_, ⟨_, rfl⟩, hW, hsame.mono (by decide) (by decide)⟩
  show Q_pciN Z xi xl  h0 n0 _ s₁.heap _
  rw [e0]
  exact ⟨rfl, N0, rfl⟩
theorem pf_pciA : plainFor (⟨"jdk/internal/util/Preconditions", "checkIndex", "(IILjava/util/function/BiFunction;)I"⟩ : MethodName) = true := by first | exact plainFor_of_name (by first | (simp [plainName, overriddenIn, x]; done) | decide +kernel) | exact Jvm.Free.JP.mathPlain rfl (by decide +kernel) | decide +kernel
theorem ef_pciA (m : MethodId) (xi : Int32) (xl : Int32) (xf : Addr) : entryFrame m #[(.int xi), (.int xl), (.ref xf)] 3 = mkF m 0 #[iv xi, iv xl, rv xf] [] := by first | (simp [entryFrame, mkF, argsToLocals, Value.category, maxLocals]; done) | rfl
def Q_pciA (Z : State) (xi : Int32) (xl : Int32) (xf : Addr)  (h0 : Heap) (n0 : Nat) (v : Option Value) (h : Heap) (L : List Loc) : Prop := v = some (.int xi) ∧ Fr n0 L ∧ h = h0
set_option maxRecDepth 65536 in
set_option maxHeartbeats 40000000 in
theorem rm_pciA (l : Launch) (Z : State) (a0 : Array Value) (hw : ∀ d ∈ tables_1, d.before a0 Z = true) (ws : List Jvm.Cond) (xi : Int32) (xl : Int32) (xf : Addr)  (h0 : Heap) (n0 : Nat) (Z0 : n0 ≤ h0.size) (h0_ : ¬ (xi < 0)) (h1_ : xi < xl)  :
    MetFree l (⟨"jdk/internal/util/Preconditions", "checkIndex", "(IILjava/util/function/BiFunction;)I"⟩ : MethodName) (head1 (Jvm.Cond.code (⟨"jdk/internal/util/Preconditions", "checkIndex", "(IILjava/util/function/BiFunction;)I"⟩ : MethodName) jdk_41_method_11_code 3 (some .int) :: ws) ({ frames := 0, cells := 0, slots := 0, locals := 0 } : Room)) (fun a U => a = #[(.int xi), (.int xl), (.ref xf)] ∧ Z.Warmed39 U.vm ∧ U.heap = h0) (fun _ _ _ _ _ => True) (fun _ U o U' => ∃ v L, o = .returned v ∧ Q_pciA Z xi xl xf  h0 n0 v U'.heap L ∧ FrameEnd U o U' L ({ frames := 0, cells := 0, slots := 0, locals := 0 } : Room).cells ({ frames := 0, cells := 0, slots := 0, locals := 0 } : Room).slots) := by
  refine MetFree.of_bodySF pf_pciA hisR ?_
  intro p e s m args below meth c s₁ Bd hml0 hP hK
  obtain ⟨rfl, hZ, hh⟩ := hP
  have hx := Bd.exec
  have hby := Bd.bytes
  have hml : c.maxLocals = 3 := hml0
  have hown : s.vm.findClass "jdk/internal/util/Preconditions" = some m.cls := findClass_of_methodNamed Bd.named
  have hnm := (name_of_methodNamed Bd.named Bd.method).1
  have X0 : Stand p l e ({ frames := 0, cells := 0, slots := 0, locals := 0 } : Room) s m #[(.int xi), (.int xl), (.ref xf)] below meth c s₁ [] 0 0 := Stand.of_body Bd
  have e0 : s₁.heap = h0 := by rw [← hh, Bd.state]; rfl
  have N0 := Fr.nil n0
  obtain ⟨S0, hS0⟩ : ∃ z, z = s₁.setTop (entryFrame m #[(.int xi), (.int xl), (.ref xf)] 3) := ⟨_, rfl⟩
  rw [← hS0]
  have g0 : Goes p e below S0 (s₁.setTop (mkF m 0 #[iv xi, iv xl, rv xf] [])) := fun t k => by rw [hS0]; exact castTop (ef_pciA m xi xl xf) k
  have g376 : Goes p e below S0 (s₁.setTop (mkF m 17 #[iv xi, iv xl, rv xf] [(.int xi)])) := fun t k => g0 t (by
    refine XS.iloadN X0.here hx rfl (hb hby d32_0) rfl ?_
    show Go p e below t s₁ m 1 #[iv xi, iv xl, rv xf] [(.int xi)]
    refine XS.ifNo X0.here hx rfl (hb hby d32_1) rfl (XT.i0_lt_f h0_) ?_
    show Go p e below t s₁ m 4 #[iv xi, iv xl, rv xf] []
    refine XS.iloadN X0.here hx rfl (hb hby d32_4) rfl ?_
    show Go p e below t s₁ m 5 #[iv xi, iv xl, rv xf] [(.int xi)]
    refine XS.iloadN X0.here hx rfl (hb hby d32_5) rfl ?_
    show Go p e below t s₁ m 6 #[iv xi, iv xl, rv xf] [(.int xl), (.int xi)]
    refine XS.icmpYes X0.here hx rfl (pc0 := 6) (pc' := 16) rfl (hb hby d32_6) rfl (XT.ii_lt_t h1_) (by decide) (by decide) ?_
    show Go p e below t s₁ m 16 #[iv xi, iv xl, rv xf] []
    refine XS.iloadN X0.here hx rfl (hb hby d32_16) rfl ?_
    show Go p e below t s₁ m 17 #[iv xi, iv xl, rv xf] [(.int xi)]
    exact k)
  obtain ⟨fs, hr, hrun, hended, hW, hsame⟩ := X0.leave (v := some (.int xi)) (fun h => by rw [Bd.returns] at h; cases h)
  refine ⟨_, _, g376 _ (retOut X0 hx Bd.returns rfl (Or.inl ⟨rfl, Or.inl rfl, _, rfl⟩) (hb hby d32_17) hr), hrun, hended, _, _, rfl, ?_, ⟨_, rfl⟩, hW, hsame.mono (by decide) (by decide)⟩
  show Q_pciA Z xi xl xf  h0 n0 _ s₁.heap _
  rw [e0]
  exact ⟨rfl, N0, rfl⟩
theorem d31_0 : decode jdk_42_method_155_code 0 = .ok (.iload_n 0, 1) := by decide +kernel
theorem d31_1 : decode jdk_42_method_155_code 1 = .ok (.iload_n 1, 1) := by decide +kernel
theorem d31_2 : decode jdk_42_method_155_code 2 = .ok (.getstatic 1053, 3) := by decide +kernel
theorem d31_5 : decode jdk_42_method_155_code 5 = .ok (.invokestatic 1059, 3) := by decide +kernel
theorem d31_8 : decode jdk_42_method_155_code 8 = .ok (.pop, 1) := by decide +kernel
theorem d31_9 : decode jdk_42_method_155_code 9 = .ok (.return_, 1) := by decide +kernel
theorem pf_sci : plainFor (⟨"java/lang/String", "checkIndex", "(II)V"⟩ : MethodName) = true := by first | exact plainFor_of_name (by first | (simp [plainName, overriddenIn, x]; done) | decide +kernel) | exact Jvm.Free.JP.mathPlain rfl (by decide +kernel) | decide +kernel
theorem ef_sci (m : MethodId) (xi : Int32) (xl : Int32) : entryFrame m #[(.int xi), (.int xl)] 2 = mkF m 0 #[iv xi, iv xl] [] := by first | (simp [entryFrame, mkF, argsToLocals, Value.category, maxLocals]; done) | rfl
def Q_sci (Z : State) (xi : Int32) (xl : Int32) (fx : Value) (h0 : Heap) (n0 : Nat) (v : Option Value) (h : Heap) (L : List Loc) : Prop := v = none ∧ Fr n0 L ∧ h = h0
set_option maxRecDepth 65536 in
set_option maxHeartbeats 40000000 in
theorem rm_sci (l : Launch) (Z : State) (a0 : Array Value) (hw : ∀ d ∈ tables_1, d.before a0 Z = true) (ws : List Jvm.Cond) (xi : Int32) (xl : Int32) (fx : Value) (h0 : Heap) (n0 : Nat) (Z0 : n0 ≤ h0.size) (P0 : Sta Z h0 "jdk/internal/util/Preconditions" "SIOOBE_FORMATTER" "Ljava/util/function/BiFunction;" fx) (hfx : fx.isRef = true) (h0_ : ¬ (xi < 0)) (h1_ : xi < xl)  :
    MetFree l (⟨"java/lang/String", "checkIndex", "(II)V"⟩ : MethodName) (head1 (Jvm.Cond.code (⟨"java/lang/String", "checkIndex", "(II)V"⟩ : MethodName) jdk_42_method_155_code 2 none :: ws) ({ frames := 1, cells := 0, slots := 0, locals := 14 } : Room)) (fun a U => a = #[(.int xi), (.int xl)] ∧ Z.Warmed39 U.vm ∧ U.heap = h0) (fun _ _ _ _ _ => True) (fun _ U o U' => ∃ v L, o = .returned v ∧ Q_sci Z xi xl fx h0 n0 v U'.heap L ∧ FrameEnd U o U' L ({ frames := 1, cells := 0, slots := 0, locals := 14 } : Room).cells ({ frames := 1, cells := 0, slots := 0, locals := 14 } : Room).slots) := by
  refine MetFree.of_bodySF pf_sci hisR ?_
  intro p e s m args below meth c s₁ Bd hml0 hP hK
  obtain ⟨rfl, hZ, hh⟩ := hP
  have hx := Bd.exec
  have hby := Bd.bytes
  have hml : c.maxLocals = 2 := hml0
  have hown : s.vm.findClass "java/lang/String" = some m.cls := findClass_of_methodNamed Bd.named
  have hnm := (name_of_methodNamed Bd.named Bd.method).1
  have X0 : Stand p l e ({ frames := 1, cells := 0, slots := 0, locals := 14 } : Room) s m #[(.int xi), (.int xl)] below meth c s₁ [] 0 0 := Stand.of_body Bd
  have e0 : s₁.heap = h0 := by rw [← hh, Bd.state]; rfl
  have N0 := Fr.nil n0
  obtain ⟨S0, hS0⟩ : ∃ z, z = s₁.setTop (entryFrame m #[(.int xi), (.int xl)] 2) := ⟨_, rfl⟩
  rw [← hS0]
  have g0 : Goes p e below S0 (s₁.setTop (mkF m 0 #[iv xi, iv xl] [])) := fun t k => by rw [hS0]; exact castTop (ef_sci m xi xl) k
  rcases Jvm.RoadKit.ref_cases hfx with rfl | ⟨fa, rfl⟩
  · skip
    have g377 : Goes p e below S0 (s₁.setTop (mkF m 2 #[iv xi, iv xl] [(.int xl), (.int xi)])) := fun t k => g0 t (by
      refine XS.iloadN X0.here hx rfl (hb hby d31_0) rfl ?_
      show Go p e below t s₁ m 1 #[iv xi, iv xl] [(.int xi)]
      refine XS.iloadN X0.here hx rfl (hb hby d31_1) rfl ?_
      show Go p e below t s₁ m 2 #[iv xi, iv xl] [(.int xl), (.int xi)]
      exact k)
    obtain ⟨T378, X378, e378, st378⟩ := getS (host := "") X0 hx hZ hown (hw _ (List.mem_of_getElem? (i := 179) rfl)) Via.refl e0 P0 (g := (mkF m 2 #[iv xi, iv xl] [(.int xl), (.int xi)])) rfl (hb hby d31_2)
    have g379 : Goes p e below S0 (T378.setTop (mkF m 5 #[iv xi, iv xl] [.null, (.int xl), (.int xi)])) := fun t k => g377 t (st378 t k)
    obtain ⟨_, _, ⟨T380, L380, k380, n380⟩, -, X380, ⟨Lc380, hQ380, l380, y380, z380⟩, st380⟩ := Jvm.LawKit.callS X378 hx (y := (⟨"jdk/internal/util/Preconditions", "checkIndex", "(IILjava/util/function/BiFunction;)I"⟩ : MethodName)) hown (mvT hZ (hw _ (List.mem_of_getElem? (i := 181) rfl))) (mvT hZ (hw _ (List.mem_of_getElem? (i := 182) rfl))) (mvT hZ (hw _ (List.mem_of_getElem? (i := 180) rfl))) (mvT hZ (hw _ (List.mem_of_getElem? (i := 183) rfl))) (by decide) (backOf (W := 0) (rm_pciN l Z a0 hw [] xi xl  h0 n0 Z0 h0_ h1_) hZ (hw _ (List.mem_of_getElem? (i := 183) rfl)) (hw _ (List.mem_of_getElem? (i := 180) rfl)) (by decide) (by decide)) (g := (mkF m 5 #[iv xi, iv xl] [.null, (.int xl), (.int xi)])) rfl (by rw [hml]; rfl) (argsL := [(.int xi), (.int xl), .null]) (rest := []) (lenOf pd24 rfl) rfl (by show 2 * 0 + _ ≤ _; exact Nat.le_of_eq rfl) (hb hby d31_5) (fun _ _ => ⟨rfl, e378, (by decide : 0 + 0 ≤ _), (by decide : 0 + 0 ≤ _)⟩)
    dsimp only [Pt.U, Pt.locs, Pt.cells, Pt.slots] at X380 l380 y380 z380 st380 hQ380
    subst l380 y380 z380
    obtain ⟨rfl, N380, R380_0⟩ := hQ380
    have M380 := Fr.app N0 N380
    have g381 : Goes p e below S0 (T380.setTop (mkF m 8 #[iv xi, iv xl] [(.int xi)])) := fun t k => g379 t (st380 t k)
    have g382 : Goes p e below S0 (T380.setTop (mkF m 9 #[iv xi, iv xl] [])) := fun t k => g381 t (by
      refine XS.pop X380.here hx rfl (hb hby d31_8) rfl rfl ?_
      show Go p e below t T380 m 9 #[iv xi, iv xl] []
      exact k)
    obtain ⟨fs, hr, hrun, hended, hW, hsame⟩ := X380.leave (v := none) (fun _ => rfl)
    refine ⟨_, _, g382 _ (X380.returnOut hx Bd.returns (hb hby d31_9) hr), hrun, hended, _, _, rfl, ?_, ⟨_, rfl⟩, hW, hsame.mono (by decide) (by decide)⟩
    show Q_sci Z xi xl .null h0 n0 _ T380.heap _
    rw [R380_0]
    exact ⟨rfl, M380, rfl⟩
  · skip
    have g383 : Goes p e below S0 (s₁.setTop (mkF m 2 #[iv xi, iv xl] [(.int xl), (.int xi)])) := fun t k => g0 t (by
      refine XS.iloadN X0.here hx rfl (hb hby d31_0) rfl ?_
      show Go p e below t s₁ m 1 #[iv xi, iv xl] [(.int xi)]
      refine XS.iloadN X0.here hx rfl (hb hby d31_1) rfl ?_
      show Go p e below t s₁ m 2 #[iv xi, iv xl] [(.int xl), (.int xi)]
      exact k)
    obtain ⟨T384, X384, e384, st384⟩ := getS (host := "") X0 hx hZ hown (hw _ (List.mem_of_getElem? (i := 179) rfl)) Via.refl e0 P0 (g := (mkF m 2 #[iv xi, iv xl] [(.int xl), (.int xi)])) rfl (hb hby d31_2)
    have g385 : Goes p e below S0 (T384.setTop (mkF m 5 #[iv xi, iv xl] [(.ref fa), (.int xl), (.int xi)])) := fun t k => g383 t (st384 t k)
    obtain ⟨_, _, ⟨T386, L386, k386, n386⟩, -, X386, ⟨Lc386, hQ386, l386, y386, z386⟩, st386⟩ := Jvm.LawKit.callS X384 hx (y := (⟨"jdk/internal/util/Preconditions", "checkIndex", "(IILjava/util/function/BiFunction;)I"⟩ : MethodName)) hown (mvT hZ (hw _ (List.mem_of_getElem? (i := 181) rfl))) (mvT hZ (hw _ (List.mem_of_getElem? (i := 182) rfl))) (mvT hZ (hw _ (List.mem_of_getElem? (i := 180) rfl))) (mvT hZ (hw _ (List.mem_of_getElem? (i := 183) rfl))) (by decide) (backOf (W := 0) (rm_pciA l Z a0 hw [] xi xl fa  h0 n0 Z0 h0_ h1_) hZ (hw _ (List.mem_of_getElem? (i := 183) rfl)) (hw _ (List.mem_of_getElem? (i := 180) rfl)) (by decide) (by decide)) (g := (mkF m 5 #[iv xi, iv xl] [(.ref fa), (.int xl), (.int xi)])) rfl (by rw [hml]; rfl) (argsL := [(.int xi), (.int xl), (.ref fa)]) (rest := []) (lenOf pd24 rfl) rfl (by show 2 * 0 + _ ≤ _; exact Nat.le_of_eq rfl) (hb hby d31_5) (fun _ _ => ⟨rfl, e384, (by decide : 0 + 0 ≤ _), (by decide : 0 + 0 ≤ _)⟩)
    dsimp only [Pt.U, Pt.locs, Pt.cells, Pt.slots] at X386 l386 y386 z386 st386 hQ386
    subst l386 y386 z386
    obtain ⟨rfl, N386, R386_0⟩ := hQ386
    have M386 := Fr.app N0 N386
    have g387 : Goes p e below S0 (T386.setTop (mkF m 8 #[iv xi, iv xl] [(.int xi)])) := fun t k => g385 t (st386 t k)
    have g388 : Goes p e below S0 (T386.setTop (mkF m 9 #[iv xi, iv xl] [])) := fun t k => g387 t (by
      refine XS.pop X386.here hx rfl (hb hby d31_8) rfl rfl ?_
      show Go p e below t T386 m 9 #[iv xi, iv xl] []
      exact k)
    obtain ⟨fs, hr, hrun, hended, hW, hsame⟩ := X386.leave (v := none) (fun _ => rfl)
    refine ⟨_, _, g388 _ (X386.returnOut hx Bd.returns (hb hby d31_9) hr), hrun, hended, _, _, rfl, ?_, ⟨_, rfl⟩, hW, hsame.mono (by decide) (by decide)⟩
    show Q_sci Z xi xl (.ref fa) h0 n0 _ T386.heap _
    rw [R386_0]
    exact ⟨rfl, M386, rfl⟩
theorem d30_0 : decode jdk_43_method_2_code 0 = .ok (.iload_n 1, 1) := by decide +kernel
theorem d30_1 : decode jdk_43_method_2_code 1 = .ok (.aload_n 0, 1) := by decide +kernel
theorem d30_2 : decode jdk_43_method_2_code 2 = .ok (.arraylength, 1) := by decide +kernel
theorem d30_3 : decode jdk_43_method_2_code 3 = .ok (.invokestatic 9, 3) := by decide +kernel
theorem d30_6 : decode jdk_43_method_2_code 6 = .ok (.aload_n 0, 1) := by decide +kernel
theorem d30_7 : decode jdk_43_method_2_code 7 = .ok (.iload_n 1, 1) := by decide +kernel
theorem d30_8 : decode jdk_43_method_2_code 8 = .ok (.baload, 1) := by decide +kernel
theorem d30_9 : decode jdk_43_method_2_code 9 = .ok (.sipush 255, 3) := by decide +kernel
theorem d30_12 : decode jdk_43_method_2_code 12 = .ok (.iand, 1) := by decide +kernel
theorem d30_13 : decode jdk_43_method_2_code 13 = .ok (.i2c, 1) := by decide +kernel
theorem d30_14 : decode jdk_43_method_2_code 14 = .ok (.ireturn, 1) := by decide +kernel
theorem pd25 : parseMethodDescriptor "([BI)C" = some ⟨[(.array .byte), .int], some .char⟩ := by decide +kernel
theorem pf_lch : plainFor (⟨"java/lang/StringLatin1", "charAt", "([BI)C"⟩ : MethodName) = true := by first | exact plainFor_of_name (by first | (simp [plainName, overriddenIn, x]; done) | decide +kernel) | exact Jvm.Free.JP.mathPlain rfl (by decide +kernel) | decide +kernel
theorem ef_lch (m : MethodId) (ba : Addr) (xi : Int32) : entryFrame m #[(.ref ba), (.int xi)] 2 = mkF m 0 #[rv ba, iv xi] [] := by first | (simp [entryFrame, mkF, argsToLocals, Value.category, maxLocals]; done) | rfl
def Q_lch (Z : State) (ba : Addr) (xi : Int32) (kb : ClassId) (zb : Int32) (us : List Value) (bv : Int32) (fx : Value) (h0 : Heap) (n0 : Nat) (v : Option Value) (h : Heap) (L : List Loc) : Prop := v = some (.int (own_chr bv)) ∧ Fr n0 L ∧ h = h0
set_option maxRecDepth 65536 in
set_option maxHeartbeats 40000000 in
theorem rm_lch (l : Launch) (Z : State) (a0 : Array Value) (hw : ∀ d ∈ tables_1, d.before a0 Z = true) (ws : List Jvm.Cond) (ba : Addr) (xi : Int32) (kb : ClassId) (zb : Int32) (us : List Value) (bv : Int32) (fx : Value) (h0 : Heap) (n0 : Nat) (Z0 : n0 ≤ h0.size) (P0 : Arv Z h0 ba kb .byte zb us (.int (0 : Int32))) (P1 : Sta Z h0 "jdk/internal/util/Preconditions" "SIOOBE_FORMATTER" "Ljava/util/function/BiFunction;" fx) (hfx : fx.isRef = true) (h0_ : ¬ (xi < 0)) (h1_ : xi < zb) (hel : us.getD xi.toNatClampNeg (.int (0 : Int32)) = .int bv)  :
    MetFree l (⟨"java/lang/StringLatin1", "charAt", "([BI)C"⟩ : MethodName) (head1 (Jvm.Cond.code (⟨"java/lang/StringLatin1", "charAt", "([BI)C"⟩ : MethodName) jdk_43_method_2_code 2 (some .char) :: ws) ({ frames := 2, cells := 0, slots := 0, locals := 27 } : Room)) (fun a U => a = #[(.ref ba), (.int xi)] ∧ Z.Warmed39 U.vm ∧ U.heap = h0) (fun _ _ _ _ _ => True) (fun _ U o U' => ∃ v L, o = .returned v ∧ Q_lch Z ba xi kb zb us bv fx h0 n0 v U'.heap L ∧ FrameEnd U o U' L ({ frames := 2, cells := 0, slots := 0, locals := 27 } : Room).cells ({ frames := 2, cells := 0, slots := 0, locals := 27 } : Room).slots) := by
  refine MetFree.of_bodySF pf_lch hisR ?_
  intro p e s m args below meth c s₁ Bd hml0 hP hK
  obtain ⟨rfl, hZ, hh⟩ := hP
  have hx := Bd.exec
  have hby := Bd.bytes
  have hml : c.maxLocals = 2 := hml0
  have hown : s.vm.findClass "java/lang/StringLatin1" = some m.cls := findClass_of_methodNamed Bd.named
  have hnm := (name_of_methodNamed Bd.named Bd.method).1
  have X0 : Stand p l e ({ frames := 2, cells := 0, slots := 0, locals := 27 } : Room) s m #[(.ref ba), (.int xi)] below meth c s₁ [] 0 0 := Stand.of_body Bd
  have e0 : s₁.heap = h0 := by rw [← hh, Bd.state]; rfl
  have N0 := Fr.nil n0
  obtain ⟨S0, hS0⟩ : ∃ z, z = s₁.setTop (entryFrame m #[(.ref ba), (.int xi)] 2) := ⟨_, rfl⟩
  rw [← hS0]
  have g0 : Goes p e below S0 (s₁.setTop (mkF m 0 #[rv ba, iv xi] [])) := fun t k => by rw [hS0]; exact castTop (ef_lch m ba xi) k
  have g389 : Goes p e below S0 (s₁.setTop (mkF m 2 #[rv ba, iv xi] [(.ref ba), (.int xi)])) := fun t k => g0 t (by
    refine XS.iloadN X0.here hx rfl (hb hby d30_0) rfl ?_
    show Go p e below t s₁ m 1 #[rv ba, iv xi] [(.int xi)]
    refine XS.aloadN X0.here hx rfl (hb hby d30_1) rfl rfl ?_
    show Go p e below t s₁ m 2 #[rv ba, iv xi] [(.ref ba), (.int xi)]
    exact k)
  obtain ⟨cl390, Ar390, q390, S390, M390, H390, G390⟩ := id P0
  have g391 : Goes p e below S0 (s₁.setTop (mkF m 3 #[rv ba, iv xi] [(.int zb), (.int xi)])) := fun t k => g389 t (by
    refine X0.arraylength hx (by rw [e0]; exact Ar390.1) (State.isArrayOf_alike hZ.alike Ar390.2.1) (g := (mkF m 2 #[rv ba, iv xi] [(.ref ba), (.int xi)])) rfl rfl (hb hby d30_2) _ ?_
    rw [len_of S390 M390]
    show Go p e below t s₁ m 3 #[rv ba, iv xi] [(.int zb), (.int xi)]
    exact k)
  obtain ⟨_, _, ⟨T392, L392, k392, n392⟩, -, X392, ⟨Lc392, hQ392, l392, y392, z392⟩, st392⟩ := Jvm.LawKit.callS X0 hx (y := (⟨"java/lang/String", "checkIndex", "(II)V"⟩ : MethodName)) hown (mvT hZ (hw _ (List.mem_of_getElem? (i := 176) rfl))) (mvT hZ (hw _ (List.mem_of_getElem? (i := 177) rfl))) (mvT hZ (hw _ (List.mem_of_getElem? (i := 6) rfl))) (mvT hZ (hw _ (List.mem_of_getElem? (i := 178) rfl))) (by decide) (backOf (W := 0) (rm_sci l Z a0 hw [] xi zb fx h0 n0 Z0 P1 hfx h0_ h1_) hZ (hw _ (List.mem_of_getElem? (i := 178) rfl)) (hw _ (List.mem_of_getElem? (i := 6) rfl)) (by decide) (by decide)) (g := (mkF m 3 #[rv ba, iv xi] [(.int zb), (.int xi)])) rfl (by rw [hml]; rfl) (argsL := [(.int xi), (.int zb)]) (rest := []) (lenOf pd18 rfl) rfl (by show 2 * 0 + _ ≤ _; exact Nat.le_of_eq rfl) (hb hby d30_3) (fun _ _ => ⟨rfl, e0, (by decide : 0 + 0 ≤ _), (by decide : 0 + 0 ≤ _)⟩)
  dsimp only [Pt.U, Pt.locs, Pt.cells, Pt.slots] at X392 l392 y392 z392 st392 hQ392
  subst l392 y392 z392
  obtain ⟨rfl, N392, R392_0⟩ := hQ392
  have M392 := Fr.app N0 N392
  have g393 : Goes p e below S0 (T392.setTop (mkF m 6 #[rv ba, iv xi] [])) := fun t k => g391 t (st392 t k)
  have g394 : Goes p e below S0 (T392.setTop (mkF m 8 #[rv ba, iv xi] [(.int xi), (.ref ba)])) := fun t k => g393 t (by
    refine XS.aloadN X392.here hx rfl (hb hby d30_6) rfl rfl ?_
    show Go p e below t T392 m 7 #[rv ba, iv xi] [(.ref ba)]
    refine XS.iloadN X392.here hx rfl (hb hby d30_7) rfl ?_
    show Go p e below t T392 m 8 #[rv ba, iv xi] [(.int xi), (.ref ba)]
    exact k)
  obtain ⟨cl395, Ar395, q395, S395, M395, H395, G395⟩ := id P0
  have g396 : Goes p e below S0 (T392.setTop (mkF m 14 #[rv ba, iv xi] [(.int ((bv &&& (255 : Int32)).toUInt32.toUInt16.toUInt32.toInt32))])) := fun t k => g394 t (by
    refine X392.baloadBytes hx (j := xi) (v := (.int bv)) (by rw [R392_0]; exact Ar395.1) (State.isArrayOf_alike hZ.alike Ar395.2.1) Ar395.2.2 (inb_of S395 ⟨h0_, h1_⟩) (H395.at (inb_of S395 ⟨h0_, h1_⟩) hel) (g := (mkF m 8 #[rv ba, iv xi] [(.int xi), (.ref ba)])) rfl rfl (hb hby d30_8) _ ?_
    show Go p e below t T392 m 9 #[rv ba, iv xi] [(.int bv)]
    refine XT.sipushV X392.here hx rfl (255 : Int32) (hb hby d30_9) (by decide) ?_
    show Go p e below t T392 m 12 #[rv ba, iv xi] [(.int (255 : Int32)), (.int bv)]
    refine XS.iand X392.here hx rfl (hb hby d30_12) rfl ?_
    show Go p e below t T392 m 13 #[rv ba, iv xi] [(.int (bv &&& (255 : Int32)))]
    refine XS.i2c X392.here hx rfl (hb hby d30_13) rfl ?_
    show Go p e below t T392 m 14 #[rv ba, iv xi] [(.int ((bv &&& (255 : Int32)).toUInt32.toUInt16.toUInt32.toInt32))]
    exact k)
  obtain ⟨fs, hr, hrun, hended, hW, hsame⟩ := X392.leave (v := some (.int (nar .char ((bv &&& (255 : Int32)).toUInt32.toUInt16.toUInt32.toInt32)))) (fun h => by rw [Bd.returns] at h; cases h)
  refine ⟨_, _, g396 _ (retN X392 hx (t := .char) Bd.returns (by simp) (hb hby d30_14) hr), hrun, hended, _, _, rfl, ?_, ⟨_, rfl⟩, hW, hsame.mono (by decide) (by decide)⟩
  show Q_lch Z ba xi kb zb us bv fx h0 n0 _ T392.heap _
  rw [R392_0]
  exact ⟨rfl, M392, rfl⟩
theorem d29_0 : decode jdk_42_method_154_code 0 = .ok (.getstatic 38, 3) := by decide +kernel
theorem d29_3 : decode jdk_42_method_154_code 3 = .ok (.ifCond .eq 14, 3) := by decide +kernel
theorem d29_6 : decode jdk_42_method_154_code 6 = .ok (.aload_n 0, 1) := by decide +kernel
theorem d29_7 : decode jdk_42_method_154_code 7 = .ok (.getfield 15, 3) := by decide +kernel
theorem d29_10 : decode jdk_42_method_154_code 10 = .ok (.ifCond .ne 7, 3) := by decide +kernel
theorem d29_13 : decode jdk_42_method_154_code 13 = .ok (.iconst 1, 1) := by decide +kernel
theorem d29_14 : decode jdk_42_method_154_code 14 = .ok (.goto 4, 3) := by decide +kernel
theorem d29_17 : decode jdk_42_method_154_code 17 = .ok (.iconst 0, 1) := by decide +kernel
theorem d29_18 : decode jdk_42_method_154_code 18 = .ok (.ireturn, 1) := by decide +kernel
theorem pf_sil : plainFor (⟨"java/lang/String", "isLatin1", "()Z"⟩ : MethodName) = true := by first | exact plainFor_of_name (by first | (simp [plainName, overriddenIn, x]; done) | decide +kernel) | exact Jvm.Free.JP.mathPlain rfl (by decide +kernel) | decide +kernel
theorem ef_sil (m : MethodId) (sa : Addr) : entryFrame m #[(.ref sa)] 1 = mkF m 0 #[rv sa] [] := by first | (simp [entryFrame, mkF, argsToLocals, Value.category, maxLocals]; done) | rfl
def Q_sil (Z : State) (sa : Addr) (cz : Int32) (h0 : Heap) (n0 : Nat) (v : Option Value) (h : Heap) (L : List Loc) : Prop := v = some (.int (1 : Int32)) ∧ Fr n0 L ∧ h = h0
set_option maxRecDepth 65536 in
set_option maxHeartbeats 40000000 in
theorem rm_sil (l : Launch) (Z : State) (a0 : Array Value) (hw : ∀ d ∈ tables_1, d.before a0 Z = true) (ws : List Jvm.Cond) (sa : Addr) (cz : Int32) (h0 : Heap) (n0 : Nat) (Z0 : n0 ≤ h0.size) (P0 : Fld Z h0 sa "java/lang/String" "coder" "B" (.int (0 : Int32))) (P1 : Sta Z h0 "java/lang/String" "COMPACT_STRINGS" "Z" (.int cz)) (hz : ¬ cz = 0)  :
    MetFree l (⟨"java/lang/String", "isLatin1", "()Z"⟩ : MethodName) (head1 (Jvm.Cond.code (⟨"java/lang/String", "isLatin1", "()Z"⟩ : MethodName) jdk_42_method_154_code 1 (some .boolean) :: ws) ({ frames := 0, cells := 0, slots := 0, locals := 0 } : Room)) (fun a U => a = #[(.ref sa)] ∧ Z.Warmed39 U.vm ∧ U.heap = h0) (fun _ _ _ _ _ => True) (fun _ U o U' => ∃ v L, o = .returned v ∧ Q_sil Z sa cz h0 n0 v U'.heap L ∧ FrameEnd U o U' L ({ frames := 0, cells := 0, slots := 0, locals := 0 } : Room).cells ({ frames := 0, cells := 0, slots := 0, locals := 0 } : Room).slots) := by
  refine MetFree.of_bodySF pf_sil hisR ?_
  intro p e s m args below meth c s₁ Bd hml0 hP hK
  obtain ⟨rfl, hZ, hh⟩ := hP
  have hx := Bd.exec
  have hby := Bd.bytes
  have hml : c.maxLocals = 1 := hml0
  have hown : s.vm.findClass "java/lang/String" = some m.cls := findClass_of_methodNamed Bd.named
  have hnm := (name_of_methodNamed Bd.named Bd.method).1
  have X0 : Stand p l e ({ frames := 0, cells := 0, slots := 0, locals := 0 } : Room) s m #[(.ref sa)] below meth c s₁ [] 0 0 := Stand.of_body Bd
  have e0 : s₁.heap = h0 := by rw [← hh, Bd.state]; rfl
  have N0 := Fr.nil n0
  obtain ⟨S0, hS0⟩ : ∃ z, z = s₁.setTop (entryFrame m #[(.ref sa)] 1) := ⟨_, rfl⟩
  rw [← hS0]
  have g0 : Goes p e below S0 (s₁.setTop (mkF m 0 #[rv sa] [])) := fun t k => by rw [hS0]; exact castTop (ef_sil m sa) k
  obtain ⟨T397, X397, e397, st397⟩ := getS (host := "") X0 hx hZ hown (hw _ (List.mem_of_getElem? (i := 87) rfl)) Via.refl e0 P1 (g := (mkF m 0 #[rv sa] [])) rfl (hb hby d29_0)
  have g398 : Goes p e below S0 (T397.setTop (mkF m 3 #[rv sa] [(.int cz)])) := fun t k => g0 t (st397 t k)
  have g399 : Goes p e below S0 (T397.setTop (mkF m 7 #[rv sa] [(.ref sa)])) := fun t k => g398 t (by
    refine XS.ifNo X397.here hx rfl (hb hby d29_3) rfl (XT.i0_eq_f hz) ?_
    show Go p e below t T397 m 6 #[rv sa] []
    refine XS.aloadN X397.here hx rfl (hb hby d29_6) rfl rfl ?_
    show Go p e below t T397 m 7 #[rv sa] [(.ref sa)]
    exact k)
  obtain ⟨T400, X400, e400, st400⟩ := getF X397 hx hZ hown (host := "") (Or.inl (hw _ (List.mem_of_getElem? (i := 25) rfl))) Via.refl e397 P0 (g := (mkF m 7 #[rv sa] [(.ref sa)])) rfl rfl (hb hby d29_7)
  have g401 : Goes p e below S0 (T400.setTop (mkF m 10 #[rv sa] [(.int (0 : Int32))])) := fun t k => g399 t (st400 t k)
  have g402 : Goes p e below S0 (T400.setTop (mkF m 18 #[rv sa] [(.int (1 : Int32))])) := fun t k => g401 t (by
    refine XS.ifNo X400.here hx rfl (hb hby d29_10) rfl (XT.i0_ne_f (by decide)) ?_
    show Go p e below t T400 m 13 #[rv sa] []
    refine XT.iconstV X400.here hx rfl (1 : Int32) (hb hby d29_13) (by decide) ?_
    show Go p e below t T400 m 14 #[rv sa] [(.int (1 : Int32))]
    refine XS.goto X400.here hx rfl (pc0 := 14) (pc' := 18) rfl (hb hby d29_14) (by decide) (by decide) ?_
    show Go p e below t T400 m 18 #[rv sa] [(.int (1 : Int32))]
    exact k)
  obtain ⟨fs, hr, hrun, hended, hW, hsame⟩ := X400.leave (v := some (.int (1 : Int32))) (fun h => by rw [Bd.returns] at h; cases h)
  refine ⟨_, _, g402 _ (retN X400 hx (t := .boolean) Bd.returns (by simp) (hb hby d29_18) hr), hrun, hended, _, _, rfl, ?_, ⟨_, rfl⟩, hW, hsame.mono (by decide) (by decide)⟩
  show Q_sil Z sa cz h0 n0 _ T400.heap _
  rw [e400]
  exact ⟨rfl, N0, rfl⟩
theorem d28_0 : decode jdk_42_method_56_code 0 = .ok (.aload_n 0, 1) := by decide +kernel
theorem d28_1 : decode jdk_42_method_56_code 1 = .ok (.invokevirtual 492, 3) := by decide +kernel
theorem d28_4 : decode jdk_42_method_56_code 4 = .ok (.ifCond .eq 12, 3) := by decide +kernel
theorem d28_7 : decode jdk_42_method_56_code 7 = .ok (.aload_n 0, 1) := by decide +kernel
theorem d28_8 : decode jdk_42_method_56_code 8 = .ok (.getfield 9, 3) := by decide +kernel
theorem d28_11 : decode jdk_42_method_56_code 11 = .ok (.iload_n 1, 1) := by decide +kernel
theorem d28_12 : decode jdk_42_method_56_code 12 = .ok (.invokestatic 495, 3) := by decide +kernel
theorem d28_15 : decode jdk_42_method_56_code 15 = .ok (.ireturn, 1) := by decide +kernel
theorem d28_16 : decode jdk_42_method_56_code 16 = .ok (.aload_n 0, 1) := by decide +kernel
theorem d28_17 : decode jdk_42_method_56_code 17 = .ok (.getfield 9, 3) := by decide +kernel
theorem d28_20 : decode jdk_42_method_56_code 20 = .ok (.iload_n 1, 1) := by decide +kernel
theorem d28_21 : decode jdk_42_method_56_code 21 = .ok (.invokestatic 498, 3) := by decide +kernel
theorem d28_24 : decode jdk_42_method_56_code 24 = .ok (.ireturn, 1) := by decide +kernel
theorem pd26 : parseMethodDescriptor "(I)C" = some ⟨[.int], some .char⟩ := by decide +kernel
theorem pf_cha : plainFor (⟨"java/lang/String", "charAt", "(I)C"⟩ : MethodName) = true := by first | exact plainFor_of_name (by first | (simp [plainName, overriddenIn, x]; done) | decide +kernel) | exact Jvm.Free.JP.mathPlain rfl (by decide +kernel) | decide +kernel
theorem ef_cha (m : MethodId) (sa : Addr) (xi : Int32) : entryFrame m #[(.ref sa), (.int xi)] 2 = mkF m 0 #[rv sa, iv xi] [] := by first | (simp [entryFrame, mkF, argsToLocals, Value.category, maxLocals]; done) | rfl
def Q_cha (Z : State) (sa : Addr) (xi : Int32) (ba : Addr) (kb : ClassId) (zb : Int32) (us : List Value) (bv : Int32) (fx : Value) (cz : Int32) (h0 : Heap) (n0 : Nat) (v : Option Value) (h : Heap) (L : List Loc) : Prop := v = some (.int (own_chr bv)) ∧ Fr n0 L ∧ h = h0
set_option maxRecDepth 65536 in
set_option maxHeartbeats 40000000 in
theorem rm_cha (l : Launch) (Z : State) (a0 : Array Value) (hw : ∀ d ∈ tables_1, d.before a0 Z = true) (ws : List Jvm.Cond) (sa : Addr) (xi : Int32) (ba : Addr) (kb : ClassId) (zb : Int32) (us : List Value) (bv : Int32) (fx : Value) (cz : Int32) (h0 : Heap) (n0 : Nat) (Z0 : n0 ≤ h0.size) (P0 : Exa Z h0 sa "java/lang/String") (P1 : Fld Z h0 sa "java/lang/String" "value" "[B" (.ref ba)) (P2 : Fld Z h0 sa "java/lang/String" "coder" "B" (.int (0 : Int32))) (P3 : Arv Z h0 ba kb .byte zb us (.int (0 : Int32))) (P4 : Sta Z h0 "java/lang/String" "COMPACT_STRINGS" "Z" (.int cz)) (hz : ¬ cz = 0) (P6 : Sta Z h0 "jdk/internal/util/Preconditions" "SIOOBE_FORMATTER" "Ljava/util/function/BiFunction;" fx) (hfx : fx.isRef = true) (h0_ : ¬ (xi < 0)) (h1_ : xi < zb) (hel : us.getD xi.toNatClampNeg (.int (0 : Int32)) = .int bv)  :
    MetFree l (⟨"java/lang/String", "charAt", "(I)C"⟩ : MethodName) (head1 (Jvm.Cond.code (⟨"java/lang/String", "charAt", "(I)C"⟩ : MethodName) jdk_42_method_56_code 2 (some .char) :: ws) ({ frames := 3, cells := 0, slots := 0, locals := 40 } : Room)) (fun a U => a = #[(.ref sa), (.int xi)] ∧ Z.Warmed39 U.vm ∧ U.heap = h0) (fun _ _ _ _ _ => True) (fun _ U o U' => ∃ v L, o = .returned v ∧ Q_cha Z sa xi ba kb zb us bv fx cz h0 n0 v U'.heap L ∧ FrameEnd U o U' L ({ frames := 3, cells := 0, slots := 0, locals := 40 } : Room).cells ({ frames := 3, cells := 0, slots := 0, locals := 40 } : Room).slots) := by
  refine MetFree.of_bodySF pf_cha hisR ?_
  intro p e s m args below meth c s₁ Bd hml0 hP hK
  obtain ⟨rfl, hZ, hh⟩ := hP
  have hx := Bd.exec
  have hby := Bd.bytes
  have hml : c.maxLocals = 2 := hml0
  have hown : s.vm.findClass "java/lang/String" = some m.cls := findClass_of_methodNamed Bd.named
  have hnm := (name_of_methodNamed Bd.named Bd.method).1
  have X0 : Stand p l e ({ frames := 3, cells := 0, slots := 0, locals := 40 } : Room) s m #[(.ref sa), (.int xi)] below meth c s₁ [] 0 0 := Stand.of_body Bd
  have e0 : s₁.heap = h0 := by rw [← hh, Bd.state]; rfl
  have N0 := Fr.nil n0
  obtain ⟨S0, hS0⟩ : ∃ z, z = s₁.setTop (entryFrame m #[(.ref sa), (.int xi)] 2) := ⟨_, rfl⟩
  rw [← hS0]
  have g0 : Goes p e below S0 (s₁.setTop (mkF m 0 #[rv sa, iv xi] [])) := fun t k => by rw [hS0]; exact castTop (ef_cha m sa xi) k
  have g403 : Goes p e below S0 (s₁.setTop (mkF m 1 #[rv sa, iv xi] [(.ref sa)])) := fun t k => g0 t (by
    refine XS.aloadN X0.here hx rfl (hb hby d28_0) rfl rfl ?_
    show Go p e below t s₁ m 1 #[rv sa, iv xi] [(.ref sa)]
    exact k)
  obtain ⟨cq404, kq404, q404a, q404b, q404c⟩ := isOf hZ e0 P0
  obtain ⟨_, _, ⟨T404, L404, k404, n404⟩, -, X404, ⟨Lc404, hQ404, l404, y404, z404⟩, st404⟩ := X0.virtualBack hx (y := (⟨"java/lang/String", "isLatin1", "()Z"⟩ : MethodName)) (z := (⟨"java/lang/String", "isLatin1", "()Z"⟩ : MethodName)) hown (mvT hZ (hw _ (List.mem_of_getElem? (i := 167) rfl))) (mvT hZ (hw _ (List.mem_of_getElem? (i := 168) rfl))) (notFace_of_selects (args := #[]) (mvT hZ (hw _ (List.mem_of_getElem? (i := 170) rfl)))) (mvT hZ (hw _ (List.mem_of_getElem? (i := 170) rfl))) (mvT hZ (hw _ (List.mem_of_getElem? (i := 169) rfl))) (by decide) (backOf (W := 0) (rm_sil l Z a0 hw [] sa cz h0 n0 Z0 P2 P4 hz) hZ (hw _ (List.mem_of_getElem? (i := 171) rfl)) (hw _ (List.mem_of_getElem? (i := 6) rfl)) (by decide) (by decide)) q404a q404c (g := (mkF m 1 #[rv sa, iv xi] [(.ref sa)])) rfl (by rw [hml]; rfl) (Steps.refl _) (argsL := []) (rest := []) (lenOf pd16 rfl) rfl (by show 2 * 0 + _ ≤ _; exact Nat.le_of_eq rfl) (hb hby d28_1) (fun _ _ => ⟨rfl, e0, (by decide : 0 + 0 ≤ _), (by decide : 0 + 0 ≤ _)⟩)
  dsimp only [Pt.U, Pt.locs, Pt.cells, Pt.slots] at X404 l404 y404 z404 st404 hQ404
  subst l404 y404 z404
  obtain ⟨rfl, N404, R404_0⟩ := hQ404
  have M404 := Fr.app N0 N404
  have g405 : Goes p e below S0 (T404.setTop (mkF m 4 #[rv sa, iv xi] [(.int (1 : Int32))])) := fun t k => g403 t (st404.trans k)
  have g406 : Goes p e below S0 (T404.setTop (mkF m 8 #[rv sa, iv xi] [(.ref sa)])) := fun t k => g405 t (by
    refine XS.ifNo X404.here hx rfl (hb hby d28_4) rfl (XT.i0_eq_f (by decide)) ?_
    show Go p e below t T404 m 7 #[rv sa, iv xi] []
    refine XS.aloadN X404.here hx rfl (hb hby d28_7) rfl rfl ?_
    show Go p e below t T404 m 8 #[rv sa, iv xi] [(.ref sa)]
    exact k)
  obtain ⟨T407, X407, e407, st407⟩ := getF X404 hx hZ hown (host := "") (Or.inl (hw _ (List.mem_of_getElem? (i := 24) rfl))) Via.refl R404_0 P1 (g := (mkF m 8 #[rv sa, iv xi] [(.ref sa)])) rfl rfl (hb hby d28_8)
  have g408 : Goes p e below S0 (T407.setTop (mkF m 11 #[rv sa, iv xi] [(.ref ba)])) := fun t k => g406 t (st407 t k)
  have g409 : Goes p e below S0 (T407.setTop (mkF m 12 #[rv sa, iv xi] [(.int xi), (.ref ba)])) := fun t k => g408 t (by
    refine XS.iloadN X407.here hx rfl (hb hby d28_11) rfl ?_
    show Go p e below t T407 m 12 #[rv sa, iv xi] [(.int xi), (.ref ba)]
    exact k)
  obtain ⟨_, _, ⟨T410, L410, k410, n410⟩, -, X410, ⟨Lc410, hQ410, l410, y410, z410⟩, st410⟩ := Jvm.LawKit.callS X407 hx (y := (⟨"java/lang/StringLatin1", "charAt", "([BI)C"⟩ : MethodName)) hown (mvT hZ (hw _ (List.mem_of_getElem? (i := 172) rfl))) (mvT hZ (hw _ (List.mem_of_getElem? (i := 173) rfl))) (mvT hZ (hw _ (List.mem_of_getElem? (i := 174) rfl))) (mvT hZ (hw _ (List.mem_of_getElem? (i := 175) rfl))) (by decide) (backOf (W := 0) (rm_lch l Z a0 hw [] ba xi kb zb us bv fx h0 n0 Z0 P3 P6 hfx h0_ h1_ hel) hZ (hw _ (List.mem_of_getElem? (i := 175) rfl)) (hw _ (List.mem_of_getElem? (i := 174) rfl)) (by decide) (by decide)) (g := (mkF m 12 #[rv sa, iv xi] [(.int xi), (.ref ba)])) rfl (by rw [hml]; rfl) (argsL := [(.ref ba), (.int xi)]) (rest := []) (lenOf pd25 rfl) rfl (by show 2 * 0 + _ ≤ _; exact Nat.le_of_eq rfl) (hb hby d28_12) (fun _ _ => ⟨rfl, e407, (by decide : 0 + 0 ≤ _), (by decide : 0 + 0 ≤ _)⟩)
  dsimp only [Pt.U, Pt.locs, Pt.cells, Pt.slots] at X410 l410 y410 z410 st410 hQ410
  subst l410 y410 z410
  obtain ⟨rfl, N410, R410_0⟩ := hQ410
  have M410 := Fr.app M404 N410
  have g411 : Goes p e below S0 (T410.setTop (mkF m 15 #[rv sa, iv xi] [(.int (own_chr bv))])) := fun t k => g409 t (st410 t k)
  obtain ⟨fs, hr, hrun, hended, hW, hsame⟩ := X410.leave (v := some (.int (nar .char (own_chr bv)))) (fun h => by rw [Bd.returns] at h; cases h)
  refine ⟨_, _, g411 _ (retN X410 hx (t := .char) Bd.returns (by simp) (hb hby d28_15) hr), hrun, hended, _, _, rfl, ?_, ⟨_, rfl⟩, hW, hsame.mono (by decide) (by decide)⟩
  show Q_cha Z sa xi ba kb zb us bv fx cz h0 n0 _ T410.heap _
  rw [R410_0]
  exact ⟨(congrArg some (congrArg Value.int (own_narI _))), M410, rfl⟩
theorem pd27 : parseMethodDescriptor "(IIIIII)Z" = some ⟨[.int, .int, .int, .int, .int, .int], some .boolean⟩ := by decide +kernel
theorem pf_law : plainFor x = true := by first | exact plainFor_of_name (by first | (simp [plainName, overriddenIn, x]; done) | decide +kernel) | exact Jvm.Free.JP.mathPlain rfl (by decide +kernel) | decide +kernel
theorem ef_law (m : MethodId) (i0 : Int32) (i1 : Int32) (i2 : Int32) (i3 : Int32) (i4 : Int32) (i5 : Int32) : entryFrame m #[(.int i0), (.int i1), (.int i2), (.int i3), (.int i4), (.int i5)] maxLocals = mkF m 0 #[iv i0, iv i1, iv i2, iv i3, iv i4, iv i5, .unset, .unset, .unset, .unset, .unset, .unset, .unset, .unset, .unset, .unset] [] := by first | (simp [entryFrame, mkF, argsToLocals, Value.category, maxLocals]; done) | rfl
def f_law (i0 : Int32) (i1 : Int32) (i2 : Int32) (i3 : Int32) (i4 : Int32) (i5 : Int32) : Int32 := 1
def Q_law (Z : State) (i0 : Int32) (i1 : Int32) (i2 : Int32) (i3 : Int32) (i4 : Int32) (i5 : Int32) (cz : Int32) (fx : Value) (h0 : Heap) (n0 : Nat) (v : Option Value) (h : Heap) (L : List Loc) : Prop := v = some (.int (f_law i0 i1 i2 i3 i4 i5)) ∧ Fr n0 L
set_option maxRecDepth 65536 in
set_option maxHeartbeats 40000000 in
theorem rm_law (l : Launch) (Z : State) (a0 : Array Value) (hw : ∀ d ∈ tables_1, d.before a0 Z = true) (ws : List Jvm.Cond) (i0 : Int32) (i1 : Int32) (i2 : Int32) (i3 : Int32) (i4 : Int32) (i5 : Int32) (cz : Int32) (fx : Value) (h0 : Heap) (n0 : Nat) (Z0 : n0 ≤ h0.size) (P0 : Sta Z h0 "java/lang/String" "COMPACT_STRINGS" "Z" (.int cz)) (hz : ¬ cz = 0) (P2 : Sta Z h0 "jdk/internal/util/Preconditions" "SIOOBE_FORMATTER" "Ljava/util/function/BiFunction;" fx) (hfx : fx.isRef = true)  :
    MetFree l x (head1 (Jvm.Cond.code x code maxLocals ret :: ws) room_1) (fun a U => a = #[(.int i0), (.int i1), (.int i2), (.int i3), (.int i4), (.int i5)] ∧ Z.Warmed39 U.vm ∧ U.heap = h0 ∧ CHv Z consts_1 U.vm h0 ∧ ∀ x ∈ ([] : List Addr), Safe Z consts_1 U.vm h0 x) (fun _ _ _ _ _ => True) (fun _ U o U' => ∃ v L, o = .returned v ∧ Q_law Z i0 i1 i2 i3 i4 i5 cz fx h0 n0 v U'.heap L ∧ ReturnedEndW U o U' L 40 2240) := by
  refine MetFree.of_bodySF pf_law hisR ?_
  intro p e s m args below meth c s₁ Bd hml0 hP hK
  obtain ⟨rfl, hZ, hh, hC, hSf⟩ := hP
  have hEL : EW Z a0 consts_1 := own_EW hw
  have ch0 : CHr Z consts_1 s.vm h0 s.vm h0 := CHr.refl hC
  have hx := Bd.exec
  have hby := Bd.bytes
  have hml : c.maxLocals = 16 := hml0
  have hown : s.vm.findClass "com/example/forager/forager/RoadNamePinLaw" = some m.cls := findClass_of_methodNamed Bd.named
  have hnm := (name_of_methodNamed Bd.named Bd.method).1
  have X0 : Stand p l e room_1 s m #[(.int i0), (.int i1), (.int i2), (.int i3), (.int i4), (.int i5)] below meth c s₁ [] 0 0 := Stand.of_body Bd
  have e0 : s₁.heap = h0 := by rw [← hh, Bd.state]; rfl
  have N0 := Fr.nil n0
  obtain ⟨S0, hS0⟩ : ∃ z, z = s₁.setTop (entryFrame m #[(.int i0), (.int i1), (.int i2), (.int i3), (.int i4), (.int i5)] maxLocals) := ⟨_, rfl⟩
  rw [← hS0]
  have g0 : Goes p e below S0 (s₁.setTop (mkF m 0 #[iv i0, iv i1, iv i2, iv i3, iv i4, iv i5, .unset, .unset, .unset, .unset, .unset, .unset, .unset, .unset, .unset, .unset] [])) := fun t k => by rw [hS0]; exact castTop (ef_law m i0 i1 i2 i3 i4 i5) k
  have g412 : Goes p e below S0 (s₁.setTop (mkF m 8 #[iv i0, iv i1, iv i2, iv i3, iv i4, iv i5, iv (own_f i4), .unset, .unset, .unset, .unset, .unset, .unset, .unset, .unset, .unset] [])) := fun t k => g0 t (by
    refine XS.iload X0.here hx rfl (hb hby at_0) rfl ?_
    show Go p e below t s₁ m 2 #[iv i0, iv i1, iv i2, iv i3, iv i4, iv i5, .unset, .unset, .unset, .unset, .unset, .unset, .unset, .unset, .unset, .unset] [(.int i4)]
    refine XT.iconstV X0.here hx rfl (3 : Int32) (hb hby at_2) (by decide) ?_
    show Go p e below t s₁ m 3 #[iv i0, iv i1, iv i2, iv i3, iv i4, iv i5, .unset, .unset, .unset, .unset, .unset, .unset, .unset, .unset, .unset, .unset] [(.int (3 : Int32)), (.int i4)]
    refine XS.iand X0.here hx rfl (hb hby at_3) rfl ?_
    show Go p e below t s₁ m 4 #[iv i0, iv i1, iv i2, iv i3, iv i4, iv i5, .unset, .unset, .unset, .unset, .unset, .unset, .unset, .unset, .unset, .unset] [(.int (i4 &&& (3 : Int32)))]
    refine XT.iconstV X0.here hx rfl (3 : Int32) (hb hby at_4) (by decide) ?_
    show Go p e below t s₁ m 5 #[iv i0, iv i1, iv i2, iv i3, iv i4, iv i5, .unset, .unset, .unset, .unset, .unset, .unset, .unset, .unset, .unset, .unset] [(.int (3 : Int32)), (.int (i4 &&& (3 : Int32)))]
    refine iremM X0 hx rfl (hb hby at_5) rfl (by decide) ?_
    show Go p e below t s₁ m 6 #[iv i0, iv i1, iv i2, iv i3, iv i4, iv i5, .unset, .unset, .unset, .unset, .unset, .unset, .unset, .unset, .unset, .unset] [(.int ((i4 &&& (3 : Int32)) % (3 : Int32)))]
    refine XS.istore X0.here hx rfl (hb hby at_6) rfl (l' := #[iv i0, iv i1, iv i2, iv i3, iv i4, iv i5, iv (own_f i4), .unset, .unset, .unset, .unset, .unset, .unset, .unset, .unset, .unset]) rfl ?_
    show Go p e below t s₁ m 8 #[iv i0, iv i1, iv i2, iv i3, iv i4, iv i5, iv (own_f i4), .unset, .unset, .unset, .unset, .unset, .unset, .unset, .unset, .unset] []
    exact k)
  obtain ⟨fl, hfl⟩ : ∃ z, z = (own_f i4) := ⟨_, rfl⟩
  rw [← hfl] at g412
  have g413 : Goes p e below S0 (s₁.setTop (mkF m 18 #[iv i0, iv i1, iv i2, iv i3, iv i4, iv i5, iv fl, iv (own_t i4), .unset, .unset, .unset, .unset, .unset, .unset, .unset, .unset] [])) := fun t k => g412 t (by
    refine XS.iload X0.here hx rfl (hb hby at_8) rfl ?_
    show Go p e below t s₁ m 10 #[iv i0, iv i1, iv i2, iv i3, iv i4, iv i5, iv fl, .unset, .unset, .unset, .unset, .unset, .unset, .unset, .unset, .unset] [(.int i4)]
    refine XT.iconstV X0.here hx rfl (2 : Int32) (hb hby at_10) (by decide) ?_
    show Go p e below t s₁ m 11 #[iv i0, iv i1, iv i2, iv i3, iv i4, iv i5, iv fl, .unset, .unset, .unset, .unset, .unset, .unset, .unset, .unset, .unset] [(.int (2 : Int32)), (.int i4)]
    refine XS.iushr X0.here hx rfl (hb hby at_11) rfl ?_
    show Go p e below t s₁ m 12 #[iv i0, iv i1, iv i2, iv i3, iv i4, iv i5, iv fl, .unset, .unset, .unset, .unset, .unset, .unset, .unset, .unset, .unset] [(.int (((i4).toUInt32 >>> ((2 : Int32) &&& 31).toUInt32).toInt32))]
    refine XT.iconstV X0.here hx rfl (3 : Int32) (hb hby at_12) (by decide) ?_
    show Go p e below t s₁ m 13 #[iv i0, iv i1, iv i2, iv i3, iv i4, iv i5, iv fl, .unset, .unset, .unset, .unset, .unset, .unset, .unset, .unset, .unset] [(.int (3 : Int32)), (.int (((i4).toUInt32 >>> ((2 : Int32) &&& 31).toUInt32).toInt32))]
    refine XS.iand X0.here hx rfl (hb hby at_13) rfl ?_
    show Go p e below t s₁ m 14 #[iv i0, iv i1, iv i2, iv i3, iv i4, iv i5, iv fl, .unset, .unset, .unset, .unset, .unset, .unset, .unset, .unset, .unset] [(.int ((((i4).toUInt32 >>> ((2 : Int32) &&& 31).toUInt32).toInt32) &&& (3 : Int32)))]
    refine XT.iconstV X0.here hx rfl (3 : Int32) (hb hby at_14) (by decide) ?_
    show Go p e below t s₁ m 15 #[iv i0, iv i1, iv i2, iv i3, iv i4, iv i5, iv fl, .unset, .unset, .unset, .unset, .unset, .unset, .unset, .unset, .unset] [(.int (3 : Int32)), (.int ((((i4).toUInt32 >>> ((2 : Int32) &&& 31).toUInt32).toInt32) &&& (3 : Int32)))]
    refine iremM X0 hx rfl (hb hby at_15) rfl (by decide) ?_
    show Go p e below t s₁ m 16 #[iv i0, iv i1, iv i2, iv i3, iv i4, iv i5, iv fl, .unset, .unset, .unset, .unset, .unset, .unset, .unset, .unset, .unset] [(.int (((((i4).toUInt32 >>> ((2 : Int32) &&& 31).toUInt32).toInt32) &&& (3 : Int32)) % (3 : Int32)))]
    refine XS.istore X0.here hx rfl (hb hby at_16) rfl (l' := #[iv i0, iv i1, iv i2, iv i3, iv i4, iv i5, iv fl, iv (own_t i4), .unset, .unset, .unset, .unset, .unset, .unset, .unset, .unset]) rfl ?_
    show Go p e below t s₁ m 18 #[iv i0, iv i1, iv i2, iv i3, iv i4, iv i5, iv fl, iv (own_t i4), .unset, .unset, .unset, .unset, .unset, .unset, .unset, .unset] []
    exact k)
  obtain ⟨tl, htl⟩ : ∃ z, z = (own_t i4) := ⟨_, rfl⟩
  rw [← htl] at g413
  have g414 : Goes p e below S0 (s₁.setTop (mkF m 50 #[iv i0, iv i1, iv i2, iv i3, iv i4, iv i5, iv fl, iv tl, iv (own_cr i0), iv (own_cr i1), iv (own_cr i2), iv (own_cr i3), .unset, .unset, .unset, .unset] [])) := fun t k => g413 t (by
    refine XS.iloadN X0.here hx rfl (hb hby at_18) rfl ?_
    show Go p e below t s₁ m 19 #[iv i0, iv i1, iv i2, iv i3, iv i4, iv i5, iv fl, iv tl, .unset, .unset, .unset, .unset, .unset, .unset, .unset, .unset] [(.int i0)]
    refine XT.sipushV X0.here hx rfl (255 : Int32) (hb hby at_19) (by decide) ?_
    show Go p e below t s₁ m 22 #[iv i0, iv i1, iv i2, iv i3, iv i4, iv i5, iv fl, iv tl, .unset, .unset, .unset, .unset, .unset, .unset, .unset, .unset] [(.int (255 : Int32)), (.int i0)]
    refine XS.iand X0.here hx rfl (hb hby at_22) rfl ?_
    show Go p e below t s₁ m 23 #[iv i0, iv i1, iv i2, iv i3, iv i4, iv i5, iv fl, iv tl, .unset, .unset, .unset, .unset, .unset, .unset, .unset, .unset] [(.int (i0 &&& (255 : Int32)))]
    refine XS.i2c X0.here hx rfl (hb hby at_23) rfl ?_
    show Go p e below t s₁ m 24 #[iv i0, iv i1, iv i2, iv i3, iv i4, iv i5, iv fl, iv tl, .unset, .unset, .unset, .unset, .unset, .unset, .unset, .unset] [(.int ((i0 &&& (255 : Int32)).toUInt32.toUInt16.toUInt32.toInt32))]
    refine XS.istore X0.here hx rfl (hb hby at_24) rfl (l' := #[iv i0, iv i1, iv i2, iv i3, iv i4, iv i5, iv fl, iv tl, iv (own_cr i0), .unset, .unset, .unset, .unset, .unset, .unset, .unset]) rfl ?_
    show Go p e below t s₁ m 26 #[iv i0, iv i1, iv i2, iv i3, iv i4, iv i5, iv fl, iv tl, iv (own_cr i0), .unset, .unset, .unset, .unset, .unset, .unset, .unset] []
    refine XS.iloadN X0.here hx rfl (hb hby at_26) rfl ?_
    show Go p e below t s₁ m 27 #[iv i0, iv i1, iv i2, iv i3, iv i4, iv i5, iv fl, iv tl, iv (own_cr i0), .unset, .unset, .unset, .unset, .unset, .unset, .unset] [(.int i1)]
    refine XT.sipushV X0.here hx rfl (255 : Int32) (hb hby at_27) (by decide) ?_
    show Go p e below t s₁ m 30 #[iv i0, iv i1, iv i2, iv i3, iv i4, iv i5, iv fl, iv tl, iv (own_cr i0), .unset, .unset, .unset, .unset, .unset, .unset, .unset] [(.int (255 : Int32)), (.int i1)]
    refine XS.iand X0.here hx rfl (hb hby at_30) rfl ?_
    show Go p e below t s₁ m 31 #[iv i0, iv i1, iv i2, iv i3, iv i4, iv i5, iv fl, iv tl, iv (own_cr i0), .unset, .unset, .unset, .unset, .unset, .unset, .unset] [(.int (i1 &&& (255 : Int32)))]
    refine XS.i2c X0.here hx rfl (hb hby at_31) rfl ?_
    show Go p e below t s₁ m 32 #[iv i0, iv i1, iv i2, iv i3, iv i4, iv i5, iv fl, iv tl, iv (own_cr i0), .unset, .unset, .unset, .unset, .unset, .unset, .unset] [(.int ((i1 &&& (255 : Int32)).toUInt32.toUInt16.toUInt32.toInt32))]
    refine XS.istore X0.here hx rfl (hb hby at_32) rfl (l' := #[iv i0, iv i1, iv i2, iv i3, iv i4, iv i5, iv fl, iv tl, iv (own_cr i0), iv (own_cr i1), .unset, .unset, .unset, .unset, .unset, .unset]) rfl ?_
    show Go p e below t s₁ m 34 #[iv i0, iv i1, iv i2, iv i3, iv i4, iv i5, iv fl, iv tl, iv (own_cr i0), iv (own_cr i1), .unset, .unset, .unset, .unset, .unset, .unset] []
    refine XS.iloadN X0.here hx rfl (hb hby at_34) rfl ?_
    show Go p e below t s₁ m 35 #[iv i0, iv i1, iv i2, iv i3, iv i4, iv i5, iv fl, iv tl, iv (own_cr i0), iv (own_cr i1), .unset, .unset, .unset, .unset, .unset, .unset] [(.int i2)]
    refine XT.sipushV X0.here hx rfl (255 : Int32) (hb hby at_35) (by decide) ?_
    show Go p e below t s₁ m 38 #[iv i0, iv i1, iv i2, iv i3, iv i4, iv i5, iv fl, iv tl, iv (own_cr i0), iv (own_cr i1), .unset, .unset, .unset, .unset, .unset, .unset] [(.int (255 : Int32)), (.int i2)]
    refine XS.iand X0.here hx rfl (hb hby at_38) rfl ?_
    show Go p e below t s₁ m 39 #[iv i0, iv i1, iv i2, iv i3, iv i4, iv i5, iv fl, iv tl, iv (own_cr i0), iv (own_cr i1), .unset, .unset, .unset, .unset, .unset, .unset] [(.int (i2 &&& (255 : Int32)))]
    refine XS.i2c X0.here hx rfl (hb hby at_39) rfl ?_
    show Go p e below t s₁ m 40 #[iv i0, iv i1, iv i2, iv i3, iv i4, iv i5, iv fl, iv tl, iv (own_cr i0), iv (own_cr i1), .unset, .unset, .unset, .unset, .unset, .unset] [(.int ((i2 &&& (255 : Int32)).toUInt32.toUInt16.toUInt32.toInt32))]
    refine XS.istore X0.here hx rfl (hb hby at_40) rfl (l' := #[iv i0, iv i1, iv i2, iv i3, iv i4, iv i5, iv fl, iv tl, iv (own_cr i0), iv (own_cr i1), iv (own_cr i2), .unset, .unset, .unset, .unset, .unset]) rfl ?_
    show Go p e below t s₁ m 42 #[iv i0, iv i1, iv i2, iv i3, iv i4, iv i5, iv fl, iv tl, iv (own_cr i0), iv (own_cr i1), iv (own_cr i2), .unset, .unset, .unset, .unset, .unset] []
    refine XS.iloadN X0.here hx rfl (hb hby at_42) rfl ?_
    show Go p e below t s₁ m 43 #[iv i0, iv i1, iv i2, iv i3, iv i4, iv i5, iv fl, iv tl, iv (own_cr i0), iv (own_cr i1), iv (own_cr i2), .unset, .unset, .unset, .unset, .unset] [(.int i3)]
    refine XT.sipushV X0.here hx rfl (255 : Int32) (hb hby at_43) (by decide) ?_
    show Go p e below t s₁ m 46 #[iv i0, iv i1, iv i2, iv i3, iv i4, iv i5, iv fl, iv tl, iv (own_cr i0), iv (own_cr i1), iv (own_cr i2), .unset, .unset, .unset, .unset, .unset] [(.int (255 : Int32)), (.int i3)]
    refine XS.iand X0.here hx rfl (hb hby at_46) rfl ?_
    show Go p e below t s₁ m 47 #[iv i0, iv i1, iv i2, iv i3, iv i4, iv i5, iv fl, iv tl, iv (own_cr i0), iv (own_cr i1), iv (own_cr i2), .unset, .unset, .unset, .unset, .unset] [(.int (i3 &&& (255 : Int32)))]
    refine XS.i2c X0.here hx rfl (hb hby at_47) rfl ?_
    show Go p e below t s₁ m 48 #[iv i0, iv i1, iv i2, iv i3, iv i4, iv i5, iv fl, iv tl, iv (own_cr i0), iv (own_cr i1), iv (own_cr i2), .unset, .unset, .unset, .unset, .unset] [(.int ((i3 &&& (255 : Int32)).toUInt32.toUInt16.toUInt32.toInt32))]
    refine XS.istore X0.here hx rfl (hb hby at_48) rfl (l' := #[iv i0, iv i1, iv i2, iv i3, iv i4, iv i5, iv fl, iv tl, iv (own_cr i0), iv (own_cr i1), iv (own_cr i2), iv (own_cr i3), .unset, .unset, .unset, .unset]) rfl ?_
    show Go p e below t s₁ m 50 #[iv i0, iv i1, iv i2, iv i3, iv i4, iv i5, iv fl, iv tl, iv (own_cr i0), iv (own_cr i1), iv (own_cr i2), iv (own_cr i3), .unset, .unset, .unset, .unset] []
    exact k)
  rcases (own_f3 hfl) with rfl | rfl | rfl
  · skip
    rcases (own_t3 htl) with rfl | rfl | rfl
    · skip
      have g415 : Goes p e below S0 (s₁.setTop (mkF m 56 #[iv i0, iv i1, iv i2, iv i3, iv i4, iv i5, iv (0 : Int32), iv (0 : Int32), iv (own_cr i0), iv (own_cr i1), iv (own_cr i2), iv (own_cr i3), .unset, .unset, .unset, .unset] [(.int (own_cr i1)), (.int (own_cr i0)), (.int (0 : Int32))])) := fun t k => g414 t (by
        refine XS.iload X0.here hx rfl (hb hby at_50) rfl ?_
        show Go p e below t s₁ m 52 #[iv i0, iv i1, iv i2, iv i3, iv i4, iv i5, iv (0 : Int32), iv (0 : Int32), iv (own_cr i0), iv (own_cr i1), iv (own_cr i2), iv (own_cr i3), .unset, .unset, .unset, .unset] [(.int (0 : Int32))]
        refine XS.iload X0.here hx rfl (hb hby at_52) rfl ?_
        show Go p e below t s₁ m 54 #[iv i0, iv i1, iv i2, iv i3, iv i4, iv i5, iv (0 : Int32), iv (0 : Int32), iv (own_cr i0), iv (own_cr i1), iv (own_cr i2), iv (own_cr i3), .unset, .unset, .unset, .unset] [(.int (own_cr i0)), (.int (0 : Int32))]
        refine XS.iload X0.here hx rfl (hb hby at_54) rfl ?_
        show Go p e below t s₁ m 56 #[iv i0, iv i1, iv i2, iv i3, iv i4, iv i5, iv (0 : Int32), iv (0 : Int32), iv (own_cr i0), iv (own_cr i1), iv (own_cr i2), iv (own_cr i3), .unset, .unset, .unset, .unset] [(.int (own_cr i1)), (.int (own_cr i0)), (.int (0 : Int32))]
        exact k)
      obtain ⟨_, _, ⟨T416, L416, k416, n416⟩, -, X416, sn416, gr416, ⟨Lc416, hQ416, l416, y416, z416, cr416⟩, st416⟩ := callSS X0 hx (y := (⟨"com/example/forager/forager/RoadNamePinLaw", "mk", "(ICC)Ljava/lang/String;"⟩ : MethodName)) hown (mvT hZ (hw _ (List.mem_of_getElem? (i := 0) rfl))) (mvT hZ (hw _ (List.mem_of_getElem? (i := 1) rfl))) (mvT hZ (hw _ (List.mem_of_getElem? (i := 2) rfl))) (mvT hZ (hw _ (List.mem_of_getElem? (i := 3) rfl))) (by decide) (own_backH (s := s) (vm0 := s.vm) (W := 0) (rm_mk0 l Z a0 hw [] (0 : Int32) (own_cr i0) (own_cr i1)  h0 n0 Z0 rfl) hZ (hw _ (List.mem_of_getElem? (i := 3) rfl)) (hw _ (List.mem_of_getElem? (i := 2) rfl)) (by decide) (by decide) hEL ch0.1 all0) (g := (mkF m 56 #[iv i0, iv i1, iv i2, iv i3, iv i4, iv i5, iv (0 : Int32), iv (0 : Int32), iv (own_cr i0), iv (own_cr i1), iv (own_cr i2), iv (own_cr i3), .unset, .unset, .unset, .unset] [(.int (own_cr i1)), (.int (own_cr i0)), (.int (0 : Int32))])) rfl (by rw [hml]; rfl) (argsL := [(.int (0 : Int32)), (.int (own_cr i0)), (.int (own_cr i1))]) (rest := []) (lenOf pd7 rfl) rfl (by show 2 * 0 + _ ≤ _; exact Nat.le_of_eq rfl) (hb hby at_56) (fun _ _ => ⟨rfl, e0, (by decide : 0 + 6 ≤ _), (by decide : 0 + 12 ≤ _)⟩)
      dsimp only [Pt.U, Pt.locs, Pt.cells, Pt.slots] at X416 sn416 gr416 l416 y416 z416 cr416 st416 hQ416
      subst l416 y416 z416
      obtain ⟨Y416, so416, hZ, hown⟩ := rebS (s := s) (vm0 := s.vm) ((State.WarmedH.refl s).since 0) (by rw [e0]; exact (Nat.zero_le _)) X416 sn416 gr416 hZ hown
      obtain ⟨vr_416, tb_416, tk_416, rfl, N416, R416_0, R416_1, R416_2, R416_3, R416_4, R416_5⟩ := hQ416
      have M416 := Fr.app N0 N416
      have sz416_1 : h0.size ≤ vr_416 := Nat.le_trans (Nat.le_refl _) R416_1
      have ng416_1 : n0 ≤ vr_416 := Nat.le_trans Z0 sz416_1
      have g417 : Goes p e below S0 (T416.setTop (mkF m 59 #[iv i0, iv i1, iv i2, iv i3, iv i4, iv i5, iv (0 : Int32), iv (0 : Int32), iv (own_cr i0), iv (own_cr i1), iv (own_cr i2), iv (own_cr i3), .unset, .unset, .unset, .unset] [(.ref vr_416)])) := fun t k => g415 t (st416.trans k)
      have g418 : Goes p e below S0 (T416.setTop (mkF m 67 #[iv i0, iv i1, iv i2, iv i3, iv i4, iv i5, iv (0 : Int32), iv (0 : Int32), iv (own_cr i0), iv (own_cr i1), iv (own_cr i2), iv (own_cr i3), rv vr_416, .unset, .unset, .unset] [(.int (own_cr i3)), (.int (own_cr i2)), (.int (0 : Int32))])) := fun t k => g417 t (by
        refine XS.astore Y416.here hx rfl (hb hby at_59) rfl rfl (l' := #[iv i0, iv i1, iv i2, iv i3, iv i4, iv i5, iv (0 : Int32), iv (0 : Int32), iv (own_cr i0), iv (own_cr i1), iv (own_cr i2), iv (own_cr i3), rv vr_416, .unset, .unset, .unset]) rfl ?_
        show Go p e below t T416 m 61 #[iv i0, iv i1, iv i2, iv i3, iv i4, iv i5, iv (0 : Int32), iv (0 : Int32), iv (own_cr i0), iv (own_cr i1), iv (own_cr i2), iv (own_cr i3), rv vr_416, .unset, .unset, .unset] []
        refine XS.iload Y416.here hx rfl (hb hby at_61) rfl ?_
        show Go p e below t T416 m 63 #[iv i0, iv i1, iv i2, iv i3, iv i4, iv i5, iv (0 : Int32), iv (0 : Int32), iv (own_cr i0), iv (own_cr i1), iv (own_cr i2), iv (own_cr i3), rv vr_416, .unset, .unset, .unset] [(.int (0 : Int32))]
        refine XS.iload Y416.here hx rfl (hb hby at_63) rfl ?_
        show Go p e below t T416 m 65 #[iv i0, iv i1, iv i2, iv i3, iv i4, iv i5, iv (0 : Int32), iv (0 : Int32), iv (own_cr i0), iv (own_cr i1), iv (own_cr i2), iv (own_cr i3), rv vr_416, .unset, .unset, .unset] [(.int (own_cr i2)), (.int (0 : Int32))]
        refine XS.iload Y416.here hx rfl (hb hby at_65) rfl ?_
        show Go p e below t T416 m 67 #[iv i0, iv i1, iv i2, iv i3, iv i4, iv i5, iv (0 : Int32), iv (0 : Int32), iv (own_cr i0), iv (own_cr i1), iv (own_cr i2), iv (own_cr i3), rv vr_416, .unset, .unset, .unset] [(.int (own_cr i3)), (.int (own_cr i2)), (.int (0 : Int32))]
        exact k)
      have ch420 := ch0.trans cr416
      obtain ⟨_, _, ⟨T419, L419, k419, n419⟩, -, X419, sn419, gr419, ⟨Lc419, hQ419, l419, y419, z419, cr419⟩, st419⟩ := callSS Y416 hx (y := (⟨"com/example/forager/forager/RoadNamePinLaw", "mk", "(ICC)Ljava/lang/String;"⟩ : MethodName)) hown (mvT hZ (hw _ (List.mem_of_getElem? (i := 0) rfl))) (mvT hZ (hw _ (List.mem_of_getElem? (i := 1) rfl))) (mvT hZ (hw _ (List.mem_of_getElem? (i := 2) rfl))) (mvT hZ (hw _ (List.mem_of_getElem? (i := 3) rfl))) (by decide) (own_backH (s := s) (vm0 := T416.vm) (W := 0) (rm_mk0 l Z a0 hw [] (0 : Int32) (own_cr i2) (own_cr i3)  T416.heap n0 (Nat.le_trans Z0 (Nat.le_trans (Nat.le_refl _) R416_0.1)) rfl) hZ (hw _ (List.mem_of_getElem? (i := 3) rfl)) (hw _ (List.mem_of_getElem? (i := 2) rfl)) (by decide) (by decide) hEL ch420.1 all0) (g := (mkF m 67 #[iv i0, iv i1, iv i2, iv i3, iv i4, iv i5, iv (0 : Int32), iv (0 : Int32), iv (own_cr i0), iv (own_cr i1), iv (own_cr i2), iv (own_cr i3), rv vr_416, .unset, .unset, .unset] [(.int (own_cr i3)), (.int (own_cr i2)), (.int (0 : Int32))])) rfl (by rw [hml]; rfl) (argsL := [(.int (0 : Int32)), (.int (own_cr i2)), (.int (own_cr i3))]) (rest := []) (lenOf pd7 rfl) rfl (by show 2 * 0 + _ ≤ _; exact Nat.le_of_eq rfl) (hb hby at_67) (fun _ _ => ⟨rfl, rfl, (by decide : 6 + 6 ≤ _), (by decide : 12 + 12 ≤ _)⟩)
      dsimp only [Pt.U, Pt.locs, Pt.cells, Pt.slots] at X419 sn419 gr419 l419 y419 z419 cr419 st419 hQ419
      subst l419 y419 z419
      obtain ⟨Y419, so419, hZ, hown⟩ := rebS (s := s) (vm0 := T416.vm) so416 (Nat.le_refl _) X419 sn419 gr419 hZ hown
      obtain ⟨vr_419, tb_419, tk_419, rfl, N419, R419_0, R419_1, R419_2, R419_3, R419_4, R419_5⟩ := hQ419
      have M419 := Fr.app M416 N419
      have sz419_1 : h0.size ≤ vr_419 := Nat.le_trans (Nat.le_trans (Nat.le_refl _) R416_0.1) R419_1
      have ng419_1 : n0 ≤ vr_419 := Nat.le_trans Z0 sz419_1
      have g421 : Goes p e below S0 (T419.setTop (mkF m 70 #[iv i0, iv i1, iv i2, iv i3, iv i4, iv i5, iv (0 : Int32), iv (0 : Int32), iv (own_cr i0), iv (own_cr i1), iv (own_cr i2), iv (own_cr i3), rv vr_416, .unset, .unset, .unset] [(.ref vr_419)])) := fun t k => g418 t (st419.trans k)
      have g422 : Goes p e below S0 (T419.setTop (mkF m 72 #[iv i0, iv i1, iv i2, iv i3, iv i4, iv i5, iv (0 : Int32), iv (0 : Int32), iv (own_cr i0), iv (own_cr i1), iv (own_cr i2), iv (own_cr i3), rv vr_416, rv vr_419, .unset, .unset] [])) := fun t k => g421 t (by
        refine XS.astore Y419.here hx rfl (hb hby at_70) rfl rfl (l' := #[iv i0, iv i1, iv i2, iv i3, iv i4, iv i5, iv (0 : Int32), iv (0 : Int32), iv (own_cr i0), iv (own_cr i1), iv (own_cr i2), iv (own_cr i3), rv vr_416, rv vr_419, .unset, .unset]) rfl ?_
        show Go p e below t T419 m 72 #[iv i0, iv i1, iv i2, iv i3, iv i4, iv i5, iv (0 : Int32), iv (0 : Int32), iv (own_cr i0), iv (own_cr i1), iv (own_cr i2), iv (own_cr i3), rv vr_416, rv vr_419, .unset, .unset] []
        exact k)
      obtain ⟨T423, h423, X423, e423, E423, A423, D423, -, st423⟩ := newO Y419 hx hZ hown (hw _ (List.mem_of_getElem? (i := 26) rfl)) (hw _ (List.mem_of_getElem? (i := 27) rfl)) (hw _ (List.mem_of_getElem? (i := 28) rfl)) rfl (g := (mkF m 72 #[iv i0, iv i1, iv i2, iv i3, iv i4, iv i5, iv (0 : Int32), iv (0 : Int32), iv (own_cr i0), iv (own_cr i1), iv (own_cr i2), iv (own_cr i3), rv vr_416, rv vr_419, .unset, .unset] [])) rfl (hb hby at_72) (by decide) (by decide)
      obtain ⟨b423, gb423⟩ : ∃ z, z = T419.heap.size := ⟨_, rfl⟩
      have sz423 : h0.size ≤ b423 := Nat.le_trans (Nat.le_trans (Nat.le_trans (Nat.le_refl _) R416_0.1) R419_0.1) (Nat.le_of_eq gb423.symm)
      have ng423 : n0 ≤ b423 := Nat.le_trans Z0 sz423
      rw [← gb423] at A423 D423 st423
      have F423_424 : Fld Z h423 b423 "com/example/forager/forager/Road" "from" "Ljava/lang/String;" .null := D423 (Or.inr (hw _ (List.mem_of_getElem? (i := 39) rfl))) (ty := (.object "java/lang/String")) (by decide)
      have F423_425 : Fld Z h423 b423 "com/example/forager/forager/Road" "to" "Ljava/lang/String;" .null := D423 (Or.inr (hw _ (List.mem_of_getElem? (i := 41) rfl))) (ty := (.object "java/lang/String")) (by decide)
      have F423_426 : Fld Z h423 b423 "com/example/forager/forager/Road" "length" "D" (.double (0 : UInt64)) := D423 (Or.inr (hw _ (List.mem_of_getElem? (i := 43) rfl))) (ty := .double) (by decide)
      have g427 : Goes p e below S0 (T423.setTop (mkF m 75 #[iv i0, iv i1, iv i2, iv i3, iv i4, iv i5, iv (0 : Int32), iv (0 : Int32), iv (own_cr i0), iv (own_cr i1), iv (own_cr i2), iv (own_cr i3), rv vr_416, rv vr_419, .unset, .unset] [(.ref b423)])) := fun t k => g422 t (st423 t k)
      have g428 : Goes p e below S0 (T423.setTop (mkF m 87 #[iv i0, iv i1, iv i2, iv i3, iv i4, iv i5, iv (0 : Int32), iv (0 : Int32), iv (own_cr i0), iv (own_cr i1), iv (own_cr i2), iv (own_cr i3), rv vr_416, rv vr_419, .unset, .unset] [(.double (FP.i2d (i5 &&& (1023 : Int32)))), (.ref vr_419), (.ref vr_416), (.ref b423), (.ref b423)])) := fun t k => g427 t (by
        refine XS.dup X423.here hx rfl (hb hby at_75) rfl rfl ?_
        show Go p e below t T423 m 76 #[iv i0, iv i1, iv i2, iv i3, iv i4, iv i5, iv (0 : Int32), iv (0 : Int32), iv (own_cr i0), iv (own_cr i1), iv (own_cr i2), iv (own_cr i3), rv vr_416, rv vr_419, .unset, .unset] [(.ref b423), (.ref b423)]
        refine XS.aload X423.here hx rfl (hb hby at_76) rfl rfl ?_
        show Go p e below t T423 m 78 #[iv i0, iv i1, iv i2, iv i3, iv i4, iv i5, iv (0 : Int32), iv (0 : Int32), iv (own_cr i0), iv (own_cr i1), iv (own_cr i2), iv (own_cr i3), rv vr_416, rv vr_419, .unset, .unset] [(.ref vr_416), (.ref b423), (.ref b423)]
        refine XS.aload X423.here hx rfl (hb hby at_78) rfl rfl ?_
        show Go p e below t T423 m 80 #[iv i0, iv i1, iv i2, iv i3, iv i4, iv i5, iv (0 : Int32), iv (0 : Int32), iv (own_cr i0), iv (own_cr i1), iv (own_cr i2), iv (own_cr i3), rv vr_416, rv vr_419, .unset, .unset] [(.ref vr_419), (.ref vr_416), (.ref b423), (.ref b423)]
        refine XS.iload X423.here hx rfl (hb hby at_80) rfl ?_
        show Go p e below t T423 m 82 #[iv i0, iv i1, iv i2, iv i3, iv i4, iv i5, iv (0 : Int32), iv (0 : Int32), iv (own_cr i0), iv (own_cr i1), iv (own_cr i2), iv (own_cr i3), rv vr_416, rv vr_419, .unset, .unset] [(.int i5), (.ref vr_419), (.ref vr_416), (.ref b423), (.ref b423)]
        refine XT.sipushV X423.here hx rfl (1023 : Int32) (hb hby at_82) (by decide) ?_
        show Go p e below t T423 m 85 #[iv i0, iv i1, iv i2, iv i3, iv i4, iv i5, iv (0 : Int32), iv (0 : Int32), iv (own_cr i0), iv (own_cr i1), iv (own_cr i2), iv (own_cr i3), rv vr_416, rv vr_419, .unset, .unset] [(.int (1023 : Int32)), (.int i5), (.ref vr_419), (.ref vr_416), (.ref b423), (.ref b423)]
        refine XS.iand X423.here hx rfl (hb hby at_85) rfl ?_
        show Go p e below t T423 m 86 #[iv i0, iv i1, iv i2, iv i3, iv i4, iv i5, iv (0 : Int32), iv (0 : Int32), iv (own_cr i0), iv (own_cr i1), iv (own_cr i2), iv (own_cr i3), rv vr_416, rv vr_419, .unset, .unset] [(.int (i5 &&& (1023 : Int32))), (.ref vr_419), (.ref vr_416), (.ref b423), (.ref b423)]
        refine XS.i2dS X423.here hx rfl (hb hby at_86) rfl rfl ?_
        show Go p e below t T423 m 87 #[iv i0, iv i1, iv i2, iv i3, iv i4, iv i5, iv (0 : Int32), iv (0 : Int32), iv (own_cr i0), iv (own_cr i1), iv (own_cr i2), iv (own_cr i3), rv vr_416, rv vr_419, .unset, .unset] [(.double (FP.i2d (i5 &&& (1023 : Int32)))), (.ref vr_419), (.ref vr_416), (.ref b423), (.ref b423)]
        exact k)
      obtain ⟨_, _, ⟨T429, L429, k429, n429⟩, -, X429, ⟨Lc429, hQ429, l429, y429, z429⟩, st429⟩ := X423.specialBack hx (y := (⟨"com/example/forager/forager/Road", "<init>", "(Ljava/lang/String;Ljava/lang/String;D)V"⟩ : MethodName)) rfl hown (mvT hZ (hw _ (List.mem_of_getElem? (i := 29) rfl))) (mvT hZ (hw _ (List.mem_of_getElem? (i := 30) rfl))) (mvT hZ (hw _ (List.mem_of_getElem? (i := 31) rfl))) (by decide) (backOf (W := 1) (rm_ri l Z a0 hw [] b423 vr_416 vr_419 (FP.i2d (i5 &&& (1023 : Int32)))  h423 n0 (Nat.le_trans Z0 (Nat.le_trans (Nat.le_trans (Nat.le_trans (Nat.le_refl _) R416_0.1) R419_0.1) E423.1)) A423 F423_424 F423_425 F423_426 ng423) hZ (hw _ (List.mem_of_getElem? (i := 31) rfl)) (hw _ (List.mem_of_getElem? (i := 28) rfl)) (by decide) (by decide)) (g := (mkF m 87 #[iv i0, iv i1, iv i2, iv i3, iv i4, iv i5, iv (0 : Int32), iv (0 : Int32), iv (own_cr i0), iv (own_cr i1), iv (own_cr i2), iv (own_cr i3), rv vr_416, rv vr_419, .unset, .unset] [(.double (FP.i2d (i5 &&& (1023 : Int32)))), (.ref vr_419), (.ref vr_416), (.ref b423), (.ref b423)])) rfl (by rw [hml]; rfl) (Steps.refl _) (a := b423) (argsL := [(.ref vr_416), (.ref vr_419), (.double (FP.i2d (i5 &&& (1023 : Int32))))]) (rest := [(.ref b423)]) (lenOf pd9 rfl) rfl (by show 2 * 0 + _ ≤ _; exact Nat.le_of_eq rfl) (hb hby at_87) (fun _ _ => ⟨rfl, e423, (by decide : 13 + 0 ≤ _), (by decide : 27 + 0 ≤ _)⟩)
      dsimp only [Pt.U, Pt.locs, Pt.cells, Pt.slots] at X429 l429 y429 z429 st429 hQ429
      subst l429 y429 z429
      obtain ⟨rfl, N429, R429_0, R429_1, R429_2, R429_3⟩ := hQ429
      have M429 := Fr.app M419 N429
      have g430 : Goes p e below S0 (T429.setTop (mkF m 90 #[iv i0, iv i1, iv i2, iv i3, iv i4, iv i5, iv (0 : Int32), iv (0 : Int32), iv (own_cr i0), iv (own_cr i1), iv (own_cr i2), iv (own_cr i3), rv vr_416, rv vr_419, .unset, .unset] [(.ref b423)])) := fun t k => g428 t (st429.trans k)
      have g431 : Goes p e below S0 (T429.setTop (mkF m 94 #[iv i0, iv i1, iv i2, iv i3, iv i4, iv i5, iv (0 : Int32), iv (0 : Int32), iv (own_cr i0), iv (own_cr i1), iv (own_cr i2), iv (own_cr i3), rv vr_416, rv vr_419, rv b423, .unset] [(.ref b423)])) := fun t k => g430 t (by
        refine XS.astore X429.here hx rfl (hb hby at_90) rfl rfl (l' := #[iv i0, iv i1, iv i2, iv i3, iv i4, iv i5, iv (0 : Int32), iv (0 : Int32), iv (own_cr i0), iv (own_cr i1), iv (own_cr i2), iv (own_cr i3), rv vr_416, rv vr_419, rv b423, .unset]) rfl ?_
        show Go p e below t T429 m 92 #[iv i0, iv i1, iv i2, iv i3, iv i4, iv i5, iv (0 : Int32), iv (0 : Int32), iv (own_cr i0), iv (own_cr i1), iv (own_cr i2), iv (own_cr i3), rv vr_416, rv vr_419, rv b423, .unset] []
        refine XS.aload X429.here hx rfl (hb hby at_92) rfl rfl ?_
        show Go p e below t T429 m 94 #[iv i0, iv i1, iv i2, iv i3, iv i4, iv i5, iv (0 : Int32), iv (0 : Int32), iv (own_cr i0), iv (own_cr i1), iv (own_cr i2), iv (own_cr i3), rv vr_416, rv vr_419, rv b423, .unset] [(.ref b423)]
        exact k)
      obtain ⟨cq432, kq432, q432a, q432b, q432c⟩ := isOf hZ rfl R429_1
      have ch433 := ch420.trans cr419
      have ch434 := ch433.trans (CHr.ext E423 ch433.1)
      have hs435 : ∀ x ∈ ([b423] : List Addr), Safe Z consts_1 T419.vm h423 x := (sfS (Safe.exa hZ.alike A423 (by decide) (by decide)) sf0)
      have ch435 := ch434.trans (CHr.keep R429_0 hs435 ch434.1)
      obtain ⟨_, _, ⟨T432, L432, k432, n432⟩, -, X432, sn432, gr432, ⟨Lc432, hQ432, l432, y432, z432, cr432⟩, st432⟩ := X429.virtualBackS hx (y := (⟨"com/example/forager/forager/Road", "name", "()Ljava/lang/String;"⟩ : MethodName)) (z := (⟨"com/example/forager/forager/Road", "name", "()Ljava/lang/String;"⟩ : MethodName)) hown (mvT hZ (hw _ (List.mem_of_getElem? (i := 44) rfl))) (mvT hZ (hw _ (List.mem_of_getElem? (i := 45) rfl))) (notFace_of_selects (args := #[]) (mvT hZ (hw _ (List.mem_of_getElem? (i := 47) rfl)))) (mvT hZ (hw _ (List.mem_of_getElem? (i := 47) rfl))) (mvT hZ (hw _ (List.mem_of_getElem? (i := 46) rfl))) (by decide) (own_backH (s := s) (vm0 := T419.vm) (W := 0) (rm_nam l Z a0 hw [] b423 vr_416 vr_419 tb_416 tk_416 (0 : Int32) [] tb_419 tk_419 (0 : Int32) [] cz T429.heap n0 (Nat.le_trans Z0 (Nat.le_trans (Nat.le_trans (Nat.le_trans (Nat.le_trans (Nat.le_refl _) R416_0.1) R419_0.1) E423.1) R429_0.1)) R429_2 R429_3 (((R416_2.keep R419_0).ext E423).keep R429_0) (((R416_3.keep R419_0 nin0).ext E423).keep R429_0 (ninS (Nat.ne_of_lt (Nat.lt_of_lt_of_le (R416_2.keep R419_0).lt (Nat.le_of_eq gb423.symm))) nin0)) (((R416_4.keep R419_0 nin0).ext E423).keep R429_0 (ninS (Nat.ne_of_lt (Nat.lt_of_lt_of_le (R416_2.keep R419_0).lt (Nat.le_of_eq gb423.symm))) nin0)) (((R416_5.keep R419_0 nin0).ext E423).keep R429_0 (ninS (Nat.ne_of_lt (Nat.lt_of_lt_of_le (R416_5.keep R419_0 nin0).lt (Nat.le_of_eq gb423.symm))) nin0)) ((R419_2.ext E423).keep R429_0) ((R419_3.ext E423).keep R429_0 (ninS (Nat.ne_of_lt (Nat.lt_of_lt_of_le R419_2.lt (Nat.le_of_eq gb423.symm))) nin0)) ((R419_4.ext E423).keep R429_0 (ninS (Nat.ne_of_lt (Nat.lt_of_lt_of_le R419_2.lt (Nat.le_of_eq gb423.symm))) nin0)) ((R419_5.ext E423).keep R429_0 (ninS (Nat.ne_of_lt (Nat.lt_of_lt_of_le R419_5.lt (Nat.le_of_eq gb423.symm))) nin0)) (Sta.keepO ((Sta.keepO (Sta.keepO P0 R416_0 ns0) R419_0 ns0).ext E423) R429_0 (nsS (Exa.nostat A423) ns0)) hz ⟨by decide, rfl⟩ ⟨by decide, rfl⟩) hZ (hw _ (List.mem_of_getElem? (i := 48) rfl)) (hw _ (List.mem_of_getElem? (i := 28) rfl)) (by decide) (by decide) hEL ch435.1 all0) q432a q432c (g := (mkF m 94 #[iv i0, iv i1, iv i2, iv i3, iv i4, iv i5, iv (0 : Int32), iv (0 : Int32), iv (own_cr i0), iv (own_cr i1), iv (own_cr i2), iv (own_cr i3), rv vr_416, rv vr_419, rv b423, .unset] [(.ref b423)])) rfl (by rw [hml]; rfl) (Steps.refl _) (argsL := []) (rest := []) (lenOf pd23 rfl) rfl (by show 2 * 0 + _ ≤ _; exact Nat.le_of_eq rfl) (hb hby at_94) (fun _ _ => ⟨rfl, rfl, (by decide : 13 + 6 ≤ _), (by decide : 27 + 40 ≤ _)⟩)
      dsimp only [Pt.U, Pt.locs, Pt.cells, Pt.slots] at X432 sn432 gr432 l432 y432 z432 cr432 st432 hQ432
      subst l432 y432 z432
      obtain ⟨Y432, so432, hZ, hown⟩ := rebS (s := s) (vm0 := T419.vm) so419 (Nat.le_trans (Nat.le_trans (Nat.le_refl _) E423.1) R429_0.1) X432 sn432 gr432 hZ hown
      obtain ⟨nr_432, tb_432, tk_432, rfl, N432, R432_0, R432_1, R432_2, R432_3, R432_4, R432_5⟩ := hQ432
      have M432 := Fr.app M429 N432
      have sz432_1 : h0.size ≤ nr_432 := Nat.le_trans (Nat.le_trans (Nat.le_trans (Nat.le_trans (Nat.le_trans (Nat.le_refl _) R416_0.1) R419_0.1) E423.1) R429_0.1) R432_1
      have ng432_1 : n0 ≤ nr_432 := Nat.le_trans Z0 sz432_1
      have g436 : Goes p e below S0 (T432.setTop (mkF m 97 #[iv i0, iv i1, iv i2, iv i3, iv i4, iv i5, iv (0 : Int32), iv (0 : Int32), iv (own_cr i0), iv (own_cr i1), iv (own_cr i2), iv (own_cr i3), rv vr_416, rv vr_419, rv b423, .unset] [(.ref nr_432)])) := fun t k => g431 t (st432.trans k)
      have Vn437 : Arv Z T432.heap tb_432 tk_432 .byte (1 : Int32) [(.int (45 : Int32))] (.int (0 : Int32)) := own_nmA00 R432_5
      have g438 : Goes p e below S0 (T432.setTop (mkF m 108 #[iv i0, iv i1, iv i2, iv i3, iv i4, iv i5, iv (0 : Int32), iv (0 : Int32), iv (own_cr i0), iv (own_cr i1), iv (own_cr i2), iv (own_cr i3), rv vr_416, rv vr_419, rv b423, rv nr_432] [(.ref nr_432)])) := fun t k => g436 t (by
        refine XS.astore Y432.here hx rfl (hb hby at_97) rfl rfl (l' := #[iv i0, iv i1, iv i2, iv i3, iv i4, iv i5, iv (0 : Int32), iv (0 : Int32), iv (own_cr i0), iv (own_cr i1), iv (own_cr i2), iv (own_cr i3), rv vr_416, rv vr_419, rv b423, rv nr_432]) rfl ?_
        show Go p e below t T432 m 99 #[iv i0, iv i1, iv i2, iv i3, iv i4, iv i5, iv (0 : Int32), iv (0 : Int32), iv (own_cr i0), iv (own_cr i1), iv (own_cr i2), iv (own_cr i3), rv vr_416, rv vr_419, rv b423, rv nr_432] []
        refine XS.aload Y432.here hx rfl (hb hby at_99) rfl rfl ?_
        show Go p e below t T432 m 101 #[iv i0, iv i1, iv i2, iv i3, iv i4, iv i5, iv (0 : Int32), iv (0 : Int32), iv (own_cr i0), iv (own_cr i1), iv (own_cr i2), iv (own_cr i3), rv vr_416, rv vr_419, rv b423, rv nr_432] [(.ref nr_432)]
        refine XS.ifnonnullYes Y432.here hx rfl (pc0 := 101) (pc' := 106) rfl (hb hby at_101) rfl (by decide) (by decide) ?_
        show Go p e below t T432 m 106 #[iv i0, iv i1, iv i2, iv i3, iv i4, iv i5, iv (0 : Int32), iv (0 : Int32), iv (own_cr i0), iv (own_cr i1), iv (own_cr i2), iv (own_cr i3), rv vr_416, rv vr_419, rv b423, rv nr_432] []
        refine XS.aload Y432.here hx rfl (hb hby at_106) rfl rfl ?_
        show Go p e below t T432 m 108 #[iv i0, iv i1, iv i2, iv i3, iv i4, iv i5, iv (0 : Int32), iv (0 : Int32), iv (own_cr i0), iv (own_cr i1), iv (own_cr i2), iv (own_cr i3), rv vr_416, rv vr_419, rv b423, rv nr_432] [(.ref nr_432)]
        exact k)
      obtain ⟨cq439, kq439, q439a, q439b, q439c⟩ := isOf hZ rfl R432_2
      obtain ⟨_, _, ⟨T439, L439, k439, n439⟩, -, X439, ⟨Lc439, hQ439, l439, y439, z439⟩, st439⟩ := Y432.virtualBack hx (y := (⟨"java/lang/String", "length", "()I"⟩ : MethodName)) (z := (⟨"java/lang/String", "length", "()I"⟩ : MethodName)) hown (mvT hZ (hw _ (List.mem_of_getElem? (i := 161) rfl))) (mvT hZ (hw _ (List.mem_of_getElem? (i := 78) rfl))) (notFace_of_selects (args := #[]) (mvT hZ (hw _ (List.mem_of_getElem? (i := 80) rfl)))) (mvT hZ (hw _ (List.mem_of_getElem? (i := 80) rfl))) (mvT hZ (hw _ (List.mem_of_getElem? (i := 79) rfl))) (by decide) (backOf (W := 0) (rm_len l Z a0 hw [] nr_432 tb_432 tk_432 (1 : Int32) [(.int (45 : Int32))] cz T432.heap n0 (Nat.le_trans Z0 (Nat.le_trans (Nat.le_trans (Nat.le_trans (Nat.le_trans (Nat.le_trans (Nat.le_refl _) R416_0.1) R419_0.1) E423.1) R429_0.1) R432_0.1)) R432_2 R432_3 R432_4 Vn437 (Sta.keepO (Sta.keepO ((Sta.keepO (Sta.keepO P0 R416_0 ns0) R419_0 ns0).ext E423) R429_0 (nsS (Exa.nostat A423) ns0)) R432_0 ns0) hz) hZ (hw _ (List.mem_of_getElem? (i := 81) rfl)) (hw _ (List.mem_of_getElem? (i := 6) rfl)) (by decide) (by decide)) q439a q439c (g := (mkF m 108 #[iv i0, iv i1, iv i2, iv i3, iv i4, iv i5, iv (0 : Int32), iv (0 : Int32), iv (own_cr i0), iv (own_cr i1), iv (own_cr i2), iv (own_cr i3), rv vr_416, rv vr_419, rv b423, rv nr_432] [(.ref nr_432)])) rfl (by rw [hml]; rfl) (Steps.refl _) (argsL := []) (rest := []) (lenOf pd1 rfl) rfl (by show 2 * 0 + _ ≤ _; exact Nat.le_of_eq rfl) (hb hby at_108) (fun _ _ => ⟨rfl, rfl, (by decide : 19 + 0 ≤ _), (by decide : 67 + 0 ≤ _)⟩)
      dsimp only [Pt.U, Pt.locs, Pt.cells, Pt.slots] at X439 l439 y439 z439 st439 hQ439
      subst l439 y439 z439
      obtain ⟨rfl, N439, R439_0⟩ := hQ439
      have M439 := Fr.app M432 N439
      have g440 : Goes p e below S0 (T439.setTop (mkF m 111 #[iv i0, iv i1, iv i2, iv i3, iv i4, iv i5, iv (0 : Int32), iv (0 : Int32), iv (own_cr i0), iv (own_cr i1), iv (own_cr i2), iv (own_cr i3), rv vr_416, rv vr_419, rv b423, rv nr_432] [(.int (1 : Int32))])) := fun t k => g438 t (st439.trans k)
      have g441 : Goes p e below S0 (T439.setTop (mkF m 165 #[iv i0, iv i1, iv i2, iv i3, iv i4, iv i5, iv (0 : Int32), iv (0 : Int32), iv (own_cr i0), iv (own_cr i1), iv (own_cr i2), iv (own_cr i3), rv vr_416, rv vr_419, rv b423, rv nr_432] [(.int (0 : Int32)), (.ref nr_432)])) := fun t k => g440 t (by
        refine XS.iload X439.here hx rfl (hb hby at_111) rfl ?_
        show Go p e below t T439 m 113 #[iv i0, iv i1, iv i2, iv i3, iv i4, iv i5, iv (0 : Int32), iv (0 : Int32), iv (own_cr i0), iv (own_cr i1), iv (own_cr i2), iv (own_cr i3), rv vr_416, rv vr_419, rv b423, rv nr_432] [(.int (0 : Int32)), (.int (1 : Int32))]
        refine XT.iconstV X439.here hx rfl (1 : Int32) (hb hby at_113) (by decide) ?_
        show Go p e below t T439 m 114 #[iv i0, iv i1, iv i2, iv i3, iv i4, iv i5, iv (0 : Int32), iv (0 : Int32), iv (own_cr i0), iv (own_cr i1), iv (own_cr i2), iv (own_cr i3), rv vr_416, rv vr_419, rv b423, rv nr_432] [(.int (1 : Int32)), (.int (0 : Int32)), (.int (1 : Int32))]
        refine XS.iadd X439.here hx rfl (hb hby at_114) rfl ?_
        rw [show ((0 : Int32) + (1 : Int32)) = (1 : Int32) by decide]
        show Go p e below t T439 m 115 #[iv i0, iv i1, iv i2, iv i3, iv i4, iv i5, iv (0 : Int32), iv (0 : Int32), iv (own_cr i0), iv (own_cr i1), iv (own_cr i2), iv (own_cr i3), rv vr_416, rv vr_419, rv b423, rv nr_432] [(.int (1 : Int32)), (.int (1 : Int32))]
        refine XS.iload X439.here hx rfl (hb hby at_115) rfl ?_
        show Go p e below t T439 m 117 #[iv i0, iv i1, iv i2, iv i3, iv i4, iv i5, iv (0 : Int32), iv (0 : Int32), iv (own_cr i0), iv (own_cr i1), iv (own_cr i2), iv (own_cr i3), rv vr_416, rv vr_419, rv b423, rv nr_432] [(.int (0 : Int32)), (.int (1 : Int32)), (.int (1 : Int32))]
        refine XS.iadd X439.here hx rfl (hb hby at_117) rfl ?_
        rw [show ((1 : Int32) + (0 : Int32)) = (1 : Int32) by decide]
        show Go p e below t T439 m 118 #[iv i0, iv i1, iv i2, iv i3, iv i4, iv i5, iv (0 : Int32), iv (0 : Int32), iv (own_cr i0), iv (own_cr i1), iv (own_cr i2), iv (own_cr i3), rv vr_416, rv vr_419, rv b423, rv nr_432] [(.int (1 : Int32)), (.int (1 : Int32))]
        refine XS.icmpYes X439.here hx rfl (pc0 := 118) (pc' := 123) rfl (hb hby at_118) rfl (XT.ii_eq_t (by decide)) (by decide) (by decide) ?_
        show Go p e below t T439 m 123 #[iv i0, iv i1, iv i2, iv i3, iv i4, iv i5, iv (0 : Int32), iv (0 : Int32), iv (own_cr i0), iv (own_cr i1), iv (own_cr i2), iv (own_cr i3), rv vr_416, rv vr_419, rv b423, rv nr_432] []
        refine XS.iload X439.here hx rfl (hb hby at_123) rfl ?_
        show Go p e below t T439 m 125 #[iv i0, iv i1, iv i2, iv i3, iv i4, iv i5, iv (0 : Int32), iv (0 : Int32), iv (own_cr i0), iv (own_cr i1), iv (own_cr i2), iv (own_cr i3), rv vr_416, rv vr_419, rv b423, rv nr_432] [(.int (0 : Int32))]
        refine XT.iconstV X439.here hx rfl (1 : Int32) (hb hby at_125) (by decide) ?_
        show Go p e below t T439 m 126 #[iv i0, iv i1, iv i2, iv i3, iv i4, iv i5, iv (0 : Int32), iv (0 : Int32), iv (own_cr i0), iv (own_cr i1), iv (own_cr i2), iv (own_cr i3), rv vr_416, rv vr_419, rv b423, rv nr_432] [(.int (1 : Int32)), (.int (0 : Int32))]
        refine XS.icmpYes X439.here hx rfl (pc0 := 126) (pc' := 142) rfl (hb hby at_126) rfl (XT.ii_lt_t (by decide)) (by decide) (by decide) ?_
        show Go p e below t T439 m 142 #[iv i0, iv i1, iv i2, iv i3, iv i4, iv i5, iv (0 : Int32), iv (0 : Int32), iv (own_cr i0), iv (own_cr i1), iv (own_cr i2), iv (own_cr i3), rv vr_416, rv vr_419, rv b423, rv nr_432] []
        refine XS.iload X439.here hx rfl (hb hby at_142) rfl ?_
        show Go p e below t T439 m 144 #[iv i0, iv i1, iv i2, iv i3, iv i4, iv i5, iv (0 : Int32), iv (0 : Int32), iv (own_cr i0), iv (own_cr i1), iv (own_cr i2), iv (own_cr i3), rv vr_416, rv vr_419, rv b423, rv nr_432] [(.int (0 : Int32))]
        refine XT.iconstV X439.here hx rfl (2 : Int32) (hb hby at_144) (by decide) ?_
        show Go p e below t T439 m 145 #[iv i0, iv i1, iv i2, iv i3, iv i4, iv i5, iv (0 : Int32), iv (0 : Int32), iv (own_cr i0), iv (own_cr i1), iv (own_cr i2), iv (own_cr i3), rv vr_416, rv vr_419, rv b423, rv nr_432] [(.int (2 : Int32)), (.int (0 : Int32))]
        refine XS.icmpYes X439.here hx rfl (pc0 := 145) (pc' := 161) rfl (hb hby at_145) rfl (XT.ii_lt_t (by decide)) (by decide) (by decide) ?_
        show Go p e below t T439 m 161 #[iv i0, iv i1, iv i2, iv i3, iv i4, iv i5, iv (0 : Int32), iv (0 : Int32), iv (own_cr i0), iv (own_cr i1), iv (own_cr i2), iv (own_cr i3), rv vr_416, rv vr_419, rv b423, rv nr_432] []
        refine XS.aload X439.here hx rfl (hb hby at_161) rfl rfl ?_
        show Go p e below t T439 m 163 #[iv i0, iv i1, iv i2, iv i3, iv i4, iv i5, iv (0 : Int32), iv (0 : Int32), iv (own_cr i0), iv (own_cr i1), iv (own_cr i2), iv (own_cr i3), rv vr_416, rv vr_419, rv b423, rv nr_432] [(.ref nr_432)]
        refine XS.iload X439.here hx rfl (hb hby at_163) rfl ?_
        show Go p e below t T439 m 165 #[iv i0, iv i1, iv i2, iv i3, iv i4, iv i5, iv (0 : Int32), iv (0 : Int32), iv (own_cr i0), iv (own_cr i1), iv (own_cr i2), iv (own_cr i3), rv vr_416, rv vr_419, rv b423, rv nr_432] [(.int (0 : Int32)), (.ref nr_432)]
        exact k)
      obtain ⟨cq442, kq442, q442a, q442b, q442c⟩ := isOf hZ R439_0 R432_2
      obtain ⟨_, _, ⟨T442, L442, k442, n442⟩, -, X442, ⟨Lc442, hQ442, l442, y442, z442⟩, st442⟩ := X439.virtualBack hx (y := (⟨"java/lang/String", "charAt", "(I)C"⟩ : MethodName)) (z := (⟨"java/lang/String", "charAt", "(I)C"⟩ : MethodName)) hown (mvT hZ (hw _ (List.mem_of_getElem? (i := 162) rfl))) (mvT hZ (hw _ (List.mem_of_getElem? (i := 163) rfl))) (notFace_of_selects (args := #[]) (mvT hZ (hw _ (List.mem_of_getElem? (i := 165) rfl)))) (mvT hZ (hw _ (List.mem_of_getElem? (i := 165) rfl))) (mvT hZ (hw _ (List.mem_of_getElem? (i := 164) rfl))) (by decide) (backOf (W := 0) (rm_cha l Z a0 hw [] nr_432 (0 : Int32) tb_432 tk_432 (1 : Int32) [(.int (45 : Int32))] (45 : Int32) fx cz T432.heap n0 (Nat.le_trans Z0 (Nat.le_trans (Nat.le_trans (Nat.le_trans (Nat.le_trans (Nat.le_trans (Nat.le_refl _) R416_0.1) R419_0.1) E423.1) R429_0.1) R432_0.1)) R432_2 R432_3 R432_4 Vn437 (Sta.keepO (Sta.keepO ((Sta.keepO (Sta.keepO P0 R416_0 ns0) R419_0 ns0).ext E423) R429_0 (nsS (Exa.nostat A423) ns0)) R432_0 ns0) hz (Sta.keepO (Sta.keepO ((Sta.keepO (Sta.keepO P2 R416_0 ns0) R419_0 ns0).ext E423) R429_0 (nsS (Exa.nostat A423) ns0)) R432_0 ns0) hfx (by decide) (by decide) rfl) hZ (hw _ (List.mem_of_getElem? (i := 166) rfl)) (hw _ (List.mem_of_getElem? (i := 6) rfl)) (by decide) (by decide)) q442a q442c (g := (mkF m 165 #[iv i0, iv i1, iv i2, iv i3, iv i4, iv i5, iv (0 : Int32), iv (0 : Int32), iv (own_cr i0), iv (own_cr i1), iv (own_cr i2), iv (own_cr i3), rv vr_416, rv vr_419, rv b423, rv nr_432] [(.int (0 : Int32)), (.ref nr_432)])) rfl (by rw [hml]; rfl) (Steps.refl _) (argsL := [(.int (0 : Int32))]) (rest := []) (lenOf pd26 rfl) rfl (by show 2 * 0 + _ ≤ _; exact Nat.le_of_eq rfl) (hb hby at_165) (fun _ _ => ⟨rfl, R439_0, (by decide : 19 + 0 ≤ _), (by decide : 67 + 0 ≤ _)⟩)
      dsimp only [Pt.U, Pt.locs, Pt.cells, Pt.slots] at X442 l442 y442 z442 st442 hQ442
      subst l442 y442 z442
      obtain ⟨rfl, N442, R442_0⟩ := hQ442
      have M442 := Fr.app M439 N442
      have g443 : Goes p e below S0 (T442.setTop (mkF m 168 #[iv i0, iv i1, iv i2, iv i3, iv i4, iv i5, iv (0 : Int32), iv (0 : Int32), iv (own_cr i0), iv (own_cr i1), iv (own_cr i2), iv (own_cr i3), rv vr_416, rv vr_419, rv b423, rv nr_432] [(.int (own_chr (45 : Int32)))])) := fun t k => g441 t (st442.trans k)
      have g444 : Goes p e below S0 (T442.setTop (mkF m 220 #[iv i0, iv i1, iv i2, iv i3, iv i4, iv i5, iv (0 : Int32), iv (0 : Int32), iv (own_cr i0), iv (own_cr i1), iv (own_cr i2), iv (own_cr i3), rv vr_416, rv vr_419, rv b423, rv nr_432] [(.int (1 : Int32))])) := fun t k => g443 t (by
        refine XT.bipushV X442.here hx rfl (45 : Int32) (hb hby at_168) (by decide) ?_
        show Go p e below t T442 m 170 #[iv i0, iv i1, iv i2, iv i3, iv i4, iv i5, iv (0 : Int32), iv (0 : Int32), iv (own_cr i0), iv (own_cr i1), iv (own_cr i2), iv (own_cr i3), rv vr_416, rv vr_419, rv b423, rv nr_432] [(.int (45 : Int32)), (.int (own_chr (45 : Int32)))]
        refine XS.icmpYes X442.here hx rfl (pc0 := 170) (pc' := 175) rfl (hb hby at_170) rfl (XT.ii_eq_t (by decide)) (by decide) (by decide) ?_
        show Go p e below t T442 m 175 #[iv i0, iv i1, iv i2, iv i3, iv i4, iv i5, iv (0 : Int32), iv (0 : Int32), iv (own_cr i0), iv (own_cr i1), iv (own_cr i2), iv (own_cr i3), rv vr_416, rv vr_419, rv b423, rv nr_432] []
        refine XS.iload X442.here hx rfl (hb hby at_175) rfl ?_
        show Go p e below t T442 m 177 #[iv i0, iv i1, iv i2, iv i3, iv i4, iv i5, iv (0 : Int32), iv (0 : Int32), iv (own_cr i0), iv (own_cr i1), iv (own_cr i2), iv (own_cr i3), rv vr_416, rv vr_419, rv b423, rv nr_432] [(.int (0 : Int32))]
        refine XT.iconstV X442.here hx rfl (1 : Int32) (hb hby at_177) (by decide) ?_
        show Go p e below t T442 m 178 #[iv i0, iv i1, iv i2, iv i3, iv i4, iv i5, iv (0 : Int32), iv (0 : Int32), iv (own_cr i0), iv (own_cr i1), iv (own_cr i2), iv (own_cr i3), rv vr_416, rv vr_419, rv b423, rv nr_432] [(.int (1 : Int32)), (.int (0 : Int32))]
        refine XS.icmpYes X442.here hx rfl (pc0 := 178) (pc' := 197) rfl (hb hby at_178) rfl (XT.ii_lt_t (by decide)) (by decide) (by decide) ?_
        show Go p e below t T442 m 197 #[iv i0, iv i1, iv i2, iv i3, iv i4, iv i5, iv (0 : Int32), iv (0 : Int32), iv (own_cr i0), iv (own_cr i1), iv (own_cr i2), iv (own_cr i3), rv vr_416, rv vr_419, rv b423, rv nr_432] []
        refine XS.iload X442.here hx rfl (hb hby at_197) rfl ?_
        show Go p e below t T442 m 199 #[iv i0, iv i1, iv i2, iv i3, iv i4, iv i5, iv (0 : Int32), iv (0 : Int32), iv (own_cr i0), iv (own_cr i1), iv (own_cr i2), iv (own_cr i3), rv vr_416, rv vr_419, rv b423, rv nr_432] [(.int (0 : Int32))]
        refine XT.iconstV X442.here hx rfl (2 : Int32) (hb hby at_199) (by decide) ?_
        show Go p e below t T442 m 200 #[iv i0, iv i1, iv i2, iv i3, iv i4, iv i5, iv (0 : Int32), iv (0 : Int32), iv (own_cr i0), iv (own_cr i1), iv (own_cr i2), iv (own_cr i3), rv vr_416, rv vr_419, rv b423, rv nr_432] [(.int (2 : Int32)), (.int (0 : Int32))]
        refine XS.icmpYes X442.here hx rfl (pc0 := 200) (pc' := 219) rfl (hb hby at_200) rfl (XT.ii_lt_t (by decide)) (by decide) (by decide) ?_
        show Go p e below t T442 m 219 #[iv i0, iv i1, iv i2, iv i3, iv i4, iv i5, iv (0 : Int32), iv (0 : Int32), iv (own_cr i0), iv (own_cr i1), iv (own_cr i2), iv (own_cr i3), rv vr_416, rv vr_419, rv b423, rv nr_432] []
        refine XT.iconstV X442.here hx rfl (1 : Int32) (hb hby at_219) (by decide) ?_
        show Go p e below t T442 m 220 #[iv i0, iv i1, iv i2, iv i3, iv i4, iv i5, iv (0 : Int32), iv (0 : Int32), iv (own_cr i0), iv (own_cr i1), iv (own_cr i2), iv (own_cr i3), rv vr_416, rv vr_419, rv b423, rv nr_432] [(.int (1 : Int32))]
        exact k)
      obtain ⟨fs, hr, hrun, hended, hE1, hE2, hE3, hE4⟩ := Stand.leaveW (s := s) (vm₁ := T432.vm) X442 so432 (by rw [R442_0]; exact (Nat.le_refl _)) (v := some (.int (1 : Int32))) (fun h => by rw [Bd.returns] at h; cases h)
      refine ⟨_, _, g444 _ (retN X442 hx (t := .boolean) Bd.returns (by simp) (hb hby at_220) hr), hrun, hended, _, _, rfl, ?_, hE1, hE2, hE3, hE4.mono (by decide) (by decide)⟩
      show Q_law Z i0 i1 i2 i3 i4 i5 cz fx h0 n0 _ T442.heap _
      rw [R442_0]
      exact ⟨rfl, M442⟩
    · skip
      have g445 : Goes p e below S0 (s₁.setTop (mkF m 56 #[iv i0, iv i1, iv i2, iv i3, iv i4, iv i5, iv (0 : Int32), iv (1 : Int32), iv (own_cr i0), iv (own_cr i1), iv (own_cr i2), iv (own_cr i3), .unset, .unset, .unset, .unset] [(.int (own_cr i1)), (.int (own_cr i0)), (.int (0 : Int32))])) := fun t k => g414 t (by
        refine XS.iload X0.here hx rfl (hb hby at_50) rfl ?_
        show Go p e below t s₁ m 52 #[iv i0, iv i1, iv i2, iv i3, iv i4, iv i5, iv (0 : Int32), iv (1 : Int32), iv (own_cr i0), iv (own_cr i1), iv (own_cr i2), iv (own_cr i3), .unset, .unset, .unset, .unset] [(.int (0 : Int32))]
        refine XS.iload X0.here hx rfl (hb hby at_52) rfl ?_
        show Go p e below t s₁ m 54 #[iv i0, iv i1, iv i2, iv i3, iv i4, iv i5, iv (0 : Int32), iv (1 : Int32), iv (own_cr i0), iv (own_cr i1), iv (own_cr i2), iv (own_cr i3), .unset, .unset, .unset, .unset] [(.int (own_cr i0)), (.int (0 : Int32))]
        refine XS.iload X0.here hx rfl (hb hby at_54) rfl ?_
        show Go p e below t s₁ m 56 #[iv i0, iv i1, iv i2, iv i3, iv i4, iv i5, iv (0 : Int32), iv (1 : Int32), iv (own_cr i0), iv (own_cr i1), iv (own_cr i2), iv (own_cr i3), .unset, .unset, .unset, .unset] [(.int (own_cr i1)), (.int (own_cr i0)), (.int (0 : Int32))]
        exact k)
      obtain ⟨_, _, ⟨T446, L446, k446, n446⟩, -, X446, sn446, gr446, ⟨Lc446, hQ446, l446, y446, z446, cr446⟩, st446⟩ := callSS X0 hx (y := (⟨"com/example/forager/forager/RoadNamePinLaw", "mk", "(ICC)Ljava/lang/String;"⟩ : MethodName)) hown (mvT hZ (hw _ (List.mem_of_getElem? (i := 0) rfl))) (mvT hZ (hw _ (List.mem_of_getElem? (i := 1) rfl))) (mvT hZ (hw _ (List.mem_of_getElem? (i := 2) rfl))) (mvT hZ (hw _ (List.mem_of_getElem? (i := 3) rfl))) (by decide) (own_backH (s := s) (vm0 := s.vm) (W := 0) (rm_mk0 l Z a0 hw [] (0 : Int32) (own_cr i0) (own_cr i1)  h0 n0 Z0 rfl) hZ (hw _ (List.mem_of_getElem? (i := 3) rfl)) (hw _ (List.mem_of_getElem? (i := 2) rfl)) (by decide) (by decide) hEL ch0.1 all0) (g := (mkF m 56 #[iv i0, iv i1, iv i2, iv i3, iv i4, iv i5, iv (0 : Int32), iv (1 : Int32), iv (own_cr i0), iv (own_cr i1), iv (own_cr i2), iv (own_cr i3), .unset, .unset, .unset, .unset] [(.int (own_cr i1)), (.int (own_cr i0)), (.int (0 : Int32))])) rfl (by rw [hml]; rfl) (argsL := [(.int (0 : Int32)), (.int (own_cr i0)), (.int (own_cr i1))]) (rest := []) (lenOf pd7 rfl) rfl (by show 2 * 0 + _ ≤ _; exact Nat.le_of_eq rfl) (hb hby at_56) (fun _ _ => ⟨rfl, e0, (by decide : 0 + 6 ≤ _), (by decide : 0 + 12 ≤ _)⟩)
      dsimp only [Pt.U, Pt.locs, Pt.cells, Pt.slots] at X446 sn446 gr446 l446 y446 z446 cr446 st446 hQ446
      subst l446 y446 z446
      obtain ⟨Y446, so446, hZ, hown⟩ := rebS (s := s) (vm0 := s.vm) ((State.WarmedH.refl s).since 0) (by rw [e0]; exact (Nat.zero_le _)) X446 sn446 gr446 hZ hown
      obtain ⟨vr_446, tb_446, tk_446, rfl, N446, R446_0, R446_1, R446_2, R446_3, R446_4, R446_5⟩ := hQ446
      have M446 := Fr.app N0 N446
      have sz446_1 : h0.size ≤ vr_446 := Nat.le_trans (Nat.le_refl _) R446_1
      have ng446_1 : n0 ≤ vr_446 := Nat.le_trans Z0 sz446_1
      have g447 : Goes p e below S0 (T446.setTop (mkF m 59 #[iv i0, iv i1, iv i2, iv i3, iv i4, iv i5, iv (0 : Int32), iv (1 : Int32), iv (own_cr i0), iv (own_cr i1), iv (own_cr i2), iv (own_cr i3), .unset, .unset, .unset, .unset] [(.ref vr_446)])) := fun t k => g445 t (st446.trans k)
      have g448 : Goes p e below S0 (T446.setTop (mkF m 67 #[iv i0, iv i1, iv i2, iv i3, iv i4, iv i5, iv (0 : Int32), iv (1 : Int32), iv (own_cr i0), iv (own_cr i1), iv (own_cr i2), iv (own_cr i3), rv vr_446, .unset, .unset, .unset] [(.int (own_cr i3)), (.int (own_cr i2)), (.int (1 : Int32))])) := fun t k => g447 t (by
        refine XS.astore Y446.here hx rfl (hb hby at_59) rfl rfl (l' := #[iv i0, iv i1, iv i2, iv i3, iv i4, iv i5, iv (0 : Int32), iv (1 : Int32), iv (own_cr i0), iv (own_cr i1), iv (own_cr i2), iv (own_cr i3), rv vr_446, .unset, .unset, .unset]) rfl ?_
        show Go p e below t T446 m 61 #[iv i0, iv i1, iv i2, iv i3, iv i4, iv i5, iv (0 : Int32), iv (1 : Int32), iv (own_cr i0), iv (own_cr i1), iv (own_cr i2), iv (own_cr i3), rv vr_446, .unset, .unset, .unset] []
        refine XS.iload Y446.here hx rfl (hb hby at_61) rfl ?_
        show Go p e below t T446 m 63 #[iv i0, iv i1, iv i2, iv i3, iv i4, iv i5, iv (0 : Int32), iv (1 : Int32), iv (own_cr i0), iv (own_cr i1), iv (own_cr i2), iv (own_cr i3), rv vr_446, .unset, .unset, .unset] [(.int (1 : Int32))]
        refine XS.iload Y446.here hx rfl (hb hby at_63) rfl ?_
        show Go p e below t T446 m 65 #[iv i0, iv i1, iv i2, iv i3, iv i4, iv i5, iv (0 : Int32), iv (1 : Int32), iv (own_cr i0), iv (own_cr i1), iv (own_cr i2), iv (own_cr i3), rv vr_446, .unset, .unset, .unset] [(.int (own_cr i2)), (.int (1 : Int32))]
        refine XS.iload Y446.here hx rfl (hb hby at_65) rfl ?_
        show Go p e below t T446 m 67 #[iv i0, iv i1, iv i2, iv i3, iv i4, iv i5, iv (0 : Int32), iv (1 : Int32), iv (own_cr i0), iv (own_cr i1), iv (own_cr i2), iv (own_cr i3), rv vr_446, .unset, .unset, .unset] [(.int (own_cr i3)), (.int (own_cr i2)), (.int (1 : Int32))]
        exact k)
      obtain ⟨_, _, ⟨T449, L449, k449, n449⟩, -, X449, ⟨Lc449, hQ449, l449, y449, z449⟩, st449⟩ := Jvm.LawKit.callS Y446 hx (y := (⟨"com/example/forager/forager/RoadNamePinLaw", "mk", "(ICC)Ljava/lang/String;"⟩ : MethodName)) hown (mvT hZ (hw _ (List.mem_of_getElem? (i := 0) rfl))) (mvT hZ (hw _ (List.mem_of_getElem? (i := 1) rfl))) (mvT hZ (hw _ (List.mem_of_getElem? (i := 2) rfl))) (mvT hZ (hw _ (List.mem_of_getElem? (i := 3) rfl))) (by decide) (backOf (W := 0) (rm_mk1 l Z a0 hw [] (1 : Int32) (own_cr i2) (own_cr i3) cz T446.heap n0 (Nat.le_trans Z0 (Nat.le_trans (Nat.le_refl _) R446_0.1)) (Sta.keepO P0 R446_0 ns0) hz rfl (own_ch _)) hZ (hw _ (List.mem_of_getElem? (i := 3) rfl)) (hw _ (List.mem_of_getElem? (i := 2) rfl)) (by decide) (by decide)) (g := (mkF m 67 #[iv i0, iv i1, iv i2, iv i3, iv i4, iv i5, iv (0 : Int32), iv (1 : Int32), iv (own_cr i0), iv (own_cr i1), iv (own_cr i2), iv (own_cr i3), rv vr_446, .unset, .unset, .unset] [(.int (own_cr i3)), (.int (own_cr i2)), (.int (1 : Int32))])) rfl (by rw [hml]; rfl) (argsL := [(.int (1 : Int32)), (.int (own_cr i2)), (.int (own_cr i3))]) (rest := []) (lenOf pd7 rfl) rfl (by show 2 * 0 + _ ≤ _; exact Nat.le_of_eq rfl) (hb hby at_67) (fun _ _ => ⟨rfl, rfl, (by decide : 6 + 3 ≤ _), (by decide : 12 + 6 ≤ _)⟩)
      dsimp only [Pt.U, Pt.locs, Pt.cells, Pt.slots] at X449 l449 y449 z449 st449 hQ449
      subst l449 y449 z449
      obtain ⟨vr_449, tb_449, tk_449, rfl, N449, R449_0, R449_1, R449_2, R449_3, R449_4, R449_5⟩ := hQ449
      have M449 := Fr.app M446 N449
      have sz449_1 : h0.size ≤ vr_449 := Nat.le_trans (Nat.le_trans (Nat.le_refl _) R446_0.1) R449_1
      have ng449_1 : n0 ≤ vr_449 := Nat.le_trans Z0 sz449_1
      have g450 : Goes p e below S0 (T449.setTop (mkF m 70 #[iv i0, iv i1, iv i2, iv i3, iv i4, iv i5, iv (0 : Int32), iv (1 : Int32), iv (own_cr i0), iv (own_cr i1), iv (own_cr i2), iv (own_cr i3), rv vr_446, .unset, .unset, .unset] [(.ref vr_449)])) := fun t k => g448 t (st449 t k)
      have g451 : Goes p e below S0 (T449.setTop (mkF m 72 #[iv i0, iv i1, iv i2, iv i3, iv i4, iv i5, iv (0 : Int32), iv (1 : Int32), iv (own_cr i0), iv (own_cr i1), iv (own_cr i2), iv (own_cr i3), rv vr_446, rv vr_449, .unset, .unset] [])) := fun t k => g450 t (by
        refine XS.astore X449.here hx rfl (hb hby at_70) rfl rfl (l' := #[iv i0, iv i1, iv i2, iv i3, iv i4, iv i5, iv (0 : Int32), iv (1 : Int32), iv (own_cr i0), iv (own_cr i1), iv (own_cr i2), iv (own_cr i3), rv vr_446, rv vr_449, .unset, .unset]) rfl ?_
        show Go p e below t T449 m 72 #[iv i0, iv i1, iv i2, iv i3, iv i4, iv i5, iv (0 : Int32), iv (1 : Int32), iv (own_cr i0), iv (own_cr i1), iv (own_cr i2), iv (own_cr i3), rv vr_446, rv vr_449, .unset, .unset] []
        exact k)
      obtain ⟨T452, h452, X452, e452, E452, A452, D452, -, st452⟩ := newO X449 hx hZ hown (hw _ (List.mem_of_getElem? (i := 26) rfl)) (hw _ (List.mem_of_getElem? (i := 27) rfl)) (hw _ (List.mem_of_getElem? (i := 28) rfl)) rfl (g := (mkF m 72 #[iv i0, iv i1, iv i2, iv i3, iv i4, iv i5, iv (0 : Int32), iv (1 : Int32), iv (own_cr i0), iv (own_cr i1), iv (own_cr i2), iv (own_cr i3), rv vr_446, rv vr_449, .unset, .unset] [])) rfl (hb hby at_72) (by decide) (by decide)
      obtain ⟨b452, gb452⟩ : ∃ z, z = T449.heap.size := ⟨_, rfl⟩
      have sz452 : h0.size ≤ b452 := Nat.le_trans (Nat.le_trans (Nat.le_trans (Nat.le_refl _) R446_0.1) R449_0.1) (Nat.le_of_eq gb452.symm)
      have ng452 : n0 ≤ b452 := Nat.le_trans Z0 sz452
      rw [← gb452] at A452 D452 st452
      have F452_453 : Fld Z h452 b452 "com/example/forager/forager/Road" "from" "Ljava/lang/String;" .null := D452 (Or.inr (hw _ (List.mem_of_getElem? (i := 39) rfl))) (ty := (.object "java/lang/String")) (by decide)
      have F452_454 : Fld Z h452 b452 "com/example/forager/forager/Road" "to" "Ljava/lang/String;" .null := D452 (Or.inr (hw _ (List.mem_of_getElem? (i := 41) rfl))) (ty := (.object "java/lang/String")) (by decide)
      have F452_455 : Fld Z h452 b452 "com/example/forager/forager/Road" "length" "D" (.double (0 : UInt64)) := D452 (Or.inr (hw _ (List.mem_of_getElem? (i := 43) rfl))) (ty := .double) (by decide)
      have g456 : Goes p e below S0 (T452.setTop (mkF m 75 #[iv i0, iv i1, iv i2, iv i3, iv i4, iv i5, iv (0 : Int32), iv (1 : Int32), iv (own_cr i0), iv (own_cr i1), iv (own_cr i2), iv (own_cr i3), rv vr_446, rv vr_449, .unset, .unset] [(.ref b452)])) := fun t k => g451 t (st452 t k)
      have g457 : Goes p e below S0 (T452.setTop (mkF m 87 #[iv i0, iv i1, iv i2, iv i3, iv i4, iv i5, iv (0 : Int32), iv (1 : Int32), iv (own_cr i0), iv (own_cr i1), iv (own_cr i2), iv (own_cr i3), rv vr_446, rv vr_449, .unset, .unset] [(.double (FP.i2d (i5 &&& (1023 : Int32)))), (.ref vr_449), (.ref vr_446), (.ref b452), (.ref b452)])) := fun t k => g456 t (by
        refine XS.dup X452.here hx rfl (hb hby at_75) rfl rfl ?_
        show Go p e below t T452 m 76 #[iv i0, iv i1, iv i2, iv i3, iv i4, iv i5, iv (0 : Int32), iv (1 : Int32), iv (own_cr i0), iv (own_cr i1), iv (own_cr i2), iv (own_cr i3), rv vr_446, rv vr_449, .unset, .unset] [(.ref b452), (.ref b452)]
        refine XS.aload X452.here hx rfl (hb hby at_76) rfl rfl ?_
        show Go p e below t T452 m 78 #[iv i0, iv i1, iv i2, iv i3, iv i4, iv i5, iv (0 : Int32), iv (1 : Int32), iv (own_cr i0), iv (own_cr i1), iv (own_cr i2), iv (own_cr i3), rv vr_446, rv vr_449, .unset, .unset] [(.ref vr_446), (.ref b452), (.ref b452)]
        refine XS.aload X452.here hx rfl (hb hby at_78) rfl rfl ?_
        show Go p e below t T452 m 80 #[iv i0, iv i1, iv i2, iv i3, iv i4, iv i5, iv (0 : Int32), iv (1 : Int32), iv (own_cr i0), iv (own_cr i1), iv (own_cr i2), iv (own_cr i3), rv vr_446, rv vr_449, .unset, .unset] [(.ref vr_449), (.ref vr_446), (.ref b452), (.ref b452)]
        refine XS.iload X452.here hx rfl (hb hby at_80) rfl ?_
        show Go p e below t T452 m 82 #[iv i0, iv i1, iv i2, iv i3, iv i4, iv i5, iv (0 : Int32), iv (1 : Int32), iv (own_cr i0), iv (own_cr i1), iv (own_cr i2), iv (own_cr i3), rv vr_446, rv vr_449, .unset, .unset] [(.int i5), (.ref vr_449), (.ref vr_446), (.ref b452), (.ref b452)]
        refine XT.sipushV X452.here hx rfl (1023 : Int32) (hb hby at_82) (by decide) ?_
        show Go p e below t T452 m 85 #[iv i0, iv i1, iv i2, iv i3, iv i4, iv i5, iv (0 : Int32), iv (1 : Int32), iv (own_cr i0), iv (own_cr i1), iv (own_cr i2), iv (own_cr i3), rv vr_446, rv vr_449, .unset, .unset] [(.int (1023 : Int32)), (.int i5), (.ref vr_449), (.ref vr_446), (.ref b452), (.ref b452)]
        refine XS.iand X452.here hx rfl (hb hby at_85) rfl ?_
        show Go p e below t T452 m 86 #[iv i0, iv i1, iv i2, iv i3, iv i4, iv i5, iv (0 : Int32), iv (1 : Int32), iv (own_cr i0), iv (own_cr i1), iv (own_cr i2), iv (own_cr i3), rv vr_446, rv vr_449, .unset, .unset] [(.int (i5 &&& (1023 : Int32))), (.ref vr_449), (.ref vr_446), (.ref b452), (.ref b452)]
        refine XS.i2dS X452.here hx rfl (hb hby at_86) rfl rfl ?_
        show Go p e below t T452 m 87 #[iv i0, iv i1, iv i2, iv i3, iv i4, iv i5, iv (0 : Int32), iv (1 : Int32), iv (own_cr i0), iv (own_cr i1), iv (own_cr i2), iv (own_cr i3), rv vr_446, rv vr_449, .unset, .unset] [(.double (FP.i2d (i5 &&& (1023 : Int32)))), (.ref vr_449), (.ref vr_446), (.ref b452), (.ref b452)]
        exact k)
      obtain ⟨_, _, ⟨T458, L458, k458, n458⟩, -, X458, ⟨Lc458, hQ458, l458, y458, z458⟩, st458⟩ := X452.specialBack hx (y := (⟨"com/example/forager/forager/Road", "<init>", "(Ljava/lang/String;Ljava/lang/String;D)V"⟩ : MethodName)) rfl hown (mvT hZ (hw _ (List.mem_of_getElem? (i := 29) rfl))) (mvT hZ (hw _ (List.mem_of_getElem? (i := 30) rfl))) (mvT hZ (hw _ (List.mem_of_getElem? (i := 31) rfl))) (by decide) (backOf (W := 1) (rm_ri l Z a0 hw [] b452 vr_446 vr_449 (FP.i2d (i5 &&& (1023 : Int32)))  h452 n0 (Nat.le_trans Z0 (Nat.le_trans (Nat.le_trans (Nat.le_trans (Nat.le_refl _) R446_0.1) R449_0.1) E452.1)) A452 F452_453 F452_454 F452_455 ng452) hZ (hw _ (List.mem_of_getElem? (i := 31) rfl)) (hw _ (List.mem_of_getElem? (i := 28) rfl)) (by decide) (by decide)) (g := (mkF m 87 #[iv i0, iv i1, iv i2, iv i3, iv i4, iv i5, iv (0 : Int32), iv (1 : Int32), iv (own_cr i0), iv (own_cr i1), iv (own_cr i2), iv (own_cr i3), rv vr_446, rv vr_449, .unset, .unset] [(.double (FP.i2d (i5 &&& (1023 : Int32)))), (.ref vr_449), (.ref vr_446), (.ref b452), (.ref b452)])) rfl (by rw [hml]; rfl) (Steps.refl _) (a := b452) (argsL := [(.ref vr_446), (.ref vr_449), (.double (FP.i2d (i5 &&& (1023 : Int32))))]) (rest := [(.ref b452)]) (lenOf pd9 rfl) rfl (by show 2 * 0 + _ ≤ _; exact Nat.le_of_eq rfl) (hb hby at_87) (fun _ _ => ⟨rfl, e452, (by decide : 10 + 0 ≤ _), (by decide : 21 + 0 ≤ _)⟩)
      dsimp only [Pt.U, Pt.locs, Pt.cells, Pt.slots] at X458 l458 y458 z458 st458 hQ458
      subst l458 y458 z458
      obtain ⟨rfl, N458, R458_0, R458_1, R458_2, R458_3⟩ := hQ458
      have M458 := Fr.app M449 N458
      have g459 : Goes p e below S0 (T458.setTop (mkF m 90 #[iv i0, iv i1, iv i2, iv i3, iv i4, iv i5, iv (0 : Int32), iv (1 : Int32), iv (own_cr i0), iv (own_cr i1), iv (own_cr i2), iv (own_cr i3), rv vr_446, rv vr_449, .unset, .unset] [(.ref b452)])) := fun t k => g457 t (st458.trans k)
      have g460 : Goes p e below S0 (T458.setTop (mkF m 94 #[iv i0, iv i1, iv i2, iv i3, iv i4, iv i5, iv (0 : Int32), iv (1 : Int32), iv (own_cr i0), iv (own_cr i1), iv (own_cr i2), iv (own_cr i3), rv vr_446, rv vr_449, rv b452, .unset] [(.ref b452)])) := fun t k => g459 t (by
        refine XS.astore X458.here hx rfl (hb hby at_90) rfl rfl (l' := #[iv i0, iv i1, iv i2, iv i3, iv i4, iv i5, iv (0 : Int32), iv (1 : Int32), iv (own_cr i0), iv (own_cr i1), iv (own_cr i2), iv (own_cr i3), rv vr_446, rv vr_449, rv b452, .unset]) rfl ?_
        show Go p e below t T458 m 92 #[iv i0, iv i1, iv i2, iv i3, iv i4, iv i5, iv (0 : Int32), iv (1 : Int32), iv (own_cr i0), iv (own_cr i1), iv (own_cr i2), iv (own_cr i3), rv vr_446, rv vr_449, rv b452, .unset] []
        refine XS.aload X458.here hx rfl (hb hby at_92) rfl rfl ?_
        show Go p e below t T458 m 94 #[iv i0, iv i1, iv i2, iv i3, iv i4, iv i5, iv (0 : Int32), iv (1 : Int32), iv (own_cr i0), iv (own_cr i1), iv (own_cr i2), iv (own_cr i3), rv vr_446, rv vr_449, rv b452, .unset] [(.ref b452)]
        exact k)
      obtain ⟨cq461, kq461, q461a, q461b, q461c⟩ := isOf hZ rfl R458_1
      have ch462 := ch0.trans cr446
      have hs463 : ∀ x ∈ ([] : List Addr), Safe Z consts_1 T446.vm T446.heap x := sf0
      have ch463 := ch462.trans (CHr.keep R449_0 hs463 ch462.1)
      have ch464 := ch463.trans (CHr.ext E452 ch463.1)
      have hs465 : ∀ x ∈ ([b452] : List Addr), Safe Z consts_1 T446.vm h452 x := (sfS (Safe.exa hZ.alike A452 (by decide) (by decide)) sf0)
      have ch465 := ch464.trans (CHr.keep R458_0 hs465 ch464.1)
      obtain ⟨_, _, ⟨T461, L461, k461, n461⟩, -, X461, sn461, gr461, ⟨Lc461, hQ461, l461, y461, z461, cr461⟩, st461⟩ := X458.virtualBackS hx (y := (⟨"com/example/forager/forager/Road", "name", "()Ljava/lang/String;"⟩ : MethodName)) (z := (⟨"com/example/forager/forager/Road", "name", "()Ljava/lang/String;"⟩ : MethodName)) hown (mvT hZ (hw _ (List.mem_of_getElem? (i := 44) rfl))) (mvT hZ (hw _ (List.mem_of_getElem? (i := 45) rfl))) (notFace_of_selects (args := #[]) (mvT hZ (hw _ (List.mem_of_getElem? (i := 47) rfl)))) (mvT hZ (hw _ (List.mem_of_getElem? (i := 47) rfl))) (mvT hZ (hw _ (List.mem_of_getElem? (i := 46) rfl))) (by decide) (own_backH (s := s) (vm0 := T446.vm) (W := 0) (rm_nam l Z a0 hw [] b452 vr_446 vr_449 tb_446 tk_446 (0 : Int32) [] tb_449 tk_449 (1 : Int32) [(.int (((nar .char (own_cr i2)).toInt8.toInt32).toInt8.toInt32))] cz T458.heap n0 (Nat.le_trans Z0 (Nat.le_trans (Nat.le_trans (Nat.le_trans (Nat.le_trans (Nat.le_refl _) R446_0.1) R449_0.1) E452.1) R458_0.1)) R458_2 R458_3 (((R446_2.keep R449_0).ext E452).keep R458_0) (((R446_3.keep R449_0 nin0).ext E452).keep R458_0 (ninS (Nat.ne_of_lt (Nat.lt_of_lt_of_le (R446_2.keep R449_0).lt (Nat.le_of_eq gb452.symm))) nin0)) (((R446_4.keep R449_0 nin0).ext E452).keep R458_0 (ninS (Nat.ne_of_lt (Nat.lt_of_lt_of_le (R446_2.keep R449_0).lt (Nat.le_of_eq gb452.symm))) nin0)) (((R446_5.keep R449_0 nin0).ext E452).keep R458_0 (ninS (Nat.ne_of_lt (Nat.lt_of_lt_of_le (R446_5.keep R449_0 nin0).lt (Nat.le_of_eq gb452.symm))) nin0)) ((R449_2.ext E452).keep R458_0) ((R449_3.ext E452).keep R458_0 (ninS (Nat.ne_of_lt (Nat.lt_of_lt_of_le R449_2.lt (Nat.le_of_eq gb452.symm))) nin0)) ((R449_4.ext E452).keep R458_0 (ninS (Nat.ne_of_lt (Nat.lt_of_lt_of_le R449_2.lt (Nat.le_of_eq gb452.symm))) nin0)) ((R449_5.ext E452).keep R458_0 (ninS (Nat.ne_of_lt (Nat.lt_of_lt_of_le R449_5.lt (Nat.le_of_eq gb452.symm))) nin0)) (Sta.keepO ((Sta.keepO (Sta.keepO P0 R446_0 ns0) R449_0 ns0).ext E452) R458_0 (nsS (Exa.nostat A452) ns0)) hz ⟨by decide, rfl⟩ ⟨by decide, rfl⟩) hZ (hw _ (List.mem_of_getElem? (i := 48) rfl)) (hw _ (List.mem_of_getElem? (i := 28) rfl)) (by decide) (by decide) hEL ch465.1 all0) q461a q461c (g := (mkF m 94 #[iv i0, iv i1, iv i2, iv i3, iv i4, iv i5, iv (0 : Int32), iv (1 : Int32), iv (own_cr i0), iv (own_cr i1), iv (own_cr i2), iv (own_cr i3), rv vr_446, rv vr_449, rv b452, .unset] [(.ref b452)])) rfl (by rw [hml]; rfl) (Steps.refl _) (argsL := []) (rest := []) (lenOf pd23 rfl) rfl (by show 2 * 0 + _ ≤ _; exact Nat.le_of_eq rfl) (hb hby at_94) (fun _ _ => ⟨rfl, rfl, (by decide : 10 + 6 ≤ _), (by decide : 21 + 40 ≤ _)⟩)
      dsimp only [Pt.U, Pt.locs, Pt.cells, Pt.slots] at X461 sn461 gr461 l461 y461 z461 cr461 st461 hQ461
      subst l461 y461 z461
      obtain ⟨Y461, so461, hZ, hown⟩ := rebS (s := s) (vm0 := T446.vm) so446 (Nat.le_trans (Nat.le_trans (Nat.le_trans (Nat.le_refl _) R449_0.1) E452.1) R458_0.1) X461 sn461 gr461 hZ hown
      obtain ⟨nr_461, tb_461, tk_461, rfl, N461, R461_0, R461_1, R461_2, R461_3, R461_4, R461_5⟩ := hQ461
      have M461 := Fr.app M458 N461
      have sz461_1 : h0.size ≤ nr_461 := Nat.le_trans (Nat.le_trans (Nat.le_trans (Nat.le_trans (Nat.le_trans (Nat.le_refl _) R446_0.1) R449_0.1) E452.1) R458_0.1) R461_1
      have ng461_1 : n0 ≤ nr_461 := Nat.le_trans Z0 sz461_1
      have g466 : Goes p e below S0 (T461.setTop (mkF m 97 #[iv i0, iv i1, iv i2, iv i3, iv i4, iv i5, iv (0 : Int32), iv (1 : Int32), iv (own_cr i0), iv (own_cr i1), iv (own_cr i2), iv (own_cr i3), rv vr_446, rv vr_449, rv b452, .unset] [(.ref nr_461)])) := fun t k => g460 t (st461.trans k)
      have Vn467 : Arv Z T461.heap tb_461 tk_461 .byte (2 : Int32) [(.int (45 : Int32)), (.int (((nar .char (own_cr i2)).toInt8.toInt32).toInt8.toInt32))] (.int (0 : Int32)) := own_nmA01 R461_5
      have g468 : Goes p e below S0 (T461.setTop (mkF m 108 #[iv i0, iv i1, iv i2, iv i3, iv i4, iv i5, iv (0 : Int32), iv (1 : Int32), iv (own_cr i0), iv (own_cr i1), iv (own_cr i2), iv (own_cr i3), rv vr_446, rv vr_449, rv b452, rv nr_461] [(.ref nr_461)])) := fun t k => g466 t (by
        refine XS.astore Y461.here hx rfl (hb hby at_97) rfl rfl (l' := #[iv i0, iv i1, iv i2, iv i3, iv i4, iv i5, iv (0 : Int32), iv (1 : Int32), iv (own_cr i0), iv (own_cr i1), iv (own_cr i2), iv (own_cr i3), rv vr_446, rv vr_449, rv b452, rv nr_461]) rfl ?_
        show Go p e below t T461 m 99 #[iv i0, iv i1, iv i2, iv i3, iv i4, iv i5, iv (0 : Int32), iv (1 : Int32), iv (own_cr i0), iv (own_cr i1), iv (own_cr i2), iv (own_cr i3), rv vr_446, rv vr_449, rv b452, rv nr_461] []
        refine XS.aload Y461.here hx rfl (hb hby at_99) rfl rfl ?_
        show Go p e below t T461 m 101 #[iv i0, iv i1, iv i2, iv i3, iv i4, iv i5, iv (0 : Int32), iv (1 : Int32), iv (own_cr i0), iv (own_cr i1), iv (own_cr i2), iv (own_cr i3), rv vr_446, rv vr_449, rv b452, rv nr_461] [(.ref nr_461)]
        refine XS.ifnonnullYes Y461.here hx rfl (pc0 := 101) (pc' := 106) rfl (hb hby at_101) rfl (by decide) (by decide) ?_
        show Go p e below t T461 m 106 #[iv i0, iv i1, iv i2, iv i3, iv i4, iv i5, iv (0 : Int32), iv (1 : Int32), iv (own_cr i0), iv (own_cr i1), iv (own_cr i2), iv (own_cr i3), rv vr_446, rv vr_449, rv b452, rv nr_461] []
        refine XS.aload Y461.here hx rfl (hb hby at_106) rfl rfl ?_
        show Go p e below t T461 m 108 #[iv i0, iv i1, iv i2, iv i3, iv i4, iv i5, iv (0 : Int32), iv (1 : Int32), iv (own_cr i0), iv (own_cr i1), iv (own_cr i2), iv (own_cr i3), rv vr_446, rv vr_449, rv b452, rv nr_461] [(.ref nr_461)]
        exact k)
      obtain ⟨cq469, kq469, q469a, q469b, q469c⟩ := isOf hZ rfl R461_2
      obtain ⟨_, _, ⟨T469, L469, k469, n469⟩, -, X469, ⟨Lc469, hQ469, l469, y469, z469⟩, st469⟩ := Y461.virtualBack hx (y := (⟨"java/lang/String", "length", "()I"⟩ : MethodName)) (z := (⟨"java/lang/String", "length", "()I"⟩ : MethodName)) hown (mvT hZ (hw _ (List.mem_of_getElem? (i := 161) rfl))) (mvT hZ (hw _ (List.mem_of_getElem? (i := 78) rfl))) (notFace_of_selects (args := #[]) (mvT hZ (hw _ (List.mem_of_getElem? (i := 80) rfl)))) (mvT hZ (hw _ (List.mem_of_getElem? (i := 80) rfl))) (mvT hZ (hw _ (List.mem_of_getElem? (i := 79) rfl))) (by decide) (backOf (W := 0) (rm_len l Z a0 hw [] nr_461 tb_461 tk_461 (2 : Int32) [(.int (45 : Int32)), (.int (((nar .char (own_cr i2)).toInt8.toInt32).toInt8.toInt32))] cz T461.heap n0 (Nat.le_trans Z0 (Nat.le_trans (Nat.le_trans (Nat.le_trans (Nat.le_trans (Nat.le_trans (Nat.le_refl _) R446_0.1) R449_0.1) E452.1) R458_0.1) R461_0.1)) R461_2 R461_3 R461_4 Vn467 (Sta.keepO (Sta.keepO ((Sta.keepO (Sta.keepO P0 R446_0 ns0) R449_0 ns0).ext E452) R458_0 (nsS (Exa.nostat A452) ns0)) R461_0 ns0) hz) hZ (hw _ (List.mem_of_getElem? (i := 81) rfl)) (hw _ (List.mem_of_getElem? (i := 6) rfl)) (by decide) (by decide)) q469a q469c (g := (mkF m 108 #[iv i0, iv i1, iv i2, iv i3, iv i4, iv i5, iv (0 : Int32), iv (1 : Int32), iv (own_cr i0), iv (own_cr i1), iv (own_cr i2), iv (own_cr i3), rv vr_446, rv vr_449, rv b452, rv nr_461] [(.ref nr_461)])) rfl (by rw [hml]; rfl) (Steps.refl _) (argsL := []) (rest := []) (lenOf pd1 rfl) rfl (by show 2 * 0 + _ ≤ _; exact Nat.le_of_eq rfl) (hb hby at_108) (fun _ _ => ⟨rfl, rfl, (by decide : 16 + 0 ≤ _), (by decide : 61 + 0 ≤ _)⟩)
      dsimp only [Pt.U, Pt.locs, Pt.cells, Pt.slots] at X469 l469 y469 z469 st469 hQ469
      subst l469 y469 z469
      obtain ⟨rfl, N469, R469_0⟩ := hQ469
      have M469 := Fr.app M461 N469
      have g470 : Goes p e below S0 (T469.setTop (mkF m 111 #[iv i0, iv i1, iv i2, iv i3, iv i4, iv i5, iv (0 : Int32), iv (1 : Int32), iv (own_cr i0), iv (own_cr i1), iv (own_cr i2), iv (own_cr i3), rv vr_446, rv vr_449, rv b452, rv nr_461] [(.int (2 : Int32))])) := fun t k => g468 t (st469.trans k)
      have g471 : Goes p e below S0 (T469.setTop (mkF m 165 #[iv i0, iv i1, iv i2, iv i3, iv i4, iv i5, iv (0 : Int32), iv (1 : Int32), iv (own_cr i0), iv (own_cr i1), iv (own_cr i2), iv (own_cr i3), rv vr_446, rv vr_449, rv b452, rv nr_461] [(.int (0 : Int32)), (.ref nr_461)])) := fun t k => g470 t (by
        refine XS.iload X469.here hx rfl (hb hby at_111) rfl ?_
        show Go p e below t T469 m 113 #[iv i0, iv i1, iv i2, iv i3, iv i4, iv i5, iv (0 : Int32), iv (1 : Int32), iv (own_cr i0), iv (own_cr i1), iv (own_cr i2), iv (own_cr i3), rv vr_446, rv vr_449, rv b452, rv nr_461] [(.int (0 : Int32)), (.int (2 : Int32))]
        refine XT.iconstV X469.here hx rfl (1 : Int32) (hb hby at_113) (by decide) ?_
        show Go p e below t T469 m 114 #[iv i0, iv i1, iv i2, iv i3, iv i4, iv i5, iv (0 : Int32), iv (1 : Int32), iv (own_cr i0), iv (own_cr i1), iv (own_cr i2), iv (own_cr i3), rv vr_446, rv vr_449, rv b452, rv nr_461] [(.int (1 : Int32)), (.int (0 : Int32)), (.int (2 : Int32))]
        refine XS.iadd X469.here hx rfl (hb hby at_114) rfl ?_
        rw [show ((0 : Int32) + (1 : Int32)) = (1 : Int32) by decide]
        show Go p e below t T469 m 115 #[iv i0, iv i1, iv i2, iv i3, iv i4, iv i5, iv (0 : Int32), iv (1 : Int32), iv (own_cr i0), iv (own_cr i1), iv (own_cr i2), iv (own_cr i3), rv vr_446, rv vr_449, rv b452, rv nr_461] [(.int (1 : Int32)), (.int (2 : Int32))]
        refine XS.iload X469.here hx rfl (hb hby at_115) rfl ?_
        show Go p e below t T469 m 117 #[iv i0, iv i1, iv i2, iv i3, iv i4, iv i5, iv (0 : Int32), iv (1 : Int32), iv (own_cr i0), iv (own_cr i1), iv (own_cr i2), iv (own_cr i3), rv vr_446, rv vr_449, rv b452, rv nr_461] [(.int (1 : Int32)), (.int (1 : Int32)), (.int (2 : Int32))]
        refine XS.iadd X469.here hx rfl (hb hby at_117) rfl ?_
        rw [show ((1 : Int32) + (1 : Int32)) = (2 : Int32) by decide]
        show Go p e below t T469 m 118 #[iv i0, iv i1, iv i2, iv i3, iv i4, iv i5, iv (0 : Int32), iv (1 : Int32), iv (own_cr i0), iv (own_cr i1), iv (own_cr i2), iv (own_cr i3), rv vr_446, rv vr_449, rv b452, rv nr_461] [(.int (2 : Int32)), (.int (2 : Int32))]
        refine XS.icmpYes X469.here hx rfl (pc0 := 118) (pc' := 123) rfl (hb hby at_118) rfl (XT.ii_eq_t (by decide)) (by decide) (by decide) ?_
        show Go p e below t T469 m 123 #[iv i0, iv i1, iv i2, iv i3, iv i4, iv i5, iv (0 : Int32), iv (1 : Int32), iv (own_cr i0), iv (own_cr i1), iv (own_cr i2), iv (own_cr i3), rv vr_446, rv vr_449, rv b452, rv nr_461] []
        refine XS.iload X469.here hx rfl (hb hby at_123) rfl ?_
        show Go p e below t T469 m 125 #[iv i0, iv i1, iv i2, iv i3, iv i4, iv i5, iv (0 : Int32), iv (1 : Int32), iv (own_cr i0), iv (own_cr i1), iv (own_cr i2), iv (own_cr i3), rv vr_446, rv vr_449, rv b452, rv nr_461] [(.int (0 : Int32))]
        refine XT.iconstV X469.here hx rfl (1 : Int32) (hb hby at_125) (by decide) ?_
        show Go p e below t T469 m 126 #[iv i0, iv i1, iv i2, iv i3, iv i4, iv i5, iv (0 : Int32), iv (1 : Int32), iv (own_cr i0), iv (own_cr i1), iv (own_cr i2), iv (own_cr i3), rv vr_446, rv vr_449, rv b452, rv nr_461] [(.int (1 : Int32)), (.int (0 : Int32))]
        refine XS.icmpYes X469.here hx rfl (pc0 := 126) (pc' := 142) rfl (hb hby at_126) rfl (XT.ii_lt_t (by decide)) (by decide) (by decide) ?_
        show Go p e below t T469 m 142 #[iv i0, iv i1, iv i2, iv i3, iv i4, iv i5, iv (0 : Int32), iv (1 : Int32), iv (own_cr i0), iv (own_cr i1), iv (own_cr i2), iv (own_cr i3), rv vr_446, rv vr_449, rv b452, rv nr_461] []
        refine XS.iload X469.here hx rfl (hb hby at_142) rfl ?_
        show Go p e below t T469 m 144 #[iv i0, iv i1, iv i2, iv i3, iv i4, iv i5, iv (0 : Int32), iv (1 : Int32), iv (own_cr i0), iv (own_cr i1), iv (own_cr i2), iv (own_cr i3), rv vr_446, rv vr_449, rv b452, rv nr_461] [(.int (0 : Int32))]
        refine XT.iconstV X469.here hx rfl (2 : Int32) (hb hby at_144) (by decide) ?_
        show Go p e below t T469 m 145 #[iv i0, iv i1, iv i2, iv i3, iv i4, iv i5, iv (0 : Int32), iv (1 : Int32), iv (own_cr i0), iv (own_cr i1), iv (own_cr i2), iv (own_cr i3), rv vr_446, rv vr_449, rv b452, rv nr_461] [(.int (2 : Int32)), (.int (0 : Int32))]
        refine XS.icmpYes X469.here hx rfl (pc0 := 145) (pc' := 161) rfl (hb hby at_145) rfl (XT.ii_lt_t (by decide)) (by decide) (by decide) ?_
        show Go p e below t T469 m 161 #[iv i0, iv i1, iv i2, iv i3, iv i4, iv i5, iv (0 : Int32), iv (1 : Int32), iv (own_cr i0), iv (own_cr i1), iv (own_cr i2), iv (own_cr i3), rv vr_446, rv vr_449, rv b452, rv nr_461] []
        refine XS.aload X469.here hx rfl (hb hby at_161) rfl rfl ?_
        show Go p e below t T469 m 163 #[iv i0, iv i1, iv i2, iv i3, iv i4, iv i5, iv (0 : Int32), iv (1 : Int32), iv (own_cr i0), iv (own_cr i1), iv (own_cr i2), iv (own_cr i3), rv vr_446, rv vr_449, rv b452, rv nr_461] [(.ref nr_461)]
        refine XS.iload X469.here hx rfl (hb hby at_163) rfl ?_
        show Go p e below t T469 m 165 #[iv i0, iv i1, iv i2, iv i3, iv i4, iv i5, iv (0 : Int32), iv (1 : Int32), iv (own_cr i0), iv (own_cr i1), iv (own_cr i2), iv (own_cr i3), rv vr_446, rv vr_449, rv b452, rv nr_461] [(.int (0 : Int32)), (.ref nr_461)]
        exact k)
      obtain ⟨cq472, kq472, q472a, q472b, q472c⟩ := isOf hZ R469_0 R461_2
      obtain ⟨_, _, ⟨T472, L472, k472, n472⟩, -, X472, ⟨Lc472, hQ472, l472, y472, z472⟩, st472⟩ := X469.virtualBack hx (y := (⟨"java/lang/String", "charAt", "(I)C"⟩ : MethodName)) (z := (⟨"java/lang/String", "charAt", "(I)C"⟩ : MethodName)) hown (mvT hZ (hw _ (List.mem_of_getElem? (i := 162) rfl))) (mvT hZ (hw _ (List.mem_of_getElem? (i := 163) rfl))) (notFace_of_selects (args := #[]) (mvT hZ (hw _ (List.mem_of_getElem? (i := 165) rfl)))) (mvT hZ (hw _ (List.mem_of_getElem? (i := 165) rfl))) (mvT hZ (hw _ (List.mem_of_getElem? (i := 164) rfl))) (by decide) (backOf (W := 0) (rm_cha l Z a0 hw [] nr_461 (0 : Int32) tb_461 tk_461 (2 : Int32) [(.int (45 : Int32)), (.int (((nar .char (own_cr i2)).toInt8.toInt32).toInt8.toInt32))] (45 : Int32) fx cz T461.heap n0 (Nat.le_trans Z0 (Nat.le_trans (Nat.le_trans (Nat.le_trans (Nat.le_trans (Nat.le_trans (Nat.le_refl _) R446_0.1) R449_0.1) E452.1) R458_0.1) R461_0.1)) R461_2 R461_3 R461_4 Vn467 (Sta.keepO (Sta.keepO ((Sta.keepO (Sta.keepO P0 R446_0 ns0) R449_0 ns0).ext E452) R458_0 (nsS (Exa.nostat A452) ns0)) R461_0 ns0) hz (Sta.keepO (Sta.keepO ((Sta.keepO (Sta.keepO P2 R446_0 ns0) R449_0 ns0).ext E452) R458_0 (nsS (Exa.nostat A452) ns0)) R461_0 ns0) hfx (by decide) (by decide) rfl) hZ (hw _ (List.mem_of_getElem? (i := 166) rfl)) (hw _ (List.mem_of_getElem? (i := 6) rfl)) (by decide) (by decide)) q472a q472c (g := (mkF m 165 #[iv i0, iv i1, iv i2, iv i3, iv i4, iv i5, iv (0 : Int32), iv (1 : Int32), iv (own_cr i0), iv (own_cr i1), iv (own_cr i2), iv (own_cr i3), rv vr_446, rv vr_449, rv b452, rv nr_461] [(.int (0 : Int32)), (.ref nr_461)])) rfl (by rw [hml]; rfl) (Steps.refl _) (argsL := [(.int (0 : Int32))]) (rest := []) (lenOf pd26 rfl) rfl (by show 2 * 0 + _ ≤ _; exact Nat.le_of_eq rfl) (hb hby at_165) (fun _ _ => ⟨rfl, R469_0, (by decide : 16 + 0 ≤ _), (by decide : 61 + 0 ≤ _)⟩)
      dsimp only [Pt.U, Pt.locs, Pt.cells, Pt.slots] at X472 l472 y472 z472 st472 hQ472
      subst l472 y472 z472
      obtain ⟨rfl, N472, R472_0⟩ := hQ472
      have M472 := Fr.app M469 N472
      have g473 : Goes p e below S0 (T472.setTop (mkF m 168 #[iv i0, iv i1, iv i2, iv i3, iv i4, iv i5, iv (0 : Int32), iv (1 : Int32), iv (own_cr i0), iv (own_cr i1), iv (own_cr i2), iv (own_cr i3), rv vr_446, rv vr_449, rv b452, rv nr_461] [(.int (own_chr (45 : Int32)))])) := fun t k => g471 t (st472.trans k)
      have g474 : Goes p e below S0 (T472.setTop (mkF m 187 #[iv i0, iv i1, iv i2, iv i3, iv i4, iv i5, iv (0 : Int32), iv (1 : Int32), iv (own_cr i0), iv (own_cr i1), iv (own_cr i2), iv (own_cr i3), rv vr_446, rv vr_449, rv b452, rv nr_461] [(.int (1 : Int32)), (.ref nr_461)])) := fun t k => g473 t (by
        refine XT.bipushV X472.here hx rfl (45 : Int32) (hb hby at_168) (by decide) ?_
        show Go p e below t T472 m 170 #[iv i0, iv i1, iv i2, iv i3, iv i4, iv i5, iv (0 : Int32), iv (1 : Int32), iv (own_cr i0), iv (own_cr i1), iv (own_cr i2), iv (own_cr i3), rv vr_446, rv vr_449, rv b452, rv nr_461] [(.int (45 : Int32)), (.int (own_chr (45 : Int32)))]
        refine XS.icmpYes X472.here hx rfl (pc0 := 170) (pc' := 175) rfl (hb hby at_170) rfl (XT.ii_eq_t (by decide)) (by decide) (by decide) ?_
        show Go p e below t T472 m 175 #[iv i0, iv i1, iv i2, iv i3, iv i4, iv i5, iv (0 : Int32), iv (1 : Int32), iv (own_cr i0), iv (own_cr i1), iv (own_cr i2), iv (own_cr i3), rv vr_446, rv vr_449, rv b452, rv nr_461] []
        refine XS.iload X472.here hx rfl (hb hby at_175) rfl ?_
        show Go p e below t T472 m 177 #[iv i0, iv i1, iv i2, iv i3, iv i4, iv i5, iv (0 : Int32), iv (1 : Int32), iv (own_cr i0), iv (own_cr i1), iv (own_cr i2), iv (own_cr i3), rv vr_446, rv vr_449, rv b452, rv nr_461] [(.int (1 : Int32))]
        refine XT.iconstV X472.here hx rfl (1 : Int32) (hb hby at_177) (by decide) ?_
        show Go p e below t T472 m 178 #[iv i0, iv i1, iv i2, iv i3, iv i4, iv i5, iv (0 : Int32), iv (1 : Int32), iv (own_cr i0), iv (own_cr i1), iv (own_cr i2), iv (own_cr i3), rv vr_446, rv vr_449, rv b452, rv nr_461] [(.int (1 : Int32)), (.int (1 : Int32))]
        refine XS.icmpNo X472.here hx rfl (hb hby at_178) rfl (XT.ii_lt_f (by decide)) ?_
        show Go p e below t T472 m 181 #[iv i0, iv i1, iv i2, iv i3, iv i4, iv i5, iv (0 : Int32), iv (1 : Int32), iv (own_cr i0), iv (own_cr i1), iv (own_cr i2), iv (own_cr i3), rv vr_446, rv vr_449, rv b452, rv nr_461] []
        refine XS.aload X472.here hx rfl (hb hby at_181) rfl rfl ?_
        show Go p e below t T472 m 183 #[iv i0, iv i1, iv i2, iv i3, iv i4, iv i5, iv (0 : Int32), iv (1 : Int32), iv (own_cr i0), iv (own_cr i1), iv (own_cr i2), iv (own_cr i3), rv vr_446, rv vr_449, rv b452, rv nr_461] [(.ref nr_461)]
        refine XS.iload X472.here hx rfl (hb hby at_183) rfl ?_
        show Go p e below t T472 m 185 #[iv i0, iv i1, iv i2, iv i3, iv i4, iv i5, iv (0 : Int32), iv (1 : Int32), iv (own_cr i0), iv (own_cr i1), iv (own_cr i2), iv (own_cr i3), rv vr_446, rv vr_449, rv b452, rv nr_461] [(.int (0 : Int32)), (.ref nr_461)]
        refine XT.iconstV X472.here hx rfl (1 : Int32) (hb hby at_185) (by decide) ?_
        show Go p e below t T472 m 186 #[iv i0, iv i1, iv i2, iv i3, iv i4, iv i5, iv (0 : Int32), iv (1 : Int32), iv (own_cr i0), iv (own_cr i1), iv (own_cr i2), iv (own_cr i3), rv vr_446, rv vr_449, rv b452, rv nr_461] [(.int (1 : Int32)), (.int (0 : Int32)), (.ref nr_461)]
        refine XS.iadd X472.here hx rfl (hb hby at_186) rfl ?_
        rw [show ((0 : Int32) + (1 : Int32)) = (1 : Int32) by decide]
        show Go p e below t T472 m 187 #[iv i0, iv i1, iv i2, iv i3, iv i4, iv i5, iv (0 : Int32), iv (1 : Int32), iv (own_cr i0), iv (own_cr i1), iv (own_cr i2), iv (own_cr i3), rv vr_446, rv vr_449, rv b452, rv nr_461] [(.int (1 : Int32)), (.ref nr_461)]
        exact k)
      obtain ⟨cq475, kq475, q475a, q475b, q475c⟩ := isOf hZ R472_0 R461_2
      obtain ⟨_, _, ⟨T475, L475, k475, n475⟩, -, X475, ⟨Lc475, hQ475, l475, y475, z475⟩, st475⟩ := X472.virtualBack hx (y := (⟨"java/lang/String", "charAt", "(I)C"⟩ : MethodName)) (z := (⟨"java/lang/String", "charAt", "(I)C"⟩ : MethodName)) hown (mvT hZ (hw _ (List.mem_of_getElem? (i := 162) rfl))) (mvT hZ (hw _ (List.mem_of_getElem? (i := 163) rfl))) (notFace_of_selects (args := #[]) (mvT hZ (hw _ (List.mem_of_getElem? (i := 165) rfl)))) (mvT hZ (hw _ (List.mem_of_getElem? (i := 165) rfl))) (mvT hZ (hw _ (List.mem_of_getElem? (i := 164) rfl))) (by decide) (backOf (W := 0) (rm_cha l Z a0 hw [] nr_461 (1 : Int32) tb_461 tk_461 (2 : Int32) [(.int (45 : Int32)), (.int (((nar .char (own_cr i2)).toInt8.toInt32).toInt8.toInt32))] (((nar .char (own_cr i2)).toInt8.toInt32).toInt8.toInt32) fx cz T461.heap n0 (Nat.le_trans Z0 (Nat.le_trans (Nat.le_trans (Nat.le_trans (Nat.le_trans (Nat.le_trans (Nat.le_refl _) R446_0.1) R449_0.1) E452.1) R458_0.1) R461_0.1)) R461_2 R461_3 R461_4 Vn467 (Sta.keepO (Sta.keepO ((Sta.keepO (Sta.keepO P0 R446_0 ns0) R449_0 ns0).ext E452) R458_0 (nsS (Exa.nostat A452) ns0)) R461_0 ns0) hz (Sta.keepO (Sta.keepO ((Sta.keepO (Sta.keepO P2 R446_0 ns0) R449_0 ns0).ext E452) R458_0 (nsS (Exa.nostat A452) ns0)) R461_0 ns0) hfx (by decide) (by decide) rfl) hZ (hw _ (List.mem_of_getElem? (i := 166) rfl)) (hw _ (List.mem_of_getElem? (i := 6) rfl)) (by decide) (by decide)) q475a q475c (g := (mkF m 187 #[iv i0, iv i1, iv i2, iv i3, iv i4, iv i5, iv (0 : Int32), iv (1 : Int32), iv (own_cr i0), iv (own_cr i1), iv (own_cr i2), iv (own_cr i3), rv vr_446, rv vr_449, rv b452, rv nr_461] [(.int (1 : Int32)), (.ref nr_461)])) rfl (by rw [hml]; rfl) (Steps.refl _) (argsL := [(.int (1 : Int32))]) (rest := []) (lenOf pd26 rfl) rfl (by show 2 * 0 + _ ≤ _; exact Nat.le_of_eq rfl) (hb hby at_187) (fun _ _ => ⟨rfl, R472_0, (by decide : 16 + 0 ≤ _), (by decide : 61 + 0 ≤ _)⟩)
      dsimp only [Pt.U, Pt.locs, Pt.cells, Pt.slots] at X475 l475 y475 z475 st475 hQ475
      subst l475 y475 z475
      obtain ⟨rfl, N475, R475_0⟩ := hQ475
      have M475 := Fr.app M472 N475
      have g476 : Goes p e below S0 (T475.setTop (mkF m 190 #[iv i0, iv i1, iv i2, iv i3, iv i4, iv i5, iv (0 : Int32), iv (1 : Int32), iv (own_cr i0), iv (own_cr i1), iv (own_cr i2), iv (own_cr i3), rv vr_446, rv vr_449, rv b452, rv nr_461] [(.int (own_chr (((nar .char (own_cr i2)).toInt8.toInt32).toInt8.toInt32)))])) := fun t k => g474 t (st475.trans k)
      have g477 : Goes p e below S0 (T475.setTop (mkF m 220 #[iv i0, iv i1, iv i2, iv i3, iv i4, iv i5, iv (0 : Int32), iv (1 : Int32), iv (own_cr i0), iv (own_cr i1), iv (own_cr i2), iv (own_cr i3), rv vr_446, rv vr_449, rv b452, rv nr_461] [(.int (1 : Int32))])) := fun t k => g476 t (by
        refine XS.iload X475.here hx rfl (hb hby at_190) rfl ?_
        show Go p e below t T475 m 192 #[iv i0, iv i1, iv i2, iv i3, iv i4, iv i5, iv (0 : Int32), iv (1 : Int32), iv (own_cr i0), iv (own_cr i1), iv (own_cr i2), iv (own_cr i3), rv vr_446, rv vr_449, rv b452, rv nr_461] [(.int (own_cr i2)), (.int (own_chr (((nar .char (own_cr i2)).toInt8.toInt32).toInt8.toInt32)))]
        refine XS.icmpYes X475.here hx rfl (pc0 := 192) (pc' := 197) rfl (hb hby at_192) rfl (XT.ii_eq_t (own_rt _)) (by decide) (by decide) ?_
        show Go p e below t T475 m 197 #[iv i0, iv i1, iv i2, iv i3, iv i4, iv i5, iv (0 : Int32), iv (1 : Int32), iv (own_cr i0), iv (own_cr i1), iv (own_cr i2), iv (own_cr i3), rv vr_446, rv vr_449, rv b452, rv nr_461] []
        refine XS.iload X475.here hx rfl (hb hby at_197) rfl ?_
        show Go p e below t T475 m 199 #[iv i0, iv i1, iv i2, iv i3, iv i4, iv i5, iv (0 : Int32), iv (1 : Int32), iv (own_cr i0), iv (own_cr i1), iv (own_cr i2), iv (own_cr i3), rv vr_446, rv vr_449, rv b452, rv nr_461] [(.int (1 : Int32))]
        refine XT.iconstV X475.here hx rfl (2 : Int32) (hb hby at_199) (by decide) ?_
        show Go p e below t T475 m 200 #[iv i0, iv i1, iv i2, iv i3, iv i4, iv i5, iv (0 : Int32), iv (1 : Int32), iv (own_cr i0), iv (own_cr i1), iv (own_cr i2), iv (own_cr i3), rv vr_446, rv vr_449, rv b452, rv nr_461] [(.int (2 : Int32)), (.int (1 : Int32))]
        refine XS.icmpYes X475.here hx rfl (pc0 := 200) (pc' := 219) rfl (hb hby at_200) rfl (XT.ii_lt_t (by decide)) (by decide) (by decide) ?_
        show Go p e below t T475 m 219 #[iv i0, iv i1, iv i2, iv i3, iv i4, iv i5, iv (0 : Int32), iv (1 : Int32), iv (own_cr i0), iv (own_cr i1), iv (own_cr i2), iv (own_cr i3), rv vr_446, rv vr_449, rv b452, rv nr_461] []
        refine XT.iconstV X475.here hx rfl (1 : Int32) (hb hby at_219) (by decide) ?_
        show Go p e below t T475 m 220 #[iv i0, iv i1, iv i2, iv i3, iv i4, iv i5, iv (0 : Int32), iv (1 : Int32), iv (own_cr i0), iv (own_cr i1), iv (own_cr i2), iv (own_cr i3), rv vr_446, rv vr_449, rv b452, rv nr_461] [(.int (1 : Int32))]
        exact k)
      obtain ⟨fs, hr, hrun, hended, hE1, hE2, hE3, hE4⟩ := Stand.leaveW (s := s) (vm₁ := T461.vm) X475 so461 (by rw [R475_0]; exact (Nat.le_refl _)) (v := some (.int (1 : Int32))) (fun h => by rw [Bd.returns] at h; cases h)
      refine ⟨_, _, g477 _ (retN X475 hx (t := .boolean) Bd.returns (by simp) (hb hby at_220) hr), hrun, hended, _, _, rfl, ?_, hE1, hE2, hE3, hE4.mono (by decide) (by decide)⟩
      show Q_law Z i0 i1 i2 i3 i4 i5 cz fx h0 n0 _ T475.heap _
      rw [R475_0]
      exact ⟨rfl, M475⟩
    · skip
      have g478 : Goes p e below S0 (s₁.setTop (mkF m 56 #[iv i0, iv i1, iv i2, iv i3, iv i4, iv i5, iv (0 : Int32), iv (2 : Int32), iv (own_cr i0), iv (own_cr i1), iv (own_cr i2), iv (own_cr i3), .unset, .unset, .unset, .unset] [(.int (own_cr i1)), (.int (own_cr i0)), (.int (0 : Int32))])) := fun t k => g414 t (by
        refine XS.iload X0.here hx rfl (hb hby at_50) rfl ?_
        show Go p e below t s₁ m 52 #[iv i0, iv i1, iv i2, iv i3, iv i4, iv i5, iv (0 : Int32), iv (2 : Int32), iv (own_cr i0), iv (own_cr i1), iv (own_cr i2), iv (own_cr i3), .unset, .unset, .unset, .unset] [(.int (0 : Int32))]
        refine XS.iload X0.here hx rfl (hb hby at_52) rfl ?_
        show Go p e below t s₁ m 54 #[iv i0, iv i1, iv i2, iv i3, iv i4, iv i5, iv (0 : Int32), iv (2 : Int32), iv (own_cr i0), iv (own_cr i1), iv (own_cr i2), iv (own_cr i3), .unset, .unset, .unset, .unset] [(.int (own_cr i0)), (.int (0 : Int32))]
        refine XS.iload X0.here hx rfl (hb hby at_54) rfl ?_
        show Go p e below t s₁ m 56 #[iv i0, iv i1, iv i2, iv i3, iv i4, iv i5, iv (0 : Int32), iv (2 : Int32), iv (own_cr i0), iv (own_cr i1), iv (own_cr i2), iv (own_cr i3), .unset, .unset, .unset, .unset] [(.int (own_cr i1)), (.int (own_cr i0)), (.int (0 : Int32))]
        exact k)
      obtain ⟨_, _, ⟨T479, L479, k479, n479⟩, -, X479, sn479, gr479, ⟨Lc479, hQ479, l479, y479, z479, cr479⟩, st479⟩ := callSS X0 hx (y := (⟨"com/example/forager/forager/RoadNamePinLaw", "mk", "(ICC)Ljava/lang/String;"⟩ : MethodName)) hown (mvT hZ (hw _ (List.mem_of_getElem? (i := 0) rfl))) (mvT hZ (hw _ (List.mem_of_getElem? (i := 1) rfl))) (mvT hZ (hw _ (List.mem_of_getElem? (i := 2) rfl))) (mvT hZ (hw _ (List.mem_of_getElem? (i := 3) rfl))) (by decide) (own_backH (s := s) (vm0 := s.vm) (W := 0) (rm_mk0 l Z a0 hw [] (0 : Int32) (own_cr i0) (own_cr i1)  h0 n0 Z0 rfl) hZ (hw _ (List.mem_of_getElem? (i := 3) rfl)) (hw _ (List.mem_of_getElem? (i := 2) rfl)) (by decide) (by decide) hEL ch0.1 all0) (g := (mkF m 56 #[iv i0, iv i1, iv i2, iv i3, iv i4, iv i5, iv (0 : Int32), iv (2 : Int32), iv (own_cr i0), iv (own_cr i1), iv (own_cr i2), iv (own_cr i3), .unset, .unset, .unset, .unset] [(.int (own_cr i1)), (.int (own_cr i0)), (.int (0 : Int32))])) rfl (by rw [hml]; rfl) (argsL := [(.int (0 : Int32)), (.int (own_cr i0)), (.int (own_cr i1))]) (rest := []) (lenOf pd7 rfl) rfl (by show 2 * 0 + _ ≤ _; exact Nat.le_of_eq rfl) (hb hby at_56) (fun _ _ => ⟨rfl, e0, (by decide : 0 + 6 ≤ _), (by decide : 0 + 12 ≤ _)⟩)
      dsimp only [Pt.U, Pt.locs, Pt.cells, Pt.slots] at X479 sn479 gr479 l479 y479 z479 cr479 st479 hQ479
      subst l479 y479 z479
      obtain ⟨Y479, so479, hZ, hown⟩ := rebS (s := s) (vm0 := s.vm) ((State.WarmedH.refl s).since 0) (by rw [e0]; exact (Nat.zero_le _)) X479 sn479 gr479 hZ hown
      obtain ⟨vr_479, tb_479, tk_479, rfl, N479, R479_0, R479_1, R479_2, R479_3, R479_4, R479_5⟩ := hQ479
      have M479 := Fr.app N0 N479
      have sz479_1 : h0.size ≤ vr_479 := Nat.le_trans (Nat.le_refl _) R479_1
      have ng479_1 : n0 ≤ vr_479 := Nat.le_trans Z0 sz479_1
      have g480 : Goes p e below S0 (T479.setTop (mkF m 59 #[iv i0, iv i1, iv i2, iv i3, iv i4, iv i5, iv (0 : Int32), iv (2 : Int32), iv (own_cr i0), iv (own_cr i1), iv (own_cr i2), iv (own_cr i3), .unset, .unset, .unset, .unset] [(.ref vr_479)])) := fun t k => g478 t (st479.trans k)
      have g481 : Goes p e below S0 (T479.setTop (mkF m 67 #[iv i0, iv i1, iv i2, iv i3, iv i4, iv i5, iv (0 : Int32), iv (2 : Int32), iv (own_cr i0), iv (own_cr i1), iv (own_cr i2), iv (own_cr i3), rv vr_479, .unset, .unset, .unset] [(.int (own_cr i3)), (.int (own_cr i2)), (.int (2 : Int32))])) := fun t k => g480 t (by
        refine XS.astore Y479.here hx rfl (hb hby at_59) rfl rfl (l' := #[iv i0, iv i1, iv i2, iv i3, iv i4, iv i5, iv (0 : Int32), iv (2 : Int32), iv (own_cr i0), iv (own_cr i1), iv (own_cr i2), iv (own_cr i3), rv vr_479, .unset, .unset, .unset]) rfl ?_
        show Go p e below t T479 m 61 #[iv i0, iv i1, iv i2, iv i3, iv i4, iv i5, iv (0 : Int32), iv (2 : Int32), iv (own_cr i0), iv (own_cr i1), iv (own_cr i2), iv (own_cr i3), rv vr_479, .unset, .unset, .unset] []
        refine XS.iload Y479.here hx rfl (hb hby at_61) rfl ?_
        show Go p e below t T479 m 63 #[iv i0, iv i1, iv i2, iv i3, iv i4, iv i5, iv (0 : Int32), iv (2 : Int32), iv (own_cr i0), iv (own_cr i1), iv (own_cr i2), iv (own_cr i3), rv vr_479, .unset, .unset, .unset] [(.int (2 : Int32))]
        refine XS.iload Y479.here hx rfl (hb hby at_63) rfl ?_
        show Go p e below t T479 m 65 #[iv i0, iv i1, iv i2, iv i3, iv i4, iv i5, iv (0 : Int32), iv (2 : Int32), iv (own_cr i0), iv (own_cr i1), iv (own_cr i2), iv (own_cr i3), rv vr_479, .unset, .unset, .unset] [(.int (own_cr i2)), (.int (2 : Int32))]
        refine XS.iload Y479.here hx rfl (hb hby at_65) rfl ?_
        show Go p e below t T479 m 67 #[iv i0, iv i1, iv i2, iv i3, iv i4, iv i5, iv (0 : Int32), iv (2 : Int32), iv (own_cr i0), iv (own_cr i1), iv (own_cr i2), iv (own_cr i3), rv vr_479, .unset, .unset, .unset] [(.int (own_cr i3)), (.int (own_cr i2)), (.int (2 : Int32))]
        exact k)
      obtain ⟨_, _, ⟨T482, L482, k482, n482⟩, -, X482, ⟨Lc482, hQ482, l482, y482, z482⟩, st482⟩ := Jvm.LawKit.callS Y479 hx (y := (⟨"com/example/forager/forager/RoadNamePinLaw", "mk", "(ICC)Ljava/lang/String;"⟩ : MethodName)) hown (mvT hZ (hw _ (List.mem_of_getElem? (i := 0) rfl))) (mvT hZ (hw _ (List.mem_of_getElem? (i := 1) rfl))) (mvT hZ (hw _ (List.mem_of_getElem? (i := 2) rfl))) (mvT hZ (hw _ (List.mem_of_getElem? (i := 3) rfl))) (by decide) (backOf (W := 0) (rm_mk2 l Z a0 hw [] (2 : Int32) (own_cr i2) (own_cr i3) cz T479.heap n0 (Nat.le_trans Z0 (Nat.le_trans (Nat.le_refl _) R479_0.1)) (Sta.keepO P0 R479_0 ns0) hz rfl (own_ch _) (own_ch _)) hZ (hw _ (List.mem_of_getElem? (i := 3) rfl)) (hw _ (List.mem_of_getElem? (i := 2) rfl)) (by decide) (by decide)) (g := (mkF m 67 #[iv i0, iv i1, iv i2, iv i3, iv i4, iv i5, iv (0 : Int32), iv (2 : Int32), iv (own_cr i0), iv (own_cr i1), iv (own_cr i2), iv (own_cr i3), rv vr_479, .unset, .unset, .unset] [(.int (own_cr i3)), (.int (own_cr i2)), (.int (2 : Int32))])) rfl (by rw [hml]; rfl) (argsL := [(.int (2 : Int32)), (.int (own_cr i2)), (.int (own_cr i3))]) (rest := []) (lenOf pd7 rfl) rfl (by show 2 * 0 + _ ≤ _; exact Nat.le_of_eq rfl) (hb hby at_67) (fun _ _ => ⟨rfl, rfl, (by decide : 6 + 3 ≤ _), (by decide : 12 + 8 ≤ _)⟩)
      dsimp only [Pt.U, Pt.locs, Pt.cells, Pt.slots] at X482 l482 y482 z482 st482 hQ482
      subst l482 y482 z482
      obtain ⟨vr_482, tb_482, tk_482, rfl, N482, R482_0, R482_1, R482_2, R482_3, R482_4, R482_5⟩ := hQ482
      have M482 := Fr.app M479 N482
      have sz482_1 : h0.size ≤ vr_482 := Nat.le_trans (Nat.le_trans (Nat.le_refl _) R479_0.1) R482_1
      have ng482_1 : n0 ≤ vr_482 := Nat.le_trans Z0 sz482_1
      have g483 : Goes p e below S0 (T482.setTop (mkF m 70 #[iv i0, iv i1, iv i2, iv i3, iv i4, iv i5, iv (0 : Int32), iv (2 : Int32), iv (own_cr i0), iv (own_cr i1), iv (own_cr i2), iv (own_cr i3), rv vr_479, .unset, .unset, .unset] [(.ref vr_482)])) := fun t k => g481 t (st482 t k)
      have g484 : Goes p e below S0 (T482.setTop (mkF m 72 #[iv i0, iv i1, iv i2, iv i3, iv i4, iv i5, iv (0 : Int32), iv (2 : Int32), iv (own_cr i0), iv (own_cr i1), iv (own_cr i2), iv (own_cr i3), rv vr_479, rv vr_482, .unset, .unset] [])) := fun t k => g483 t (by
        refine XS.astore X482.here hx rfl (hb hby at_70) rfl rfl (l' := #[iv i0, iv i1, iv i2, iv i3, iv i4, iv i5, iv (0 : Int32), iv (2 : Int32), iv (own_cr i0), iv (own_cr i1), iv (own_cr i2), iv (own_cr i3), rv vr_479, rv vr_482, .unset, .unset]) rfl ?_
        show Go p e below t T482 m 72 #[iv i0, iv i1, iv i2, iv i3, iv i4, iv i5, iv (0 : Int32), iv (2 : Int32), iv (own_cr i0), iv (own_cr i1), iv (own_cr i2), iv (own_cr i3), rv vr_479, rv vr_482, .unset, .unset] []
        exact k)
      obtain ⟨T485, h485, X485, e485, E485, A485, D485, -, st485⟩ := newO X482 hx hZ hown (hw _ (List.mem_of_getElem? (i := 26) rfl)) (hw _ (List.mem_of_getElem? (i := 27) rfl)) (hw _ (List.mem_of_getElem? (i := 28) rfl)) rfl (g := (mkF m 72 #[iv i0, iv i1, iv i2, iv i3, iv i4, iv i5, iv (0 : Int32), iv (2 : Int32), iv (own_cr i0), iv (own_cr i1), iv (own_cr i2), iv (own_cr i3), rv vr_479, rv vr_482, .unset, .unset] [])) rfl (hb hby at_72) (by decide) (by decide)
      obtain ⟨b485, gb485⟩ : ∃ z, z = T482.heap.size := ⟨_, rfl⟩
      have sz485 : h0.size ≤ b485 := Nat.le_trans (Nat.le_trans (Nat.le_trans (Nat.le_refl _) R479_0.1) R482_0.1) (Nat.le_of_eq gb485.symm)
      have ng485 : n0 ≤ b485 := Nat.le_trans Z0 sz485
      rw [← gb485] at A485 D485 st485
      have F485_486 : Fld Z h485 b485 "com/example/forager/forager/Road" "from" "Ljava/lang/String;" .null := D485 (Or.inr (hw _ (List.mem_of_getElem? (i := 39) rfl))) (ty := (.object "java/lang/String")) (by decide)
      have F485_487 : Fld Z h485 b485 "com/example/forager/forager/Road" "to" "Ljava/lang/String;" .null := D485 (Or.inr (hw _ (List.mem_of_getElem? (i := 41) rfl))) (ty := (.object "java/lang/String")) (by decide)
      have F485_488 : Fld Z h485 b485 "com/example/forager/forager/Road" "length" "D" (.double (0 : UInt64)) := D485 (Or.inr (hw _ (List.mem_of_getElem? (i := 43) rfl))) (ty := .double) (by decide)
      have g489 : Goes p e below S0 (T485.setTop (mkF m 75 #[iv i0, iv i1, iv i2, iv i3, iv i4, iv i5, iv (0 : Int32), iv (2 : Int32), iv (own_cr i0), iv (own_cr i1), iv (own_cr i2), iv (own_cr i3), rv vr_479, rv vr_482, .unset, .unset] [(.ref b485)])) := fun t k => g484 t (st485 t k)
      have g490 : Goes p e below S0 (T485.setTop (mkF m 87 #[iv i0, iv i1, iv i2, iv i3, iv i4, iv i5, iv (0 : Int32), iv (2 : Int32), iv (own_cr i0), iv (own_cr i1), iv (own_cr i2), iv (own_cr i3), rv vr_479, rv vr_482, .unset, .unset] [(.double (FP.i2d (i5 &&& (1023 : Int32)))), (.ref vr_482), (.ref vr_479), (.ref b485), (.ref b485)])) := fun t k => g489 t (by
        refine XS.dup X485.here hx rfl (hb hby at_75) rfl rfl ?_
        show Go p e below t T485 m 76 #[iv i0, iv i1, iv i2, iv i3, iv i4, iv i5, iv (0 : Int32), iv (2 : Int32), iv (own_cr i0), iv (own_cr i1), iv (own_cr i2), iv (own_cr i3), rv vr_479, rv vr_482, .unset, .unset] [(.ref b485), (.ref b485)]
        refine XS.aload X485.here hx rfl (hb hby at_76) rfl rfl ?_
        show Go p e below t T485 m 78 #[iv i0, iv i1, iv i2, iv i3, iv i4, iv i5, iv (0 : Int32), iv (2 : Int32), iv (own_cr i0), iv (own_cr i1), iv (own_cr i2), iv (own_cr i3), rv vr_479, rv vr_482, .unset, .unset] [(.ref vr_479), (.ref b485), (.ref b485)]
        refine XS.aload X485.here hx rfl (hb hby at_78) rfl rfl ?_
        show Go p e below t T485 m 80 #[iv i0, iv i1, iv i2, iv i3, iv i4, iv i5, iv (0 : Int32), iv (2 : Int32), iv (own_cr i0), iv (own_cr i1), iv (own_cr i2), iv (own_cr i3), rv vr_479, rv vr_482, .unset, .unset] [(.ref vr_482), (.ref vr_479), (.ref b485), (.ref b485)]
        refine XS.iload X485.here hx rfl (hb hby at_80) rfl ?_
        show Go p e below t T485 m 82 #[iv i0, iv i1, iv i2, iv i3, iv i4, iv i5, iv (0 : Int32), iv (2 : Int32), iv (own_cr i0), iv (own_cr i1), iv (own_cr i2), iv (own_cr i3), rv vr_479, rv vr_482, .unset, .unset] [(.int i5), (.ref vr_482), (.ref vr_479), (.ref b485), (.ref b485)]
        refine XT.sipushV X485.here hx rfl (1023 : Int32) (hb hby at_82) (by decide) ?_
        show Go p e below t T485 m 85 #[iv i0, iv i1, iv i2, iv i3, iv i4, iv i5, iv (0 : Int32), iv (2 : Int32), iv (own_cr i0), iv (own_cr i1), iv (own_cr i2), iv (own_cr i3), rv vr_479, rv vr_482, .unset, .unset] [(.int (1023 : Int32)), (.int i5), (.ref vr_482), (.ref vr_479), (.ref b485), (.ref b485)]
        refine XS.iand X485.here hx rfl (hb hby at_85) rfl ?_
        show Go p e below t T485 m 86 #[iv i0, iv i1, iv i2, iv i3, iv i4, iv i5, iv (0 : Int32), iv (2 : Int32), iv (own_cr i0), iv (own_cr i1), iv (own_cr i2), iv (own_cr i3), rv vr_479, rv vr_482, .unset, .unset] [(.int (i5 &&& (1023 : Int32))), (.ref vr_482), (.ref vr_479), (.ref b485), (.ref b485)]
        refine XS.i2dS X485.here hx rfl (hb hby at_86) rfl rfl ?_
        show Go p e below t T485 m 87 #[iv i0, iv i1, iv i2, iv i3, iv i4, iv i5, iv (0 : Int32), iv (2 : Int32), iv (own_cr i0), iv (own_cr i1), iv (own_cr i2), iv (own_cr i3), rv vr_479, rv vr_482, .unset, .unset] [(.double (FP.i2d (i5 &&& (1023 : Int32)))), (.ref vr_482), (.ref vr_479), (.ref b485), (.ref b485)]
        exact k)
      obtain ⟨_, _, ⟨T491, L491, k491, n491⟩, -, X491, ⟨Lc491, hQ491, l491, y491, z491⟩, st491⟩ := X485.specialBack hx (y := (⟨"com/example/forager/forager/Road", "<init>", "(Ljava/lang/String;Ljava/lang/String;D)V"⟩ : MethodName)) rfl hown (mvT hZ (hw _ (List.mem_of_getElem? (i := 29) rfl))) (mvT hZ (hw _ (List.mem_of_getElem? (i := 30) rfl))) (mvT hZ (hw _ (List.mem_of_getElem? (i := 31) rfl))) (by decide) (backOf (W := 1) (rm_ri l Z a0 hw [] b485 vr_479 vr_482 (FP.i2d (i5 &&& (1023 : Int32)))  h485 n0 (Nat.le_trans Z0 (Nat.le_trans (Nat.le_trans (Nat.le_trans (Nat.le_refl _) R479_0.1) R482_0.1) E485.1)) A485 F485_486 F485_487 F485_488 ng485) hZ (hw _ (List.mem_of_getElem? (i := 31) rfl)) (hw _ (List.mem_of_getElem? (i := 28) rfl)) (by decide) (by decide)) (g := (mkF m 87 #[iv i0, iv i1, iv i2, iv i3, iv i4, iv i5, iv (0 : Int32), iv (2 : Int32), iv (own_cr i0), iv (own_cr i1), iv (own_cr i2), iv (own_cr i3), rv vr_479, rv vr_482, .unset, .unset] [(.double (FP.i2d (i5 &&& (1023 : Int32)))), (.ref vr_482), (.ref vr_479), (.ref b485), (.ref b485)])) rfl (by rw [hml]; rfl) (Steps.refl _) (a := b485) (argsL := [(.ref vr_479), (.ref vr_482), (.double (FP.i2d (i5 &&& (1023 : Int32))))]) (rest := [(.ref b485)]) (lenOf pd9 rfl) rfl (by show 2 * 0 + _ ≤ _; exact Nat.le_of_eq rfl) (hb hby at_87) (fun _ _ => ⟨rfl, e485, (by decide : 10 + 0 ≤ _), (by decide : 23 + 0 ≤ _)⟩)
      dsimp only [Pt.U, Pt.locs, Pt.cells, Pt.slots] at X491 l491 y491 z491 st491 hQ491
      subst l491 y491 z491
      obtain ⟨rfl, N491, R491_0, R491_1, R491_2, R491_3⟩ := hQ491
      have M491 := Fr.app M482 N491
      have g492 : Goes p e below S0 (T491.setTop (mkF m 90 #[iv i0, iv i1, iv i2, iv i3, iv i4, iv i5, iv (0 : Int32), iv (2 : Int32), iv (own_cr i0), iv (own_cr i1), iv (own_cr i2), iv (own_cr i3), rv vr_479, rv vr_482, .unset, .unset] [(.ref b485)])) := fun t k => g490 t (st491.trans k)
      have g493 : Goes p e below S0 (T491.setTop (mkF m 94 #[iv i0, iv i1, iv i2, iv i3, iv i4, iv i5, iv (0 : Int32), iv (2 : Int32), iv (own_cr i0), iv (own_cr i1), iv (own_cr i2), iv (own_cr i3), rv vr_479, rv vr_482, rv b485, .unset] [(.ref b485)])) := fun t k => g492 t (by
        refine XS.astore X491.here hx rfl (hb hby at_90) rfl rfl (l' := #[iv i0, iv i1, iv i2, iv i3, iv i4, iv i5, iv (0 : Int32), iv (2 : Int32), iv (own_cr i0), iv (own_cr i1), iv (own_cr i2), iv (own_cr i3), rv vr_479, rv vr_482, rv b485, .unset]) rfl ?_
        show Go p e below t T491 m 92 #[iv i0, iv i1, iv i2, iv i3, iv i4, iv i5, iv (0 : Int32), iv (2 : Int32), iv (own_cr i0), iv (own_cr i1), iv (own_cr i2), iv (own_cr i3), rv vr_479, rv vr_482, rv b485, .unset] []
        refine XS.aload X491.here hx rfl (hb hby at_92) rfl rfl ?_
        show Go p e below t T491 m 94 #[iv i0, iv i1, iv i2, iv i3, iv i4, iv i5, iv (0 : Int32), iv (2 : Int32), iv (own_cr i0), iv (own_cr i1), iv (own_cr i2), iv (own_cr i3), rv vr_479, rv vr_482, rv b485, .unset] [(.ref b485)]
        exact k)
      obtain ⟨cq494, kq494, q494a, q494b, q494c⟩ := isOf hZ rfl R491_1
      have ch495 := ch0.trans cr479
      have hs496 : ∀ x ∈ ([] : List Addr), Safe Z consts_1 T479.vm T479.heap x := sf0
      have ch496 := ch495.trans (CHr.keep R482_0 hs496 ch495.1)
      have ch497 := ch496.trans (CHr.ext E485 ch496.1)
      have hs498 : ∀ x ∈ ([b485] : List Addr), Safe Z consts_1 T479.vm h485 x := (sfS (Safe.exa hZ.alike A485 (by decide) (by decide)) sf0)
      have ch498 := ch497.trans (CHr.keep R491_0 hs498 ch497.1)
      obtain ⟨_, _, ⟨T494, L494, k494, n494⟩, -, X494, sn494, gr494, ⟨Lc494, hQ494, l494, y494, z494, cr494⟩, st494⟩ := X491.virtualBackS hx (y := (⟨"com/example/forager/forager/Road", "name", "()Ljava/lang/String;"⟩ : MethodName)) (z := (⟨"com/example/forager/forager/Road", "name", "()Ljava/lang/String;"⟩ : MethodName)) hown (mvT hZ (hw _ (List.mem_of_getElem? (i := 44) rfl))) (mvT hZ (hw _ (List.mem_of_getElem? (i := 45) rfl))) (notFace_of_selects (args := #[]) (mvT hZ (hw _ (List.mem_of_getElem? (i := 47) rfl)))) (mvT hZ (hw _ (List.mem_of_getElem? (i := 47) rfl))) (mvT hZ (hw _ (List.mem_of_getElem? (i := 46) rfl))) (by decide) (own_backH (s := s) (vm0 := T479.vm) (W := 0) (rm_nam l Z a0 hw [] b485 vr_479 vr_482 tb_479 tk_479 (0 : Int32) [] tb_482 tk_482 (2 : Int32) [(.int (((nar .char (own_cr i2)).toInt8.toInt32).toInt8.toInt32)), (.int (((nar .char (own_cr i3)).toInt8.toInt32).toInt8.toInt32))] cz T491.heap n0 (Nat.le_trans Z0 (Nat.le_trans (Nat.le_trans (Nat.le_trans (Nat.le_trans (Nat.le_refl _) R479_0.1) R482_0.1) E485.1) R491_0.1)) R491_2 R491_3 (((R479_2.keep R482_0).ext E485).keep R491_0) (((R479_3.keep R482_0 nin0).ext E485).keep R491_0 (ninS (Nat.ne_of_lt (Nat.lt_of_lt_of_le (R479_2.keep R482_0).lt (Nat.le_of_eq gb485.symm))) nin0)) (((R479_4.keep R482_0 nin0).ext E485).keep R491_0 (ninS (Nat.ne_of_lt (Nat.lt_of_lt_of_le (R479_2.keep R482_0).lt (Nat.le_of_eq gb485.symm))) nin0)) (((R479_5.keep R482_0 nin0).ext E485).keep R491_0 (ninS (Nat.ne_of_lt (Nat.lt_of_lt_of_le (R479_5.keep R482_0 nin0).lt (Nat.le_of_eq gb485.symm))) nin0)) ((R482_2.ext E485).keep R491_0) ((R482_3.ext E485).keep R491_0 (ninS (Nat.ne_of_lt (Nat.lt_of_lt_of_le R482_2.lt (Nat.le_of_eq gb485.symm))) nin0)) ((R482_4.ext E485).keep R491_0 (ninS (Nat.ne_of_lt (Nat.lt_of_lt_of_le R482_2.lt (Nat.le_of_eq gb485.symm))) nin0)) ((R482_5.ext E485).keep R491_0 (ninS (Nat.ne_of_lt (Nat.lt_of_lt_of_le R482_5.lt (Nat.le_of_eq gb485.symm))) nin0)) (Sta.keepO ((Sta.keepO (Sta.keepO P0 R479_0 ns0) R482_0 ns0).ext E485) R491_0 (nsS (Exa.nostat A485) ns0)) hz ⟨by decide, rfl⟩ ⟨by decide, rfl⟩) hZ (hw _ (List.mem_of_getElem? (i := 48) rfl)) (hw _ (List.mem_of_getElem? (i := 28) rfl)) (by decide) (by decide) hEL ch498.1 all0) q494a q494c (g := (mkF m 94 #[iv i0, iv i1, iv i2, iv i3, iv i4, iv i5, iv (0 : Int32), iv (2 : Int32), iv (own_cr i0), iv (own_cr i1), iv (own_cr i2), iv (own_cr i3), rv vr_479, rv vr_482, rv b485, .unset] [(.ref b485)])) rfl (by rw [hml]; rfl) (Steps.refl _) (argsL := []) (rest := []) (lenOf pd23 rfl) rfl (by show 2 * 0 + _ ≤ _; exact Nat.le_of_eq rfl) (hb hby at_94) (fun _ _ => ⟨rfl, rfl, (by decide : 10 + 6 ≤ _), (by decide : 23 + 40 ≤ _)⟩)
      dsimp only [Pt.U, Pt.locs, Pt.cells, Pt.slots] at X494 sn494 gr494 l494 y494 z494 cr494 st494 hQ494
      subst l494 y494 z494
      obtain ⟨Y494, so494, hZ, hown⟩ := rebS (s := s) (vm0 := T479.vm) so479 (Nat.le_trans (Nat.le_trans (Nat.le_trans (Nat.le_refl _) R482_0.1) E485.1) R491_0.1) X494 sn494 gr494 hZ hown
      obtain ⟨nr_494, tb_494, tk_494, rfl, N494, R494_0, R494_1, R494_2, R494_3, R494_4, R494_5⟩ := hQ494
      have M494 := Fr.app M491 N494
      have sz494_1 : h0.size ≤ nr_494 := Nat.le_trans (Nat.le_trans (Nat.le_trans (Nat.le_trans (Nat.le_trans (Nat.le_refl _) R479_0.1) R482_0.1) E485.1) R491_0.1) R494_1
      have ng494_1 : n0 ≤ nr_494 := Nat.le_trans Z0 sz494_1
      have g499 : Goes p e below S0 (T494.setTop (mkF m 97 #[iv i0, iv i1, iv i2, iv i3, iv i4, iv i5, iv (0 : Int32), iv (2 : Int32), iv (own_cr i0), iv (own_cr i1), iv (own_cr i2), iv (own_cr i3), rv vr_479, rv vr_482, rv b485, .unset] [(.ref nr_494)])) := fun t k => g493 t (st494.trans k)
      have Vn500 : Arv Z T494.heap tb_494 tk_494 .byte (3 : Int32) [(.int (45 : Int32)), (.int (((nar .char (own_cr i2)).toInt8.toInt32).toInt8.toInt32)), (.int (((nar .char (own_cr i3)).toInt8.toInt32).toInt8.toInt32))] (.int (0 : Int32)) := own_nmA02 R494_5
      have g501 : Goes p e below S0 (T494.setTop (mkF m 108 #[iv i0, iv i1, iv i2, iv i3, iv i4, iv i5, iv (0 : Int32), iv (2 : Int32), iv (own_cr i0), iv (own_cr i1), iv (own_cr i2), iv (own_cr i3), rv vr_479, rv vr_482, rv b485, rv nr_494] [(.ref nr_494)])) := fun t k => g499 t (by
        refine XS.astore Y494.here hx rfl (hb hby at_97) rfl rfl (l' := #[iv i0, iv i1, iv i2, iv i3, iv i4, iv i5, iv (0 : Int32), iv (2 : Int32), iv (own_cr i0), iv (own_cr i1), iv (own_cr i2), iv (own_cr i3), rv vr_479, rv vr_482, rv b485, rv nr_494]) rfl ?_
        show Go p e below t T494 m 99 #[iv i0, iv i1, iv i2, iv i3, iv i4, iv i5, iv (0 : Int32), iv (2 : Int32), iv (own_cr i0), iv (own_cr i1), iv (own_cr i2), iv (own_cr i3), rv vr_479, rv vr_482, rv b485, rv nr_494] []
        refine XS.aload Y494.here hx rfl (hb hby at_99) rfl rfl ?_
        show Go p e below t T494 m 101 #[iv i0, iv i1, iv i2, iv i3, iv i4, iv i5, iv (0 : Int32), iv (2 : Int32), iv (own_cr i0), iv (own_cr i1), iv (own_cr i2), iv (own_cr i3), rv vr_479, rv vr_482, rv b485, rv nr_494] [(.ref nr_494)]
        refine XS.ifnonnullYes Y494.here hx rfl (pc0 := 101) (pc' := 106) rfl (hb hby at_101) rfl (by decide) (by decide) ?_
        show Go p e below t T494 m 106 #[iv i0, iv i1, iv i2, iv i3, iv i4, iv i5, iv (0 : Int32), iv (2 : Int32), iv (own_cr i0), iv (own_cr i1), iv (own_cr i2), iv (own_cr i3), rv vr_479, rv vr_482, rv b485, rv nr_494] []
        refine XS.aload Y494.here hx rfl (hb hby at_106) rfl rfl ?_
        show Go p e below t T494 m 108 #[iv i0, iv i1, iv i2, iv i3, iv i4, iv i5, iv (0 : Int32), iv (2 : Int32), iv (own_cr i0), iv (own_cr i1), iv (own_cr i2), iv (own_cr i3), rv vr_479, rv vr_482, rv b485, rv nr_494] [(.ref nr_494)]
        exact k)
      obtain ⟨cq502, kq502, q502a, q502b, q502c⟩ := isOf hZ rfl R494_2
      obtain ⟨_, _, ⟨T502, L502, k502, n502⟩, -, X502, ⟨Lc502, hQ502, l502, y502, z502⟩, st502⟩ := Y494.virtualBack hx (y := (⟨"java/lang/String", "length", "()I"⟩ : MethodName)) (z := (⟨"java/lang/String", "length", "()I"⟩ : MethodName)) hown (mvT hZ (hw _ (List.mem_of_getElem? (i := 161) rfl))) (mvT hZ (hw _ (List.mem_of_getElem? (i := 78) rfl))) (notFace_of_selects (args := #[]) (mvT hZ (hw _ (List.mem_of_getElem? (i := 80) rfl)))) (mvT hZ (hw _ (List.mem_of_getElem? (i := 80) rfl))) (mvT hZ (hw _ (List.mem_of_getElem? (i := 79) rfl))) (by decide) (backOf (W := 0) (rm_len l Z a0 hw [] nr_494 tb_494 tk_494 (3 : Int32) [(.int (45 : Int32)), (.int (((nar .char (own_cr i2)).toInt8.toInt32).toInt8.toInt32)), (.int (((nar .char (own_cr i3)).toInt8.toInt32).toInt8.toInt32))] cz T494.heap n0 (Nat.le_trans Z0 (Nat.le_trans (Nat.le_trans (Nat.le_trans (Nat.le_trans (Nat.le_trans (Nat.le_refl _) R479_0.1) R482_0.1) E485.1) R491_0.1) R494_0.1)) R494_2 R494_3 R494_4 Vn500 (Sta.keepO (Sta.keepO ((Sta.keepO (Sta.keepO P0 R479_0 ns0) R482_0 ns0).ext E485) R491_0 (nsS (Exa.nostat A485) ns0)) R494_0 ns0) hz) hZ (hw _ (List.mem_of_getElem? (i := 81) rfl)) (hw _ (List.mem_of_getElem? (i := 6) rfl)) (by decide) (by decide)) q502a q502c (g := (mkF m 108 #[iv i0, iv i1, iv i2, iv i3, iv i4, iv i5, iv (0 : Int32), iv (2 : Int32), iv (own_cr i0), iv (own_cr i1), iv (own_cr i2), iv (own_cr i3), rv vr_479, rv vr_482, rv b485, rv nr_494] [(.ref nr_494)])) rfl (by rw [hml]; rfl) (Steps.refl _) (argsL := []) (rest := []) (lenOf pd1 rfl) rfl (by show 2 * 0 + _ ≤ _; exact Nat.le_of_eq rfl) (hb hby at_108) (fun _ _ => ⟨rfl, rfl, (by decide : 16 + 0 ≤ _), (by decide : 63 + 0 ≤ _)⟩)
      dsimp only [Pt.U, Pt.locs, Pt.cells, Pt.slots] at X502 l502 y502 z502 st502 hQ502
      subst l502 y502 z502
      obtain ⟨rfl, N502, R502_0⟩ := hQ502
      have M502 := Fr.app M494 N502
      have g503 : Goes p e below S0 (T502.setTop (mkF m 111 #[iv i0, iv i1, iv i2, iv i3, iv i4, iv i5, iv (0 : Int32), iv (2 : Int32), iv (own_cr i0), iv (own_cr i1), iv (own_cr i2), iv (own_cr i3), rv vr_479, rv vr_482, rv b485, rv nr_494] [(.int (3 : Int32))])) := fun t k => g501 t (st502.trans k)
      have g504 : Goes p e below S0 (T502.setTop (mkF m 165 #[iv i0, iv i1, iv i2, iv i3, iv i4, iv i5, iv (0 : Int32), iv (2 : Int32), iv (own_cr i0), iv (own_cr i1), iv (own_cr i2), iv (own_cr i3), rv vr_479, rv vr_482, rv b485, rv nr_494] [(.int (0 : Int32)), (.ref nr_494)])) := fun t k => g503 t (by
        refine XS.iload X502.here hx rfl (hb hby at_111) rfl ?_
        show Go p e below t T502 m 113 #[iv i0, iv i1, iv i2, iv i3, iv i4, iv i5, iv (0 : Int32), iv (2 : Int32), iv (own_cr i0), iv (own_cr i1), iv (own_cr i2), iv (own_cr i3), rv vr_479, rv vr_482, rv b485, rv nr_494] [(.int (0 : Int32)), (.int (3 : Int32))]
        refine XT.iconstV X502.here hx rfl (1 : Int32) (hb hby at_113) (by decide) ?_
        show Go p e below t T502 m 114 #[iv i0, iv i1, iv i2, iv i3, iv i4, iv i5, iv (0 : Int32), iv (2 : Int32), iv (own_cr i0), iv (own_cr i1), iv (own_cr i2), iv (own_cr i3), rv vr_479, rv vr_482, rv b485, rv nr_494] [(.int (1 : Int32)), (.int (0 : Int32)), (.int (3 : Int32))]
        refine XS.iadd X502.here hx rfl (hb hby at_114) rfl ?_
        rw [show ((0 : Int32) + (1 : Int32)) = (1 : Int32) by decide]
        show Go p e below t T502 m 115 #[iv i0, iv i1, iv i2, iv i3, iv i4, iv i5, iv (0 : Int32), iv (2 : Int32), iv (own_cr i0), iv (own_cr i1), iv (own_cr i2), iv (own_cr i3), rv vr_479, rv vr_482, rv b485, rv nr_494] [(.int (1 : Int32)), (.int (3 : Int32))]
        refine XS.iload X502.here hx rfl (hb hby at_115) rfl ?_
        show Go p e below t T502 m 117 #[iv i0, iv i1, iv i2, iv i3, iv i4, iv i5, iv (0 : Int32), iv (2 : Int32), iv (own_cr i0), iv (own_cr i1), iv (own_cr i2), iv (own_cr i3), rv vr_479, rv vr_482, rv b485, rv nr_494] [(.int (2 : Int32)), (.int (1 : Int32)), (.int (3 : Int32))]
        refine XS.iadd X502.here hx rfl (hb hby at_117) rfl ?_
        rw [show ((1 : Int32) + (2 : Int32)) = (3 : Int32) by decide]
        show Go p e below t T502 m 118 #[iv i0, iv i1, iv i2, iv i3, iv i4, iv i5, iv (0 : Int32), iv (2 : Int32), iv (own_cr i0), iv (own_cr i1), iv (own_cr i2), iv (own_cr i3), rv vr_479, rv vr_482, rv b485, rv nr_494] [(.int (3 : Int32)), (.int (3 : Int32))]
        refine XS.icmpYes X502.here hx rfl (pc0 := 118) (pc' := 123) rfl (hb hby at_118) rfl (XT.ii_eq_t (by decide)) (by decide) (by decide) ?_
        show Go p e below t T502 m 123 #[iv i0, iv i1, iv i2, iv i3, iv i4, iv i5, iv (0 : Int32), iv (2 : Int32), iv (own_cr i0), iv (own_cr i1), iv (own_cr i2), iv (own_cr i3), rv vr_479, rv vr_482, rv b485, rv nr_494] []
        refine XS.iload X502.here hx rfl (hb hby at_123) rfl ?_
        show Go p e below t T502 m 125 #[iv i0, iv i1, iv i2, iv i3, iv i4, iv i5, iv (0 : Int32), iv (2 : Int32), iv (own_cr i0), iv (own_cr i1), iv (own_cr i2), iv (own_cr i3), rv vr_479, rv vr_482, rv b485, rv nr_494] [(.int (0 : Int32))]
        refine XT.iconstV X502.here hx rfl (1 : Int32) (hb hby at_125) (by decide) ?_
        show Go p e below t T502 m 126 #[iv i0, iv i1, iv i2, iv i3, iv i4, iv i5, iv (0 : Int32), iv (2 : Int32), iv (own_cr i0), iv (own_cr i1), iv (own_cr i2), iv (own_cr i3), rv vr_479, rv vr_482, rv b485, rv nr_494] [(.int (1 : Int32)), (.int (0 : Int32))]
        refine XS.icmpYes X502.here hx rfl (pc0 := 126) (pc' := 142) rfl (hb hby at_126) rfl (XT.ii_lt_t (by decide)) (by decide) (by decide) ?_
        show Go p e below t T502 m 142 #[iv i0, iv i1, iv i2, iv i3, iv i4, iv i5, iv (0 : Int32), iv (2 : Int32), iv (own_cr i0), iv (own_cr i1), iv (own_cr i2), iv (own_cr i3), rv vr_479, rv vr_482, rv b485, rv nr_494] []
        refine XS.iload X502.here hx rfl (hb hby at_142) rfl ?_
        show Go p e below t T502 m 144 #[iv i0, iv i1, iv i2, iv i3, iv i4, iv i5, iv (0 : Int32), iv (2 : Int32), iv (own_cr i0), iv (own_cr i1), iv (own_cr i2), iv (own_cr i3), rv vr_479, rv vr_482, rv b485, rv nr_494] [(.int (0 : Int32))]
        refine XT.iconstV X502.here hx rfl (2 : Int32) (hb hby at_144) (by decide) ?_
        show Go p e below t T502 m 145 #[iv i0, iv i1, iv i2, iv i3, iv i4, iv i5, iv (0 : Int32), iv (2 : Int32), iv (own_cr i0), iv (own_cr i1), iv (own_cr i2), iv (own_cr i3), rv vr_479, rv vr_482, rv b485, rv nr_494] [(.int (2 : Int32)), (.int (0 : Int32))]
        refine XS.icmpYes X502.here hx rfl (pc0 := 145) (pc' := 161) rfl (hb hby at_145) rfl (XT.ii_lt_t (by decide)) (by decide) (by decide) ?_
        show Go p e below t T502 m 161 #[iv i0, iv i1, iv i2, iv i3, iv i4, iv i5, iv (0 : Int32), iv (2 : Int32), iv (own_cr i0), iv (own_cr i1), iv (own_cr i2), iv (own_cr i3), rv vr_479, rv vr_482, rv b485, rv nr_494] []
        refine XS.aload X502.here hx rfl (hb hby at_161) rfl rfl ?_
        show Go p e below t T502 m 163 #[iv i0, iv i1, iv i2, iv i3, iv i4, iv i5, iv (0 : Int32), iv (2 : Int32), iv (own_cr i0), iv (own_cr i1), iv (own_cr i2), iv (own_cr i3), rv vr_479, rv vr_482, rv b485, rv nr_494] [(.ref nr_494)]
        refine XS.iload X502.here hx rfl (hb hby at_163) rfl ?_
        show Go p e below t T502 m 165 #[iv i0, iv i1, iv i2, iv i3, iv i4, iv i5, iv (0 : Int32), iv (2 : Int32), iv (own_cr i0), iv (own_cr i1), iv (own_cr i2), iv (own_cr i3), rv vr_479, rv vr_482, rv b485, rv nr_494] [(.int (0 : Int32)), (.ref nr_494)]
        exact k)
      obtain ⟨cq505, kq505, q505a, q505b, q505c⟩ := isOf hZ R502_0 R494_2
      obtain ⟨_, _, ⟨T505, L505, k505, n505⟩, -, X505, ⟨Lc505, hQ505, l505, y505, z505⟩, st505⟩ := X502.virtualBack hx (y := (⟨"java/lang/String", "charAt", "(I)C"⟩ : MethodName)) (z := (⟨"java/lang/String", "charAt", "(I)C"⟩ : MethodName)) hown (mvT hZ (hw _ (List.mem_of_getElem? (i := 162) rfl))) (mvT hZ (hw _ (List.mem_of_getElem? (i := 163) rfl))) (notFace_of_selects (args := #[]) (mvT hZ (hw _ (List.mem_of_getElem? (i := 165) rfl)))) (mvT hZ (hw _ (List.mem_of_getElem? (i := 165) rfl))) (mvT hZ (hw _ (List.mem_of_getElem? (i := 164) rfl))) (by decide) (backOf (W := 0) (rm_cha l Z a0 hw [] nr_494 (0 : Int32) tb_494 tk_494 (3 : Int32) [(.int (45 : Int32)), (.int (((nar .char (own_cr i2)).toInt8.toInt32).toInt8.toInt32)), (.int (((nar .char (own_cr i3)).toInt8.toInt32).toInt8.toInt32))] (45 : Int32) fx cz T494.heap n0 (Nat.le_trans Z0 (Nat.le_trans (Nat.le_trans (Nat.le_trans (Nat.le_trans (Nat.le_trans (Nat.le_refl _) R479_0.1) R482_0.1) E485.1) R491_0.1) R494_0.1)) R494_2 R494_3 R494_4 Vn500 (Sta.keepO (Sta.keepO ((Sta.keepO (Sta.keepO P0 R479_0 ns0) R482_0 ns0).ext E485) R491_0 (nsS (Exa.nostat A485) ns0)) R494_0 ns0) hz (Sta.keepO (Sta.keepO ((Sta.keepO (Sta.keepO P2 R479_0 ns0) R482_0 ns0).ext E485) R491_0 (nsS (Exa.nostat A485) ns0)) R494_0 ns0) hfx (by decide) (by decide) rfl) hZ (hw _ (List.mem_of_getElem? (i := 166) rfl)) (hw _ (List.mem_of_getElem? (i := 6) rfl)) (by decide) (by decide)) q505a q505c (g := (mkF m 165 #[iv i0, iv i1, iv i2, iv i3, iv i4, iv i5, iv (0 : Int32), iv (2 : Int32), iv (own_cr i0), iv (own_cr i1), iv (own_cr i2), iv (own_cr i3), rv vr_479, rv vr_482, rv b485, rv nr_494] [(.int (0 : Int32)), (.ref nr_494)])) rfl (by rw [hml]; rfl) (Steps.refl _) (argsL := [(.int (0 : Int32))]) (rest := []) (lenOf pd26 rfl) rfl (by show 2 * 0 + _ ≤ _; exact Nat.le_of_eq rfl) (hb hby at_165) (fun _ _ => ⟨rfl, R502_0, (by decide : 16 + 0 ≤ _), (by decide : 63 + 0 ≤ _)⟩)
      dsimp only [Pt.U, Pt.locs, Pt.cells, Pt.slots] at X505 l505 y505 z505 st505 hQ505
      subst l505 y505 z505
      obtain ⟨rfl, N505, R505_0⟩ := hQ505
      have M505 := Fr.app M502 N505
      have g506 : Goes p e below S0 (T505.setTop (mkF m 168 #[iv i0, iv i1, iv i2, iv i3, iv i4, iv i5, iv (0 : Int32), iv (2 : Int32), iv (own_cr i0), iv (own_cr i1), iv (own_cr i2), iv (own_cr i3), rv vr_479, rv vr_482, rv b485, rv nr_494] [(.int (own_chr (45 : Int32)))])) := fun t k => g504 t (st505.trans k)
      have g507 : Goes p e below S0 (T505.setTop (mkF m 187 #[iv i0, iv i1, iv i2, iv i3, iv i4, iv i5, iv (0 : Int32), iv (2 : Int32), iv (own_cr i0), iv (own_cr i1), iv (own_cr i2), iv (own_cr i3), rv vr_479, rv vr_482, rv b485, rv nr_494] [(.int (1 : Int32)), (.ref nr_494)])) := fun t k => g506 t (by
        refine XT.bipushV X505.here hx rfl (45 : Int32) (hb hby at_168) (by decide) ?_
        show Go p e below t T505 m 170 #[iv i0, iv i1, iv i2, iv i3, iv i4, iv i5, iv (0 : Int32), iv (2 : Int32), iv (own_cr i0), iv (own_cr i1), iv (own_cr i2), iv (own_cr i3), rv vr_479, rv vr_482, rv b485, rv nr_494] [(.int (45 : Int32)), (.int (own_chr (45 : Int32)))]
        refine XS.icmpYes X505.here hx rfl (pc0 := 170) (pc' := 175) rfl (hb hby at_170) rfl (XT.ii_eq_t (by decide)) (by decide) (by decide) ?_
        show Go p e below t T505 m 175 #[iv i0, iv i1, iv i2, iv i3, iv i4, iv i5, iv (0 : Int32), iv (2 : Int32), iv (own_cr i0), iv (own_cr i1), iv (own_cr i2), iv (own_cr i3), rv vr_479, rv vr_482, rv b485, rv nr_494] []
        refine XS.iload X505.here hx rfl (hb hby at_175) rfl ?_
        show Go p e below t T505 m 177 #[iv i0, iv i1, iv i2, iv i3, iv i4, iv i5, iv (0 : Int32), iv (2 : Int32), iv (own_cr i0), iv (own_cr i1), iv (own_cr i2), iv (own_cr i3), rv vr_479, rv vr_482, rv b485, rv nr_494] [(.int (2 : Int32))]
        refine XT.iconstV X505.here hx rfl (1 : Int32) (hb hby at_177) (by decide) ?_
        show Go p e below t T505 m 178 #[iv i0, iv i1, iv i2, iv i3, iv i4, iv i5, iv (0 : Int32), iv (2 : Int32), iv (own_cr i0), iv (own_cr i1), iv (own_cr i2), iv (own_cr i3), rv vr_479, rv vr_482, rv b485, rv nr_494] [(.int (1 : Int32)), (.int (2 : Int32))]
        refine XS.icmpNo X505.here hx rfl (hb hby at_178) rfl (XT.ii_lt_f (by decide)) ?_
        show Go p e below t T505 m 181 #[iv i0, iv i1, iv i2, iv i3, iv i4, iv i5, iv (0 : Int32), iv (2 : Int32), iv (own_cr i0), iv (own_cr i1), iv (own_cr i2), iv (own_cr i3), rv vr_479, rv vr_482, rv b485, rv nr_494] []
        refine XS.aload X505.here hx rfl (hb hby at_181) rfl rfl ?_
        show Go p e below t T505 m 183 #[iv i0, iv i1, iv i2, iv i3, iv i4, iv i5, iv (0 : Int32), iv (2 : Int32), iv (own_cr i0), iv (own_cr i1), iv (own_cr i2), iv (own_cr i3), rv vr_479, rv vr_482, rv b485, rv nr_494] [(.ref nr_494)]
        refine XS.iload X505.here hx rfl (hb hby at_183) rfl ?_
        show Go p e below t T505 m 185 #[iv i0, iv i1, iv i2, iv i3, iv i4, iv i5, iv (0 : Int32), iv (2 : Int32), iv (own_cr i0), iv (own_cr i1), iv (own_cr i2), iv (own_cr i3), rv vr_479, rv vr_482, rv b485, rv nr_494] [(.int (0 : Int32)), (.ref nr_494)]
        refine XT.iconstV X505.here hx rfl (1 : Int32) (hb hby at_185) (by decide) ?_
        show Go p e below t T505 m 186 #[iv i0, iv i1, iv i2, iv i3, iv i4, iv i5, iv (0 : Int32), iv (2 : Int32), iv (own_cr i0), iv (own_cr i1), iv (own_cr i2), iv (own_cr i3), rv vr_479, rv vr_482, rv b485, rv nr_494] [(.int (1 : Int32)), (.int (0 : Int32)), (.ref nr_494)]
        refine XS.iadd X505.here hx rfl (hb hby at_186) rfl ?_
        rw [show ((0 : Int32) + (1 : Int32)) = (1 : Int32) by decide]
        show Go p e below t T505 m 187 #[iv i0, iv i1, iv i2, iv i3, iv i4, iv i5, iv (0 : Int32), iv (2 : Int32), iv (own_cr i0), iv (own_cr i1), iv (own_cr i2), iv (own_cr i3), rv vr_479, rv vr_482, rv b485, rv nr_494] [(.int (1 : Int32)), (.ref nr_494)]
        exact k)
      obtain ⟨cq508, kq508, q508a, q508b, q508c⟩ := isOf hZ R505_0 R494_2
      obtain ⟨_, _, ⟨T508, L508, k508, n508⟩, -, X508, ⟨Lc508, hQ508, l508, y508, z508⟩, st508⟩ := X505.virtualBack hx (y := (⟨"java/lang/String", "charAt", "(I)C"⟩ : MethodName)) (z := (⟨"java/lang/String", "charAt", "(I)C"⟩ : MethodName)) hown (mvT hZ (hw _ (List.mem_of_getElem? (i := 162) rfl))) (mvT hZ (hw _ (List.mem_of_getElem? (i := 163) rfl))) (notFace_of_selects (args := #[]) (mvT hZ (hw _ (List.mem_of_getElem? (i := 165) rfl)))) (mvT hZ (hw _ (List.mem_of_getElem? (i := 165) rfl))) (mvT hZ (hw _ (List.mem_of_getElem? (i := 164) rfl))) (by decide) (backOf (W := 0) (rm_cha l Z a0 hw [] nr_494 (1 : Int32) tb_494 tk_494 (3 : Int32) [(.int (45 : Int32)), (.int (((nar .char (own_cr i2)).toInt8.toInt32).toInt8.toInt32)), (.int (((nar .char (own_cr i3)).toInt8.toInt32).toInt8.toInt32))] (((nar .char (own_cr i2)).toInt8.toInt32).toInt8.toInt32) fx cz T494.heap n0 (Nat.le_trans Z0 (Nat.le_trans (Nat.le_trans (Nat.le_trans (Nat.le_trans (Nat.le_trans (Nat.le_refl _) R479_0.1) R482_0.1) E485.1) R491_0.1) R494_0.1)) R494_2 R494_3 R494_4 Vn500 (Sta.keepO (Sta.keepO ((Sta.keepO (Sta.keepO P0 R479_0 ns0) R482_0 ns0).ext E485) R491_0 (nsS (Exa.nostat A485) ns0)) R494_0 ns0) hz (Sta.keepO (Sta.keepO ((Sta.keepO (Sta.keepO P2 R479_0 ns0) R482_0 ns0).ext E485) R491_0 (nsS (Exa.nostat A485) ns0)) R494_0 ns0) hfx (by decide) (by decide) rfl) hZ (hw _ (List.mem_of_getElem? (i := 166) rfl)) (hw _ (List.mem_of_getElem? (i := 6) rfl)) (by decide) (by decide)) q508a q508c (g := (mkF m 187 #[iv i0, iv i1, iv i2, iv i3, iv i4, iv i5, iv (0 : Int32), iv (2 : Int32), iv (own_cr i0), iv (own_cr i1), iv (own_cr i2), iv (own_cr i3), rv vr_479, rv vr_482, rv b485, rv nr_494] [(.int (1 : Int32)), (.ref nr_494)])) rfl (by rw [hml]; rfl) (Steps.refl _) (argsL := [(.int (1 : Int32))]) (rest := []) (lenOf pd26 rfl) rfl (by show 2 * 0 + _ ≤ _; exact Nat.le_of_eq rfl) (hb hby at_187) (fun _ _ => ⟨rfl, R505_0, (by decide : 16 + 0 ≤ _), (by decide : 63 + 0 ≤ _)⟩)
      dsimp only [Pt.U, Pt.locs, Pt.cells, Pt.slots] at X508 l508 y508 z508 st508 hQ508
      subst l508 y508 z508
      obtain ⟨rfl, N508, R508_0⟩ := hQ508
      have M508 := Fr.app M505 N508
      have g509 : Goes p e below S0 (T508.setTop (mkF m 190 #[iv i0, iv i1, iv i2, iv i3, iv i4, iv i5, iv (0 : Int32), iv (2 : Int32), iv (own_cr i0), iv (own_cr i1), iv (own_cr i2), iv (own_cr i3), rv vr_479, rv vr_482, rv b485, rv nr_494] [(.int (own_chr (((nar .char (own_cr i2)).toInt8.toInt32).toInt8.toInt32)))])) := fun t k => g507 t (st508.trans k)
      have g510 : Goes p e below S0 (T508.setTop (mkF m 209 #[iv i0, iv i1, iv i2, iv i3, iv i4, iv i5, iv (0 : Int32), iv (2 : Int32), iv (own_cr i0), iv (own_cr i1), iv (own_cr i2), iv (own_cr i3), rv vr_479, rv vr_482, rv b485, rv nr_494] [(.int (2 : Int32)), (.ref nr_494)])) := fun t k => g509 t (by
        refine XS.iload X508.here hx rfl (hb hby at_190) rfl ?_
        show Go p e below t T508 m 192 #[iv i0, iv i1, iv i2, iv i3, iv i4, iv i5, iv (0 : Int32), iv (2 : Int32), iv (own_cr i0), iv (own_cr i1), iv (own_cr i2), iv (own_cr i3), rv vr_479, rv vr_482, rv b485, rv nr_494] [(.int (own_cr i2)), (.int (own_chr (((nar .char (own_cr i2)).toInt8.toInt32).toInt8.toInt32)))]
        refine XS.icmpYes X508.here hx rfl (pc0 := 192) (pc' := 197) rfl (hb hby at_192) rfl (XT.ii_eq_t (own_rt _)) (by decide) (by decide) ?_
        show Go p e below t T508 m 197 #[iv i0, iv i1, iv i2, iv i3, iv i4, iv i5, iv (0 : Int32), iv (2 : Int32), iv (own_cr i0), iv (own_cr i1), iv (own_cr i2), iv (own_cr i3), rv vr_479, rv vr_482, rv b485, rv nr_494] []
        refine XS.iload X508.here hx rfl (hb hby at_197) rfl ?_
        show Go p e below t T508 m 199 #[iv i0, iv i1, iv i2, iv i3, iv i4, iv i5, iv (0 : Int32), iv (2 : Int32), iv (own_cr i0), iv (own_cr i1), iv (own_cr i2), iv (own_cr i3), rv vr_479, rv vr_482, rv b485, rv nr_494] [(.int (2 : Int32))]
        refine XT.iconstV X508.here hx rfl (2 : Int32) (hb hby at_199) (by decide) ?_
        show Go p e below t T508 m 200 #[iv i0, iv i1, iv i2, iv i3, iv i4, iv i5, iv (0 : Int32), iv (2 : Int32), iv (own_cr i0), iv (own_cr i1), iv (own_cr i2), iv (own_cr i3), rv vr_479, rv vr_482, rv b485, rv nr_494] [(.int (2 : Int32)), (.int (2 : Int32))]
        refine XS.icmpNo X508.here hx rfl (hb hby at_200) rfl (XT.ii_lt_f (by decide)) ?_
        show Go p e below t T508 m 203 #[iv i0, iv i1, iv i2, iv i3, iv i4, iv i5, iv (0 : Int32), iv (2 : Int32), iv (own_cr i0), iv (own_cr i1), iv (own_cr i2), iv (own_cr i3), rv vr_479, rv vr_482, rv b485, rv nr_494] []
        refine XS.aload X508.here hx rfl (hb hby at_203) rfl rfl ?_
        show Go p e below t T508 m 205 #[iv i0, iv i1, iv i2, iv i3, iv i4, iv i5, iv (0 : Int32), iv (2 : Int32), iv (own_cr i0), iv (own_cr i1), iv (own_cr i2), iv (own_cr i3), rv vr_479, rv vr_482, rv b485, rv nr_494] [(.ref nr_494)]
        refine XS.iload X508.here hx rfl (hb hby at_205) rfl ?_
        show Go p e below t T508 m 207 #[iv i0, iv i1, iv i2, iv i3, iv i4, iv i5, iv (0 : Int32), iv (2 : Int32), iv (own_cr i0), iv (own_cr i1), iv (own_cr i2), iv (own_cr i3), rv vr_479, rv vr_482, rv b485, rv nr_494] [(.int (0 : Int32)), (.ref nr_494)]
        refine XT.iconstV X508.here hx rfl (2 : Int32) (hb hby at_207) (by decide) ?_
        show Go p e below t T508 m 208 #[iv i0, iv i1, iv i2, iv i3, iv i4, iv i5, iv (0 : Int32), iv (2 : Int32), iv (own_cr i0), iv (own_cr i1), iv (own_cr i2), iv (own_cr i3), rv vr_479, rv vr_482, rv b485, rv nr_494] [(.int (2 : Int32)), (.int (0 : Int32)), (.ref nr_494)]
        refine XS.iadd X508.here hx rfl (hb hby at_208) rfl ?_
        rw [show ((0 : Int32) + (2 : Int32)) = (2 : Int32) by decide]
        show Go p e below t T508 m 209 #[iv i0, iv i1, iv i2, iv i3, iv i4, iv i5, iv (0 : Int32), iv (2 : Int32), iv (own_cr i0), iv (own_cr i1), iv (own_cr i2), iv (own_cr i3), rv vr_479, rv vr_482, rv b485, rv nr_494] [(.int (2 : Int32)), (.ref nr_494)]
        exact k)
      obtain ⟨cq511, kq511, q511a, q511b, q511c⟩ := isOf hZ R508_0 R494_2
      obtain ⟨_, _, ⟨T511, L511, k511, n511⟩, -, X511, ⟨Lc511, hQ511, l511, y511, z511⟩, st511⟩ := X508.virtualBack hx (y := (⟨"java/lang/String", "charAt", "(I)C"⟩ : MethodName)) (z := (⟨"java/lang/String", "charAt", "(I)C"⟩ : MethodName)) hown (mvT hZ (hw _ (List.mem_of_getElem? (i := 162) rfl))) (mvT hZ (hw _ (List.mem_of_getElem? (i := 163) rfl))) (notFace_of_selects (args := #[]) (mvT hZ (hw _ (List.mem_of_getElem? (i := 165) rfl)))) (mvT hZ (hw _ (List.mem_of_getElem? (i := 165) rfl))) (mvT hZ (hw _ (List.mem_of_getElem? (i := 164) rfl))) (by decide) (backOf (W := 0) (rm_cha l Z a0 hw [] nr_494 (2 : Int32) tb_494 tk_494 (3 : Int32) [(.int (45 : Int32)), (.int (((nar .char (own_cr i2)).toInt8.toInt32).toInt8.toInt32)), (.int (((nar .char (own_cr i3)).toInt8.toInt32).toInt8.toInt32))] (((nar .char (own_cr i3)).toInt8.toInt32).toInt8.toInt32) fx cz T494.heap n0 (Nat.le_trans Z0 (Nat.le_trans (Nat.le_trans (Nat.le_trans (Nat.le_trans (Nat.le_trans (Nat.le_refl _) R479_0.1) R482_0.1) E485.1) R491_0.1) R494_0.1)) R494_2 R494_3 R494_4 Vn500 (Sta.keepO (Sta.keepO ((Sta.keepO (Sta.keepO P0 R479_0 ns0) R482_0 ns0).ext E485) R491_0 (nsS (Exa.nostat A485) ns0)) R494_0 ns0) hz (Sta.keepO (Sta.keepO ((Sta.keepO (Sta.keepO P2 R479_0 ns0) R482_0 ns0).ext E485) R491_0 (nsS (Exa.nostat A485) ns0)) R494_0 ns0) hfx (by decide) (by decide) rfl) hZ (hw _ (List.mem_of_getElem? (i := 166) rfl)) (hw _ (List.mem_of_getElem? (i := 6) rfl)) (by decide) (by decide)) q511a q511c (g := (mkF m 209 #[iv i0, iv i1, iv i2, iv i3, iv i4, iv i5, iv (0 : Int32), iv (2 : Int32), iv (own_cr i0), iv (own_cr i1), iv (own_cr i2), iv (own_cr i3), rv vr_479, rv vr_482, rv b485, rv nr_494] [(.int (2 : Int32)), (.ref nr_494)])) rfl (by rw [hml]; rfl) (Steps.refl _) (argsL := [(.int (2 : Int32))]) (rest := []) (lenOf pd26 rfl) rfl (by show 2 * 0 + _ ≤ _; exact Nat.le_of_eq rfl) (hb hby at_209) (fun _ _ => ⟨rfl, R508_0, (by decide : 16 + 0 ≤ _), (by decide : 63 + 0 ≤ _)⟩)
      dsimp only [Pt.U, Pt.locs, Pt.cells, Pt.slots] at X511 l511 y511 z511 st511 hQ511
      subst l511 y511 z511
      obtain ⟨rfl, N511, R511_0⟩ := hQ511
      have M511 := Fr.app M508 N511
      have g512 : Goes p e below S0 (T511.setTop (mkF m 212 #[iv i0, iv i1, iv i2, iv i3, iv i4, iv i5, iv (0 : Int32), iv (2 : Int32), iv (own_cr i0), iv (own_cr i1), iv (own_cr i2), iv (own_cr i3), rv vr_479, rv vr_482, rv b485, rv nr_494] [(.int (own_chr (((nar .char (own_cr i3)).toInt8.toInt32).toInt8.toInt32)))])) := fun t k => g510 t (st511.trans k)
      have g513 : Goes p e below S0 (T511.setTop (mkF m 220 #[iv i0, iv i1, iv i2, iv i3, iv i4, iv i5, iv (0 : Int32), iv (2 : Int32), iv (own_cr i0), iv (own_cr i1), iv (own_cr i2), iv (own_cr i3), rv vr_479, rv vr_482, rv b485, rv nr_494] [(.int (1 : Int32))])) := fun t k => g512 t (by
        refine XS.iload X511.here hx rfl (hb hby at_212) rfl ?_
        show Go p e below t T511 m 214 #[iv i0, iv i1, iv i2, iv i3, iv i4, iv i5, iv (0 : Int32), iv (2 : Int32), iv (own_cr i0), iv (own_cr i1), iv (own_cr i2), iv (own_cr i3), rv vr_479, rv vr_482, rv b485, rv nr_494] [(.int (own_cr i3)), (.int (own_chr (((nar .char (own_cr i3)).toInt8.toInt32).toInt8.toInt32)))]
        refine XS.icmpYes X511.here hx rfl (pc0 := 214) (pc' := 219) rfl (hb hby at_214) rfl (XT.ii_eq_t (own_rt _)) (by decide) (by decide) ?_
        show Go p e below t T511 m 219 #[iv i0, iv i1, iv i2, iv i3, iv i4, iv i5, iv (0 : Int32), iv (2 : Int32), iv (own_cr i0), iv (own_cr i1), iv (own_cr i2), iv (own_cr i3), rv vr_479, rv vr_482, rv b485, rv nr_494] []
        refine XT.iconstV X511.here hx rfl (1 : Int32) (hb hby at_219) (by decide) ?_
        show Go p e below t T511 m 220 #[iv i0, iv i1, iv i2, iv i3, iv i4, iv i5, iv (0 : Int32), iv (2 : Int32), iv (own_cr i0), iv (own_cr i1), iv (own_cr i2), iv (own_cr i3), rv vr_479, rv vr_482, rv b485, rv nr_494] [(.int (1 : Int32))]
        exact k)
      obtain ⟨fs, hr, hrun, hended, hE1, hE2, hE3, hE4⟩ := Stand.leaveW (s := s) (vm₁ := T494.vm) X511 so494 (by rw [R511_0]; exact (Nat.le_refl _)) (v := some (.int (1 : Int32))) (fun h => by rw [Bd.returns] at h; cases h)
      refine ⟨_, _, g513 _ (retN X511 hx (t := .boolean) Bd.returns (by simp) (hb hby at_220) hr), hrun, hended, _, _, rfl, ?_, hE1, hE2, hE3, hE4.mono (by decide) (by decide)⟩
      show Q_law Z i0 i1 i2 i3 i4 i5 cz fx h0 n0 _ T511.heap _
      rw [R511_0]
      exact ⟨rfl, M511⟩
  · skip
    rcases (own_t3 htl) with rfl | rfl | rfl
    · skip
      have g514 : Goes p e below S0 (s₁.setTop (mkF m 56 #[iv i0, iv i1, iv i2, iv i3, iv i4, iv i5, iv (1 : Int32), iv (0 : Int32), iv (own_cr i0), iv (own_cr i1), iv (own_cr i2), iv (own_cr i3), .unset, .unset, .unset, .unset] [(.int (own_cr i1)), (.int (own_cr i0)), (.int (1 : Int32))])) := fun t k => g414 t (by
        refine XS.iload X0.here hx rfl (hb hby at_50) rfl ?_
        show Go p e below t s₁ m 52 #[iv i0, iv i1, iv i2, iv i3, iv i4, iv i5, iv (1 : Int32), iv (0 : Int32), iv (own_cr i0), iv (own_cr i1), iv (own_cr i2), iv (own_cr i3), .unset, .unset, .unset, .unset] [(.int (1 : Int32))]
        refine XS.iload X0.here hx rfl (hb hby at_52) rfl ?_
        show Go p e below t s₁ m 54 #[iv i0, iv i1, iv i2, iv i3, iv i4, iv i5, iv (1 : Int32), iv (0 : Int32), iv (own_cr i0), iv (own_cr i1), iv (own_cr i2), iv (own_cr i3), .unset, .unset, .unset, .unset] [(.int (own_cr i0)), (.int (1 : Int32))]
        refine XS.iload X0.here hx rfl (hb hby at_54) rfl ?_
        show Go p e below t s₁ m 56 #[iv i0, iv i1, iv i2, iv i3, iv i4, iv i5, iv (1 : Int32), iv (0 : Int32), iv (own_cr i0), iv (own_cr i1), iv (own_cr i2), iv (own_cr i3), .unset, .unset, .unset, .unset] [(.int (own_cr i1)), (.int (own_cr i0)), (.int (1 : Int32))]
        exact k)
      obtain ⟨_, _, ⟨T515, L515, k515, n515⟩, -, X515, ⟨Lc515, hQ515, l515, y515, z515⟩, st515⟩ := Jvm.LawKit.callS X0 hx (y := (⟨"com/example/forager/forager/RoadNamePinLaw", "mk", "(ICC)Ljava/lang/String;"⟩ : MethodName)) hown (mvT hZ (hw _ (List.mem_of_getElem? (i := 0) rfl))) (mvT hZ (hw _ (List.mem_of_getElem? (i := 1) rfl))) (mvT hZ (hw _ (List.mem_of_getElem? (i := 2) rfl))) (mvT hZ (hw _ (List.mem_of_getElem? (i := 3) rfl))) (by decide) (backOf (W := 0) (rm_mk1 l Z a0 hw [] (1 : Int32) (own_cr i0) (own_cr i1) cz h0 n0 Z0 P0 hz rfl (own_ch _)) hZ (hw _ (List.mem_of_getElem? (i := 3) rfl)) (hw _ (List.mem_of_getElem? (i := 2) rfl)) (by decide) (by decide)) (g := (mkF m 56 #[iv i0, iv i1, iv i2, iv i3, iv i4, iv i5, iv (1 : Int32), iv (0 : Int32), iv (own_cr i0), iv (own_cr i1), iv (own_cr i2), iv (own_cr i3), .unset, .unset, .unset, .unset] [(.int (own_cr i1)), (.int (own_cr i0)), (.int (1 : Int32))])) rfl (by rw [hml]; rfl) (argsL := [(.int (1 : Int32)), (.int (own_cr i0)), (.int (own_cr i1))]) (rest := []) (lenOf pd7 rfl) rfl (by show 2 * 0 + _ ≤ _; exact Nat.le_of_eq rfl) (hb hby at_56) (fun _ _ => ⟨rfl, e0, (by decide : 0 + 3 ≤ _), (by decide : 0 + 6 ≤ _)⟩)
      dsimp only [Pt.U, Pt.locs, Pt.cells, Pt.slots] at X515 l515 y515 z515 st515 hQ515
      subst l515 y515 z515
      obtain ⟨vr_515, tb_515, tk_515, rfl, N515, R515_0, R515_1, R515_2, R515_3, R515_4, R515_5⟩ := hQ515
      have M515 := Fr.app N0 N515
      have sz515_1 : h0.size ≤ vr_515 := Nat.le_trans (Nat.le_refl _) R515_1
      have ng515_1 : n0 ≤ vr_515 := Nat.le_trans Z0 sz515_1
      have g516 : Goes p e below S0 (T515.setTop (mkF m 59 #[iv i0, iv i1, iv i2, iv i3, iv i4, iv i5, iv (1 : Int32), iv (0 : Int32), iv (own_cr i0), iv (own_cr i1), iv (own_cr i2), iv (own_cr i3), .unset, .unset, .unset, .unset] [(.ref vr_515)])) := fun t k => g514 t (st515 t k)
      have g517 : Goes p e below S0 (T515.setTop (mkF m 67 #[iv i0, iv i1, iv i2, iv i3, iv i4, iv i5, iv (1 : Int32), iv (0 : Int32), iv (own_cr i0), iv (own_cr i1), iv (own_cr i2), iv (own_cr i3), rv vr_515, .unset, .unset, .unset] [(.int (own_cr i3)), (.int (own_cr i2)), (.int (0 : Int32))])) := fun t k => g516 t (by
        refine XS.astore X515.here hx rfl (hb hby at_59) rfl rfl (l' := #[iv i0, iv i1, iv i2, iv i3, iv i4, iv i5, iv (1 : Int32), iv (0 : Int32), iv (own_cr i0), iv (own_cr i1), iv (own_cr i2), iv (own_cr i3), rv vr_515, .unset, .unset, .unset]) rfl ?_
        show Go p e below t T515 m 61 #[iv i0, iv i1, iv i2, iv i3, iv i4, iv i5, iv (1 : Int32), iv (0 : Int32), iv (own_cr i0), iv (own_cr i1), iv (own_cr i2), iv (own_cr i3), rv vr_515, .unset, .unset, .unset] []
        refine XS.iload X515.here hx rfl (hb hby at_61) rfl ?_
        show Go p e below t T515 m 63 #[iv i0, iv i1, iv i2, iv i3, iv i4, iv i5, iv (1 : Int32), iv (0 : Int32), iv (own_cr i0), iv (own_cr i1), iv (own_cr i2), iv (own_cr i3), rv vr_515, .unset, .unset, .unset] [(.int (0 : Int32))]
        refine XS.iload X515.here hx rfl (hb hby at_63) rfl ?_
        show Go p e below t T515 m 65 #[iv i0, iv i1, iv i2, iv i3, iv i4, iv i5, iv (1 : Int32), iv (0 : Int32), iv (own_cr i0), iv (own_cr i1), iv (own_cr i2), iv (own_cr i3), rv vr_515, .unset, .unset, .unset] [(.int (own_cr i2)), (.int (0 : Int32))]
        refine XS.iload X515.here hx rfl (hb hby at_65) rfl ?_
        show Go p e below t T515 m 67 #[iv i0, iv i1, iv i2, iv i3, iv i4, iv i5, iv (1 : Int32), iv (0 : Int32), iv (own_cr i0), iv (own_cr i1), iv (own_cr i2), iv (own_cr i3), rv vr_515, .unset, .unset, .unset] [(.int (own_cr i3)), (.int (own_cr i2)), (.int (0 : Int32))]
        exact k)
      have hs519 : ∀ x ∈ ([] : List Addr), Safe Z consts_1 s.vm h0 x := sf0
      have ch519 := ch0.trans (CHr.keep R515_0 hs519 ch0.1)
      obtain ⟨_, _, ⟨T518, L518, k518, n518⟩, -, X518, sn518, gr518, ⟨Lc518, hQ518, l518, y518, z518, cr518⟩, st518⟩ := callSS X515 hx (y := (⟨"com/example/forager/forager/RoadNamePinLaw", "mk", "(ICC)Ljava/lang/String;"⟩ : MethodName)) hown (mvT hZ (hw _ (List.mem_of_getElem? (i := 0) rfl))) (mvT hZ (hw _ (List.mem_of_getElem? (i := 1) rfl))) (mvT hZ (hw _ (List.mem_of_getElem? (i := 2) rfl))) (mvT hZ (hw _ (List.mem_of_getElem? (i := 3) rfl))) (by decide) (own_backH (s := s) (vm0 := s.vm) (W := 0) (rm_mk0 l Z a0 hw [] (0 : Int32) (own_cr i2) (own_cr i3)  T515.heap n0 (Nat.le_trans Z0 (Nat.le_trans (Nat.le_refl _) R515_0.1)) rfl) hZ (hw _ (List.mem_of_getElem? (i := 3) rfl)) (hw _ (List.mem_of_getElem? (i := 2) rfl)) (by decide) (by decide) hEL ch519.1 all0) (g := (mkF m 67 #[iv i0, iv i1, iv i2, iv i3, iv i4, iv i5, iv (1 : Int32), iv (0 : Int32), iv (own_cr i0), iv (own_cr i1), iv (own_cr i2), iv (own_cr i3), rv vr_515, .unset, .unset, .unset] [(.int (own_cr i3)), (.int (own_cr i2)), (.int (0 : Int32))])) rfl (by rw [hml]; rfl) (argsL := [(.int (0 : Int32)), (.int (own_cr i2)), (.int (own_cr i3))]) (rest := []) (lenOf pd7 rfl) rfl (by show 2 * 0 + _ ≤ _; exact Nat.le_of_eq rfl) (hb hby at_67) (fun _ _ => ⟨rfl, rfl, (by decide : 3 + 6 ≤ _), (by decide : 6 + 12 ≤ _)⟩)
      dsimp only [Pt.U, Pt.locs, Pt.cells, Pt.slots] at X518 sn518 gr518 l518 y518 z518 cr518 st518 hQ518
      subst l518 y518 z518
      obtain ⟨Y518, so518, hZ, hown⟩ := rebS (s := s) (vm0 := s.vm) ((State.WarmedH.refl s).since 0) (Nat.le_trans (Nat.zero_le _) R515_0.1) X518 sn518 gr518 hZ hown
      obtain ⟨vr_518, tb_518, tk_518, rfl, N518, R518_0, R518_1, R518_2, R518_3, R518_4, R518_5⟩ := hQ518
      have M518 := Fr.app M515 N518
      have sz518_1 : h0.size ≤ vr_518 := Nat.le_trans (Nat.le_trans (Nat.le_refl _) R515_0.1) R518_1
      have ng518_1 : n0 ≤ vr_518 := Nat.le_trans Z0 sz518_1
      have g520 : Goes p e below S0 (T518.setTop (mkF m 70 #[iv i0, iv i1, iv i2, iv i3, iv i4, iv i5, iv (1 : Int32), iv (0 : Int32), iv (own_cr i0), iv (own_cr i1), iv (own_cr i2), iv (own_cr i3), rv vr_515, .unset, .unset, .unset] [(.ref vr_518)])) := fun t k => g517 t (st518.trans k)
      have g521 : Goes p e below S0 (T518.setTop (mkF m 72 #[iv i0, iv i1, iv i2, iv i3, iv i4, iv i5, iv (1 : Int32), iv (0 : Int32), iv (own_cr i0), iv (own_cr i1), iv (own_cr i2), iv (own_cr i3), rv vr_515, rv vr_518, .unset, .unset] [])) := fun t k => g520 t (by
        refine XS.astore Y518.here hx rfl (hb hby at_70) rfl rfl (l' := #[iv i0, iv i1, iv i2, iv i3, iv i4, iv i5, iv (1 : Int32), iv (0 : Int32), iv (own_cr i0), iv (own_cr i1), iv (own_cr i2), iv (own_cr i3), rv vr_515, rv vr_518, .unset, .unset]) rfl ?_
        show Go p e below t T518 m 72 #[iv i0, iv i1, iv i2, iv i3, iv i4, iv i5, iv (1 : Int32), iv (0 : Int32), iv (own_cr i0), iv (own_cr i1), iv (own_cr i2), iv (own_cr i3), rv vr_515, rv vr_518, .unset, .unset] []
        exact k)
      obtain ⟨T522, h522, X522, e522, E522, A522, D522, -, st522⟩ := newO Y518 hx hZ hown (hw _ (List.mem_of_getElem? (i := 26) rfl)) (hw _ (List.mem_of_getElem? (i := 27) rfl)) (hw _ (List.mem_of_getElem? (i := 28) rfl)) rfl (g := (mkF m 72 #[iv i0, iv i1, iv i2, iv i3, iv i4, iv i5, iv (1 : Int32), iv (0 : Int32), iv (own_cr i0), iv (own_cr i1), iv (own_cr i2), iv (own_cr i3), rv vr_515, rv vr_518, .unset, .unset] [])) rfl (hb hby at_72) (by decide) (by decide)
      obtain ⟨b522, gb522⟩ : ∃ z, z = T518.heap.size := ⟨_, rfl⟩
      have sz522 : h0.size ≤ b522 := Nat.le_trans (Nat.le_trans (Nat.le_trans (Nat.le_refl _) R515_0.1) R518_0.1) (Nat.le_of_eq gb522.symm)
      have ng522 : n0 ≤ b522 := Nat.le_trans Z0 sz522
      rw [← gb522] at A522 D522 st522
      have F522_523 : Fld Z h522 b522 "com/example/forager/forager/Road" "from" "Ljava/lang/String;" .null := D522 (Or.inr (hw _ (List.mem_of_getElem? (i := 39) rfl))) (ty := (.object "java/lang/String")) (by decide)
      have F522_524 : Fld Z h522 b522 "com/example/forager/forager/Road" "to" "Ljava/lang/String;" .null := D522 (Or.inr (hw _ (List.mem_of_getElem? (i := 41) rfl))) (ty := (.object "java/lang/String")) (by decide)
      have F522_525 : Fld Z h522 b522 "com/example/forager/forager/Road" "length" "D" (.double (0 : UInt64)) := D522 (Or.inr (hw _ (List.mem_of_getElem? (i := 43) rfl))) (ty := .double) (by decide)
      have g526 : Goes p e below S0 (T522.setTop (mkF m 75 #[iv i0, iv i1, iv i2, iv i3, iv i4, iv i5, iv (1 : Int32), iv (0 : Int32), iv (own_cr i0), iv (own_cr i1), iv (own_cr i2), iv (own_cr i3), rv vr_515, rv vr_518, .unset, .unset] [(.ref b522)])) := fun t k => g521 t (st522 t k)
      have g527 : Goes p e below S0 (T522.setTop (mkF m 87 #[iv i0, iv i1, iv i2, iv i3, iv i4, iv i5, iv (1 : Int32), iv (0 : Int32), iv (own_cr i0), iv (own_cr i1), iv (own_cr i2), iv (own_cr i3), rv vr_515, rv vr_518, .unset, .unset] [(.double (FP.i2d (i5 &&& (1023 : Int32)))), (.ref vr_518), (.ref vr_515), (.ref b522), (.ref b522)])) := fun t k => g526 t (by
        refine XS.dup X522.here hx rfl (hb hby at_75) rfl rfl ?_
        show Go p e below t T522 m 76 #[iv i0, iv i1, iv i2, iv i3, iv i4, iv i5, iv (1 : Int32), iv (0 : Int32), iv (own_cr i0), iv (own_cr i1), iv (own_cr i2), iv (own_cr i3), rv vr_515, rv vr_518, .unset, .unset] [(.ref b522), (.ref b522)]
        refine XS.aload X522.here hx rfl (hb hby at_76) rfl rfl ?_
        show Go p e below t T522 m 78 #[iv i0, iv i1, iv i2, iv i3, iv i4, iv i5, iv (1 : Int32), iv (0 : Int32), iv (own_cr i0), iv (own_cr i1), iv (own_cr i2), iv (own_cr i3), rv vr_515, rv vr_518, .unset, .unset] [(.ref vr_515), (.ref b522), (.ref b522)]
        refine XS.aload X522.here hx rfl (hb hby at_78) rfl rfl ?_
        show Go p e below t T522 m 80 #[iv i0, iv i1, iv i2, iv i3, iv i4, iv i5, iv (1 : Int32), iv (0 : Int32), iv (own_cr i0), iv (own_cr i1), iv (own_cr i2), iv (own_cr i3), rv vr_515, rv vr_518, .unset, .unset] [(.ref vr_518), (.ref vr_515), (.ref b522), (.ref b522)]
        refine XS.iload X522.here hx rfl (hb hby at_80) rfl ?_
        show Go p e below t T522 m 82 #[iv i0, iv i1, iv i2, iv i3, iv i4, iv i5, iv (1 : Int32), iv (0 : Int32), iv (own_cr i0), iv (own_cr i1), iv (own_cr i2), iv (own_cr i3), rv vr_515, rv vr_518, .unset, .unset] [(.int i5), (.ref vr_518), (.ref vr_515), (.ref b522), (.ref b522)]
        refine XT.sipushV X522.here hx rfl (1023 : Int32) (hb hby at_82) (by decide) ?_
        show Go p e below t T522 m 85 #[iv i0, iv i1, iv i2, iv i3, iv i4, iv i5, iv (1 : Int32), iv (0 : Int32), iv (own_cr i0), iv (own_cr i1), iv (own_cr i2), iv (own_cr i3), rv vr_515, rv vr_518, .unset, .unset] [(.int (1023 : Int32)), (.int i5), (.ref vr_518), (.ref vr_515), (.ref b522), (.ref b522)]
        refine XS.iand X522.here hx rfl (hb hby at_85) rfl ?_
        show Go p e below t T522 m 86 #[iv i0, iv i1, iv i2, iv i3, iv i4, iv i5, iv (1 : Int32), iv (0 : Int32), iv (own_cr i0), iv (own_cr i1), iv (own_cr i2), iv (own_cr i3), rv vr_515, rv vr_518, .unset, .unset] [(.int (i5 &&& (1023 : Int32))), (.ref vr_518), (.ref vr_515), (.ref b522), (.ref b522)]
        refine XS.i2dS X522.here hx rfl (hb hby at_86) rfl rfl ?_
        show Go p e below t T522 m 87 #[iv i0, iv i1, iv i2, iv i3, iv i4, iv i5, iv (1 : Int32), iv (0 : Int32), iv (own_cr i0), iv (own_cr i1), iv (own_cr i2), iv (own_cr i3), rv vr_515, rv vr_518, .unset, .unset] [(.double (FP.i2d (i5 &&& (1023 : Int32)))), (.ref vr_518), (.ref vr_515), (.ref b522), (.ref b522)]
        exact k)
      obtain ⟨_, _, ⟨T528, L528, k528, n528⟩, -, X528, ⟨Lc528, hQ528, l528, y528, z528⟩, st528⟩ := X522.specialBack hx (y := (⟨"com/example/forager/forager/Road", "<init>", "(Ljava/lang/String;Ljava/lang/String;D)V"⟩ : MethodName)) rfl hown (mvT hZ (hw _ (List.mem_of_getElem? (i := 29) rfl))) (mvT hZ (hw _ (List.mem_of_getElem? (i := 30) rfl))) (mvT hZ (hw _ (List.mem_of_getElem? (i := 31) rfl))) (by decide) (backOf (W := 1) (rm_ri l Z a0 hw [] b522 vr_515 vr_518 (FP.i2d (i5 &&& (1023 : Int32)))  h522 n0 (Nat.le_trans Z0 (Nat.le_trans (Nat.le_trans (Nat.le_trans (Nat.le_refl _) R515_0.1) R518_0.1) E522.1)) A522 F522_523 F522_524 F522_525 ng522) hZ (hw _ (List.mem_of_getElem? (i := 31) rfl)) (hw _ (List.mem_of_getElem? (i := 28) rfl)) (by decide) (by decide)) (g := (mkF m 87 #[iv i0, iv i1, iv i2, iv i3, iv i4, iv i5, iv (1 : Int32), iv (0 : Int32), iv (own_cr i0), iv (own_cr i1), iv (own_cr i2), iv (own_cr i3), rv vr_515, rv vr_518, .unset, .unset] [(.double (FP.i2d (i5 &&& (1023 : Int32)))), (.ref vr_518), (.ref vr_515), (.ref b522), (.ref b522)])) rfl (by rw [hml]; rfl) (Steps.refl _) (a := b522) (argsL := [(.ref vr_515), (.ref vr_518), (.double (FP.i2d (i5 &&& (1023 : Int32))))]) (rest := [(.ref b522)]) (lenOf pd9 rfl) rfl (by show 2 * 0 + _ ≤ _; exact Nat.le_of_eq rfl) (hb hby at_87) (fun _ _ => ⟨rfl, e522, (by decide : 10 + 0 ≤ _), (by decide : 21 + 0 ≤ _)⟩)
      dsimp only [Pt.U, Pt.locs, Pt.cells, Pt.slots] at X528 l528 y528 z528 st528 hQ528
      subst l528 y528 z528
      obtain ⟨rfl, N528, R528_0, R528_1, R528_2, R528_3⟩ := hQ528
      have M528 := Fr.app M518 N528
      have g529 : Goes p e below S0 (T528.setTop (mkF m 90 #[iv i0, iv i1, iv i2, iv i3, iv i4, iv i5, iv (1 : Int32), iv (0 : Int32), iv (own_cr i0), iv (own_cr i1), iv (own_cr i2), iv (own_cr i3), rv vr_515, rv vr_518, .unset, .unset] [(.ref b522)])) := fun t k => g527 t (st528.trans k)
      have g530 : Goes p e below S0 (T528.setTop (mkF m 94 #[iv i0, iv i1, iv i2, iv i3, iv i4, iv i5, iv (1 : Int32), iv (0 : Int32), iv (own_cr i0), iv (own_cr i1), iv (own_cr i2), iv (own_cr i3), rv vr_515, rv vr_518, rv b522, .unset] [(.ref b522)])) := fun t k => g529 t (by
        refine XS.astore X528.here hx rfl (hb hby at_90) rfl rfl (l' := #[iv i0, iv i1, iv i2, iv i3, iv i4, iv i5, iv (1 : Int32), iv (0 : Int32), iv (own_cr i0), iv (own_cr i1), iv (own_cr i2), iv (own_cr i3), rv vr_515, rv vr_518, rv b522, .unset]) rfl ?_
        show Go p e below t T528 m 92 #[iv i0, iv i1, iv i2, iv i3, iv i4, iv i5, iv (1 : Int32), iv (0 : Int32), iv (own_cr i0), iv (own_cr i1), iv (own_cr i2), iv (own_cr i3), rv vr_515, rv vr_518, rv b522, .unset] []
        refine XS.aload X528.here hx rfl (hb hby at_92) rfl rfl ?_
        show Go p e below t T528 m 94 #[iv i0, iv i1, iv i2, iv i3, iv i4, iv i5, iv (1 : Int32), iv (0 : Int32), iv (own_cr i0), iv (own_cr i1), iv (own_cr i2), iv (own_cr i3), rv vr_515, rv vr_518, rv b522, .unset] [(.ref b522)]
        exact k)
      obtain ⟨cq531, kq531, q531a, q531b, q531c⟩ := isOf hZ rfl R528_1
      have ch532 := ch519.trans cr518
      have ch533 := ch532.trans (CHr.ext E522 ch532.1)
      have hs534 : ∀ x ∈ ([b522] : List Addr), Safe Z consts_1 T518.vm h522 x := (sfS (Safe.exa hZ.alike A522 (by decide) (by decide)) sf0)
      have ch534 := ch533.trans (CHr.keep R528_0 hs534 ch533.1)
      obtain ⟨_, _, ⟨T531, L531, k531, n531⟩, -, X531, sn531, gr531, ⟨Lc531, hQ531, l531, y531, z531, cr531⟩, st531⟩ := X528.virtualBackS hx (y := (⟨"com/example/forager/forager/Road", "name", "()Ljava/lang/String;"⟩ : MethodName)) (z := (⟨"com/example/forager/forager/Road", "name", "()Ljava/lang/String;"⟩ : MethodName)) hown (mvT hZ (hw _ (List.mem_of_getElem? (i := 44) rfl))) (mvT hZ (hw _ (List.mem_of_getElem? (i := 45) rfl))) (notFace_of_selects (args := #[]) (mvT hZ (hw _ (List.mem_of_getElem? (i := 47) rfl)))) (mvT hZ (hw _ (List.mem_of_getElem? (i := 47) rfl))) (mvT hZ (hw _ (List.mem_of_getElem? (i := 46) rfl))) (by decide) (own_backH (s := s) (vm0 := T518.vm) (W := 0) (rm_nam l Z a0 hw [] b522 vr_515 vr_518 tb_515 tk_515 (1 : Int32) [(.int (((nar .char (own_cr i0)).toInt8.toInt32).toInt8.toInt32))] tb_518 tk_518 (0 : Int32) [] cz T528.heap n0 (Nat.le_trans Z0 (Nat.le_trans (Nat.le_trans (Nat.le_trans (Nat.le_trans (Nat.le_refl _) R515_0.1) R518_0.1) E522.1) R528_0.1)) R528_2 R528_3 (((R515_2.keep R518_0).ext E522).keep R528_0) (((R515_3.keep R518_0 nin0).ext E522).keep R528_0 (ninS (Nat.ne_of_lt (Nat.lt_of_lt_of_le (R515_2.keep R518_0).lt (Nat.le_of_eq gb522.symm))) nin0)) (((R515_4.keep R518_0 nin0).ext E522).keep R528_0 (ninS (Nat.ne_of_lt (Nat.lt_of_lt_of_le (R515_2.keep R518_0).lt (Nat.le_of_eq gb522.symm))) nin0)) (((R515_5.keep R518_0 nin0).ext E522).keep R528_0 (ninS (Nat.ne_of_lt (Nat.lt_of_lt_of_le (R515_5.keep R518_0 nin0).lt (Nat.le_of_eq gb522.symm))) nin0)) ((R518_2.ext E522).keep R528_0) ((R518_3.ext E522).keep R528_0 (ninS (Nat.ne_of_lt (Nat.lt_of_lt_of_le R518_2.lt (Nat.le_of_eq gb522.symm))) nin0)) ((R518_4.ext E522).keep R528_0 (ninS (Nat.ne_of_lt (Nat.lt_of_lt_of_le R518_2.lt (Nat.le_of_eq gb522.symm))) nin0)) ((R518_5.ext E522).keep R528_0 (ninS (Nat.ne_of_lt (Nat.lt_of_lt_of_le R518_5.lt (Nat.le_of_eq gb522.symm))) nin0)) (Sta.keepO ((Sta.keepO (Sta.keepO P0 R515_0 ns0) R518_0 ns0).ext E522) R528_0 (nsS (Exa.nostat A522) ns0)) hz ⟨by decide, rfl⟩ ⟨by decide, rfl⟩) hZ (hw _ (List.mem_of_getElem? (i := 48) rfl)) (hw _ (List.mem_of_getElem? (i := 28) rfl)) (by decide) (by decide) hEL ch534.1 all0) q531a q531c (g := (mkF m 94 #[iv i0, iv i1, iv i2, iv i3, iv i4, iv i5, iv (1 : Int32), iv (0 : Int32), iv (own_cr i0), iv (own_cr i1), iv (own_cr i2), iv (own_cr i3), rv vr_515, rv vr_518, rv b522, .unset] [(.ref b522)])) rfl (by rw [hml]; rfl) (Steps.refl _) (argsL := []) (rest := []) (lenOf pd23 rfl) rfl (by show 2 * 0 + _ ≤ _; exact Nat.le_of_eq rfl) (hb hby at_94) (fun _ _ => ⟨rfl, rfl, (by decide : 10 + 6 ≤ _), (by decide : 21 + 40 ≤ _)⟩)
      dsimp only [Pt.U, Pt.locs, Pt.cells, Pt.slots] at X531 sn531 gr531 l531 y531 z531 cr531 st531 hQ531
      subst l531 y531 z531
      obtain ⟨Y531, so531, hZ, hown⟩ := rebS (s := s) (vm0 := T518.vm) so518 (Nat.le_trans (Nat.le_trans (Nat.le_refl _) E522.1) R528_0.1) X531 sn531 gr531 hZ hown
      obtain ⟨nr_531, tb_531, tk_531, rfl, N531, R531_0, R531_1, R531_2, R531_3, R531_4, R531_5⟩ := hQ531
      have M531 := Fr.app M528 N531
      have sz531_1 : h0.size ≤ nr_531 := Nat.le_trans (Nat.le_trans (Nat.le_trans (Nat.le_trans (Nat.le_trans (Nat.le_refl _) R515_0.1) R518_0.1) E522.1) R528_0.1) R531_1
      have ng531_1 : n0 ≤ nr_531 := Nat.le_trans Z0 sz531_1
      have g535 : Goes p e below S0 (T531.setTop (mkF m 97 #[iv i0, iv i1, iv i2, iv i3, iv i4, iv i5, iv (1 : Int32), iv (0 : Int32), iv (own_cr i0), iv (own_cr i1), iv (own_cr i2), iv (own_cr i3), rv vr_515, rv vr_518, rv b522, .unset] [(.ref nr_531)])) := fun t k => g530 t (st531.trans k)
      have Vn536 : Arv Z T531.heap tb_531 tk_531 .byte (2 : Int32) [(.int (((nar .char (own_cr i0)).toInt8.toInt32).toInt8.toInt32)), (.int (45 : Int32))] (.int (0 : Int32)) := own_nmA10 R531_5
      have g537 : Goes p e below S0 (T531.setTop (mkF m 108 #[iv i0, iv i1, iv i2, iv i3, iv i4, iv i5, iv (1 : Int32), iv (0 : Int32), iv (own_cr i0), iv (own_cr i1), iv (own_cr i2), iv (own_cr i3), rv vr_515, rv vr_518, rv b522, rv nr_531] [(.ref nr_531)])) := fun t k => g535 t (by
        refine XS.astore Y531.here hx rfl (hb hby at_97) rfl rfl (l' := #[iv i0, iv i1, iv i2, iv i3, iv i4, iv i5, iv (1 : Int32), iv (0 : Int32), iv (own_cr i0), iv (own_cr i1), iv (own_cr i2), iv (own_cr i3), rv vr_515, rv vr_518, rv b522, rv nr_531]) rfl ?_
        show Go p e below t T531 m 99 #[iv i0, iv i1, iv i2, iv i3, iv i4, iv i5, iv (1 : Int32), iv (0 : Int32), iv (own_cr i0), iv (own_cr i1), iv (own_cr i2), iv (own_cr i3), rv vr_515, rv vr_518, rv b522, rv nr_531] []
        refine XS.aload Y531.here hx rfl (hb hby at_99) rfl rfl ?_
        show Go p e below t T531 m 101 #[iv i0, iv i1, iv i2, iv i3, iv i4, iv i5, iv (1 : Int32), iv (0 : Int32), iv (own_cr i0), iv (own_cr i1), iv (own_cr i2), iv (own_cr i3), rv vr_515, rv vr_518, rv b522, rv nr_531] [(.ref nr_531)]
        refine XS.ifnonnullYes Y531.here hx rfl (pc0 := 101) (pc' := 106) rfl (hb hby at_101) rfl (by decide) (by decide) ?_
        show Go p e below t T531 m 106 #[iv i0, iv i1, iv i2, iv i3, iv i4, iv i5, iv (1 : Int32), iv (0 : Int32), iv (own_cr i0), iv (own_cr i1), iv (own_cr i2), iv (own_cr i3), rv vr_515, rv vr_518, rv b522, rv nr_531] []
        refine XS.aload Y531.here hx rfl (hb hby at_106) rfl rfl ?_
        show Go p e below t T531 m 108 #[iv i0, iv i1, iv i2, iv i3, iv i4, iv i5, iv (1 : Int32), iv (0 : Int32), iv (own_cr i0), iv (own_cr i1), iv (own_cr i2), iv (own_cr i3), rv vr_515, rv vr_518, rv b522, rv nr_531] [(.ref nr_531)]
        exact k)
      obtain ⟨cq538, kq538, q538a, q538b, q538c⟩ := isOf hZ rfl R531_2
      obtain ⟨_, _, ⟨T538, L538, k538, n538⟩, -, X538, ⟨Lc538, hQ538, l538, y538, z538⟩, st538⟩ := Y531.virtualBack hx (y := (⟨"java/lang/String", "length", "()I"⟩ : MethodName)) (z := (⟨"java/lang/String", "length", "()I"⟩ : MethodName)) hown (mvT hZ (hw _ (List.mem_of_getElem? (i := 161) rfl))) (mvT hZ (hw _ (List.mem_of_getElem? (i := 78) rfl))) (notFace_of_selects (args := #[]) (mvT hZ (hw _ (List.mem_of_getElem? (i := 80) rfl)))) (mvT hZ (hw _ (List.mem_of_getElem? (i := 80) rfl))) (mvT hZ (hw _ (List.mem_of_getElem? (i := 79) rfl))) (by decide) (backOf (W := 0) (rm_len l Z a0 hw [] nr_531 tb_531 tk_531 (2 : Int32) [(.int (((nar .char (own_cr i0)).toInt8.toInt32).toInt8.toInt32)), (.int (45 : Int32))] cz T531.heap n0 (Nat.le_trans Z0 (Nat.le_trans (Nat.le_trans (Nat.le_trans (Nat.le_trans (Nat.le_trans (Nat.le_refl _) R515_0.1) R518_0.1) E522.1) R528_0.1) R531_0.1)) R531_2 R531_3 R531_4 Vn536 (Sta.keepO (Sta.keepO ((Sta.keepO (Sta.keepO P0 R515_0 ns0) R518_0 ns0).ext E522) R528_0 (nsS (Exa.nostat A522) ns0)) R531_0 ns0) hz) hZ (hw _ (List.mem_of_getElem? (i := 81) rfl)) (hw _ (List.mem_of_getElem? (i := 6) rfl)) (by decide) (by decide)) q538a q538c (g := (mkF m 108 #[iv i0, iv i1, iv i2, iv i3, iv i4, iv i5, iv (1 : Int32), iv (0 : Int32), iv (own_cr i0), iv (own_cr i1), iv (own_cr i2), iv (own_cr i3), rv vr_515, rv vr_518, rv b522, rv nr_531] [(.ref nr_531)])) rfl (by rw [hml]; rfl) (Steps.refl _) (argsL := []) (rest := []) (lenOf pd1 rfl) rfl (by show 2 * 0 + _ ≤ _; exact Nat.le_of_eq rfl) (hb hby at_108) (fun _ _ => ⟨rfl, rfl, (by decide : 16 + 0 ≤ _), (by decide : 61 + 0 ≤ _)⟩)
      dsimp only [Pt.U, Pt.locs, Pt.cells, Pt.slots] at X538 l538 y538 z538 st538 hQ538
      subst l538 y538 z538
      obtain ⟨rfl, N538, R538_0⟩ := hQ538
      have M538 := Fr.app M531 N538
      have g539 : Goes p e below S0 (T538.setTop (mkF m 111 #[iv i0, iv i1, iv i2, iv i3, iv i4, iv i5, iv (1 : Int32), iv (0 : Int32), iv (own_cr i0), iv (own_cr i1), iv (own_cr i2), iv (own_cr i3), rv vr_515, rv vr_518, rv b522, rv nr_531] [(.int (2 : Int32))])) := fun t k => g537 t (st538.trans k)
      have g540 : Goes p e below S0 (T538.setTop (mkF m 132 #[iv i0, iv i1, iv i2, iv i3, iv i4, iv i5, iv (1 : Int32), iv (0 : Int32), iv (own_cr i0), iv (own_cr i1), iv (own_cr i2), iv (own_cr i3), rv vr_515, rv vr_518, rv b522, rv nr_531] [(.int (0 : Int32)), (.ref nr_531)])) := fun t k => g539 t (by
        refine XS.iload X538.here hx rfl (hb hby at_111) rfl ?_
        show Go p e below t T538 m 113 #[iv i0, iv i1, iv i2, iv i3, iv i4, iv i5, iv (1 : Int32), iv (0 : Int32), iv (own_cr i0), iv (own_cr i1), iv (own_cr i2), iv (own_cr i3), rv vr_515, rv vr_518, rv b522, rv nr_531] [(.int (1 : Int32)), (.int (2 : Int32))]
        refine XT.iconstV X538.here hx rfl (1 : Int32) (hb hby at_113) (by decide) ?_
        show Go p e below t T538 m 114 #[iv i0, iv i1, iv i2, iv i3, iv i4, iv i5, iv (1 : Int32), iv (0 : Int32), iv (own_cr i0), iv (own_cr i1), iv (own_cr i2), iv (own_cr i3), rv vr_515, rv vr_518, rv b522, rv nr_531] [(.int (1 : Int32)), (.int (1 : Int32)), (.int (2 : Int32))]
        refine XS.iadd X538.here hx rfl (hb hby at_114) rfl ?_
        rw [show ((1 : Int32) + (1 : Int32)) = (2 : Int32) by decide]
        show Go p e below t T538 m 115 #[iv i0, iv i1, iv i2, iv i3, iv i4, iv i5, iv (1 : Int32), iv (0 : Int32), iv (own_cr i0), iv (own_cr i1), iv (own_cr i2), iv (own_cr i3), rv vr_515, rv vr_518, rv b522, rv nr_531] [(.int (2 : Int32)), (.int (2 : Int32))]
        refine XS.iload X538.here hx rfl (hb hby at_115) rfl ?_
        show Go p e below t T538 m 117 #[iv i0, iv i1, iv i2, iv i3, iv i4, iv i5, iv (1 : Int32), iv (0 : Int32), iv (own_cr i0), iv (own_cr i1), iv (own_cr i2), iv (own_cr i3), rv vr_515, rv vr_518, rv b522, rv nr_531] [(.int (0 : Int32)), (.int (2 : Int32)), (.int (2 : Int32))]
        refine XS.iadd X538.here hx rfl (hb hby at_117) rfl ?_
        rw [show ((2 : Int32) + (0 : Int32)) = (2 : Int32) by decide]
        show Go p e below t T538 m 118 #[iv i0, iv i1, iv i2, iv i3, iv i4, iv i5, iv (1 : Int32), iv (0 : Int32), iv (own_cr i0), iv (own_cr i1), iv (own_cr i2), iv (own_cr i3), rv vr_515, rv vr_518, rv b522, rv nr_531] [(.int (2 : Int32)), (.int (2 : Int32))]
        refine XS.icmpYes X538.here hx rfl (pc0 := 118) (pc' := 123) rfl (hb hby at_118) rfl (XT.ii_eq_t (by decide)) (by decide) (by decide) ?_
        show Go p e below t T538 m 123 #[iv i0, iv i1, iv i2, iv i3, iv i4, iv i5, iv (1 : Int32), iv (0 : Int32), iv (own_cr i0), iv (own_cr i1), iv (own_cr i2), iv (own_cr i3), rv vr_515, rv vr_518, rv b522, rv nr_531] []
        refine XS.iload X538.here hx rfl (hb hby at_123) rfl ?_
        show Go p e below t T538 m 125 #[iv i0, iv i1, iv i2, iv i3, iv i4, iv i5, iv (1 : Int32), iv (0 : Int32), iv (own_cr i0), iv (own_cr i1), iv (own_cr i2), iv (own_cr i3), rv vr_515, rv vr_518, rv b522, rv nr_531] [(.int (1 : Int32))]
        refine XT.iconstV X538.here hx rfl (1 : Int32) (hb hby at_125) (by decide) ?_
        show Go p e below t T538 m 126 #[iv i0, iv i1, iv i2, iv i3, iv i4, iv i5, iv (1 : Int32), iv (0 : Int32), iv (own_cr i0), iv (own_cr i1), iv (own_cr i2), iv (own_cr i3), rv vr_515, rv vr_518, rv b522, rv nr_531] [(.int (1 : Int32)), (.int (1 : Int32))]
        refine XS.icmpNo X538.here hx rfl (hb hby at_126) rfl (XT.ii_lt_f (by decide)) ?_
        show Go p e below t T538 m 129 #[iv i0, iv i1, iv i2, iv i3, iv i4, iv i5, iv (1 : Int32), iv (0 : Int32), iv (own_cr i0), iv (own_cr i1), iv (own_cr i2), iv (own_cr i3), rv vr_515, rv vr_518, rv b522, rv nr_531] []
        refine XS.aload X538.here hx rfl (hb hby at_129) rfl rfl ?_
        show Go p e below t T538 m 131 #[iv i0, iv i1, iv i2, iv i3, iv i4, iv i5, iv (1 : Int32), iv (0 : Int32), iv (own_cr i0), iv (own_cr i1), iv (own_cr i2), iv (own_cr i3), rv vr_515, rv vr_518, rv b522, rv nr_531] [(.ref nr_531)]
        refine XT.iconstV X538.here hx rfl (0 : Int32) (hb hby at_131) (by decide) ?_
        show Go p e below t T538 m 132 #[iv i0, iv i1, iv i2, iv i3, iv i4, iv i5, iv (1 : Int32), iv (0 : Int32), iv (own_cr i0), iv (own_cr i1), iv (own_cr i2), iv (own_cr i3), rv vr_515, rv vr_518, rv b522, rv nr_531] [(.int (0 : Int32)), (.ref nr_531)]
        exact k)
      obtain ⟨cq541, kq541, q541a, q541b, q541c⟩ := isOf hZ R538_0 R531_2
      obtain ⟨_, _, ⟨T541, L541, k541, n541⟩, -, X541, ⟨Lc541, hQ541, l541, y541, z541⟩, st541⟩ := X538.virtualBack hx (y := (⟨"java/lang/String", "charAt", "(I)C"⟩ : MethodName)) (z := (⟨"java/lang/String", "charAt", "(I)C"⟩ : MethodName)) hown (mvT hZ (hw _ (List.mem_of_getElem? (i := 162) rfl))) (mvT hZ (hw _ (List.mem_of_getElem? (i := 163) rfl))) (notFace_of_selects (args := #[]) (mvT hZ (hw _ (List.mem_of_getElem? (i := 165) rfl)))) (mvT hZ (hw _ (List.mem_of_getElem? (i := 165) rfl))) (mvT hZ (hw _ (List.mem_of_getElem? (i := 164) rfl))) (by decide) (backOf (W := 0) (rm_cha l Z a0 hw [] nr_531 (0 : Int32) tb_531 tk_531 (2 : Int32) [(.int (((nar .char (own_cr i0)).toInt8.toInt32).toInt8.toInt32)), (.int (45 : Int32))] (((nar .char (own_cr i0)).toInt8.toInt32).toInt8.toInt32) fx cz T531.heap n0 (Nat.le_trans Z0 (Nat.le_trans (Nat.le_trans (Nat.le_trans (Nat.le_trans (Nat.le_trans (Nat.le_refl _) R515_0.1) R518_0.1) E522.1) R528_0.1) R531_0.1)) R531_2 R531_3 R531_4 Vn536 (Sta.keepO (Sta.keepO ((Sta.keepO (Sta.keepO P0 R515_0 ns0) R518_0 ns0).ext E522) R528_0 (nsS (Exa.nostat A522) ns0)) R531_0 ns0) hz (Sta.keepO (Sta.keepO ((Sta.keepO (Sta.keepO P2 R515_0 ns0) R518_0 ns0).ext E522) R528_0 (nsS (Exa.nostat A522) ns0)) R531_0 ns0) hfx (by decide) (by decide) rfl) hZ (hw _ (List.mem_of_getElem? (i := 166) rfl)) (hw _ (List.mem_of_getElem? (i := 6) rfl)) (by decide) (by decide)) q541a q541c (g := (mkF m 132 #[iv i0, iv i1, iv i2, iv i3, iv i4, iv i5, iv (1 : Int32), iv (0 : Int32), iv (own_cr i0), iv (own_cr i1), iv (own_cr i2), iv (own_cr i3), rv vr_515, rv vr_518, rv b522, rv nr_531] [(.int (0 : Int32)), (.ref nr_531)])) rfl (by rw [hml]; rfl) (Steps.refl _) (argsL := [(.int (0 : Int32))]) (rest := []) (lenOf pd26 rfl) rfl (by show 2 * 0 + _ ≤ _; exact Nat.le_of_eq rfl) (hb hby at_132) (fun _ _ => ⟨rfl, R538_0, (by decide : 16 + 0 ≤ _), (by decide : 61 + 0 ≤ _)⟩)
      dsimp only [Pt.U, Pt.locs, Pt.cells, Pt.slots] at X541 l541 y541 z541 st541 hQ541
      subst l541 y541 z541
      obtain ⟨rfl, N541, R541_0⟩ := hQ541
      have M541 := Fr.app M538 N541
      have g542 : Goes p e below S0 (T541.setTop (mkF m 135 #[iv i0, iv i1, iv i2, iv i3, iv i4, iv i5, iv (1 : Int32), iv (0 : Int32), iv (own_cr i0), iv (own_cr i1), iv (own_cr i2), iv (own_cr i3), rv vr_515, rv vr_518, rv b522, rv nr_531] [(.int (own_chr (((nar .char (own_cr i0)).toInt8.toInt32).toInt8.toInt32)))])) := fun t k => g540 t (st541.trans k)
      have g543 : Goes p e below S0 (T541.setTop (mkF m 165 #[iv i0, iv i1, iv i2, iv i3, iv i4, iv i5, iv (1 : Int32), iv (0 : Int32), iv (own_cr i0), iv (own_cr i1), iv (own_cr i2), iv (own_cr i3), rv vr_515, rv vr_518, rv b522, rv nr_531] [(.int (1 : Int32)), (.ref nr_531)])) := fun t k => g542 t (by
        refine XS.iload X541.here hx rfl (hb hby at_135) rfl ?_
        show Go p e below t T541 m 137 #[iv i0, iv i1, iv i2, iv i3, iv i4, iv i5, iv (1 : Int32), iv (0 : Int32), iv (own_cr i0), iv (own_cr i1), iv (own_cr i2), iv (own_cr i3), rv vr_515, rv vr_518, rv b522, rv nr_531] [(.int (own_cr i0)), (.int (own_chr (((nar .char (own_cr i0)).toInt8.toInt32).toInt8.toInt32)))]
        refine XS.icmpYes X541.here hx rfl (pc0 := 137) (pc' := 142) rfl (hb hby at_137) rfl (XT.ii_eq_t (own_rt _)) (by decide) (by decide) ?_
        show Go p e below t T541 m 142 #[iv i0, iv i1, iv i2, iv i3, iv i4, iv i5, iv (1 : Int32), iv (0 : Int32), iv (own_cr i0), iv (own_cr i1), iv (own_cr i2), iv (own_cr i3), rv vr_515, rv vr_518, rv b522, rv nr_531] []
        refine XS.iload X541.here hx rfl (hb hby at_142) rfl ?_
        show Go p e below t T541 m 144 #[iv i0, iv i1, iv i2, iv i3, iv i4, iv i5, iv (1 : Int32), iv (0 : Int32), iv (own_cr i0), iv (own_cr i1), iv (own_cr i2), iv (own_cr i3), rv vr_515, rv vr_518, rv b522, rv nr_531] [(.int (1 : Int32))]
        refine XT.iconstV X541.here hx rfl (2 : Int32) (hb hby at_144) (by decide) ?_
        show Go p e below t T541 m 145 #[iv i0, iv i1, iv i2, iv i3, iv i4, iv i5, iv (1 : Int32), iv (0 : Int32), iv (own_cr i0), iv (own_cr i1), iv (own_cr i2), iv (own_cr i3), rv vr_515, rv vr_518, rv b522, rv nr_531] [(.int (2 : Int32)), (.int (1 : Int32))]
        refine XS.icmpYes X541.here hx rfl (pc0 := 145) (pc' := 161) rfl (hb hby at_145) rfl (XT.ii_lt_t (by decide)) (by decide) (by decide) ?_
        show Go p e below t T541 m 161 #[iv i0, iv i1, iv i2, iv i3, iv i4, iv i5, iv (1 : Int32), iv (0 : Int32), iv (own_cr i0), iv (own_cr i1), iv (own_cr i2), iv (own_cr i3), rv vr_515, rv vr_518, rv b522, rv nr_531] []
        refine XS.aload X541.here hx rfl (hb hby at_161) rfl rfl ?_
        show Go p e below t T541 m 163 #[iv i0, iv i1, iv i2, iv i3, iv i4, iv i5, iv (1 : Int32), iv (0 : Int32), iv (own_cr i0), iv (own_cr i1), iv (own_cr i2), iv (own_cr i3), rv vr_515, rv vr_518, rv b522, rv nr_531] [(.ref nr_531)]
        refine XS.iload X541.here hx rfl (hb hby at_163) rfl ?_
        show Go p e below t T541 m 165 #[iv i0, iv i1, iv i2, iv i3, iv i4, iv i5, iv (1 : Int32), iv (0 : Int32), iv (own_cr i0), iv (own_cr i1), iv (own_cr i2), iv (own_cr i3), rv vr_515, rv vr_518, rv b522, rv nr_531] [(.int (1 : Int32)), (.ref nr_531)]
        exact k)
      obtain ⟨cq544, kq544, q544a, q544b, q544c⟩ := isOf hZ R541_0 R531_2
      obtain ⟨_, _, ⟨T544, L544, k544, n544⟩, -, X544, ⟨Lc544, hQ544, l544, y544, z544⟩, st544⟩ := X541.virtualBack hx (y := (⟨"java/lang/String", "charAt", "(I)C"⟩ : MethodName)) (z := (⟨"java/lang/String", "charAt", "(I)C"⟩ : MethodName)) hown (mvT hZ (hw _ (List.mem_of_getElem? (i := 162) rfl))) (mvT hZ (hw _ (List.mem_of_getElem? (i := 163) rfl))) (notFace_of_selects (args := #[]) (mvT hZ (hw _ (List.mem_of_getElem? (i := 165) rfl)))) (mvT hZ (hw _ (List.mem_of_getElem? (i := 165) rfl))) (mvT hZ (hw _ (List.mem_of_getElem? (i := 164) rfl))) (by decide) (backOf (W := 0) (rm_cha l Z a0 hw [] nr_531 (1 : Int32) tb_531 tk_531 (2 : Int32) [(.int (((nar .char (own_cr i0)).toInt8.toInt32).toInt8.toInt32)), (.int (45 : Int32))] (45 : Int32) fx cz T531.heap n0 (Nat.le_trans Z0 (Nat.le_trans (Nat.le_trans (Nat.le_trans (Nat.le_trans (Nat.le_trans (Nat.le_refl _) R515_0.1) R518_0.1) E522.1) R528_0.1) R531_0.1)) R531_2 R531_3 R531_4 Vn536 (Sta.keepO (Sta.keepO ((Sta.keepO (Sta.keepO P0 R515_0 ns0) R518_0 ns0).ext E522) R528_0 (nsS (Exa.nostat A522) ns0)) R531_0 ns0) hz (Sta.keepO (Sta.keepO ((Sta.keepO (Sta.keepO P2 R515_0 ns0) R518_0 ns0).ext E522) R528_0 (nsS (Exa.nostat A522) ns0)) R531_0 ns0) hfx (by decide) (by decide) rfl) hZ (hw _ (List.mem_of_getElem? (i := 166) rfl)) (hw _ (List.mem_of_getElem? (i := 6) rfl)) (by decide) (by decide)) q544a q544c (g := (mkF m 165 #[iv i0, iv i1, iv i2, iv i3, iv i4, iv i5, iv (1 : Int32), iv (0 : Int32), iv (own_cr i0), iv (own_cr i1), iv (own_cr i2), iv (own_cr i3), rv vr_515, rv vr_518, rv b522, rv nr_531] [(.int (1 : Int32)), (.ref nr_531)])) rfl (by rw [hml]; rfl) (Steps.refl _) (argsL := [(.int (1 : Int32))]) (rest := []) (lenOf pd26 rfl) rfl (by show 2 * 0 + _ ≤ _; exact Nat.le_of_eq rfl) (hb hby at_165) (fun _ _ => ⟨rfl, R541_0, (by decide : 16 + 0 ≤ _), (by decide : 61 + 0 ≤ _)⟩)
      dsimp only [Pt.U, Pt.locs, Pt.cells, Pt.slots] at X544 l544 y544 z544 st544 hQ544
      subst l544 y544 z544
      obtain ⟨rfl, N544, R544_0⟩ := hQ544
      have M544 := Fr.app M541 N544
      have g545 : Goes p e below S0 (T544.setTop (mkF m 168 #[iv i0, iv i1, iv i2, iv i3, iv i4, iv i5, iv (1 : Int32), iv (0 : Int32), iv (own_cr i0), iv (own_cr i1), iv (own_cr i2), iv (own_cr i3), rv vr_515, rv vr_518, rv b522, rv nr_531] [(.int (own_chr (45 : Int32)))])) := fun t k => g543 t (st544.trans k)
      have g546 : Goes p e below S0 (T544.setTop (mkF m 220 #[iv i0, iv i1, iv i2, iv i3, iv i4, iv i5, iv (1 : Int32), iv (0 : Int32), iv (own_cr i0), iv (own_cr i1), iv (own_cr i2), iv (own_cr i3), rv vr_515, rv vr_518, rv b522, rv nr_531] [(.int (1 : Int32))])) := fun t k => g545 t (by
        refine XT.bipushV X544.here hx rfl (45 : Int32) (hb hby at_168) (by decide) ?_
        show Go p e below t T544 m 170 #[iv i0, iv i1, iv i2, iv i3, iv i4, iv i5, iv (1 : Int32), iv (0 : Int32), iv (own_cr i0), iv (own_cr i1), iv (own_cr i2), iv (own_cr i3), rv vr_515, rv vr_518, rv b522, rv nr_531] [(.int (45 : Int32)), (.int (own_chr (45 : Int32)))]
        refine XS.icmpYes X544.here hx rfl (pc0 := 170) (pc' := 175) rfl (hb hby at_170) rfl (XT.ii_eq_t (by decide)) (by decide) (by decide) ?_
        show Go p e below t T544 m 175 #[iv i0, iv i1, iv i2, iv i3, iv i4, iv i5, iv (1 : Int32), iv (0 : Int32), iv (own_cr i0), iv (own_cr i1), iv (own_cr i2), iv (own_cr i3), rv vr_515, rv vr_518, rv b522, rv nr_531] []
        refine XS.iload X544.here hx rfl (hb hby at_175) rfl ?_
        show Go p e below t T544 m 177 #[iv i0, iv i1, iv i2, iv i3, iv i4, iv i5, iv (1 : Int32), iv (0 : Int32), iv (own_cr i0), iv (own_cr i1), iv (own_cr i2), iv (own_cr i3), rv vr_515, rv vr_518, rv b522, rv nr_531] [(.int (0 : Int32))]
        refine XT.iconstV X544.here hx rfl (1 : Int32) (hb hby at_177) (by decide) ?_
        show Go p e below t T544 m 178 #[iv i0, iv i1, iv i2, iv i3, iv i4, iv i5, iv (1 : Int32), iv (0 : Int32), iv (own_cr i0), iv (own_cr i1), iv (own_cr i2), iv (own_cr i3), rv vr_515, rv vr_518, rv b522, rv nr_531] [(.int (1 : Int32)), (.int (0 : Int32))]
        refine XS.icmpYes X544.here hx rfl (pc0 := 178) (pc' := 197) rfl (hb hby at_178) rfl (XT.ii_lt_t (by decide)) (by decide) (by decide) ?_
        show Go p e below t T544 m 197 #[iv i0, iv i1, iv i2, iv i3, iv i4, iv i5, iv (1 : Int32), iv (0 : Int32), iv (own_cr i0), iv (own_cr i1), iv (own_cr i2), iv (own_cr i3), rv vr_515, rv vr_518, rv b522, rv nr_531] []
        refine XS.iload X544.here hx rfl (hb hby at_197) rfl ?_
        show Go p e below t T544 m 199 #[iv i0, iv i1, iv i2, iv i3, iv i4, iv i5, iv (1 : Int32), iv (0 : Int32), iv (own_cr i0), iv (own_cr i1), iv (own_cr i2), iv (own_cr i3), rv vr_515, rv vr_518, rv b522, rv nr_531] [(.int (0 : Int32))]
        refine XT.iconstV X544.here hx rfl (2 : Int32) (hb hby at_199) (by decide) ?_
        show Go p e below t T544 m 200 #[iv i0, iv i1, iv i2, iv i3, iv i4, iv i5, iv (1 : Int32), iv (0 : Int32), iv (own_cr i0), iv (own_cr i1), iv (own_cr i2), iv (own_cr i3), rv vr_515, rv vr_518, rv b522, rv nr_531] [(.int (2 : Int32)), (.int (0 : Int32))]
        refine XS.icmpYes X544.here hx rfl (pc0 := 200) (pc' := 219) rfl (hb hby at_200) rfl (XT.ii_lt_t (by decide)) (by decide) (by decide) ?_
        show Go p e below t T544 m 219 #[iv i0, iv i1, iv i2, iv i3, iv i4, iv i5, iv (1 : Int32), iv (0 : Int32), iv (own_cr i0), iv (own_cr i1), iv (own_cr i2), iv (own_cr i3), rv vr_515, rv vr_518, rv b522, rv nr_531] []
        refine XT.iconstV X544.here hx rfl (1 : Int32) (hb hby at_219) (by decide) ?_
        show Go p e below t T544 m 220 #[iv i0, iv i1, iv i2, iv i3, iv i4, iv i5, iv (1 : Int32), iv (0 : Int32), iv (own_cr i0), iv (own_cr i1), iv (own_cr i2), iv (own_cr i3), rv vr_515, rv vr_518, rv b522, rv nr_531] [(.int (1 : Int32))]
        exact k)
      obtain ⟨fs, hr, hrun, hended, hE1, hE2, hE3, hE4⟩ := Stand.leaveW (s := s) (vm₁ := T531.vm) X544 so531 (by rw [R544_0]; exact (Nat.le_refl _)) (v := some (.int (1 : Int32))) (fun h => by rw [Bd.returns] at h; cases h)
      refine ⟨_, _, g546 _ (retN X544 hx (t := .boolean) Bd.returns (by simp) (hb hby at_220) hr), hrun, hended, _, _, rfl, ?_, hE1, hE2, hE3, hE4.mono (by decide) (by decide)⟩
      show Q_law Z i0 i1 i2 i3 i4 i5 cz fx h0 n0 _ T544.heap _
      rw [R544_0]
      exact ⟨rfl, M544⟩
    · skip
      have g547 : Goes p e below S0 (s₁.setTop (mkF m 56 #[iv i0, iv i1, iv i2, iv i3, iv i4, iv i5, iv (1 : Int32), iv (1 : Int32), iv (own_cr i0), iv (own_cr i1), iv (own_cr i2), iv (own_cr i3), .unset, .unset, .unset, .unset] [(.int (own_cr i1)), (.int (own_cr i0)), (.int (1 : Int32))])) := fun t k => g414 t (by
        refine XS.iload X0.here hx rfl (hb hby at_50) rfl ?_
        show Go p e below t s₁ m 52 #[iv i0, iv i1, iv i2, iv i3, iv i4, iv i5, iv (1 : Int32), iv (1 : Int32), iv (own_cr i0), iv (own_cr i1), iv (own_cr i2), iv (own_cr i3), .unset, .unset, .unset, .unset] [(.int (1 : Int32))]
        refine XS.iload X0.here hx rfl (hb hby at_52) rfl ?_
        show Go p e below t s₁ m 54 #[iv i0, iv i1, iv i2, iv i3, iv i4, iv i5, iv (1 : Int32), iv (1 : Int32), iv (own_cr i0), iv (own_cr i1), iv (own_cr i2), iv (own_cr i3), .unset, .unset, .unset, .unset] [(.int (own_cr i0)), (.int (1 : Int32))]
        refine XS.iload X0.here hx rfl (hb hby at_54) rfl ?_
        show Go p e below t s₁ m 56 #[iv i0, iv i1, iv i2, iv i3, iv i4, iv i5, iv (1 : Int32), iv (1 : Int32), iv (own_cr i0), iv (own_cr i1), iv (own_cr i2), iv (own_cr i3), .unset, .unset, .unset, .unset] [(.int (own_cr i1)), (.int (own_cr i0)), (.int (1 : Int32))]
        exact k)
      obtain ⟨_, _, ⟨T548, L548, k548, n548⟩, -, X548, ⟨Lc548, hQ548, l548, y548, z548⟩, st548⟩ := Jvm.LawKit.callS X0 hx (y := (⟨"com/example/forager/forager/RoadNamePinLaw", "mk", "(ICC)Ljava/lang/String;"⟩ : MethodName)) hown (mvT hZ (hw _ (List.mem_of_getElem? (i := 0) rfl))) (mvT hZ (hw _ (List.mem_of_getElem? (i := 1) rfl))) (mvT hZ (hw _ (List.mem_of_getElem? (i := 2) rfl))) (mvT hZ (hw _ (List.mem_of_getElem? (i := 3) rfl))) (by decide) (backOf (W := 0) (rm_mk1 l Z a0 hw [] (1 : Int32) (own_cr i0) (own_cr i1) cz h0 n0 Z0 P0 hz rfl (own_ch _)) hZ (hw _ (List.mem_of_getElem? (i := 3) rfl)) (hw _ (List.mem_of_getElem? (i := 2) rfl)) (by decide) (by decide)) (g := (mkF m 56 #[iv i0, iv i1, iv i2, iv i3, iv i4, iv i5, iv (1 : Int32), iv (1 : Int32), iv (own_cr i0), iv (own_cr i1), iv (own_cr i2), iv (own_cr i3), .unset, .unset, .unset, .unset] [(.int (own_cr i1)), (.int (own_cr i0)), (.int (1 : Int32))])) rfl (by rw [hml]; rfl) (argsL := [(.int (1 : Int32)), (.int (own_cr i0)), (.int (own_cr i1))]) (rest := []) (lenOf pd7 rfl) rfl (by show 2 * 0 + _ ≤ _; exact Nat.le_of_eq rfl) (hb hby at_56) (fun _ _ => ⟨rfl, e0, (by decide : 0 + 3 ≤ _), (by decide : 0 + 6 ≤ _)⟩)
      dsimp only [Pt.U, Pt.locs, Pt.cells, Pt.slots] at X548 l548 y548 z548 st548 hQ548
      subst l548 y548 z548
      obtain ⟨vr_548, tb_548, tk_548, rfl, N548, R548_0, R548_1, R548_2, R548_3, R548_4, R548_5⟩ := hQ548
      have M548 := Fr.app N0 N548
      have sz548_1 : h0.size ≤ vr_548 := Nat.le_trans (Nat.le_refl _) R548_1
      have ng548_1 : n0 ≤ vr_548 := Nat.le_trans Z0 sz548_1
      have g549 : Goes p e below S0 (T548.setTop (mkF m 59 #[iv i0, iv i1, iv i2, iv i3, iv i4, iv i5, iv (1 : Int32), iv (1 : Int32), iv (own_cr i0), iv (own_cr i1), iv (own_cr i2), iv (own_cr i3), .unset, .unset, .unset, .unset] [(.ref vr_548)])) := fun t k => g547 t (st548 t k)
      have g550 : Goes p e below S0 (T548.setTop (mkF m 67 #[iv i0, iv i1, iv i2, iv i3, iv i4, iv i5, iv (1 : Int32), iv (1 : Int32), iv (own_cr i0), iv (own_cr i1), iv (own_cr i2), iv (own_cr i3), rv vr_548, .unset, .unset, .unset] [(.int (own_cr i3)), (.int (own_cr i2)), (.int (1 : Int32))])) := fun t k => g549 t (by
        refine XS.astore X548.here hx rfl (hb hby at_59) rfl rfl (l' := #[iv i0, iv i1, iv i2, iv i3, iv i4, iv i5, iv (1 : Int32), iv (1 : Int32), iv (own_cr i0), iv (own_cr i1), iv (own_cr i2), iv (own_cr i3), rv vr_548, .unset, .unset, .unset]) rfl ?_
        show Go p e below t T548 m 61 #[iv i0, iv i1, iv i2, iv i3, iv i4, iv i5, iv (1 : Int32), iv (1 : Int32), iv (own_cr i0), iv (own_cr i1), iv (own_cr i2), iv (own_cr i3), rv vr_548, .unset, .unset, .unset] []
        refine XS.iload X548.here hx rfl (hb hby at_61) rfl ?_
        show Go p e below t T548 m 63 #[iv i0, iv i1, iv i2, iv i3, iv i4, iv i5, iv (1 : Int32), iv (1 : Int32), iv (own_cr i0), iv (own_cr i1), iv (own_cr i2), iv (own_cr i3), rv vr_548, .unset, .unset, .unset] [(.int (1 : Int32))]
        refine XS.iload X548.here hx rfl (hb hby at_63) rfl ?_
        show Go p e below t T548 m 65 #[iv i0, iv i1, iv i2, iv i3, iv i4, iv i5, iv (1 : Int32), iv (1 : Int32), iv (own_cr i0), iv (own_cr i1), iv (own_cr i2), iv (own_cr i3), rv vr_548, .unset, .unset, .unset] [(.int (own_cr i2)), (.int (1 : Int32))]
        refine XS.iload X548.here hx rfl (hb hby at_65) rfl ?_
        show Go p e below t T548 m 67 #[iv i0, iv i1, iv i2, iv i3, iv i4, iv i5, iv (1 : Int32), iv (1 : Int32), iv (own_cr i0), iv (own_cr i1), iv (own_cr i2), iv (own_cr i3), rv vr_548, .unset, .unset, .unset] [(.int (own_cr i3)), (.int (own_cr i2)), (.int (1 : Int32))]
        exact k)
      obtain ⟨_, _, ⟨T551, L551, k551, n551⟩, -, X551, ⟨Lc551, hQ551, l551, y551, z551⟩, st551⟩ := Jvm.LawKit.callS X548 hx (y := (⟨"com/example/forager/forager/RoadNamePinLaw", "mk", "(ICC)Ljava/lang/String;"⟩ : MethodName)) hown (mvT hZ (hw _ (List.mem_of_getElem? (i := 0) rfl))) (mvT hZ (hw _ (List.mem_of_getElem? (i := 1) rfl))) (mvT hZ (hw _ (List.mem_of_getElem? (i := 2) rfl))) (mvT hZ (hw _ (List.mem_of_getElem? (i := 3) rfl))) (by decide) (backOf (W := 0) (rm_mk1 l Z a0 hw [] (1 : Int32) (own_cr i2) (own_cr i3) cz T548.heap n0 (Nat.le_trans Z0 (Nat.le_trans (Nat.le_refl _) R548_0.1)) (Sta.keepO P0 R548_0 ns0) hz rfl (own_ch _)) hZ (hw _ (List.mem_of_getElem? (i := 3) rfl)) (hw _ (List.mem_of_getElem? (i := 2) rfl)) (by decide) (by decide)) (g := (mkF m 67 #[iv i0, iv i1, iv i2, iv i3, iv i4, iv i5, iv (1 : Int32), iv (1 : Int32), iv (own_cr i0), iv (own_cr i1), iv (own_cr i2), iv (own_cr i3), rv vr_548, .unset, .unset, .unset] [(.int (own_cr i3)), (.int (own_cr i2)), (.int (1 : Int32))])) rfl (by rw [hml]; rfl) (argsL := [(.int (1 : Int32)), (.int (own_cr i2)), (.int (own_cr i3))]) (rest := []) (lenOf pd7 rfl) rfl (by show 2 * 0 + _ ≤ _; exact Nat.le_of_eq rfl) (hb hby at_67) (fun _ _ => ⟨rfl, rfl, (by decide : 3 + 3 ≤ _), (by decide : 6 + 6 ≤ _)⟩)
      dsimp only [Pt.U, Pt.locs, Pt.cells, Pt.slots] at X551 l551 y551 z551 st551 hQ551
      subst l551 y551 z551
      obtain ⟨vr_551, tb_551, tk_551, rfl, N551, R551_0, R551_1, R551_2, R551_3, R551_4, R551_5⟩ := hQ551
      have M551 := Fr.app M548 N551
      have sz551_1 : h0.size ≤ vr_551 := Nat.le_trans (Nat.le_trans (Nat.le_refl _) R548_0.1) R551_1
      have ng551_1 : n0 ≤ vr_551 := Nat.le_trans Z0 sz551_1
      have g552 : Goes p e below S0 (T551.setTop (mkF m 70 #[iv i0, iv i1, iv i2, iv i3, iv i4, iv i5, iv (1 : Int32), iv (1 : Int32), iv (own_cr i0), iv (own_cr i1), iv (own_cr i2), iv (own_cr i3), rv vr_548, .unset, .unset, .unset] [(.ref vr_551)])) := fun t k => g550 t (st551 t k)
      have g553 : Goes p e below S0 (T551.setTop (mkF m 72 #[iv i0, iv i1, iv i2, iv i3, iv i4, iv i5, iv (1 : Int32), iv (1 : Int32), iv (own_cr i0), iv (own_cr i1), iv (own_cr i2), iv (own_cr i3), rv vr_548, rv vr_551, .unset, .unset] [])) := fun t k => g552 t (by
        refine XS.astore X551.here hx rfl (hb hby at_70) rfl rfl (l' := #[iv i0, iv i1, iv i2, iv i3, iv i4, iv i5, iv (1 : Int32), iv (1 : Int32), iv (own_cr i0), iv (own_cr i1), iv (own_cr i2), iv (own_cr i3), rv vr_548, rv vr_551, .unset, .unset]) rfl ?_
        show Go p e below t T551 m 72 #[iv i0, iv i1, iv i2, iv i3, iv i4, iv i5, iv (1 : Int32), iv (1 : Int32), iv (own_cr i0), iv (own_cr i1), iv (own_cr i2), iv (own_cr i3), rv vr_548, rv vr_551, .unset, .unset] []
        exact k)
      obtain ⟨T554, h554, X554, e554, E554, A554, D554, -, st554⟩ := newO X551 hx hZ hown (hw _ (List.mem_of_getElem? (i := 26) rfl)) (hw _ (List.mem_of_getElem? (i := 27) rfl)) (hw _ (List.mem_of_getElem? (i := 28) rfl)) rfl (g := (mkF m 72 #[iv i0, iv i1, iv i2, iv i3, iv i4, iv i5, iv (1 : Int32), iv (1 : Int32), iv (own_cr i0), iv (own_cr i1), iv (own_cr i2), iv (own_cr i3), rv vr_548, rv vr_551, .unset, .unset] [])) rfl (hb hby at_72) (by decide) (by decide)
      obtain ⟨b554, gb554⟩ : ∃ z, z = T551.heap.size := ⟨_, rfl⟩
      have sz554 : h0.size ≤ b554 := Nat.le_trans (Nat.le_trans (Nat.le_trans (Nat.le_refl _) R548_0.1) R551_0.1) (Nat.le_of_eq gb554.symm)
      have ng554 : n0 ≤ b554 := Nat.le_trans Z0 sz554
      rw [← gb554] at A554 D554 st554
      have F554_555 : Fld Z h554 b554 "com/example/forager/forager/Road" "from" "Ljava/lang/String;" .null := D554 (Or.inr (hw _ (List.mem_of_getElem? (i := 39) rfl))) (ty := (.object "java/lang/String")) (by decide)
      have F554_556 : Fld Z h554 b554 "com/example/forager/forager/Road" "to" "Ljava/lang/String;" .null := D554 (Or.inr (hw _ (List.mem_of_getElem? (i := 41) rfl))) (ty := (.object "java/lang/String")) (by decide)
      have F554_557 : Fld Z h554 b554 "com/example/forager/forager/Road" "length" "D" (.double (0 : UInt64)) := D554 (Or.inr (hw _ (List.mem_of_getElem? (i := 43) rfl))) (ty := .double) (by decide)
      have g558 : Goes p e below S0 (T554.setTop (mkF m 75 #[iv i0, iv i1, iv i2, iv i3, iv i4, iv i5, iv (1 : Int32), iv (1 : Int32), iv (own_cr i0), iv (own_cr i1), iv (own_cr i2), iv (own_cr i3), rv vr_548, rv vr_551, .unset, .unset] [(.ref b554)])) := fun t k => g553 t (st554 t k)
      have g559 : Goes p e below S0 (T554.setTop (mkF m 87 #[iv i0, iv i1, iv i2, iv i3, iv i4, iv i5, iv (1 : Int32), iv (1 : Int32), iv (own_cr i0), iv (own_cr i1), iv (own_cr i2), iv (own_cr i3), rv vr_548, rv vr_551, .unset, .unset] [(.double (FP.i2d (i5 &&& (1023 : Int32)))), (.ref vr_551), (.ref vr_548), (.ref b554), (.ref b554)])) := fun t k => g558 t (by
        refine XS.dup X554.here hx rfl (hb hby at_75) rfl rfl ?_
        show Go p e below t T554 m 76 #[iv i0, iv i1, iv i2, iv i3, iv i4, iv i5, iv (1 : Int32), iv (1 : Int32), iv (own_cr i0), iv (own_cr i1), iv (own_cr i2), iv (own_cr i3), rv vr_548, rv vr_551, .unset, .unset] [(.ref b554), (.ref b554)]
        refine XS.aload X554.here hx rfl (hb hby at_76) rfl rfl ?_
        show Go p e below t T554 m 78 #[iv i0, iv i1, iv i2, iv i3, iv i4, iv i5, iv (1 : Int32), iv (1 : Int32), iv (own_cr i0), iv (own_cr i1), iv (own_cr i2), iv (own_cr i3), rv vr_548, rv vr_551, .unset, .unset] [(.ref vr_548), (.ref b554), (.ref b554)]
        refine XS.aload X554.here hx rfl (hb hby at_78) rfl rfl ?_
        show Go p e below t T554 m 80 #[iv i0, iv i1, iv i2, iv i3, iv i4, iv i5, iv (1 : Int32), iv (1 : Int32), iv (own_cr i0), iv (own_cr i1), iv (own_cr i2), iv (own_cr i3), rv vr_548, rv vr_551, .unset, .unset] [(.ref vr_551), (.ref vr_548), (.ref b554), (.ref b554)]
        refine XS.iload X554.here hx rfl (hb hby at_80) rfl ?_
        show Go p e below t T554 m 82 #[iv i0, iv i1, iv i2, iv i3, iv i4, iv i5, iv (1 : Int32), iv (1 : Int32), iv (own_cr i0), iv (own_cr i1), iv (own_cr i2), iv (own_cr i3), rv vr_548, rv vr_551, .unset, .unset] [(.int i5), (.ref vr_551), (.ref vr_548), (.ref b554), (.ref b554)]
        refine XT.sipushV X554.here hx rfl (1023 : Int32) (hb hby at_82) (by decide) ?_
        show Go p e below t T554 m 85 #[iv i0, iv i1, iv i2, iv i3, iv i4, iv i5, iv (1 : Int32), iv (1 : Int32), iv (own_cr i0), iv (own_cr i1), iv (own_cr i2), iv (own_cr i3), rv vr_548, rv vr_551, .unset, .unset] [(.int (1023 : Int32)), (.int i5), (.ref vr_551), (.ref vr_548), (.ref b554), (.ref b554)]
        refine XS.iand X554.here hx rfl (hb hby at_85) rfl ?_
        show Go p e below t T554 m 86 #[iv i0, iv i1, iv i2, iv i3, iv i4, iv i5, iv (1 : Int32), iv (1 : Int32), iv (own_cr i0), iv (own_cr i1), iv (own_cr i2), iv (own_cr i3), rv vr_548, rv vr_551, .unset, .unset] [(.int (i5 &&& (1023 : Int32))), (.ref vr_551), (.ref vr_548), (.ref b554), (.ref b554)]
        refine XS.i2dS X554.here hx rfl (hb hby at_86) rfl rfl ?_
        show Go p e below t T554 m 87 #[iv i0, iv i1, iv i2, iv i3, iv i4, iv i5, iv (1 : Int32), iv (1 : Int32), iv (own_cr i0), iv (own_cr i1), iv (own_cr i2), iv (own_cr i3), rv vr_548, rv vr_551, .unset, .unset] [(.double (FP.i2d (i5 &&& (1023 : Int32)))), (.ref vr_551), (.ref vr_548), (.ref b554), (.ref b554)]
        exact k)
      obtain ⟨_, _, ⟨T560, L560, k560, n560⟩, -, X560, ⟨Lc560, hQ560, l560, y560, z560⟩, st560⟩ := X554.specialBack hx (y := (⟨"com/example/forager/forager/Road", "<init>", "(Ljava/lang/String;Ljava/lang/String;D)V"⟩ : MethodName)) rfl hown (mvT hZ (hw _ (List.mem_of_getElem? (i := 29) rfl))) (mvT hZ (hw _ (List.mem_of_getElem? (i := 30) rfl))) (mvT hZ (hw _ (List.mem_of_getElem? (i := 31) rfl))) (by decide) (backOf (W := 1) (rm_ri l Z a0 hw [] b554 vr_548 vr_551 (FP.i2d (i5 &&& (1023 : Int32)))  h554 n0 (Nat.le_trans Z0 (Nat.le_trans (Nat.le_trans (Nat.le_trans (Nat.le_refl _) R548_0.1) R551_0.1) E554.1)) A554 F554_555 F554_556 F554_557 ng554) hZ (hw _ (List.mem_of_getElem? (i := 31) rfl)) (hw _ (List.mem_of_getElem? (i := 28) rfl)) (by decide) (by decide)) (g := (mkF m 87 #[iv i0, iv i1, iv i2, iv i3, iv i4, iv i5, iv (1 : Int32), iv (1 : Int32), iv (own_cr i0), iv (own_cr i1), iv (own_cr i2), iv (own_cr i3), rv vr_548, rv vr_551, .unset, .unset] [(.double (FP.i2d (i5 &&& (1023 : Int32)))), (.ref vr_551), (.ref vr_548), (.ref b554), (.ref b554)])) rfl (by rw [hml]; rfl) (Steps.refl _) (a := b554) (argsL := [(.ref vr_548), (.ref vr_551), (.double (FP.i2d (i5 &&& (1023 : Int32))))]) (rest := [(.ref b554)]) (lenOf pd9 rfl) rfl (by show 2 * 0 + _ ≤ _; exact Nat.le_of_eq rfl) (hb hby at_87) (fun _ _ => ⟨rfl, e554, (by decide : 7 + 0 ≤ _), (by decide : 15 + 0 ≤ _)⟩)
      dsimp only [Pt.U, Pt.locs, Pt.cells, Pt.slots] at X560 l560 y560 z560 st560 hQ560
      subst l560 y560 z560
      obtain ⟨rfl, N560, R560_0, R560_1, R560_2, R560_3⟩ := hQ560
      have M560 := Fr.app M551 N560
      have g561 : Goes p e below S0 (T560.setTop (mkF m 90 #[iv i0, iv i1, iv i2, iv i3, iv i4, iv i5, iv (1 : Int32), iv (1 : Int32), iv (own_cr i0), iv (own_cr i1), iv (own_cr i2), iv (own_cr i3), rv vr_548, rv vr_551, .unset, .unset] [(.ref b554)])) := fun t k => g559 t (st560.trans k)
      have g562 : Goes p e below S0 (T560.setTop (mkF m 94 #[iv i0, iv i1, iv i2, iv i3, iv i4, iv i5, iv (1 : Int32), iv (1 : Int32), iv (own_cr i0), iv (own_cr i1), iv (own_cr i2), iv (own_cr i3), rv vr_548, rv vr_551, rv b554, .unset] [(.ref b554)])) := fun t k => g561 t (by
        refine XS.astore X560.here hx rfl (hb hby at_90) rfl rfl (l' := #[iv i0, iv i1, iv i2, iv i3, iv i4, iv i5, iv (1 : Int32), iv (1 : Int32), iv (own_cr i0), iv (own_cr i1), iv (own_cr i2), iv (own_cr i3), rv vr_548, rv vr_551, rv b554, .unset]) rfl ?_
        show Go p e below t T560 m 92 #[iv i0, iv i1, iv i2, iv i3, iv i4, iv i5, iv (1 : Int32), iv (1 : Int32), iv (own_cr i0), iv (own_cr i1), iv (own_cr i2), iv (own_cr i3), rv vr_548, rv vr_551, rv b554, .unset] []
        refine XS.aload X560.here hx rfl (hb hby at_92) rfl rfl ?_
        show Go p e below t T560 m 94 #[iv i0, iv i1, iv i2, iv i3, iv i4, iv i5, iv (1 : Int32), iv (1 : Int32), iv (own_cr i0), iv (own_cr i1), iv (own_cr i2), iv (own_cr i3), rv vr_548, rv vr_551, rv b554, .unset] [(.ref b554)]
        exact k)
      obtain ⟨cq563, kq563, q563a, q563b, q563c⟩ := isOf hZ rfl R560_1
      have hs564 : ∀ x ∈ ([] : List Addr), Safe Z consts_1 s.vm h0 x := sf0
      have ch564 := ch0.trans (CHr.keep R548_0 hs564 ch0.1)
      have hs565 : ∀ x ∈ ([] : List Addr), Safe Z consts_1 s.vm T548.heap x := sf0
      have ch565 := ch564.trans (CHr.keep R551_0 hs565 ch564.1)
      have ch566 := ch565.trans (CHr.ext E554 ch565.1)
      have hs567 : ∀ x ∈ ([b554] : List Addr), Safe Z consts_1 s.vm h554 x := (sfS (Safe.exa hZ.alike A554 (by decide) (by decide)) sf0)
      have ch567 := ch566.trans (CHr.keep R560_0 hs567 ch566.1)
      obtain ⟨_, _, ⟨T563, L563, k563, n563⟩, -, X563, sn563, gr563, ⟨Lc563, hQ563, l563, y563, z563, cr563⟩, st563⟩ := X560.virtualBackS hx (y := (⟨"com/example/forager/forager/Road", "name", "()Ljava/lang/String;"⟩ : MethodName)) (z := (⟨"com/example/forager/forager/Road", "name", "()Ljava/lang/String;"⟩ : MethodName)) hown (mvT hZ (hw _ (List.mem_of_getElem? (i := 44) rfl))) (mvT hZ (hw _ (List.mem_of_getElem? (i := 45) rfl))) (notFace_of_selects (args := #[]) (mvT hZ (hw _ (List.mem_of_getElem? (i := 47) rfl)))) (mvT hZ (hw _ (List.mem_of_getElem? (i := 47) rfl))) (mvT hZ (hw _ (List.mem_of_getElem? (i := 46) rfl))) (by decide) (own_backH (s := s) (vm0 := s.vm) (W := 0) (rm_nam l Z a0 hw [] b554 vr_548 vr_551 tb_548 tk_548 (1 : Int32) [(.int (((nar .char (own_cr i0)).toInt8.toInt32).toInt8.toInt32))] tb_551 tk_551 (1 : Int32) [(.int (((nar .char (own_cr i2)).toInt8.toInt32).toInt8.toInt32))] cz T560.heap n0 (Nat.le_trans Z0 (Nat.le_trans (Nat.le_trans (Nat.le_trans (Nat.le_trans (Nat.le_refl _) R548_0.1) R551_0.1) E554.1) R560_0.1)) R560_2 R560_3 (((R548_2.keep R551_0).ext E554).keep R560_0) (((R548_3.keep R551_0 nin0).ext E554).keep R560_0 (ninS (Nat.ne_of_lt (Nat.lt_of_lt_of_le (R548_2.keep R551_0).lt (Nat.le_of_eq gb554.symm))) nin0)) (((R548_4.keep R551_0 nin0).ext E554).keep R560_0 (ninS (Nat.ne_of_lt (Nat.lt_of_lt_of_le (R548_2.keep R551_0).lt (Nat.le_of_eq gb554.symm))) nin0)) (((R548_5.keep R551_0 nin0).ext E554).keep R560_0 (ninS (Nat.ne_of_lt (Nat.lt_of_lt_of_le (R548_5.keep R551_0 nin0).lt (Nat.le_of_eq gb554.symm))) nin0)) ((R551_2.ext E554).keep R560_0) ((R551_3.ext E554).keep R560_0 (ninS (Nat.ne_of_lt (Nat.lt_of_lt_of_le R551_2.lt (Nat.le_of_eq gb554.symm))) nin0)) ((R551_4.ext E554).keep R560_0 (ninS (Nat.ne_of_lt (Nat.lt_of_lt_of_le R551_2.lt (Nat.le_of_eq gb554.symm))) nin0)) ((R551_5.ext E554).keep R560_0 (ninS (Nat.ne_of_lt (Nat.lt_of_lt_of_le R551_5.lt (Nat.le_of_eq gb554.symm))) nin0)) (Sta.keepO ((Sta.keepO (Sta.keepO P0 R548_0 ns0) R551_0 ns0).ext E554) R560_0 (nsS (Exa.nostat A554) ns0)) hz ⟨by decide, rfl⟩ ⟨by decide, rfl⟩) hZ (hw _ (List.mem_of_getElem? (i := 48) rfl)) (hw _ (List.mem_of_getElem? (i := 28) rfl)) (by decide) (by decide) hEL ch567.1 all0) q563a q563c (g := (mkF m 94 #[iv i0, iv i1, iv i2, iv i3, iv i4, iv i5, iv (1 : Int32), iv (1 : Int32), iv (own_cr i0), iv (own_cr i1), iv (own_cr i2), iv (own_cr i3), rv vr_548, rv vr_551, rv b554, .unset] [(.ref b554)])) rfl (by rw [hml]; rfl) (Steps.refl _) (argsL := []) (rest := []) (lenOf pd23 rfl) rfl (by show 2 * 0 + _ ≤ _; exact Nat.le_of_eq rfl) (hb hby at_94) (fun _ _ => ⟨rfl, rfl, (by decide : 7 + 6 ≤ _), (by decide : 15 + 40 ≤ _)⟩)
      dsimp only [Pt.U, Pt.locs, Pt.cells, Pt.slots] at X563 sn563 gr563 l563 y563 z563 cr563 st563 hQ563
      subst l563 y563 z563
      obtain ⟨Y563, so563, hZ, hown⟩ := rebS (s := s) (vm0 := s.vm) ((State.WarmedH.refl s).since 0) (Nat.le_trans (Nat.le_trans (Nat.le_trans (Nat.le_trans (Nat.zero_le _) R548_0.1) R551_0.1) E554.1) R560_0.1) X563 sn563 gr563 hZ hown
      obtain ⟨nr_563, tb_563, tk_563, rfl, N563, R563_0, R563_1, R563_2, R563_3, R563_4, R563_5⟩ := hQ563
      have M563 := Fr.app M560 N563
      have sz563_1 : h0.size ≤ nr_563 := Nat.le_trans (Nat.le_trans (Nat.le_trans (Nat.le_trans (Nat.le_trans (Nat.le_refl _) R548_0.1) R551_0.1) E554.1) R560_0.1) R563_1
      have ng563_1 : n0 ≤ nr_563 := Nat.le_trans Z0 sz563_1
      have g568 : Goes p e below S0 (T563.setTop (mkF m 97 #[iv i0, iv i1, iv i2, iv i3, iv i4, iv i5, iv (1 : Int32), iv (1 : Int32), iv (own_cr i0), iv (own_cr i1), iv (own_cr i2), iv (own_cr i3), rv vr_548, rv vr_551, rv b554, .unset] [(.ref nr_563)])) := fun t k => g562 t (st563.trans k)
      have Vn569 : Arv Z T563.heap tb_563 tk_563 .byte (3 : Int32) [(.int (((nar .char (own_cr i0)).toInt8.toInt32).toInt8.toInt32)), (.int (45 : Int32)), (.int (((nar .char (own_cr i2)).toInt8.toInt32).toInt8.toInt32))] (.int (0 : Int32)) := own_nmA11 R563_5
      have g570 : Goes p e below S0 (T563.setTop (mkF m 108 #[iv i0, iv i1, iv i2, iv i3, iv i4, iv i5, iv (1 : Int32), iv (1 : Int32), iv (own_cr i0), iv (own_cr i1), iv (own_cr i2), iv (own_cr i3), rv vr_548, rv vr_551, rv b554, rv nr_563] [(.ref nr_563)])) := fun t k => g568 t (by
        refine XS.astore Y563.here hx rfl (hb hby at_97) rfl rfl (l' := #[iv i0, iv i1, iv i2, iv i3, iv i4, iv i5, iv (1 : Int32), iv (1 : Int32), iv (own_cr i0), iv (own_cr i1), iv (own_cr i2), iv (own_cr i3), rv vr_548, rv vr_551, rv b554, rv nr_563]) rfl ?_
        show Go p e below t T563 m 99 #[iv i0, iv i1, iv i2, iv i3, iv i4, iv i5, iv (1 : Int32), iv (1 : Int32), iv (own_cr i0), iv (own_cr i1), iv (own_cr i2), iv (own_cr i3), rv vr_548, rv vr_551, rv b554, rv nr_563] []
        refine XS.aload Y563.here hx rfl (hb hby at_99) rfl rfl ?_
        show Go p e below t T563 m 101 #[iv i0, iv i1, iv i2, iv i3, iv i4, iv i5, iv (1 : Int32), iv (1 : Int32), iv (own_cr i0), iv (own_cr i1), iv (own_cr i2), iv (own_cr i3), rv vr_548, rv vr_551, rv b554, rv nr_563] [(.ref nr_563)]
        refine XS.ifnonnullYes Y563.here hx rfl (pc0 := 101) (pc' := 106) rfl (hb hby at_101) rfl (by decide) (by decide) ?_
        show Go p e below t T563 m 106 #[iv i0, iv i1, iv i2, iv i3, iv i4, iv i5, iv (1 : Int32), iv (1 : Int32), iv (own_cr i0), iv (own_cr i1), iv (own_cr i2), iv (own_cr i3), rv vr_548, rv vr_551, rv b554, rv nr_563] []
        refine XS.aload Y563.here hx rfl (hb hby at_106) rfl rfl ?_
        show Go p e below t T563 m 108 #[iv i0, iv i1, iv i2, iv i3, iv i4, iv i5, iv (1 : Int32), iv (1 : Int32), iv (own_cr i0), iv (own_cr i1), iv (own_cr i2), iv (own_cr i3), rv vr_548, rv vr_551, rv b554, rv nr_563] [(.ref nr_563)]
        exact k)
      obtain ⟨cq571, kq571, q571a, q571b, q571c⟩ := isOf hZ rfl R563_2
      obtain ⟨_, _, ⟨T571, L571, k571, n571⟩, -, X571, ⟨Lc571, hQ571, l571, y571, z571⟩, st571⟩ := Y563.virtualBack hx (y := (⟨"java/lang/String", "length", "()I"⟩ : MethodName)) (z := (⟨"java/lang/String", "length", "()I"⟩ : MethodName)) hown (mvT hZ (hw _ (List.mem_of_getElem? (i := 161) rfl))) (mvT hZ (hw _ (List.mem_of_getElem? (i := 78) rfl))) (notFace_of_selects (args := #[]) (mvT hZ (hw _ (List.mem_of_getElem? (i := 80) rfl)))) (mvT hZ (hw _ (List.mem_of_getElem? (i := 80) rfl))) (mvT hZ (hw _ (List.mem_of_getElem? (i := 79) rfl))) (by decide) (backOf (W := 0) (rm_len l Z a0 hw [] nr_563 tb_563 tk_563 (3 : Int32) [(.int (((nar .char (own_cr i0)).toInt8.toInt32).toInt8.toInt32)), (.int (45 : Int32)), (.int (((nar .char (own_cr i2)).toInt8.toInt32).toInt8.toInt32))] cz T563.heap n0 (Nat.le_trans Z0 (Nat.le_trans (Nat.le_trans (Nat.le_trans (Nat.le_trans (Nat.le_trans (Nat.le_refl _) R548_0.1) R551_0.1) E554.1) R560_0.1) R563_0.1)) R563_2 R563_3 R563_4 Vn569 (Sta.keepO (Sta.keepO ((Sta.keepO (Sta.keepO P0 R548_0 ns0) R551_0 ns0).ext E554) R560_0 (nsS (Exa.nostat A554) ns0)) R563_0 ns0) hz) hZ (hw _ (List.mem_of_getElem? (i := 81) rfl)) (hw _ (List.mem_of_getElem? (i := 6) rfl)) (by decide) (by decide)) q571a q571c (g := (mkF m 108 #[iv i0, iv i1, iv i2, iv i3, iv i4, iv i5, iv (1 : Int32), iv (1 : Int32), iv (own_cr i0), iv (own_cr i1), iv (own_cr i2), iv (own_cr i3), rv vr_548, rv vr_551, rv b554, rv nr_563] [(.ref nr_563)])) rfl (by rw [hml]; rfl) (Steps.refl _) (argsL := []) (rest := []) (lenOf pd1 rfl) rfl (by show 2 * 0 + _ ≤ _; exact Nat.le_of_eq rfl) (hb hby at_108) (fun _ _ => ⟨rfl, rfl, (by decide : 13 + 0 ≤ _), (by decide : 55 + 0 ≤ _)⟩)
      dsimp only [Pt.U, Pt.locs, Pt.cells, Pt.slots] at X571 l571 y571 z571 st571 hQ571
      subst l571 y571 z571
      obtain ⟨rfl, N571, R571_0⟩ := hQ571
      have M571 := Fr.app M563 N571
      have g572 : Goes p e below S0 (T571.setTop (mkF m 111 #[iv i0, iv i1, iv i2, iv i3, iv i4, iv i5, iv (1 : Int32), iv (1 : Int32), iv (own_cr i0), iv (own_cr i1), iv (own_cr i2), iv (own_cr i3), rv vr_548, rv vr_551, rv b554, rv nr_563] [(.int (3 : Int32))])) := fun t k => g570 t (st571.trans k)
      have g573 : Goes p e below S0 (T571.setTop (mkF m 132 #[iv i0, iv i1, iv i2, iv i3, iv i4, iv i5, iv (1 : Int32), iv (1 : Int32), iv (own_cr i0), iv (own_cr i1), iv (own_cr i2), iv (own_cr i3), rv vr_548, rv vr_551, rv b554, rv nr_563] [(.int (0 : Int32)), (.ref nr_563)])) := fun t k => g572 t (by
        refine XS.iload X571.here hx rfl (hb hby at_111) rfl ?_
        show Go p e below t T571 m 113 #[iv i0, iv i1, iv i2, iv i3, iv i4, iv i5, iv (1 : Int32), iv (1 : Int32), iv (own_cr i0), iv (own_cr i1), iv (own_cr i2), iv (own_cr i3), rv vr_548, rv vr_551, rv b554, rv nr_563] [(.int (1 : Int32)), (.int (3 : Int32))]
        refine XT.iconstV X571.here hx rfl (1 : Int32) (hb hby at_113) (by decide) ?_
        show Go p e below t T571 m 114 #[iv i0, iv i1, iv i2, iv i3, iv i4, iv i5, iv (1 : Int32), iv (1 : Int32), iv (own_cr i0), iv (own_cr i1), iv (own_cr i2), iv (own_cr i3), rv vr_548, rv vr_551, rv b554, rv nr_563] [(.int (1 : Int32)), (.int (1 : Int32)), (.int (3 : Int32))]
        refine XS.iadd X571.here hx rfl (hb hby at_114) rfl ?_
        rw [show ((1 : Int32) + (1 : Int32)) = (2 : Int32) by decide]
        show Go p e below t T571 m 115 #[iv i0, iv i1, iv i2, iv i3, iv i4, iv i5, iv (1 : Int32), iv (1 : Int32), iv (own_cr i0), iv (own_cr i1), iv (own_cr i2), iv (own_cr i3), rv vr_548, rv vr_551, rv b554, rv nr_563] [(.int (2 : Int32)), (.int (3 : Int32))]
        refine XS.iload X571.here hx rfl (hb hby at_115) rfl ?_
        show Go p e below t T571 m 117 #[iv i0, iv i1, iv i2, iv i3, iv i4, iv i5, iv (1 : Int32), iv (1 : Int32), iv (own_cr i0), iv (own_cr i1), iv (own_cr i2), iv (own_cr i3), rv vr_548, rv vr_551, rv b554, rv nr_563] [(.int (1 : Int32)), (.int (2 : Int32)), (.int (3 : Int32))]
        refine XS.iadd X571.here hx rfl (hb hby at_117) rfl ?_
        rw [show ((2 : Int32) + (1 : Int32)) = (3 : Int32) by decide]
        show Go p e below t T571 m 118 #[iv i0, iv i1, iv i2, iv i3, iv i4, iv i5, iv (1 : Int32), iv (1 : Int32), iv (own_cr i0), iv (own_cr i1), iv (own_cr i2), iv (own_cr i3), rv vr_548, rv vr_551, rv b554, rv nr_563] [(.int (3 : Int32)), (.int (3 : Int32))]
        refine XS.icmpYes X571.here hx rfl (pc0 := 118) (pc' := 123) rfl (hb hby at_118) rfl (XT.ii_eq_t (by decide)) (by decide) (by decide) ?_
        show Go p e below t T571 m 123 #[iv i0, iv i1, iv i2, iv i3, iv i4, iv i5, iv (1 : Int32), iv (1 : Int32), iv (own_cr i0), iv (own_cr i1), iv (own_cr i2), iv (own_cr i3), rv vr_548, rv vr_551, rv b554, rv nr_563] []
        refine XS.iload X571.here hx rfl (hb hby at_123) rfl ?_
        show Go p e below t T571 m 125 #[iv i0, iv i1, iv i2, iv i3, iv i4, iv i5, iv (1 : Int32), iv (1 : Int32), iv (own_cr i0), iv (own_cr i1), iv (own_cr i2), iv (own_cr i3), rv vr_548, rv vr_551, rv b554, rv nr_563] [(.int (1 : Int32))]
        refine XT.iconstV X571.here hx rfl (1 : Int32) (hb hby at_125) (by decide) ?_
        show Go p e below t T571 m 126 #[iv i0, iv i1, iv i2, iv i3, iv i4, iv i5, iv (1 : Int32), iv (1 : Int32), iv (own_cr i0), iv (own_cr i1), iv (own_cr i2), iv (own_cr i3), rv vr_548, rv vr_551, rv b554, rv nr_563] [(.int (1 : Int32)), (.int (1 : Int32))]
        refine XS.icmpNo X571.here hx rfl (hb hby at_126) rfl (XT.ii_lt_f (by decide)) ?_
        show Go p e below t T571 m 129 #[iv i0, iv i1, iv i2, iv i3, iv i4, iv i5, iv (1 : Int32), iv (1 : Int32), iv (own_cr i0), iv (own_cr i1), iv (own_cr i2), iv (own_cr i3), rv vr_548, rv vr_551, rv b554, rv nr_563] []
        refine XS.aload X571.here hx rfl (hb hby at_129) rfl rfl ?_
        show Go p e below t T571 m 131 #[iv i0, iv i1, iv i2, iv i3, iv i4, iv i5, iv (1 : Int32), iv (1 : Int32), iv (own_cr i0), iv (own_cr i1), iv (own_cr i2), iv (own_cr i3), rv vr_548, rv vr_551, rv b554, rv nr_563] [(.ref nr_563)]
        refine XT.iconstV X571.here hx rfl (0 : Int32) (hb hby at_131) (by decide) ?_
        show Go p e below t T571 m 132 #[iv i0, iv i1, iv i2, iv i3, iv i4, iv i5, iv (1 : Int32), iv (1 : Int32), iv (own_cr i0), iv (own_cr i1), iv (own_cr i2), iv (own_cr i3), rv vr_548, rv vr_551, rv b554, rv nr_563] [(.int (0 : Int32)), (.ref nr_563)]
        exact k)
      obtain ⟨cq574, kq574, q574a, q574b, q574c⟩ := isOf hZ R571_0 R563_2
      obtain ⟨_, _, ⟨T574, L574, k574, n574⟩, -, X574, ⟨Lc574, hQ574, l574, y574, z574⟩, st574⟩ := X571.virtualBack hx (y := (⟨"java/lang/String", "charAt", "(I)C"⟩ : MethodName)) (z := (⟨"java/lang/String", "charAt", "(I)C"⟩ : MethodName)) hown (mvT hZ (hw _ (List.mem_of_getElem? (i := 162) rfl))) (mvT hZ (hw _ (List.mem_of_getElem? (i := 163) rfl))) (notFace_of_selects (args := #[]) (mvT hZ (hw _ (List.mem_of_getElem? (i := 165) rfl)))) (mvT hZ (hw _ (List.mem_of_getElem? (i := 165) rfl))) (mvT hZ (hw _ (List.mem_of_getElem? (i := 164) rfl))) (by decide) (backOf (W := 0) (rm_cha l Z a0 hw [] nr_563 (0 : Int32) tb_563 tk_563 (3 : Int32) [(.int (((nar .char (own_cr i0)).toInt8.toInt32).toInt8.toInt32)), (.int (45 : Int32)), (.int (((nar .char (own_cr i2)).toInt8.toInt32).toInt8.toInt32))] (((nar .char (own_cr i0)).toInt8.toInt32).toInt8.toInt32) fx cz T563.heap n0 (Nat.le_trans Z0 (Nat.le_trans (Nat.le_trans (Nat.le_trans (Nat.le_trans (Nat.le_trans (Nat.le_refl _) R548_0.1) R551_0.1) E554.1) R560_0.1) R563_0.1)) R563_2 R563_3 R563_4 Vn569 (Sta.keepO (Sta.keepO ((Sta.keepO (Sta.keepO P0 R548_0 ns0) R551_0 ns0).ext E554) R560_0 (nsS (Exa.nostat A554) ns0)) R563_0 ns0) hz (Sta.keepO (Sta.keepO ((Sta.keepO (Sta.keepO P2 R548_0 ns0) R551_0 ns0).ext E554) R560_0 (nsS (Exa.nostat A554) ns0)) R563_0 ns0) hfx (by decide) (by decide) rfl) hZ (hw _ (List.mem_of_getElem? (i := 166) rfl)) (hw _ (List.mem_of_getElem? (i := 6) rfl)) (by decide) (by decide)) q574a q574c (g := (mkF m 132 #[iv i0, iv i1, iv i2, iv i3, iv i4, iv i5, iv (1 : Int32), iv (1 : Int32), iv (own_cr i0), iv (own_cr i1), iv (own_cr i2), iv (own_cr i3), rv vr_548, rv vr_551, rv b554, rv nr_563] [(.int (0 : Int32)), (.ref nr_563)])) rfl (by rw [hml]; rfl) (Steps.refl _) (argsL := [(.int (0 : Int32))]) (rest := []) (lenOf pd26 rfl) rfl (by show 2 * 0 + _ ≤ _; exact Nat.le_of_eq rfl) (hb hby at_132) (fun _ _ => ⟨rfl, R571_0, (by decide : 13 + 0 ≤ _), (by decide : 55 + 0 ≤ _)⟩)
      dsimp only [Pt.U, Pt.locs, Pt.cells, Pt.slots] at X574 l574 y574 z574 st574 hQ574
      subst l574 y574 z574
      obtain ⟨rfl, N574, R574_0⟩ := hQ574
      have M574 := Fr.app M571 N574
      have g575 : Goes p e below S0 (T574.setTop (mkF m 135 #[iv i0, iv i1, iv i2, iv i3, iv i4, iv i5, iv (1 : Int32), iv (1 : Int32), iv (own_cr i0), iv (own_cr i1), iv (own_cr i2), iv (own_cr i3), rv vr_548, rv vr_551, rv b554, rv nr_563] [(.int (own_chr (((nar .char (own_cr i0)).toInt8.toInt32).toInt8.toInt32)))])) := fun t k => g573 t (st574.trans k)
      have g576 : Goes p e below S0 (T574.setTop (mkF m 165 #[iv i0, iv i1, iv i2, iv i3, iv i4, iv i5, iv (1 : Int32), iv (1 : Int32), iv (own_cr i0), iv (own_cr i1), iv (own_cr i2), iv (own_cr i3), rv vr_548, rv vr_551, rv b554, rv nr_563] [(.int (1 : Int32)), (.ref nr_563)])) := fun t k => g575 t (by
        refine XS.iload X574.here hx rfl (hb hby at_135) rfl ?_
        show Go p e below t T574 m 137 #[iv i0, iv i1, iv i2, iv i3, iv i4, iv i5, iv (1 : Int32), iv (1 : Int32), iv (own_cr i0), iv (own_cr i1), iv (own_cr i2), iv (own_cr i3), rv vr_548, rv vr_551, rv b554, rv nr_563] [(.int (own_cr i0)), (.int (own_chr (((nar .char (own_cr i0)).toInt8.toInt32).toInt8.toInt32)))]
        refine XS.icmpYes X574.here hx rfl (pc0 := 137) (pc' := 142) rfl (hb hby at_137) rfl (XT.ii_eq_t (own_rt _)) (by decide) (by decide) ?_
        show Go p e below t T574 m 142 #[iv i0, iv i1, iv i2, iv i3, iv i4, iv i5, iv (1 : Int32), iv (1 : Int32), iv (own_cr i0), iv (own_cr i1), iv (own_cr i2), iv (own_cr i3), rv vr_548, rv vr_551, rv b554, rv nr_563] []
        refine XS.iload X574.here hx rfl (hb hby at_142) rfl ?_
        show Go p e below t T574 m 144 #[iv i0, iv i1, iv i2, iv i3, iv i4, iv i5, iv (1 : Int32), iv (1 : Int32), iv (own_cr i0), iv (own_cr i1), iv (own_cr i2), iv (own_cr i3), rv vr_548, rv vr_551, rv b554, rv nr_563] [(.int (1 : Int32))]
        refine XT.iconstV X574.here hx rfl (2 : Int32) (hb hby at_144) (by decide) ?_
        show Go p e below t T574 m 145 #[iv i0, iv i1, iv i2, iv i3, iv i4, iv i5, iv (1 : Int32), iv (1 : Int32), iv (own_cr i0), iv (own_cr i1), iv (own_cr i2), iv (own_cr i3), rv vr_548, rv vr_551, rv b554, rv nr_563] [(.int (2 : Int32)), (.int (1 : Int32))]
        refine XS.icmpYes X574.here hx rfl (pc0 := 145) (pc' := 161) rfl (hb hby at_145) rfl (XT.ii_lt_t (by decide)) (by decide) (by decide) ?_
        show Go p e below t T574 m 161 #[iv i0, iv i1, iv i2, iv i3, iv i4, iv i5, iv (1 : Int32), iv (1 : Int32), iv (own_cr i0), iv (own_cr i1), iv (own_cr i2), iv (own_cr i3), rv vr_548, rv vr_551, rv b554, rv nr_563] []
        refine XS.aload X574.here hx rfl (hb hby at_161) rfl rfl ?_
        show Go p e below t T574 m 163 #[iv i0, iv i1, iv i2, iv i3, iv i4, iv i5, iv (1 : Int32), iv (1 : Int32), iv (own_cr i0), iv (own_cr i1), iv (own_cr i2), iv (own_cr i3), rv vr_548, rv vr_551, rv b554, rv nr_563] [(.ref nr_563)]
        refine XS.iload X574.here hx rfl (hb hby at_163) rfl ?_
        show Go p e below t T574 m 165 #[iv i0, iv i1, iv i2, iv i3, iv i4, iv i5, iv (1 : Int32), iv (1 : Int32), iv (own_cr i0), iv (own_cr i1), iv (own_cr i2), iv (own_cr i3), rv vr_548, rv vr_551, rv b554, rv nr_563] [(.int (1 : Int32)), (.ref nr_563)]
        exact k)
      obtain ⟨cq577, kq577, q577a, q577b, q577c⟩ := isOf hZ R574_0 R563_2
      obtain ⟨_, _, ⟨T577, L577, k577, n577⟩, -, X577, ⟨Lc577, hQ577, l577, y577, z577⟩, st577⟩ := X574.virtualBack hx (y := (⟨"java/lang/String", "charAt", "(I)C"⟩ : MethodName)) (z := (⟨"java/lang/String", "charAt", "(I)C"⟩ : MethodName)) hown (mvT hZ (hw _ (List.mem_of_getElem? (i := 162) rfl))) (mvT hZ (hw _ (List.mem_of_getElem? (i := 163) rfl))) (notFace_of_selects (args := #[]) (mvT hZ (hw _ (List.mem_of_getElem? (i := 165) rfl)))) (mvT hZ (hw _ (List.mem_of_getElem? (i := 165) rfl))) (mvT hZ (hw _ (List.mem_of_getElem? (i := 164) rfl))) (by decide) (backOf (W := 0) (rm_cha l Z a0 hw [] nr_563 (1 : Int32) tb_563 tk_563 (3 : Int32) [(.int (((nar .char (own_cr i0)).toInt8.toInt32).toInt8.toInt32)), (.int (45 : Int32)), (.int (((nar .char (own_cr i2)).toInt8.toInt32).toInt8.toInt32))] (45 : Int32) fx cz T563.heap n0 (Nat.le_trans Z0 (Nat.le_trans (Nat.le_trans (Nat.le_trans (Nat.le_trans (Nat.le_trans (Nat.le_refl _) R548_0.1) R551_0.1) E554.1) R560_0.1) R563_0.1)) R563_2 R563_3 R563_4 Vn569 (Sta.keepO (Sta.keepO ((Sta.keepO (Sta.keepO P0 R548_0 ns0) R551_0 ns0).ext E554) R560_0 (nsS (Exa.nostat A554) ns0)) R563_0 ns0) hz (Sta.keepO (Sta.keepO ((Sta.keepO (Sta.keepO P2 R548_0 ns0) R551_0 ns0).ext E554) R560_0 (nsS (Exa.nostat A554) ns0)) R563_0 ns0) hfx (by decide) (by decide) rfl) hZ (hw _ (List.mem_of_getElem? (i := 166) rfl)) (hw _ (List.mem_of_getElem? (i := 6) rfl)) (by decide) (by decide)) q577a q577c (g := (mkF m 165 #[iv i0, iv i1, iv i2, iv i3, iv i4, iv i5, iv (1 : Int32), iv (1 : Int32), iv (own_cr i0), iv (own_cr i1), iv (own_cr i2), iv (own_cr i3), rv vr_548, rv vr_551, rv b554, rv nr_563] [(.int (1 : Int32)), (.ref nr_563)])) rfl (by rw [hml]; rfl) (Steps.refl _) (argsL := [(.int (1 : Int32))]) (rest := []) (lenOf pd26 rfl) rfl (by show 2 * 0 + _ ≤ _; exact Nat.le_of_eq rfl) (hb hby at_165) (fun _ _ => ⟨rfl, R574_0, (by decide : 13 + 0 ≤ _), (by decide : 55 + 0 ≤ _)⟩)
      dsimp only [Pt.U, Pt.locs, Pt.cells, Pt.slots] at X577 l577 y577 z577 st577 hQ577
      subst l577 y577 z577
      obtain ⟨rfl, N577, R577_0⟩ := hQ577
      have M577 := Fr.app M574 N577
      have g578 : Goes p e below S0 (T577.setTop (mkF m 168 #[iv i0, iv i1, iv i2, iv i3, iv i4, iv i5, iv (1 : Int32), iv (1 : Int32), iv (own_cr i0), iv (own_cr i1), iv (own_cr i2), iv (own_cr i3), rv vr_548, rv vr_551, rv b554, rv nr_563] [(.int (own_chr (45 : Int32)))])) := fun t k => g576 t (st577.trans k)
      have g579 : Goes p e below S0 (T577.setTop (mkF m 187 #[iv i0, iv i1, iv i2, iv i3, iv i4, iv i5, iv (1 : Int32), iv (1 : Int32), iv (own_cr i0), iv (own_cr i1), iv (own_cr i2), iv (own_cr i3), rv vr_548, rv vr_551, rv b554, rv nr_563] [(.int (2 : Int32)), (.ref nr_563)])) := fun t k => g578 t (by
        refine XT.bipushV X577.here hx rfl (45 : Int32) (hb hby at_168) (by decide) ?_
        show Go p e below t T577 m 170 #[iv i0, iv i1, iv i2, iv i3, iv i4, iv i5, iv (1 : Int32), iv (1 : Int32), iv (own_cr i0), iv (own_cr i1), iv (own_cr i2), iv (own_cr i3), rv vr_548, rv vr_551, rv b554, rv nr_563] [(.int (45 : Int32)), (.int (own_chr (45 : Int32)))]
        refine XS.icmpYes X577.here hx rfl (pc0 := 170) (pc' := 175) rfl (hb hby at_170) rfl (XT.ii_eq_t (by decide)) (by decide) (by decide) ?_
        show Go p e below t T577 m 175 #[iv i0, iv i1, iv i2, iv i3, iv i4, iv i5, iv (1 : Int32), iv (1 : Int32), iv (own_cr i0), iv (own_cr i1), iv (own_cr i2), iv (own_cr i3), rv vr_548, rv vr_551, rv b554, rv nr_563] []
        refine XS.iload X577.here hx rfl (hb hby at_175) rfl ?_
        show Go p e below t T577 m 177 #[iv i0, iv i1, iv i2, iv i3, iv i4, iv i5, iv (1 : Int32), iv (1 : Int32), iv (own_cr i0), iv (own_cr i1), iv (own_cr i2), iv (own_cr i3), rv vr_548, rv vr_551, rv b554, rv nr_563] [(.int (1 : Int32))]
        refine XT.iconstV X577.here hx rfl (1 : Int32) (hb hby at_177) (by decide) ?_
        show Go p e below t T577 m 178 #[iv i0, iv i1, iv i2, iv i3, iv i4, iv i5, iv (1 : Int32), iv (1 : Int32), iv (own_cr i0), iv (own_cr i1), iv (own_cr i2), iv (own_cr i3), rv vr_548, rv vr_551, rv b554, rv nr_563] [(.int (1 : Int32)), (.int (1 : Int32))]
        refine XS.icmpNo X577.here hx rfl (hb hby at_178) rfl (XT.ii_lt_f (by decide)) ?_
        show Go p e below t T577 m 181 #[iv i0, iv i1, iv i2, iv i3, iv i4, iv i5, iv (1 : Int32), iv (1 : Int32), iv (own_cr i0), iv (own_cr i1), iv (own_cr i2), iv (own_cr i3), rv vr_548, rv vr_551, rv b554, rv nr_563] []
        refine XS.aload X577.here hx rfl (hb hby at_181) rfl rfl ?_
        show Go p e below t T577 m 183 #[iv i0, iv i1, iv i2, iv i3, iv i4, iv i5, iv (1 : Int32), iv (1 : Int32), iv (own_cr i0), iv (own_cr i1), iv (own_cr i2), iv (own_cr i3), rv vr_548, rv vr_551, rv b554, rv nr_563] [(.ref nr_563)]
        refine XS.iload X577.here hx rfl (hb hby at_183) rfl ?_
        show Go p e below t T577 m 185 #[iv i0, iv i1, iv i2, iv i3, iv i4, iv i5, iv (1 : Int32), iv (1 : Int32), iv (own_cr i0), iv (own_cr i1), iv (own_cr i2), iv (own_cr i3), rv vr_548, rv vr_551, rv b554, rv nr_563] [(.int (1 : Int32)), (.ref nr_563)]
        refine XT.iconstV X577.here hx rfl (1 : Int32) (hb hby at_185) (by decide) ?_
        show Go p e below t T577 m 186 #[iv i0, iv i1, iv i2, iv i3, iv i4, iv i5, iv (1 : Int32), iv (1 : Int32), iv (own_cr i0), iv (own_cr i1), iv (own_cr i2), iv (own_cr i3), rv vr_548, rv vr_551, rv b554, rv nr_563] [(.int (1 : Int32)), (.int (1 : Int32)), (.ref nr_563)]
        refine XS.iadd X577.here hx rfl (hb hby at_186) rfl ?_
        rw [show ((1 : Int32) + (1 : Int32)) = (2 : Int32) by decide]
        show Go p e below t T577 m 187 #[iv i0, iv i1, iv i2, iv i3, iv i4, iv i5, iv (1 : Int32), iv (1 : Int32), iv (own_cr i0), iv (own_cr i1), iv (own_cr i2), iv (own_cr i3), rv vr_548, rv vr_551, rv b554, rv nr_563] [(.int (2 : Int32)), (.ref nr_563)]
        exact k)
      obtain ⟨cq580, kq580, q580a, q580b, q580c⟩ := isOf hZ R577_0 R563_2
      obtain ⟨_, _, ⟨T580, L580, k580, n580⟩, -, X580, ⟨Lc580, hQ580, l580, y580, z580⟩, st580⟩ := X577.virtualBack hx (y := (⟨"java/lang/String", "charAt", "(I)C"⟩ : MethodName)) (z := (⟨"java/lang/String", "charAt", "(I)C"⟩ : MethodName)) hown (mvT hZ (hw _ (List.mem_of_getElem? (i := 162) rfl))) (mvT hZ (hw _ (List.mem_of_getElem? (i := 163) rfl))) (notFace_of_selects (args := #[]) (mvT hZ (hw _ (List.mem_of_getElem? (i := 165) rfl)))) (mvT hZ (hw _ (List.mem_of_getElem? (i := 165) rfl))) (mvT hZ (hw _ (List.mem_of_getElem? (i := 164) rfl))) (by decide) (backOf (W := 0) (rm_cha l Z a0 hw [] nr_563 (2 : Int32) tb_563 tk_563 (3 : Int32) [(.int (((nar .char (own_cr i0)).toInt8.toInt32).toInt8.toInt32)), (.int (45 : Int32)), (.int (((nar .char (own_cr i2)).toInt8.toInt32).toInt8.toInt32))] (((nar .char (own_cr i2)).toInt8.toInt32).toInt8.toInt32) fx cz T563.heap n0 (Nat.le_trans Z0 (Nat.le_trans (Nat.le_trans (Nat.le_trans (Nat.le_trans (Nat.le_trans (Nat.le_refl _) R548_0.1) R551_0.1) E554.1) R560_0.1) R563_0.1)) R563_2 R563_3 R563_4 Vn569 (Sta.keepO (Sta.keepO ((Sta.keepO (Sta.keepO P0 R548_0 ns0) R551_0 ns0).ext E554) R560_0 (nsS (Exa.nostat A554) ns0)) R563_0 ns0) hz (Sta.keepO (Sta.keepO ((Sta.keepO (Sta.keepO P2 R548_0 ns0) R551_0 ns0).ext E554) R560_0 (nsS (Exa.nostat A554) ns0)) R563_0 ns0) hfx (by decide) (by decide) rfl) hZ (hw _ (List.mem_of_getElem? (i := 166) rfl)) (hw _ (List.mem_of_getElem? (i := 6) rfl)) (by decide) (by decide)) q580a q580c (g := (mkF m 187 #[iv i0, iv i1, iv i2, iv i3, iv i4, iv i5, iv (1 : Int32), iv (1 : Int32), iv (own_cr i0), iv (own_cr i1), iv (own_cr i2), iv (own_cr i3), rv vr_548, rv vr_551, rv b554, rv nr_563] [(.int (2 : Int32)), (.ref nr_563)])) rfl (by rw [hml]; rfl) (Steps.refl _) (argsL := [(.int (2 : Int32))]) (rest := []) (lenOf pd26 rfl) rfl (by show 2 * 0 + _ ≤ _; exact Nat.le_of_eq rfl) (hb hby at_187) (fun _ _ => ⟨rfl, R577_0, (by decide : 13 + 0 ≤ _), (by decide : 55 + 0 ≤ _)⟩)
      dsimp only [Pt.U, Pt.locs, Pt.cells, Pt.slots] at X580 l580 y580 z580 st580 hQ580
      subst l580 y580 z580
      obtain ⟨rfl, N580, R580_0⟩ := hQ580
      have M580 := Fr.app M577 N580
      have g581 : Goes p e below S0 (T580.setTop (mkF m 190 #[iv i0, iv i1, iv i2, iv i3, iv i4, iv i5, iv (1 : Int32), iv (1 : Int32), iv (own_cr i0), iv (own_cr i1), iv (own_cr i2), iv (own_cr i3), rv vr_548, rv vr_551, rv b554, rv nr_563] [(.int (own_chr (((nar .char (own_cr i2)).toInt8.toInt32).toInt8.toInt32)))])) := fun t k => g579 t (st580.trans k)
      have g582 : Goes p e below S0 (T580.setTop (mkF m 220 #[iv i0, iv i1, iv i2, iv i3, iv i4, iv i5, iv (1 : Int32), iv (1 : Int32), iv (own_cr i0), iv (own_cr i1), iv (own_cr i2), iv (own_cr i3), rv vr_548, rv vr_551, rv b554, rv nr_563] [(.int (1 : Int32))])) := fun t k => g581 t (by
        refine XS.iload X580.here hx rfl (hb hby at_190) rfl ?_
        show Go p e below t T580 m 192 #[iv i0, iv i1, iv i2, iv i3, iv i4, iv i5, iv (1 : Int32), iv (1 : Int32), iv (own_cr i0), iv (own_cr i1), iv (own_cr i2), iv (own_cr i3), rv vr_548, rv vr_551, rv b554, rv nr_563] [(.int (own_cr i2)), (.int (own_chr (((nar .char (own_cr i2)).toInt8.toInt32).toInt8.toInt32)))]
        refine XS.icmpYes X580.here hx rfl (pc0 := 192) (pc' := 197) rfl (hb hby at_192) rfl (XT.ii_eq_t (own_rt _)) (by decide) (by decide) ?_
        show Go p e below t T580 m 197 #[iv i0, iv i1, iv i2, iv i3, iv i4, iv i5, iv (1 : Int32), iv (1 : Int32), iv (own_cr i0), iv (own_cr i1), iv (own_cr i2), iv (own_cr i3), rv vr_548, rv vr_551, rv b554, rv nr_563] []
        refine XS.iload X580.here hx rfl (hb hby at_197) rfl ?_
        show Go p e below t T580 m 199 #[iv i0, iv i1, iv i2, iv i3, iv i4, iv i5, iv (1 : Int32), iv (1 : Int32), iv (own_cr i0), iv (own_cr i1), iv (own_cr i2), iv (own_cr i3), rv vr_548, rv vr_551, rv b554, rv nr_563] [(.int (1 : Int32))]
        refine XT.iconstV X580.here hx rfl (2 : Int32) (hb hby at_199) (by decide) ?_
        show Go p e below t T580 m 200 #[iv i0, iv i1, iv i2, iv i3, iv i4, iv i5, iv (1 : Int32), iv (1 : Int32), iv (own_cr i0), iv (own_cr i1), iv (own_cr i2), iv (own_cr i3), rv vr_548, rv vr_551, rv b554, rv nr_563] [(.int (2 : Int32)), (.int (1 : Int32))]
        refine XS.icmpYes X580.here hx rfl (pc0 := 200) (pc' := 219) rfl (hb hby at_200) rfl (XT.ii_lt_t (by decide)) (by decide) (by decide) ?_
        show Go p e below t T580 m 219 #[iv i0, iv i1, iv i2, iv i3, iv i4, iv i5, iv (1 : Int32), iv (1 : Int32), iv (own_cr i0), iv (own_cr i1), iv (own_cr i2), iv (own_cr i3), rv vr_548, rv vr_551, rv b554, rv nr_563] []
        refine XT.iconstV X580.here hx rfl (1 : Int32) (hb hby at_219) (by decide) ?_
        show Go p e below t T580 m 220 #[iv i0, iv i1, iv i2, iv i3, iv i4, iv i5, iv (1 : Int32), iv (1 : Int32), iv (own_cr i0), iv (own_cr i1), iv (own_cr i2), iv (own_cr i3), rv vr_548, rv vr_551, rv b554, rv nr_563] [(.int (1 : Int32))]
        exact k)
      obtain ⟨fs, hr, hrun, hended, hE1, hE2, hE3, hE4⟩ := Stand.leaveW (s := s) (vm₁ := T563.vm) X580 so563 (by rw [R580_0]; exact (Nat.le_refl _)) (v := some (.int (1 : Int32))) (fun h => by rw [Bd.returns] at h; cases h)
      refine ⟨_, _, g582 _ (retN X580 hx (t := .boolean) Bd.returns (by simp) (hb hby at_220) hr), hrun, hended, _, _, rfl, ?_, hE1, hE2, hE3, hE4.mono (by decide) (by decide)⟩
      show Q_law Z i0 i1 i2 i3 i4 i5 cz fx h0 n0 _ T580.heap _
      rw [R580_0]
      exact ⟨rfl, M580⟩
    · skip
      have g583 : Goes p e below S0 (s₁.setTop (mkF m 56 #[iv i0, iv i1, iv i2, iv i3, iv i4, iv i5, iv (1 : Int32), iv (2 : Int32), iv (own_cr i0), iv (own_cr i1), iv (own_cr i2), iv (own_cr i3), .unset, .unset, .unset, .unset] [(.int (own_cr i1)), (.int (own_cr i0)), (.int (1 : Int32))])) := fun t k => g414 t (by
        refine XS.iload X0.here hx rfl (hb hby at_50) rfl ?_
        show Go p e below t s₁ m 52 #[iv i0, iv i1, iv i2, iv i3, iv i4, iv i5, iv (1 : Int32), iv (2 : Int32), iv (own_cr i0), iv (own_cr i1), iv (own_cr i2), iv (own_cr i3), .unset, .unset, .unset, .unset] [(.int (1 : Int32))]
        refine XS.iload X0.here hx rfl (hb hby at_52) rfl ?_
        show Go p e below t s₁ m 54 #[iv i0, iv i1, iv i2, iv i3, iv i4, iv i5, iv (1 : Int32), iv (2 : Int32), iv (own_cr i0), iv (own_cr i1), iv (own_cr i2), iv (own_cr i3), .unset, .unset, .unset, .unset] [(.int (own_cr i0)), (.int (1 : Int32))]
        refine XS.iload X0.here hx rfl (hb hby at_54) rfl ?_
        show Go p e below t s₁ m 56 #[iv i0, iv i1, iv i2, iv i3, iv i4, iv i5, iv (1 : Int32), iv (2 : Int32), iv (own_cr i0), iv (own_cr i1), iv (own_cr i2), iv (own_cr i3), .unset, .unset, .unset, .unset] [(.int (own_cr i1)), (.int (own_cr i0)), (.int (1 : Int32))]
        exact k)
      obtain ⟨_, _, ⟨T584, L584, k584, n584⟩, -, X584, ⟨Lc584, hQ584, l584, y584, z584⟩, st584⟩ := Jvm.LawKit.callS X0 hx (y := (⟨"com/example/forager/forager/RoadNamePinLaw", "mk", "(ICC)Ljava/lang/String;"⟩ : MethodName)) hown (mvT hZ (hw _ (List.mem_of_getElem? (i := 0) rfl))) (mvT hZ (hw _ (List.mem_of_getElem? (i := 1) rfl))) (mvT hZ (hw _ (List.mem_of_getElem? (i := 2) rfl))) (mvT hZ (hw _ (List.mem_of_getElem? (i := 3) rfl))) (by decide) (backOf (W := 0) (rm_mk1 l Z a0 hw [] (1 : Int32) (own_cr i0) (own_cr i1) cz h0 n0 Z0 P0 hz rfl (own_ch _)) hZ (hw _ (List.mem_of_getElem? (i := 3) rfl)) (hw _ (List.mem_of_getElem? (i := 2) rfl)) (by decide) (by decide)) (g := (mkF m 56 #[iv i0, iv i1, iv i2, iv i3, iv i4, iv i5, iv (1 : Int32), iv (2 : Int32), iv (own_cr i0), iv (own_cr i1), iv (own_cr i2), iv (own_cr i3), .unset, .unset, .unset, .unset] [(.int (own_cr i1)), (.int (own_cr i0)), (.int (1 : Int32))])) rfl (by rw [hml]; rfl) (argsL := [(.int (1 : Int32)), (.int (own_cr i0)), (.int (own_cr i1))]) (rest := []) (lenOf pd7 rfl) rfl (by show 2 * 0 + _ ≤ _; exact Nat.le_of_eq rfl) (hb hby at_56) (fun _ _ => ⟨rfl, e0, (by decide : 0 + 3 ≤ _), (by decide : 0 + 6 ≤ _)⟩)
      dsimp only [Pt.U, Pt.locs, Pt.cells, Pt.slots] at X584 l584 y584 z584 st584 hQ584
      subst l584 y584 z584
      obtain ⟨vr_584, tb_584, tk_584, rfl, N584, R584_0, R584_1, R584_2, R584_3, R584_4, R584_5⟩ := hQ584
      have M584 := Fr.app N0 N584
      have sz584_1 : h0.size ≤ vr_584 := Nat.le_trans (Nat.le_refl _) R584_1
      have ng584_1 : n0 ≤ vr_584 := Nat.le_trans Z0 sz584_1
      have g585 : Goes p e below S0 (T584.setTop (mkF m 59 #[iv i0, iv i1, iv i2, iv i3, iv i4, iv i5, iv (1 : Int32), iv (2 : Int32), iv (own_cr i0), iv (own_cr i1), iv (own_cr i2), iv (own_cr i3), .unset, .unset, .unset, .unset] [(.ref vr_584)])) := fun t k => g583 t (st584 t k)
      have g586 : Goes p e below S0 (T584.setTop (mkF m 67 #[iv i0, iv i1, iv i2, iv i3, iv i4, iv i5, iv (1 : Int32), iv (2 : Int32), iv (own_cr i0), iv (own_cr i1), iv (own_cr i2), iv (own_cr i3), rv vr_584, .unset, .unset, .unset] [(.int (own_cr i3)), (.int (own_cr i2)), (.int (2 : Int32))])) := fun t k => g585 t (by
        refine XS.astore X584.here hx rfl (hb hby at_59) rfl rfl (l' := #[iv i0, iv i1, iv i2, iv i3, iv i4, iv i5, iv (1 : Int32), iv (2 : Int32), iv (own_cr i0), iv (own_cr i1), iv (own_cr i2), iv (own_cr i3), rv vr_584, .unset, .unset, .unset]) rfl ?_
        show Go p e below t T584 m 61 #[iv i0, iv i1, iv i2, iv i3, iv i4, iv i5, iv (1 : Int32), iv (2 : Int32), iv (own_cr i0), iv (own_cr i1), iv (own_cr i2), iv (own_cr i3), rv vr_584, .unset, .unset, .unset] []
        refine XS.iload X584.here hx rfl (hb hby at_61) rfl ?_
        show Go p e below t T584 m 63 #[iv i0, iv i1, iv i2, iv i3, iv i4, iv i5, iv (1 : Int32), iv (2 : Int32), iv (own_cr i0), iv (own_cr i1), iv (own_cr i2), iv (own_cr i3), rv vr_584, .unset, .unset, .unset] [(.int (2 : Int32))]
        refine XS.iload X584.here hx rfl (hb hby at_63) rfl ?_
        show Go p e below t T584 m 65 #[iv i0, iv i1, iv i2, iv i3, iv i4, iv i5, iv (1 : Int32), iv (2 : Int32), iv (own_cr i0), iv (own_cr i1), iv (own_cr i2), iv (own_cr i3), rv vr_584, .unset, .unset, .unset] [(.int (own_cr i2)), (.int (2 : Int32))]
        refine XS.iload X584.here hx rfl (hb hby at_65) rfl ?_
        show Go p e below t T584 m 67 #[iv i0, iv i1, iv i2, iv i3, iv i4, iv i5, iv (1 : Int32), iv (2 : Int32), iv (own_cr i0), iv (own_cr i1), iv (own_cr i2), iv (own_cr i3), rv vr_584, .unset, .unset, .unset] [(.int (own_cr i3)), (.int (own_cr i2)), (.int (2 : Int32))]
        exact k)
      obtain ⟨_, _, ⟨T587, L587, k587, n587⟩, -, X587, ⟨Lc587, hQ587, l587, y587, z587⟩, st587⟩ := Jvm.LawKit.callS X584 hx (y := (⟨"com/example/forager/forager/RoadNamePinLaw", "mk", "(ICC)Ljava/lang/String;"⟩ : MethodName)) hown (mvT hZ (hw _ (List.mem_of_getElem? (i := 0) rfl))) (mvT hZ (hw _ (List.mem_of_getElem? (i := 1) rfl))) (mvT hZ (hw _ (List.mem_of_getElem? (i := 2) rfl))) (mvT hZ (hw _ (List.mem_of_getElem? (i := 3) rfl))) (by decide) (backOf (W := 0) (rm_mk2 l Z a0 hw [] (2 : Int32) (own_cr i2) (own_cr i3) cz T584.heap n0 (Nat.le_trans Z0 (Nat.le_trans (Nat.le_refl _) R584_0.1)) (Sta.keepO P0 R584_0 ns0) hz rfl (own_ch _) (own_ch _)) hZ (hw _ (List.mem_of_getElem? (i := 3) rfl)) (hw _ (List.mem_of_getElem? (i := 2) rfl)) (by decide) (by decide)) (g := (mkF m 67 #[iv i0, iv i1, iv i2, iv i3, iv i4, iv i5, iv (1 : Int32), iv (2 : Int32), iv (own_cr i0), iv (own_cr i1), iv (own_cr i2), iv (own_cr i3), rv vr_584, .unset, .unset, .unset] [(.int (own_cr i3)), (.int (own_cr i2)), (.int (2 : Int32))])) rfl (by rw [hml]; rfl) (argsL := [(.int (2 : Int32)), (.int (own_cr i2)), (.int (own_cr i3))]) (rest := []) (lenOf pd7 rfl) rfl (by show 2 * 0 + _ ≤ _; exact Nat.le_of_eq rfl) (hb hby at_67) (fun _ _ => ⟨rfl, rfl, (by decide : 3 + 3 ≤ _), (by decide : 6 + 8 ≤ _)⟩)
      dsimp only [Pt.U, Pt.locs, Pt.cells, Pt.slots] at X587 l587 y587 z587 st587 hQ587
      subst l587 y587 z587
      obtain ⟨vr_587, tb_587, tk_587, rfl, N587, R587_0, R587_1, R587_2, R587_3, R587_4, R587_5⟩ := hQ587
      have M587 := Fr.app M584 N587
      have sz587_1 : h0.size ≤ vr_587 := Nat.le_trans (Nat.le_trans (Nat.le_refl _) R584_0.1) R587_1
      have ng587_1 : n0 ≤ vr_587 := Nat.le_trans Z0 sz587_1
      have g588 : Goes p e below S0 (T587.setTop (mkF m 70 #[iv i0, iv i1, iv i2, iv i3, iv i4, iv i5, iv (1 : Int32), iv (2 : Int32), iv (own_cr i0), iv (own_cr i1), iv (own_cr i2), iv (own_cr i3), rv vr_584, .unset, .unset, .unset] [(.ref vr_587)])) := fun t k => g586 t (st587 t k)
      have g589 : Goes p e below S0 (T587.setTop (mkF m 72 #[iv i0, iv i1, iv i2, iv i3, iv i4, iv i5, iv (1 : Int32), iv (2 : Int32), iv (own_cr i0), iv (own_cr i1), iv (own_cr i2), iv (own_cr i3), rv vr_584, rv vr_587, .unset, .unset] [])) := fun t k => g588 t (by
        refine XS.astore X587.here hx rfl (hb hby at_70) rfl rfl (l' := #[iv i0, iv i1, iv i2, iv i3, iv i4, iv i5, iv (1 : Int32), iv (2 : Int32), iv (own_cr i0), iv (own_cr i1), iv (own_cr i2), iv (own_cr i3), rv vr_584, rv vr_587, .unset, .unset]) rfl ?_
        show Go p e below t T587 m 72 #[iv i0, iv i1, iv i2, iv i3, iv i4, iv i5, iv (1 : Int32), iv (2 : Int32), iv (own_cr i0), iv (own_cr i1), iv (own_cr i2), iv (own_cr i3), rv vr_584, rv vr_587, .unset, .unset] []
        exact k)
      obtain ⟨T590, h590, X590, e590, E590, A590, D590, -, st590⟩ := newO X587 hx hZ hown (hw _ (List.mem_of_getElem? (i := 26) rfl)) (hw _ (List.mem_of_getElem? (i := 27) rfl)) (hw _ (List.mem_of_getElem? (i := 28) rfl)) rfl (g := (mkF m 72 #[iv i0, iv i1, iv i2, iv i3, iv i4, iv i5, iv (1 : Int32), iv (2 : Int32), iv (own_cr i0), iv (own_cr i1), iv (own_cr i2), iv (own_cr i3), rv vr_584, rv vr_587, .unset, .unset] [])) rfl (hb hby at_72) (by decide) (by decide)
      obtain ⟨b590, gb590⟩ : ∃ z, z = T587.heap.size := ⟨_, rfl⟩
      have sz590 : h0.size ≤ b590 := Nat.le_trans (Nat.le_trans (Nat.le_trans (Nat.le_refl _) R584_0.1) R587_0.1) (Nat.le_of_eq gb590.symm)
      have ng590 : n0 ≤ b590 := Nat.le_trans Z0 sz590
      rw [← gb590] at A590 D590 st590
      have F590_591 : Fld Z h590 b590 "com/example/forager/forager/Road" "from" "Ljava/lang/String;" .null := D590 (Or.inr (hw _ (List.mem_of_getElem? (i := 39) rfl))) (ty := (.object "java/lang/String")) (by decide)
      have F590_592 : Fld Z h590 b590 "com/example/forager/forager/Road" "to" "Ljava/lang/String;" .null := D590 (Or.inr (hw _ (List.mem_of_getElem? (i := 41) rfl))) (ty := (.object "java/lang/String")) (by decide)
      have F590_593 : Fld Z h590 b590 "com/example/forager/forager/Road" "length" "D" (.double (0 : UInt64)) := D590 (Or.inr (hw _ (List.mem_of_getElem? (i := 43) rfl))) (ty := .double) (by decide)
      have g594 : Goes p e below S0 (T590.setTop (mkF m 75 #[iv i0, iv i1, iv i2, iv i3, iv i4, iv i5, iv (1 : Int32), iv (2 : Int32), iv (own_cr i0), iv (own_cr i1), iv (own_cr i2), iv (own_cr i3), rv vr_584, rv vr_587, .unset, .unset] [(.ref b590)])) := fun t k => g589 t (st590 t k)
      have g595 : Goes p e below S0 (T590.setTop (mkF m 87 #[iv i0, iv i1, iv i2, iv i3, iv i4, iv i5, iv (1 : Int32), iv (2 : Int32), iv (own_cr i0), iv (own_cr i1), iv (own_cr i2), iv (own_cr i3), rv vr_584, rv vr_587, .unset, .unset] [(.double (FP.i2d (i5 &&& (1023 : Int32)))), (.ref vr_587), (.ref vr_584), (.ref b590), (.ref b590)])) := fun t k => g594 t (by
        refine XS.dup X590.here hx rfl (hb hby at_75) rfl rfl ?_
        show Go p e below t T590 m 76 #[iv i0, iv i1, iv i2, iv i3, iv i4, iv i5, iv (1 : Int32), iv (2 : Int32), iv (own_cr i0), iv (own_cr i1), iv (own_cr i2), iv (own_cr i3), rv vr_584, rv vr_587, .unset, .unset] [(.ref b590), (.ref b590)]
        refine XS.aload X590.here hx rfl (hb hby at_76) rfl rfl ?_
        show Go p e below t T590 m 78 #[iv i0, iv i1, iv i2, iv i3, iv i4, iv i5, iv (1 : Int32), iv (2 : Int32), iv (own_cr i0), iv (own_cr i1), iv (own_cr i2), iv (own_cr i3), rv vr_584, rv vr_587, .unset, .unset] [(.ref vr_584), (.ref b590), (.ref b590)]
        refine XS.aload X590.here hx rfl (hb hby at_78) rfl rfl ?_
        show Go p e below t T590 m 80 #[iv i0, iv i1, iv i2, iv i3, iv i4, iv i5, iv (1 : Int32), iv (2 : Int32), iv (own_cr i0), iv (own_cr i1), iv (own_cr i2), iv (own_cr i3), rv vr_584, rv vr_587, .unset, .unset] [(.ref vr_587), (.ref vr_584), (.ref b590), (.ref b590)]
        refine XS.iload X590.here hx rfl (hb hby at_80) rfl ?_
        show Go p e below t T590 m 82 #[iv i0, iv i1, iv i2, iv i3, iv i4, iv i5, iv (1 : Int32), iv (2 : Int32), iv (own_cr i0), iv (own_cr i1), iv (own_cr i2), iv (own_cr i3), rv vr_584, rv vr_587, .unset, .unset] [(.int i5), (.ref vr_587), (.ref vr_584), (.ref b590), (.ref b590)]
        refine XT.sipushV X590.here hx rfl (1023 : Int32) (hb hby at_82) (by decide) ?_
        show Go p e below t T590 m 85 #[iv i0, iv i1, iv i2, iv i3, iv i4, iv i5, iv (1 : Int32), iv (2 : Int32), iv (own_cr i0), iv (own_cr i1), iv (own_cr i2), iv (own_cr i3), rv vr_584, rv vr_587, .unset, .unset] [(.int (1023 : Int32)), (.int i5), (.ref vr_587), (.ref vr_584), (.ref b590), (.ref b590)]
        refine XS.iand X590.here hx rfl (hb hby at_85) rfl ?_
        show Go p e below t T590 m 86 #[iv i0, iv i1, iv i2, iv i3, iv i4, iv i5, iv (1 : Int32), iv (2 : Int32), iv (own_cr i0), iv (own_cr i1), iv (own_cr i2), iv (own_cr i3), rv vr_584, rv vr_587, .unset, .unset] [(.int (i5 &&& (1023 : Int32))), (.ref vr_587), (.ref vr_584), (.ref b590), (.ref b590)]
        refine XS.i2dS X590.here hx rfl (hb hby at_86) rfl rfl ?_
        show Go p e below t T590 m 87 #[iv i0, iv i1, iv i2, iv i3, iv i4, iv i5, iv (1 : Int32), iv (2 : Int32), iv (own_cr i0), iv (own_cr i1), iv (own_cr i2), iv (own_cr i3), rv vr_584, rv vr_587, .unset, .unset] [(.double (FP.i2d (i5 &&& (1023 : Int32)))), (.ref vr_587), (.ref vr_584), (.ref b590), (.ref b590)]
        exact k)
      obtain ⟨_, _, ⟨T596, L596, k596, n596⟩, -, X596, ⟨Lc596, hQ596, l596, y596, z596⟩, st596⟩ := X590.specialBack hx (y := (⟨"com/example/forager/forager/Road", "<init>", "(Ljava/lang/String;Ljava/lang/String;D)V"⟩ : MethodName)) rfl hown (mvT hZ (hw _ (List.mem_of_getElem? (i := 29) rfl))) (mvT hZ (hw _ (List.mem_of_getElem? (i := 30) rfl))) (mvT hZ (hw _ (List.mem_of_getElem? (i := 31) rfl))) (by decide) (backOf (W := 1) (rm_ri l Z a0 hw [] b590 vr_584 vr_587 (FP.i2d (i5 &&& (1023 : Int32)))  h590 n0 (Nat.le_trans Z0 (Nat.le_trans (Nat.le_trans (Nat.le_trans (Nat.le_refl _) R584_0.1) R587_0.1) E590.1)) A590 F590_591 F590_592 F590_593 ng590) hZ (hw _ (List.mem_of_getElem? (i := 31) rfl)) (hw _ (List.mem_of_getElem? (i := 28) rfl)) (by decide) (by decide)) (g := (mkF m 87 #[iv i0, iv i1, iv i2, iv i3, iv i4, iv i5, iv (1 : Int32), iv (2 : Int32), iv (own_cr i0), iv (own_cr i1), iv (own_cr i2), iv (own_cr i3), rv vr_584, rv vr_587, .unset, .unset] [(.double (FP.i2d (i5 &&& (1023 : Int32)))), (.ref vr_587), (.ref vr_584), (.ref b590), (.ref b590)])) rfl (by rw [hml]; rfl) (Steps.refl _) (a := b590) (argsL := [(.ref vr_584), (.ref vr_587), (.double (FP.i2d (i5 &&& (1023 : Int32))))]) (rest := [(.ref b590)]) (lenOf pd9 rfl) rfl (by show 2 * 0 + _ ≤ _; exact Nat.le_of_eq rfl) (hb hby at_87) (fun _ _ => ⟨rfl, e590, (by decide : 7 + 0 ≤ _), (by decide : 17 + 0 ≤ _)⟩)
      dsimp only [Pt.U, Pt.locs, Pt.cells, Pt.slots] at X596 l596 y596 z596 st596 hQ596
      subst l596 y596 z596
      obtain ⟨rfl, N596, R596_0, R596_1, R596_2, R596_3⟩ := hQ596
      have M596 := Fr.app M587 N596
      have g597 : Goes p e below S0 (T596.setTop (mkF m 90 #[iv i0, iv i1, iv i2, iv i3, iv i4, iv i5, iv (1 : Int32), iv (2 : Int32), iv (own_cr i0), iv (own_cr i1), iv (own_cr i2), iv (own_cr i3), rv vr_584, rv vr_587, .unset, .unset] [(.ref b590)])) := fun t k => g595 t (st596.trans k)
      have g598 : Goes p e below S0 (T596.setTop (mkF m 94 #[iv i0, iv i1, iv i2, iv i3, iv i4, iv i5, iv (1 : Int32), iv (2 : Int32), iv (own_cr i0), iv (own_cr i1), iv (own_cr i2), iv (own_cr i3), rv vr_584, rv vr_587, rv b590, .unset] [(.ref b590)])) := fun t k => g597 t (by
        refine XS.astore X596.here hx rfl (hb hby at_90) rfl rfl (l' := #[iv i0, iv i1, iv i2, iv i3, iv i4, iv i5, iv (1 : Int32), iv (2 : Int32), iv (own_cr i0), iv (own_cr i1), iv (own_cr i2), iv (own_cr i3), rv vr_584, rv vr_587, rv b590, .unset]) rfl ?_
        show Go p e below t T596 m 92 #[iv i0, iv i1, iv i2, iv i3, iv i4, iv i5, iv (1 : Int32), iv (2 : Int32), iv (own_cr i0), iv (own_cr i1), iv (own_cr i2), iv (own_cr i3), rv vr_584, rv vr_587, rv b590, .unset] []
        refine XS.aload X596.here hx rfl (hb hby at_92) rfl rfl ?_
        show Go p e below t T596 m 94 #[iv i0, iv i1, iv i2, iv i3, iv i4, iv i5, iv (1 : Int32), iv (2 : Int32), iv (own_cr i0), iv (own_cr i1), iv (own_cr i2), iv (own_cr i3), rv vr_584, rv vr_587, rv b590, .unset] [(.ref b590)]
        exact k)
      obtain ⟨cq599, kq599, q599a, q599b, q599c⟩ := isOf hZ rfl R596_1
      have hs600 : ∀ x ∈ ([] : List Addr), Safe Z consts_1 s.vm h0 x := sf0
      have ch600 := ch0.trans (CHr.keep R584_0 hs600 ch0.1)
      have hs601 : ∀ x ∈ ([] : List Addr), Safe Z consts_1 s.vm T584.heap x := sf0
      have ch601 := ch600.trans (CHr.keep R587_0 hs601 ch600.1)
      have ch602 := ch601.trans (CHr.ext E590 ch601.1)
      have hs603 : ∀ x ∈ ([b590] : List Addr), Safe Z consts_1 s.vm h590 x := (sfS (Safe.exa hZ.alike A590 (by decide) (by decide)) sf0)
      have ch603 := ch602.trans (CHr.keep R596_0 hs603 ch602.1)
      obtain ⟨_, _, ⟨T599, L599, k599, n599⟩, -, X599, sn599, gr599, ⟨Lc599, hQ599, l599, y599, z599, cr599⟩, st599⟩ := X596.virtualBackS hx (y := (⟨"com/example/forager/forager/Road", "name", "()Ljava/lang/String;"⟩ : MethodName)) (z := (⟨"com/example/forager/forager/Road", "name", "()Ljava/lang/String;"⟩ : MethodName)) hown (mvT hZ (hw _ (List.mem_of_getElem? (i := 44) rfl))) (mvT hZ (hw _ (List.mem_of_getElem? (i := 45) rfl))) (notFace_of_selects (args := #[]) (mvT hZ (hw _ (List.mem_of_getElem? (i := 47) rfl)))) (mvT hZ (hw _ (List.mem_of_getElem? (i := 47) rfl))) (mvT hZ (hw _ (List.mem_of_getElem? (i := 46) rfl))) (by decide) (own_backH (s := s) (vm0 := s.vm) (W := 0) (rm_nam l Z a0 hw [] b590 vr_584 vr_587 tb_584 tk_584 (1 : Int32) [(.int (((nar .char (own_cr i0)).toInt8.toInt32).toInt8.toInt32))] tb_587 tk_587 (2 : Int32) [(.int (((nar .char (own_cr i2)).toInt8.toInt32).toInt8.toInt32)), (.int (((nar .char (own_cr i3)).toInt8.toInt32).toInt8.toInt32))] cz T596.heap n0 (Nat.le_trans Z0 (Nat.le_trans (Nat.le_trans (Nat.le_trans (Nat.le_trans (Nat.le_refl _) R584_0.1) R587_0.1) E590.1) R596_0.1)) R596_2 R596_3 (((R584_2.keep R587_0).ext E590).keep R596_0) (((R584_3.keep R587_0 nin0).ext E590).keep R596_0 (ninS (Nat.ne_of_lt (Nat.lt_of_lt_of_le (R584_2.keep R587_0).lt (Nat.le_of_eq gb590.symm))) nin0)) (((R584_4.keep R587_0 nin0).ext E590).keep R596_0 (ninS (Nat.ne_of_lt (Nat.lt_of_lt_of_le (R584_2.keep R587_0).lt (Nat.le_of_eq gb590.symm))) nin0)) (((R584_5.keep R587_0 nin0).ext E590).keep R596_0 (ninS (Nat.ne_of_lt (Nat.lt_of_lt_of_le (R584_5.keep R587_0 nin0).lt (Nat.le_of_eq gb590.symm))) nin0)) ((R587_2.ext E590).keep R596_0) ((R587_3.ext E590).keep R596_0 (ninS (Nat.ne_of_lt (Nat.lt_of_lt_of_le R587_2.lt (Nat.le_of_eq gb590.symm))) nin0)) ((R587_4.ext E590).keep R596_0 (ninS (Nat.ne_of_lt (Nat.lt_of_lt_of_le R587_2.lt (Nat.le_of_eq gb590.symm))) nin0)) ((R587_5.ext E590).keep R596_0 (ninS (Nat.ne_of_lt (Nat.lt_of_lt_of_le R587_5.lt (Nat.le_of_eq gb590.symm))) nin0)) (Sta.keepO ((Sta.keepO (Sta.keepO P0 R584_0 ns0) R587_0 ns0).ext E590) R596_0 (nsS (Exa.nostat A590) ns0)) hz ⟨by decide, rfl⟩ ⟨by decide, rfl⟩) hZ (hw _ (List.mem_of_getElem? (i := 48) rfl)) (hw _ (List.mem_of_getElem? (i := 28) rfl)) (by decide) (by decide) hEL ch603.1 all0) q599a q599c (g := (mkF m 94 #[iv i0, iv i1, iv i2, iv i3, iv i4, iv i5, iv (1 : Int32), iv (2 : Int32), iv (own_cr i0), iv (own_cr i1), iv (own_cr i2), iv (own_cr i3), rv vr_584, rv vr_587, rv b590, .unset] [(.ref b590)])) rfl (by rw [hml]; rfl) (Steps.refl _) (argsL := []) (rest := []) (lenOf pd23 rfl) rfl (by show 2 * 0 + _ ≤ _; exact Nat.le_of_eq rfl) (hb hby at_94) (fun _ _ => ⟨rfl, rfl, (by decide : 7 + 6 ≤ _), (by decide : 17 + 40 ≤ _)⟩)
      dsimp only [Pt.U, Pt.locs, Pt.cells, Pt.slots] at X599 sn599 gr599 l599 y599 z599 cr599 st599 hQ599
      subst l599 y599 z599
      obtain ⟨Y599, so599, hZ, hown⟩ := rebS (s := s) (vm0 := s.vm) ((State.WarmedH.refl s).since 0) (Nat.le_trans (Nat.le_trans (Nat.le_trans (Nat.le_trans (Nat.zero_le _) R584_0.1) R587_0.1) E590.1) R596_0.1) X599 sn599 gr599 hZ hown
      obtain ⟨nr_599, tb_599, tk_599, rfl, N599, R599_0, R599_1, R599_2, R599_3, R599_4, R599_5⟩ := hQ599
      have M599 := Fr.app M596 N599
      have sz599_1 : h0.size ≤ nr_599 := Nat.le_trans (Nat.le_trans (Nat.le_trans (Nat.le_trans (Nat.le_trans (Nat.le_refl _) R584_0.1) R587_0.1) E590.1) R596_0.1) R599_1
      have ng599_1 : n0 ≤ nr_599 := Nat.le_trans Z0 sz599_1
      have g604 : Goes p e below S0 (T599.setTop (mkF m 97 #[iv i0, iv i1, iv i2, iv i3, iv i4, iv i5, iv (1 : Int32), iv (2 : Int32), iv (own_cr i0), iv (own_cr i1), iv (own_cr i2), iv (own_cr i3), rv vr_584, rv vr_587, rv b590, .unset] [(.ref nr_599)])) := fun t k => g598 t (st599.trans k)
      have Vn605 : Arv Z T599.heap tb_599 tk_599 .byte (4 : Int32) [(.int (((nar .char (own_cr i0)).toInt8.toInt32).toInt8.toInt32)), (.int (45 : Int32)), (.int (((nar .char (own_cr i2)).toInt8.toInt32).toInt8.toInt32)), (.int (((nar .char (own_cr i3)).toInt8.toInt32).toInt8.toInt32))] (.int (0 : Int32)) := own_nmA12 R599_5
      have g606 : Goes p e below S0 (T599.setTop (mkF m 108 #[iv i0, iv i1, iv i2, iv i3, iv i4, iv i5, iv (1 : Int32), iv (2 : Int32), iv (own_cr i0), iv (own_cr i1), iv (own_cr i2), iv (own_cr i3), rv vr_584, rv vr_587, rv b590, rv nr_599] [(.ref nr_599)])) := fun t k => g604 t (by
        refine XS.astore Y599.here hx rfl (hb hby at_97) rfl rfl (l' := #[iv i0, iv i1, iv i2, iv i3, iv i4, iv i5, iv (1 : Int32), iv (2 : Int32), iv (own_cr i0), iv (own_cr i1), iv (own_cr i2), iv (own_cr i3), rv vr_584, rv vr_587, rv b590, rv nr_599]) rfl ?_
        show Go p e below t T599 m 99 #[iv i0, iv i1, iv i2, iv i3, iv i4, iv i5, iv (1 : Int32), iv (2 : Int32), iv (own_cr i0), iv (own_cr i1), iv (own_cr i2), iv (own_cr i3), rv vr_584, rv vr_587, rv b590, rv nr_599] []
        refine XS.aload Y599.here hx rfl (hb hby at_99) rfl rfl ?_
        show Go p e below t T599 m 101 #[iv i0, iv i1, iv i2, iv i3, iv i4, iv i5, iv (1 : Int32), iv (2 : Int32), iv (own_cr i0), iv (own_cr i1), iv (own_cr i2), iv (own_cr i3), rv vr_584, rv vr_587, rv b590, rv nr_599] [(.ref nr_599)]
        refine XS.ifnonnullYes Y599.here hx rfl (pc0 := 101) (pc' := 106) rfl (hb hby at_101) rfl (by decide) (by decide) ?_
        show Go p e below t T599 m 106 #[iv i0, iv i1, iv i2, iv i3, iv i4, iv i5, iv (1 : Int32), iv (2 : Int32), iv (own_cr i0), iv (own_cr i1), iv (own_cr i2), iv (own_cr i3), rv vr_584, rv vr_587, rv b590, rv nr_599] []
        refine XS.aload Y599.here hx rfl (hb hby at_106) rfl rfl ?_
        show Go p e below t T599 m 108 #[iv i0, iv i1, iv i2, iv i3, iv i4, iv i5, iv (1 : Int32), iv (2 : Int32), iv (own_cr i0), iv (own_cr i1), iv (own_cr i2), iv (own_cr i3), rv vr_584, rv vr_587, rv b590, rv nr_599] [(.ref nr_599)]
        exact k)
      obtain ⟨cq607, kq607, q607a, q607b, q607c⟩ := isOf hZ rfl R599_2
      obtain ⟨_, _, ⟨T607, L607, k607, n607⟩, -, X607, ⟨Lc607, hQ607, l607, y607, z607⟩, st607⟩ := Y599.virtualBack hx (y := (⟨"java/lang/String", "length", "()I"⟩ : MethodName)) (z := (⟨"java/lang/String", "length", "()I"⟩ : MethodName)) hown (mvT hZ (hw _ (List.mem_of_getElem? (i := 161) rfl))) (mvT hZ (hw _ (List.mem_of_getElem? (i := 78) rfl))) (notFace_of_selects (args := #[]) (mvT hZ (hw _ (List.mem_of_getElem? (i := 80) rfl)))) (mvT hZ (hw _ (List.mem_of_getElem? (i := 80) rfl))) (mvT hZ (hw _ (List.mem_of_getElem? (i := 79) rfl))) (by decide) (backOf (W := 0) (rm_len l Z a0 hw [] nr_599 tb_599 tk_599 (4 : Int32) [(.int (((nar .char (own_cr i0)).toInt8.toInt32).toInt8.toInt32)), (.int (45 : Int32)), (.int (((nar .char (own_cr i2)).toInt8.toInt32).toInt8.toInt32)), (.int (((nar .char (own_cr i3)).toInt8.toInt32).toInt8.toInt32))] cz T599.heap n0 (Nat.le_trans Z0 (Nat.le_trans (Nat.le_trans (Nat.le_trans (Nat.le_trans (Nat.le_trans (Nat.le_refl _) R584_0.1) R587_0.1) E590.1) R596_0.1) R599_0.1)) R599_2 R599_3 R599_4 Vn605 (Sta.keepO (Sta.keepO ((Sta.keepO (Sta.keepO P0 R584_0 ns0) R587_0 ns0).ext E590) R596_0 (nsS (Exa.nostat A590) ns0)) R599_0 ns0) hz) hZ (hw _ (List.mem_of_getElem? (i := 81) rfl)) (hw _ (List.mem_of_getElem? (i := 6) rfl)) (by decide) (by decide)) q607a q607c (g := (mkF m 108 #[iv i0, iv i1, iv i2, iv i3, iv i4, iv i5, iv (1 : Int32), iv (2 : Int32), iv (own_cr i0), iv (own_cr i1), iv (own_cr i2), iv (own_cr i3), rv vr_584, rv vr_587, rv b590, rv nr_599] [(.ref nr_599)])) rfl (by rw [hml]; rfl) (Steps.refl _) (argsL := []) (rest := []) (lenOf pd1 rfl) rfl (by show 2 * 0 + _ ≤ _; exact Nat.le_of_eq rfl) (hb hby at_108) (fun _ _ => ⟨rfl, rfl, (by decide : 13 + 0 ≤ _), (by decide : 57 + 0 ≤ _)⟩)
      dsimp only [Pt.U, Pt.locs, Pt.cells, Pt.slots] at X607 l607 y607 z607 st607 hQ607
      subst l607 y607 z607
      obtain ⟨rfl, N607, R607_0⟩ := hQ607
      have M607 := Fr.app M599 N607
      have g608 : Goes p e below S0 (T607.setTop (mkF m 111 #[iv i0, iv i1, iv i2, iv i3, iv i4, iv i5, iv (1 : Int32), iv (2 : Int32), iv (own_cr i0), iv (own_cr i1), iv (own_cr i2), iv (own_cr i3), rv vr_584, rv vr_587, rv b590, rv nr_599] [(.int (4 : Int32))])) := fun t k => g606 t (st607.trans k)
      have g609 : Goes p e below S0 (T607.setTop (mkF m 132 #[iv i0, iv i1, iv i2, iv i3, iv i4, iv i5, iv (1 : Int32), iv (2 : Int32), iv (own_cr i0), iv (own_cr i1), iv (own_cr i2), iv (own_cr i3), rv vr_584, rv vr_587, rv b590, rv nr_599] [(.int (0 : Int32)), (.ref nr_599)])) := fun t k => g608 t (by
        refine XS.iload X607.here hx rfl (hb hby at_111) rfl ?_
        show Go p e below t T607 m 113 #[iv i0, iv i1, iv i2, iv i3, iv i4, iv i5, iv (1 : Int32), iv (2 : Int32), iv (own_cr i0), iv (own_cr i1), iv (own_cr i2), iv (own_cr i3), rv vr_584, rv vr_587, rv b590, rv nr_599] [(.int (1 : Int32)), (.int (4 : Int32))]
        refine XT.iconstV X607.here hx rfl (1 : Int32) (hb hby at_113) (by decide) ?_
        show Go p e below t T607 m 114 #[iv i0, iv i1, iv i2, iv i3, iv i4, iv i5, iv (1 : Int32), iv (2 : Int32), iv (own_cr i0), iv (own_cr i1), iv (own_cr i2), iv (own_cr i3), rv vr_584, rv vr_587, rv b590, rv nr_599] [(.int (1 : Int32)), (.int (1 : Int32)), (.int (4 : Int32))]
        refine XS.iadd X607.here hx rfl (hb hby at_114) rfl ?_
        rw [show ((1 : Int32) + (1 : Int32)) = (2 : Int32) by decide]
        show Go p e below t T607 m 115 #[iv i0, iv i1, iv i2, iv i3, iv i4, iv i5, iv (1 : Int32), iv (2 : Int32), iv (own_cr i0), iv (own_cr i1), iv (own_cr i2), iv (own_cr i3), rv vr_584, rv vr_587, rv b590, rv nr_599] [(.int (2 : Int32)), (.int (4 : Int32))]
        refine XS.iload X607.here hx rfl (hb hby at_115) rfl ?_
        show Go p e below t T607 m 117 #[iv i0, iv i1, iv i2, iv i3, iv i4, iv i5, iv (1 : Int32), iv (2 : Int32), iv (own_cr i0), iv (own_cr i1), iv (own_cr i2), iv (own_cr i3), rv vr_584, rv vr_587, rv b590, rv nr_599] [(.int (2 : Int32)), (.int (2 : Int32)), (.int (4 : Int32))]
        refine XS.iadd X607.here hx rfl (hb hby at_117) rfl ?_
        rw [show ((2 : Int32) + (2 : Int32)) = (4 : Int32) by decide]
        show Go p e below t T607 m 118 #[iv i0, iv i1, iv i2, iv i3, iv i4, iv i5, iv (1 : Int32), iv (2 : Int32), iv (own_cr i0), iv (own_cr i1), iv (own_cr i2), iv (own_cr i3), rv vr_584, rv vr_587, rv b590, rv nr_599] [(.int (4 : Int32)), (.int (4 : Int32))]
        refine XS.icmpYes X607.here hx rfl (pc0 := 118) (pc' := 123) rfl (hb hby at_118) rfl (XT.ii_eq_t (by decide)) (by decide) (by decide) ?_
        show Go p e below t T607 m 123 #[iv i0, iv i1, iv i2, iv i3, iv i4, iv i5, iv (1 : Int32), iv (2 : Int32), iv (own_cr i0), iv (own_cr i1), iv (own_cr i2), iv (own_cr i3), rv vr_584, rv vr_587, rv b590, rv nr_599] []
        refine XS.iload X607.here hx rfl (hb hby at_123) rfl ?_
        show Go p e below t T607 m 125 #[iv i0, iv i1, iv i2, iv i3, iv i4, iv i5, iv (1 : Int32), iv (2 : Int32), iv (own_cr i0), iv (own_cr i1), iv (own_cr i2), iv (own_cr i3), rv vr_584, rv vr_587, rv b590, rv nr_599] [(.int (1 : Int32))]
        refine XT.iconstV X607.here hx rfl (1 : Int32) (hb hby at_125) (by decide) ?_
        show Go p e below t T607 m 126 #[iv i0, iv i1, iv i2, iv i3, iv i4, iv i5, iv (1 : Int32), iv (2 : Int32), iv (own_cr i0), iv (own_cr i1), iv (own_cr i2), iv (own_cr i3), rv vr_584, rv vr_587, rv b590, rv nr_599] [(.int (1 : Int32)), (.int (1 : Int32))]
        refine XS.icmpNo X607.here hx rfl (hb hby at_126) rfl (XT.ii_lt_f (by decide)) ?_
        show Go p e below t T607 m 129 #[iv i0, iv i1, iv i2, iv i3, iv i4, iv i5, iv (1 : Int32), iv (2 : Int32), iv (own_cr i0), iv (own_cr i1), iv (own_cr i2), iv (own_cr i3), rv vr_584, rv vr_587, rv b590, rv nr_599] []
        refine XS.aload X607.here hx rfl (hb hby at_129) rfl rfl ?_
        show Go p e below t T607 m 131 #[iv i0, iv i1, iv i2, iv i3, iv i4, iv i5, iv (1 : Int32), iv (2 : Int32), iv (own_cr i0), iv (own_cr i1), iv (own_cr i2), iv (own_cr i3), rv vr_584, rv vr_587, rv b590, rv nr_599] [(.ref nr_599)]
        refine XT.iconstV X607.here hx rfl (0 : Int32) (hb hby at_131) (by decide) ?_
        show Go p e below t T607 m 132 #[iv i0, iv i1, iv i2, iv i3, iv i4, iv i5, iv (1 : Int32), iv (2 : Int32), iv (own_cr i0), iv (own_cr i1), iv (own_cr i2), iv (own_cr i3), rv vr_584, rv vr_587, rv b590, rv nr_599] [(.int (0 : Int32)), (.ref nr_599)]
        exact k)
      obtain ⟨cq610, kq610, q610a, q610b, q610c⟩ := isOf hZ R607_0 R599_2
      obtain ⟨_, _, ⟨T610, L610, k610, n610⟩, -, X610, ⟨Lc610, hQ610, l610, y610, z610⟩, st610⟩ := X607.virtualBack hx (y := (⟨"java/lang/String", "charAt", "(I)C"⟩ : MethodName)) (z := (⟨"java/lang/String", "charAt", "(I)C"⟩ : MethodName)) hown (mvT hZ (hw _ (List.mem_of_getElem? (i := 162) rfl))) (mvT hZ (hw _ (List.mem_of_getElem? (i := 163) rfl))) (notFace_of_selects (args := #[]) (mvT hZ (hw _ (List.mem_of_getElem? (i := 165) rfl)))) (mvT hZ (hw _ (List.mem_of_getElem? (i := 165) rfl))) (mvT hZ (hw _ (List.mem_of_getElem? (i := 164) rfl))) (by decide) (backOf (W := 0) (rm_cha l Z a0 hw [] nr_599 (0 : Int32) tb_599 tk_599 (4 : Int32) [(.int (((nar .char (own_cr i0)).toInt8.toInt32).toInt8.toInt32)), (.int (45 : Int32)), (.int (((nar .char (own_cr i2)).toInt8.toInt32).toInt8.toInt32)), (.int (((nar .char (own_cr i3)).toInt8.toInt32).toInt8.toInt32))] (((nar .char (own_cr i0)).toInt8.toInt32).toInt8.toInt32) fx cz T599.heap n0 (Nat.le_trans Z0 (Nat.le_trans (Nat.le_trans (Nat.le_trans (Nat.le_trans (Nat.le_trans (Nat.le_refl _) R584_0.1) R587_0.1) E590.1) R596_0.1) R599_0.1)) R599_2 R599_3 R599_4 Vn605 (Sta.keepO (Sta.keepO ((Sta.keepO (Sta.keepO P0 R584_0 ns0) R587_0 ns0).ext E590) R596_0 (nsS (Exa.nostat A590) ns0)) R599_0 ns0) hz (Sta.keepO (Sta.keepO ((Sta.keepO (Sta.keepO P2 R584_0 ns0) R587_0 ns0).ext E590) R596_0 (nsS (Exa.nostat A590) ns0)) R599_0 ns0) hfx (by decide) (by decide) rfl) hZ (hw _ (List.mem_of_getElem? (i := 166) rfl)) (hw _ (List.mem_of_getElem? (i := 6) rfl)) (by decide) (by decide)) q610a q610c (g := (mkF m 132 #[iv i0, iv i1, iv i2, iv i3, iv i4, iv i5, iv (1 : Int32), iv (2 : Int32), iv (own_cr i0), iv (own_cr i1), iv (own_cr i2), iv (own_cr i3), rv vr_584, rv vr_587, rv b590, rv nr_599] [(.int (0 : Int32)), (.ref nr_599)])) rfl (by rw [hml]; rfl) (Steps.refl _) (argsL := [(.int (0 : Int32))]) (rest := []) (lenOf pd26 rfl) rfl (by show 2 * 0 + _ ≤ _; exact Nat.le_of_eq rfl) (hb hby at_132) (fun _ _ => ⟨rfl, R607_0, (by decide : 13 + 0 ≤ _), (by decide : 57 + 0 ≤ _)⟩)
      dsimp only [Pt.U, Pt.locs, Pt.cells, Pt.slots] at X610 l610 y610 z610 st610 hQ610
      subst l610 y610 z610
      obtain ⟨rfl, N610, R610_0⟩ := hQ610
      have M610 := Fr.app M607 N610
      have g611 : Goes p e below S0 (T610.setTop (mkF m 135 #[iv i0, iv i1, iv i2, iv i3, iv i4, iv i5, iv (1 : Int32), iv (2 : Int32), iv (own_cr i0), iv (own_cr i1), iv (own_cr i2), iv (own_cr i3), rv vr_584, rv vr_587, rv b590, rv nr_599] [(.int (own_chr (((nar .char (own_cr i0)).toInt8.toInt32).toInt8.toInt32)))])) := fun t k => g609 t (st610.trans k)
      have g612 : Goes p e below S0 (T610.setTop (mkF m 165 #[iv i0, iv i1, iv i2, iv i3, iv i4, iv i5, iv (1 : Int32), iv (2 : Int32), iv (own_cr i0), iv (own_cr i1), iv (own_cr i2), iv (own_cr i3), rv vr_584, rv vr_587, rv b590, rv nr_599] [(.int (1 : Int32)), (.ref nr_599)])) := fun t k => g611 t (by
        refine XS.iload X610.here hx rfl (hb hby at_135) rfl ?_
        show Go p e below t T610 m 137 #[iv i0, iv i1, iv i2, iv i3, iv i4, iv i5, iv (1 : Int32), iv (2 : Int32), iv (own_cr i0), iv (own_cr i1), iv (own_cr i2), iv (own_cr i3), rv vr_584, rv vr_587, rv b590, rv nr_599] [(.int (own_cr i0)), (.int (own_chr (((nar .char (own_cr i0)).toInt8.toInt32).toInt8.toInt32)))]
        refine XS.icmpYes X610.here hx rfl (pc0 := 137) (pc' := 142) rfl (hb hby at_137) rfl (XT.ii_eq_t (own_rt _)) (by decide) (by decide) ?_
        show Go p e below t T610 m 142 #[iv i0, iv i1, iv i2, iv i3, iv i4, iv i5, iv (1 : Int32), iv (2 : Int32), iv (own_cr i0), iv (own_cr i1), iv (own_cr i2), iv (own_cr i3), rv vr_584, rv vr_587, rv b590, rv nr_599] []
        refine XS.iload X610.here hx rfl (hb hby at_142) rfl ?_
        show Go p e below t T610 m 144 #[iv i0, iv i1, iv i2, iv i3, iv i4, iv i5, iv (1 : Int32), iv (2 : Int32), iv (own_cr i0), iv (own_cr i1), iv (own_cr i2), iv (own_cr i3), rv vr_584, rv vr_587, rv b590, rv nr_599] [(.int (1 : Int32))]
        refine XT.iconstV X610.here hx rfl (2 : Int32) (hb hby at_144) (by decide) ?_
        show Go p e below t T610 m 145 #[iv i0, iv i1, iv i2, iv i3, iv i4, iv i5, iv (1 : Int32), iv (2 : Int32), iv (own_cr i0), iv (own_cr i1), iv (own_cr i2), iv (own_cr i3), rv vr_584, rv vr_587, rv b590, rv nr_599] [(.int (2 : Int32)), (.int (1 : Int32))]
        refine XS.icmpYes X610.here hx rfl (pc0 := 145) (pc' := 161) rfl (hb hby at_145) rfl (XT.ii_lt_t (by decide)) (by decide) (by decide) ?_
        show Go p e below t T610 m 161 #[iv i0, iv i1, iv i2, iv i3, iv i4, iv i5, iv (1 : Int32), iv (2 : Int32), iv (own_cr i0), iv (own_cr i1), iv (own_cr i2), iv (own_cr i3), rv vr_584, rv vr_587, rv b590, rv nr_599] []
        refine XS.aload X610.here hx rfl (hb hby at_161) rfl rfl ?_
        show Go p e below t T610 m 163 #[iv i0, iv i1, iv i2, iv i3, iv i4, iv i5, iv (1 : Int32), iv (2 : Int32), iv (own_cr i0), iv (own_cr i1), iv (own_cr i2), iv (own_cr i3), rv vr_584, rv vr_587, rv b590, rv nr_599] [(.ref nr_599)]
        refine XS.iload X610.here hx rfl (hb hby at_163) rfl ?_
        show Go p e below t T610 m 165 #[iv i0, iv i1, iv i2, iv i3, iv i4, iv i5, iv (1 : Int32), iv (2 : Int32), iv (own_cr i0), iv (own_cr i1), iv (own_cr i2), iv (own_cr i3), rv vr_584, rv vr_587, rv b590, rv nr_599] [(.int (1 : Int32)), (.ref nr_599)]
        exact k)
      obtain ⟨cq613, kq613, q613a, q613b, q613c⟩ := isOf hZ R610_0 R599_2
      obtain ⟨_, _, ⟨T613, L613, k613, n613⟩, -, X613, ⟨Lc613, hQ613, l613, y613, z613⟩, st613⟩ := X610.virtualBack hx (y := (⟨"java/lang/String", "charAt", "(I)C"⟩ : MethodName)) (z := (⟨"java/lang/String", "charAt", "(I)C"⟩ : MethodName)) hown (mvT hZ (hw _ (List.mem_of_getElem? (i := 162) rfl))) (mvT hZ (hw _ (List.mem_of_getElem? (i := 163) rfl))) (notFace_of_selects (args := #[]) (mvT hZ (hw _ (List.mem_of_getElem? (i := 165) rfl)))) (mvT hZ (hw _ (List.mem_of_getElem? (i := 165) rfl))) (mvT hZ (hw _ (List.mem_of_getElem? (i := 164) rfl))) (by decide) (backOf (W := 0) (rm_cha l Z a0 hw [] nr_599 (1 : Int32) tb_599 tk_599 (4 : Int32) [(.int (((nar .char (own_cr i0)).toInt8.toInt32).toInt8.toInt32)), (.int (45 : Int32)), (.int (((nar .char (own_cr i2)).toInt8.toInt32).toInt8.toInt32)), (.int (((nar .char (own_cr i3)).toInt8.toInt32).toInt8.toInt32))] (45 : Int32) fx cz T599.heap n0 (Nat.le_trans Z0 (Nat.le_trans (Nat.le_trans (Nat.le_trans (Nat.le_trans (Nat.le_trans (Nat.le_refl _) R584_0.1) R587_0.1) E590.1) R596_0.1) R599_0.1)) R599_2 R599_3 R599_4 Vn605 (Sta.keepO (Sta.keepO ((Sta.keepO (Sta.keepO P0 R584_0 ns0) R587_0 ns0).ext E590) R596_0 (nsS (Exa.nostat A590) ns0)) R599_0 ns0) hz (Sta.keepO (Sta.keepO ((Sta.keepO (Sta.keepO P2 R584_0 ns0) R587_0 ns0).ext E590) R596_0 (nsS (Exa.nostat A590) ns0)) R599_0 ns0) hfx (by decide) (by decide) rfl) hZ (hw _ (List.mem_of_getElem? (i := 166) rfl)) (hw _ (List.mem_of_getElem? (i := 6) rfl)) (by decide) (by decide)) q613a q613c (g := (mkF m 165 #[iv i0, iv i1, iv i2, iv i3, iv i4, iv i5, iv (1 : Int32), iv (2 : Int32), iv (own_cr i0), iv (own_cr i1), iv (own_cr i2), iv (own_cr i3), rv vr_584, rv vr_587, rv b590, rv nr_599] [(.int (1 : Int32)), (.ref nr_599)])) rfl (by rw [hml]; rfl) (Steps.refl _) (argsL := [(.int (1 : Int32))]) (rest := []) (lenOf pd26 rfl) rfl (by show 2 * 0 + _ ≤ _; exact Nat.le_of_eq rfl) (hb hby at_165) (fun _ _ => ⟨rfl, R610_0, (by decide : 13 + 0 ≤ _), (by decide : 57 + 0 ≤ _)⟩)
      dsimp only [Pt.U, Pt.locs, Pt.cells, Pt.slots] at X613 l613 y613 z613 st613 hQ613
      subst l613 y613 z613
      obtain ⟨rfl, N613, R613_0⟩ := hQ613
      have M613 := Fr.app M610 N613
      have g614 : Goes p e below S0 (T613.setTop (mkF m 168 #[iv i0, iv i1, iv i2, iv i3, iv i4, iv i5, iv (1 : Int32), iv (2 : Int32), iv (own_cr i0), iv (own_cr i1), iv (own_cr i2), iv (own_cr i3), rv vr_584, rv vr_587, rv b590, rv nr_599] [(.int (own_chr (45 : Int32)))])) := fun t k => g612 t (st613.trans k)
      have g615 : Goes p e below S0 (T613.setTop (mkF m 187 #[iv i0, iv i1, iv i2, iv i3, iv i4, iv i5, iv (1 : Int32), iv (2 : Int32), iv (own_cr i0), iv (own_cr i1), iv (own_cr i2), iv (own_cr i3), rv vr_584, rv vr_587, rv b590, rv nr_599] [(.int (2 : Int32)), (.ref nr_599)])) := fun t k => g614 t (by
        refine XT.bipushV X613.here hx rfl (45 : Int32) (hb hby at_168) (by decide) ?_
        show Go p e below t T613 m 170 #[iv i0, iv i1, iv i2, iv i3, iv i4, iv i5, iv (1 : Int32), iv (2 : Int32), iv (own_cr i0), iv (own_cr i1), iv (own_cr i2), iv (own_cr i3), rv vr_584, rv vr_587, rv b590, rv nr_599] [(.int (45 : Int32)), (.int (own_chr (45 : Int32)))]
        refine XS.icmpYes X613.here hx rfl (pc0 := 170) (pc' := 175) rfl (hb hby at_170) rfl (XT.ii_eq_t (by decide)) (by decide) (by decide) ?_
        show Go p e below t T613 m 175 #[iv i0, iv i1, iv i2, iv i3, iv i4, iv i5, iv (1 : Int32), iv (2 : Int32), iv (own_cr i0), iv (own_cr i1), iv (own_cr i2), iv (own_cr i3), rv vr_584, rv vr_587, rv b590, rv nr_599] []
        refine XS.iload X613.here hx rfl (hb hby at_175) rfl ?_
        show Go p e below t T613 m 177 #[iv i0, iv i1, iv i2, iv i3, iv i4, iv i5, iv (1 : Int32), iv (2 : Int32), iv (own_cr i0), iv (own_cr i1), iv (own_cr i2), iv (own_cr i3), rv vr_584, rv vr_587, rv b590, rv nr_599] [(.int (2 : Int32))]
        refine XT.iconstV X613.here hx rfl (1 : Int32) (hb hby at_177) (by decide) ?_
        show Go p e below t T613 m 178 #[iv i0, iv i1, iv i2, iv i3, iv i4, iv i5, iv (1 : Int32), iv (2 : Int32), iv (own_cr i0), iv (own_cr i1), iv (own_cr i2), iv (own_cr i3), rv vr_584, rv vr_587, rv b590, rv nr_599] [(.int (1 : Int32)), (.int (2 : Int32))]
        refine XS.icmpNo X613.here hx rfl (hb hby at_178) rfl (XT.ii_lt_f (by decide)) ?_
        show Go p e below t T613 m 181 #[iv i0, iv i1, iv i2, iv i3, iv i4, iv i5, iv (1 : Int32), iv (2 : Int32), iv (own_cr i0), iv (own_cr i1), iv (own_cr i2), iv (own_cr i3), rv vr_584, rv vr_587, rv b590, rv nr_599] []
        refine XS.aload X613.here hx rfl (hb hby at_181) rfl rfl ?_
        show Go p e below t T613 m 183 #[iv i0, iv i1, iv i2, iv i3, iv i4, iv i5, iv (1 : Int32), iv (2 : Int32), iv (own_cr i0), iv (own_cr i1), iv (own_cr i2), iv (own_cr i3), rv vr_584, rv vr_587, rv b590, rv nr_599] [(.ref nr_599)]
        refine XS.iload X613.here hx rfl (hb hby at_183) rfl ?_
        show Go p e below t T613 m 185 #[iv i0, iv i1, iv i2, iv i3, iv i4, iv i5, iv (1 : Int32), iv (2 : Int32), iv (own_cr i0), iv (own_cr i1), iv (own_cr i2), iv (own_cr i3), rv vr_584, rv vr_587, rv b590, rv nr_599] [(.int (1 : Int32)), (.ref nr_599)]
        refine XT.iconstV X613.here hx rfl (1 : Int32) (hb hby at_185) (by decide) ?_
        show Go p e below t T613 m 186 #[iv i0, iv i1, iv i2, iv i3, iv i4, iv i5, iv (1 : Int32), iv (2 : Int32), iv (own_cr i0), iv (own_cr i1), iv (own_cr i2), iv (own_cr i3), rv vr_584, rv vr_587, rv b590, rv nr_599] [(.int (1 : Int32)), (.int (1 : Int32)), (.ref nr_599)]
        refine XS.iadd X613.here hx rfl (hb hby at_186) rfl ?_
        rw [show ((1 : Int32) + (1 : Int32)) = (2 : Int32) by decide]
        show Go p e below t T613 m 187 #[iv i0, iv i1, iv i2, iv i3, iv i4, iv i5, iv (1 : Int32), iv (2 : Int32), iv (own_cr i0), iv (own_cr i1), iv (own_cr i2), iv (own_cr i3), rv vr_584, rv vr_587, rv b590, rv nr_599] [(.int (2 : Int32)), (.ref nr_599)]
        exact k)
      obtain ⟨cq616, kq616, q616a, q616b, q616c⟩ := isOf hZ R613_0 R599_2
      obtain ⟨_, _, ⟨T616, L616, k616, n616⟩, -, X616, ⟨Lc616, hQ616, l616, y616, z616⟩, st616⟩ := X613.virtualBack hx (y := (⟨"java/lang/String", "charAt", "(I)C"⟩ : MethodName)) (z := (⟨"java/lang/String", "charAt", "(I)C"⟩ : MethodName)) hown (mvT hZ (hw _ (List.mem_of_getElem? (i := 162) rfl))) (mvT hZ (hw _ (List.mem_of_getElem? (i := 163) rfl))) (notFace_of_selects (args := #[]) (mvT hZ (hw _ (List.mem_of_getElem? (i := 165) rfl)))) (mvT hZ (hw _ (List.mem_of_getElem? (i := 165) rfl))) (mvT hZ (hw _ (List.mem_of_getElem? (i := 164) rfl))) (by decide) (backOf (W := 0) (rm_cha l Z a0 hw [] nr_599 (2 : Int32) tb_599 tk_599 (4 : Int32) [(.int (((nar .char (own_cr i0)).toInt8.toInt32).toInt8.toInt32)), (.int (45 : Int32)), (.int (((nar .char (own_cr i2)).toInt8.toInt32).toInt8.toInt32)), (.int (((nar .char (own_cr i3)).toInt8.toInt32).toInt8.toInt32))] (((nar .char (own_cr i2)).toInt8.toInt32).toInt8.toInt32) fx cz T599.heap n0 (Nat.le_trans Z0 (Nat.le_trans (Nat.le_trans (Nat.le_trans (Nat.le_trans (Nat.le_trans (Nat.le_refl _) R584_0.1) R587_0.1) E590.1) R596_0.1) R599_0.1)) R599_2 R599_3 R599_4 Vn605 (Sta.keepO (Sta.keepO ((Sta.keepO (Sta.keepO P0 R584_0 ns0) R587_0 ns0).ext E590) R596_0 (nsS (Exa.nostat A590) ns0)) R599_0 ns0) hz (Sta.keepO (Sta.keepO ((Sta.keepO (Sta.keepO P2 R584_0 ns0) R587_0 ns0).ext E590) R596_0 (nsS (Exa.nostat A590) ns0)) R599_0 ns0) hfx (by decide) (by decide) rfl) hZ (hw _ (List.mem_of_getElem? (i := 166) rfl)) (hw _ (List.mem_of_getElem? (i := 6) rfl)) (by decide) (by decide)) q616a q616c (g := (mkF m 187 #[iv i0, iv i1, iv i2, iv i3, iv i4, iv i5, iv (1 : Int32), iv (2 : Int32), iv (own_cr i0), iv (own_cr i1), iv (own_cr i2), iv (own_cr i3), rv vr_584, rv vr_587, rv b590, rv nr_599] [(.int (2 : Int32)), (.ref nr_599)])) rfl (by rw [hml]; rfl) (Steps.refl _) (argsL := [(.int (2 : Int32))]) (rest := []) (lenOf pd26 rfl) rfl (by show 2 * 0 + _ ≤ _; exact Nat.le_of_eq rfl) (hb hby at_187) (fun _ _ => ⟨rfl, R613_0, (by decide : 13 + 0 ≤ _), (by decide : 57 + 0 ≤ _)⟩)
      dsimp only [Pt.U, Pt.locs, Pt.cells, Pt.slots] at X616 l616 y616 z616 st616 hQ616
      subst l616 y616 z616
      obtain ⟨rfl, N616, R616_0⟩ := hQ616
      have M616 := Fr.app M613 N616
      have g617 : Goes p e below S0 (T616.setTop (mkF m 190 #[iv i0, iv i1, iv i2, iv i3, iv i4, iv i5, iv (1 : Int32), iv (2 : Int32), iv (own_cr i0), iv (own_cr i1), iv (own_cr i2), iv (own_cr i3), rv vr_584, rv vr_587, rv b590, rv nr_599] [(.int (own_chr (((nar .char (own_cr i2)).toInt8.toInt32).toInt8.toInt32)))])) := fun t k => g615 t (st616.trans k)
      have g618 : Goes p e below S0 (T616.setTop (mkF m 209 #[iv i0, iv i1, iv i2, iv i3, iv i4, iv i5, iv (1 : Int32), iv (2 : Int32), iv (own_cr i0), iv (own_cr i1), iv (own_cr i2), iv (own_cr i3), rv vr_584, rv vr_587, rv b590, rv nr_599] [(.int (3 : Int32)), (.ref nr_599)])) := fun t k => g617 t (by
        refine XS.iload X616.here hx rfl (hb hby at_190) rfl ?_
        show Go p e below t T616 m 192 #[iv i0, iv i1, iv i2, iv i3, iv i4, iv i5, iv (1 : Int32), iv (2 : Int32), iv (own_cr i0), iv (own_cr i1), iv (own_cr i2), iv (own_cr i3), rv vr_584, rv vr_587, rv b590, rv nr_599] [(.int (own_cr i2)), (.int (own_chr (((nar .char (own_cr i2)).toInt8.toInt32).toInt8.toInt32)))]
        refine XS.icmpYes X616.here hx rfl (pc0 := 192) (pc' := 197) rfl (hb hby at_192) rfl (XT.ii_eq_t (own_rt _)) (by decide) (by decide) ?_
        show Go p e below t T616 m 197 #[iv i0, iv i1, iv i2, iv i3, iv i4, iv i5, iv (1 : Int32), iv (2 : Int32), iv (own_cr i0), iv (own_cr i1), iv (own_cr i2), iv (own_cr i3), rv vr_584, rv vr_587, rv b590, rv nr_599] []
        refine XS.iload X616.here hx rfl (hb hby at_197) rfl ?_
        show Go p e below t T616 m 199 #[iv i0, iv i1, iv i2, iv i3, iv i4, iv i5, iv (1 : Int32), iv (2 : Int32), iv (own_cr i0), iv (own_cr i1), iv (own_cr i2), iv (own_cr i3), rv vr_584, rv vr_587, rv b590, rv nr_599] [(.int (2 : Int32))]
        refine XT.iconstV X616.here hx rfl (2 : Int32) (hb hby at_199) (by decide) ?_
        show Go p e below t T616 m 200 #[iv i0, iv i1, iv i2, iv i3, iv i4, iv i5, iv (1 : Int32), iv (2 : Int32), iv (own_cr i0), iv (own_cr i1), iv (own_cr i2), iv (own_cr i3), rv vr_584, rv vr_587, rv b590, rv nr_599] [(.int (2 : Int32)), (.int (2 : Int32))]
        refine XS.icmpNo X616.here hx rfl (hb hby at_200) rfl (XT.ii_lt_f (by decide)) ?_
        show Go p e below t T616 m 203 #[iv i0, iv i1, iv i2, iv i3, iv i4, iv i5, iv (1 : Int32), iv (2 : Int32), iv (own_cr i0), iv (own_cr i1), iv (own_cr i2), iv (own_cr i3), rv vr_584, rv vr_587, rv b590, rv nr_599] []
        refine XS.aload X616.here hx rfl (hb hby at_203) rfl rfl ?_
        show Go p e below t T616 m 205 #[iv i0, iv i1, iv i2, iv i3, iv i4, iv i5, iv (1 : Int32), iv (2 : Int32), iv (own_cr i0), iv (own_cr i1), iv (own_cr i2), iv (own_cr i3), rv vr_584, rv vr_587, rv b590, rv nr_599] [(.ref nr_599)]
        refine XS.iload X616.here hx rfl (hb hby at_205) rfl ?_
        show Go p e below t T616 m 207 #[iv i0, iv i1, iv i2, iv i3, iv i4, iv i5, iv (1 : Int32), iv (2 : Int32), iv (own_cr i0), iv (own_cr i1), iv (own_cr i2), iv (own_cr i3), rv vr_584, rv vr_587, rv b590, rv nr_599] [(.int (1 : Int32)), (.ref nr_599)]
        refine XT.iconstV X616.here hx rfl (2 : Int32) (hb hby at_207) (by decide) ?_
        show Go p e below t T616 m 208 #[iv i0, iv i1, iv i2, iv i3, iv i4, iv i5, iv (1 : Int32), iv (2 : Int32), iv (own_cr i0), iv (own_cr i1), iv (own_cr i2), iv (own_cr i3), rv vr_584, rv vr_587, rv b590, rv nr_599] [(.int (2 : Int32)), (.int (1 : Int32)), (.ref nr_599)]
        refine XS.iadd X616.here hx rfl (hb hby at_208) rfl ?_
        rw [show ((1 : Int32) + (2 : Int32)) = (3 : Int32) by decide]
        show Go p e below t T616 m 209 #[iv i0, iv i1, iv i2, iv i3, iv i4, iv i5, iv (1 : Int32), iv (2 : Int32), iv (own_cr i0), iv (own_cr i1), iv (own_cr i2), iv (own_cr i3), rv vr_584, rv vr_587, rv b590, rv nr_599] [(.int (3 : Int32)), (.ref nr_599)]
        exact k)
      obtain ⟨cq619, kq619, q619a, q619b, q619c⟩ := isOf hZ R616_0 R599_2
      obtain ⟨_, _, ⟨T619, L619, k619, n619⟩, -, X619, ⟨Lc619, hQ619, l619, y619, z619⟩, st619⟩ := X616.virtualBack hx (y := (⟨"java/lang/String", "charAt", "(I)C"⟩ : MethodName)) (z := (⟨"java/lang/String", "charAt", "(I)C"⟩ : MethodName)) hown (mvT hZ (hw _ (List.mem_of_getElem? (i := 162) rfl))) (mvT hZ (hw _ (List.mem_of_getElem? (i := 163) rfl))) (notFace_of_selects (args := #[]) (mvT hZ (hw _ (List.mem_of_getElem? (i := 165) rfl)))) (mvT hZ (hw _ (List.mem_of_getElem? (i := 165) rfl))) (mvT hZ (hw _ (List.mem_of_getElem? (i := 164) rfl))) (by decide) (backOf (W := 0) (rm_cha l Z a0 hw [] nr_599 (3 : Int32) tb_599 tk_599 (4 : Int32) [(.int (((nar .char (own_cr i0)).toInt8.toInt32).toInt8.toInt32)), (.int (45 : Int32)), (.int (((nar .char (own_cr i2)).toInt8.toInt32).toInt8.toInt32)), (.int (((nar .char (own_cr i3)).toInt8.toInt32).toInt8.toInt32))] (((nar .char (own_cr i3)).toInt8.toInt32).toInt8.toInt32) fx cz T599.heap n0 (Nat.le_trans Z0 (Nat.le_trans (Nat.le_trans (Nat.le_trans (Nat.le_trans (Nat.le_trans (Nat.le_refl _) R584_0.1) R587_0.1) E590.1) R596_0.1) R599_0.1)) R599_2 R599_3 R599_4 Vn605 (Sta.keepO (Sta.keepO ((Sta.keepO (Sta.keepO P0 R584_0 ns0) R587_0 ns0).ext E590) R596_0 (nsS (Exa.nostat A590) ns0)) R599_0 ns0) hz (Sta.keepO (Sta.keepO ((Sta.keepO (Sta.keepO P2 R584_0 ns0) R587_0 ns0).ext E590) R596_0 (nsS (Exa.nostat A590) ns0)) R599_0 ns0) hfx (by decide) (by decide) rfl) hZ (hw _ (List.mem_of_getElem? (i := 166) rfl)) (hw _ (List.mem_of_getElem? (i := 6) rfl)) (by decide) (by decide)) q619a q619c (g := (mkF m 209 #[iv i0, iv i1, iv i2, iv i3, iv i4, iv i5, iv (1 : Int32), iv (2 : Int32), iv (own_cr i0), iv (own_cr i1), iv (own_cr i2), iv (own_cr i3), rv vr_584, rv vr_587, rv b590, rv nr_599] [(.int (3 : Int32)), (.ref nr_599)])) rfl (by rw [hml]; rfl) (Steps.refl _) (argsL := [(.int (3 : Int32))]) (rest := []) (lenOf pd26 rfl) rfl (by show 2 * 0 + _ ≤ _; exact Nat.le_of_eq rfl) (hb hby at_209) (fun _ _ => ⟨rfl, R616_0, (by decide : 13 + 0 ≤ _), (by decide : 57 + 0 ≤ _)⟩)
      dsimp only [Pt.U, Pt.locs, Pt.cells, Pt.slots] at X619 l619 y619 z619 st619 hQ619
      subst l619 y619 z619
      obtain ⟨rfl, N619, R619_0⟩ := hQ619
      have M619 := Fr.app M616 N619
      have g620 : Goes p e below S0 (T619.setTop (mkF m 212 #[iv i0, iv i1, iv i2, iv i3, iv i4, iv i5, iv (1 : Int32), iv (2 : Int32), iv (own_cr i0), iv (own_cr i1), iv (own_cr i2), iv (own_cr i3), rv vr_584, rv vr_587, rv b590, rv nr_599] [(.int (own_chr (((nar .char (own_cr i3)).toInt8.toInt32).toInt8.toInt32)))])) := fun t k => g618 t (st619.trans k)
      have g621 : Goes p e below S0 (T619.setTop (mkF m 220 #[iv i0, iv i1, iv i2, iv i3, iv i4, iv i5, iv (1 : Int32), iv (2 : Int32), iv (own_cr i0), iv (own_cr i1), iv (own_cr i2), iv (own_cr i3), rv vr_584, rv vr_587, rv b590, rv nr_599] [(.int (1 : Int32))])) := fun t k => g620 t (by
        refine XS.iload X619.here hx rfl (hb hby at_212) rfl ?_
        show Go p e below t T619 m 214 #[iv i0, iv i1, iv i2, iv i3, iv i4, iv i5, iv (1 : Int32), iv (2 : Int32), iv (own_cr i0), iv (own_cr i1), iv (own_cr i2), iv (own_cr i3), rv vr_584, rv vr_587, rv b590, rv nr_599] [(.int (own_cr i3)), (.int (own_chr (((nar .char (own_cr i3)).toInt8.toInt32).toInt8.toInt32)))]
        refine XS.icmpYes X619.here hx rfl (pc0 := 214) (pc' := 219) rfl (hb hby at_214) rfl (XT.ii_eq_t (own_rt _)) (by decide) (by decide) ?_
        show Go p e below t T619 m 219 #[iv i0, iv i1, iv i2, iv i3, iv i4, iv i5, iv (1 : Int32), iv (2 : Int32), iv (own_cr i0), iv (own_cr i1), iv (own_cr i2), iv (own_cr i3), rv vr_584, rv vr_587, rv b590, rv nr_599] []
        refine XT.iconstV X619.here hx rfl (1 : Int32) (hb hby at_219) (by decide) ?_
        show Go p e below t T619 m 220 #[iv i0, iv i1, iv i2, iv i3, iv i4, iv i5, iv (1 : Int32), iv (2 : Int32), iv (own_cr i0), iv (own_cr i1), iv (own_cr i2), iv (own_cr i3), rv vr_584, rv vr_587, rv b590, rv nr_599] [(.int (1 : Int32))]
        exact k)
      obtain ⟨fs, hr, hrun, hended, hE1, hE2, hE3, hE4⟩ := Stand.leaveW (s := s) (vm₁ := T599.vm) X619 so599 (by rw [R619_0]; exact (Nat.le_refl _)) (v := some (.int (1 : Int32))) (fun h => by rw [Bd.returns] at h; cases h)
      refine ⟨_, _, g621 _ (retN X619 hx (t := .boolean) Bd.returns (by simp) (hb hby at_220) hr), hrun, hended, _, _, rfl, ?_, hE1, hE2, hE3, hE4.mono (by decide) (by decide)⟩
      show Q_law Z i0 i1 i2 i3 i4 i5 cz fx h0 n0 _ T619.heap _
      rw [R619_0]
      exact ⟨rfl, M619⟩
  · skip
    rcases (own_t3 htl) with rfl | rfl | rfl
    · skip
      have g622 : Goes p e below S0 (s₁.setTop (mkF m 56 #[iv i0, iv i1, iv i2, iv i3, iv i4, iv i5, iv (2 : Int32), iv (0 : Int32), iv (own_cr i0), iv (own_cr i1), iv (own_cr i2), iv (own_cr i3), .unset, .unset, .unset, .unset] [(.int (own_cr i1)), (.int (own_cr i0)), (.int (2 : Int32))])) := fun t k => g414 t (by
        refine XS.iload X0.here hx rfl (hb hby at_50) rfl ?_
        show Go p e below t s₁ m 52 #[iv i0, iv i1, iv i2, iv i3, iv i4, iv i5, iv (2 : Int32), iv (0 : Int32), iv (own_cr i0), iv (own_cr i1), iv (own_cr i2), iv (own_cr i3), .unset, .unset, .unset, .unset] [(.int (2 : Int32))]
        refine XS.iload X0.here hx rfl (hb hby at_52) rfl ?_
        show Go p e below t s₁ m 54 #[iv i0, iv i1, iv i2, iv i3, iv i4, iv i5, iv (2 : Int32), iv (0 : Int32), iv (own_cr i0), iv (own_cr i1), iv (own_cr i2), iv (own_cr i3), .unset, .unset, .unset, .unset] [(.int (own_cr i0)), (.int (2 : Int32))]
        refine XS.iload X0.here hx rfl (hb hby at_54) rfl ?_
        show Go p e below t s₁ m 56 #[iv i0, iv i1, iv i2, iv i3, iv i4, iv i5, iv (2 : Int32), iv (0 : Int32), iv (own_cr i0), iv (own_cr i1), iv (own_cr i2), iv (own_cr i3), .unset, .unset, .unset, .unset] [(.int (own_cr i1)), (.int (own_cr i0)), (.int (2 : Int32))]
        exact k)
      obtain ⟨_, _, ⟨T623, L623, k623, n623⟩, -, X623, ⟨Lc623, hQ623, l623, y623, z623⟩, st623⟩ := Jvm.LawKit.callS X0 hx (y := (⟨"com/example/forager/forager/RoadNamePinLaw", "mk", "(ICC)Ljava/lang/String;"⟩ : MethodName)) hown (mvT hZ (hw _ (List.mem_of_getElem? (i := 0) rfl))) (mvT hZ (hw _ (List.mem_of_getElem? (i := 1) rfl))) (mvT hZ (hw _ (List.mem_of_getElem? (i := 2) rfl))) (mvT hZ (hw _ (List.mem_of_getElem? (i := 3) rfl))) (by decide) (backOf (W := 0) (rm_mk2 l Z a0 hw [] (2 : Int32) (own_cr i0) (own_cr i1) cz h0 n0 Z0 P0 hz rfl (own_ch _) (own_ch _)) hZ (hw _ (List.mem_of_getElem? (i := 3) rfl)) (hw _ (List.mem_of_getElem? (i := 2) rfl)) (by decide) (by decide)) (g := (mkF m 56 #[iv i0, iv i1, iv i2, iv i3, iv i4, iv i5, iv (2 : Int32), iv (0 : Int32), iv (own_cr i0), iv (own_cr i1), iv (own_cr i2), iv (own_cr i3), .unset, .unset, .unset, .unset] [(.int (own_cr i1)), (.int (own_cr i0)), (.int (2 : Int32))])) rfl (by rw [hml]; rfl) (argsL := [(.int (2 : Int32)), (.int (own_cr i0)), (.int (own_cr i1))]) (rest := []) (lenOf pd7 rfl) rfl (by show 2 * 0 + _ ≤ _; exact Nat.le_of_eq rfl) (hb hby at_56) (fun _ _ => ⟨rfl, e0, (by decide : 0 + 3 ≤ _), (by decide : 0 + 8 ≤ _)⟩)
      dsimp only [Pt.U, Pt.locs, Pt.cells, Pt.slots] at X623 l623 y623 z623 st623 hQ623
      subst l623 y623 z623
      obtain ⟨vr_623, tb_623, tk_623, rfl, N623, R623_0, R623_1, R623_2, R623_3, R623_4, R623_5⟩ := hQ623
      have M623 := Fr.app N0 N623
      have sz623_1 : h0.size ≤ vr_623 := Nat.le_trans (Nat.le_refl _) R623_1
      have ng623_1 : n0 ≤ vr_623 := Nat.le_trans Z0 sz623_1
      have g624 : Goes p e below S0 (T623.setTop (mkF m 59 #[iv i0, iv i1, iv i2, iv i3, iv i4, iv i5, iv (2 : Int32), iv (0 : Int32), iv (own_cr i0), iv (own_cr i1), iv (own_cr i2), iv (own_cr i3), .unset, .unset, .unset, .unset] [(.ref vr_623)])) := fun t k => g622 t (st623 t k)
      have g625 : Goes p e below S0 (T623.setTop (mkF m 67 #[iv i0, iv i1, iv i2, iv i3, iv i4, iv i5, iv (2 : Int32), iv (0 : Int32), iv (own_cr i0), iv (own_cr i1), iv (own_cr i2), iv (own_cr i3), rv vr_623, .unset, .unset, .unset] [(.int (own_cr i3)), (.int (own_cr i2)), (.int (0 : Int32))])) := fun t k => g624 t (by
        refine XS.astore X623.here hx rfl (hb hby at_59) rfl rfl (l' := #[iv i0, iv i1, iv i2, iv i3, iv i4, iv i5, iv (2 : Int32), iv (0 : Int32), iv (own_cr i0), iv (own_cr i1), iv (own_cr i2), iv (own_cr i3), rv vr_623, .unset, .unset, .unset]) rfl ?_
        show Go p e below t T623 m 61 #[iv i0, iv i1, iv i2, iv i3, iv i4, iv i5, iv (2 : Int32), iv (0 : Int32), iv (own_cr i0), iv (own_cr i1), iv (own_cr i2), iv (own_cr i3), rv vr_623, .unset, .unset, .unset] []
        refine XS.iload X623.here hx rfl (hb hby at_61) rfl ?_
        show Go p e below t T623 m 63 #[iv i0, iv i1, iv i2, iv i3, iv i4, iv i5, iv (2 : Int32), iv (0 : Int32), iv (own_cr i0), iv (own_cr i1), iv (own_cr i2), iv (own_cr i3), rv vr_623, .unset, .unset, .unset] [(.int (0 : Int32))]
        refine XS.iload X623.here hx rfl (hb hby at_63) rfl ?_
        show Go p e below t T623 m 65 #[iv i0, iv i1, iv i2, iv i3, iv i4, iv i5, iv (2 : Int32), iv (0 : Int32), iv (own_cr i0), iv (own_cr i1), iv (own_cr i2), iv (own_cr i3), rv vr_623, .unset, .unset, .unset] [(.int (own_cr i2)), (.int (0 : Int32))]
        refine XS.iload X623.here hx rfl (hb hby at_65) rfl ?_
        show Go p e below t T623 m 67 #[iv i0, iv i1, iv i2, iv i3, iv i4, iv i5, iv (2 : Int32), iv (0 : Int32), iv (own_cr i0), iv (own_cr i1), iv (own_cr i2), iv (own_cr i3), rv vr_623, .unset, .unset, .unset] [(.int (own_cr i3)), (.int (own_cr i2)), (.int (0 : Int32))]
        exact k)
      have hs627 : ∀ x ∈ ([] : List Addr), Safe Z consts_1 s.vm h0 x := sf0
      have ch627 := ch0.trans (CHr.keep R623_0 hs627 ch0.1)
      obtain ⟨_, _, ⟨T626, L626, k626, n626⟩, -, X626, sn626, gr626, ⟨Lc626, hQ626, l626, y626, z626, cr626⟩, st626⟩ := callSS X623 hx (y := (⟨"com/example/forager/forager/RoadNamePinLaw", "mk", "(ICC)Ljava/lang/String;"⟩ : MethodName)) hown (mvT hZ (hw _ (List.mem_of_getElem? (i := 0) rfl))) (mvT hZ (hw _ (List.mem_of_getElem? (i := 1) rfl))) (mvT hZ (hw _ (List.mem_of_getElem? (i := 2) rfl))) (mvT hZ (hw _ (List.mem_of_getElem? (i := 3) rfl))) (by decide) (own_backH (s := s) (vm0 := s.vm) (W := 0) (rm_mk0 l Z a0 hw [] (0 : Int32) (own_cr i2) (own_cr i3)  T623.heap n0 (Nat.le_trans Z0 (Nat.le_trans (Nat.le_refl _) R623_0.1)) rfl) hZ (hw _ (List.mem_of_getElem? (i := 3) rfl)) (hw _ (List.mem_of_getElem? (i := 2) rfl)) (by decide) (by decide) hEL ch627.1 all0) (g := (mkF m 67 #[iv i0, iv i1, iv i2, iv i3, iv i4, iv i5, iv (2 : Int32), iv (0 : Int32), iv (own_cr i0), iv (own_cr i1), iv (own_cr i2), iv (own_cr i3), rv vr_623, .unset, .unset, .unset] [(.int (own_cr i3)), (.int (own_cr i2)), (.int (0 : Int32))])) rfl (by rw [hml]; rfl) (argsL := [(.int (0 : Int32)), (.int (own_cr i2)), (.int (own_cr i3))]) (rest := []) (lenOf pd7 rfl) rfl (by show 2 * 0 + _ ≤ _; exact Nat.le_of_eq rfl) (hb hby at_67) (fun _ _ => ⟨rfl, rfl, (by decide : 3 + 6 ≤ _), (by decide : 8 + 12 ≤ _)⟩)
      dsimp only [Pt.U, Pt.locs, Pt.cells, Pt.slots] at X626 sn626 gr626 l626 y626 z626 cr626 st626 hQ626
      subst l626 y626 z626
      obtain ⟨Y626, so626, hZ, hown⟩ := rebS (s := s) (vm0 := s.vm) ((State.WarmedH.refl s).since 0) (Nat.le_trans (Nat.zero_le _) R623_0.1) X626 sn626 gr626 hZ hown
      obtain ⟨vr_626, tb_626, tk_626, rfl, N626, R626_0, R626_1, R626_2, R626_3, R626_4, R626_5⟩ := hQ626
      have M626 := Fr.app M623 N626
      have sz626_1 : h0.size ≤ vr_626 := Nat.le_trans (Nat.le_trans (Nat.le_refl _) R623_0.1) R626_1
      have ng626_1 : n0 ≤ vr_626 := Nat.le_trans Z0 sz626_1
      have g628 : Goes p e below S0 (T626.setTop (mkF m 70 #[iv i0, iv i1, iv i2, iv i3, iv i4, iv i5, iv (2 : Int32), iv (0 : Int32), iv (own_cr i0), iv (own_cr i1), iv (own_cr i2), iv (own_cr i3), rv vr_623, .unset, .unset, .unset] [(.ref vr_626)])) := fun t k => g625 t (st626.trans k)
      have g629 : Goes p e below S0 (T626.setTop (mkF m 72 #[iv i0, iv i1, iv i2, iv i3, iv i4, iv i5, iv (2 : Int32), iv (0 : Int32), iv (own_cr i0), iv (own_cr i1), iv (own_cr i2), iv (own_cr i3), rv vr_623, rv vr_626, .unset, .unset] [])) := fun t k => g628 t (by
        refine XS.astore Y626.here hx rfl (hb hby at_70) rfl rfl (l' := #[iv i0, iv i1, iv i2, iv i3, iv i4, iv i5, iv (2 : Int32), iv (0 : Int32), iv (own_cr i0), iv (own_cr i1), iv (own_cr i2), iv (own_cr i3), rv vr_623, rv vr_626, .unset, .unset]) rfl ?_
        show Go p e below t T626 m 72 #[iv i0, iv i1, iv i2, iv i3, iv i4, iv i5, iv (2 : Int32), iv (0 : Int32), iv (own_cr i0), iv (own_cr i1), iv (own_cr i2), iv (own_cr i3), rv vr_623, rv vr_626, .unset, .unset] []
        exact k)
      obtain ⟨T630, h630, X630, e630, E630, A630, D630, -, st630⟩ := newO Y626 hx hZ hown (hw _ (List.mem_of_getElem? (i := 26) rfl)) (hw _ (List.mem_of_getElem? (i := 27) rfl)) (hw _ (List.mem_of_getElem? (i := 28) rfl)) rfl (g := (mkF m 72 #[iv i0, iv i1, iv i2, iv i3, iv i4, iv i5, iv (2 : Int32), iv (0 : Int32), iv (own_cr i0), iv (own_cr i1), iv (own_cr i2), iv (own_cr i3), rv vr_623, rv vr_626, .unset, .unset] [])) rfl (hb hby at_72) (by decide) (by decide)
      obtain ⟨b630, gb630⟩ : ∃ z, z = T626.heap.size := ⟨_, rfl⟩
      have sz630 : h0.size ≤ b630 := Nat.le_trans (Nat.le_trans (Nat.le_trans (Nat.le_refl _) R623_0.1) R626_0.1) (Nat.le_of_eq gb630.symm)
      have ng630 : n0 ≤ b630 := Nat.le_trans Z0 sz630
      rw [← gb630] at A630 D630 st630
      have F630_631 : Fld Z h630 b630 "com/example/forager/forager/Road" "from" "Ljava/lang/String;" .null := D630 (Or.inr (hw _ (List.mem_of_getElem? (i := 39) rfl))) (ty := (.object "java/lang/String")) (by decide)
      have F630_632 : Fld Z h630 b630 "com/example/forager/forager/Road" "to" "Ljava/lang/String;" .null := D630 (Or.inr (hw _ (List.mem_of_getElem? (i := 41) rfl))) (ty := (.object "java/lang/String")) (by decide)
      have F630_633 : Fld Z h630 b630 "com/example/forager/forager/Road" "length" "D" (.double (0 : UInt64)) := D630 (Or.inr (hw _ (List.mem_of_getElem? (i := 43) rfl))) (ty := .double) (by decide)
      have g634 : Goes p e below S0 (T630.setTop (mkF m 75 #[iv i0, iv i1, iv i2, iv i3, iv i4, iv i5, iv (2 : Int32), iv (0 : Int32), iv (own_cr i0), iv (own_cr i1), iv (own_cr i2), iv (own_cr i3), rv vr_623, rv vr_626, .unset, .unset] [(.ref b630)])) := fun t k => g629 t (st630 t k)
      have g635 : Goes p e below S0 (T630.setTop (mkF m 87 #[iv i0, iv i1, iv i2, iv i3, iv i4, iv i5, iv (2 : Int32), iv (0 : Int32), iv (own_cr i0), iv (own_cr i1), iv (own_cr i2), iv (own_cr i3), rv vr_623, rv vr_626, .unset, .unset] [(.double (FP.i2d (i5 &&& (1023 : Int32)))), (.ref vr_626), (.ref vr_623), (.ref b630), (.ref b630)])) := fun t k => g634 t (by
        refine XS.dup X630.here hx rfl (hb hby at_75) rfl rfl ?_
        show Go p e below t T630 m 76 #[iv i0, iv i1, iv i2, iv i3, iv i4, iv i5, iv (2 : Int32), iv (0 : Int32), iv (own_cr i0), iv (own_cr i1), iv (own_cr i2), iv (own_cr i3), rv vr_623, rv vr_626, .unset, .unset] [(.ref b630), (.ref b630)]
        refine XS.aload X630.here hx rfl (hb hby at_76) rfl rfl ?_
        show Go p e below t T630 m 78 #[iv i0, iv i1, iv i2, iv i3, iv i4, iv i5, iv (2 : Int32), iv (0 : Int32), iv (own_cr i0), iv (own_cr i1), iv (own_cr i2), iv (own_cr i3), rv vr_623, rv vr_626, .unset, .unset] [(.ref vr_623), (.ref b630), (.ref b630)]
        refine XS.aload X630.here hx rfl (hb hby at_78) rfl rfl ?_
        show Go p e below t T630 m 80 #[iv i0, iv i1, iv i2, iv i3, iv i4, iv i5, iv (2 : Int32), iv (0 : Int32), iv (own_cr i0), iv (own_cr i1), iv (own_cr i2), iv (own_cr i3), rv vr_623, rv vr_626, .unset, .unset] [(.ref vr_626), (.ref vr_623), (.ref b630), (.ref b630)]
        refine XS.iload X630.here hx rfl (hb hby at_80) rfl ?_
        show Go p e below t T630 m 82 #[iv i0, iv i1, iv i2, iv i3, iv i4, iv i5, iv (2 : Int32), iv (0 : Int32), iv (own_cr i0), iv (own_cr i1), iv (own_cr i2), iv (own_cr i3), rv vr_623, rv vr_626, .unset, .unset] [(.int i5), (.ref vr_626), (.ref vr_623), (.ref b630), (.ref b630)]
        refine XT.sipushV X630.here hx rfl (1023 : Int32) (hb hby at_82) (by decide) ?_
        show Go p e below t T630 m 85 #[iv i0, iv i1, iv i2, iv i3, iv i4, iv i5, iv (2 : Int32), iv (0 : Int32), iv (own_cr i0), iv (own_cr i1), iv (own_cr i2), iv (own_cr i3), rv vr_623, rv vr_626, .unset, .unset] [(.int (1023 : Int32)), (.int i5), (.ref vr_626), (.ref vr_623), (.ref b630), (.ref b630)]
        refine XS.iand X630.here hx rfl (hb hby at_85) rfl ?_
        show Go p e below t T630 m 86 #[iv i0, iv i1, iv i2, iv i3, iv i4, iv i5, iv (2 : Int32), iv (0 : Int32), iv (own_cr i0), iv (own_cr i1), iv (own_cr i2), iv (own_cr i3), rv vr_623, rv vr_626, .unset, .unset] [(.int (i5 &&& (1023 : Int32))), (.ref vr_626), (.ref vr_623), (.ref b630), (.ref b630)]
        refine XS.i2dS X630.here hx rfl (hb hby at_86) rfl rfl ?_
        show Go p e below t T630 m 87 #[iv i0, iv i1, iv i2, iv i3, iv i4, iv i5, iv (2 : Int32), iv (0 : Int32), iv (own_cr i0), iv (own_cr i1), iv (own_cr i2), iv (own_cr i3), rv vr_623, rv vr_626, .unset, .unset] [(.double (FP.i2d (i5 &&& (1023 : Int32)))), (.ref vr_626), (.ref vr_623), (.ref b630), (.ref b630)]
        exact k)
      obtain ⟨_, _, ⟨T636, L636, k636, n636⟩, -, X636, ⟨Lc636, hQ636, l636, y636, z636⟩, st636⟩ := X630.specialBack hx (y := (⟨"com/example/forager/forager/Road", "<init>", "(Ljava/lang/String;Ljava/lang/String;D)V"⟩ : MethodName)) rfl hown (mvT hZ (hw _ (List.mem_of_getElem? (i := 29) rfl))) (mvT hZ (hw _ (List.mem_of_getElem? (i := 30) rfl))) (mvT hZ (hw _ (List.mem_of_getElem? (i := 31) rfl))) (by decide) (backOf (W := 1) (rm_ri l Z a0 hw [] b630 vr_623 vr_626 (FP.i2d (i5 &&& (1023 : Int32)))  h630 n0 (Nat.le_trans Z0 (Nat.le_trans (Nat.le_trans (Nat.le_trans (Nat.le_refl _) R623_0.1) R626_0.1) E630.1)) A630 F630_631 F630_632 F630_633 ng630) hZ (hw _ (List.mem_of_getElem? (i := 31) rfl)) (hw _ (List.mem_of_getElem? (i := 28) rfl)) (by decide) (by decide)) (g := (mkF m 87 #[iv i0, iv i1, iv i2, iv i3, iv i4, iv i5, iv (2 : Int32), iv (0 : Int32), iv (own_cr i0), iv (own_cr i1), iv (own_cr i2), iv (own_cr i3), rv vr_623, rv vr_626, .unset, .unset] [(.double (FP.i2d (i5 &&& (1023 : Int32)))), (.ref vr_626), (.ref vr_623), (.ref b630), (.ref b630)])) rfl (by rw [hml]; rfl) (Steps.refl _) (a := b630) (argsL := [(.ref vr_623), (.ref vr_626), (.double (FP.i2d (i5 &&& (1023 : Int32))))]) (rest := [(.ref b630)]) (lenOf pd9 rfl) rfl (by show 2 * 0 + _ ≤ _; exact Nat.le_of_eq rfl) (hb hby at_87) (fun _ _ => ⟨rfl, e630, (by decide : 10 + 0 ≤ _), (by decide : 23 + 0 ≤ _)⟩)
      dsimp only [Pt.U, Pt.locs, Pt.cells, Pt.slots] at X636 l636 y636 z636 st636 hQ636
      subst l636 y636 z636
      obtain ⟨rfl, N636, R636_0, R636_1, R636_2, R636_3⟩ := hQ636
      have M636 := Fr.app M626 N636
      have g637 : Goes p e below S0 (T636.setTop (mkF m 90 #[iv i0, iv i1, iv i2, iv i3, iv i4, iv i5, iv (2 : Int32), iv (0 : Int32), iv (own_cr i0), iv (own_cr i1), iv (own_cr i2), iv (own_cr i3), rv vr_623, rv vr_626, .unset, .unset] [(.ref b630)])) := fun t k => g635 t (st636.trans k)
      have g638 : Goes p e below S0 (T636.setTop (mkF m 94 #[iv i0, iv i1, iv i2, iv i3, iv i4, iv i5, iv (2 : Int32), iv (0 : Int32), iv (own_cr i0), iv (own_cr i1), iv (own_cr i2), iv (own_cr i3), rv vr_623, rv vr_626, rv b630, .unset] [(.ref b630)])) := fun t k => g637 t (by
        refine XS.astore X636.here hx rfl (hb hby at_90) rfl rfl (l' := #[iv i0, iv i1, iv i2, iv i3, iv i4, iv i5, iv (2 : Int32), iv (0 : Int32), iv (own_cr i0), iv (own_cr i1), iv (own_cr i2), iv (own_cr i3), rv vr_623, rv vr_626, rv b630, .unset]) rfl ?_
        show Go p e below t T636 m 92 #[iv i0, iv i1, iv i2, iv i3, iv i4, iv i5, iv (2 : Int32), iv (0 : Int32), iv (own_cr i0), iv (own_cr i1), iv (own_cr i2), iv (own_cr i3), rv vr_623, rv vr_626, rv b630, .unset] []
        refine XS.aload X636.here hx rfl (hb hby at_92) rfl rfl ?_
        show Go p e below t T636 m 94 #[iv i0, iv i1, iv i2, iv i3, iv i4, iv i5, iv (2 : Int32), iv (0 : Int32), iv (own_cr i0), iv (own_cr i1), iv (own_cr i2), iv (own_cr i3), rv vr_623, rv vr_626, rv b630, .unset] [(.ref b630)]
        exact k)
      obtain ⟨cq639, kq639, q639a, q639b, q639c⟩ := isOf hZ rfl R636_1
      have ch640 := ch627.trans cr626
      have ch641 := ch640.trans (CHr.ext E630 ch640.1)
      have hs642 : ∀ x ∈ ([b630] : List Addr), Safe Z consts_1 T626.vm h630 x := (sfS (Safe.exa hZ.alike A630 (by decide) (by decide)) sf0)
      have ch642 := ch641.trans (CHr.keep R636_0 hs642 ch641.1)
      obtain ⟨_, _, ⟨T639, L639, k639, n639⟩, -, X639, sn639, gr639, ⟨Lc639, hQ639, l639, y639, z639, cr639⟩, st639⟩ := X636.virtualBackS hx (y := (⟨"com/example/forager/forager/Road", "name", "()Ljava/lang/String;"⟩ : MethodName)) (z := (⟨"com/example/forager/forager/Road", "name", "()Ljava/lang/String;"⟩ : MethodName)) hown (mvT hZ (hw _ (List.mem_of_getElem? (i := 44) rfl))) (mvT hZ (hw _ (List.mem_of_getElem? (i := 45) rfl))) (notFace_of_selects (args := #[]) (mvT hZ (hw _ (List.mem_of_getElem? (i := 47) rfl)))) (mvT hZ (hw _ (List.mem_of_getElem? (i := 47) rfl))) (mvT hZ (hw _ (List.mem_of_getElem? (i := 46) rfl))) (by decide) (own_backH (s := s) (vm0 := T626.vm) (W := 0) (rm_nam l Z a0 hw [] b630 vr_623 vr_626 tb_623 tk_623 (2 : Int32) [(.int (((nar .char (own_cr i0)).toInt8.toInt32).toInt8.toInt32)), (.int (((nar .char (own_cr i1)).toInt8.toInt32).toInt8.toInt32))] tb_626 tk_626 (0 : Int32) [] cz T636.heap n0 (Nat.le_trans Z0 (Nat.le_trans (Nat.le_trans (Nat.le_trans (Nat.le_trans (Nat.le_refl _) R623_0.1) R626_0.1) E630.1) R636_0.1)) R636_2 R636_3 (((R623_2.keep R626_0).ext E630).keep R636_0) (((R623_3.keep R626_0 nin0).ext E630).keep R636_0 (ninS (Nat.ne_of_lt (Nat.lt_of_lt_of_le (R623_2.keep R626_0).lt (Nat.le_of_eq gb630.symm))) nin0)) (((R623_4.keep R626_0 nin0).ext E630).keep R636_0 (ninS (Nat.ne_of_lt (Nat.lt_of_lt_of_le (R623_2.keep R626_0).lt (Nat.le_of_eq gb630.symm))) nin0)) (((R623_5.keep R626_0 nin0).ext E630).keep R636_0 (ninS (Nat.ne_of_lt (Nat.lt_of_lt_of_le (R623_5.keep R626_0 nin0).lt (Nat.le_of_eq gb630.symm))) nin0)) ((R626_2.ext E630).keep R636_0) ((R626_3.ext E630).keep R636_0 (ninS (Nat.ne_of_lt (Nat.lt_of_lt_of_le R626_2.lt (Nat.le_of_eq gb630.symm))) nin0)) ((R626_4.ext E630).keep R636_0 (ninS (Nat.ne_of_lt (Nat.lt_of_lt_of_le R626_2.lt (Nat.le_of_eq gb630.symm))) nin0)) ((R626_5.ext E630).keep R636_0 (ninS (Nat.ne_of_lt (Nat.lt_of_lt_of_le R626_5.lt (Nat.le_of_eq gb630.symm))) nin0)) (Sta.keepO ((Sta.keepO (Sta.keepO P0 R623_0 ns0) R626_0 ns0).ext E630) R636_0 (nsS (Exa.nostat A630) ns0)) hz ⟨by decide, rfl⟩ ⟨by decide, rfl⟩) hZ (hw _ (List.mem_of_getElem? (i := 48) rfl)) (hw _ (List.mem_of_getElem? (i := 28) rfl)) (by decide) (by decide) hEL ch642.1 all0) q639a q639c (g := (mkF m 94 #[iv i0, iv i1, iv i2, iv i3, iv i4, iv i5, iv (2 : Int32), iv (0 : Int32), iv (own_cr i0), iv (own_cr i1), iv (own_cr i2), iv (own_cr i3), rv vr_623, rv vr_626, rv b630, .unset] [(.ref b630)])) rfl (by rw [hml]; rfl) (Steps.refl _) (argsL := []) (rest := []) (lenOf pd23 rfl) rfl (by show 2 * 0 + _ ≤ _; exact Nat.le_of_eq rfl) (hb hby at_94) (fun _ _ => ⟨rfl, rfl, (by decide : 10 + 6 ≤ _), (by decide : 23 + 40 ≤ _)⟩)
      dsimp only [Pt.U, Pt.locs, Pt.cells, Pt.slots] at X639 sn639 gr639 l639 y639 z639 cr639 st639 hQ639
      subst l639 y639 z639
      obtain ⟨Y639, so639, hZ, hown⟩ := rebS (s := s) (vm0 := T626.vm) so626 (Nat.le_trans (Nat.le_trans (Nat.le_refl _) E630.1) R636_0.1) X639 sn639 gr639 hZ hown
      obtain ⟨nr_639, tb_639, tk_639, rfl, N639, R639_0, R639_1, R639_2, R639_3, R639_4, R639_5⟩ := hQ639
      have M639 := Fr.app M636 N639
      have sz639_1 : h0.size ≤ nr_639 := Nat.le_trans (Nat.le_trans (Nat.le_trans (Nat.le_trans (Nat.le_trans (Nat.le_refl _) R623_0.1) R626_0.1) E630.1) R636_0.1) R639_1
      have ng639_1 : n0 ≤ nr_639 := Nat.le_trans Z0 sz639_1
      have g643 : Goes p e below S0 (T639.setTop (mkF m 97 #[iv i0, iv i1, iv i2, iv i3, iv i4, iv i5, iv (2 : Int32), iv (0 : Int32), iv (own_cr i0), iv (own_cr i1), iv (own_cr i2), iv (own_cr i3), rv vr_623, rv vr_626, rv b630, .unset] [(.ref nr_639)])) := fun t k => g638 t (st639.trans k)
      have Vn644 : Arv Z T639.heap tb_639 tk_639 .byte (3 : Int32) [(.int (((nar .char (own_cr i0)).toInt8.toInt32).toInt8.toInt32)), (.int (((nar .char (own_cr i1)).toInt8.toInt32).toInt8.toInt32)), (.int (45 : Int32))] (.int (0 : Int32)) := own_nmA20 R639_5
      have g645 : Goes p e below S0 (T639.setTop (mkF m 108 #[iv i0, iv i1, iv i2, iv i3, iv i4, iv i5, iv (2 : Int32), iv (0 : Int32), iv (own_cr i0), iv (own_cr i1), iv (own_cr i2), iv (own_cr i3), rv vr_623, rv vr_626, rv b630, rv nr_639] [(.ref nr_639)])) := fun t k => g643 t (by
        refine XS.astore Y639.here hx rfl (hb hby at_97) rfl rfl (l' := #[iv i0, iv i1, iv i2, iv i3, iv i4, iv i5, iv (2 : Int32), iv (0 : Int32), iv (own_cr i0), iv (own_cr i1), iv (own_cr i2), iv (own_cr i3), rv vr_623, rv vr_626, rv b630, rv nr_639]) rfl ?_
        show Go p e below t T639 m 99 #[iv i0, iv i1, iv i2, iv i3, iv i4, iv i5, iv (2 : Int32), iv (0 : Int32), iv (own_cr i0), iv (own_cr i1), iv (own_cr i2), iv (own_cr i3), rv vr_623, rv vr_626, rv b630, rv nr_639] []
        refine XS.aload Y639.here hx rfl (hb hby at_99) rfl rfl ?_
        show Go p e below t T639 m 101 #[iv i0, iv i1, iv i2, iv i3, iv i4, iv i5, iv (2 : Int32), iv (0 : Int32), iv (own_cr i0), iv (own_cr i1), iv (own_cr i2), iv (own_cr i3), rv vr_623, rv vr_626, rv b630, rv nr_639] [(.ref nr_639)]
        refine XS.ifnonnullYes Y639.here hx rfl (pc0 := 101) (pc' := 106) rfl (hb hby at_101) rfl (by decide) (by decide) ?_
        show Go p e below t T639 m 106 #[iv i0, iv i1, iv i2, iv i3, iv i4, iv i5, iv (2 : Int32), iv (0 : Int32), iv (own_cr i0), iv (own_cr i1), iv (own_cr i2), iv (own_cr i3), rv vr_623, rv vr_626, rv b630, rv nr_639] []
        refine XS.aload Y639.here hx rfl (hb hby at_106) rfl rfl ?_
        show Go p e below t T639 m 108 #[iv i0, iv i1, iv i2, iv i3, iv i4, iv i5, iv (2 : Int32), iv (0 : Int32), iv (own_cr i0), iv (own_cr i1), iv (own_cr i2), iv (own_cr i3), rv vr_623, rv vr_626, rv b630, rv nr_639] [(.ref nr_639)]
        exact k)
      obtain ⟨cq646, kq646, q646a, q646b, q646c⟩ := isOf hZ rfl R639_2
      obtain ⟨_, _, ⟨T646, L646, k646, n646⟩, -, X646, ⟨Lc646, hQ646, l646, y646, z646⟩, st646⟩ := Y639.virtualBack hx (y := (⟨"java/lang/String", "length", "()I"⟩ : MethodName)) (z := (⟨"java/lang/String", "length", "()I"⟩ : MethodName)) hown (mvT hZ (hw _ (List.mem_of_getElem? (i := 161) rfl))) (mvT hZ (hw _ (List.mem_of_getElem? (i := 78) rfl))) (notFace_of_selects (args := #[]) (mvT hZ (hw _ (List.mem_of_getElem? (i := 80) rfl)))) (mvT hZ (hw _ (List.mem_of_getElem? (i := 80) rfl))) (mvT hZ (hw _ (List.mem_of_getElem? (i := 79) rfl))) (by decide) (backOf (W := 0) (rm_len l Z a0 hw [] nr_639 tb_639 tk_639 (3 : Int32) [(.int (((nar .char (own_cr i0)).toInt8.toInt32).toInt8.toInt32)), (.int (((nar .char (own_cr i1)).toInt8.toInt32).toInt8.toInt32)), (.int (45 : Int32))] cz T639.heap n0 (Nat.le_trans Z0 (Nat.le_trans (Nat.le_trans (Nat.le_trans (Nat.le_trans (Nat.le_trans (Nat.le_refl _) R623_0.1) R626_0.1) E630.1) R636_0.1) R639_0.1)) R639_2 R639_3 R639_4 Vn644 (Sta.keepO (Sta.keepO ((Sta.keepO (Sta.keepO P0 R623_0 ns0) R626_0 ns0).ext E630) R636_0 (nsS (Exa.nostat A630) ns0)) R639_0 ns0) hz) hZ (hw _ (List.mem_of_getElem? (i := 81) rfl)) (hw _ (List.mem_of_getElem? (i := 6) rfl)) (by decide) (by decide)) q646a q646c (g := (mkF m 108 #[iv i0, iv i1, iv i2, iv i3, iv i4, iv i5, iv (2 : Int32), iv (0 : Int32), iv (own_cr i0), iv (own_cr i1), iv (own_cr i2), iv (own_cr i3), rv vr_623, rv vr_626, rv b630, rv nr_639] [(.ref nr_639)])) rfl (by rw [hml]; rfl) (Steps.refl _) (argsL := []) (rest := []) (lenOf pd1 rfl) rfl (by show 2 * 0 + _ ≤ _; exact Nat.le_of_eq rfl) (hb hby at_108) (fun _ _ => ⟨rfl, rfl, (by decide : 16 + 0 ≤ _), (by decide : 63 + 0 ≤ _)⟩)
      dsimp only [Pt.U, Pt.locs, Pt.cells, Pt.slots] at X646 l646 y646 z646 st646 hQ646
      subst l646 y646 z646
      obtain ⟨rfl, N646, R646_0⟩ := hQ646
      have M646 := Fr.app M639 N646
      have g647 : Goes p e below S0 (T646.setTop (mkF m 111 #[iv i0, iv i1, iv i2, iv i3, iv i4, iv i5, iv (2 : Int32), iv (0 : Int32), iv (own_cr i0), iv (own_cr i1), iv (own_cr i2), iv (own_cr i3), rv vr_623, rv vr_626, rv b630, rv nr_639] [(.int (3 : Int32))])) := fun t k => g645 t (st646.trans k)
      have g648 : Goes p e below S0 (T646.setTop (mkF m 132 #[iv i0, iv i1, iv i2, iv i3, iv i4, iv i5, iv (2 : Int32), iv (0 : Int32), iv (own_cr i0), iv (own_cr i1), iv (own_cr i2), iv (own_cr i3), rv vr_623, rv vr_626, rv b630, rv nr_639] [(.int (0 : Int32)), (.ref nr_639)])) := fun t k => g647 t (by
        refine XS.iload X646.here hx rfl (hb hby at_111) rfl ?_
        show Go p e below t T646 m 113 #[iv i0, iv i1, iv i2, iv i3, iv i4, iv i5, iv (2 : Int32), iv (0 : Int32), iv (own_cr i0), iv (own_cr i1), iv (own_cr i2), iv (own_cr i3), rv vr_623, rv vr_626, rv b630, rv nr_639] [(.int (2 : Int32)), (.int (3 : Int32))]
        refine XT.iconstV X646.here hx rfl (1 : Int32) (hb hby at_113) (by decide) ?_
        show Go p e below t T646 m 114 #[iv i0, iv i1, iv i2, iv i3, iv i4, iv i5, iv (2 : Int32), iv (0 : Int32), iv (own_cr i0), iv (own_cr i1), iv (own_cr i2), iv (own_cr i3), rv vr_623, rv vr_626, rv b630, rv nr_639] [(.int (1 : Int32)), (.int (2 : Int32)), (.int (3 : Int32))]
        refine XS.iadd X646.here hx rfl (hb hby at_114) rfl ?_
        rw [show ((2 : Int32) + (1 : Int32)) = (3 : Int32) by decide]
        show Go p e below t T646 m 115 #[iv i0, iv i1, iv i2, iv i3, iv i4, iv i5, iv (2 : Int32), iv (0 : Int32), iv (own_cr i0), iv (own_cr i1), iv (own_cr i2), iv (own_cr i3), rv vr_623, rv vr_626, rv b630, rv nr_639] [(.int (3 : Int32)), (.int (3 : Int32))]
        refine XS.iload X646.here hx rfl (hb hby at_115) rfl ?_
        show Go p e below t T646 m 117 #[iv i0, iv i1, iv i2, iv i3, iv i4, iv i5, iv (2 : Int32), iv (0 : Int32), iv (own_cr i0), iv (own_cr i1), iv (own_cr i2), iv (own_cr i3), rv vr_623, rv vr_626, rv b630, rv nr_639] [(.int (0 : Int32)), (.int (3 : Int32)), (.int (3 : Int32))]
        refine XS.iadd X646.here hx rfl (hb hby at_117) rfl ?_
        rw [show ((3 : Int32) + (0 : Int32)) = (3 : Int32) by decide]
        show Go p e below t T646 m 118 #[iv i0, iv i1, iv i2, iv i3, iv i4, iv i5, iv (2 : Int32), iv (0 : Int32), iv (own_cr i0), iv (own_cr i1), iv (own_cr i2), iv (own_cr i3), rv vr_623, rv vr_626, rv b630, rv nr_639] [(.int (3 : Int32)), (.int (3 : Int32))]
        refine XS.icmpYes X646.here hx rfl (pc0 := 118) (pc' := 123) rfl (hb hby at_118) rfl (XT.ii_eq_t (by decide)) (by decide) (by decide) ?_
        show Go p e below t T646 m 123 #[iv i0, iv i1, iv i2, iv i3, iv i4, iv i5, iv (2 : Int32), iv (0 : Int32), iv (own_cr i0), iv (own_cr i1), iv (own_cr i2), iv (own_cr i3), rv vr_623, rv vr_626, rv b630, rv nr_639] []
        refine XS.iload X646.here hx rfl (hb hby at_123) rfl ?_
        show Go p e below t T646 m 125 #[iv i0, iv i1, iv i2, iv i3, iv i4, iv i5, iv (2 : Int32), iv (0 : Int32), iv (own_cr i0), iv (own_cr i1), iv (own_cr i2), iv (own_cr i3), rv vr_623, rv vr_626, rv b630, rv nr_639] [(.int (2 : Int32))]
        refine XT.iconstV X646.here hx rfl (1 : Int32) (hb hby at_125) (by decide) ?_
        show Go p e below t T646 m 126 #[iv i0, iv i1, iv i2, iv i3, iv i4, iv i5, iv (2 : Int32), iv (0 : Int32), iv (own_cr i0), iv (own_cr i1), iv (own_cr i2), iv (own_cr i3), rv vr_623, rv vr_626, rv b630, rv nr_639] [(.int (1 : Int32)), (.int (2 : Int32))]
        refine XS.icmpNo X646.here hx rfl (hb hby at_126) rfl (XT.ii_lt_f (by decide)) ?_
        show Go p e below t T646 m 129 #[iv i0, iv i1, iv i2, iv i3, iv i4, iv i5, iv (2 : Int32), iv (0 : Int32), iv (own_cr i0), iv (own_cr i1), iv (own_cr i2), iv (own_cr i3), rv vr_623, rv vr_626, rv b630, rv nr_639] []
        refine XS.aload X646.here hx rfl (hb hby at_129) rfl rfl ?_
        show Go p e below t T646 m 131 #[iv i0, iv i1, iv i2, iv i3, iv i4, iv i5, iv (2 : Int32), iv (0 : Int32), iv (own_cr i0), iv (own_cr i1), iv (own_cr i2), iv (own_cr i3), rv vr_623, rv vr_626, rv b630, rv nr_639] [(.ref nr_639)]
        refine XT.iconstV X646.here hx rfl (0 : Int32) (hb hby at_131) (by decide) ?_
        show Go p e below t T646 m 132 #[iv i0, iv i1, iv i2, iv i3, iv i4, iv i5, iv (2 : Int32), iv (0 : Int32), iv (own_cr i0), iv (own_cr i1), iv (own_cr i2), iv (own_cr i3), rv vr_623, rv vr_626, rv b630, rv nr_639] [(.int (0 : Int32)), (.ref nr_639)]
        exact k)
      obtain ⟨cq649, kq649, q649a, q649b, q649c⟩ := isOf hZ R646_0 R639_2
      obtain ⟨_, _, ⟨T649, L649, k649, n649⟩, -, X649, ⟨Lc649, hQ649, l649, y649, z649⟩, st649⟩ := X646.virtualBack hx (y := (⟨"java/lang/String", "charAt", "(I)C"⟩ : MethodName)) (z := (⟨"java/lang/String", "charAt", "(I)C"⟩ : MethodName)) hown (mvT hZ (hw _ (List.mem_of_getElem? (i := 162) rfl))) (mvT hZ (hw _ (List.mem_of_getElem? (i := 163) rfl))) (notFace_of_selects (args := #[]) (mvT hZ (hw _ (List.mem_of_getElem? (i := 165) rfl)))) (mvT hZ (hw _ (List.mem_of_getElem? (i := 165) rfl))) (mvT hZ (hw _ (List.mem_of_getElem? (i := 164) rfl))) (by decide) (backOf (W := 0) (rm_cha l Z a0 hw [] nr_639 (0 : Int32) tb_639 tk_639 (3 : Int32) [(.int (((nar .char (own_cr i0)).toInt8.toInt32).toInt8.toInt32)), (.int (((nar .char (own_cr i1)).toInt8.toInt32).toInt8.toInt32)), (.int (45 : Int32))] (((nar .char (own_cr i0)).toInt8.toInt32).toInt8.toInt32) fx cz T639.heap n0 (Nat.le_trans Z0 (Nat.le_trans (Nat.le_trans (Nat.le_trans (Nat.le_trans (Nat.le_trans (Nat.le_refl _) R623_0.1) R626_0.1) E630.1) R636_0.1) R639_0.1)) R639_2 R639_3 R639_4 Vn644 (Sta.keepO (Sta.keepO ((Sta.keepO (Sta.keepO P0 R623_0 ns0) R626_0 ns0).ext E630) R636_0 (nsS (Exa.nostat A630) ns0)) R639_0 ns0) hz (Sta.keepO (Sta.keepO ((Sta.keepO (Sta.keepO P2 R623_0 ns0) R626_0 ns0).ext E630) R636_0 (nsS (Exa.nostat A630) ns0)) R639_0 ns0) hfx (by decide) (by decide) rfl) hZ (hw _ (List.mem_of_getElem? (i := 166) rfl)) (hw _ (List.mem_of_getElem? (i := 6) rfl)) (by decide) (by decide)) q649a q649c (g := (mkF m 132 #[iv i0, iv i1, iv i2, iv i3, iv i4, iv i5, iv (2 : Int32), iv (0 : Int32), iv (own_cr i0), iv (own_cr i1), iv (own_cr i2), iv (own_cr i3), rv vr_623, rv vr_626, rv b630, rv nr_639] [(.int (0 : Int32)), (.ref nr_639)])) rfl (by rw [hml]; rfl) (Steps.refl _) (argsL := [(.int (0 : Int32))]) (rest := []) (lenOf pd26 rfl) rfl (by show 2 * 0 + _ ≤ _; exact Nat.le_of_eq rfl) (hb hby at_132) (fun _ _ => ⟨rfl, R646_0, (by decide : 16 + 0 ≤ _), (by decide : 63 + 0 ≤ _)⟩)
      dsimp only [Pt.U, Pt.locs, Pt.cells, Pt.slots] at X649 l649 y649 z649 st649 hQ649
      subst l649 y649 z649
      obtain ⟨rfl, N649, R649_0⟩ := hQ649
      have M649 := Fr.app M646 N649
      have g650 : Goes p e below S0 (T649.setTop (mkF m 135 #[iv i0, iv i1, iv i2, iv i3, iv i4, iv i5, iv (2 : Int32), iv (0 : Int32), iv (own_cr i0), iv (own_cr i1), iv (own_cr i2), iv (own_cr i3), rv vr_623, rv vr_626, rv b630, rv nr_639] [(.int (own_chr (((nar .char (own_cr i0)).toInt8.toInt32).toInt8.toInt32)))])) := fun t k => g648 t (st649.trans k)
      have g651 : Goes p e below S0 (T649.setTop (mkF m 151 #[iv i0, iv i1, iv i2, iv i3, iv i4, iv i5, iv (2 : Int32), iv (0 : Int32), iv (own_cr i0), iv (own_cr i1), iv (own_cr i2), iv (own_cr i3), rv vr_623, rv vr_626, rv b630, rv nr_639] [(.int (1 : Int32)), (.ref nr_639)])) := fun t k => g650 t (by
        refine XS.iload X649.here hx rfl (hb hby at_135) rfl ?_
        show Go p e below t T649 m 137 #[iv i0, iv i1, iv i2, iv i3, iv i4, iv i5, iv (2 : Int32), iv (0 : Int32), iv (own_cr i0), iv (own_cr i1), iv (own_cr i2), iv (own_cr i3), rv vr_623, rv vr_626, rv b630, rv nr_639] [(.int (own_cr i0)), (.int (own_chr (((nar .char (own_cr i0)).toInt8.toInt32).toInt8.toInt32)))]
        refine XS.icmpYes X649.here hx rfl (pc0 := 137) (pc' := 142) rfl (hb hby at_137) rfl (XT.ii_eq_t (own_rt _)) (by decide) (by decide) ?_
        show Go p e below t T649 m 142 #[iv i0, iv i1, iv i2, iv i3, iv i4, iv i5, iv (2 : Int32), iv (0 : Int32), iv (own_cr i0), iv (own_cr i1), iv (own_cr i2), iv (own_cr i3), rv vr_623, rv vr_626, rv b630, rv nr_639] []
        refine XS.iload X649.here hx rfl (hb hby at_142) rfl ?_
        show Go p e below t T649 m 144 #[iv i0, iv i1, iv i2, iv i3, iv i4, iv i5, iv (2 : Int32), iv (0 : Int32), iv (own_cr i0), iv (own_cr i1), iv (own_cr i2), iv (own_cr i3), rv vr_623, rv vr_626, rv b630, rv nr_639] [(.int (2 : Int32))]
        refine XT.iconstV X649.here hx rfl (2 : Int32) (hb hby at_144) (by decide) ?_
        show Go p e below t T649 m 145 #[iv i0, iv i1, iv i2, iv i3, iv i4, iv i5, iv (2 : Int32), iv (0 : Int32), iv (own_cr i0), iv (own_cr i1), iv (own_cr i2), iv (own_cr i3), rv vr_623, rv vr_626, rv b630, rv nr_639] [(.int (2 : Int32)), (.int (2 : Int32))]
        refine XS.icmpNo X649.here hx rfl (hb hby at_145) rfl (XT.ii_lt_f (by decide)) ?_
        show Go p e below t T649 m 148 #[iv i0, iv i1, iv i2, iv i3, iv i4, iv i5, iv (2 : Int32), iv (0 : Int32), iv (own_cr i0), iv (own_cr i1), iv (own_cr i2), iv (own_cr i3), rv vr_623, rv vr_626, rv b630, rv nr_639] []
        refine XS.aload X649.here hx rfl (hb hby at_148) rfl rfl ?_
        show Go p e below t T649 m 150 #[iv i0, iv i1, iv i2, iv i3, iv i4, iv i5, iv (2 : Int32), iv (0 : Int32), iv (own_cr i0), iv (own_cr i1), iv (own_cr i2), iv (own_cr i3), rv vr_623, rv vr_626, rv b630, rv nr_639] [(.ref nr_639)]
        refine XT.iconstV X649.here hx rfl (1 : Int32) (hb hby at_150) (by decide) ?_
        show Go p e below t T649 m 151 #[iv i0, iv i1, iv i2, iv i3, iv i4, iv i5, iv (2 : Int32), iv (0 : Int32), iv (own_cr i0), iv (own_cr i1), iv (own_cr i2), iv (own_cr i3), rv vr_623, rv vr_626, rv b630, rv nr_639] [(.int (1 : Int32)), (.ref nr_639)]
        exact k)
      obtain ⟨cq652, kq652, q652a, q652b, q652c⟩ := isOf hZ R649_0 R639_2
      obtain ⟨_, _, ⟨T652, L652, k652, n652⟩, -, X652, ⟨Lc652, hQ652, l652, y652, z652⟩, st652⟩ := X649.virtualBack hx (y := (⟨"java/lang/String", "charAt", "(I)C"⟩ : MethodName)) (z := (⟨"java/lang/String", "charAt", "(I)C"⟩ : MethodName)) hown (mvT hZ (hw _ (List.mem_of_getElem? (i := 162) rfl))) (mvT hZ (hw _ (List.mem_of_getElem? (i := 163) rfl))) (notFace_of_selects (args := #[]) (mvT hZ (hw _ (List.mem_of_getElem? (i := 165) rfl)))) (mvT hZ (hw _ (List.mem_of_getElem? (i := 165) rfl))) (mvT hZ (hw _ (List.mem_of_getElem? (i := 164) rfl))) (by decide) (backOf (W := 0) (rm_cha l Z a0 hw [] nr_639 (1 : Int32) tb_639 tk_639 (3 : Int32) [(.int (((nar .char (own_cr i0)).toInt8.toInt32).toInt8.toInt32)), (.int (((nar .char (own_cr i1)).toInt8.toInt32).toInt8.toInt32)), (.int (45 : Int32))] (((nar .char (own_cr i1)).toInt8.toInt32).toInt8.toInt32) fx cz T639.heap n0 (Nat.le_trans Z0 (Nat.le_trans (Nat.le_trans (Nat.le_trans (Nat.le_trans (Nat.le_trans (Nat.le_refl _) R623_0.1) R626_0.1) E630.1) R636_0.1) R639_0.1)) R639_2 R639_3 R639_4 Vn644 (Sta.keepO (Sta.keepO ((Sta.keepO (Sta.keepO P0 R623_0 ns0) R626_0 ns0).ext E630) R636_0 (nsS (Exa.nostat A630) ns0)) R639_0 ns0) hz (Sta.keepO (Sta.keepO ((Sta.keepO (Sta.keepO P2 R623_0 ns0) R626_0 ns0).ext E630) R636_0 (nsS (Exa.nostat A630) ns0)) R639_0 ns0) hfx (by decide) (by decide) rfl) hZ (hw _ (List.mem_of_getElem? (i := 166) rfl)) (hw _ (List.mem_of_getElem? (i := 6) rfl)) (by decide) (by decide)) q652a q652c (g := (mkF m 151 #[iv i0, iv i1, iv i2, iv i3, iv i4, iv i5, iv (2 : Int32), iv (0 : Int32), iv (own_cr i0), iv (own_cr i1), iv (own_cr i2), iv (own_cr i3), rv vr_623, rv vr_626, rv b630, rv nr_639] [(.int (1 : Int32)), (.ref nr_639)])) rfl (by rw [hml]; rfl) (Steps.refl _) (argsL := [(.int (1 : Int32))]) (rest := []) (lenOf pd26 rfl) rfl (by show 2 * 0 + _ ≤ _; exact Nat.le_of_eq rfl) (hb hby at_151) (fun _ _ => ⟨rfl, R649_0, (by decide : 16 + 0 ≤ _), (by decide : 63 + 0 ≤ _)⟩)
      dsimp only [Pt.U, Pt.locs, Pt.cells, Pt.slots] at X652 l652 y652 z652 st652 hQ652
      subst l652 y652 z652
      obtain ⟨rfl, N652, R652_0⟩ := hQ652
      have M652 := Fr.app M649 N652
      have g653 : Goes p e below S0 (T652.setTop (mkF m 154 #[iv i0, iv i1, iv i2, iv i3, iv i4, iv i5, iv (2 : Int32), iv (0 : Int32), iv (own_cr i0), iv (own_cr i1), iv (own_cr i2), iv (own_cr i3), rv vr_623, rv vr_626, rv b630, rv nr_639] [(.int (own_chr (((nar .char (own_cr i1)).toInt8.toInt32).toInt8.toInt32)))])) := fun t k => g651 t (st652.trans k)
      have g654 : Goes p e below S0 (T652.setTop (mkF m 165 #[iv i0, iv i1, iv i2, iv i3, iv i4, iv i5, iv (2 : Int32), iv (0 : Int32), iv (own_cr i0), iv (own_cr i1), iv (own_cr i2), iv (own_cr i3), rv vr_623, rv vr_626, rv b630, rv nr_639] [(.int (2 : Int32)), (.ref nr_639)])) := fun t k => g653 t (by
        refine XS.iload X652.here hx rfl (hb hby at_154) rfl ?_
        show Go p e below t T652 m 156 #[iv i0, iv i1, iv i2, iv i3, iv i4, iv i5, iv (2 : Int32), iv (0 : Int32), iv (own_cr i0), iv (own_cr i1), iv (own_cr i2), iv (own_cr i3), rv vr_623, rv vr_626, rv b630, rv nr_639] [(.int (own_cr i1)), (.int (own_chr (((nar .char (own_cr i1)).toInt8.toInt32).toInt8.toInt32)))]
        refine XS.icmpYes X652.here hx rfl (pc0 := 156) (pc' := 161) rfl (hb hby at_156) rfl (XT.ii_eq_t (own_rt _)) (by decide) (by decide) ?_
        show Go p e below t T652 m 161 #[iv i0, iv i1, iv i2, iv i3, iv i4, iv i5, iv (2 : Int32), iv (0 : Int32), iv (own_cr i0), iv (own_cr i1), iv (own_cr i2), iv (own_cr i3), rv vr_623, rv vr_626, rv b630, rv nr_639] []
        refine XS.aload X652.here hx rfl (hb hby at_161) rfl rfl ?_
        show Go p e below t T652 m 163 #[iv i0, iv i1, iv i2, iv i3, iv i4, iv i5, iv (2 : Int32), iv (0 : Int32), iv (own_cr i0), iv (own_cr i1), iv (own_cr i2), iv (own_cr i3), rv vr_623, rv vr_626, rv b630, rv nr_639] [(.ref nr_639)]
        refine XS.iload X652.here hx rfl (hb hby at_163) rfl ?_
        show Go p e below t T652 m 165 #[iv i0, iv i1, iv i2, iv i3, iv i4, iv i5, iv (2 : Int32), iv (0 : Int32), iv (own_cr i0), iv (own_cr i1), iv (own_cr i2), iv (own_cr i3), rv vr_623, rv vr_626, rv b630, rv nr_639] [(.int (2 : Int32)), (.ref nr_639)]
        exact k)
      obtain ⟨cq655, kq655, q655a, q655b, q655c⟩ := isOf hZ R652_0 R639_2
      obtain ⟨_, _, ⟨T655, L655, k655, n655⟩, -, X655, ⟨Lc655, hQ655, l655, y655, z655⟩, st655⟩ := X652.virtualBack hx (y := (⟨"java/lang/String", "charAt", "(I)C"⟩ : MethodName)) (z := (⟨"java/lang/String", "charAt", "(I)C"⟩ : MethodName)) hown (mvT hZ (hw _ (List.mem_of_getElem? (i := 162) rfl))) (mvT hZ (hw _ (List.mem_of_getElem? (i := 163) rfl))) (notFace_of_selects (args := #[]) (mvT hZ (hw _ (List.mem_of_getElem? (i := 165) rfl)))) (mvT hZ (hw _ (List.mem_of_getElem? (i := 165) rfl))) (mvT hZ (hw _ (List.mem_of_getElem? (i := 164) rfl))) (by decide) (backOf (W := 0) (rm_cha l Z a0 hw [] nr_639 (2 : Int32) tb_639 tk_639 (3 : Int32) [(.int (((nar .char (own_cr i0)).toInt8.toInt32).toInt8.toInt32)), (.int (((nar .char (own_cr i1)).toInt8.toInt32).toInt8.toInt32)), (.int (45 : Int32))] (45 : Int32) fx cz T639.heap n0 (Nat.le_trans Z0 (Nat.le_trans (Nat.le_trans (Nat.le_trans (Nat.le_trans (Nat.le_trans (Nat.le_refl _) R623_0.1) R626_0.1) E630.1) R636_0.1) R639_0.1)) R639_2 R639_3 R639_4 Vn644 (Sta.keepO (Sta.keepO ((Sta.keepO (Sta.keepO P0 R623_0 ns0) R626_0 ns0).ext E630) R636_0 (nsS (Exa.nostat A630) ns0)) R639_0 ns0) hz (Sta.keepO (Sta.keepO ((Sta.keepO (Sta.keepO P2 R623_0 ns0) R626_0 ns0).ext E630) R636_0 (nsS (Exa.nostat A630) ns0)) R639_0 ns0) hfx (by decide) (by decide) rfl) hZ (hw _ (List.mem_of_getElem? (i := 166) rfl)) (hw _ (List.mem_of_getElem? (i := 6) rfl)) (by decide) (by decide)) q655a q655c (g := (mkF m 165 #[iv i0, iv i1, iv i2, iv i3, iv i4, iv i5, iv (2 : Int32), iv (0 : Int32), iv (own_cr i0), iv (own_cr i1), iv (own_cr i2), iv (own_cr i3), rv vr_623, rv vr_626, rv b630, rv nr_639] [(.int (2 : Int32)), (.ref nr_639)])) rfl (by rw [hml]; rfl) (Steps.refl _) (argsL := [(.int (2 : Int32))]) (rest := []) (lenOf pd26 rfl) rfl (by show 2 * 0 + _ ≤ _; exact Nat.le_of_eq rfl) (hb hby at_165) (fun _ _ => ⟨rfl, R652_0, (by decide : 16 + 0 ≤ _), (by decide : 63 + 0 ≤ _)⟩)
      dsimp only [Pt.U, Pt.locs, Pt.cells, Pt.slots] at X655 l655 y655 z655 st655 hQ655
      subst l655 y655 z655
      obtain ⟨rfl, N655, R655_0⟩ := hQ655
      have M655 := Fr.app M652 N655
      have g656 : Goes p e below S0 (T655.setTop (mkF m 168 #[iv i0, iv i1, iv i2, iv i3, iv i4, iv i5, iv (2 : Int32), iv (0 : Int32), iv (own_cr i0), iv (own_cr i1), iv (own_cr i2), iv (own_cr i3), rv vr_623, rv vr_626, rv b630, rv nr_639] [(.int (own_chr (45 : Int32)))])) := fun t k => g654 t (st655.trans k)
      have g657 : Goes p e below S0 (T655.setTop (mkF m 220 #[iv i0, iv i1, iv i2, iv i3, iv i4, iv i5, iv (2 : Int32), iv (0 : Int32), iv (own_cr i0), iv (own_cr i1), iv (own_cr i2), iv (own_cr i3), rv vr_623, rv vr_626, rv b630, rv nr_639] [(.int (1 : Int32))])) := fun t k => g656 t (by
        refine XT.bipushV X655.here hx rfl (45 : Int32) (hb hby at_168) (by decide) ?_
        show Go p e below t T655 m 170 #[iv i0, iv i1, iv i2, iv i3, iv i4, iv i5, iv (2 : Int32), iv (0 : Int32), iv (own_cr i0), iv (own_cr i1), iv (own_cr i2), iv (own_cr i3), rv vr_623, rv vr_626, rv b630, rv nr_639] [(.int (45 : Int32)), (.int (own_chr (45 : Int32)))]
        refine XS.icmpYes X655.here hx rfl (pc0 := 170) (pc' := 175) rfl (hb hby at_170) rfl (XT.ii_eq_t (by decide)) (by decide) (by decide) ?_
        show Go p e below t T655 m 175 #[iv i0, iv i1, iv i2, iv i3, iv i4, iv i5, iv (2 : Int32), iv (0 : Int32), iv (own_cr i0), iv (own_cr i1), iv (own_cr i2), iv (own_cr i3), rv vr_623, rv vr_626, rv b630, rv nr_639] []
        refine XS.iload X655.here hx rfl (hb hby at_175) rfl ?_
        show Go p e below t T655 m 177 #[iv i0, iv i1, iv i2, iv i3, iv i4, iv i5, iv (2 : Int32), iv (0 : Int32), iv (own_cr i0), iv (own_cr i1), iv (own_cr i2), iv (own_cr i3), rv vr_623, rv vr_626, rv b630, rv nr_639] [(.int (0 : Int32))]
        refine XT.iconstV X655.here hx rfl (1 : Int32) (hb hby at_177) (by decide) ?_
        show Go p e below t T655 m 178 #[iv i0, iv i1, iv i2, iv i3, iv i4, iv i5, iv (2 : Int32), iv (0 : Int32), iv (own_cr i0), iv (own_cr i1), iv (own_cr i2), iv (own_cr i3), rv vr_623, rv vr_626, rv b630, rv nr_639] [(.int (1 : Int32)), (.int (0 : Int32))]
        refine XS.icmpYes X655.here hx rfl (pc0 := 178) (pc' := 197) rfl (hb hby at_178) rfl (XT.ii_lt_t (by decide)) (by decide) (by decide) ?_
        show Go p e below t T655 m 197 #[iv i0, iv i1, iv i2, iv i3, iv i4, iv i5, iv (2 : Int32), iv (0 : Int32), iv (own_cr i0), iv (own_cr i1), iv (own_cr i2), iv (own_cr i3), rv vr_623, rv vr_626, rv b630, rv nr_639] []
        refine XS.iload X655.here hx rfl (hb hby at_197) rfl ?_
        show Go p e below t T655 m 199 #[iv i0, iv i1, iv i2, iv i3, iv i4, iv i5, iv (2 : Int32), iv (0 : Int32), iv (own_cr i0), iv (own_cr i1), iv (own_cr i2), iv (own_cr i3), rv vr_623, rv vr_626, rv b630, rv nr_639] [(.int (0 : Int32))]
        refine XT.iconstV X655.here hx rfl (2 : Int32) (hb hby at_199) (by decide) ?_
        show Go p e below t T655 m 200 #[iv i0, iv i1, iv i2, iv i3, iv i4, iv i5, iv (2 : Int32), iv (0 : Int32), iv (own_cr i0), iv (own_cr i1), iv (own_cr i2), iv (own_cr i3), rv vr_623, rv vr_626, rv b630, rv nr_639] [(.int (2 : Int32)), (.int (0 : Int32))]
        refine XS.icmpYes X655.here hx rfl (pc0 := 200) (pc' := 219) rfl (hb hby at_200) rfl (XT.ii_lt_t (by decide)) (by decide) (by decide) ?_
        show Go p e below t T655 m 219 #[iv i0, iv i1, iv i2, iv i3, iv i4, iv i5, iv (2 : Int32), iv (0 : Int32), iv (own_cr i0), iv (own_cr i1), iv (own_cr i2), iv (own_cr i3), rv vr_623, rv vr_626, rv b630, rv nr_639] []
        refine XT.iconstV X655.here hx rfl (1 : Int32) (hb hby at_219) (by decide) ?_
        show Go p e below t T655 m 220 #[iv i0, iv i1, iv i2, iv i3, iv i4, iv i5, iv (2 : Int32), iv (0 : Int32), iv (own_cr i0), iv (own_cr i1), iv (own_cr i2), iv (own_cr i3), rv vr_623, rv vr_626, rv b630, rv nr_639] [(.int (1 : Int32))]
        exact k)
      obtain ⟨fs, hr, hrun, hended, hE1, hE2, hE3, hE4⟩ := Stand.leaveW (s := s) (vm₁ := T639.vm) X655 so639 (by rw [R655_0]; exact (Nat.le_refl _)) (v := some (.int (1 : Int32))) (fun h => by rw [Bd.returns] at h; cases h)
      refine ⟨_, _, g657 _ (retN X655 hx (t := .boolean) Bd.returns (by simp) (hb hby at_220) hr), hrun, hended, _, _, rfl, ?_, hE1, hE2, hE3, hE4.mono (by decide) (by decide)⟩
      show Q_law Z i0 i1 i2 i3 i4 i5 cz fx h0 n0 _ T655.heap _
      rw [R655_0]
      exact ⟨rfl, M655⟩
    · skip
      have g658 : Goes p e below S0 (s₁.setTop (mkF m 56 #[iv i0, iv i1, iv i2, iv i3, iv i4, iv i5, iv (2 : Int32), iv (1 : Int32), iv (own_cr i0), iv (own_cr i1), iv (own_cr i2), iv (own_cr i3), .unset, .unset, .unset, .unset] [(.int (own_cr i1)), (.int (own_cr i0)), (.int (2 : Int32))])) := fun t k => g414 t (by
        refine XS.iload X0.here hx rfl (hb hby at_50) rfl ?_
        show Go p e below t s₁ m 52 #[iv i0, iv i1, iv i2, iv i3, iv i4, iv i5, iv (2 : Int32), iv (1 : Int32), iv (own_cr i0), iv (own_cr i1), iv (own_cr i2), iv (own_cr i3), .unset, .unset, .unset, .unset] [(.int (2 : Int32))]
        refine XS.iload X0.here hx rfl (hb hby at_52) rfl ?_
        show Go p e below t s₁ m 54 #[iv i0, iv i1, iv i2, iv i3, iv i4, iv i5, iv (2 : Int32), iv (1 : Int32), iv (own_cr i0), iv (own_cr i1), iv (own_cr i2), iv (own_cr i3), .unset, .unset, .unset, .unset] [(.int (own_cr i0)), (.int (2 : Int32))]
        refine XS.iload X0.here hx rfl (hb hby at_54) rfl ?_
        show Go p e below t s₁ m 56 #[iv i0, iv i1, iv i2, iv i3, iv i4, iv i5, iv (2 : Int32), iv (1 : Int32), iv (own_cr i0), iv (own_cr i1), iv (own_cr i2), iv (own_cr i3), .unset, .unset, .unset, .unset] [(.int (own_cr i1)), (.int (own_cr i0)), (.int (2 : Int32))]
        exact k)
      obtain ⟨_, _, ⟨T659, L659, k659, n659⟩, -, X659, ⟨Lc659, hQ659, l659, y659, z659⟩, st659⟩ := Jvm.LawKit.callS X0 hx (y := (⟨"com/example/forager/forager/RoadNamePinLaw", "mk", "(ICC)Ljava/lang/String;"⟩ : MethodName)) hown (mvT hZ (hw _ (List.mem_of_getElem? (i := 0) rfl))) (mvT hZ (hw _ (List.mem_of_getElem? (i := 1) rfl))) (mvT hZ (hw _ (List.mem_of_getElem? (i := 2) rfl))) (mvT hZ (hw _ (List.mem_of_getElem? (i := 3) rfl))) (by decide) (backOf (W := 0) (rm_mk2 l Z a0 hw [] (2 : Int32) (own_cr i0) (own_cr i1) cz h0 n0 Z0 P0 hz rfl (own_ch _) (own_ch _)) hZ (hw _ (List.mem_of_getElem? (i := 3) rfl)) (hw _ (List.mem_of_getElem? (i := 2) rfl)) (by decide) (by decide)) (g := (mkF m 56 #[iv i0, iv i1, iv i2, iv i3, iv i4, iv i5, iv (2 : Int32), iv (1 : Int32), iv (own_cr i0), iv (own_cr i1), iv (own_cr i2), iv (own_cr i3), .unset, .unset, .unset, .unset] [(.int (own_cr i1)), (.int (own_cr i0)), (.int (2 : Int32))])) rfl (by rw [hml]; rfl) (argsL := [(.int (2 : Int32)), (.int (own_cr i0)), (.int (own_cr i1))]) (rest := []) (lenOf pd7 rfl) rfl (by show 2 * 0 + _ ≤ _; exact Nat.le_of_eq rfl) (hb hby at_56) (fun _ _ => ⟨rfl, e0, (by decide : 0 + 3 ≤ _), (by decide : 0 + 8 ≤ _)⟩)
      dsimp only [Pt.U, Pt.locs, Pt.cells, Pt.slots] at X659 l659 y659 z659 st659 hQ659
      subst l659 y659 z659
      obtain ⟨vr_659, tb_659, tk_659, rfl, N659, R659_0, R659_1, R659_2, R659_3, R659_4, R659_5⟩ := hQ659
      have M659 := Fr.app N0 N659
      have sz659_1 : h0.size ≤ vr_659 := Nat.le_trans (Nat.le_refl _) R659_1
      have ng659_1 : n0 ≤ vr_659 := Nat.le_trans Z0 sz659_1
      have g660 : Goes p e below S0 (T659.setTop (mkF m 59 #[iv i0, iv i1, iv i2, iv i3, iv i4, iv i5, iv (2 : Int32), iv (1 : Int32), iv (own_cr i0), iv (own_cr i1), iv (own_cr i2), iv (own_cr i3), .unset, .unset, .unset, .unset] [(.ref vr_659)])) := fun t k => g658 t (st659 t k)
      have g661 : Goes p e below S0 (T659.setTop (mkF m 67 #[iv i0, iv i1, iv i2, iv i3, iv i4, iv i5, iv (2 : Int32), iv (1 : Int32), iv (own_cr i0), iv (own_cr i1), iv (own_cr i2), iv (own_cr i3), rv vr_659, .unset, .unset, .unset] [(.int (own_cr i3)), (.int (own_cr i2)), (.int (1 : Int32))])) := fun t k => g660 t (by
        refine XS.astore X659.here hx rfl (hb hby at_59) rfl rfl (l' := #[iv i0, iv i1, iv i2, iv i3, iv i4, iv i5, iv (2 : Int32), iv (1 : Int32), iv (own_cr i0), iv (own_cr i1), iv (own_cr i2), iv (own_cr i3), rv vr_659, .unset, .unset, .unset]) rfl ?_
        show Go p e below t T659 m 61 #[iv i0, iv i1, iv i2, iv i3, iv i4, iv i5, iv (2 : Int32), iv (1 : Int32), iv (own_cr i0), iv (own_cr i1), iv (own_cr i2), iv (own_cr i3), rv vr_659, .unset, .unset, .unset] []
        refine XS.iload X659.here hx rfl (hb hby at_61) rfl ?_
        show Go p e below t T659 m 63 #[iv i0, iv i1, iv i2, iv i3, iv i4, iv i5, iv (2 : Int32), iv (1 : Int32), iv (own_cr i0), iv (own_cr i1), iv (own_cr i2), iv (own_cr i3), rv vr_659, .unset, .unset, .unset] [(.int (1 : Int32))]
        refine XS.iload X659.here hx rfl (hb hby at_63) rfl ?_
        show Go p e below t T659 m 65 #[iv i0, iv i1, iv i2, iv i3, iv i4, iv i5, iv (2 : Int32), iv (1 : Int32), iv (own_cr i0), iv (own_cr i1), iv (own_cr i2), iv (own_cr i3), rv vr_659, .unset, .unset, .unset] [(.int (own_cr i2)), (.int (1 : Int32))]
        refine XS.iload X659.here hx rfl (hb hby at_65) rfl ?_
        show Go p e below t T659 m 67 #[iv i0, iv i1, iv i2, iv i3, iv i4, iv i5, iv (2 : Int32), iv (1 : Int32), iv (own_cr i0), iv (own_cr i1), iv (own_cr i2), iv (own_cr i3), rv vr_659, .unset, .unset, .unset] [(.int (own_cr i3)), (.int (own_cr i2)), (.int (1 : Int32))]
        exact k)
      obtain ⟨_, _, ⟨T662, L662, k662, n662⟩, -, X662, ⟨Lc662, hQ662, l662, y662, z662⟩, st662⟩ := Jvm.LawKit.callS X659 hx (y := (⟨"com/example/forager/forager/RoadNamePinLaw", "mk", "(ICC)Ljava/lang/String;"⟩ : MethodName)) hown (mvT hZ (hw _ (List.mem_of_getElem? (i := 0) rfl))) (mvT hZ (hw _ (List.mem_of_getElem? (i := 1) rfl))) (mvT hZ (hw _ (List.mem_of_getElem? (i := 2) rfl))) (mvT hZ (hw _ (List.mem_of_getElem? (i := 3) rfl))) (by decide) (backOf (W := 0) (rm_mk1 l Z a0 hw [] (1 : Int32) (own_cr i2) (own_cr i3) cz T659.heap n0 (Nat.le_trans Z0 (Nat.le_trans (Nat.le_refl _) R659_0.1)) (Sta.keepO P0 R659_0 ns0) hz rfl (own_ch _)) hZ (hw _ (List.mem_of_getElem? (i := 3) rfl)) (hw _ (List.mem_of_getElem? (i := 2) rfl)) (by decide) (by decide)) (g := (mkF m 67 #[iv i0, iv i1, iv i2, iv i3, iv i4, iv i5, iv (2 : Int32), iv (1 : Int32), iv (own_cr i0), iv (own_cr i1), iv (own_cr i2), iv (own_cr i3), rv vr_659, .unset, .unset, .unset] [(.int (own_cr i3)), (.int (own_cr i2)), (.int (1 : Int32))])) rfl (by rw [hml]; rfl) (argsL := [(.int (1 : Int32)), (.int (own_cr i2)), (.int (own_cr i3))]) (rest := []) (lenOf pd7 rfl) rfl (by show 2 * 0 + _ ≤ _; exact Nat.le_of_eq rfl) (hb hby at_67) (fun _ _ => ⟨rfl, rfl, (by decide : 3 + 3 ≤ _), (by decide : 8 + 6 ≤ _)⟩)
      dsimp only [Pt.U, Pt.locs, Pt.cells, Pt.slots] at X662 l662 y662 z662 st662 hQ662
      subst l662 y662 z662
      obtain ⟨vr_662, tb_662, tk_662, rfl, N662, R662_0, R662_1, R662_2, R662_3, R662_4, R662_5⟩ := hQ662
      have M662 := Fr.app M659 N662
      have sz662_1 : h0.size ≤ vr_662 := Nat.le_trans (Nat.le_trans (Nat.le_refl _) R659_0.1) R662_1
      have ng662_1 : n0 ≤ vr_662 := Nat.le_trans Z0 sz662_1
      have g663 : Goes p e below S0 (T662.setTop (mkF m 70 #[iv i0, iv i1, iv i2, iv i3, iv i4, iv i5, iv (2 : Int32), iv (1 : Int32), iv (own_cr i0), iv (own_cr i1), iv (own_cr i2), iv (own_cr i3), rv vr_659, .unset, .unset, .unset] [(.ref vr_662)])) := fun t k => g661 t (st662 t k)
      have g664 : Goes p e below S0 (T662.setTop (mkF m 72 #[iv i0, iv i1, iv i2, iv i3, iv i4, iv i5, iv (2 : Int32), iv (1 : Int32), iv (own_cr i0), iv (own_cr i1), iv (own_cr i2), iv (own_cr i3), rv vr_659, rv vr_662, .unset, .unset] [])) := fun t k => g663 t (by
        refine XS.astore X662.here hx rfl (hb hby at_70) rfl rfl (l' := #[iv i0, iv i1, iv i2, iv i3, iv i4, iv i5, iv (2 : Int32), iv (1 : Int32), iv (own_cr i0), iv (own_cr i1), iv (own_cr i2), iv (own_cr i3), rv vr_659, rv vr_662, .unset, .unset]) rfl ?_
        show Go p e below t T662 m 72 #[iv i0, iv i1, iv i2, iv i3, iv i4, iv i5, iv (2 : Int32), iv (1 : Int32), iv (own_cr i0), iv (own_cr i1), iv (own_cr i2), iv (own_cr i3), rv vr_659, rv vr_662, .unset, .unset] []
        exact k)
      obtain ⟨T665, h665, X665, e665, E665, A665, D665, -, st665⟩ := newO X662 hx hZ hown (hw _ (List.mem_of_getElem? (i := 26) rfl)) (hw _ (List.mem_of_getElem? (i := 27) rfl)) (hw _ (List.mem_of_getElem? (i := 28) rfl)) rfl (g := (mkF m 72 #[iv i0, iv i1, iv i2, iv i3, iv i4, iv i5, iv (2 : Int32), iv (1 : Int32), iv (own_cr i0), iv (own_cr i1), iv (own_cr i2), iv (own_cr i3), rv vr_659, rv vr_662, .unset, .unset] [])) rfl (hb hby at_72) (by decide) (by decide)
      obtain ⟨b665, gb665⟩ : ∃ z, z = T662.heap.size := ⟨_, rfl⟩
      have sz665 : h0.size ≤ b665 := Nat.le_trans (Nat.le_trans (Nat.le_trans (Nat.le_refl _) R659_0.1) R662_0.1) (Nat.le_of_eq gb665.symm)
      have ng665 : n0 ≤ b665 := Nat.le_trans Z0 sz665
      rw [← gb665] at A665 D665 st665
      have F665_666 : Fld Z h665 b665 "com/example/forager/forager/Road" "from" "Ljava/lang/String;" .null := D665 (Or.inr (hw _ (List.mem_of_getElem? (i := 39) rfl))) (ty := (.object "java/lang/String")) (by decide)
      have F665_667 : Fld Z h665 b665 "com/example/forager/forager/Road" "to" "Ljava/lang/String;" .null := D665 (Or.inr (hw _ (List.mem_of_getElem? (i := 41) rfl))) (ty := (.object "java/lang/String")) (by decide)
      have F665_668 : Fld Z h665 b665 "com/example/forager/forager/Road" "length" "D" (.double (0 : UInt64)) := D665 (Or.inr (hw _ (List.mem_of_getElem? (i := 43) rfl))) (ty := .double) (by decide)
      have g669 : Goes p e below S0 (T665.setTop (mkF m 75 #[iv i0, iv i1, iv i2, iv i3, iv i4, iv i5, iv (2 : Int32), iv (1 : Int32), iv (own_cr i0), iv (own_cr i1), iv (own_cr i2), iv (own_cr i3), rv vr_659, rv vr_662, .unset, .unset] [(.ref b665)])) := fun t k => g664 t (st665 t k)
      have g670 : Goes p e below S0 (T665.setTop (mkF m 87 #[iv i0, iv i1, iv i2, iv i3, iv i4, iv i5, iv (2 : Int32), iv (1 : Int32), iv (own_cr i0), iv (own_cr i1), iv (own_cr i2), iv (own_cr i3), rv vr_659, rv vr_662, .unset, .unset] [(.double (FP.i2d (i5 &&& (1023 : Int32)))), (.ref vr_662), (.ref vr_659), (.ref b665), (.ref b665)])) := fun t k => g669 t (by
        refine XS.dup X665.here hx rfl (hb hby at_75) rfl rfl ?_
        show Go p e below t T665 m 76 #[iv i0, iv i1, iv i2, iv i3, iv i4, iv i5, iv (2 : Int32), iv (1 : Int32), iv (own_cr i0), iv (own_cr i1), iv (own_cr i2), iv (own_cr i3), rv vr_659, rv vr_662, .unset, .unset] [(.ref b665), (.ref b665)]
        refine XS.aload X665.here hx rfl (hb hby at_76) rfl rfl ?_
        show Go p e below t T665 m 78 #[iv i0, iv i1, iv i2, iv i3, iv i4, iv i5, iv (2 : Int32), iv (1 : Int32), iv (own_cr i0), iv (own_cr i1), iv (own_cr i2), iv (own_cr i3), rv vr_659, rv vr_662, .unset, .unset] [(.ref vr_659), (.ref b665), (.ref b665)]
        refine XS.aload X665.here hx rfl (hb hby at_78) rfl rfl ?_
        show Go p e below t T665 m 80 #[iv i0, iv i1, iv i2, iv i3, iv i4, iv i5, iv (2 : Int32), iv (1 : Int32), iv (own_cr i0), iv (own_cr i1), iv (own_cr i2), iv (own_cr i3), rv vr_659, rv vr_662, .unset, .unset] [(.ref vr_662), (.ref vr_659), (.ref b665), (.ref b665)]
        refine XS.iload X665.here hx rfl (hb hby at_80) rfl ?_
        show Go p e below t T665 m 82 #[iv i0, iv i1, iv i2, iv i3, iv i4, iv i5, iv (2 : Int32), iv (1 : Int32), iv (own_cr i0), iv (own_cr i1), iv (own_cr i2), iv (own_cr i3), rv vr_659, rv vr_662, .unset, .unset] [(.int i5), (.ref vr_662), (.ref vr_659), (.ref b665), (.ref b665)]
        refine XT.sipushV X665.here hx rfl (1023 : Int32) (hb hby at_82) (by decide) ?_
        show Go p e below t T665 m 85 #[iv i0, iv i1, iv i2, iv i3, iv i4, iv i5, iv (2 : Int32), iv (1 : Int32), iv (own_cr i0), iv (own_cr i1), iv (own_cr i2), iv (own_cr i3), rv vr_659, rv vr_662, .unset, .unset] [(.int (1023 : Int32)), (.int i5), (.ref vr_662), (.ref vr_659), (.ref b665), (.ref b665)]
        refine XS.iand X665.here hx rfl (hb hby at_85) rfl ?_
        show Go p e below t T665 m 86 #[iv i0, iv i1, iv i2, iv i3, iv i4, iv i5, iv (2 : Int32), iv (1 : Int32), iv (own_cr i0), iv (own_cr i1), iv (own_cr i2), iv (own_cr i3), rv vr_659, rv vr_662, .unset, .unset] [(.int (i5 &&& (1023 : Int32))), (.ref vr_662), (.ref vr_659), (.ref b665), (.ref b665)]
        refine XS.i2dS X665.here hx rfl (hb hby at_86) rfl rfl ?_
        show Go p e below t T665 m 87 #[iv i0, iv i1, iv i2, iv i3, iv i4, iv i5, iv (2 : Int32), iv (1 : Int32), iv (own_cr i0), iv (own_cr i1), iv (own_cr i2), iv (own_cr i3), rv vr_659, rv vr_662, .unset, .unset] [(.double (FP.i2d (i5 &&& (1023 : Int32)))), (.ref vr_662), (.ref vr_659), (.ref b665), (.ref b665)]
        exact k)
      obtain ⟨_, _, ⟨T671, L671, k671, n671⟩, -, X671, ⟨Lc671, hQ671, l671, y671, z671⟩, st671⟩ := X665.specialBack hx (y := (⟨"com/example/forager/forager/Road", "<init>", "(Ljava/lang/String;Ljava/lang/String;D)V"⟩ : MethodName)) rfl hown (mvT hZ (hw _ (List.mem_of_getElem? (i := 29) rfl))) (mvT hZ (hw _ (List.mem_of_getElem? (i := 30) rfl))) (mvT hZ (hw _ (List.mem_of_getElem? (i := 31) rfl))) (by decide) (backOf (W := 1) (rm_ri l Z a0 hw [] b665 vr_659 vr_662 (FP.i2d (i5 &&& (1023 : Int32)))  h665 n0 (Nat.le_trans Z0 (Nat.le_trans (Nat.le_trans (Nat.le_trans (Nat.le_refl _) R659_0.1) R662_0.1) E665.1)) A665 F665_666 F665_667 F665_668 ng665) hZ (hw _ (List.mem_of_getElem? (i := 31) rfl)) (hw _ (List.mem_of_getElem? (i := 28) rfl)) (by decide) (by decide)) (g := (mkF m 87 #[iv i0, iv i1, iv i2, iv i3, iv i4, iv i5, iv (2 : Int32), iv (1 : Int32), iv (own_cr i0), iv (own_cr i1), iv (own_cr i2), iv (own_cr i3), rv vr_659, rv vr_662, .unset, .unset] [(.double (FP.i2d (i5 &&& (1023 : Int32)))), (.ref vr_662), (.ref vr_659), (.ref b665), (.ref b665)])) rfl (by rw [hml]; rfl) (Steps.refl _) (a := b665) (argsL := [(.ref vr_659), (.ref vr_662), (.double (FP.i2d (i5 &&& (1023 : Int32))))]) (rest := [(.ref b665)]) (lenOf pd9 rfl) rfl (by show 2 * 0 + _ ≤ _; exact Nat.le_of_eq rfl) (hb hby at_87) (fun _ _ => ⟨rfl, e665, (by decide : 7 + 0 ≤ _), (by decide : 17 + 0 ≤ _)⟩)
      dsimp only [Pt.U, Pt.locs, Pt.cells, Pt.slots] at X671 l671 y671 z671 st671 hQ671
      subst l671 y671 z671
      obtain ⟨rfl, N671, R671_0, R671_1, R671_2, R671_3⟩ := hQ671
      have M671 := Fr.app M662 N671
      have g672 : Goes p e below S0 (T671.setTop (mkF m 90 #[iv i0, iv i1, iv i2, iv i3, iv i4, iv i5, iv (2 : Int32), iv (1 : Int32), iv (own_cr i0), iv (own_cr i1), iv (own_cr i2), iv (own_cr i3), rv vr_659, rv vr_662, .unset, .unset] [(.ref b665)])) := fun t k => g670 t (st671.trans k)
      have g673 : Goes p e below S0 (T671.setTop (mkF m 94 #[iv i0, iv i1, iv i2, iv i3, iv i4, iv i5, iv (2 : Int32), iv (1 : Int32), iv (own_cr i0), iv (own_cr i1), iv (own_cr i2), iv (own_cr i3), rv vr_659, rv vr_662, rv b665, .unset] [(.ref b665)])) := fun t k => g672 t (by
        refine XS.astore X671.here hx rfl (hb hby at_90) rfl rfl (l' := #[iv i0, iv i1, iv i2, iv i3, iv i4, iv i5, iv (2 : Int32), iv (1 : Int32), iv (own_cr i0), iv (own_cr i1), iv (own_cr i2), iv (own_cr i3), rv vr_659, rv vr_662, rv b665, .unset]) rfl ?_
        show Go p e below t T671 m 92 #[iv i0, iv i1, iv i2, iv i3, iv i4, iv i5, iv (2 : Int32), iv (1 : Int32), iv (own_cr i0), iv (own_cr i1), iv (own_cr i2), iv (own_cr i3), rv vr_659, rv vr_662, rv b665, .unset] []
        refine XS.aload X671.here hx rfl (hb hby at_92) rfl rfl ?_
        show Go p e below t T671 m 94 #[iv i0, iv i1, iv i2, iv i3, iv i4, iv i5, iv (2 : Int32), iv (1 : Int32), iv (own_cr i0), iv (own_cr i1), iv (own_cr i2), iv (own_cr i3), rv vr_659, rv vr_662, rv b665, .unset] [(.ref b665)]
        exact k)
      obtain ⟨cq674, kq674, q674a, q674b, q674c⟩ := isOf hZ rfl R671_1
      have hs675 : ∀ x ∈ ([] : List Addr), Safe Z consts_1 s.vm h0 x := sf0
      have ch675 := ch0.trans (CHr.keep R659_0 hs675 ch0.1)
      have hs676 : ∀ x ∈ ([] : List Addr), Safe Z consts_1 s.vm T659.heap x := sf0
      have ch676 := ch675.trans (CHr.keep R662_0 hs676 ch675.1)
      have ch677 := ch676.trans (CHr.ext E665 ch676.1)
      have hs678 : ∀ x ∈ ([b665] : List Addr), Safe Z consts_1 s.vm h665 x := (sfS (Safe.exa hZ.alike A665 (by decide) (by decide)) sf0)
      have ch678 := ch677.trans (CHr.keep R671_0 hs678 ch677.1)
      obtain ⟨_, _, ⟨T674, L674, k674, n674⟩, -, X674, sn674, gr674, ⟨Lc674, hQ674, l674, y674, z674, cr674⟩, st674⟩ := X671.virtualBackS hx (y := (⟨"com/example/forager/forager/Road", "name", "()Ljava/lang/String;"⟩ : MethodName)) (z := (⟨"com/example/forager/forager/Road", "name", "()Ljava/lang/String;"⟩ : MethodName)) hown (mvT hZ (hw _ (List.mem_of_getElem? (i := 44) rfl))) (mvT hZ (hw _ (List.mem_of_getElem? (i := 45) rfl))) (notFace_of_selects (args := #[]) (mvT hZ (hw _ (List.mem_of_getElem? (i := 47) rfl)))) (mvT hZ (hw _ (List.mem_of_getElem? (i := 47) rfl))) (mvT hZ (hw _ (List.mem_of_getElem? (i := 46) rfl))) (by decide) (own_backH (s := s) (vm0 := s.vm) (W := 0) (rm_nam l Z a0 hw [] b665 vr_659 vr_662 tb_659 tk_659 (2 : Int32) [(.int (((nar .char (own_cr i0)).toInt8.toInt32).toInt8.toInt32)), (.int (((nar .char (own_cr i1)).toInt8.toInt32).toInt8.toInt32))] tb_662 tk_662 (1 : Int32) [(.int (((nar .char (own_cr i2)).toInt8.toInt32).toInt8.toInt32))] cz T671.heap n0 (Nat.le_trans Z0 (Nat.le_trans (Nat.le_trans (Nat.le_trans (Nat.le_trans (Nat.le_refl _) R659_0.1) R662_0.1) E665.1) R671_0.1)) R671_2 R671_3 (((R659_2.keep R662_0).ext E665).keep R671_0) (((R659_3.keep R662_0 nin0).ext E665).keep R671_0 (ninS (Nat.ne_of_lt (Nat.lt_of_lt_of_le (R659_2.keep R662_0).lt (Nat.le_of_eq gb665.symm))) nin0)) (((R659_4.keep R662_0 nin0).ext E665).keep R671_0 (ninS (Nat.ne_of_lt (Nat.lt_of_lt_of_le (R659_2.keep R662_0).lt (Nat.le_of_eq gb665.symm))) nin0)) (((R659_5.keep R662_0 nin0).ext E665).keep R671_0 (ninS (Nat.ne_of_lt (Nat.lt_of_lt_of_le (R659_5.keep R662_0 nin0).lt (Nat.le_of_eq gb665.symm))) nin0)) ((R662_2.ext E665).keep R671_0) ((R662_3.ext E665).keep R671_0 (ninS (Nat.ne_of_lt (Nat.lt_of_lt_of_le R662_2.lt (Nat.le_of_eq gb665.symm))) nin0)) ((R662_4.ext E665).keep R671_0 (ninS (Nat.ne_of_lt (Nat.lt_of_lt_of_le R662_2.lt (Nat.le_of_eq gb665.symm))) nin0)) ((R662_5.ext E665).keep R671_0 (ninS (Nat.ne_of_lt (Nat.lt_of_lt_of_le R662_5.lt (Nat.le_of_eq gb665.symm))) nin0)) (Sta.keepO ((Sta.keepO (Sta.keepO P0 R659_0 ns0) R662_0 ns0).ext E665) R671_0 (nsS (Exa.nostat A665) ns0)) hz ⟨by decide, rfl⟩ ⟨by decide, rfl⟩) hZ (hw _ (List.mem_of_getElem? (i := 48) rfl)) (hw _ (List.mem_of_getElem? (i := 28) rfl)) (by decide) (by decide) hEL ch678.1 all0) q674a q674c (g := (mkF m 94 #[iv i0, iv i1, iv i2, iv i3, iv i4, iv i5, iv (2 : Int32), iv (1 : Int32), iv (own_cr i0), iv (own_cr i1), iv (own_cr i2), iv (own_cr i3), rv vr_659, rv vr_662, rv b665, .unset] [(.ref b665)])) rfl (by rw [hml]; rfl) (Steps.refl _) (argsL := []) (rest := []) (lenOf pd23 rfl) rfl (by show 2 * 0 + _ ≤ _; exact Nat.le_of_eq rfl) (hb hby at_94) (fun _ _ => ⟨rfl, rfl, (by decide : 7 + 6 ≤ _), (by decide : 17 + 40 ≤ _)⟩)
      dsimp only [Pt.U, Pt.locs, Pt.cells, Pt.slots] at X674 sn674 gr674 l674 y674 z674 cr674 st674 hQ674
      subst l674 y674 z674
      obtain ⟨Y674, so674, hZ, hown⟩ := rebS (s := s) (vm0 := s.vm) ((State.WarmedH.refl s).since 0) (Nat.le_trans (Nat.le_trans (Nat.le_trans (Nat.le_trans (Nat.zero_le _) R659_0.1) R662_0.1) E665.1) R671_0.1) X674 sn674 gr674 hZ hown
      obtain ⟨nr_674, tb_674, tk_674, rfl, N674, R674_0, R674_1, R674_2, R674_3, R674_4, R674_5⟩ := hQ674
      have M674 := Fr.app M671 N674
      have sz674_1 : h0.size ≤ nr_674 := Nat.le_trans (Nat.le_trans (Nat.le_trans (Nat.le_trans (Nat.le_trans (Nat.le_refl _) R659_0.1) R662_0.1) E665.1) R671_0.1) R674_1
      have ng674_1 : n0 ≤ nr_674 := Nat.le_trans Z0 sz674_1
      have g679 : Goes p e below S0 (T674.setTop (mkF m 97 #[iv i0, iv i1, iv i2, iv i3, iv i4, iv i5, iv (2 : Int32), iv (1 : Int32), iv (own_cr i0), iv (own_cr i1), iv (own_cr i2), iv (own_cr i3), rv vr_659, rv vr_662, rv b665, .unset] [(.ref nr_674)])) := fun t k => g673 t (st674.trans k)
      have Vn680 : Arv Z T674.heap tb_674 tk_674 .byte (4 : Int32) [(.int (((nar .char (own_cr i0)).toInt8.toInt32).toInt8.toInt32)), (.int (((nar .char (own_cr i1)).toInt8.toInt32).toInt8.toInt32)), (.int (45 : Int32)), (.int (((nar .char (own_cr i2)).toInt8.toInt32).toInt8.toInt32))] (.int (0 : Int32)) := own_nmA21 R674_5
      have g681 : Goes p e below S0 (T674.setTop (mkF m 108 #[iv i0, iv i1, iv i2, iv i3, iv i4, iv i5, iv (2 : Int32), iv (1 : Int32), iv (own_cr i0), iv (own_cr i1), iv (own_cr i2), iv (own_cr i3), rv vr_659, rv vr_662, rv b665, rv nr_674] [(.ref nr_674)])) := fun t k => g679 t (by
        refine XS.astore Y674.here hx rfl (hb hby at_97) rfl rfl (l' := #[iv i0, iv i1, iv i2, iv i3, iv i4, iv i5, iv (2 : Int32), iv (1 : Int32), iv (own_cr i0), iv (own_cr i1), iv (own_cr i2), iv (own_cr i3), rv vr_659, rv vr_662, rv b665, rv nr_674]) rfl ?_
        show Go p e below t T674 m 99 #[iv i0, iv i1, iv i2, iv i3, iv i4, iv i5, iv (2 : Int32), iv (1 : Int32), iv (own_cr i0), iv (own_cr i1), iv (own_cr i2), iv (own_cr i3), rv vr_659, rv vr_662, rv b665, rv nr_674] []
        refine XS.aload Y674.here hx rfl (hb hby at_99) rfl rfl ?_
        show Go p e below t T674 m 101 #[iv i0, iv i1, iv i2, iv i3, iv i4, iv i5, iv (2 : Int32), iv (1 : Int32), iv (own_cr i0), iv (own_cr i1), iv (own_cr i2), iv (own_cr i3), rv vr_659, rv vr_662, rv b665, rv nr_674] [(.ref nr_674)]
        refine XS.ifnonnullYes Y674.here hx rfl (pc0 := 101) (pc' := 106) rfl (hb hby at_101) rfl (by decide) (by decide) ?_
        show Go p e below t T674 m 106 #[iv i0, iv i1, iv i2, iv i3, iv i4, iv i5, iv (2 : Int32), iv (1 : Int32), iv (own_cr i0), iv (own_cr i1), iv (own_cr i2), iv (own_cr i3), rv vr_659, rv vr_662, rv b665, rv nr_674] []
        refine XS.aload Y674.here hx rfl (hb hby at_106) rfl rfl ?_
        show Go p e below t T674 m 108 #[iv i0, iv i1, iv i2, iv i3, iv i4, iv i5, iv (2 : Int32), iv (1 : Int32), iv (own_cr i0), iv (own_cr i1), iv (own_cr i2), iv (own_cr i3), rv vr_659, rv vr_662, rv b665, rv nr_674] [(.ref nr_674)]
        exact k)
      obtain ⟨cq682, kq682, q682a, q682b, q682c⟩ := isOf hZ rfl R674_2
      obtain ⟨_, _, ⟨T682, L682, k682, n682⟩, -, X682, ⟨Lc682, hQ682, l682, y682, z682⟩, st682⟩ := Y674.virtualBack hx (y := (⟨"java/lang/String", "length", "()I"⟩ : MethodName)) (z := (⟨"java/lang/String", "length", "()I"⟩ : MethodName)) hown (mvT hZ (hw _ (List.mem_of_getElem? (i := 161) rfl))) (mvT hZ (hw _ (List.mem_of_getElem? (i := 78) rfl))) (notFace_of_selects (args := #[]) (mvT hZ (hw _ (List.mem_of_getElem? (i := 80) rfl)))) (mvT hZ (hw _ (List.mem_of_getElem? (i := 80) rfl))) (mvT hZ (hw _ (List.mem_of_getElem? (i := 79) rfl))) (by decide) (backOf (W := 0) (rm_len l Z a0 hw [] nr_674 tb_674 tk_674 (4 : Int32) [(.int (((nar .char (own_cr i0)).toInt8.toInt32).toInt8.toInt32)), (.int (((nar .char (own_cr i1)).toInt8.toInt32).toInt8.toInt32)), (.int (45 : Int32)), (.int (((nar .char (own_cr i2)).toInt8.toInt32).toInt8.toInt32))] cz T674.heap n0 (Nat.le_trans Z0 (Nat.le_trans (Nat.le_trans (Nat.le_trans (Nat.le_trans (Nat.le_trans (Nat.le_refl _) R659_0.1) R662_0.1) E665.1) R671_0.1) R674_0.1)) R674_2 R674_3 R674_4 Vn680 (Sta.keepO (Sta.keepO ((Sta.keepO (Sta.keepO P0 R659_0 ns0) R662_0 ns0).ext E665) R671_0 (nsS (Exa.nostat A665) ns0)) R674_0 ns0) hz) hZ (hw _ (List.mem_of_getElem? (i := 81) rfl)) (hw _ (List.mem_of_getElem? (i := 6) rfl)) (by decide) (by decide)) q682a q682c (g := (mkF m 108 #[iv i0, iv i1, iv i2, iv i3, iv i4, iv i5, iv (2 : Int32), iv (1 : Int32), iv (own_cr i0), iv (own_cr i1), iv (own_cr i2), iv (own_cr i3), rv vr_659, rv vr_662, rv b665, rv nr_674] [(.ref nr_674)])) rfl (by rw [hml]; rfl) (Steps.refl _) (argsL := []) (rest := []) (lenOf pd1 rfl) rfl (by show 2 * 0 + _ ≤ _; exact Nat.le_of_eq rfl) (hb hby at_108) (fun _ _ => ⟨rfl, rfl, (by decide : 13 + 0 ≤ _), (by decide : 57 + 0 ≤ _)⟩)
      dsimp only [Pt.U, Pt.locs, Pt.cells, Pt.slots] at X682 l682 y682 z682 st682 hQ682
      subst l682 y682 z682
      obtain ⟨rfl, N682, R682_0⟩ := hQ682
      have M682 := Fr.app M674 N682
      have g683 : Goes p e below S0 (T682.setTop (mkF m 111 #[iv i0, iv i1, iv i2, iv i3, iv i4, iv i5, iv (2 : Int32), iv (1 : Int32), iv (own_cr i0), iv (own_cr i1), iv (own_cr i2), iv (own_cr i3), rv vr_659, rv vr_662, rv b665, rv nr_674] [(.int (4 : Int32))])) := fun t k => g681 t (st682.trans k)
      have g684 : Goes p e below S0 (T682.setTop (mkF m 132 #[iv i0, iv i1, iv i2, iv i3, iv i4, iv i5, iv (2 : Int32), iv (1 : Int32), iv (own_cr i0), iv (own_cr i1), iv (own_cr i2), iv (own_cr i3), rv vr_659, rv vr_662, rv b665, rv nr_674] [(.int (0 : Int32)), (.ref nr_674)])) := fun t k => g683 t (by
        refine XS.iload X682.here hx rfl (hb hby at_111) rfl ?_
        show Go p e below t T682 m 113 #[iv i0, iv i1, iv i2, iv i3, iv i4, iv i5, iv (2 : Int32), iv (1 : Int32), iv (own_cr i0), iv (own_cr i1), iv (own_cr i2), iv (own_cr i3), rv vr_659, rv vr_662, rv b665, rv nr_674] [(.int (2 : Int32)), (.int (4 : Int32))]
        refine XT.iconstV X682.here hx rfl (1 : Int32) (hb hby at_113) (by decide) ?_
        show Go p e below t T682 m 114 #[iv i0, iv i1, iv i2, iv i3, iv i4, iv i5, iv (2 : Int32), iv (1 : Int32), iv (own_cr i0), iv (own_cr i1), iv (own_cr i2), iv (own_cr i3), rv vr_659, rv vr_662, rv b665, rv nr_674] [(.int (1 : Int32)), (.int (2 : Int32)), (.int (4 : Int32))]
        refine XS.iadd X682.here hx rfl (hb hby at_114) rfl ?_
        rw [show ((2 : Int32) + (1 : Int32)) = (3 : Int32) by decide]
        show Go p e below t T682 m 115 #[iv i0, iv i1, iv i2, iv i3, iv i4, iv i5, iv (2 : Int32), iv (1 : Int32), iv (own_cr i0), iv (own_cr i1), iv (own_cr i2), iv (own_cr i3), rv vr_659, rv vr_662, rv b665, rv nr_674] [(.int (3 : Int32)), (.int (4 : Int32))]
        refine XS.iload X682.here hx rfl (hb hby at_115) rfl ?_
        show Go p e below t T682 m 117 #[iv i0, iv i1, iv i2, iv i3, iv i4, iv i5, iv (2 : Int32), iv (1 : Int32), iv (own_cr i0), iv (own_cr i1), iv (own_cr i2), iv (own_cr i3), rv vr_659, rv vr_662, rv b665, rv nr_674] [(.int (1 : Int32)), (.int (3 : Int32)), (.int (4 : Int32))]
        refine XS.iadd X682.here hx rfl (hb hby at_117) rfl ?_
        rw [show ((3 : Int32) + (1 : Int32)) = (4 : Int32) by decide]
        show Go p e below t T682 m 118 #[iv i0, iv i1, iv i2, iv i3, iv i4, iv i5, iv (2 : Int32), iv (1 : Int32), iv (own_cr i0), iv (own_cr i1), iv (own_cr i2), iv (own_cr i3), rv vr_659, rv vr_662, rv b665, rv nr_674] [(.int (4 : Int32)), (.int (4 : Int32))]
        refine XS.icmpYes X682.here hx rfl (pc0 := 118) (pc' := 123) rfl (hb hby at_118) rfl (XT.ii_eq_t (by decide)) (by decide) (by decide) ?_
        show Go p e below t T682 m 123 #[iv i0, iv i1, iv i2, iv i3, iv i4, iv i5, iv (2 : Int32), iv (1 : Int32), iv (own_cr i0), iv (own_cr i1), iv (own_cr i2), iv (own_cr i3), rv vr_659, rv vr_662, rv b665, rv nr_674] []
        refine XS.iload X682.here hx rfl (hb hby at_123) rfl ?_
        show Go p e below t T682 m 125 #[iv i0, iv i1, iv i2, iv i3, iv i4, iv i5, iv (2 : Int32), iv (1 : Int32), iv (own_cr i0), iv (own_cr i1), iv (own_cr i2), iv (own_cr i3), rv vr_659, rv vr_662, rv b665, rv nr_674] [(.int (2 : Int32))]
        refine XT.iconstV X682.here hx rfl (1 : Int32) (hb hby at_125) (by decide) ?_
        show Go p e below t T682 m 126 #[iv i0, iv i1, iv i2, iv i3, iv i4, iv i5, iv (2 : Int32), iv (1 : Int32), iv (own_cr i0), iv (own_cr i1), iv (own_cr i2), iv (own_cr i3), rv vr_659, rv vr_662, rv b665, rv nr_674] [(.int (1 : Int32)), (.int (2 : Int32))]
        refine XS.icmpNo X682.here hx rfl (hb hby at_126) rfl (XT.ii_lt_f (by decide)) ?_
        show Go p e below t T682 m 129 #[iv i0, iv i1, iv i2, iv i3, iv i4, iv i5, iv (2 : Int32), iv (1 : Int32), iv (own_cr i0), iv (own_cr i1), iv (own_cr i2), iv (own_cr i3), rv vr_659, rv vr_662, rv b665, rv nr_674] []
        refine XS.aload X682.here hx rfl (hb hby at_129) rfl rfl ?_
        show Go p e below t T682 m 131 #[iv i0, iv i1, iv i2, iv i3, iv i4, iv i5, iv (2 : Int32), iv (1 : Int32), iv (own_cr i0), iv (own_cr i1), iv (own_cr i2), iv (own_cr i3), rv vr_659, rv vr_662, rv b665, rv nr_674] [(.ref nr_674)]
        refine XT.iconstV X682.here hx rfl (0 : Int32) (hb hby at_131) (by decide) ?_
        show Go p e below t T682 m 132 #[iv i0, iv i1, iv i2, iv i3, iv i4, iv i5, iv (2 : Int32), iv (1 : Int32), iv (own_cr i0), iv (own_cr i1), iv (own_cr i2), iv (own_cr i3), rv vr_659, rv vr_662, rv b665, rv nr_674] [(.int (0 : Int32)), (.ref nr_674)]
        exact k)
      obtain ⟨cq685, kq685, q685a, q685b, q685c⟩ := isOf hZ R682_0 R674_2
      obtain ⟨_, _, ⟨T685, L685, k685, n685⟩, -, X685, ⟨Lc685, hQ685, l685, y685, z685⟩, st685⟩ := X682.virtualBack hx (y := (⟨"java/lang/String", "charAt", "(I)C"⟩ : MethodName)) (z := (⟨"java/lang/String", "charAt", "(I)C"⟩ : MethodName)) hown (mvT hZ (hw _ (List.mem_of_getElem? (i := 162) rfl))) (mvT hZ (hw _ (List.mem_of_getElem? (i := 163) rfl))) (notFace_of_selects (args := #[]) (mvT hZ (hw _ (List.mem_of_getElem? (i := 165) rfl)))) (mvT hZ (hw _ (List.mem_of_getElem? (i := 165) rfl))) (mvT hZ (hw _ (List.mem_of_getElem? (i := 164) rfl))) (by decide) (backOf (W := 0) (rm_cha l Z a0 hw [] nr_674 (0 : Int32) tb_674 tk_674 (4 : Int32) [(.int (((nar .char (own_cr i0)).toInt8.toInt32).toInt8.toInt32)), (.int (((nar .char (own_cr i1)).toInt8.toInt32).toInt8.toInt32)), (.int (45 : Int32)), (.int (((nar .char (own_cr i2)).toInt8.toInt32).toInt8.toInt32))] (((nar .char (own_cr i0)).toInt8.toInt32).toInt8.toInt32) fx cz T674.heap n0 (Nat.le_trans Z0 (Nat.le_trans (Nat.le_trans (Nat.le_trans (Nat.le_trans (Nat.le_trans (Nat.le_refl _) R659_0.1) R662_0.1) E665.1) R671_0.1) R674_0.1)) R674_2 R674_3 R674_4 Vn680 (Sta.keepO (Sta.keepO ((Sta.keepO (Sta.keepO P0 R659_0 ns0) R662_0 ns0).ext E665) R671_0 (nsS (Exa.nostat A665) ns0)) R674_0 ns0) hz (Sta.keepO (Sta.keepO ((Sta.keepO (Sta.keepO P2 R659_0 ns0) R662_0 ns0).ext E665) R671_0 (nsS (Exa.nostat A665) ns0)) R674_0 ns0) hfx (by decide) (by decide) rfl) hZ (hw _ (List.mem_of_getElem? (i := 166) rfl)) (hw _ (List.mem_of_getElem? (i := 6) rfl)) (by decide) (by decide)) q685a q685c (g := (mkF m 132 #[iv i0, iv i1, iv i2, iv i3, iv i4, iv i5, iv (2 : Int32), iv (1 : Int32), iv (own_cr i0), iv (own_cr i1), iv (own_cr i2), iv (own_cr i3), rv vr_659, rv vr_662, rv b665, rv nr_674] [(.int (0 : Int32)), (.ref nr_674)])) rfl (by rw [hml]; rfl) (Steps.refl _) (argsL := [(.int (0 : Int32))]) (rest := []) (lenOf pd26 rfl) rfl (by show 2 * 0 + _ ≤ _; exact Nat.le_of_eq rfl) (hb hby at_132) (fun _ _ => ⟨rfl, R682_0, (by decide : 13 + 0 ≤ _), (by decide : 57 + 0 ≤ _)⟩)
      dsimp only [Pt.U, Pt.locs, Pt.cells, Pt.slots] at X685 l685 y685 z685 st685 hQ685
      subst l685 y685 z685
      obtain ⟨rfl, N685, R685_0⟩ := hQ685
      have M685 := Fr.app M682 N685
      have g686 : Goes p e below S0 (T685.setTop (mkF m 135 #[iv i0, iv i1, iv i2, iv i3, iv i4, iv i5, iv (2 : Int32), iv (1 : Int32), iv (own_cr i0), iv (own_cr i1), iv (own_cr i2), iv (own_cr i3), rv vr_659, rv vr_662, rv b665, rv nr_674] [(.int (own_chr (((nar .char (own_cr i0)).toInt8.toInt32).toInt8.toInt32)))])) := fun t k => g684 t (st685.trans k)
      have g687 : Goes p e below S0 (T685.setTop (mkF m 151 #[iv i0, iv i1, iv i2, iv i3, iv i4, iv i5, iv (2 : Int32), iv (1 : Int32), iv (own_cr i0), iv (own_cr i1), iv (own_cr i2), iv (own_cr i3), rv vr_659, rv vr_662, rv b665, rv nr_674] [(.int (1 : Int32)), (.ref nr_674)])) := fun t k => g686 t (by
        refine XS.iload X685.here hx rfl (hb hby at_135) rfl ?_
        show Go p e below t T685 m 137 #[iv i0, iv i1, iv i2, iv i3, iv i4, iv i5, iv (2 : Int32), iv (1 : Int32), iv (own_cr i0), iv (own_cr i1), iv (own_cr i2), iv (own_cr i3), rv vr_659, rv vr_662, rv b665, rv nr_674] [(.int (own_cr i0)), (.int (own_chr (((nar .char (own_cr i0)).toInt8.toInt32).toInt8.toInt32)))]
        refine XS.icmpYes X685.here hx rfl (pc0 := 137) (pc' := 142) rfl (hb hby at_137) rfl (XT.ii_eq_t (own_rt _)) (by decide) (by decide) ?_
        show Go p e below t T685 m 142 #[iv i0, iv i1, iv i2, iv i3, iv i4, iv i5, iv (2 : Int32), iv (1 : Int32), iv (own_cr i0), iv (own_cr i1), iv (own_cr i2), iv (own_cr i3), rv vr_659, rv vr_662, rv b665, rv nr_674] []
        refine XS.iload X685.here hx rfl (hb hby at_142) rfl ?_
        show Go p e below t T685 m 144 #[iv i0, iv i1, iv i2, iv i3, iv i4, iv i5, iv (2 : Int32), iv (1 : Int32), iv (own_cr i0), iv (own_cr i1), iv (own_cr i2), iv (own_cr i3), rv vr_659, rv vr_662, rv b665, rv nr_674] [(.int (2 : Int32))]
        refine XT.iconstV X685.here hx rfl (2 : Int32) (hb hby at_144) (by decide) ?_
        show Go p e below t T685 m 145 #[iv i0, iv i1, iv i2, iv i3, iv i4, iv i5, iv (2 : Int32), iv (1 : Int32), iv (own_cr i0), iv (own_cr i1), iv (own_cr i2), iv (own_cr i3), rv vr_659, rv vr_662, rv b665, rv nr_674] [(.int (2 : Int32)), (.int (2 : Int32))]
        refine XS.icmpNo X685.here hx rfl (hb hby at_145) rfl (XT.ii_lt_f (by decide)) ?_
        show Go p e below t T685 m 148 #[iv i0, iv i1, iv i2, iv i3, iv i4, iv i5, iv (2 : Int32), iv (1 : Int32), iv (own_cr i0), iv (own_cr i1), iv (own_cr i2), iv (own_cr i3), rv vr_659, rv vr_662, rv b665, rv nr_674] []
        refine XS.aload X685.here hx rfl (hb hby at_148) rfl rfl ?_
        show Go p e below t T685 m 150 #[iv i0, iv i1, iv i2, iv i3, iv i4, iv i5, iv (2 : Int32), iv (1 : Int32), iv (own_cr i0), iv (own_cr i1), iv (own_cr i2), iv (own_cr i3), rv vr_659, rv vr_662, rv b665, rv nr_674] [(.ref nr_674)]
        refine XT.iconstV X685.here hx rfl (1 : Int32) (hb hby at_150) (by decide) ?_
        show Go p e below t T685 m 151 #[iv i0, iv i1, iv i2, iv i3, iv i4, iv i5, iv (2 : Int32), iv (1 : Int32), iv (own_cr i0), iv (own_cr i1), iv (own_cr i2), iv (own_cr i3), rv vr_659, rv vr_662, rv b665, rv nr_674] [(.int (1 : Int32)), (.ref nr_674)]
        exact k)
      obtain ⟨cq688, kq688, q688a, q688b, q688c⟩ := isOf hZ R685_0 R674_2
      obtain ⟨_, _, ⟨T688, L688, k688, n688⟩, -, X688, ⟨Lc688, hQ688, l688, y688, z688⟩, st688⟩ := X685.virtualBack hx (y := (⟨"java/lang/String", "charAt", "(I)C"⟩ : MethodName)) (z := (⟨"java/lang/String", "charAt", "(I)C"⟩ : MethodName)) hown (mvT hZ (hw _ (List.mem_of_getElem? (i := 162) rfl))) (mvT hZ (hw _ (List.mem_of_getElem? (i := 163) rfl))) (notFace_of_selects (args := #[]) (mvT hZ (hw _ (List.mem_of_getElem? (i := 165) rfl)))) (mvT hZ (hw _ (List.mem_of_getElem? (i := 165) rfl))) (mvT hZ (hw _ (List.mem_of_getElem? (i := 164) rfl))) (by decide) (backOf (W := 0) (rm_cha l Z a0 hw [] nr_674 (1 : Int32) tb_674 tk_674 (4 : Int32) [(.int (((nar .char (own_cr i0)).toInt8.toInt32).toInt8.toInt32)), (.int (((nar .char (own_cr i1)).toInt8.toInt32).toInt8.toInt32)), (.int (45 : Int32)), (.int (((nar .char (own_cr i2)).toInt8.toInt32).toInt8.toInt32))] (((nar .char (own_cr i1)).toInt8.toInt32).toInt8.toInt32) fx cz T674.heap n0 (Nat.le_trans Z0 (Nat.le_trans (Nat.le_trans (Nat.le_trans (Nat.le_trans (Nat.le_trans (Nat.le_refl _) R659_0.1) R662_0.1) E665.1) R671_0.1) R674_0.1)) R674_2 R674_3 R674_4 Vn680 (Sta.keepO (Sta.keepO ((Sta.keepO (Sta.keepO P0 R659_0 ns0) R662_0 ns0).ext E665) R671_0 (nsS (Exa.nostat A665) ns0)) R674_0 ns0) hz (Sta.keepO (Sta.keepO ((Sta.keepO (Sta.keepO P2 R659_0 ns0) R662_0 ns0).ext E665) R671_0 (nsS (Exa.nostat A665) ns0)) R674_0 ns0) hfx (by decide) (by decide) rfl) hZ (hw _ (List.mem_of_getElem? (i := 166) rfl)) (hw _ (List.mem_of_getElem? (i := 6) rfl)) (by decide) (by decide)) q688a q688c (g := (mkF m 151 #[iv i0, iv i1, iv i2, iv i3, iv i4, iv i5, iv (2 : Int32), iv (1 : Int32), iv (own_cr i0), iv (own_cr i1), iv (own_cr i2), iv (own_cr i3), rv vr_659, rv vr_662, rv b665, rv nr_674] [(.int (1 : Int32)), (.ref nr_674)])) rfl (by rw [hml]; rfl) (Steps.refl _) (argsL := [(.int (1 : Int32))]) (rest := []) (lenOf pd26 rfl) rfl (by show 2 * 0 + _ ≤ _; exact Nat.le_of_eq rfl) (hb hby at_151) (fun _ _ => ⟨rfl, R685_0, (by decide : 13 + 0 ≤ _), (by decide : 57 + 0 ≤ _)⟩)
      dsimp only [Pt.U, Pt.locs, Pt.cells, Pt.slots] at X688 l688 y688 z688 st688 hQ688
      subst l688 y688 z688
      obtain ⟨rfl, N688, R688_0⟩ := hQ688
      have M688 := Fr.app M685 N688
      have g689 : Goes p e below S0 (T688.setTop (mkF m 154 #[iv i0, iv i1, iv i2, iv i3, iv i4, iv i5, iv (2 : Int32), iv (1 : Int32), iv (own_cr i0), iv (own_cr i1), iv (own_cr i2), iv (own_cr i3), rv vr_659, rv vr_662, rv b665, rv nr_674] [(.int (own_chr (((nar .char (own_cr i1)).toInt8.toInt32).toInt8.toInt32)))])) := fun t k => g687 t (st688.trans k)
      have g690 : Goes p e below S0 (T688.setTop (mkF m 165 #[iv i0, iv i1, iv i2, iv i3, iv i4, iv i5, iv (2 : Int32), iv (1 : Int32), iv (own_cr i0), iv (own_cr i1), iv (own_cr i2), iv (own_cr i3), rv vr_659, rv vr_662, rv b665, rv nr_674] [(.int (2 : Int32)), (.ref nr_674)])) := fun t k => g689 t (by
        refine XS.iload X688.here hx rfl (hb hby at_154) rfl ?_
        show Go p e below t T688 m 156 #[iv i0, iv i1, iv i2, iv i3, iv i4, iv i5, iv (2 : Int32), iv (1 : Int32), iv (own_cr i0), iv (own_cr i1), iv (own_cr i2), iv (own_cr i3), rv vr_659, rv vr_662, rv b665, rv nr_674] [(.int (own_cr i1)), (.int (own_chr (((nar .char (own_cr i1)).toInt8.toInt32).toInt8.toInt32)))]
        refine XS.icmpYes X688.here hx rfl (pc0 := 156) (pc' := 161) rfl (hb hby at_156) rfl (XT.ii_eq_t (own_rt _)) (by decide) (by decide) ?_
        show Go p e below t T688 m 161 #[iv i0, iv i1, iv i2, iv i3, iv i4, iv i5, iv (2 : Int32), iv (1 : Int32), iv (own_cr i0), iv (own_cr i1), iv (own_cr i2), iv (own_cr i3), rv vr_659, rv vr_662, rv b665, rv nr_674] []
        refine XS.aload X688.here hx rfl (hb hby at_161) rfl rfl ?_
        show Go p e below t T688 m 163 #[iv i0, iv i1, iv i2, iv i3, iv i4, iv i5, iv (2 : Int32), iv (1 : Int32), iv (own_cr i0), iv (own_cr i1), iv (own_cr i2), iv (own_cr i3), rv vr_659, rv vr_662, rv b665, rv nr_674] [(.ref nr_674)]
        refine XS.iload X688.here hx rfl (hb hby at_163) rfl ?_
        show Go p e below t T688 m 165 #[iv i0, iv i1, iv i2, iv i3, iv i4, iv i5, iv (2 : Int32), iv (1 : Int32), iv (own_cr i0), iv (own_cr i1), iv (own_cr i2), iv (own_cr i3), rv vr_659, rv vr_662, rv b665, rv nr_674] [(.int (2 : Int32)), (.ref nr_674)]
        exact k)
      obtain ⟨cq691, kq691, q691a, q691b, q691c⟩ := isOf hZ R688_0 R674_2
      obtain ⟨_, _, ⟨T691, L691, k691, n691⟩, -, X691, ⟨Lc691, hQ691, l691, y691, z691⟩, st691⟩ := X688.virtualBack hx (y := (⟨"java/lang/String", "charAt", "(I)C"⟩ : MethodName)) (z := (⟨"java/lang/String", "charAt", "(I)C"⟩ : MethodName)) hown (mvT hZ (hw _ (List.mem_of_getElem? (i := 162) rfl))) (mvT hZ (hw _ (List.mem_of_getElem? (i := 163) rfl))) (notFace_of_selects (args := #[]) (mvT hZ (hw _ (List.mem_of_getElem? (i := 165) rfl)))) (mvT hZ (hw _ (List.mem_of_getElem? (i := 165) rfl))) (mvT hZ (hw _ (List.mem_of_getElem? (i := 164) rfl))) (by decide) (backOf (W := 0) (rm_cha l Z a0 hw [] nr_674 (2 : Int32) tb_674 tk_674 (4 : Int32) [(.int (((nar .char (own_cr i0)).toInt8.toInt32).toInt8.toInt32)), (.int (((nar .char (own_cr i1)).toInt8.toInt32).toInt8.toInt32)), (.int (45 : Int32)), (.int (((nar .char (own_cr i2)).toInt8.toInt32).toInt8.toInt32))] (45 : Int32) fx cz T674.heap n0 (Nat.le_trans Z0 (Nat.le_trans (Nat.le_trans (Nat.le_trans (Nat.le_trans (Nat.le_trans (Nat.le_refl _) R659_0.1) R662_0.1) E665.1) R671_0.1) R674_0.1)) R674_2 R674_3 R674_4 Vn680 (Sta.keepO (Sta.keepO ((Sta.keepO (Sta.keepO P0 R659_0 ns0) R662_0 ns0).ext E665) R671_0 (nsS (Exa.nostat A665) ns0)) R674_0 ns0) hz (Sta.keepO (Sta.keepO ((Sta.keepO (Sta.keepO P2 R659_0 ns0) R662_0 ns0).ext E665) R671_0 (nsS (Exa.nostat A665) ns0)) R674_0 ns0) hfx (by decide) (by decide) rfl) hZ (hw _ (List.mem_of_getElem? (i := 166) rfl)) (hw _ (List.mem_of_getElem? (i := 6) rfl)) (by decide) (by decide)) q691a q691c (g := (mkF m 165 #[iv i0, iv i1, iv i2, iv i3, iv i4, iv i5, iv (2 : Int32), iv (1 : Int32), iv (own_cr i0), iv (own_cr i1), iv (own_cr i2), iv (own_cr i3), rv vr_659, rv vr_662, rv b665, rv nr_674] [(.int (2 : Int32)), (.ref nr_674)])) rfl (by rw [hml]; rfl) (Steps.refl _) (argsL := [(.int (2 : Int32))]) (rest := []) (lenOf pd26 rfl) rfl (by show 2 * 0 + _ ≤ _; exact Nat.le_of_eq rfl) (hb hby at_165) (fun _ _ => ⟨rfl, R688_0, (by decide : 13 + 0 ≤ _), (by decide : 57 + 0 ≤ _)⟩)
      dsimp only [Pt.U, Pt.locs, Pt.cells, Pt.slots] at X691 l691 y691 z691 st691 hQ691
      subst l691 y691 z691
      obtain ⟨rfl, N691, R691_0⟩ := hQ691
      have M691 := Fr.app M688 N691
      have g692 : Goes p e below S0 (T691.setTop (mkF m 168 #[iv i0, iv i1, iv i2, iv i3, iv i4, iv i5, iv (2 : Int32), iv (1 : Int32), iv (own_cr i0), iv (own_cr i1), iv (own_cr i2), iv (own_cr i3), rv vr_659, rv vr_662, rv b665, rv nr_674] [(.int (own_chr (45 : Int32)))])) := fun t k => g690 t (st691.trans k)
      have g693 : Goes p e below S0 (T691.setTop (mkF m 187 #[iv i0, iv i1, iv i2, iv i3, iv i4, iv i5, iv (2 : Int32), iv (1 : Int32), iv (own_cr i0), iv (own_cr i1), iv (own_cr i2), iv (own_cr i3), rv vr_659, rv vr_662, rv b665, rv nr_674] [(.int (3 : Int32)), (.ref nr_674)])) := fun t k => g692 t (by
        refine XT.bipushV X691.here hx rfl (45 : Int32) (hb hby at_168) (by decide) ?_
        show Go p e below t T691 m 170 #[iv i0, iv i1, iv i2, iv i3, iv i4, iv i5, iv (2 : Int32), iv (1 : Int32), iv (own_cr i0), iv (own_cr i1), iv (own_cr i2), iv (own_cr i3), rv vr_659, rv vr_662, rv b665, rv nr_674] [(.int (45 : Int32)), (.int (own_chr (45 : Int32)))]
        refine XS.icmpYes X691.here hx rfl (pc0 := 170) (pc' := 175) rfl (hb hby at_170) rfl (XT.ii_eq_t (by decide)) (by decide) (by decide) ?_
        show Go p e below t T691 m 175 #[iv i0, iv i1, iv i2, iv i3, iv i4, iv i5, iv (2 : Int32), iv (1 : Int32), iv (own_cr i0), iv (own_cr i1), iv (own_cr i2), iv (own_cr i3), rv vr_659, rv vr_662, rv b665, rv nr_674] []
        refine XS.iload X691.here hx rfl (hb hby at_175) rfl ?_
        show Go p e below t T691 m 177 #[iv i0, iv i1, iv i2, iv i3, iv i4, iv i5, iv (2 : Int32), iv (1 : Int32), iv (own_cr i0), iv (own_cr i1), iv (own_cr i2), iv (own_cr i3), rv vr_659, rv vr_662, rv b665, rv nr_674] [(.int (1 : Int32))]
        refine XT.iconstV X691.here hx rfl (1 : Int32) (hb hby at_177) (by decide) ?_
        show Go p e below t T691 m 178 #[iv i0, iv i1, iv i2, iv i3, iv i4, iv i5, iv (2 : Int32), iv (1 : Int32), iv (own_cr i0), iv (own_cr i1), iv (own_cr i2), iv (own_cr i3), rv vr_659, rv vr_662, rv b665, rv nr_674] [(.int (1 : Int32)), (.int (1 : Int32))]
        refine XS.icmpNo X691.here hx rfl (hb hby at_178) rfl (XT.ii_lt_f (by decide)) ?_
        show Go p e below t T691 m 181 #[iv i0, iv i1, iv i2, iv i3, iv i4, iv i5, iv (2 : Int32), iv (1 : Int32), iv (own_cr i0), iv (own_cr i1), iv (own_cr i2), iv (own_cr i3), rv vr_659, rv vr_662, rv b665, rv nr_674] []
        refine XS.aload X691.here hx rfl (hb hby at_181) rfl rfl ?_
        show Go p e below t T691 m 183 #[iv i0, iv i1, iv i2, iv i3, iv i4, iv i5, iv (2 : Int32), iv (1 : Int32), iv (own_cr i0), iv (own_cr i1), iv (own_cr i2), iv (own_cr i3), rv vr_659, rv vr_662, rv b665, rv nr_674] [(.ref nr_674)]
        refine XS.iload X691.here hx rfl (hb hby at_183) rfl ?_
        show Go p e below t T691 m 185 #[iv i0, iv i1, iv i2, iv i3, iv i4, iv i5, iv (2 : Int32), iv (1 : Int32), iv (own_cr i0), iv (own_cr i1), iv (own_cr i2), iv (own_cr i3), rv vr_659, rv vr_662, rv b665, rv nr_674] [(.int (2 : Int32)), (.ref nr_674)]
        refine XT.iconstV X691.here hx rfl (1 : Int32) (hb hby at_185) (by decide) ?_
        show Go p e below t T691 m 186 #[iv i0, iv i1, iv i2, iv i3, iv i4, iv i5, iv (2 : Int32), iv (1 : Int32), iv (own_cr i0), iv (own_cr i1), iv (own_cr i2), iv (own_cr i3), rv vr_659, rv vr_662, rv b665, rv nr_674] [(.int (1 : Int32)), (.int (2 : Int32)), (.ref nr_674)]
        refine XS.iadd X691.here hx rfl (hb hby at_186) rfl ?_
        rw [show ((2 : Int32) + (1 : Int32)) = (3 : Int32) by decide]
        show Go p e below t T691 m 187 #[iv i0, iv i1, iv i2, iv i3, iv i4, iv i5, iv (2 : Int32), iv (1 : Int32), iv (own_cr i0), iv (own_cr i1), iv (own_cr i2), iv (own_cr i3), rv vr_659, rv vr_662, rv b665, rv nr_674] [(.int (3 : Int32)), (.ref nr_674)]
        exact k)
      obtain ⟨cq694, kq694, q694a, q694b, q694c⟩ := isOf hZ R691_0 R674_2
      obtain ⟨_, _, ⟨T694, L694, k694, n694⟩, -, X694, ⟨Lc694, hQ694, l694, y694, z694⟩, st694⟩ := X691.virtualBack hx (y := (⟨"java/lang/String", "charAt", "(I)C"⟩ : MethodName)) (z := (⟨"java/lang/String", "charAt", "(I)C"⟩ : MethodName)) hown (mvT hZ (hw _ (List.mem_of_getElem? (i := 162) rfl))) (mvT hZ (hw _ (List.mem_of_getElem? (i := 163) rfl))) (notFace_of_selects (args := #[]) (mvT hZ (hw _ (List.mem_of_getElem? (i := 165) rfl)))) (mvT hZ (hw _ (List.mem_of_getElem? (i := 165) rfl))) (mvT hZ (hw _ (List.mem_of_getElem? (i := 164) rfl))) (by decide) (backOf (W := 0) (rm_cha l Z a0 hw [] nr_674 (3 : Int32) tb_674 tk_674 (4 : Int32) [(.int (((nar .char (own_cr i0)).toInt8.toInt32).toInt8.toInt32)), (.int (((nar .char (own_cr i1)).toInt8.toInt32).toInt8.toInt32)), (.int (45 : Int32)), (.int (((nar .char (own_cr i2)).toInt8.toInt32).toInt8.toInt32))] (((nar .char (own_cr i2)).toInt8.toInt32).toInt8.toInt32) fx cz T674.heap n0 (Nat.le_trans Z0 (Nat.le_trans (Nat.le_trans (Nat.le_trans (Nat.le_trans (Nat.le_trans (Nat.le_refl _) R659_0.1) R662_0.1) E665.1) R671_0.1) R674_0.1)) R674_2 R674_3 R674_4 Vn680 (Sta.keepO (Sta.keepO ((Sta.keepO (Sta.keepO P0 R659_0 ns0) R662_0 ns0).ext E665) R671_0 (nsS (Exa.nostat A665) ns0)) R674_0 ns0) hz (Sta.keepO (Sta.keepO ((Sta.keepO (Sta.keepO P2 R659_0 ns0) R662_0 ns0).ext E665) R671_0 (nsS (Exa.nostat A665) ns0)) R674_0 ns0) hfx (by decide) (by decide) rfl) hZ (hw _ (List.mem_of_getElem? (i := 166) rfl)) (hw _ (List.mem_of_getElem? (i := 6) rfl)) (by decide) (by decide)) q694a q694c (g := (mkF m 187 #[iv i0, iv i1, iv i2, iv i3, iv i4, iv i5, iv (2 : Int32), iv (1 : Int32), iv (own_cr i0), iv (own_cr i1), iv (own_cr i2), iv (own_cr i3), rv vr_659, rv vr_662, rv b665, rv nr_674] [(.int (3 : Int32)), (.ref nr_674)])) rfl (by rw [hml]; rfl) (Steps.refl _) (argsL := [(.int (3 : Int32))]) (rest := []) (lenOf pd26 rfl) rfl (by show 2 * 0 + _ ≤ _; exact Nat.le_of_eq rfl) (hb hby at_187) (fun _ _ => ⟨rfl, R691_0, (by decide : 13 + 0 ≤ _), (by decide : 57 + 0 ≤ _)⟩)
      dsimp only [Pt.U, Pt.locs, Pt.cells, Pt.slots] at X694 l694 y694 z694 st694 hQ694
      subst l694 y694 z694
      obtain ⟨rfl, N694, R694_0⟩ := hQ694
      have M694 := Fr.app M691 N694
      have g695 : Goes p e below S0 (T694.setTop (mkF m 190 #[iv i0, iv i1, iv i2, iv i3, iv i4, iv i5, iv (2 : Int32), iv (1 : Int32), iv (own_cr i0), iv (own_cr i1), iv (own_cr i2), iv (own_cr i3), rv vr_659, rv vr_662, rv b665, rv nr_674] [(.int (own_chr (((nar .char (own_cr i2)).toInt8.toInt32).toInt8.toInt32)))])) := fun t k => g693 t (st694.trans k)
      have g696 : Goes p e below S0 (T694.setTop (mkF m 220 #[iv i0, iv i1, iv i2, iv i3, iv i4, iv i5, iv (2 : Int32), iv (1 : Int32), iv (own_cr i0), iv (own_cr i1), iv (own_cr i2), iv (own_cr i3), rv vr_659, rv vr_662, rv b665, rv nr_674] [(.int (1 : Int32))])) := fun t k => g695 t (by
        refine XS.iload X694.here hx rfl (hb hby at_190) rfl ?_
        show Go p e below t T694 m 192 #[iv i0, iv i1, iv i2, iv i3, iv i4, iv i5, iv (2 : Int32), iv (1 : Int32), iv (own_cr i0), iv (own_cr i1), iv (own_cr i2), iv (own_cr i3), rv vr_659, rv vr_662, rv b665, rv nr_674] [(.int (own_cr i2)), (.int (own_chr (((nar .char (own_cr i2)).toInt8.toInt32).toInt8.toInt32)))]
        refine XS.icmpYes X694.here hx rfl (pc0 := 192) (pc' := 197) rfl (hb hby at_192) rfl (XT.ii_eq_t (own_rt _)) (by decide) (by decide) ?_
        show Go p e below t T694 m 197 #[iv i0, iv i1, iv i2, iv i3, iv i4, iv i5, iv (2 : Int32), iv (1 : Int32), iv (own_cr i0), iv (own_cr i1), iv (own_cr i2), iv (own_cr i3), rv vr_659, rv vr_662, rv b665, rv nr_674] []
        refine XS.iload X694.here hx rfl (hb hby at_197) rfl ?_
        show Go p e below t T694 m 199 #[iv i0, iv i1, iv i2, iv i3, iv i4, iv i5, iv (2 : Int32), iv (1 : Int32), iv (own_cr i0), iv (own_cr i1), iv (own_cr i2), iv (own_cr i3), rv vr_659, rv vr_662, rv b665, rv nr_674] [(.int (1 : Int32))]
        refine XT.iconstV X694.here hx rfl (2 : Int32) (hb hby at_199) (by decide) ?_
        show Go p e below t T694 m 200 #[iv i0, iv i1, iv i2, iv i3, iv i4, iv i5, iv (2 : Int32), iv (1 : Int32), iv (own_cr i0), iv (own_cr i1), iv (own_cr i2), iv (own_cr i3), rv vr_659, rv vr_662, rv b665, rv nr_674] [(.int (2 : Int32)), (.int (1 : Int32))]
        refine XS.icmpYes X694.here hx rfl (pc0 := 200) (pc' := 219) rfl (hb hby at_200) rfl (XT.ii_lt_t (by decide)) (by decide) (by decide) ?_
        show Go p e below t T694 m 219 #[iv i0, iv i1, iv i2, iv i3, iv i4, iv i5, iv (2 : Int32), iv (1 : Int32), iv (own_cr i0), iv (own_cr i1), iv (own_cr i2), iv (own_cr i3), rv vr_659, rv vr_662, rv b665, rv nr_674] []
        refine XT.iconstV X694.here hx rfl (1 : Int32) (hb hby at_219) (by decide) ?_
        show Go p e below t T694 m 220 #[iv i0, iv i1, iv i2, iv i3, iv i4, iv i5, iv (2 : Int32), iv (1 : Int32), iv (own_cr i0), iv (own_cr i1), iv (own_cr i2), iv (own_cr i3), rv vr_659, rv vr_662, rv b665, rv nr_674] [(.int (1 : Int32))]
        exact k)
      obtain ⟨fs, hr, hrun, hended, hE1, hE2, hE3, hE4⟩ := Stand.leaveW (s := s) (vm₁ := T674.vm) X694 so674 (by rw [R694_0]; exact (Nat.le_refl _)) (v := some (.int (1 : Int32))) (fun h => by rw [Bd.returns] at h; cases h)
      refine ⟨_, _, g696 _ (retN X694 hx (t := .boolean) Bd.returns (by simp) (hb hby at_220) hr), hrun, hended, _, _, rfl, ?_, hE1, hE2, hE3, hE4.mono (by decide) (by decide)⟩
      show Q_law Z i0 i1 i2 i3 i4 i5 cz fx h0 n0 _ T694.heap _
      rw [R694_0]
      exact ⟨rfl, M694⟩
    · skip
      have g697 : Goes p e below S0 (s₁.setTop (mkF m 56 #[iv i0, iv i1, iv i2, iv i3, iv i4, iv i5, iv (2 : Int32), iv (2 : Int32), iv (own_cr i0), iv (own_cr i1), iv (own_cr i2), iv (own_cr i3), .unset, .unset, .unset, .unset] [(.int (own_cr i1)), (.int (own_cr i0)), (.int (2 : Int32))])) := fun t k => g414 t (by
        refine XS.iload X0.here hx rfl (hb hby at_50) rfl ?_
        show Go p e below t s₁ m 52 #[iv i0, iv i1, iv i2, iv i3, iv i4, iv i5, iv (2 : Int32), iv (2 : Int32), iv (own_cr i0), iv (own_cr i1), iv (own_cr i2), iv (own_cr i3), .unset, .unset, .unset, .unset] [(.int (2 : Int32))]
        refine XS.iload X0.here hx rfl (hb hby at_52) rfl ?_
        show Go p e below t s₁ m 54 #[iv i0, iv i1, iv i2, iv i3, iv i4, iv i5, iv (2 : Int32), iv (2 : Int32), iv (own_cr i0), iv (own_cr i1), iv (own_cr i2), iv (own_cr i3), .unset, .unset, .unset, .unset] [(.int (own_cr i0)), (.int (2 : Int32))]
        refine XS.iload X0.here hx rfl (hb hby at_54) rfl ?_
        show Go p e below t s₁ m 56 #[iv i0, iv i1, iv i2, iv i3, iv i4, iv i5, iv (2 : Int32), iv (2 : Int32), iv (own_cr i0), iv (own_cr i1), iv (own_cr i2), iv (own_cr i3), .unset, .unset, .unset, .unset] [(.int (own_cr i1)), (.int (own_cr i0)), (.int (2 : Int32))]
        exact k)
      obtain ⟨_, _, ⟨T698, L698, k698, n698⟩, -, X698, ⟨Lc698, hQ698, l698, y698, z698⟩, st698⟩ := Jvm.LawKit.callS X0 hx (y := (⟨"com/example/forager/forager/RoadNamePinLaw", "mk", "(ICC)Ljava/lang/String;"⟩ : MethodName)) hown (mvT hZ (hw _ (List.mem_of_getElem? (i := 0) rfl))) (mvT hZ (hw _ (List.mem_of_getElem? (i := 1) rfl))) (mvT hZ (hw _ (List.mem_of_getElem? (i := 2) rfl))) (mvT hZ (hw _ (List.mem_of_getElem? (i := 3) rfl))) (by decide) (backOf (W := 0) (rm_mk2 l Z a0 hw [] (2 : Int32) (own_cr i0) (own_cr i1) cz h0 n0 Z0 P0 hz rfl (own_ch _) (own_ch _)) hZ (hw _ (List.mem_of_getElem? (i := 3) rfl)) (hw _ (List.mem_of_getElem? (i := 2) rfl)) (by decide) (by decide)) (g := (mkF m 56 #[iv i0, iv i1, iv i2, iv i3, iv i4, iv i5, iv (2 : Int32), iv (2 : Int32), iv (own_cr i0), iv (own_cr i1), iv (own_cr i2), iv (own_cr i3), .unset, .unset, .unset, .unset] [(.int (own_cr i1)), (.int (own_cr i0)), (.int (2 : Int32))])) rfl (by rw [hml]; rfl) (argsL := [(.int (2 : Int32)), (.int (own_cr i0)), (.int (own_cr i1))]) (rest := []) (lenOf pd7 rfl) rfl (by show 2 * 0 + _ ≤ _; exact Nat.le_of_eq rfl) (hb hby at_56) (fun _ _ => ⟨rfl, e0, (by decide : 0 + 3 ≤ _), (by decide : 0 + 8 ≤ _)⟩)
      dsimp only [Pt.U, Pt.locs, Pt.cells, Pt.slots] at X698 l698 y698 z698 st698 hQ698
      subst l698 y698 z698
      obtain ⟨vr_698, tb_698, tk_698, rfl, N698, R698_0, R698_1, R698_2, R698_3, R698_4, R698_5⟩ := hQ698
      have M698 := Fr.app N0 N698
      have sz698_1 : h0.size ≤ vr_698 := Nat.le_trans (Nat.le_refl _) R698_1
      have ng698_1 : n0 ≤ vr_698 := Nat.le_trans Z0 sz698_1
      have g699 : Goes p e below S0 (T698.setTop (mkF m 59 #[iv i0, iv i1, iv i2, iv i3, iv i4, iv i5, iv (2 : Int32), iv (2 : Int32), iv (own_cr i0), iv (own_cr i1), iv (own_cr i2), iv (own_cr i3), .unset, .unset, .unset, .unset] [(.ref vr_698)])) := fun t k => g697 t (st698 t k)
      have g700 : Goes p e below S0 (T698.setTop (mkF m 67 #[iv i0, iv i1, iv i2, iv i3, iv i4, iv i5, iv (2 : Int32), iv (2 : Int32), iv (own_cr i0), iv (own_cr i1), iv (own_cr i2), iv (own_cr i3), rv vr_698, .unset, .unset, .unset] [(.int (own_cr i3)), (.int (own_cr i2)), (.int (2 : Int32))])) := fun t k => g699 t (by
        refine XS.astore X698.here hx rfl (hb hby at_59) rfl rfl (l' := #[iv i0, iv i1, iv i2, iv i3, iv i4, iv i5, iv (2 : Int32), iv (2 : Int32), iv (own_cr i0), iv (own_cr i1), iv (own_cr i2), iv (own_cr i3), rv vr_698, .unset, .unset, .unset]) rfl ?_
        show Go p e below t T698 m 61 #[iv i0, iv i1, iv i2, iv i3, iv i4, iv i5, iv (2 : Int32), iv (2 : Int32), iv (own_cr i0), iv (own_cr i1), iv (own_cr i2), iv (own_cr i3), rv vr_698, .unset, .unset, .unset] []
        refine XS.iload X698.here hx rfl (hb hby at_61) rfl ?_
        show Go p e below t T698 m 63 #[iv i0, iv i1, iv i2, iv i3, iv i4, iv i5, iv (2 : Int32), iv (2 : Int32), iv (own_cr i0), iv (own_cr i1), iv (own_cr i2), iv (own_cr i3), rv vr_698, .unset, .unset, .unset] [(.int (2 : Int32))]
        refine XS.iload X698.here hx rfl (hb hby at_63) rfl ?_
        show Go p e below t T698 m 65 #[iv i0, iv i1, iv i2, iv i3, iv i4, iv i5, iv (2 : Int32), iv (2 : Int32), iv (own_cr i0), iv (own_cr i1), iv (own_cr i2), iv (own_cr i3), rv vr_698, .unset, .unset, .unset] [(.int (own_cr i2)), (.int (2 : Int32))]
        refine XS.iload X698.here hx rfl (hb hby at_65) rfl ?_
        show Go p e below t T698 m 67 #[iv i0, iv i1, iv i2, iv i3, iv i4, iv i5, iv (2 : Int32), iv (2 : Int32), iv (own_cr i0), iv (own_cr i1), iv (own_cr i2), iv (own_cr i3), rv vr_698, .unset, .unset, .unset] [(.int (own_cr i3)), (.int (own_cr i2)), (.int (2 : Int32))]
        exact k)
      obtain ⟨_, _, ⟨T701, L701, k701, n701⟩, -, X701, ⟨Lc701, hQ701, l701, y701, z701⟩, st701⟩ := Jvm.LawKit.callS X698 hx (y := (⟨"com/example/forager/forager/RoadNamePinLaw", "mk", "(ICC)Ljava/lang/String;"⟩ : MethodName)) hown (mvT hZ (hw _ (List.mem_of_getElem? (i := 0) rfl))) (mvT hZ (hw _ (List.mem_of_getElem? (i := 1) rfl))) (mvT hZ (hw _ (List.mem_of_getElem? (i := 2) rfl))) (mvT hZ (hw _ (List.mem_of_getElem? (i := 3) rfl))) (by decide) (backOf (W := 0) (rm_mk2 l Z a0 hw [] (2 : Int32) (own_cr i2) (own_cr i3) cz T698.heap n0 (Nat.le_trans Z0 (Nat.le_trans (Nat.le_refl _) R698_0.1)) (Sta.keepO P0 R698_0 ns0) hz rfl (own_ch _) (own_ch _)) hZ (hw _ (List.mem_of_getElem? (i := 3) rfl)) (hw _ (List.mem_of_getElem? (i := 2) rfl)) (by decide) (by decide)) (g := (mkF m 67 #[iv i0, iv i1, iv i2, iv i3, iv i4, iv i5, iv (2 : Int32), iv (2 : Int32), iv (own_cr i0), iv (own_cr i1), iv (own_cr i2), iv (own_cr i3), rv vr_698, .unset, .unset, .unset] [(.int (own_cr i3)), (.int (own_cr i2)), (.int (2 : Int32))])) rfl (by rw [hml]; rfl) (argsL := [(.int (2 : Int32)), (.int (own_cr i2)), (.int (own_cr i3))]) (rest := []) (lenOf pd7 rfl) rfl (by show 2 * 0 + _ ≤ _; exact Nat.le_of_eq rfl) (hb hby at_67) (fun _ _ => ⟨rfl, rfl, (by decide : 3 + 3 ≤ _), (by decide : 8 + 8 ≤ _)⟩)
      dsimp only [Pt.U, Pt.locs, Pt.cells, Pt.slots] at X701 l701 y701 z701 st701 hQ701
      subst l701 y701 z701
      obtain ⟨vr_701, tb_701, tk_701, rfl, N701, R701_0, R701_1, R701_2, R701_3, R701_4, R701_5⟩ := hQ701
      have M701 := Fr.app M698 N701
      have sz701_1 : h0.size ≤ vr_701 := Nat.le_trans (Nat.le_trans (Nat.le_refl _) R698_0.1) R701_1
      have ng701_1 : n0 ≤ vr_701 := Nat.le_trans Z0 sz701_1
      have g702 : Goes p e below S0 (T701.setTop (mkF m 70 #[iv i0, iv i1, iv i2, iv i3, iv i4, iv i5, iv (2 : Int32), iv (2 : Int32), iv (own_cr i0), iv (own_cr i1), iv (own_cr i2), iv (own_cr i3), rv vr_698, .unset, .unset, .unset] [(.ref vr_701)])) := fun t k => g700 t (st701 t k)
      have g703 : Goes p e below S0 (T701.setTop (mkF m 72 #[iv i0, iv i1, iv i2, iv i3, iv i4, iv i5, iv (2 : Int32), iv (2 : Int32), iv (own_cr i0), iv (own_cr i1), iv (own_cr i2), iv (own_cr i3), rv vr_698, rv vr_701, .unset, .unset] [])) := fun t k => g702 t (by
        refine XS.astore X701.here hx rfl (hb hby at_70) rfl rfl (l' := #[iv i0, iv i1, iv i2, iv i3, iv i4, iv i5, iv (2 : Int32), iv (2 : Int32), iv (own_cr i0), iv (own_cr i1), iv (own_cr i2), iv (own_cr i3), rv vr_698, rv vr_701, .unset, .unset]) rfl ?_
        show Go p e below t T701 m 72 #[iv i0, iv i1, iv i2, iv i3, iv i4, iv i5, iv (2 : Int32), iv (2 : Int32), iv (own_cr i0), iv (own_cr i1), iv (own_cr i2), iv (own_cr i3), rv vr_698, rv vr_701, .unset, .unset] []
        exact k)
      obtain ⟨T704, h704, X704, e704, E704, A704, D704, -, st704⟩ := newO X701 hx hZ hown (hw _ (List.mem_of_getElem? (i := 26) rfl)) (hw _ (List.mem_of_getElem? (i := 27) rfl)) (hw _ (List.mem_of_getElem? (i := 28) rfl)) rfl (g := (mkF m 72 #[iv i0, iv i1, iv i2, iv i3, iv i4, iv i5, iv (2 : Int32), iv (2 : Int32), iv (own_cr i0), iv (own_cr i1), iv (own_cr i2), iv (own_cr i3), rv vr_698, rv vr_701, .unset, .unset] [])) rfl (hb hby at_72) (by decide) (by decide)
      obtain ⟨b704, gb704⟩ : ∃ z, z = T701.heap.size := ⟨_, rfl⟩
      have sz704 : h0.size ≤ b704 := Nat.le_trans (Nat.le_trans (Nat.le_trans (Nat.le_refl _) R698_0.1) R701_0.1) (Nat.le_of_eq gb704.symm)
      have ng704 : n0 ≤ b704 := Nat.le_trans Z0 sz704
      rw [← gb704] at A704 D704 st704
      have F704_705 : Fld Z h704 b704 "com/example/forager/forager/Road" "from" "Ljava/lang/String;" .null := D704 (Or.inr (hw _ (List.mem_of_getElem? (i := 39) rfl))) (ty := (.object "java/lang/String")) (by decide)
      have F704_706 : Fld Z h704 b704 "com/example/forager/forager/Road" "to" "Ljava/lang/String;" .null := D704 (Or.inr (hw _ (List.mem_of_getElem? (i := 41) rfl))) (ty := (.object "java/lang/String")) (by decide)
      have F704_707 : Fld Z h704 b704 "com/example/forager/forager/Road" "length" "D" (.double (0 : UInt64)) := D704 (Or.inr (hw _ (List.mem_of_getElem? (i := 43) rfl))) (ty := .double) (by decide)
      have g708 : Goes p e below S0 (T704.setTop (mkF m 75 #[iv i0, iv i1, iv i2, iv i3, iv i4, iv i5, iv (2 : Int32), iv (2 : Int32), iv (own_cr i0), iv (own_cr i1), iv (own_cr i2), iv (own_cr i3), rv vr_698, rv vr_701, .unset, .unset] [(.ref b704)])) := fun t k => g703 t (st704 t k)
      have g709 : Goes p e below S0 (T704.setTop (mkF m 87 #[iv i0, iv i1, iv i2, iv i3, iv i4, iv i5, iv (2 : Int32), iv (2 : Int32), iv (own_cr i0), iv (own_cr i1), iv (own_cr i2), iv (own_cr i3), rv vr_698, rv vr_701, .unset, .unset] [(.double (FP.i2d (i5 &&& (1023 : Int32)))), (.ref vr_701), (.ref vr_698), (.ref b704), (.ref b704)])) := fun t k => g708 t (by
        refine XS.dup X704.here hx rfl (hb hby at_75) rfl rfl ?_
        show Go p e below t T704 m 76 #[iv i0, iv i1, iv i2, iv i3, iv i4, iv i5, iv (2 : Int32), iv (2 : Int32), iv (own_cr i0), iv (own_cr i1), iv (own_cr i2), iv (own_cr i3), rv vr_698, rv vr_701, .unset, .unset] [(.ref b704), (.ref b704)]
        refine XS.aload X704.here hx rfl (hb hby at_76) rfl rfl ?_
        show Go p e below t T704 m 78 #[iv i0, iv i1, iv i2, iv i3, iv i4, iv i5, iv (2 : Int32), iv (2 : Int32), iv (own_cr i0), iv (own_cr i1), iv (own_cr i2), iv (own_cr i3), rv vr_698, rv vr_701, .unset, .unset] [(.ref vr_698), (.ref b704), (.ref b704)]
        refine XS.aload X704.here hx rfl (hb hby at_78) rfl rfl ?_
        show Go p e below t T704 m 80 #[iv i0, iv i1, iv i2, iv i3, iv i4, iv i5, iv (2 : Int32), iv (2 : Int32), iv (own_cr i0), iv (own_cr i1), iv (own_cr i2), iv (own_cr i3), rv vr_698, rv vr_701, .unset, .unset] [(.ref vr_701), (.ref vr_698), (.ref b704), (.ref b704)]
        refine XS.iload X704.here hx rfl (hb hby at_80) rfl ?_
        show Go p e below t T704 m 82 #[iv i0, iv i1, iv i2, iv i3, iv i4, iv i5, iv (2 : Int32), iv (2 : Int32), iv (own_cr i0), iv (own_cr i1), iv (own_cr i2), iv (own_cr i3), rv vr_698, rv vr_701, .unset, .unset] [(.int i5), (.ref vr_701), (.ref vr_698), (.ref b704), (.ref b704)]
        refine XT.sipushV X704.here hx rfl (1023 : Int32) (hb hby at_82) (by decide) ?_
        show Go p e below t T704 m 85 #[iv i0, iv i1, iv i2, iv i3, iv i4, iv i5, iv (2 : Int32), iv (2 : Int32), iv (own_cr i0), iv (own_cr i1), iv (own_cr i2), iv (own_cr i3), rv vr_698, rv vr_701, .unset, .unset] [(.int (1023 : Int32)), (.int i5), (.ref vr_701), (.ref vr_698), (.ref b704), (.ref b704)]
        refine XS.iand X704.here hx rfl (hb hby at_85) rfl ?_
        show Go p e below t T704 m 86 #[iv i0, iv i1, iv i2, iv i3, iv i4, iv i5, iv (2 : Int32), iv (2 : Int32), iv (own_cr i0), iv (own_cr i1), iv (own_cr i2), iv (own_cr i3), rv vr_698, rv vr_701, .unset, .unset] [(.int (i5 &&& (1023 : Int32))), (.ref vr_701), (.ref vr_698), (.ref b704), (.ref b704)]
        refine XS.i2dS X704.here hx rfl (hb hby at_86) rfl rfl ?_
        show Go p e below t T704 m 87 #[iv i0, iv i1, iv i2, iv i3, iv i4, iv i5, iv (2 : Int32), iv (2 : Int32), iv (own_cr i0), iv (own_cr i1), iv (own_cr i2), iv (own_cr i3), rv vr_698, rv vr_701, .unset, .unset] [(.double (FP.i2d (i5 &&& (1023 : Int32)))), (.ref vr_701), (.ref vr_698), (.ref b704), (.ref b704)]
        exact k)
      obtain ⟨_, _, ⟨T710, L710, k710, n710⟩, -, X710, ⟨Lc710, hQ710, l710, y710, z710⟩, st710⟩ := X704.specialBack hx (y := (⟨"com/example/forager/forager/Road", "<init>", "(Ljava/lang/String;Ljava/lang/String;D)V"⟩ : MethodName)) rfl hown (mvT hZ (hw _ (List.mem_of_getElem? (i := 29) rfl))) (mvT hZ (hw _ (List.mem_of_getElem? (i := 30) rfl))) (mvT hZ (hw _ (List.mem_of_getElem? (i := 31) rfl))) (by decide) (backOf (W := 1) (rm_ri l Z a0 hw [] b704 vr_698 vr_701 (FP.i2d (i5 &&& (1023 : Int32)))  h704 n0 (Nat.le_trans Z0 (Nat.le_trans (Nat.le_trans (Nat.le_trans (Nat.le_refl _) R698_0.1) R701_0.1) E704.1)) A704 F704_705 F704_706 F704_707 ng704) hZ (hw _ (List.mem_of_getElem? (i := 31) rfl)) (hw _ (List.mem_of_getElem? (i := 28) rfl)) (by decide) (by decide)) (g := (mkF m 87 #[iv i0, iv i1, iv i2, iv i3, iv i4, iv i5, iv (2 : Int32), iv (2 : Int32), iv (own_cr i0), iv (own_cr i1), iv (own_cr i2), iv (own_cr i3), rv vr_698, rv vr_701, .unset, .unset] [(.double (FP.i2d (i5 &&& (1023 : Int32)))), (.ref vr_701), (.ref vr_698), (.ref b704), (.ref b704)])) rfl (by rw [hml]; rfl) (Steps.refl _) (a := b704) (argsL := [(.ref vr_698), (.ref vr_701), (.double (FP.i2d (i5 &&& (1023 : Int32))))]) (rest := [(.ref b704)]) (lenOf pd9 rfl) rfl (by show 2 * 0 + _ ≤ _; exact Nat.le_of_eq rfl) (hb hby at_87) (fun _ _ => ⟨rfl, e704, (by decide : 7 + 0 ≤ _), (by decide : 19 + 0 ≤ _)⟩)
      dsimp only [Pt.U, Pt.locs, Pt.cells, Pt.slots] at X710 l710 y710 z710 st710 hQ710
      subst l710 y710 z710
      obtain ⟨rfl, N710, R710_0, R710_1, R710_2, R710_3⟩ := hQ710
      have M710 := Fr.app M701 N710
      have g711 : Goes p e below S0 (T710.setTop (mkF m 90 #[iv i0, iv i1, iv i2, iv i3, iv i4, iv i5, iv (2 : Int32), iv (2 : Int32), iv (own_cr i0), iv (own_cr i1), iv (own_cr i2), iv (own_cr i3), rv vr_698, rv vr_701, .unset, .unset] [(.ref b704)])) := fun t k => g709 t (st710.trans k)
      have g712 : Goes p e below S0 (T710.setTop (mkF m 94 #[iv i0, iv i1, iv i2, iv i3, iv i4, iv i5, iv (2 : Int32), iv (2 : Int32), iv (own_cr i0), iv (own_cr i1), iv (own_cr i2), iv (own_cr i3), rv vr_698, rv vr_701, rv b704, .unset] [(.ref b704)])) := fun t k => g711 t (by
        refine XS.astore X710.here hx rfl (hb hby at_90) rfl rfl (l' := #[iv i0, iv i1, iv i2, iv i3, iv i4, iv i5, iv (2 : Int32), iv (2 : Int32), iv (own_cr i0), iv (own_cr i1), iv (own_cr i2), iv (own_cr i3), rv vr_698, rv vr_701, rv b704, .unset]) rfl ?_
        show Go p e below t T710 m 92 #[iv i0, iv i1, iv i2, iv i3, iv i4, iv i5, iv (2 : Int32), iv (2 : Int32), iv (own_cr i0), iv (own_cr i1), iv (own_cr i2), iv (own_cr i3), rv vr_698, rv vr_701, rv b704, .unset] []
        refine XS.aload X710.here hx rfl (hb hby at_92) rfl rfl ?_
        show Go p e below t T710 m 94 #[iv i0, iv i1, iv i2, iv i3, iv i4, iv i5, iv (2 : Int32), iv (2 : Int32), iv (own_cr i0), iv (own_cr i1), iv (own_cr i2), iv (own_cr i3), rv vr_698, rv vr_701, rv b704, .unset] [(.ref b704)]
        exact k)
      obtain ⟨cq713, kq713, q713a, q713b, q713c⟩ := isOf hZ rfl R710_1
      have hs714 : ∀ x ∈ ([] : List Addr), Safe Z consts_1 s.vm h0 x := sf0
      have ch714 := ch0.trans (CHr.keep R698_0 hs714 ch0.1)
      have hs715 : ∀ x ∈ ([] : List Addr), Safe Z consts_1 s.vm T698.heap x := sf0
      have ch715 := ch714.trans (CHr.keep R701_0 hs715 ch714.1)
      have ch716 := ch715.trans (CHr.ext E704 ch715.1)
      have hs717 : ∀ x ∈ ([b704] : List Addr), Safe Z consts_1 s.vm h704 x := (sfS (Safe.exa hZ.alike A704 (by decide) (by decide)) sf0)
      have ch717 := ch716.trans (CHr.keep R710_0 hs717 ch716.1)
      obtain ⟨_, _, ⟨T713, L713, k713, n713⟩, -, X713, sn713, gr713, ⟨Lc713, hQ713, l713, y713, z713, cr713⟩, st713⟩ := X710.virtualBackS hx (y := (⟨"com/example/forager/forager/Road", "name", "()Ljava/lang/String;"⟩ : MethodName)) (z := (⟨"com/example/forager/forager/Road", "name", "()Ljava/lang/String;"⟩ : MethodName)) hown (mvT hZ (hw _ (List.mem_of_getElem? (i := 44) rfl))) (mvT hZ (hw _ (List.mem_of_getElem? (i := 45) rfl))) (notFace_of_selects (args := #[]) (mvT hZ (hw _ (List.mem_of_getElem? (i := 47) rfl)))) (mvT hZ (hw _ (List.mem_of_getElem? (i := 47) rfl))) (mvT hZ (hw _ (List.mem_of_getElem? (i := 46) rfl))) (by decide) (own_backH (s := s) (vm0 := s.vm) (W := 0) (rm_nam l Z a0 hw [] b704 vr_698 vr_701 tb_698 tk_698 (2 : Int32) [(.int (((nar .char (own_cr i0)).toInt8.toInt32).toInt8.toInt32)), (.int (((nar .char (own_cr i1)).toInt8.toInt32).toInt8.toInt32))] tb_701 tk_701 (2 : Int32) [(.int (((nar .char (own_cr i2)).toInt8.toInt32).toInt8.toInt32)), (.int (((nar .char (own_cr i3)).toInt8.toInt32).toInt8.toInt32))] cz T710.heap n0 (Nat.le_trans Z0 (Nat.le_trans (Nat.le_trans (Nat.le_trans (Nat.le_trans (Nat.le_refl _) R698_0.1) R701_0.1) E704.1) R710_0.1)) R710_2 R710_3 (((R698_2.keep R701_0).ext E704).keep R710_0) (((R698_3.keep R701_0 nin0).ext E704).keep R710_0 (ninS (Nat.ne_of_lt (Nat.lt_of_lt_of_le (R698_2.keep R701_0).lt (Nat.le_of_eq gb704.symm))) nin0)) (((R698_4.keep R701_0 nin0).ext E704).keep R710_0 (ninS (Nat.ne_of_lt (Nat.lt_of_lt_of_le (R698_2.keep R701_0).lt (Nat.le_of_eq gb704.symm))) nin0)) (((R698_5.keep R701_0 nin0).ext E704).keep R710_0 (ninS (Nat.ne_of_lt (Nat.lt_of_lt_of_le (R698_5.keep R701_0 nin0).lt (Nat.le_of_eq gb704.symm))) nin0)) ((R701_2.ext E704).keep R710_0) ((R701_3.ext E704).keep R710_0 (ninS (Nat.ne_of_lt (Nat.lt_of_lt_of_le R701_2.lt (Nat.le_of_eq gb704.symm))) nin0)) ((R701_4.ext E704).keep R710_0 (ninS (Nat.ne_of_lt (Nat.lt_of_lt_of_le R701_2.lt (Nat.le_of_eq gb704.symm))) nin0)) ((R701_5.ext E704).keep R710_0 (ninS (Nat.ne_of_lt (Nat.lt_of_lt_of_le R701_5.lt (Nat.le_of_eq gb704.symm))) nin0)) (Sta.keepO ((Sta.keepO (Sta.keepO P0 R698_0 ns0) R701_0 ns0).ext E704) R710_0 (nsS (Exa.nostat A704) ns0)) hz ⟨by decide, rfl⟩ ⟨by decide, rfl⟩) hZ (hw _ (List.mem_of_getElem? (i := 48) rfl)) (hw _ (List.mem_of_getElem? (i := 28) rfl)) (by decide) (by decide) hEL ch717.1 all0) q713a q713c (g := (mkF m 94 #[iv i0, iv i1, iv i2, iv i3, iv i4, iv i5, iv (2 : Int32), iv (2 : Int32), iv (own_cr i0), iv (own_cr i1), iv (own_cr i2), iv (own_cr i3), rv vr_698, rv vr_701, rv b704, .unset] [(.ref b704)])) rfl (by rw [hml]; rfl) (Steps.refl _) (argsL := []) (rest := []) (lenOf pd23 rfl) rfl (by show 2 * 0 + _ ≤ _; exact Nat.le_of_eq rfl) (hb hby at_94) (fun _ _ => ⟨rfl, rfl, (by decide : 7 + 6 ≤ _), (by decide : 19 + 40 ≤ _)⟩)
      dsimp only [Pt.U, Pt.locs, Pt.cells, Pt.slots] at X713 sn713 gr713 l713 y713 z713 cr713 st713 hQ713
      subst l713 y713 z713
      obtain ⟨Y713, so713, hZ, hown⟩ := rebS (s := s) (vm0 := s.vm) ((State.WarmedH.refl s).since 0) (Nat.le_trans (Nat.le_trans (Nat.le_trans (Nat.le_trans (Nat.zero_le _) R698_0.1) R701_0.1) E704.1) R710_0.1) X713 sn713 gr713 hZ hown
      obtain ⟨nr_713, tb_713, tk_713, rfl, N713, R713_0, R713_1, R713_2, R713_3, R713_4, R713_5⟩ := hQ713
      have M713 := Fr.app M710 N713
      have sz713_1 : h0.size ≤ nr_713 := Nat.le_trans (Nat.le_trans (Nat.le_trans (Nat.le_trans (Nat.le_trans (Nat.le_refl _) R698_0.1) R701_0.1) E704.1) R710_0.1) R713_1
      have ng713_1 : n0 ≤ nr_713 := Nat.le_trans Z0 sz713_1
      have g718 : Goes p e below S0 (T713.setTop (mkF m 97 #[iv i0, iv i1, iv i2, iv i3, iv i4, iv i5, iv (2 : Int32), iv (2 : Int32), iv (own_cr i0), iv (own_cr i1), iv (own_cr i2), iv (own_cr i3), rv vr_698, rv vr_701, rv b704, .unset] [(.ref nr_713)])) := fun t k => g712 t (st713.trans k)
      have Vn719 : Arv Z T713.heap tb_713 tk_713 .byte (5 : Int32) [(.int (((nar .char (own_cr i0)).toInt8.toInt32).toInt8.toInt32)), (.int (((nar .char (own_cr i1)).toInt8.toInt32).toInt8.toInt32)), (.int (45 : Int32)), (.int (((nar .char (own_cr i2)).toInt8.toInt32).toInt8.toInt32)), (.int (((nar .char (own_cr i3)).toInt8.toInt32).toInt8.toInt32))] (.int (0 : Int32)) := own_nmA22 R713_5
      have g720 : Goes p e below S0 (T713.setTop (mkF m 108 #[iv i0, iv i1, iv i2, iv i3, iv i4, iv i5, iv (2 : Int32), iv (2 : Int32), iv (own_cr i0), iv (own_cr i1), iv (own_cr i2), iv (own_cr i3), rv vr_698, rv vr_701, rv b704, rv nr_713] [(.ref nr_713)])) := fun t k => g718 t (by
        refine XS.astore Y713.here hx rfl (hb hby at_97) rfl rfl (l' := #[iv i0, iv i1, iv i2, iv i3, iv i4, iv i5, iv (2 : Int32), iv (2 : Int32), iv (own_cr i0), iv (own_cr i1), iv (own_cr i2), iv (own_cr i3), rv vr_698, rv vr_701, rv b704, rv nr_713]) rfl ?_
        show Go p e below t T713 m 99 #[iv i0, iv i1, iv i2, iv i3, iv i4, iv i5, iv (2 : Int32), iv (2 : Int32), iv (own_cr i0), iv (own_cr i1), iv (own_cr i2), iv (own_cr i3), rv vr_698, rv vr_701, rv b704, rv nr_713] []
        refine XS.aload Y713.here hx rfl (hb hby at_99) rfl rfl ?_
        show Go p e below t T713 m 101 #[iv i0, iv i1, iv i2, iv i3, iv i4, iv i5, iv (2 : Int32), iv (2 : Int32), iv (own_cr i0), iv (own_cr i1), iv (own_cr i2), iv (own_cr i3), rv vr_698, rv vr_701, rv b704, rv nr_713] [(.ref nr_713)]
        refine XS.ifnonnullYes Y713.here hx rfl (pc0 := 101) (pc' := 106) rfl (hb hby at_101) rfl (by decide) (by decide) ?_
        show Go p e below t T713 m 106 #[iv i0, iv i1, iv i2, iv i3, iv i4, iv i5, iv (2 : Int32), iv (2 : Int32), iv (own_cr i0), iv (own_cr i1), iv (own_cr i2), iv (own_cr i3), rv vr_698, rv vr_701, rv b704, rv nr_713] []
        refine XS.aload Y713.here hx rfl (hb hby at_106) rfl rfl ?_
        show Go p e below t T713 m 108 #[iv i0, iv i1, iv i2, iv i3, iv i4, iv i5, iv (2 : Int32), iv (2 : Int32), iv (own_cr i0), iv (own_cr i1), iv (own_cr i2), iv (own_cr i3), rv vr_698, rv vr_701, rv b704, rv nr_713] [(.ref nr_713)]
        exact k)
      obtain ⟨cq721, kq721, q721a, q721b, q721c⟩ := isOf hZ rfl R713_2
      obtain ⟨_, _, ⟨T721, L721, k721, n721⟩, -, X721, ⟨Lc721, hQ721, l721, y721, z721⟩, st721⟩ := Y713.virtualBack hx (y := (⟨"java/lang/String", "length", "()I"⟩ : MethodName)) (z := (⟨"java/lang/String", "length", "()I"⟩ : MethodName)) hown (mvT hZ (hw _ (List.mem_of_getElem? (i := 161) rfl))) (mvT hZ (hw _ (List.mem_of_getElem? (i := 78) rfl))) (notFace_of_selects (args := #[]) (mvT hZ (hw _ (List.mem_of_getElem? (i := 80) rfl)))) (mvT hZ (hw _ (List.mem_of_getElem? (i := 80) rfl))) (mvT hZ (hw _ (List.mem_of_getElem? (i := 79) rfl))) (by decide) (backOf (W := 0) (rm_len l Z a0 hw [] nr_713 tb_713 tk_713 (5 : Int32) [(.int (((nar .char (own_cr i0)).toInt8.toInt32).toInt8.toInt32)), (.int (((nar .char (own_cr i1)).toInt8.toInt32).toInt8.toInt32)), (.int (45 : Int32)), (.int (((nar .char (own_cr i2)).toInt8.toInt32).toInt8.toInt32)), (.int (((nar .char (own_cr i3)).toInt8.toInt32).toInt8.toInt32))] cz T713.heap n0 (Nat.le_trans Z0 (Nat.le_trans (Nat.le_trans (Nat.le_trans (Nat.le_trans (Nat.le_trans (Nat.le_refl _) R698_0.1) R701_0.1) E704.1) R710_0.1) R713_0.1)) R713_2 R713_3 R713_4 Vn719 (Sta.keepO (Sta.keepO ((Sta.keepO (Sta.keepO P0 R698_0 ns0) R701_0 ns0).ext E704) R710_0 (nsS (Exa.nostat A704) ns0)) R713_0 ns0) hz) hZ (hw _ (List.mem_of_getElem? (i := 81) rfl)) (hw _ (List.mem_of_getElem? (i := 6) rfl)) (by decide) (by decide)) q721a q721c (g := (mkF m 108 #[iv i0, iv i1, iv i2, iv i3, iv i4, iv i5, iv (2 : Int32), iv (2 : Int32), iv (own_cr i0), iv (own_cr i1), iv (own_cr i2), iv (own_cr i3), rv vr_698, rv vr_701, rv b704, rv nr_713] [(.ref nr_713)])) rfl (by rw [hml]; rfl) (Steps.refl _) (argsL := []) (rest := []) (lenOf pd1 rfl) rfl (by show 2 * 0 + _ ≤ _; exact Nat.le_of_eq rfl) (hb hby at_108) (fun _ _ => ⟨rfl, rfl, (by decide : 13 + 0 ≤ _), (by decide : 59 + 0 ≤ _)⟩)
      dsimp only [Pt.U, Pt.locs, Pt.cells, Pt.slots] at X721 l721 y721 z721 st721 hQ721
      subst l721 y721 z721
      obtain ⟨rfl, N721, R721_0⟩ := hQ721
      have M721 := Fr.app M713 N721
      have g722 : Goes p e below S0 (T721.setTop (mkF m 111 #[iv i0, iv i1, iv i2, iv i3, iv i4, iv i5, iv (2 : Int32), iv (2 : Int32), iv (own_cr i0), iv (own_cr i1), iv (own_cr i2), iv (own_cr i3), rv vr_698, rv vr_701, rv b704, rv nr_713] [(.int (5 : Int32))])) := fun t k => g720 t (st721.trans k)
      have g723 : Goes p e below S0 (T721.setTop (mkF m 132 #[iv i0, iv i1, iv i2, iv i3, iv i4, iv i5, iv (2 : Int32), iv (2 : Int32), iv (own_cr i0), iv (own_cr i1), iv (own_cr i2), iv (own_cr i3), rv vr_698, rv vr_701, rv b704, rv nr_713] [(.int (0 : Int32)), (.ref nr_713)])) := fun t k => g722 t (by
        refine XS.iload X721.here hx rfl (hb hby at_111) rfl ?_
        show Go p e below t T721 m 113 #[iv i0, iv i1, iv i2, iv i3, iv i4, iv i5, iv (2 : Int32), iv (2 : Int32), iv (own_cr i0), iv (own_cr i1), iv (own_cr i2), iv (own_cr i3), rv vr_698, rv vr_701, rv b704, rv nr_713] [(.int (2 : Int32)), (.int (5 : Int32))]
        refine XT.iconstV X721.here hx rfl (1 : Int32) (hb hby at_113) (by decide) ?_
        show Go p e below t T721 m 114 #[iv i0, iv i1, iv i2, iv i3, iv i4, iv i5, iv (2 : Int32), iv (2 : Int32), iv (own_cr i0), iv (own_cr i1), iv (own_cr i2), iv (own_cr i3), rv vr_698, rv vr_701, rv b704, rv nr_713] [(.int (1 : Int32)), (.int (2 : Int32)), (.int (5 : Int32))]
        refine XS.iadd X721.here hx rfl (hb hby at_114) rfl ?_
        rw [show ((2 : Int32) + (1 : Int32)) = (3 : Int32) by decide]
        show Go p e below t T721 m 115 #[iv i0, iv i1, iv i2, iv i3, iv i4, iv i5, iv (2 : Int32), iv (2 : Int32), iv (own_cr i0), iv (own_cr i1), iv (own_cr i2), iv (own_cr i3), rv vr_698, rv vr_701, rv b704, rv nr_713] [(.int (3 : Int32)), (.int (5 : Int32))]
        refine XS.iload X721.here hx rfl (hb hby at_115) rfl ?_
        show Go p e below t T721 m 117 #[iv i0, iv i1, iv i2, iv i3, iv i4, iv i5, iv (2 : Int32), iv (2 : Int32), iv (own_cr i0), iv (own_cr i1), iv (own_cr i2), iv (own_cr i3), rv vr_698, rv vr_701, rv b704, rv nr_713] [(.int (2 : Int32)), (.int (3 : Int32)), (.int (5 : Int32))]
        refine XS.iadd X721.here hx rfl (hb hby at_117) rfl ?_
        rw [show ((3 : Int32) + (2 : Int32)) = (5 : Int32) by decide]
        show Go p e below t T721 m 118 #[iv i0, iv i1, iv i2, iv i3, iv i4, iv i5, iv (2 : Int32), iv (2 : Int32), iv (own_cr i0), iv (own_cr i1), iv (own_cr i2), iv (own_cr i3), rv vr_698, rv vr_701, rv b704, rv nr_713] [(.int (5 : Int32)), (.int (5 : Int32))]
        refine XS.icmpYes X721.here hx rfl (pc0 := 118) (pc' := 123) rfl (hb hby at_118) rfl (XT.ii_eq_t (by decide)) (by decide) (by decide) ?_
        show Go p e below t T721 m 123 #[iv i0, iv i1, iv i2, iv i3, iv i4, iv i5, iv (2 : Int32), iv (2 : Int32), iv (own_cr i0), iv (own_cr i1), iv (own_cr i2), iv (own_cr i3), rv vr_698, rv vr_701, rv b704, rv nr_713] []
        refine XS.iload X721.here hx rfl (hb hby at_123) rfl ?_
        show Go p e below t T721 m 125 #[iv i0, iv i1, iv i2, iv i3, iv i4, iv i5, iv (2 : Int32), iv (2 : Int32), iv (own_cr i0), iv (own_cr i1), iv (own_cr i2), iv (own_cr i3), rv vr_698, rv vr_701, rv b704, rv nr_713] [(.int (2 : Int32))]
        refine XT.iconstV X721.here hx rfl (1 : Int32) (hb hby at_125) (by decide) ?_
        show Go p e below t T721 m 126 #[iv i0, iv i1, iv i2, iv i3, iv i4, iv i5, iv (2 : Int32), iv (2 : Int32), iv (own_cr i0), iv (own_cr i1), iv (own_cr i2), iv (own_cr i3), rv vr_698, rv vr_701, rv b704, rv nr_713] [(.int (1 : Int32)), (.int (2 : Int32))]
        refine XS.icmpNo X721.here hx rfl (hb hby at_126) rfl (XT.ii_lt_f (by decide)) ?_
        show Go p e below t T721 m 129 #[iv i0, iv i1, iv i2, iv i3, iv i4, iv i5, iv (2 : Int32), iv (2 : Int32), iv (own_cr i0), iv (own_cr i1), iv (own_cr i2), iv (own_cr i3), rv vr_698, rv vr_701, rv b704, rv nr_713] []
        refine XS.aload X721.here hx rfl (hb hby at_129) rfl rfl ?_
        show Go p e below t T721 m 131 #[iv i0, iv i1, iv i2, iv i3, iv i4, iv i5, iv (2 : Int32), iv (2 : Int32), iv (own_cr i0), iv (own_cr i1), iv (own_cr i2), iv (own_cr i3), rv vr_698, rv vr_701, rv b704, rv nr_713] [(.ref nr_713)]
        refine XT.iconstV X721.here hx rfl (0 : Int32) (hb hby at_131) (by decide) ?_
        show Go p e below t T721 m 132 #[iv i0, iv i1, iv i2, iv i3, iv i4, iv i5, iv (2 : Int32), iv (2 : Int32), iv (own_cr i0), iv (own_cr i1), iv (own_cr i2), iv (own_cr i3), rv vr_698, rv vr_701, rv b704, rv nr_713] [(.int (0 : Int32)), (.ref nr_713)]
        exact k)
      obtain ⟨cq724, kq724, q724a, q724b, q724c⟩ := isOf hZ R721_0 R713_2
      obtain ⟨_, _, ⟨T724, L724, k724, n724⟩, -, X724, ⟨Lc724, hQ724, l724, y724, z724⟩, st724⟩ := X721.virtualBack hx (y := (⟨"java/lang/String", "charAt", "(I)C"⟩ : MethodName)) (z := (⟨"java/lang/String", "charAt", "(I)C"⟩ : MethodName)) hown (mvT hZ (hw _ (List.mem_of_getElem? (i := 162) rfl))) (mvT hZ (hw _ (List.mem_of_getElem? (i := 163) rfl))) (notFace_of_selects (args := #[]) (mvT hZ (hw _ (List.mem_of_getElem? (i := 165) rfl)))) (mvT hZ (hw _ (List.mem_of_getElem? (i := 165) rfl))) (mvT hZ (hw _ (List.mem_of_getElem? (i := 164) rfl))) (by decide) (backOf (W := 0) (rm_cha l Z a0 hw [] nr_713 (0 : Int32) tb_713 tk_713 (5 : Int32) [(.int (((nar .char (own_cr i0)).toInt8.toInt32).toInt8.toInt32)), (.int (((nar .char (own_cr i1)).toInt8.toInt32).toInt8.toInt32)), (.int (45 : Int32)), (.int (((nar .char (own_cr i2)).toInt8.toInt32).toInt8.toInt32)), (.int (((nar .char (own_cr i3)).toInt8.toInt32).toInt8.toInt32))] (((nar .char (own_cr i0)).toInt8.toInt32).toInt8.toInt32) fx cz T713.heap n0 (Nat.le_trans Z0 (Nat.le_trans (Nat.le_trans (Nat.le_trans (Nat.le_trans (Nat.le_trans (Nat.le_refl _) R698_0.1) R701_0.1) E704.1) R710_0.1) R713_0.1)) R713_2 R713_3 R713_4 Vn719 (Sta.keepO (Sta.keepO ((Sta.keepO (Sta.keepO P0 R698_0 ns0) R701_0 ns0).ext E704) R710_0 (nsS (Exa.nostat A704) ns0)) R713_0 ns0) hz (Sta.keepO (Sta.keepO ((Sta.keepO (Sta.keepO P2 R698_0 ns0) R701_0 ns0).ext E704) R710_0 (nsS (Exa.nostat A704) ns0)) R713_0 ns0) hfx (by decide) (by decide) rfl) hZ (hw _ (List.mem_of_getElem? (i := 166) rfl)) (hw _ (List.mem_of_getElem? (i := 6) rfl)) (by decide) (by decide)) q724a q724c (g := (mkF m 132 #[iv i0, iv i1, iv i2, iv i3, iv i4, iv i5, iv (2 : Int32), iv (2 : Int32), iv (own_cr i0), iv (own_cr i1), iv (own_cr i2), iv (own_cr i3), rv vr_698, rv vr_701, rv b704, rv nr_713] [(.int (0 : Int32)), (.ref nr_713)])) rfl (by rw [hml]; rfl) (Steps.refl _) (argsL := [(.int (0 : Int32))]) (rest := []) (lenOf pd26 rfl) rfl (by show 2 * 0 + _ ≤ _; exact Nat.le_of_eq rfl) (hb hby at_132) (fun _ _ => ⟨rfl, R721_0, (by decide : 13 + 0 ≤ _), (by decide : 59 + 0 ≤ _)⟩)
      dsimp only [Pt.U, Pt.locs, Pt.cells, Pt.slots] at X724 l724 y724 z724 st724 hQ724
      subst l724 y724 z724
      obtain ⟨rfl, N724, R724_0⟩ := hQ724
      have M724 := Fr.app M721 N724
      have g725 : Goes p e below S0 (T724.setTop (mkF m 135 #[iv i0, iv i1, iv i2, iv i3, iv i4, iv i5, iv (2 : Int32), iv (2 : Int32), iv (own_cr i0), iv (own_cr i1), iv (own_cr i2), iv (own_cr i3), rv vr_698, rv vr_701, rv b704, rv nr_713] [(.int (own_chr (((nar .char (own_cr i0)).toInt8.toInt32).toInt8.toInt32)))])) := fun t k => g723 t (st724.trans k)
      have g726 : Goes p e below S0 (T724.setTop (mkF m 151 #[iv i0, iv i1, iv i2, iv i3, iv i4, iv i5, iv (2 : Int32), iv (2 : Int32), iv (own_cr i0), iv (own_cr i1), iv (own_cr i2), iv (own_cr i3), rv vr_698, rv vr_701, rv b704, rv nr_713] [(.int (1 : Int32)), (.ref nr_713)])) := fun t k => g725 t (by
        refine XS.iload X724.here hx rfl (hb hby at_135) rfl ?_
        show Go p e below t T724 m 137 #[iv i0, iv i1, iv i2, iv i3, iv i4, iv i5, iv (2 : Int32), iv (2 : Int32), iv (own_cr i0), iv (own_cr i1), iv (own_cr i2), iv (own_cr i3), rv vr_698, rv vr_701, rv b704, rv nr_713] [(.int (own_cr i0)), (.int (own_chr (((nar .char (own_cr i0)).toInt8.toInt32).toInt8.toInt32)))]
        refine XS.icmpYes X724.here hx rfl (pc0 := 137) (pc' := 142) rfl (hb hby at_137) rfl (XT.ii_eq_t (own_rt _)) (by decide) (by decide) ?_
        show Go p e below t T724 m 142 #[iv i0, iv i1, iv i2, iv i3, iv i4, iv i5, iv (2 : Int32), iv (2 : Int32), iv (own_cr i0), iv (own_cr i1), iv (own_cr i2), iv (own_cr i3), rv vr_698, rv vr_701, rv b704, rv nr_713] []
        refine XS.iload X724.here hx rfl (hb hby at_142) rfl ?_
        show Go p e below t T724 m 144 #[iv i0, iv i1, iv i2, iv i3, iv i4, iv i5, iv (2 : Int32), iv (2 : Int32), iv (own_cr i0), iv (own_cr i1), iv (own_cr i2), iv (own_cr i3), rv vr_698, rv vr_701, rv b704, rv nr_713] [(.int (2 : Int32))]
        refine XT.iconstV X724.here hx rfl (2 : Int32) (hb hby at_144) (by decide) ?_
        show Go p e below t T724 m 145 #[iv i0, iv i1, iv i2, iv i3, iv i4, iv i5, iv (2 : Int32), iv (2 : Int32), iv (own_cr i0), iv (own_cr i1), iv (own_cr i2), iv (own_cr i3), rv vr_698, rv vr_701, rv b704, rv nr_713] [(.int (2 : Int32)), (.int (2 : Int32))]
        refine XS.icmpNo X724.here hx rfl (hb hby at_145) rfl (XT.ii_lt_f (by decide)) ?_
        show Go p e below t T724 m 148 #[iv i0, iv i1, iv i2, iv i3, iv i4, iv i5, iv (2 : Int32), iv (2 : Int32), iv (own_cr i0), iv (own_cr i1), iv (own_cr i2), iv (own_cr i3), rv vr_698, rv vr_701, rv b704, rv nr_713] []
        refine XS.aload X724.here hx rfl (hb hby at_148) rfl rfl ?_
        show Go p e below t T724 m 150 #[iv i0, iv i1, iv i2, iv i3, iv i4, iv i5, iv (2 : Int32), iv (2 : Int32), iv (own_cr i0), iv (own_cr i1), iv (own_cr i2), iv (own_cr i3), rv vr_698, rv vr_701, rv b704, rv nr_713] [(.ref nr_713)]
        refine XT.iconstV X724.here hx rfl (1 : Int32) (hb hby at_150) (by decide) ?_
        show Go p e below t T724 m 151 #[iv i0, iv i1, iv i2, iv i3, iv i4, iv i5, iv (2 : Int32), iv (2 : Int32), iv (own_cr i0), iv (own_cr i1), iv (own_cr i2), iv (own_cr i3), rv vr_698, rv vr_701, rv b704, rv nr_713] [(.int (1 : Int32)), (.ref nr_713)]
        exact k)
      obtain ⟨cq727, kq727, q727a, q727b, q727c⟩ := isOf hZ R724_0 R713_2
      obtain ⟨_, _, ⟨T727, L727, k727, n727⟩, -, X727, ⟨Lc727, hQ727, l727, y727, z727⟩, st727⟩ := X724.virtualBack hx (y := (⟨"java/lang/String", "charAt", "(I)C"⟩ : MethodName)) (z := (⟨"java/lang/String", "charAt", "(I)C"⟩ : MethodName)) hown (mvT hZ (hw _ (List.mem_of_getElem? (i := 162) rfl))) (mvT hZ (hw _ (List.mem_of_getElem? (i := 163) rfl))) (notFace_of_selects (args := #[]) (mvT hZ (hw _ (List.mem_of_getElem? (i := 165) rfl)))) (mvT hZ (hw _ (List.mem_of_getElem? (i := 165) rfl))) (mvT hZ (hw _ (List.mem_of_getElem? (i := 164) rfl))) (by decide) (backOf (W := 0) (rm_cha l Z a0 hw [] nr_713 (1 : Int32) tb_713 tk_713 (5 : Int32) [(.int (((nar .char (own_cr i0)).toInt8.toInt32).toInt8.toInt32)), (.int (((nar .char (own_cr i1)).toInt8.toInt32).toInt8.toInt32)), (.int (45 : Int32)), (.int (((nar .char (own_cr i2)).toInt8.toInt32).toInt8.toInt32)), (.int (((nar .char (own_cr i3)).toInt8.toInt32).toInt8.toInt32))] (((nar .char (own_cr i1)).toInt8.toInt32).toInt8.toInt32) fx cz T713.heap n0 (Nat.le_trans Z0 (Nat.le_trans (Nat.le_trans (Nat.le_trans (Nat.le_trans (Nat.le_trans (Nat.le_refl _) R698_0.1) R701_0.1) E704.1) R710_0.1) R713_0.1)) R713_2 R713_3 R713_4 Vn719 (Sta.keepO (Sta.keepO ((Sta.keepO (Sta.keepO P0 R698_0 ns0) R701_0 ns0).ext E704) R710_0 (nsS (Exa.nostat A704) ns0)) R713_0 ns0) hz (Sta.keepO (Sta.keepO ((Sta.keepO (Sta.keepO P2 R698_0 ns0) R701_0 ns0).ext E704) R710_0 (nsS (Exa.nostat A704) ns0)) R713_0 ns0) hfx (by decide) (by decide) rfl) hZ (hw _ (List.mem_of_getElem? (i := 166) rfl)) (hw _ (List.mem_of_getElem? (i := 6) rfl)) (by decide) (by decide)) q727a q727c (g := (mkF m 151 #[iv i0, iv i1, iv i2, iv i3, iv i4, iv i5, iv (2 : Int32), iv (2 : Int32), iv (own_cr i0), iv (own_cr i1), iv (own_cr i2), iv (own_cr i3), rv vr_698, rv vr_701, rv b704, rv nr_713] [(.int (1 : Int32)), (.ref nr_713)])) rfl (by rw [hml]; rfl) (Steps.refl _) (argsL := [(.int (1 : Int32))]) (rest := []) (lenOf pd26 rfl) rfl (by show 2 * 0 + _ ≤ _; exact Nat.le_of_eq rfl) (hb hby at_151) (fun _ _ => ⟨rfl, R724_0, (by decide : 13 + 0 ≤ _), (by decide : 59 + 0 ≤ _)⟩)
      dsimp only [Pt.U, Pt.locs, Pt.cells, Pt.slots] at X727 l727 y727 z727 st727 hQ727
      subst l727 y727 z727
      obtain ⟨rfl, N727, R727_0⟩ := hQ727
      have M727 := Fr.app M724 N727
      have g728 : Goes p e below S0 (T727.setTop (mkF m 154 #[iv i0, iv i1, iv i2, iv i3, iv i4, iv i5, iv (2 : Int32), iv (2 : Int32), iv (own_cr i0), iv (own_cr i1), iv (own_cr i2), iv (own_cr i3), rv vr_698, rv vr_701, rv b704, rv nr_713] [(.int (own_chr (((nar .char (own_cr i1)).toInt8.toInt32).toInt8.toInt32)))])) := fun t k => g726 t (st727.trans k)
      have g729 : Goes p e below S0 (T727.setTop (mkF m 165 #[iv i0, iv i1, iv i2, iv i3, iv i4, iv i5, iv (2 : Int32), iv (2 : Int32), iv (own_cr i0), iv (own_cr i1), iv (own_cr i2), iv (own_cr i3), rv vr_698, rv vr_701, rv b704, rv nr_713] [(.int (2 : Int32)), (.ref nr_713)])) := fun t k => g728 t (by
        refine XS.iload X727.here hx rfl (hb hby at_154) rfl ?_
        show Go p e below t T727 m 156 #[iv i0, iv i1, iv i2, iv i3, iv i4, iv i5, iv (2 : Int32), iv (2 : Int32), iv (own_cr i0), iv (own_cr i1), iv (own_cr i2), iv (own_cr i3), rv vr_698, rv vr_701, rv b704, rv nr_713] [(.int (own_cr i1)), (.int (own_chr (((nar .char (own_cr i1)).toInt8.toInt32).toInt8.toInt32)))]
        refine XS.icmpYes X727.here hx rfl (pc0 := 156) (pc' := 161) rfl (hb hby at_156) rfl (XT.ii_eq_t (own_rt _)) (by decide) (by decide) ?_
        show Go p e below t T727 m 161 #[iv i0, iv i1, iv i2, iv i3, iv i4, iv i5, iv (2 : Int32), iv (2 : Int32), iv (own_cr i0), iv (own_cr i1), iv (own_cr i2), iv (own_cr i3), rv vr_698, rv vr_701, rv b704, rv nr_713] []
        refine XS.aload X727.here hx rfl (hb hby at_161) rfl rfl ?_
        show Go p e below t T727 m 163 #[iv i0, iv i1, iv i2, iv i3, iv i4, iv i5, iv (2 : Int32), iv (2 : Int32), iv (own_cr i0), iv (own_cr i1), iv (own_cr i2), iv (own_cr i3), rv vr_698, rv vr_701, rv b704, rv nr_713] [(.ref nr_713)]
        refine XS.iload X727.here hx rfl (hb hby at_163) rfl ?_
        show Go p e below t T727 m 165 #[iv i0, iv i1, iv i2, iv i3, iv i4, iv i5, iv (2 : Int32), iv (2 : Int32), iv (own_cr i0), iv (own_cr i1), iv (own_cr i2), iv (own_cr i3), rv vr_698, rv vr_701, rv b704, rv nr_713] [(.int (2 : Int32)), (.ref nr_713)]
        exact k)
      obtain ⟨cq730, kq730, q730a, q730b, q730c⟩ := isOf hZ R727_0 R713_2
      obtain ⟨_, _, ⟨T730, L730, k730, n730⟩, -, X730, ⟨Lc730, hQ730, l730, y730, z730⟩, st730⟩ := X727.virtualBack hx (y := (⟨"java/lang/String", "charAt", "(I)C"⟩ : MethodName)) (z := (⟨"java/lang/String", "charAt", "(I)C"⟩ : MethodName)) hown (mvT hZ (hw _ (List.mem_of_getElem? (i := 162) rfl))) (mvT hZ (hw _ (List.mem_of_getElem? (i := 163) rfl))) (notFace_of_selects (args := #[]) (mvT hZ (hw _ (List.mem_of_getElem? (i := 165) rfl)))) (mvT hZ (hw _ (List.mem_of_getElem? (i := 165) rfl))) (mvT hZ (hw _ (List.mem_of_getElem? (i := 164) rfl))) (by decide) (backOf (W := 0) (rm_cha l Z a0 hw [] nr_713 (2 : Int32) tb_713 tk_713 (5 : Int32) [(.int (((nar .char (own_cr i0)).toInt8.toInt32).toInt8.toInt32)), (.int (((nar .char (own_cr i1)).toInt8.toInt32).toInt8.toInt32)), (.int (45 : Int32)), (.int (((nar .char (own_cr i2)).toInt8.toInt32).toInt8.toInt32)), (.int (((nar .char (own_cr i3)).toInt8.toInt32).toInt8.toInt32))] (45 : Int32) fx cz T713.heap n0 (Nat.le_trans Z0 (Nat.le_trans (Nat.le_trans (Nat.le_trans (Nat.le_trans (Nat.le_trans (Nat.le_refl _) R698_0.1) R701_0.1) E704.1) R710_0.1) R713_0.1)) R713_2 R713_3 R713_4 Vn719 (Sta.keepO (Sta.keepO ((Sta.keepO (Sta.keepO P0 R698_0 ns0) R701_0 ns0).ext E704) R710_0 (nsS (Exa.nostat A704) ns0)) R713_0 ns0) hz (Sta.keepO (Sta.keepO ((Sta.keepO (Sta.keepO P2 R698_0 ns0) R701_0 ns0).ext E704) R710_0 (nsS (Exa.nostat A704) ns0)) R713_0 ns0) hfx (by decide) (by decide) rfl) hZ (hw _ (List.mem_of_getElem? (i := 166) rfl)) (hw _ (List.mem_of_getElem? (i := 6) rfl)) (by decide) (by decide)) q730a q730c (g := (mkF m 165 #[iv i0, iv i1, iv i2, iv i3, iv i4, iv i5, iv (2 : Int32), iv (2 : Int32), iv (own_cr i0), iv (own_cr i1), iv (own_cr i2), iv (own_cr i3), rv vr_698, rv vr_701, rv b704, rv nr_713] [(.int (2 : Int32)), (.ref nr_713)])) rfl (by rw [hml]; rfl) (Steps.refl _) (argsL := [(.int (2 : Int32))]) (rest := []) (lenOf pd26 rfl) rfl (by show 2 * 0 + _ ≤ _; exact Nat.le_of_eq rfl) (hb hby at_165) (fun _ _ => ⟨rfl, R727_0, (by decide : 13 + 0 ≤ _), (by decide : 59 + 0 ≤ _)⟩)
      dsimp only [Pt.U, Pt.locs, Pt.cells, Pt.slots] at X730 l730 y730 z730 st730 hQ730
      subst l730 y730 z730
      obtain ⟨rfl, N730, R730_0⟩ := hQ730
      have M730 := Fr.app M727 N730
      have g731 : Goes p e below S0 (T730.setTop (mkF m 168 #[iv i0, iv i1, iv i2, iv i3, iv i4, iv i5, iv (2 : Int32), iv (2 : Int32), iv (own_cr i0), iv (own_cr i1), iv (own_cr i2), iv (own_cr i3), rv vr_698, rv vr_701, rv b704, rv nr_713] [(.int (own_chr (45 : Int32)))])) := fun t k => g729 t (st730.trans k)
      have g732 : Goes p e below S0 (T730.setTop (mkF m 187 #[iv i0, iv i1, iv i2, iv i3, iv i4, iv i5, iv (2 : Int32), iv (2 : Int32), iv (own_cr i0), iv (own_cr i1), iv (own_cr i2), iv (own_cr i3), rv vr_698, rv vr_701, rv b704, rv nr_713] [(.int (3 : Int32)), (.ref nr_713)])) := fun t k => g731 t (by
        refine XT.bipushV X730.here hx rfl (45 : Int32) (hb hby at_168) (by decide) ?_
        show Go p e below t T730 m 170 #[iv i0, iv i1, iv i2, iv i3, iv i4, iv i5, iv (2 : Int32), iv (2 : Int32), iv (own_cr i0), iv (own_cr i1), iv (own_cr i2), iv (own_cr i3), rv vr_698, rv vr_701, rv b704, rv nr_713] [(.int (45 : Int32)), (.int (own_chr (45 : Int32)))]
        refine XS.icmpYes X730.here hx rfl (pc0 := 170) (pc' := 175) rfl (hb hby at_170) rfl (XT.ii_eq_t (by decide)) (by decide) (by decide) ?_
        show Go p e below t T730 m 175 #[iv i0, iv i1, iv i2, iv i3, iv i4, iv i5, iv (2 : Int32), iv (2 : Int32), iv (own_cr i0), iv (own_cr i1), iv (own_cr i2), iv (own_cr i3), rv vr_698, rv vr_701, rv b704, rv nr_713] []
        refine XS.iload X730.here hx rfl (hb hby at_175) rfl ?_
        show Go p e below t T730 m 177 #[iv i0, iv i1, iv i2, iv i3, iv i4, iv i5, iv (2 : Int32), iv (2 : Int32), iv (own_cr i0), iv (own_cr i1), iv (own_cr i2), iv (own_cr i3), rv vr_698, rv vr_701, rv b704, rv nr_713] [(.int (2 : Int32))]
        refine XT.iconstV X730.here hx rfl (1 : Int32) (hb hby at_177) (by decide) ?_
        show Go p e below t T730 m 178 #[iv i0, iv i1, iv i2, iv i3, iv i4, iv i5, iv (2 : Int32), iv (2 : Int32), iv (own_cr i0), iv (own_cr i1), iv (own_cr i2), iv (own_cr i3), rv vr_698, rv vr_701, rv b704, rv nr_713] [(.int (1 : Int32)), (.int (2 : Int32))]
        refine XS.icmpNo X730.here hx rfl (hb hby at_178) rfl (XT.ii_lt_f (by decide)) ?_
        show Go p e below t T730 m 181 #[iv i0, iv i1, iv i2, iv i3, iv i4, iv i5, iv (2 : Int32), iv (2 : Int32), iv (own_cr i0), iv (own_cr i1), iv (own_cr i2), iv (own_cr i3), rv vr_698, rv vr_701, rv b704, rv nr_713] []
        refine XS.aload X730.here hx rfl (hb hby at_181) rfl rfl ?_
        show Go p e below t T730 m 183 #[iv i0, iv i1, iv i2, iv i3, iv i4, iv i5, iv (2 : Int32), iv (2 : Int32), iv (own_cr i0), iv (own_cr i1), iv (own_cr i2), iv (own_cr i3), rv vr_698, rv vr_701, rv b704, rv nr_713] [(.ref nr_713)]
        refine XS.iload X730.here hx rfl (hb hby at_183) rfl ?_
        show Go p e below t T730 m 185 #[iv i0, iv i1, iv i2, iv i3, iv i4, iv i5, iv (2 : Int32), iv (2 : Int32), iv (own_cr i0), iv (own_cr i1), iv (own_cr i2), iv (own_cr i3), rv vr_698, rv vr_701, rv b704, rv nr_713] [(.int (2 : Int32)), (.ref nr_713)]
        refine XT.iconstV X730.here hx rfl (1 : Int32) (hb hby at_185) (by decide) ?_
        show Go p e below t T730 m 186 #[iv i0, iv i1, iv i2, iv i3, iv i4, iv i5, iv (2 : Int32), iv (2 : Int32), iv (own_cr i0), iv (own_cr i1), iv (own_cr i2), iv (own_cr i3), rv vr_698, rv vr_701, rv b704, rv nr_713] [(.int (1 : Int32)), (.int (2 : Int32)), (.ref nr_713)]
        refine XS.iadd X730.here hx rfl (hb hby at_186) rfl ?_
        rw [show ((2 : Int32) + (1 : Int32)) = (3 : Int32) by decide]
        show Go p e below t T730 m 187 #[iv i0, iv i1, iv i2, iv i3, iv i4, iv i5, iv (2 : Int32), iv (2 : Int32), iv (own_cr i0), iv (own_cr i1), iv (own_cr i2), iv (own_cr i3), rv vr_698, rv vr_701, rv b704, rv nr_713] [(.int (3 : Int32)), (.ref nr_713)]
        exact k)
      obtain ⟨cq733, kq733, q733a, q733b, q733c⟩ := isOf hZ R730_0 R713_2
      obtain ⟨_, _, ⟨T733, L733, k733, n733⟩, -, X733, ⟨Lc733, hQ733, l733, y733, z733⟩, st733⟩ := X730.virtualBack hx (y := (⟨"java/lang/String", "charAt", "(I)C"⟩ : MethodName)) (z := (⟨"java/lang/String", "charAt", "(I)C"⟩ : MethodName)) hown (mvT hZ (hw _ (List.mem_of_getElem? (i := 162) rfl))) (mvT hZ (hw _ (List.mem_of_getElem? (i := 163) rfl))) (notFace_of_selects (args := #[]) (mvT hZ (hw _ (List.mem_of_getElem? (i := 165) rfl)))) (mvT hZ (hw _ (List.mem_of_getElem? (i := 165) rfl))) (mvT hZ (hw _ (List.mem_of_getElem? (i := 164) rfl))) (by decide) (backOf (W := 0) (rm_cha l Z a0 hw [] nr_713 (3 : Int32) tb_713 tk_713 (5 : Int32) [(.int (((nar .char (own_cr i0)).toInt8.toInt32).toInt8.toInt32)), (.int (((nar .char (own_cr i1)).toInt8.toInt32).toInt8.toInt32)), (.int (45 : Int32)), (.int (((nar .char (own_cr i2)).toInt8.toInt32).toInt8.toInt32)), (.int (((nar .char (own_cr i3)).toInt8.toInt32).toInt8.toInt32))] (((nar .char (own_cr i2)).toInt8.toInt32).toInt8.toInt32) fx cz T713.heap n0 (Nat.le_trans Z0 (Nat.le_trans (Nat.le_trans (Nat.le_trans (Nat.le_trans (Nat.le_trans (Nat.le_refl _) R698_0.1) R701_0.1) E704.1) R710_0.1) R713_0.1)) R713_2 R713_3 R713_4 Vn719 (Sta.keepO (Sta.keepO ((Sta.keepO (Sta.keepO P0 R698_0 ns0) R701_0 ns0).ext E704) R710_0 (nsS (Exa.nostat A704) ns0)) R713_0 ns0) hz (Sta.keepO (Sta.keepO ((Sta.keepO (Sta.keepO P2 R698_0 ns0) R701_0 ns0).ext E704) R710_0 (nsS (Exa.nostat A704) ns0)) R713_0 ns0) hfx (by decide) (by decide) rfl) hZ (hw _ (List.mem_of_getElem? (i := 166) rfl)) (hw _ (List.mem_of_getElem? (i := 6) rfl)) (by decide) (by decide)) q733a q733c (g := (mkF m 187 #[iv i0, iv i1, iv i2, iv i3, iv i4, iv i5, iv (2 : Int32), iv (2 : Int32), iv (own_cr i0), iv (own_cr i1), iv (own_cr i2), iv (own_cr i3), rv vr_698, rv vr_701, rv b704, rv nr_713] [(.int (3 : Int32)), (.ref nr_713)])) rfl (by rw [hml]; rfl) (Steps.refl _) (argsL := [(.int (3 : Int32))]) (rest := []) (lenOf pd26 rfl) rfl (by show 2 * 0 + _ ≤ _; exact Nat.le_of_eq rfl) (hb hby at_187) (fun _ _ => ⟨rfl, R730_0, (by decide : 13 + 0 ≤ _), (by decide : 59 + 0 ≤ _)⟩)
      dsimp only [Pt.U, Pt.locs, Pt.cells, Pt.slots] at X733 l733 y733 z733 st733 hQ733
      subst l733 y733 z733
      obtain ⟨rfl, N733, R733_0⟩ := hQ733
      have M733 := Fr.app M730 N733
      have g734 : Goes p e below S0 (T733.setTop (mkF m 190 #[iv i0, iv i1, iv i2, iv i3, iv i4, iv i5, iv (2 : Int32), iv (2 : Int32), iv (own_cr i0), iv (own_cr i1), iv (own_cr i2), iv (own_cr i3), rv vr_698, rv vr_701, rv b704, rv nr_713] [(.int (own_chr (((nar .char (own_cr i2)).toInt8.toInt32).toInt8.toInt32)))])) := fun t k => g732 t (st733.trans k)
      have g735 : Goes p e below S0 (T733.setTop (mkF m 209 #[iv i0, iv i1, iv i2, iv i3, iv i4, iv i5, iv (2 : Int32), iv (2 : Int32), iv (own_cr i0), iv (own_cr i1), iv (own_cr i2), iv (own_cr i3), rv vr_698, rv vr_701, rv b704, rv nr_713] [(.int (4 : Int32)), (.ref nr_713)])) := fun t k => g734 t (by
        refine XS.iload X733.here hx rfl (hb hby at_190) rfl ?_
        show Go p e below t T733 m 192 #[iv i0, iv i1, iv i2, iv i3, iv i4, iv i5, iv (2 : Int32), iv (2 : Int32), iv (own_cr i0), iv (own_cr i1), iv (own_cr i2), iv (own_cr i3), rv vr_698, rv vr_701, rv b704, rv nr_713] [(.int (own_cr i2)), (.int (own_chr (((nar .char (own_cr i2)).toInt8.toInt32).toInt8.toInt32)))]
        refine XS.icmpYes X733.here hx rfl (pc0 := 192) (pc' := 197) rfl (hb hby at_192) rfl (XT.ii_eq_t (own_rt _)) (by decide) (by decide) ?_
        show Go p e below t T733 m 197 #[iv i0, iv i1, iv i2, iv i3, iv i4, iv i5, iv (2 : Int32), iv (2 : Int32), iv (own_cr i0), iv (own_cr i1), iv (own_cr i2), iv (own_cr i3), rv vr_698, rv vr_701, rv b704, rv nr_713] []
        refine XS.iload X733.here hx rfl (hb hby at_197) rfl ?_
        show Go p e below t T733 m 199 #[iv i0, iv i1, iv i2, iv i3, iv i4, iv i5, iv (2 : Int32), iv (2 : Int32), iv (own_cr i0), iv (own_cr i1), iv (own_cr i2), iv (own_cr i3), rv vr_698, rv vr_701, rv b704, rv nr_713] [(.int (2 : Int32))]
        refine XT.iconstV X733.here hx rfl (2 : Int32) (hb hby at_199) (by decide) ?_
        show Go p e below t T733 m 200 #[iv i0, iv i1, iv i2, iv i3, iv i4, iv i5, iv (2 : Int32), iv (2 : Int32), iv (own_cr i0), iv (own_cr i1), iv (own_cr i2), iv (own_cr i3), rv vr_698, rv vr_701, rv b704, rv nr_713] [(.int (2 : Int32)), (.int (2 : Int32))]
        refine XS.icmpNo X733.here hx rfl (hb hby at_200) rfl (XT.ii_lt_f (by decide)) ?_
        show Go p e below t T733 m 203 #[iv i0, iv i1, iv i2, iv i3, iv i4, iv i5, iv (2 : Int32), iv (2 : Int32), iv (own_cr i0), iv (own_cr i1), iv (own_cr i2), iv (own_cr i3), rv vr_698, rv vr_701, rv b704, rv nr_713] []
        refine XS.aload X733.here hx rfl (hb hby at_203) rfl rfl ?_
        show Go p e below t T733 m 205 #[iv i0, iv i1, iv i2, iv i3, iv i4, iv i5, iv (2 : Int32), iv (2 : Int32), iv (own_cr i0), iv (own_cr i1), iv (own_cr i2), iv (own_cr i3), rv vr_698, rv vr_701, rv b704, rv nr_713] [(.ref nr_713)]
        refine XS.iload X733.here hx rfl (hb hby at_205) rfl ?_
        show Go p e below t T733 m 207 #[iv i0, iv i1, iv i2, iv i3, iv i4, iv i5, iv (2 : Int32), iv (2 : Int32), iv (own_cr i0), iv (own_cr i1), iv (own_cr i2), iv (own_cr i3), rv vr_698, rv vr_701, rv b704, rv nr_713] [(.int (2 : Int32)), (.ref nr_713)]
        refine XT.iconstV X733.here hx rfl (2 : Int32) (hb hby at_207) (by decide) ?_
        show Go p e below t T733 m 208 #[iv i0, iv i1, iv i2, iv i3, iv i4, iv i5, iv (2 : Int32), iv (2 : Int32), iv (own_cr i0), iv (own_cr i1), iv (own_cr i2), iv (own_cr i3), rv vr_698, rv vr_701, rv b704, rv nr_713] [(.int (2 : Int32)), (.int (2 : Int32)), (.ref nr_713)]
        refine XS.iadd X733.here hx rfl (hb hby at_208) rfl ?_
        rw [show ((2 : Int32) + (2 : Int32)) = (4 : Int32) by decide]
        show Go p e below t T733 m 209 #[iv i0, iv i1, iv i2, iv i3, iv i4, iv i5, iv (2 : Int32), iv (2 : Int32), iv (own_cr i0), iv (own_cr i1), iv (own_cr i2), iv (own_cr i3), rv vr_698, rv vr_701, rv b704, rv nr_713] [(.int (4 : Int32)), (.ref nr_713)]
        exact k)
      obtain ⟨cq736, kq736, q736a, q736b, q736c⟩ := isOf hZ R733_0 R713_2
      obtain ⟨_, _, ⟨T736, L736, k736, n736⟩, -, X736, ⟨Lc736, hQ736, l736, y736, z736⟩, st736⟩ := X733.virtualBack hx (y := (⟨"java/lang/String", "charAt", "(I)C"⟩ : MethodName)) (z := (⟨"java/lang/String", "charAt", "(I)C"⟩ : MethodName)) hown (mvT hZ (hw _ (List.mem_of_getElem? (i := 162) rfl))) (mvT hZ (hw _ (List.mem_of_getElem? (i := 163) rfl))) (notFace_of_selects (args := #[]) (mvT hZ (hw _ (List.mem_of_getElem? (i := 165) rfl)))) (mvT hZ (hw _ (List.mem_of_getElem? (i := 165) rfl))) (mvT hZ (hw _ (List.mem_of_getElem? (i := 164) rfl))) (by decide) (backOf (W := 0) (rm_cha l Z a0 hw [] nr_713 (4 : Int32) tb_713 tk_713 (5 : Int32) [(.int (((nar .char (own_cr i0)).toInt8.toInt32).toInt8.toInt32)), (.int (((nar .char (own_cr i1)).toInt8.toInt32).toInt8.toInt32)), (.int (45 : Int32)), (.int (((nar .char (own_cr i2)).toInt8.toInt32).toInt8.toInt32)), (.int (((nar .char (own_cr i3)).toInt8.toInt32).toInt8.toInt32))] (((nar .char (own_cr i3)).toInt8.toInt32).toInt8.toInt32) fx cz T713.heap n0 (Nat.le_trans Z0 (Nat.le_trans (Nat.le_trans (Nat.le_trans (Nat.le_trans (Nat.le_trans (Nat.le_refl _) R698_0.1) R701_0.1) E704.1) R710_0.1) R713_0.1)) R713_2 R713_3 R713_4 Vn719 (Sta.keepO (Sta.keepO ((Sta.keepO (Sta.keepO P0 R698_0 ns0) R701_0 ns0).ext E704) R710_0 (nsS (Exa.nostat A704) ns0)) R713_0 ns0) hz (Sta.keepO (Sta.keepO ((Sta.keepO (Sta.keepO P2 R698_0 ns0) R701_0 ns0).ext E704) R710_0 (nsS (Exa.nostat A704) ns0)) R713_0 ns0) hfx (by decide) (by decide) rfl) hZ (hw _ (List.mem_of_getElem? (i := 166) rfl)) (hw _ (List.mem_of_getElem? (i := 6) rfl)) (by decide) (by decide)) q736a q736c (g := (mkF m 209 #[iv i0, iv i1, iv i2, iv i3, iv i4, iv i5, iv (2 : Int32), iv (2 : Int32), iv (own_cr i0), iv (own_cr i1), iv (own_cr i2), iv (own_cr i3), rv vr_698, rv vr_701, rv b704, rv nr_713] [(.int (4 : Int32)), (.ref nr_713)])) rfl (by rw [hml]; rfl) (Steps.refl _) (argsL := [(.int (4 : Int32))]) (rest := []) (lenOf pd26 rfl) rfl (by show 2 * 0 + _ ≤ _; exact Nat.le_of_eq rfl) (hb hby at_209) (fun _ _ => ⟨rfl, R733_0, (by decide : 13 + 0 ≤ _), (by decide : 59 + 0 ≤ _)⟩)
      dsimp only [Pt.U, Pt.locs, Pt.cells, Pt.slots] at X736 l736 y736 z736 st736 hQ736
      subst l736 y736 z736
      obtain ⟨rfl, N736, R736_0⟩ := hQ736
      have M736 := Fr.app M733 N736
      have g737 : Goes p e below S0 (T736.setTop (mkF m 212 #[iv i0, iv i1, iv i2, iv i3, iv i4, iv i5, iv (2 : Int32), iv (2 : Int32), iv (own_cr i0), iv (own_cr i1), iv (own_cr i2), iv (own_cr i3), rv vr_698, rv vr_701, rv b704, rv nr_713] [(.int (own_chr (((nar .char (own_cr i3)).toInt8.toInt32).toInt8.toInt32)))])) := fun t k => g735 t (st736.trans k)
      have g738 : Goes p e below S0 (T736.setTop (mkF m 220 #[iv i0, iv i1, iv i2, iv i3, iv i4, iv i5, iv (2 : Int32), iv (2 : Int32), iv (own_cr i0), iv (own_cr i1), iv (own_cr i2), iv (own_cr i3), rv vr_698, rv vr_701, rv b704, rv nr_713] [(.int (1 : Int32))])) := fun t k => g737 t (by
        refine XS.iload X736.here hx rfl (hb hby at_212) rfl ?_
        show Go p e below t T736 m 214 #[iv i0, iv i1, iv i2, iv i3, iv i4, iv i5, iv (2 : Int32), iv (2 : Int32), iv (own_cr i0), iv (own_cr i1), iv (own_cr i2), iv (own_cr i3), rv vr_698, rv vr_701, rv b704, rv nr_713] [(.int (own_cr i3)), (.int (own_chr (((nar .char (own_cr i3)).toInt8.toInt32).toInt8.toInt32)))]
        refine XS.icmpYes X736.here hx rfl (pc0 := 214) (pc' := 219) rfl (hb hby at_214) rfl (XT.ii_eq_t (own_rt _)) (by decide) (by decide) ?_
        show Go p e below t T736 m 219 #[iv i0, iv i1, iv i2, iv i3, iv i4, iv i5, iv (2 : Int32), iv (2 : Int32), iv (own_cr i0), iv (own_cr i1), iv (own_cr i2), iv (own_cr i3), rv vr_698, rv vr_701, rv b704, rv nr_713] []
        refine XT.iconstV X736.here hx rfl (1 : Int32) (hb hby at_219) (by decide) ?_
        show Go p e below t T736 m 220 #[iv i0, iv i1, iv i2, iv i3, iv i4, iv i5, iv (2 : Int32), iv (2 : Int32), iv (own_cr i0), iv (own_cr i1), iv (own_cr i2), iv (own_cr i3), rv vr_698, rv vr_701, rv b704, rv nr_713] [(.int (1 : Int32))]
        exact k)
      obtain ⟨fs, hr, hrun, hended, hE1, hE2, hE3, hE4⟩ := Stand.leaveW (s := s) (vm₁ := T713.vm) X736 so713 (by rw [R736_0]; exact (Nat.le_refl _)) (v := some (.int (1 : Int32))) (fun h => by rw [Bd.returns] at h; cases h)
      refine ⟨_, _, g738 _ (retN X736 hx (t := .boolean) Bd.returns (by simp) (hb hby at_220) hr), hrun, hended, _, _, rfl, ?_, hE1, hE2, hE3, hE4.mono (by decide) (by decide)⟩
      show Q_law Z i0 i1 i2 i3 i4 i5 cz fx h0 n0 _ T736.heap _
      rw [R736_0]
      exact ⟨rfl, M736⟩
theorem own_one (a b c d e f : Int32) : f_law a b c d e f = 1 := rfl
set_option maxRecDepth 65536 in
set_option maxHeartbeats 40000000 in
theorem comes_1 {Post : Tables → Env → Array Value → State → Outcome → State → Prop} (hpost : ∀ tb e args s v u, (limb_1_1.after args s (.returned v) u = true ∧ limb_1_2.after args s (.returned v) u = true ∧ True) → ReturnedEndW s (.returned v) u (Jvm.fieldLocs frame_1_writes args s ++ Jvm.arrayLocs frame_1_arrays args s ++ Jvm.staticLocs frame_1_statics s) 40 2240 → Post tb e args s (.returned v) u) :
    ArmFor flags0 classFile x code maxLocals ret World_1 tables_1 room_1 Calls_1 rest_1 Pre_1 Post := by
  intro l hfl _ _ p e ha hc hk s m args below hf hA hF happ hP
  obtain ⟨hcalls, hrest, hpre⟩ := hP
  obtain ⟨-, -, -, hnamed, -, -, -, hat⟩ := (Spec.applies_iff hf).mp happ
  obtain ⟨hg, hn⟩ := and_e (Cond.before_iff.mp (show (Jvm.Cond.and given_1 narrow_1).before args s = true from hpre))
  obtain ⟨hcount, q0⟩ := and_e hg
  obtain ⟨b0, q1⟩ := and_e q0
  obtain ⟨b1, q2⟩ := and_e q1
  obtain ⟨b2, q3⟩ := and_e q2
  obtain ⟨b3, q4⟩ := and_e q3
  obtain ⟨b4, q5⟩ := and_e q4
  have b5 := q5
  obtain ⟨w0, w1, w2, w3, w4, w5, rfl⟩ : ∃ w0 w1 w2 w3 w4 w5 : Value, args = #[w0, w1, w2, w3, w4, w5] := by
    have hs : args.size = 6 := by simpa [Cond.value, given_1] using hcount
    obtain ⟨L⟩ := args
    match L, hs with
    | [w0, w1, w2, w3, w4, w5], _ => exact ⟨w0, w1, w2, w3, w4, w5, rfl⟩
  have hw := fun d (hd : d ∈ tables_1) => atoms_spec (ws := Jvm.Cond.code x code maxLocals ret :: tables_1) hat d (List.mem_cons_of_mem _ hd)
  have hfit : Fit s := fun {y c} hc i hi => by
    obtain ⟨ha, rfl⟩ := Array.getElem?_eq_some_iff.mp hc
    have q := List.all_eq_true.mp ((Array.all_eq_true_iff_forall_mem.mp hF) _ (Array.getElem_mem ha)) i (List.mem_range.mpr hi)
    simpa [Array.getElem?_eq_getElem hi] using q
  obtain ⟨i0, r0⟩ := is_v b0
  obtain rfl : w0 = (.int i0) := Option.some.inj r0
  obtain ⟨i1, r1⟩ := is_v b1
  obtain rfl : w1 = (.int i1) := Option.some.inj r1
  obtain ⟨i2, r2⟩ := is_v b2
  obtain rfl : w2 = (.int i2) := Option.some.inj r2
  obtain ⟨i3, r3⟩ := is_v b3
  obtain rfl : w3 = (.int i3) := Option.some.inj r3
  obtain ⟨i4, r4⟩ := is_v b4
  obtain rfl : w4 = (.int i4) := Option.some.inj r4
  obtain ⟨i5, r5⟩ := is_v b5
  obtain rfl : w5 = (.int i5) := Option.some.inj r5
  obtain ⟨nn0, rr0⟩ := and_e (Cond.before_iff.mp (show rest_1_c.before _ s = true from hrest))
  obtain ⟨nn1, rr1⟩ := and_e rr0
  obtain ⟨nn2, rr2⟩ := and_e rr1
  obtain ⟨nn3, rr3⟩ := and_e rr2
  obtain ⟨nn4, rr4⟩ := and_e rr3
  obtain ⟨nn5, rr5⟩ := and_e rr4
  obtain ⟨nn6, rr6⟩ := and_e rr5
  obtain ⟨nn7, rr7⟩ := and_e rr6
  obtain ⟨nn8, rr8⟩ := and_e rr7
  obtain ⟨cz, ev⟩ := is_v nn1
  have S1 := Sta.start (args := _) ev (Or.inl (Cond.before_iff.mpr nn0))
  have hz := own_notz ev nn2
  obtain ⟨fx, ev2, hfx⟩ := isR_v nn8
  have S2 := Sta.start (args := _) ev2 (Or.inl (Cond.before_iff.mpr nn7))
  have hC0 : CHv s consts_1 s.vm s.heap := CHv.start (own_EW hw) (fun p hp => hcalls.1 p hp) (Cond.before_iff.mpr nn2) (hw _ (List.mem_of_getElem? (i := 19) rfl)) (hw _ (List.mem_of_getElem? (i := 5) rfl))
  obtain ⟨n, o, h1, h2, h3, v, L, rfl, ⟨hv, N⟩, hq⟩ := rm_law l s _ hw tables_1 i0 i1 i2 i3 i4 i5 cz fx s.heap s.heap.size (Nat.le_refl _) S1 hz S2 hfx p e ha hc hk s m _ below hf ((Spec.applies_iff_loose hf).mp happ).1 ⟨rfl, State.Warmed39.refl s, rfl, hC0, sf0⟩ trivial
  obtain rfl : v = some (.int 1) := by rw [hv, own_one]
  refine ⟨n, _, h1, h2, h3, hpost _ _ _ _ _ _ ⟨Cond.after_iff.mpr rfl, Cond.after_iff.mpr (eq_i res_at (Term.int_eval (1)) rfl), trivial⟩ ⟨hq.1, hq.2.1, hq.2.2.1, (hq.2.2.2.sift fun y hy => Or.inr (N y hy)).mono (by decide) (by decide)⟩⟩
theorem main_1_1 : Claimed_1_1 := comes_1 fun _ _ _ _ _ _ h hF => ⟨h.1, hF⟩
theorem main_1_2 : Claimed_1_2 := comes_1 fun _ _ _ _ _ _ h hF => ⟨h.2.1, hF⟩
end Jvm.Pilot.@@N@@
namespace Jvm.Pilot.@@N@@
open Jvm Jvm.ClassFile Sem Op Lib Jvm.Free Jvm.Stand Jvm.Pilot.@@N@@.Jvm.D
/-! MADE BY PROGRAM (witnessworld.py) out of the Statement's table words and the real class files: 27 classes; the members and pool entries that the words name. The judged class is class 1, her method 2. -/
namespace start1
open Jvm.ClassFile
def u (s : String) : CpInfo := .utf8 (stringToUtf16 s)
/-- a pool by its gaps: so many unusable entries, then the entry; so many at the end -/
def gap : Nat → List CpInfo → List CpInfo
  | 0, r => r
  | n + 1, r => .unusable :: gap n r
def poolList (es : List (Nat × CpInfo)) (last : Nat) : List CpInfo := es.foldr (fun e r => gap e.1 (e.2 :: r)) (gap last [])
def pool (es : List (Nat × CpInfo)) (last : Nat) : Array CpInfo := ⟨poolList es last⟩
def fileOf (pool : Array CpInfo) (this : Nat) (attrs : Array Attribute := #[]) (ms : Array MethodInfo := #[]) (fl : Nat := 33) (sup : Nat := 0) (ifs : Array Nat := #[]) (fds : Array FieldInfo := #[]) : ClassFile where
  minorVersion := 0
  majorVersion := 65
  constantPool := pool
  accessFlags := fl
  thisClass := this
  superClass := sup
  interfaces := ifs
  fields := fds
  methods := ms
  attributes := attrs
def plain (name : String) (sup : Option ClassId) : Class where
  name := name
  kind := .ordinary
  loader := none
  accessFlags := 33
  super := sup
  interfaces := #[]
  cf := none
  fields := #[]
  methods := #[]
  instanceTypes := #[]
  staticTypes := #[]
  resolved := #[]
  callSites := []
  init := .initialized
  statics := none
  mirror := none

def pool0 : Array CpInfo := pool [(5, u "<init>"), (0, u "()V"), (1, .class_ 10), (1, u "java/lang/Object")] 113

def k0c0 : Code := { maxStack := 0, maxLocals := 1, code := object_method_1_code, exceptionTable := #[], attributes := #[] }
def k0m0 : Method := { name := "<init>", desc := "()V", sig := { parameters := [], returnType := none }, accessFlags := 1, code := some k0c0 }
/-- java/lang/Object -/
def k0 : Class := { plain "java/lang/Object" none with
  accessFlags := 33
  interfaces := #[]
  cf := some (fileOf pool0 8 #[] #[{ accessFlags := 1, nameIndex := 5, descriptorIndex := 6, attributes := #[] }] 33 0 #[] #[])
  fields := #[]
  methods := #[k0m0]
  instanceTypes := #[]
  staticTypes := #[]
  resolved := Array.replicate 124 none
  statics := none }

def pool1 : Array CpInfo := pool [(2, .class_ 4), (1, u "java/lang/Object"), (0, u "<init>"), (0, u "()V"), (0, .class_ 8), (0, u "java/lang/String"), (0, .methodref 7 10), (0, .nameAndType 5 11), (0, u "([C)V"), (0, .methodref 13 14), (0, .class_ 15), (0, .nameAndType 16 17), (0, u "com/example/forager/forager/RoadNamePinLaw"), (0, u "mk"), (0, u "(ICC)Ljava/lang/String;"), (0, .class_ 19), (0, u "com/example/forager/forager/Road"), (0, .methodref 18 21), (0, .nameAndType 5 22), (0, u "(Ljava/lang/String;Ljava/lang/String;D)V"), (0, .methodref 18 24), (0, .nameAndType 25 26), (0, u "name"), (0, u "()Ljava/lang/String;"), (0, .methodref 7 28), (0, .nameAndType 29 30), (0, u "length"), (0, u "()I"), (0, .methodref 7 32), (0, .nameAndType 33 34), (0, u "charAt"), (0, u "(I)C"), (3, u "law"), (0, u "(IIIIII)Z")] 2

def k1m0 : Method := { name := "<init>", desc := "()V", sig := { parameters := [], returnType := none }, accessFlags := 2, code := none }
def k1c1 : Code := { maxStack := 6, maxLocals := 3, code := method_2_code, exceptionTable := #[], attributes := #[] }
def k1m1 : Method := { name := "mk", desc := "(ICC)Ljava/lang/String;", sig := { parameters := [.int, .char, .char], returnType := some (.object "java/lang/String") }, accessFlags := 10, code := some k1c1 }
def k1c2 : Code := { maxStack := 6, maxLocals := 16, code := code, exceptionTable := #[], attributes := #[] }
def k1m2 : Method := { name := "law", desc := "(IIIIII)Z", sig := { parameters := [.int, .int, .int, .int, .int, .int], returnType := some .boolean }, accessFlags := 9, code := some k1c2 }
/-- com/example/forager/forager/RoadNamePinLaw -/
def k1 : Class := { plain "com/example/forager/forager/RoadNamePinLaw" (some 0) with
  accessFlags := 49
  interfaces := #[]
  cf := some (fileOf pool1 13 #[] #[{ accessFlags := 2, nameIndex := 5, descriptorIndex := 6, attributes := #[] }, { accessFlags := 10, nameIndex := 16, descriptorIndex := 17, attributes := #[] }, { accessFlags := 9, nameIndex := 38, descriptorIndex := 39, attributes := #[] }] 49 2 #[] #[])
  fields := #[]
  methods := #[k1m0, k1m1, k1m2]
  instanceTypes := #[]
  staticTypes := #[]
  resolved := Array.replicate 42 none
  statics := none }

def pool2 : Array CpInfo := pool [(1, .class_ 2), (0, u "java/io/Serializable"), (0, .class_ 4), (0, u "java/lang/Object")] 2

/-- java/io/Serializable -/
def k2 : Class := { plain "java/io/Serializable" (some 0) with
  accessFlags := 1537
  interfaces := #[]
  cf := some (fileOf pool2 1 #[] #[] 1537 3 #[] #[])
  fields := #[]
  methods := #[]
  instanceTypes := #[]
  staticTypes := #[]
  resolved := Array.replicate 7 none
  statics := none }

def pool3 : Array CpInfo := pool [(1, .class_ 2), (0, u "java/lang/Comparable"), (0, .class_ 4), (0, u "java/lang/Object")] 7

/-- java/lang/Comparable -/
def k3 : Class := { plain "java/lang/Comparable" (some 0) with
  accessFlags := 1537
  interfaces := #[]
  cf := some (fileOf pool3 1 #[] #[] 1537 3 #[] #[])
  fields := #[]
  methods := #[]
  instanceTypes := #[]
  staticTypes := #[]
  resolved := Array.replicate 12 none
  statics := none }

def pool4 : Array CpInfo := pool [(2, .class_ 4), (1, u "java/lang/CharSequence"), (42, .class_ 48), (0, u "java/lang/CharSequence$1CodePointIterator"), (10, .class_ 60), (0, u "java/lang/CharSequence$1CharIterator"), (5, .class_ 67), (0, u "java/lang/Object")] 63

/-- java/lang/CharSequence -/
def k4 : Class := { plain "java/lang/CharSequence" (some 0) with
  accessFlags := 1537
  interfaces := #[]
  cf := some (fileOf pool4 2 #[.nestMembers #[47, 59]] #[] 1537 66 #[] #[])
  fields := #[]
  methods := #[]
  instanceTypes := #[]
  staticTypes := #[]
  resolved := Array.replicate 131 none
  statics := none }

def pool5 : Array CpInfo := pool [(1, .class_ 2), (0, u "java/lang/constant/Constable"), (0, .class_ 4), (0, u "java/lang/Object")] 6

/-- java/lang/constant/Constable -/
def k5 : Class := { plain "java/lang/constant/Constable" (some 0) with
  accessFlags := 1537
  interfaces := #[]
  cf := some (fileOf pool5 1 #[] #[] 1537 3 #[] #[])
  fields := #[]
  methods := #[]
  instanceTypes := #[]
  staticTypes := #[]
  resolved := Array.replicate 11 none
  statics := none }

def pool6 : Array CpInfo := pool [(1, .class_ 2), (0, u "java/lang/constant/ConstantDesc"), (0, .class_ 4), (0, u "java/lang/Object")] 32

/-- java/lang/constant/ConstantDesc -/
def k6 : Class := { plain "java/lang/constant/ConstantDesc" (some 0) with
  accessFlags := 1537
  interfaces := #[]
  cf := some (fileOf pool6 1 #[] #[] 1537 3 #[] #[])
  fields := #[]
  methods := #[]
  instanceTypes := #[]
  staticTypes := #[]
  resolved := Array.replicate 37 none
  statics := none }

def pool7 : Array CpInfo := pool [(1, .methodref 2 3), (0, .class_ 4), (0, .nameAndType 5 6), (0, u "java/lang/Object"), (0, u "<init>"), (0, u "()V"), (0, .string 8), (0, u ""), (0, .fieldref 10 11), (0, .class_ 12), (0, .nameAndType 13 14), (0, u "java/lang/String"), (0, u "value"), (0, u "[B"), (0, .fieldref 10 16), (0, .nameAndType 17 18), (0, u "coder"), (0, u "B"), (2, u "hash"), (0, u "I"), (2, u "hashIsZero"), (0, u "Z"), (0, .methodref 10 28), (0, .nameAndType 5 29), (0, u "([CIILjava/lang/Void;)V"), (8, .fieldref 10 39), (0, .nameAndType 40 26), (0, u "COMPACT_STRINGS"), (1, .class_ 44), (1, u "java/lang/StringUTF16"), (0, u "compress"), (1, .methodref 42 48), (0, .nameAndType 49 50), (0, u "coderFromArrayLen"), (0, u "([BI)B"), (3, .methodref 55 56), (0, .class_ 57), (0, .nameAndType 58 59), (0, u "java/util/Arrays"), (0, u "copyOfRange"), (0, u "([BII)[B"), (47, .class_ 109), (1, u "java/lang/StringLatin1"), (32, u "()Z"), (34, .methodref 42 178), (0, .nameAndType 45 179), (0, u "([CII)[B"), (13, .class_ 195), (1, u "java/lang/System"), (16, .methodref 193 213), (0, .nameAndType 214 215), (0, u "arraycopy"), (0, u "(Ljava/lang/Object;ILjava/lang/Object;II)V"), (118, u "()I"), (0, .methodref 10 336), (0, .nameAndType 17 337), (0, u "()B"), (2, u "()[B"), (22, u "([BI)C"), (27, u "(II)V"), (35, u "(I)C"), (61, .methodref 10 490), (0, .nameAndType 5 491), (0, u "(Ljava/lang/AbstractStringBuilder;Ljava/lang/Void;)V"), (0, .methodref 10 493), (0, .nameAndType 494 142), (0, u "isLatin1"), (0, .methodref 107 496), (0, .nameAndType 497 363), (0, u "charAt"), (3, u "checkIndex"), (4, .nameAndType 507 334), (0, u "length"), (24, u "getBytes"), (16, .methodref 550 506), (0, .class_ 551), (0, u "java/lang/AbstractStringBuilder"), (0, .methodref 550 553), (0, .nameAndType 554 340), (0, u "getValue"), (20, .class_ 576), (0, u "java/lang/CharSequence"), (22, u "CASE_INSENSITIVE_ORDER"), (0, u "Ljava/util/Comparator;"), (220, u "([BIB)V"), (188, u "([C)V"), (36, .methodref 550 493), (5, .fieldref 1054 1055), (0, .class_ 1056), (0, .nameAndType 1057 1058), (0, u "jdk/internal/util/Preconditions"), (0, u "SIOOBE_FORMATTER"), (0, u "Ljava/util/function/BiFunction;"), (0, .methodref 1054 1060), (0, .nameAndType 501 1061), (0, u "(IILjava/util/function/BiFunction;)I"), (39, u "serialPersistentFields"), (0, u "[Ljava/io/ObjectStreamField;"), (0, .class_ 1104), (0, u "java/lang/String$CaseInsensitiveComparator"), (1, .class_ 1107), (0, u "java/io/Serializable"), (0, .class_ 1109), (0, u "java/lang/Comparable"), (0, .class_ 1111), (0, u "java/lang/constant/Constable"), (0, .class_ 1113), (0, u "java/lang/constant/ConstantDesc"), (2, u "serialVersionUID"), (0, u "J"), (3, u "REPL"), (0, u "C"), (2, u "LATIN1"), (1, u "UTF16"), (105, u "(Ljava/lang/StringBuilder;)V")] 217

def k7m0 : Method := { name := "<init>", desc := "()V", sig := { parameters := [], returnType := none }, accessFlags := 1, code := none }
def k7c1 : Code := { maxStack := 5, maxLocals := 2, code := jdk_42_method_3_code, exceptionTable := #[], attributes := #[] }
def k7m1 : Method := { name := "<init>", desc := "([C)V", sig := { parameters := [(.array .char)], returnType := none }, accessFlags := 1, code := some k7c1 }
def k7c2 : Code := { maxStack := 3, maxLocals := 2, code := jdk_42_method_53_code, exceptionTable := #[], attributes := #[] }
def k7m2 : Method := { name := "<init>", desc := "(Ljava/lang/StringBuilder;)V", sig := { parameters := [(.object "java/lang/StringBuilder")], returnType := none }, accessFlags := 1, code := some k7c2 }
def k7c3 : Code := { maxStack := 2, maxLocals := 1, code := jdk_42_method_54_code, exceptionTable := #[], attributes := #[] }
def k7m3 : Method := { name := "length", desc := "()I", sig := { parameters := [], returnType := some .int }, accessFlags := 1, code := some k7c3 }
def k7c4 : Code := { maxStack := 2, maxLocals := 2, code := jdk_42_method_56_code, exceptionTable := #[], attributes := #[] }
def k7m4 : Method := { name := "charAt", desc := "(I)C", sig := { parameters := [.int], returnType := some .char }, accessFlags := 1, code := some k7c4 }
def k7c5 : Code := { maxStack := 5, maxLocals := 4, code := jdk_42_method_147_code, exceptionTable := #[], attributes := #[] }
def k7m5 : Method := { name := "getBytes", desc := "([BIB)V", sig := { parameters := [(.array .byte), .int, .byte], returnType := none }, accessFlags := 0, code := some k7c5 }
def k7c6 : Code := { maxStack := 4, maxLocals := 6, code := jdk_42_method_149_code, exceptionTable := #[], attributes := #[] }
def k7m6 : Method := { name := "<init>", desc := "([CIILjava/lang/Void;)V", sig := { parameters := [(.array .char), .int, .int, (.object "java/lang/Void")], returnType := none }, accessFlags := 2, code := some k7c6 }
def k7c7 : Code := { maxStack := 5, maxLocals := 5, code := jdk_42_method_150_code, exceptionTable := #[], attributes := #[] }
def k7m7 : Method := { name := "<init>", desc := "(Ljava/lang/AbstractStringBuilder;Ljava/lang/Void;)V", sig := { parameters := [(.object "java/lang/AbstractStringBuilder"), (.object "java/lang/Void")], returnType := none }, accessFlags := 0, code := some k7c7 }
def k7c8 : Code := { maxStack := 1, maxLocals := 1, code := jdk_42_method_152_code, exceptionTable := #[], attributes := #[] }
def k7m8 : Method := { name := "coder", desc := "()B", sig := { parameters := [], returnType := some .byte }, accessFlags := 0, code := some k7c8 }
def k7c9 : Code := { maxStack := 1, maxLocals := 1, code := jdk_42_method_154_code, exceptionTable := #[], attributes := #[] }
def k7m9 : Method := { name := "isLatin1", desc := "()Z", sig := { parameters := [], returnType := some .boolean }, accessFlags := 0, code := some k7c9 }
def k7c10 : Code := { maxStack := 3, maxLocals := 2, code := jdk_42_method_155_code, exceptionTable := #[], attributes := #[] }
def k7m10 : Method := { name := "checkIndex", desc := "(II)V", sig := { parameters := [.int, .int], returnType := none }, accessFlags := 8, code := some k7c10 }
/-- java/lang/String -/
def k7 : Class := { plain "java/lang/String" (some 0) with
  accessFlags := 49
  interfaces := #[2, 3, 4, 5, 6]
  cf := some (fileOf pool7 10 #[.nestMembers #[1103]] #[{ accessFlags := 1, nameIndex := 5, descriptorIndex := 6, attributes := #[] }, { accessFlags := 1, nameIndex := 5, descriptorIndex := 1010, attributes := #[] }, { accessFlags := 1, nameIndex := 5, descriptorIndex := 1233, attributes := #[] }, { accessFlags := 1, nameIndex := 507, descriptorIndex := 334, attributes := #[] }, { accessFlags := 1, nameIndex := 497, descriptorIndex := 427, attributes := #[] }, { accessFlags := 0, nameIndex := 532, descriptorIndex := 821, attributes := #[] }, { accessFlags := 2, nameIndex := 5, descriptorIndex := 29, attributes := #[] }, { accessFlags := 0, nameIndex := 5, descriptorIndex := 491, attributes := #[] }, { accessFlags := 0, nameIndex := 17, descriptorIndex := 337, attributes := #[] }, { accessFlags := 0, nameIndex := 494, descriptorIndex := 142, attributes := #[] }, { accessFlags := 8, nameIndex := 501, descriptorIndex := 391, attributes := #[] }] 49 2 #[1106, 1108, 575, 1110, 1112] #[{ accessFlags := 18, nameIndex := 13, descriptorIndex := 14, attributes := #[] }, { accessFlags := 18, nameIndex := 17, descriptorIndex := 18, attributes := #[] }, { accessFlags := 2, nameIndex := 21, descriptorIndex := 22, attributes := #[] }, { accessFlags := 2, nameIndex := 25, descriptorIndex := 26, attributes := #[] }, { accessFlags := 26, nameIndex := 1116, descriptorIndex := 1117, attributes := #[] }, { accessFlags := 24, nameIndex := 40, descriptorIndex := 26, attributes := #[] }, { accessFlags := 26, nameIndex := 1101, descriptorIndex := 1102, attributes := #[] }, { accessFlags := 26, nameIndex := 1121, descriptorIndex := 1122, attributes := #[] }, { accessFlags := 25, nameIndex := 599, descriptorIndex := 600, attributes := #[] }, { accessFlags := 24, nameIndex := 1125, descriptorIndex := 18, attributes := #[] }, { accessFlags := 24, nameIndex := 1127, descriptorIndex := 18, attributes := #[] }])
  fields := #[{ name := "value", type := (.array .byte), accessFlags := 18, slot := 0, constantValue := 0 }, { name := "coder", type := .byte, accessFlags := 18, slot := 1, constantValue := 0 }, { name := "hash", type := .int, accessFlags := 2, slot := 2, constantValue := 0 }, { name := "hashIsZero", type := .boolean, accessFlags := 2, slot := 3, constantValue := 0 }, { name := "serialVersionUID", type := .long, accessFlags := 26, slot := 0, constantValue := 0 }, { name := "COMPACT_STRINGS", type := .boolean, accessFlags := 24, slot := 1, constantValue := 0 }, { name := "serialPersistentFields", type := (.array (.object "java/io/ObjectStreamField")), accessFlags := 26, slot := 2, constantValue := 0 }, { name := "REPL", type := .char, accessFlags := 26, slot := 3, constantValue := 0 }, { name := "CASE_INSENSITIVE_ORDER", type := (.object "java/util/Comparator"), accessFlags := 25, slot := 4, constantValue := 0 }, { name := "LATIN1", type := .byte, accessFlags := 24, slot := 5, constantValue := 0 }, { name := "UTF16", type := .byte, accessFlags := 24, slot := 6, constantValue := 0 }]
  methods := #[k7m0, k7m1, k7m2, k7m3, k7m4, k7m5, k7m6, k7m7, k7m8, k7m9, k7m10]
  instanceTypes := #[(.array .byte), .byte, .int, .boolean]
  staticTypes := #[.long, .boolean, (.array (.object "java/io/ObjectStreamField")), .char, (.object "java/util/Comparator"), .byte, .byte]
  resolved := Array.replicate 1451 none
  statics := some 0 }

def pool8 : Array CpInfo := pool [(1, .methodref 2 3), (0, .class_ 4), (0, .nameAndType 5 6), (0, u "java/lang/Object"), (0, u "<init>"), (0, u "()V"), (0, .class_ 8), (0, u "java/lang/Record")] 13

def k8c0 : Code := { maxStack := 1, maxLocals := 1, code := jdk_30_method_1_code, exceptionTable := #[], attributes := #[] }
def k8m0 : Method := { name := "<init>", desc := "()V", sig := { parameters := [], returnType := none }, accessFlags := 4, code := some k8c0 }
/-- java/lang/Record -/
def k8 : Class := { plain "java/lang/Record" (some 0) with
  accessFlags := 1057
  interfaces := #[]
  cf := some (fileOf pool8 7 #[] #[{ accessFlags := 4, nameIndex := 5, descriptorIndex := 6, attributes := #[] }] 1057 2 #[] #[])
  fields := #[]
  methods := #[k8m0]
  instanceTypes := #[]
  staticTypes := #[]
  resolved := Array.replicate 22 none
  statics := none }

def pool9 : Array CpInfo := pool [(1, .methodref 2 3), (0, .class_ 4), (0, .nameAndType 5 6), (0, u "java/lang/Record"), (0, u "<init>"), (0, u "()V"), (0, .fieldref 8 9), (0, .class_ 10), (0, .nameAndType 11 12), (0, u "com/example/forager/forager/Road"), (0, u "from"), (0, u "Ljava/lang/String;"), (0, .fieldref 8 14), (0, .nameAndType 15 12), (0, u "to"), (0, .fieldref 8 17), (0, .nameAndType 18 19), (0, u "length"), (0, u "D"), (0, .class_ 21), (0, u "java/lang/StringBuilder"), (0, .methodref 20 3), (0, .methodref 20 24), (0, .nameAndType 25 26), (0, u "append"), (0, u "(Ljava/lang/String;)Ljava/lang/StringBuilder;"), (0, .string 28), (0, u "-"), (0, .methodref 20 30), (0, .nameAndType 31 32), (0, u "toString"), (0, u "()Ljava/lang/String;"), (11, u "(Ljava/lang/String;Ljava/lang/String;D)V"), (3, u "name")] 25

def k9c0 : Code := { maxStack := 3, maxLocals := 5, code := prog_30_method_1_code, exceptionTable := #[], attributes := #[] }
def k9m0 : Method := { name := "<init>", desc := "(Ljava/lang/String;Ljava/lang/String;D)V", sig := { parameters := [(.object "java/lang/String"), (.object "java/lang/String"), .double], returnType := none }, accessFlags := 1, code := some k9c0 }
def k9c1 : Code := { maxStack := 2, maxLocals := 1, code := prog_30_method_2_code, exceptionTable := #[], attributes := #[] }
def k9m1 : Method := { name := "name", desc := "()Ljava/lang/String;", sig := { parameters := [], returnType := some (.object "java/lang/String") }, accessFlags := 1, code := some k9c1 }
/-- com/example/forager/forager/Road -/
def k9 : Class := { plain "com/example/forager/forager/Road" (some 8) with
  accessFlags := 49
  interfaces := #[]
  cf := some (fileOf pool9 8 #[] #[{ accessFlags := 1, nameIndex := 5, descriptorIndex := 44, attributes := #[] }, { accessFlags := 1, nameIndex := 48, descriptorIndex := 32, attributes := #[] }] 49 2 #[] #[{ accessFlags := 18, nameIndex := 11, descriptorIndex := 12, attributes := #[] }, { accessFlags := 18, nameIndex := 15, descriptorIndex := 12, attributes := #[] }, { accessFlags := 18, nameIndex := 18, descriptorIndex := 19, attributes := #[] }])
  fields := #[{ name := "from", type := (.object "java/lang/String"), accessFlags := 18, slot := 0, constantValue := 0 }, { name := "to", type := (.object "java/lang/String"), accessFlags := 18, slot := 1, constantValue := 0 }, { name := "length", type := .double, accessFlags := 18, slot := 2, constantValue := 0 }]
  methods := #[k9m0, k9m1]
  instanceTypes := #[(.object "java/lang/String"), (.object "java/lang/String"), .double]
  staticTypes := #[]
  resolved := Array.replicate 74 none
  statics := none }

def pool10 : Array CpInfo := pool [(1, .class_ 2), (0, u "java/lang/Appendable"), (0, .class_ 4), (0, u "java/lang/Object")] 9

/-- java/lang/Appendable -/
def k10 : Class := { plain "java/lang/Appendable" (some 0) with
  accessFlags := 1537
  interfaces := #[]
  cf := some (fileOf pool10 1 #[] #[] 1537 3 #[] #[])
  fields := #[]
  methods := #[]
  instanceTypes := #[]
  staticTypes := #[]
  resolved := Array.replicate 14 none
  statics := none }

def pool11 : Array CpInfo := pool [(1, .class_ 2), (0, u "java/lang/String"), (0, .methodref 4 5), (0, .class_ 6), (0, .nameAndType 7 8), (0, u "java/lang/Object"), (0, u "<init>"), (0, u "()V"), (1, .class_ 12), (1, u "java/lang/AbstractStringBuilder"), (0, u "EMPTYVALUE"), (0, u "[B"), (0, .fieldref 10 16), (0, .nameAndType 17 14), (0, u "value"), (0, .fieldref 1 19), (0, .nameAndType 20 21), (0, u "COMPACT_STRINGS"), (0, u "Z"), (0, .fieldref 10 23), (0, .nameAndType 24 25), (0, u "coder"), (0, u "B"), (6, .methodref 1 33), (0, .nameAndType 34 35), (0, u "length"), (0, u "()I"), (4, .methodref 1 41), (0, .nameAndType 24 42), (0, u "()B"), (2, u "append"), (0, u "(Ljava/lang/String;)Ljava/lang/AbstractStringBuilder;"), (1, .class_ 49), (0, u "java/lang/CharSequence"), (19, u "(Ljava/lang/String;)V"), (5, u "maybeLatin1"), (3, .fieldref 10 80), (0, .nameAndType 81 82), (0, u "count"), (0, u "I"), (2, u "isLatin1"), (0, u "()Z"), (13, .methodref 10 101), (0, .nameAndType 102 103), (0, u "ensureCapacityInternal"), (0, u "(I)V"), (104, .methodref 10 209), (0, .nameAndType 210 211), (0, u "putStringAt"), (0, u "(ILjava/lang/String;)V"), (5, u "inflateIfNeededFor"), (2, .nameAndType 221 222), (0, u "getBytes"), (0, u "([BIB)V"), (174, .methodref 10 398), (0, .nameAndType 217 69), (0, .methodref 1 220), (3, u "()[B"), (40, .class_ 445), (0, u "java/lang/Appendable"), (106, u "getValue")] 56

def k11m0 : Method := { name := "<init>", desc := "()V", sig := { parameters := [], returnType := none }, accessFlags := 0, code := none }
def k11c1 : Code := { maxStack := 2, maxLocals := 2, code := jdk_68_method_2_code, exceptionTable := #[], attributes := #[] }
def k11m1 : Method := { name := "<init>", desc := "(I)V", sig := { parameters := [.int], returnType := none }, accessFlags := 0, code := some k11c1 }
def k11c2 : Code := { maxStack := 1, maxLocals := 1, code := jdk_68_method_6_code, exceptionTable := #[], attributes := #[] }
def k11m2 : Method := { name := "length", desc := "()I", sig := { parameters := [], returnType := some .int }, accessFlags := 1, code := some k11c2 }
def k11c3 : Code := { maxStack := 4, maxLocals := 3, code := jdk_68_method_9_code, exceptionTable := #[], attributes := #[] }
def k11m3 : Method := { name := "ensureCapacityInternal", desc := "(I)V", sig := { parameters := [.int], returnType := none }, accessFlags := 2, code := some k11c3 }
def k11c4 : Code := { maxStack := 3, maxLocals := 3, code := jdk_68_method_22_code, exceptionTable := #[], attributes := #[] }
def k11m4 : Method := { name := "append", desc := "(Ljava/lang/String;)Ljava/lang/AbstractStringBuilder;", sig := { parameters := [(.object "java/lang/String")], returnType := some (.object "java/lang/AbstractStringBuilder") }, accessFlags := 1, code := some k11c4 }
def k11c5 : Code := { maxStack := 1, maxLocals := 1, code := jdk_68_method_64_code, exceptionTable := #[], attributes := #[] }
def k11m5 : Method := { name := "getValue", desc := "()[B", sig := { parameters := [], returnType := some (.array .byte) }, accessFlags := 16, code := some k11c5 }
def k11c6 : Code := { maxStack := 1, maxLocals := 1, code := jdk_68_method_68_code, exceptionTable := #[], attributes := #[] }
def k11m6 : Method := { name := "isLatin1", desc := "()Z", sig := { parameters := [], returnType := some .boolean }, accessFlags := 16, code := some k11c6 }
def k11c7 : Code := { maxStack := 2, maxLocals := 2, code := jdk_68_method_71_code, exceptionTable := #[], attributes := #[] }
def k11m7 : Method := { name := "inflateIfNeededFor", desc := "(Ljava/lang/String;)V", sig := { parameters := [(.object "java/lang/String")], returnType := none }, accessFlags := 2, code := some k11c7 }
def k11c8 : Code := { maxStack := 4, maxLocals := 3, code := jdk_68_method_73_code, exceptionTable := #[], attributes := #[] }
def k11m8 : Method := { name := "putStringAt", desc := "(ILjava/lang/String;)V", sig := { parameters := [.int, (.object "java/lang/String")], returnType := none }, accessFlags := 2, code := some k11c8 }
/-- java/lang/AbstractStringBuilder -/
def k11 : Class := { plain "java/lang/AbstractStringBuilder" (some 0) with
  accessFlags := 1056
  interfaces := #[10, 4]
  cf := some (fileOf pool11 10 #[] #[{ accessFlags := 0, nameIndex := 7, descriptorIndex := 8, attributes := #[] }, { accessFlags := 0, nameIndex := 7, descriptorIndex := 103, attributes := #[] }, { accessFlags := 1, nameIndex := 34, descriptorIndex := 35, attributes := #[] }, { accessFlags := 2, nameIndex := 102, descriptorIndex := 103, attributes := #[] }, { accessFlags := 1, nameIndex := 45, descriptorIndex := 46, attributes := #[] }, { accessFlags := 16, nameIndex := 552, descriptorIndex := 403, attributes := #[] }, { accessFlags := 16, nameIndex := 85, descriptorIndex := 86, attributes := #[] }, { accessFlags := 2, nameIndex := 217, descriptorIndex := 69, attributes := #[] }, { accessFlags := 2, nameIndex := 210, descriptorIndex := 211, attributes := #[] }] 1056 4 #[444, 48] #[{ accessFlags := 0, nameIndex := 17, descriptorIndex := 14, attributes := #[] }, { accessFlags := 0, nameIndex := 24, descriptorIndex := 25, attributes := #[] }, { accessFlags := 0, nameIndex := 75, descriptorIndex := 21, attributes := #[] }, { accessFlags := 0, nameIndex := 81, descriptorIndex := 82, attributes := #[] }, { accessFlags := 26, nameIndex := 13, descriptorIndex := 14, attributes := #[] }])
  fields := #[{ name := "value", type := (.array .byte), accessFlags := 0, slot := 0, constantValue := 0 }, { name := "coder", type := .byte, accessFlags := 0, slot := 1, constantValue := 0 }, { name := "maybeLatin1", type := .boolean, accessFlags := 0, slot := 2, constantValue := 0 }, { name := "count", type := .int, accessFlags := 0, slot := 3, constantValue := 0 }, { name := "EMPTYVALUE", type := (.array .byte), accessFlags := 26, slot := 0, constantValue := 0 }]
  methods := #[k11m0, k11m1, k11m2, k11m3, k11m4, k11m5, k11m6, k11m7, k11m8]
  instanceTypes := #[(.array .byte), .byte, .boolean, .int]
  staticTypes := #[(.array .byte)]
  resolved := Array.replicate 609 none
  statics := none }

def pool12 : Array CpInfo := pool [(1, .methodref 2 3), (0, .class_ 4), (0, .nameAndType 5 6), (0, u "java/lang/AbstractStringBuilder"), (0, u "<init>"), (0, u "(I)V"), (11, .class_ 20), (1, u "java/lang/String"), (3, .class_ 26), (1, u "java/lang/StringBuilder"), (0, u "append"), (0, u "(Ljava/lang/String;)Ljava/lang/StringBuilder;"), (0, .methodref 2 30), (0, .nameAndType 27 31), (0, u "(Ljava/lang/String;)Ljava/lang/AbstractStringBuilder;"), (105, .methodref 18 138), (0, .nameAndType 5 139), (0, u "(Ljava/lang/StringBuilder;)V"), (5, u "()V"), (10, u "()I"), (186, .methodref 2 344), (0, .nameAndType 345 156), (0, u "length"), (3, .class_ 350), (0, u "java/lang/Appendable"), (0, .class_ 352), (0, u "java/io/Serializable"), (0, .class_ 354), (0, u "java/lang/Comparable"), (0, .class_ 356), (0, u "java/lang/CharSequence"), (0, u "serialVersionUID"), (0, u "J"), (40, u "toString"), (0, u "()Ljava/lang/String;")] 21

def k12c0 : Code := { maxStack := 2, maxLocals := 1, code := jdk_67_method_1_code, exceptionTable := #[], attributes := #[] }
def k12m0 : Method := { name := "<init>", desc := "()V", sig := { parameters := [], returnType := none }, accessFlags := 1, code := some k12c0 }
def k12c1 : Code := { maxStack := 2, maxLocals := 2, code := jdk_67_method_7_code, exceptionTable := #[], attributes := #[] }
def k12m1 : Method := { name := "append", desc := "(Ljava/lang/String;)Ljava/lang/StringBuilder;", sig := { parameters := [(.object "java/lang/String")], returnType := some (.object "java/lang/StringBuilder") }, accessFlags := 1, code := some k12c1 }
def k12c2 : Code := { maxStack := 3, maxLocals := 1, code := jdk_67_method_42_code, exceptionTable := #[], attributes := #[] }
def k12m2 : Method := { name := "toString", desc := "()Ljava/lang/String;", sig := { parameters := [], returnType := some (.object "java/lang/String") }, accessFlags := 1, code := some k12c2 }
def k12c3 : Code := { maxStack := 1, maxLocals := 1, code := jdk_67_method_93_code, exceptionTable := #[], attributes := #[] }
def k12m3 : Method := { name := "length", desc := "()I", sig := { parameters := [], returnType := some .int }, accessFlags := 4161, code := some k12c3 }
/-- java/lang/StringBuilder -/
def k12 : Class := { plain "java/lang/StringBuilder" (some 11) with
  accessFlags := 49
  interfaces := #[10, 2, 3, 4]
  cf := some (fileOf pool12 24 #[] #[{ accessFlags := 1, nameIndex := 5, descriptorIndex := 145, attributes := #[] }, { accessFlags := 1, nameIndex := 27, descriptorIndex := 28, attributes := #[] }, { accessFlags := 1, nameIndex := 399, descriptorIndex := 400, attributes := #[] }, { accessFlags := 4161, nameIndex := 345, descriptorIndex := 156, attributes := #[] }] 49 2 #[349, 351, 353, 355] #[{ accessFlags := 24, nameIndex := 357, descriptorIndex := 358, attributes := #[] }])
  fields := #[{ name := "serialVersionUID", type := .long, accessFlags := 24, slot := 0, constantValue := 0 }]
  methods := #[k12m0, k12m1, k12m2, k12m3]
  instanceTypes := #[(.array .byte), .byte, .boolean, .int]
  staticTypes := #[.long]
  resolved := Array.replicate 422 none
  statics := none }

def pool13 : Array CpInfo := pool [(2, .class_ 4), (1, u "java/lang/Object"), (0, u "<init>"), (0, u "()V"), (1, .class_ 10), (1, u "java/lang/System"), (0, u "allowSecurityManager"), (0, u "I"), (16, u "cons"), (0, u "Ljava/io/Console;"), (77, .class_ 110), (1, u "java/lang/System$CallersHolder"), (43, u "initialErrStream"), (0, u "Ljava/io/PrintStream;"), (19, u "security"), (0, u "Ljava/lang/SecurityManager;"), (31, .class_ 209), (0, u "java/lang/System$1"), (7, u "props"), (0, u "Ljava/util/Properties;"), (2, u "lineSeparator"), (0, u "Ljava/lang/String;"), (96, .class_ 321), (1, u "java/lang/System$LoggerFinder"), (5, .class_ 328), (0, u "java/lang/System$Logger"), (67, u "err"), (2, u "out"), (91, u "notSupportedJnuEncoding"), (15, u "in"), (17, u "initialIn"), (0, u "Ljava/io/InputStream;"), (35, u "bootLayer"), (0, u "Ljava/lang/ModuleLayer;"), (99, .class_ 664), (0, u "java/lang/System$2"), (9, u "NEVER"), (2, u "MAYBE"), (49, u "arraycopy"), (0, u "(Ljava/lang/Object;ILjava/lang/Object;II)V"), (72, .class_ 802), (0, u "java/lang/System$Logger$Level")] 31

def k13m0 : Method := { name := "<init>", desc := "()V", sig := { parameters := [], returnType := none }, accessFlags := 2, code := none }
def k13m1 : Method := { name := "arraycopy", desc := "(Ljava/lang/Object;ILjava/lang/Object;II)V", sig := { parameters := [(.object "java/lang/Object"), .int, (.object "java/lang/Object"), .int, .int], returnType := none }, accessFlags := 265, code := none }
/-- java/lang/System -/
def k13 : Class := { plain "java/lang/System" (some 0) with
  accessFlags := 49
  interfaces := #[]
  cf := some (fileOf pool13 8 #[.nestMembers #[319, 327, 801, 108, 663, 208]] #[{ accessFlags := 2, nameIndex := 5, descriptorIndex := 6, attributes := #[] }, { accessFlags := 265, nameIndex := 727, descriptorIndex := 728, attributes := #[] }] 49 2 #[] #[{ accessFlags := 25, nameIndex := 507, descriptorIndex := 526, attributes := #[] }, { accessFlags := 25, nameIndex := 399, descriptorIndex := 155, attributes := #[] }, { accessFlags := 25, nameIndex := 396, descriptorIndex := 155, attributes := #[] }, { accessFlags := 10, nameIndex := 525, descriptorIndex := 526, attributes := #[] }, { accessFlags := 26, nameIndex := 674, descriptorIndex := 12, attributes := #[] }, { accessFlags := 26, nameIndex := 677, descriptorIndex := 12, attributes := #[] }, { accessFlags := 10, nameIndex := 11, descriptorIndex := 12, attributes := #[] }, { accessFlags := 74, nameIndex := 175, descriptorIndex := 176, attributes := #[] }, { accessFlags := 10, nameIndex := 491, descriptorIndex := 222, attributes := #[] }, { accessFlags := 74, nameIndex := 29, descriptorIndex := 30, attributes := #[] }, { accessFlags := 74, nameIndex := 154, descriptorIndex := 155, attributes := #[] }, { accessFlags := 10, nameIndex := 217, descriptorIndex := 218, attributes := #[] }, { accessFlags := 10, nameIndex := 221, descriptorIndex := 222, attributes := #[] }, { accessFlags := 8, nameIndex := 562, descriptorIndex := 563, attributes := #[] }])
  fields := #[{ name := "in", type := (.object "java/io/InputStream"), accessFlags := 25, slot := 0, constantValue := 0 }, { name := "out", type := (.object "java/io/PrintStream"), accessFlags := 25, slot := 1, constantValue := 0 }, { name := "err", type := (.object "java/io/PrintStream"), accessFlags := 25, slot := 2, constantValue := 0 }, { name := "initialIn", type := (.object "java/io/InputStream"), accessFlags := 10, slot := 3, constantValue := 0 }, { name := "NEVER", type := .int, accessFlags := 26, slot := 4, constantValue := 0 }, { name := "MAYBE", type := .int, accessFlags := 26, slot := 5, constantValue := 0 }, { name := "allowSecurityManager", type := .int, accessFlags := 10, slot := 6, constantValue := 0 }, { name := "security", type := (.object "java/lang/SecurityManager"), accessFlags := 74, slot := 7, constantValue := 0 }, { name := "notSupportedJnuEncoding", type := (.object "java/lang/String"), accessFlags := 10, slot := 8, constantValue := 0 }, { name := "cons", type := (.object "java/io/Console"), accessFlags := 74, slot := 9, constantValue := 0 }, { name := "initialErrStream", type := (.object "java/io/PrintStream"), accessFlags := 74, slot := 10, constantValue := 0 }, { name := "props", type := (.object "java/util/Properties"), accessFlags := 10, slot := 11, constantValue := 0 }, { name := "lineSeparator", type := (.object "java/lang/String"), accessFlags := 10, slot := 12, constantValue := 0 }, { name := "bootLayer", type := (.object "java/lang/ModuleLayer"), accessFlags := 8, slot := 13, constantValue := 0 }]
  methods := #[k13m0, k13m1]
  instanceTypes := #[]
  staticTypes := #[(.object "java/io/InputStream"), (.object "java/io/PrintStream"), (.object "java/io/PrintStream"), (.object "java/io/InputStream"), .int, .int, .int, (.object "java/lang/SecurityManager"), (.object "java/lang/String"), (.object "java/io/Console"), (.object "java/io/PrintStream"), (.object "java/util/Properties"), (.object "java/lang/String"), (.object "java/lang/ModuleLayer")]
  resolved := Array.replicate 834 none
  statics := none }

def pool14 : Array CpInfo := pool [(2, .class_ 4), (1, u "java/lang/Object"), (0, u "<init>"), (0, u "()V"), (7, .class_ 16), (1, u "java/util/Arrays"), (57, .class_ 76), (1, u "java/util/Arrays$NaturalOrder"), (36, .class_ 115), (1, u "java/util/Arrays$LegacyMergeSort"), (1, u "Z"), (21, u "copyOfRange"), (10, .methodref 151 152), (0, .class_ 153), (0, .nameAndType 154 155), (0, u "java/lang/System"), (0, u "arraycopy"), (0, u "(Ljava/lang/Object;ILjava/lang/Object;II)V"), (148, .methodref 305 306), (0, .class_ 307), (0, .nameAndType 308 309), (0, u "java/lang/Math"), (0, u "min"), (0, u "(II)I"), (29, .methodref 14 340), (0, .nameAndType 341 342), (0, u "copyOfRangeByte"), (0, u "([BII)[B"), (0, .methodref 14 344), (0, .nameAndType 345 346), (0, u "checkLength"), (0, u "(II)V"), (28, .class_ 376), (0, u "java/util/Arrays$ArrayList"), (68, u "$assertionsDisabled"), (269, u "MIN_ARRAY_SORT_GRAN"), (0, u "I"), (2, u "INSERTIONSORT_THRESHOLD"), (255, .class_ 976), (0, u "java/util/Arrays$ArrayItr")] 52

def k14m0 : Method := { name := "<init>", desc := "()V", sig := { parameters := [], returnType := none }, accessFlags := 2, code := none }
def k14c1 : Code := { maxStack := 4, maxLocals := 2, code := jdk_65_method_131_code, exceptionTable := #[], attributes := #[] }
def k14m1 : Method := { name := "checkLength", desc := "(II)V", sig := { parameters := [.int, .int], returnType := none }, accessFlags := 10, code := some k14c1 }
def k14c2 : Code := { maxStack := 3, maxLocals := 3, code := jdk_65_method_132_code, exceptionTable := #[], attributes := #[] }
def k14m2 : Method := { name := "copyOfRange", desc := "([BII)[B", sig := { parameters := [(.array .byte), .int, .int], returnType := some (.array .byte) }, accessFlags := 9, code := some k14c2 }
def k14c3 : Code := { maxStack := 6, maxLocals := 5, code := jdk_65_method_133_code, exceptionTable := #[], attributes := #[] }
def k14m3 : Method := { name := "copyOfRangeByte", desc := "([BII)[B", sig := { parameters := [(.array .byte), .int, .int], returnType := some (.array .byte) }, accessFlags := 10, code := some k14c3 }
/-- java/util/Arrays -/
def k14 : Class := { plain "java/util/Arrays" (some 0) with
  accessFlags := 49
  interfaces := #[]
  cf := some (fileOf pool14 14 #[.nestMembers #[975, 375, 113, 74]] #[{ accessFlags := 2, nameIndex := 5, descriptorIndex := 6, attributes := #[] }, { accessFlags := 10, nameIndex := 345, descriptorIndex := 346, attributes := #[] }, { accessFlags := 9, nameIndex := 139, descriptorIndex := 342, attributes := #[] }, { accessFlags := 10, nameIndex := 341, descriptorIndex := 342, attributes := #[] }] 49 2 #[] #[{ accessFlags := 26, nameIndex := 715, descriptorIndex := 716, attributes := #[] }, { accessFlags := 26, nameIndex := 719, descriptorIndex := 716, attributes := #[] }, { accessFlags := 4120, nameIndex := 445, descriptorIndex := 117, attributes := #[] }])
  fields := #[{ name := "MIN_ARRAY_SORT_GRAN", type := .int, accessFlags := 26, slot := 0, constantValue := 0 }, { name := "INSERTIONSORT_THRESHOLD", type := .int, accessFlags := 26, slot := 1, constantValue := 0 }, { name := "$assertionsDisabled", type := .boolean, accessFlags := 4120, slot := 2, constantValue := 0 }]
  methods := #[k14m0, k14m1, k14m2, k14m3]
  instanceTypes := #[]
  staticTypes := #[.int, .int, .boolean]
  resolved := Array.replicate 1029 none
  statics := none }

def pool15 : Array CpInfo := pool [(1, .class_ 2), (0, u "java/lang/Math"), (1, .class_ 6), (1, u "java/lang/Object"), (0, u "<init>"), (0, u "()V"), (89, .class_ 100), (1, u "java/lang/Math$RandomNumberGeneratorHolder"), (71, u "negativeZeroFloatBits"), (0, u "J"), (2, u "negativeZeroDoubleBits"), (24, u "min"), (43, u "$assertionsDisabled"), (0, u "Z"), (88, u "(II)I"), (2, u "twoToTheDoubleScaleDown"), (0, u "D"), (4, u "twoToTheDoubleScaleUp"), (9, u "E"), (3, u "PI"), (2, u "TAU"), (2, u "DEGREES_TO_RADIANS"), (0, u "RADIANS_TO_DEGREES")] 94

def k15m0 : Method := { name := "<init>", desc := "()V", sig := { parameters := [], returnType := none }, accessFlags := 2, code := none }
def k15c1 : Code := { maxStack := 2, maxLocals := 2, code := jdk_29_method_69_code, exceptionTable := #[], attributes := #[] }
def k15m1 : Method := { name := "min", desc := "(II)I", sig := { parameters := [.int, .int], returnType := some .int }, accessFlags := 9, code := some k15c1 }
/-- java/lang/Math -/
def k15 : Class := { plain "java/lang/Math" (some 0) with
  accessFlags := 49
  interfaces := #[]
  cf := some (fileOf pool15 1 #[.nestMembers #[98]] #[{ accessFlags := 2, nameIndex := 7, descriptorIndex := 8, attributes := #[] }, { accessFlags := 9, nameIndex := 201, descriptorIndex := 335, attributes := #[] }] 49 4 #[] #[{ accessFlags := 25, nameIndex := 354, descriptorIndex := 339, attributes := #[] }, { accessFlags := 25, nameIndex := 358, descriptorIndex := 339, attributes := #[] }, { accessFlags := 25, nameIndex := 361, descriptorIndex := 339, attributes := #[] }, { accessFlags := 26, nameIndex := 364, descriptorIndex := 339, attributes := #[] }, { accessFlags := 26, nameIndex := 365, descriptorIndex := 339, attributes := #[] }, { accessFlags := 26, nameIndex := 172, descriptorIndex := 173, attributes := #[] }, { accessFlags := 26, nameIndex := 176, descriptorIndex := 173, attributes := #[] }, { accessFlags := 8, nameIndex := 344, descriptorIndex := 339, attributes := #[] }, { accessFlags := 8, nameIndex := 338, descriptorIndex := 339, attributes := #[] }, { accessFlags := 4120, nameIndex := 245, descriptorIndex := 246, attributes := #[] }])
  fields := #[{ name := "E", type := .double, accessFlags := 25, slot := 0, constantValue := 0 }, { name := "PI", type := .double, accessFlags := 25, slot := 1, constantValue := 0 }, { name := "TAU", type := .double, accessFlags := 25, slot := 2, constantValue := 0 }, { name := "DEGREES_TO_RADIANS", type := .double, accessFlags := 26, slot := 3, constantValue := 0 }, { name := "RADIANS_TO_DEGREES", type := .double, accessFlags := 26, slot := 4, constantValue := 0 }, { name := "negativeZeroFloatBits", type := .long, accessFlags := 26, slot := 5, constantValue := 0 }, { name := "negativeZeroDoubleBits", type := .long, accessFlags := 26, slot := 6, constantValue := 0 }, { name := "twoToTheDoubleScaleUp", type := .double, accessFlags := 8, slot := 7, constantValue := 0 }, { name := "twoToTheDoubleScaleDown", type := .double, accessFlags := 8, slot := 8, constantValue := 0 }, { name := "$assertionsDisabled", type := .boolean, accessFlags := 4120, slot := 9, constantValue := 0 }]
  methods := #[k15m0, k15m1]
  instanceTypes := #[]
  staticTypes := #[.double, .double, .double, .double, .double, .long, .long, .double, .double, .boolean]
  resolved := Array.replicate 460 none
  statics := none }

def pool16 : Array CpInfo := pool [(1, .class_ 2), (0, u "java/lang/String"), (1, .class_ 6), (1, u "java/lang/Object"), (0, u "<init>"), (0, u "()V"), (0, .methodref 1 10), (0, .nameAndType 11 12), (0, u "checkIndex"), (0, u "(II)V"), (1, .class_ 16), (1, u "java/lang/StringLatin1"), (36, u "([BI)C"), (67, u "$assertionsDisabled"), (0, u "Z"), (98, .class_ 223), (1, u "java/lang/StringLatin1$LinesSpliterator"), (28, u "charAt"), (137, .class_ 391), (0, u "java/lang/StringLatin1$CharsSpliterator")] 3

def k16m0 : Method := { name := "<init>", desc := "()V", sig := { parameters := [], returnType := none }, accessFlags := 0, code := none }
def k16c1 : Code := { maxStack := 2, maxLocals := 2, code := jdk_43_method_2_code, exceptionTable := #[], attributes := #[] }
def k16m1 : Method := { name := "charAt", desc := "([BI)C", sig := { parameters := [(.array .byte), .int], returnType := some .char }, accessFlags := 9, code := some k16c1 }
/-- java/lang/StringLatin1 -/
def k16 : Class := { plain "java/lang/StringLatin1" (some 0) with
  accessFlags := 48
  interfaces := #[]
  cf := some (fileOf pool16 14 #[.nestMembers #[390, 221]] #[{ accessFlags := 0, nameIndex := 7, descriptorIndex := 8, attributes := #[] }, { accessFlags := 9, nameIndex := 252, descriptorIndex := 53, attributes := #[] }] 48 4 #[] #[{ accessFlags := 4120, nameIndex := 121, descriptorIndex := 122, attributes := #[] }])
  fields := #[{ name := "$assertionsDisabled", type := .boolean, accessFlags := 4120, slot := 0, constantValue := 0 }]
  methods := #[k16m0, k16m1]
  instanceTypes := #[]
  staticTypes := #[.boolean]
  resolved := Array.replicate 395 none
  statics := none }

def pool17 : Array CpInfo := pool [(2, .class_ 4), (1, u "java/lang/Object"), (0, u "<init>"), (0, u "()V"), (17, .class_ 26), (1, u "jdk/internal/util/Preconditions"), (6, u "checkIndex"), (21, .class_ 56), (0, u "jdk/internal/util/Preconditions$4"), (57, .class_ 115), (0, u "jdk/internal/util/Preconditions$1"), (7, u "SIOOBE_FORMATTER"), (0, u "Ljava/util/function/BiFunction;"), (0, .class_ 126), (0, u "jdk/internal/util/Preconditions$2"), (3, u "AIOOBE_FORMATTER"), (0, .class_ 132), (0, u "jdk/internal/util/Preconditions$3"), (3, u "IOOBE_FORMATTER"), (41, u "(IILjava/util/function/BiFunction;)I")] 15

def k17m0 : Method := { name := "<init>", desc := "()V", sig := { parameters := [], returnType := none }, accessFlags := 1, code := none }
def k17c1 : Code := { maxStack := 3, maxLocals := 3, code := jdk_41_method_11_code, exceptionTable := #[], attributes := #[] }
def k17m1 : Method := { name := "checkIndex", desc := "(IILjava/util/function/BiFunction;)I", sig := { parameters := [.int, .int, (.object "java/util/function/BiFunction")], returnType := some .int }, accessFlags := 9, code := some k17c1 }
/-- jdk/internal/util/Preconditions -/
def k17 : Class := { plain "jdk/internal/util/Preconditions" (some 0) with
  accessFlags := 33
  interfaces := #[]
  cf := some (fileOf pool17 24 #[.nestMembers #[55, 131, 125, 114]] #[{ accessFlags := 1, nameIndex := 5, descriptorIndex := 6, attributes := #[] }, { accessFlags := 9, nameIndex := 33, descriptorIndex := 178, attributes := #[] }] 33 2 #[] #[{ accessFlags := 25, nameIndex := 123, descriptorIndex := 124, attributes := #[] }, { accessFlags := 25, nameIndex := 130, descriptorIndex := 124, attributes := #[] }, { accessFlags := 25, nameIndex := 136, descriptorIndex := 124, attributes := #[] }])
  fields := #[{ name := "SIOOBE_FORMATTER", type := (.object "java/util/function/BiFunction"), accessFlags := 25, slot := 0, constantValue := 0 }, { name := "AIOOBE_FORMATTER", type := (.object "java/util/function/BiFunction"), accessFlags := 25, slot := 1, constantValue := 0 }, { name := "IOOBE_FORMATTER", type := (.object "java/util/function/BiFunction"), accessFlags := 25, slot := 2, constantValue := 0 }]
  methods := #[k17m0, k17m1]
  instanceTypes := #[]
  staticTypes := #[(.object "java/util/function/BiFunction"), (.object "java/util/function/BiFunction"), (.object "java/util/function/BiFunction")]
  resolved := Array.replicate 194 none
  statics := some 1 }

def pool18 : Array CpInfo := pool [(6, .class_ 8), (1, u "java/lang/Object"), (0, u "<init>"), (0, u "()V"), (1, .class_ 14), (1, u "java/lang/StringUTF16"), (31, u "$assertionsDisabled"), (0, u "Z"), (13, u "HI_BYTE_SHIFT"), (0, u "I"), (2, u "LO_BYTE_SHIFT"), (49, .methodref 12 116), (0, .nameAndType 117 118), (0, u "compress"), (0, u "([CI[BII)I"), (3, u "([CII)[B"), (138, u "coderFromArrayLen"), (0, u "([BI)B"), (106, .class_ 371), (1, u "java/lang/StringUTF16$LinesSpliterator"), (58, u "MAX_LENGTH"), (196, .class_ 628), (0, u "java/lang/StringUTF16$CodePointsSpliterator"), (0, .class_ 630), (0, u "java/lang/StringUTF16$CharsSpliterator")] 4

def k18m0 : Method := { name := "<init>", desc := "()V", sig := { parameters := [], returnType := none }, accessFlags := 0, code := none }
def k18c1 : Code := { maxStack := 2, maxLocals := 2, code := jdk_52_method_15_code, exceptionTable := #[], attributes := #[] }
def k18m1 : Method := { name := "coderFromArrayLen", desc := "([BI)B", sig := { parameters := [(.array .byte), .int], returnType := some .byte }, accessFlags := 8, code := some k18c1 }
def k18c2 : Code := { maxStack := 5, maxLocals := 6, code := jdk_52_method_16_code, exceptionTable := #[], attributes := #[] }
def k18m2 : Method := { name := "compress", desc := "([CII)[B", sig := { parameters := [(.array .char), .int, .int], returnType := some (.array .byte) }, accessFlags := 9, code := some k18c2 }
def k18c3 : Code := { maxStack := 3, maxLocals := 7, code := jdk_52_method_21_code, exceptionTable := #[], attributes := #[] }
def k18m3 : Method := { name := "compress", desc := "([CI[BII)I", sig := { parameters := [(.array .char), .int, (.array .byte), .int, .int], returnType := some .int }, accessFlags := 9, code := some k18c3 }
/-- java/lang/StringUTF16 -/
def k18 : Class := { plain "java/lang/StringUTF16" (some 0) with
  accessFlags := 48
  interfaces := #[]
  cf := some (fileOf pool18 12 #[.nestMembers #[627, 629, 369]] #[{ accessFlags := 0, nameIndex := 9, descriptorIndex := 10, attributes := #[] }, { accessFlags := 8, nameIndex := 261, descriptorIndex := 262, attributes := #[] }, { accessFlags := 9, nameIndex := 117, descriptorIndex := 122, attributes := #[] }, { accessFlags := 9, nameIndex := 117, descriptorIndex := 118, attributes := #[] }] 48 6 #[] #[{ accessFlags := 26, nameIndex := 61, descriptorIndex := 62, attributes := #[] }, { accessFlags := 26, nameIndex := 65, descriptorIndex := 62, attributes := #[] }, { accessFlags := 24, nameIndex := 430, descriptorIndex := 62, attributes := #[] }, { accessFlags := 4120, nameIndex := 46, descriptorIndex := 47, attributes := #[] }])
  fields := #[{ name := "HI_BYTE_SHIFT", type := .int, accessFlags := 26, slot := 0, constantValue := 0 }, { name := "LO_BYTE_SHIFT", type := .int, accessFlags := 26, slot := 1, constantValue := 0 }, { name := "MAX_LENGTH", type := .int, accessFlags := 24, slot := 2, constantValue := 0 }, { name := "$assertionsDisabled", type := .boolean, accessFlags := 4120, slot := 3, constantValue := 0 }]
  methods := #[k18m0, k18m1, k18m2, k18m3]
  instanceTypes := #[]
  staticTypes := #[.int, .int, .int, .boolean]
  resolved := Array.replicate 635 none
  statics := none }

def pool19 : Array CpInfo := pool [(9, u "<init>"), (6, .class_ 18), (1, u "java/lang/Object"), (0, u "()V"), (1, .class_ 23), (1, u "jdk/internal/util/ArraysSupport"), (0, u "LOG2_ARRAY_LONG_INDEX_SCALE"), (0, u "I"), (2, u "U"), (0, u "Ljdk/internal/misc/Unsafe;"), (8, u "BIG_ENDIAN"), (0, u "Z"), (8, u "LOG2_BYTE_BIT_SIZE"), (4, u "LOG2_ARRAY_INT_INDEX_SCALE"), (54, u "JLA"), (0, u "Ljdk/internal/access/JavaLangAccess;"), (11, u "LOG2_ARRAY_BOOLEAN_INDEX_SCALE"), (9, u "LOG2_ARRAY_BYTE_INDEX_SCALE"), (5, u "LOG2_ARRAY_CHAR_INDEX_SCALE"), (5, u "LOG2_ARRAY_SHORT_INDEX_SCALE"), (18, u "LOG2_ARRAY_FLOAT_INDEX_SCALE"), (24, u "LOG2_ARRAY_DOUBLE_INDEX_SCALE"), (89, u "T_BOOLEAN"), (2, u "T_CHAR"), (1, u "T_FLOAT"), (1, u "T_DOUBLE"), (1, u "T_BYTE"), (1, u "T_SHORT"), (1, u "T_INT"), (1, u "T_LONG"), (1, u "SOFT_MAX_ARRAY_LENGTH")] 83

def k19m0 : Method := { name := "<init>", desc := "()V", sig := { parameters := [], returnType := none }, accessFlags := 2, code := none }
/-- jdk/internal/util/ArraysSupport -/
def k19 : Class := { plain "jdk/internal/util/ArraysSupport" (some 0) with
  accessFlags := 33
  interfaces := #[]
  cf := some (fileOf pool19 21 #[] #[{ accessFlags := 2, nameIndex := 9, descriptorIndex := 19, attributes := #[] }] 33 16 #[] #[{ accessFlags := 24, nameIndex := 28, descriptorIndex := 29, attributes := #[] }, { accessFlags := 26, nameIndex := 38, descriptorIndex := 39, attributes := #[] }, { accessFlags := 25, nameIndex := 121, descriptorIndex := 25, attributes := #[] }, { accessFlags := 25, nameIndex := 131, descriptorIndex := 25, attributes := #[] }, { accessFlags := 25, nameIndex := 137, descriptorIndex := 25, attributes := #[] }, { accessFlags := 25, nameIndex := 143, descriptorIndex := 25, attributes := #[] }, { accessFlags := 25, nameIndex := 53, descriptorIndex := 25, attributes := #[] }, { accessFlags := 25, nameIndex := 24, descriptorIndex := 25, attributes := #[] }, { accessFlags := 25, nameIndex := 162, descriptorIndex := 25, attributes := #[] }, { accessFlags := 25, nameIndex := 187, descriptorIndex := 25, attributes := #[] }, { accessFlags := 26, nameIndex := 48, descriptorIndex := 25, attributes := #[] }, { accessFlags := 25, nameIndex := 277, descriptorIndex := 25, attributes := #[] }, { accessFlags := 25, nameIndex := 280, descriptorIndex := 25, attributes := #[] }, { accessFlags := 25, nameIndex := 282, descriptorIndex := 25, attributes := #[] }, { accessFlags := 25, nameIndex := 284, descriptorIndex := 25, attributes := #[] }, { accessFlags := 25, nameIndex := 286, descriptorIndex := 25, attributes := #[] }, { accessFlags := 25, nameIndex := 288, descriptorIndex := 25, attributes := #[] }, { accessFlags := 25, nameIndex := 290, descriptorIndex := 25, attributes := #[] }, { accessFlags := 25, nameIndex := 292, descriptorIndex := 25, attributes := #[] }, { accessFlags := 26, nameIndex := 108, descriptorIndex := 109, attributes := #[] }, { accessFlags := 25, nameIndex := 294, descriptorIndex := 25, attributes := #[] }])
  fields := #[{ name := "U", type := (.object "jdk/internal/misc/Unsafe"), accessFlags := 24, slot := 0, constantValue := 0 }, { name := "BIG_ENDIAN", type := .boolean, accessFlags := 26, slot := 1, constantValue := 0 }, { name := "LOG2_ARRAY_BOOLEAN_INDEX_SCALE", type := .int, accessFlags := 25, slot := 2, constantValue := 0 }, { name := "LOG2_ARRAY_BYTE_INDEX_SCALE", type := .int, accessFlags := 25, slot := 3, constantValue := 0 }, { name := "LOG2_ARRAY_CHAR_INDEX_SCALE", type := .int, accessFlags := 25, slot := 4, constantValue := 0 }, { name := "LOG2_ARRAY_SHORT_INDEX_SCALE", type := .int, accessFlags := 25, slot := 5, constantValue := 0 }, { name := "LOG2_ARRAY_INT_INDEX_SCALE", type := .int, accessFlags := 25, slot := 6, constantValue := 0 }, { name := "LOG2_ARRAY_LONG_INDEX_SCALE", type := .int, accessFlags := 25, slot := 7, constantValue := 0 }, { name := "LOG2_ARRAY_FLOAT_INDEX_SCALE", type := .int, accessFlags := 25, slot := 8, constantValue := 0 }, { name := "LOG2_ARRAY_DOUBLE_INDEX_SCALE", type := .int, accessFlags := 25, slot := 9, constantValue := 0 }, { name := "LOG2_BYTE_BIT_SIZE", type := .int, accessFlags := 26, slot := 10, constantValue := 0 }, { name := "T_BOOLEAN", type := .int, accessFlags := 25, slot := 11, constantValue := 0 }, { name := "T_CHAR", type := .int, accessFlags := 25, slot := 12, constantValue := 0 }, { name := "T_FLOAT", type := .int, accessFlags := 25, slot := 13, constantValue := 0 }, { name := "T_DOUBLE", type := .int, accessFlags := 25, slot := 14, constantValue := 0 }, { name := "T_BYTE", type := .int, accessFlags := 25, slot := 15, constantValue := 0 }, { name := "T_SHORT", type := .int, accessFlags := 25, slot := 16, constantValue := 0 }, { name := "T_INT", type := .int, accessFlags := 25, slot := 17, constantValue := 0 }, { name := "T_LONG", type := .int, accessFlags := 25, slot := 18, constantValue := 0 }, { name := "JLA", type := (.object "jdk/internal/access/JavaLangAccess"), accessFlags := 26, slot := 19, constantValue := 0 }, { name := "SOFT_MAX_ARRAY_LENGTH", type := .int, accessFlags := 25, slot := 20, constantValue := 0 }]
  methods := #[k19m0]
  instanceTypes := #[]
  staticTypes := #[(.object "jdk/internal/misc/Unsafe"), .boolean, .int, .int, .int, .int, .int, .int, .int, .int, .int, .int, .int, .int, .int, .int, .int, .int, .int, (.object "jdk/internal/access/JavaLangAccess"), .int]
  resolved := Array.replicate 378 none
  statics := none }

def pool20 : Array CpInfo := pool [(1, u "java/lang/Cloneable"), (0, .class_ 1), (0, u "java/lang/Object"), (0, .class_ 3)] 3

/-- java/lang/Cloneable -/
def k20 : Class := { plain "java/lang/Cloneable" (some 0) with
  accessFlags := 1537
  interfaces := #[]
  cf := some (fileOf pool20 2 #[] #[] 1537 4 #[] #[])
  fields := #[]
  methods := #[]
  instanceTypes := #[]
  staticTypes := #[]
  resolved := Array.replicate 8 none
  statics := none }

/-- the primitive byte -/
def k21 : Class := { plain "byte" none with kind := .primitive 'B', accessFlags := 0x411 }
/-- [B -/
def k22 : Class := { plain "[B" (some 0) with kind := .array 21 .byte, interfaces := #[20, 2], accessFlags := 1041 }

/-- the primitive char -/
def k23 : Class := { plain "char" none with kind := .primitive 'C', accessFlags := 0x411 }
/-- [C -/
def k24 : Class := { plain "[C" (some 0) with kind := .array 23 .char, interfaces := #[20, 2], accessFlags := 1041 }

/-- the primitive int -/
def k25 : Class := { plain "int" none with kind := .primitive 'I', accessFlags := 0x411 }
/-- [I -/
def k26 : Class := { plain "[I" (some 0) with kind := .array 25 .int, interfaces := #[20, 2], accessFlags := 1041 }

def heap : Heap := #[{ cls := 7, slots := #[.long 0, .int 1, .null, .int 0, .null, .int 0, .int 0], vm := .statics 7 },
  { cls := 17, slots := #[.null, .null, .null], vm := .statics 17 }]
def classes : Array Class := #[k0, k1, k2, k3, k4, k5, k6, k7, k8, k9, k10, k11, k12, k13, k14, k15, k16, k17, k18, k19, k20, k21, k22, k23, k24, k25, k26]
def interned : List (Array UInt16 × Addr) := []
def slotsUsed : Nat := 10
def theMethod : MethodId := ⟨1, 2⟩
def args0 : Array Value := #[.int 5, .int 7, .int 9, .int 11, .int 13, .int 15]
def aboutOver (below : List Frame) : State where
  vm := { classes := classes, interned := interned.toArray }
  heap := heap
  slotsUsed := slotsUsed
  threads := #[{ frames := .invoking theMethod args0 :: below }]
def below0 : List Frame := [.native { method := ⟨0, 0⟩, args := #[] }]
def about1 : State := aboutOver below0
def p0 : Program := .bare "" "" ""
def e0 : Env := launch0.env 0 0 0
theorem w_frames : about1.frames = Frame.invoking theMethod args0 :: below0 := rfl
set_option maxRecDepth 65536 in
theorem w_args : argsFit about1.vm theMethod args0 = true := by decide +kernel
set_option maxRecDepth 65536 in
theorem w_heap : heapFits about1 = true := by decide +kernel
set_option maxRecDepth 65536 in
theorem w_runnable : about1.curStatus? = some .runnable := by decide +kernel
set_option maxRecDepth 65536 in
theorem w_alone : about1.alone = true := by decide +kernel
set_option maxRecDepth 65536 in
theorem w_named : about1.methodNamed? x = some theMethod := by decide +kernel
set_option maxRecDepth 65536 in
theorem w_hears : about1.hears theMethod below0 = true := by decide +kernel
set_option maxRecDepth 65536 in
theorem w_ripe : about1.ripe theMethod args0 below0 = true := by decide +kernel
theorem w_running : about1.status = .running := rfl
set_option maxRecDepth 65536 in
theorem w_room : about1.hasRoom e0.platform room_1 = true :=
  launch0.hasRoom_least _ room_1 (by decide +kernel) (by decide +kernel) (by decide +kernel) (by decide +kernel) (by decide +kernel) (by decide +kernel)
theorem allAtoms_all (ts : List Jvm.Cond) (a : Array Jvm.Value) (st : Jvm.State) : (allAtoms ts).before a st = ts.all (fun c => c.before a st) := by
  induction ts with
  | nil => rfl
  | cons c t ih =>
    show (Jvm.Cond.and c (allAtoms t)).before a st = _
    rw [Jvm.Cond.before_and, ih, List.all_cons]
def words1 : List Jvm.Cond := Jvm.Cond.code x code maxLocals ret :: tables_1
/-- a 'code' word, met by the world's own term for the bytes: nothing is compared byte by byte -/
theorem code_word {y : MethodName} {bytes : ByteArray} {mx : Nat} {rt : Option FieldType} {a : Array Value} {s : State} {m : MethodId} {meth : Method} {c : Code} (h1 : s.methodNamed? y = some m) (h2 : s.vm.method? m = some meth) (h3 : meth.code = some c) (h4 : c.code = bytes)
    (h5 : (c.maxLocals == mx && c.exceptionTable.isEmpty && decide (c.maxStack ≤ mostOperands) && decide (meth.sig.returnType = rt) && !meth.locks && decide (parseMethodDescriptor y.desc = some meth.sig)) = true) : (Jvm.Cond.code y bytes mx rt).before a s = true := by
  simp only [Bool.and_eq_true, beq_iff_eq, Bool.not_eq_true', decide_eq_true_eq] at h5
  obtain ⟨⟨⟨⟨⟨g1, g2⟩, g3⟩, g4⟩, g5⟩, g6⟩ := h5
  simp [Cond.before, Cond.holds, Cond.value, h1, h2, h3, h4, g1, g2, g3, g4, g5, g6]
def isCode : Jvm.Cond → Bool
  | .code _ _ _ _ => true
  | _ => false
theorem all_split {L : List Jvm.Cond} {P : Jvm.Cond → Bool} (h1 : L.all (fun c => isCode c || P c) = true) (h2 : ∀ c ∈ L.filter isCode, P c = true) : L.all P = true := by
  refine List.all_eq_true.mpr fun c hc => ?_
  have h := List.all_eq_true.mp h1 c hc
  rcases Bool.eq_false_or_eq_true (isCode c) with hi | hi
  · exact h2 c (List.mem_filter.mpr ⟨hc, hi⟩)
  · simpa [hi] using h
set_option maxRecDepth 65536 in
theorem w_c0 : (Jvm.Cond.code x code maxLocals ret).before args0 about1 = true := code_word (m := ⟨1, 2⟩) (meth := k1m2) (c := k1c2) (by decide +kernel) rfl rfl rfl (by decide +kernel)
set_option maxRecDepth 65536 in
theorem w_c1 : (Jvm.Cond.code ({ cls := "com/example/forager/forager/RoadNamePinLaw", name := "mk", desc := "(ICC)Ljava/lang/String;" } : Jvm.MethodName) method_2_code (3 : Nat) (Option.some (Jvm.ClassFile.FieldType.object "java/lang/String"))).before args0 about1 = true := code_word (m := ⟨1, 1⟩) (meth := k1m1) (c := k1c1) (by decide +kernel) rfl rfl rfl (by decide +kernel)
set_option maxRecDepth 65536 in
theorem w_c2 : (Jvm.Cond.code ({ cls := "java/lang/String", name := "<init>", desc := "([C)V" } : Jvm.MethodName) jdk_42_method_3_code (2 : Nat) (Option.none : Option Jvm.ClassFile.FieldType)).before args0 about1 = true := code_word (m := ⟨7, 1⟩) (meth := k7m1) (c := k7c1) (by decide +kernel) rfl rfl rfl (by decide +kernel)
set_option maxRecDepth 65536 in
theorem w_c3 : (Jvm.Cond.code ({ cls := "java/lang/String", name := "<init>", desc := "([CIILjava/lang/Void;)V" } : Jvm.MethodName) jdk_42_method_149_code (6 : Nat) (Option.none : Option Jvm.ClassFile.FieldType)).before args0 about1 = true := code_word (m := ⟨7, 6⟩) (meth := k7m6) (c := k7c6) (by decide +kernel) rfl rfl rfl (by decide +kernel)
set_option maxRecDepth 65536 in
theorem w_c4 : (Jvm.Cond.code ({ cls := "java/lang/Object", name := "<init>", desc := "()V" } : Jvm.MethodName) object_method_1_code (1 : Nat) (Option.none : Option Jvm.ClassFile.FieldType)).before args0 about1 = true := code_word (m := ⟨0, 0⟩) (meth := k0m0) (c := k0c0) (by decide +kernel) rfl rfl rfl (by decide +kernel)
set_option maxRecDepth 65536 in
theorem w_c5 : (Jvm.Cond.code ({ cls := "com/example/forager/forager/Road", name := "<init>", desc := "(Ljava/lang/String;Ljava/lang/String;D)V" } : Jvm.MethodName) prog_30_method_1_code (5 : Nat) (Option.none : Option Jvm.ClassFile.FieldType)).before args0 about1 = true := code_word (m := ⟨9, 0⟩) (meth := k9m0) (c := k9c0) (by decide +kernel) rfl rfl rfl (by decide +kernel)
set_option maxRecDepth 65536 in
theorem w_c6 : (Jvm.Cond.code ({ cls := "java/lang/Record", name := "<init>", desc := "()V" } : Jvm.MethodName) jdk_30_method_1_code (1 : Nat) (Option.none : Option Jvm.ClassFile.FieldType)).before args0 about1 = true := code_word (m := ⟨8, 0⟩) (meth := k8m0) (c := k8c0) (by decide +kernel) rfl rfl rfl (by decide +kernel)
set_option maxRecDepth 65536 in
theorem w_c7 : (Jvm.Cond.code ({ cls := "com/example/forager/forager/Road", name := "name", desc := "()Ljava/lang/String;" } : Jvm.MethodName) prog_30_method_2_code (1 : Nat) (Option.some (Jvm.ClassFile.FieldType.object "java/lang/String"))).before args0 about1 = true := code_word (m := ⟨9, 1⟩) (meth := k9m1) (c := k9c1) (by decide +kernel) rfl rfl rfl (by decide +kernel)
set_option maxRecDepth 65536 in
theorem w_c8 : (Jvm.Cond.code ({ cls := "java/lang/StringBuilder", name := "<init>", desc := "()V" } : Jvm.MethodName) jdk_67_method_1_code (1 : Nat) (Option.none : Option Jvm.ClassFile.FieldType)).before args0 about1 = true := code_word (m := ⟨12, 0⟩) (meth := k12m0) (c := k12c0) (by decide +kernel) rfl rfl rfl (by decide +kernel)
set_option maxRecDepth 65536 in
theorem w_c9 : (Jvm.Cond.code ({ cls := "java/lang/AbstractStringBuilder", name := "<init>", desc := "(I)V" } : Jvm.MethodName) jdk_68_method_2_code (2 : Nat) (Option.none : Option Jvm.ClassFile.FieldType)).before args0 about1 = true := code_word (m := ⟨11, 1⟩) (meth := k11m1) (c := k11c1) (by decide +kernel) rfl rfl rfl (by decide +kernel)
set_option maxRecDepth 65536 in
theorem w_c10 : (Jvm.Cond.code ({ cls := "java/lang/StringBuilder", name := "append", desc := "(Ljava/lang/String;)Ljava/lang/StringBuilder;" } : Jvm.MethodName) jdk_67_method_7_code (2 : Nat) (Option.some (Jvm.ClassFile.FieldType.object "java/lang/StringBuilder"))).before args0 about1 = true := code_word (m := ⟨12, 1⟩) (meth := k12m1) (c := k12c1) (by decide +kernel) rfl rfl rfl (by decide +kernel)
set_option maxRecDepth 65536 in
theorem w_c11 : (Jvm.Cond.code ({ cls := "java/lang/AbstractStringBuilder", name := "append", desc := "(Ljava/lang/String;)Ljava/lang/AbstractStringBuilder;" } : Jvm.MethodName) jdk_68_method_22_code (3 : Nat) (Option.some (Jvm.ClassFile.FieldType.object "java/lang/AbstractStringBuilder"))).before args0 about1 = true := code_word (m := ⟨11, 4⟩) (meth := k11m4) (c := k11c4) (by decide +kernel) rfl rfl rfl (by decide +kernel)
set_option maxRecDepth 65536 in
theorem w_c12 : (Jvm.Cond.code ({ cls := "java/lang/String", name := "length", desc := "()I" } : Jvm.MethodName) jdk_42_method_54_code (1 : Nat) (Option.some Jvm.ClassFile.FieldType.int)).before args0 about1 = true := code_word (m := ⟨7, 3⟩) (meth := k7m3) (c := k7c3) (by decide +kernel) rfl rfl rfl (by decide +kernel)
set_option maxRecDepth 65536 in
theorem w_c13 : (Jvm.Cond.code ({ cls := "java/lang/String", name := "coder", desc := "()B" } : Jvm.MethodName) jdk_42_method_152_code (1 : Nat) (Option.some Jvm.ClassFile.FieldType.byte)).before args0 about1 = true := code_word (m := ⟨7, 8⟩) (meth := k7m8) (c := k7c8) (by decide +kernel) rfl rfl rfl (by decide +kernel)
set_option maxRecDepth 65536 in
theorem w_c14 : (Jvm.Cond.code ({ cls := "java/lang/AbstractStringBuilder", name := "ensureCapacityInternal", desc := "(I)V" } : Jvm.MethodName) jdk_68_method_9_code (3 : Nat) (Option.none : Option Jvm.ClassFile.FieldType)).before args0 about1 = true := code_word (m := ⟨11, 3⟩) (meth := k11m3) (c := k11c3) (by decide +kernel) rfl rfl rfl (by decide +kernel)
set_option maxRecDepth 65536 in
theorem w_c15 : (Jvm.Cond.code ({ cls := "java/lang/AbstractStringBuilder", name := "putStringAt", desc := "(ILjava/lang/String;)V" } : Jvm.MethodName) jdk_68_method_73_code (3 : Nat) (Option.none : Option Jvm.ClassFile.FieldType)).before args0 about1 = true := code_word (m := ⟨11, 8⟩) (meth := k11m8) (c := k11c8) (by decide +kernel) rfl rfl rfl (by decide +kernel)
set_option maxRecDepth 65536 in
theorem w_c16 : (Jvm.Cond.code ({ cls := "java/lang/AbstractStringBuilder", name := "inflateIfNeededFor", desc := "(Ljava/lang/String;)V" } : Jvm.MethodName) jdk_68_method_71_code (2 : Nat) (Option.none : Option Jvm.ClassFile.FieldType)).before args0 about1 = true := code_word (m := ⟨11, 7⟩) (meth := k11m7) (c := k11c7) (by decide +kernel) rfl rfl rfl (by decide +kernel)
set_option maxRecDepth 65536 in
theorem w_c17 : (Jvm.Cond.code ({ cls := "java/lang/String", name := "getBytes", desc := "([BIB)V" } : Jvm.MethodName) jdk_42_method_147_code (4 : Nat) (Option.none : Option Jvm.ClassFile.FieldType)).before args0 about1 = true := code_word (m := ⟨7, 5⟩) (meth := k7m5) (c := k7c5) (by decide +kernel) rfl rfl rfl (by decide +kernel)
set_option maxRecDepth 65536 in
theorem w_c18 : (Jvm.Cond.code ({ cls := "java/lang/StringBuilder", name := "toString", desc := "()Ljava/lang/String;" } : Jvm.MethodName) jdk_67_method_42_code (1 : Nat) (Option.some (Jvm.ClassFile.FieldType.object "java/lang/String"))).before args0 about1 = true := code_word (m := ⟨12, 2⟩) (meth := k12m2) (c := k12c2) (by decide +kernel) rfl rfl rfl (by decide +kernel)
set_option maxRecDepth 65536 in
theorem w_c19 : (Jvm.Cond.code ({ cls := "java/lang/String", name := "<init>", desc := "(Ljava/lang/StringBuilder;)V" } : Jvm.MethodName) jdk_42_method_53_code (2 : Nat) (Option.none : Option Jvm.ClassFile.FieldType)).before args0 about1 = true := code_word (m := ⟨7, 2⟩) (meth := k7m2) (c := k7c2) (by decide +kernel) rfl rfl rfl (by decide +kernel)
set_option maxRecDepth 65536 in
theorem w_c20 : (Jvm.Cond.code ({ cls := "java/lang/String", name := "<init>", desc := "(Ljava/lang/AbstractStringBuilder;Ljava/lang/Void;)V" } : Jvm.MethodName) jdk_42_method_150_code (5 : Nat) (Option.none : Option Jvm.ClassFile.FieldType)).before args0 about1 = true := code_word (m := ⟨7, 7⟩) (meth := k7m7) (c := k7c7) (by decide +kernel) rfl rfl rfl (by decide +kernel)
set_option maxRecDepth 65536 in
theorem w_c21 : (Jvm.Cond.code ({ cls := "java/lang/AbstractStringBuilder", name := "getValue", desc := "()[B" } : Jvm.MethodName) jdk_68_method_64_code (1 : Nat) (Option.some (Jvm.ClassFile.FieldType.array Jvm.ClassFile.FieldType.byte))).before args0 about1 = true := code_word (m := ⟨11, 5⟩) (meth := k11m5) (c := k11c5) (by decide +kernel) rfl rfl rfl (by decide +kernel)
set_option maxRecDepth 65536 in
theorem w_c22 : (Jvm.Cond.code ({ cls := "java/lang/StringBuilder", name := "length", desc := "()I" } : Jvm.MethodName) jdk_67_method_93_code (1 : Nat) (Option.some Jvm.ClassFile.FieldType.int)).before args0 about1 = true := code_word (m := ⟨12, 3⟩) (meth := k12m3) (c := k12c3) (by decide +kernel) rfl rfl rfl (by decide +kernel)
set_option maxRecDepth 65536 in
theorem w_c23 : (Jvm.Cond.code ({ cls := "java/lang/AbstractStringBuilder", name := "length", desc := "()I" } : Jvm.MethodName) jdk_68_method_6_code (1 : Nat) (Option.some Jvm.ClassFile.FieldType.int)).before args0 about1 = true := code_word (m := ⟨11, 2⟩) (meth := k11m2) (c := k11c2) (by decide +kernel) rfl rfl rfl (by decide +kernel)
set_option maxRecDepth 65536 in
theorem w_c24 : (Jvm.Cond.code ({ cls := "java/lang/AbstractStringBuilder", name := "isLatin1", desc := "()Z" } : Jvm.MethodName) jdk_68_method_68_code (1 : Nat) (Option.some Jvm.ClassFile.FieldType.boolean)).before args0 about1 = true := code_word (m := ⟨11, 6⟩) (meth := k11m6) (c := k11c6) (by decide +kernel) rfl rfl rfl (by decide +kernel)
set_option maxRecDepth 65536 in
theorem w_c25 : (Jvm.Cond.code ({ cls := "java/util/Arrays", name := "copyOfRange", desc := "([BII)[B" } : Jvm.MethodName) jdk_65_method_132_code (3 : Nat) (Option.some (Jvm.ClassFile.FieldType.array Jvm.ClassFile.FieldType.byte))).before args0 about1 = true := code_word (m := ⟨14, 2⟩) (meth := k14m2) (c := k14c2) (by decide +kernel) rfl rfl rfl (by decide +kernel)
set_option maxRecDepth 65536 in
theorem w_c26 : (Jvm.Cond.code ({ cls := "java/util/Arrays", name := "copyOfRangeByte", desc := "([BII)[B" } : Jvm.MethodName) jdk_65_method_133_code (5 : Nat) (Option.some (Jvm.ClassFile.FieldType.array Jvm.ClassFile.FieldType.byte))).before args0 about1 = true := code_word (m := ⟨14, 3⟩) (meth := k14m3) (c := k14c3) (by decide +kernel) rfl rfl rfl (by decide +kernel)
set_option maxRecDepth 65536 in
theorem w_c27 : (Jvm.Cond.code ({ cls := "java/util/Arrays", name := "checkLength", desc := "(II)V" } : Jvm.MethodName) jdk_65_method_131_code (2 : Nat) (Option.none : Option Jvm.ClassFile.FieldType)).before args0 about1 = true := code_word (m := ⟨14, 1⟩) (meth := k14m1) (c := k14c1) (by decide +kernel) rfl rfl rfl (by decide +kernel)
set_option maxRecDepth 65536 in
theorem w_c28 : (Jvm.Cond.code ({ cls := "java/lang/Math", name := "min", desc := "(II)I" } : Jvm.MethodName) jdk_29_method_69_code (2 : Nat) (Option.some Jvm.ClassFile.FieldType.int)).before args0 about1 = true := code_word (m := ⟨15, 1⟩) (meth := k15m1) (c := k15c1) (by decide +kernel) rfl rfl rfl (by decide +kernel)
set_option maxRecDepth 65536 in
theorem w_c29 : (Jvm.Cond.code ({ cls := "java/lang/String", name := "charAt", desc := "(I)C" } : Jvm.MethodName) jdk_42_method_56_code (2 : Nat) (Option.some Jvm.ClassFile.FieldType.char)).before args0 about1 = true := code_word (m := ⟨7, 4⟩) (meth := k7m4) (c := k7c4) (by decide +kernel) rfl rfl rfl (by decide +kernel)
set_option maxRecDepth 65536 in
theorem w_c30 : (Jvm.Cond.code ({ cls := "java/lang/String", name := "isLatin1", desc := "()Z" } : Jvm.MethodName) jdk_42_method_154_code (1 : Nat) (Option.some Jvm.ClassFile.FieldType.boolean)).before args0 about1 = true := code_word (m := ⟨7, 9⟩) (meth := k7m9) (c := k7c9) (by decide +kernel) rfl rfl rfl (by decide +kernel)
set_option maxRecDepth 65536 in
theorem w_c31 : (Jvm.Cond.code ({ cls := "java/lang/StringLatin1", name := "charAt", desc := "([BI)C" } : Jvm.MethodName) jdk_43_method_2_code (2 : Nat) (Option.some Jvm.ClassFile.FieldType.char)).before args0 about1 = true := code_word (m := ⟨16, 1⟩) (meth := k16m1) (c := k16c1) (by decide +kernel) rfl rfl rfl (by decide +kernel)
set_option maxRecDepth 65536 in
theorem w_c32 : (Jvm.Cond.code ({ cls := "java/lang/String", name := "checkIndex", desc := "(II)V" } : Jvm.MethodName) jdk_42_method_155_code (2 : Nat) (Option.none : Option Jvm.ClassFile.FieldType)).before args0 about1 = true := code_word (m := ⟨7, 10⟩) (meth := k7m10) (c := k7c10) (by decide +kernel) rfl rfl rfl (by decide +kernel)
set_option maxRecDepth 65536 in
theorem w_c33 : (Jvm.Cond.code ({ cls := "jdk/internal/util/Preconditions", name := "checkIndex", desc := "(IILjava/util/function/BiFunction;)I" } : Jvm.MethodName) jdk_41_method_11_code (3 : Nat) (Option.some Jvm.ClassFile.FieldType.int)).before args0 about1 = true := code_word (m := ⟨17, 1⟩) (meth := k17m1) (c := k17c1) (by decide +kernel) rfl rfl rfl (by decide +kernel)
set_option maxRecDepth 65536 in
theorem w_c34 : (Jvm.Cond.code ({ cls := "java/lang/StringUTF16", name := "compress", desc := "([CII)[B" } : Jvm.MethodName) jdk_52_method_16_code (6 : Nat) (Option.some (Jvm.ClassFile.FieldType.array Jvm.ClassFile.FieldType.byte))).before args0 about1 = true := code_word (m := ⟨18, 2⟩) (meth := k18m2) (c := k18c2) (by decide +kernel) rfl rfl rfl (by decide +kernel)
set_option maxRecDepth 65536 in
theorem w_c35 : (Jvm.Cond.code ({ cls := "java/lang/StringUTF16", name := "compress", desc := "([CI[BII)I" } : Jvm.MethodName) jdk_52_method_21_code (7 : Nat) (Option.some Jvm.ClassFile.FieldType.int)).before args0 about1 = true := code_word (m := ⟨18, 3⟩) (meth := k18m3) (c := k18c3) (by decide +kernel) rfl rfl rfl (by decide +kernel)
set_option maxRecDepth 65536 in
theorem w_c36 : (Jvm.Cond.code ({ cls := "java/lang/StringUTF16", name := "coderFromArrayLen", desc := "([BI)B" } : Jvm.MethodName) jdk_52_method_15_code (2 : Nat) (Option.some Jvm.ClassFile.FieldType.byte)).before args0 about1 = true := code_word (m := ⟨18, 1⟩) (meth := k18m1) (c := k18c1) (by decide +kernel) rfl rfl rfl (by decide +kernel)
def codes1 : List Jvm.Cond := [Jvm.Cond.code x code maxLocals ret, Jvm.Cond.code ({ cls := "com/example/forager/forager/RoadNamePinLaw", name := "mk", desc := "(ICC)Ljava/lang/String;" } : Jvm.MethodName) method_2_code (3 : Nat) (Option.some (Jvm.ClassFile.FieldType.object "java/lang/String")), Jvm.Cond.code ({ cls := "java/lang/String", name := "<init>", desc := "([C)V" } : Jvm.MethodName) jdk_42_method_3_code (2 : Nat) (Option.none : Option Jvm.ClassFile.FieldType), Jvm.Cond.code ({ cls := "java/lang/String", name := "<init>", desc := "([CIILjava/lang/Void;)V" } : Jvm.MethodName) jdk_42_method_149_code (6 : Nat) (Option.none : Option Jvm.ClassFile.FieldType), Jvm.Cond.code ({ cls := "java/lang/Object", name := "<init>", desc := "()V" } : Jvm.MethodName) object_method_1_code (1 : Nat) (Option.none : Option Jvm.ClassFile.FieldType), Jvm.Cond.code ({ cls := "com/example/forager/forager/Road", name := "<init>", desc := "(Ljava/lang/String;Ljava/lang/String;D)V" } : Jvm.MethodName) prog_30_method_1_code (5 : Nat) (Option.none : Option Jvm.ClassFile.FieldType), Jvm.Cond.code ({ cls := "java/lang/Record", name := "<init>", desc := "()V" } : Jvm.MethodName) jdk_30_method_1_code (1 : Nat) (Option.none : Option Jvm.ClassFile.FieldType), Jvm.Cond.code ({ cls := "com/example/forager/forager/Road", name := "name", desc := "()Ljava/lang/String;" } : Jvm.MethodName) prog_30_method_2_code (1 : Nat) (Option.some (Jvm.ClassFile.FieldType.object "java/lang/String")), Jvm.Cond.code ({ cls := "java/lang/StringBuilder", name := "<init>", desc := "()V" } : Jvm.MethodName) jdk_67_method_1_code (1 : Nat) (Option.none : Option Jvm.ClassFile.FieldType), Jvm.Cond.code ({ cls := "java/lang/AbstractStringBuilder", name := "<init>", desc := "(I)V" } : Jvm.MethodName) jdk_68_method_2_code (2 : Nat) (Option.none : Option Jvm.ClassFile.FieldType), Jvm.Cond.code ({ cls := "java/lang/StringBuilder", name := "append", desc := "(Ljava/lang/String;)Ljava/lang/StringBuilder;" } : Jvm.MethodName) jdk_67_method_7_code (2 : Nat) (Option.some (Jvm.ClassFile.FieldType.object "java/lang/StringBuilder")), Jvm.Cond.code ({ cls := "java/lang/AbstractStringBuilder", name := "append", desc := "(Ljava/lang/String;)Ljava/lang/AbstractStringBuilder;" } : Jvm.MethodName) jdk_68_method_22_code (3 : Nat) (Option.some (Jvm.ClassFile.FieldType.object "java/lang/AbstractStringBuilder")), Jvm.Cond.code ({ cls := "java/lang/String", name := "length", desc := "()I" } : Jvm.MethodName) jdk_42_method_54_code (1 : Nat) (Option.some Jvm.ClassFile.FieldType.int), Jvm.Cond.code ({ cls := "java/lang/String", name := "coder", desc := "()B" } : Jvm.MethodName) jdk_42_method_152_code (1 : Nat) (Option.some Jvm.ClassFile.FieldType.byte), Jvm.Cond.code ({ cls := "java/lang/AbstractStringBuilder", name := "ensureCapacityInternal", desc := "(I)V" } : Jvm.MethodName) jdk_68_method_9_code (3 : Nat) (Option.none : Option Jvm.ClassFile.FieldType), Jvm.Cond.code ({ cls := "java/lang/AbstractStringBuilder", name := "putStringAt", desc := "(ILjava/lang/String;)V" } : Jvm.MethodName) jdk_68_method_73_code (3 : Nat) (Option.none : Option Jvm.ClassFile.FieldType), Jvm.Cond.code ({ cls := "java/lang/AbstractStringBuilder", name := "inflateIfNeededFor", desc := "(Ljava/lang/String;)V" } : Jvm.MethodName) jdk_68_method_71_code (2 : Nat) (Option.none : Option Jvm.ClassFile.FieldType), Jvm.Cond.code ({ cls := "java/lang/String", name := "getBytes", desc := "([BIB)V" } : Jvm.MethodName) jdk_42_method_147_code (4 : Nat) (Option.none : Option Jvm.ClassFile.FieldType), Jvm.Cond.code ({ cls := "java/lang/StringBuilder", name := "toString", desc := "()Ljava/lang/String;" } : Jvm.MethodName) jdk_67_method_42_code (1 : Nat) (Option.some (Jvm.ClassFile.FieldType.object "java/lang/String")), Jvm.Cond.code ({ cls := "java/lang/String", name := "<init>", desc := "(Ljava/lang/StringBuilder;)V" } : Jvm.MethodName) jdk_42_method_53_code (2 : Nat) (Option.none : Option Jvm.ClassFile.FieldType), Jvm.Cond.code ({ cls := "java/lang/String", name := "<init>", desc := "(Ljava/lang/AbstractStringBuilder;Ljava/lang/Void;)V" } : Jvm.MethodName) jdk_42_method_150_code (5 : Nat) (Option.none : Option Jvm.ClassFile.FieldType), Jvm.Cond.code ({ cls := "java/lang/AbstractStringBuilder", name := "getValue", desc := "()[B" } : Jvm.MethodName) jdk_68_method_64_code (1 : Nat) (Option.some (Jvm.ClassFile.FieldType.array Jvm.ClassFile.FieldType.byte)), Jvm.Cond.code ({ cls := "java/lang/StringBuilder", name := "length", desc := "()I" } : Jvm.MethodName) jdk_67_method_93_code (1 : Nat) (Option.some Jvm.ClassFile.FieldType.int), Jvm.Cond.code ({ cls := "java/lang/AbstractStringBuilder", name := "length", desc := "()I" } : Jvm.MethodName) jdk_68_method_6_code (1 : Nat) (Option.some Jvm.ClassFile.FieldType.int), Jvm.Cond.code ({ cls := "java/lang/AbstractStringBuilder", name := "isLatin1", desc := "()Z" } : Jvm.MethodName) jdk_68_method_68_code (1 : Nat) (Option.some Jvm.ClassFile.FieldType.boolean), Jvm.Cond.code ({ cls := "java/util/Arrays", name := "copyOfRange", desc := "([BII)[B" } : Jvm.MethodName) jdk_65_method_132_code (3 : Nat) (Option.some (Jvm.ClassFile.FieldType.array Jvm.ClassFile.FieldType.byte)), Jvm.Cond.code ({ cls := "java/util/Arrays", name := "copyOfRangeByte", desc := "([BII)[B" } : Jvm.MethodName) jdk_65_method_133_code (5 : Nat) (Option.some (Jvm.ClassFile.FieldType.array Jvm.ClassFile.FieldType.byte)), Jvm.Cond.code ({ cls := "java/util/Arrays", name := "checkLength", desc := "(II)V" } : Jvm.MethodName) jdk_65_method_131_code (2 : Nat) (Option.none : Option Jvm.ClassFile.FieldType), Jvm.Cond.code ({ cls := "java/lang/Math", name := "min", desc := "(II)I" } : Jvm.MethodName) jdk_29_method_69_code (2 : Nat) (Option.some Jvm.ClassFile.FieldType.int), Jvm.Cond.code ({ cls := "java/lang/String", name := "charAt", desc := "(I)C" } : Jvm.MethodName) jdk_42_method_56_code (2 : Nat) (Option.some Jvm.ClassFile.FieldType.char), Jvm.Cond.code ({ cls := "java/lang/String", name := "isLatin1", desc := "()Z" } : Jvm.MethodName) jdk_42_method_154_code (1 : Nat) (Option.some Jvm.ClassFile.FieldType.boolean), Jvm.Cond.code ({ cls := "java/lang/StringLatin1", name := "charAt", desc := "([BI)C" } : Jvm.MethodName) jdk_43_method_2_code (2 : Nat) (Option.some Jvm.ClassFile.FieldType.char), Jvm.Cond.code ({ cls := "java/lang/String", name := "checkIndex", desc := "(II)V" } : Jvm.MethodName) jdk_42_method_155_code (2 : Nat) (Option.none : Option Jvm.ClassFile.FieldType), Jvm.Cond.code ({ cls := "jdk/internal/util/Preconditions", name := "checkIndex", desc := "(IILjava/util/function/BiFunction;)I" } : Jvm.MethodName) jdk_41_method_11_code (3 : Nat) (Option.some Jvm.ClassFile.FieldType.int), Jvm.Cond.code ({ cls := "java/lang/StringUTF16", name := "compress", desc := "([CII)[B" } : Jvm.MethodName) jdk_52_method_16_code (6 : Nat) (Option.some (Jvm.ClassFile.FieldType.array Jvm.ClassFile.FieldType.byte)), Jvm.Cond.code ({ cls := "java/lang/StringUTF16", name := "compress", desc := "([CI[BII)I" } : Jvm.MethodName) jdk_52_method_21_code (7 : Nat) (Option.some Jvm.ClassFile.FieldType.int), Jvm.Cond.code ({ cls := "java/lang/StringUTF16", name := "coderFromArrayLen", desc := "([BI)B" } : Jvm.MethodName) jdk_52_method_15_code (2 : Nat) (Option.some Jvm.ClassFile.FieldType.byte)]
set_option maxRecDepth 65536 in
theorem codes_eq : words1.filter isCode = codes1 := rfl
theorem w_codes : ∀ c ∈ words1.filter isCode, c.before args0 about1 = true := by
  rw [codes_eq]
  intro c hc
  simp only [codes1, List.mem_cons, List.not_mem_nil, or_false] at hc
  rcases hc with rfl | rfl | rfl | rfl | rfl | rfl | rfl | rfl | rfl | rfl | rfl | rfl | rfl | rfl | rfl | rfl | rfl | rfl | rfl | rfl | rfl | rfl | rfl | rfl | rfl | rfl | rfl | rfl | rfl | rfl | rfl | rfl | rfl | rfl | rfl | rfl | rfl
  · exact w_c0
  · exact w_c1
  · exact w_c2
  · exact w_c3
  · exact w_c4
  · exact w_c5
  · exact w_c6
  · exact w_c7
  · exact w_c8
  · exact w_c9
  · exact w_c10
  · exact w_c11
  · exact w_c12
  · exact w_c13
  · exact w_c14
  · exact w_c15
  · exact w_c16
  · exact w_c17
  · exact w_c18
  · exact w_c19
  · exact w_c20
  · exact w_c21
  · exact w_c22
  · exact w_c23
  · exact w_c24
  · exact w_c25
  · exact w_c26
  · exact w_c27
  · exact w_c28
  · exact w_c29
  · exact w_c30
  · exact w_c31
  · exact w_c32
  · exact w_c33
  · exact w_c34
  · exact w_c35
  · exact w_c36
set_option maxRecDepth 65536 in
theorem w_t1 : (words1.take 24).all (fun c => isCode c || c.before args0 about1) = true := by decide +kernel
set_option maxRecDepth 65536 in
theorem w_t2 : ((words1.drop 24).take 24).all (fun c => isCode c || c.before args0 about1) = true := by decide +kernel
set_option maxRecDepth 65536 in
theorem w_t3 : (((words1.drop 24).drop 24).take 24).all (fun c => isCode c || c.before args0 about1) = true := by decide +kernel
set_option maxRecDepth 65536 in
theorem w_t4 : ((((words1.drop 24).drop 24).drop 24).take 24).all (fun c => isCode c || c.before args0 about1) = true := by decide +kernel
set_option maxRecDepth 65536 in
theorem w_t5 : (((((words1.drop 24).drop 24).drop 24).drop 24).take 24).all (fun c => isCode c || c.before args0 about1) = true := by decide +kernel
set_option maxRecDepth 65536 in
theorem w_t6 : ((((((words1.drop 24).drop 24).drop 24).drop 24).drop 24).take 24).all (fun c => isCode c || c.before args0 about1) = true := by decide +kernel
set_option maxRecDepth 65536 in
theorem w_t7 : (((((((words1.drop 24).drop 24).drop 24).drop 24).drop 24).drop 24).take 24).all (fun c => isCode c || c.before args0 about1) = true := by decide +kernel
set_option maxRecDepth 65536 in
theorem w_t8 : ((((((((words1.drop 24).drop 24).drop 24).drop 24).drop 24).drop 24).drop 24).take 24).all (fun c => isCode c || c.before args0 about1) = true := by decide +kernel
set_option maxRecDepth 65536 in
theorem w_t9 : ((((((((words1.drop 24).drop 24).drop 24).drop 24).drop 24).drop 24).drop 24).drop 24).all (fun c => isCode c || c.before args0 about1) = true := by decide +kernel
theorem w_tables : (allAtoms (Jvm.Cond.code x code maxLocals ret :: tables_1)).before args0 about1 = true := by
  rw [allAtoms_all]
  show words1.all (fun c => c.before args0 about1) = true
  refine all_split ?_ w_codes
  rw [← List.take_append_drop 24 words1, List.all_append, w_t1, ← List.take_append_drop 24 (words1.drop 24), List.all_append, w_t2, ← List.take_append_drop 24 ((words1.drop 24).drop 24), List.all_append, w_t3, ← List.take_append_drop 24 (((words1.drop 24).drop 24).drop 24), List.all_append, w_t4, ← List.take_append_drop 24 ((((words1.drop 24).drop 24).drop 24).drop 24), List.all_append, w_t5, ← List.take_append_drop 24 (((((words1.drop 24).drop 24).drop 24).drop 24).drop 24), List.all_append, w_t6, ← List.take_append_drop 24 ((((((words1.drop 24).drop 24).drop 24).drop 24).drop 24).drop 24), List.all_append, w_t7, ← List.take_append_drop 24 (((((((words1.drop 24).drop 24).drop 24).drop 24).drop 24).drop 24).drop 24), List.all_append, w_t8, w_t9]
  rfl
set_option maxRecDepth 65536 in
theorem w_rest : rest_1_c.before args0 about1 = true := by decide +kernel
set_option maxRecDepth 65536 in
theorem w_case : (Jvm.Cond.and given_1 narrow_1).before args0 about1 = true := by decide +kernel
set_option maxRecDepth 65536 in
theorem w_consts : constsHeld consts_1 about1 := Jvm.Lit.constsHeldB_iff.mp (by decide +kernel)
theorem w_applies : (headSpec (Jvm.Cond.code x code maxLocals ret :: tables_1) room_1).applies x e0.platform about1 = true :=
  (Spec.applies_iff w_frames).mpr ⟨w_running, w_runnable, w_alone, w_named, w_hears, w_ripe, w_room, w_tables⟩
theorem atStart : AtStart classFile x code maxLocals ret World_1 tables_1 room_1 Calls_1 rest_1 Pre_1 launch0 p0 e0 about1 theMethod args0 below0 :=
  ⟨lists_1, trivial, launch0.admits_env _ _ _, launch0.least_env, fairChoices_fair.cas, fairChoices_fair.clock, w_frames, w_args, w_heap, w_applies, ⟨w_consts, trivial⟩, w_rest, w_case⟩
end start1
theorem witness_1 : WitnessClaimed_1 := ⟨start1.p0, start1.e0, start1.about1, start1.theMethod, start1.args0, start1.below0, start1.atStart⟩
end Jvm.Pilot.@@N@@
