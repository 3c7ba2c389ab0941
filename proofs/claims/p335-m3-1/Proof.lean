import JvmDerived
import JvmDerived.Pilot.@@N@@Statement
import JvmDerived.Pilot.@@N@@Code
set_option linter.unusedVariables false
set_option linter.unusedSimpArgs false
namespace Jvm.OwnFP
open Jvm.FP Jvm.FP.Core
/-- a double's value in units of the least double, 2^-1074 -/
abbrev Zv (a : UInt64) : Int := zval b64 (val64 a)
theorem fin_ne {a : UInt64} (h : DFin a) : val64 a ≠ .nan := by
  obtain ⟨s, c, q, h⟩ := h; rw [h]; exact Datum.noConfusion
theorem mul_ne {a b : UInt64} (ha : DFin a) (hb : DFin b) : val64 (FP.dmul a b) ≠ .nan :=
  Jvm.Free.Fl.val64_no.mp (Jvm.Free.Fl.dmul_out (Jvm.Free.Fl.fin64_core.mpr ha) (Jvm.Free.Fl.fin64_core.mpr hb))
theorem add_ne {a b : UInt64} (ha : DFin a) (hb : DFin b) : val64 (FP.dadd a b) ≠ .nan :=
  Jvm.Free.Fl.val64_no.mp (Jvm.Free.Fl.dadd_out (Jvm.Free.Fl.fin64_core.mpr ha).noNaN (Jvm.Free.Fl.fin64_core.mpr hb))
theorem sub_ne {a b : UInt64} (ha : DFin a) (hb : DFin b) : val64 (FP.dsub a b) ≠ .nan :=
  Jvm.Free.Fl.val64_no.mp (Jvm.Free.Fl.dsub_out (Jvm.Free.Fl.fin64_core.mpr ha).noNaN (Jvm.Free.Fl.fin64_core.mpr hb))
theorem fin_of {r U V : UInt64} (hr : val64 r ≠ .nan) (hU : DFin U) (hV : DFin V) (h1 : Zv U ≤ Zv r) (h2 : Zv r ≤ Zv V) : DFin r := by
  have uU := hU.zval_lt
  have uV := hV.zval_lt
  have aU : (Zv U).natAbs = zmag b64 (val64 U) := natAbs_signed _ _
  have aV : (Zv V).natAbs = zmag b64 (val64 V) := natAbs_signed _ _
  have ar : (Zv r).natAbs = zmag b64 (val64 r) := natAbs_signed _ _
  cases e : val64 r with
  | nan => exact absurd e hr
  | fin s c q => exact ⟨s, c, q, e⟩
  | inf s =>
    have e2 : zmag b64 (val64 r) = b64.tails * 2 ^ (b64.exps - 2) := by rw [e]; rfl
    rw [e2] at ar
    generalize b64.tails * 2 ^ (b64.exps - 2) = top at *
    omega
theorem dmul_le {a b V : UInt64} (ha : DFin a) (hb : DFin b) (hV : val64 V ≠ .nan) (h : Zv a * Zv b ≤ Zv V * (one64 : Int)) : Zv (FP.dmul a b) ≤ Zv V := by
  obtain ⟨s, c, q, ea⟩ := ha
  obtain ⟨t, d, r, eb⟩ := hb
  have fa := val64_fits a
  have fb := val64_fits b
  unfold Zv at h ⊢
  rw [ea] at fa h
  rw [eb] at fb h
  obtain ⟨p1, p2, p3⟩ := product_units fa fb
  rw [val64_dmul, ea, eb, p1]
  have hq := qmin_neg good_b64
  refine zval_round_le good_b64 (val64_fits V) hV (e0 := 2 * b64.qmin) (by omega) p2 ?_
  rw [p3, signed_xor, show (b64.qmin - 2 * b64.qmin).toNat = (-b64.qmin).toNat by omega, pow_qmin64]
  exact h
theorem dmul_ge {a b V : UInt64} (ha : DFin a) (hb : DFin b) (hV : val64 V ≠ .nan) (h : Zv V * (one64 : Int) ≤ Zv a * Zv b) : Zv V ≤ Zv (FP.dmul a b) := by
  obtain ⟨s, c, q, ea⟩ := ha
  obtain ⟨t, d, r, eb⟩ := hb
  have fa := val64_fits a
  have fb := val64_fits b
  unfold Zv at h ⊢
  rw [ea] at fa h
  rw [eb] at fb h
  obtain ⟨p1, p2, p3⟩ := product_units fa fb
  rw [val64_dmul, ea, eb, p1]
  have hq := qmin_neg good_b64
  refine zval_round_ge good_b64 (val64_fits V) hV (e0 := 2 * b64.qmin) (by omega) p2 ?_
  rw [p3, signed_xor, show (b64.qmin - 2 * b64.qmin).toNat = (-b64.qmin).toNat by omega, pow_qmin64]
  exact h
theorem dadd_le {a b V : UInt64} (ha : DFin a) (hb : DFin b) (hV : val64 V ≠ .nan) (h : Zv a + Zv b ≤ Zv V) : Zv (FP.dadd a b) ≤ Zv V := by
  unfold Zv at h ⊢
  rw [val64_dadd]; exact sum_le good_b64 ha hb (val64_fits a) (val64_fits b) (val64_fits V) hV h
theorem dadd_ge {a b V : UInt64} (ha : DFin a) (hb : DFin b) (hV : val64 V ≠ .nan) (h : Zv V ≤ Zv a + Zv b) : Zv V ≤ Zv (FP.dadd a b) := by
  unfold Zv at h ⊢
  rw [val64_dadd]; exact sum_ge good_b64 ha hb (val64_fits a) (val64_fits b) (val64_fits V) hV h
theorem neg_fin {a : UInt64} (h : DFin a) : DFin (FP.dneg a) := by
  obtain ⟨s, c, q, h⟩ := h
  exact ⟨!s, c, q, by rw [FP.val64_dneg, h]; rfl⟩
theorem Zv_neg (a : UInt64) : Zv (FP.dneg a) = -Zv a := by unfold Zv; rw [FP.val64_dneg, zval_negate]
theorem cneg_fin {a : UInt64} (h : DFin a) : DFin (Core.dneg a) := by
  obtain ⟨s, c, q, h⟩ := h
  exact ⟨!s, c, q, by rw [Core.val64_dneg, h]; rfl⟩
theorem Zv_cneg (a : UInt64) : Zv (Core.dneg a) = -Zv a := by unfold Zv; rw [Core.val64_dneg, zval_negate]
theorem dsub_le {a b V : UInt64} (ha : DFin a) (hb : DFin b) (hV : val64 V ≠ .nan) (h : Zv a - Zv b ≤ Zv V) : Zv (FP.dsub a b) ≤ Zv V := by
  show Zv (Core.dsub a b) ≤ _
  rw [Core.dsub_eq]; exact dadd_le ha (cneg_fin hb) hV (by rw [Zv_cneg]; omega)
theorem dsub_ge {a b V : UInt64} (ha : DFin a) (hb : DFin b) (hV : val64 V ≠ .nan) (h : Zv V ≤ Zv a - Zv b) : Zv V ≤ Zv (FP.dsub a b) := by
  show _ ≤ Zv (Core.dsub a b)
  rw [Core.dsub_eq]; exact dadd_ge ha (cneg_fin hb) hV (by rw [Zv_cneg]; omega)
/-- where the exact value is a double's, it is the result's -/
theorem dmul_eq {a b V : UInt64} (ha : DFin a) (hb : DFin b) (hV : DFin V) (h : Zv a * Zv b = Zv V * (one64 : Int)) : DFin (FP.dmul a b) ∧ Zv (FP.dmul a b) = Zv V := by
  have h1 := dmul_le ha hb (fin_ne hV) (Int.le_of_eq h)
  have h2 := dmul_ge ha hb (fin_ne hV) (Int.le_of_eq h.symm)
  exact ⟨fin_of (mul_ne ha hb) hV hV h2 h1, Int.le_antisymm h1 h2⟩
theorem dadd_eq {a b V : UInt64} (ha : DFin a) (hb : DFin b) (hV : DFin V) (h : Zv a + Zv b = Zv V) : DFin (FP.dadd a b) ∧ Zv (FP.dadd a b) = Zv V := by
  have h1 := dadd_le ha hb (fin_ne hV) (Int.le_of_eq h)
  have h2 := dadd_ge ha hb (fin_ne hV) (Int.le_of_eq h.symm)
  exact ⟨fin_of (add_ne ha hb) hV hV h2 h1, Int.le_antisymm h1 h2⟩
theorem dsub_eq {a b V : UInt64} (ha : DFin a) (hb : DFin b) (hV : DFin V) (h : Zv a - Zv b = Zv V) : DFin (FP.dsub a b) ∧ Zv (FP.dsub a b) = Zv V := by
  have h1 := dsub_le ha hb (fin_ne hV) (Int.le_of_eq h)
  have h2 := dsub_ge ha hb (fin_ne hV) (Int.le_of_eq h.symm)
  exact ⟨fin_of (sub_ne ha hb) hV hV h2 h1, Int.le_antisymm h1 h2⟩
theorem signed_self (N : Int) (k : Nat) : signed (decide (N < 0)) (N.natAbs * k) = N * (k : Int) := by
  rw [signed_mul]
  congr 1
  unfold signed
  by_cases h : N < 0 <;> simp [h] <;> omega
/-- every N * 2^k units, N of up to 53 digits, is a double -/
theorem rep (N : Int) (k : Nat) (hN : N.natAbs < 2 ^ 53) (hk : k ≤ 2045) : ∃ V, DFin V ∧ Zv V = N * ((2 ^ k : Nat) : Int) := by
  have q1 := qmin_b64
  have q2 : b64.qmax = 971 := by decide
  obtain ⟨c', q', h1, h2⟩ := round_exact good_b64 (decide (N < 0)) (c := N.natAbs) (q := (k : Int) - 1074) hN (by omega) (by omega)
  have hv : val64 (of64 (round b64 (.fin (decide (N < 0)) N.natAbs ((k : Int) - 1074)))) = .fin (decide (N < 0)) c' q' := by
    rw [val64_of64 (round_fits good_b64 _), h1]
  refine ⟨_, ⟨_, _, _, hv⟩, ?_⟩
  unfold Zv
  rw [hv]
  show signed (decide (N < 0)) (inUnits c' q' b64.qmin) = _
  rw [h2, q1]
  unfold inUnits
  rw [show ((k : Int) - 1074 - -1074).toNat = k by omega]
  exact signed_self N _
/-- the double a is N * 2^(k - 1074) -/
def Val (a : UInt64) (N : Int) (k : Nat) : Prop := DFin a ∧ Zv a = N * ((2 ^ k : Nat) : Int)
theorem one_pow : (one64 : Int) = ((2 ^ 1074 : Nat) : Int) := rfl
theorem Val.of_int {i : Int} {a : UInt64} (h : DInt i a) : Val a i 1074 := by
  refine ⟨?_, (DInt_zval h).trans (by rw [one_pow])⟩
  unfold DInt at h
  cases e : val64 a with
  | nan => rw [e] at h; exact h.elim
  | inf s => rw [e] at h; exact h.elim
  | fin s c q => exact ⟨s, c, q, e⟩
theorem Val.i2d (n : Int32) : Val (FP.i2d n) n.toInt 1074 := Val.of_int (i2d_int n)
theorem Val.l2d {n : Int64} (h : n.toInt.natAbs ≤ 2 ^ 53) : Val (FP.l2d n) n.toInt 1074 := Val.of_int (l2d_int h)
theorem Val.neg {a : UInt64} {N : Int} {k : Nat} (h : Val a N k) : Val (FP.dneg a) (-N) k := ⟨neg_fin h.1, by rw [Zv_neg, h.2, Int.neg_mul]⟩
theorem pow_cast (k j : Nat) : ((2 ^ (k + j) : Nat) : Int) = ((2 ^ k : Nat) : Int) * ((2 ^ j : Nat) : Int) := by
  rw [Nat.pow_add, Int.natCast_mul]
theorem Val.mul {a b : UInt64} {N M : Int} {k j i : Nat} (ha : Val a N k) (hb : Val b M j) (hN : (N * M).natAbs < 2 ^ 53) (hi : k + j = i + 1074) (hk : i ≤ 2045) : Val (FP.dmul a b) (N * M) i := by
  obtain ⟨V, fV, zV⟩ := rep (N * M) i hN hk
  obtain ⟨h1, h2⟩ := dmul_eq ha.1 hb.1 fV (by
    rw [ha.2, hb.2, zV, one_pow, Int.mul_assoc (N * M), ← pow_cast, ← hi, pow_cast, Int.mul_assoc N M, Int.mul_assoc N, Int.mul_left_comm _ M])
  exact ⟨h1, h2.trans zV⟩
theorem Val.add {a b : UInt64} {N M : Int} {k : Nat} (ha : Val a N k) (hb : Val b M k) (hN : (N + M).natAbs < 2 ^ 53) (hk : k ≤ 2045) : Val (FP.dadd a b) (N + M) k := by
  obtain ⟨V, fV, zV⟩ := rep (N + M) k hN hk
  obtain ⟨h1, h2⟩ := dadd_eq ha.1 hb.1 fV (by rw [ha.2, hb.2, zV, Int.add_mul])
  exact ⟨h1, h2.trans zV⟩
theorem Val.sub {a b : UInt64} {N M : Int} {k : Nat} (ha : Val a N k) (hb : Val b M k) (hN : (N - M).natAbs < 2 ^ 53) (hk : k ≤ 2045) : Val (FP.dsub a b) (N - M) k := by
  obtain ⟨V, fV, zV⟩ := rep (N - M) k hN hk
  obtain ⟨h1, h2⟩ := dsub_eq ha.1 hb.1 fV (by rw [ha.2, hb.2, zV, Int.sub_mul])
  exact ⟨h1, h2.trans zV⟩
theorem pow_pos' (k : Nat) : (0 : Int) < ((2 ^ k : Nat) : Int) := by have := Nat.two_pow_pos k; omega
theorem Val.cmp {a b : UInt64} {N M : Int} {k : Nat} (ha : Val a N k) (hb : Val b M k) : FP.dcmp a b = some (compare N M) := by
  have h : FP.dcmp a b = some (compare (Zv a) (Zv b)) := dcmp_zval (fin_ne ha.1) (fin_ne hb.1)
  rw [h, ha.2, hb.2, compare_mul_pos _ _ _ (pow_pos' k)]
theorem Val.scale {a : UInt64} {N : Int} {k : Nat} (j : Nat) (ha : Val a N (k + j)) : Val a (N * ((2 ^ j : Nat) : Int)) k :=
  ⟨ha.1, by rw [ha.2, pow_cast, Int.mul_assoc, Int.mul_comm ((2 ^ k : Nat) : Int)]⟩
theorem lt_iff {a b : UInt64} (ha : DFin a) (hb : DFin b) : FP.dcmp a b = some .lt ↔ Zv a < Zv b :=
  ⟨fun h => (dcmp_lt.mp h).2.2, fun h => dcmp_lt.mpr ⟨fin_ne ha, fin_ne hb, h⟩⟩
theorem eq_iff {a b : UInt64} (ha : DFin a) (hb : DFin b) : FP.dcmp a b = some .eq ↔ Zv a = Zv b :=
  ⟨fun h => (dcmp_eq.mp h).2.2, fun h => dcmp_eq.mpr ⟨fin_ne ha, fin_ne hb, h⟩⟩
theorem le_iff {a b : UInt64} (ha : DFin a) (hb : DFin b) : (FP.dcmp a b = some .lt ∨ FP.dcmp a b = some .eq) ↔ Zv a ≤ Zv b := by
  rw [lt_iff ha hb, eq_iff ha hb]; omega
theorem dfin_const {a : UInt64} (h : a.toNat % 9223372036854775808 < 9218868437227405312) : DFin a := (Core.fin_bits a).mpr h
end Jvm.OwnFP
namespace Jvm.Pilot.@@N@@
open Jvm Jvm.ClassFile Sem Op Lib Jvm.Free Jvm.Stand Jvm.LawKit Jvm.RoadKit Bundle Jvm.Pilot.@@N@@.Jvm.D
abbrev Go (p : Program) (e : Env) (below : List Frame) (t T : State) (m : MethodId) (pc : Nat) (ls : Array Slot) (st : List Value) : Prop := Steps p.tables e below (T.setTop (mkF m pc ls st)) t
/-- from A the run comes to B -/
def Goes (p : Program) (e : Env) (below : List Frame) (A B : State) : Prop := ∀ t, Steps p.tables e below B t → Steps p.tables e below A t
abbrev dLt (x y : UInt64) : Prop := FP.dcmp x y = some .lt
abbrev dEq (x y : UInt64) : Prop := FP.dcmp x y = some .eq
abbrev dLe (x y : UInt64) : Prop := FP.dcmp x y = some .lt ∨ FP.dcmp x y = some .eq
abbrev fLt (x y : UInt32) : Prop := FP.fcmp x y = some .lt
abbrev fEq (x y : UInt32) : Prop := FP.fcmp x y = some .eq
abbrev fLe (x y : UInt32) : Prop := FP.fcmp x y = some .lt ∨ FP.fcmp x y = some .eq
theorem Sta.keepO {Z : State} {h h' : Heap} {C n d : String} {v : Value} {ws : List Addr} (F : Sta Z h C n d v) (K : Keep h h' ws) (q : ∀ x ∈ ws, ∀ cell : Cell, h[x]? = some cell → cell.vm.isStatics = false) : Sta Z h' C n d v := by
  obtain ⟨cf, i, k, f, st, cell, h1, h2, h3, h4, h5, h6, h7⟩ := F
  refine ⟨cf, i, k, f, st, cell, h1, h2, h3, h4, K.2.1 _ _ h5 fun hm => ?_, h6, h7⟩
  rw [q _ hm _ h5] at h6; cases h6
theorem own_swap (o : Option Ordering) : o.map Ordering.swap = some .lt ↔ o = some .gt := by rcases o with _ | (_ | _ | _) <;> simp [Ordering.swap]
theorem own_swapE (o : Option Ordering) : o.map Ordering.swap = some .eq ↔ o = some .eq := by rcases o with _ | (_ | _ | _) <;> simp [Ordering.swap]
theorem own_dgt (x y : UInt64) : dLt y x ↔ FP.dcmp x y = some .gt := by
  show FP.Core.dcmp y x = some .lt ↔ FP.Core.dcmp x y = some .gt
  rw [FP.Core.dcmp_swap x y]; exact own_swap _
theorem own_dge (x y : UInt64) : dLe y x ↔ (FP.dcmp x y = some .gt ∨ FP.dcmp x y = some .eq) := by
  show (FP.Core.dcmp y x = some .lt ∨ FP.Core.dcmp y x = some .eq) ↔ (FP.Core.dcmp x y = some .gt ∨ FP.Core.dcmp x y = some .eq)
  rw [FP.Core.dcmp_swap x y, own_swap, own_swapE]
theorem own_fgt (x y : UInt32) : fLt y x ↔ FP.fcmp x y = some .gt := by
  show FP.Core.fcmp y x = some .lt ↔ FP.Core.fcmp x y = some .gt
  rw [FP.Core.fcmp_swap x y]; exact own_swap _
theorem own_fge (x y : UInt32) : fLe y x ↔ (FP.fcmp x y = some .gt ∨ FP.fcmp x y = some .eq) := by
  show (FP.Core.fcmp y x = some .lt ∨ FP.Core.fcmp y x = some .eq) ↔ (FP.Core.fcmp x y = some .gt ∨ FP.Core.fcmp x y = some .eq)
  rw [FP.Core.fcmp_swap x y, own_swap, own_swapE]
theorem own_c (o : Option Ordering) :
    (o = some .lt → ifCond.holds .ge (cmpValue o .g) = false ∧ ifCond.holds .lt (cmpValue o .g) = true) ∧
    (¬ o = some .lt → ifCond.holds .ge (cmpValue o .g) = true ∧ ifCond.holds .lt (cmpValue o .g) = false) ∧
    ((o = some .lt ∨ o = some .eq) → ifCond.holds .gt (cmpValue o .g) = false ∧ ifCond.holds .le (cmpValue o .g) = true) ∧
    (¬ (o = some .lt ∨ o = some .eq) → ifCond.holds .gt (cmpValue o .g) = true ∧ ifCond.holds .le (cmpValue o .g) = false) ∧
    (o = some .gt → ifCond.holds .le (cmpValue o .l) = false ∧ ifCond.holds .gt (cmpValue o .l) = true) ∧
    (¬ o = some .gt → ifCond.holds .le (cmpValue o .l) = true ∧ ifCond.holds .gt (cmpValue o .l) = false) ∧
    ((o = some .gt ∨ o = some .eq) → ifCond.holds .lt (cmpValue o .l) = false ∧ ifCond.holds .ge (cmpValue o .l) = true) ∧
    (¬ (o = some .gt ∨ o = some .eq) → ifCond.holds .lt (cmpValue o .l) = true ∧ ifCond.holds .ge (cmpValue o .l) = false) ∧
    (o = some .eq → ∀ q, ifCond.holds .ne (cmpValue o q) = false ∧ ifCond.holds .eq (cmpValue o q) = true) ∧
    (¬ o = some .eq → ∀ q, ifCond.holds .ne (cmpValue o q) = true ∧ ifCond.holds .eq (cmpValue o q) = false) := by
  refine ⟨?_, ?_, ?_, ?_, ?_, ?_, ?_, ?_, ?_, ?_⟩ <;> rcases o with _ | (_ | _ | _) <;> first | (intro h; exact ⟨by decide, by decide⟩) | (intro h q; cases q <;> exact ⟨by decide, by decide⟩) | (intro h; simp at h; done) | (intro h; exact absurd rfl h) | (intro h; exact absurd (Or.inl rfl) h) | (intro h; exact absurd (Or.inr rfl) h)
theorem dc_g_ge_f {x y : UInt64} (h : dLt x y) : ifCond.holds .ge (cmpValue (FP.dcmp x y) .g) = false := ((own_c _).1 h).1
theorem dc_g_ge_t {x y : UInt64} (h : ¬ dLt x y) : ifCond.holds .ge (cmpValue (FP.dcmp x y) .g) = true := ((own_c _).2.1 h).1
theorem dc_g_lt_t {x y : UInt64} (h : dLt x y) : ifCond.holds .lt (cmpValue (FP.dcmp x y) .g) = true := ((own_c _).1 h).2
theorem dc_g_lt_f {x y : UInt64} (h : ¬ dLt x y) : ifCond.holds .lt (cmpValue (FP.dcmp x y) .g) = false := ((own_c _).2.1 h).2
theorem dc_g_gt_f {x y : UInt64} (h : dLe x y) : ifCond.holds .gt (cmpValue (FP.dcmp x y) .g) = false := ((own_c _).2.2.1 h).1
theorem dc_g_gt_t {x y : UInt64} (h : ¬ dLe x y) : ifCond.holds .gt (cmpValue (FP.dcmp x y) .g) = true := ((own_c _).2.2.2.1 h).1
theorem dc_g_le_t {x y : UInt64} (h : dLe x y) : ifCond.holds .le (cmpValue (FP.dcmp x y) .g) = true := ((own_c _).2.2.1 h).2
theorem dc_g_le_f {x y : UInt64} (h : ¬ dLe x y) : ifCond.holds .le (cmpValue (FP.dcmp x y) .g) = false := ((own_c _).2.2.2.1 h).2
theorem dc_l_le_f {x y : UInt64} (h : dLt y x) : ifCond.holds .le (cmpValue (FP.dcmp x y) .l) = false := ((own_c _).2.2.2.2.1 ((own_dgt x y).mp h)).1
theorem dc_l_le_t {x y : UInt64} (h : ¬ dLt y x) : ifCond.holds .le (cmpValue (FP.dcmp x y) .l) = true := ((own_c _).2.2.2.2.2.1 (fun q => h ((own_dgt x y).mpr q))).1
theorem dc_l_gt_t {x y : UInt64} (h : dLt y x) : ifCond.holds .gt (cmpValue (FP.dcmp x y) .l) = true := ((own_c _).2.2.2.2.1 ((own_dgt x y).mp h)).2
theorem dc_l_gt_f {x y : UInt64} (h : ¬ dLt y x) : ifCond.holds .gt (cmpValue (FP.dcmp x y) .l) = false := ((own_c _).2.2.2.2.2.1 (fun q => h ((own_dgt x y).mpr q))).2
theorem dc_l_lt_f {x y : UInt64} (h : dLe y x) : ifCond.holds .lt (cmpValue (FP.dcmp x y) .l) = false := ((own_c _).2.2.2.2.2.2.1 ((own_dge x y).mp h)).1
theorem dc_l_lt_t {x y : UInt64} (h : ¬ dLe y x) : ifCond.holds .lt (cmpValue (FP.dcmp x y) .l) = true := ((own_c _).2.2.2.2.2.2.2.1 (fun q => h ((own_dge x y).mpr q))).1
theorem dc_l_ge_t {x y : UInt64} (h : dLe y x) : ifCond.holds .ge (cmpValue (FP.dcmp x y) .l) = true := ((own_c _).2.2.2.2.2.2.1 ((own_dge x y).mp h)).2
theorem dc_l_ge_f {x y : UInt64} (h : ¬ dLe y x) : ifCond.holds .ge (cmpValue (FP.dcmp x y) .l) = false := ((own_c _).2.2.2.2.2.2.2.1 (fun q => h ((own_dge x y).mpr q))).2
theorem dc_l_ne_f {x y : UInt64} (h : dEq x y) : ifCond.holds .ne (cmpValue (FP.dcmp x y) .l) = false := ((own_c _).2.2.2.2.2.2.2.2.1 h _).1
theorem dc_l_ne_t {x y : UInt64} (h : ¬ dEq x y) : ifCond.holds .ne (cmpValue (FP.dcmp x y) .l) = true := ((own_c _).2.2.2.2.2.2.2.2.2 h _).1
theorem dc_l_eq_t {x y : UInt64} (h : dEq x y) : ifCond.holds .eq (cmpValue (FP.dcmp x y) .l) = true := ((own_c _).2.2.2.2.2.2.2.2.1 h _).2
theorem dc_l_eq_f {x y : UInt64} (h : ¬ dEq x y) : ifCond.holds .eq (cmpValue (FP.dcmp x y) .l) = false := ((own_c _).2.2.2.2.2.2.2.2.2 h _).2
theorem dc_g_ne_f {x y : UInt64} (h : dEq x y) : ifCond.holds .ne (cmpValue (FP.dcmp x y) .g) = false := ((own_c _).2.2.2.2.2.2.2.2.1 h _).1
theorem dc_g_ne_t {x y : UInt64} (h : ¬ dEq x y) : ifCond.holds .ne (cmpValue (FP.dcmp x y) .g) = true := ((own_c _).2.2.2.2.2.2.2.2.2 h _).1
theorem dc_g_eq_t {x y : UInt64} (h : dEq x y) : ifCond.holds .eq (cmpValue (FP.dcmp x y) .g) = true := ((own_c _).2.2.2.2.2.2.2.2.1 h _).2
theorem dc_g_eq_f {x y : UInt64} (h : ¬ dEq x y) : ifCond.holds .eq (cmpValue (FP.dcmp x y) .g) = false := ((own_c _).2.2.2.2.2.2.2.2.2 h _).2
theorem fc_g_ge_f {x y : UInt32} (h : fLt x y) : ifCond.holds .ge (cmpValue (FP.fcmp x y) .g) = false := ((own_c _).1 h).1
theorem fc_g_ge_t {x y : UInt32} (h : ¬ fLt x y) : ifCond.holds .ge (cmpValue (FP.fcmp x y) .g) = true := ((own_c _).2.1 h).1
theorem fc_g_lt_t {x y : UInt32} (h : fLt x y) : ifCond.holds .lt (cmpValue (FP.fcmp x y) .g) = true := ((own_c _).1 h).2
theorem fc_g_lt_f {x y : UInt32} (h : ¬ fLt x y) : ifCond.holds .lt (cmpValue (FP.fcmp x y) .g) = false := ((own_c _).2.1 h).2
theorem fc_g_gt_f {x y : UInt32} (h : fLe x y) : ifCond.holds .gt (cmpValue (FP.fcmp x y) .g) = false := ((own_c _).2.2.1 h).1
theorem fc_g_gt_t {x y : UInt32} (h : ¬ fLe x y) : ifCond.holds .gt (cmpValue (FP.fcmp x y) .g) = true := ((own_c _).2.2.2.1 h).1
theorem fc_g_le_t {x y : UInt32} (h : fLe x y) : ifCond.holds .le (cmpValue (FP.fcmp x y) .g) = true := ((own_c _).2.2.1 h).2
theorem fc_g_le_f {x y : UInt32} (h : ¬ fLe x y) : ifCond.holds .le (cmpValue (FP.fcmp x y) .g) = false := ((own_c _).2.2.2.1 h).2
theorem fc_l_le_f {x y : UInt32} (h : fLt y x) : ifCond.holds .le (cmpValue (FP.fcmp x y) .l) = false := ((own_c _).2.2.2.2.1 ((own_fgt x y).mp h)).1
theorem fc_l_le_t {x y : UInt32} (h : ¬ fLt y x) : ifCond.holds .le (cmpValue (FP.fcmp x y) .l) = true := ((own_c _).2.2.2.2.2.1 (fun q => h ((own_fgt x y).mpr q))).1
theorem fc_l_gt_t {x y : UInt32} (h : fLt y x) : ifCond.holds .gt (cmpValue (FP.fcmp x y) .l) = true := ((own_c _).2.2.2.2.1 ((own_fgt x y).mp h)).2
theorem fc_l_gt_f {x y : UInt32} (h : ¬ fLt y x) : ifCond.holds .gt (cmpValue (FP.fcmp x y) .l) = false := ((own_c _).2.2.2.2.2.1 (fun q => h ((own_fgt x y).mpr q))).2
theorem fc_l_lt_f {x y : UInt32} (h : fLe y x) : ifCond.holds .lt (cmpValue (FP.fcmp x y) .l) = false := ((own_c _).2.2.2.2.2.2.1 ((own_fge x y).mp h)).1
theorem fc_l_lt_t {x y : UInt32} (h : ¬ fLe y x) : ifCond.holds .lt (cmpValue (FP.fcmp x y) .l) = true := ((own_c _).2.2.2.2.2.2.2.1 (fun q => h ((own_fge x y).mpr q))).1
theorem fc_l_ge_t {x y : UInt32} (h : fLe y x) : ifCond.holds .ge (cmpValue (FP.fcmp x y) .l) = true := ((own_c _).2.2.2.2.2.2.1 ((own_fge x y).mp h)).2
theorem fc_l_ge_f {x y : UInt32} (h : ¬ fLe y x) : ifCond.holds .ge (cmpValue (FP.fcmp x y) .l) = false := ((own_c _).2.2.2.2.2.2.2.1 (fun q => h ((own_fge x y).mpr q))).2
theorem fc_l_ne_f {x y : UInt32} (h : fEq x y) : ifCond.holds .ne (cmpValue (FP.fcmp x y) .l) = false := ((own_c _).2.2.2.2.2.2.2.2.1 h _).1
theorem fc_l_ne_t {x y : UInt32} (h : ¬ fEq x y) : ifCond.holds .ne (cmpValue (FP.fcmp x y) .l) = true := ((own_c _).2.2.2.2.2.2.2.2.2 h _).1
theorem fc_l_eq_t {x y : UInt32} (h : fEq x y) : ifCond.holds .eq (cmpValue (FP.fcmp x y) .l) = true := ((own_c _).2.2.2.2.2.2.2.2.1 h _).2
theorem fc_l_eq_f {x y : UInt32} (h : ¬ fEq x y) : ifCond.holds .eq (cmpValue (FP.fcmp x y) .l) = false := ((own_c _).2.2.2.2.2.2.2.2.2 h _).2
theorem fc_g_ne_f {x y : UInt32} (h : fEq x y) : ifCond.holds .ne (cmpValue (FP.fcmp x y) .g) = false := ((own_c _).2.2.2.2.2.2.2.2.1 h _).1
theorem fc_g_ne_t {x y : UInt32} (h : ¬ fEq x y) : ifCond.holds .ne (cmpValue (FP.fcmp x y) .g) = true := ((own_c _).2.2.2.2.2.2.2.2.2 h _).1
theorem fc_g_eq_t {x y : UInt32} (h : fEq x y) : ifCond.holds .eq (cmpValue (FP.fcmp x y) .g) = true := ((own_c _).2.2.2.2.2.2.2.2.1 h _).2
theorem fc_g_eq_f {x y : UInt32} (h : ¬ fEq x y) : ifCond.holds .eq (cmpValue (FP.fcmp x y) .g) = false := ((own_c _).2.2.2.2.2.2.2.2.2 h _).2
theorem d2_0 : decode jdk_117_method_8_code 0 = .ok (.dload_n 0, 1) := by decide +kernel
theorem d2_1 : decode jdk_117_method_8_code 1 = .ok (.invokestatic 38, 3) := by decide +kernel
theorem d2_4 : decode jdk_117_method_8_code 4 = .ok (.ldc2_w 111, 3) := by decide +kernel
theorem d2_7 : decode jdk_117_method_8_code 7 = .ok (.dcmp .g, 1) := by decide +kernel
theorem d2_8 : decode jdk_117_method_8_code 8 = .ok (.ifCond .gt 7, 3) := by decide +kernel
theorem d2_11 : decode jdk_117_method_8_code 11 = .ok (.iconst 1, 1) := by decide +kernel
theorem d2_12 : decode jdk_117_method_8_code 12 = .ok (.goto 4, 3) := by decide +kernel
theorem d2_15 : decode jdk_117_method_8_code 15 = .ok (.iconst 0, 1) := by decide +kernel
theorem d2_16 : decode jdk_117_method_8_code 16 = .ok (.ireturn, 1) := by decide +kernel
theorem pd0 : parseMethodDescriptor "(D)Z" = some ⟨[.double], some .boolean⟩ := by decide +kernel
theorem pf_fin : plainFor (⟨"java/lang/Double", "isFinite", "(D)Z"⟩ : MethodName) = true := by first | exact plainFor_of_name (by first | (simp [plainName, overriddenIn, x]; done) | decide +kernel) | exact Jvm.Free.JP.mathPlain rfl (by decide +kernel) | decide +kernel
theorem ef_fin (m : MethodId) (fd : UInt64) : entryFrame m #[(.double fd)] 2 = mkF m 0 #[.val (.double fd), .second] [] := by first | (simp [entryFrame, mkF, argsToLocals, Value.category, maxLocals]; done) | rfl
theorem pd1 : parseMethodDescriptor "(D)D" = some ⟨[.double], some .double⟩ := by decide +kernel
def f_fin (fd : UInt64) : Int32 := (if dLe (fd &&& 0x7fffffffffffffff) (9218868437227405311 : UInt64) then (1 : Int32) else (0 : Int32))
def Q_fin (Z : State) (fd : UInt64)  (h0 : Heap) (n0 : Nat) (v : Option Value) (h : Heap) (L : List Loc) : Prop := v = some (.int (f_fin fd)) ∧ Fr n0 L ∧ h = h0
set_option maxRecDepth 65536 in
set_option maxHeartbeats 40000000 in
theorem rm_fin (l : Launch) (Z : State) (a0 : Array Value) (hw : ∀ d ∈ tables_1, d.before a0 Z = true) (ws : List Jvm.Cond) (fd : UInt64)  (h0 : Heap) (n0 : Nat) (Z0 : n0 ≤ h0.size) (hn : Jvm.Free.Fl.NoNaN64 fd)  :
    MetFree l (⟨"java/lang/Double", "isFinite", "(D)Z"⟩ : MethodName) (head1 (Jvm.Cond.code (⟨"java/lang/Double", "isFinite", "(D)Z"⟩ : MethodName) jdk_117_method_8_code 2 (some .boolean) :: ws) ({ frames := 1, cells := 0, slots := 0, locals := 13 } : Room)) (fun a U => a = #[(.double fd)] ∧ Z.Warmed39 U.vm ∧ U.heap = h0) (fun _ _ _ _ _ => True) (fun _ U o U' => ∃ v L, o = .returned v ∧ Q_fin Z fd  h0 n0 v U'.heap L ∧ FrameEnd U o U' L ({ frames := 1, cells := 0, slots := 0, locals := 13 } : Room).cells ({ frames := 1, cells := 0, slots := 0, locals := 13 } : Room).slots) := by
  refine MetFree.of_bodySF pf_fin hisR ?_
  intro p e s m args below meth c s₁ Bd hml0 hP hK
  obtain ⟨rfl, hZ, hh⟩ := hP
  have hx := Bd.exec
  have hby := Bd.bytes
  have hml : c.maxLocals = 2 := hml0
  have hown : s.vm.findClass "java/lang/Double" = some m.cls := findClass_of_methodNamed Bd.named
  have hnm := (name_of_methodNamed Bd.named Bd.method).1
  have X0 : Stand p l e ({ frames := 1, cells := 0, slots := 0, locals := 13 } : Room) s m #[(.double fd)] below meth c s₁ [] 0 0 := Stand.of_body Bd
  have e0 : s₁.heap = h0 := by rw [← hh, Bd.state]; rfl
  have N0 := Fr.nil n0
  obtain ⟨S0, hS0⟩ : ∃ z, z = s₁.setTop (entryFrame m #[(.double fd)] 2) := ⟨_, rfl⟩
  rw [← hS0]
  have g0 : Goes p e below S0 (s₁.setTop (mkF m 0 #[.val (.double fd), .second] [])) := fun t k => by rw [hS0]; exact castTop (ef_fin m fd) k
  have g1 : Goes p e below S0 (s₁.setTop (mkF m 1 #[.val (.double fd), .second] [(.double fd)])) := fun t k => g0 t (by
    refine XS.dloadN X0.here hx rfl (hb hby d2_0) rfl ?_
    show Go p e below t s₁ m 1 #[.val (.double fd), .second] [(.double fd)]
    exact k)
  obtain ⟨T2, X2, e2, st2⟩ := natS X0 hx hZ (y := (⟨"java/lang/Math", "abs", "(D)D"⟩ : MethodName)) hown (hw _ (List.mem_of_getElem? (i := 16) rfl)) (hw _ (List.mem_of_getElem? (i := 17) rfl)) (hw _ (List.mem_of_getElem? (i := 18) rfl)) (hw _ (List.mem_of_getElem? (i := 19) rfl)) (by decide) e0 (W := 0) (fun c4 => Jvm.Free.Fl.Abs.absD_pays fd c4 (by decide) (by decide)) (g := (mkF m 1 #[.val (.double fd), .second] [(.double fd)])) rfl (by rw [hml]; rfl) (argsL := [(.double fd)]) (rest := []) (lenOf pd1 rfl) rfl (by show 2 * 0 + _ ≤ _; exact Nat.le_of_eq rfl) (hb hby d2_1) (Nat.le_of_ble_eq_true rfl) (Nat.le_of_ble_eq_true rfl) ⟨rfl, hn⟩ (val' := (.double (fd &&& 0x7fffffffffffffff))) rfl
  have g3 : Goes p e below S0 (T2.setTop (mkF m 4 #[.val (.double fd), .second] [(.double (fd &&& 0x7fffffffffffffff))])) := fun t k => g1 t (st2 t k)
  have g4 : Goes p e below S0 (T2.setTop (mkF m 8 #[.val (.double fd), .second] [(.int (cmpValue (FP.dcmp (fd &&& 0x7fffffffffffffff) (9218868437227405311 : UInt64)) .g))])) := fun t k => g3 t (by
    refine X2.ldc2DoubleC hx hown (mvT hZ (hw _ (List.mem_of_getElem? (i := 20) rfl))) (g := (mkF m 4 #[.val (.double fd), .second] [(.double (fd &&& 0x7fffffffffffffff))])) rfl (hb hby d2_4) _ ?_
    show Go p e below t T2 m 7 #[.val (.double fd), .second] [(.double (9218868437227405311 : UInt64)), (.double (fd &&& 0x7fffffffffffffff))]
    refine XS.dcmpS X2.here hx rfl (hb hby d2_7) rfl rfl ?_
    show Go p e below t T2 m 8 #[.val (.double fd), .second] [(.int (cmpValue (FP.dcmp (fd &&& 0x7fffffffffffffff) (9218868437227405311 : UInt64)) .g))]
    exact k)
  by_cases h5 : dLe (fd &&& 0x7fffffffffffffff) (9218868437227405311 : UInt64)
  · skip
    have g6 : Goes p e below S0 (T2.setTop (mkF m 16 #[.val (.double fd), .second] [(.int (1 : Int32))])) := fun t k => g4 t (by
      refine XS.ifNo X2.here hx rfl (hb hby d2_8) rfl (dc_g_gt_f h5) ?_
      show Go p e below t T2 m 11 #[.val (.double fd), .second] []
      refine XT.iconstV X2.here hx rfl (1 : Int32) (hb hby d2_11) (by decide) ?_
      show Go p e below t T2 m 12 #[.val (.double fd), .second] [(.int (1 : Int32))]
      refine XS.goto X2.here hx rfl (pc0 := 12) (pc' := 16) rfl (hb hby d2_12) (by decide) (by decide) ?_
      show Go p e below t T2 m 16 #[.val (.double fd), .second] [(.int (1 : Int32))]
      exact k)
    obtain ⟨fs, hr, hrun, hended, hW, hsame⟩ := X2.leave (v := some (.int (1 : Int32))) (fun h => by rw [Bd.returns] at h; cases h)
    refine ⟨_, _, g6 _ (retN X2 hx (t := .boolean) Bd.returns (by simp) (hb hby d2_16) hr), hrun, hended, _, _, rfl, ?_, ⟨_, rfl⟩, hW, hsame.mono (by decide) (by decide)⟩
    show Q_fin Z fd  h0 n0 _ T2.heap _
    rw [e2]
    exact ⟨by unfold f_fin; rw [if_pos h5], N0, rfl⟩
  · skip
    have g7 : Goes p e below S0 (T2.setTop (mkF m 16 #[.val (.double fd), .second] [(.int (0 : Int32))])) := fun t k => g4 t (by
      refine XS.ifYes X2.here hx rfl (pc0 := 8) (pc' := 15) rfl (hb hby d2_8) rfl (dc_g_gt_t h5) (by decide) (by decide) ?_
      show Go p e below t T2 m 15 #[.val (.double fd), .second] []
      refine XT.iconstV X2.here hx rfl (0 : Int32) (hb hby d2_15) (by decide) ?_
      show Go p e below t T2 m 16 #[.val (.double fd), .second] [(.int (0 : Int32))]
      exact k)
    obtain ⟨fs, hr, hrun, hended, hW, hsame⟩ := X2.leave (v := some (.int (0 : Int32))) (fun h => by rw [Bd.returns] at h; cases h)
    refine ⟨_, _, g7 _ (retN X2 hx (t := .boolean) Bd.returns (by simp) (hb hby d2_16) hr), hrun, hended, _, _, rfl, ?_, ⟨_, rfl⟩, hW, hsame.mono (by decide) (by decide)⟩
    show Q_fin Z fd  h0 n0 _ T2.heap _
    rw [e2]
    exact ⟨by unfold f_fin; rw [if_neg h5], N0, rfl⟩
theorem d0_0 : decode prog_22_method_1_code 0 = .ok (.aload_n 0, 1) := by decide +kernel
theorem d0_1 : decode prog_22_method_1_code 1 = .ok (.invokespecial 1, 3) := by decide +kernel
theorem d0_4 : decode prog_22_method_1_code 4 = .ok (.iload_n 1, 1) := by decide +kernel
theorem d0_5 : decode prog_22_method_1_code 5 = .ok (.iconst 1, 1) := by decide +kernel
theorem d0_6 : decode prog_22_method_1_code 6 = .ok (.if_icmp .ge 17, 3) := by decide +kernel
theorem d0_9 : decode prog_22_method_1_code 9 = .ok (.new 7, 3) := by decide +kernel
theorem d0_12 : decode prog_22_method_1_code 12 = .ok (.dup, 1) := by decide +kernel
theorem d0_13 : decode prog_22_method_1_code 13 = .ok (.iload_n 1, 1) := by decide +kernel
theorem d0_14 : decode prog_22_method_1_code 14 = .ok (.invokedynamic 9, 5) := by decide +kernel
theorem d0_19 : decode prog_22_method_1_code 19 = .ok (.invokespecial 13, 3) := by decide +kernel
theorem d0_22 : decode prog_22_method_1_code 22 = .ok (.athrow, 1) := by decide +kernel
theorem d0_23 : decode prog_22_method_1_code 23 = .ok (.dload_n 2, 1) := by decide +kernel
theorem d0_24 : decode prog_22_method_1_code 24 = .ok (.dconst 0, 1) := by decide +kernel
theorem d0_25 : decode prog_22_method_1_code 25 = .ok (.dcmp .l, 1) := by decide +kernel
theorem d0_26 : decode prog_22_method_1_code 26 = .ok (.ifCond .lt 9, 3) := by decide +kernel
theorem d0_29 : decode prog_22_method_1_code 29 = .ok (.dload_n 2, 1) := by decide +kernel
theorem d0_30 : decode prog_22_method_1_code 30 = .ok (.dconst 1, 1) := by decide +kernel
theorem d0_31 : decode prog_22_method_1_code 31 = .ok (.dcmp .g, 1) := by decide +kernel
theorem d0_32 : decode prog_22_method_1_code 32 = .ok (.ifCond .le 17, 3) := by decide +kernel
theorem d0_35 : decode prog_22_method_1_code 35 = .ok (.new 7, 3) := by decide +kernel
theorem d0_38 : decode prog_22_method_1_code 38 = .ok (.dup, 1) := by decide +kernel
theorem d0_39 : decode prog_22_method_1_code 39 = .ok (.dload_n 2, 1) := by decide +kernel
theorem d0_40 : decode prog_22_method_1_code 40 = .ok (.invokedynamic 16, 5) := by decide +kernel
theorem d0_45 : decode prog_22_method_1_code 45 = .ok (.invokespecial 13, 3) := by decide +kernel
theorem d0_48 : decode prog_22_method_1_code 48 = .ok (.athrow, 1) := by decide +kernel
theorem d0_49 : decode prog_22_method_1_code 49 = .ok (.dload 4, 2) := by decide +kernel
theorem d0_51 : decode prog_22_method_1_code 51 = .ok (.dconst 0, 1) := by decide +kernel
theorem d0_52 : decode prog_22_method_1_code 52 = .ok (.dcmp .l, 1) := by decide +kernel
theorem d0_53 : decode prog_22_method_1_code 53 = .ok (.ifCond .lt 11, 3) := by decide +kernel
theorem d0_56 : decode prog_22_method_1_code 56 = .ok (.dload 4, 2) := by decide +kernel
theorem d0_58 : decode prog_22_method_1_code 58 = .ok (.invokestatic 19, 3) := by decide +kernel
theorem d0_61 : decode prog_22_method_1_code 61 = .ok (.ifCond .ne 18, 3) := by decide +kernel
theorem d0_64 : decode prog_22_method_1_code 64 = .ok (.new 7, 3) := by decide +kernel
theorem d0_67 : decode prog_22_method_1_code 67 = .ok (.dup, 1) := by decide +kernel
theorem d0_68 : decode prog_22_method_1_code 68 = .ok (.dload 4, 2) := by decide +kernel
theorem d0_70 : decode prog_22_method_1_code 70 = .ok (.invokedynamic 25, 5) := by decide +kernel
theorem d0_75 : decode prog_22_method_1_code 75 = .ok (.invokespecial 13, 3) := by decide +kernel
theorem d0_78 : decode prog_22_method_1_code 78 = .ok (.athrow, 1) := by decide +kernel
theorem d0_79 : decode prog_22_method_1_code 79 = .ok (.iload 6, 2) := by decide +kernel
theorem d0_81 : decode prog_22_method_1_code 81 = .ok (.ifCond .ge 18, 3) := by decide +kernel
theorem d0_84 : decode prog_22_method_1_code 84 = .ok (.new 7, 3) := by decide +kernel
theorem d0_87 : decode prog_22_method_1_code 87 = .ok (.dup, 1) := by decide +kernel
theorem d0_88 : decode prog_22_method_1_code 88 = .ok (.iload 6, 2) := by decide +kernel
theorem d0_90 : decode prog_22_method_1_code 90 = .ok (.invokedynamic 26, 5) := by decide +kernel
theorem d0_95 : decode prog_22_method_1_code 95 = .ok (.invokespecial 13, 3) := by decide +kernel
theorem d0_98 : decode prog_22_method_1_code 98 = .ok (.athrow, 1) := by decide +kernel
theorem d0_99 : decode prog_22_method_1_code 99 = .ok (.aload_n 0, 1) := by decide +kernel
theorem d0_100 : decode prog_22_method_1_code 100 = .ok (.iload_n 1, 1) := by decide +kernel
theorem d0_101 : decode prog_22_method_1_code 101 = .ok (.putfield 27, 3) := by decide +kernel
theorem d0_104 : decode prog_22_method_1_code 104 = .ok (.aload_n 0, 1) := by decide +kernel
theorem d0_105 : decode prog_22_method_1_code 105 = .ok (.dload_n 2, 1) := by decide +kernel
theorem d0_106 : decode prog_22_method_1_code 106 = .ok (.putfield 33, 3) := by decide +kernel
theorem d0_109 : decode prog_22_method_1_code 109 = .ok (.aload_n 0, 1) := by decide +kernel
theorem d0_110 : decode prog_22_method_1_code 110 = .ok (.dload 4, 2) := by decide +kernel
theorem d0_112 : decode prog_22_method_1_code 112 = .ok (.putfield 37, 3) := by decide +kernel
theorem d0_115 : decode prog_22_method_1_code 115 = .ok (.aload_n 0, 1) := by decide +kernel
theorem d0_116 : decode prog_22_method_1_code 116 = .ok (.iload 6, 2) := by decide +kernel
theorem d0_118 : decode prog_22_method_1_code 118 = .ok (.putfield 40, 3) := by decide +kernel
theorem d0_121 : decode prog_22_method_1_code 121 = .ok (.aload_n 0, 1) := by decide +kernel
theorem d0_122 : decode prog_22_method_1_code 122 = .ok (.aconst_null, 1) := by decide +kernel
theorem d0_123 : decode prog_22_method_1_code 123 = .ok (.putfield 43, 3) := by decide +kernel
theorem d0_126 : decode prog_22_method_1_code 126 = .ok (.aload_n 0, 1) := by decide +kernel
theorem d0_127 : decode prog_22_method_1_code 127 = .ok (.iconst 0, 1) := by decide +kernel
theorem d0_128 : decode prog_22_method_1_code 128 = .ok (.putfield 47, 3) := by decide +kernel
theorem d0_131 : decode prog_22_method_1_code 131 = .ok (.aload_n 0, 1) := by decide +kernel
theorem d0_132 : decode prog_22_method_1_code 132 = .ok (.iconst 0, 1) := by decide +kernel
theorem d0_133 : decode prog_22_method_1_code 133 = .ok (.putfield 51, 3) := by decide +kernel
theorem d0_136 : decode prog_22_method_1_code 136 = .ok (.return_, 1) := by decide +kernel
theorem pd2 : parseMethodDescriptor "(IDDI)V" = some ⟨[.int, .double, .double, .int], none⟩ := by decide +kernel
theorem pf_ini : plainFor (⟨"com/example/hetmo/hetmo/tree/StoppingRules", "<init>", "(IDDI)V"⟩ : MethodName) = true := by first | exact plainFor_of_name (by first | (simp [plainName, overriddenIn, x]; done) | decide +kernel) | exact Jvm.Free.JP.mathPlain rfl (by decide +kernel) | decide +kernel
theorem ef_ini (m : MethodId) (ca : Addr) (cl : Int32) (cs : UInt64) (ci : UInt64) (cm : Int32) : entryFrame m #[(.ref ca), (.int cl), (.double cs), (.double ci), (.int cm)] 7 = mkF m 0 #[rv ca, iv cl, .val (.double cs), .second, .val (.double ci), .second, iv cm] [] := by first | (simp [entryFrame, mkF, argsToLocals, Value.category, maxLocals]; done) | rfl
def Q_ini (Z : State) (ca : Addr) (cl : Int32) (cs : UInt64) (ci : UInt64) (cm : Int32)  (h0 : Heap) (n0 : Nat) (v : Option Value) (h : Heap) (L : List Loc) : Prop := v = none ∧ Fr n0 L ∧ (Keep h0 h [ca]) ∧ (Exa Z h ca "com/example/hetmo/hetmo/tree/StoppingRules") ∧ (Fld Z h ca "com/example/hetmo/hetmo/tree/StoppingRules" "_minLeaf" "I" (.int cl)) ∧ (Fld Z h ca "com/example/hetmo/hetmo/tree/StoppingRules" "_minShare" "D" (.double cs)) ∧ (Fld Z h ca "com/example/hetmo/hetmo/tree/StoppingRules" "_minImprovement" "D" (.double ci)) ∧ (Fld Z h ca "com/example/hetmo/hetmo/tree/StoppingRules" "_maxDepth" "I" (.int cm)) ∧ (Fld Z h ca "com/example/hetmo/hetmo/tree/StoppingRules" "_countedApartBy" "[D" .null) ∧ (Fld Z h ca "com/example/hetmo/hetmo/tree/StoppingRules" "_shareOfNode" "Z" (.int (0 : Int32))) ∧ (Fld Z h ca "com/example/hetmo/hetmo/tree/StoppingRules" "_countingEstimatingRows" "Z" (.int (0 : Int32)))
set_option maxRecDepth 65536 in
set_option maxHeartbeats 40000000 in
theorem rm_ini (l : Launch) (Z : State) (a0 : Array Value) (hw : ∀ d ∈ tables_1, d.before a0 Z = true) (ws : List Jvm.Cond) (ca : Addr) (cl : Int32) (cs : UInt64) (ci : UInt64) (cm : Int32)  (h0 : Heap) (n0 : Nat) (Z0 : n0 ≤ h0.size) (P0 : Exa Z h0 ca "com/example/hetmo/hetmo/tree/StoppingRules") (P1 : Fld Z h0 ca "com/example/hetmo/hetmo/tree/StoppingRules" "_minLeaf" "I" (.int (0 : Int32))) (P2 : Fld Z h0 ca "com/example/hetmo/hetmo/tree/StoppingRules" "_minShare" "D" (.double (0 : UInt64))) (P3 : Fld Z h0 ca "com/example/hetmo/hetmo/tree/StoppingRules" "_minImprovement" "D" (.double (0 : UInt64))) (P4 : Fld Z h0 ca "com/example/hetmo/hetmo/tree/StoppingRules" "_maxDepth" "I" (.int (0 : Int32))) (P5 : Fld Z h0 ca "com/example/hetmo/hetmo/tree/StoppingRules" "_countedApartBy" "[D" .null) (P6 : Fld Z h0 ca "com/example/hetmo/hetmo/tree/StoppingRules" "_shareOfNode" "Z" (.int (0 : Int32))) (P7 : Fld Z h0 ca "com/example/hetmo/hetmo/tree/StoppingRules" "_countingEstimatingRows" "Z" (.int (0 : Int32))) (P8 : n0 ≤ ca) (hq1 : ¬ (cl < (1 : Int32))) (hq2 : dLe (0 : UInt64) cs) (hq3 : dLe cs (4607182418800017408 : UInt64)) (hq4 : dLe (0 : UInt64) ci) (hn : Jvm.Free.Fl.NoNaN64 ci) (hq5 : ¬ ((f_fin ci) = 0)) (hq6 : ¬ (cm < 0))  :
    MetFree l (⟨"com/example/hetmo/hetmo/tree/StoppingRules", "<init>", "(IDDI)V"⟩ : MethodName) (head1 (Jvm.Cond.code (⟨"com/example/hetmo/hetmo/tree/StoppingRules", "<init>", "(IDDI)V"⟩ : MethodName) prog_22_method_1_code 7 none :: ws) ({ frames := 2, cells := 0, slots := 0, locals := 40 } : Room)) (fun a U => a = #[(.ref ca), (.int cl), (.double cs), (.double ci), (.int cm)] ∧ Z.Warmed39 U.vm ∧ U.heap = h0) (fun _ _ _ _ _ => True) (fun _ U o U' => ∃ v L, o = .returned v ∧ Q_ini Z ca cl cs ci cm  h0 n0 v U'.heap L ∧ FrameEnd U o U' L ({ frames := 2, cells := 0, slots := 0, locals := 40 } : Room).cells ({ frames := 2, cells := 0, slots := 0, locals := 40 } : Room).slots) := by
  refine MetFree.of_bodySF pf_ini hisR ?_
  intro p e s m args below meth c s₁ Bd hml0 hP hK
  obtain ⟨rfl, hZ, hh⟩ := hP
  have hx := Bd.exec
  have hby := Bd.bytes
  have hml : c.maxLocals = 7 := hml0
  have hown : s.vm.findClass "com/example/hetmo/hetmo/tree/StoppingRules" = some m.cls := findClass_of_methodNamed Bd.named
  have hnm := (name_of_methodNamed Bd.named Bd.method).1
  have X0 : Stand p l e ({ frames := 2, cells := 0, slots := 0, locals := 40 } : Room) s m #[(.ref ca), (.int cl), (.double cs), (.double ci), (.int cm)] below meth c s₁ [] 0 0 := Stand.of_body Bd
  have e0 : s₁.heap = h0 := by rw [← hh, Bd.state]; rfl
  have N0 := Fr.nil n0
  obtain ⟨S0, hS0⟩ : ∃ z, z = s₁.setTop (entryFrame m #[(.ref ca), (.int cl), (.double cs), (.double ci), (.int cm)] 7) := ⟨_, rfl⟩
  rw [← hS0]
  have g0 : Goes p e below S0 (s₁.setTop (mkF m 0 #[rv ca, iv cl, .val (.double cs), .second, .val (.double ci), .second, iv cm] [])) := fun t k => by rw [hS0]; exact castTop (ef_ini m ca cl cs ci cm) k
  have g8 : Goes p e below S0 (s₁.setTop (mkF m 1 #[rv ca, iv cl, .val (.double cs), .second, .val (.double ci), .second, iv cm] [(.ref ca)])) := fun t k => g0 t (by
    refine XS.aloadN X0.here hx rfl (hb hby d0_0) rfl rfl ?_
    show Go p e below t s₁ m 1 #[rv ca, iv cl, .val (.double cs), .second, .val (.double ci), .second, iv cm] [(.ref ca)]
    exact k)
  obtain ⟨T9, X9, e9, st9⟩ := initO X0 hx hZ hown (hw _ (List.mem_of_getElem? (i := 9) rfl)) (hw _ (List.mem_of_getElem? (i := 10) rfl)) (hw _ (List.mem_of_getElem? (i := 11) rfl)) e0 (g := (mkF m 1 #[rv ca, iv cl, .val (.double cs), .second, .val (.double ci), .second, iv cm] [(.ref ca)])) rfl (by rw [hml]; rfl) rfl (hb hby d0_1) (by decide) (W := 0) (by show 2 * 0 + _ ≤ _; exact Nat.le_of_eq rfl) (by decide)
  have g10 : Goes p e below S0 (T9.setTop (mkF m 4 #[rv ca, iv cl, .val (.double cs), .second, .val (.double ci), .second, iv cm] [])) := fun t k => g8 t (st9 t k)
  have g11 : Goes p e below S0 (T9.setTop (mkF m 58 #[rv ca, iv cl, .val (.double cs), .second, .val (.double ci), .second, iv cm] [(.double ci)])) := fun t k => g10 t (by
    refine XS.iloadN X9.here hx rfl (hb hby d0_4) rfl ?_
    show Go p e below t T9 m 5 #[rv ca, iv cl, .val (.double cs), .second, .val (.double ci), .second, iv cm] [(.int cl)]
    refine XT.iconstV X9.here hx rfl (1 : Int32) (hb hby d0_5) (by decide) ?_
    show Go p e below t T9 m 6 #[rv ca, iv cl, .val (.double cs), .second, .val (.double ci), .second, iv cm] [(.int (1 : Int32)), (.int cl)]
    refine XS.icmpYes X9.here hx rfl (pc0 := 6) (pc' := 23) rfl (hb hby d0_6) rfl (XT.ii_ge_t hq1) (by decide) (by decide) ?_
    show Go p e below t T9 m 23 #[rv ca, iv cl, .val (.double cs), .second, .val (.double ci), .second, iv cm] []
    refine XS.dloadN X9.here hx rfl (hb hby d0_23) rfl ?_
    show Go p e below t T9 m 24 #[rv ca, iv cl, .val (.double cs), .second, .val (.double ci), .second, iv cm] [(.double cs)]
    refine XS.dconst0 X9.here hx rfl (hb hby d0_24) (v := (0 : UInt64)) rfl ?_
    show Go p e below t T9 m 25 #[rv ca, iv cl, .val (.double cs), .second, .val (.double ci), .second, iv cm] [(.double (0 : UInt64)), (.double cs)]
    refine XS.dcmpS X9.here hx rfl (hb hby d0_25) rfl rfl ?_
    show Go p e below t T9 m 26 #[rv ca, iv cl, .val (.double cs), .second, .val (.double ci), .second, iv cm] [(.int (cmpValue (FP.dcmp cs (0 : UInt64)) .l))]
    refine XS.ifNo X9.here hx rfl (hb hby d0_26) rfl (dc_l_lt_f hq2) ?_
    show Go p e below t T9 m 29 #[rv ca, iv cl, .val (.double cs), .second, .val (.double ci), .second, iv cm] []
    refine XS.dloadN X9.here hx rfl (hb hby d0_29) rfl ?_
    show Go p e below t T9 m 30 #[rv ca, iv cl, .val (.double cs), .second, .val (.double ci), .second, iv cm] [(.double cs)]
    refine XS.dconst1 X9.here hx rfl (hb hby d0_30) (v := (4607182418800017408 : UInt64)) rfl ?_
    show Go p e below t T9 m 31 #[rv ca, iv cl, .val (.double cs), .second, .val (.double ci), .second, iv cm] [(.double (4607182418800017408 : UInt64)), (.double cs)]
    refine XS.dcmpS X9.here hx rfl (hb hby d0_31) rfl rfl ?_
    show Go p e below t T9 m 32 #[rv ca, iv cl, .val (.double cs), .second, .val (.double ci), .second, iv cm] [(.int (cmpValue (FP.dcmp cs (4607182418800017408 : UInt64)) .g))]
    refine XS.ifYes X9.here hx rfl (pc0 := 32) (pc' := 49) rfl (hb hby d0_32) rfl (dc_g_le_t hq3) (by decide) (by decide) ?_
    show Go p e below t T9 m 49 #[rv ca, iv cl, .val (.double cs), .second, .val (.double ci), .second, iv cm] []
    refine XS.dload X9.here hx rfl (hb hby d0_49) rfl ?_
    show Go p e below t T9 m 51 #[rv ca, iv cl, .val (.double cs), .second, .val (.double ci), .second, iv cm] [(.double ci)]
    refine XS.dconst0 X9.here hx rfl (hb hby d0_51) (v := (0 : UInt64)) rfl ?_
    show Go p e below t T9 m 52 #[rv ca, iv cl, .val (.double cs), .second, .val (.double ci), .second, iv cm] [(.double (0 : UInt64)), (.double ci)]
    refine XS.dcmpS X9.here hx rfl (hb hby d0_52) rfl rfl ?_
    show Go p e below t T9 m 53 #[rv ca, iv cl, .val (.double cs), .second, .val (.double ci), .second, iv cm] [(.int (cmpValue (FP.dcmp ci (0 : UInt64)) .l))]
    refine XS.ifNo X9.here hx rfl (hb hby d0_53) rfl (dc_l_lt_f hq4) ?_
    show Go p e below t T9 m 56 #[rv ca, iv cl, .val (.double cs), .second, .val (.double ci), .second, iv cm] []
    refine XS.dload X9.here hx rfl (hb hby d0_56) rfl ?_
    show Go p e below t T9 m 58 #[rv ca, iv cl, .val (.double cs), .second, .val (.double ci), .second, iv cm] [(.double ci)]
    exact k)
  obtain ⟨_, _, ⟨T12, L12, k12, n12⟩, -, X12, ⟨Lc12, hQ12, l12, y12, z12⟩, st12⟩ := Jvm.LawKit.callS X9 hx (y := (⟨"java/lang/Double", "isFinite", "(D)Z"⟩ : MethodName)) hown (mvT hZ (hw _ (List.mem_of_getElem? (i := 12) rfl))) (mvT hZ (hw _ (List.mem_of_getElem? (i := 13) rfl))) (mvT hZ (hw _ (List.mem_of_getElem? (i := 14) rfl))) (mvT hZ (hw _ (List.mem_of_getElem? (i := 15) rfl))) (by decide) (backOf (W := 0) (rm_fin l Z a0 hw [] ci  h0 n0 Z0 hn) hZ (hw _ (List.mem_of_getElem? (i := 15) rfl)) (hw _ (List.mem_of_getElem? (i := 14) rfl)) (by decide) (by decide)) (g := (mkF m 58 #[rv ca, iv cl, .val (.double cs), .second, .val (.double ci), .second, iv cm] [(.double ci)])) rfl (by rw [hml]; rfl) (argsL := [(.double ci)]) (rest := []) (lenOf pd0 rfl) rfl (by show 2 * 0 + _ ≤ _; exact Nat.le_of_eq rfl) (hb hby d0_58) (fun _ _ => ⟨rfl, e9, (by decide : 0 + 0 ≤ _), (by decide : 0 + 0 ≤ _)⟩)
  dsimp only [Pt.U, Pt.locs, Pt.cells, Pt.slots] at X12 l12 y12 z12 st12 hQ12
  subst l12 y12 z12
  obtain ⟨rfl, N12, e12⟩ := hQ12
  have M12 := Fr.app N0 N12
  have g13 : Goes p e below S0 (T12.setTop (mkF m 61 #[rv ca, iv cl, .val (.double cs), .second, .val (.double ci), .second, iv cm] [(.int (f_fin ci))])) := fun t k => g11 t (st12 t k)
  have g14 : Goes p e below S0 (T12.setTop (mkF m 101 #[rv ca, iv cl, .val (.double cs), .second, .val (.double ci), .second, iv cm] [(.int cl), (.ref ca)])) := fun t k => g13 t (by
    refine XS.ifYes X12.here hx rfl (pc0 := 61) (pc' := 79) rfl (hb hby d0_61) rfl (XT.i0_ne_t hq5) (by decide) (by decide) ?_
    show Go p e below t T12 m 79 #[rv ca, iv cl, .val (.double cs), .second, .val (.double ci), .second, iv cm] []
    refine XS.iload X12.here hx rfl (hb hby d0_79) rfl ?_
    show Go p e below t T12 m 81 #[rv ca, iv cl, .val (.double cs), .second, .val (.double ci), .second, iv cm] [(.int cm)]
    refine XS.ifYes X12.here hx rfl (pc0 := 81) (pc' := 99) rfl (hb hby d0_81) rfl (XT.i0_ge_t hq6) (by decide) (by decide) ?_
    show Go p e below t T12 m 99 #[rv ca, iv cl, .val (.double cs), .second, .val (.double ci), .second, iv cm] []
    refine XS.aloadN X12.here hx rfl (hb hby d0_99) rfl rfl ?_
    show Go p e below t T12 m 100 #[rv ca, iv cl, .val (.double cs), .second, .val (.double ci), .second, iv cm] [(.ref ca)]
    refine XS.iloadN X12.here hx rfl (hb hby d0_100) rfl ?_
    show Go p e below t T12 m 101 #[rv ca, iv cl, .val (.double cs), .second, .val (.double ci), .second, iv cm] [(.int cl), (.ref ca)]
    exact k)
  obtain ⟨T15, h15, X15, e15, W15, st15⟩ := putF X12 hx hZ hown (host := "") (Or.inl (hw _ (List.mem_of_getElem? (i := 21) rfl))) Via.refl e12 P1 P0 (Or.inr ⟨(hw _ (List.mem_of_getElem? (i := 22) rfl)), rfl, hnm⟩) (hw _ (List.mem_of_getElem? (i := 2) rfl)) (ty := .int) (by decide) rfl rfl (g := (mkF m 101 #[rv ca, iv cl, .val (.double cs), .second, .val (.double ci), .second, iv cm] [(.int cl), (.ref ca)])) rfl rfl (hb hby d0_101)
  have N15 := Fr.snoc X15 M12 P8
  have Fw15 := Fld.same W15 P1
  have g16 : Goes p e below S0 (T15.setTop (mkF m 104 #[rv ca, iv cl, .val (.double cs), .second, .val (.double ci), .second, iv cm] [])) := fun t k => g14 t (st15 t k)
  have g17 : Goes p e below S0 (T15.setTop (mkF m 106 #[rv ca, iv cl, .val (.double cs), .second, .val (.double ci), .second, iv cm] [(.double cs), (.ref ca)])) := fun t k => g16 t (by
    refine XS.aloadN X15.here hx rfl (hb hby d0_104) rfl rfl ?_
    show Go p e below t T15 m 105 #[rv ca, iv cl, .val (.double cs), .second, .val (.double ci), .second, iv cm] [(.ref ca)]
    refine XS.dloadN X15.here hx rfl (hb hby d0_105) rfl ?_
    show Go p e below t T15 m 106 #[rv ca, iv cl, .val (.double cs), .second, .val (.double ci), .second, iv cm] [(.double cs), (.ref ca)]
    exact k)
  obtain ⟨T18, h18, X18, e18, W18, st18⟩ := putF X15 hx hZ hown (host := "") (Or.inl (hw _ (List.mem_of_getElem? (i := 23) rfl))) Via.refl e15 (P2.other W15 (Or.inr (slot_ne (Or.inr (hw _ (List.mem_of_getElem? (i := 24) rfl))) (Or.inr (hw _ (List.mem_of_getElem? (i := 22) rfl))) (by decide) (t := .double) (t' := .int) (by decide) (by decide)))) (P0.wr W15) (Or.inr ⟨(hw _ (List.mem_of_getElem? (i := 24) rfl)), rfl, hnm⟩) (hw _ (List.mem_of_getElem? (i := 2) rfl)) (ty := .double) (by decide) rfl rfl (g := (mkF m 106 #[rv ca, iv cl, .val (.double cs), .second, .val (.double ci), .second, iv cm] [(.double cs), (.ref ca)])) rfl rfl (hb hby d0_106)
  have N18 := Fr.snoc X18 N15 P8
  have Fw18 := Fld.same W18 (P2.other W15 (Or.inr (slot_ne (Or.inr (hw _ (List.mem_of_getElem? (i := 24) rfl))) (Or.inr (hw _ (List.mem_of_getElem? (i := 22) rfl))) (by decide) (t := .double) (t' := .int) (by decide) (by decide))))
  have g19 : Goes p e below S0 (T18.setTop (mkF m 109 #[rv ca, iv cl, .val (.double cs), .second, .val (.double ci), .second, iv cm] [])) := fun t k => g17 t (st18 t k)
  have g20 : Goes p e below S0 (T18.setTop (mkF m 112 #[rv ca, iv cl, .val (.double cs), .second, .val (.double ci), .second, iv cm] [(.double ci), (.ref ca)])) := fun t k => g19 t (by
    refine XS.aloadN X18.here hx rfl (hb hby d0_109) rfl rfl ?_
    show Go p e below t T18 m 110 #[rv ca, iv cl, .val (.double cs), .second, .val (.double ci), .second, iv cm] [(.ref ca)]
    refine XS.dload X18.here hx rfl (hb hby d0_110) rfl ?_
    show Go p e below t T18 m 112 #[rv ca, iv cl, .val (.double cs), .second, .val (.double ci), .second, iv cm] [(.double ci), (.ref ca)]
    exact k)
  obtain ⟨T21, h21, X21, e21, W21, st21⟩ := putF X18 hx hZ hown (host := "") (Or.inl (hw _ (List.mem_of_getElem? (i := 25) rfl))) Via.refl e18 ((P3.other W15 (Or.inr (slot_ne (Or.inr (hw _ (List.mem_of_getElem? (i := 26) rfl))) (Or.inr (hw _ (List.mem_of_getElem? (i := 22) rfl))) (by decide) (t := .double) (t' := .int) (by decide) (by decide)))).other W18 (Or.inr (slot_ne (Or.inr (hw _ (List.mem_of_getElem? (i := 26) rfl))) (Or.inr (hw _ (List.mem_of_getElem? (i := 24) rfl))) (by decide) (t := .double) (t' := .double) (by decide) (by decide)))) ((P0.wr W15).wr W18) (Or.inr ⟨(hw _ (List.mem_of_getElem? (i := 26) rfl)), rfl, hnm⟩) (hw _ (List.mem_of_getElem? (i := 2) rfl)) (ty := .double) (by decide) rfl rfl (g := (mkF m 112 #[rv ca, iv cl, .val (.double cs), .second, .val (.double ci), .second, iv cm] [(.double ci), (.ref ca)])) rfl rfl (hb hby d0_112)
  have N21 := Fr.snoc X21 N18 P8
  have Fw21 := Fld.same W21 ((P3.other W15 (Or.inr (slot_ne (Or.inr (hw _ (List.mem_of_getElem? (i := 26) rfl))) (Or.inr (hw _ (List.mem_of_getElem? (i := 22) rfl))) (by decide) (t := .double) (t' := .int) (by decide) (by decide)))).other W18 (Or.inr (slot_ne (Or.inr (hw _ (List.mem_of_getElem? (i := 26) rfl))) (Or.inr (hw _ (List.mem_of_getElem? (i := 24) rfl))) (by decide) (t := .double) (t' := .double) (by decide) (by decide))))
  have g22 : Goes p e below S0 (T21.setTop (mkF m 115 #[rv ca, iv cl, .val (.double cs), .second, .val (.double ci), .second, iv cm] [])) := fun t k => g20 t (st21 t k)
  have g23 : Goes p e below S0 (T21.setTop (mkF m 118 #[rv ca, iv cl, .val (.double cs), .second, .val (.double ci), .second, iv cm] [(.int cm), (.ref ca)])) := fun t k => g22 t (by
    refine XS.aloadN X21.here hx rfl (hb hby d0_115) rfl rfl ?_
    show Go p e below t T21 m 116 #[rv ca, iv cl, .val (.double cs), .second, .val (.double ci), .second, iv cm] [(.ref ca)]
    refine XS.iload X21.here hx rfl (hb hby d0_116) rfl ?_
    show Go p e below t T21 m 118 #[rv ca, iv cl, .val (.double cs), .second, .val (.double ci), .second, iv cm] [(.int cm), (.ref ca)]
    exact k)
  obtain ⟨T24, h24, X24, e24, W24, st24⟩ := putF X21 hx hZ hown (host := "") (Or.inl (hw _ (List.mem_of_getElem? (i := 27) rfl))) Via.refl e21 (((P4.other W15 (Or.inr (slot_ne (Or.inr (hw _ (List.mem_of_getElem? (i := 28) rfl))) (Or.inr (hw _ (List.mem_of_getElem? (i := 22) rfl))) (by decide) (t := .int) (t' := .int) (by decide) (by decide)))).other W18 (Or.inr (slot_ne (Or.inr (hw _ (List.mem_of_getElem? (i := 28) rfl))) (Or.inr (hw _ (List.mem_of_getElem? (i := 24) rfl))) (by decide) (t := .int) (t' := .double) (by decide) (by decide)))).other W21 (Or.inr (slot_ne (Or.inr (hw _ (List.mem_of_getElem? (i := 28) rfl))) (Or.inr (hw _ (List.mem_of_getElem? (i := 26) rfl))) (by decide) (t := .int) (t' := .double) (by decide) (by decide)))) (((P0.wr W15).wr W18).wr W21) (Or.inr ⟨(hw _ (List.mem_of_getElem? (i := 28) rfl)), rfl, hnm⟩) (hw _ (List.mem_of_getElem? (i := 2) rfl)) (ty := .int) (by decide) rfl rfl (g := (mkF m 118 #[rv ca, iv cl, .val (.double cs), .second, .val (.double ci), .second, iv cm] [(.int cm), (.ref ca)])) rfl rfl (hb hby d0_118)
  have N24 := Fr.snoc X24 N21 P8
  have Fw24 := Fld.same W24 (((P4.other W15 (Or.inr (slot_ne (Or.inr (hw _ (List.mem_of_getElem? (i := 28) rfl))) (Or.inr (hw _ (List.mem_of_getElem? (i := 22) rfl))) (by decide) (t := .int) (t' := .int) (by decide) (by decide)))).other W18 (Or.inr (slot_ne (Or.inr (hw _ (List.mem_of_getElem? (i := 28) rfl))) (Or.inr (hw _ (List.mem_of_getElem? (i := 24) rfl))) (by decide) (t := .int) (t' := .double) (by decide) (by decide)))).other W21 (Or.inr (slot_ne (Or.inr (hw _ (List.mem_of_getElem? (i := 28) rfl))) (Or.inr (hw _ (List.mem_of_getElem? (i := 26) rfl))) (by decide) (t := .int) (t' := .double) (by decide) (by decide))))
  have g25 : Goes p e below S0 (T24.setTop (mkF m 121 #[rv ca, iv cl, .val (.double cs), .second, .val (.double ci), .second, iv cm] [])) := fun t k => g23 t (st24 t k)
  have g26 : Goes p e below S0 (T24.setTop (mkF m 123 #[rv ca, iv cl, .val (.double cs), .second, .val (.double ci), .second, iv cm] [.null, (.ref ca)])) := fun t k => g25 t (by
    refine XS.aloadN X24.here hx rfl (hb hby d0_121) rfl rfl ?_
    show Go p e below t T24 m 122 #[rv ca, iv cl, .val (.double cs), .second, .val (.double ci), .second, iv cm] [(.ref ca)]
    refine XS.aconstNull X24.here hx rfl (hb hby d0_122) ?_
    show Go p e below t T24 m 123 #[rv ca, iv cl, .val (.double cs), .second, .val (.double ci), .second, iv cm] [.null, (.ref ca)]
    exact k)
  obtain ⟨T27, h27, X27, e27, W27, st27⟩ := putF X24 hx hZ hown (host := "") (Or.inl (hw _ (List.mem_of_getElem? (i := 29) rfl))) Via.refl e24 ((((P5.other W15 (Or.inr (slot_ne (Or.inr (hw _ (List.mem_of_getElem? (i := 30) rfl))) (Or.inr (hw _ (List.mem_of_getElem? (i := 22) rfl))) (by decide) (t := (.array .double)) (t' := .int) (by decide) (by decide)))).other W18 (Or.inr (slot_ne (Or.inr (hw _ (List.mem_of_getElem? (i := 30) rfl))) (Or.inr (hw _ (List.mem_of_getElem? (i := 24) rfl))) (by decide) (t := (.array .double)) (t' := .double) (by decide) (by decide)))).other W21 (Or.inr (slot_ne (Or.inr (hw _ (List.mem_of_getElem? (i := 30) rfl))) (Or.inr (hw _ (List.mem_of_getElem? (i := 26) rfl))) (by decide) (t := (.array .double)) (t' := .double) (by decide) (by decide)))).other W24 (Or.inr (slot_ne (Or.inr (hw _ (List.mem_of_getElem? (i := 30) rfl))) (Or.inr (hw _ (List.mem_of_getElem? (i := 28) rfl))) (by decide) (t := (.array .double)) (t' := .int) (by decide) (by decide)))) ((((P0.wr W15).wr W18).wr W21).wr W24) (Or.inr ⟨(hw _ (List.mem_of_getElem? (i := 30) rfl)), rfl, hnm⟩) (hw _ (List.mem_of_getElem? (i := 2) rfl)) (ty := (.array .double)) (by decide) rfl rfl (g := (mkF m 123 #[rv ca, iv cl, .val (.double cs), .second, .val (.double ci), .second, iv cm] [.null, (.ref ca)])) rfl rfl (hb hby d0_123)
  have N27 := Fr.snoc X27 N24 P8
  have Fw27 := Fld.same W27 ((((P5.other W15 (Or.inr (slot_ne (Or.inr (hw _ (List.mem_of_getElem? (i := 30) rfl))) (Or.inr (hw _ (List.mem_of_getElem? (i := 22) rfl))) (by decide) (t := (.array .double)) (t' := .int) (by decide) (by decide)))).other W18 (Or.inr (slot_ne (Or.inr (hw _ (List.mem_of_getElem? (i := 30) rfl))) (Or.inr (hw _ (List.mem_of_getElem? (i := 24) rfl))) (by decide) (t := (.array .double)) (t' := .double) (by decide) (by decide)))).other W21 (Or.inr (slot_ne (Or.inr (hw _ (List.mem_of_getElem? (i := 30) rfl))) (Or.inr (hw _ (List.mem_of_getElem? (i := 26) rfl))) (by decide) (t := (.array .double)) (t' := .double) (by decide) (by decide)))).other W24 (Or.inr (slot_ne (Or.inr (hw _ (List.mem_of_getElem? (i := 30) rfl))) (Or.inr (hw _ (List.mem_of_getElem? (i := 28) rfl))) (by decide) (t := (.array .double)) (t' := .int) (by decide) (by decide))))
  have g28 : Goes p e below S0 (T27.setTop (mkF m 126 #[rv ca, iv cl, .val (.double cs), .second, .val (.double ci), .second, iv cm] [])) := fun t k => g26 t (st27 t k)
  have g29 : Goes p e below S0 (T27.setTop (mkF m 128 #[rv ca, iv cl, .val (.double cs), .second, .val (.double ci), .second, iv cm] [(.int (0 : Int32)), (.ref ca)])) := fun t k => g28 t (by
    refine XS.aloadN X27.here hx rfl (hb hby d0_126) rfl rfl ?_
    show Go p e below t T27 m 127 #[rv ca, iv cl, .val (.double cs), .second, .val (.double ci), .second, iv cm] [(.ref ca)]
    refine XT.iconstV X27.here hx rfl (0 : Int32) (hb hby d0_127) (by decide) ?_
    show Go p e below t T27 m 128 #[rv ca, iv cl, .val (.double cs), .second, .val (.double ci), .second, iv cm] [(.int (0 : Int32)), (.ref ca)]
    exact k)
  obtain ⟨T30, h30, X30, e30, W30, st30⟩ := putFN X27 hx hZ hown (hw _ (List.mem_of_getElem? (i := 31) rfl)) Via.refl e27 (((((P6.other W15 (Or.inr (slot_ne (Or.inr (hw _ (List.mem_of_getElem? (i := 32) rfl))) (Or.inr (hw _ (List.mem_of_getElem? (i := 22) rfl))) (by decide) (t := .boolean) (t' := .int) (by decide) (by decide)))).other W18 (Or.inr (slot_ne (Or.inr (hw _ (List.mem_of_getElem? (i := 32) rfl))) (Or.inr (hw _ (List.mem_of_getElem? (i := 24) rfl))) (by decide) (t := .boolean) (t' := .double) (by decide) (by decide)))).other W21 (Or.inr (slot_ne (Or.inr (hw _ (List.mem_of_getElem? (i := 32) rfl))) (Or.inr (hw _ (List.mem_of_getElem? (i := 26) rfl))) (by decide) (t := .boolean) (t' := .double) (by decide) (by decide)))).other W24 (Or.inr (slot_ne (Or.inr (hw _ (List.mem_of_getElem? (i := 32) rfl))) (Or.inr (hw _ (List.mem_of_getElem? (i := 28) rfl))) (by decide) (t := .boolean) (t' := .int) (by decide) (by decide)))).other W27 (Or.inr (slot_ne (Or.inr (hw _ (List.mem_of_getElem? (i := 32) rfl))) (Or.inr (hw _ (List.mem_of_getElem? (i := 30) rfl))) (by decide) (t := .boolean) (t' := (.array .double)) (by decide) (by decide)))) (((((P0.wr W15).wr W18).wr W21).wr W24).wr W27) (Or.inr ⟨(hw _ (List.mem_of_getElem? (i := 32) rfl)), rfl, hnm⟩) (hw _ (List.mem_of_getElem? (i := 2) rfl)) (ty := .boolean) (v' := (.int (0 : Int32))) (by decide) (by decide) (by decide) (g := (mkF m 128 #[rv ca, iv cl, .val (.double cs), .second, .val (.double ci), .second, iv cm] [(.int (0 : Int32)), (.ref ca)])) rfl rfl (hb hby d0_128)
  have N30 := Fr.snoc X30 N27 P8
  have Fw30 := Fld.same W30 (((((P6.other W15 (Or.inr (slot_ne (Or.inr (hw _ (List.mem_of_getElem? (i := 32) rfl))) (Or.inr (hw _ (List.mem_of_getElem? (i := 22) rfl))) (by decide) (t := .boolean) (t' := .int) (by decide) (by decide)))).other W18 (Or.inr (slot_ne (Or.inr (hw _ (List.mem_of_getElem? (i := 32) rfl))) (Or.inr (hw _ (List.mem_of_getElem? (i := 24) rfl))) (by decide) (t := .boolean) (t' := .double) (by decide) (by decide)))).other W21 (Or.inr (slot_ne (Or.inr (hw _ (List.mem_of_getElem? (i := 32) rfl))) (Or.inr (hw _ (List.mem_of_getElem? (i := 26) rfl))) (by decide) (t := .boolean) (t' := .double) (by decide) (by decide)))).other W24 (Or.inr (slot_ne (Or.inr (hw _ (List.mem_of_getElem? (i := 32) rfl))) (Or.inr (hw _ (List.mem_of_getElem? (i := 28) rfl))) (by decide) (t := .boolean) (t' := .int) (by decide) (by decide)))).other W27 (Or.inr (slot_ne (Or.inr (hw _ (List.mem_of_getElem? (i := 32) rfl))) (Or.inr (hw _ (List.mem_of_getElem? (i := 30) rfl))) (by decide) (t := .boolean) (t' := (.array .double)) (by decide) (by decide))))
  have g31 : Goes p e below S0 (T30.setTop (mkF m 131 #[rv ca, iv cl, .val (.double cs), .second, .val (.double ci), .second, iv cm] [])) := fun t k => g29 t (st30 t k)
  have g32 : Goes p e below S0 (T30.setTop (mkF m 133 #[rv ca, iv cl, .val (.double cs), .second, .val (.double ci), .second, iv cm] [(.int (0 : Int32)), (.ref ca)])) := fun t k => g31 t (by
    refine XS.aloadN X30.here hx rfl (hb hby d0_131) rfl rfl ?_
    show Go p e below t T30 m 132 #[rv ca, iv cl, .val (.double cs), .second, .val (.double ci), .second, iv cm] [(.ref ca)]
    refine XT.iconstV X30.here hx rfl (0 : Int32) (hb hby d0_132) (by decide) ?_
    show Go p e below t T30 m 133 #[rv ca, iv cl, .val (.double cs), .second, .val (.double ci), .second, iv cm] [(.int (0 : Int32)), (.ref ca)]
    exact k)
  obtain ⟨T33, h33, X33, e33, W33, st33⟩ := putFN X30 hx hZ hown (hw _ (List.mem_of_getElem? (i := 33) rfl)) Via.refl e30 ((((((P7.other W15 (Or.inr (slot_ne (Or.inr (hw _ (List.mem_of_getElem? (i := 34) rfl))) (Or.inr (hw _ (List.mem_of_getElem? (i := 22) rfl))) (by decide) (t := .boolean) (t' := .int) (by decide) (by decide)))).other W18 (Or.inr (slot_ne (Or.inr (hw _ (List.mem_of_getElem? (i := 34) rfl))) (Or.inr (hw _ (List.mem_of_getElem? (i := 24) rfl))) (by decide) (t := .boolean) (t' := .double) (by decide) (by decide)))).other W21 (Or.inr (slot_ne (Or.inr (hw _ (List.mem_of_getElem? (i := 34) rfl))) (Or.inr (hw _ (List.mem_of_getElem? (i := 26) rfl))) (by decide) (t := .boolean) (t' := .double) (by decide) (by decide)))).other W24 (Or.inr (slot_ne (Or.inr (hw _ (List.mem_of_getElem? (i := 34) rfl))) (Or.inr (hw _ (List.mem_of_getElem? (i := 28) rfl))) (by decide) (t := .boolean) (t' := .int) (by decide) (by decide)))).other W27 (Or.inr (slot_ne (Or.inr (hw _ (List.mem_of_getElem? (i := 34) rfl))) (Or.inr (hw _ (List.mem_of_getElem? (i := 30) rfl))) (by decide) (t := .boolean) (t' := (.array .double)) (by decide) (by decide)))).other W30 (Or.inr (slot_ne (Or.inr (hw _ (List.mem_of_getElem? (i := 34) rfl))) (Or.inr (hw _ (List.mem_of_getElem? (i := 32) rfl))) (by decide) (t := .boolean) (t' := .boolean) (by decide) (by decide)))) ((((((P0.wr W15).wr W18).wr W21).wr W24).wr W27).wr W30) (Or.inr ⟨(hw _ (List.mem_of_getElem? (i := 34) rfl)), rfl, hnm⟩) (hw _ (List.mem_of_getElem? (i := 2) rfl)) (ty := .boolean) (v' := (.int (0 : Int32))) (by decide) (by decide) (by decide) (g := (mkF m 133 #[rv ca, iv cl, .val (.double cs), .second, .val (.double ci), .second, iv cm] [(.int (0 : Int32)), (.ref ca)])) rfl rfl (hb hby d0_133)
  have N33 := Fr.snoc X33 N30 P8
  have Fw33 := Fld.same W33 ((((((P7.other W15 (Or.inr (slot_ne (Or.inr (hw _ (List.mem_of_getElem? (i := 34) rfl))) (Or.inr (hw _ (List.mem_of_getElem? (i := 22) rfl))) (by decide) (t := .boolean) (t' := .int) (by decide) (by decide)))).other W18 (Or.inr (slot_ne (Or.inr (hw _ (List.mem_of_getElem? (i := 34) rfl))) (Or.inr (hw _ (List.mem_of_getElem? (i := 24) rfl))) (by decide) (t := .boolean) (t' := .double) (by decide) (by decide)))).other W21 (Or.inr (slot_ne (Or.inr (hw _ (List.mem_of_getElem? (i := 34) rfl))) (Or.inr (hw _ (List.mem_of_getElem? (i := 26) rfl))) (by decide) (t := .boolean) (t' := .double) (by decide) (by decide)))).other W24 (Or.inr (slot_ne (Or.inr (hw _ (List.mem_of_getElem? (i := 34) rfl))) (Or.inr (hw _ (List.mem_of_getElem? (i := 28) rfl))) (by decide) (t := .boolean) (t' := .int) (by decide) (by decide)))).other W27 (Or.inr (slot_ne (Or.inr (hw _ (List.mem_of_getElem? (i := 34) rfl))) (Or.inr (hw _ (List.mem_of_getElem? (i := 30) rfl))) (by decide) (t := .boolean) (t' := (.array .double)) (by decide) (by decide)))).other W30 (Or.inr (slot_ne (Or.inr (hw _ (List.mem_of_getElem? (i := 34) rfl))) (Or.inr (hw _ (List.mem_of_getElem? (i := 32) rfl))) (by decide) (t := .boolean) (t' := .boolean) (by decide) (by decide))))
  have g34 : Goes p e below S0 (T33.setTop (mkF m 136 #[rv ca, iv cl, .val (.double cs), .second, .val (.double ci), .second, iv cm] [])) := fun t k => g32 t (st33 t k)
  obtain ⟨fs, hr, hrun, hended, hW, hsame⟩ := X33.leave (v := none) (fun _ => rfl)
  refine ⟨_, _, g34 _ (X33.returnOut hx Bd.returns (hb hby d0_136) hr), hrun, hended, _, _, rfl, ?_, ⟨_, rfl⟩, hW, hsame.mono (by decide) (by decide)⟩
  show Q_ini Z ca cl cs ci cm  h0 n0 _ T33.heap _
  rw [e33]
  exact ⟨rfl, N33, ((((((((Keep.refl h0 [ca]).wr W15 (Or.inl (List.mem_of_getElem? (i := 0) rfl))).wr W18 (Or.inl (List.mem_of_getElem? (i := 0) rfl))).wr W21 (Or.inl (List.mem_of_getElem? (i := 0) rfl))).wr W24 (Or.inl (List.mem_of_getElem? (i := 0) rfl))).wr W27 (Or.inl (List.mem_of_getElem? (i := 0) rfl))).wr W30 (Or.inl (List.mem_of_getElem? (i := 0) rfl))).wr W33 (Or.inl (List.mem_of_getElem? (i := 0) rfl))), (((((((P0.wr W15).wr W18).wr W21).wr W24).wr W27).wr W30).wr W33), ((((((Fw15.other W18 (Or.inr (slot_ne (Or.inr (hw _ (List.mem_of_getElem? (i := 22) rfl))) (Or.inr (hw _ (List.mem_of_getElem? (i := 24) rfl))) (by decide) (t := .int) (t' := .double) (by decide) (by decide)))).other W21 (Or.inr (slot_ne (Or.inr (hw _ (List.mem_of_getElem? (i := 22) rfl))) (Or.inr (hw _ (List.mem_of_getElem? (i := 26) rfl))) (by decide) (t := .int) (t' := .double) (by decide) (by decide)))).other W24 (Or.inr (slot_ne (Or.inr (hw _ (List.mem_of_getElem? (i := 22) rfl))) (Or.inr (hw _ (List.mem_of_getElem? (i := 28) rfl))) (by decide) (t := .int) (t' := .int) (by decide) (by decide)))).other W27 (Or.inr (slot_ne (Or.inr (hw _ (List.mem_of_getElem? (i := 22) rfl))) (Or.inr (hw _ (List.mem_of_getElem? (i := 30) rfl))) (by decide) (t := .int) (t' := (.array .double)) (by decide) (by decide)))).other W30 (Or.inr (slot_ne (Or.inr (hw _ (List.mem_of_getElem? (i := 22) rfl))) (Or.inr (hw _ (List.mem_of_getElem? (i := 32) rfl))) (by decide) (t := .int) (t' := .boolean) (by decide) (by decide)))).other W33 (Or.inr (slot_ne (Or.inr (hw _ (List.mem_of_getElem? (i := 22) rfl))) (Or.inr (hw _ (List.mem_of_getElem? (i := 34) rfl))) (by decide) (t := .int) (t' := .boolean) (by decide) (by decide)))), (((((Fw18.other W21 (Or.inr (slot_ne (Or.inr (hw _ (List.mem_of_getElem? (i := 24) rfl))) (Or.inr (hw _ (List.mem_of_getElem? (i := 26) rfl))) (by decide) (t := .double) (t' := .double) (by decide) (by decide)))).other W24 (Or.inr (slot_ne (Or.inr (hw _ (List.mem_of_getElem? (i := 24) rfl))) (Or.inr (hw _ (List.mem_of_getElem? (i := 28) rfl))) (by decide) (t := .double) (t' := .int) (by decide) (by decide)))).other W27 (Or.inr (slot_ne (Or.inr (hw _ (List.mem_of_getElem? (i := 24) rfl))) (Or.inr (hw _ (List.mem_of_getElem? (i := 30) rfl))) (by decide) (t := .double) (t' := (.array .double)) (by decide) (by decide)))).other W30 (Or.inr (slot_ne (Or.inr (hw _ (List.mem_of_getElem? (i := 24) rfl))) (Or.inr (hw _ (List.mem_of_getElem? (i := 32) rfl))) (by decide) (t := .double) (t' := .boolean) (by decide) (by decide)))).other W33 (Or.inr (slot_ne (Or.inr (hw _ (List.mem_of_getElem? (i := 24) rfl))) (Or.inr (hw _ (List.mem_of_getElem? (i := 34) rfl))) (by decide) (t := .double) (t' := .boolean) (by decide) (by decide)))), ((((Fw21.other W24 (Or.inr (slot_ne (Or.inr (hw _ (List.mem_of_getElem? (i := 26) rfl))) (Or.inr (hw _ (List.mem_of_getElem? (i := 28) rfl))) (by decide) (t := .double) (t' := .int) (by decide) (by decide)))).other W27 (Or.inr (slot_ne (Or.inr (hw _ (List.mem_of_getElem? (i := 26) rfl))) (Or.inr (hw _ (List.mem_of_getElem? (i := 30) rfl))) (by decide) (t := .double) (t' := (.array .double)) (by decide) (by decide)))).other W30 (Or.inr (slot_ne (Or.inr (hw _ (List.mem_of_getElem? (i := 26) rfl))) (Or.inr (hw _ (List.mem_of_getElem? (i := 32) rfl))) (by decide) (t := .double) (t' := .boolean) (by decide) (by decide)))).other W33 (Or.inr (slot_ne (Or.inr (hw _ (List.mem_of_getElem? (i := 26) rfl))) (Or.inr (hw _ (List.mem_of_getElem? (i := 34) rfl))) (by decide) (t := .double) (t' := .boolean) (by decide) (by decide)))), (((Fw24.other W27 (Or.inr (slot_ne (Or.inr (hw _ (List.mem_of_getElem? (i := 28) rfl))) (Or.inr (hw _ (List.mem_of_getElem? (i := 30) rfl))) (by decide) (t := .int) (t' := (.array .double)) (by decide) (by decide)))).other W30 (Or.inr (slot_ne (Or.inr (hw _ (List.mem_of_getElem? (i := 28) rfl))) (Or.inr (hw _ (List.mem_of_getElem? (i := 32) rfl))) (by decide) (t := .int) (t' := .boolean) (by decide) (by decide)))).other W33 (Or.inr (slot_ne (Or.inr (hw _ (List.mem_of_getElem? (i := 28) rfl))) (Or.inr (hw _ (List.mem_of_getElem? (i := 34) rfl))) (by decide) (t := .int) (t' := .boolean) (by decide) (by decide)))), ((Fw27.other W30 (Or.inr (slot_ne (Or.inr (hw _ (List.mem_of_getElem? (i := 30) rfl))) (Or.inr (hw _ (List.mem_of_getElem? (i := 32) rfl))) (by decide) (t := (.array .double)) (t' := .boolean) (by decide) (by decide)))).other W33 (Or.inr (slot_ne (Or.inr (hw _ (List.mem_of_getElem? (i := 30) rfl))) (Or.inr (hw _ (List.mem_of_getElem? (i := 34) rfl))) (by decide) (t := (.array .double)) (t' := .boolean) (by decide) (by decide)))), (Fw30.other W33 (Or.inr (slot_ne (Or.inr (hw _ (List.mem_of_getElem? (i := 32) rfl))) (Or.inr (hw _ (List.mem_of_getElem? (i := 34) rfl))) (by decide) (t := .boolean) (t' := .boolean) (by decide) (by decide)))), Fw33⟩
theorem d4_0 : decode prog_22_method_10_code 0 = .ok (.dload_n 1, 1) := by decide +kernel
theorem d4_1 : decode prog_22_method_10_code 1 = .ok (.aload_n 0, 1) := by decide +kernel
theorem d4_2 : decode prog_22_method_10_code 2 = .ok (.getfield 37, 3) := by decide +kernel
theorem d4_5 : decode prog_22_method_10_code 5 = .ok (.dcmp .l, 1) := by decide +kernel
theorem d4_6 : decode prog_22_method_10_code 6 = .ok (.ifCond .le 7, 3) := by decide +kernel
theorem d4_9 : decode prog_22_method_10_code 9 = .ok (.iconst 1, 1) := by decide +kernel
theorem d4_10 : decode prog_22_method_10_code 10 = .ok (.goto 4, 3) := by decide +kernel
theorem d4_13 : decode prog_22_method_10_code 13 = .ok (.iconst 0, 1) := by decide +kernel
theorem d4_14 : decode prog_22_method_10_code 14 = .ok (.ireturn, 1) := by decide +kernel
theorem pf_acc : plainFor (⟨"com/example/hetmo/hetmo/tree/StoppingRules", "accepts", "(D)Z"⟩ : MethodName) = true := by first | exact plainFor_of_name (by first | (simp [plainName, overriddenIn, x]; done) | decide +kernel) | exact Jvm.Free.JP.mathPlain rfl (by decide +kernel) | decide +kernel
theorem ef_acc (m : MethodId) (za : Addr) (zd : UInt64) : entryFrame m #[(.ref za), (.double zd)] 3 = mkF m 0 #[rv za, .val (.double zd), .second] [] := by first | (simp [entryFrame, mkF, argsToLocals, Value.category, maxLocals]; done) | rfl
def f_acc (zd : UInt64) (zx : UInt64) : Int32 := (if dLt zx zd then (1 : Int32) else (0 : Int32))
def Q_acc (Z : State) (za : Addr) (zd : UInt64) (zx : UInt64) (h0 : Heap) (n0 : Nat) (v : Option Value) (h : Heap) (L : List Loc) : Prop := v = some (.int (f_acc zd zx)) ∧ Fr n0 L ∧ h = h0
set_option maxRecDepth 65536 in
set_option maxHeartbeats 40000000 in
theorem rm_acc (l : Launch) (Z : State) (a0 : Array Value) (hw : ∀ d ∈ tables_1, d.before a0 Z = true) (ws : List Jvm.Cond) (za : Addr) (zd : UInt64) (zx : UInt64) (h0 : Heap) (n0 : Nat) (Z0 : n0 ≤ h0.size) (P0 : Fld Z h0 za "com/example/hetmo/hetmo/tree/StoppingRules" "_minImprovement" "D" (.double zx))  :
    MetFree l (⟨"com/example/hetmo/hetmo/tree/StoppingRules", "accepts", "(D)Z"⟩ : MethodName) (head1 (Jvm.Cond.code (⟨"com/example/hetmo/hetmo/tree/StoppingRules", "accepts", "(D)Z"⟩ : MethodName) prog_22_method_10_code 3 (some .boolean) :: ws) ({ frames := 0, cells := 0, slots := 0, locals := 0 } : Room)) (fun a U => a = #[(.ref za), (.double zd)] ∧ Z.Warmed39 U.vm ∧ U.heap = h0) (fun _ _ _ _ _ => True) (fun _ U o U' => ∃ v L, o = .returned v ∧ Q_acc Z za zd zx h0 n0 v U'.heap L ∧ FrameEnd U o U' L ({ frames := 0, cells := 0, slots := 0, locals := 0 } : Room).cells ({ frames := 0, cells := 0, slots := 0, locals := 0 } : Room).slots) := by
  refine MetFree.of_bodySF pf_acc hisR ?_
  intro p e s m args below meth c s₁ Bd hml0 hP hK
  obtain ⟨rfl, hZ, hh⟩ := hP
  have hx := Bd.exec
  have hby := Bd.bytes
  have hml : c.maxLocals = 3 := hml0
  have hown : s.vm.findClass "com/example/hetmo/hetmo/tree/StoppingRules" = some m.cls := findClass_of_methodNamed Bd.named
  have hnm := (name_of_methodNamed Bd.named Bd.method).1
  have X0 : Stand p l e ({ frames := 0, cells := 0, slots := 0, locals := 0 } : Room) s m #[(.ref za), (.double zd)] below meth c s₁ [] 0 0 := Stand.of_body Bd
  have e0 : s₁.heap = h0 := by rw [← hh, Bd.state]; rfl
  have N0 := Fr.nil n0
  obtain ⟨S0, hS0⟩ : ∃ z, z = s₁.setTop (entryFrame m #[(.ref za), (.double zd)] 3) := ⟨_, rfl⟩
  rw [← hS0]
  have g0 : Goes p e below S0 (s₁.setTop (mkF m 0 #[rv za, .val (.double zd), .second] [])) := fun t k => by rw [hS0]; exact castTop (ef_acc m za zd) k
  have g35 : Goes p e below S0 (s₁.setTop (mkF m 2 #[rv za, .val (.double zd), .second] [(.ref za), (.double zd)])) := fun t k => g0 t (by
    refine XS.dloadN X0.here hx rfl (hb hby d4_0) rfl ?_
    show Go p e below t s₁ m 1 #[rv za, .val (.double zd), .second] [(.double zd)]
    refine XS.aloadN X0.here hx rfl (hb hby d4_1) rfl rfl ?_
    show Go p e below t s₁ m 2 #[rv za, .val (.double zd), .second] [(.ref za), (.double zd)]
    exact k)
  obtain ⟨T36, X36, e36, st36⟩ := getF X0 hx hZ hown (host := "") (Or.inl (hw _ (List.mem_of_getElem? (i := 25) rfl))) Via.refl e0 P0 (g := (mkF m 2 #[rv za, .val (.double zd), .second] [(.ref za), (.double zd)])) rfl rfl (hb hby d4_2)
  have g37 : Goes p e below S0 (T36.setTop (mkF m 5 #[rv za, .val (.double zd), .second] [(.double zx), (.double zd)])) := fun t k => g35 t (st36 t k)
  have g38 : Goes p e below S0 (T36.setTop (mkF m 6 #[rv za, .val (.double zd), .second] [(.int (cmpValue (FP.dcmp zd zx) .l))])) := fun t k => g37 t (by
    refine XS.dcmpS X36.here hx rfl (hb hby d4_5) rfl rfl ?_
    show Go p e below t T36 m 6 #[rv za, .val (.double zd), .second] [(.int (cmpValue (FP.dcmp zd zx) .l))]
    exact k)
  by_cases h39 : dLt zx zd
  · skip
    have g40 : Goes p e below S0 (T36.setTop (mkF m 14 #[rv za, .val (.double zd), .second] [(.int (1 : Int32))])) := fun t k => g38 t (by
      refine XS.ifNo X36.here hx rfl (hb hby d4_6) rfl (dc_l_le_f h39) ?_
      show Go p e below t T36 m 9 #[rv za, .val (.double zd), .second] []
      refine XT.iconstV X36.here hx rfl (1 : Int32) (hb hby d4_9) (by decide) ?_
      show Go p e below t T36 m 10 #[rv za, .val (.double zd), .second] [(.int (1 : Int32))]
      refine XS.goto X36.here hx rfl (pc0 := 10) (pc' := 14) rfl (hb hby d4_10) (by decide) (by decide) ?_
      show Go p e below t T36 m 14 #[rv za, .val (.double zd), .second] [(.int (1 : Int32))]
      exact k)
    obtain ⟨fs, hr, hrun, hended, hW, hsame⟩ := X36.leave (v := some (.int (1 : Int32))) (fun h => by rw [Bd.returns] at h; cases h)
    refine ⟨_, _, g40 _ (retN X36 hx (t := .boolean) Bd.returns (by simp) (hb hby d4_14) hr), hrun, hended, _, _, rfl, ?_, ⟨_, rfl⟩, hW, hsame.mono (by decide) (by decide)⟩
    show Q_acc Z za zd zx h0 n0 _ T36.heap _
    rw [e36]
    exact ⟨by unfold f_acc; rw [if_pos h39], N0, rfl⟩
  · skip
    have g41 : Goes p e below S0 (T36.setTop (mkF m 14 #[rv za, .val (.double zd), .second] [(.int (0 : Int32))])) := fun t k => g38 t (by
      refine XS.ifYes X36.here hx rfl (pc0 := 6) (pc' := 13) rfl (hb hby d4_6) rfl (dc_l_le_t h39) (by decide) (by decide) ?_
      show Go p e below t T36 m 13 #[rv za, .val (.double zd), .second] []
      refine XT.iconstV X36.here hx rfl (0 : Int32) (hb hby d4_13) (by decide) ?_
      show Go p e below t T36 m 14 #[rv za, .val (.double zd), .second] [(.int (0 : Int32))]
      exact k)
    obtain ⟨fs, hr, hrun, hended, hW, hsame⟩ := X36.leave (v := some (.int (0 : Int32))) (fun h => by rw [Bd.returns] at h; cases h)
    refine ⟨_, _, g41 _ (retN X36 hx (t := .boolean) Bd.returns (by simp) (hb hby d4_14) hr), hrun, hended, _, _, rfl, ?_, ⟨_, rfl⟩, hW, hsame.mono (by decide) (by decide)⟩
    show Q_acc Z za zd zx h0 n0 _ T36.heap _
    rw [e36]
    exact ⟨by unfold f_acc; rw [if_neg h39], N0, rfl⟩
def nM (a : Int32) : Int64 := a.toInt64 &&& 2147483647
def nA (a : Int32) : Int32 := (a &&& 65535) + 1
def nB (a : Int32) : UInt64 := FP.i2d (a &&& 1)
def nC (a : Int32) : Int32 := a &&& 2147483647

theorem own_q1 (a : Int32) : ¬ (((a &&& (65535 : Int32)) + (1 : Int32)) < (1 : Int32)) := by
  have h := c_mask a 65535 16 (by decide) (by decide)
  have h2 := c_iadd (a &&& 65535) 1
  have h3 := rng32 ((a &&& 65535) + 1)
  have : (1 : Int32).toInt = 1 := by decide
  rw [Int32.lt_iff_toInt_lt]; omega
theorem own_b1 (a : Int32) : a &&& 1 = 0 ∨ a &&& 1 = 1 := and_one a
theorem own_q2 (a : Int32) : dLe (0 : UInt64) (FP.i2d (a &&& (1 : Int32))) := by
  rcases own_b1 a with h | h <;> rw [h] <;> decide +kernel
theorem own_q3 (a : Int32) : dLe (FP.i2d (a &&& (1 : Int32))) (4607182418800017408 : UInt64) := by
  rcases own_b1 a with h | h <;> rw [h] <;> decide +kernel
theorem own_m (a : Int32) : 0 ≤ (nM a).toInt ∧ (nM a).toInt < 2147483648 := by
  have h := c_maskL a.toInt64 2147483647 31 (by decide) (by decide)
  unfold nM; omega
open Jvm.OwnFP in
theorem own_vm (a : Int32) : Val (FP.l2d (nM a)) (nM a).toInt 1074 := Val.l2d (by have := own_m a; omega)
open Jvm.OwnFP in
theorem own_v0 : Val (0 : UInt64) 0 1074 := by
  have h := Val.i2d 0
  rw [show FP.i2d 0 = (0 : UInt64) by decide +kernel] at h
  exact h
theorem own_cmp {N M : Int} (h : N ≤ M) : compare N M = .lt ∨ compare N M = .eq := by
  rw [FP.Core.compare_lt_iff, FP.Core.compare_eq_iff]; omega
theorem own_q4 (a : Int32) : dLe (0 : UInt64) (FP.l2d (nM a)) := by
  unfold dLe
  rw [own_v0.cmp (own_vm a)]
  have := own_m a
  simpa using own_cmp (N := 0) (M := (nM a).toInt) (by omega)
theorem own_qn (a : Int32) : Jvm.Free.Fl.NoNaN64 (FP.l2d (nM a)) := (Jvm.Free.Fl.l2d_fin _).noNaN
open Jvm.OwnFP in
theorem own_fmax {x : UInt64} (h : FP.Core.DFin x) : dLe (x &&& 0x7fffffffffffffff) (9218868437227405311 : UInt64) := by
  have hb := (FP.Core.fin_bits x).mp h
  have hm := FP.Core.mask_toNat x
  have c : (9218868437227405311 : UInt64).toNat = 9218868437227405311 := by decide
  have f1 : FP.Core.DFin (x &&& 0x7fffffffffffffff) := (FP.Core.fin_bits _).mpr (by omega)
  have f2 : FP.Core.DFin (9218868437227405311 : UInt64) := (FP.Core.fin_bits _).mpr (by decide)
  unfold dLe
  have k : FP.dcmp (x &&& 0x7fffffffffffffff) 9218868437227405311 = some (compare (FP.Core.dkey (x &&& 0x7fffffffffffffff)) (FP.Core.dkey 9218868437227405311)) := FP.Core.dcmp_key (fin_ne f1) (fin_ne f2)
  rw [k]
  have k1 : FP.Core.dkey (x &&& 0x7fffffffffffffff) = ((x &&& 0x7fffffffffffffff).toNat : Int) := by unfold FP.Core.dkey; rw [if_neg (by omega)]
  have k2 : FP.Core.dkey 9218868437227405311 = 9218868437227405311 := by decide
  simpa using own_cmp (N := FP.Core.dkey (x &&& 0x7fffffffffffffff)) (M := FP.Core.dkey 9218868437227405311) (by rw [k1, k2]; omega)
theorem own_q5 (a : Int32) : ¬ ((f_fin (FP.l2d (nM a))) = 0) := by
  unfold f_fin
  rw [if_pos (own_fmax (Jvm.Free.Fl.fin64_core.mp (Jvm.Free.Fl.l2d_fin _)))]
  decide
theorem own_q6 (a : Int32) : ¬ ((a &&& (2147483647 : Int32)) < 0) := by
  have h := c_and a 2147483647 (by decide)
  rw [Int32.lt_iff_toInt_lt]
  have : (0 : Int32).toInt = 0 := by decide
  omega

theorem pd3 : parseMethodDescriptor "(IIIIII)Z" = some ⟨[.int, .int, .int, .int, .int, .int], some .boolean⟩ := by decide +kernel
theorem pf_law : plainFor x = true := by first | exact plainFor_of_name (by first | (simp [plainName, overriddenIn, x]; done) | decide +kernel) | exact Jvm.Free.JP.mathPlain rfl (by decide +kernel) | decide +kernel
theorem ef_law (m : MethodId) (i0 : Int32) (i1 : Int32) (i2 : Int32) (i3 : Int32) (i4 : Int32) (i5 : Int32) : entryFrame m #[(.int i0), (.int i1), (.int i2), (.int i3), (.int i4), (.int i5)] maxLocals = mkF m 0 #[iv i0, iv i1, iv i2, iv i3, iv i4, iv i5, .unset, .unset, .unset, .unset, .unset, .unset] [] := by first | (simp [entryFrame, mkF, argsToLocals, Value.category, maxLocals]; done) | rfl
def f_law (i0 : Int32) (i1 : Int32) (i2 : Int32) (i3 : Int32) (i4 : Int32) (i5 : Int32) : Int32 := (if (i5 &&& (1 : Int32)) = 0 then (if (nM i2) < ((i4).toInt64) then (if (f_acc (FP.l2d ((i4).toInt64)) (FP.l2d (nM i2))) = (1 : Int32) then (1 : Int32) else (0 : Int32)) else (if (f_acc (FP.l2d ((i4).toInt64)) (FP.l2d (nM i2))) = (0 : Int32) then (1 : Int32) else (0 : Int32))) else (if (nM i2) < (((nM i2) + (((i5 >>> ((1 : Int32) &&& 31)) &&& (3 : Int32)).toInt64)) - (1 : Int64)) then (if (f_acc (FP.l2d (((nM i2) + (((i5 >>> ((1 : Int32) &&& 31)) &&& (3 : Int32)).toInt64)) - (1 : Int64))) (FP.l2d (nM i2))) = (1 : Int32) then (1 : Int32) else (0 : Int32)) else (if (f_acc (FP.l2d (((nM i2) + (((i5 >>> ((1 : Int32) &&& 31)) &&& (3 : Int32)).toInt64)) - (1 : Int64))) (FP.l2d (nM i2))) = (0 : Int32) then (1 : Int32) else (0 : Int32))))
def Q_law (Z : State) (i0 : Int32) (i1 : Int32) (i2 : Int32) (i3 : Int32) (i4 : Int32) (i5 : Int32)  (h0 : Heap) (n0 : Nat) (v : Option Value) (h : Heap) (L : List Loc) : Prop := v = some (.int (f_law i0 i1 i2 i3 i4 i5)) ∧ Fr n0 L
set_option maxRecDepth 65536 in
set_option maxHeartbeats 40000000 in
theorem rm_law (l : Launch) (Z : State) (a0 : Array Value) (hw : ∀ d ∈ tables_1, d.before a0 Z = true) (ws : List Jvm.Cond) (i0 : Int32) (i1 : Int32) (i2 : Int32) (i3 : Int32) (i4 : Int32) (i5 : Int32)  (h0 : Heap) (n0 : Nat) (Z0 : n0 ≤ h0.size)   :
    MetFree l x (head1 (Jvm.Cond.code x code maxLocals ret :: ws) room_1) (fun a U => a = #[(.int i0), (.int i1), (.int i2), (.int i3), (.int i4), (.int i5)] ∧ Z.Warmed39 U.vm ∧ U.heap = h0) (fun _ _ _ _ _ => True) (fun _ U o U' => ∃ v L, o = .returned v ∧ Q_law Z i0 i1 i2 i3 i4 i5  h0 n0 v U'.heap L ∧ FrameEnd U o U' L 16 128) := by
  refine MetFree.of_bodySF pf_law hisR ?_
  intro p e s m args below meth c s₁ Bd hml0 hP hK
  obtain ⟨rfl, hZ, hh⟩ := hP
  have hx := Bd.exec
  have hby := Bd.bytes
  have hml : c.maxLocals = 12 := hml0
  have hown : s.vm.findClass "com/example/hetmo/hetmo/tree/StoppingRulesAcceptsPinLaw" = some m.cls := findClass_of_methodNamed Bd.named
  have hnm := (name_of_methodNamed Bd.named Bd.method).1
  have X0 : Stand p l e room_1 s m #[(.int i0), (.int i1), (.int i2), (.int i3), (.int i4), (.int i5)] below meth c s₁ [] 0 0 := Stand.of_body Bd
  have e0 : s₁.heap = h0 := by rw [← hh, Bd.state]; rfl
  have N0 := Fr.nil n0
  obtain ⟨S0, hS0⟩ : ∃ z, z = s₁.setTop (entryFrame m #[(.int i0), (.int i1), (.int i2), (.int i3), (.int i4), (.int i5)] maxLocals) := ⟨_, rfl⟩
  rw [← hS0]
  have g0 : Goes p e below S0 (s₁.setTop (mkF m 0 #[iv i0, iv i1, iv i2, iv i3, iv i4, iv i5, .unset, .unset, .unset, .unset, .unset, .unset] [])) := fun t k => by rw [hS0]; exact castTop (ef_law m i0 i1 i2 i3 i4 i5) k
  have g42 : Goes p e below S0 (s₁.setTop (mkF m 12 #[iv i0, iv i1, iv i2, iv i3, iv i4, iv i5, .val (.long (nM i2)), .second, .unset, .unset, .unset, .unset] [(.int (i5 &&& (1 : Int32)))])) := fun t k => g0 t (by
    refine XS.iloadN X0.here hx rfl (hb hby at_0) rfl ?_
    show Go p e below t s₁ m 1 #[iv i0, iv i1, iv i2, iv i3, iv i4, iv i5, .unset, .unset, .unset, .unset, .unset, .unset] [(.int i2)]
    refine XS.i2l X0.here hx rfl (hb hby at_1) rfl ?_
    show Go p e below t s₁ m 2 #[iv i0, iv i1, iv i2, iv i3, iv i4, iv i5, .unset, .unset, .unset, .unset, .unset, .unset] [(.long ((i2).toInt64))]
    refine Jvm.Stand.ldc2J X0 hx hown (mvT hZ (hw _ (List.mem_of_getElem? (i := 0) rfl))) (g := (mkF m 2 #[iv i0, iv i1, iv i2, iv i3, iv i4, iv i5, .unset, .unset, .unset, .unset, .unset, .unset] [(.long ((i2).toInt64))])) rfl (hb hby at_2) ?_
    show Go p e below t s₁ m 5 #[iv i0, iv i1, iv i2, iv i3, iv i4, iv i5, .unset, .unset, .unset, .unset, .unset, .unset] [(.long (2147483647 : Int64)), (.long ((i2).toInt64))]
    refine XS.land X0.here hx rfl (hb hby at_5) rfl ?_
    show Go p e below t s₁ m 6 #[iv i0, iv i1, iv i2, iv i3, iv i4, iv i5, .unset, .unset, .unset, .unset, .unset, .unset] [(.long (((i2).toInt64) &&& (2147483647 : Int64)))]
    refine XS.lstore X0.here hx rfl (hb hby at_6) rfl (l' := #[iv i0, iv i1, iv i2, iv i3, iv i4, iv i5, .val (.long (nM i2)), .second, .unset, .unset, .unset, .unset]) rfl ?_
    show Go p e below t s₁ m 8 #[iv i0, iv i1, iv i2, iv i3, iv i4, iv i5, .val (.long (nM i2)), .second, .unset, .unset, .unset, .unset] []
    refine XS.iload X0.here hx rfl (hb hby at_8) rfl ?_
    show Go p e below t s₁ m 10 #[iv i0, iv i1, iv i2, iv i3, iv i4, iv i5, .val (.long (nM i2)), .second, .unset, .unset, .unset, .unset] [(.int i5)]
    refine XT.iconstV X0.here hx rfl (1 : Int32) (hb hby at_10) (by decide) ?_
    show Go p e below t s₁ m 11 #[iv i0, iv i1, iv i2, iv i3, iv i4, iv i5, .val (.long (nM i2)), .second, .unset, .unset, .unset, .unset] [(.int (1 : Int32)), (.int i5)]
    refine XS.iand X0.here hx rfl (hb hby at_11) rfl ?_
    show Go p e below t s₁ m 12 #[iv i0, iv i1, iv i2, iv i3, iv i4, iv i5, .val (.long (nM i2)), .second, .unset, .unset, .unset, .unset] [(.int (i5 &&& (1 : Int32)))]
    exact k)
  by_cases h43 : (i5 &&& (1 : Int32)) = 0
  · skip
    have g44 : Goes p e below S0 (s₁.setTop (mkF m 35 #[iv i0, iv i1, iv i2, iv i3, iv i4, iv i5, .val (.long (nM i2)), .second, .val (.long ((i4).toInt64)), .second, .unset, .unset] [])) := fun t k => g42 t (by
      refine XS.ifYes X0.here hx rfl (pc0 := 12) (pc' := 30) rfl (hb hby at_12) rfl (XT.i0_eq_t h43) (by decide) (by decide) ?_
      show Go p e below t s₁ m 30 #[iv i0, iv i1, iv i2, iv i3, iv i4, iv i5, .val (.long (nM i2)), .second, .unset, .unset, .unset, .unset] []
      refine XS.iload X0.here hx rfl (hb hby at_30) rfl ?_
      show Go p e below t s₁ m 32 #[iv i0, iv i1, iv i2, iv i3, iv i4, iv i5, .val (.long (nM i2)), .second, .unset, .unset, .unset, .unset] [(.int i4)]
      refine XS.i2l X0.here hx rfl (hb hby at_32) rfl ?_
      show Go p e below t s₁ m 33 #[iv i0, iv i1, iv i2, iv i3, iv i4, iv i5, .val (.long (nM i2)), .second, .unset, .unset, .unset, .unset] [(.long ((i4).toInt64))]
      refine XS.lstore X0.here hx rfl (hb hby at_33) rfl (l' := #[iv i0, iv i1, iv i2, iv i3, iv i4, iv i5, .val (.long (nM i2)), .second, .val (.long ((i4).toInt64)), .second, .unset, .unset]) rfl ?_
      show Go p e below t s₁ m 35 #[iv i0, iv i1, iv i2, iv i3, iv i4, iv i5, .val (.long (nM i2)), .second, .val (.long ((i4).toInt64)), .second, .unset, .unset] []
      exact k)
    obtain ⟨T45, h45, X45, e45, E45, A45, D45, -, st45⟩ := newO X0 hx hZ hown (hw _ (List.mem_of_getElem? (i := 1) rfl)) (hw _ (List.mem_of_getElem? (i := 2) rfl)) (hw _ (List.mem_of_getElem? (i := 3) rfl)) e0 (g := (mkF m 35 #[iv i0, iv i1, iv i2, iv i3, iv i4, iv i5, .val (.long (nM i2)), .second, .val (.long ((i4).toInt64)), .second, .unset, .unset] [])) rfl (hb hby at_35) (by decide) (by decide)
    obtain ⟨b45, gb45⟩ : ∃ z, z = h0.size := ⟨_, rfl⟩
    have sz45 : h0.size ≤ b45 := Nat.le_trans (Nat.le_refl _) (Nat.le_of_eq gb45.symm)
    have ng45 : n0 ≤ b45 := Nat.le_trans Z0 sz45
    rw [← gb45] at A45 D45 st45
    have F45_46 : Fld Z h45 b45 "com/example/hetmo/hetmo/tree/StoppingRules" "_minLeaf" "I" (.int (0 : Int32)) := D45 (Or.inr (hw _ (List.mem_of_getElem? (i := 22) rfl))) (ty := .int) (by decide)
    have F45_47 : Fld Z h45 b45 "com/example/hetmo/hetmo/tree/StoppingRules" "_minShare" "D" (.double (0 : UInt64)) := D45 (Or.inr (hw _ (List.mem_of_getElem? (i := 24) rfl))) (ty := .double) (by decide)
    have F45_48 : Fld Z h45 b45 "com/example/hetmo/hetmo/tree/StoppingRules" "_minImprovement" "D" (.double (0 : UInt64)) := D45 (Or.inr (hw _ (List.mem_of_getElem? (i := 26) rfl))) (ty := .double) (by decide)
    have F45_49 : Fld Z h45 b45 "com/example/hetmo/hetmo/tree/StoppingRules" "_maxDepth" "I" (.int (0 : Int32)) := D45 (Or.inr (hw _ (List.mem_of_getElem? (i := 28) rfl))) (ty := .int) (by decide)
    have F45_50 : Fld Z h45 b45 "com/example/hetmo/hetmo/tree/StoppingRules" "_countedApartBy" "[D" .null := D45 (Or.inr (hw _ (List.mem_of_getElem? (i := 30) rfl))) (ty := (.array .double)) (by decide)
    have F45_51 : Fld Z h45 b45 "com/example/hetmo/hetmo/tree/StoppingRules" "_shareOfNode" "Z" (.int (0 : Int32)) := D45 (Or.inr (hw _ (List.mem_of_getElem? (i := 32) rfl))) (ty := .boolean) (by decide)
    have F45_52 : Fld Z h45 b45 "com/example/hetmo/hetmo/tree/StoppingRules" "_countingEstimatingRows" "Z" (.int (0 : Int32)) := D45 (Or.inr (hw _ (List.mem_of_getElem? (i := 34) rfl))) (ty := .boolean) (by decide)
    have g53 : Goes p e below S0 (T45.setTop (mkF m 38 #[iv i0, iv i1, iv i2, iv i3, iv i4, iv i5, .val (.long (nM i2)), .second, .val (.long ((i4).toInt64)), .second, .unset, .unset] [(.ref b45)])) := fun t k => g44 t (st45 t k)
    have g54 : Goes p e below S0 (T45.setTop (mkF m 56 #[iv i0, iv i1, iv i2, iv i3, iv i4, iv i5, .val (.long (nM i2)), .second, .val (.long ((i4).toInt64)), .second, .unset, .unset] [(.int (i3 &&& (2147483647 : Int32))), (.double (FP.l2d (nM i2))), (.double (FP.i2d (i1 &&& (1 : Int32)))), (.int ((i0 &&& (65535 : Int32)) + (1 : Int32))), (.ref b45), (.ref b45)])) := fun t k => g53 t (by
      refine XS.dup X45.here hx rfl (hb hby at_38) rfl rfl ?_
      show Go p e below t T45 m 39 #[iv i0, iv i1, iv i2, iv i3, iv i4, iv i5, .val (.long (nM i2)), .second, .val (.long ((i4).toInt64)), .second, .unset, .unset] [(.ref b45), (.ref b45)]
      refine XS.iloadN X45.here hx rfl (hb hby at_39) rfl ?_
      show Go p e below t T45 m 40 #[iv i0, iv i1, iv i2, iv i3, iv i4, iv i5, .val (.long (nM i2)), .second, .val (.long ((i4).toInt64)), .second, .unset, .unset] [(.int i0), (.ref b45), (.ref b45)]
      refine Jvm.Stand.ldcI X45 hx hown (mvT hZ (hw _ (List.mem_of_getElem? (i := 4) rfl))) (g := (mkF m 40 #[iv i0, iv i1, iv i2, iv i3, iv i4, iv i5, .val (.long (nM i2)), .second, .val (.long ((i4).toInt64)), .second, .unset, .unset] [(.int i0), (.ref b45), (.ref b45)])) rfl (hb hby at_40) ?_
      show Go p e below t T45 m 42 #[iv i0, iv i1, iv i2, iv i3, iv i4, iv i5, .val (.long (nM i2)), .second, .val (.long ((i4).toInt64)), .second, .unset, .unset] [(.int (65535 : Int32)), (.int i0), (.ref b45), (.ref b45)]
      refine XS.iand X45.here hx rfl (hb hby at_42) rfl ?_
      show Go p e below t T45 m 43 #[iv i0, iv i1, iv i2, iv i3, iv i4, iv i5, .val (.long (nM i2)), .second, .val (.long ((i4).toInt64)), .second, .unset, .unset] [(.int (i0 &&& (65535 : Int32))), (.ref b45), (.ref b45)]
      refine XT.iconstV X45.here hx rfl (1 : Int32) (hb hby at_43) (by decide) ?_
      show Go p e below t T45 m 44 #[iv i0, iv i1, iv i2, iv i3, iv i4, iv i5, .val (.long (nM i2)), .second, .val (.long ((i4).toInt64)), .second, .unset, .unset] [(.int (1 : Int32)), (.int (i0 &&& (65535 : Int32))), (.ref b45), (.ref b45)]
      refine XS.iadd X45.here hx rfl (hb hby at_44) rfl ?_
      show Go p e below t T45 m 45 #[iv i0, iv i1, iv i2, iv i3, iv i4, iv i5, .val (.long (nM i2)), .second, .val (.long ((i4).toInt64)), .second, .unset, .unset] [(.int ((i0 &&& (65535 : Int32)) + (1 : Int32))), (.ref b45), (.ref b45)]
      refine XS.iloadN X45.here hx rfl (hb hby at_45) rfl ?_
      show Go p e below t T45 m 46 #[iv i0, iv i1, iv i2, iv i3, iv i4, iv i5, .val (.long (nM i2)), .second, .val (.long ((i4).toInt64)), .second, .unset, .unset] [(.int i1), (.int ((i0 &&& (65535 : Int32)) + (1 : Int32))), (.ref b45), (.ref b45)]
      refine XT.iconstV X45.here hx rfl (1 : Int32) (hb hby at_46) (by decide) ?_
      show Go p e below t T45 m 47 #[iv i0, iv i1, iv i2, iv i3, iv i4, iv i5, .val (.long (nM i2)), .second, .val (.long ((i4).toInt64)), .second, .unset, .unset] [(.int (1 : Int32)), (.int i1), (.int ((i0 &&& (65535 : Int32)) + (1 : Int32))), (.ref b45), (.ref b45)]
      refine XS.iand X45.here hx rfl (hb hby at_47) rfl ?_
      show Go p e below t T45 m 48 #[iv i0, iv i1, iv i2, iv i3, iv i4, iv i5, .val (.long (nM i2)), .second, .val (.long ((i4).toInt64)), .second, .unset, .unset] [(.int (i1 &&& (1 : Int32))), (.int ((i0 &&& (65535 : Int32)) + (1 : Int32))), (.ref b45), (.ref b45)]
      refine XS.i2dS X45.here hx rfl (hb hby at_48) rfl rfl ?_
      show Go p e below t T45 m 49 #[iv i0, iv i1, iv i2, iv i3, iv i4, iv i5, .val (.long (nM i2)), .second, .val (.long ((i4).toInt64)), .second, .unset, .unset] [(.double (FP.i2d (i1 &&& (1 : Int32)))), (.int ((i0 &&& (65535 : Int32)) + (1 : Int32))), (.ref b45), (.ref b45)]
      refine XS.lload X45.here hx rfl (hb hby at_49) rfl ?_
      show Go p e below t T45 m 51 #[iv i0, iv i1, iv i2, iv i3, iv i4, iv i5, .val (.long (nM i2)), .second, .val (.long ((i4).toInt64)), .second, .unset, .unset] [(.long (nM i2)), (.double (FP.i2d (i1 &&& (1 : Int32)))), (.int ((i0 &&& (65535 : Int32)) + (1 : Int32))), (.ref b45), (.ref b45)]
      refine XS.l2dS X45.here hx rfl (hb hby at_51) rfl rfl ?_
      show Go p e below t T45 m 52 #[iv i0, iv i1, iv i2, iv i3, iv i4, iv i5, .val (.long (nM i2)), .second, .val (.long ((i4).toInt64)), .second, .unset, .unset] [(.double (FP.l2d (nM i2))), (.double (FP.i2d (i1 &&& (1 : Int32)))), (.int ((i0 &&& (65535 : Int32)) + (1 : Int32))), (.ref b45), (.ref b45)]
      refine XS.iloadN X45.here hx rfl (hb hby at_52) rfl ?_
      show Go p e below t T45 m 53 #[iv i0, iv i1, iv i2, iv i3, iv i4, iv i5, .val (.long (nM i2)), .second, .val (.long ((i4).toInt64)), .second, .unset, .unset] [(.int i3), (.double (FP.l2d (nM i2))), (.double (FP.i2d (i1 &&& (1 : Int32)))), (.int ((i0 &&& (65535 : Int32)) + (1 : Int32))), (.ref b45), (.ref b45)]
      refine Jvm.Stand.ldcI X45 hx hown (mvT hZ (hw _ (List.mem_of_getElem? (i := 5) rfl))) (g := (mkF m 53 #[iv i0, iv i1, iv i2, iv i3, iv i4, iv i5, .val (.long (nM i2)), .second, .val (.long ((i4).toInt64)), .second, .unset, .unset] [(.int i3), (.double (FP.l2d (nM i2))), (.double (FP.i2d (i1 &&& (1 : Int32)))), (.int ((i0 &&& (65535 : Int32)) + (1 : Int32))), (.ref b45), (.ref b45)])) rfl (hb hby at_53) ?_
      show Go p e below t T45 m 55 #[iv i0, iv i1, iv i2, iv i3, iv i4, iv i5, .val (.long (nM i2)), .second, .val (.long ((i4).toInt64)), .second, .unset, .unset] [(.int (2147483647 : Int32)), (.int i3), (.double (FP.l2d (nM i2))), (.double (FP.i2d (i1 &&& (1 : Int32)))), (.int ((i0 &&& (65535 : Int32)) + (1 : Int32))), (.ref b45), (.ref b45)]
      refine XS.iand X45.here hx rfl (hb hby at_55) rfl ?_
      show Go p e below t T45 m 56 #[iv i0, iv i1, iv i2, iv i3, iv i4, iv i5, .val (.long (nM i2)), .second, .val (.long ((i4).toInt64)), .second, .unset, .unset] [(.int (i3 &&& (2147483647 : Int32))), (.double (FP.l2d (nM i2))), (.double (FP.i2d (i1 &&& (1 : Int32)))), (.int ((i0 &&& (65535 : Int32)) + (1 : Int32))), (.ref b45), (.ref b45)]
      exact k)
    obtain ⟨_, _, ⟨T55, L55, k55, n55⟩, -, X55, ⟨Lc55, hQ55, l55, y55, z55⟩, st55⟩ := X45.specialBack hx (y := (⟨"com/example/hetmo/hetmo/tree/StoppingRules", "<init>", "(IDDI)V"⟩ : MethodName)) rfl hown (mvT hZ (hw _ (List.mem_of_getElem? (i := 6) rfl))) (mvT hZ (hw _ (List.mem_of_getElem? (i := 7) rfl))) (mvT hZ (hw _ (List.mem_of_getElem? (i := 8) rfl))) (by decide) (backOf (W := 1) (rm_ini l Z a0 hw [] b45 ((i0 &&& (65535 : Int32)) + (1 : Int32)) (FP.i2d (i1 &&& (1 : Int32))) (FP.l2d (nM i2)) (i3 &&& (2147483647 : Int32))  h45 n0 (Nat.le_trans Z0 (Nat.le_trans (Nat.le_refl _) E45.1)) A45 F45_46 F45_47 F45_48 F45_49 F45_50 F45_51 F45_52 ng45 (own_q1 i0) (own_q2 i1) (own_q3 i1) (own_q4 i2) (own_qn i2) (own_q5 i2) (own_q6 i3)) hZ (hw _ (List.mem_of_getElem? (i := 8) rfl)) (hw _ (List.mem_of_getElem? (i := 3) rfl)) (by decide) (by decide)) (g := (mkF m 56 #[iv i0, iv i1, iv i2, iv i3, iv i4, iv i5, .val (.long (nM i2)), .second, .val (.long ((i4).toInt64)), .second, .unset, .unset] [(.int (i3 &&& (2147483647 : Int32))), (.double (FP.l2d (nM i2))), (.double (FP.i2d (i1 &&& (1 : Int32)))), (.int ((i0 &&& (65535 : Int32)) + (1 : Int32))), (.ref b45), (.ref b45)])) rfl (by rw [hml]; rfl) (Steps.refl _) (a := b45) (argsL := [(.int ((i0 &&& (65535 : Int32)) + (1 : Int32))), (.double (FP.i2d (i1 &&& (1 : Int32)))), (.double (FP.l2d (nM i2))), (.int (i3 &&& (2147483647 : Int32)))]) (rest := [(.ref b45)]) (lenOf pd2 rfl) rfl (by show 2 * 0 + _ ≤ _; exact Nat.le_of_eq rfl) (hb hby at_56) (fun _ _ => ⟨rfl, e45, (by decide : 1 + 0 ≤ _), (by decide : 7 + 0 ≤ _)⟩)
    dsimp only [Pt.U, Pt.locs, Pt.cells, Pt.slots] at X55 l55 y55 z55 st55 hQ55
    subst l55 y55 z55
    obtain ⟨rfl, N55, R55_0, R55_1, R55_2, R55_3, R55_4, R55_5, R55_6, R55_7, R55_8⟩ := hQ55
    have M55 := Fr.app N0 N55
    have g56 : Goes p e below S0 (T55.setTop (mkF m 59 #[iv i0, iv i1, iv i2, iv i3, iv i4, iv i5, .val (.long (nM i2)), .second, .val (.long ((i4).toInt64)), .second, .unset, .unset] [(.ref b45)])) := fun t k => g54 t (st55.trans k)
    have g57 : Goes p e below S0 (T55.setTop (mkF m 66 #[iv i0, iv i1, iv i2, iv i3, iv i4, iv i5, .val (.long (nM i2)), .second, .val (.long ((i4).toInt64)), .second, rv b45, .unset] [(.int (lcmpW ((i4).toInt64) (nM i2)))])) := fun t k => g56 t (by
      refine XS.astore X55.here hx rfl (hb hby at_59) rfl rfl (l' := #[iv i0, iv i1, iv i2, iv i3, iv i4, iv i5, .val (.long (nM i2)), .second, .val (.long ((i4).toInt64)), .second, rv b45, .unset]) rfl ?_
      show Go p e below t T55 m 61 #[iv i0, iv i1, iv i2, iv i3, iv i4, iv i5, .val (.long (nM i2)), .second, .val (.long ((i4).toInt64)), .second, rv b45, .unset] []
      refine XS.lload X55.here hx rfl (hb hby at_61) rfl ?_
      show Go p e below t T55 m 63 #[iv i0, iv i1, iv i2, iv i3, iv i4, iv i5, .val (.long (nM i2)), .second, .val (.long ((i4).toInt64)), .second, rv b45, .unset] [(.long ((i4).toInt64))]
      refine XS.lload X55.here hx rfl (hb hby at_63) rfl ?_
      show Go p e below t T55 m 65 #[iv i0, iv i1, iv i2, iv i3, iv i4, iv i5, .val (.long (nM i2)), .second, .val (.long ((i4).toInt64)), .second, rv b45, .unset] [(.long (nM i2)), (.long ((i4).toInt64))]
      refine XS.lcmp X55.here hx rfl (hb hby at_65) rfl ?_
      show Go p e below t T55 m 66 #[iv i0, iv i1, iv i2, iv i3, iv i4, iv i5, .val (.long (nM i2)), .second, .val (.long ((i4).toInt64)), .second, rv b45, .unset] [(.int (lcmpW ((i4).toInt64) (nM i2)))]
      exact k)
    by_cases h58 : (nM i2) < ((i4).toInt64)
    · skip
      have g59 : Goes p e below S0 (T55.setTop (mkF m 81 #[iv i0, iv i1, iv i2, iv i3, iv i4, iv i5, .val (.long (nM i2)), .second, .val (.long ((i4).toInt64)), .second, rv b45, iv (1 : Int32)] [(.double (FP.l2d ((i4).toInt64))), (.ref b45)])) := fun t k => g57 t (by
        refine XS.ifNo X55.here hx rfl (hb hby at_66) rfl (XT.ll_le_f h58) ?_
        show Go p e below t T55 m 69 #[iv i0, iv i1, iv i2, iv i3, iv i4, iv i5, .val (.long (nM i2)), .second, .val (.long ((i4).toInt64)), .second, rv b45, .unset] []
        refine XT.iconstV X55.here hx rfl (1 : Int32) (hb hby at_69) (by decide) ?_
        show Go p e below t T55 m 70 #[iv i0, iv i1, iv i2, iv i3, iv i4, iv i5, .val (.long (nM i2)), .second, .val (.long ((i4).toInt64)), .second, rv b45, .unset] [(.int (1 : Int32))]
        refine XS.goto X55.here hx rfl (pc0 := 70) (pc' := 74) rfl (hb hby at_70) (by decide) (by decide) ?_
        show Go p e below t T55 m 74 #[iv i0, iv i1, iv i2, iv i3, iv i4, iv i5, .val (.long (nM i2)), .second, .val (.long ((i4).toInt64)), .second, rv b45, .unset] [(.int (1 : Int32))]
        refine XS.istore X55.here hx rfl (hb hby at_74) rfl (l' := #[iv i0, iv i1, iv i2, iv i3, iv i4, iv i5, .val (.long (nM i2)), .second, .val (.long ((i4).toInt64)), .second, rv b45, iv (1 : Int32)]) rfl ?_
        show Go p e below t T55 m 76 #[iv i0, iv i1, iv i2, iv i3, iv i4, iv i5, .val (.long (nM i2)), .second, .val (.long ((i4).toInt64)), .second, rv b45, iv (1 : Int32)] []
        refine XS.aload X55.here hx rfl (hb hby at_76) rfl rfl ?_
        show Go p e below t T55 m 78 #[iv i0, iv i1, iv i2, iv i3, iv i4, iv i5, .val (.long (nM i2)), .second, .val (.long ((i4).toInt64)), .second, rv b45, iv (1 : Int32)] [(.ref b45)]
        refine XS.lload X55.here hx rfl (hb hby at_78) rfl ?_
        show Go p e below t T55 m 80 #[iv i0, iv i1, iv i2, iv i3, iv i4, iv i5, .val (.long (nM i2)), .second, .val (.long ((i4).toInt64)), .second, rv b45, iv (1 : Int32)] [(.long ((i4).toInt64)), (.ref b45)]
        refine XS.l2dS X55.here hx rfl (hb hby at_80) rfl rfl ?_
        show Go p e below t T55 m 81 #[iv i0, iv i1, iv i2, iv i3, iv i4, iv i5, .val (.long (nM i2)), .second, .val (.long ((i4).toInt64)), .second, rv b45, iv (1 : Int32)] [(.double (FP.l2d ((i4).toInt64))), (.ref b45)]
        exact k)
      obtain ⟨cq60, kq60, q60a, q60b, q60c⟩ := isOf hZ rfl R55_1
      obtain ⟨_, _, ⟨T60, L60, k60, n60⟩, -, X60, ⟨Lc60, hQ60, l60, y60, z60⟩, st60⟩ := X55.virtualBack hx (y := (⟨"com/example/hetmo/hetmo/tree/StoppingRules", "accepts", "(D)Z"⟩ : MethodName)) (z := (⟨"com/example/hetmo/hetmo/tree/StoppingRules", "accepts", "(D)Z"⟩ : MethodName)) hown (mvT hZ (hw _ (List.mem_of_getElem? (i := 35) rfl))) (mvT hZ (hw _ (List.mem_of_getElem? (i := 36) rfl))) (notFace_of_selects (args := #[]) (mvT hZ (hw _ (List.mem_of_getElem? (i := 38) rfl)))) (mvT hZ (hw _ (List.mem_of_getElem? (i := 38) rfl))) (mvT hZ (hw _ (List.mem_of_getElem? (i := 37) rfl))) (by decide) (backOf (W := 0) (rm_acc l Z a0 hw [] b45 (FP.l2d ((i4).toInt64)) (FP.l2d (nM i2)) T55.heap n0 (Nat.le_trans Z0 (Nat.le_trans (Nat.le_trans (Nat.le_refl _) E45.1) R55_0.1)) R55_4) hZ (hw _ (List.mem_of_getElem? (i := 39) rfl)) (hw _ (List.mem_of_getElem? (i := 3) rfl)) (by decide) (by decide)) q60a q60c (g := (mkF m 81 #[iv i0, iv i1, iv i2, iv i3, iv i4, iv i5, .val (.long (nM i2)), .second, .val (.long ((i4).toInt64)), .second, rv b45, iv (1 : Int32)] [(.double (FP.l2d ((i4).toInt64))), (.ref b45)])) rfl (by rw [hml]; rfl) (Steps.refl _) (argsL := [(.double (FP.l2d ((i4).toInt64)))]) (rest := []) (lenOf pd0 rfl) rfl (by show 2 * 0 + _ ≤ _; exact Nat.le_of_eq rfl) (hb hby at_81) (fun _ _ => ⟨rfl, rfl, (by decide : 1 + 0 ≤ _), (by decide : 7 + 0 ≤ _)⟩)
      dsimp only [Pt.U, Pt.locs, Pt.cells, Pt.slots] at X60 l60 y60 z60 st60 hQ60
      subst l60 y60 z60
      obtain ⟨rfl, N60, e60⟩ := hQ60
      have M60 := Fr.app M55 N60
      have g61 : Goes p e below S0 (T60.setTop (mkF m 84 #[iv i0, iv i1, iv i2, iv i3, iv i4, iv i5, .val (.long (nM i2)), .second, .val (.long ((i4).toInt64)), .second, rv b45, iv (1 : Int32)] [(.int (f_acc (FP.l2d ((i4).toInt64)) (FP.l2d (nM i2))))])) := fun t k => g59 t (st60.trans k)
      have g62 : Goes p e below S0 (T60.setTop (mkF m 86 #[iv i0, iv i1, iv i2, iv i3, iv i4, iv i5, .val (.long (nM i2)), .second, .val (.long ((i4).toInt64)), .second, rv b45, iv (1 : Int32)] [(.int (1 : Int32)), (.int (f_acc (FP.l2d ((i4).toInt64)) (FP.l2d (nM i2))))])) := fun t k => g61 t (by
        refine XS.iload X60.here hx rfl (hb hby at_84) rfl ?_
        show Go p e below t T60 m 86 #[iv i0, iv i1, iv i2, iv i3, iv i4, iv i5, .val (.long (nM i2)), .second, .val (.long ((i4).toInt64)), .second, rv b45, iv (1 : Int32)] [(.int (1 : Int32)), (.int (f_acc (FP.l2d ((i4).toInt64)) (FP.l2d (nM i2))))]
        exact k)
      by_cases h63 : (f_acc (FP.l2d ((i4).toInt64)) (FP.l2d (nM i2))) = (1 : Int32)
      · skip
        have g64 : Goes p e below S0 (T60.setTop (mkF m 94 #[iv i0, iv i1, iv i2, iv i3, iv i4, iv i5, .val (.long (nM i2)), .second, .val (.long ((i4).toInt64)), .second, rv b45, iv (1 : Int32)] [(.int (1 : Int32))])) := fun t k => g62 t (by
          refine XS.icmpNo X60.here hx rfl (hb hby at_86) rfl (XT.ii_ne_f h63) ?_
          show Go p e below t T60 m 89 #[iv i0, iv i1, iv i2, iv i3, iv i4, iv i5, .val (.long (nM i2)), .second, .val (.long ((i4).toInt64)), .second, rv b45, iv (1 : Int32)] []
          refine XT.iconstV X60.here hx rfl (1 : Int32) (hb hby at_89) (by decide) ?_
          show Go p e below t T60 m 90 #[iv i0, iv i1, iv i2, iv i3, iv i4, iv i5, .val (.long (nM i2)), .second, .val (.long ((i4).toInt64)), .second, rv b45, iv (1 : Int32)] [(.int (1 : Int32))]
          refine XS.goto X60.here hx rfl (pc0 := 90) (pc' := 94) rfl (hb hby at_90) (by decide) (by decide) ?_
          show Go p e below t T60 m 94 #[iv i0, iv i1, iv i2, iv i3, iv i4, iv i5, .val (.long (nM i2)), .second, .val (.long ((i4).toInt64)), .second, rv b45, iv (1 : Int32)] [(.int (1 : Int32))]
          exact k)
        obtain ⟨fs, hr, hrun, hended, hW, hsame⟩ := X60.leave (v := some (.int (1 : Int32))) (fun h => by rw [Bd.returns] at h; cases h)
        refine ⟨_, _, g64 _ (retN X60 hx (t := .boolean) Bd.returns (by simp) (hb hby at_94) hr), hrun, hended, _, _, rfl, ?_, ⟨_, rfl⟩, hW, hsame.mono (by decide) (by decide)⟩
        show Q_law Z i0 i1 i2 i3 i4 i5  h0 n0 _ T60.heap _
        rw [e60]
        exact ⟨by unfold f_law; rw [if_pos h43, if_pos h58, if_pos h63], M60⟩
      · skip
        have g65 : Goes p e below S0 (T60.setTop (mkF m 94 #[iv i0, iv i1, iv i2, iv i3, iv i4, iv i5, .val (.long (nM i2)), .second, .val (.long ((i4).toInt64)), .second, rv b45, iv (1 : Int32)] [(.int (0 : Int32))])) := fun t k => g62 t (by
          refine XS.icmpYes X60.here hx rfl (pc0 := 86) (pc' := 93) rfl (hb hby at_86) rfl (XT.ii_ne_t h63) (by decide) (by decide) ?_
          show Go p e below t T60 m 93 #[iv i0, iv i1, iv i2, iv i3, iv i4, iv i5, .val (.long (nM i2)), .second, .val (.long ((i4).toInt64)), .second, rv b45, iv (1 : Int32)] []
          refine XT.iconstV X60.here hx rfl (0 : Int32) (hb hby at_93) (by decide) ?_
          show Go p e below t T60 m 94 #[iv i0, iv i1, iv i2, iv i3, iv i4, iv i5, .val (.long (nM i2)), .second, .val (.long ((i4).toInt64)), .second, rv b45, iv (1 : Int32)] [(.int (0 : Int32))]
          exact k)
        obtain ⟨fs, hr, hrun, hended, hW, hsame⟩ := X60.leave (v := some (.int (0 : Int32))) (fun h => by rw [Bd.returns] at h; cases h)
        refine ⟨_, _, g65 _ (retN X60 hx (t := .boolean) Bd.returns (by simp) (hb hby at_94) hr), hrun, hended, _, _, rfl, ?_, ⟨_, rfl⟩, hW, hsame.mono (by decide) (by decide)⟩
        show Q_law Z i0 i1 i2 i3 i4 i5  h0 n0 _ T60.heap _
        rw [e60]
        exact ⟨by unfold f_law; rw [if_pos h43, if_pos h58, if_neg h63], M60⟩
    · skip
      have g66 : Goes p e below S0 (T55.setTop (mkF m 81 #[iv i0, iv i1, iv i2, iv i3, iv i4, iv i5, .val (.long (nM i2)), .second, .val (.long ((i4).toInt64)), .second, rv b45, iv (0 : Int32)] [(.double (FP.l2d ((i4).toInt64))), (.ref b45)])) := fun t k => g57 t (by
        refine XS.ifYes X55.here hx rfl (pc0 := 66) (pc' := 73) rfl (hb hby at_66) rfl (XT.ll_le_t h58) (by decide) (by decide) ?_
        show Go p e below t T55 m 73 #[iv i0, iv i1, iv i2, iv i3, iv i4, iv i5, .val (.long (nM i2)), .second, .val (.long ((i4).toInt64)), .second, rv b45, .unset] []
        refine XT.iconstV X55.here hx rfl (0 : Int32) (hb hby at_73) (by decide) ?_
        show Go p e below t T55 m 74 #[iv i0, iv i1, iv i2, iv i3, iv i4, iv i5, .val (.long (nM i2)), .second, .val (.long ((i4).toInt64)), .second, rv b45, .unset] [(.int (0 : Int32))]
        refine XS.istore X55.here hx rfl (hb hby at_74) rfl (l' := #[iv i0, iv i1, iv i2, iv i3, iv i4, iv i5, .val (.long (nM i2)), .second, .val (.long ((i4).toInt64)), .second, rv b45, iv (0 : Int32)]) rfl ?_
        show Go p e below t T55 m 76 #[iv i0, iv i1, iv i2, iv i3, iv i4, iv i5, .val (.long (nM i2)), .second, .val (.long ((i4).toInt64)), .second, rv b45, iv (0 : Int32)] []
        refine XS.aload X55.here hx rfl (hb hby at_76) rfl rfl ?_
        show Go p e below t T55 m 78 #[iv i0, iv i1, iv i2, iv i3, iv i4, iv i5, .val (.long (nM i2)), .second, .val (.long ((i4).toInt64)), .second, rv b45, iv (0 : Int32)] [(.ref b45)]
        refine XS.lload X55.here hx rfl (hb hby at_78) rfl ?_
        show Go p e below t T55 m 80 #[iv i0, iv i1, iv i2, iv i3, iv i4, iv i5, .val (.long (nM i2)), .second, .val (.long ((i4).toInt64)), .second, rv b45, iv (0 : Int32)] [(.long ((i4).toInt64)), (.ref b45)]
        refine XS.l2dS X55.here hx rfl (hb hby at_80) rfl rfl ?_
        show Go p e below t T55 m 81 #[iv i0, iv i1, iv i2, iv i3, iv i4, iv i5, .val (.long (nM i2)), .second, .val (.long ((i4).toInt64)), .second, rv b45, iv (0 : Int32)] [(.double (FP.l2d ((i4).toInt64))), (.ref b45)]
        exact k)
      obtain ⟨cq67, kq67, q67a, q67b, q67c⟩ := isOf hZ rfl R55_1
      obtain ⟨_, _, ⟨T67, L67, k67, n67⟩, -, X67, ⟨Lc67, hQ67, l67, y67, z67⟩, st67⟩ := X55.virtualBack hx (y := (⟨"com/example/hetmo/hetmo/tree/StoppingRules", "accepts", "(D)Z"⟩ : MethodName)) (z := (⟨"com/example/hetmo/hetmo/tree/StoppingRules", "accepts", "(D)Z"⟩ : MethodName)) hown (mvT hZ (hw _ (List.mem_of_getElem? (i := 35) rfl))) (mvT hZ (hw _ (List.mem_of_getElem? (i := 36) rfl))) (notFace_of_selects (args := #[]) (mvT hZ (hw _ (List.mem_of_getElem? (i := 38) rfl)))) (mvT hZ (hw _ (List.mem_of_getElem? (i := 38) rfl))) (mvT hZ (hw _ (List.mem_of_getElem? (i := 37) rfl))) (by decide) (backOf (W := 0) (rm_acc l Z a0 hw [] b45 (FP.l2d ((i4).toInt64)) (FP.l2d (nM i2)) T55.heap n0 (Nat.le_trans Z0 (Nat.le_trans (Nat.le_trans (Nat.le_refl _) E45.1) R55_0.1)) R55_4) hZ (hw _ (List.mem_of_getElem? (i := 39) rfl)) (hw _ (List.mem_of_getElem? (i := 3) rfl)) (by decide) (by decide)) q67a q67c (g := (mkF m 81 #[iv i0, iv i1, iv i2, iv i3, iv i4, iv i5, .val (.long (nM i2)), .second, .val (.long ((i4).toInt64)), .second, rv b45, iv (0 : Int32)] [(.double (FP.l2d ((i4).toInt64))), (.ref b45)])) rfl (by rw [hml]; rfl) (Steps.refl _) (argsL := [(.double (FP.l2d ((i4).toInt64)))]) (rest := []) (lenOf pd0 rfl) rfl (by show 2 * 0 + _ ≤ _; exact Nat.le_of_eq rfl) (hb hby at_81) (fun _ _ => ⟨rfl, rfl, (by decide : 1 + 0 ≤ _), (by decide : 7 + 0 ≤ _)⟩)
      dsimp only [Pt.U, Pt.locs, Pt.cells, Pt.slots] at X67 l67 y67 z67 st67 hQ67
      subst l67 y67 z67
      obtain ⟨rfl, N67, e67⟩ := hQ67
      have M67 := Fr.app M55 N67
      have g68 : Goes p e below S0 (T67.setTop (mkF m 84 #[iv i0, iv i1, iv i2, iv i3, iv i4, iv i5, .val (.long (nM i2)), .second, .val (.long ((i4).toInt64)), .second, rv b45, iv (0 : Int32)] [(.int (f_acc (FP.l2d ((i4).toInt64)) (FP.l2d (nM i2))))])) := fun t k => g66 t (st67.trans k)
      have g69 : Goes p e below S0 (T67.setTop (mkF m 86 #[iv i0, iv i1, iv i2, iv i3, iv i4, iv i5, .val (.long (nM i2)), .second, .val (.long ((i4).toInt64)), .second, rv b45, iv (0 : Int32)] [(.int (0 : Int32)), (.int (f_acc (FP.l2d ((i4).toInt64)) (FP.l2d (nM i2))))])) := fun t k => g68 t (by
        refine XS.iload X67.here hx rfl (hb hby at_84) rfl ?_
        show Go p e below t T67 m 86 #[iv i0, iv i1, iv i2, iv i3, iv i4, iv i5, .val (.long (nM i2)), .second, .val (.long ((i4).toInt64)), .second, rv b45, iv (0 : Int32)] [(.int (0 : Int32)), (.int (f_acc (FP.l2d ((i4).toInt64)) (FP.l2d (nM i2))))]
        exact k)
      by_cases h70 : (f_acc (FP.l2d ((i4).toInt64)) (FP.l2d (nM i2))) = (0 : Int32)
      · skip
        have g71 : Goes p e below S0 (T67.setTop (mkF m 94 #[iv i0, iv i1, iv i2, iv i3, iv i4, iv i5, .val (.long (nM i2)), .second, .val (.long ((i4).toInt64)), .second, rv b45, iv (0 : Int32)] [(.int (1 : Int32))])) := fun t k => g69 t (by
          refine XS.icmpNo X67.here hx rfl (hb hby at_86) rfl (XT.ii_ne_f h70) ?_
          show Go p e below t T67 m 89 #[iv i0, iv i1, iv i2, iv i3, iv i4, iv i5, .val (.long (nM i2)), .second, .val (.long ((i4).toInt64)), .second, rv b45, iv (0 : Int32)] []
          refine XT.iconstV X67.here hx rfl (1 : Int32) (hb hby at_89) (by decide) ?_
          show Go p e below t T67 m 90 #[iv i0, iv i1, iv i2, iv i3, iv i4, iv i5, .val (.long (nM i2)), .second, .val (.long ((i4).toInt64)), .second, rv b45, iv (0 : Int32)] [(.int (1 : Int32))]
          refine XS.goto X67.here hx rfl (pc0 := 90) (pc' := 94) rfl (hb hby at_90) (by decide) (by decide) ?_
          show Go p e below t T67 m 94 #[iv i0, iv i1, iv i2, iv i3, iv i4, iv i5, .val (.long (nM i2)), .second, .val (.long ((i4).toInt64)), .second, rv b45, iv (0 : Int32)] [(.int (1 : Int32))]
          exact k)
        obtain ⟨fs, hr, hrun, hended, hW, hsame⟩ := X67.leave (v := some (.int (1 : Int32))) (fun h => by rw [Bd.returns] at h; cases h)
        refine ⟨_, _, g71 _ (retN X67 hx (t := .boolean) Bd.returns (by simp) (hb hby at_94) hr), hrun, hended, _, _, rfl, ?_, ⟨_, rfl⟩, hW, hsame.mono (by decide) (by decide)⟩
        show Q_law Z i0 i1 i2 i3 i4 i5  h0 n0 _ T67.heap _
        rw [e67]
        exact ⟨by unfold f_law; rw [if_pos h43, if_neg h58, if_pos h70], M67⟩
      · skip
        have g72 : Goes p e below S0 (T67.setTop (mkF m 94 #[iv i0, iv i1, iv i2, iv i3, iv i4, iv i5, .val (.long (nM i2)), .second, .val (.long ((i4).toInt64)), .second, rv b45, iv (0 : Int32)] [(.int (0 : Int32))])) := fun t k => g69 t (by
          refine XS.icmpYes X67.here hx rfl (pc0 := 86) (pc' := 93) rfl (hb hby at_86) rfl (XT.ii_ne_t h70) (by decide) (by decide) ?_
          show Go p e below t T67 m 93 #[iv i0, iv i1, iv i2, iv i3, iv i4, iv i5, .val (.long (nM i2)), .second, .val (.long ((i4).toInt64)), .second, rv b45, iv (0 : Int32)] []
          refine XT.iconstV X67.here hx rfl (0 : Int32) (hb hby at_93) (by decide) ?_
          show Go p e below t T67 m 94 #[iv i0, iv i1, iv i2, iv i3, iv i4, iv i5, .val (.long (nM i2)), .second, .val (.long ((i4).toInt64)), .second, rv b45, iv (0 : Int32)] [(.int (0 : Int32))]
          exact k)
        obtain ⟨fs, hr, hrun, hended, hW, hsame⟩ := X67.leave (v := some (.int (0 : Int32))) (fun h => by rw [Bd.returns] at h; cases h)
        refine ⟨_, _, g72 _ (retN X67 hx (t := .boolean) Bd.returns (by simp) (hb hby at_94) hr), hrun, hended, _, _, rfl, ?_, ⟨_, rfl⟩, hW, hsame.mono (by decide) (by decide)⟩
        show Q_law Z i0 i1 i2 i3 i4 i5  h0 n0 _ T67.heap _
        rw [e67]
        exact ⟨by unfold f_law; rw [if_pos h43, if_neg h58, if_neg h70], M67⟩
  · skip
    have g73 : Goes p e below S0 (s₁.setTop (mkF m 35 #[iv i0, iv i1, iv i2, iv i3, iv i4, iv i5, .val (.long (nM i2)), .second, .val (.long (((nM i2) + (((i5 >>> ((1 : Int32) &&& 31)) &&& (3 : Int32)).toInt64)) - (1 : Int64))), .second, .unset, .unset] [])) := fun t k => g42 t (by
      refine XS.ifNo X0.here hx rfl (hb hby at_12) rfl (XT.i0_eq_f h43) ?_
      show Go p e below t s₁ m 15 #[iv i0, iv i1, iv i2, iv i3, iv i4, iv i5, .val (.long (nM i2)), .second, .unset, .unset, .unset, .unset] []
      refine XS.lload X0.here hx rfl (hb hby at_15) rfl ?_
      show Go p e below t s₁ m 17 #[iv i0, iv i1, iv i2, iv i3, iv i4, iv i5, .val (.long (nM i2)), .second, .unset, .unset, .unset, .unset] [(.long (nM i2))]
      refine XS.iload X0.here hx rfl (hb hby at_17) rfl ?_
      show Go p e below t s₁ m 19 #[iv i0, iv i1, iv i2, iv i3, iv i4, iv i5, .val (.long (nM i2)), .second, .unset, .unset, .unset, .unset] [(.int i5), (.long (nM i2))]
      refine XT.iconstV X0.here hx rfl (1 : Int32) (hb hby at_19) (by decide) ?_
      show Go p e below t s₁ m 20 #[iv i0, iv i1, iv i2, iv i3, iv i4, iv i5, .val (.long (nM i2)), .second, .unset, .unset, .unset, .unset] [(.int (1 : Int32)), (.int i5), (.long (nM i2))]
      refine XS.ishr X0.here hx rfl (hb hby at_20) rfl ?_
      show Go p e below t s₁ m 21 #[iv i0, iv i1, iv i2, iv i3, iv i4, iv i5, .val (.long (nM i2)), .second, .unset, .unset, .unset, .unset] [(.int (i5 >>> ((1 : Int32) &&& 31))), (.long (nM i2))]
      refine XT.iconstV X0.here hx rfl (3 : Int32) (hb hby at_21) (by decide) ?_
      show Go p e below t s₁ m 22 #[iv i0, iv i1, iv i2, iv i3, iv i4, iv i5, .val (.long (nM i2)), .second, .unset, .unset, .unset, .unset] [(.int (3 : Int32)), (.int (i5 >>> ((1 : Int32) &&& 31))), (.long (nM i2))]
      refine XS.iand X0.here hx rfl (hb hby at_22) rfl ?_
      show Go p e below t s₁ m 23 #[iv i0, iv i1, iv i2, iv i3, iv i4, iv i5, .val (.long (nM i2)), .second, .unset, .unset, .unset, .unset] [(.int ((i5 >>> ((1 : Int32) &&& 31)) &&& (3 : Int32))), (.long (nM i2))]
      refine XS.i2l X0.here hx rfl (hb hby at_23) rfl ?_
      show Go p e below t s₁ m 24 #[iv i0, iv i1, iv i2, iv i3, iv i4, iv i5, .val (.long (nM i2)), .second, .unset, .unset, .unset, .unset] [(.long (((i5 >>> ((1 : Int32) &&& 31)) &&& (3 : Int32)).toInt64)), (.long (nM i2))]
      refine XS.ladd X0.here hx rfl (hb hby at_24) rfl ?_
      show Go p e below t s₁ m 25 #[iv i0, iv i1, iv i2, iv i3, iv i4, iv i5, .val (.long (nM i2)), .second, .unset, .unset, .unset, .unset] [(.long ((nM i2) + (((i5 >>> ((1 : Int32) &&& 31)) &&& (3 : Int32)).toInt64)))]
      refine XT.lconstV X0.here hx rfl (1 : Int64) (hb hby at_25) (by decide) ?_
      show Go p e below t s₁ m 26 #[iv i0, iv i1, iv i2, iv i3, iv i4, iv i5, .val (.long (nM i2)), .second, .unset, .unset, .unset, .unset] [(.long (1 : Int64)), (.long ((nM i2) + (((i5 >>> ((1 : Int32) &&& 31)) &&& (3 : Int32)).toInt64)))]
      refine XS.lsub X0.here hx rfl (hb hby at_26) rfl ?_
      show Go p e below t s₁ m 27 #[iv i0, iv i1, iv i2, iv i3, iv i4, iv i5, .val (.long (nM i2)), .second, .unset, .unset, .unset, .unset] [(.long (((nM i2) + (((i5 >>> ((1 : Int32) &&& 31)) &&& (3 : Int32)).toInt64)) - (1 : Int64)))]
      refine XS.goto X0.here hx rfl (pc0 := 27) (pc' := 33) rfl (hb hby at_27) (by decide) (by decide) ?_
      show Go p e below t s₁ m 33 #[iv i0, iv i1, iv i2, iv i3, iv i4, iv i5, .val (.long (nM i2)), .second, .unset, .unset, .unset, .unset] [(.long (((nM i2) + (((i5 >>> ((1 : Int32) &&& 31)) &&& (3 : Int32)).toInt64)) - (1 : Int64)))]
      refine XS.lstore X0.here hx rfl (hb hby at_33) rfl (l' := #[iv i0, iv i1, iv i2, iv i3, iv i4, iv i5, .val (.long (nM i2)), .second, .val (.long (((nM i2) + (((i5 >>> ((1 : Int32) &&& 31)) &&& (3 : Int32)).toInt64)) - (1 : Int64))), .second, .unset, .unset]) rfl ?_
      show Go p e below t s₁ m 35 #[iv i0, iv i1, iv i2, iv i3, iv i4, iv i5, .val (.long (nM i2)), .second, .val (.long (((nM i2) + (((i5 >>> ((1 : Int32) &&& 31)) &&& (3 : Int32)).toInt64)) - (1 : Int64))), .second, .unset, .unset] []
      exact k)
    obtain ⟨T74, h74, X74, e74, E74, A74, D74, -, st74⟩ := newO X0 hx hZ hown (hw _ (List.mem_of_getElem? (i := 1) rfl)) (hw _ (List.mem_of_getElem? (i := 2) rfl)) (hw _ (List.mem_of_getElem? (i := 3) rfl)) e0 (g := (mkF m 35 #[iv i0, iv i1, iv i2, iv i3, iv i4, iv i5, .val (.long (nM i2)), .second, .val (.long (((nM i2) + (((i5 >>> ((1 : Int32) &&& 31)) &&& (3 : Int32)).toInt64)) - (1 : Int64))), .second, .unset, .unset] [])) rfl (hb hby at_35) (by decide) (by decide)
    obtain ⟨b74, gb74⟩ : ∃ z, z = h0.size := ⟨_, rfl⟩
    have sz74 : h0.size ≤ b74 := Nat.le_trans (Nat.le_refl _) (Nat.le_of_eq gb74.symm)
    have ng74 : n0 ≤ b74 := Nat.le_trans Z0 sz74
    rw [← gb74] at A74 D74 st74
    have F74_75 : Fld Z h74 b74 "com/example/hetmo/hetmo/tree/StoppingRules" "_minLeaf" "I" (.int (0 : Int32)) := D74 (Or.inr (hw _ (List.mem_of_getElem? (i := 22) rfl))) (ty := .int) (by decide)
    have F74_76 : Fld Z h74 b74 "com/example/hetmo/hetmo/tree/StoppingRules" "_minShare" "D" (.double (0 : UInt64)) := D74 (Or.inr (hw _ (List.mem_of_getElem? (i := 24) rfl))) (ty := .double) (by decide)
    have F74_77 : Fld Z h74 b74 "com/example/hetmo/hetmo/tree/StoppingRules" "_minImprovement" "D" (.double (0 : UInt64)) := D74 (Or.inr (hw _ (List.mem_of_getElem? (i := 26) rfl))) (ty := .double) (by decide)
    have F74_78 : Fld Z h74 b74 "com/example/hetmo/hetmo/tree/StoppingRules" "_maxDepth" "I" (.int (0 : Int32)) := D74 (Or.inr (hw _ (List.mem_of_getElem? (i := 28) rfl))) (ty := .int) (by decide)
    have F74_79 : Fld Z h74 b74 "com/example/hetmo/hetmo/tree/StoppingRules" "_countedApartBy" "[D" .null := D74 (Or.inr (hw _ (List.mem_of_getElem? (i := 30) rfl))) (ty := (.array .double)) (by decide)
    have F74_80 : Fld Z h74 b74 "com/example/hetmo/hetmo/tree/StoppingRules" "_shareOfNode" "Z" (.int (0 : Int32)) := D74 (Or.inr (hw _ (List.mem_of_getElem? (i := 32) rfl))) (ty := .boolean) (by decide)
    have F74_81 : Fld Z h74 b74 "com/example/hetmo/hetmo/tree/StoppingRules" "_countingEstimatingRows" "Z" (.int (0 : Int32)) := D74 (Or.inr (hw _ (List.mem_of_getElem? (i := 34) rfl))) (ty := .boolean) (by decide)
    have g82 : Goes p e below S0 (T74.setTop (mkF m 38 #[iv i0, iv i1, iv i2, iv i3, iv i4, iv i5, .val (.long (nM i2)), .second, .val (.long (((nM i2) + (((i5 >>> ((1 : Int32) &&& 31)) &&& (3 : Int32)).toInt64)) - (1 : Int64))), .second, .unset, .unset] [(.ref b74)])) := fun t k => g73 t (st74 t k)
    have g83 : Goes p e below S0 (T74.setTop (mkF m 56 #[iv i0, iv i1, iv i2, iv i3, iv i4, iv i5, .val (.long (nM i2)), .second, .val (.long (((nM i2) + (((i5 >>> ((1 : Int32) &&& 31)) &&& (3 : Int32)).toInt64)) - (1 : Int64))), .second, .unset, .unset] [(.int (i3 &&& (2147483647 : Int32))), (.double (FP.l2d (nM i2))), (.double (FP.i2d (i1 &&& (1 : Int32)))), (.int ((i0 &&& (65535 : Int32)) + (1 : Int32))), (.ref b74), (.ref b74)])) := fun t k => g82 t (by
      refine XS.dup X74.here hx rfl (hb hby at_38) rfl rfl ?_
      show Go p e below t T74 m 39 #[iv i0, iv i1, iv i2, iv i3, iv i4, iv i5, .val (.long (nM i2)), .second, .val (.long (((nM i2) + (((i5 >>> ((1 : Int32) &&& 31)) &&& (3 : Int32)).toInt64)) - (1 : Int64))), .second, .unset, .unset] [(.ref b74), (.ref b74)]
      refine XS.iloadN X74.here hx rfl (hb hby at_39) rfl ?_
      show Go p e below t T74 m 40 #[iv i0, iv i1, iv i2, iv i3, iv i4, iv i5, .val (.long (nM i2)), .second, .val (.long (((nM i2) + (((i5 >>> ((1 : Int32) &&& 31)) &&& (3 : Int32)).toInt64)) - (1 : Int64))), .second, .unset, .unset] [(.int i0), (.ref b74), (.ref b74)]
      refine Jvm.Stand.ldcI X74 hx hown (mvT hZ (hw _ (List.mem_of_getElem? (i := 4) rfl))) (g := (mkF m 40 #[iv i0, iv i1, iv i2, iv i3, iv i4, iv i5, .val (.long (nM i2)), .second, .val (.long (((nM i2) + (((i5 >>> ((1 : Int32) &&& 31)) &&& (3 : Int32)).toInt64)) - (1 : Int64))), .second, .unset, .unset] [(.int i0), (.ref b74), (.ref b74)])) rfl (hb hby at_40) ?_
      show Go p e below t T74 m 42 #[iv i0, iv i1, iv i2, iv i3, iv i4, iv i5, .val (.long (nM i2)), .second, .val (.long (((nM i2) + (((i5 >>> ((1 : Int32) &&& 31)) &&& (3 : Int32)).toInt64)) - (1 : Int64))), .second, .unset, .unset] [(.int (65535 : Int32)), (.int i0), (.ref b74), (.ref b74)]
      refine XS.iand X74.here hx rfl (hb hby at_42) rfl ?_
      show Go p e below t T74 m 43 #[iv i0, iv i1, iv i2, iv i3, iv i4, iv i5, .val (.long (nM i2)), .second, .val (.long (((nM i2) + (((i5 >>> ((1 : Int32) &&& 31)) &&& (3 : Int32)).toInt64)) - (1 : Int64))), .second, .unset, .unset] [(.int (i0 &&& (65535 : Int32))), (.ref b74), (.ref b74)]
      refine XT.iconstV X74.here hx rfl (1 : Int32) (hb hby at_43) (by decide) ?_
      show Go p e below t T74 m 44 #[iv i0, iv i1, iv i2, iv i3, iv i4, iv i5, .val (.long (nM i2)), .second, .val (.long (((nM i2) + (((i5 >>> ((1 : Int32) &&& 31)) &&& (3 : Int32)).toInt64)) - (1 : Int64))), .second, .unset, .unset] [(.int (1 : Int32)), (.int (i0 &&& (65535 : Int32))), (.ref b74), (.ref b74)]
      refine XS.iadd X74.here hx rfl (hb hby at_44) rfl ?_
      show Go p e below t T74 m 45 #[iv i0, iv i1, iv i2, iv i3, iv i4, iv i5, .val (.long (nM i2)), .second, .val (.long (((nM i2) + (((i5 >>> ((1 : Int32) &&& 31)) &&& (3 : Int32)).toInt64)) - (1 : Int64))), .second, .unset, .unset] [(.int ((i0 &&& (65535 : Int32)) + (1 : Int32))), (.ref b74), (.ref b74)]
      refine XS.iloadN X74.here hx rfl (hb hby at_45) rfl ?_
      show Go p e below t T74 m 46 #[iv i0, iv i1, iv i2, iv i3, iv i4, iv i5, .val (.long (nM i2)), .second, .val (.long (((nM i2) + (((i5 >>> ((1 : Int32) &&& 31)) &&& (3 : Int32)).toInt64)) - (1 : Int64))), .second, .unset, .unset] [(.int i1), (.int ((i0 &&& (65535 : Int32)) + (1 : Int32))), (.ref b74), (.ref b74)]
      refine XT.iconstV X74.here hx rfl (1 : Int32) (hb hby at_46) (by decide) ?_
      show Go p e below t T74 m 47 #[iv i0, iv i1, iv i2, iv i3, iv i4, iv i5, .val (.long (nM i2)), .second, .val (.long (((nM i2) + (((i5 >>> ((1 : Int32) &&& 31)) &&& (3 : Int32)).toInt64)) - (1 : Int64))), .second, .unset, .unset] [(.int (1 : Int32)), (.int i1), (.int ((i0 &&& (65535 : Int32)) + (1 : Int32))), (.ref b74), (.ref b74)]
      refine XS.iand X74.here hx rfl (hb hby at_47) rfl ?_
      show Go p e below t T74 m 48 #[iv i0, iv i1, iv i2, iv i3, iv i4, iv i5, .val (.long (nM i2)), .second, .val (.long (((nM i2) + (((i5 >>> ((1 : Int32) &&& 31)) &&& (3 : Int32)).toInt64)) - (1 : Int64))), .second, .unset, .unset] [(.int (i1 &&& (1 : Int32))), (.int ((i0 &&& (65535 : Int32)) + (1 : Int32))), (.ref b74), (.ref b74)]
      refine XS.i2dS X74.here hx rfl (hb hby at_48) rfl rfl ?_
      show Go p e below t T74 m 49 #[iv i0, iv i1, iv i2, iv i3, iv i4, iv i5, .val (.long (nM i2)), .second, .val (.long (((nM i2) + (((i5 >>> ((1 : Int32) &&& 31)) &&& (3 : Int32)).toInt64)) - (1 : Int64))), .second, .unset, .unset] [(.double (FP.i2d (i1 &&& (1 : Int32)))), (.int ((i0 &&& (65535 : Int32)) + (1 : Int32))), (.ref b74), (.ref b74)]
      refine XS.lload X74.here hx rfl (hb hby at_49) rfl ?_
      show Go p e below t T74 m 51 #[iv i0, iv i1, iv i2, iv i3, iv i4, iv i5, .val (.long (nM i2)), .second, .val (.long (((nM i2) + (((i5 >>> ((1 : Int32) &&& 31)) &&& (3 : Int32)).toInt64)) - (1 : Int64))), .second, .unset, .unset] [(.long (nM i2)), (.double (FP.i2d (i1 &&& (1 : Int32)))), (.int ((i0 &&& (65535 : Int32)) + (1 : Int32))), (.ref b74), (.ref b74)]
      refine XS.l2dS X74.here hx rfl (hb hby at_51) rfl rfl ?_
      show Go p e below t T74 m 52 #[iv i0, iv i1, iv i2, iv i3, iv i4, iv i5, .val (.long (nM i2)), .second, .val (.long (((nM i2) + (((i5 >>> ((1 : Int32) &&& 31)) &&& (3 : Int32)).toInt64)) - (1 : Int64))), .second, .unset, .unset] [(.double (FP.l2d (nM i2))), (.double (FP.i2d (i1 &&& (1 : Int32)))), (.int ((i0 &&& (65535 : Int32)) + (1 : Int32))), (.ref b74), (.ref b74)]
      refine XS.iloadN X74.here hx rfl (hb hby at_52) rfl ?_
      show Go p e below t T74 m 53 #[iv i0, iv i1, iv i2, iv i3, iv i4, iv i5, .val (.long (nM i2)), .second, .val (.long (((nM i2) + (((i5 >>> ((1 : Int32) &&& 31)) &&& (3 : Int32)).toInt64)) - (1 : Int64))), .second, .unset, .unset] [(.int i3), (.double (FP.l2d (nM i2))), (.double (FP.i2d (i1 &&& (1 : Int32)))), (.int ((i0 &&& (65535 : Int32)) + (1 : Int32))), (.ref b74), (.ref b74)]
      refine Jvm.Stand.ldcI X74 hx hown (mvT hZ (hw _ (List.mem_of_getElem? (i := 5) rfl))) (g := (mkF m 53 #[iv i0, iv i1, iv i2, iv i3, iv i4, iv i5, .val (.long (nM i2)), .second, .val (.long (((nM i2) + (((i5 >>> ((1 : Int32) &&& 31)) &&& (3 : Int32)).toInt64)) - (1 : Int64))), .second, .unset, .unset] [(.int i3), (.double (FP.l2d (nM i2))), (.double (FP.i2d (i1 &&& (1 : Int32)))), (.int ((i0 &&& (65535 : Int32)) + (1 : Int32))), (.ref b74), (.ref b74)])) rfl (hb hby at_53) ?_
      show Go p e below t T74 m 55 #[iv i0, iv i1, iv i2, iv i3, iv i4, iv i5, .val (.long (nM i2)), .second, .val (.long (((nM i2) + (((i5 >>> ((1 : Int32) &&& 31)) &&& (3 : Int32)).toInt64)) - (1 : Int64))), .second, .unset, .unset] [(.int (2147483647 : Int32)), (.int i3), (.double (FP.l2d (nM i2))), (.double (FP.i2d (i1 &&& (1 : Int32)))), (.int ((i0 &&& (65535 : Int32)) + (1 : Int32))), (.ref b74), (.ref b74)]
      refine XS.iand X74.here hx rfl (hb hby at_55) rfl ?_
      show Go p e below t T74 m 56 #[iv i0, iv i1, iv i2, iv i3, iv i4, iv i5, .val (.long (nM i2)), .second, .val (.long (((nM i2) + (((i5 >>> ((1 : Int32) &&& 31)) &&& (3 : Int32)).toInt64)) - (1 : Int64))), .second, .unset, .unset] [(.int (i3 &&& (2147483647 : Int32))), (.double (FP.l2d (nM i2))), (.double (FP.i2d (i1 &&& (1 : Int32)))), (.int ((i0 &&& (65535 : Int32)) + (1 : Int32))), (.ref b74), (.ref b74)]
      exact k)
    obtain ⟨_, _, ⟨T84, L84, k84, n84⟩, -, X84, ⟨Lc84, hQ84, l84, y84, z84⟩, st84⟩ := X74.specialBack hx (y := (⟨"com/example/hetmo/hetmo/tree/StoppingRules", "<init>", "(IDDI)V"⟩ : MethodName)) rfl hown (mvT hZ (hw _ (List.mem_of_getElem? (i := 6) rfl))) (mvT hZ (hw _ (List.mem_of_getElem? (i := 7) rfl))) (mvT hZ (hw _ (List.mem_of_getElem? (i := 8) rfl))) (by decide) (backOf (W := 1) (rm_ini l Z a0 hw [] b74 ((i0 &&& (65535 : Int32)) + (1 : Int32)) (FP.i2d (i1 &&& (1 : Int32))) (FP.l2d (nM i2)) (i3 &&& (2147483647 : Int32))  h74 n0 (Nat.le_trans Z0 (Nat.le_trans (Nat.le_refl _) E74.1)) A74 F74_75 F74_76 F74_77 F74_78 F74_79 F74_80 F74_81 ng74 (own_q1 i0) (own_q2 i1) (own_q3 i1) (own_q4 i2) (own_qn i2) (own_q5 i2) (own_q6 i3)) hZ (hw _ (List.mem_of_getElem? (i := 8) rfl)) (hw _ (List.mem_of_getElem? (i := 3) rfl)) (by decide) (by decide)) (g := (mkF m 56 #[iv i0, iv i1, iv i2, iv i3, iv i4, iv i5, .val (.long (nM i2)), .second, .val (.long (((nM i2) + (((i5 >>> ((1 : Int32) &&& 31)) &&& (3 : Int32)).toInt64)) - (1 : Int64))), .second, .unset, .unset] [(.int (i3 &&& (2147483647 : Int32))), (.double (FP.l2d (nM i2))), (.double (FP.i2d (i1 &&& (1 : Int32)))), (.int ((i0 &&& (65535 : Int32)) + (1 : Int32))), (.ref b74), (.ref b74)])) rfl (by rw [hml]; rfl) (Steps.refl _) (a := b74) (argsL := [(.int ((i0 &&& (65535 : Int32)) + (1 : Int32))), (.double (FP.i2d (i1 &&& (1 : Int32)))), (.double (FP.l2d (nM i2))), (.int (i3 &&& (2147483647 : Int32)))]) (rest := [(.ref b74)]) (lenOf pd2 rfl) rfl (by show 2 * 0 + _ ≤ _; exact Nat.le_of_eq rfl) (hb hby at_56) (fun _ _ => ⟨rfl, e74, (by decide : 1 + 0 ≤ _), (by decide : 7 + 0 ≤ _)⟩)
    dsimp only [Pt.U, Pt.locs, Pt.cells, Pt.slots] at X84 l84 y84 z84 st84 hQ84
    subst l84 y84 z84
    obtain ⟨rfl, N84, R84_0, R84_1, R84_2, R84_3, R84_4, R84_5, R84_6, R84_7, R84_8⟩ := hQ84
    have M84 := Fr.app N0 N84
    have g85 : Goes p e below S0 (T84.setTop (mkF m 59 #[iv i0, iv i1, iv i2, iv i3, iv i4, iv i5, .val (.long (nM i2)), .second, .val (.long (((nM i2) + (((i5 >>> ((1 : Int32) &&& 31)) &&& (3 : Int32)).toInt64)) - (1 : Int64))), .second, .unset, .unset] [(.ref b74)])) := fun t k => g83 t (st84.trans k)
    have g86 : Goes p e below S0 (T84.setTop (mkF m 66 #[iv i0, iv i1, iv i2, iv i3, iv i4, iv i5, .val (.long (nM i2)), .second, .val (.long (((nM i2) + (((i5 >>> ((1 : Int32) &&& 31)) &&& (3 : Int32)).toInt64)) - (1 : Int64))), .second, rv b74, .unset] [(.int (lcmpW (((nM i2) + (((i5 >>> ((1 : Int32) &&& 31)) &&& (3 : Int32)).toInt64)) - (1 : Int64)) (nM i2)))])) := fun t k => g85 t (by
      refine XS.astore X84.here hx rfl (hb hby at_59) rfl rfl (l' := #[iv i0, iv i1, iv i2, iv i3, iv i4, iv i5, .val (.long (nM i2)), .second, .val (.long (((nM i2) + (((i5 >>> ((1 : Int32) &&& 31)) &&& (3 : Int32)).toInt64)) - (1 : Int64))), .second, rv b74, .unset]) rfl ?_
      show Go p e below t T84 m 61 #[iv i0, iv i1, iv i2, iv i3, iv i4, iv i5, .val (.long (nM i2)), .second, .val (.long (((nM i2) + (((i5 >>> ((1 : Int32) &&& 31)) &&& (3 : Int32)).toInt64)) - (1 : Int64))), .second, rv b74, .unset] []
      refine XS.lload X84.here hx rfl (hb hby at_61) rfl ?_
      show Go p e below t T84 m 63 #[iv i0, iv i1, iv i2, iv i3, iv i4, iv i5, .val (.long (nM i2)), .second, .val (.long (((nM i2) + (((i5 >>> ((1 : Int32) &&& 31)) &&& (3 : Int32)).toInt64)) - (1 : Int64))), .second, rv b74, .unset] [(.long (((nM i2) + (((i5 >>> ((1 : Int32) &&& 31)) &&& (3 : Int32)).toInt64)) - (1 : Int64)))]
      refine XS.lload X84.here hx rfl (hb hby at_63) rfl ?_
      show Go p e below t T84 m 65 #[iv i0, iv i1, iv i2, iv i3, iv i4, iv i5, .val (.long (nM i2)), .second, .val (.long (((nM i2) + (((i5 >>> ((1 : Int32) &&& 31)) &&& (3 : Int32)).toInt64)) - (1 : Int64))), .second, rv b74, .unset] [(.long (nM i2)), (.long (((nM i2) + (((i5 >>> ((1 : Int32) &&& 31)) &&& (3 : Int32)).toInt64)) - (1 : Int64)))]
      refine XS.lcmp X84.here hx rfl (hb hby at_65) rfl ?_
      show Go p e below t T84 m 66 #[iv i0, iv i1, iv i2, iv i3, iv i4, iv i5, .val (.long (nM i2)), .second, .val (.long (((nM i2) + (((i5 >>> ((1 : Int32) &&& 31)) &&& (3 : Int32)).toInt64)) - (1 : Int64))), .second, rv b74, .unset] [(.int (lcmpW (((nM i2) + (((i5 >>> ((1 : Int32) &&& 31)) &&& (3 : Int32)).toInt64)) - (1 : Int64)) (nM i2)))]
      exact k)
    by_cases h87 : (nM i2) < (((nM i2) + (((i5 >>> ((1 : Int32) &&& 31)) &&& (3 : Int32)).toInt64)) - (1 : Int64))
    · skip
      have g88 : Goes p e below S0 (T84.setTop (mkF m 81 #[iv i0, iv i1, iv i2, iv i3, iv i4, iv i5, .val (.long (nM i2)), .second, .val (.long (((nM i2) + (((i5 >>> ((1 : Int32) &&& 31)) &&& (3 : Int32)).toInt64)) - (1 : Int64))), .second, rv b74, iv (1 : Int32)] [(.double (FP.l2d (((nM i2) + (((i5 >>> ((1 : Int32) &&& 31)) &&& (3 : Int32)).toInt64)) - (1 : Int64)))), (.ref b74)])) := fun t k => g86 t (by
        refine XS.ifNo X84.here hx rfl (hb hby at_66) rfl (XT.ll_le_f h87) ?_
        show Go p e below t T84 m 69 #[iv i0, iv i1, iv i2, iv i3, iv i4, iv i5, .val (.long (nM i2)), .second, .val (.long (((nM i2) + (((i5 >>> ((1 : Int32) &&& 31)) &&& (3 : Int32)).toInt64)) - (1 : Int64))), .second, rv b74, .unset] []
        refine XT.iconstV X84.here hx rfl (1 : Int32) (hb hby at_69) (by decide) ?_
        show Go p e below t T84 m 70 #[iv i0, iv i1, iv i2, iv i3, iv i4, iv i5, .val (.long (nM i2)), .second, .val (.long (((nM i2) + (((i5 >>> ((1 : Int32) &&& 31)) &&& (3 : Int32)).toInt64)) - (1 : Int64))), .second, rv b74, .unset] [(.int (1 : Int32))]
        refine XS.goto X84.here hx rfl (pc0 := 70) (pc' := 74) rfl (hb hby at_70) (by decide) (by decide) ?_
        show Go p e below t T84 m 74 #[iv i0, iv i1, iv i2, iv i3, iv i4, iv i5, .val (.long (nM i2)), .second, .val (.long (((nM i2) + (((i5 >>> ((1 : Int32) &&& 31)) &&& (3 : Int32)).toInt64)) - (1 : Int64))), .second, rv b74, .unset] [(.int (1 : Int32))]
        refine XS.istore X84.here hx rfl (hb hby at_74) rfl (l' := #[iv i0, iv i1, iv i2, iv i3, iv i4, iv i5, .val (.long (nM i2)), .second, .val (.long (((nM i2) + (((i5 >>> ((1 : Int32) &&& 31)) &&& (3 : Int32)).toInt64)) - (1 : Int64))), .second, rv b74, iv (1 : Int32)]) rfl ?_
        show Go p e below t T84 m 76 #[iv i0, iv i1, iv i2, iv i3, iv i4, iv i5, .val (.long (nM i2)), .second, .val (.long (((nM i2) + (((i5 >>> ((1 : Int32) &&& 31)) &&& (3 : Int32)).toInt64)) - (1 : Int64))), .second, rv b74, iv (1 : Int32)] []
        refine XS.aload X84.here hx rfl (hb hby at_76) rfl rfl ?_
        show Go p e below t T84 m 78 #[iv i0, iv i1, iv i2, iv i3, iv i4, iv i5, .val (.long (nM i2)), .second, .val (.long (((nM i2) + (((i5 >>> ((1 : Int32) &&& 31)) &&& (3 : Int32)).toInt64)) - (1 : Int64))), .second, rv b74, iv (1 : Int32)] [(.ref b74)]
        refine XS.lload X84.here hx rfl (hb hby at_78) rfl ?_
        show Go p e below t T84 m 80 #[iv i0, iv i1, iv i2, iv i3, iv i4, iv i5, .val (.long (nM i2)), .second, .val (.long (((nM i2) + (((i5 >>> ((1 : Int32) &&& 31)) &&& (3 : Int32)).toInt64)) - (1 : Int64))), .second, rv b74, iv (1 : Int32)] [(.long (((nM i2) + (((i5 >>> ((1 : Int32) &&& 31)) &&& (3 : Int32)).toInt64)) - (1 : Int64))), (.ref b74)]
        refine XS.l2dS X84.here hx rfl (hb hby at_80) rfl rfl ?_
        show Go p e below t T84 m 81 #[iv i0, iv i1, iv i2, iv i3, iv i4, iv i5, .val (.long (nM i2)), .second, .val (.long (((nM i2) + (((i5 >>> ((1 : Int32) &&& 31)) &&& (3 : Int32)).toInt64)) - (1 : Int64))), .second, rv b74, iv (1 : Int32)] [(.double (FP.l2d (((nM i2) + (((i5 >>> ((1 : Int32) &&& 31)) &&& (3 : Int32)).toInt64)) - (1 : Int64)))), (.ref b74)]
        exact k)
      obtain ⟨cq89, kq89, q89a, q89b, q89c⟩ := isOf hZ rfl R84_1
      obtain ⟨_, _, ⟨T89, L89, k89, n89⟩, -, X89, ⟨Lc89, hQ89, l89, y89, z89⟩, st89⟩ := X84.virtualBack hx (y := (⟨"com/example/hetmo/hetmo/tree/StoppingRules", "accepts", "(D)Z"⟩ : MethodName)) (z := (⟨"com/example/hetmo/hetmo/tree/StoppingRules", "accepts", "(D)Z"⟩ : MethodName)) hown (mvT hZ (hw _ (List.mem_of_getElem? (i := 35) rfl))) (mvT hZ (hw _ (List.mem_of_getElem? (i := 36) rfl))) (notFace_of_selects (args := #[]) (mvT hZ (hw _ (List.mem_of_getElem? (i := 38) rfl)))) (mvT hZ (hw _ (List.mem_of_getElem? (i := 38) rfl))) (mvT hZ (hw _ (List.mem_of_getElem? (i := 37) rfl))) (by decide) (backOf (W := 0) (rm_acc l Z a0 hw [] b74 (FP.l2d (((nM i2) + (((i5 >>> ((1 : Int32) &&& 31)) &&& (3 : Int32)).toInt64)) - (1 : Int64))) (FP.l2d (nM i2)) T84.heap n0 (Nat.le_trans Z0 (Nat.le_trans (Nat.le_trans (Nat.le_refl _) E74.1) R84_0.1)) R84_4) hZ (hw _ (List.mem_of_getElem? (i := 39) rfl)) (hw _ (List.mem_of_getElem? (i := 3) rfl)) (by decide) (by decide)) q89a q89c (g := (mkF m 81 #[iv i0, iv i1, iv i2, iv i3, iv i4, iv i5, .val (.long (nM i2)), .second, .val (.long (((nM i2) + (((i5 >>> ((1 : Int32) &&& 31)) &&& (3 : Int32)).toInt64)) - (1 : Int64))), .second, rv b74, iv (1 : Int32)] [(.double (FP.l2d (((nM i2) + (((i5 >>> ((1 : Int32) &&& 31)) &&& (3 : Int32)).toInt64)) - (1 : Int64)))), (.ref b74)])) rfl (by rw [hml]; rfl) (Steps.refl _) (argsL := [(.double (FP.l2d (((nM i2) + (((i5 >>> ((1 : Int32) &&& 31)) &&& (3 : Int32)).toInt64)) - (1 : Int64))))]) (rest := []) (lenOf pd0 rfl) rfl (by show 2 * 0 + _ ≤ _; exact Nat.le_of_eq rfl) (hb hby at_81) (fun _ _ => ⟨rfl, rfl, (by decide : 1 + 0 ≤ _), (by decide : 7 + 0 ≤ _)⟩)
      dsimp only [Pt.U, Pt.locs, Pt.cells, Pt.slots] at X89 l89 y89 z89 st89 hQ89
      subst l89 y89 z89
      obtain ⟨rfl, N89, e89⟩ := hQ89
      have M89 := Fr.app M84 N89
      have g90 : Goes p e below S0 (T89.setTop (mkF m 84 #[iv i0, iv i1, iv i2, iv i3, iv i4, iv i5, .val (.long (nM i2)), .second, .val (.long (((nM i2) + (((i5 >>> ((1 : Int32) &&& 31)) &&& (3 : Int32)).toInt64)) - (1 : Int64))), .second, rv b74, iv (1 : Int32)] [(.int (f_acc (FP.l2d (((nM i2) + (((i5 >>> ((1 : Int32) &&& 31)) &&& (3 : Int32)).toInt64)) - (1 : Int64))) (FP.l2d (nM i2))))])) := fun t k => g88 t (st89.trans k)
      have g91 : Goes p e below S0 (T89.setTop (mkF m 86 #[iv i0, iv i1, iv i2, iv i3, iv i4, iv i5, .val (.long (nM i2)), .second, .val (.long (((nM i2) + (((i5 >>> ((1 : Int32) &&& 31)) &&& (3 : Int32)).toInt64)) - (1 : Int64))), .second, rv b74, iv (1 : Int32)] [(.int (1 : Int32)), (.int (f_acc (FP.l2d (((nM i2) + (((i5 >>> ((1 : Int32) &&& 31)) &&& (3 : Int32)).toInt64)) - (1 : Int64))) (FP.l2d (nM i2))))])) := fun t k => g90 t (by
        refine XS.iload X89.here hx rfl (hb hby at_84) rfl ?_
        show Go p e below t T89 m 86 #[iv i0, iv i1, iv i2, iv i3, iv i4, iv i5, .val (.long (nM i2)), .second, .val (.long (((nM i2) + (((i5 >>> ((1 : Int32) &&& 31)) &&& (3 : Int32)).toInt64)) - (1 : Int64))), .second, rv b74, iv (1 : Int32)] [(.int (1 : Int32)), (.int (f_acc (FP.l2d (((nM i2) + (((i5 >>> ((1 : Int32) &&& 31)) &&& (3 : Int32)).toInt64)) - (1 : Int64))) (FP.l2d (nM i2))))]
        exact k)
      by_cases h92 : (f_acc (FP.l2d (((nM i2) + (((i5 >>> ((1 : Int32) &&& 31)) &&& (3 : Int32)).toInt64)) - (1 : Int64))) (FP.l2d (nM i2))) = (1 : Int32)
      · skip
        have g93 : Goes p e below S0 (T89.setTop (mkF m 94 #[iv i0, iv i1, iv i2, iv i3, iv i4, iv i5, .val (.long (nM i2)), .second, .val (.long (((nM i2) + (((i5 >>> ((1 : Int32) &&& 31)) &&& (3 : Int32)).toInt64)) - (1 : Int64))), .second, rv b74, iv (1 : Int32)] [(.int (1 : Int32))])) := fun t k => g91 t (by
          refine XS.icmpNo X89.here hx rfl (hb hby at_86) rfl (XT.ii_ne_f h92) ?_
          show Go p e below t T89 m 89 #[iv i0, iv i1, iv i2, iv i3, iv i4, iv i5, .val (.long (nM i2)), .second, .val (.long (((nM i2) + (((i5 >>> ((1 : Int32) &&& 31)) &&& (3 : Int32)).toInt64)) - (1 : Int64))), .second, rv b74, iv (1 : Int32)] []
          refine XT.iconstV X89.here hx rfl (1 : Int32) (hb hby at_89) (by decide) ?_
          show Go p e below t T89 m 90 #[iv i0, iv i1, iv i2, iv i3, iv i4, iv i5, .val (.long (nM i2)), .second, .val (.long (((nM i2) + (((i5 >>> ((1 : Int32) &&& 31)) &&& (3 : Int32)).toInt64)) - (1 : Int64))), .second, rv b74, iv (1 : Int32)] [(.int (1 : Int32))]
          refine XS.goto X89.here hx rfl (pc0 := 90) (pc' := 94) rfl (hb hby at_90) (by decide) (by decide) ?_
          show Go p e below t T89 m 94 #[iv i0, iv i1, iv i2, iv i3, iv i4, iv i5, .val (.long (nM i2)), .second, .val (.long (((nM i2) + (((i5 >>> ((1 : Int32) &&& 31)) &&& (3 : Int32)).toInt64)) - (1 : Int64))), .second, rv b74, iv (1 : Int32)] [(.int (1 : Int32))]
          exact k)
        obtain ⟨fs, hr, hrun, hended, hW, hsame⟩ := X89.leave (v := some (.int (1 : Int32))) (fun h => by rw [Bd.returns] at h; cases h)
        refine ⟨_, _, g93 _ (retN X89 hx (t := .boolean) Bd.returns (by simp) (hb hby at_94) hr), hrun, hended, _, _, rfl, ?_, ⟨_, rfl⟩, hW, hsame.mono (by decide) (by decide)⟩
        show Q_law Z i0 i1 i2 i3 i4 i5  h0 n0 _ T89.heap _
        rw [e89]
        exact ⟨by unfold f_law; rw [if_neg h43, if_pos h87, if_pos h92], M89⟩
      · skip
        have g94 : Goes p e below S0 (T89.setTop (mkF m 94 #[iv i0, iv i1, iv i2, iv i3, iv i4, iv i5, .val (.long (nM i2)), .second, .val (.long (((nM i2) + (((i5 >>> ((1 : Int32) &&& 31)) &&& (3 : Int32)).toInt64)) - (1 : Int64))), .second, rv b74, iv (1 : Int32)] [(.int (0 : Int32))])) := fun t k => g91 t (by
          refine XS.icmpYes X89.here hx rfl (pc0 := 86) (pc' := 93) rfl (hb hby at_86) rfl (XT.ii_ne_t h92) (by decide) (by decide) ?_
          show Go p e below t T89 m 93 #[iv i0, iv i1, iv i2, iv i3, iv i4, iv i5, .val (.long (nM i2)), .second, .val (.long (((nM i2) + (((i5 >>> ((1 : Int32) &&& 31)) &&& (3 : Int32)).toInt64)) - (1 : Int64))), .second, rv b74, iv (1 : Int32)] []
          refine XT.iconstV X89.here hx rfl (0 : Int32) (hb hby at_93) (by decide) ?_
          show Go p e below t T89 m 94 #[iv i0, iv i1, iv i2, iv i3, iv i4, iv i5, .val (.long (nM i2)), .second, .val (.long (((nM i2) + (((i5 >>> ((1 : Int32) &&& 31)) &&& (3 : Int32)).toInt64)) - (1 : Int64))), .second, rv b74, iv (1 : Int32)] [(.int (0 : Int32))]
          exact k)
        obtain ⟨fs, hr, hrun, hended, hW, hsame⟩ := X89.leave (v := some (.int (0 : Int32))) (fun h => by rw [Bd.returns] at h; cases h)
        refine ⟨_, _, g94 _ (retN X89 hx (t := .boolean) Bd.returns (by simp) (hb hby at_94) hr), hrun, hended, _, _, rfl, ?_, ⟨_, rfl⟩, hW, hsame.mono (by decide) (by decide)⟩
        show Q_law Z i0 i1 i2 i3 i4 i5  h0 n0 _ T89.heap _
        rw [e89]
        exact ⟨by unfold f_law; rw [if_neg h43, if_pos h87, if_neg h92], M89⟩
    · skip
      have g95 : Goes p e below S0 (T84.setTop (mkF m 81 #[iv i0, iv i1, iv i2, iv i3, iv i4, iv i5, .val (.long (nM i2)), .second, .val (.long (((nM i2) + (((i5 >>> ((1 : Int32) &&& 31)) &&& (3 : Int32)).toInt64)) - (1 : Int64))), .second, rv b74, iv (0 : Int32)] [(.double (FP.l2d (((nM i2) + (((i5 >>> ((1 : Int32) &&& 31)) &&& (3 : Int32)).toInt64)) - (1 : Int64)))), (.ref b74)])) := fun t k => g86 t (by
        refine XS.ifYes X84.here hx rfl (pc0 := 66) (pc' := 73) rfl (hb hby at_66) rfl (XT.ll_le_t h87) (by decide) (by decide) ?_
        show Go p e below t T84 m 73 #[iv i0, iv i1, iv i2, iv i3, iv i4, iv i5, .val (.long (nM i2)), .second, .val (.long (((nM i2) + (((i5 >>> ((1 : Int32) &&& 31)) &&& (3 : Int32)).toInt64)) - (1 : Int64))), .second, rv b74, .unset] []
        refine XT.iconstV X84.here hx rfl (0 : Int32) (hb hby at_73) (by decide) ?_
        show Go p e below t T84 m 74 #[iv i0, iv i1, iv i2, iv i3, iv i4, iv i5, .val (.long (nM i2)), .second, .val (.long (((nM i2) + (((i5 >>> ((1 : Int32) &&& 31)) &&& (3 : Int32)).toInt64)) - (1 : Int64))), .second, rv b74, .unset] [(.int (0 : Int32))]
        refine XS.istore X84.here hx rfl (hb hby at_74) rfl (l' := #[iv i0, iv i1, iv i2, iv i3, iv i4, iv i5, .val (.long (nM i2)), .second, .val (.long (((nM i2) + (((i5 >>> ((1 : Int32) &&& 31)) &&& (3 : Int32)).toInt64)) - (1 : Int64))), .second, rv b74, iv (0 : Int32)]) rfl ?_
        show Go p e below t T84 m 76 #[iv i0, iv i1, iv i2, iv i3, iv i4, iv i5, .val (.long (nM i2)), .second, .val (.long (((nM i2) + (((i5 >>> ((1 : Int32) &&& 31)) &&& (3 : Int32)).toInt64)) - (1 : Int64))), .second, rv b74, iv (0 : Int32)] []
        refine XS.aload X84.here hx rfl (hb hby at_76) rfl rfl ?_
        show Go p e below t T84 m 78 #[iv i0, iv i1, iv i2, iv i3, iv i4, iv i5, .val (.long (nM i2)), .second, .val (.long (((nM i2) + (((i5 >>> ((1 : Int32) &&& 31)) &&& (3 : Int32)).toInt64)) - (1 : Int64))), .second, rv b74, iv (0 : Int32)] [(.ref b74)]
        refine XS.lload X84.here hx rfl (hb hby at_78) rfl ?_
        show Go p e below t T84 m 80 #[iv i0, iv i1, iv i2, iv i3, iv i4, iv i5, .val (.long (nM i2)), .second, .val (.long (((nM i2) + (((i5 >>> ((1 : Int32) &&& 31)) &&& (3 : Int32)).toInt64)) - (1 : Int64))), .second, rv b74, iv (0 : Int32)] [(.long (((nM i2) + (((i5 >>> ((1 : Int32) &&& 31)) &&& (3 : Int32)).toInt64)) - (1 : Int64))), (.ref b74)]
        refine XS.l2dS X84.here hx rfl (hb hby at_80) rfl rfl ?_
        show Go p e below t T84 m 81 #[iv i0, iv i1, iv i2, iv i3, iv i4, iv i5, .val (.long (nM i2)), .second, .val (.long (((nM i2) + (((i5 >>> ((1 : Int32) &&& 31)) &&& (3 : Int32)).toInt64)) - (1 : Int64))), .second, rv b74, iv (0 : Int32)] [(.double (FP.l2d (((nM i2) + (((i5 >>> ((1 : Int32) &&& 31)) &&& (3 : Int32)).toInt64)) - (1 : Int64)))), (.ref b74)]
        exact k)
      obtain ⟨cq96, kq96, q96a, q96b, q96c⟩ := isOf hZ rfl R84_1
      obtain ⟨_, _, ⟨T96, L96, k96, n96⟩, -, X96, ⟨Lc96, hQ96, l96, y96, z96⟩, st96⟩ := X84.virtualBack hx (y := (⟨"com/example/hetmo/hetmo/tree/StoppingRules", "accepts", "(D)Z"⟩ : MethodName)) (z := (⟨"com/example/hetmo/hetmo/tree/StoppingRules", "accepts", "(D)Z"⟩ : MethodName)) hown (mvT hZ (hw _ (List.mem_of_getElem? (i := 35) rfl))) (mvT hZ (hw _ (List.mem_of_getElem? (i := 36) rfl))) (notFace_of_selects (args := #[]) (mvT hZ (hw _ (List.mem_of_getElem? (i := 38) rfl)))) (mvT hZ (hw _ (List.mem_of_getElem? (i := 38) rfl))) (mvT hZ (hw _ (List.mem_of_getElem? (i := 37) rfl))) (by decide) (backOf (W := 0) (rm_acc l Z a0 hw [] b74 (FP.l2d (((nM i2) + (((i5 >>> ((1 : Int32) &&& 31)) &&& (3 : Int32)).toInt64)) - (1 : Int64))) (FP.l2d (nM i2)) T84.heap n0 (Nat.le_trans Z0 (Nat.le_trans (Nat.le_trans (Nat.le_refl _) E74.1) R84_0.1)) R84_4) hZ (hw _ (List.mem_of_getElem? (i := 39) rfl)) (hw _ (List.mem_of_getElem? (i := 3) rfl)) (by decide) (by decide)) q96a q96c (g := (mkF m 81 #[iv i0, iv i1, iv i2, iv i3, iv i4, iv i5, .val (.long (nM i2)), .second, .val (.long (((nM i2) + (((i5 >>> ((1 : Int32) &&& 31)) &&& (3 : Int32)).toInt64)) - (1 : Int64))), .second, rv b74, iv (0 : Int32)] [(.double (FP.l2d (((nM i2) + (((i5 >>> ((1 : Int32) &&& 31)) &&& (3 : Int32)).toInt64)) - (1 : Int64)))), (.ref b74)])) rfl (by rw [hml]; rfl) (Steps.refl _) (argsL := [(.double (FP.l2d (((nM i2) + (((i5 >>> ((1 : Int32) &&& 31)) &&& (3 : Int32)).toInt64)) - (1 : Int64))))]) (rest := []) (lenOf pd0 rfl) rfl (by show 2 * 0 + _ ≤ _; exact Nat.le_of_eq rfl) (hb hby at_81) (fun _ _ => ⟨rfl, rfl, (by decide : 1 + 0 ≤ _), (by decide : 7 + 0 ≤ _)⟩)
      dsimp only [Pt.U, Pt.locs, Pt.cells, Pt.slots] at X96 l96 y96 z96 st96 hQ96
      subst l96 y96 z96
      obtain ⟨rfl, N96, e96⟩ := hQ96
      have M96 := Fr.app M84 N96
      have g97 : Goes p e below S0 (T96.setTop (mkF m 84 #[iv i0, iv i1, iv i2, iv i3, iv i4, iv i5, .val (.long (nM i2)), .second, .val (.long (((nM i2) + (((i5 >>> ((1 : Int32) &&& 31)) &&& (3 : Int32)).toInt64)) - (1 : Int64))), .second, rv b74, iv (0 : Int32)] [(.int (f_acc (FP.l2d (((nM i2) + (((i5 >>> ((1 : Int32) &&& 31)) &&& (3 : Int32)).toInt64)) - (1 : Int64))) (FP.l2d (nM i2))))])) := fun t k => g95 t (st96.trans k)
      have g98 : Goes p e below S0 (T96.setTop (mkF m 86 #[iv i0, iv i1, iv i2, iv i3, iv i4, iv i5, .val (.long (nM i2)), .second, .val (.long (((nM i2) + (((i5 >>> ((1 : Int32) &&& 31)) &&& (3 : Int32)).toInt64)) - (1 : Int64))), .second, rv b74, iv (0 : Int32)] [(.int (0 : Int32)), (.int (f_acc (FP.l2d (((nM i2) + (((i5 >>> ((1 : Int32) &&& 31)) &&& (3 : Int32)).toInt64)) - (1 : Int64))) (FP.l2d (nM i2))))])) := fun t k => g97 t (by
        refine XS.iload X96.here hx rfl (hb hby at_84) rfl ?_
        show Go p e below t T96 m 86 #[iv i0, iv i1, iv i2, iv i3, iv i4, iv i5, .val (.long (nM i2)), .second, .val (.long (((nM i2) + (((i5 >>> ((1 : Int32) &&& 31)) &&& (3 : Int32)).toInt64)) - (1 : Int64))), .second, rv b74, iv (0 : Int32)] [(.int (0 : Int32)), (.int (f_acc (FP.l2d (((nM i2) + (((i5 >>> ((1 : Int32) &&& 31)) &&& (3 : Int32)).toInt64)) - (1 : Int64))) (FP.l2d (nM i2))))]
        exact k)
      by_cases h99 : (f_acc (FP.l2d (((nM i2) + (((i5 >>> ((1 : Int32) &&& 31)) &&& (3 : Int32)).toInt64)) - (1 : Int64))) (FP.l2d (nM i2))) = (0 : Int32)
      · skip
        have g100 : Goes p e below S0 (T96.setTop (mkF m 94 #[iv i0, iv i1, iv i2, iv i3, iv i4, iv i5, .val (.long (nM i2)), .second, .val (.long (((nM i2) + (((i5 >>> ((1 : Int32) &&& 31)) &&& (3 : Int32)).toInt64)) - (1 : Int64))), .second, rv b74, iv (0 : Int32)] [(.int (1 : Int32))])) := fun t k => g98 t (by
          refine XS.icmpNo X96.here hx rfl (hb hby at_86) rfl (XT.ii_ne_f h99) ?_
          show Go p e below t T96 m 89 #[iv i0, iv i1, iv i2, iv i3, iv i4, iv i5, .val (.long (nM i2)), .second, .val (.long (((nM i2) + (((i5 >>> ((1 : Int32) &&& 31)) &&& (3 : Int32)).toInt64)) - (1 : Int64))), .second, rv b74, iv (0 : Int32)] []
          refine XT.iconstV X96.here hx rfl (1 : Int32) (hb hby at_89) (by decide) ?_
          show Go p e below t T96 m 90 #[iv i0, iv i1, iv i2, iv i3, iv i4, iv i5, .val (.long (nM i2)), .second, .val (.long (((nM i2) + (((i5 >>> ((1 : Int32) &&& 31)) &&& (3 : Int32)).toInt64)) - (1 : Int64))), .second, rv b74, iv (0 : Int32)] [(.int (1 : Int32))]
          refine XS.goto X96.here hx rfl (pc0 := 90) (pc' := 94) rfl (hb hby at_90) (by decide) (by decide) ?_
          show Go p e below t T96 m 94 #[iv i0, iv i1, iv i2, iv i3, iv i4, iv i5, .val (.long (nM i2)), .second, .val (.long (((nM i2) + (((i5 >>> ((1 : Int32) &&& 31)) &&& (3 : Int32)).toInt64)) - (1 : Int64))), .second, rv b74, iv (0 : Int32)] [(.int (1 : Int32))]
          exact k)
        obtain ⟨fs, hr, hrun, hended, hW, hsame⟩ := X96.leave (v := some (.int (1 : Int32))) (fun h => by rw [Bd.returns] at h; cases h)
        refine ⟨_, _, g100 _ (retN X96 hx (t := .boolean) Bd.returns (by simp) (hb hby at_94) hr), hrun, hended, _, _, rfl, ?_, ⟨_, rfl⟩, hW, hsame.mono (by decide) (by decide)⟩
        show Q_law Z i0 i1 i2 i3 i4 i5  h0 n0 _ T96.heap _
        rw [e96]
        exact ⟨by unfold f_law; rw [if_neg h43, if_neg h87, if_pos h99], M96⟩
      · skip
        have g101 : Goes p e below S0 (T96.setTop (mkF m 94 #[iv i0, iv i1, iv i2, iv i3, iv i4, iv i5, .val (.long (nM i2)), .second, .val (.long (((nM i2) + (((i5 >>> ((1 : Int32) &&& 31)) &&& (3 : Int32)).toInt64)) - (1 : Int64))), .second, rv b74, iv (0 : Int32)] [(.int (0 : Int32))])) := fun t k => g98 t (by
          refine XS.icmpYes X96.here hx rfl (pc0 := 86) (pc' := 93) rfl (hb hby at_86) rfl (XT.ii_ne_t h99) (by decide) (by decide) ?_
          show Go p e below t T96 m 93 #[iv i0, iv i1, iv i2, iv i3, iv i4, iv i5, .val (.long (nM i2)), .second, .val (.long (((nM i2) + (((i5 >>> ((1 : Int32) &&& 31)) &&& (3 : Int32)).toInt64)) - (1 : Int64))), .second, rv b74, iv (0 : Int32)] []
          refine XT.iconstV X96.here hx rfl (0 : Int32) (hb hby at_93) (by decide) ?_
          show Go p e below t T96 m 94 #[iv i0, iv i1, iv i2, iv i3, iv i4, iv i5, .val (.long (nM i2)), .second, .val (.long (((nM i2) + (((i5 >>> ((1 : Int32) &&& 31)) &&& (3 : Int32)).toInt64)) - (1 : Int64))), .second, rv b74, iv (0 : Int32)] [(.int (0 : Int32))]
          exact k)
        obtain ⟨fs, hr, hrun, hended, hW, hsame⟩ := X96.leave (v := some (.int (0 : Int32))) (fun h => by rw [Bd.returns] at h; cases h)
        refine ⟨_, _, g101 _ (retN X96 hx (t := .boolean) Bd.returns (by simp) (hb hby at_94) hr), hrun, hended, _, _, rfl, ?_, ⟨_, rfl⟩, hW, hsame.mono (by decide) (by decide)⟩
        show Q_law Z i0 i1 i2 i3 i4 i5  h0 n0 _ T96.heap _
        rw [e96]
        exact ⟨by unfold f_law; rw [if_neg h43, if_neg h87, if_neg h99], M96⟩
open Jvm.OwnFP in
theorem own_lt {m x : Int64} (hm : m.toInt.natAbs ≤ 2 ^ 53) (hx : x.toInt.natAbs ≤ 2 ^ 53) : dLt (FP.l2d m) (FP.l2d x) ↔ m < x := by
  unfold dLt
  rw [(Val.l2d hm).cmp (Val.l2d hx), Option.some.injEq, FP.Core.compare_lt_iff, Int64.lt_iff_toInt_lt]
theorem own_core {m x : Int64} (hm : m.toInt.natAbs ≤ 2 ^ 53) (hx : x.toInt.natAbs ≤ 2 ^ 53) :
    (if m < x then (if (f_acc (FP.l2d x) (FP.l2d m)) = (1 : Int32) then (1 : Int32) else (0 : Int32)) else (if (f_acc (FP.l2d x) (FP.l2d m)) = (0 : Int32) then (1 : Int32) else (0 : Int32))) = 1 := by
  have h := own_lt hm hx
  unfold f_acc
  by_cases hc : m < x
  · rw [if_pos hc, if_pos (h.mpr hc)]; decide
  · rw [if_neg hc, if_neg (fun q => hc (h.mp q))]; decide
theorem own_one (a b c d e f : Int32) : f_law a b c d e f = 1 := by
  have hm := own_m c
  unfold f_law
  by_cases h : (f &&& (1 : Int32)) = 0
  · rw [if_pos h]
    refine own_core (by omega) ?_
    have := c_i2l e
    have := rng32 e
    omega
  · rw [if_neg h]
    refine own_core (by omega) ?_
    have h1 := c_mask (f >>> ((1 : Int32) &&& 31)) 3 2 (by decide) (by decide)
    have h2 := c_i2l ((f >>> ((1 : Int32) &&& 31)) &&& (3 : Int32))
    generalize ((f >>> ((1 : Int32) &&& 31)) &&& (3 : Int32)) = y at *
    have h3 := c_ladd (nM c) y.toInt64
    have h4 := rng64 (nM c + y.toInt64)
    have h5 := c_lsub (nM c + y.toInt64) 1
    have h6 := rng64 (nM c + y.toInt64 - 1)
    have : (1 : Int64).toInt = 1 := by decide
    omega

set_option maxRecDepth 65536 in
set_option maxHeartbeats 40000000 in
theorem comes_1 {Post : Tables → Env → Array Value → State → Outcome → State → Prop} (hpost : ∀ tb e args s v u, (limb_1_1.after args s (.returned v) u = true ∧ limb_1_2.after args s (.returned v) u = true ∧ True) → FrameEnd s (.returned v) u (Jvm.fieldLocs frame_1_writes args s ++ Jvm.arrayLocs frame_1_arrays args s ++ Jvm.staticLocs frame_1_statics s) 16 128 → Post tb e args s (.returned v) u) :
    ArmFor flags0 classFile x code maxLocals ret World_1 tables_1 room_1 Calls_1 rest_1 Pre_1 Post := by
  intro l hfl _ _ p e ha hc hk s m args below hf hA hF happ hP
  obtain ⟨hcalls, hrest, hpre⟩ := hP
  obtain ⟨-, -, -, hnamed, -, -, -, hat⟩ := (Spec.applies_iff hf).mp happ
  obtain ⟨hg, hn⟩ := and_e (Cond.before_iff.mp (show (Jvm.Cond.and given_1 narrow_1).before args s = true from hpre))
  obtain ⟨hcount, q0⟩ := and_e hg
  obtain ⟨b0, q1⟩ := and_e q0
  obtain ⟨b1, q2⟩ := and_e q1
  obtain ⟨b2, q3⟩ := and_e q2
  obtain ⟨b3, q4⟩ := and_e q3
  obtain ⟨b4, q5⟩ := and_e q4
  have b5 := q5
  obtain ⟨w0, w1, w2, w3, w4, w5, rfl⟩ : ∃ w0 w1 w2 w3 w4 w5 : Value, args = #[w0, w1, w2, w3, w4, w5] := by
    have hs : args.size = 6 := by simpa [Cond.value, given_1] using hcount
    obtain ⟨L⟩ := args
    match L, hs with
    | [w0, w1, w2, w3, w4, w5], _ => exact ⟨w0, w1, w2, w3, w4, w5, rfl⟩
  have hw := fun d (hd : d ∈ tables_1) => atoms_spec (ws := Jvm.Cond.code x code maxLocals ret :: tables_1) hat d (List.mem_cons_of_mem _ hd)
  have hfit : Fit s := fun {y c} hc i hi => by
    obtain ⟨ha, rfl⟩ := Array.getElem?_eq_some_iff.mp hc
    have q := List.all_eq_true.mp ((Array.all_eq_true_iff_forall_mem.mp hF) _ (Array.getElem_mem ha)) i (List.mem_range.mpr hi)
    simpa [Array.getElem?_eq_getElem hi] using q
  obtain ⟨i0, r0⟩ := is_v b0
  obtain rfl : w0 = (.int i0) := Option.some.inj r0
  obtain ⟨i1, r1⟩ := is_v b1
  obtain rfl : w1 = (.int i1) := Option.some.inj r1
  obtain ⟨i2, r2⟩ := is_v b2
  obtain rfl : w2 = (.int i2) := Option.some.inj r2
  obtain ⟨i3, r3⟩ := is_v b3
  obtain rfl : w3 = (.int i3) := Option.some.inj r3
  obtain ⟨i4, r4⟩ := is_v b4
  obtain rfl : w4 = (.int i4) := Option.some.inj r4
  obtain ⟨i5, r5⟩ := is_v b5
  obtain rfl : w5 = (.int i5) := Option.some.inj r5
  obtain ⟨n, o, h1, h2, h3, v, L, rfl, ⟨hv, N⟩, hq⟩ := rm_law l s _ hw tables_1 i0 i1 i2 i3 i4 i5  s.heap s.heap.size (Nat.le_refl _)  p e ha hc hk s m _ below hf ((Spec.applies_iff_loose hf).mp happ).1 ⟨rfl, State.Warmed39.refl s, rfl⟩ trivial
  obtain rfl : v = some (.int 1) := by rw [hv, own_one]
  refine ⟨n, _, h1, h2, h3, hpost _ _ _ _ _ _ ⟨Cond.after_iff.mpr rfl, Cond.after_iff.mpr (eq_i res_at (Term.int_eval (1)) rfl), trivial⟩ ⟨hq.1, hq.2.1, (hq.2.2.sift fun y hy => Or.inr (N y hy)).mono (by decide) (by decide)⟩⟩
theorem main_1_1 : Claimed_1_1 := comes_1 fun _ _ _ _ _ _ h hF => ⟨h.1, hF⟩
theorem main_1_2 : Claimed_1_2 := comes_1 fun _ _ _ _ _ _ h hF => ⟨h.2.1, hF⟩
end Jvm.Pilot.@@N@@
namespace Jvm.Pilot.@@N@@
open Jvm Jvm.ClassFile Sem Op Lib Jvm.Free Jvm.Stand Jvm.Pilot.@@N@@.Jvm.D
/-! MADE BY PROGRAM (witnessworld.py) out of the Statement's table words and the real class files: 15 classes; the members and pool entries that the words name. The judged class is class 1, her method 1. -/
namespace start1
open Jvm.ClassFile
def u (s : String) : CpInfo := .utf8 (stringToUtf16 s)
/-- a pool by its gaps: so many unusable entries, then the entry; so many at the end -/
def gap : Nat → List CpInfo → List CpInfo
  | 0, r => r
  | n + 1, r => .unusable :: gap n r
def poolList (es : List (Nat × CpInfo)) (last : Nat) : List CpInfo := es.foldr (fun e r => gap e.1 (e.2 :: r)) (gap last [])
def pool (es : List (Nat × CpInfo)) (last : Nat) : Array CpInfo := ⟨poolList es last⟩
def fileOf (pool : Array CpInfo) (this : Nat) (attrs : Array Attribute := #[]) (ms : Array MethodInfo := #[]) (fl : Nat := 33) (sup : Nat := 0) (ifs : Array Nat := #[]) (fds : Array FieldInfo := #[]) : ClassFile where
  minorVersion := 0
  majorVersion := 65
  constantPool := pool
  accessFlags := fl
  thisClass := this
  superClass := sup
  interfaces := ifs
  fields := fds
  methods := ms
  attributes := attrs
def plain (name : String) (sup : Option ClassId) : Class where
  name := name
  kind := .ordinary
  loader := none
  accessFlags := 33
  super := sup
  interfaces := #[]
  cf := none
  fields := #[]
  methods := #[]
  instanceTypes := #[]
  staticTypes := #[]
  resolved := #[]
  callSites := []
  init := .initialized
  statics := none
  mirror := none

def pool0 : Array CpInfo := pool [(5, u "<init>"), (0, u "()V"), (1, .class_ 10), (1, u "java/lang/Object")] 113

def k0c0 : Code := { maxStack := 0, maxLocals := 1, code := object_method_1_code, exceptionTable := #[], attributes := #[] }
def k0m0 : Method := { name := "<init>", desc := "()V", sig := { parameters := [], returnType := none }, accessFlags := 1, code := some k0c0 }
/-- java/lang/Object -/
def k0 : Class := { plain "java/lang/Object" none with
  accessFlags := 33
  interfaces := #[]
  cf := some (fileOf pool0 8 #[] #[{ accessFlags := 1, nameIndex := 5, descriptorIndex := 6, attributes := #[] }] 33 0 #[] #[])
  fields := #[]
  methods := #[k0m0]
  instanceTypes := #[]
  staticTypes := #[]
  resolved := Array.replicate 124 none
  statics := none }

def pool1 : Array CpInfo := pool [(2, .class_ 4), (1, u "java/lang/Object"), (0, u "<init>"), (0, u "()V"), (0, .long 2147483647), (1, .class_ 10), (0, u "com/example/hetmo/hetmo/tree/StoppingRules"), (0, .integer 65535), (0, .integer 2147483647), (0, .methodref 9 14), (0, .nameAndType 5 15), (0, u "(IDDI)V"), (0, .methodref 9 17), (0, .nameAndType 18 19), (0, u "accepts"), (0, u "(D)Z"), (0, .class_ 21), (0, u "com/example/hetmo/hetmo/tree/StoppingRulesAcceptsPinLaw"), (2, u "law"), (0, u "(IIIIII)Z")] 3

def k1m0 : Method := { name := "<init>", desc := "()V", sig := { parameters := [], returnType := none }, accessFlags := 1, code := none }
def k1c1 : Code := { maxStack := 9, maxLocals := 12, code := code, exceptionTable := #[], attributes := #[] }
def k1m1 : Method := { name := "law", desc := "(IIIIII)Z", sig := { parameters := [.int, .int, .int, .int, .int, .int], returnType := some .boolean }, accessFlags := 9, code := some k1c1 }
/-- com/example/hetmo/hetmo/tree/StoppingRulesAcceptsPinLaw -/
def k1 : Class := { plain "com/example/hetmo/hetmo/tree/StoppingRulesAcceptsPinLaw" (some 0) with
  accessFlags := 49
  interfaces := #[]
  cf := some (fileOf pool1 20 #[] #[{ accessFlags := 1, nameIndex := 5, descriptorIndex := 6, attributes := #[] }, { accessFlags := 9, nameIndex := 24, descriptorIndex := 25, attributes := #[] }] 49 2 #[] #[])
  fields := #[]
  methods := #[k1m0, k1m1]
  instanceTypes := #[]
  staticTypes := #[]
  resolved := Array.replicate 29 none
  statics := none }

def pool2 : Array CpInfo := pool [(1, .methodref 2 3), (0, .class_ 4), (0, .nameAndType 5 6), (0, u "java/lang/Object"), (0, u "<init>"), (0, u "()V"), (12, .methodref 20 21), (0, .class_ 22), (0, .nameAndType 23 24), (0, u "java/lang/Double"), (0, u "isFinite"), (0, u "(D)Z"), (2, .fieldref 28 29), (0, .class_ 30), (0, .nameAndType 31 32), (0, u "com/example/hetmo/hetmo/tree/StoppingRules"), (0, u "_minLeaf"), (0, u "I"), (0, .fieldref 28 34), (0, .nameAndType 35 36), (0, u "_minShare"), (0, u "D"), (0, .fieldref 28 38), (0, .nameAndType 39 36), (0, u "_minImprovement"), (0, .fieldref 28 41), (0, .nameAndType 42 32), (0, u "_maxDepth"), (0, .fieldref 28 44), (0, .nameAndType 45 46), (0, u "_countedApartBy"), (0, u "[D"), (0, .fieldref 28 48), (0, .nameAndType 49 50), (0, u "_shareOfNode"), (0, u "Z"), (0, .fieldref 28 52), (0, .nameAndType 53 50), (0, u "_countingEstimatingRows"), (7, u "(IDDI)V"), (19, u "accepts")] 25

def k2c0 : Code := { maxStack := 4, maxLocals := 7, code := prog_22_method_1_code, exceptionTable := #[], attributes := #[] }
def k2m0 : Method := { name := "<init>", desc := "(IDDI)V", sig := { parameters := [.int, .double, .double, .int], returnType := none }, accessFlags := 1, code := some k2c0 }
def k2c1 : Code := { maxStack := 4, maxLocals := 3, code := prog_22_method_10_code, exceptionTable := #[], attributes := #[] }
def k2m1 : Method := { name := "accepts", desc := "(D)Z", sig := { parameters := [.double], returnType := some .boolean }, accessFlags := 0, code := some k2c1 }
/-- com/example/hetmo/hetmo/tree/StoppingRules -/
def k2 : Class := { plain "com/example/hetmo/hetmo/tree/StoppingRules" (some 0) with
  accessFlags := 49
  interfaces := #[]
  cf := some (fileOf pool2 28 #[] #[{ accessFlags := 1, nameIndex := 5, descriptorIndex := 61, attributes := #[] }, { accessFlags := 0, nameIndex := 81, descriptorIndex := 24, attributes := #[] }] 49 2 #[] #[{ accessFlags := 18, nameIndex := 31, descriptorIndex := 32, attributes := #[] }, { accessFlags := 18, nameIndex := 35, descriptorIndex := 36, attributes := #[] }, { accessFlags := 18, nameIndex := 39, descriptorIndex := 36, attributes := #[] }, { accessFlags := 18, nameIndex := 42, descriptorIndex := 32, attributes := #[] }, { accessFlags := 18, nameIndex := 45, descriptorIndex := 46, attributes := #[] }, { accessFlags := 18, nameIndex := 49, descriptorIndex := 50, attributes := #[] }, { accessFlags := 18, nameIndex := 53, descriptorIndex := 50, attributes := #[] }])
  fields := #[{ name := "_minLeaf", type := .int, accessFlags := 18, slot := 0, constantValue := 0 }, { name := "_minShare", type := .double, accessFlags := 18, slot := 1, constantValue := 0 }, { name := "_minImprovement", type := .double, accessFlags := 18, slot := 2, constantValue := 0 }, { name := "_maxDepth", type := .int, accessFlags := 18, slot := 3, constantValue := 0 }, { name := "_countedApartBy", type := (.array .double), accessFlags := 18, slot := 4, constantValue := 0 }, { name := "_shareOfNode", type := .boolean, accessFlags := 18, slot := 5, constantValue := 0 }, { name := "_countingEstimatingRows", type := .boolean, accessFlags := 18, slot := 6, constantValue := 0 }]
  methods := #[k2m0, k2m1]
  instanceTypes := #[.int, .double, .double, .int, (.array .double), .boolean, .boolean]
  staticTypes := #[]
  resolved := Array.replicate 107 none
  statics := none }

def pool3 : Array CpInfo := pool [(1, .class_ 2), (0, u "java/io/Serializable"), (0, .class_ 4), (0, u "java/lang/Object")] 2

/-- java/io/Serializable -/
def k3 : Class := { plain "java/io/Serializable" (some 0) with
  accessFlags := 1537
  interfaces := #[]
  cf := some (fileOf pool3 1 #[] #[] 1537 3 #[] #[])
  fields := #[]
  methods := #[]
  instanceTypes := #[]
  staticTypes := #[]
  resolved := Array.replicate 7 none
  statics := none }

def pool4 : Array CpInfo := pool [(2, .class_ 4), (1, u "java/lang/Object"), (0, u "<init>"), (0, u "()V"), (1, .class_ 10), (1, u "java/lang/Number"), (2, .class_ 14), (0, u "java/io/Serializable"), (0, u "serialVersionUID"), (0, u "J")] 20

def k4m0 : Method := { name := "<init>", desc := "()V", sig := { parameters := [], returnType := none }, accessFlags := 1, code := none }
/-- java/lang/Number -/
def k4 : Class := { plain "java/lang/Number" (some 0) with
  accessFlags := 1057
  interfaces := #[3]
  cf := some (fileOf pool4 8 #[] #[{ accessFlags := 1, nameIndex := 5, descriptorIndex := 6, attributes := #[] }] 1057 2 #[13] #[{ accessFlags := 26, nameIndex := 15, descriptorIndex := 16, attributes := #[] }])
  fields := #[{ name := "serialVersionUID", type := .long, accessFlags := 26, slot := 0, constantValue := 0 }]
  methods := #[k4m0]
  instanceTypes := #[]
  staticTypes := #[.long]
  resolved := Array.replicate 37 none
  statics := none }

def pool5 : Array CpInfo := pool [(1, .class_ 2), (0, u "java/lang/Comparable"), (0, .class_ 4), (0, u "java/lang/Object")] 7

/-- java/lang/Comparable -/
def k5 : Class := { plain "java/lang/Comparable" (some 0) with
  accessFlags := 1537
  interfaces := #[]
  cf := some (fileOf pool5 1 #[] #[] 1537 3 #[] #[])
  fields := #[]
  methods := #[]
  instanceTypes := #[]
  staticTypes := #[]
  resolved := Array.replicate 12 none
  statics := none }

def pool6 : Array CpInfo := pool [(1, .class_ 2), (0, u "java/lang/constant/Constable"), (0, .class_ 4), (0, u "java/lang/Object")] 6

/-- java/lang/constant/Constable -/
def k6 : Class := { plain "java/lang/constant/Constable" (some 0) with
  accessFlags := 1537
  interfaces := #[]
  cf := some (fileOf pool6 1 #[] #[] 1537 3 #[] #[])
  fields := #[]
  methods := #[]
  instanceTypes := #[]
  staticTypes := #[]
  resolved := Array.replicate 11 none
  statics := none }

def pool7 : Array CpInfo := pool [(1, .class_ 2), (0, u "java/lang/constant/ConstantDesc"), (0, .class_ 4), (0, u "java/lang/Object")] 32

/-- java/lang/constant/ConstantDesc -/
def k7 : Class := { plain "java/lang/constant/ConstantDesc" (some 0) with
  accessFlags := 1537
  interfaces := #[]
  cf := some (fileOf pool7 1 #[] #[] 1537 3 #[] #[])
  fields := #[]
  methods := #[]
  instanceTypes := #[]
  staticTypes := #[]
  resolved := Array.replicate 37 none
  statics := none }

def pool8 : Array CpInfo := pool [(1, .class_ 2), (0, u "java/lang/Double"), (10, u "isFinite"), (0, u "(D)Z"), (8, .class_ 25), (1, u "java/lang/Math"), (12, .methodref 23 39), (0, .nameAndType 40 41), (0, u "abs"), (0, u "(D)D"), (69, .double 9218868437227405311), (2, .class_ 116), (1, u "java/lang/Number"), (3, u "value"), (0, u "D"), (51, u "TYPE"), (0, u "Ljava/lang/Class;"), (0, .class_ 176), (0, u "java/lang/Comparable"), (0, .class_ 178), (0, u "java/lang/constant/Constable"), (0, .class_ 180), (0, u "java/lang/constant/ConstantDesc"), (0, u "POSITIVE_INFINITY"), (3, u "NEGATIVE_INFINITY"), (2, u "NaN"), (2, u "MAX_VALUE"), (0, u "MIN_NORMAL"), (0, u "MIN_VALUE"), (2, u "SIZE"), (0, u "I"), (1, u "PRECISION"), (1, u "MAX_EXPONENT"), (1, u "MIN_EXPONENT"), (1, u "BYTES"), (3, u "serialVersionUID"), (0, u "J")] 79

def k8c0 : Code := { maxStack := 4, maxLocals := 2, code := jdk_117_method_8_code, exceptionTable := #[], attributes := #[] }
def k8m0 : Method := { name := "isFinite", desc := "(D)Z", sig := { parameters := [.double], returnType := some .boolean }, accessFlags := 9, code := some k8c0 }
/-- java/lang/Double -/
def k8 : Class := { plain "java/lang/Double" (some 4) with
  accessFlags := 49
  interfaces := #[5, 6, 7]
  cf := some (fileOf pool8 1 #[] #[{ accessFlags := 9, nameIndex := 13, descriptorIndex := 14, attributes := #[] }] 49 114 #[175, 177, 179] #[{ accessFlags := 25, nameIndex := 181, descriptorIndex := 121, attributes := #[] }, { accessFlags := 25, nameIndex := 185, descriptorIndex := 121, attributes := #[] }, { accessFlags := 25, nameIndex := 188, descriptorIndex := 121, attributes := #[] }, { accessFlags := 25, nameIndex := 191, descriptorIndex := 121, attributes := #[] }, { accessFlags := 25, nameIndex := 192, descriptorIndex := 121, attributes := #[] }, { accessFlags := 25, nameIndex := 193, descriptorIndex := 121, attributes := #[] }, { accessFlags := 25, nameIndex := 196, descriptorIndex := 197, attributes := #[] }, { accessFlags := 25, nameIndex := 199, descriptorIndex := 197, attributes := #[] }, { accessFlags := 25, nameIndex := 201, descriptorIndex := 197, attributes := #[] }, { accessFlags := 25, nameIndex := 203, descriptorIndex := 197, attributes := #[] }, { accessFlags := 25, nameIndex := 205, descriptorIndex := 197, attributes := #[] }, { accessFlags := 25, nameIndex := 173, descriptorIndex := 174, attributes := #[] }, { accessFlags := 18, nameIndex := 120, descriptorIndex := 121, attributes := #[] }, { accessFlags := 26, nameIndex := 209, descriptorIndex := 210, attributes := #[] }])
  fields := #[{ name := "POSITIVE_INFINITY", type := .double, accessFlags := 25, slot := 0, constantValue := 0 }, { name := "NEGATIVE_INFINITY", type := .double, accessFlags := 25, slot := 1, constantValue := 0 }, { name := "NaN", type := .double, accessFlags := 25, slot := 2, constantValue := 0 }, { name := "MAX_VALUE", type := .double, accessFlags := 25, slot := 3, constantValue := 0 }, { name := "MIN_NORMAL", type := .double, accessFlags := 25, slot := 4, constantValue := 0 }, { name := "MIN_VALUE", type := .double, accessFlags := 25, slot := 5, constantValue := 0 }, { name := "SIZE", type := .int, accessFlags := 25, slot := 6, constantValue := 0 }, { name := "PRECISION", type := .int, accessFlags := 25, slot := 7, constantValue := 0 }, { name := "MAX_EXPONENT", type := .int, accessFlags := 25, slot := 8, constantValue := 0 }, { name := "MIN_EXPONENT", type := .int, accessFlags := 25, slot := 9, constantValue := 0 }, { name := "BYTES", type := .int, accessFlags := 25, slot := 10, constantValue := 0 }, { name := "TYPE", type := (.object "java/lang/Class"), accessFlags := 25, slot := 11, constantValue := 0 }, { name := "value", type := .double, accessFlags := 18, slot := 0, constantValue := 0 }, { name := "serialVersionUID", type := .long, accessFlags := 26, slot := 12, constantValue := 0 }]
  methods := #[k8m0]
  instanceTypes := #[.double]
  staticTypes := #[.double, .double, .double, .double, .double, .double, .int, .int, .int, .int, .int, (.object "java/lang/Class"), .long]
  resolved := Array.replicate 290 none
  statics := none }

def pool9 : Array CpInfo := pool [(1, .class_ 2), (0, u "java/lang/Math"), (1, .class_ 6), (1, u "java/lang/Object"), (0, u "<init>"), (0, u "()V"), (5, u "(D)D"), (83, .class_ 100), (1, u "java/lang/Math$RandomNumberGeneratorHolder"), (23, u "abs"), (47, u "negativeZeroFloatBits"), (0, u "J"), (2, u "negativeZeroDoubleBits"), (68, u "$assertionsDisabled"), (0, u "Z"), (91, u "twoToTheDoubleScaleDown"), (0, u "D"), (4, u "twoToTheDoubleScaleUp"), (9, u "E"), (3, u "PI"), (2, u "TAU"), (2, u "DEGREES_TO_RADIANS"), (0, u "RADIANS_TO_DEGREES")] 94

def k9m0 : Method := { name := "<init>", desc := "()V", sig := { parameters := [], returnType := none }, accessFlags := 2, code := none }
def k9c1 : Code := { maxStack := 4, maxLocals := 2, code := jdk_29_method_64_code, exceptionTable := #[], attributes := #[] }
def k9m1 : Method := { name := "abs", desc := "(D)D", sig := { parameters := [.double], returnType := some .double }, accessFlags := 9, code := some k9c1 }
/-- java/lang/Math -/
def k9 : Class := { plain "java/lang/Math" (some 0) with
  accessFlags := 49
  interfaces := #[]
  cf := some (fileOf pool9 1 #[.nestMembers #[98]] #[{ accessFlags := 2, nameIndex := 7, descriptorIndex := 8, attributes := #[] }, { accessFlags := 9, nameIndex := 124, descriptorIndex := 14, attributes := #[] }] 49 4 #[] #[{ accessFlags := 25, nameIndex := 354, descriptorIndex := 339, attributes := #[] }, { accessFlags := 25, nameIndex := 358, descriptorIndex := 339, attributes := #[] }, { accessFlags := 25, nameIndex := 361, descriptorIndex := 339, attributes := #[] }, { accessFlags := 26, nameIndex := 364, descriptorIndex := 339, attributes := #[] }, { accessFlags := 26, nameIndex := 365, descriptorIndex := 339, attributes := #[] }, { accessFlags := 26, nameIndex := 172, descriptorIndex := 173, attributes := #[] }, { accessFlags := 26, nameIndex := 176, descriptorIndex := 173, attributes := #[] }, { accessFlags := 8, nameIndex := 344, descriptorIndex := 339, attributes := #[] }, { accessFlags := 8, nameIndex := 338, descriptorIndex := 339, attributes := #[] }, { accessFlags := 4120, nameIndex := 245, descriptorIndex := 246, attributes := #[] }])
  fields := #[{ name := "E", type := .double, accessFlags := 25, slot := 0, constantValue := 0 }, { name := "PI", type := .double, accessFlags := 25, slot := 1, constantValue := 0 }, { name := "TAU", type := .double, accessFlags := 25, slot := 2, constantValue := 0 }, { name := "DEGREES_TO_RADIANS", type := .double, accessFlags := 26, slot := 3, constantValue := 0 }, { name := "RADIANS_TO_DEGREES", type := .double, accessFlags := 26, slot := 4, constantValue := 0 }, { name := "negativeZeroFloatBits", type := .long, accessFlags := 26, slot := 5, constantValue := 0 }, { name := "negativeZeroDoubleBits", type := .long, accessFlags := 26, slot := 6, constantValue := 0 }, { name := "twoToTheDoubleScaleUp", type := .double, accessFlags := 8, slot := 7, constantValue := 0 }, { name := "twoToTheDoubleScaleDown", type := .double, accessFlags := 8, slot := 8, constantValue := 0 }, { name := "$assertionsDisabled", type := .boolean, accessFlags := 4120, slot := 9, constantValue := 0 }]
  methods := #[k9m0, k9m1]
  instanceTypes := #[]
  staticTypes := #[.double, .double, .double, .double, .double, .long, .long, .double, .double, .boolean]
  resolved := Array.replicate 460 none
  statics := none }

def pool10 : Array CpInfo := pool [(1, u "java/lang/Cloneable"), (0, .class_ 1), (0, u "java/lang/Object"), (0, .class_ 3)] 3

/-- java/lang/Cloneable -/
def k10 : Class := { plain "java/lang/Cloneable" (some 0) with
  accessFlags := 1537
  interfaces := #[]
  cf := some (fileOf pool10 2 #[] #[] 1537 4 #[] #[])
  fields := #[]
  methods := #[]
  instanceTypes := #[]
  staticTypes := #[]
  resolved := Array.replicate 8 none
  statics := none }

/-- the primitive byte -/
def k11 : Class := { plain "byte" none with kind := .primitive 'B', accessFlags := 0x411 }
/-- [B -/
def k12 : Class := { plain "[B" (some 0) with kind := .array 11 .byte, interfaces := #[10, 3], accessFlags := 1041 }

/-- the primitive int -/
def k13 : Class := { plain "int" none with kind := .primitive 'I', accessFlags := 0x411 }
/-- [I -/
def k14 : Class := { plain "[I" (some 0) with kind := .array 13 .int, interfaces := #[10, 3], accessFlags := 1041 }

def heap : Heap := #[]
def classes : Array Class := #[k0, k1, k2, k3, k4, k5, k6, k7, k8, k9, k10, k11, k12, k13, k14]
def interned : List (Array UInt16 × Addr) := []
def slotsUsed : Nat := 0
def theMethod : MethodId := ⟨1, 1⟩
def args0 : Array Value := #[.int 5, .int 7, .int 9, .int 11, .int 13, .int 15]
def aboutOver (below : List Frame) : State where
  vm := { classes := classes, interned := interned.toArray }
  heap := heap
  slotsUsed := slotsUsed
  threads := #[{ frames := .invoking theMethod args0 :: below }]
def below0 : List Frame := [.native { method := ⟨0, 0⟩, args := #[] }]
def about1 : State := aboutOver below0
def p0 : Program := .bare "" "" ""
def e0 : Env := launch0.env 0 0 0
theorem w_frames : about1.frames = Frame.invoking theMethod args0 :: below0 := rfl
set_option maxRecDepth 65536 in
theorem w_args : argsFit about1.vm theMethod args0 = true := by decide +kernel
set_option maxRecDepth 65536 in
theorem w_heap : heapFits about1 = true := by decide +kernel
set_option maxRecDepth 65536 in
theorem w_runnable : about1.curStatus? = some .runnable := by decide +kernel
set_option maxRecDepth 65536 in
theorem w_alone : about1.alone = true := by decide +kernel
set_option maxRecDepth 65536 in
theorem w_named : about1.methodNamed? x = some theMethod := by decide +kernel
set_option maxRecDepth 65536 in
theorem w_hears : about1.hears theMethod below0 = true := by decide +kernel
set_option maxRecDepth 65536 in
theorem w_ripe : about1.ripe theMethod args0 below0 = true := by decide +kernel
theorem w_running : about1.status = .running := rfl
set_option maxRecDepth 65536 in
theorem w_room : about1.hasRoom e0.platform room_1 = true :=
  launch0.hasRoom_least _ room_1 (by decide +kernel) (by decide +kernel) (by decide +kernel) (by decide +kernel) (by decide +kernel) (by decide +kernel)
theorem allAtoms_all (ts : List Jvm.Cond) (a : Array Jvm.Value) (st : Jvm.State) : (allAtoms ts).before a st = ts.all (fun c => c.before a st) := by
  induction ts with
  | nil => rfl
  | cons c t ih =>
    show (Jvm.Cond.and c (allAtoms t)).before a st = _
    rw [Jvm.Cond.before_and, ih, List.all_cons]
def words1 : List Jvm.Cond := Jvm.Cond.code x code maxLocals ret :: tables_1
/-- a 'code' word, met by the world's own term for the bytes: nothing is compared byte by byte -/
theorem code_word {y : MethodName} {bytes : ByteArray} {mx : Nat} {rt : Option FieldType} {a : Array Value} {s : State} {m : MethodId} {meth : Method} {c : Code} (h1 : s.methodNamed? y = some m) (h2 : s.vm.method? m = some meth) (h3 : meth.code = some c) (h4 : c.code = bytes)
    (h5 : (c.maxLocals == mx && c.exceptionTable.isEmpty && decide (c.maxStack ≤ mostOperands) && decide (meth.sig.returnType = rt) && !meth.locks && decide (parseMethodDescriptor y.desc = some meth.sig)) = true) : (Jvm.Cond.code y bytes mx rt).before a s = true := by
  simp only [Bool.and_eq_true, beq_iff_eq, Bool.not_eq_true', decide_eq_true_eq] at h5
  obtain ⟨⟨⟨⟨⟨g1, g2⟩, g3⟩, g4⟩, g5⟩, g6⟩ := h5
  simp [Cond.before, Cond.holds, Cond.value, h1, h2, h3, h4, g1, g2, g3, g4, g5, g6]
def isCode : Jvm.Cond → Bool
  | .code _ _ _ _ => true
  | _ => false
theorem all_split {L : List Jvm.Cond} {P : Jvm.Cond → Bool} (h1 : L.all (fun c => isCode c || P c) = true) (h2 : ∀ c ∈ L.filter isCode, P c = true) : L.all P = true := by
  refine List.all_eq_true.mpr fun c hc => ?_
  have h := List.all_eq_true.mp h1 c hc
  rcases Bool.eq_false_or_eq_true (isCode c) with hi | hi
  · exact h2 c (List.mem_filter.mpr ⟨hc, hi⟩)
  · simpa [hi] using h
set_option maxRecDepth 65536 in
theorem w_c0 : (Jvm.Cond.code x code maxLocals ret).before args0 about1 = true := code_word (m := ⟨1, 1⟩) (meth := k1m1) (c := k1c1) (by decide +kernel) rfl rfl rfl (by decide +kernel)
set_option maxRecDepth 65536 in
theorem w_c1 : (Jvm.Cond.code ({ cls := "com/example/hetmo/hetmo/tree/StoppingRules", name := "<init>", desc := "(IDDI)V" } : Jvm.MethodName) prog_22_method_1_code (7 : Nat) (Option.none : Option Jvm.ClassFile.FieldType)).before args0 about1 = true := code_word (m := ⟨2, 0⟩) (meth := k2m0) (c := k2c0) (by decide +kernel) rfl rfl rfl (by decide +kernel)
set_option maxRecDepth 65536 in
theorem w_c2 : (Jvm.Cond.code ({ cls := "java/lang/Object", name := "<init>", desc := "()V" } : Jvm.MethodName) object_method_1_code (1 : Nat) (Option.none : Option Jvm.ClassFile.FieldType)).before args0 about1 = true := code_word (m := ⟨0, 0⟩) (meth := k0m0) (c := k0c0) (by decide +kernel) rfl rfl rfl (by decide +kernel)
set_option maxRecDepth 65536 in
theorem w_c3 : (Jvm.Cond.code ({ cls := "java/lang/Double", name := "isFinite", desc := "(D)Z" } : Jvm.MethodName) jdk_117_method_8_code (2 : Nat) (Option.some Jvm.ClassFile.FieldType.boolean)).before args0 about1 = true := code_word (m := ⟨8, 0⟩) (meth := k8m0) (c := k8c0) (by decide +kernel) rfl rfl rfl (by decide +kernel)
set_option maxRecDepth 65536 in
theorem w_c4 : (Jvm.Cond.code ({ cls := "java/lang/Math", name := "abs", desc := "(D)D" } : Jvm.MethodName) jdk_29_method_64_code (2 : Nat) (Option.some Jvm.ClassFile.FieldType.double)).before args0 about1 = true := code_word (m := ⟨9, 1⟩) (meth := k9m1) (c := k9c1) (by decide +kernel) rfl rfl rfl (by decide +kernel)
set_option maxRecDepth 65536 in
theorem w_c5 : (Jvm.Cond.code ({ cls := "com/example/hetmo/hetmo/tree/StoppingRules", name := "accepts", desc := "(D)Z" } : Jvm.MethodName) prog_22_method_10_code (3 : Nat) (Option.some Jvm.ClassFile.FieldType.boolean)).before args0 about1 = true := code_word (m := ⟨2, 1⟩) (meth := k2m1) (c := k2c1) (by decide +kernel) rfl rfl rfl (by decide +kernel)
def codes1 : List Jvm.Cond := [Jvm.Cond.code x code maxLocals ret, Jvm.Cond.code ({ cls := "com/example/hetmo/hetmo/tree/StoppingRules", name := "<init>", desc := "(IDDI)V" } : Jvm.MethodName) prog_22_method_1_code (7 : Nat) (Option.none : Option Jvm.ClassFile.FieldType), Jvm.Cond.code ({ cls := "java/lang/Object", name := "<init>", desc := "()V" } : Jvm.MethodName) object_method_1_code (1 : Nat) (Option.none : Option Jvm.ClassFile.FieldType), Jvm.Cond.code ({ cls := "java/lang/Double", name := "isFinite", desc := "(D)Z" } : Jvm.MethodName) jdk_117_method_8_code (2 : Nat) (Option.some Jvm.ClassFile.FieldType.boolean), Jvm.Cond.code ({ cls := "java/lang/Math", name := "abs", desc := "(D)D" } : Jvm.MethodName) jdk_29_method_64_code (2 : Nat) (Option.some Jvm.ClassFile.FieldType.double), Jvm.Cond.code ({ cls := "com/example/hetmo/hetmo/tree/StoppingRules", name := "accepts", desc := "(D)Z" } : Jvm.MethodName) prog_22_method_10_code (3 : Nat) (Option.some Jvm.ClassFile.FieldType.boolean)]
set_option maxRecDepth 65536 in
theorem codes_eq : words1.filter isCode = codes1 := rfl
theorem w_codes : ∀ c ∈ words1.filter isCode, c.before args0 about1 = true := by
  rw [codes_eq]
  intro c hc
  simp only [codes1, List.mem_cons, List.not_mem_nil, or_false] at hc
  rcases hc with rfl | rfl | rfl | rfl | rfl | rfl
  · exact w_c0
  · exact w_c1
  · exact w_c2
  · exact w_c3
  · exact w_c4
  · exact w_c5
set_option maxRecDepth 65536 in
theorem w_t1 : (words1.take 24).all (fun c => isCode c || c.before args0 about1) = true := by decide +kernel
set_option maxRecDepth 65536 in
theorem w_t2 : (words1.drop 24).all (fun c => isCode c || c.before args0 about1) = true := by decide +kernel
theorem w_tables : (allAtoms (Jvm.Cond.code x code maxLocals ret :: tables_1)).before args0 about1 = true := by
  rw [allAtoms_all]
  show words1.all (fun c => c.before args0 about1) = true
  refine all_split ?_ w_codes
  rw [← List.take_append_drop 24 words1, List.all_append, w_t1, w_t2]
  rfl
set_option maxRecDepth 65536 in
theorem w_case : (Jvm.Cond.and given_1 narrow_1).before args0 about1 = true := by decide +kernel
theorem w_applies : (headSpec (Jvm.Cond.code x code maxLocals ret :: tables_1) room_1).applies x e0.platform about1 = true :=
  (Spec.applies_iff w_frames).mpr ⟨w_running, w_runnable, w_alone, w_named, w_hears, w_ripe, w_room, w_tables⟩
theorem atStart : AtStart classFile x code maxLocals ret World_1 tables_1 room_1 Calls_1 rest_1 Pre_1 launch0 p0 e0 about1 theMethod args0 below0 :=
  ⟨lists_1, trivial, launch0.admits_env _ _ _, launch0.least_env, fairChoices_fair.cas, fairChoices_fair.clock, w_frames, w_args, w_heap, w_applies, trivial, trivial, w_case⟩
end start1
theorem witness_1 : WitnessClaimed_1 := ⟨start1.p0, start1.e0, start1.about1, start1.theMethod, start1.args0, start1.below0, start1.atStart⟩
end Jvm.Pilot.@@N@@
