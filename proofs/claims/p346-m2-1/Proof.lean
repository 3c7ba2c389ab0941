import JvmDerived
import JvmDerived.Pilot.@@N@@Statement
import JvmDerived.Pilot.@@N@@Code
set_option linter.unusedVariables false
set_option linter.unusedSimpArgs false
namespace Jvm.OwnFP
open Jvm.FP Jvm.FP.Core
/-- a double's value in units of the least double, 2^-1074 -/
abbrev Zv (a : UInt64) : Int := zval b64 (val64 a)
theorem fin_ne {a : UInt64} (h : DFin a) : val64 a ≠ .nan := by
  obtain ⟨s, c, q, h⟩ := h; rw [h]; exact Datum.noConfusion
theorem mul_ne {a b : UInt64} (ha : DFin a) (hb : DFin b) : val64 (FP.dmul a b) ≠ .nan :=
  Jvm.Free.Fl.val64_no.mp (Jvm.Free.Fl.dmul_out (Jvm.Free.Fl.fin64_core.mpr ha) (Jvm.Free.Fl.fin64_core.mpr hb))
theorem add_ne {a b : UInt64} (ha : DFin a) (hb : DFin b) : val64 (FP.dadd a b) ≠ .nan :=
  Jvm.Free.Fl.val64_no.mp (Jvm.Free.Fl.dadd_out (Jvm.Free.Fl.fin64_core.mpr ha).noNaN (Jvm.Free.Fl.fin64_core.mpr hb))
theorem sub_ne {a b : UInt64} (ha : DFin a) (hb : DFin b) : val64 (FP.dsub a b) ≠ .nan :=
  Jvm.Free.Fl.val64_no.mp (Jvm.Free.Fl.dsub_out (Jvm.Free.Fl.fin64_core.mpr ha).noNaN (Jvm.Free.Fl.fin64_core.mpr hb))
theorem fin_of {r U V : UInt64} (hr : val64 r ≠ .nan) (hU : DFin U) (hV : DFin V) (h1 : Zv U ≤ Zv r) (h2 : Zv r ≤ Zv V) : DFin r := by
  have uU := hU.zval_lt
  have uV := hV.zval_lt
  have aU : (Zv U).natAbs = zmag b64 (val64 U) := natAbs_signed _ _
  have aV : (Zv V).natAbs = zmag b64 (val64 V) := natAbs_signed _ _
  have ar : (Zv r).natAbs = zmag b64 (val64 r) := natAbs_signed _ _
  cases e : val64 r with
  | nan => exact absurd e hr
  | fin s c q => exact ⟨s, c, q, e⟩
  | inf s =>
    have e2 : zmag b64 (val64 r) = b64.tails * 2 ^ (b64.exps - 2) := by rw [e]; rfl
    rw [e2] at ar
    generalize b64.tails * 2 ^ (b64.exps - 2) = top at *
    omega
theorem dmul_le {a b V : UInt64} (ha : DFin a) (hb : DFin b) (hV : val64 V ≠ .nan) (h : Zv a * Zv b ≤ Zv V * (one64 : Int)) : Zv (FP.dmul a b) ≤ Zv V := by
  obtain ⟨s, c, q, ea⟩ := ha
  obtain ⟨t, d, r, eb⟩ := hb
  have fa := val64_fits a
  have fb := val64_fits b
  unfold Zv at h ⊢
  rw [ea] at fa h
  rw [eb] at fb h
  obtain ⟨p1, p2, p3⟩ := product_units fa fb
  rw [val64_dmul, ea, eb, p1]
  have hq := qmin_neg good_b64
  refine zval_round_le good_b64 (val64_fits V) hV (e0 := 2 * b64.qmin) (by omega) p2 ?_
  rw [p3, signed_xor, show (b64.qmin - 2 * b64.qmin).toNat = (-b64.qmin).toNat by omega, pow_qmin64]
  exact h
theorem dmul_ge {a b V : UInt64} (ha : DFin a) (hb : DFin b) (hV : val64 V ≠ .nan) (h : Zv V * (one64 : Int) ≤ Zv a * Zv b) : Zv V ≤ Zv (FP.dmul a b) := by
  obtain ⟨s, c, q, ea⟩ := ha
  obtain ⟨t, d, r, eb⟩ := hb
  have fa := val64_fits a
  have fb := val64_fits b
  unfold Zv at h ⊢
  rw [ea] at fa h
  rw [eb] at fb h
  obtain ⟨p1, p2, p3⟩ := product_units fa fb
  rw [val64_dmul, ea, eb, p1]
  have hq := qmin_neg good_b64
  refine zval_round_ge good_b64 (val64_fits V) hV (e0 := 2 * b64.qmin) (by omega) p2 ?_
  rw [p3, signed_xor, show (b64.qmin - 2 * b64.qmin).toNat = (-b64.qmin).toNat by omega, pow_qmin64]
  exact h
theorem dadd_le {a b V : UInt64} (ha : DFin a) (hb : DFin b) (hV : val64 V ≠ .nan) (h : Zv a + Zv b ≤ Zv V) : Zv (FP.dadd a b) ≤ Zv V := by
  unfold Zv at h ⊢
  rw [val64_dadd]; exact sum_le good_b64 ha hb (val64_fits a) (val64_fits b) (val64_fits V) hV h
theorem dadd_ge {a b V : UInt64} (ha : DFin a) (hb : DFin b) (hV : val64 V ≠ .nan) (h : Zv V ≤ Zv a + Zv b) : Zv V ≤ Zv (FP.dadd a b) := by
  unfold Zv at h ⊢
  rw [val64_dadd]; exact sum_ge good_b64 ha hb (val64_fits a) (val64_fits b) (val64_fits V) hV h
theorem neg_fin {a : UInt64} (h : DFin a) : DFin (FP.dneg a) := by
  obtain ⟨s, c, q, h⟩ := h
  exact ⟨!s, c, q, by rw [FP.val64_dneg, h]; rfl⟩
theorem Zv_neg (a : UInt64) : Zv (FP.dneg a) = -Zv a := by unfold Zv; rw [FP.val64_dneg, zval_negate]
theorem cneg_fin {a : UInt64} (h : DFin a) : DFin (Core.dneg a) := by
  obtain ⟨s, c, q, h⟩ := h
  exact ⟨!s, c, q, by rw [Core.val64_dneg, h]; rfl⟩
theorem Zv_cneg (a : UInt64) : Zv (Core.dneg a) = -Zv a := by unfold Zv; rw [Core.val64_dneg, zval_negate]
theorem dsub_le {a b V : UInt64} (ha : DFin a) (hb : DFin b) (hV : val64 V ≠ .nan) (h : Zv a - Zv b ≤ Zv V) : Zv (FP.dsub a b) ≤ Zv V := by
  show Zv (Core.dsub a b) ≤ _
  rw [Core.dsub_eq]; exact dadd_le ha (cneg_fin hb) hV (by rw [Zv_cneg]; omega)
theorem dsub_ge {a b V : UInt64} (ha : DFin a) (hb : DFin b) (hV : val64 V ≠ .nan) (h : Zv V ≤ Zv a - Zv b) : Zv V ≤ Zv (FP.dsub a b) := by
  show _ ≤ Zv (Core.dsub a b)
  rw [Core.dsub_eq]; exact dadd_ge ha (cneg_fin hb) hV (by rw [Zv_cneg]; omega)
/-- where the exact value is a double's, it is the result's -/
theorem dmul_eq {a b V : UInt64} (ha : DFin a) (hb : DFin b) (hV : DFin V) (h : Zv a * Zv b = Zv V * (one64 : Int)) : DFin (FP.dmul a b) ∧ Zv (FP.dmul a b) = Zv V := by
  have h1 := dmul_le ha hb (fin_ne hV) (Int.le_of_eq h)
  have h2 := dmul_ge ha hb (fin_ne hV) (Int.le_of_eq h.symm)
  exact ⟨fin_of (mul_ne ha hb) hV hV h2 h1, Int.le_antisymm h1 h2⟩
theorem dadd_eq {a b V : UInt64} (ha : DFin a) (hb : DFin b) (hV : DFin V) (h : Zv a + Zv b = Zv V) : DFin (FP.dadd a b) ∧ Zv (FP.dadd a b) = Zv V := by
  have h1 := dadd_le ha hb (fin_ne hV) (Int.le_of_eq h)
  have h2 := dadd_ge ha hb (fin_ne hV) (Int.le_of_eq h.symm)
  exact ⟨fin_of (add_ne ha hb) hV hV h2 h1, Int.le_antisymm h1 h2⟩
theorem dsub_eq {a b V : UInt64} (ha : DFin a) (hb : DFin b) (hV : DFin V) (h : Zv a - Zv b = Zv V) : DFin (FP.dsub a b) ∧ Zv (FP.dsub a b) = Zv V := by
  have h1 := dsub_le ha hb (fin_ne hV) (Int.le_of_eq h)
  have h2 := dsub_ge ha hb (fin_ne hV) (Int.le_of_eq h.symm)
  exact ⟨fin_of (sub_ne ha hb) hV hV h2 h1, Int.le_antisymm h1 h2⟩
theorem signed_self (N : Int) (k : Nat) : signed (decide (N < 0)) (N.natAbs * k) = N * (k : Int) := by
  rw [signed_mul]
  congr 1
  unfold signed
  by_cases h : N < 0 <;> simp [h] <;> omega
/-- every N * 2^k units, N of up to 53 digits, is a double -/
theorem rep (N : Int) (k : Nat) (hN : N.natAbs < 2 ^ 53) (hk : k ≤ 2045) : ∃ V, DFin V ∧ Zv V = N * ((2 ^ k : Nat) : Int) := by
  have q1 := qmin_b64
  have q2 : b64.qmax = 971 := by decide
  obtain ⟨c', q', h1, h2⟩ := round_exact good_b64 (decide (N < 0)) (c := N.natAbs) (q := (k : Int) - 1074) hN (by omega) (by omega)
  have hv : val64 (of64 (round b64 (.fin (decide (N < 0)) N.natAbs ((k : Int) - 1074)))) = .fin (decide (N < 0)) c' q' := by
    rw [val64_of64 (round_fits good_b64 _), h1]
  refine ⟨_, ⟨_, _, _, hv⟩, ?_⟩
  unfold Zv
  rw [hv]
  show signed (decide (N < 0)) (inUnits c' q' b64.qmin) = _
  rw [h2, q1]
  unfold inUnits
  rw [show ((k : Int) - 1074 - -1074).toNat = k by omega]
  exact signed_self N _
/-- the double a is N * 2^(k - 1074) -/
def Val (a : UInt64) (N : Int) (k : Nat) : Prop := DFin a ∧ Zv a = N * ((2 ^ k : Nat) : Int)
theorem one_pow : (one64 : Int) = ((2 ^ 1074 : Nat) : Int) := rfl
theorem Val.of_int {i : Int} {a : UInt64} (h : DInt i a) : Val a i 1074 := by
  refine ⟨?_, (DInt_zval h).trans (by rw [one_pow])⟩
  unfold DInt at h
  cases e : val64 a with
  | nan => rw [e] at h; exact h.elim
  | inf s => rw [e] at h; exact h.elim
  | fin s c q => exact ⟨s, c, q, e⟩
theorem Val.i2d (n : Int32) : Val (FP.i2d n) n.toInt 1074 := Val.of_int (i2d_int n)
theorem Val.l2d {n : Int64} (h : n.toInt.natAbs ≤ 2 ^ 53) : Val (FP.l2d n) n.toInt 1074 := Val.of_int (l2d_int h)
theorem Val.neg {a : UInt64} {N : Int} {k : Nat} (h : Val a N k) : Val (FP.dneg a) (-N) k := ⟨neg_fin h.1, by rw [Zv_neg, h.2, Int.neg_mul]⟩
theorem pow_cast (k j : Nat) : ((2 ^ (k + j) : Nat) : Int) = ((2 ^ k : Nat) : Int) * ((2 ^ j : Nat) : Int) := by
  rw [Nat.pow_add, Int.natCast_mul]
theorem Val.mul {a b : UInt64} {N M : Int} {k j i : Nat} (ha : Val a N k) (hb : Val b M j) (hN : (N * M).natAbs < 2 ^ 53) (hi : k + j = i + 1074) (hk : i ≤ 2045) : Val (FP.dmul a b) (N * M) i := by
  obtain ⟨V, fV, zV⟩ := rep (N * M) i hN hk
  obtain ⟨h1, h2⟩ := dmul_eq ha.1 hb.1 fV (by
    rw [ha.2, hb.2, zV, one_pow, Int.mul_assoc (N * M), ← pow_cast, ← hi, pow_cast, Int.mul_assoc N M, Int.mul_assoc N, Int.mul_left_comm _ M])
  exact ⟨h1, h2.trans zV⟩
theorem Val.add {a b : UInt64} {N M : Int} {k : Nat} (ha : Val a N k) (hb : Val b M k) (hN : (N + M).natAbs < 2 ^ 53) (hk : k ≤ 2045) : Val (FP.dadd a b) (N + M) k := by
  obtain ⟨V, fV, zV⟩ := rep (N + M) k hN hk
  obtain ⟨h1, h2⟩ := dadd_eq ha.1 hb.1 fV (by rw [ha.2, hb.2, zV, Int.add_mul])
  exact ⟨h1, h2.trans zV⟩
theorem Val.sub {a b : UInt64} {N M : Int} {k : Nat} (ha : Val a N k) (hb : Val b M k) (hN : (N - M).natAbs < 2 ^ 53) (hk : k ≤ 2045) : Val (FP.dsub a b) (N - M) k := by
  obtain ⟨V, fV, zV⟩ := rep (N - M) k hN hk
  obtain ⟨h1, h2⟩ := dsub_eq ha.1 hb.1 fV (by rw [ha.2, hb.2, zV, Int.sub_mul])
  exact ⟨h1, h2.trans zV⟩
theorem pow_pos' (k : Nat) : (0 : Int) < ((2 ^ k : Nat) : Int) := by have := Nat.two_pow_pos k; omega
theorem Val.cmp {a b : UInt64} {N M : Int} {k : Nat} (ha : Val a N k) (hb : Val b M k) : FP.dcmp a b = some (compare N M) := by
  have h : FP.dcmp a b = some (compare (Zv a) (Zv b)) := dcmp_zval (fin_ne ha.1) (fin_ne hb.1)
  rw [h, ha.2, hb.2, compare_mul_pos _ _ _ (pow_pos' k)]
theorem Val.scale {a : UInt64} {N : Int} {k : Nat} (j : Nat) (ha : Val a N (k + j)) : Val a (N * ((2 ^ j : Nat) : Int)) k :=
  ⟨ha.1, by rw [ha.2, pow_cast, Int.mul_assoc, Int.mul_comm ((2 ^ k : Nat) : Int)]⟩
theorem lt_iff {a b : UInt64} (ha : DFin a) (hb : DFin b) : FP.dcmp a b = some .lt ↔ Zv a < Zv b :=
  ⟨fun h => (dcmp_lt.mp h).2.2, fun h => dcmp_lt.mpr ⟨fin_ne ha, fin_ne hb, h⟩⟩
theorem eq_iff {a b : UInt64} (ha : DFin a) (hb : DFin b) : FP.dcmp a b = some .eq ↔ Zv a = Zv b :=
  ⟨fun h => (dcmp_eq.mp h).2.2, fun h => dcmp_eq.mpr ⟨fin_ne ha, fin_ne hb, h⟩⟩
theorem le_iff {a b : UInt64} (ha : DFin a) (hb : DFin b) : (FP.dcmp a b = some .lt ∨ FP.dcmp a b = some .eq) ↔ Zv a ≤ Zv b := by
  rw [lt_iff ha hb, eq_iff ha hb]; omega
theorem dfin_const {a : UInt64} (h : a.toNat % 9223372036854775808 < 9218868437227405312) : DFin a := (Core.fin_bits a).mpr h
end Jvm.OwnFP
namespace Jvm.Pilot.@@N@@
open Jvm Jvm.ClassFile Sem Op Lib Jvm.Free Jvm.Stand Jvm.LawKit Jvm.RoadKit Bundle Jvm.Pilot.@@N@@.Jvm.D
abbrev Go (p : Program) (e : Env) (below : List Frame) (t T : State) (m : MethodId) (pc : Nat) (ls : Array Slot) (st : List Value) : Prop := Steps p.tables e below (T.setTop (mkF m pc ls st)) t
/-- from A the run comes to B -/
def Goes (p : Program) (e : Env) (below : List Frame) (A B : State) : Prop := ∀ t, Steps p.tables e below B t → Steps p.tables e below A t
abbrev dLt (x y : UInt64) : Prop := FP.dcmp x y = some .lt
abbrev dEq (x y : UInt64) : Prop := FP.dcmp x y = some .eq
abbrev dLe (x y : UInt64) : Prop := FP.dcmp x y = some .lt ∨ FP.dcmp x y = some .eq
abbrev fLt (x y : UInt32) : Prop := FP.fcmp x y = some .lt
abbrev fEq (x y : UInt32) : Prop := FP.fcmp x y = some .eq
abbrev fLe (x y : UInt32) : Prop := FP.fcmp x y = some .lt ∨ FP.fcmp x y = some .eq
theorem Sta.keepO {Z : State} {h h' : Heap} {C n d : String} {v : Value} {ws : List Addr} (F : Sta Z h C n d v) (K : Keep h h' ws) (q : ∀ x ∈ ws, ∀ cell : Cell, h[x]? = some cell → cell.vm.isStatics = false) : Sta Z h' C n d v := by
  obtain ⟨cf, i, k, f, st, cell, h1, h2, h3, h4, h5, h6, h7⟩ := F
  refine ⟨cf, i, k, f, st, cell, h1, h2, h3, h4, K.2.1 _ _ h5 fun hm => ?_, h6, h7⟩
  rw [q _ hm _ h5] at h6; cases h6
theorem own_swap (o : Option Ordering) : o.map Ordering.swap = some .lt ↔ o = some .gt := by rcases o with _ | (_ | _ | _) <;> simp [Ordering.swap]
theorem own_swapE (o : Option Ordering) : o.map Ordering.swap = some .eq ↔ o = some .eq := by rcases o with _ | (_ | _ | _) <;> simp [Ordering.swap]
theorem own_dgt (x y : UInt64) : dLt y x ↔ FP.dcmp x y = some .gt := by
  show FP.Core.dcmp y x = some .lt ↔ FP.Core.dcmp x y = some .gt
  rw [FP.Core.dcmp_swap x y]; exact own_swap _
theorem own_dge (x y : UInt64) : dLe y x ↔ (FP.dcmp x y = some .gt ∨ FP.dcmp x y = some .eq) := by
  show (FP.Core.dcmp y x = some .lt ∨ FP.Core.dcmp y x = some .eq) ↔ (FP.Core.dcmp x y = some .gt ∨ FP.Core.dcmp x y = some .eq)
  rw [FP.Core.dcmp_swap x y, own_swap, own_swapE]
theorem own_fgt (x y : UInt32) : fLt y x ↔ FP.fcmp x y = some .gt := by
  show FP.Core.fcmp y x = some .lt ↔ FP.Core.fcmp x y = some .gt
  rw [FP.Core.fcmp_swap x y]; exact own_swap _
theorem own_fge (x y : UInt32) : fLe y x ↔ (FP.fcmp x y = some .gt ∨ FP.fcmp x y = some .eq) := by
  show (FP.Core.fcmp y x = some .lt ∨ FP.Core.fcmp y x = some .eq) ↔ (FP.Core.fcmp x y = some .gt ∨ FP.Core.fcmp x y = some .eq)
  rw [FP.Core.fcmp_swap x y, own_swap, own_swapE]
theorem own_c (o : Option Ordering) :
    (o = some .lt → ifCond.holds .ge (cmpValue o .g) = false ∧ ifCond.holds .lt (cmpValue o .g) = true) ∧
    (¬ o = some .lt → ifCond.holds .ge (cmpValue o .g) = true ∧ ifCond.holds .lt (cmpValue o .g) = false) ∧
    ((o = some .lt ∨ o = some .eq) → ifCond.holds .gt (cmpValue o .g) = false ∧ ifCond.holds .le (cmpValue o .g) = true) ∧
    (¬ (o = some .lt ∨ o = some .eq) → ifCond.holds .gt (cmpValue o .g) = true ∧ ifCond.holds .le (cmpValue o .g) = false) ∧
    (o = some .gt → ifCond.holds .le (cmpValue o .l) = false ∧ ifCond.holds .gt (cmpValue o .l) = true) ∧
    (¬ o = some .gt → ifCond.holds .le (cmpValue o .l) = true ∧ ifCond.holds .gt (cmpValue o .l) = false) ∧
    ((o = some .gt ∨ o = some .eq) → ifCond.holds .lt (cmpValue o .l) = false ∧ ifCond.holds .ge (cmpValue o .l) = true) ∧
    (¬ (o = some .gt ∨ o = some .eq) → ifCond.holds .lt (cmpValue o .l) = true ∧ ifCond.holds .ge (cmpValue o .l) = false) ∧
    (o = some .eq → ∀ q, ifCond.holds .ne (cmpValue o q) = false ∧ ifCond.holds .eq (cmpValue o q) = true) ∧
    (¬ o = some .eq → ∀ q, ifCond.holds .ne (cmpValue o q) = true ∧ ifCond.holds .eq (cmpValue o q) = false) := by
  refine ⟨?_, ?_, ?_, ?_, ?_, ?_, ?_, ?_, ?_, ?_⟩ <;> rcases o with _ | (_ | _ | _) <;> first | (intro h; exact ⟨by decide, by decide⟩) | (intro h q; cases q <;> exact ⟨by decide, by decide⟩) | (intro h; simp at h; done) | (intro h; exact absurd rfl h) | (intro h; exact absurd (Or.inl rfl) h) | (intro h; exact absurd (Or.inr rfl) h)
theorem dc_g_ge_f {x y : UInt64} (h : dLt x y) : ifCond.holds .ge (cmpValue (FP.dcmp x y) .g) = false := ((own_c _).1 h).1
theorem dc_g_ge_t {x y : UInt64} (h : ¬ dLt x y) : ifCond.holds .ge (cmpValue (FP.dcmp x y) .g) = true := ((own_c _).2.1 h).1
theorem dc_g_lt_t {x y : UInt64} (h : dLt x y) : ifCond.holds .lt (cmpValue (FP.dcmp x y) .g) = true := ((own_c _).1 h).2
theorem dc_g_lt_f {x y : UInt64} (h : ¬ dLt x y) : ifCond.holds .lt (cmpValue (FP.dcmp x y) .g) = false := ((own_c _).2.1 h).2
theorem dc_g_gt_f {x y : UInt64} (h : dLe x y) : ifCond.holds .gt (cmpValue (FP.dcmp x y) .g) = false := ((own_c _).2.2.1 h).1
theorem dc_g_gt_t {x y : UInt64} (h : ¬ dLe x y) : ifCond.holds .gt (cmpValue (FP.dcmp x y) .g) = true := ((own_c _).2.2.2.1 h).1
theorem dc_g_le_t {x y : UInt64} (h : dLe x y) : ifCond.holds .le (cmpValue (FP.dcmp x y) .g) = true := ((own_c _).2.2.1 h).2
theorem dc_g_le_f {x y : UInt64} (h : ¬ dLe x y) : ifCond.holds .le (cmpValue (FP.dcmp x y) .g) = false := ((own_c _).2.2.2.1 h).2
theorem dc_l_le_f {x y : UInt64} (h : dLt y x) : ifCond.holds .le (cmpValue (FP.dcmp x y) .l) = false := ((own_c _).2.2.2.2.1 ((own_dgt x y).mp h)).1
theorem dc_l_le_t {x y : UInt64} (h : ¬ dLt y x) : ifCond.holds .le (cmpValue (FP.dcmp x y) .l) = true := ((own_c _).2.2.2.2.2.1 (fun q => h ((own_dgt x y).mpr q))).1
theorem dc_l_gt_t {x y : UInt64} (h : dLt y x) : ifCond.holds .gt (cmpValue (FP.dcmp x y) .l) = true := ((own_c _).2.2.2.2.1 ((own_dgt x y).mp h)).2
theorem dc_l_gt_f {x y : UInt64} (h : ¬ dLt y x) : ifCond.holds .gt (cmpValue (FP.dcmp x y) .l) = false := ((own_c _).2.2.2.2.2.1 (fun q => h ((own_dgt x y).mpr q))).2
theorem dc_l_lt_f {x y : UInt64} (h : dLe y x) : ifCond.holds .lt (cmpValue (FP.dcmp x y) .l) = false := ((own_c _).2.2.2.2.2.2.1 ((own_dge x y).mp h)).1
theorem dc_l_lt_t {x y : UInt64} (h : ¬ dLe y x) : ifCond.holds .lt (cmpValue (FP.dcmp x y) .l) = true := ((own_c _).2.2.2.2.2.2.2.1 (fun q => h ((own_dge x y).mpr q))).1
theorem dc_l_ge_t {x y : UInt64} (h : dLe y x) : ifCond.holds .ge (cmpValue (FP.dcmp x y) .l) = true := ((own_c _).2.2.2.2.2.2.1 ((own_dge x y).mp h)).2
theorem dc_l_ge_f {x y : UInt64} (h : ¬ dLe y x) : ifCond.holds .ge (cmpValue (FP.dcmp x y) .l) = false := ((own_c _).2.2.2.2.2.2.2.1 (fun q => h ((own_dge x y).mpr q))).2
theorem dc_l_ne_f {x y : UInt64} (h : dEq x y) : ifCond.holds .ne (cmpValue (FP.dcmp x y) .l) = false := ((own_c _).2.2.2.2.2.2.2.2.1 h _).1
theorem dc_l_ne_t {x y : UInt64} (h : ¬ dEq x y) : ifCond.holds .ne (cmpValue (FP.dcmp x y) .l) = true := ((own_c _).2.2.2.2.2.2.2.2.2 h _).1
theorem dc_l_eq_t {x y : UInt64} (h : dEq x y) : ifCond.holds .eq (cmpValue (FP.dcmp x y) .l) = true := ((own_c _).2.2.2.2.2.2.2.2.1 h _).2
theorem dc_l_eq_f {x y : UInt64} (h : ¬ dEq x y) : ifCond.holds .eq (cmpValue (FP.dcmp x y) .l) = false := ((own_c _).2.2.2.2.2.2.2.2.2 h _).2
theorem dc_g_ne_f {x y : UInt64} (h : dEq x y) : ifCond.holds .ne (cmpValue (FP.dcmp x y) .g) = false := ((own_c _).2.2.2.2.2.2.2.2.1 h _).1
theorem dc_g_ne_t {x y : UInt64} (h : ¬ dEq x y) : ifCond.holds .ne (cmpValue (FP.dcmp x y) .g) = true := ((own_c _).2.2.2.2.2.2.2.2.2 h _).1
theorem dc_g_eq_t {x y : UInt64} (h : dEq x y) : ifCond.holds .eq (cmpValue (FP.dcmp x y) .g) = true := ((own_c _).2.2.2.2.2.2.2.2.1 h _).2
theorem dc_g_eq_f {x y : UInt64} (h : ¬ dEq x y) : ifCond.holds .eq (cmpValue (FP.dcmp x y) .g) = false := ((own_c _).2.2.2.2.2.2.2.2.2 h _).2
theorem fc_g_ge_f {x y : UInt32} (h : fLt x y) : ifCond.holds .ge (cmpValue (FP.fcmp x y) .g) = false := ((own_c _).1 h).1
theorem fc_g_ge_t {x y : UInt32} (h : ¬ fLt x y) : ifCond.holds .ge (cmpValue (FP.fcmp x y) .g) = true := ((own_c _).2.1 h).1
theorem fc_g_lt_t {x y : UInt32} (h : fLt x y) : ifCond.holds .lt (cmpValue (FP.fcmp x y) .g) = true := ((own_c _).1 h).2
theorem fc_g_lt_f {x y : UInt32} (h : ¬ fLt x y) : ifCond.holds .lt (cmpValue (FP.fcmp x y) .g) = false := ((own_c _).2.1 h).2
theorem fc_g_gt_f {x y : UInt32} (h : fLe x y) : ifCond.holds .gt (cmpValue (FP.fcmp x y) .g) = false := ((own_c _).2.2.1 h).1
theorem fc_g_gt_t {x y : UInt32} (h : ¬ fLe x y) : ifCond.holds .gt (cmpValue (FP.fcmp x y) .g) = true := ((own_c _).2.2.2.1 h).1
theorem fc_g_le_t {x y : UInt32} (h : fLe x y) : ifCond.holds .le (cmpValue (FP.fcmp x y) .g) = true := ((own_c _).2.2.1 h).2
theorem fc_g_le_f {x y : UInt32} (h : ¬ fLe x y) : ifCond.holds .le (cmpValue (FP.fcmp x y) .g) = false := ((own_c _).2.2.2.1 h).2
theorem fc_l_le_f {x y : UInt32} (h : fLt y x) : ifCond.holds .le (cmpValue (FP.fcmp x y) .l) = false := ((own_c _).2.2.2.2.1 ((own_fgt x y).mp h)).1
theorem fc_l_le_t {x y : UInt32} (h : ¬ fLt y x) : ifCond.holds .le (cmpValue (FP.fcmp x y) .l) = true := ((own_c _).2.2.2.2.2.1 (fun q => h ((own_fgt x y).mpr q))).1
theorem fc_l_gt_t {x y : UInt32} (h : fLt y x) : ifCond.holds .gt (cmpValue (FP.fcmp x y) .l) = true := ((own_c _).2.2.2.2.1 ((own_fgt x y).mp h)).2
theorem fc_l_gt_f {x y : UInt32} (h : ¬ fLt y x) : ifCond.holds .gt (cmpValue (FP.fcmp x y) .l) = false := ((own_c _).2.2.2.2.2.1 (fun q => h ((own_fgt x y).mpr q))).2
theorem fc_l_lt_f {x y : UInt32} (h : fLe y x) : ifCond.holds .lt (cmpValue (FP.fcmp x y) .l) = false := ((own_c _).2.2.2.2.2.2.1 ((own_fge x y).mp h)).1
theorem fc_l_lt_t {x y : UInt32} (h : ¬ fLe y x) : ifCond.holds .lt (cmpValue (FP.fcmp x y) .l) = true := ((own_c _).2.2.2.2.2.2.2.1 (fun q => h ((own_fge x y).mpr q))).1
theorem fc_l_ge_t {x y : UInt32} (h : fLe y x) : ifCond.holds .ge (cmpValue (FP.fcmp x y) .l) = true := ((own_c _).2.2.2.2.2.2.1 ((own_fge x y).mp h)).2
theorem fc_l_ge_f {x y : UInt32} (h : ¬ fLe y x) : ifCond.holds .ge (cmpValue (FP.fcmp x y) .l) = false := ((own_c _).2.2.2.2.2.2.2.1 (fun q => h ((own_fge x y).mpr q))).2
theorem fc_l_ne_f {x y : UInt32} (h : fEq x y) : ifCond.holds .ne (cmpValue (FP.fcmp x y) .l) = false := ((own_c _).2.2.2.2.2.2.2.2.1 h _).1
theorem fc_l_ne_t {x y : UInt32} (h : ¬ fEq x y) : ifCond.holds .ne (cmpValue (FP.fcmp x y) .l) = true := ((own_c _).2.2.2.2.2.2.2.2.2 h _).1
theorem fc_l_eq_t {x y : UInt32} (h : fEq x y) : ifCond.holds .eq (cmpValue (FP.fcmp x y) .l) = true := ((own_c _).2.2.2.2.2.2.2.2.1 h _).2
theorem fc_l_eq_f {x y : UInt32} (h : ¬ fEq x y) : ifCond.holds .eq (cmpValue (FP.fcmp x y) .l) = false := ((own_c _).2.2.2.2.2.2.2.2.2 h _).2
theorem fc_g_ne_f {x y : UInt32} (h : fEq x y) : ifCond.holds .ne (cmpValue (FP.fcmp x y) .g) = false := ((own_c _).2.2.2.2.2.2.2.2.1 h _).1
theorem fc_g_ne_t {x y : UInt32} (h : ¬ fEq x y) : ifCond.holds .ne (cmpValue (FP.fcmp x y) .g) = true := ((own_c _).2.2.2.2.2.2.2.2.2 h _).1
theorem fc_g_eq_t {x y : UInt32} (h : fEq x y) : ifCond.holds .eq (cmpValue (FP.fcmp x y) .g) = true := ((own_c _).2.2.2.2.2.2.2.2.1 h _).2
theorem fc_g_eq_f {x y : UInt32} (h : ¬ fEq x y) : ifCond.holds .eq (cmpValue (FP.fcmp x y) .g) = false := ((own_c _).2.2.2.2.2.2.2.2.2 h _).2
def own_sel (a b c d i : Int32) : Int32 := if i = 0 then a else if i = 1 then b else if i = 2 then c else d
theorem own_in {i : Int32} (h : 0 ≤ i.toInt ∧ i.toInt < 4) : ¬ i < 0 ∧ i < 4 := by
  rw [Int32.lt_iff_toInt_lt, Int32.lt_iff_toInt_lt]
  have : (0 : Int32).toInt = 0 := by decide
  have : (4 : Int32).toInt = 4 := by decide
  omega
theorem own_four {i : Int32} (h : 0 ≤ i.toInt ∧ i.toInt < 4) : i = 0 ∨ i = 1 ∨ i = 2 ∨ i = 3 := by
  have h0 : i.toInt = 0 ∨ i.toInt = 1 ∨ i.toInt = 2 ∨ i.toInt = 3 := by omega
  rcases h0 with h0 | h0 | h0 | h0
  · exact Or.inl (Int32.toInt_inj.mp (by rw [h0]; decide))
  · exact Or.inr (Or.inl (Int32.toInt_inj.mp (by rw [h0]; decide)))
  · exact Or.inr (Or.inr (Or.inl (Int32.toInt_inj.mp (by rw [h0]; decide))))
  · exact Or.inr (Or.inr (Or.inr (Int32.toInt_inj.mp (by rw [h0]; decide))))
theorem own_at {i : Int32} (h : 0 ≤ i.toInt ∧ i.toInt < 4) (a b c d : Int32) {dv : Value} : [Value.int a, Value.int b, Value.int c, Value.int d].getD i.toNatClampNeg dv = .int (own_sel a b c d i) := by
  rcases own_four h with rfl | rfl | rfl | rfl <;> rfl

theorem d0_0 : decode prog_47_method_2_code 0 = .ok (.dconst 1, 1) := by decide +kernel
theorem d0_1 : decode prog_47_method_2_code 1 = .ok (.dstore_n 2, 1) := by decide +kernel
theorem d0_2 : decode prog_47_method_2_code 2 = .ok (.aload_n 0, 1) := by decide +kernel
theorem d0_3 : decode prog_47_method_2_code 3 = .ok (.astore 4, 2) := by decide +kernel
theorem d0_5 : decode prog_47_method_2_code 5 = .ok (.aload 4, 2) := by decide +kernel
theorem d0_7 : decode prog_47_method_2_code 7 = .ok (.arraylength, 1) := by decide +kernel
theorem d0_8 : decode prog_47_method_2_code 8 = .ok (.istore 5, 2) := by decide +kernel
theorem d0_10 : decode prog_47_method_2_code 10 = .ok (.iconst 0, 1) := by decide +kernel
theorem d0_11 : decode prog_47_method_2_code 11 = .ok (.istore 6, 2) := by decide +kernel
theorem d0_13 : decode prog_47_method_2_code 13 = .ok (.iload 6, 2) := by decide +kernel
theorem d0_15 : decode prog_47_method_2_code 15 = .ok (.iload 5, 2) := by decide +kernel
theorem d0_17 : decode prog_47_method_2_code 17 = .ok (.if_icmp .ge 24, 3) := by decide +kernel
theorem d0_20 : decode prog_47_method_2_code 20 = .ok (.aload 4, 2) := by decide +kernel
theorem d0_22 : decode prog_47_method_2_code 22 = .ok (.iload 6, 2) := by decide +kernel
theorem d0_24 : decode prog_47_method_2_code 24 = .ok (.iaload, 1) := by decide +kernel
theorem d0_25 : decode prog_47_method_2_code 25 = .ok (.istore 7, 2) := by decide +kernel
theorem d0_27 : decode prog_47_method_2_code 27 = .ok (.dload_n 2, 1) := by decide +kernel
theorem d0_28 : decode prog_47_method_2_code 28 = .ok (.aload_n 1, 1) := by decide +kernel
theorem d0_29 : decode prog_47_method_2_code 29 = .ok (.iload 7, 2) := by decide +kernel
theorem d0_31 : decode prog_47_method_2_code 31 = .ok (.iaload, 1) := by decide +kernel
theorem d0_32 : decode prog_47_method_2_code 32 = .ok (.i2d, 1) := by decide +kernel
theorem d0_33 : decode prog_47_method_2_code 33 = .ok (.dmul, 1) := by decide +kernel
theorem d0_34 : decode prog_47_method_2_code 34 = .ok (.dstore_n 2, 1) := by decide +kernel
theorem d0_35 : decode prog_47_method_2_code 35 = .ok (.iinc 6 1, 3) := by decide +kernel
theorem d0_38 : decode prog_47_method_2_code 38 = .ok (.goto (-25), 3) := by decide +kernel
theorem d0_41 : decode prog_47_method_2_code 41 = .ok (.dload_n 2, 1) := by decide +kernel
theorem d0_42 : decode prog_47_method_2_code 42 = .ok (.dreturn, 1) := by decide +kernel
theorem pd0 : parseMethodDescriptor "([I[I)D" = some ⟨[(.array .int), (.array .int)], some .double⟩ := by decide +kernel
theorem pf_ent0 : plainFor (⟨"com/example/aristotle/aristotle/EliminationPlan", "entries", "([I[I)D"⟩ : MethodName) = true := by first | exact plainFor_of_name (by first | (simp [plainName, overriddenIn, x]; done) | decide +kernel) | exact Jvm.Free.JP.mathPlain rfl (by decide +kernel) | decide +kernel
theorem ef_ent0 (m : MethodId) (sa : Addr) (za : Addr) : entryFrame m #[(.ref sa), (.ref za)] 8 = mkF m 0 #[rv sa, rv za, .unset, .unset, .unset, .unset, .unset, .unset] [] := by first | (simp [entryFrame, mkF, argsToLocals, Value.category, maxLocals]; done) | rfl
def f_ent0 (z0 : Int32) (z1 : Int32) (z2 : Int32) (z3 : Int32) : UInt64 := (4607182418800017408 : UInt64)
def Q_ent0 (Z : State) (sa : Addr) (za : Addr) (k1 : ClassId) (k2 : ClassId) (z0 : Int32) (z1 : Int32) (z2 : Int32) (z3 : Int32) (h0 : Heap) (n0 : Nat) (v : Option Value) (h : Heap) (L : List Loc) : Prop := v = some (.double (f_ent0 z0 z1 z2 z3)) ∧ Fr n0 L ∧ h = h0
set_option maxRecDepth 65536 in
set_option maxHeartbeats 40000000 in
theorem rm_ent0 (l : Launch) (Z : State) (a0 : Array Value) (hw : ∀ d ∈ tables_1, d.before a0 Z = true) (ws : List Jvm.Cond) (sa : Addr) (za : Addr) (k1 : ClassId) (k2 : ClassId) (z0 : Int32) (z1 : Int32) (z2 : Int32) (z3 : Int32) (h0 : Heap) (n0 : Nat) (Z0 : n0 ≤ h0.size) (P0 : Arv Z h0 sa k1 .int (0 : Int32) [] (.int (0 : Int32))) (P1 : Arv Z h0 za k2 .int (4 : Int32) [(.int z0), (.int z1), (.int z2), (.int z3)] (.int (0 : Int32)))  :
    MetFree l (⟨"com/example/aristotle/aristotle/EliminationPlan", "entries", "([I[I)D"⟩ : MethodName) (head1 (Jvm.Cond.code (⟨"com/example/aristotle/aristotle/EliminationPlan", "entries", "([I[I)D"⟩ : MethodName) prog_47_method_2_code 8 (some .double) :: ws) ({ frames := 0, cells := 0, slots := 0, locals := 0 } : Room)) (fun a U => a = #[(.ref sa), (.ref za)] ∧ Z.Warmed39 U.vm ∧ U.heap = h0) (fun _ _ _ _ _ => True) (fun _ U o U' => ∃ v L, o = .returned v ∧ Q_ent0 Z sa za k1 k2 z0 z1 z2 z3 h0 n0 v U'.heap L ∧ FrameEnd U o U' L ({ frames := 0, cells := 0, slots := 0, locals := 0 } : Room).cells ({ frames := 0, cells := 0, slots := 0, locals := 0 } : Room).slots) := by
  refine MetFree.of_bodySF pf_ent0 hisR ?_
  intro p e s m args below meth c s₁ Bd hml0 hP hK
  obtain ⟨rfl, hZ, hh⟩ := hP
  have hx := Bd.exec
  have hby := Bd.bytes
  have hml : c.maxLocals = 8 := hml0
  have hown : s.vm.findClass "com/example/aristotle/aristotle/EliminationPlan" = some m.cls := findClass_of_methodNamed Bd.named
  have hnm := (name_of_methodNamed Bd.named Bd.method).1
  have X0 : Stand p l e ({ frames := 0, cells := 0, slots := 0, locals := 0 } : Room) s m #[(.ref sa), (.ref za)] below meth c s₁ [] 0 0 := Stand.of_body Bd
  have e0 : s₁.heap = h0 := by rw [← hh, Bd.state]; rfl
  have N0 := Fr.nil n0
  obtain ⟨S0, hS0⟩ : ∃ z, z = s₁.setTop (entryFrame m #[(.ref sa), (.ref za)] 8) := ⟨_, rfl⟩
  rw [← hS0]
  have g0 : Goes p e below S0 (s₁.setTop (mkF m 0 #[rv sa, rv za, .unset, .unset, .unset, .unset, .unset, .unset] [])) := fun t k => by rw [hS0]; exact castTop (ef_ent0 m sa za) k
  have g1 : Goes p e below S0 (s₁.setTop (mkF m 7 #[rv sa, rv za, .val (.double (4607182418800017408 : UInt64)), .second, rv sa, .unset, .unset, .unset] [(.ref sa)])) := fun t k => g0 t (by
    refine XS.dconst1 X0.here hx rfl (hb hby d0_0) (v := (4607182418800017408 : UInt64)) rfl ?_
    show Go p e below t s₁ m 1 #[rv sa, rv za, .unset, .unset, .unset, .unset, .unset, .unset] [(.double (4607182418800017408 : UInt64))]
    refine XS.dstoreN X0.here hx rfl (hb hby d0_1) rfl (l' := #[rv sa, rv za, .val (.double (4607182418800017408 : UInt64)), .second, .unset, .unset, .unset, .unset]) rfl ?_
    show Go p e below t s₁ m 2 #[rv sa, rv za, .val (.double (4607182418800017408 : UInt64)), .second, .unset, .unset, .unset, .unset] []
    refine XS.aloadN X0.here hx rfl (hb hby d0_2) rfl rfl ?_
    show Go p e below t s₁ m 3 #[rv sa, rv za, .val (.double (4607182418800017408 : UInt64)), .second, .unset, .unset, .unset, .unset] [(.ref sa)]
    refine XS.astore X0.here hx rfl (hb hby d0_3) rfl rfl (l' := #[rv sa, rv za, .val (.double (4607182418800017408 : UInt64)), .second, rv sa, .unset, .unset, .unset]) rfl ?_
    show Go p e below t s₁ m 5 #[rv sa, rv za, .val (.double (4607182418800017408 : UInt64)), .second, rv sa, .unset, .unset, .unset] []
    refine XS.aload X0.here hx rfl (hb hby d0_5) rfl rfl ?_
    show Go p e below t s₁ m 7 #[rv sa, rv za, .val (.double (4607182418800017408 : UInt64)), .second, rv sa, .unset, .unset, .unset] [(.ref sa)]
    exact k)
  obtain ⟨cl2, Ar2, q2, S2, M2, H2, G2⟩ := id P0
  have g3 : Goes p e below S0 (s₁.setTop (mkF m 42 #[rv sa, rv za, .val (.double (4607182418800017408 : UInt64)), .second, rv sa, iv (0 : Int32), iv (0 : Int32), .unset] [(.double (4607182418800017408 : UInt64))])) := fun t k => g1 t (by
    refine X0.arraylength hx (by rw [e0]; exact Ar2.1) (State.isArrayOf_alike hZ.alike Ar2.2.1) (g := (mkF m 7 #[rv sa, rv za, .val (.double (4607182418800017408 : UInt64)), .second, rv sa, .unset, .unset, .unset] [(.ref sa)])) rfl rfl (hb hby d0_7) _ ?_
    rw [len_of S2 M2]
    show Go p e below t s₁ m 8 #[rv sa, rv za, .val (.double (4607182418800017408 : UInt64)), .second, rv sa, .unset, .unset, .unset] [(.int (0 : Int32))]
    refine XS.istore X0.here hx rfl (hb hby d0_8) rfl (l' := #[rv sa, rv za, .val (.double (4607182418800017408 : UInt64)), .second, rv sa, iv (0 : Int32), .unset, .unset]) rfl ?_
    show Go p e below t s₁ m 10 #[rv sa, rv za, .val (.double (4607182418800017408 : UInt64)), .second, rv sa, iv (0 : Int32), .unset, .unset] []
    refine XT.iconstV X0.here hx rfl (0 : Int32) (hb hby d0_10) (by decide) ?_
    show Go p e below t s₁ m 11 #[rv sa, rv za, .val (.double (4607182418800017408 : UInt64)), .second, rv sa, iv (0 : Int32), .unset, .unset] [(.int (0 : Int32))]
    refine XS.istore X0.here hx rfl (hb hby d0_11) rfl (l' := #[rv sa, rv za, .val (.double (4607182418800017408 : UInt64)), .second, rv sa, iv (0 : Int32), iv (0 : Int32), .unset]) rfl ?_
    show Go p e below t s₁ m 13 #[rv sa, rv za, .val (.double (4607182418800017408 : UInt64)), .second, rv sa, iv (0 : Int32), iv (0 : Int32), .unset] []
    refine XS.iload X0.here hx rfl (hb hby d0_13) rfl ?_
    show Go p e below t s₁ m 15 #[rv sa, rv za, .val (.double (4607182418800017408 : UInt64)), .second, rv sa, iv (0 : Int32), iv (0 : Int32), .unset] [(.int (0 : Int32))]
    refine XS.iload X0.here hx rfl (hb hby d0_15) rfl ?_
    show Go p e below t s₁ m 17 #[rv sa, rv za, .val (.double (4607182418800017408 : UInt64)), .second, rv sa, iv (0 : Int32), iv (0 : Int32), .unset] [(.int (0 : Int32)), (.int (0 : Int32))]
    refine XS.icmpYes X0.here hx rfl (pc0 := 17) (pc' := 41) rfl (hb hby d0_17) rfl (XT.ii_ge_t (by decide)) (by decide) (by decide) ?_
    show Go p e below t s₁ m 41 #[rv sa, rv za, .val (.double (4607182418800017408 : UInt64)), .second, rv sa, iv (0 : Int32), iv (0 : Int32), .unset] []
    refine XS.dloadN X0.here hx rfl (hb hby d0_41) rfl ?_
    show Go p e below t s₁ m 42 #[rv sa, rv za, .val (.double (4607182418800017408 : UInt64)), .second, rv sa, iv (0 : Int32), iv (0 : Int32), .unset] [(.double (4607182418800017408 : UInt64))]
    exact k)
  obtain ⟨fs, hr, hrun, hended, hW, hsame⟩ := X0.leave (v := some (.double (4607182418800017408 : UInt64))) (fun h => by rw [Bd.returns] at h; cases h)
  refine ⟨_, _, g3 _ (retOut X0 hx Bd.returns rfl (Or.inr (Or.inr (Or.inl ⟨rfl, rfl, _, rfl⟩))) (hb hby d0_42) hr), hrun, hended, _, _, rfl, ?_, ⟨_, rfl⟩, hW, hsame.mono (by decide) (by decide)⟩
  show Q_ent0 Z sa za k1 k2 z0 z1 z2 z3 h0 n0 _ s₁.heap _
  rw [e0]
  exact ⟨rfl, N0, rfl⟩
theorem pf_ent1 : plainFor (⟨"com/example/aristotle/aristotle/EliminationPlan", "entries", "([I[I)D"⟩ : MethodName) = true := by first | exact plainFor_of_name (by first | (simp [plainName, overriddenIn, x]; done) | decide +kernel) | exact Jvm.Free.JP.mathPlain rfl (by decide +kernel) | decide +kernel
theorem ef_ent1 (m : MethodId) (sa : Addr) (za : Addr) : entryFrame m #[(.ref sa), (.ref za)] 8 = mkF m 0 #[rv sa, rv za, .unset, .unset, .unset, .unset, .unset, .unset] [] := by first | (simp [entryFrame, mkF, argsToLocals, Value.category, maxLocals]; done) | rfl
def f_ent1 (w0 : Int32) (z0 : Int32) (z1 : Int32) (z2 : Int32) (z3 : Int32) : UInt64 := (FP.dmul (4607182418800017408 : UInt64) (FP.i2d (own_sel z0 z1 z2 z3 w0)))
def Q_ent1 (Z : State) (sa : Addr) (za : Addr) (k1 : ClassId) (k2 : ClassId) (w0 : Int32) (z0 : Int32) (z1 : Int32) (z2 : Int32) (z3 : Int32) (h0 : Heap) (n0 : Nat) (v : Option Value) (h : Heap) (L : List Loc) : Prop := v = some (.double (f_ent1 w0 z0 z1 z2 z3)) ∧ Fr n0 L ∧ h = h0
set_option maxRecDepth 65536 in
set_option maxHeartbeats 40000000 in
theorem rm_ent1 (l : Launch) (Z : State) (a0 : Array Value) (hw : ∀ d ∈ tables_1, d.before a0 Z = true) (ws : List Jvm.Cond) (sa : Addr) (za : Addr) (k1 : ClassId) (k2 : ClassId) (w0 : Int32) (z0 : Int32) (z1 : Int32) (z2 : Int32) (z3 : Int32) (h0 : Heap) (n0 : Nat) (Z0 : n0 ≤ h0.size) (P0 : Arv Z h0 sa k1 .int (1 : Int32) [(.int w0)] (.int (0 : Int32))) (P1 : Arv Z h0 za k2 .int (4 : Int32) [(.int z0), (.int z1), (.int z2), (.int z3)] (.int (0 : Int32))) (bw0 : 0 ≤ w0.toInt ∧ w0.toInt < 4) (nn33 : 0 ≤ w0.toInt ∧ w0.toInt < 4 → Jvm.Free.Fl.NoNaN64 (FP.dmul (4607182418800017408 : UInt64) (FP.i2d (own_sel z0 z1 z2 z3 w0)))) :
    MetFree l (⟨"com/example/aristotle/aristotle/EliminationPlan", "entries", "([I[I)D"⟩ : MethodName) (head1 (Jvm.Cond.code (⟨"com/example/aristotle/aristotle/EliminationPlan", "entries", "([I[I)D"⟩ : MethodName) prog_47_method_2_code 8 (some .double) :: ws) ({ frames := 0, cells := 0, slots := 0, locals := 0 } : Room)) (fun a U => a = #[(.ref sa), (.ref za)] ∧ Z.Warmed39 U.vm ∧ U.heap = h0) (fun _ _ _ _ _ => True) (fun _ U o U' => ∃ v L, o = .returned v ∧ Q_ent1 Z sa za k1 k2 w0 z0 z1 z2 z3 h0 n0 v U'.heap L ∧ FrameEnd U o U' L ({ frames := 0, cells := 0, slots := 0, locals := 0 } : Room).cells ({ frames := 0, cells := 0, slots := 0, locals := 0 } : Room).slots) := by
  refine MetFree.of_bodySF pf_ent1 hisR ?_
  intro p e s m args below meth c s₁ Bd hml0 hP hK
  obtain ⟨rfl, hZ, hh⟩ := hP
  have hx := Bd.exec
  have hby := Bd.bytes
  have hml : c.maxLocals = 8 := hml0
  have hown : s.vm.findClass "com/example/aristotle/aristotle/EliminationPlan" = some m.cls := findClass_of_methodNamed Bd.named
  have hnm := (name_of_methodNamed Bd.named Bd.method).1
  have X0 : Stand p l e ({ frames := 0, cells := 0, slots := 0, locals := 0 } : Room) s m #[(.ref sa), (.ref za)] below meth c s₁ [] 0 0 := Stand.of_body Bd
  have e0 : s₁.heap = h0 := by rw [← hh, Bd.state]; rfl
  have N0 := Fr.nil n0
  obtain ⟨S0, hS0⟩ : ∃ z, z = s₁.setTop (entryFrame m #[(.ref sa), (.ref za)] 8) := ⟨_, rfl⟩
  rw [← hS0]
  have g0 : Goes p e below S0 (s₁.setTop (mkF m 0 #[rv sa, rv za, .unset, .unset, .unset, .unset, .unset, .unset] [])) := fun t k => by rw [hS0]; exact castTop (ef_ent1 m sa za) k
  have g4 : Goes p e below S0 (s₁.setTop (mkF m 7 #[rv sa, rv za, .val (.double (4607182418800017408 : UInt64)), .second, rv sa, .unset, .unset, .unset] [(.ref sa)])) := fun t k => g0 t (by
    refine XS.dconst1 X0.here hx rfl (hb hby d0_0) (v := (4607182418800017408 : UInt64)) rfl ?_
    show Go p e below t s₁ m 1 #[rv sa, rv za, .unset, .unset, .unset, .unset, .unset, .unset] [(.double (4607182418800017408 : UInt64))]
    refine XS.dstoreN X0.here hx rfl (hb hby d0_1) rfl (l' := #[rv sa, rv za, .val (.double (4607182418800017408 : UInt64)), .second, .unset, .unset, .unset, .unset]) rfl ?_
    show Go p e below t s₁ m 2 #[rv sa, rv za, .val (.double (4607182418800017408 : UInt64)), .second, .unset, .unset, .unset, .unset] []
    refine XS.aloadN X0.here hx rfl (hb hby d0_2) rfl rfl ?_
    show Go p e below t s₁ m 3 #[rv sa, rv za, .val (.double (4607182418800017408 : UInt64)), .second, .unset, .unset, .unset, .unset] [(.ref sa)]
    refine XS.astore X0.here hx rfl (hb hby d0_3) rfl rfl (l' := #[rv sa, rv za, .val (.double (4607182418800017408 : UInt64)), .second, rv sa, .unset, .unset, .unset]) rfl ?_
    show Go p e below t s₁ m 5 #[rv sa, rv za, .val (.double (4607182418800017408 : UInt64)), .second, rv sa, .unset, .unset, .unset] []
    refine XS.aload X0.here hx rfl (hb hby d0_5) rfl rfl ?_
    show Go p e below t s₁ m 7 #[rv sa, rv za, .val (.double (4607182418800017408 : UInt64)), .second, rv sa, .unset, .unset, .unset] [(.ref sa)]
    exact k)
  obtain ⟨cl5, Ar5, q5, S5, M5, H5, G5⟩ := id P0
  have g6 : Goes p e below S0 (s₁.setTop (mkF m 24 #[rv sa, rv za, .val (.double (4607182418800017408 : UInt64)), .second, rv sa, iv (1 : Int32), iv (0 : Int32), .unset] [(.int (0 : Int32)), (.ref sa)])) := fun t k => g4 t (by
    refine X0.arraylength hx (by rw [e0]; exact Ar5.1) (State.isArrayOf_alike hZ.alike Ar5.2.1) (g := (mkF m 7 #[rv sa, rv za, .val (.double (4607182418800017408 : UInt64)), .second, rv sa, .unset, .unset, .unset] [(.ref sa)])) rfl rfl (hb hby d0_7) _ ?_
    rw [len_of S5 M5]
    show Go p e below t s₁ m 8 #[rv sa, rv za, .val (.double (4607182418800017408 : UInt64)), .second, rv sa, .unset, .unset, .unset] [(.int (1 : Int32))]
    refine XS.istore X0.here hx rfl (hb hby d0_8) rfl (l' := #[rv sa, rv za, .val (.double (4607182418800017408 : UInt64)), .second, rv sa, iv (1 : Int32), .unset, .unset]) rfl ?_
    show Go p e below t s₁ m 10 #[rv sa, rv za, .val (.double (4607182418800017408 : UInt64)), .second, rv sa, iv (1 : Int32), .unset, .unset] []
    refine XT.iconstV X0.here hx rfl (0 : Int32) (hb hby d0_10) (by decide) ?_
    show Go p e below t s₁ m 11 #[rv sa, rv za, .val (.double (4607182418800017408 : UInt64)), .second, rv sa, iv (1 : Int32), .unset, .unset] [(.int (0 : Int32))]
    refine XS.istore X0.here hx rfl (hb hby d0_11) rfl (l' := #[rv sa, rv za, .val (.double (4607182418800017408 : UInt64)), .second, rv sa, iv (1 : Int32), iv (0 : Int32), .unset]) rfl ?_
    show Go p e below t s₁ m 13 #[rv sa, rv za, .val (.double (4607182418800017408 : UInt64)), .second, rv sa, iv (1 : Int32), iv (0 : Int32), .unset] []
    refine XS.iload X0.here hx rfl (hb hby d0_13) rfl ?_
    show Go p e below t s₁ m 15 #[rv sa, rv za, .val (.double (4607182418800017408 : UInt64)), .second, rv sa, iv (1 : Int32), iv (0 : Int32), .unset] [(.int (0 : Int32))]
    refine XS.iload X0.here hx rfl (hb hby d0_15) rfl ?_
    show Go p e below t s₁ m 17 #[rv sa, rv za, .val (.double (4607182418800017408 : UInt64)), .second, rv sa, iv (1 : Int32), iv (0 : Int32), .unset] [(.int (1 : Int32)), (.int (0 : Int32))]
    refine XS.icmpNo X0.here hx rfl (hb hby d0_17) rfl (XT.ii_ge_f (by decide)) ?_
    show Go p e below t s₁ m 20 #[rv sa, rv za, .val (.double (4607182418800017408 : UInt64)), .second, rv sa, iv (1 : Int32), iv (0 : Int32), .unset] []
    refine XS.aload X0.here hx rfl (hb hby d0_20) rfl rfl ?_
    show Go p e below t s₁ m 22 #[rv sa, rv za, .val (.double (4607182418800017408 : UInt64)), .second, rv sa, iv (1 : Int32), iv (0 : Int32), .unset] [(.ref sa)]
    refine XS.iload X0.here hx rfl (hb hby d0_22) rfl ?_
    show Go p e below t s₁ m 24 #[rv sa, rv za, .val (.double (4607182418800017408 : UInt64)), .second, rv sa, iv (1 : Int32), iv (0 : Int32), .unset] [(.int (0 : Int32)), (.ref sa)]
    exact k)
  obtain ⟨cl7, Ar7, q7, S7, M7, H7, G7⟩ := id P0
  have g8 : Goes p e below S0 (s₁.setTop (mkF m 31 #[rv sa, rv za, .val (.double (4607182418800017408 : UInt64)), .second, rv sa, iv (1 : Int32), iv (0 : Int32), iv w0] [(.int w0), (.ref za), (.double (4607182418800017408 : UInt64))])) := fun t k => g6 t (by
    refine X0.iaload hx (j := (0 : Int32)) (v := (.int w0)) (by rw [e0]; exact Ar7.1) (State.isArrayOf_alike hZ.alike Ar7.2.1) Ar7.2.2 (inb_of S7 ⟨by decide, by decide⟩) (H7.at (inb_of S7 ⟨by decide, by decide⟩) rfl) (g := (mkF m 24 #[rv sa, rv za, .val (.double (4607182418800017408 : UInt64)), .second, rv sa, iv (1 : Int32), iv (0 : Int32), .unset] [(.int (0 : Int32)), (.ref sa)])) rfl rfl (hb hby d0_24) _ ?_
    show Go p e below t s₁ m 25 #[rv sa, rv za, .val (.double (4607182418800017408 : UInt64)), .second, rv sa, iv (1 : Int32), iv (0 : Int32), .unset] [(.int w0)]
    refine XS.istore X0.here hx rfl (hb hby d0_25) rfl (l' := #[rv sa, rv za, .val (.double (4607182418800017408 : UInt64)), .second, rv sa, iv (1 : Int32), iv (0 : Int32), iv w0]) rfl ?_
    show Go p e below t s₁ m 27 #[rv sa, rv za, .val (.double (4607182418800017408 : UInt64)), .second, rv sa, iv (1 : Int32), iv (0 : Int32), iv w0] []
    refine XS.dloadN X0.here hx rfl (hb hby d0_27) rfl ?_
    show Go p e below t s₁ m 28 #[rv sa, rv za, .val (.double (4607182418800017408 : UInt64)), .second, rv sa, iv (1 : Int32), iv (0 : Int32), iv w0] [(.double (4607182418800017408 : UInt64))]
    refine XS.aloadN X0.here hx rfl (hb hby d0_28) rfl rfl ?_
    show Go p e below t s₁ m 29 #[rv sa, rv za, .val (.double (4607182418800017408 : UInt64)), .second, rv sa, iv (1 : Int32), iv (0 : Int32), iv w0] [(.ref za), (.double (4607182418800017408 : UInt64))]
    refine XS.iload X0.here hx rfl (hb hby d0_29) rfl ?_
    show Go p e below t s₁ m 31 #[rv sa, rv za, .val (.double (4607182418800017408 : UInt64)), .second, rv sa, iv (1 : Int32), iv (0 : Int32), iv w0] [(.int w0), (.ref za), (.double (4607182418800017408 : UInt64))]
    exact k)
  obtain ⟨cl9, Ar9, q9, S9, M9, H9, G9⟩ := id P1
  have g10 : Goes p e below S0 (s₁.setTop (mkF m 42 #[rv sa, rv za, .val (.double (FP.dmul (4607182418800017408 : UInt64) (FP.i2d (own_sel z0 z1 z2 z3 w0)))), .second, rv sa, iv (1 : Int32), iv (1 : Int32), iv w0] [(.double (FP.dmul (4607182418800017408 : UInt64) (FP.i2d (own_sel z0 z1 z2 z3 w0))))])) := fun t k => g8 t (by
    refine X0.iaload hx (j := w0) (v := (.int (own_sel z0 z1 z2 z3 w0))) (by rw [e0]; exact Ar9.1) (State.isArrayOf_alike hZ.alike Ar9.2.1) Ar9.2.2 (inb_of S9 (own_in bw0)) (H9.at (inb_of S9 (own_in bw0)) (own_at bw0 _ _ _ _)) (g := (mkF m 31 #[rv sa, rv za, .val (.double (4607182418800017408 : UInt64)), .second, rv sa, iv (1 : Int32), iv (0 : Int32), iv w0] [(.int w0), (.ref za), (.double (4607182418800017408 : UInt64))])) rfl rfl (hb hby d0_31) _ ?_
    show Go p e below t s₁ m 32 #[rv sa, rv za, .val (.double (4607182418800017408 : UInt64)), .second, rv sa, iv (1 : Int32), iv (0 : Int32), iv w0] [(.int (own_sel z0 z1 z2 z3 w0)), (.double (4607182418800017408 : UInt64))]
    refine XS.i2dS X0.here hx rfl (hb hby d0_32) rfl rfl ?_
    show Go p e below t s₁ m 33 #[rv sa, rv za, .val (.double (4607182418800017408 : UInt64)), .second, rv sa, iv (1 : Int32), iv (0 : Int32), iv w0] [(.double (FP.i2d (own_sel z0 z1 z2 z3 w0))), (.double (4607182418800017408 : UInt64))]
    refine XS.dmulS X0.here hx rfl (hb hby d0_33) rfl (nn33 bw0) rfl ?_
    show Go p e below t s₁ m 34 #[rv sa, rv za, .val (.double (4607182418800017408 : UInt64)), .second, rv sa, iv (1 : Int32), iv (0 : Int32), iv w0] [(.double (FP.dmul (4607182418800017408 : UInt64) (FP.i2d (own_sel z0 z1 z2 z3 w0))))]
    refine XS.dstoreN X0.here hx rfl (hb hby d0_34) rfl (l' := #[rv sa, rv za, .val (.double (FP.dmul (4607182418800017408 : UInt64) (FP.i2d (own_sel z0 z1 z2 z3 w0)))), .second, rv sa, iv (1 : Int32), iv (0 : Int32), iv w0]) rfl ?_
    show Go p e below t s₁ m 35 #[rv sa, rv za, .val (.double (FP.dmul (4607182418800017408 : UInt64) (FP.i2d (own_sel z0 z1 z2 z3 w0)))), .second, rv sa, iv (1 : Int32), iv (0 : Int32), iv w0] []
    refine XT.iincV X0.here hx rfl (1 : Int32) (hb hby d0_35) (by decide) rfl (l' := #[rv sa, rv za, .val (.double (FP.dmul (4607182418800017408 : UInt64) (FP.i2d (own_sel z0 z1 z2 z3 w0)))), .second, rv sa, iv (1 : Int32), iv (1 : Int32), iv w0]) rfl ?_
    show Go p e below t s₁ m 38 #[rv sa, rv za, .val (.double (FP.dmul (4607182418800017408 : UInt64) (FP.i2d (own_sel z0 z1 z2 z3 w0)))), .second, rv sa, iv (1 : Int32), iv (1 : Int32), iv w0] []
    refine XS.goto X0.here hx rfl (pc0 := 38) (pc' := 13) rfl (hb hby d0_38) (by decide) (by decide) ?_
    show Go p e below t s₁ m 13 #[rv sa, rv za, .val (.double (FP.dmul (4607182418800017408 : UInt64) (FP.i2d (own_sel z0 z1 z2 z3 w0)))), .second, rv sa, iv (1 : Int32), iv (1 : Int32), iv w0] []
    refine XS.iload X0.here hx rfl (hb hby d0_13) rfl ?_
    show Go p e below t s₁ m 15 #[rv sa, rv za, .val (.double (FP.dmul (4607182418800017408 : UInt64) (FP.i2d (own_sel z0 z1 z2 z3 w0)))), .second, rv sa, iv (1 : Int32), iv (1 : Int32), iv w0] [(.int (1 : Int32))]
    refine XS.iload X0.here hx rfl (hb hby d0_15) rfl ?_
    show Go p e below t s₁ m 17 #[rv sa, rv za, .val (.double (FP.dmul (4607182418800017408 : UInt64) (FP.i2d (own_sel z0 z1 z2 z3 w0)))), .second, rv sa, iv (1 : Int32), iv (1 : Int32), iv w0] [(.int (1 : Int32)), (.int (1 : Int32))]
    refine XS.icmpYes X0.here hx rfl (pc0 := 17) (pc' := 41) rfl (hb hby d0_17) rfl (XT.ii_ge_t (by decide)) (by decide) (by decide) ?_
    show Go p e below t s₁ m 41 #[rv sa, rv za, .val (.double (FP.dmul (4607182418800017408 : UInt64) (FP.i2d (own_sel z0 z1 z2 z3 w0)))), .second, rv sa, iv (1 : Int32), iv (1 : Int32), iv w0] []
    refine XS.dloadN X0.here hx rfl (hb hby d0_41) rfl ?_
    show Go p e below t s₁ m 42 #[rv sa, rv za, .val (.double (FP.dmul (4607182418800017408 : UInt64) (FP.i2d (own_sel z0 z1 z2 z3 w0)))), .second, rv sa, iv (1 : Int32), iv (1 : Int32), iv w0] [(.double (FP.dmul (4607182418800017408 : UInt64) (FP.i2d (own_sel z0 z1 z2 z3 w0))))]
    exact k)
  obtain ⟨fs, hr, hrun, hended, hW, hsame⟩ := X0.leave (v := some (.double (FP.dmul (4607182418800017408 : UInt64) (FP.i2d (own_sel z0 z1 z2 z3 w0))))) (fun h => by rw [Bd.returns] at h; cases h)
  refine ⟨_, _, g10 _ (retOut X0 hx Bd.returns rfl (Or.inr (Or.inr (Or.inl ⟨rfl, rfl, _, rfl⟩))) (hb hby d0_42) hr), hrun, hended, _, _, rfl, ?_, ⟨_, rfl⟩, hW, hsame.mono (by decide) (by decide)⟩
  show Q_ent1 Z sa za k1 k2 w0 z0 z1 z2 z3 h0 n0 _ s₁.heap _
  rw [e0]
  exact ⟨rfl, N0, rfl⟩
theorem pf_ent2 : plainFor (⟨"com/example/aristotle/aristotle/EliminationPlan", "entries", "([I[I)D"⟩ : MethodName) = true := by first | exact plainFor_of_name (by first | (simp [plainName, overriddenIn, x]; done) | decide +kernel) | exact Jvm.Free.JP.mathPlain rfl (by decide +kernel) | decide +kernel
theorem ef_ent2 (m : MethodId) (sa : Addr) (za : Addr) : entryFrame m #[(.ref sa), (.ref za)] 8 = mkF m 0 #[rv sa, rv za, .unset, .unset, .unset, .unset, .unset, .unset] [] := by first | (simp [entryFrame, mkF, argsToLocals, Value.category, maxLocals]; done) | rfl
def f_ent2 (w0 : Int32) (w1 : Int32) (z0 : Int32) (z1 : Int32) (z2 : Int32) (z3 : Int32) : UInt64 := (FP.dmul (FP.dmul (4607182418800017408 : UInt64) (FP.i2d (own_sel z0 z1 z2 z3 w0))) (FP.i2d (own_sel z0 z1 z2 z3 w1)))
def Q_ent2 (Z : State) (sa : Addr) (za : Addr) (k1 : ClassId) (k2 : ClassId) (w0 : Int32) (w1 : Int32) (z0 : Int32) (z1 : Int32) (z2 : Int32) (z3 : Int32) (h0 : Heap) (n0 : Nat) (v : Option Value) (h : Heap) (L : List Loc) : Prop := v = some (.double (f_ent2 w0 w1 z0 z1 z2 z3)) ∧ Fr n0 L ∧ h = h0
set_option maxRecDepth 65536 in
set_option maxHeartbeats 40000000 in
theorem rm_ent2 (l : Launch) (Z : State) (a0 : Array Value) (hw : ∀ d ∈ tables_1, d.before a0 Z = true) (ws : List Jvm.Cond) (sa : Addr) (za : Addr) (k1 : ClassId) (k2 : ClassId) (w0 : Int32) (w1 : Int32) (z0 : Int32) (z1 : Int32) (z2 : Int32) (z3 : Int32) (h0 : Heap) (n0 : Nat) (Z0 : n0 ≤ h0.size) (P0 : Arv Z h0 sa k1 .int (2 : Int32) [(.int w0), (.int w1)] (.int (0 : Int32))) (P1 : Arv Z h0 za k2 .int (4 : Int32) [(.int z0), (.int z1), (.int z2), (.int z3)] (.int (0 : Int32))) (bw0 : 0 ≤ w0.toInt ∧ w0.toInt < 4) (bw1 : 0 ≤ w1.toInt ∧ w1.toInt < 4) (nn33 : 0 ≤ w0.toInt ∧ w0.toInt < 4 → 0 ≤ w1.toInt ∧ w1.toInt < 4 → Jvm.Free.Fl.NoNaN64 (FP.dmul (4607182418800017408 : UInt64) (FP.i2d (own_sel z0 z1 z2 z3 w0)))) (nn33_1 : 0 ≤ w0.toInt ∧ w0.toInt < 4 → 0 ≤ w1.toInt ∧ w1.toInt < 4 → Jvm.Free.Fl.NoNaN64 (FP.dmul (FP.dmul (4607182418800017408 : UInt64) (FP.i2d (own_sel z0 z1 z2 z3 w0))) (FP.i2d (own_sel z0 z1 z2 z3 w1)))) :
    MetFree l (⟨"com/example/aristotle/aristotle/EliminationPlan", "entries", "([I[I)D"⟩ : MethodName) (head1 (Jvm.Cond.code (⟨"com/example/aristotle/aristotle/EliminationPlan", "entries", "([I[I)D"⟩ : MethodName) prog_47_method_2_code 8 (some .double) :: ws) ({ frames := 0, cells := 0, slots := 0, locals := 0 } : Room)) (fun a U => a = #[(.ref sa), (.ref za)] ∧ Z.Warmed39 U.vm ∧ U.heap = h0) (fun _ _ _ _ _ => True) (fun _ U o U' => ∃ v L, o = .returned v ∧ Q_ent2 Z sa za k1 k2 w0 w1 z0 z1 z2 z3 h0 n0 v U'.heap L ∧ FrameEnd U o U' L ({ frames := 0, cells := 0, slots := 0, locals := 0 } : Room).cells ({ frames := 0, cells := 0, slots := 0, locals := 0 } : Room).slots) := by
  refine MetFree.of_bodySF pf_ent2 hisR ?_
  intro p e s m args below meth c s₁ Bd hml0 hP hK
  obtain ⟨rfl, hZ, hh⟩ := hP
  have hx := Bd.exec
  have hby := Bd.bytes
  have hml : c.maxLocals = 8 := hml0
  have hown : s.vm.findClass "com/example/aristotle/aristotle/EliminationPlan" = some m.cls := findClass_of_methodNamed Bd.named
  have hnm := (name_of_methodNamed Bd.named Bd.method).1
  have X0 : Stand p l e ({ frames := 0, cells := 0, slots := 0, locals := 0 } : Room) s m #[(.ref sa), (.ref za)] below meth c s₁ [] 0 0 := Stand.of_body Bd
  have e0 : s₁.heap = h0 := by rw [← hh, Bd.state]; rfl
  have N0 := Fr.nil n0
  obtain ⟨S0, hS0⟩ : ∃ z, z = s₁.setTop (entryFrame m #[(.ref sa), (.ref za)] 8) := ⟨_, rfl⟩
  rw [← hS0]
  have g0 : Goes p e below S0 (s₁.setTop (mkF m 0 #[rv sa, rv za, .unset, .unset, .unset, .unset, .unset, .unset] [])) := fun t k => by rw [hS0]; exact castTop (ef_ent2 m sa za) k
  have g11 : Goes p e below S0 (s₁.setTop (mkF m 7 #[rv sa, rv za, .val (.double (4607182418800017408 : UInt64)), .second, rv sa, .unset, .unset, .unset] [(.ref sa)])) := fun t k => g0 t (by
    refine XS.dconst1 X0.here hx rfl (hb hby d0_0) (v := (4607182418800017408 : UInt64)) rfl ?_
    show Go p e below t s₁ m 1 #[rv sa, rv za, .unset, .unset, .unset, .unset, .unset, .unset] [(.double (4607182418800017408 : UInt64))]
    refine XS.dstoreN X0.here hx rfl (hb hby d0_1) rfl (l' := #[rv sa, rv za, .val (.double (4607182418800017408 : UInt64)), .second, .unset, .unset, .unset, .unset]) rfl ?_
    show Go p e below t s₁ m 2 #[rv sa, rv za, .val (.double (4607182418800017408 : UInt64)), .second, .unset, .unset, .unset, .unset] []
    refine XS.aloadN X0.here hx rfl (hb hby d0_2) rfl rfl ?_
    show Go p e below t s₁ m 3 #[rv sa, rv za, .val (.double (4607182418800017408 : UInt64)), .second, .unset, .unset, .unset, .unset] [(.ref sa)]
    refine XS.astore X0.here hx rfl (hb hby d0_3) rfl rfl (l' := #[rv sa, rv za, .val (.double (4607182418800017408 : UInt64)), .second, rv sa, .unset, .unset, .unset]) rfl ?_
    show Go p e below t s₁ m 5 #[rv sa, rv za, .val (.double (4607182418800017408 : UInt64)), .second, rv sa, .unset, .unset, .unset] []
    refine XS.aload X0.here hx rfl (hb hby d0_5) rfl rfl ?_
    show Go p e below t s₁ m 7 #[rv sa, rv za, .val (.double (4607182418800017408 : UInt64)), .second, rv sa, .unset, .unset, .unset] [(.ref sa)]
    exact k)
  obtain ⟨cl12, Ar12, q12, S12, M12, H12, G12⟩ := id P0
  have g13 : Goes p e below S0 (s₁.setTop (mkF m 24 #[rv sa, rv za, .val (.double (4607182418800017408 : UInt64)), .second, rv sa, iv (2 : Int32), iv (0 : Int32), .unset] [(.int (0 : Int32)), (.ref sa)])) := fun t k => g11 t (by
    refine X0.arraylength hx (by rw [e0]; exact Ar12.1) (State.isArrayOf_alike hZ.alike Ar12.2.1) (g := (mkF m 7 #[rv sa, rv za, .val (.double (4607182418800017408 : UInt64)), .second, rv sa, .unset, .unset, .unset] [(.ref sa)])) rfl rfl (hb hby d0_7) _ ?_
    rw [len_of S12 M12]
    show Go p e below t s₁ m 8 #[rv sa, rv za, .val (.double (4607182418800017408 : UInt64)), .second, rv sa, .unset, .unset, .unset] [(.int (2 : Int32))]
    refine XS.istore X0.here hx rfl (hb hby d0_8) rfl (l' := #[rv sa, rv za, .val (.double (4607182418800017408 : UInt64)), .second, rv sa, iv (2 : Int32), .unset, .unset]) rfl ?_
    show Go p e below t s₁ m 10 #[rv sa, rv za, .val (.double (4607182418800017408 : UInt64)), .second, rv sa, iv (2 : Int32), .unset, .unset] []
    refine XT.iconstV X0.here hx rfl (0 : Int32) (hb hby d0_10) (by decide) ?_
    show Go p e below t s₁ m 11 #[rv sa, rv za, .val (.double (4607182418800017408 : UInt64)), .second, rv sa, iv (2 : Int32), .unset, .unset] [(.int (0 : Int32))]
    refine XS.istore X0.here hx rfl (hb hby d0_11) rfl (l' := #[rv sa, rv za, .val (.double (4607182418800017408 : UInt64)), .second, rv sa, iv (2 : Int32), iv (0 : Int32), .unset]) rfl ?_
    show Go p e below t s₁ m 13 #[rv sa, rv za, .val (.double (4607182418800017408 : UInt64)), .second, rv sa, iv (2 : Int32), iv (0 : Int32), .unset] []
    refine XS.iload X0.here hx rfl (hb hby d0_13) rfl ?_
    show Go p e below t s₁ m 15 #[rv sa, rv za, .val (.double (4607182418800017408 : UInt64)), .second, rv sa, iv (2 : Int32), iv (0 : Int32), .unset] [(.int (0 : Int32))]
    refine XS.iload X0.here hx rfl (hb hby d0_15) rfl ?_
    show Go p e below t s₁ m 17 #[rv sa, rv za, .val (.double (4607182418800017408 : UInt64)), .second, rv sa, iv (2 : Int32), iv (0 : Int32), .unset] [(.int (2 : Int32)), (.int (0 : Int32))]
    refine XS.icmpNo X0.here hx rfl (hb hby d0_17) rfl (XT.ii_ge_f (by decide)) ?_
    show Go p e below t s₁ m 20 #[rv sa, rv za, .val (.double (4607182418800017408 : UInt64)), .second, rv sa, iv (2 : Int32), iv (0 : Int32), .unset] []
    refine XS.aload X0.here hx rfl (hb hby d0_20) rfl rfl ?_
    show Go p e below t s₁ m 22 #[rv sa, rv za, .val (.double (4607182418800017408 : UInt64)), .second, rv sa, iv (2 : Int32), iv (0 : Int32), .unset] [(.ref sa)]
    refine XS.iload X0.here hx rfl (hb hby d0_22) rfl ?_
    show Go p e below t s₁ m 24 #[rv sa, rv za, .val (.double (4607182418800017408 : UInt64)), .second, rv sa, iv (2 : Int32), iv (0 : Int32), .unset] [(.int (0 : Int32)), (.ref sa)]
    exact k)
  obtain ⟨cl14, Ar14, q14, S14, M14, H14, G14⟩ := id P0
  have g15 : Goes p e below S0 (s₁.setTop (mkF m 31 #[rv sa, rv za, .val (.double (4607182418800017408 : UInt64)), .second, rv sa, iv (2 : Int32), iv (0 : Int32), iv w0] [(.int w0), (.ref za), (.double (4607182418800017408 : UInt64))])) := fun t k => g13 t (by
    refine X0.iaload hx (j := (0 : Int32)) (v := (.int w0)) (by rw [e0]; exact Ar14.1) (State.isArrayOf_alike hZ.alike Ar14.2.1) Ar14.2.2 (inb_of S14 ⟨by decide, by decide⟩) (H14.at (inb_of S14 ⟨by decide, by decide⟩) rfl) (g := (mkF m 24 #[rv sa, rv za, .val (.double (4607182418800017408 : UInt64)), .second, rv sa, iv (2 : Int32), iv (0 : Int32), .unset] [(.int (0 : Int32)), (.ref sa)])) rfl rfl (hb hby d0_24) _ ?_
    show Go p e below t s₁ m 25 #[rv sa, rv za, .val (.double (4607182418800017408 : UInt64)), .second, rv sa, iv (2 : Int32), iv (0 : Int32), .unset] [(.int w0)]
    refine XS.istore X0.here hx rfl (hb hby d0_25) rfl (l' := #[rv sa, rv za, .val (.double (4607182418800017408 : UInt64)), .second, rv sa, iv (2 : Int32), iv (0 : Int32), iv w0]) rfl ?_
    show Go p e below t s₁ m 27 #[rv sa, rv za, .val (.double (4607182418800017408 : UInt64)), .second, rv sa, iv (2 : Int32), iv (0 : Int32), iv w0] []
    refine XS.dloadN X0.here hx rfl (hb hby d0_27) rfl ?_
    show Go p e below t s₁ m 28 #[rv sa, rv za, .val (.double (4607182418800017408 : UInt64)), .second, rv sa, iv (2 : Int32), iv (0 : Int32), iv w0] [(.double (4607182418800017408 : UInt64))]
    refine XS.aloadN X0.here hx rfl (hb hby d0_28) rfl rfl ?_
    show Go p e below t s₁ m 29 #[rv sa, rv za, .val (.double (4607182418800017408 : UInt64)), .second, rv sa, iv (2 : Int32), iv (0 : Int32), iv w0] [(.ref za), (.double (4607182418800017408 : UInt64))]
    refine XS.iload X0.here hx rfl (hb hby d0_29) rfl ?_
    show Go p e below t s₁ m 31 #[rv sa, rv za, .val (.double (4607182418800017408 : UInt64)), .second, rv sa, iv (2 : Int32), iv (0 : Int32), iv w0] [(.int w0), (.ref za), (.double (4607182418800017408 : UInt64))]
    exact k)
  obtain ⟨cl16, Ar16, q16, S16, M16, H16, G16⟩ := id P1
  have g17 : Goes p e below S0 (s₁.setTop (mkF m 24 #[rv sa, rv za, .val (.double (FP.dmul (4607182418800017408 : UInt64) (FP.i2d (own_sel z0 z1 z2 z3 w0)))), .second, rv sa, iv (2 : Int32), iv (1 : Int32), iv w0] [(.int (1 : Int32)), (.ref sa)])) := fun t k => g15 t (by
    refine X0.iaload hx (j := w0) (v := (.int (own_sel z0 z1 z2 z3 w0))) (by rw [e0]; exact Ar16.1) (State.isArrayOf_alike hZ.alike Ar16.2.1) Ar16.2.2 (inb_of S16 (own_in bw0)) (H16.at (inb_of S16 (own_in bw0)) (own_at bw0 _ _ _ _)) (g := (mkF m 31 #[rv sa, rv za, .val (.double (4607182418800017408 : UInt64)), .second, rv sa, iv (2 : Int32), iv (0 : Int32), iv w0] [(.int w0), (.ref za), (.double (4607182418800017408 : UInt64))])) rfl rfl (hb hby d0_31) _ ?_
    show Go p e below t s₁ m 32 #[rv sa, rv za, .val (.double (4607182418800017408 : UInt64)), .second, rv sa, iv (2 : Int32), iv (0 : Int32), iv w0] [(.int (own_sel z0 z1 z2 z3 w0)), (.double (4607182418800017408 : UInt64))]
    refine XS.i2dS X0.here hx rfl (hb hby d0_32) rfl rfl ?_
    show Go p e below t s₁ m 33 #[rv sa, rv za, .val (.double (4607182418800017408 : UInt64)), .second, rv sa, iv (2 : Int32), iv (0 : Int32), iv w0] [(.double (FP.i2d (own_sel z0 z1 z2 z3 w0))), (.double (4607182418800017408 : UInt64))]
    refine XS.dmulS X0.here hx rfl (hb hby d0_33) rfl (nn33 bw0 bw1) rfl ?_
    show Go p e below t s₁ m 34 #[rv sa, rv za, .val (.double (4607182418800017408 : UInt64)), .second, rv sa, iv (2 : Int32), iv (0 : Int32), iv w0] [(.double (FP.dmul (4607182418800017408 : UInt64) (FP.i2d (own_sel z0 z1 z2 z3 w0))))]
    refine XS.dstoreN X0.here hx rfl (hb hby d0_34) rfl (l' := #[rv sa, rv za, .val (.double (FP.dmul (4607182418800017408 : UInt64) (FP.i2d (own_sel z0 z1 z2 z3 w0)))), .second, rv sa, iv (2 : Int32), iv (0 : Int32), iv w0]) rfl ?_
    show Go p e below t s₁ m 35 #[rv sa, rv za, .val (.double (FP.dmul (4607182418800017408 : UInt64) (FP.i2d (own_sel z0 z1 z2 z3 w0)))), .second, rv sa, iv (2 : Int32), iv (0 : Int32), iv w0] []
    refine XT.iincV X0.here hx rfl (1 : Int32) (hb hby d0_35) (by decide) rfl (l' := #[rv sa, rv za, .val (.double (FP.dmul (4607182418800017408 : UInt64) (FP.i2d (own_sel z0 z1 z2 z3 w0)))), .second, rv sa, iv (2 : Int32), iv (1 : Int32), iv w0]) rfl ?_
    show Go p e below t s₁ m 38 #[rv sa, rv za, .val (.double (FP.dmul (4607182418800017408 : UInt64) (FP.i2d (own_sel z0 z1 z2 z3 w0)))), .second, rv sa, iv (2 : Int32), iv (1 : Int32), iv w0] []
    refine XS.goto X0.here hx rfl (pc0 := 38) (pc' := 13) rfl (hb hby d0_38) (by decide) (by decide) ?_
    show Go p e below t s₁ m 13 #[rv sa, rv za, .val (.double (FP.dmul (4607182418800017408 : UInt64) (FP.i2d (own_sel z0 z1 z2 z3 w0)))), .second, rv sa, iv (2 : Int32), iv (1 : Int32), iv w0] []
    refine XS.iload X0.here hx rfl (hb hby d0_13) rfl ?_
    show Go p e below t s₁ m 15 #[rv sa, rv za, .val (.double (FP.dmul (4607182418800017408 : UInt64) (FP.i2d (own_sel z0 z1 z2 z3 w0)))), .second, rv sa, iv (2 : Int32), iv (1 : Int32), iv w0] [(.int (1 : Int32))]
    refine XS.iload X0.here hx rfl (hb hby d0_15) rfl ?_
    show Go p e below t s₁ m 17 #[rv sa, rv za, .val (.double (FP.dmul (4607182418800017408 : UInt64) (FP.i2d (own_sel z0 z1 z2 z3 w0)))), .second, rv sa, iv (2 : Int32), iv (1 : Int32), iv w0] [(.int (2 : Int32)), (.int (1 : Int32))]
    refine XS.icmpNo X0.here hx rfl (hb hby d0_17) rfl (XT.ii_ge_f (by decide)) ?_
    show Go p e below t s₁ m 20 #[rv sa, rv za, .val (.double (FP.dmul (4607182418800017408 : UInt64) (FP.i2d (own_sel z0 z1 z2 z3 w0)))), .second, rv sa, iv (2 : Int32), iv (1 : Int32), iv w0] []
    refine XS.aload X0.here hx rfl (hb hby d0_20) rfl rfl ?_
    show Go p e below t s₁ m 22 #[rv sa, rv za, .val (.double (FP.dmul (4607182418800017408 : UInt64) (FP.i2d (own_sel z0 z1 z2 z3 w0)))), .second, rv sa, iv (2 : Int32), iv (1 : Int32), iv w0] [(.ref sa)]
    refine XS.iload X0.here hx rfl (hb hby d0_22) rfl ?_
    show Go p e below t s₁ m 24 #[rv sa, rv za, .val (.double (FP.dmul (4607182418800017408 : UInt64) (FP.i2d (own_sel z0 z1 z2 z3 w0)))), .second, rv sa, iv (2 : Int32), iv (1 : Int32), iv w0] [(.int (1 : Int32)), (.ref sa)]
    exact k)
  obtain ⟨cl18, Ar18, q18, S18, M18, H18, G18⟩ := id P0
  have g19 : Goes p e below S0 (s₁.setTop (mkF m 31 #[rv sa, rv za, .val (.double (FP.dmul (4607182418800017408 : UInt64) (FP.i2d (own_sel z0 z1 z2 z3 w0)))), .second, rv sa, iv (2 : Int32), iv (1 : Int32), iv w1] [(.int w1), (.ref za), (.double (FP.dmul (4607182418800017408 : UInt64) (FP.i2d (own_sel z0 z1 z2 z3 w0))))])) := fun t k => g17 t (by
    refine X0.iaload hx (j := (1 : Int32)) (v := (.int w1)) (by rw [e0]; exact Ar18.1) (State.isArrayOf_alike hZ.alike Ar18.2.1) Ar18.2.2 (inb_of S18 ⟨by decide, by decide⟩) (H18.at (inb_of S18 ⟨by decide, by decide⟩) rfl) (g := (mkF m 24 #[rv sa, rv za, .val (.double (FP.dmul (4607182418800017408 : UInt64) (FP.i2d (own_sel z0 z1 z2 z3 w0)))), .second, rv sa, iv (2 : Int32), iv (1 : Int32), iv w0] [(.int (1 : Int32)), (.ref sa)])) rfl rfl (hb hby d0_24) _ ?_
    show Go p e below t s₁ m 25 #[rv sa, rv za, .val (.double (FP.dmul (4607182418800017408 : UInt64) (FP.i2d (own_sel z0 z1 z2 z3 w0)))), .second, rv sa, iv (2 : Int32), iv (1 : Int32), iv w0] [(.int w1)]
    refine XS.istore X0.here hx rfl (hb hby d0_25) rfl (l' := #[rv sa, rv za, .val (.double (FP.dmul (4607182418800017408 : UInt64) (FP.i2d (own_sel z0 z1 z2 z3 w0)))), .second, rv sa, iv (2 : Int32), iv (1 : Int32), iv w1]) rfl ?_
    show Go p e below t s₁ m 27 #[rv sa, rv za, .val (.double (FP.dmul (4607182418800017408 : UInt64) (FP.i2d (own_sel z0 z1 z2 z3 w0)))), .second, rv sa, iv (2 : Int32), iv (1 : Int32), iv w1] []
    refine XS.dloadN X0.here hx rfl (hb hby d0_27) rfl ?_
    show Go p e below t s₁ m 28 #[rv sa, rv za, .val (.double (FP.dmul (4607182418800017408 : UInt64) (FP.i2d (own_sel z0 z1 z2 z3 w0)))), .second, rv sa, iv (2 : Int32), iv (1 : Int32), iv w1] [(.double (FP.dmul (4607182418800017408 : UInt64) (FP.i2d (own_sel z0 z1 z2 z3 w0))))]
    refine XS.aloadN X0.here hx rfl (hb hby d0_28) rfl rfl ?_
    show Go p e below t s₁ m 29 #[rv sa, rv za, .val (.double (FP.dmul (4607182418800017408 : UInt64) (FP.i2d (own_sel z0 z1 z2 z3 w0)))), .second, rv sa, iv (2 : Int32), iv (1 : Int32), iv w1] [(.ref za), (.double (FP.dmul (4607182418800017408 : UInt64) (FP.i2d (own_sel z0 z1 z2 z3 w0))))]
    refine XS.iload X0.here hx rfl (hb hby d0_29) rfl ?_
    show Go p e below t s₁ m 31 #[rv sa, rv za, .val (.double (FP.dmul (4607182418800017408 : UInt64) (FP.i2d (own_sel z0 z1 z2 z3 w0)))), .second, rv sa, iv (2 : Int32), iv (1 : Int32), iv w1] [(.int w1), (.ref za), (.double (FP.dmul (4607182418800017408 : UInt64) (FP.i2d (own_sel z0 z1 z2 z3 w0))))]
    exact k)
  obtain ⟨cl20, Ar20, q20, S20, M20, H20, G20⟩ := id P1
  have g21 : Goes p e below S0 (s₁.setTop (mkF m 42 #[rv sa, rv za, .val (.double (FP.dmul (FP.dmul (4607182418800017408 : UInt64) (FP.i2d (own_sel z0 z1 z2 z3 w0))) (FP.i2d (own_sel z0 z1 z2 z3 w1)))), .second, rv sa, iv (2 : Int32), iv (2 : Int32), iv w1] [(.double (FP.dmul (FP.dmul (4607182418800017408 : UInt64) (FP.i2d (own_sel z0 z1 z2 z3 w0))) (FP.i2d (own_sel z0 z1 z2 z3 w1))))])) := fun t k => g19 t (by
    refine X0.iaload hx (j := w1) (v := (.int (own_sel z0 z1 z2 z3 w1))) (by rw [e0]; exact Ar20.1) (State.isArrayOf_alike hZ.alike Ar20.2.1) Ar20.2.2 (inb_of S20 (own_in bw1)) (H20.at (inb_of S20 (own_in bw1)) (own_at bw1 _ _ _ _)) (g := (mkF m 31 #[rv sa, rv za, .val (.double (FP.dmul (4607182418800017408 : UInt64) (FP.i2d (own_sel z0 z1 z2 z3 w0)))), .second, rv sa, iv (2 : Int32), iv (1 : Int32), iv w1] [(.int w1), (.ref za), (.double (FP.dmul (4607182418800017408 : UInt64) (FP.i2d (own_sel z0 z1 z2 z3 w0))))])) rfl rfl (hb hby d0_31) _ ?_
    show Go p e below t s₁ m 32 #[rv sa, rv za, .val (.double (FP.dmul (4607182418800017408 : UInt64) (FP.i2d (own_sel z0 z1 z2 z3 w0)))), .second, rv sa, iv (2 : Int32), iv (1 : Int32), iv w1] [(.int (own_sel z0 z1 z2 z3 w1)), (.double (FP.dmul (4607182418800017408 : UInt64) (FP.i2d (own_sel z0 z1 z2 z3 w0))))]
    refine XS.i2dS X0.here hx rfl (hb hby d0_32) rfl rfl ?_
    show Go p e below t s₁ m 33 #[rv sa, rv za, .val (.double (FP.dmul (4607182418800017408 : UInt64) (FP.i2d (own_sel z0 z1 z2 z3 w0)))), .second, rv sa, iv (2 : Int32), iv (1 : Int32), iv w1] [(.double (FP.i2d (own_sel z0 z1 z2 z3 w1))), (.double (FP.dmul (4607182418800017408 : UInt64) (FP.i2d (own_sel z0 z1 z2 z3 w0))))]
    refine XS.dmulS X0.here hx rfl (hb hby d0_33) rfl (nn33_1 bw0 bw1) rfl ?_
    show Go p e below t s₁ m 34 #[rv sa, rv za, .val (.double (FP.dmul (4607182418800017408 : UInt64) (FP.i2d (own_sel z0 z1 z2 z3 w0)))), .second, rv sa, iv (2 : Int32), iv (1 : Int32), iv w1] [(.double (FP.dmul (FP.dmul (4607182418800017408 : UInt64) (FP.i2d (own_sel z0 z1 z2 z3 w0))) (FP.i2d (own_sel z0 z1 z2 z3 w1))))]
    refine XS.dstoreN X0.here hx rfl (hb hby d0_34) rfl (l' := #[rv sa, rv za, .val (.double (FP.dmul (FP.dmul (4607182418800017408 : UInt64) (FP.i2d (own_sel z0 z1 z2 z3 w0))) (FP.i2d (own_sel z0 z1 z2 z3 w1)))), .second, rv sa, iv (2 : Int32), iv (1 : Int32), iv w1]) rfl ?_
    show Go p e below t s₁ m 35 #[rv sa, rv za, .val (.double (FP.dmul (FP.dmul (4607182418800017408 : UInt64) (FP.i2d (own_sel z0 z1 z2 z3 w0))) (FP.i2d (own_sel z0 z1 z2 z3 w1)))), .second, rv sa, iv (2 : Int32), iv (1 : Int32), iv w1] []
    refine XT.iincV X0.here hx rfl (1 : Int32) (hb hby d0_35) (by decide) rfl (l' := #[rv sa, rv za, .val (.double (FP.dmul (FP.dmul (4607182418800017408 : UInt64) (FP.i2d (own_sel z0 z1 z2 z3 w0))) (FP.i2d (own_sel z0 z1 z2 z3 w1)))), .second, rv sa, iv (2 : Int32), iv (2 : Int32), iv w1]) rfl ?_
    show Go p e below t s₁ m 38 #[rv sa, rv za, .val (.double (FP.dmul (FP.dmul (4607182418800017408 : UInt64) (FP.i2d (own_sel z0 z1 z2 z3 w0))) (FP.i2d (own_sel z0 z1 z2 z3 w1)))), .second, rv sa, iv (2 : Int32), iv (2 : Int32), iv w1] []
    refine XS.goto X0.here hx rfl (pc0 := 38) (pc' := 13) rfl (hb hby d0_38) (by decide) (by decide) ?_
    show Go p e below t s₁ m 13 #[rv sa, rv za, .val (.double (FP.dmul (FP.dmul (4607182418800017408 : UInt64) (FP.i2d (own_sel z0 z1 z2 z3 w0))) (FP.i2d (own_sel z0 z1 z2 z3 w1)))), .second, rv sa, iv (2 : Int32), iv (2 : Int32), iv w1] []
    refine XS.iload X0.here hx rfl (hb hby d0_13) rfl ?_
    show Go p e below t s₁ m 15 #[rv sa, rv za, .val (.double (FP.dmul (FP.dmul (4607182418800017408 : UInt64) (FP.i2d (own_sel z0 z1 z2 z3 w0))) (FP.i2d (own_sel z0 z1 z2 z3 w1)))), .second, rv sa, iv (2 : Int32), iv (2 : Int32), iv w1] [(.int (2 : Int32))]
    refine XS.iload X0.here hx rfl (hb hby d0_15) rfl ?_
    show Go p e below t s₁ m 17 #[rv sa, rv za, .val (.double (FP.dmul (FP.dmul (4607182418800017408 : UInt64) (FP.i2d (own_sel z0 z1 z2 z3 w0))) (FP.i2d (own_sel z0 z1 z2 z3 w1)))), .second, rv sa, iv (2 : Int32), iv (2 : Int32), iv w1] [(.int (2 : Int32)), (.int (2 : Int32))]
    refine XS.icmpYes X0.here hx rfl (pc0 := 17) (pc' := 41) rfl (hb hby d0_17) rfl (XT.ii_ge_t (by decide)) (by decide) (by decide) ?_
    show Go p e below t s₁ m 41 #[rv sa, rv za, .val (.double (FP.dmul (FP.dmul (4607182418800017408 : UInt64) (FP.i2d (own_sel z0 z1 z2 z3 w0))) (FP.i2d (own_sel z0 z1 z2 z3 w1)))), .second, rv sa, iv (2 : Int32), iv (2 : Int32), iv w1] []
    refine XS.dloadN X0.here hx rfl (hb hby d0_41) rfl ?_
    show Go p e below t s₁ m 42 #[rv sa, rv za, .val (.double (FP.dmul (FP.dmul (4607182418800017408 : UInt64) (FP.i2d (own_sel z0 z1 z2 z3 w0))) (FP.i2d (own_sel z0 z1 z2 z3 w1)))), .second, rv sa, iv (2 : Int32), iv (2 : Int32), iv w1] [(.double (FP.dmul (FP.dmul (4607182418800017408 : UInt64) (FP.i2d (own_sel z0 z1 z2 z3 w0))) (FP.i2d (own_sel z0 z1 z2 z3 w1))))]
    exact k)
  obtain ⟨fs, hr, hrun, hended, hW, hsame⟩ := X0.leave (v := some (.double (FP.dmul (FP.dmul (4607182418800017408 : UInt64) (FP.i2d (own_sel z0 z1 z2 z3 w0))) (FP.i2d (own_sel z0 z1 z2 z3 w1))))) (fun h => by rw [Bd.returns] at h; cases h)
  refine ⟨_, _, g21 _ (retOut X0 hx Bd.returns rfl (Or.inr (Or.inr (Or.inl ⟨rfl, rfl, _, rfl⟩))) (hb hby d0_42) hr), hrun, hended, _, _, rfl, ?_, ⟨_, rfl⟩, hW, hsame.mono (by decide) (by decide)⟩
  show Q_ent2 Z sa za k1 k2 w0 w1 z0 z1 z2 z3 h0 n0 _ s₁.heap _
  rw [e0]
  exact ⟨rfl, N0, rfl⟩
theorem pf_ent3 : plainFor (⟨"com/example/aristotle/aristotle/EliminationPlan", "entries", "([I[I)D"⟩ : MethodName) = true := by first | exact plainFor_of_name (by first | (simp [plainName, overriddenIn, x]; done) | decide +kernel) | exact Jvm.Free.JP.mathPlain rfl (by decide +kernel) | decide +kernel
theorem ef_ent3 (m : MethodId) (sa : Addr) (za : Addr) : entryFrame m #[(.ref sa), (.ref za)] 8 = mkF m 0 #[rv sa, rv za, .unset, .unset, .unset, .unset, .unset, .unset] [] := by first | (simp [entryFrame, mkF, argsToLocals, Value.category, maxLocals]; done) | rfl
def f_ent3 (w0 : Int32) (w1 : Int32) (w2 : Int32) (z0 : Int32) (z1 : Int32) (z2 : Int32) (z3 : Int32) : UInt64 := (FP.dmul (FP.dmul (FP.dmul (4607182418800017408 : UInt64) (FP.i2d (own_sel z0 z1 z2 z3 w0))) (FP.i2d (own_sel z0 z1 z2 z3 w1))) (FP.i2d (own_sel z0 z1 z2 z3 w2)))
def Q_ent3 (Z : State) (sa : Addr) (za : Addr) (k1 : ClassId) (k2 : ClassId) (w0 : Int32) (w1 : Int32) (w2 : Int32) (z0 : Int32) (z1 : Int32) (z2 : Int32) (z3 : Int32) (h0 : Heap) (n0 : Nat) (v : Option Value) (h : Heap) (L : List Loc) : Prop := v = some (.double (f_ent3 w0 w1 w2 z0 z1 z2 z3)) ∧ Fr n0 L ∧ h = h0
set_option maxRecDepth 65536 in
set_option maxHeartbeats 40000000 in
theorem rm_ent3 (l : Launch) (Z : State) (a0 : Array Value) (hw : ∀ d ∈ tables_1, d.before a0 Z = true) (ws : List Jvm.Cond) (sa : Addr) (za : Addr) (k1 : ClassId) (k2 : ClassId) (w0 : Int32) (w1 : Int32) (w2 : Int32) (z0 : Int32) (z1 : Int32) (z2 : Int32) (z3 : Int32) (h0 : Heap) (n0 : Nat) (Z0 : n0 ≤ h0.size) (P0 : Arv Z h0 sa k1 .int (3 : Int32) [(.int w0), (.int w1), (.int w2)] (.int (0 : Int32))) (P1 : Arv Z h0 za k2 .int (4 : Int32) [(.int z0), (.int z1), (.int z2), (.int z3)] (.int (0 : Int32))) (bw0 : 0 ≤ w0.toInt ∧ w0.toInt < 4) (bw1 : 0 ≤ w1.toInt ∧ w1.toInt < 4) (bw2 : 0 ≤ w2.toInt ∧ w2.toInt < 4) (nn33 : 0 ≤ w0.toInt ∧ w0.toInt < 4 → 0 ≤ w1.toInt ∧ w1.toInt < 4 → 0 ≤ w2.toInt ∧ w2.toInt < 4 → Jvm.Free.Fl.NoNaN64 (FP.dmul (4607182418800017408 : UInt64) (FP.i2d (own_sel z0 z1 z2 z3 w0)))) (nn33_1 : 0 ≤ w0.toInt ∧ w0.toInt < 4 → 0 ≤ w1.toInt ∧ w1.toInt < 4 → 0 ≤ w2.toInt ∧ w2.toInt < 4 → Jvm.Free.Fl.NoNaN64 (FP.dmul (FP.dmul (4607182418800017408 : UInt64) (FP.i2d (own_sel z0 z1 z2 z3 w0))) (FP.i2d (own_sel z0 z1 z2 z3 w1)))) (nn33_2 : 0 ≤ w0.toInt ∧ w0.toInt < 4 → 0 ≤ w1.toInt ∧ w1.toInt < 4 → 0 ≤ w2.toInt ∧ w2.toInt < 4 → Jvm.Free.Fl.NoNaN64 (FP.dmul (FP.dmul (FP.dmul (4607182418800017408 : UInt64) (FP.i2d (own_sel z0 z1 z2 z3 w0))) (FP.i2d (own_sel z0 z1 z2 z3 w1))) (FP.i2d (own_sel z0 z1 z2 z3 w2)))) :
    MetFree l (⟨"com/example/aristotle/aristotle/EliminationPlan", "entries", "([I[I)D"⟩ : MethodName) (head1 (Jvm.Cond.code (⟨"com/example/aristotle/aristotle/EliminationPlan", "entries", "([I[I)D"⟩ : MethodName) prog_47_method_2_code 8 (some .double) :: ws) ({ frames := 0, cells := 0, slots := 0, locals := 0 } : Room)) (fun a U => a = #[(.ref sa), (.ref za)] ∧ Z.Warmed39 U.vm ∧ U.heap = h0) (fun _ _ _ _ _ => True) (fun _ U o U' => ∃ v L, o = .returned v ∧ Q_ent3 Z sa za k1 k2 w0 w1 w2 z0 z1 z2 z3 h0 n0 v U'.heap L ∧ FrameEnd U o U' L ({ frames := 0, cells := 0, slots := 0, locals := 0 } : Room).cells ({ frames := 0, cells := 0, slots := 0, locals := 0 } : Room).slots) := by
  refine MetFree.of_bodySF pf_ent3 hisR ?_
  intro p e s m args below meth c s₁ Bd hml0 hP hK
  obtain ⟨rfl, hZ, hh⟩ := hP
  have hx := Bd.exec
  have hby := Bd.bytes
  have hml : c.maxLocals = 8 := hml0
  have hown : s.vm.findClass "com/example/aristotle/aristotle/EliminationPlan" = some m.cls := findClass_of_methodNamed Bd.named
  have hnm := (name_of_methodNamed Bd.named Bd.method).1
  have X0 : Stand p l e ({ frames := 0, cells := 0, slots := 0, locals := 0 } : Room) s m #[(.ref sa), (.ref za)] below meth c s₁ [] 0 0 := Stand.of_body Bd
  have e0 : s₁.heap = h0 := by rw [← hh, Bd.state]; rfl
  have N0 := Fr.nil n0
  obtain ⟨S0, hS0⟩ : ∃ z, z = s₁.setTop (entryFrame m #[(.ref sa), (.ref za)] 8) := ⟨_, rfl⟩
  rw [← hS0]
  have g0 : Goes p e below S0 (s₁.setTop (mkF m 0 #[rv sa, rv za, .unset, .unset, .unset, .unset, .unset, .unset] [])) := fun t k => by rw [hS0]; exact castTop (ef_ent3 m sa za) k
  have g22 : Goes p e below S0 (s₁.setTop (mkF m 7 #[rv sa, rv za, .val (.double (4607182418800017408 : UInt64)), .second, rv sa, .unset, .unset, .unset] [(.ref sa)])) := fun t k => g0 t (by
    refine XS.dconst1 X0.here hx rfl (hb hby d0_0) (v := (4607182418800017408 : UInt64)) rfl ?_
    show Go p e below t s₁ m 1 #[rv sa, rv za, .unset, .unset, .unset, .unset, .unset, .unset] [(.double (4607182418800017408 : UInt64))]
    refine XS.dstoreN X0.here hx rfl (hb hby d0_1) rfl (l' := #[rv sa, rv za, .val (.double (4607182418800017408 : UInt64)), .second, .unset, .unset, .unset, .unset]) rfl ?_
    show Go p e below t s₁ m 2 #[rv sa, rv za, .val (.double (4607182418800017408 : UInt64)), .second, .unset, .unset, .unset, .unset] []
    refine XS.aloadN X0.here hx rfl (hb hby d0_2) rfl rfl ?_
    show Go p e below t s₁ m 3 #[rv sa, rv za, .val (.double (4607182418800017408 : UInt64)), .second, .unset, .unset, .unset, .unset] [(.ref sa)]
    refine XS.astore X0.here hx rfl (hb hby d0_3) rfl rfl (l' := #[rv sa, rv za, .val (.double (4607182418800017408 : UInt64)), .second, rv sa, .unset, .unset, .unset]) rfl ?_
    show Go p e below t s₁ m 5 #[rv sa, rv za, .val (.double (4607182418800017408 : UInt64)), .second, rv sa, .unset, .unset, .unset] []
    refine XS.aload X0.here hx rfl (hb hby d0_5) rfl rfl ?_
    show Go p e below t s₁ m 7 #[rv sa, rv za, .val (.double (4607182418800017408 : UInt64)), .second, rv sa, .unset, .unset, .unset] [(.ref sa)]
    exact k)
  obtain ⟨cl23, Ar23, q23, S23, M23, H23, G23⟩ := id P0
  have g24 : Goes p e below S0 (s₁.setTop (mkF m 24 #[rv sa, rv za, .val (.double (4607182418800017408 : UInt64)), .second, rv sa, iv (3 : Int32), iv (0 : Int32), .unset] [(.int (0 : Int32)), (.ref sa)])) := fun t k => g22 t (by
    refine X0.arraylength hx (by rw [e0]; exact Ar23.1) (State.isArrayOf_alike hZ.alike Ar23.2.1) (g := (mkF m 7 #[rv sa, rv za, .val (.double (4607182418800017408 : UInt64)), .second, rv sa, .unset, .unset, .unset] [(.ref sa)])) rfl rfl (hb hby d0_7) _ ?_
    rw [len_of S23 M23]
    show Go p e below t s₁ m 8 #[rv sa, rv za, .val (.double (4607182418800017408 : UInt64)), .second, rv sa, .unset, .unset, .unset] [(.int (3 : Int32))]
    refine XS.istore X0.here hx rfl (hb hby d0_8) rfl (l' := #[rv sa, rv za, .val (.double (4607182418800017408 : UInt64)), .second, rv sa, iv (3 : Int32), .unset, .unset]) rfl ?_
    show Go p e below t s₁ m 10 #[rv sa, rv za, .val (.double (4607182418800017408 : UInt64)), .second, rv sa, iv (3 : Int32), .unset, .unset] []
    refine XT.iconstV X0.here hx rfl (0 : Int32) (hb hby d0_10) (by decide) ?_
    show Go p e below t s₁ m 11 #[rv sa, rv za, .val (.double (4607182418800017408 : UInt64)), .second, rv sa, iv (3 : Int32), .unset, .unset] [(.int (0 : Int32))]
    refine XS.istore X0.here hx rfl (hb hby d0_11) rfl (l' := #[rv sa, rv za, .val (.double (4607182418800017408 : UInt64)), .second, rv sa, iv (3 : Int32), iv (0 : Int32), .unset]) rfl ?_
    show Go p e below t s₁ m 13 #[rv sa, rv za, .val (.double (4607182418800017408 : UInt64)), .second, rv sa, iv (3 : Int32), iv (0 : Int32), .unset] []
    refine XS.iload X0.here hx rfl (hb hby d0_13) rfl ?_
    show Go p e below t s₁ m 15 #[rv sa, rv za, .val (.double (4607182418800017408 : UInt64)), .second, rv sa, iv (3 : Int32), iv (0 : Int32), .unset] [(.int (0 : Int32))]
    refine XS.iload X0.here hx rfl (hb hby d0_15) rfl ?_
    show Go p e below t s₁ m 17 #[rv sa, rv za, .val (.double (4607182418800017408 : UInt64)), .second, rv sa, iv (3 : Int32), iv (0 : Int32), .unset] [(.int (3 : Int32)), (.int (0 : Int32))]
    refine XS.icmpNo X0.here hx rfl (hb hby d0_17) rfl (XT.ii_ge_f (by decide)) ?_
    show Go p e below t s₁ m 20 #[rv sa, rv za, .val (.double (4607182418800017408 : UInt64)), .second, rv sa, iv (3 : Int32), iv (0 : Int32), .unset] []
    refine XS.aload X0.here hx rfl (hb hby d0_20) rfl rfl ?_
    show Go p e below t s₁ m 22 #[rv sa, rv za, .val (.double (4607182418800017408 : UInt64)), .second, rv sa, iv (3 : Int32), iv (0 : Int32), .unset] [(.ref sa)]
    refine XS.iload X0.here hx rfl (hb hby d0_22) rfl ?_
    show Go p e below t s₁ m 24 #[rv sa, rv za, .val (.double (4607182418800017408 : UInt64)), .second, rv sa, iv (3 : Int32), iv (0 : Int32), .unset] [(.int (0 : Int32)), (.ref sa)]
    exact k)
  obtain ⟨cl25, Ar25, q25, S25, M25, H25, G25⟩ := id P0
  have g26 : Goes p e below S0 (s₁.setTop (mkF m 31 #[rv sa, rv za, .val (.double (4607182418800017408 : UInt64)), .second, rv sa, iv (3 : Int32), iv (0 : Int32), iv w0] [(.int w0), (.ref za), (.double (4607182418800017408 : UInt64))])) := fun t k => g24 t (by
    refine X0.iaload hx (j := (0 : Int32)) (v := (.int w0)) (by rw [e0]; exact Ar25.1) (State.isArrayOf_alike hZ.alike Ar25.2.1) Ar25.2.2 (inb_of S25 ⟨by decide, by decide⟩) (H25.at (inb_of S25 ⟨by decide, by decide⟩) rfl) (g := (mkF m 24 #[rv sa, rv za, .val (.double (4607182418800017408 : UInt64)), .second, rv sa, iv (3 : Int32), iv (0 : Int32), .unset] [(.int (0 : Int32)), (.ref sa)])) rfl rfl (hb hby d0_24) _ ?_
    show Go p e below t s₁ m 25 #[rv sa, rv za, .val (.double (4607182418800017408 : UInt64)), .second, rv sa, iv (3 : Int32), iv (0 : Int32), .unset] [(.int w0)]
    refine XS.istore X0.here hx rfl (hb hby d0_25) rfl (l' := #[rv sa, rv za, .val (.double (4607182418800017408 : UInt64)), .second, rv sa, iv (3 : Int32), iv (0 : Int32), iv w0]) rfl ?_
    show Go p e below t s₁ m 27 #[rv sa, rv za, .val (.double (4607182418800017408 : UInt64)), .second, rv sa, iv (3 : Int32), iv (0 : Int32), iv w0] []
    refine XS.dloadN X0.here hx rfl (hb hby d0_27) rfl ?_
    show Go p e below t s₁ m 28 #[rv sa, rv za, .val (.double (4607182418800017408 : UInt64)), .second, rv sa, iv (3 : Int32), iv (0 : Int32), iv w0] [(.double (4607182418800017408 : UInt64))]
    refine XS.aloadN X0.here hx rfl (hb hby d0_28) rfl rfl ?_
    show Go p e below t s₁ m 29 #[rv sa, rv za, .val (.double (4607182418800017408 : UInt64)), .second, rv sa, iv (3 : Int32), iv (0 : Int32), iv w0] [(.ref za), (.double (4607182418800017408 : UInt64))]
    refine XS.iload X0.here hx rfl (hb hby d0_29) rfl ?_
    show Go p e below t s₁ m 31 #[rv sa, rv za, .val (.double (4607182418800017408 : UInt64)), .second, rv sa, iv (3 : Int32), iv (0 : Int32), iv w0] [(.int w0), (.ref za), (.double (4607182418800017408 : UInt64))]
    exact k)
  obtain ⟨cl27, Ar27, q27, S27, M27, H27, G27⟩ := id P1
  have g28 : Goes p e below S0 (s₁.setTop (mkF m 24 #[rv sa, rv za, .val (.double (FP.dmul (4607182418800017408 : UInt64) (FP.i2d (own_sel z0 z1 z2 z3 w0)))), .second, rv sa, iv (3 : Int32), iv (1 : Int32), iv w0] [(.int (1 : Int32)), (.ref sa)])) := fun t k => g26 t (by
    refine X0.iaload hx (j := w0) (v := (.int (own_sel z0 z1 z2 z3 w0))) (by rw [e0]; exact Ar27.1) (State.isArrayOf_alike hZ.alike Ar27.2.1) Ar27.2.2 (inb_of S27 (own_in bw0)) (H27.at (inb_of S27 (own_in bw0)) (own_at bw0 _ _ _ _)) (g := (mkF m 31 #[rv sa, rv za, .val (.double (4607182418800017408 : UInt64)), .second, rv sa, iv (3 : Int32), iv (0 : Int32), iv w0] [(.int w0), (.ref za), (.double (4607182418800017408 : UInt64))])) rfl rfl (hb hby d0_31) _ ?_
    show Go p e below t s₁ m 32 #[rv sa, rv za, .val (.double (4607182418800017408 : UInt64)), .second, rv sa, iv (3 : Int32), iv (0 : Int32), iv w0] [(.int (own_sel z0 z1 z2 z3 w0)), (.double (4607182418800017408 : UInt64))]
    refine XS.i2dS X0.here hx rfl (hb hby d0_32) rfl rfl ?_
    show Go p e below t s₁ m 33 #[rv sa, rv za, .val (.double (4607182418800017408 : UInt64)), .second, rv sa, iv (3 : Int32), iv (0 : Int32), iv w0] [(.double (FP.i2d (own_sel z0 z1 z2 z3 w0))), (.double (4607182418800017408 : UInt64))]
    refine XS.dmulS X0.here hx rfl (hb hby d0_33) rfl (nn33 bw0 bw1 bw2) rfl ?_
    show Go p e below t s₁ m 34 #[rv sa, rv za, .val (.double (4607182418800017408 : UInt64)), .second, rv sa, iv (3 : Int32), iv (0 : Int32), iv w0] [(.double (FP.dmul (4607182418800017408 : UInt64) (FP.i2d (own_sel z0 z1 z2 z3 w0))))]
    refine XS.dstoreN X0.here hx rfl (hb hby d0_34) rfl (l' := #[rv sa, rv za, .val (.double (FP.dmul (4607182418800017408 : UInt64) (FP.i2d (own_sel z0 z1 z2 z3 w0)))), .second, rv sa, iv (3 : Int32), iv (0 : Int32), iv w0]) rfl ?_
    show Go p e below t s₁ m 35 #[rv sa, rv za, .val (.double (FP.dmul (4607182418800017408 : UInt64) (FP.i2d (own_sel z0 z1 z2 z3 w0)))), .second, rv sa, iv (3 : Int32), iv (0 : Int32), iv w0] []
    refine XT.iincV X0.here hx rfl (1 : Int32) (hb hby d0_35) (by decide) rfl (l' := #[rv sa, rv za, .val (.double (FP.dmul (4607182418800017408 : UInt64) (FP.i2d (own_sel z0 z1 z2 z3 w0)))), .second, rv sa, iv (3 : Int32), iv (1 : Int32), iv w0]) rfl ?_
    show Go p e below t s₁ m 38 #[rv sa, rv za, .val (.double (FP.dmul (4607182418800017408 : UInt64) (FP.i2d (own_sel z0 z1 z2 z3 w0)))), .second, rv sa, iv (3 : Int32), iv (1 : Int32), iv w0] []
    refine XS.goto X0.here hx rfl (pc0 := 38) (pc' := 13) rfl (hb hby d0_38) (by decide) (by decide) ?_
    show Go p e below t s₁ m 13 #[rv sa, rv za, .val (.double (FP.dmul (4607182418800017408 : UInt64) (FP.i2d (own_sel z0 z1 z2 z3 w0)))), .second, rv sa, iv (3 : Int32), iv (1 : Int32), iv w0] []
    refine XS.iload X0.here hx rfl (hb hby d0_13) rfl ?_
    show Go p e below t s₁ m 15 #[rv sa, rv za, .val (.double (FP.dmul (4607182418800017408 : UInt64) (FP.i2d (own_sel z0 z1 z2 z3 w0)))), .second, rv sa, iv (3 : Int32), iv (1 : Int32), iv w0] [(.int (1 : Int32))]
    refine XS.iload X0.here hx rfl (hb hby d0_15) rfl ?_
    show Go p e below t s₁ m 17 #[rv sa, rv za, .val (.double (FP.dmul (4607182418800017408 : UInt64) (FP.i2d (own_sel z0 z1 z2 z3 w0)))), .second, rv sa, iv (3 : Int32), iv (1 : Int32), iv w0] [(.int (3 : Int32)), (.int (1 : Int32))]
    refine XS.icmpNo X0.here hx rfl (hb hby d0_17) rfl (XT.ii_ge_f (by decide)) ?_
    show Go p e below t s₁ m 20 #[rv sa, rv za, .val (.double (FP.dmul (4607182418800017408 : UInt64) (FP.i2d (own_sel z0 z1 z2 z3 w0)))), .second, rv sa, iv (3 : Int32), iv (1 : Int32), iv w0] []
    refine XS.aload X0.here hx rfl (hb hby d0_20) rfl rfl ?_
    show Go p e below t s₁ m 22 #[rv sa, rv za, .val (.double (FP.dmul (4607182418800017408 : UInt64) (FP.i2d (own_sel z0 z1 z2 z3 w0)))), .second, rv sa, iv (3 : Int32), iv (1 : Int32), iv w0] [(.ref sa)]
    refine XS.iload X0.here hx rfl (hb hby d0_22) rfl ?_
    show Go p e below t s₁ m 24 #[rv sa, rv za, .val (.double (FP.dmul (4607182418800017408 : UInt64) (FP.i2d (own_sel z0 z1 z2 z3 w0)))), .second, rv sa, iv (3 : Int32), iv (1 : Int32), iv w0] [(.int (1 : Int32)), (.ref sa)]
    exact k)
  obtain ⟨cl29, Ar29, q29, S29, M29, H29, G29⟩ := id P0
  have g30 : Goes p e below S0 (s₁.setTop (mkF m 31 #[rv sa, rv za, .val (.double (FP.dmul (4607182418800017408 : UInt64) (FP.i2d (own_sel z0 z1 z2 z3 w0)))), .second, rv sa, iv (3 : Int32), iv (1 : Int32), iv w1] [(.int w1), (.ref za), (.double (FP.dmul (4607182418800017408 : UInt64) (FP.i2d (own_sel z0 z1 z2 z3 w0))))])) := fun t k => g28 t (by
    refine X0.iaload hx (j := (1 : Int32)) (v := (.int w1)) (by rw [e0]; exact Ar29.1) (State.isArrayOf_alike hZ.alike Ar29.2.1) Ar29.2.2 (inb_of S29 ⟨by decide, by decide⟩) (H29.at (inb_of S29 ⟨by decide, by decide⟩) rfl) (g := (mkF m 24 #[rv sa, rv za, .val (.double (FP.dmul (4607182418800017408 : UInt64) (FP.i2d (own_sel z0 z1 z2 z3 w0)))), .second, rv sa, iv (3 : Int32), iv (1 : Int32), iv w0] [(.int (1 : Int32)), (.ref sa)])) rfl rfl (hb hby d0_24) _ ?_
    show Go p e below t s₁ m 25 #[rv sa, rv za, .val (.double (FP.dmul (4607182418800017408 : UInt64) (FP.i2d (own_sel z0 z1 z2 z3 w0)))), .second, rv sa, iv (3 : Int32), iv (1 : Int32), iv w0] [(.int w1)]
    refine XS.istore X0.here hx rfl (hb hby d0_25) rfl (l' := #[rv sa, rv za, .val (.double (FP.dmul (4607182418800017408 : UInt64) (FP.i2d (own_sel z0 z1 z2 z3 w0)))), .second, rv sa, iv (3 : Int32), iv (1 : Int32), iv w1]) rfl ?_
    show Go p e below t s₁ m 27 #[rv sa, rv za, .val (.double (FP.dmul (4607182418800017408 : UInt64) (FP.i2d (own_sel z0 z1 z2 z3 w0)))), .second, rv sa, iv (3 : Int32), iv (1 : Int32), iv w1] []
    refine XS.dloadN X0.here hx rfl (hb hby d0_27) rfl ?_
    show Go p e below t s₁ m 28 #[rv sa, rv za, .val (.double (FP.dmul (4607182418800017408 : UInt64) (FP.i2d (own_sel z0 z1 z2 z3 w0)))), .second, rv sa, iv (3 : Int32), iv (1 : Int32), iv w1] [(.double (FP.dmul (4607182418800017408 : UInt64) (FP.i2d (own_sel z0 z1 z2 z3 w0))))]
    refine XS.aloadN X0.here hx rfl (hb hby d0_28) rfl rfl ?_
    show Go p e below t s₁ m 29 #[rv sa, rv za, .val (.double (FP.dmul (4607182418800017408 : UInt64) (FP.i2d (own_sel z0 z1 z2 z3 w0)))), .second, rv sa, iv (3 : Int32), iv (1 : Int32), iv w1] [(.ref za), (.double (FP.dmul (4607182418800017408 : UInt64) (FP.i2d (own_sel z0 z1 z2 z3 w0))))]
    refine XS.iload X0.here hx rfl (hb hby d0_29) rfl ?_
    show Go p e below t s₁ m 31 #[rv sa, rv za, .val (.double (FP.dmul (4607182418800017408 : UInt64) (FP.i2d (own_sel z0 z1 z2 z3 w0)))), .second, rv sa, iv (3 : Int32), iv (1 : Int32), iv w1] [(.int w1), (.ref za), (.double (FP.dmul (4607182418800017408 : UInt64) (FP.i2d (own_sel z0 z1 z2 z3 w0))))]
    exact k)
  obtain ⟨cl31, Ar31, q31, S31, M31, H31, G31⟩ := id P1
  have g32 : Goes p e below S0 (s₁.setTop (mkF m 24 #[rv sa, rv za, .val (.double (FP.dmul (FP.dmul (4607182418800017408 : UInt64) (FP.i2d (own_sel z0 z1 z2 z3 w0))) (FP.i2d (own_sel z0 z1 z2 z3 w1)))), .second, rv sa, iv (3 : Int32), iv (2 : Int32), iv w1] [(.int (2 : Int32)), (.ref sa)])) := fun t k => g30 t (by
    refine X0.iaload hx (j := w1) (v := (.int (own_sel z0 z1 z2 z3 w1))) (by rw [e0]; exact Ar31.1) (State.isArrayOf_alike hZ.alike Ar31.2.1) Ar31.2.2 (inb_of S31 (own_in bw1)) (H31.at (inb_of S31 (own_in bw1)) (own_at bw1 _ _ _ _)) (g := (mkF m 31 #[rv sa, rv za, .val (.double (FP.dmul (4607182418800017408 : UInt64) (FP.i2d (own_sel z0 z1 z2 z3 w0)))), .second, rv sa, iv (3 : Int32), iv (1 : Int32), iv w1] [(.int w1), (.ref za), (.double (FP.dmul (4607182418800017408 : UInt64) (FP.i2d (own_sel z0 z1 z2 z3 w0))))])) rfl rfl (hb hby d0_31) _ ?_
    show Go p e below t s₁ m 32 #[rv sa, rv za, .val (.double (FP.dmul (4607182418800017408 : UInt64) (FP.i2d (own_sel z0 z1 z2 z3 w0)))), .second, rv sa, iv (3 : Int32), iv (1 : Int32), iv w1] [(.int (own_sel z0 z1 z2 z3 w1)), (.double (FP.dmul (4607182418800017408 : UInt64) (FP.i2d (own_sel z0 z1 z2 z3 w0))))]
    refine XS.i2dS X0.here hx rfl (hb hby d0_32) rfl rfl ?_
    show Go p e below t s₁ m 33 #[rv sa, rv za, .val (.double (FP.dmul (4607182418800017408 : UInt64) (FP.i2d (own_sel z0 z1 z2 z3 w0)))), .second, rv sa, iv (3 : Int32), iv (1 : Int32), iv w1] [(.double (FP.i2d (own_sel z0 z1 z2 z3 w1))), (.double (FP.dmul (4607182418800017408 : UInt64) (FP.i2d (own_sel z0 z1 z2 z3 w0))))]
    refine XS.dmulS X0.here hx rfl (hb hby d0_33) rfl (nn33_1 bw0 bw1 bw2) rfl ?_
    show Go p e below t s₁ m 34 #[rv sa, rv za, .val (.double (FP.dmul (4607182418800017408 : UInt64) (FP.i2d (own_sel z0 z1 z2 z3 w0)))), .second, rv sa, iv (3 : Int32), iv (1 : Int32), iv w1] [(.double (FP.dmul (FP.dmul (4607182418800017408 : UInt64) (FP.i2d (own_sel z0 z1 z2 z3 w0))) (FP.i2d (own_sel z0 z1 z2 z3 w1))))]
    refine XS.dstoreN X0.here hx rfl (hb hby d0_34) rfl (l' := #[rv sa, rv za, .val (.double (FP.dmul (FP.dmul (4607182418800017408 : UInt64) (FP.i2d (own_sel z0 z1 z2 z3 w0))) (FP.i2d (own_sel z0 z1 z2 z3 w1)))), .second, rv sa, iv (3 : Int32), iv (1 : Int32), iv w1]) rfl ?_
    show Go p e below t s₁ m 35 #[rv sa, rv za, .val (.double (FP.dmul (FP.dmul (4607182418800017408 : UInt64) (FP.i2d (own_sel z0 z1 z2 z3 w0))) (FP.i2d (own_sel z0 z1 z2 z3 w1)))), .second, rv sa, iv (3 : Int32), iv (1 : Int32), iv w1] []
    refine XT.iincV X0.here hx rfl (1 : Int32) (hb hby d0_35) (by decide) rfl (l' := #[rv sa, rv za, .val (.double (FP.dmul (FP.dmul (4607182418800017408 : UInt64) (FP.i2d (own_sel z0 z1 z2 z3 w0))) (FP.i2d (own_sel z0 z1 z2 z3 w1)))), .second, rv sa, iv (3 : Int32), iv (2 : Int32), iv w1]) rfl ?_
    show Go p e below t s₁ m 38 #[rv sa, rv za, .val (.double (FP.dmul (FP.dmul (4607182418800017408 : UInt64) (FP.i2d (own_sel z0 z1 z2 z3 w0))) (FP.i2d (own_sel z0 z1 z2 z3 w1)))), .second, rv sa, iv (3 : Int32), iv (2 : Int32), iv w1] []
    refine XS.goto X0.here hx rfl (pc0 := 38) (pc' := 13) rfl (hb hby d0_38) (by decide) (by decide) ?_
    show Go p e below t s₁ m 13 #[rv sa, rv za, .val (.double (FP.dmul (FP.dmul (4607182418800017408 : UInt64) (FP.i2d (own_sel z0 z1 z2 z3 w0))) (FP.i2d (own_sel z0 z1 z2 z3 w1)))), .second, rv sa, iv (3 : Int32), iv (2 : Int32), iv w1] []
    refine XS.iload X0.here hx rfl (hb hby d0_13) rfl ?_
    show Go p e below t s₁ m 15 #[rv sa, rv za, .val (.double (FP.dmul (FP.dmul (4607182418800017408 : UInt64) (FP.i2d (own_sel z0 z1 z2 z3 w0))) (FP.i2d (own_sel z0 z1 z2 z3 w1)))), .second, rv sa, iv (3 : Int32), iv (2 : Int32), iv w1] [(.int (2 : Int32))]
    refine XS.iload X0.here hx rfl (hb hby d0_15) rfl ?_
    show Go p e below t s₁ m 17 #[rv sa, rv za, .val (.double (FP.dmul (FP.dmul (4607182418800017408 : UInt64) (FP.i2d (own_sel z0 z1 z2 z3 w0))) (FP.i2d (own_sel z0 z1 z2 z3 w1)))), .second, rv sa, iv (3 : Int32), iv (2 : Int32), iv w1] [(.int (3 : Int32)), (.int (2 : Int32))]
    refine XS.icmpNo X0.here hx rfl (hb hby d0_17) rfl (XT.ii_ge_f (by decide)) ?_
    show Go p e below t s₁ m 20 #[rv sa, rv za, .val (.double (FP.dmul (FP.dmul (4607182418800017408 : UInt64) (FP.i2d (own_sel z0 z1 z2 z3 w0))) (FP.i2d (own_sel z0 z1 z2 z3 w1)))), .second, rv sa, iv (3 : Int32), iv (2 : Int32), iv w1] []
    refine XS.aload X0.here hx rfl (hb hby d0_20) rfl rfl ?_
    show Go p e below t s₁ m 22 #[rv sa, rv za, .val (.double (FP.dmul (FP.dmul (4607182418800017408 : UInt64) (FP.i2d (own_sel z0 z1 z2 z3 w0))) (FP.i2d (own_sel z0 z1 z2 z3 w1)))), .second, rv sa, iv (3 : Int32), iv (2 : Int32), iv w1] [(.ref sa)]
    refine XS.iload X0.here hx rfl (hb hby d0_22) rfl ?_
    show Go p e below t s₁ m 24 #[rv sa, rv za, .val (.double (FP.dmul (FP.dmul (4607182418800017408 : UInt64) (FP.i2d (own_sel z0 z1 z2 z3 w0))) (FP.i2d (own_sel z0 z1 z2 z3 w1)))), .second, rv sa, iv (3 : Int32), iv (2 : Int32), iv w1] [(.int (2 : Int32)), (.ref sa)]
    exact k)
  obtain ⟨cl33, Ar33, q33, S33, M33, H33, G33⟩ := id P0
  have g34 : Goes p e below S0 (s₁.setTop (mkF m 31 #[rv sa, rv za, .val (.double (FP.dmul (FP.dmul (4607182418800017408 : UInt64) (FP.i2d (own_sel z0 z1 z2 z3 w0))) (FP.i2d (own_sel z0 z1 z2 z3 w1)))), .second, rv sa, iv (3 : Int32), iv (2 : Int32), iv w2] [(.int w2), (.ref za), (.double (FP.dmul (FP.dmul (4607182418800017408 : UInt64) (FP.i2d (own_sel z0 z1 z2 z3 w0))) (FP.i2d (own_sel z0 z1 z2 z3 w1))))])) := fun t k => g32 t (by
    refine X0.iaload hx (j := (2 : Int32)) (v := (.int w2)) (by rw [e0]; exact Ar33.1) (State.isArrayOf_alike hZ.alike Ar33.2.1) Ar33.2.2 (inb_of S33 ⟨by decide, by decide⟩) (H33.at (inb_of S33 ⟨by decide, by decide⟩) rfl) (g := (mkF m 24 #[rv sa, rv za, .val (.double (FP.dmul (FP.dmul (4607182418800017408 : UInt64) (FP.i2d (own_sel z0 z1 z2 z3 w0))) (FP.i2d (own_sel z0 z1 z2 z3 w1)))), .second, rv sa, iv (3 : Int32), iv (2 : Int32), iv w1] [(.int (2 : Int32)), (.ref sa)])) rfl rfl (hb hby d0_24) _ ?_
    show Go p e below t s₁ m 25 #[rv sa, rv za, .val (.double (FP.dmul (FP.dmul (4607182418800017408 : UInt64) (FP.i2d (own_sel z0 z1 z2 z3 w0))) (FP.i2d (own_sel z0 z1 z2 z3 w1)))), .second, rv sa, iv (3 : Int32), iv (2 : Int32), iv w1] [(.int w2)]
    refine XS.istore X0.here hx rfl (hb hby d0_25) rfl (l' := #[rv sa, rv za, .val (.double (FP.dmul (FP.dmul (4607182418800017408 : UInt64) (FP.i2d (own_sel z0 z1 z2 z3 w0))) (FP.i2d (own_sel z0 z1 z2 z3 w1)))), .second, rv sa, iv (3 : Int32), iv (2 : Int32), iv w2]) rfl ?_
    show Go p e below t s₁ m 27 #[rv sa, rv za, .val (.double (FP.dmul (FP.dmul (4607182418800017408 : UInt64) (FP.i2d (own_sel z0 z1 z2 z3 w0))) (FP.i2d (own_sel z0 z1 z2 z3 w1)))), .second, rv sa, iv (3 : Int32), iv (2 : Int32), iv w2] []
    refine XS.dloadN X0.here hx rfl (hb hby d0_27) rfl ?_
    show Go p e below t s₁ m 28 #[rv sa, rv za, .val (.double (FP.dmul (FP.dmul (4607182418800017408 : UInt64) (FP.i2d (own_sel z0 z1 z2 z3 w0))) (FP.i2d (own_sel z0 z1 z2 z3 w1)))), .second, rv sa, iv (3 : Int32), iv (2 : Int32), iv w2] [(.double (FP.dmul (FP.dmul (4607182418800017408 : UInt64) (FP.i2d (own_sel z0 z1 z2 z3 w0))) (FP.i2d (own_sel z0 z1 z2 z3 w1))))]
    refine XS.aloadN X0.here hx rfl (hb hby d0_28) rfl rfl ?_
    show Go p e below t s₁ m 29 #[rv sa, rv za, .val (.double (FP.dmul (FP.dmul (4607182418800017408 : UInt64) (FP.i2d (own_sel z0 z1 z2 z3 w0))) (FP.i2d (own_sel z0 z1 z2 z3 w1)))), .second, rv sa, iv (3 : Int32), iv (2 : Int32), iv w2] [(.ref za), (.double (FP.dmul (FP.dmul (4607182418800017408 : UInt64) (FP.i2d (own_sel z0 z1 z2 z3 w0))) (FP.i2d (own_sel z0 z1 z2 z3 w1))))]
    refine XS.iload X0.here hx rfl (hb hby d0_29) rfl ?_
    show Go p e below t s₁ m 31 #[rv sa, rv za, .val (.double (FP.dmul (FP.dmul (4607182418800017408 : UInt64) (FP.i2d (own_sel z0 z1 z2 z3 w0))) (FP.i2d (own_sel z0 z1 z2 z3 w1)))), .second, rv sa, iv (3 : Int32), iv (2 : Int32), iv w2] [(.int w2), (.ref za), (.double (FP.dmul (FP.dmul (4607182418800017408 : UInt64) (FP.i2d (own_sel z0 z1 z2 z3 w0))) (FP.i2d (own_sel z0 z1 z2 z3 w1))))]
    exact k)
  obtain ⟨cl35, Ar35, q35, S35, M35, H35, G35⟩ := id P1
  have g36 : Goes p e below S0 (s₁.setTop (mkF m 42 #[rv sa, rv za, .val (.double (FP.dmul (FP.dmul (FP.dmul (4607182418800017408 : UInt64) (FP.i2d (own_sel z0 z1 z2 z3 w0))) (FP.i2d (own_sel z0 z1 z2 z3 w1))) (FP.i2d (own_sel z0 z1 z2 z3 w2)))), .second, rv sa, iv (3 : Int32), iv (3 : Int32), iv w2] [(.double (FP.dmul (FP.dmul (FP.dmul (4607182418800017408 : UInt64) (FP.i2d (own_sel z0 z1 z2 z3 w0))) (FP.i2d (own_sel z0 z1 z2 z3 w1))) (FP.i2d (own_sel z0 z1 z2 z3 w2))))])) := fun t k => g34 t (by
    refine X0.iaload hx (j := w2) (v := (.int (own_sel z0 z1 z2 z3 w2))) (by rw [e0]; exact Ar35.1) (State.isArrayOf_alike hZ.alike Ar35.2.1) Ar35.2.2 (inb_of S35 (own_in bw2)) (H35.at (inb_of S35 (own_in bw2)) (own_at bw2 _ _ _ _)) (g := (mkF m 31 #[rv sa, rv za, .val (.double (FP.dmul (FP.dmul (4607182418800017408 : UInt64) (FP.i2d (own_sel z0 z1 z2 z3 w0))) (FP.i2d (own_sel z0 z1 z2 z3 w1)))), .second, rv sa, iv (3 : Int32), iv (2 : Int32), iv w2] [(.int w2), (.ref za), (.double (FP.dmul (FP.dmul (4607182418800017408 : UInt64) (FP.i2d (own_sel z0 z1 z2 z3 w0))) (FP.i2d (own_sel z0 z1 z2 z3 w1))))])) rfl rfl (hb hby d0_31) _ ?_
    show Go p e below t s₁ m 32 #[rv sa, rv za, .val (.double (FP.dmul (FP.dmul (4607182418800017408 : UInt64) (FP.i2d (own_sel z0 z1 z2 z3 w0))) (FP.i2d (own_sel z0 z1 z2 z3 w1)))), .second, rv sa, iv (3 : Int32), iv (2 : Int32), iv w2] [(.int (own_sel z0 z1 z2 z3 w2)), (.double (FP.dmul (FP.dmul (4607182418800017408 : UInt64) (FP.i2d (own_sel z0 z1 z2 z3 w0))) (FP.i2d (own_sel z0 z1 z2 z3 w1))))]
    refine XS.i2dS X0.here hx rfl (hb hby d0_32) rfl rfl ?_
    show Go p e below t s₁ m 33 #[rv sa, rv za, .val (.double (FP.dmul (FP.dmul (4607182418800017408 : UInt64) (FP.i2d (own_sel z0 z1 z2 z3 w0))) (FP.i2d (own_sel z0 z1 z2 z3 w1)))), .second, rv sa, iv (3 : Int32), iv (2 : Int32), iv w2] [(.double (FP.i2d (own_sel z0 z1 z2 z3 w2))), (.double (FP.dmul (FP.dmul (4607182418800017408 : UInt64) (FP.i2d (own_sel z0 z1 z2 z3 w0))) (FP.i2d (own_sel z0 z1 z2 z3 w1))))]
    refine XS.dmulS X0.here hx rfl (hb hby d0_33) rfl (nn33_2 bw0 bw1 bw2) rfl ?_
    show Go p e below t s₁ m 34 #[rv sa, rv za, .val (.double (FP.dmul (FP.dmul (4607182418800017408 : UInt64) (FP.i2d (own_sel z0 z1 z2 z3 w0))) (FP.i2d (own_sel z0 z1 z2 z3 w1)))), .second, rv sa, iv (3 : Int32), iv (2 : Int32), iv w2] [(.double (FP.dmul (FP.dmul (FP.dmul (4607182418800017408 : UInt64) (FP.i2d (own_sel z0 z1 z2 z3 w0))) (FP.i2d (own_sel z0 z1 z2 z3 w1))) (FP.i2d (own_sel z0 z1 z2 z3 w2))))]
    refine XS.dstoreN X0.here hx rfl (hb hby d0_34) rfl (l' := #[rv sa, rv za, .val (.double (FP.dmul (FP.dmul (FP.dmul (4607182418800017408 : UInt64) (FP.i2d (own_sel z0 z1 z2 z3 w0))) (FP.i2d (own_sel z0 z1 z2 z3 w1))) (FP.i2d (own_sel z0 z1 z2 z3 w2)))), .second, rv sa, iv (3 : Int32), iv (2 : Int32), iv w2]) rfl ?_
    show Go p e below t s₁ m 35 #[rv sa, rv za, .val (.double (FP.dmul (FP.dmul (FP.dmul (4607182418800017408 : UInt64) (FP.i2d (own_sel z0 z1 z2 z3 w0))) (FP.i2d (own_sel z0 z1 z2 z3 w1))) (FP.i2d (own_sel z0 z1 z2 z3 w2)))), .second, rv sa, iv (3 : Int32), iv (2 : Int32), iv w2] []
    refine XT.iincV X0.here hx rfl (1 : Int32) (hb hby d0_35) (by decide) rfl (l' := #[rv sa, rv za, .val (.double (FP.dmul (FP.dmul (FP.dmul (4607182418800017408 : UInt64) (FP.i2d (own_sel z0 z1 z2 z3 w0))) (FP.i2d (own_sel z0 z1 z2 z3 w1))) (FP.i2d (own_sel z0 z1 z2 z3 w2)))), .second, rv sa, iv (3 : Int32), iv (3 : Int32), iv w2]) rfl ?_
    show Go p e below t s₁ m 38 #[rv sa, rv za, .val (.double (FP.dmul (FP.dmul (FP.dmul (4607182418800017408 : UInt64) (FP.i2d (own_sel z0 z1 z2 z3 w0))) (FP.i2d (own_sel z0 z1 z2 z3 w1))) (FP.i2d (own_sel z0 z1 z2 z3 w2)))), .second, rv sa, iv (3 : Int32), iv (3 : Int32), iv w2] []
    refine XS.goto X0.here hx rfl (pc0 := 38) (pc' := 13) rfl (hb hby d0_38) (by decide) (by decide) ?_
    show Go p e below t s₁ m 13 #[rv sa, rv za, .val (.double (FP.dmul (FP.dmul (FP.dmul (4607182418800017408 : UInt64) (FP.i2d (own_sel z0 z1 z2 z3 w0))) (FP.i2d (own_sel z0 z1 z2 z3 w1))) (FP.i2d (own_sel z0 z1 z2 z3 w2)))), .second, rv sa, iv (3 : Int32), iv (3 : Int32), iv w2] []
    refine XS.iload X0.here hx rfl (hb hby d0_13) rfl ?_
    show Go p e below t s₁ m 15 #[rv sa, rv za, .val (.double (FP.dmul (FP.dmul (FP.dmul (4607182418800017408 : UInt64) (FP.i2d (own_sel z0 z1 z2 z3 w0))) (FP.i2d (own_sel z0 z1 z2 z3 w1))) (FP.i2d (own_sel z0 z1 z2 z3 w2)))), .second, rv sa, iv (3 : Int32), iv (3 : Int32), iv w2] [(.int (3 : Int32))]
    refine XS.iload X0.here hx rfl (hb hby d0_15) rfl ?_
    show Go p e below t s₁ m 17 #[rv sa, rv za, .val (.double (FP.dmul (FP.dmul (FP.dmul (4607182418800017408 : UInt64) (FP.i2d (own_sel z0 z1 z2 z3 w0))) (FP.i2d (own_sel z0 z1 z2 z3 w1))) (FP.i2d (own_sel z0 z1 z2 z3 w2)))), .second, rv sa, iv (3 : Int32), iv (3 : Int32), iv w2] [(.int (3 : Int32)), (.int (3 : Int32))]
    refine XS.icmpYes X0.here hx rfl (pc0 := 17) (pc' := 41) rfl (hb hby d0_17) rfl (XT.ii_ge_t (by decide)) (by decide) (by decide) ?_
    show Go p e below t s₁ m 41 #[rv sa, rv za, .val (.double (FP.dmul (FP.dmul (FP.dmul (4607182418800017408 : UInt64) (FP.i2d (own_sel z0 z1 z2 z3 w0))) (FP.i2d (own_sel z0 z1 z2 z3 w1))) (FP.i2d (own_sel z0 z1 z2 z3 w2)))), .second, rv sa, iv (3 : Int32), iv (3 : Int32), iv w2] []
    refine XS.dloadN X0.here hx rfl (hb hby d0_41) rfl ?_
    show Go p e below t s₁ m 42 #[rv sa, rv za, .val (.double (FP.dmul (FP.dmul (FP.dmul (4607182418800017408 : UInt64) (FP.i2d (own_sel z0 z1 z2 z3 w0))) (FP.i2d (own_sel z0 z1 z2 z3 w1))) (FP.i2d (own_sel z0 z1 z2 z3 w2)))), .second, rv sa, iv (3 : Int32), iv (3 : Int32), iv w2] [(.double (FP.dmul (FP.dmul (FP.dmul (4607182418800017408 : UInt64) (FP.i2d (own_sel z0 z1 z2 z3 w0))) (FP.i2d (own_sel z0 z1 z2 z3 w1))) (FP.i2d (own_sel z0 z1 z2 z3 w2))))]
    exact k)
  obtain ⟨fs, hr, hrun, hended, hW, hsame⟩ := X0.leave (v := some (.double (FP.dmul (FP.dmul (FP.dmul (4607182418800017408 : UInt64) (FP.i2d (own_sel z0 z1 z2 z3 w0))) (FP.i2d (own_sel z0 z1 z2 z3 w1))) (FP.i2d (own_sel z0 z1 z2 z3 w2))))) (fun h => by rw [Bd.returns] at h; cases h)
  refine ⟨_, _, g36 _ (retOut X0 hx Bd.returns rfl (Or.inr (Or.inr (Or.inl ⟨rfl, rfl, _, rfl⟩))) (hb hby d0_42) hr), hrun, hended, _, _, rfl, ?_, ⟨_, rfl⟩, hW, hsame.mono (by decide) (by decide)⟩
  show Q_ent3 Z sa za k1 k2 w0 w1 w2 z0 z1 z2 z3 h0 n0 _ s₁.heap _
  rw [e0]
  exact ⟨rfl, N0, rfl⟩
def nS (a : Int32) : Int32 := a &&& 131071
def nN (a : Int32) : Int32 := a &&& 3
def nI0 (a : Int32) : Int32 := (a.toUInt32 >>> ((2 : Int32) &&& 31).toUInt32).toInt32 &&& 3
def nI1 (a : Int32) : Int32 := (a.toUInt32 >>> ((4 : Int32) &&& 31).toUInt32).toInt32 &&& 3
def nI2 (a : Int32) : Int32 := (a.toUInt32 >>> ((6 : Int32) &&& 31).toUInt32).toInt32 &&& 3
theorem own_m3 (x : Int32) : 0 ≤ (x &&& 3).toInt ∧ (x &&& 3).toInt < 4 := by
  have := c_mask x 3 2 (by decide) (by decide)
  omega
theorem own_b0 (a : Int32) : 0 ≤ (nI0 a).toInt ∧ (nI0 a).toInt < 4 := own_m3 _
theorem own_b1 (a : Int32) : 0 ≤ (nI1 a).toInt ∧ (nI1 a).toInt < 4 := own_m3 _
theorem own_b2 (a : Int32) : 0 ≤ (nI2 a).toInt ∧ (nI2 a).toInt < 4 := own_m3 _
theorem own_len3 {n a : Int32} (e : n = nN a) (h0 : ¬ n = 0) (h1 : ¬ n = (1 : Int32)) (h2 : ¬ n = (2 : Int32)) : n = (3 : Int32) := by
  have h := own_four (e ▸ own_m3 a : 0 ≤ n.toInt ∧ n.toInt < 4)
  rcases h with h | h | h | h
  · exact absurd h h0
  · exact absurd h h1
  · exact absurd h h2
  · exact h
def own_sz (x : Int32) : Prop := 0 ≤ x.toInt ∧ x.toInt < 131072
theorem own_m (x : Int32) : own_sz (nS x) := by
  have := c_mask x 131071 17 (by decide) (by decide)
  unfold own_sz nS; omega
theorem own_s {a b c d : Int32} (ha : own_sz a) (hb : own_sz b) (hc : own_sz c) (hd : own_sz d) (i : Int32) : own_sz (own_sel a b c d i) := by
  unfold own_sel
  split
  · exact ha
  · split
    · exact hb
    · split
      · exact hc
      · exact hd
open Jvm.OwnFP in
theorem own_v1 : Val (4607182418800017408 : UInt64) 1 1074 := Val.of_int FP.Core.dint_one
open Jvm.OwnFP in
theorem own_d1 (a : Int32) : Val (FP.dmul (4607182418800017408 : UInt64) (FP.i2d a)) (1 * a.toInt) 1074 := own_v1.mul (Val.i2d a) (by have := rng32 a; omega) rfl (by decide)
theorem own_lt2 {a b : Int32} (ha : own_sz a) (hb : own_sz b) : 0 ≤ 1 * a.toInt * b.toInt ∧ 1 * a.toInt * b.toInt < 17179869184 := by
  obtain ⟨a1, a2⟩ := ha
  obtain ⟨b1, b2⟩ := hb
  rw [Int.one_mul]
  refine ⟨Int.mul_nonneg a1 b1, ?_⟩
  have h1 : a.toInt * b.toInt ≤ 131071 * b.toInt := Int.mul_le_mul_of_nonneg_right (by omega) b1
  omega
theorem own_lt3 {a b c : Int32} (ha : own_sz a) (hb : own_sz b) (hc : own_sz c) : 0 ≤ 1 * a.toInt * b.toInt * c.toInt ∧ 1 * a.toInt * b.toInt * c.toInt < 2251799813685248 := by
  obtain ⟨h1, h2⟩ := own_lt2 ha hb
  obtain ⟨c1, c2⟩ := hc
  refine ⟨Int.mul_nonneg h1 c1, ?_⟩
  have h3 : 1 * a.toInt * b.toInt * c.toInt ≤ 17179869183 * c.toInt := Int.mul_le_mul_of_nonneg_right (by omega) c1
  omega
open Jvm.OwnFP in
theorem own_d2 {a b : Int32} (ha : own_sz a) (hb : own_sz b) : Val (FP.dmul (FP.dmul (4607182418800017408 : UInt64) (FP.i2d a)) (FP.i2d b)) (1 * a.toInt * b.toInt) 1074 :=
  (own_d1 a).mul (Val.i2d b) (by have := own_lt2 ha hb; omega) rfl (by decide)
open Jvm.OwnFP in
theorem own_d3 {a b c : Int32} (ha : own_sz a) (hb : own_sz b) (hc : own_sz c) : Val (FP.dmul (FP.dmul (FP.dmul (4607182418800017408 : UInt64) (FP.i2d a)) (FP.i2d b)) (FP.i2d c)) (1 * a.toInt * b.toInt * c.toInt) 1074 :=
  (own_d2 ha hb).mul (Val.i2d c) (by have := own_lt3 ha hb hc; omega) rfl (by decide)
open Jvm.OwnFP in
theorem own_vn {a : UInt64} {N : Int} {k : Nat} (h : Val a N k) : Jvm.Free.Fl.NoNaN64 a := Jvm.Free.Fl.val64_no.mpr (fin_ne h.1)
theorem own_nn1 {a : Int32} : Jvm.Free.Fl.NoNaN64 (FP.dmul (4607182418800017408 : UInt64) (FP.i2d a)) := own_vn (own_d1 a)
theorem own_nn2 {x y z w a b : Int32} : Jvm.Free.Fl.NoNaN64 (FP.dmul (FP.dmul (4607182418800017408 : UInt64) (FP.i2d (own_sel (nS x) (nS y) (nS z) (nS w) a))) (FP.i2d (own_sel (nS x) (nS y) (nS z) (nS w) b))) :=
  own_vn (own_d2 (own_s (own_m _) (own_m _) (own_m _) (own_m _) _) (own_s (own_m _) (own_m _) (own_m _) (own_m _) _))
theorem own_nn3 {x y z w a b c : Int32} : Jvm.Free.Fl.NoNaN64 (FP.dmul (FP.dmul (FP.dmul (4607182418800017408 : UInt64) (FP.i2d (own_sel (nS x) (nS y) (nS z) (nS w) a))) (FP.i2d (own_sel (nS x) (nS y) (nS z) (nS w) b))) (FP.i2d (own_sel (nS x) (nS y) (nS z) (nS w) c))) :=
  own_vn (own_d3 (own_s (own_m _) (own_m _) (own_m _) (own_m _) _) (own_s (own_m _) (own_m _) (own_m _) (own_m _) _) (own_s (own_m _) (own_m _) (own_m _) (own_m _) _))
open Jvm.OwnFP in
theorem own_same {a : UInt64} {n : Int64} {N : Int} (h : Val a N 1074) (e : n.toInt = N) (hN : N.natAbs ≤ 2 ^ 53) : dEq a (FP.l2d n) := by
  have h2 := Val.l2d (n := n) (by rw [e]; exact hN)
  unfold dEq
  rw [h.cmp h2, e, Option.some.injEq, FP.Core.compare_eq_iff]
theorem own_l1 {a : Int32} : ((1 : Int64) * a.toInt64).toInt = 1 * a.toInt := by
  have h1 := c_lmul 1 a.toInt64
  have h2 := rng64 ((1 : Int64) * a.toInt64)
  have h3 := c_i2l a
  have h4 := rng32 a
  have z : (1 : Int64).toInt = 1 := by decide
  rw [z, h3] at h1
  omega
theorem own_l2 {a b : Int32} (ha : own_sz a) (hb : own_sz b) : ((1 : Int64) * a.toInt64 * b.toInt64).toInt = 1 * a.toInt * b.toInt := by
  have h1 := c_lmul ((1 : Int64) * a.toInt64) b.toInt64
  have h2 := rng64 ((1 : Int64) * a.toInt64 * b.toInt64)
  have h3 := c_i2l b
  have h4 := own_lt2 ha hb
  rw [own_l1, h3] at h1
  generalize 1 * a.toInt * b.toInt = w at *
  omega
theorem own_l3 {a b c : Int32} (ha : own_sz a) (hb : own_sz b) (hc : own_sz c) : ((1 : Int64) * a.toInt64 * b.toInt64 * c.toInt64).toInt = 1 * a.toInt * b.toInt * c.toInt := by
  have h1 := c_lmul ((1 : Int64) * a.toInt64 * b.toInt64) c.toInt64
  have h2 := rng64 ((1 : Int64) * a.toInt64 * b.toInt64 * c.toInt64)
  have h3 := c_i2l c
  have h4 := own_lt3 ha hb hc
  rw [own_l2 ha hb, h3] at h1
  generalize 1 * a.toInt * b.toInt * c.toInt = w at *
  omega
theorem own_eq0 {x y z w : Int32} : dEq (f_ent0 x y z w) (FP.l2d (1 : Int64)) := by unfold f_ent0; decide +kernel
theorem own_eq1 {x y z w a : Int32} : dEq (f_ent1 a (nS x) (nS y) (nS z) (nS w)) (FP.l2d ((1 : Int64) * (own_sel (nS x) (nS y) (nS z) (nS w) a).toInt64)) := by
  unfold f_ent1
  refine own_same (own_d1 _) own_l1 ?_
  have := rng32 (own_sel (nS x) (nS y) (nS z) (nS w) a)
  omega
theorem own_eq2 {x y z w a b : Int32} : dEq (f_ent2 a b (nS x) (nS y) (nS z) (nS w)) (FP.l2d ((1 : Int64) * (own_sel (nS x) (nS y) (nS z) (nS w) a).toInt64 * (own_sel (nS x) (nS y) (nS z) (nS w) b).toInt64)) := by
  unfold f_ent2
  have ha := own_s (own_m x) (own_m y) (own_m z) (own_m w) a
  have hb := own_s (own_m x) (own_m y) (own_m z) (own_m w) b
  refine own_same (own_d2 ha hb) (own_l2 ha hb) ?_
  have := own_lt2 ha hb
  omega
theorem own_eq3 {x y z w a b c : Int32} : dEq (f_ent3 a b c (nS x) (nS y) (nS z) (nS w)) (FP.l2d ((1 : Int64) * (own_sel (nS x) (nS y) (nS z) (nS w) a).toInt64 * (own_sel (nS x) (nS y) (nS z) (nS w) b).toInt64 * (own_sel (nS x) (nS y) (nS z) (nS w) c).toInt64)) := by
  unfold f_ent3
  have ha := own_s (own_m x) (own_m y) (own_m z) (own_m w) a
  have hb := own_s (own_m x) (own_m y) (own_m z) (own_m w) b
  have hc := own_s (own_m x) (own_m y) (own_m z) (own_m w) c
  refine own_same (own_d3 ha hb hc) (own_l3 ha hb hc) ?_
  have := own_lt3 ha hb hc
  omega

theorem pd1 : parseMethodDescriptor "(IIIII)Z" = some ⟨[.int, .int, .int, .int, .int], some .boolean⟩ := by decide +kernel
theorem pf_law : plainFor x = true := by first | exact plainFor_of_name (by first | (simp [plainName, overriddenIn, x]; done) | decide +kernel) | exact Jvm.Free.JP.mathPlain rfl (by decide +kernel) | decide +kernel
theorem ef_law (m : MethodId) (i0 : Int32) (i1 : Int32) (i2 : Int32) (i3 : Int32) (i4 : Int32) : entryFrame m #[(.int i0), (.int i1), (.int i2), (.int i3), (.int i4)] maxLocals = mkF m 0 #[iv i0, iv i1, iv i2, iv i3, iv i4, .unset, .unset, .unset, .unset, .unset, .unset, .unset, .unset, .unset, .unset, .unset] [] := by first | (simp [entryFrame, mkF, argsToLocals, Value.category, maxLocals]; done) | rfl
def f_law (i0 : Int32) (i1 : Int32) (i2 : Int32) (i3 : Int32) (i4 : Int32) : Int32 := 1
def Q_law (Z : State) (i0 : Int32) (i1 : Int32) (i2 : Int32) (i3 : Int32) (i4 : Int32)  (h0 : Heap) (n0 : Nat) (v : Option Value) (h : Heap) (L : List Loc) : Prop := v = some (.int (f_law i0 i1 i2 i3 i4)) ∧ Fr n0 L
set_option maxRecDepth 65536 in
set_option maxHeartbeats 40000000 in
theorem rm_law (l : Launch) (Z : State) (a0 : Array Value) (hw : ∀ d ∈ tables_1, d.before a0 Z = true) (ws : List Jvm.Cond) (i0 : Int32) (i1 : Int32) (i2 : Int32) (i3 : Int32) (i4 : Int32)  (h0 : Heap) (n0 : Nat) (Z0 : n0 ≤ h0.size)   :
    MetFree l x (head1 (Jvm.Cond.code x code maxLocals ret :: ws) room_1) (fun a U => a = #[(.int i0), (.int i1), (.int i2), (.int i3), (.int i4)] ∧ Z.Warmed39 U.vm ∧ U.heap = h0) (fun _ _ _ _ _ => True) (fun _ U o U' => ∃ v L, o = .returned v ∧ Q_law Z i0 i1 i2 i3 i4  h0 n0 v U'.heap L ∧ FrameEnd U o U' L 16 128) := by
  refine MetFree.of_bodySF pf_law hisR ?_
  intro p e s m args below meth c s₁ Bd hml0 hP hK
  obtain ⟨rfl, hZ, hh⟩ := hP
  have hx := Bd.exec
  have hby := Bd.bytes
  have hml : c.maxLocals = 16 := hml0
  have hown : s.vm.findClass "com/example/aristotle/aristotle/EliminationPlanEntriesPinLaw" = some m.cls := findClass_of_methodNamed Bd.named
  have hnm := (name_of_methodNamed Bd.named Bd.method).1
  have X0 : Stand p l e room_1 s m #[(.int i0), (.int i1), (.int i2), (.int i3), (.int i4)] below meth c s₁ [] 0 0 := Stand.of_body Bd
  have e0 : s₁.heap = h0 := by rw [← hh, Bd.state]; rfl
  have N0 := Fr.nil n0
  obtain ⟨S0, hS0⟩ : ∃ z, z = s₁.setTop (entryFrame m #[(.int i0), (.int i1), (.int i2), (.int i3), (.int i4)] maxLocals) := ⟨_, rfl⟩
  rw [← hS0]
  have g0 : Goes p e below S0 (s₁.setTop (mkF m 0 #[iv i0, iv i1, iv i2, iv i3, iv i4, .unset, .unset, .unset, .unset, .unset, .unset, .unset, .unset, .unset, .unset, .unset] [])) := fun t k => by rw [hS0]; exact castTop (ef_law m i0 i1 i2 i3 i4) k
  have g37 : Goes p e below S0 (s₁.setTop (mkF m 1 #[iv i0, iv i1, iv i2, iv i3, iv i4, .unset, .unset, .unset, .unset, .unset, .unset, .unset, .unset, .unset, .unset, .unset] [(.int (4 : Int32))])) := fun t k => g0 t (by
    refine XT.iconstV X0.here hx rfl (4 : Int32) (hb hby at_0) (by decide) ?_
    show Go p e below t s₁ m 1 #[iv i0, iv i1, iv i2, iv i3, iv i4, .unset, .unset, .unset, .unset, .unset, .unset, .unset, .unset, .unset, .unset, .unset] [(.int (4 : Int32))]
    exact k)
  obtain ⟨T38, h38, k38, X38, e38, E38, A38, st38⟩ := newP X0 hx hZ (hw _ (List.mem_of_getElem? (i := 0) rfl)) e0 (g := (mkF m 1 #[iv i0, iv i1, iv i2, iv i3, iv i4, .unset, .unset, .unset, .unset, .unset, .unset, .unset, .unset, .unset, .unset, .unset] [(.int (4 : Int32))])) rfl (hb hby at_1) rfl (by decide) (cap := 4) (by decide) (by decide) (by decide) (by decide)
  obtain ⟨b38, gb38⟩ : ∃ z, z = h0.size := ⟨_, rfl⟩
  have sz38 : h0.size ≤ b38 := Nat.le_trans (Nat.le_refl _) (Nat.le_of_eq gb38.symm)
  have ng38 : n0 ≤ b38 := Nat.le_trans Z0 sz38
  rw [← gb38] at A38 st38
  have V38 : Arv Z h38 b38 k38 .int (4 : Int32) [(.int (0 : Int32)), (.int (0 : Int32)), (.int (0 : Int32)), (.int (0 : Int32))] (.int (0 : Int32)) := (Arv.new A38 (by decide)).pad (pad_rep [] (.int (0 : Int32)) 4)
  have g39 : Goes p e below S0 (T38.setTop (mkF m 3 #[iv i0, iv i1, iv i2, iv i3, iv i4, .unset, .unset, .unset, .unset, .unset, .unset, .unset, .unset, .unset, .unset, .unset] [(.ref b38)])) := fun t k => g37 t (st38 t k)
  have g40 : Goes p e below S0 (T38.setTop (mkF m 9 #[iv i0, iv i1, iv i2, iv i3, iv i4, .unset, .unset, .unset, .unset, .unset, .unset, .unset, .unset, .unset, .unset, .unset] [(.int (nS i0)), (.int (0 : Int32)), (.ref b38), (.ref b38)])) := fun t k => g39 t (by
    refine XS.dup X38.here hx rfl (hb hby at_3) rfl rfl ?_
    show Go p e below t T38 m 4 #[iv i0, iv i1, iv i2, iv i3, iv i4, .unset, .unset, .unset, .unset, .unset, .unset, .unset, .unset, .unset, .unset, .unset] [(.ref b38), (.ref b38)]
    refine XT.iconstV X38.here hx rfl (0 : Int32) (hb hby at_4) (by decide) ?_
    show Go p e below t T38 m 5 #[iv i0, iv i1, iv i2, iv i3, iv i4, .unset, .unset, .unset, .unset, .unset, .unset, .unset, .unset, .unset, .unset, .unset] [(.int (0 : Int32)), (.ref b38), (.ref b38)]
    refine XS.iloadN X38.here hx rfl (hb hby at_5) rfl ?_
    show Go p e below t T38 m 6 #[iv i0, iv i1, iv i2, iv i3, iv i4, .unset, .unset, .unset, .unset, .unset, .unset, .unset, .unset, .unset, .unset, .unset] [(.int i0), (.int (0 : Int32)), (.ref b38), (.ref b38)]
    refine Jvm.Stand.ldcI X38 hx hown (mvT hZ (hw _ (List.mem_of_getElem? (i := 1) rfl))) (g := (mkF m 6 #[iv i0, iv i1, iv i2, iv i3, iv i4, .unset, .unset, .unset, .unset, .unset, .unset, .unset, .unset, .unset, .unset, .unset] [(.int i0), (.int (0 : Int32)), (.ref b38), (.ref b38)])) rfl (hb hby at_6) ?_
    show Go p e below t T38 m 8 #[iv i0, iv i1, iv i2, iv i3, iv i4, .unset, .unset, .unset, .unset, .unset, .unset, .unset, .unset, .unset, .unset, .unset] [(.int (131071 : Int32)), (.int i0), (.int (0 : Int32)), (.ref b38), (.ref b38)]
    refine XS.iand X38.here hx rfl (hb hby at_8) rfl ?_
    show Go p e below t T38 m 9 #[iv i0, iv i1, iv i2, iv i3, iv i4, .unset, .unset, .unset, .unset, .unset, .unset, .unset, .unset, .unset, .unset, .unset] [(.int (i0 &&& (131071 : Int32))), (.int (0 : Int32)), (.ref b38), (.ref b38)]
    show Go p e below t T38 m 9 #[iv i0, iv i1, iv i2, iv i3, iv i4, .unset, .unset, .unset, .unset, .unset, .unset, .unset, .unset, .unset, .unset, .unset] [(.int (nS i0)), (.int (0 : Int32)), (.ref b38), (.ref b38)]
    exact k)
  obtain ⟨cl41, Ar41, q41, S41, M41, H41, G41⟩ := id V38
  obtain ⟨T42, h42, X42, e42, W42, st42⟩ := stI X38 hx hZ e38 Ar41 (j := (0 : Int32)) (inb_of S41 ⟨by decide, by decide⟩) (g := (mkF m 9 #[iv i0, iv i1, iv i2, iv i3, iv i4, .unset, .unset, .unset, .unset, .unset, .unset, .unset, .unset, .unset, .unset, .unset] [(.int (nS i0)), (.int (0 : Int32)), (.ref b38), (.ref b38)])) rfl rfl (hb hby at_9)
  have N42 := Fr.snoc X42 N0 ng38
  have V42 : Arv Z h42 b38 k38 .int (4 : Int32) [(.int (nS i0)), (.int (0 : Int32)), (.int (0 : Int32)), (.int (0 : Int32))] (.int (0 : Int32)) := Arv.set Ar41 q41 S41 M41 H41 G41 rfl W42 0 rfl (Nat.le_of_ble_eq_true rfl)
  have g43 : Goes p e below S0 (T42.setTop (mkF m 10 #[iv i0, iv i1, iv i2, iv i3, iv i4, .unset, .unset, .unset, .unset, .unset, .unset, .unset, .unset, .unset, .unset, .unset] [(.ref b38)])) := fun t k => g40 t (st42 t k)
  have g44 : Goes p e below S0 (T42.setTop (mkF m 16 #[iv i0, iv i1, iv i2, iv i3, iv i4, .unset, .unset, .unset, .unset, .unset, .unset, .unset, .unset, .unset, .unset, .unset] [(.int (nS i1)), (.int (1 : Int32)), (.ref b38), (.ref b38)])) := fun t k => g43 t (by
    refine XS.dup X42.here hx rfl (hb hby at_10) rfl rfl ?_
    show Go p e below t T42 m 11 #[iv i0, iv i1, iv i2, iv i3, iv i4, .unset, .unset, .unset, .unset, .unset, .unset, .unset, .unset, .unset, .unset, .unset] [(.ref b38), (.ref b38)]
    refine XT.iconstV X42.here hx rfl (1 : Int32) (hb hby at_11) (by decide) ?_
    show Go p e below t T42 m 12 #[iv i0, iv i1, iv i2, iv i3, iv i4, .unset, .unset, .unset, .unset, .unset, .unset, .unset, .unset, .unset, .unset, .unset] [(.int (1 : Int32)), (.ref b38), (.ref b38)]
    refine XS.iloadN X42.here hx rfl (hb hby at_12) rfl ?_
    show Go p e below t T42 m 13 #[iv i0, iv i1, iv i2, iv i3, iv i4, .unset, .unset, .unset, .unset, .unset, .unset, .unset, .unset, .unset, .unset, .unset] [(.int i1), (.int (1 : Int32)), (.ref b38), (.ref b38)]
    refine Jvm.Stand.ldcI X42 hx hown (mvT hZ (hw _ (List.mem_of_getElem? (i := 1) rfl))) (g := (mkF m 13 #[iv i0, iv i1, iv i2, iv i3, iv i4, .unset, .unset, .unset, .unset, .unset, .unset, .unset, .unset, .unset, .unset, .unset] [(.int i1), (.int (1 : Int32)), (.ref b38), (.ref b38)])) rfl (hb hby at_13) ?_
    show Go p e below t T42 m 15 #[iv i0, iv i1, iv i2, iv i3, iv i4, .unset, .unset, .unset, .unset, .unset, .unset, .unset, .unset, .unset, .unset, .unset] [(.int (131071 : Int32)), (.int i1), (.int (1 : Int32)), (.ref b38), (.ref b38)]
    refine XS.iand X42.here hx rfl (hb hby at_15) rfl ?_
    show Go p e below t T42 m 16 #[iv i0, iv i1, iv i2, iv i3, iv i4, .unset, .unset, .unset, .unset, .unset, .unset, .unset, .unset, .unset, .unset, .unset] [(.int (i1 &&& (131071 : Int32))), (.int (1 : Int32)), (.ref b38), (.ref b38)]
    show Go p e below t T42 m 16 #[iv i0, iv i1, iv i2, iv i3, iv i4, .unset, .unset, .unset, .unset, .unset, .unset, .unset, .unset, .unset, .unset, .unset] [(.int (nS i1)), (.int (1 : Int32)), (.ref b38), (.ref b38)]
    exact k)
  obtain ⟨cl45, Ar45, q45, S45, M45, H45, G45⟩ := id V42
  obtain ⟨T46, h46, X46, e46, W46, st46⟩ := stI X42 hx hZ e42 Ar45 (j := (1 : Int32)) (inb_of S45 ⟨by decide, by decide⟩) (g := (mkF m 16 #[iv i0, iv i1, iv i2, iv i3, iv i4, .unset, .unset, .unset, .unset, .unset, .unset, .unset, .unset, .unset, .unset, .unset] [(.int (nS i1)), (.int (1 : Int32)), (.ref b38), (.ref b38)])) rfl rfl (hb hby at_16)
  have N46 := Fr.snoc X46 N42 ng38
  have V46 : Arv Z h46 b38 k38 .int (4 : Int32) [(.int (nS i0)), (.int (nS i1)), (.int (0 : Int32)), (.int (0 : Int32))] (.int (0 : Int32)) := Arv.set Ar45 q45 S45 M45 H45 G45 rfl W46 1 rfl (Nat.le_of_ble_eq_true rfl)
  have g47 : Goes p e below S0 (T46.setTop (mkF m 17 #[iv i0, iv i1, iv i2, iv i3, iv i4, .unset, .unset, .unset, .unset, .unset, .unset, .unset, .unset, .unset, .unset, .unset] [(.ref b38)])) := fun t k => g44 t (st46 t k)
  have g48 : Goes p e below S0 (T46.setTop (mkF m 23 #[iv i0, iv i1, iv i2, iv i3, iv i4, .unset, .unset, .unset, .unset, .unset, .unset, .unset, .unset, .unset, .unset, .unset] [(.int (nS i2)), (.int (2 : Int32)), (.ref b38), (.ref b38)])) := fun t k => g47 t (by
    refine XS.dup X46.here hx rfl (hb hby at_17) rfl rfl ?_
    show Go p e below t T46 m 18 #[iv i0, iv i1, iv i2, iv i3, iv i4, .unset, .unset, .unset, .unset, .unset, .unset, .unset, .unset, .unset, .unset, .unset] [(.ref b38), (.ref b38)]
    refine XT.iconstV X46.here hx rfl (2 : Int32) (hb hby at_18) (by decide) ?_
    show Go p e below t T46 m 19 #[iv i0, iv i1, iv i2, iv i3, iv i4, .unset, .unset, .unset, .unset, .unset, .unset, .unset, .unset, .unset, .unset, .unset] [(.int (2 : Int32)), (.ref b38), (.ref b38)]
    refine XS.iloadN X46.here hx rfl (hb hby at_19) rfl ?_
    show Go p e below t T46 m 20 #[iv i0, iv i1, iv i2, iv i3, iv i4, .unset, .unset, .unset, .unset, .unset, .unset, .unset, .unset, .unset, .unset, .unset] [(.int i2), (.int (2 : Int32)), (.ref b38), (.ref b38)]
    refine Jvm.Stand.ldcI X46 hx hown (mvT hZ (hw _ (List.mem_of_getElem? (i := 1) rfl))) (g := (mkF m 20 #[iv i0, iv i1, iv i2, iv i3, iv i4, .unset, .unset, .unset, .unset, .unset, .unset, .unset, .unset, .unset, .unset, .unset] [(.int i2), (.int (2 : Int32)), (.ref b38), (.ref b38)])) rfl (hb hby at_20) ?_
    show Go p e below t T46 m 22 #[iv i0, iv i1, iv i2, iv i3, iv i4, .unset, .unset, .unset, .unset, .unset, .unset, .unset, .unset, .unset, .unset, .unset] [(.int (131071 : Int32)), (.int i2), (.int (2 : Int32)), (.ref b38), (.ref b38)]
    refine XS.iand X46.here hx rfl (hb hby at_22) rfl ?_
    show Go p e below t T46 m 23 #[iv i0, iv i1, iv i2, iv i3, iv i4, .unset, .unset, .unset, .unset, .unset, .unset, .unset, .unset, .unset, .unset, .unset] [(.int (i2 &&& (131071 : Int32))), (.int (2 : Int32)), (.ref b38), (.ref b38)]
    show Go p e below t T46 m 23 #[iv i0, iv i1, iv i2, iv i3, iv i4, .unset, .unset, .unset, .unset, .unset, .unset, .unset, .unset, .unset, .unset, .unset] [(.int (nS i2)), (.int (2 : Int32)), (.ref b38), (.ref b38)]
    exact k)
  obtain ⟨cl49, Ar49, q49, S49, M49, H49, G49⟩ := id V46
  obtain ⟨T50, h50, X50, e50, W50, st50⟩ := stI X46 hx hZ e46 Ar49 (j := (2 : Int32)) (inb_of S49 ⟨by decide, by decide⟩) (g := (mkF m 23 #[iv i0, iv i1, iv i2, iv i3, iv i4, .unset, .unset, .unset, .unset, .unset, .unset, .unset, .unset, .unset, .unset, .unset] [(.int (nS i2)), (.int (2 : Int32)), (.ref b38), (.ref b38)])) rfl rfl (hb hby at_23)
  have N50 := Fr.snoc X50 N46 ng38
  have V50 : Arv Z h50 b38 k38 .int (4 : Int32) [(.int (nS i0)), (.int (nS i1)), (.int (nS i2)), (.int (0 : Int32))] (.int (0 : Int32)) := Arv.set Ar49 q49 S49 M49 H49 G49 rfl W50 2 rfl (Nat.le_of_ble_eq_true rfl)
  have g51 : Goes p e below S0 (T50.setTop (mkF m 24 #[iv i0, iv i1, iv i2, iv i3, iv i4, .unset, .unset, .unset, .unset, .unset, .unset, .unset, .unset, .unset, .unset, .unset] [(.ref b38)])) := fun t k => g48 t (st50 t k)
  have g52 : Goes p e below S0 (T50.setTop (mkF m 30 #[iv i0, iv i1, iv i2, iv i3, iv i4, .unset, .unset, .unset, .unset, .unset, .unset, .unset, .unset, .unset, .unset, .unset] [(.int (nS i3)), (.int (3 : Int32)), (.ref b38), (.ref b38)])) := fun t k => g51 t (by
    refine XS.dup X50.here hx rfl (hb hby at_24) rfl rfl ?_
    show Go p e below t T50 m 25 #[iv i0, iv i1, iv i2, iv i3, iv i4, .unset, .unset, .unset, .unset, .unset, .unset, .unset, .unset, .unset, .unset, .unset] [(.ref b38), (.ref b38)]
    refine XT.iconstV X50.here hx rfl (3 : Int32) (hb hby at_25) (by decide) ?_
    show Go p e below t T50 m 26 #[iv i0, iv i1, iv i2, iv i3, iv i4, .unset, .unset, .unset, .unset, .unset, .unset, .unset, .unset, .unset, .unset, .unset] [(.int (3 : Int32)), (.ref b38), (.ref b38)]
    refine XS.iloadN X50.here hx rfl (hb hby at_26) rfl ?_
    show Go p e below t T50 m 27 #[iv i0, iv i1, iv i2, iv i3, iv i4, .unset, .unset, .unset, .unset, .unset, .unset, .unset, .unset, .unset, .unset, .unset] [(.int i3), (.int (3 : Int32)), (.ref b38), (.ref b38)]
    refine Jvm.Stand.ldcI X50 hx hown (mvT hZ (hw _ (List.mem_of_getElem? (i := 1) rfl))) (g := (mkF m 27 #[iv i0, iv i1, iv i2, iv i3, iv i4, .unset, .unset, .unset, .unset, .unset, .unset, .unset, .unset, .unset, .unset, .unset] [(.int i3), (.int (3 : Int32)), (.ref b38), (.ref b38)])) rfl (hb hby at_27) ?_
    show Go p e below t T50 m 29 #[iv i0, iv i1, iv i2, iv i3, iv i4, .unset, .unset, .unset, .unset, .unset, .unset, .unset, .unset, .unset, .unset, .unset] [(.int (131071 : Int32)), (.int i3), (.int (3 : Int32)), (.ref b38), (.ref b38)]
    refine XS.iand X50.here hx rfl (hb hby at_29) rfl ?_
    show Go p e below t T50 m 30 #[iv i0, iv i1, iv i2, iv i3, iv i4, .unset, .unset, .unset, .unset, .unset, .unset, .unset, .unset, .unset, .unset, .unset] [(.int (i3 &&& (131071 : Int32))), (.int (3 : Int32)), (.ref b38), (.ref b38)]
    show Go p e below t T50 m 30 #[iv i0, iv i1, iv i2, iv i3, iv i4, .unset, .unset, .unset, .unset, .unset, .unset, .unset, .unset, .unset, .unset, .unset] [(.int (nS i3)), (.int (3 : Int32)), (.ref b38), (.ref b38)]
    exact k)
  obtain ⟨cl53, Ar53, q53, S53, M53, H53, G53⟩ := id V50
  obtain ⟨T54, h54, X54, e54, W54, st54⟩ := stI X50 hx hZ e50 Ar53 (j := (3 : Int32)) (inb_of S53 ⟨by decide, by decide⟩) (g := (mkF m 30 #[iv i0, iv i1, iv i2, iv i3, iv i4, .unset, .unset, .unset, .unset, .unset, .unset, .unset, .unset, .unset, .unset, .unset] [(.int (nS i3)), (.int (3 : Int32)), (.ref b38), (.ref b38)])) rfl rfl (hb hby at_30)
  have N54 := Fr.snoc X54 N50 ng38
  have V54 : Arv Z h54 b38 k38 .int (4 : Int32) [(.int (nS i0)), (.int (nS i1)), (.int (nS i2)), (.int (nS i3))] (.int (0 : Int32)) := Arv.set Ar53 q53 S53 M53 H53 G53 rfl W54 3 rfl (Nat.le_of_ble_eq_true rfl)
  have g55 : Goes p e below S0 (T54.setTop (mkF m 31 #[iv i0, iv i1, iv i2, iv i3, iv i4, .unset, .unset, .unset, .unset, .unset, .unset, .unset, .unset, .unset, .unset, .unset] [(.ref b38)])) := fun t k => g52 t (st54 t k)
  have g56 : Goes p e below S0 (T54.setTop (mkF m 39 #[iv i0, iv i1, iv i2, iv i3, iv i4, rv b38, iv (nN i4), .unset, .unset, .unset, .unset, .unset, .unset, .unset, .unset, .unset] [])) := fun t k => g55 t (by
    refine XS.astore X54.here hx rfl (hb hby at_31) rfl rfl (l' := #[iv i0, iv i1, iv i2, iv i3, iv i4, rv b38, .unset, .unset, .unset, .unset, .unset, .unset, .unset, .unset, .unset, .unset]) rfl ?_
    show Go p e below t T54 m 33 #[iv i0, iv i1, iv i2, iv i3, iv i4, rv b38, .unset, .unset, .unset, .unset, .unset, .unset, .unset, .unset, .unset, .unset] []
    refine XS.iload X54.here hx rfl (hb hby at_33) rfl ?_
    show Go p e below t T54 m 35 #[iv i0, iv i1, iv i2, iv i3, iv i4, rv b38, .unset, .unset, .unset, .unset, .unset, .unset, .unset, .unset, .unset, .unset] [(.int i4)]
    refine XT.iconstV X54.here hx rfl (3 : Int32) (hb hby at_35) (by decide) ?_
    show Go p e below t T54 m 36 #[iv i0, iv i1, iv i2, iv i3, iv i4, rv b38, .unset, .unset, .unset, .unset, .unset, .unset, .unset, .unset, .unset, .unset] [(.int (3 : Int32)), (.int i4)]
    refine XS.iand X54.here hx rfl (hb hby at_36) rfl ?_
    show Go p e below t T54 m 37 #[iv i0, iv i1, iv i2, iv i3, iv i4, rv b38, .unset, .unset, .unset, .unset, .unset, .unset, .unset, .unset, .unset, .unset] [(.int (i4 &&& (3 : Int32)))]
    refine XS.istore X54.here hx rfl (hb hby at_37) rfl (l' := #[iv i0, iv i1, iv i2, iv i3, iv i4, rv b38, iv (nN i4), .unset, .unset, .unset, .unset, .unset, .unset, .unset, .unset, .unset]) rfl ?_
    show Go p e below t T54 m 39 #[iv i0, iv i1, iv i2, iv i3, iv i4, rv b38, iv (nN i4), .unset, .unset, .unset, .unset, .unset, .unset, .unset, .unset, .unset] []
    exact k)
  obtain ⟨n4, hn4⟩ : ∃ z, z = (nN i4) := ⟨_, rfl⟩
  rw [← hn4] at g56
  have g57 : Goes p e below S0 (T54.setTop (mkF m 66 #[iv i0, iv i1, iv i2, iv i3, iv i4, rv b38, iv n4, iv (nI0 i4), iv (nI1 i4), iv (nI2 i4), .unset, .unset, .unset, .unset, .unset, .unset] [(.int n4)])) := fun t k => g56 t (by
    refine XS.iload X54.here hx rfl (hb hby at_39) rfl ?_
    show Go p e below t T54 m 41 #[iv i0, iv i1, iv i2, iv i3, iv i4, rv b38, iv n4, .unset, .unset, .unset, .unset, .unset, .unset, .unset, .unset, .unset] [(.int i4)]
    refine XT.iconstV X54.here hx rfl (2 : Int32) (hb hby at_41) (by decide) ?_
    show Go p e below t T54 m 42 #[iv i0, iv i1, iv i2, iv i3, iv i4, rv b38, iv n4, .unset, .unset, .unset, .unset, .unset, .unset, .unset, .unset, .unset] [(.int (2 : Int32)), (.int i4)]
    refine XS.iushr X54.here hx rfl (hb hby at_42) rfl ?_
    show Go p e below t T54 m 43 #[iv i0, iv i1, iv i2, iv i3, iv i4, rv b38, iv n4, .unset, .unset, .unset, .unset, .unset, .unset, .unset, .unset, .unset] [(.int (((i4).toUInt32 >>> ((2 : Int32) &&& 31).toUInt32).toInt32))]
    refine XT.iconstV X54.here hx rfl (3 : Int32) (hb hby at_43) (by decide) ?_
    show Go p e below t T54 m 44 #[iv i0, iv i1, iv i2, iv i3, iv i4, rv b38, iv n4, .unset, .unset, .unset, .unset, .unset, .unset, .unset, .unset, .unset] [(.int (3 : Int32)), (.int (((i4).toUInt32 >>> ((2 : Int32) &&& 31).toUInt32).toInt32))]
    refine XS.iand X54.here hx rfl (hb hby at_44) rfl ?_
    show Go p e below t T54 m 45 #[iv i0, iv i1, iv i2, iv i3, iv i4, rv b38, iv n4, .unset, .unset, .unset, .unset, .unset, .unset, .unset, .unset, .unset] [(.int ((((i4).toUInt32 >>> ((2 : Int32) &&& 31).toUInt32).toInt32) &&& (3 : Int32)))]
    refine XS.istore X54.here hx rfl (hb hby at_45) rfl (l' := #[iv i0, iv i1, iv i2, iv i3, iv i4, rv b38, iv n4, iv (nI0 i4), .unset, .unset, .unset, .unset, .unset, .unset, .unset, .unset]) rfl ?_
    show Go p e below t T54 m 47 #[iv i0, iv i1, iv i2, iv i3, iv i4, rv b38, iv n4, iv (nI0 i4), .unset, .unset, .unset, .unset, .unset, .unset, .unset, .unset] []
    refine XS.iload X54.here hx rfl (hb hby at_47) rfl ?_
    show Go p e below t T54 m 49 #[iv i0, iv i1, iv i2, iv i3, iv i4, rv b38, iv n4, iv (nI0 i4), .unset, .unset, .unset, .unset, .unset, .unset, .unset, .unset] [(.int i4)]
    refine XT.iconstV X54.here hx rfl (4 : Int32) (hb hby at_49) (by decide) ?_
    show Go p e below t T54 m 50 #[iv i0, iv i1, iv i2, iv i3, iv i4, rv b38, iv n4, iv (nI0 i4), .unset, .unset, .unset, .unset, .unset, .unset, .unset, .unset] [(.int (4 : Int32)), (.int i4)]
    refine XS.iushr X54.here hx rfl (hb hby at_50) rfl ?_
    show Go p e below t T54 m 51 #[iv i0, iv i1, iv i2, iv i3, iv i4, rv b38, iv n4, iv (nI0 i4), .unset, .unset, .unset, .unset, .unset, .unset, .unset, .unset] [(.int (((i4).toUInt32 >>> ((4 : Int32) &&& 31).toUInt32).toInt32))]
    refine XT.iconstV X54.here hx rfl (3 : Int32) (hb hby at_51) (by decide) ?_
    show Go p e below t T54 m 52 #[iv i0, iv i1, iv i2, iv i3, iv i4, rv b38, iv n4, iv (nI0 i4), .unset, .unset, .unset, .unset, .unset, .unset, .unset, .unset] [(.int (3 : Int32)), (.int (((i4).toUInt32 >>> ((4 : Int32) &&& 31).toUInt32).toInt32))]
    refine XS.iand X54.here hx rfl (hb hby at_52) rfl ?_
    show Go p e below t T54 m 53 #[iv i0, iv i1, iv i2, iv i3, iv i4, rv b38, iv n4, iv (nI0 i4), .unset, .unset, .unset, .unset, .unset, .unset, .unset, .unset] [(.int ((((i4).toUInt32 >>> ((4 : Int32) &&& 31).toUInt32).toInt32) &&& (3 : Int32)))]
    refine XS.istore X54.here hx rfl (hb hby at_53) rfl (l' := #[iv i0, iv i1, iv i2, iv i3, iv i4, rv b38, iv n4, iv (nI0 i4), iv (nI1 i4), .unset, .unset, .unset, .unset, .unset, .unset, .unset]) rfl ?_
    show Go p e below t T54 m 55 #[iv i0, iv i1, iv i2, iv i3, iv i4, rv b38, iv n4, iv (nI0 i4), iv (nI1 i4), .unset, .unset, .unset, .unset, .unset, .unset, .unset] []
    refine XS.iload X54.here hx rfl (hb hby at_55) rfl ?_
    show Go p e below t T54 m 57 #[iv i0, iv i1, iv i2, iv i3, iv i4, rv b38, iv n4, iv (nI0 i4), iv (nI1 i4), .unset, .unset, .unset, .unset, .unset, .unset, .unset] [(.int i4)]
    refine XT.bipushV X54.here hx rfl (6 : Int32) (hb hby at_57) (by decide) ?_
    show Go p e below t T54 m 59 #[iv i0, iv i1, iv i2, iv i3, iv i4, rv b38, iv n4, iv (nI0 i4), iv (nI1 i4), .unset, .unset, .unset, .unset, .unset, .unset, .unset] [(.int (6 : Int32)), (.int i4)]
    refine XS.iushr X54.here hx rfl (hb hby at_59) rfl ?_
    show Go p e below t T54 m 60 #[iv i0, iv i1, iv i2, iv i3, iv i4, rv b38, iv n4, iv (nI0 i4), iv (nI1 i4), .unset, .unset, .unset, .unset, .unset, .unset, .unset] [(.int (((i4).toUInt32 >>> ((6 : Int32) &&& 31).toUInt32).toInt32))]
    refine XT.iconstV X54.here hx rfl (3 : Int32) (hb hby at_60) (by decide) ?_
    show Go p e below t T54 m 61 #[iv i0, iv i1, iv i2, iv i3, iv i4, rv b38, iv n4, iv (nI0 i4), iv (nI1 i4), .unset, .unset, .unset, .unset, .unset, .unset, .unset] [(.int (3 : Int32)), (.int (((i4).toUInt32 >>> ((6 : Int32) &&& 31).toUInt32).toInt32))]
    refine XS.iand X54.here hx rfl (hb hby at_61) rfl ?_
    show Go p e below t T54 m 62 #[iv i0, iv i1, iv i2, iv i3, iv i4, rv b38, iv n4, iv (nI0 i4), iv (nI1 i4), .unset, .unset, .unset, .unset, .unset, .unset, .unset] [(.int ((((i4).toUInt32 >>> ((6 : Int32) &&& 31).toUInt32).toInt32) &&& (3 : Int32)))]
    refine XS.istore X54.here hx rfl (hb hby at_62) rfl (l' := #[iv i0, iv i1, iv i2, iv i3, iv i4, rv b38, iv n4, iv (nI0 i4), iv (nI1 i4), iv (nI2 i4), .unset, .unset, .unset, .unset, .unset, .unset]) rfl ?_
    show Go p e below t T54 m 64 #[iv i0, iv i1, iv i2, iv i3, iv i4, rv b38, iv n4, iv (nI0 i4), iv (nI1 i4), iv (nI2 i4), .unset, .unset, .unset, .unset, .unset, .unset] []
    refine XS.iload X54.here hx rfl (hb hby at_64) rfl ?_
    show Go p e below t T54 m 66 #[iv i0, iv i1, iv i2, iv i3, iv i4, rv b38, iv n4, iv (nI0 i4), iv (nI1 i4), iv (nI2 i4), .unset, .unset, .unset, .unset, .unset, .unset] [(.int n4)]
    exact k)
  by_cases h58 : n4 = 0
  · skip
    subst h58
    have g59 : Goes p e below S0 (T54.setTop (mkF m 70 #[iv i0, iv i1, iv i2, iv i3, iv i4, rv b38, iv (0 : Int32), iv (nI0 i4), iv (nI1 i4), iv (nI2 i4), .unset, .unset, .unset, .unset, .unset, .unset] [(.int (0 : Int32))])) := fun t k => g57 t (by
      refine XS.ifNo X54.here hx rfl (hb hby at_66) rfl (XT.i0_ne_f (by decide)) ?_
      show Go p e below t T54 m 69 #[iv i0, iv i1, iv i2, iv i3, iv i4, rv b38, iv (0 : Int32), iv (nI0 i4), iv (nI1 i4), iv (nI2 i4), .unset, .unset, .unset, .unset, .unset, .unset] []
      refine XT.iconstV X54.here hx rfl (0 : Int32) (hb hby at_69) (by decide) ?_
      show Go p e below t T54 m 70 #[iv i0, iv i1, iv i2, iv i3, iv i4, rv b38, iv (0 : Int32), iv (nI0 i4), iv (nI1 i4), iv (nI2 i4), .unset, .unset, .unset, .unset, .unset, .unset] [(.int (0 : Int32))]
      exact k)
    obtain ⟨T60, h60, k60, X60, e60, E60, A60, st60⟩ := newP X54 hx hZ (hw _ (List.mem_of_getElem? (i := 0) rfl)) e54 (g := (mkF m 70 #[iv i0, iv i1, iv i2, iv i3, iv i4, rv b38, iv (0 : Int32), iv (nI0 i4), iv (nI1 i4), iv (nI2 i4), .unset, .unset, .unset, .unset, .unset, .unset] [(.int (0 : Int32))])) rfl (hb hby at_70) rfl (by decide) (cap := 0) (by decide) (by decide) (by decide) (by decide)
    obtain ⟨b60, gb60⟩ : ∃ z, z = h54.size := ⟨_, rfl⟩
    have sz60 : h0.size ≤ b60 := Nat.le_trans (Nat.le_trans (Nat.le_trans (Nat.le_trans (Nat.le_trans (Nat.le_trans (Nat.le_refl _) E38.1) (Nat.le_of_eq W42.size.symm)) (Nat.le_of_eq W46.size.symm)) (Nat.le_of_eq W50.size.symm)) (Nat.le_of_eq W54.size.symm)) (Nat.le_of_eq gb60.symm)
    have ng60 : n0 ≤ b60 := Nat.le_trans Z0 sz60
    rw [← gb60] at A60 st60
    have V60 : Arv Z h60 b60 k60 .int (0 : Int32) [] (.int (0 : Int32)) := (Arv.new A60 (by decide)).pad (pad_rep [] (.int (0 : Int32)) 0)
    have g61 : Goes p e below S0 (T60.setTop (mkF m 72 #[iv i0, iv i1, iv i2, iv i3, iv i4, rv b38, iv (0 : Int32), iv (nI0 i4), iv (nI1 i4), iv (nI2 i4), .unset, .unset, .unset, .unset, .unset, .unset] [(.ref b60)])) := fun t k => g59 t (st60 t k)
    have g62 : Goes p e below S0 (T60.setTop (mkF m 197 #[iv i0, iv i1, iv i2, iv i3, iv i4, rv b38, iv (0 : Int32), iv (nI0 i4), iv (nI1 i4), iv (nI2 i4), rv b60, .val (.long (1 : Int64)), .second, .unset, .unset, .unset] [(.ref b38), (.ref b60)])) := fun t k => g61 t (by
      refine XS.astore X60.here hx rfl (hb hby at_72) rfl rfl (l' := #[iv i0, iv i1, iv i2, iv i3, iv i4, rv b38, iv (0 : Int32), iv (nI0 i4), iv (nI1 i4), iv (nI2 i4), rv b60, .unset, .unset, .unset, .unset, .unset]) rfl ?_
      show Go p e below t T60 m 74 #[iv i0, iv i1, iv i2, iv i3, iv i4, rv b38, iv (0 : Int32), iv (nI0 i4), iv (nI1 i4), iv (nI2 i4), rv b60, .unset, .unset, .unset, .unset, .unset] []
      refine XS.goto X60.here hx rfl (pc0 := 74) (pc' := 140) rfl (hb hby at_74) (by decide) (by decide) ?_
      show Go p e below t T60 m 140 #[iv i0, iv i1, iv i2, iv i3, iv i4, rv b38, iv (0 : Int32), iv (nI0 i4), iv (nI1 i4), iv (nI2 i4), rv b60, .unset, .unset, .unset, .unset, .unset] []
      refine XT.lconstV X60.here hx rfl (1 : Int64) (hb hby at_140) (by decide) ?_
      show Go p e below t T60 m 141 #[iv i0, iv i1, iv i2, iv i3, iv i4, rv b38, iv (0 : Int32), iv (nI0 i4), iv (nI1 i4), iv (nI2 i4), rv b60, .unset, .unset, .unset, .unset, .unset] [(.long (1 : Int64))]
      refine XS.lstore X60.here hx rfl (hb hby at_141) rfl (l' := #[iv i0, iv i1, iv i2, iv i3, iv i4, rv b38, iv (0 : Int32), iv (nI0 i4), iv (nI1 i4), iv (nI2 i4), rv b60, .val (.long (1 : Int64)), .second, .unset, .unset, .unset]) rfl ?_
      show Go p e below t T60 m 143 #[iv i0, iv i1, iv i2, iv i3, iv i4, rv b38, iv (0 : Int32), iv (nI0 i4), iv (nI1 i4), iv (nI2 i4), rv b60, .val (.long (1 : Int64)), .second, .unset, .unset, .unset] []
      refine XS.iload X60.here hx rfl (hb hby at_143) rfl ?_
      show Go p e below t T60 m 145 #[iv i0, iv i1, iv i2, iv i3, iv i4, rv b38, iv (0 : Int32), iv (nI0 i4), iv (nI1 i4), iv (nI2 i4), rv b60, .val (.long (1 : Int64)), .second, .unset, .unset, .unset] [(.int (0 : Int32))]
      refine XS.ifYes X60.here hx rfl (pc0 := 145) (pc' := 159) rfl (hb hby at_145) rfl (XT.i0_le_t (by decide)) (by decide) (by decide) ?_
      show Go p e below t T60 m 159 #[iv i0, iv i1, iv i2, iv i3, iv i4, rv b38, iv (0 : Int32), iv (nI0 i4), iv (nI1 i4), iv (nI2 i4), rv b60, .val (.long (1 : Int64)), .second, .unset, .unset, .unset] []
      refine XS.iload X60.here hx rfl (hb hby at_159) rfl ?_
      show Go p e below t T60 m 161 #[iv i0, iv i1, iv i2, iv i3, iv i4, rv b38, iv (0 : Int32), iv (nI0 i4), iv (nI1 i4), iv (nI2 i4), rv b60, .val (.long (1 : Int64)), .second, .unset, .unset, .unset] [(.int (0 : Int32))]
      refine XT.iconstV X60.here hx rfl (1 : Int32) (hb hby at_161) (by decide) ?_
      show Go p e below t T60 m 162 #[iv i0, iv i1, iv i2, iv i3, iv i4, rv b38, iv (0 : Int32), iv (nI0 i4), iv (nI1 i4), iv (nI2 i4), rv b60, .val (.long (1 : Int64)), .second, .unset, .unset, .unset] [(.int (1 : Int32)), (.int (0 : Int32))]
      refine XS.icmpYes X60.here hx rfl (pc0 := 162) (pc' := 176) rfl (hb hby at_162) rfl (XT.ii_le_t (by decide)) (by decide) (by decide) ?_
      show Go p e below t T60 m 176 #[iv i0, iv i1, iv i2, iv i3, iv i4, rv b38, iv (0 : Int32), iv (nI0 i4), iv (nI1 i4), iv (nI2 i4), rv b60, .val (.long (1 : Int64)), .second, .unset, .unset, .unset] []
      refine XS.iload X60.here hx rfl (hb hby at_176) rfl ?_
      show Go p e below t T60 m 178 #[iv i0, iv i1, iv i2, iv i3, iv i4, rv b38, iv (0 : Int32), iv (nI0 i4), iv (nI1 i4), iv (nI2 i4), rv b60, .val (.long (1 : Int64)), .second, .unset, .unset, .unset] [(.int (0 : Int32))]
      refine XT.iconstV X60.here hx rfl (2 : Int32) (hb hby at_178) (by decide) ?_
      show Go p e below t T60 m 179 #[iv i0, iv i1, iv i2, iv i3, iv i4, rv b38, iv (0 : Int32), iv (nI0 i4), iv (nI1 i4), iv (nI2 i4), rv b60, .val (.long (1 : Int64)), .second, .unset, .unset, .unset] [(.int (2 : Int32)), (.int (0 : Int32))]
      refine XS.icmpYes X60.here hx rfl (pc0 := 179) (pc' := 193) rfl (hb hby at_179) rfl (XT.ii_le_t (by decide)) (by decide) (by decide) ?_
      show Go p e below t T60 m 193 #[iv i0, iv i1, iv i2, iv i3, iv i4, rv b38, iv (0 : Int32), iv (nI0 i4), iv (nI1 i4), iv (nI2 i4), rv b60, .val (.long (1 : Int64)), .second, .unset, .unset, .unset] []
      refine XS.aload X60.here hx rfl (hb hby at_193) rfl rfl ?_
      show Go p e below t T60 m 195 #[iv i0, iv i1, iv i2, iv i3, iv i4, rv b38, iv (0 : Int32), iv (nI0 i4), iv (nI1 i4), iv (nI2 i4), rv b60, .val (.long (1 : Int64)), .second, .unset, .unset, .unset] [(.ref b60)]
      refine XS.aload X60.here hx rfl (hb hby at_195) rfl rfl ?_
      show Go p e below t T60 m 197 #[iv i0, iv i1, iv i2, iv i3, iv i4, rv b38, iv (0 : Int32), iv (nI0 i4), iv (nI1 i4), iv (nI2 i4), rv b60, .val (.long (1 : Int64)), .second, .unset, .unset, .unset] [(.ref b38), (.ref b60)]
      exact k)
    obtain ⟨_, _, ⟨T63, L63, k63, n63⟩, -, X63, ⟨Lc63, hQ63, l63, y63, z63⟩, st63⟩ := Jvm.LawKit.callS X60 hx (y := (⟨"com/example/aristotle/aristotle/EliminationPlan", "entries", "([I[I)D"⟩ : MethodName)) hown (mvT hZ (hw _ (List.mem_of_getElem? (i := 2) rfl))) (mvT hZ (hw _ (List.mem_of_getElem? (i := 3) rfl))) (mvT hZ (hw _ (List.mem_of_getElem? (i := 4) rfl))) (mvT hZ (hw _ (List.mem_of_getElem? (i := 5) rfl))) (by decide) (backOf (W := 0) (rm_ent0 l Z a0 hw [] b60 b38 k60 k38 (nS i0) (nS i1) (nS i2) (nS i3) h60 n0 (Nat.le_trans Z0 (Nat.le_trans (Nat.le_trans (Nat.le_trans (Nat.le_trans (Nat.le_trans (Nat.le_trans (Nat.le_refl _) E38.1) (Nat.le_of_eq W42.size.symm)) (Nat.le_of_eq W46.size.symm)) (Nat.le_of_eq W50.size.symm)) (Nat.le_of_eq W54.size.symm)) E60.1)) V60 (V54.ext E60)) hZ (hw _ (List.mem_of_getElem? (i := 5) rfl)) (hw _ (List.mem_of_getElem? (i := 4) rfl)) (by decide) (by decide)) (g := (mkF m 197 #[iv i0, iv i1, iv i2, iv i3, iv i4, rv b38, iv (0 : Int32), iv (nI0 i4), iv (nI1 i4), iv (nI2 i4), rv b60, .val (.long (1 : Int64)), .second, .unset, .unset, .unset] [(.ref b38), (.ref b60)])) rfl (by rw [hml]; rfl) (argsL := [(.ref b60), (.ref b38)]) (rest := []) (lenOf pd0 rfl) rfl (by show 2 * 0 + _ ≤ _; exact Nat.le_of_eq rfl) (hb hby at_197) (fun _ _ => ⟨rfl, e60, (by decide : 2 + 0 ≤ _), (by decide : 4 + 0 ≤ _)⟩)
    dsimp only [Pt.U, Pt.locs, Pt.cells, Pt.slots] at X63 l63 y63 z63 st63 hQ63
    subst l63 y63 z63
    obtain ⟨rfl, N63, e63⟩ := hQ63
    have M63 := Fr.app N54 N63
    have g64 : Goes p e below S0 (T63.setTop (mkF m 200 #[iv i0, iv i1, iv i2, iv i3, iv i4, rv b38, iv (0 : Int32), iv (nI0 i4), iv (nI1 i4), iv (nI2 i4), rv b60, .val (.long (1 : Int64)), .second, .unset, .unset, .unset] [(.double (f_ent0  (nS i0) (nS i1) (nS i2) (nS i3)))])) := fun t k => g62 t (st63 t k)
    have g65 : Goes p e below S0 (T63.setTop (mkF m 225 #[iv i0, iv i1, iv i2, iv i3, iv i4, rv b38, iv (0 : Int32), iv (nI0 i4), iv (nI1 i4), iv (nI2 i4), rv b60, .val (.long (1 : Int64)), .second, .val (.double (f_ent0  (nS i0) (nS i1) (nS i2) (nS i3))), .second, iv (1 : Int32)] [(.ref b60)])) := fun t k => g64 t (by
      refine XS.dstore X63.here hx rfl (hb hby at_200) rfl (l' := #[iv i0, iv i1, iv i2, iv i3, iv i4, rv b38, iv (0 : Int32), iv (nI0 i4), iv (nI1 i4), iv (nI2 i4), rv b60, .val (.long (1 : Int64)), .second, .val (.double (f_ent0  (nS i0) (nS i1) (nS i2) (nS i3))), .second, .unset]) rfl ?_
      show Go p e below t T63 m 202 #[iv i0, iv i1, iv i2, iv i3, iv i4, rv b38, iv (0 : Int32), iv (nI0 i4), iv (nI1 i4), iv (nI2 i4), rv b60, .val (.long (1 : Int64)), .second, .val (.double (f_ent0  (nS i0) (nS i1) (nS i2) (nS i3))), .second, .unset] []
      refine XS.dload X63.here hx rfl (hb hby at_202) rfl ?_
      show Go p e below t T63 m 204 #[iv i0, iv i1, iv i2, iv i3, iv i4, rv b38, iv (0 : Int32), iv (nI0 i4), iv (nI1 i4), iv (nI2 i4), rv b60, .val (.long (1 : Int64)), .second, .val (.double (f_ent0  (nS i0) (nS i1) (nS i2) (nS i3))), .second, .unset] [(.double (f_ent0  (nS i0) (nS i1) (nS i2) (nS i3)))]
      refine XS.lload X63.here hx rfl (hb hby at_204) rfl ?_
      show Go p e below t T63 m 206 #[iv i0, iv i1, iv i2, iv i3, iv i4, rv b38, iv (0 : Int32), iv (nI0 i4), iv (nI1 i4), iv (nI2 i4), rv b60, .val (.long (1 : Int64)), .second, .val (.double (f_ent0  (nS i0) (nS i1) (nS i2) (nS i3))), .second, .unset] [(.long (1 : Int64)), (.double (f_ent0  (nS i0) (nS i1) (nS i2) (nS i3)))]
      refine XS.l2dS X63.here hx rfl (hb hby at_206) rfl rfl ?_
      show Go p e below t T63 m 207 #[iv i0, iv i1, iv i2, iv i3, iv i4, rv b38, iv (0 : Int32), iv (nI0 i4), iv (nI1 i4), iv (nI2 i4), rv b60, .val (.long (1 : Int64)), .second, .val (.double (f_ent0  (nS i0) (nS i1) (nS i2) (nS i3))), .second, .unset] [(.double (FP.l2d (1 : Int64))), (.double (f_ent0  (nS i0) (nS i1) (nS i2) (nS i3)))]
      refine XS.dcmpS X63.here hx rfl (hb hby at_207) rfl rfl ?_
      show Go p e below t T63 m 208 #[iv i0, iv i1, iv i2, iv i3, iv i4, rv b38, iv (0 : Int32), iv (nI0 i4), iv (nI1 i4), iv (nI2 i4), rv b60, .val (.long (1 : Int64)), .second, .val (.double (f_ent0  (nS i0) (nS i1) (nS i2) (nS i3))), .second, .unset] [(.int (cmpValue (FP.dcmp (f_ent0  (nS i0) (nS i1) (nS i2) (nS i3)) (FP.l2d (1 : Int64))) .l))]
      refine XS.ifNo X63.here hx rfl (hb hby at_208) rfl (dc_l_ne_f own_eq0) ?_
      show Go p e below t T63 m 211 #[iv i0, iv i1, iv i2, iv i3, iv i4, rv b38, iv (0 : Int32), iv (nI0 i4), iv (nI1 i4), iv (nI2 i4), rv b60, .val (.long (1 : Int64)), .second, .val (.double (f_ent0  (nS i0) (nS i1) (nS i2) (nS i3))), .second, .unset] []
      refine XT.iconstV X63.here hx rfl (1 : Int32) (hb hby at_211) (by decide) ?_
      show Go p e below t T63 m 212 #[iv i0, iv i1, iv i2, iv i3, iv i4, rv b38, iv (0 : Int32), iv (nI0 i4), iv (nI1 i4), iv (nI2 i4), rv b60, .val (.long (1 : Int64)), .second, .val (.double (f_ent0  (nS i0) (nS i1) (nS i2) (nS i3))), .second, .unset] [(.int (1 : Int32))]
      refine XS.goto X63.here hx rfl (pc0 := 212) (pc' := 216) rfl (hb hby at_212) (by decide) (by decide) ?_
      show Go p e below t T63 m 216 #[iv i0, iv i1, iv i2, iv i3, iv i4, rv b38, iv (0 : Int32), iv (nI0 i4), iv (nI1 i4), iv (nI2 i4), rv b60, .val (.long (1 : Int64)), .second, .val (.double (f_ent0  (nS i0) (nS i1) (nS i2) (nS i3))), .second, .unset] [(.int (1 : Int32))]
      refine XS.istore X63.here hx rfl (hb hby at_216) rfl (l' := #[iv i0, iv i1, iv i2, iv i3, iv i4, rv b38, iv (0 : Int32), iv (nI0 i4), iv (nI1 i4), iv (nI2 i4), rv b60, .val (.long (1 : Int64)), .second, .val (.double (f_ent0  (nS i0) (nS i1) (nS i2) (nS i3))), .second, iv (1 : Int32)]) rfl ?_
      show Go p e below t T63 m 218 #[iv i0, iv i1, iv i2, iv i3, iv i4, rv b38, iv (0 : Int32), iv (nI0 i4), iv (nI1 i4), iv (nI2 i4), rv b60, .val (.long (1 : Int64)), .second, .val (.double (f_ent0  (nS i0) (nS i1) (nS i2) (nS i3))), .second, iv (1 : Int32)] []
      refine XS.iload X63.here hx rfl (hb hby at_218) rfl ?_
      show Go p e below t T63 m 220 #[iv i0, iv i1, iv i2, iv i3, iv i4, rv b38, iv (0 : Int32), iv (nI0 i4), iv (nI1 i4), iv (nI2 i4), rv b60, .val (.long (1 : Int64)), .second, .val (.double (f_ent0  (nS i0) (nS i1) (nS i2) (nS i3))), .second, iv (1 : Int32)] [(.int (1 : Int32))]
      refine XS.ifNo X63.here hx rfl (hb hby at_220) rfl (XT.i0_eq_f (by decide)) ?_
      show Go p e below t T63 m 223 #[iv i0, iv i1, iv i2, iv i3, iv i4, rv b38, iv (0 : Int32), iv (nI0 i4), iv (nI1 i4), iv (nI2 i4), rv b60, .val (.long (1 : Int64)), .second, .val (.double (f_ent0  (nS i0) (nS i1) (nS i2) (nS i3))), .second, iv (1 : Int32)] []
      refine XS.aload X63.here hx rfl (hb hby at_223) rfl rfl ?_
      show Go p e below t T63 m 225 #[iv i0, iv i1, iv i2, iv i3, iv i4, rv b38, iv (0 : Int32), iv (nI0 i4), iv (nI1 i4), iv (nI2 i4), rv b60, .val (.long (1 : Int64)), .second, .val (.double (f_ent0  (nS i0) (nS i1) (nS i2) (nS i3))), .second, iv (1 : Int32)] [(.ref b60)]
      exact k)
    obtain ⟨cl66, Ar66, q66, S66, M66, H66, G66⟩ := id V60
    have g67 : Goes p e below S0 (T63.setTop (mkF m 326 #[iv i0, iv i1, iv i2, iv i3, iv i4, rv b38, iv (0 : Int32), iv (nI0 i4), iv (nI1 i4), iv (nI2 i4), rv b60, .val (.long (1 : Int64)), .second, .val (.double (f_ent0  (nS i0) (nS i1) (nS i2) (nS i3))), .second, iv (1 : Int32)] [(.int (0 : Int32)), (.ref b38)])) := fun t k => g65 t (by
      refine X63.arraylength hx (by rw [e63]; exact Ar66.1) (State.isArrayOf_alike hZ.alike Ar66.2.1) (g := (mkF m 225 #[iv i0, iv i1, iv i2, iv i3, iv i4, rv b38, iv (0 : Int32), iv (nI0 i4), iv (nI1 i4), iv (nI2 i4), rv b60, .val (.long (1 : Int64)), .second, .val (.double (f_ent0  (nS i0) (nS i1) (nS i2) (nS i3))), .second, iv (1 : Int32)] [(.ref b60)])) rfl rfl (hb hby at_225) _ ?_
      rw [len_of S66 M66]
      show Go p e below t T63 m 226 #[iv i0, iv i1, iv i2, iv i3, iv i4, rv b38, iv (0 : Int32), iv (nI0 i4), iv (nI1 i4), iv (nI2 i4), rv b60, .val (.long (1 : Int64)), .second, .val (.double (f_ent0  (nS i0) (nS i1) (nS i2) (nS i3))), .second, iv (1 : Int32)] [(.int (0 : Int32))]
      refine XS.iload X63.here hx rfl (hb hby at_226) rfl ?_
      show Go p e below t T63 m 228 #[iv i0, iv i1, iv i2, iv i3, iv i4, rv b38, iv (0 : Int32), iv (nI0 i4), iv (nI1 i4), iv (nI2 i4), rv b60, .val (.long (1 : Int64)), .second, .val (.double (f_ent0  (nS i0) (nS i1) (nS i2) (nS i3))), .second, iv (1 : Int32)] [(.int (0 : Int32)), (.int (0 : Int32))]
      refine XS.icmpNo X63.here hx rfl (hb hby at_228) rfl (XT.ii_ne_f (by decide)) ?_
      show Go p e below t T63 m 231 #[iv i0, iv i1, iv i2, iv i3, iv i4, rv b38, iv (0 : Int32), iv (nI0 i4), iv (nI1 i4), iv (nI2 i4), rv b60, .val (.long (1 : Int64)), .second, .val (.double (f_ent0  (nS i0) (nS i1) (nS i2) (nS i3))), .second, iv (1 : Int32)] []
      refine XT.iconstV X63.here hx rfl (1 : Int32) (hb hby at_231) (by decide) ?_
      show Go p e below t T63 m 232 #[iv i0, iv i1, iv i2, iv i3, iv i4, rv b38, iv (0 : Int32), iv (nI0 i4), iv (nI1 i4), iv (nI2 i4), rv b60, .val (.long (1 : Int64)), .second, .val (.double (f_ent0  (nS i0) (nS i1) (nS i2) (nS i3))), .second, iv (1 : Int32)] [(.int (1 : Int32))]
      refine XS.goto X63.here hx rfl (pc0 := 232) (pc' := 236) rfl (hb hby at_232) (by decide) (by decide) ?_
      show Go p e below t T63 m 236 #[iv i0, iv i1, iv i2, iv i3, iv i4, rv b38, iv (0 : Int32), iv (nI0 i4), iv (nI1 i4), iv (nI2 i4), rv b60, .val (.long (1 : Int64)), .second, .val (.double (f_ent0  (nS i0) (nS i1) (nS i2) (nS i3))), .second, iv (1 : Int32)] [(.int (1 : Int32))]
      refine XS.istore X63.here hx rfl (hb hby at_236) rfl (l' := #[iv i0, iv i1, iv i2, iv i3, iv i4, rv b38, iv (0 : Int32), iv (nI0 i4), iv (nI1 i4), iv (nI2 i4), rv b60, .val (.long (1 : Int64)), .second, .val (.double (f_ent0  (nS i0) (nS i1) (nS i2) (nS i3))), .second, iv (1 : Int32)]) rfl ?_
      show Go p e below t T63 m 238 #[iv i0, iv i1, iv i2, iv i3, iv i4, rv b38, iv (0 : Int32), iv (nI0 i4), iv (nI1 i4), iv (nI2 i4), rv b60, .val (.long (1 : Int64)), .second, .val (.double (f_ent0  (nS i0) (nS i1) (nS i2) (nS i3))), .second, iv (1 : Int32)] []
      refine XS.iload X63.here hx rfl (hb hby at_238) rfl ?_
      show Go p e below t T63 m 240 #[iv i0, iv i1, iv i2, iv i3, iv i4, rv b38, iv (0 : Int32), iv (nI0 i4), iv (nI1 i4), iv (nI2 i4), rv b60, .val (.long (1 : Int64)), .second, .val (.double (f_ent0  (nS i0) (nS i1) (nS i2) (nS i3))), .second, iv (1 : Int32)] [(.int (0 : Int32))]
      refine XS.ifYes X63.here hx rfl (pc0 := 240) (pc' := 264) rfl (hb hby at_240) rfl (XT.i0_le_t (by decide)) (by decide) (by decide) ?_
      show Go p e below t T63 m 264 #[iv i0, iv i1, iv i2, iv i3, iv i4, rv b38, iv (0 : Int32), iv (nI0 i4), iv (nI1 i4), iv (nI2 i4), rv b60, .val (.long (1 : Int64)), .second, .val (.double (f_ent0  (nS i0) (nS i1) (nS i2) (nS i3))), .second, iv (1 : Int32)] []
      refine XS.iload X63.here hx rfl (hb hby at_264) rfl ?_
      show Go p e below t T63 m 266 #[iv i0, iv i1, iv i2, iv i3, iv i4, rv b38, iv (0 : Int32), iv (nI0 i4), iv (nI1 i4), iv (nI2 i4), rv b60, .val (.long (1 : Int64)), .second, .val (.double (f_ent0  (nS i0) (nS i1) (nS i2) (nS i3))), .second, iv (1 : Int32)] [(.int (0 : Int32))]
      refine XT.iconstV X63.here hx rfl (1 : Int32) (hb hby at_266) (by decide) ?_
      show Go p e below t T63 m 267 #[iv i0, iv i1, iv i2, iv i3, iv i4, rv b38, iv (0 : Int32), iv (nI0 i4), iv (nI1 i4), iv (nI2 i4), rv b60, .val (.long (1 : Int64)), .second, .val (.double (f_ent0  (nS i0) (nS i1) (nS i2) (nS i3))), .second, iv (1 : Int32)] [(.int (1 : Int32)), (.int (0 : Int32))]
      refine XS.icmpYes X63.here hx rfl (pc0 := 267) (pc' := 291) rfl (hb hby at_267) rfl (XT.ii_le_t (by decide)) (by decide) (by decide) ?_
      show Go p e below t T63 m 291 #[iv i0, iv i1, iv i2, iv i3, iv i4, rv b38, iv (0 : Int32), iv (nI0 i4), iv (nI1 i4), iv (nI2 i4), rv b60, .val (.long (1 : Int64)), .second, .val (.double (f_ent0  (nS i0) (nS i1) (nS i2) (nS i3))), .second, iv (1 : Int32)] []
      refine XS.iload X63.here hx rfl (hb hby at_291) rfl ?_
      show Go p e below t T63 m 293 #[iv i0, iv i1, iv i2, iv i3, iv i4, rv b38, iv (0 : Int32), iv (nI0 i4), iv (nI1 i4), iv (nI2 i4), rv b60, .val (.long (1 : Int64)), .second, .val (.double (f_ent0  (nS i0) (nS i1) (nS i2) (nS i3))), .second, iv (1 : Int32)] [(.int (0 : Int32))]
      refine XT.iconstV X63.here hx rfl (2 : Int32) (hb hby at_293) (by decide) ?_
      show Go p e below t T63 m 294 #[iv i0, iv i1, iv i2, iv i3, iv i4, rv b38, iv (0 : Int32), iv (nI0 i4), iv (nI1 i4), iv (nI2 i4), rv b60, .val (.long (1 : Int64)), .second, .val (.double (f_ent0  (nS i0) (nS i1) (nS i2) (nS i3))), .second, iv (1 : Int32)] [(.int (2 : Int32)), (.int (0 : Int32))]
      refine XS.icmpYes X63.here hx rfl (pc0 := 294) (pc' := 318) rfl (hb hby at_294) rfl (XT.ii_le_t (by decide)) (by decide) (by decide) ?_
      show Go p e below t T63 m 318 #[iv i0, iv i1, iv i2, iv i3, iv i4, rv b38, iv (0 : Int32), iv (nI0 i4), iv (nI1 i4), iv (nI2 i4), rv b60, .val (.long (1 : Int64)), .second, .val (.double (f_ent0  (nS i0) (nS i1) (nS i2) (nS i3))), .second, iv (1 : Int32)] []
      refine XS.iload X63.here hx rfl (hb hby at_318) rfl ?_
      show Go p e below t T63 m 320 #[iv i0, iv i1, iv i2, iv i3, iv i4, rv b38, iv (0 : Int32), iv (nI0 i4), iv (nI1 i4), iv (nI2 i4), rv b60, .val (.long (1 : Int64)), .second, .val (.double (f_ent0  (nS i0) (nS i1) (nS i2) (nS i3))), .second, iv (1 : Int32)] [(.int (1 : Int32))]
      refine XS.ifNo X63.here hx rfl (hb hby at_320) rfl (XT.i0_eq_f (by decide)) ?_
      show Go p e below t T63 m 323 #[iv i0, iv i1, iv i2, iv i3, iv i4, rv b38, iv (0 : Int32), iv (nI0 i4), iv (nI1 i4), iv (nI2 i4), rv b60, .val (.long (1 : Int64)), .second, .val (.double (f_ent0  (nS i0) (nS i1) (nS i2) (nS i3))), .second, iv (1 : Int32)] []
      refine XS.aload X63.here hx rfl (hb hby at_323) rfl rfl ?_
      show Go p e below t T63 m 325 #[iv i0, iv i1, iv i2, iv i3, iv i4, rv b38, iv (0 : Int32), iv (nI0 i4), iv (nI1 i4), iv (nI2 i4), rv b60, .val (.long (1 : Int64)), .second, .val (.double (f_ent0  (nS i0) (nS i1) (nS i2) (nS i3))), .second, iv (1 : Int32)] [(.ref b38)]
      refine XT.iconstV X63.here hx rfl (0 : Int32) (hb hby at_325) (by decide) ?_
      show Go p e below t T63 m 326 #[iv i0, iv i1, iv i2, iv i3, iv i4, rv b38, iv (0 : Int32), iv (nI0 i4), iv (nI1 i4), iv (nI2 i4), rv b60, .val (.long (1 : Int64)), .second, .val (.double (f_ent0  (nS i0) (nS i1) (nS i2) (nS i3))), .second, iv (1 : Int32)] [(.int (0 : Int32)), (.ref b38)]
      exact k)
    obtain ⟨cl68, Ar68, q68, S68, M68, H68, G68⟩ := id (V54.ext E60)
    have g69 : Goes p e below S0 (T63.setTop (mkF m 337 #[iv i0, iv i1, iv i2, iv i3, iv i4, rv b38, iv (0 : Int32), iv (nI0 i4), iv (nI1 i4), iv (nI2 i4), rv b60, .val (.long (1 : Int64)), .second, .val (.double (f_ent0  (nS i0) (nS i1) (nS i2) (nS i3))), .second, iv (1 : Int32)] [(.int (1 : Int32)), (.ref b38)])) := fun t k => g67 t (by
      refine X63.iaload hx (j := (0 : Int32)) (v := (.int (nS i0))) (by rw [e63]; exact Ar68.1) (State.isArrayOf_alike hZ.alike Ar68.2.1) Ar68.2.2 (inb_of S68 ⟨by decide, by decide⟩) (H68.at (inb_of S68 ⟨by decide, by decide⟩) rfl) (g := (mkF m 326 #[iv i0, iv i1, iv i2, iv i3, iv i4, rv b38, iv (0 : Int32), iv (nI0 i4), iv (nI1 i4), iv (nI2 i4), rv b60, .val (.long (1 : Int64)), .second, .val (.double (f_ent0  (nS i0) (nS i1) (nS i2) (nS i3))), .second, iv (1 : Int32)] [(.int (0 : Int32)), (.ref b38)])) rfl rfl (hb hby at_326) _ ?_
      show Go p e below t T63 m 327 #[iv i0, iv i1, iv i2, iv i3, iv i4, rv b38, iv (0 : Int32), iv (nI0 i4), iv (nI1 i4), iv (nI2 i4), rv b60, .val (.long (1 : Int64)), .second, .val (.double (f_ent0  (nS i0) (nS i1) (nS i2) (nS i3))), .second, iv (1 : Int32)] [(.int (nS i0))]
      refine XS.iloadN X63.here hx rfl (hb hby at_327) rfl ?_
      show Go p e below t T63 m 328 #[iv i0, iv i1, iv i2, iv i3, iv i4, rv b38, iv (0 : Int32), iv (nI0 i4), iv (nI1 i4), iv (nI2 i4), rv b60, .val (.long (1 : Int64)), .second, .val (.double (f_ent0  (nS i0) (nS i1) (nS i2) (nS i3))), .second, iv (1 : Int32)] [(.int i0), (.int (nS i0))]
      refine Jvm.Stand.ldcI X63 hx hown (mvT hZ (hw _ (List.mem_of_getElem? (i := 1) rfl))) (g := (mkF m 328 #[iv i0, iv i1, iv i2, iv i3, iv i4, rv b38, iv (0 : Int32), iv (nI0 i4), iv (nI1 i4), iv (nI2 i4), rv b60, .val (.long (1 : Int64)), .second, .val (.double (f_ent0  (nS i0) (nS i1) (nS i2) (nS i3))), .second, iv (1 : Int32)] [(.int i0), (.int (nS i0))])) rfl (hb hby at_328) ?_
      show Go p e below t T63 m 330 #[iv i0, iv i1, iv i2, iv i3, iv i4, rv b38, iv (0 : Int32), iv (nI0 i4), iv (nI1 i4), iv (nI2 i4), rv b60, .val (.long (1 : Int64)), .second, .val (.double (f_ent0  (nS i0) (nS i1) (nS i2) (nS i3))), .second, iv (1 : Int32)] [(.int (131071 : Int32)), (.int i0), (.int (nS i0))]
      refine XS.iand X63.here hx rfl (hb hby at_330) rfl ?_
      show Go p e below t T63 m 331 #[iv i0, iv i1, iv i2, iv i3, iv i4, rv b38, iv (0 : Int32), iv (nI0 i4), iv (nI1 i4), iv (nI2 i4), rv b60, .val (.long (1 : Int64)), .second, .val (.double (f_ent0  (nS i0) (nS i1) (nS i2) (nS i3))), .second, iv (1 : Int32)] [(.int (i0 &&& (131071 : Int32))), (.int (nS i0))]
      show Go p e below t T63 m 331 #[iv i0, iv i1, iv i2, iv i3, iv i4, rv b38, iv (0 : Int32), iv (nI0 i4), iv (nI1 i4), iv (nI2 i4), rv b60, .val (.long (1 : Int64)), .second, .val (.double (f_ent0  (nS i0) (nS i1) (nS i2) (nS i3))), .second, iv (1 : Int32)] [(.int (nS i0)), (.int (nS i0))]
      refine XS.icmpNo X63.here hx rfl (hb hby at_331) rfl (XT.ii_ne_f rfl) ?_
      show Go p e below t T63 m 334 #[iv i0, iv i1, iv i2, iv i3, iv i4, rv b38, iv (0 : Int32), iv (nI0 i4), iv (nI1 i4), iv (nI2 i4), rv b60, .val (.long (1 : Int64)), .second, .val (.double (f_ent0  (nS i0) (nS i1) (nS i2) (nS i3))), .second, iv (1 : Int32)] []
      refine XS.aload X63.here hx rfl (hb hby at_334) rfl rfl ?_
      show Go p e below t T63 m 336 #[iv i0, iv i1, iv i2, iv i3, iv i4, rv b38, iv (0 : Int32), iv (nI0 i4), iv (nI1 i4), iv (nI2 i4), rv b60, .val (.long (1 : Int64)), .second, .val (.double (f_ent0  (nS i0) (nS i1) (nS i2) (nS i3))), .second, iv (1 : Int32)] [(.ref b38)]
      refine XT.iconstV X63.here hx rfl (1 : Int32) (hb hby at_336) (by decide) ?_
      show Go p e below t T63 m 337 #[iv i0, iv i1, iv i2, iv i3, iv i4, rv b38, iv (0 : Int32), iv (nI0 i4), iv (nI1 i4), iv (nI2 i4), rv b60, .val (.long (1 : Int64)), .second, .val (.double (f_ent0  (nS i0) (nS i1) (nS i2) (nS i3))), .second, iv (1 : Int32)] [(.int (1 : Int32)), (.ref b38)]
      exact k)
    obtain ⟨cl70, Ar70, q70, S70, M70, H70, G70⟩ := id (V54.ext E60)
    have g71 : Goes p e below S0 (T63.setTop (mkF m 348 #[iv i0, iv i1, iv i2, iv i3, iv i4, rv b38, iv (0 : Int32), iv (nI0 i4), iv (nI1 i4), iv (nI2 i4), rv b60, .val (.long (1 : Int64)), .second, .val (.double (f_ent0  (nS i0) (nS i1) (nS i2) (nS i3))), .second, iv (1 : Int32)] [(.int (2 : Int32)), (.ref b38)])) := fun t k => g69 t (by
      refine X63.iaload hx (j := (1 : Int32)) (v := (.int (nS i1))) (by rw [e63]; exact Ar70.1) (State.isArrayOf_alike hZ.alike Ar70.2.1) Ar70.2.2 (inb_of S70 ⟨by decide, by decide⟩) (H70.at (inb_of S70 ⟨by decide, by decide⟩) rfl) (g := (mkF m 337 #[iv i0, iv i1, iv i2, iv i3, iv i4, rv b38, iv (0 : Int32), iv (nI0 i4), iv (nI1 i4), iv (nI2 i4), rv b60, .val (.long (1 : Int64)), .second, .val (.double (f_ent0  (nS i0) (nS i1) (nS i2) (nS i3))), .second, iv (1 : Int32)] [(.int (1 : Int32)), (.ref b38)])) rfl rfl (hb hby at_337) _ ?_
      show Go p e below t T63 m 338 #[iv i0, iv i1, iv i2, iv i3, iv i4, rv b38, iv (0 : Int32), iv (nI0 i4), iv (nI1 i4), iv (nI2 i4), rv b60, .val (.long (1 : Int64)), .second, .val (.double (f_ent0  (nS i0) (nS i1) (nS i2) (nS i3))), .second, iv (1 : Int32)] [(.int (nS i1))]
      refine XS.iloadN X63.here hx rfl (hb hby at_338) rfl ?_
      show Go p e below t T63 m 339 #[iv i0, iv i1, iv i2, iv i3, iv i4, rv b38, iv (0 : Int32), iv (nI0 i4), iv (nI1 i4), iv (nI2 i4), rv b60, .val (.long (1 : Int64)), .second, .val (.double (f_ent0  (nS i0) (nS i1) (nS i2) (nS i3))), .second, iv (1 : Int32)] [(.int i1), (.int (nS i1))]
      refine Jvm.Stand.ldcI X63 hx hown (mvT hZ (hw _ (List.mem_of_getElem? (i := 1) rfl))) (g := (mkF m 339 #[iv i0, iv i1, iv i2, iv i3, iv i4, rv b38, iv (0 : Int32), iv (nI0 i4), iv (nI1 i4), iv (nI2 i4), rv b60, .val (.long (1 : Int64)), .second, .val (.double (f_ent0  (nS i0) (nS i1) (nS i2) (nS i3))), .second, iv (1 : Int32)] [(.int i1), (.int (nS i1))])) rfl (hb hby at_339) ?_
      show Go p e below t T63 m 341 #[iv i0, iv i1, iv i2, iv i3, iv i4, rv b38, iv (0 : Int32), iv (nI0 i4), iv (nI1 i4), iv (nI2 i4), rv b60, .val (.long (1 : Int64)), .second, .val (.double (f_ent0  (nS i0) (nS i1) (nS i2) (nS i3))), .second, iv (1 : Int32)] [(.int (131071 : Int32)), (.int i1), (.int (nS i1))]
      refine XS.iand X63.here hx rfl (hb hby at_341) rfl ?_
      show Go p e below t T63 m 342 #[iv i0, iv i1, iv i2, iv i3, iv i4, rv b38, iv (0 : Int32), iv (nI0 i4), iv (nI1 i4), iv (nI2 i4), rv b60, .val (.long (1 : Int64)), .second, .val (.double (f_ent0  (nS i0) (nS i1) (nS i2) (nS i3))), .second, iv (1 : Int32)] [(.int (i1 &&& (131071 : Int32))), (.int (nS i1))]
      show Go p e below t T63 m 342 #[iv i0, iv i1, iv i2, iv i3, iv i4, rv b38, iv (0 : Int32), iv (nI0 i4), iv (nI1 i4), iv (nI2 i4), rv b60, .val (.long (1 : Int64)), .second, .val (.double (f_ent0  (nS i0) (nS i1) (nS i2) (nS i3))), .second, iv (1 : Int32)] [(.int (nS i1)), (.int (nS i1))]
      refine XS.icmpNo X63.here hx rfl (hb hby at_342) rfl (XT.ii_ne_f rfl) ?_
      show Go p e below t T63 m 345 #[iv i0, iv i1, iv i2, iv i3, iv i4, rv b38, iv (0 : Int32), iv (nI0 i4), iv (nI1 i4), iv (nI2 i4), rv b60, .val (.long (1 : Int64)), .second, .val (.double (f_ent0  (nS i0) (nS i1) (nS i2) (nS i3))), .second, iv (1 : Int32)] []
      refine XS.aload X63.here hx rfl (hb hby at_345) rfl rfl ?_
      show Go p e below t T63 m 347 #[iv i0, iv i1, iv i2, iv i3, iv i4, rv b38, iv (0 : Int32), iv (nI0 i4), iv (nI1 i4), iv (nI2 i4), rv b60, .val (.long (1 : Int64)), .second, .val (.double (f_ent0  (nS i0) (nS i1) (nS i2) (nS i3))), .second, iv (1 : Int32)] [(.ref b38)]
      refine XT.iconstV X63.here hx rfl (2 : Int32) (hb hby at_347) (by decide) ?_
      show Go p e below t T63 m 348 #[iv i0, iv i1, iv i2, iv i3, iv i4, rv b38, iv (0 : Int32), iv (nI0 i4), iv (nI1 i4), iv (nI2 i4), rv b60, .val (.long (1 : Int64)), .second, .val (.double (f_ent0  (nS i0) (nS i1) (nS i2) (nS i3))), .second, iv (1 : Int32)] [(.int (2 : Int32)), (.ref b38)]
      exact k)
    obtain ⟨cl72, Ar72, q72, S72, M72, H72, G72⟩ := id (V54.ext E60)
    have g73 : Goes p e below S0 (T63.setTop (mkF m 359 #[iv i0, iv i1, iv i2, iv i3, iv i4, rv b38, iv (0 : Int32), iv (nI0 i4), iv (nI1 i4), iv (nI2 i4), rv b60, .val (.long (1 : Int64)), .second, .val (.double (f_ent0  (nS i0) (nS i1) (nS i2) (nS i3))), .second, iv (1 : Int32)] [(.int (3 : Int32)), (.ref b38)])) := fun t k => g71 t (by
      refine X63.iaload hx (j := (2 : Int32)) (v := (.int (nS i2))) (by rw [e63]; exact Ar72.1) (State.isArrayOf_alike hZ.alike Ar72.2.1) Ar72.2.2 (inb_of S72 ⟨by decide, by decide⟩) (H72.at (inb_of S72 ⟨by decide, by decide⟩) rfl) (g := (mkF m 348 #[iv i0, iv i1, iv i2, iv i3, iv i4, rv b38, iv (0 : Int32), iv (nI0 i4), iv (nI1 i4), iv (nI2 i4), rv b60, .val (.long (1 : Int64)), .second, .val (.double (f_ent0  (nS i0) (nS i1) (nS i2) (nS i3))), .second, iv (1 : Int32)] [(.int (2 : Int32)), (.ref b38)])) rfl rfl (hb hby at_348) _ ?_
      show Go p e below t T63 m 349 #[iv i0, iv i1, iv i2, iv i3, iv i4, rv b38, iv (0 : Int32), iv (nI0 i4), iv (nI1 i4), iv (nI2 i4), rv b60, .val (.long (1 : Int64)), .second, .val (.double (f_ent0  (nS i0) (nS i1) (nS i2) (nS i3))), .second, iv (1 : Int32)] [(.int (nS i2))]
      refine XS.iloadN X63.here hx rfl (hb hby at_349) rfl ?_
      show Go p e below t T63 m 350 #[iv i0, iv i1, iv i2, iv i3, iv i4, rv b38, iv (0 : Int32), iv (nI0 i4), iv (nI1 i4), iv (nI2 i4), rv b60, .val (.long (1 : Int64)), .second, .val (.double (f_ent0  (nS i0) (nS i1) (nS i2) (nS i3))), .second, iv (1 : Int32)] [(.int i2), (.int (nS i2))]
      refine Jvm.Stand.ldcI X63 hx hown (mvT hZ (hw _ (List.mem_of_getElem? (i := 1) rfl))) (g := (mkF m 350 #[iv i0, iv i1, iv i2, iv i3, iv i4, rv b38, iv (0 : Int32), iv (nI0 i4), iv (nI1 i4), iv (nI2 i4), rv b60, .val (.long (1 : Int64)), .second, .val (.double (f_ent0  (nS i0) (nS i1) (nS i2) (nS i3))), .second, iv (1 : Int32)] [(.int i2), (.int (nS i2))])) rfl (hb hby at_350) ?_
      show Go p e below t T63 m 352 #[iv i0, iv i1, iv i2, iv i3, iv i4, rv b38, iv (0 : Int32), iv (nI0 i4), iv (nI1 i4), iv (nI2 i4), rv b60, .val (.long (1 : Int64)), .second, .val (.double (f_ent0  (nS i0) (nS i1) (nS i2) (nS i3))), .second, iv (1 : Int32)] [(.int (131071 : Int32)), (.int i2), (.int (nS i2))]
      refine XS.iand X63.here hx rfl (hb hby at_352) rfl ?_
      show Go p e below t T63 m 353 #[iv i0, iv i1, iv i2, iv i3, iv i4, rv b38, iv (0 : Int32), iv (nI0 i4), iv (nI1 i4), iv (nI2 i4), rv b60, .val (.long (1 : Int64)), .second, .val (.double (f_ent0  (nS i0) (nS i1) (nS i2) (nS i3))), .second, iv (1 : Int32)] [(.int (i2 &&& (131071 : Int32))), (.int (nS i2))]
      show Go p e below t T63 m 353 #[iv i0, iv i1, iv i2, iv i3, iv i4, rv b38, iv (0 : Int32), iv (nI0 i4), iv (nI1 i4), iv (nI2 i4), rv b60, .val (.long (1 : Int64)), .second, .val (.double (f_ent0  (nS i0) (nS i1) (nS i2) (nS i3))), .second, iv (1 : Int32)] [(.int (nS i2)), (.int (nS i2))]
      refine XS.icmpNo X63.here hx rfl (hb hby at_353) rfl (XT.ii_ne_f rfl) ?_
      show Go p e below t T63 m 356 #[iv i0, iv i1, iv i2, iv i3, iv i4, rv b38, iv (0 : Int32), iv (nI0 i4), iv (nI1 i4), iv (nI2 i4), rv b60, .val (.long (1 : Int64)), .second, .val (.double (f_ent0  (nS i0) (nS i1) (nS i2) (nS i3))), .second, iv (1 : Int32)] []
      refine XS.aload X63.here hx rfl (hb hby at_356) rfl rfl ?_
      show Go p e below t T63 m 358 #[iv i0, iv i1, iv i2, iv i3, iv i4, rv b38, iv (0 : Int32), iv (nI0 i4), iv (nI1 i4), iv (nI2 i4), rv b60, .val (.long (1 : Int64)), .second, .val (.double (f_ent0  (nS i0) (nS i1) (nS i2) (nS i3))), .second, iv (1 : Int32)] [(.ref b38)]
      refine XT.iconstV X63.here hx rfl (3 : Int32) (hb hby at_358) (by decide) ?_
      show Go p e below t T63 m 359 #[iv i0, iv i1, iv i2, iv i3, iv i4, rv b38, iv (0 : Int32), iv (nI0 i4), iv (nI1 i4), iv (nI2 i4), rv b60, .val (.long (1 : Int64)), .second, .val (.double (f_ent0  (nS i0) (nS i1) (nS i2) (nS i3))), .second, iv (1 : Int32)] [(.int (3 : Int32)), (.ref b38)]
      exact k)
    obtain ⟨cl74, Ar74, q74, S74, M74, H74, G74⟩ := id (V54.ext E60)
    have g75 : Goes p e below S0 (T63.setTop (mkF m 376 #[iv i0, iv i1, iv i2, iv i3, iv i4, rv b38, iv (0 : Int32), iv (nI0 i4), iv (nI1 i4), iv (nI2 i4), rv b60, .val (.long (1 : Int64)), .second, .val (.double (f_ent0  (nS i0) (nS i1) (nS i2) (nS i3))), .second, iv (1 : Int32)] [(.int (1 : Int32))])) := fun t k => g73 t (by
      refine X63.iaload hx (j := (3 : Int32)) (v := (.int (nS i3))) (by rw [e63]; exact Ar74.1) (State.isArrayOf_alike hZ.alike Ar74.2.1) Ar74.2.2 (inb_of S74 ⟨by decide, by decide⟩) (H74.at (inb_of S74 ⟨by decide, by decide⟩) rfl) (g := (mkF m 359 #[iv i0, iv i1, iv i2, iv i3, iv i4, rv b38, iv (0 : Int32), iv (nI0 i4), iv (nI1 i4), iv (nI2 i4), rv b60, .val (.long (1 : Int64)), .second, .val (.double (f_ent0  (nS i0) (nS i1) (nS i2) (nS i3))), .second, iv (1 : Int32)] [(.int (3 : Int32)), (.ref b38)])) rfl rfl (hb hby at_359) _ ?_
      show Go p e below t T63 m 360 #[iv i0, iv i1, iv i2, iv i3, iv i4, rv b38, iv (0 : Int32), iv (nI0 i4), iv (nI1 i4), iv (nI2 i4), rv b60, .val (.long (1 : Int64)), .second, .val (.double (f_ent0  (nS i0) (nS i1) (nS i2) (nS i3))), .second, iv (1 : Int32)] [(.int (nS i3))]
      refine XS.iloadN X63.here hx rfl (hb hby at_360) rfl ?_
      show Go p e below t T63 m 361 #[iv i0, iv i1, iv i2, iv i3, iv i4, rv b38, iv (0 : Int32), iv (nI0 i4), iv (nI1 i4), iv (nI2 i4), rv b60, .val (.long (1 : Int64)), .second, .val (.double (f_ent0  (nS i0) (nS i1) (nS i2) (nS i3))), .second, iv (1 : Int32)] [(.int i3), (.int (nS i3))]
      refine Jvm.Stand.ldcI X63 hx hown (mvT hZ (hw _ (List.mem_of_getElem? (i := 1) rfl))) (g := (mkF m 361 #[iv i0, iv i1, iv i2, iv i3, iv i4, rv b38, iv (0 : Int32), iv (nI0 i4), iv (nI1 i4), iv (nI2 i4), rv b60, .val (.long (1 : Int64)), .second, .val (.double (f_ent0  (nS i0) (nS i1) (nS i2) (nS i3))), .second, iv (1 : Int32)] [(.int i3), (.int (nS i3))])) rfl (hb hby at_361) ?_
      show Go p e below t T63 m 363 #[iv i0, iv i1, iv i2, iv i3, iv i4, rv b38, iv (0 : Int32), iv (nI0 i4), iv (nI1 i4), iv (nI2 i4), rv b60, .val (.long (1 : Int64)), .second, .val (.double (f_ent0  (nS i0) (nS i1) (nS i2) (nS i3))), .second, iv (1 : Int32)] [(.int (131071 : Int32)), (.int i3), (.int (nS i3))]
      refine XS.iand X63.here hx rfl (hb hby at_363) rfl ?_
      show Go p e below t T63 m 364 #[iv i0, iv i1, iv i2, iv i3, iv i4, rv b38, iv (0 : Int32), iv (nI0 i4), iv (nI1 i4), iv (nI2 i4), rv b60, .val (.long (1 : Int64)), .second, .val (.double (f_ent0  (nS i0) (nS i1) (nS i2) (nS i3))), .second, iv (1 : Int32)] [(.int (i3 &&& (131071 : Int32))), (.int (nS i3))]
      show Go p e below t T63 m 364 #[iv i0, iv i1, iv i2, iv i3, iv i4, rv b38, iv (0 : Int32), iv (nI0 i4), iv (nI1 i4), iv (nI2 i4), rv b60, .val (.long (1 : Int64)), .second, .val (.double (f_ent0  (nS i0) (nS i1) (nS i2) (nS i3))), .second, iv (1 : Int32)] [(.int (nS i3)), (.int (nS i3))]
      refine XS.icmpNo X63.here hx rfl (hb hby at_364) rfl (XT.ii_ne_f rfl) ?_
      show Go p e below t T63 m 367 #[iv i0, iv i1, iv i2, iv i3, iv i4, rv b38, iv (0 : Int32), iv (nI0 i4), iv (nI1 i4), iv (nI2 i4), rv b60, .val (.long (1 : Int64)), .second, .val (.double (f_ent0  (nS i0) (nS i1) (nS i2) (nS i3))), .second, iv (1 : Int32)] []
      refine XT.iconstV X63.here hx rfl (1 : Int32) (hb hby at_367) (by decide) ?_
      show Go p e below t T63 m 368 #[iv i0, iv i1, iv i2, iv i3, iv i4, rv b38, iv (0 : Int32), iv (nI0 i4), iv (nI1 i4), iv (nI2 i4), rv b60, .val (.long (1 : Int64)), .second, .val (.double (f_ent0  (nS i0) (nS i1) (nS i2) (nS i3))), .second, iv (1 : Int32)] [(.int (1 : Int32))]
      refine XS.goto X63.here hx rfl (pc0 := 368) (pc' := 372) rfl (hb hby at_368) (by decide) (by decide) ?_
      show Go p e below t T63 m 372 #[iv i0, iv i1, iv i2, iv i3, iv i4, rv b38, iv (0 : Int32), iv (nI0 i4), iv (nI1 i4), iv (nI2 i4), rv b60, .val (.long (1 : Int64)), .second, .val (.double (f_ent0  (nS i0) (nS i1) (nS i2) (nS i3))), .second, iv (1 : Int32)] [(.int (1 : Int32))]
      refine XS.istore X63.here hx rfl (hb hby at_372) rfl (l' := #[iv i0, iv i1, iv i2, iv i3, iv i4, rv b38, iv (0 : Int32), iv (nI0 i4), iv (nI1 i4), iv (nI2 i4), rv b60, .val (.long (1 : Int64)), .second, .val (.double (f_ent0  (nS i0) (nS i1) (nS i2) (nS i3))), .second, iv (1 : Int32)]) rfl ?_
      show Go p e below t T63 m 374 #[iv i0, iv i1, iv i2, iv i3, iv i4, rv b38, iv (0 : Int32), iv (nI0 i4), iv (nI1 i4), iv (nI2 i4), rv b60, .val (.long (1 : Int64)), .second, .val (.double (f_ent0  (nS i0) (nS i1) (nS i2) (nS i3))), .second, iv (1 : Int32)] []
      refine XS.iload X63.here hx rfl (hb hby at_374) rfl ?_
      show Go p e below t T63 m 376 #[iv i0, iv i1, iv i2, iv i3, iv i4, rv b38, iv (0 : Int32), iv (nI0 i4), iv (nI1 i4), iv (nI2 i4), rv b60, .val (.long (1 : Int64)), .second, .val (.double (f_ent0  (nS i0) (nS i1) (nS i2) (nS i3))), .second, iv (1 : Int32)] [(.int (1 : Int32))]
      exact k)
    obtain ⟨fs, hr, hrun, hended, hW, hsame⟩ := X63.leave (v := some (.int (1 : Int32))) (fun h => by rw [Bd.returns] at h; cases h)
    refine ⟨_, _, g75 _ (retN X63 hx (t := .boolean) Bd.returns (by simp) (hb hby at_376) hr), hrun, hended, _, _, rfl, ?_, ⟨_, rfl⟩, hW, hsame.mono (by decide) (by decide)⟩
    show Q_law Z i0 i1 i2 i3 i4  h0 n0 _ T63.heap _
    rw [e63]
    exact ⟨rfl, M63⟩
  · skip
    have g76 : Goes p e below S0 (T54.setTop (mkF m 80 #[iv i0, iv i1, iv i2, iv i3, iv i4, rv b38, iv n4, iv (nI0 i4), iv (nI1 i4), iv (nI2 i4), .unset, .unset, .unset, .unset, .unset, .unset] [(.int (1 : Int32)), (.int n4)])) := fun t k => g57 t (by
      refine XS.ifYes X54.here hx rfl (pc0 := 66) (pc' := 77) rfl (hb hby at_66) rfl (XT.i0_ne_t h58) (by decide) (by decide) ?_
      show Go p e below t T54 m 77 #[iv i0, iv i1, iv i2, iv i3, iv i4, rv b38, iv n4, iv (nI0 i4), iv (nI1 i4), iv (nI2 i4), .unset, .unset, .unset, .unset, .unset, .unset] []
      refine XS.iload X54.here hx rfl (hb hby at_77) rfl ?_
      show Go p e below t T54 m 79 #[iv i0, iv i1, iv i2, iv i3, iv i4, rv b38, iv n4, iv (nI0 i4), iv (nI1 i4), iv (nI2 i4), .unset, .unset, .unset, .unset, .unset, .unset] [(.int n4)]
      refine XT.iconstV X54.here hx rfl (1 : Int32) (hb hby at_79) (by decide) ?_
      show Go p e below t T54 m 80 #[iv i0, iv i1, iv i2, iv i3, iv i4, rv b38, iv n4, iv (nI0 i4), iv (nI1 i4), iv (nI2 i4), .unset, .unset, .unset, .unset, .unset, .unset] [(.int (1 : Int32)), (.int n4)]
      exact k)
    by_cases h77 : n4 = (1 : Int32)
    · skip
      subst h77
      have g78 : Goes p e below S0 (T54.setTop (mkF m 84 #[iv i0, iv i1, iv i2, iv i3, iv i4, rv b38, iv (1 : Int32), iv (nI0 i4), iv (nI1 i4), iv (nI2 i4), .unset, .unset, .unset, .unset, .unset, .unset] [(.int (1 : Int32))])) := fun t k => g76 t (by
        refine XS.icmpNo X54.here hx rfl (hb hby at_80) rfl (XT.ii_ne_f (by decide)) ?_
        show Go p e below t T54 m 83 #[iv i0, iv i1, iv i2, iv i3, iv i4, rv b38, iv (1 : Int32), iv (nI0 i4), iv (nI1 i4), iv (nI2 i4), .unset, .unset, .unset, .unset, .unset, .unset] []
        refine XT.iconstV X54.here hx rfl (1 : Int32) (hb hby at_83) (by decide) ?_
        show Go p e below t T54 m 84 #[iv i0, iv i1, iv i2, iv i3, iv i4, rv b38, iv (1 : Int32), iv (nI0 i4), iv (nI1 i4), iv (nI2 i4), .unset, .unset, .unset, .unset, .unset, .unset] [(.int (1 : Int32))]
        exact k)
      obtain ⟨T79, h79, k79, X79, e79, E79, A79, st79⟩ := newP X54 hx hZ (hw _ (List.mem_of_getElem? (i := 0) rfl)) e54 (g := (mkF m 84 #[iv i0, iv i1, iv i2, iv i3, iv i4, rv b38, iv (1 : Int32), iv (nI0 i4), iv (nI1 i4), iv (nI2 i4), .unset, .unset, .unset, .unset, .unset, .unset] [(.int (1 : Int32))])) rfl (hb hby at_84) rfl (by decide) (cap := 1) (by decide) (by decide) (by decide) (by decide)
      obtain ⟨b79, gb79⟩ : ∃ z, z = h54.size := ⟨_, rfl⟩
      have sz79 : h0.size ≤ b79 := Nat.le_trans (Nat.le_trans (Nat.le_trans (Nat.le_trans (Nat.le_trans (Nat.le_trans (Nat.le_refl _) E38.1) (Nat.le_of_eq W42.size.symm)) (Nat.le_of_eq W46.size.symm)) (Nat.le_of_eq W50.size.symm)) (Nat.le_of_eq W54.size.symm)) (Nat.le_of_eq gb79.symm)
      have ng79 : n0 ≤ b79 := Nat.le_trans Z0 sz79
      rw [← gb79] at A79 st79
      have V79 : Arv Z h79 b79 k79 .int (1 : Int32) [(.int (0 : Int32))] (.int (0 : Int32)) := (Arv.new A79 (by decide)).pad (pad_rep [] (.int (0 : Int32)) 1)
      have g80 : Goes p e below S0 (T79.setTop (mkF m 86 #[iv i0, iv i1, iv i2, iv i3, iv i4, rv b38, iv (1 : Int32), iv (nI0 i4), iv (nI1 i4), iv (nI2 i4), .unset, .unset, .unset, .unset, .unset, .unset] [(.ref b79)])) := fun t k => g78 t (st79 t k)
      have g81 : Goes p e below S0 (T79.setTop (mkF m 90 #[iv i0, iv i1, iv i2, iv i3, iv i4, rv b38, iv (1 : Int32), iv (nI0 i4), iv (nI1 i4), iv (nI2 i4), .unset, .unset, .unset, .unset, .unset, .unset] [(.int (nI0 i4)), (.int (0 : Int32)), (.ref b79), (.ref b79)])) := fun t k => g80 t (by
        refine XS.dup X79.here hx rfl (hb hby at_86) rfl rfl ?_
        show Go p e below t T79 m 87 #[iv i0, iv i1, iv i2, iv i3, iv i4, rv b38, iv (1 : Int32), iv (nI0 i4), iv (nI1 i4), iv (nI2 i4), .unset, .unset, .unset, .unset, .unset, .unset] [(.ref b79), (.ref b79)]
        refine XT.iconstV X79.here hx rfl (0 : Int32) (hb hby at_87) (by decide) ?_
        show Go p e below t T79 m 88 #[iv i0, iv i1, iv i2, iv i3, iv i4, rv b38, iv (1 : Int32), iv (nI0 i4), iv (nI1 i4), iv (nI2 i4), .unset, .unset, .unset, .unset, .unset, .unset] [(.int (0 : Int32)), (.ref b79), (.ref b79)]
        refine XS.iload X79.here hx rfl (hb hby at_88) rfl ?_
        show Go p e below t T79 m 90 #[iv i0, iv i1, iv i2, iv i3, iv i4, rv b38, iv (1 : Int32), iv (nI0 i4), iv (nI1 i4), iv (nI2 i4), .unset, .unset, .unset, .unset, .unset, .unset] [(.int (nI0 i4)), (.int (0 : Int32)), (.ref b79), (.ref b79)]
        exact k)
      obtain ⟨cl82, Ar82, q82, S82, M82, H82, G82⟩ := id V79
      obtain ⟨T83, h83, X83, e83, W83, st83⟩ := stI X79 hx hZ e79 Ar82 (j := (0 : Int32)) (inb_of S82 ⟨by decide, by decide⟩) (g := (mkF m 90 #[iv i0, iv i1, iv i2, iv i3, iv i4, rv b38, iv (1 : Int32), iv (nI0 i4), iv (nI1 i4), iv (nI2 i4), .unset, .unset, .unset, .unset, .unset, .unset] [(.int (nI0 i4)), (.int (0 : Int32)), (.ref b79), (.ref b79)])) rfl rfl (hb hby at_90)
      have N83 := Fr.snoc X83 N54 ng79
      have V83 : Arv Z h83 b79 k79 .int (1 : Int32) [(.int (nI0 i4))] (.int (0 : Int32)) := Arv.set Ar82 q82 S82 M82 H82 G82 rfl W83 0 rfl (Nat.le_of_ble_eq_true rfl)
      have g84 : Goes p e below S0 (T83.setTop (mkF m 91 #[iv i0, iv i1, iv i2, iv i3, iv i4, rv b38, iv (1 : Int32), iv (nI0 i4), iv (nI1 i4), iv (nI2 i4), .unset, .unset, .unset, .unset, .unset, .unset] [(.ref b79)])) := fun t k => g81 t (st83 t k)
      have g85 : Goes p e below S0 (T83.setTop (mkF m 154 #[iv i0, iv i1, iv i2, iv i3, iv i4, rv b38, iv (1 : Int32), iv (nI0 i4), iv (nI1 i4), iv (nI2 i4), rv b79, .val (.long (1 : Int64)), .second, .unset, .unset, .unset] [(.int (nI0 i4)), (.ref b38), (.long (1 : Int64))])) := fun t k => g84 t (by
        refine XS.astore X83.here hx rfl (hb hby at_91) rfl rfl (l' := #[iv i0, iv i1, iv i2, iv i3, iv i4, rv b38, iv (1 : Int32), iv (nI0 i4), iv (nI1 i4), iv (nI2 i4), rv b79, .unset, .unset, .unset, .unset, .unset]) rfl ?_
        show Go p e below t T83 m 93 #[iv i0, iv i1, iv i2, iv i3, iv i4, rv b38, iv (1 : Int32), iv (nI0 i4), iv (nI1 i4), iv (nI2 i4), rv b79, .unset, .unset, .unset, .unset, .unset] []
        refine XS.goto X83.here hx rfl (pc0 := 93) (pc' := 140) rfl (hb hby at_93) (by decide) (by decide) ?_
        show Go p e below t T83 m 140 #[iv i0, iv i1, iv i2, iv i3, iv i4, rv b38, iv (1 : Int32), iv (nI0 i4), iv (nI1 i4), iv (nI2 i4), rv b79, .unset, .unset, .unset, .unset, .unset] []
        refine XT.lconstV X83.here hx rfl (1 : Int64) (hb hby at_140) (by decide) ?_
        show Go p e below t T83 m 141 #[iv i0, iv i1, iv i2, iv i3, iv i4, rv b38, iv (1 : Int32), iv (nI0 i4), iv (nI1 i4), iv (nI2 i4), rv b79, .unset, .unset, .unset, .unset, .unset] [(.long (1 : Int64))]
        refine XS.lstore X83.here hx rfl (hb hby at_141) rfl (l' := #[iv i0, iv i1, iv i2, iv i3, iv i4, rv b38, iv (1 : Int32), iv (nI0 i4), iv (nI1 i4), iv (nI2 i4), rv b79, .val (.long (1 : Int64)), .second, .unset, .unset, .unset]) rfl ?_
        show Go p e below t T83 m 143 #[iv i0, iv i1, iv i2, iv i3, iv i4, rv b38, iv (1 : Int32), iv (nI0 i4), iv (nI1 i4), iv (nI2 i4), rv b79, .val (.long (1 : Int64)), .second, .unset, .unset, .unset] []
        refine XS.iload X83.here hx rfl (hb hby at_143) rfl ?_
        show Go p e below t T83 m 145 #[iv i0, iv i1, iv i2, iv i3, iv i4, rv b38, iv (1 : Int32), iv (nI0 i4), iv (nI1 i4), iv (nI2 i4), rv b79, .val (.long (1 : Int64)), .second, .unset, .unset, .unset] [(.int (1 : Int32))]
        refine XS.ifNo X83.here hx rfl (hb hby at_145) rfl (XT.i0_le_f (by decide)) ?_
        show Go p e below t T83 m 148 #[iv i0, iv i1, iv i2, iv i3, iv i4, rv b38, iv (1 : Int32), iv (nI0 i4), iv (nI1 i4), iv (nI2 i4), rv b79, .val (.long (1 : Int64)), .second, .unset, .unset, .unset] []
        refine XS.lload X83.here hx rfl (hb hby at_148) rfl ?_
        show Go p e below t T83 m 150 #[iv i0, iv i1, iv i2, iv i3, iv i4, rv b38, iv (1 : Int32), iv (nI0 i4), iv (nI1 i4), iv (nI2 i4), rv b79, .val (.long (1 : Int64)), .second, .unset, .unset, .unset] [(.long (1 : Int64))]
        refine XS.aload X83.here hx rfl (hb hby at_150) rfl rfl ?_
        show Go p e below t T83 m 152 #[iv i0, iv i1, iv i2, iv i3, iv i4, rv b38, iv (1 : Int32), iv (nI0 i4), iv (nI1 i4), iv (nI2 i4), rv b79, .val (.long (1 : Int64)), .second, .unset, .unset, .unset] [(.ref b38), (.long (1 : Int64))]
        refine XS.iload X83.here hx rfl (hb hby at_152) rfl ?_
        show Go p e below t T83 m 154 #[iv i0, iv i1, iv i2, iv i3, iv i4, rv b38, iv (1 : Int32), iv (nI0 i4), iv (nI1 i4), iv (nI2 i4), rv b79, .val (.long (1 : Int64)), .second, .unset, .unset, .unset] [(.int (nI0 i4)), (.ref b38), (.long (1 : Int64))]
        exact k)
      obtain ⟨cl86, Ar86, q86, S86, M86, H86, G86⟩ := id ((V54.ext E79).other W83 (Nat.ne_of_lt (Nat.lt_of_lt_of_le V54.lt (Nat.le_of_eq gb79.symm))))
      have g87 : Goes p e below S0 (T83.setTop (mkF m 197 #[iv i0, iv i1, iv i2, iv i3, iv i4, rv b38, iv (1 : Int32), iv (nI0 i4), iv (nI1 i4), iv (nI2 i4), rv b79, .val (.long ((1 : Int64) * ((own_sel (nS i0) (nS i1) (nS i2) (nS i3) (nI0 i4)).toInt64))), .second, .unset, .unset, .unset] [(.ref b38), (.ref b79)])) := fun t k => g85 t (by
        refine X83.iaload hx (j := (nI0 i4)) (v := (.int (own_sel (nS i0) (nS i1) (nS i2) (nS i3) (nI0 i4)))) (by rw [e83]; exact Ar86.1) (State.isArrayOf_alike hZ.alike Ar86.2.1) Ar86.2.2 (inb_of S86 (own_in (own_b0 i4))) (H86.at (inb_of S86 (own_in (own_b0 i4))) (own_at (own_b0 i4) _ _ _ _)) (g := (mkF m 154 #[iv i0, iv i1, iv i2, iv i3, iv i4, rv b38, iv (1 : Int32), iv (nI0 i4), iv (nI1 i4), iv (nI2 i4), rv b79, .val (.long (1 : Int64)), .second, .unset, .unset, .unset] [(.int (nI0 i4)), (.ref b38), (.long (1 : Int64))])) rfl rfl (hb hby at_154) _ ?_
        show Go p e below t T83 m 155 #[iv i0, iv i1, iv i2, iv i3, iv i4, rv b38, iv (1 : Int32), iv (nI0 i4), iv (nI1 i4), iv (nI2 i4), rv b79, .val (.long (1 : Int64)), .second, .unset, .unset, .unset] [(.int (own_sel (nS i0) (nS i1) (nS i2) (nS i3) (nI0 i4))), (.long (1 : Int64))]
        refine XS.i2l X83.here hx rfl (hb hby at_155) rfl ?_
        show Go p e below t T83 m 156 #[iv i0, iv i1, iv i2, iv i3, iv i4, rv b38, iv (1 : Int32), iv (nI0 i4), iv (nI1 i4), iv (nI2 i4), rv b79, .val (.long (1 : Int64)), .second, .unset, .unset, .unset] [(.long ((own_sel (nS i0) (nS i1) (nS i2) (nS i3) (nI0 i4)).toInt64)), (.long (1 : Int64))]
        refine XS.lmul X83.here hx rfl (hb hby at_156) rfl ?_
        show Go p e below t T83 m 157 #[iv i0, iv i1, iv i2, iv i3, iv i4, rv b38, iv (1 : Int32), iv (nI0 i4), iv (nI1 i4), iv (nI2 i4), rv b79, .val (.long (1 : Int64)), .second, .unset, .unset, .unset] [(.long ((1 : Int64) * ((own_sel (nS i0) (nS i1) (nS i2) (nS i3) (nI0 i4)).toInt64)))]
        refine XS.lstore X83.here hx rfl (hb hby at_157) rfl (l' := #[iv i0, iv i1, iv i2, iv i3, iv i4, rv b38, iv (1 : Int32), iv (nI0 i4), iv (nI1 i4), iv (nI2 i4), rv b79, .val (.long ((1 : Int64) * ((own_sel (nS i0) (nS i1) (nS i2) (nS i3) (nI0 i4)).toInt64))), .second, .unset, .unset, .unset]) rfl ?_
        show Go p e below t T83 m 159 #[iv i0, iv i1, iv i2, iv i3, iv i4, rv b38, iv (1 : Int32), iv (nI0 i4), iv (nI1 i4), iv (nI2 i4), rv b79, .val (.long ((1 : Int64) * ((own_sel (nS i0) (nS i1) (nS i2) (nS i3) (nI0 i4)).toInt64))), .second, .unset, .unset, .unset] []
        refine XS.iload X83.here hx rfl (hb hby at_159) rfl ?_
        show Go p e below t T83 m 161 #[iv i0, iv i1, iv i2, iv i3, iv i4, rv b38, iv (1 : Int32), iv (nI0 i4), iv (nI1 i4), iv (nI2 i4), rv b79, .val (.long ((1 : Int64) * ((own_sel (nS i0) (nS i1) (nS i2) (nS i3) (nI0 i4)).toInt64))), .second, .unset, .unset, .unset] [(.int (1 : Int32))]
        refine XT.iconstV X83.here hx rfl (1 : Int32) (hb hby at_161) (by decide) ?_
        show Go p e below t T83 m 162 #[iv i0, iv i1, iv i2, iv i3, iv i4, rv b38, iv (1 : Int32), iv (nI0 i4), iv (nI1 i4), iv (nI2 i4), rv b79, .val (.long ((1 : Int64) * ((own_sel (nS i0) (nS i1) (nS i2) (nS i3) (nI0 i4)).toInt64))), .second, .unset, .unset, .unset] [(.int (1 : Int32)), (.int (1 : Int32))]
        refine XS.icmpYes X83.here hx rfl (pc0 := 162) (pc' := 176) rfl (hb hby at_162) rfl (XT.ii_le_t (by decide)) (by decide) (by decide) ?_
        show Go p e below t T83 m 176 #[iv i0, iv i1, iv i2, iv i3, iv i4, rv b38, iv (1 : Int32), iv (nI0 i4), iv (nI1 i4), iv (nI2 i4), rv b79, .val (.long ((1 : Int64) * ((own_sel (nS i0) (nS i1) (nS i2) (nS i3) (nI0 i4)).toInt64))), .second, .unset, .unset, .unset] []
        refine XS.iload X83.here hx rfl (hb hby at_176) rfl ?_
        show Go p e below t T83 m 178 #[iv i0, iv i1, iv i2, iv i3, iv i4, rv b38, iv (1 : Int32), iv (nI0 i4), iv (nI1 i4), iv (nI2 i4), rv b79, .val (.long ((1 : Int64) * ((own_sel (nS i0) (nS i1) (nS i2) (nS i3) (nI0 i4)).toInt64))), .second, .unset, .unset, .unset] [(.int (1 : Int32))]
        refine XT.iconstV X83.here hx rfl (2 : Int32) (hb hby at_178) (by decide) ?_
        show Go p e below t T83 m 179 #[iv i0, iv i1, iv i2, iv i3, iv i4, rv b38, iv (1 : Int32), iv (nI0 i4), iv (nI1 i4), iv (nI2 i4), rv b79, .val (.long ((1 : Int64) * ((own_sel (nS i0) (nS i1) (nS i2) (nS i3) (nI0 i4)).toInt64))), .second, .unset, .unset, .unset] [(.int (2 : Int32)), (.int (1 : Int32))]
        refine XS.icmpYes X83.here hx rfl (pc0 := 179) (pc' := 193) rfl (hb hby at_179) rfl (XT.ii_le_t (by decide)) (by decide) (by decide) ?_
        show Go p e below t T83 m 193 #[iv i0, iv i1, iv i2, iv i3, iv i4, rv b38, iv (1 : Int32), iv (nI0 i4), iv (nI1 i4), iv (nI2 i4), rv b79, .val (.long ((1 : Int64) * ((own_sel (nS i0) (nS i1) (nS i2) (nS i3) (nI0 i4)).toInt64))), .second, .unset, .unset, .unset] []
        refine XS.aload X83.here hx rfl (hb hby at_193) rfl rfl ?_
        show Go p e below t T83 m 195 #[iv i0, iv i1, iv i2, iv i3, iv i4, rv b38, iv (1 : Int32), iv (nI0 i4), iv (nI1 i4), iv (nI2 i4), rv b79, .val (.long ((1 : Int64) * ((own_sel (nS i0) (nS i1) (nS i2) (nS i3) (nI0 i4)).toInt64))), .second, .unset, .unset, .unset] [(.ref b79)]
        refine XS.aload X83.here hx rfl (hb hby at_195) rfl rfl ?_
        show Go p e below t T83 m 197 #[iv i0, iv i1, iv i2, iv i3, iv i4, rv b38, iv (1 : Int32), iv (nI0 i4), iv (nI1 i4), iv (nI2 i4), rv b79, .val (.long ((1 : Int64) * ((own_sel (nS i0) (nS i1) (nS i2) (nS i3) (nI0 i4)).toInt64))), .second, .unset, .unset, .unset] [(.ref b38), (.ref b79)]
        exact k)
      obtain ⟨_, _, ⟨T88, L88, k88, n88⟩, -, X88, ⟨Lc88, hQ88, l88, y88, z88⟩, st88⟩ := Jvm.LawKit.callS X83 hx (y := (⟨"com/example/aristotle/aristotle/EliminationPlan", "entries", "([I[I)D"⟩ : MethodName)) hown (mvT hZ (hw _ (List.mem_of_getElem? (i := 2) rfl))) (mvT hZ (hw _ (List.mem_of_getElem? (i := 3) rfl))) (mvT hZ (hw _ (List.mem_of_getElem? (i := 4) rfl))) (mvT hZ (hw _ (List.mem_of_getElem? (i := 5) rfl))) (by decide) (backOf (W := 0) (rm_ent1 l Z a0 hw [] b79 b38 k79 k38 (nI0 i4) (nS i0) (nS i1) (nS i2) (nS i3) h83 n0 (Nat.le_trans Z0 (Nat.le_trans (Nat.le_trans (Nat.le_trans (Nat.le_trans (Nat.le_trans (Nat.le_trans (Nat.le_trans (Nat.le_refl _) E38.1) (Nat.le_of_eq W42.size.symm)) (Nat.le_of_eq W46.size.symm)) (Nat.le_of_eq W50.size.symm)) (Nat.le_of_eq W54.size.symm)) E79.1) (Nat.le_of_eq W83.size.symm))) V83 ((V54.ext E79).other W83 (Nat.ne_of_lt (Nat.lt_of_lt_of_le V54.lt (Nat.le_of_eq gb79.symm)))) (own_b0 i4) (fun _ => own_nn1)) hZ (hw _ (List.mem_of_getElem? (i := 5) rfl)) (hw _ (List.mem_of_getElem? (i := 4) rfl)) (by decide) (by decide)) (g := (mkF m 197 #[iv i0, iv i1, iv i2, iv i3, iv i4, rv b38, iv (1 : Int32), iv (nI0 i4), iv (nI1 i4), iv (nI2 i4), rv b79, .val (.long ((1 : Int64) * ((own_sel (nS i0) (nS i1) (nS i2) (nS i3) (nI0 i4)).toInt64))), .second, .unset, .unset, .unset] [(.ref b38), (.ref b79)])) rfl (by rw [hml]; rfl) (argsL := [(.ref b79), (.ref b38)]) (rest := []) (lenOf pd0 rfl) rfl (by show 2 * 0 + _ ≤ _; exact Nat.le_of_eq rfl) (hb hby at_197) (fun _ _ => ⟨rfl, e83, (by decide : 2 + 0 ≤ _), (by decide : 5 + 0 ≤ _)⟩)
      dsimp only [Pt.U, Pt.locs, Pt.cells, Pt.slots] at X88 l88 y88 z88 st88 hQ88
      subst l88 y88 z88
      obtain ⟨rfl, N88, e88⟩ := hQ88
      have M88 := Fr.app N83 N88
      have g89 : Goes p e below S0 (T88.setTop (mkF m 200 #[iv i0, iv i1, iv i2, iv i3, iv i4, rv b38, iv (1 : Int32), iv (nI0 i4), iv (nI1 i4), iv (nI2 i4), rv b79, .val (.long ((1 : Int64) * ((own_sel (nS i0) (nS i1) (nS i2) (nS i3) (nI0 i4)).toInt64))), .second, .unset, .unset, .unset] [(.double (f_ent1  (nI0 i4) (nS i0) (nS i1) (nS i2) (nS i3)))])) := fun t k => g87 t (st88 t k)
      have g90 : Goes p e below S0 (T88.setTop (mkF m 225 #[iv i0, iv i1, iv i2, iv i3, iv i4, rv b38, iv (1 : Int32), iv (nI0 i4), iv (nI1 i4), iv (nI2 i4), rv b79, .val (.long ((1 : Int64) * ((own_sel (nS i0) (nS i1) (nS i2) (nS i3) (nI0 i4)).toInt64))), .second, .val (.double (f_ent1  (nI0 i4) (nS i0) (nS i1) (nS i2) (nS i3))), .second, iv (1 : Int32)] [(.ref b79)])) := fun t k => g89 t (by
        refine XS.dstore X88.here hx rfl (hb hby at_200) rfl (l' := #[iv i0, iv i1, iv i2, iv i3, iv i4, rv b38, iv (1 : Int32), iv (nI0 i4), iv (nI1 i4), iv (nI2 i4), rv b79, .val (.long ((1 : Int64) * ((own_sel (nS i0) (nS i1) (nS i2) (nS i3) (nI0 i4)).toInt64))), .second, .val (.double (f_ent1  (nI0 i4) (nS i0) (nS i1) (nS i2) (nS i3))), .second, .unset]) rfl ?_
        show Go p e below t T88 m 202 #[iv i0, iv i1, iv i2, iv i3, iv i4, rv b38, iv (1 : Int32), iv (nI0 i4), iv (nI1 i4), iv (nI2 i4), rv b79, .val (.long ((1 : Int64) * ((own_sel (nS i0) (nS i1) (nS i2) (nS i3) (nI0 i4)).toInt64))), .second, .val (.double (f_ent1  (nI0 i4) (nS i0) (nS i1) (nS i2) (nS i3))), .second, .unset] []
        refine XS.dload X88.here hx rfl (hb hby at_202) rfl ?_
        show Go p e below t T88 m 204 #[iv i0, iv i1, iv i2, iv i3, iv i4, rv b38, iv (1 : Int32), iv (nI0 i4), iv (nI1 i4), iv (nI2 i4), rv b79, .val (.long ((1 : Int64) * ((own_sel (nS i0) (nS i1) (nS i2) (nS i3) (nI0 i4)).toInt64))), .second, .val (.double (f_ent1  (nI0 i4) (nS i0) (nS i1) (nS i2) (nS i3))), .second, .unset] [(.double (f_ent1  (nI0 i4) (nS i0) (nS i1) (nS i2) (nS i3)))]
        refine XS.lload X88.here hx rfl (hb hby at_204) rfl ?_
        show Go p e below t T88 m 206 #[iv i0, iv i1, iv i2, iv i3, iv i4, rv b38, iv (1 : Int32), iv (nI0 i4), iv (nI1 i4), iv (nI2 i4), rv b79, .val (.long ((1 : Int64) * ((own_sel (nS i0) (nS i1) (nS i2) (nS i3) (nI0 i4)).toInt64))), .second, .val (.double (f_ent1  (nI0 i4) (nS i0) (nS i1) (nS i2) (nS i3))), .second, .unset] [(.long ((1 : Int64) * ((own_sel (nS i0) (nS i1) (nS i2) (nS i3) (nI0 i4)).toInt64))), (.double (f_ent1  (nI0 i4) (nS i0) (nS i1) (nS i2) (nS i3)))]
        refine XS.l2dS X88.here hx rfl (hb hby at_206) rfl rfl ?_
        show Go p e below t T88 m 207 #[iv i0, iv i1, iv i2, iv i3, iv i4, rv b38, iv (1 : Int32), iv (nI0 i4), iv (nI1 i4), iv (nI2 i4), rv b79, .val (.long ((1 : Int64) * ((own_sel (nS i0) (nS i1) (nS i2) (nS i3) (nI0 i4)).toInt64))), .second, .val (.double (f_ent1  (nI0 i4) (nS i0) (nS i1) (nS i2) (nS i3))), .second, .unset] [(.double (FP.l2d ((1 : Int64) * ((own_sel (nS i0) (nS i1) (nS i2) (nS i3) (nI0 i4)).toInt64)))), (.double (f_ent1  (nI0 i4) (nS i0) (nS i1) (nS i2) (nS i3)))]
        refine XS.dcmpS X88.here hx rfl (hb hby at_207) rfl rfl ?_
        show Go p e below t T88 m 208 #[iv i0, iv i1, iv i2, iv i3, iv i4, rv b38, iv (1 : Int32), iv (nI0 i4), iv (nI1 i4), iv (nI2 i4), rv b79, .val (.long ((1 : Int64) * ((own_sel (nS i0) (nS i1) (nS i2) (nS i3) (nI0 i4)).toInt64))), .second, .val (.double (f_ent1  (nI0 i4) (nS i0) (nS i1) (nS i2) (nS i3))), .second, .unset] [(.int (cmpValue (FP.dcmp (f_ent1  (nI0 i4) (nS i0) (nS i1) (nS i2) (nS i3)) (FP.l2d ((1 : Int64) * ((own_sel (nS i0) (nS i1) (nS i2) (nS i3) (nI0 i4)).toInt64)))) .l))]
        refine XS.ifNo X88.here hx rfl (hb hby at_208) rfl (dc_l_ne_f own_eq1) ?_
        show Go p e below t T88 m 211 #[iv i0, iv i1, iv i2, iv i3, iv i4, rv b38, iv (1 : Int32), iv (nI0 i4), iv (nI1 i4), iv (nI2 i4), rv b79, .val (.long ((1 : Int64) * ((own_sel (nS i0) (nS i1) (nS i2) (nS i3) (nI0 i4)).toInt64))), .second, .val (.double (f_ent1  (nI0 i4) (nS i0) (nS i1) (nS i2) (nS i3))), .second, .unset] []
        refine XT.iconstV X88.here hx rfl (1 : Int32) (hb hby at_211) (by decide) ?_
        show Go p e below t T88 m 212 #[iv i0, iv i1, iv i2, iv i3, iv i4, rv b38, iv (1 : Int32), iv (nI0 i4), iv (nI1 i4), iv (nI2 i4), rv b79, .val (.long ((1 : Int64) * ((own_sel (nS i0) (nS i1) (nS i2) (nS i3) (nI0 i4)).toInt64))), .second, .val (.double (f_ent1  (nI0 i4) (nS i0) (nS i1) (nS i2) (nS i3))), .second, .unset] [(.int (1 : Int32))]
        refine XS.goto X88.here hx rfl (pc0 := 212) (pc' := 216) rfl (hb hby at_212) (by decide) (by decide) ?_
        show Go p e below t T88 m 216 #[iv i0, iv i1, iv i2, iv i3, iv i4, rv b38, iv (1 : Int32), iv (nI0 i4), iv (nI1 i4), iv (nI2 i4), rv b79, .val (.long ((1 : Int64) * ((own_sel (nS i0) (nS i1) (nS i2) (nS i3) (nI0 i4)).toInt64))), .second, .val (.double (f_ent1  (nI0 i4) (nS i0) (nS i1) (nS i2) (nS i3))), .second, .unset] [(.int (1 : Int32))]
        refine XS.istore X88.here hx rfl (hb hby at_216) rfl (l' := #[iv i0, iv i1, iv i2, iv i3, iv i4, rv b38, iv (1 : Int32), iv (nI0 i4), iv (nI1 i4), iv (nI2 i4), rv b79, .val (.long ((1 : Int64) * ((own_sel (nS i0) (nS i1) (nS i2) (nS i3) (nI0 i4)).toInt64))), .second, .val (.double (f_ent1  (nI0 i4) (nS i0) (nS i1) (nS i2) (nS i3))), .second, iv (1 : Int32)]) rfl ?_
        show Go p e below t T88 m 218 #[iv i0, iv i1, iv i2, iv i3, iv i4, rv b38, iv (1 : Int32), iv (nI0 i4), iv (nI1 i4), iv (nI2 i4), rv b79, .val (.long ((1 : Int64) * ((own_sel (nS i0) (nS i1) (nS i2) (nS i3) (nI0 i4)).toInt64))), .second, .val (.double (f_ent1  (nI0 i4) (nS i0) (nS i1) (nS i2) (nS i3))), .second, iv (1 : Int32)] []
        refine XS.iload X88.here hx rfl (hb hby at_218) rfl ?_
        show Go p e below t T88 m 220 #[iv i0, iv i1, iv i2, iv i3, iv i4, rv b38, iv (1 : Int32), iv (nI0 i4), iv (nI1 i4), iv (nI2 i4), rv b79, .val (.long ((1 : Int64) * ((own_sel (nS i0) (nS i1) (nS i2) (nS i3) (nI0 i4)).toInt64))), .second, .val (.double (f_ent1  (nI0 i4) (nS i0) (nS i1) (nS i2) (nS i3))), .second, iv (1 : Int32)] [(.int (1 : Int32))]
        refine XS.ifNo X88.here hx rfl (hb hby at_220) rfl (XT.i0_eq_f (by decide)) ?_
        show Go p e below t T88 m 223 #[iv i0, iv i1, iv i2, iv i3, iv i4, rv b38, iv (1 : Int32), iv (nI0 i4), iv (nI1 i4), iv (nI2 i4), rv b79, .val (.long ((1 : Int64) * ((own_sel (nS i0) (nS i1) (nS i2) (nS i3) (nI0 i4)).toInt64))), .second, .val (.double (f_ent1  (nI0 i4) (nS i0) (nS i1) (nS i2) (nS i3))), .second, iv (1 : Int32)] []
        refine XS.aload X88.here hx rfl (hb hby at_223) rfl rfl ?_
        show Go p e below t T88 m 225 #[iv i0, iv i1, iv i2, iv i3, iv i4, rv b38, iv (1 : Int32), iv (nI0 i4), iv (nI1 i4), iv (nI2 i4), rv b79, .val (.long ((1 : Int64) * ((own_sel (nS i0) (nS i1) (nS i2) (nS i3) (nI0 i4)).toInt64))), .second, .val (.double (f_ent1  (nI0 i4) (nS i0) (nS i1) (nS i2) (nS i3))), .second, iv (1 : Int32)] [(.ref b79)]
        exact k)
      obtain ⟨cl91, Ar91, q91, S91, M91, H91, G91⟩ := id V83
      have g92 : Goes p e below S0 (T88.setTop (mkF m 251 #[iv i0, iv i1, iv i2, iv i3, iv i4, rv b38, iv (1 : Int32), iv (nI0 i4), iv (nI1 i4), iv (nI2 i4), rv b79, .val (.long ((1 : Int64) * ((own_sel (nS i0) (nS i1) (nS i2) (nS i3) (nI0 i4)).toInt64))), .second, .val (.double (f_ent1  (nI0 i4) (nS i0) (nS i1) (nS i2) (nS i3))), .second, iv (1 : Int32)] [(.int (0 : Int32)), (.ref b79)])) := fun t k => g90 t (by
        refine X88.arraylength hx (by rw [e88]; exact Ar91.1) (State.isArrayOf_alike hZ.alike Ar91.2.1) (g := (mkF m 225 #[iv i0, iv i1, iv i2, iv i3, iv i4, rv b38, iv (1 : Int32), iv (nI0 i4), iv (nI1 i4), iv (nI2 i4), rv b79, .val (.long ((1 : Int64) * ((own_sel (nS i0) (nS i1) (nS i2) (nS i3) (nI0 i4)).toInt64))), .second, .val (.double (f_ent1  (nI0 i4) (nS i0) (nS i1) (nS i2) (nS i3))), .second, iv (1 : Int32)] [(.ref b79)])) rfl rfl (hb hby at_225) _ ?_
        rw [len_of S91 M91]
        show Go p e below t T88 m 226 #[iv i0, iv i1, iv i2, iv i3, iv i4, rv b38, iv (1 : Int32), iv (nI0 i4), iv (nI1 i4), iv (nI2 i4), rv b79, .val (.long ((1 : Int64) * ((own_sel (nS i0) (nS i1) (nS i2) (nS i3) (nI0 i4)).toInt64))), .second, .val (.double (f_ent1  (nI0 i4) (nS i0) (nS i1) (nS i2) (nS i3))), .second, iv (1 : Int32)] [(.int (1 : Int32))]
        refine XS.iload X88.here hx rfl (hb hby at_226) rfl ?_
        show Go p e below t T88 m 228 #[iv i0, iv i1, iv i2, iv i3, iv i4, rv b38, iv (1 : Int32), iv (nI0 i4), iv (nI1 i4), iv (nI2 i4), rv b79, .val (.long ((1 : Int64) * ((own_sel (nS i0) (nS i1) (nS i2) (nS i3) (nI0 i4)).toInt64))), .second, .val (.double (f_ent1  (nI0 i4) (nS i0) (nS i1) (nS i2) (nS i3))), .second, iv (1 : Int32)] [(.int (1 : Int32)), (.int (1 : Int32))]
        refine XS.icmpNo X88.here hx rfl (hb hby at_228) rfl (XT.ii_ne_f (by decide)) ?_
        show Go p e below t T88 m 231 #[iv i0, iv i1, iv i2, iv i3, iv i4, rv b38, iv (1 : Int32), iv (nI0 i4), iv (nI1 i4), iv (nI2 i4), rv b79, .val (.long ((1 : Int64) * ((own_sel (nS i0) (nS i1) (nS i2) (nS i3) (nI0 i4)).toInt64))), .second, .val (.double (f_ent1  (nI0 i4) (nS i0) (nS i1) (nS i2) (nS i3))), .second, iv (1 : Int32)] []
        refine XT.iconstV X88.here hx rfl (1 : Int32) (hb hby at_231) (by decide) ?_
        show Go p e below t T88 m 232 #[iv i0, iv i1, iv i2, iv i3, iv i4, rv b38, iv (1 : Int32), iv (nI0 i4), iv (nI1 i4), iv (nI2 i4), rv b79, .val (.long ((1 : Int64) * ((own_sel (nS i0) (nS i1) (nS i2) (nS i3) (nI0 i4)).toInt64))), .second, .val (.double (f_ent1  (nI0 i4) (nS i0) (nS i1) (nS i2) (nS i3))), .second, iv (1 : Int32)] [(.int (1 : Int32))]
        refine XS.goto X88.here hx rfl (pc0 := 232) (pc' := 236) rfl (hb hby at_232) (by decide) (by decide) ?_
        show Go p e below t T88 m 236 #[iv i0, iv i1, iv i2, iv i3, iv i4, rv b38, iv (1 : Int32), iv (nI0 i4), iv (nI1 i4), iv (nI2 i4), rv b79, .val (.long ((1 : Int64) * ((own_sel (nS i0) (nS i1) (nS i2) (nS i3) (nI0 i4)).toInt64))), .second, .val (.double (f_ent1  (nI0 i4) (nS i0) (nS i1) (nS i2) (nS i3))), .second, iv (1 : Int32)] [(.int (1 : Int32))]
        refine XS.istore X88.here hx rfl (hb hby at_236) rfl (l' := #[iv i0, iv i1, iv i2, iv i3, iv i4, rv b38, iv (1 : Int32), iv (nI0 i4), iv (nI1 i4), iv (nI2 i4), rv b79, .val (.long ((1 : Int64) * ((own_sel (nS i0) (nS i1) (nS i2) (nS i3) (nI0 i4)).toInt64))), .second, .val (.double (f_ent1  (nI0 i4) (nS i0) (nS i1) (nS i2) (nS i3))), .second, iv (1 : Int32)]) rfl ?_
        show Go p e below t T88 m 238 #[iv i0, iv i1, iv i2, iv i3, iv i4, rv b38, iv (1 : Int32), iv (nI0 i4), iv (nI1 i4), iv (nI2 i4), rv b79, .val (.long ((1 : Int64) * ((own_sel (nS i0) (nS i1) (nS i2) (nS i3) (nI0 i4)).toInt64))), .second, .val (.double (f_ent1  (nI0 i4) (nS i0) (nS i1) (nS i2) (nS i3))), .second, iv (1 : Int32)] []
        refine XS.iload X88.here hx rfl (hb hby at_238) rfl ?_
        show Go p e below t T88 m 240 #[iv i0, iv i1, iv i2, iv i3, iv i4, rv b38, iv (1 : Int32), iv (nI0 i4), iv (nI1 i4), iv (nI2 i4), rv b79, .val (.long ((1 : Int64) * ((own_sel (nS i0) (nS i1) (nS i2) (nS i3) (nI0 i4)).toInt64))), .second, .val (.double (f_ent1  (nI0 i4) (nS i0) (nS i1) (nS i2) (nS i3))), .second, iv (1 : Int32)] [(.int (1 : Int32))]
        refine XS.ifNo X88.here hx rfl (hb hby at_240) rfl (XT.i0_le_f (by decide)) ?_
        show Go p e below t T88 m 243 #[iv i0, iv i1, iv i2, iv i3, iv i4, rv b38, iv (1 : Int32), iv (nI0 i4), iv (nI1 i4), iv (nI2 i4), rv b79, .val (.long ((1 : Int64) * ((own_sel (nS i0) (nS i1) (nS i2) (nS i3) (nI0 i4)).toInt64))), .second, .val (.double (f_ent1  (nI0 i4) (nS i0) (nS i1) (nS i2) (nS i3))), .second, iv (1 : Int32)] []
        refine XS.iload X88.here hx rfl (hb hby at_243) rfl ?_
        show Go p e below t T88 m 245 #[iv i0, iv i1, iv i2, iv i3, iv i4, rv b38, iv (1 : Int32), iv (nI0 i4), iv (nI1 i4), iv (nI2 i4), rv b79, .val (.long ((1 : Int64) * ((own_sel (nS i0) (nS i1) (nS i2) (nS i3) (nI0 i4)).toInt64))), .second, .val (.double (f_ent1  (nI0 i4) (nS i0) (nS i1) (nS i2) (nS i3))), .second, iv (1 : Int32)] [(.int (1 : Int32))]
        refine XS.ifNo X88.here hx rfl (hb hby at_245) rfl (XT.i0_eq_f (by decide)) ?_
        show Go p e below t T88 m 248 #[iv i0, iv i1, iv i2, iv i3, iv i4, rv b38, iv (1 : Int32), iv (nI0 i4), iv (nI1 i4), iv (nI2 i4), rv b79, .val (.long ((1 : Int64) * ((own_sel (nS i0) (nS i1) (nS i2) (nS i3) (nI0 i4)).toInt64))), .second, .val (.double (f_ent1  (nI0 i4) (nS i0) (nS i1) (nS i2) (nS i3))), .second, iv (1 : Int32)] []
        refine XS.aload X88.here hx rfl (hb hby at_248) rfl rfl ?_
        show Go p e below t T88 m 250 #[iv i0, iv i1, iv i2, iv i3, iv i4, rv b38, iv (1 : Int32), iv (nI0 i4), iv (nI1 i4), iv (nI2 i4), rv b79, .val (.long ((1 : Int64) * ((own_sel (nS i0) (nS i1) (nS i2) (nS i3) (nI0 i4)).toInt64))), .second, .val (.double (f_ent1  (nI0 i4) (nS i0) (nS i1) (nS i2) (nS i3))), .second, iv (1 : Int32)] [(.ref b79)]
        refine XT.iconstV X88.here hx rfl (0 : Int32) (hb hby at_250) (by decide) ?_
        show Go p e below t T88 m 251 #[iv i0, iv i1, iv i2, iv i3, iv i4, rv b38, iv (1 : Int32), iv (nI0 i4), iv (nI1 i4), iv (nI2 i4), rv b79, .val (.long ((1 : Int64) * ((own_sel (nS i0) (nS i1) (nS i2) (nS i3) (nI0 i4)).toInt64))), .second, .val (.double (f_ent1  (nI0 i4) (nS i0) (nS i1) (nS i2) (nS i3))), .second, iv (1 : Int32)] [(.int (0 : Int32)), (.ref b79)]
        exact k)
      obtain ⟨cl93, Ar93, q93, S93, M93, H93, G93⟩ := id V83
      have g94 : Goes p e below S0 (T88.setTop (mkF m 326 #[iv i0, iv i1, iv i2, iv i3, iv i4, rv b38, iv (1 : Int32), iv (nI0 i4), iv (nI1 i4), iv (nI2 i4), rv b79, .val (.long ((1 : Int64) * ((own_sel (nS i0) (nS i1) (nS i2) (nS i3) (nI0 i4)).toInt64))), .second, .val (.double (f_ent1  (nI0 i4) (nS i0) (nS i1) (nS i2) (nS i3))), .second, iv (1 : Int32)] [(.int (0 : Int32)), (.ref b38)])) := fun t k => g92 t (by
        refine X88.iaload hx (j := (0 : Int32)) (v := (.int (nI0 i4))) (by rw [e88]; exact Ar93.1) (State.isArrayOf_alike hZ.alike Ar93.2.1) Ar93.2.2 (inb_of S93 ⟨by decide, by decide⟩) (H93.at (inb_of S93 ⟨by decide, by decide⟩) rfl) (g := (mkF m 251 #[iv i0, iv i1, iv i2, iv i3, iv i4, rv b38, iv (1 : Int32), iv (nI0 i4), iv (nI1 i4), iv (nI2 i4), rv b79, .val (.long ((1 : Int64) * ((own_sel (nS i0) (nS i1) (nS i2) (nS i3) (nI0 i4)).toInt64))), .second, .val (.double (f_ent1  (nI0 i4) (nS i0) (nS i1) (nS i2) (nS i3))), .second, iv (1 : Int32)] [(.int (0 : Int32)), (.ref b79)])) rfl rfl (hb hby at_251) _ ?_
        show Go p e below t T88 m 252 #[iv i0, iv i1, iv i2, iv i3, iv i4, rv b38, iv (1 : Int32), iv (nI0 i4), iv (nI1 i4), iv (nI2 i4), rv b79, .val (.long ((1 : Int64) * ((own_sel (nS i0) (nS i1) (nS i2) (nS i3) (nI0 i4)).toInt64))), .second, .val (.double (f_ent1  (nI0 i4) (nS i0) (nS i1) (nS i2) (nS i3))), .second, iv (1 : Int32)] [(.int (nI0 i4))]
        refine XS.iload X88.here hx rfl (hb hby at_252) rfl ?_
        show Go p e below t T88 m 254 #[iv i0, iv i1, iv i2, iv i3, iv i4, rv b38, iv (1 : Int32), iv (nI0 i4), iv (nI1 i4), iv (nI2 i4), rv b79, .val (.long ((1 : Int64) * ((own_sel (nS i0) (nS i1) (nS i2) (nS i3) (nI0 i4)).toInt64))), .second, .val (.double (f_ent1  (nI0 i4) (nS i0) (nS i1) (nS i2) (nS i3))), .second, iv (1 : Int32)] [(.int (nI0 i4)), (.int (nI0 i4))]
        refine XS.icmpNo X88.here hx rfl (hb hby at_254) rfl (XT.ii_ne_f rfl) ?_
        show Go p e below t T88 m 257 #[iv i0, iv i1, iv i2, iv i3, iv i4, rv b38, iv (1 : Int32), iv (nI0 i4), iv (nI1 i4), iv (nI2 i4), rv b79, .val (.long ((1 : Int64) * ((own_sel (nS i0) (nS i1) (nS i2) (nS i3) (nI0 i4)).toInt64))), .second, .val (.double (f_ent1  (nI0 i4) (nS i0) (nS i1) (nS i2) (nS i3))), .second, iv (1 : Int32)] []
        refine XT.iconstV X88.here hx rfl (1 : Int32) (hb hby at_257) (by decide) ?_
        show Go p e below t T88 m 258 #[iv i0, iv i1, iv i2, iv i3, iv i4, rv b38, iv (1 : Int32), iv (nI0 i4), iv (nI1 i4), iv (nI2 i4), rv b79, .val (.long ((1 : Int64) * ((own_sel (nS i0) (nS i1) (nS i2) (nS i3) (nI0 i4)).toInt64))), .second, .val (.double (f_ent1  (nI0 i4) (nS i0) (nS i1) (nS i2) (nS i3))), .second, iv (1 : Int32)] [(.int (1 : Int32))]
        refine XS.goto X88.here hx rfl (pc0 := 258) (pc' := 262) rfl (hb hby at_258) (by decide) (by decide) ?_
        show Go p e below t T88 m 262 #[iv i0, iv i1, iv i2, iv i3, iv i4, rv b38, iv (1 : Int32), iv (nI0 i4), iv (nI1 i4), iv (nI2 i4), rv b79, .val (.long ((1 : Int64) * ((own_sel (nS i0) (nS i1) (nS i2) (nS i3) (nI0 i4)).toInt64))), .second, .val (.double (f_ent1  (nI0 i4) (nS i0) (nS i1) (nS i2) (nS i3))), .second, iv (1 : Int32)] [(.int (1 : Int32))]
        refine XS.istore X88.here hx rfl (hb hby at_262) rfl (l' := #[iv i0, iv i1, iv i2, iv i3, iv i4, rv b38, iv (1 : Int32), iv (nI0 i4), iv (nI1 i4), iv (nI2 i4), rv b79, .val (.long ((1 : Int64) * ((own_sel (nS i0) (nS i1) (nS i2) (nS i3) (nI0 i4)).toInt64))), .second, .val (.double (f_ent1  (nI0 i4) (nS i0) (nS i1) (nS i2) (nS i3))), .second, iv (1 : Int32)]) rfl ?_
        show Go p e below t T88 m 264 #[iv i0, iv i1, iv i2, iv i3, iv i4, rv b38, iv (1 : Int32), iv (nI0 i4), iv (nI1 i4), iv (nI2 i4), rv b79, .val (.long ((1 : Int64) * ((own_sel (nS i0) (nS i1) (nS i2) (nS i3) (nI0 i4)).toInt64))), .second, .val (.double (f_ent1  (nI0 i4) (nS i0) (nS i1) (nS i2) (nS i3))), .second, iv (1 : Int32)] []
        refine XS.iload X88.here hx rfl (hb hby at_264) rfl ?_
        show Go p e below t T88 m 266 #[iv i0, iv i1, iv i2, iv i3, iv i4, rv b38, iv (1 : Int32), iv (nI0 i4), iv (nI1 i4), iv (nI2 i4), rv b79, .val (.long ((1 : Int64) * ((own_sel (nS i0) (nS i1) (nS i2) (nS i3) (nI0 i4)).toInt64))), .second, .val (.double (f_ent1  (nI0 i4) (nS i0) (nS i1) (nS i2) (nS i3))), .second, iv (1 : Int32)] [(.int (1 : Int32))]
        refine XT.iconstV X88.here hx rfl (1 : Int32) (hb hby at_266) (by decide) ?_
        show Go p e below t T88 m 267 #[iv i0, iv i1, iv i2, iv i3, iv i4, rv b38, iv (1 : Int32), iv (nI0 i4), iv (nI1 i4), iv (nI2 i4), rv b79, .val (.long ((1 : Int64) * ((own_sel (nS i0) (nS i1) (nS i2) (nS i3) (nI0 i4)).toInt64))), .second, .val (.double (f_ent1  (nI0 i4) (nS i0) (nS i1) (nS i2) (nS i3))), .second, iv (1 : Int32)] [(.int (1 : Int32)), (.int (1 : Int32))]
        refine XS.icmpYes X88.here hx rfl (pc0 := 267) (pc' := 291) rfl (hb hby at_267) rfl (XT.ii_le_t (by decide)) (by decide) (by decide) ?_
        show Go p e below t T88 m 291 #[iv i0, iv i1, iv i2, iv i3, iv i4, rv b38, iv (1 : Int32), iv (nI0 i4), iv (nI1 i4), iv (nI2 i4), rv b79, .val (.long ((1 : Int64) * ((own_sel (nS i0) (nS i1) (nS i2) (nS i3) (nI0 i4)).toInt64))), .second, .val (.double (f_ent1  (nI0 i4) (nS i0) (nS i1) (nS i2) (nS i3))), .second, iv (1 : Int32)] []
        refine XS.iload X88.here hx rfl (hb hby at_291) rfl ?_
        show Go p e below t T88 m 293 #[iv i0, iv i1, iv i2, iv i3, iv i4, rv b38, iv (1 : Int32), iv (nI0 i4), iv (nI1 i4), iv (nI2 i4), rv b79, .val (.long ((1 : Int64) * ((own_sel (nS i0) (nS i1) (nS i2) (nS i3) (nI0 i4)).toInt64))), .second, .val (.double (f_ent1  (nI0 i4) (nS i0) (nS i1) (nS i2) (nS i3))), .second, iv (1 : Int32)] [(.int (1 : Int32))]
        refine XT.iconstV X88.here hx rfl (2 : Int32) (hb hby at_293) (by decide) ?_
        show Go p e below t T88 m 294 #[iv i0, iv i1, iv i2, iv i3, iv i4, rv b38, iv (1 : Int32), iv (nI0 i4), iv (nI1 i4), iv (nI2 i4), rv b79, .val (.long ((1 : Int64) * ((own_sel (nS i0) (nS i1) (nS i2) (nS i3) (nI0 i4)).toInt64))), .second, .val (.double (f_ent1  (nI0 i4) (nS i0) (nS i1) (nS i2) (nS i3))), .second, iv (1 : Int32)] [(.int (2 : Int32)), (.int (1 : Int32))]
        refine XS.icmpYes X88.here hx rfl (pc0 := 294) (pc' := 318) rfl (hb hby at_294) rfl (XT.ii_le_t (by decide)) (by decide) (by decide) ?_
        show Go p e below t T88 m 318 #[iv i0, iv i1, iv i2, iv i3, iv i4, rv b38, iv (1 : Int32), iv (nI0 i4), iv (nI1 i4), iv (nI2 i4), rv b79, .val (.long ((1 : Int64) * ((own_sel (nS i0) (nS i1) (nS i2) (nS i3) (nI0 i4)).toInt64))), .second, .val (.double (f_ent1  (nI0 i4) (nS i0) (nS i1) (nS i2) (nS i3))), .second, iv (1 : Int32)] []
        refine XS.iload X88.here hx rfl (hb hby at_318) rfl ?_
        show Go p e below t T88 m 320 #[iv i0, iv i1, iv i2, iv i3, iv i4, rv b38, iv (1 : Int32), iv (nI0 i4), iv (nI1 i4), iv (nI2 i4), rv b79, .val (.long ((1 : Int64) * ((own_sel (nS i0) (nS i1) (nS i2) (nS i3) (nI0 i4)).toInt64))), .second, .val (.double (f_ent1  (nI0 i4) (nS i0) (nS i1) (nS i2) (nS i3))), .second, iv (1 : Int32)] [(.int (1 : Int32))]
        refine XS.ifNo X88.here hx rfl (hb hby at_320) rfl (XT.i0_eq_f (by decide)) ?_
        show Go p e below t T88 m 323 #[iv i0, iv i1, iv i2, iv i3, iv i4, rv b38, iv (1 : Int32), iv (nI0 i4), iv (nI1 i4), iv (nI2 i4), rv b79, .val (.long ((1 : Int64) * ((own_sel (nS i0) (nS i1) (nS i2) (nS i3) (nI0 i4)).toInt64))), .second, .val (.double (f_ent1  (nI0 i4) (nS i0) (nS i1) (nS i2) (nS i3))), .second, iv (1 : Int32)] []
        refine XS.aload X88.here hx rfl (hb hby at_323) rfl rfl ?_
        show Go p e below t T88 m 325 #[iv i0, iv i1, iv i2, iv i3, iv i4, rv b38, iv (1 : Int32), iv (nI0 i4), iv (nI1 i4), iv (nI2 i4), rv b79, .val (.long ((1 : Int64) * ((own_sel (nS i0) (nS i1) (nS i2) (nS i3) (nI0 i4)).toInt64))), .second, .val (.double (f_ent1  (nI0 i4) (nS i0) (nS i1) (nS i2) (nS i3))), .second, iv (1 : Int32)] [(.ref b38)]
        refine XT.iconstV X88.here hx rfl (0 : Int32) (hb hby at_325) (by decide) ?_
        show Go p e below t T88 m 326 #[iv i0, iv i1, iv i2, iv i3, iv i4, rv b38, iv (1 : Int32), iv (nI0 i4), iv (nI1 i4), iv (nI2 i4), rv b79, .val (.long ((1 : Int64) * ((own_sel (nS i0) (nS i1) (nS i2) (nS i3) (nI0 i4)).toInt64))), .second, .val (.double (f_ent1  (nI0 i4) (nS i0) (nS i1) (nS i2) (nS i3))), .second, iv (1 : Int32)] [(.int (0 : Int32)), (.ref b38)]
        exact k)
      obtain ⟨cl95, Ar95, q95, S95, M95, H95, G95⟩ := id ((V54.ext E79).other W83 (Nat.ne_of_lt (Nat.lt_of_lt_of_le V54.lt (Nat.le_of_eq gb79.symm))))
      have g96 : Goes p e below S0 (T88.setTop (mkF m 337 #[iv i0, iv i1, iv i2, iv i3, iv i4, rv b38, iv (1 : Int32), iv (nI0 i4), iv (nI1 i4), iv (nI2 i4), rv b79, .val (.long ((1 : Int64) * ((own_sel (nS i0) (nS i1) (nS i2) (nS i3) (nI0 i4)).toInt64))), .second, .val (.double (f_ent1  (nI0 i4) (nS i0) (nS i1) (nS i2) (nS i3))), .second, iv (1 : Int32)] [(.int (1 : Int32)), (.ref b38)])) := fun t k => g94 t (by
        refine X88.iaload hx (j := (0 : Int32)) (v := (.int (nS i0))) (by rw [e88]; exact Ar95.1) (State.isArrayOf_alike hZ.alike Ar95.2.1) Ar95.2.2 (inb_of S95 ⟨by decide, by decide⟩) (H95.at (inb_of S95 ⟨by decide, by decide⟩) rfl) (g := (mkF m 326 #[iv i0, iv i1, iv i2, iv i3, iv i4, rv b38, iv (1 : Int32), iv (nI0 i4), iv (nI1 i4), iv (nI2 i4), rv b79, .val (.long ((1 : Int64) * ((own_sel (nS i0) (nS i1) (nS i2) (nS i3) (nI0 i4)).toInt64))), .second, .val (.double (f_ent1  (nI0 i4) (nS i0) (nS i1) (nS i2) (nS i3))), .second, iv (1 : Int32)] [(.int (0 : Int32)), (.ref b38)])) rfl rfl (hb hby at_326) _ ?_
        show Go p e below t T88 m 327 #[iv i0, iv i1, iv i2, iv i3, iv i4, rv b38, iv (1 : Int32), iv (nI0 i4), iv (nI1 i4), iv (nI2 i4), rv b79, .val (.long ((1 : Int64) * ((own_sel (nS i0) (nS i1) (nS i2) (nS i3) (nI0 i4)).toInt64))), .second, .val (.double (f_ent1  (nI0 i4) (nS i0) (nS i1) (nS i2) (nS i3))), .second, iv (1 : Int32)] [(.int (nS i0))]
        refine XS.iloadN X88.here hx rfl (hb hby at_327) rfl ?_
        show Go p e below t T88 m 328 #[iv i0, iv i1, iv i2, iv i3, iv i4, rv b38, iv (1 : Int32), iv (nI0 i4), iv (nI1 i4), iv (nI2 i4), rv b79, .val (.long ((1 : Int64) * ((own_sel (nS i0) (nS i1) (nS i2) (nS i3) (nI0 i4)).toInt64))), .second, .val (.double (f_ent1  (nI0 i4) (nS i0) (nS i1) (nS i2) (nS i3))), .second, iv (1 : Int32)] [(.int i0), (.int (nS i0))]
        refine Jvm.Stand.ldcI X88 hx hown (mvT hZ (hw _ (List.mem_of_getElem? (i := 1) rfl))) (g := (mkF m 328 #[iv i0, iv i1, iv i2, iv i3, iv i4, rv b38, iv (1 : Int32), iv (nI0 i4), iv (nI1 i4), iv (nI2 i4), rv b79, .val (.long ((1 : Int64) * ((own_sel (nS i0) (nS i1) (nS i2) (nS i3) (nI0 i4)).toInt64))), .second, .val (.double (f_ent1  (nI0 i4) (nS i0) (nS i1) (nS i2) (nS i3))), .second, iv (1 : Int32)] [(.int i0), (.int (nS i0))])) rfl (hb hby at_328) ?_
        show Go p e below t T88 m 330 #[iv i0, iv i1, iv i2, iv i3, iv i4, rv b38, iv (1 : Int32), iv (nI0 i4), iv (nI1 i4), iv (nI2 i4), rv b79, .val (.long ((1 : Int64) * ((own_sel (nS i0) (nS i1) (nS i2) (nS i3) (nI0 i4)).toInt64))), .second, .val (.double (f_ent1  (nI0 i4) (nS i0) (nS i1) (nS i2) (nS i3))), .second, iv (1 : Int32)] [(.int (131071 : Int32)), (.int i0), (.int (nS i0))]
        refine XS.iand X88.here hx rfl (hb hby at_330) rfl ?_
        show Go p e below t T88 m 331 #[iv i0, iv i1, iv i2, iv i3, iv i4, rv b38, iv (1 : Int32), iv (nI0 i4), iv (nI1 i4), iv (nI2 i4), rv b79, .val (.long ((1 : Int64) * ((own_sel (nS i0) (nS i1) (nS i2) (nS i3) (nI0 i4)).toInt64))), .second, .val (.double (f_ent1  (nI0 i4) (nS i0) (nS i1) (nS i2) (nS i3))), .second, iv (1 : Int32)] [(.int (i0 &&& (131071 : Int32))), (.int (nS i0))]
        show Go p e below t T88 m 331 #[iv i0, iv i1, iv i2, iv i3, iv i4, rv b38, iv (1 : Int32), iv (nI0 i4), iv (nI1 i4), iv (nI2 i4), rv b79, .val (.long ((1 : Int64) * ((own_sel (nS i0) (nS i1) (nS i2) (nS i3) (nI0 i4)).toInt64))), .second, .val (.double (f_ent1  (nI0 i4) (nS i0) (nS i1) (nS i2) (nS i3))), .second, iv (1 : Int32)] [(.int (nS i0)), (.int (nS i0))]
        refine XS.icmpNo X88.here hx rfl (hb hby at_331) rfl (XT.ii_ne_f rfl) ?_
        show Go p e below t T88 m 334 #[iv i0, iv i1, iv i2, iv i3, iv i4, rv b38, iv (1 : Int32), iv (nI0 i4), iv (nI1 i4), iv (nI2 i4), rv b79, .val (.long ((1 : Int64) * ((own_sel (nS i0) (nS i1) (nS i2) (nS i3) (nI0 i4)).toInt64))), .second, .val (.double (f_ent1  (nI0 i4) (nS i0) (nS i1) (nS i2) (nS i3))), .second, iv (1 : Int32)] []
        refine XS.aload X88.here hx rfl (hb hby at_334) rfl rfl ?_
        show Go p e below t T88 m 336 #[iv i0, iv i1, iv i2, iv i3, iv i4, rv b38, iv (1 : Int32), iv (nI0 i4), iv (nI1 i4), iv (nI2 i4), rv b79, .val (.long ((1 : Int64) * ((own_sel (nS i0) (nS i1) (nS i2) (nS i3) (nI0 i4)).toInt64))), .second, .val (.double (f_ent1  (nI0 i4) (nS i0) (nS i1) (nS i2) (nS i3))), .second, iv (1 : Int32)] [(.ref b38)]
        refine XT.iconstV X88.here hx rfl (1 : Int32) (hb hby at_336) (by decide) ?_
        show Go p e below t T88 m 337 #[iv i0, iv i1, iv i2, iv i3, iv i4, rv b38, iv (1 : Int32), iv (nI0 i4), iv (nI1 i4), iv (nI2 i4), rv b79, .val (.long ((1 : Int64) * ((own_sel (nS i0) (nS i1) (nS i2) (nS i3) (nI0 i4)).toInt64))), .second, .val (.double (f_ent1  (nI0 i4) (nS i0) (nS i1) (nS i2) (nS i3))), .second, iv (1 : Int32)] [(.int (1 : Int32)), (.ref b38)]
        exact k)
      obtain ⟨cl97, Ar97, q97, S97, M97, H97, G97⟩ := id ((V54.ext E79).other W83 (Nat.ne_of_lt (Nat.lt_of_lt_of_le V54.lt (Nat.le_of_eq gb79.symm))))
      have g98 : Goes p e below S0 (T88.setTop (mkF m 348 #[iv i0, iv i1, iv i2, iv i3, iv i4, rv b38, iv (1 : Int32), iv (nI0 i4), iv (nI1 i4), iv (nI2 i4), rv b79, .val (.long ((1 : Int64) * ((own_sel (nS i0) (nS i1) (nS i2) (nS i3) (nI0 i4)).toInt64))), .second, .val (.double (f_ent1  (nI0 i4) (nS i0) (nS i1) (nS i2) (nS i3))), .second, iv (1 : Int32)] [(.int (2 : Int32)), (.ref b38)])) := fun t k => g96 t (by
        refine X88.iaload hx (j := (1 : Int32)) (v := (.int (nS i1))) (by rw [e88]; exact Ar97.1) (State.isArrayOf_alike hZ.alike Ar97.2.1) Ar97.2.2 (inb_of S97 ⟨by decide, by decide⟩) (H97.at (inb_of S97 ⟨by decide, by decide⟩) rfl) (g := (mkF m 337 #[iv i0, iv i1, iv i2, iv i3, iv i4, rv b38, iv (1 : Int32), iv (nI0 i4), iv (nI1 i4), iv (nI2 i4), rv b79, .val (.long ((1 : Int64) * ((own_sel (nS i0) (nS i1) (nS i2) (nS i3) (nI0 i4)).toInt64))), .second, .val (.double (f_ent1  (nI0 i4) (nS i0) (nS i1) (nS i2) (nS i3))), .second, iv (1 : Int32)] [(.int (1 : Int32)), (.ref b38)])) rfl rfl (hb hby at_337) _ ?_
        show Go p e below t T88 m 338 #[iv i0, iv i1, iv i2, iv i3, iv i4, rv b38, iv (1 : Int32), iv (nI0 i4), iv (nI1 i4), iv (nI2 i4), rv b79, .val (.long ((1 : Int64) * ((own_sel (nS i0) (nS i1) (nS i2) (nS i3) (nI0 i4)).toInt64))), .second, .val (.double (f_ent1  (nI0 i4) (nS i0) (nS i1) (nS i2) (nS i3))), .second, iv (1 : Int32)] [(.int (nS i1))]
        refine XS.iloadN X88.here hx rfl (hb hby at_338) rfl ?_
        show Go p e below t T88 m 339 #[iv i0, iv i1, iv i2, iv i3, iv i4, rv b38, iv (1 : Int32), iv (nI0 i4), iv (nI1 i4), iv (nI2 i4), rv b79, .val (.long ((1 : Int64) * ((own_sel (nS i0) (nS i1) (nS i2) (nS i3) (nI0 i4)).toInt64))), .second, .val (.double (f_ent1  (nI0 i4) (nS i0) (nS i1) (nS i2) (nS i3))), .second, iv (1 : Int32)] [(.int i1), (.int (nS i1))]
        refine Jvm.Stand.ldcI X88 hx hown (mvT hZ (hw _ (List.mem_of_getElem? (i := 1) rfl))) (g := (mkF m 339 #[iv i0, iv i1, iv i2, iv i3, iv i4, rv b38, iv (1 : Int32), iv (nI0 i4), iv (nI1 i4), iv (nI2 i4), rv b79, .val (.long ((1 : Int64) * ((own_sel (nS i0) (nS i1) (nS i2) (nS i3) (nI0 i4)).toInt64))), .second, .val (.double (f_ent1  (nI0 i4) (nS i0) (nS i1) (nS i2) (nS i3))), .second, iv (1 : Int32)] [(.int i1), (.int (nS i1))])) rfl (hb hby at_339) ?_
        show Go p e below t T88 m 341 #[iv i0, iv i1, iv i2, iv i3, iv i4, rv b38, iv (1 : Int32), iv (nI0 i4), iv (nI1 i4), iv (nI2 i4), rv b79, .val (.long ((1 : Int64) * ((own_sel (nS i0) (nS i1) (nS i2) (nS i3) (nI0 i4)).toInt64))), .second, .val (.double (f_ent1  (nI0 i4) (nS i0) (nS i1) (nS i2) (nS i3))), .second, iv (1 : Int32)] [(.int (131071 : Int32)), (.int i1), (.int (nS i1))]
        refine XS.iand X88.here hx rfl (hb hby at_341) rfl ?_
        show Go p e below t T88 m 342 #[iv i0, iv i1, iv i2, iv i3, iv i4, rv b38, iv (1 : Int32), iv (nI0 i4), iv (nI1 i4), iv (nI2 i4), rv b79, .val (.long ((1 : Int64) * ((own_sel (nS i0) (nS i1) (nS i2) (nS i3) (nI0 i4)).toInt64))), .second, .val (.double (f_ent1  (nI0 i4) (nS i0) (nS i1) (nS i2) (nS i3))), .second, iv (1 : Int32)] [(.int (i1 &&& (131071 : Int32))), (.int (nS i1))]
        show Go p e below t T88 m 342 #[iv i0, iv i1, iv i2, iv i3, iv i4, rv b38, iv (1 : Int32), iv (nI0 i4), iv (nI1 i4), iv (nI2 i4), rv b79, .val (.long ((1 : Int64) * ((own_sel (nS i0) (nS i1) (nS i2) (nS i3) (nI0 i4)).toInt64))), .second, .val (.double (f_ent1  (nI0 i4) (nS i0) (nS i1) (nS i2) (nS i3))), .second, iv (1 : Int32)] [(.int (nS i1)), (.int (nS i1))]
        refine XS.icmpNo X88.here hx rfl (hb hby at_342) rfl (XT.ii_ne_f rfl) ?_
        show Go p e below t T88 m 345 #[iv i0, iv i1, iv i2, iv i3, iv i4, rv b38, iv (1 : Int32), iv (nI0 i4), iv (nI1 i4), iv (nI2 i4), rv b79, .val (.long ((1 : Int64) * ((own_sel (nS i0) (nS i1) (nS i2) (nS i3) (nI0 i4)).toInt64))), .second, .val (.double (f_ent1  (nI0 i4) (nS i0) (nS i1) (nS i2) (nS i3))), .second, iv (1 : Int32)] []
        refine XS.aload X88.here hx rfl (hb hby at_345) rfl rfl ?_
        show Go p e below t T88 m 347 #[iv i0, iv i1, iv i2, iv i3, iv i4, rv b38, iv (1 : Int32), iv (nI0 i4), iv (nI1 i4), iv (nI2 i4), rv b79, .val (.long ((1 : Int64) * ((own_sel (nS i0) (nS i1) (nS i2) (nS i3) (nI0 i4)).toInt64))), .second, .val (.double (f_ent1  (nI0 i4) (nS i0) (nS i1) (nS i2) (nS i3))), .second, iv (1 : Int32)] [(.ref b38)]
        refine XT.iconstV X88.here hx rfl (2 : Int32) (hb hby at_347) (by decide) ?_
        show Go p e below t T88 m 348 #[iv i0, iv i1, iv i2, iv i3, iv i4, rv b38, iv (1 : Int32), iv (nI0 i4), iv (nI1 i4), iv (nI2 i4), rv b79, .val (.long ((1 : Int64) * ((own_sel (nS i0) (nS i1) (nS i2) (nS i3) (nI0 i4)).toInt64))), .second, .val (.double (f_ent1  (nI0 i4) (nS i0) (nS i1) (nS i2) (nS i3))), .second, iv (1 : Int32)] [(.int (2 : Int32)), (.ref b38)]
        exact k)
      obtain ⟨cl99, Ar99, q99, S99, M99, H99, G99⟩ := id ((V54.ext E79).other W83 (Nat.ne_of_lt (Nat.lt_of_lt_of_le V54.lt (Nat.le_of_eq gb79.symm))))
      have g100 : Goes p e below S0 (T88.setTop (mkF m 359 #[iv i0, iv i1, iv i2, iv i3, iv i4, rv b38, iv (1 : Int32), iv (nI0 i4), iv (nI1 i4), iv (nI2 i4), rv b79, .val (.long ((1 : Int64) * ((own_sel (nS i0) (nS i1) (nS i2) (nS i3) (nI0 i4)).toInt64))), .second, .val (.double (f_ent1  (nI0 i4) (nS i0) (nS i1) (nS i2) (nS i3))), .second, iv (1 : Int32)] [(.int (3 : Int32)), (.ref b38)])) := fun t k => g98 t (by
        refine X88.iaload hx (j := (2 : Int32)) (v := (.int (nS i2))) (by rw [e88]; exact Ar99.1) (State.isArrayOf_alike hZ.alike Ar99.2.1) Ar99.2.2 (inb_of S99 ⟨by decide, by decide⟩) (H99.at (inb_of S99 ⟨by decide, by decide⟩) rfl) (g := (mkF m 348 #[iv i0, iv i1, iv i2, iv i3, iv i4, rv b38, iv (1 : Int32), iv (nI0 i4), iv (nI1 i4), iv (nI2 i4), rv b79, .val (.long ((1 : Int64) * ((own_sel (nS i0) (nS i1) (nS i2) (nS i3) (nI0 i4)).toInt64))), .second, .val (.double (f_ent1  (nI0 i4) (nS i0) (nS i1) (nS i2) (nS i3))), .second, iv (1 : Int32)] [(.int (2 : Int32)), (.ref b38)])) rfl rfl (hb hby at_348) _ ?_
        show Go p e below t T88 m 349 #[iv i0, iv i1, iv i2, iv i3, iv i4, rv b38, iv (1 : Int32), iv (nI0 i4), iv (nI1 i4), iv (nI2 i4), rv b79, .val (.long ((1 : Int64) * ((own_sel (nS i0) (nS i1) (nS i2) (nS i3) (nI0 i4)).toInt64))), .second, .val (.double (f_ent1  (nI0 i4) (nS i0) (nS i1) (nS i2) (nS i3))), .second, iv (1 : Int32)] [(.int (nS i2))]
        refine XS.iloadN X88.here hx rfl (hb hby at_349) rfl ?_
        show Go p e below t T88 m 350 #[iv i0, iv i1, iv i2, iv i3, iv i4, rv b38, iv (1 : Int32), iv (nI0 i4), iv (nI1 i4), iv (nI2 i4), rv b79, .val (.long ((1 : Int64) * ((own_sel (nS i0) (nS i1) (nS i2) (nS i3) (nI0 i4)).toInt64))), .second, .val (.double (f_ent1  (nI0 i4) (nS i0) (nS i1) (nS i2) (nS i3))), .second, iv (1 : Int32)] [(.int i2), (.int (nS i2))]
        refine Jvm.Stand.ldcI X88 hx hown (mvT hZ (hw _ (List.mem_of_getElem? (i := 1) rfl))) (g := (mkF m 350 #[iv i0, iv i1, iv i2, iv i3, iv i4, rv b38, iv (1 : Int32), iv (nI0 i4), iv (nI1 i4), iv (nI2 i4), rv b79, .val (.long ((1 : Int64) * ((own_sel (nS i0) (nS i1) (nS i2) (nS i3) (nI0 i4)).toInt64))), .second, .val (.double (f_ent1  (nI0 i4) (nS i0) (nS i1) (nS i2) (nS i3))), .second, iv (1 : Int32)] [(.int i2), (.int (nS i2))])) rfl (hb hby at_350) ?_
        show Go p e below t T88 m 352 #[iv i0, iv i1, iv i2, iv i3, iv i4, rv b38, iv (1 : Int32), iv (nI0 i4), iv (nI1 i4), iv (nI2 i4), rv b79, .val (.long ((1 : Int64) * ((own_sel (nS i0) (nS i1) (nS i2) (nS i3) (nI0 i4)).toInt64))), .second, .val (.double (f_ent1  (nI0 i4) (nS i0) (nS i1) (nS i2) (nS i3))), .second, iv (1 : Int32)] [(.int (131071 : Int32)), (.int i2), (.int (nS i2))]
        refine XS.iand X88.here hx rfl (hb hby at_352) rfl ?_
        show Go p e below t T88 m 353 #[iv i0, iv i1, iv i2, iv i3, iv i4, rv b38, iv (1 : Int32), iv (nI0 i4), iv (nI1 i4), iv (nI2 i4), rv b79, .val (.long ((1 : Int64) * ((own_sel (nS i0) (nS i1) (nS i2) (nS i3) (nI0 i4)).toInt64))), .second, .val (.double (f_ent1  (nI0 i4) (nS i0) (nS i1) (nS i2) (nS i3))), .second, iv (1 : Int32)] [(.int (i2 &&& (131071 : Int32))), (.int (nS i2))]
        show Go p e below t T88 m 353 #[iv i0, iv i1, iv i2, iv i3, iv i4, rv b38, iv (1 : Int32), iv (nI0 i4), iv (nI1 i4), iv (nI2 i4), rv b79, .val (.long ((1 : Int64) * ((own_sel (nS i0) (nS i1) (nS i2) (nS i3) (nI0 i4)).toInt64))), .second, .val (.double (f_ent1  (nI0 i4) (nS i0) (nS i1) (nS i2) (nS i3))), .second, iv (1 : Int32)] [(.int (nS i2)), (.int (nS i2))]
        refine XS.icmpNo X88.here hx rfl (hb hby at_353) rfl (XT.ii_ne_f rfl) ?_
        show Go p e below t T88 m 356 #[iv i0, iv i1, iv i2, iv i3, iv i4, rv b38, iv (1 : Int32), iv (nI0 i4), iv (nI1 i4), iv (nI2 i4), rv b79, .val (.long ((1 : Int64) * ((own_sel (nS i0) (nS i1) (nS i2) (nS i3) (nI0 i4)).toInt64))), .second, .val (.double (f_ent1  (nI0 i4) (nS i0) (nS i1) (nS i2) (nS i3))), .second, iv (1 : Int32)] []
        refine XS.aload X88.here hx rfl (hb hby at_356) rfl rfl ?_
        show Go p e below t T88 m 358 #[iv i0, iv i1, iv i2, iv i3, iv i4, rv b38, iv (1 : Int32), iv (nI0 i4), iv (nI1 i4), iv (nI2 i4), rv b79, .val (.long ((1 : Int64) * ((own_sel (nS i0) (nS i1) (nS i2) (nS i3) (nI0 i4)).toInt64))), .second, .val (.double (f_ent1  (nI0 i4) (nS i0) (nS i1) (nS i2) (nS i3))), .second, iv (1 : Int32)] [(.ref b38)]
        refine XT.iconstV X88.here hx rfl (3 : Int32) (hb hby at_358) (by decide) ?_
        show Go p e below t T88 m 359 #[iv i0, iv i1, iv i2, iv i3, iv i4, rv b38, iv (1 : Int32), iv (nI0 i4), iv (nI1 i4), iv (nI2 i4), rv b79, .val (.long ((1 : Int64) * ((own_sel (nS i0) (nS i1) (nS i2) (nS i3) (nI0 i4)).toInt64))), .second, .val (.double (f_ent1  (nI0 i4) (nS i0) (nS i1) (nS i2) (nS i3))), .second, iv (1 : Int32)] [(.int (3 : Int32)), (.ref b38)]
        exact k)
      obtain ⟨cl101, Ar101, q101, S101, M101, H101, G101⟩ := id ((V54.ext E79).other W83 (Nat.ne_of_lt (Nat.lt_of_lt_of_le V54.lt (Nat.le_of_eq gb79.symm))))
      have g102 : Goes p e below S0 (T88.setTop (mkF m 376 #[iv i0, iv i1, iv i2, iv i3, iv i4, rv b38, iv (1 : Int32), iv (nI0 i4), iv (nI1 i4), iv (nI2 i4), rv b79, .val (.long ((1 : Int64) * ((own_sel (nS i0) (nS i1) (nS i2) (nS i3) (nI0 i4)).toInt64))), .second, .val (.double (f_ent1  (nI0 i4) (nS i0) (nS i1) (nS i2) (nS i3))), .second, iv (1 : Int32)] [(.int (1 : Int32))])) := fun t k => g100 t (by
        refine X88.iaload hx (j := (3 : Int32)) (v := (.int (nS i3))) (by rw [e88]; exact Ar101.1) (State.isArrayOf_alike hZ.alike Ar101.2.1) Ar101.2.2 (inb_of S101 ⟨by decide, by decide⟩) (H101.at (inb_of S101 ⟨by decide, by decide⟩) rfl) (g := (mkF m 359 #[iv i0, iv i1, iv i2, iv i3, iv i4, rv b38, iv (1 : Int32), iv (nI0 i4), iv (nI1 i4), iv (nI2 i4), rv b79, .val (.long ((1 : Int64) * ((own_sel (nS i0) (nS i1) (nS i2) (nS i3) (nI0 i4)).toInt64))), .second, .val (.double (f_ent1  (nI0 i4) (nS i0) (nS i1) (nS i2) (nS i3))), .second, iv (1 : Int32)] [(.int (3 : Int32)), (.ref b38)])) rfl rfl (hb hby at_359) _ ?_
        show Go p e below t T88 m 360 #[iv i0, iv i1, iv i2, iv i3, iv i4, rv b38, iv (1 : Int32), iv (nI0 i4), iv (nI1 i4), iv (nI2 i4), rv b79, .val (.long ((1 : Int64) * ((own_sel (nS i0) (nS i1) (nS i2) (nS i3) (nI0 i4)).toInt64))), .second, .val (.double (f_ent1  (nI0 i4) (nS i0) (nS i1) (nS i2) (nS i3))), .second, iv (1 : Int32)] [(.int (nS i3))]
        refine XS.iloadN X88.here hx rfl (hb hby at_360) rfl ?_
        show Go p e below t T88 m 361 #[iv i0, iv i1, iv i2, iv i3, iv i4, rv b38, iv (1 : Int32), iv (nI0 i4), iv (nI1 i4), iv (nI2 i4), rv b79, .val (.long ((1 : Int64) * ((own_sel (nS i0) (nS i1) (nS i2) (nS i3) (nI0 i4)).toInt64))), .second, .val (.double (f_ent1  (nI0 i4) (nS i0) (nS i1) (nS i2) (nS i3))), .second, iv (1 : Int32)] [(.int i3), (.int (nS i3))]
        refine Jvm.Stand.ldcI X88 hx hown (mvT hZ (hw _ (List.mem_of_getElem? (i := 1) rfl))) (g := (mkF m 361 #[iv i0, iv i1, iv i2, iv i3, iv i4, rv b38, iv (1 : Int32), iv (nI0 i4), iv (nI1 i4), iv (nI2 i4), rv b79, .val (.long ((1 : Int64) * ((own_sel (nS i0) (nS i1) (nS i2) (nS i3) (nI0 i4)).toInt64))), .second, .val (.double (f_ent1  (nI0 i4) (nS i0) (nS i1) (nS i2) (nS i3))), .second, iv (1 : Int32)] [(.int i3), (.int (nS i3))])) rfl (hb hby at_361) ?_
        show Go p e below t T88 m 363 #[iv i0, iv i1, iv i2, iv i3, iv i4, rv b38, iv (1 : Int32), iv (nI0 i4), iv (nI1 i4), iv (nI2 i4), rv b79, .val (.long ((1 : Int64) * ((own_sel (nS i0) (nS i1) (nS i2) (nS i3) (nI0 i4)).toInt64))), .second, .val (.double (f_ent1  (nI0 i4) (nS i0) (nS i1) (nS i2) (nS i3))), .second, iv (1 : Int32)] [(.int (131071 : Int32)), (.int i3), (.int (nS i3))]
        refine XS.iand X88.here hx rfl (hb hby at_363) rfl ?_
        show Go p e below t T88 m 364 #[iv i0, iv i1, iv i2, iv i3, iv i4, rv b38, iv (1 : Int32), iv (nI0 i4), iv (nI1 i4), iv (nI2 i4), rv b79, .val (.long ((1 : Int64) * ((own_sel (nS i0) (nS i1) (nS i2) (nS i3) (nI0 i4)).toInt64))), .second, .val (.double (f_ent1  (nI0 i4) (nS i0) (nS i1) (nS i2) (nS i3))), .second, iv (1 : Int32)] [(.int (i3 &&& (131071 : Int32))), (.int (nS i3))]
        show Go p e below t T88 m 364 #[iv i0, iv i1, iv i2, iv i3, iv i4, rv b38, iv (1 : Int32), iv (nI0 i4), iv (nI1 i4), iv (nI2 i4), rv b79, .val (.long ((1 : Int64) * ((own_sel (nS i0) (nS i1) (nS i2) (nS i3) (nI0 i4)).toInt64))), .second, .val (.double (f_ent1  (nI0 i4) (nS i0) (nS i1) (nS i2) (nS i3))), .second, iv (1 : Int32)] [(.int (nS i3)), (.int (nS i3))]
        refine XS.icmpNo X88.here hx rfl (hb hby at_364) rfl (XT.ii_ne_f rfl) ?_
        show Go p e below t T88 m 367 #[iv i0, iv i1, iv i2, iv i3, iv i4, rv b38, iv (1 : Int32), iv (nI0 i4), iv (nI1 i4), iv (nI2 i4), rv b79, .val (.long ((1 : Int64) * ((own_sel (nS i0) (nS i1) (nS i2) (nS i3) (nI0 i4)).toInt64))), .second, .val (.double (f_ent1  (nI0 i4) (nS i0) (nS i1) (nS i2) (nS i3))), .second, iv (1 : Int32)] []
        refine XT.iconstV X88.here hx rfl (1 : Int32) (hb hby at_367) (by decide) ?_
        show Go p e below t T88 m 368 #[iv i0, iv i1, iv i2, iv i3, iv i4, rv b38, iv (1 : Int32), iv (nI0 i4), iv (nI1 i4), iv (nI2 i4), rv b79, .val (.long ((1 : Int64) * ((own_sel (nS i0) (nS i1) (nS i2) (nS i3) (nI0 i4)).toInt64))), .second, .val (.double (f_ent1  (nI0 i4) (nS i0) (nS i1) (nS i2) (nS i3))), .second, iv (1 : Int32)] [(.int (1 : Int32))]
        refine XS.goto X88.here hx rfl (pc0 := 368) (pc' := 372) rfl (hb hby at_368) (by decide) (by decide) ?_
        show Go p e below t T88 m 372 #[iv i0, iv i1, iv i2, iv i3, iv i4, rv b38, iv (1 : Int32), iv (nI0 i4), iv (nI1 i4), iv (nI2 i4), rv b79, .val (.long ((1 : Int64) * ((own_sel (nS i0) (nS i1) (nS i2) (nS i3) (nI0 i4)).toInt64))), .second, .val (.double (f_ent1  (nI0 i4) (nS i0) (nS i1) (nS i2) (nS i3))), .second, iv (1 : Int32)] [(.int (1 : Int32))]
        refine XS.istore X88.here hx rfl (hb hby at_372) rfl (l' := #[iv i0, iv i1, iv i2, iv i3, iv i4, rv b38, iv (1 : Int32), iv (nI0 i4), iv (nI1 i4), iv (nI2 i4), rv b79, .val (.long ((1 : Int64) * ((own_sel (nS i0) (nS i1) (nS i2) (nS i3) (nI0 i4)).toInt64))), .second, .val (.double (f_ent1  (nI0 i4) (nS i0) (nS i1) (nS i2) (nS i3))), .second, iv (1 : Int32)]) rfl ?_
        show Go p e below t T88 m 374 #[iv i0, iv i1, iv i2, iv i3, iv i4, rv b38, iv (1 : Int32), iv (nI0 i4), iv (nI1 i4), iv (nI2 i4), rv b79, .val (.long ((1 : Int64) * ((own_sel (nS i0) (nS i1) (nS i2) (nS i3) (nI0 i4)).toInt64))), .second, .val (.double (f_ent1  (nI0 i4) (nS i0) (nS i1) (nS i2) (nS i3))), .second, iv (1 : Int32)] []
        refine XS.iload X88.here hx rfl (hb hby at_374) rfl ?_
        show Go p e below t T88 m 376 #[iv i0, iv i1, iv i2, iv i3, iv i4, rv b38, iv (1 : Int32), iv (nI0 i4), iv (nI1 i4), iv (nI2 i4), rv b79, .val (.long ((1 : Int64) * ((own_sel (nS i0) (nS i1) (nS i2) (nS i3) (nI0 i4)).toInt64))), .second, .val (.double (f_ent1  (nI0 i4) (nS i0) (nS i1) (nS i2) (nS i3))), .second, iv (1 : Int32)] [(.int (1 : Int32))]
        exact k)
      obtain ⟨fs, hr, hrun, hended, hW, hsame⟩ := X88.leave (v := some (.int (1 : Int32))) (fun h => by rw [Bd.returns] at h; cases h)
      refine ⟨_, _, g102 _ (retN X88 hx (t := .boolean) Bd.returns (by simp) (hb hby at_376) hr), hrun, hended, _, _, rfl, ?_, ⟨_, rfl⟩, hW, hsame.mono (by decide) (by decide)⟩
      show Q_law Z i0 i1 i2 i3 i4  h0 n0 _ T88.heap _
      rw [e88]
      exact ⟨rfl, M88⟩
    · skip
      have g103 : Goes p e below S0 (T54.setTop (mkF m 99 #[iv i0, iv i1, iv i2, iv i3, iv i4, rv b38, iv n4, iv (nI0 i4), iv (nI1 i4), iv (nI2 i4), .unset, .unset, .unset, .unset, .unset, .unset] [(.int (2 : Int32)), (.int n4)])) := fun t k => g76 t (by
        refine XS.icmpYes X54.here hx rfl (pc0 := 80) (pc' := 96) rfl (hb hby at_80) rfl (XT.ii_ne_t h77) (by decide) (by decide) ?_
        show Go p e below t T54 m 96 #[iv i0, iv i1, iv i2, iv i3, iv i4, rv b38, iv n4, iv (nI0 i4), iv (nI1 i4), iv (nI2 i4), .unset, .unset, .unset, .unset, .unset, .unset] []
        refine XS.iload X54.here hx rfl (hb hby at_96) rfl ?_
        show Go p e below t T54 m 98 #[iv i0, iv i1, iv i2, iv i3, iv i4, rv b38, iv n4, iv (nI0 i4), iv (nI1 i4), iv (nI2 i4), .unset, .unset, .unset, .unset, .unset, .unset] [(.int n4)]
        refine XT.iconstV X54.here hx rfl (2 : Int32) (hb hby at_98) (by decide) ?_
        show Go p e below t T54 m 99 #[iv i0, iv i1, iv i2, iv i3, iv i4, rv b38, iv n4, iv (nI0 i4), iv (nI1 i4), iv (nI2 i4), .unset, .unset, .unset, .unset, .unset, .unset] [(.int (2 : Int32)), (.int n4)]
        exact k)
      by_cases h104 : n4 = (2 : Int32)
      · skip
        subst h104
        have g105 : Goes p e below S0 (T54.setTop (mkF m 103 #[iv i0, iv i1, iv i2, iv i3, iv i4, rv b38, iv (2 : Int32), iv (nI0 i4), iv (nI1 i4), iv (nI2 i4), .unset, .unset, .unset, .unset, .unset, .unset] [(.int (2 : Int32))])) := fun t k => g103 t (by
          refine XS.icmpNo X54.here hx rfl (hb hby at_99) rfl (XT.ii_ne_f (by decide)) ?_
          show Go p e below t T54 m 102 #[iv i0, iv i1, iv i2, iv i3, iv i4, rv b38, iv (2 : Int32), iv (nI0 i4), iv (nI1 i4), iv (nI2 i4), .unset, .unset, .unset, .unset, .unset, .unset] []
          refine XT.iconstV X54.here hx rfl (2 : Int32) (hb hby at_102) (by decide) ?_
          show Go p e below t T54 m 103 #[iv i0, iv i1, iv i2, iv i3, iv i4, rv b38, iv (2 : Int32), iv (nI0 i4), iv (nI1 i4), iv (nI2 i4), .unset, .unset, .unset, .unset, .unset, .unset] [(.int (2 : Int32))]
          exact k)
        obtain ⟨T106, h106, k106, X106, e106, E106, A106, st106⟩ := newP X54 hx hZ (hw _ (List.mem_of_getElem? (i := 0) rfl)) e54 (g := (mkF m 103 #[iv i0, iv i1, iv i2, iv i3, iv i4, rv b38, iv (2 : Int32), iv (nI0 i4), iv (nI1 i4), iv (nI2 i4), .unset, .unset, .unset, .unset, .unset, .unset] [(.int (2 : Int32))])) rfl (hb hby at_103) rfl (by decide) (cap := 2) (by decide) (by decide) (by decide) (by decide)
        obtain ⟨b106, gb106⟩ : ∃ z, z = h54.size := ⟨_, rfl⟩
        have sz106 : h0.size ≤ b106 := Nat.le_trans (Nat.le_trans (Nat.le_trans (Nat.le_trans (Nat.le_trans (Nat.le_trans (Nat.le_refl _) E38.1) (Nat.le_of_eq W42.size.symm)) (Nat.le_of_eq W46.size.symm)) (Nat.le_of_eq W50.size.symm)) (Nat.le_of_eq W54.size.symm)) (Nat.le_of_eq gb106.symm)
        have ng106 : n0 ≤ b106 := Nat.le_trans Z0 sz106
        rw [← gb106] at A106 st106
        have V106 : Arv Z h106 b106 k106 .int (2 : Int32) [(.int (0 : Int32)), (.int (0 : Int32))] (.int (0 : Int32)) := (Arv.new A106 (by decide)).pad (pad_rep [] (.int (0 : Int32)) 2)
        have g107 : Goes p e below S0 (T106.setTop (mkF m 105 #[iv i0, iv i1, iv i2, iv i3, iv i4, rv b38, iv (2 : Int32), iv (nI0 i4), iv (nI1 i4), iv (nI2 i4), .unset, .unset, .unset, .unset, .unset, .unset] [(.ref b106)])) := fun t k => g105 t (st106 t k)
        have g108 : Goes p e below S0 (T106.setTop (mkF m 109 #[iv i0, iv i1, iv i2, iv i3, iv i4, rv b38, iv (2 : Int32), iv (nI0 i4), iv (nI1 i4), iv (nI2 i4), .unset, .unset, .unset, .unset, .unset, .unset] [(.int (nI0 i4)), (.int (0 : Int32)), (.ref b106), (.ref b106)])) := fun t k => g107 t (by
          refine XS.dup X106.here hx rfl (hb hby at_105) rfl rfl ?_
          show Go p e below t T106 m 106 #[iv i0, iv i1, iv i2, iv i3, iv i4, rv b38, iv (2 : Int32), iv (nI0 i4), iv (nI1 i4), iv (nI2 i4), .unset, .unset, .unset, .unset, .unset, .unset] [(.ref b106), (.ref b106)]
          refine XT.iconstV X106.here hx rfl (0 : Int32) (hb hby at_106) (by decide) ?_
          show Go p e below t T106 m 107 #[iv i0, iv i1, iv i2, iv i3, iv i4, rv b38, iv (2 : Int32), iv (nI0 i4), iv (nI1 i4), iv (nI2 i4), .unset, .unset, .unset, .unset, .unset, .unset] [(.int (0 : Int32)), (.ref b106), (.ref b106)]
          refine XS.iload X106.here hx rfl (hb hby at_107) rfl ?_
          show Go p e below t T106 m 109 #[iv i0, iv i1, iv i2, iv i3, iv i4, rv b38, iv (2 : Int32), iv (nI0 i4), iv (nI1 i4), iv (nI2 i4), .unset, .unset, .unset, .unset, .unset, .unset] [(.int (nI0 i4)), (.int (0 : Int32)), (.ref b106), (.ref b106)]
          exact k)
        obtain ⟨cl109, Ar109, q109, S109, M109, H109, G109⟩ := id V106
        obtain ⟨T110, h110, X110, e110, W110, st110⟩ := stI X106 hx hZ e106 Ar109 (j := (0 : Int32)) (inb_of S109 ⟨by decide, by decide⟩) (g := (mkF m 109 #[iv i0, iv i1, iv i2, iv i3, iv i4, rv b38, iv (2 : Int32), iv (nI0 i4), iv (nI1 i4), iv (nI2 i4), .unset, .unset, .unset, .unset, .unset, .unset] [(.int (nI0 i4)), (.int (0 : Int32)), (.ref b106), (.ref b106)])) rfl rfl (hb hby at_109)
        have N110 := Fr.snoc X110 N54 ng106
        have V110 : Arv Z h110 b106 k106 .int (2 : Int32) [(.int (nI0 i4)), (.int (0 : Int32))] (.int (0 : Int32)) := Arv.set Ar109 q109 S109 M109 H109 G109 rfl W110 0 rfl (Nat.le_of_ble_eq_true rfl)
        have g111 : Goes p e below S0 (T110.setTop (mkF m 110 #[iv i0, iv i1, iv i2, iv i3, iv i4, rv b38, iv (2 : Int32), iv (nI0 i4), iv (nI1 i4), iv (nI2 i4), .unset, .unset, .unset, .unset, .unset, .unset] [(.ref b106)])) := fun t k => g108 t (st110 t k)
        have g112 : Goes p e below S0 (T110.setTop (mkF m 114 #[iv i0, iv i1, iv i2, iv i3, iv i4, rv b38, iv (2 : Int32), iv (nI0 i4), iv (nI1 i4), iv (nI2 i4), .unset, .unset, .unset, .unset, .unset, .unset] [(.int (nI1 i4)), (.int (1 : Int32)), (.ref b106), (.ref b106)])) := fun t k => g111 t (by
          refine XS.dup X110.here hx rfl (hb hby at_110) rfl rfl ?_
          show Go p e below t T110 m 111 #[iv i0, iv i1, iv i2, iv i3, iv i4, rv b38, iv (2 : Int32), iv (nI0 i4), iv (nI1 i4), iv (nI2 i4), .unset, .unset, .unset, .unset, .unset, .unset] [(.ref b106), (.ref b106)]
          refine XT.iconstV X110.here hx rfl (1 : Int32) (hb hby at_111) (by decide) ?_
          show Go p e below t T110 m 112 #[iv i0, iv i1, iv i2, iv i3, iv i4, rv b38, iv (2 : Int32), iv (nI0 i4), iv (nI1 i4), iv (nI2 i4), .unset, .unset, .unset, .unset, .unset, .unset] [(.int (1 : Int32)), (.ref b106), (.ref b106)]
          refine XS.iload X110.here hx rfl (hb hby at_112) rfl ?_
          show Go p e below t T110 m 114 #[iv i0, iv i1, iv i2, iv i3, iv i4, rv b38, iv (2 : Int32), iv (nI0 i4), iv (nI1 i4), iv (nI2 i4), .unset, .unset, .unset, .unset, .unset, .unset] [(.int (nI1 i4)), (.int (1 : Int32)), (.ref b106), (.ref b106)]
          exact k)
        obtain ⟨cl113, Ar113, q113, S113, M113, H113, G113⟩ := id V110
        obtain ⟨T114, h114, X114, e114, W114, st114⟩ := stI X110 hx hZ e110 Ar113 (j := (1 : Int32)) (inb_of S113 ⟨by decide, by decide⟩) (g := (mkF m 114 #[iv i0, iv i1, iv i2, iv i3, iv i4, rv b38, iv (2 : Int32), iv (nI0 i4), iv (nI1 i4), iv (nI2 i4), .unset, .unset, .unset, .unset, .unset, .unset] [(.int (nI1 i4)), (.int (1 : Int32)), (.ref b106), (.ref b106)])) rfl rfl (hb hby at_114)
        have N114 := Fr.snoc X114 N110 ng106
        have V114 : Arv Z h114 b106 k106 .int (2 : Int32) [(.int (nI0 i4)), (.int (nI1 i4))] (.int (0 : Int32)) := Arv.set Ar113 q113 S113 M113 H113 G113 rfl W114 1 rfl (Nat.le_of_ble_eq_true rfl)
        have g115 : Goes p e below S0 (T114.setTop (mkF m 115 #[iv i0, iv i1, iv i2, iv i3, iv i4, rv b38, iv (2 : Int32), iv (nI0 i4), iv (nI1 i4), iv (nI2 i4), .unset, .unset, .unset, .unset, .unset, .unset] [(.ref b106)])) := fun t k => g112 t (st114 t k)
        have g116 : Goes p e below S0 (T114.setTop (mkF m 154 #[iv i0, iv i1, iv i2, iv i3, iv i4, rv b38, iv (2 : Int32), iv (nI0 i4), iv (nI1 i4), iv (nI2 i4), rv b106, .val (.long (1 : Int64)), .second, .unset, .unset, .unset] [(.int (nI0 i4)), (.ref b38), (.long (1 : Int64))])) := fun t k => g115 t (by
          refine XS.astore X114.here hx rfl (hb hby at_115) rfl rfl (l' := #[iv i0, iv i1, iv i2, iv i3, iv i4, rv b38, iv (2 : Int32), iv (nI0 i4), iv (nI1 i4), iv (nI2 i4), rv b106, .unset, .unset, .unset, .unset, .unset]) rfl ?_
          show Go p e below t T114 m 117 #[iv i0, iv i1, iv i2, iv i3, iv i4, rv b38, iv (2 : Int32), iv (nI0 i4), iv (nI1 i4), iv (nI2 i4), rv b106, .unset, .unset, .unset, .unset, .unset] []
          refine XS.goto X114.here hx rfl (pc0 := 117) (pc' := 140) rfl (hb hby at_117) (by decide) (by decide) ?_
          show Go p e below t T114 m 140 #[iv i0, iv i1, iv i2, iv i3, iv i4, rv b38, iv (2 : Int32), iv (nI0 i4), iv (nI1 i4), iv (nI2 i4), rv b106, .unset, .unset, .unset, .unset, .unset] []
          refine XT.lconstV X114.here hx rfl (1 : Int64) (hb hby at_140) (by decide) ?_
          show Go p e below t T114 m 141 #[iv i0, iv i1, iv i2, iv i3, iv i4, rv b38, iv (2 : Int32), iv (nI0 i4), iv (nI1 i4), iv (nI2 i4), rv b106, .unset, .unset, .unset, .unset, .unset] [(.long (1 : Int64))]
          refine XS.lstore X114.here hx rfl (hb hby at_141) rfl (l' := #[iv i0, iv i1, iv i2, iv i3, iv i4, rv b38, iv (2 : Int32), iv (nI0 i4), iv (nI1 i4), iv (nI2 i4), rv b106, .val (.long (1 : Int64)), .second, .unset, .unset, .unset]) rfl ?_
          show Go p e below t T114 m 143 #[iv i0, iv i1, iv i2, iv i3, iv i4, rv b38, iv (2 : Int32), iv (nI0 i4), iv (nI1 i4), iv (nI2 i4), rv b106, .val (.long (1 : Int64)), .second, .unset, .unset, .unset] []
          refine XS.iload X114.here hx rfl (hb hby at_143) rfl ?_
          show Go p e below t T114 m 145 #[iv i0, iv i1, iv i2, iv i3, iv i4, rv b38, iv (2 : Int32), iv (nI0 i4), iv (nI1 i4), iv (nI2 i4), rv b106, .val (.long (1 : Int64)), .second, .unset, .unset, .unset] [(.int (2 : Int32))]
          refine XS.ifNo X114.here hx rfl (hb hby at_145) rfl (XT.i0_le_f (by decide)) ?_
          show Go p e below t T114 m 148 #[iv i0, iv i1, iv i2, iv i3, iv i4, rv b38, iv (2 : Int32), iv (nI0 i4), iv (nI1 i4), iv (nI2 i4), rv b106, .val (.long (1 : Int64)), .second, .unset, .unset, .unset] []
          refine XS.lload X114.here hx rfl (hb hby at_148) rfl ?_
          show Go p e below t T114 m 150 #[iv i0, iv i1, iv i2, iv i3, iv i4, rv b38, iv (2 : Int32), iv (nI0 i4), iv (nI1 i4), iv (nI2 i4), rv b106, .val (.long (1 : Int64)), .second, .unset, .unset, .unset] [(.long (1 : Int64))]
          refine XS.aload X114.here hx rfl (hb hby at_150) rfl rfl ?_
          show Go p e below t T114 m 152 #[iv i0, iv i1, iv i2, iv i3, iv i4, rv b38, iv (2 : Int32), iv (nI0 i4), iv (nI1 i4), iv (nI2 i4), rv b106, .val (.long (1 : Int64)), .second, .unset, .unset, .unset] [(.ref b38), (.long (1 : Int64))]
          refine XS.iload X114.here hx rfl (hb hby at_152) rfl ?_
          show Go p e below t T114 m 154 #[iv i0, iv i1, iv i2, iv i3, iv i4, rv b38, iv (2 : Int32), iv (nI0 i4), iv (nI1 i4), iv (nI2 i4), rv b106, .val (.long (1 : Int64)), .second, .unset, .unset, .unset] [(.int (nI0 i4)), (.ref b38), (.long (1 : Int64))]
          exact k)
        obtain ⟨cl117, Ar117, q117, S117, M117, H117, G117⟩ := id (((V54.ext E106).other W110 (Nat.ne_of_lt (Nat.lt_of_lt_of_le V54.lt (Nat.le_of_eq gb106.symm)))).other W114 (Nat.ne_of_lt (Nat.lt_of_lt_of_le V54.lt (Nat.le_of_eq gb106.symm))))
        have g118 : Goes p e below S0 (T114.setTop (mkF m 171 #[iv i0, iv i1, iv i2, iv i3, iv i4, rv b38, iv (2 : Int32), iv (nI0 i4), iv (nI1 i4), iv (nI2 i4), rv b106, .val (.long ((1 : Int64) * ((own_sel (nS i0) (nS i1) (nS i2) (nS i3) (nI0 i4)).toInt64))), .second, .unset, .unset, .unset] [(.int (nI1 i4)), (.ref b38), (.long ((1 : Int64) * ((own_sel (nS i0) (nS i1) (nS i2) (nS i3) (nI0 i4)).toInt64)))])) := fun t k => g116 t (by
          refine X114.iaload hx (j := (nI0 i4)) (v := (.int (own_sel (nS i0) (nS i1) (nS i2) (nS i3) (nI0 i4)))) (by rw [e114]; exact Ar117.1) (State.isArrayOf_alike hZ.alike Ar117.2.1) Ar117.2.2 (inb_of S117 (own_in (own_b0 i4))) (H117.at (inb_of S117 (own_in (own_b0 i4))) (own_at (own_b0 i4) _ _ _ _)) (g := (mkF m 154 #[iv i0, iv i1, iv i2, iv i3, iv i4, rv b38, iv (2 : Int32), iv (nI0 i4), iv (nI1 i4), iv (nI2 i4), rv b106, .val (.long (1 : Int64)), .second, .unset, .unset, .unset] [(.int (nI0 i4)), (.ref b38), (.long (1 : Int64))])) rfl rfl (hb hby at_154) _ ?_
          show Go p e below t T114 m 155 #[iv i0, iv i1, iv i2, iv i3, iv i4, rv b38, iv (2 : Int32), iv (nI0 i4), iv (nI1 i4), iv (nI2 i4), rv b106, .val (.long (1 : Int64)), .second, .unset, .unset, .unset] [(.int (own_sel (nS i0) (nS i1) (nS i2) (nS i3) (nI0 i4))), (.long (1 : Int64))]
          refine XS.i2l X114.here hx rfl (hb hby at_155) rfl ?_
          show Go p e below t T114 m 156 #[iv i0, iv i1, iv i2, iv i3, iv i4, rv b38, iv (2 : Int32), iv (nI0 i4), iv (nI1 i4), iv (nI2 i4), rv b106, .val (.long (1 : Int64)), .second, .unset, .unset, .unset] [(.long ((own_sel (nS i0) (nS i1) (nS i2) (nS i3) (nI0 i4)).toInt64)), (.long (1 : Int64))]
          refine XS.lmul X114.here hx rfl (hb hby at_156) rfl ?_
          show Go p e below t T114 m 157 #[iv i0, iv i1, iv i2, iv i3, iv i4, rv b38, iv (2 : Int32), iv (nI0 i4), iv (nI1 i4), iv (nI2 i4), rv b106, .val (.long (1 : Int64)), .second, .unset, .unset, .unset] [(.long ((1 : Int64) * ((own_sel (nS i0) (nS i1) (nS i2) (nS i3) (nI0 i4)).toInt64)))]
          refine XS.lstore X114.here hx rfl (hb hby at_157) rfl (l' := #[iv i0, iv i1, iv i2, iv i3, iv i4, rv b38, iv (2 : Int32), iv (nI0 i4), iv (nI1 i4), iv (nI2 i4), rv b106, .val (.long ((1 : Int64) * ((own_sel (nS i0) (nS i1) (nS i2) (nS i3) (nI0 i4)).toInt64))), .second, .unset, .unset, .unset]) rfl ?_
          show Go p e below t T114 m 159 #[iv i0, iv i1, iv i2, iv i3, iv i4, rv b38, iv (2 : Int32), iv (nI0 i4), iv (nI1 i4), iv (nI2 i4), rv b106, .val (.long ((1 : Int64) * ((own_sel (nS i0) (nS i1) (nS i2) (nS i3) (nI0 i4)).toInt64))), .second, .unset, .unset, .unset] []
          refine XS.iload X114.here hx rfl (hb hby at_159) rfl ?_
          show Go p e below t T114 m 161 #[iv i0, iv i1, iv i2, iv i3, iv i4, rv b38, iv (2 : Int32), iv (nI0 i4), iv (nI1 i4), iv (nI2 i4), rv b106, .val (.long ((1 : Int64) * ((own_sel (nS i0) (nS i1) (nS i2) (nS i3) (nI0 i4)).toInt64))), .second, .unset, .unset, .unset] [(.int (2 : Int32))]
          refine XT.iconstV X114.here hx rfl (1 : Int32) (hb hby at_161) (by decide) ?_
          show Go p e below t T114 m 162 #[iv i0, iv i1, iv i2, iv i3, iv i4, rv b38, iv (2 : Int32), iv (nI0 i4), iv (nI1 i4), iv (nI2 i4), rv b106, .val (.long ((1 : Int64) * ((own_sel (nS i0) (nS i1) (nS i2) (nS i3) (nI0 i4)).toInt64))), .second, .unset, .unset, .unset] [(.int (1 : Int32)), (.int (2 : Int32))]
          refine XS.icmpNo X114.here hx rfl (hb hby at_162) rfl (XT.ii_le_f (by decide)) ?_
          show Go p e below t T114 m 165 #[iv i0, iv i1, iv i2, iv i3, iv i4, rv b38, iv (2 : Int32), iv (nI0 i4), iv (nI1 i4), iv (nI2 i4), rv b106, .val (.long ((1 : Int64) * ((own_sel (nS i0) (nS i1) (nS i2) (nS i3) (nI0 i4)).toInt64))), .second, .unset, .unset, .unset] []
          refine XS.lload X114.here hx rfl (hb hby at_165) rfl ?_
          show Go p e below t T114 m 167 #[iv i0, iv i1, iv i2, iv i3, iv i4, rv b38, iv (2 : Int32), iv (nI0 i4), iv (nI1 i4), iv (nI2 i4), rv b106, .val (.long ((1 : Int64) * ((own_sel (nS i0) (nS i1) (nS i2) (nS i3) (nI0 i4)).toInt64))), .second, .unset, .unset, .unset] [(.long ((1 : Int64) * ((own_sel (nS i0) (nS i1) (nS i2) (nS i3) (nI0 i4)).toInt64)))]
          refine XS.aload X114.here hx rfl (hb hby at_167) rfl rfl ?_
          show Go p e below t T114 m 169 #[iv i0, iv i1, iv i2, iv i3, iv i4, rv b38, iv (2 : Int32), iv (nI0 i4), iv (nI1 i4), iv (nI2 i4), rv b106, .val (.long ((1 : Int64) * ((own_sel (nS i0) (nS i1) (nS i2) (nS i3) (nI0 i4)).toInt64))), .second, .unset, .unset, .unset] [(.ref b38), (.long ((1 : Int64) * ((own_sel (nS i0) (nS i1) (nS i2) (nS i3) (nI0 i4)).toInt64)))]
          refine XS.iload X114.here hx rfl (hb hby at_169) rfl ?_
          show Go p e below t T114 m 171 #[iv i0, iv i1, iv i2, iv i3, iv i4, rv b38, iv (2 : Int32), iv (nI0 i4), iv (nI1 i4), iv (nI2 i4), rv b106, .val (.long ((1 : Int64) * ((own_sel (nS i0) (nS i1) (nS i2) (nS i3) (nI0 i4)).toInt64))), .second, .unset, .unset, .unset] [(.int (nI1 i4)), (.ref b38), (.long ((1 : Int64) * ((own_sel (nS i0) (nS i1) (nS i2) (nS i3) (nI0 i4)).toInt64)))]
          exact k)
        obtain ⟨cl119, Ar119, q119, S119, M119, H119, G119⟩ := id (((V54.ext E106).other W110 (Nat.ne_of_lt (Nat.lt_of_lt_of_le V54.lt (Nat.le_of_eq gb106.symm)))).other W114 (Nat.ne_of_lt (Nat.lt_of_lt_of_le V54.lt (Nat.le_of_eq gb106.symm))))
        have g120 : Goes p e below S0 (T114.setTop (mkF m 197 #[iv i0, iv i1, iv i2, iv i3, iv i4, rv b38, iv (2 : Int32), iv (nI0 i4), iv (nI1 i4), iv (nI2 i4), rv b106, .val (.long (((1 : Int64) * ((own_sel (nS i0) (nS i1) (nS i2) (nS i3) (nI0 i4)).toInt64)) * ((own_sel (nS i0) (nS i1) (nS i2) (nS i3) (nI1 i4)).toInt64))), .second, .unset, .unset, .unset] [(.ref b38), (.ref b106)])) := fun t k => g118 t (by
          refine X114.iaload hx (j := (nI1 i4)) (v := (.int (own_sel (nS i0) (nS i1) (nS i2) (nS i3) (nI1 i4)))) (by rw [e114]; exact Ar119.1) (State.isArrayOf_alike hZ.alike Ar119.2.1) Ar119.2.2 (inb_of S119 (own_in (own_b1 i4))) (H119.at (inb_of S119 (own_in (own_b1 i4))) (own_at (own_b1 i4) _ _ _ _)) (g := (mkF m 171 #[iv i0, iv i1, iv i2, iv i3, iv i4, rv b38, iv (2 : Int32), iv (nI0 i4), iv (nI1 i4), iv (nI2 i4), rv b106, .val (.long ((1 : Int64) * ((own_sel (nS i0) (nS i1) (nS i2) (nS i3) (nI0 i4)).toInt64))), .second, .unset, .unset, .unset] [(.int (nI1 i4)), (.ref b38), (.long ((1 : Int64) * ((own_sel (nS i0) (nS i1) (nS i2) (nS i3) (nI0 i4)).toInt64)))])) rfl rfl (hb hby at_171) _ ?_
          show Go p e below t T114 m 172 #[iv i0, iv i1, iv i2, iv i3, iv i4, rv b38, iv (2 : Int32), iv (nI0 i4), iv (nI1 i4), iv (nI2 i4), rv b106, .val (.long ((1 : Int64) * ((own_sel (nS i0) (nS i1) (nS i2) (nS i3) (nI0 i4)).toInt64))), .second, .unset, .unset, .unset] [(.int (own_sel (nS i0) (nS i1) (nS i2) (nS i3) (nI1 i4))), (.long ((1 : Int64) * ((own_sel (nS i0) (nS i1) (nS i2) (nS i3) (nI0 i4)).toInt64)))]
          refine XS.i2l X114.here hx rfl (hb hby at_172) rfl ?_
          show Go p e below t T114 m 173 #[iv i0, iv i1, iv i2, iv i3, iv i4, rv b38, iv (2 : Int32), iv (nI0 i4), iv (nI1 i4), iv (nI2 i4), rv b106, .val (.long ((1 : Int64) * ((own_sel (nS i0) (nS i1) (nS i2) (nS i3) (nI0 i4)).toInt64))), .second, .unset, .unset, .unset] [(.long ((own_sel (nS i0) (nS i1) (nS i2) (nS i3) (nI1 i4)).toInt64)), (.long ((1 : Int64) * ((own_sel (nS i0) (nS i1) (nS i2) (nS i3) (nI0 i4)).toInt64)))]
          refine XS.lmul X114.here hx rfl (hb hby at_173) rfl ?_
          show Go p e below t T114 m 174 #[iv i0, iv i1, iv i2, iv i3, iv i4, rv b38, iv (2 : Int32), iv (nI0 i4), iv (nI1 i4), iv (nI2 i4), rv b106, .val (.long ((1 : Int64) * ((own_sel (nS i0) (nS i1) (nS i2) (nS i3) (nI0 i4)).toInt64))), .second, .unset, .unset, .unset] [(.long (((1 : Int64) * ((own_sel (nS i0) (nS i1) (nS i2) (nS i3) (nI0 i4)).toInt64)) * ((own_sel (nS i0) (nS i1) (nS i2) (nS i3) (nI1 i4)).toInt64)))]
          refine XS.lstore X114.here hx rfl (hb hby at_174) rfl (l' := #[iv i0, iv i1, iv i2, iv i3, iv i4, rv b38, iv (2 : Int32), iv (nI0 i4), iv (nI1 i4), iv (nI2 i4), rv b106, .val (.long (((1 : Int64) * ((own_sel (nS i0) (nS i1) (nS i2) (nS i3) (nI0 i4)).toInt64)) * ((own_sel (nS i0) (nS i1) (nS i2) (nS i3) (nI1 i4)).toInt64))), .second, .unset, .unset, .unset]) rfl ?_
          show Go p e below t T114 m 176 #[iv i0, iv i1, iv i2, iv i3, iv i4, rv b38, iv (2 : Int32), iv (nI0 i4), iv (nI1 i4), iv (nI2 i4), rv b106, .val (.long (((1 : Int64) * ((own_sel (nS i0) (nS i1) (nS i2) (nS i3) (nI0 i4)).toInt64)) * ((own_sel (nS i0) (nS i1) (nS i2) (nS i3) (nI1 i4)).toInt64))), .second, .unset, .unset, .unset] []
          refine XS.iload X114.here hx rfl (hb hby at_176) rfl ?_
          show Go p e below t T114 m 178 #[iv i0, iv i1, iv i2, iv i3, iv i4, rv b38, iv (2 : Int32), iv (nI0 i4), iv (nI1 i4), iv (nI2 i4), rv b106, .val (.long (((1 : Int64) * ((own_sel (nS i0) (nS i1) (nS i2) (nS i3) (nI0 i4)).toInt64)) * ((own_sel (nS i0) (nS i1) (nS i2) (nS i3) (nI1 i4)).toInt64))), .second, .unset, .unset, .unset] [(.int (2 : Int32))]
          refine XT.iconstV X114.here hx rfl (2 : Int32) (hb hby at_178) (by decide) ?_
          show Go p e below t T114 m 179 #[iv i0, iv i1, iv i2, iv i3, iv i4, rv b38, iv (2 : Int32), iv (nI0 i4), iv (nI1 i4), iv (nI2 i4), rv b106, .val (.long (((1 : Int64) * ((own_sel (nS i0) (nS i1) (nS i2) (nS i3) (nI0 i4)).toInt64)) * ((own_sel (nS i0) (nS i1) (nS i2) (nS i3) (nI1 i4)).toInt64))), .second, .unset, .unset, .unset] [(.int (2 : Int32)), (.int (2 : Int32))]
          refine XS.icmpYes X114.here hx rfl (pc0 := 179) (pc' := 193) rfl (hb hby at_179) rfl (XT.ii_le_t (by decide)) (by decide) (by decide) ?_
          show Go p e below t T114 m 193 #[iv i0, iv i1, iv i2, iv i3, iv i4, rv b38, iv (2 : Int32), iv (nI0 i4), iv (nI1 i4), iv (nI2 i4), rv b106, .val (.long (((1 : Int64) * ((own_sel (nS i0) (nS i1) (nS i2) (nS i3) (nI0 i4)).toInt64)) * ((own_sel (nS i0) (nS i1) (nS i2) (nS i3) (nI1 i4)).toInt64))), .second, .unset, .unset, .unset] []
          refine XS.aload X114.here hx rfl (hb hby at_193) rfl rfl ?_
          show Go p e below t T114 m 195 #[iv i0, iv i1, iv i2, iv i3, iv i4, rv b38, iv (2 : Int32), iv (nI0 i4), iv (nI1 i4), iv (nI2 i4), rv b106, .val (.long (((1 : Int64) * ((own_sel (nS i0) (nS i1) (nS i2) (nS i3) (nI0 i4)).toInt64)) * ((own_sel (nS i0) (nS i1) (nS i2) (nS i3) (nI1 i4)).toInt64))), .second, .unset, .unset, .unset] [(.ref b106)]
          refine XS.aload X114.here hx rfl (hb hby at_195) rfl rfl ?_
          show Go p e below t T114 m 197 #[iv i0, iv i1, iv i2, iv i3, iv i4, rv b38, iv (2 : Int32), iv (nI0 i4), iv (nI1 i4), iv (nI2 i4), rv b106, .val (.long (((1 : Int64) * ((own_sel (nS i0) (nS i1) (nS i2) (nS i3) (nI0 i4)).toInt64)) * ((own_sel (nS i0) (nS i1) (nS i2) (nS i3) (nI1 i4)).toInt64))), .second, .unset, .unset, .unset] [(.ref b38), (.ref b106)]
          exact k)
        obtain ⟨_, _, ⟨T121, L121, k121, n121⟩, -, X121, ⟨Lc121, hQ121, l121, y121, z121⟩, st121⟩ := Jvm.LawKit.callS X114 hx (y := (⟨"com/example/aristotle/aristotle/EliminationPlan", "entries", "([I[I)D"⟩ : MethodName)) hown (mvT hZ (hw _ (List.mem_of_getElem? (i := 2) rfl))) (mvT hZ (hw _ (List.mem_of_getElem? (i := 3) rfl))) (mvT hZ (hw _ (List.mem_of_getElem? (i := 4) rfl))) (mvT hZ (hw _ (List.mem_of_getElem? (i := 5) rfl))) (by decide) (backOf (W := 0) (rm_ent2 l Z a0 hw [] b106 b38 k106 k38 (nI0 i4) (nI1 i4) (nS i0) (nS i1) (nS i2) (nS i3) h114 n0 (Nat.le_trans Z0 (Nat.le_trans (Nat.le_trans (Nat.le_trans (Nat.le_trans (Nat.le_trans (Nat.le_trans (Nat.le_trans (Nat.le_trans (Nat.le_refl _) E38.1) (Nat.le_of_eq W42.size.symm)) (Nat.le_of_eq W46.size.symm)) (Nat.le_of_eq W50.size.symm)) (Nat.le_of_eq W54.size.symm)) E106.1) (Nat.le_of_eq W110.size.symm)) (Nat.le_of_eq W114.size.symm))) V114 (((V54.ext E106).other W110 (Nat.ne_of_lt (Nat.lt_of_lt_of_le V54.lt (Nat.le_of_eq gb106.symm)))).other W114 (Nat.ne_of_lt (Nat.lt_of_lt_of_le V54.lt (Nat.le_of_eq gb106.symm)))) (own_b0 i4) (own_b1 i4) (fun _ _ => own_nn1) (fun _ _ => own_nn2)) hZ (hw _ (List.mem_of_getElem? (i := 5) rfl)) (hw _ (List.mem_of_getElem? (i := 4) rfl)) (by decide) (by decide)) (g := (mkF m 197 #[iv i0, iv i1, iv i2, iv i3, iv i4, rv b38, iv (2 : Int32), iv (nI0 i4), iv (nI1 i4), iv (nI2 i4), rv b106, .val (.long (((1 : Int64) * ((own_sel (nS i0) (nS i1) (nS i2) (nS i3) (nI0 i4)).toInt64)) * ((own_sel (nS i0) (nS i1) (nS i2) (nS i3) (nI1 i4)).toInt64))), .second, .unset, .unset, .unset] [(.ref b38), (.ref b106)])) rfl (by rw [hml]; rfl) (argsL := [(.ref b106), (.ref b38)]) (rest := []) (lenOf pd0 rfl) rfl (by show 2 * 0 + _ ≤ _; exact Nat.le_of_eq rfl) (hb hby at_197) (fun _ _ => ⟨rfl, e114, (by decide : 2 + 0 ≤ _), (by decide : 6 + 0 ≤ _)⟩)
        dsimp only [Pt.U, Pt.locs, Pt.cells, Pt.slots] at X121 l121 y121 z121 st121 hQ121
        subst l121 y121 z121
        obtain ⟨rfl, N121, e121⟩ := hQ121
        have M121 := Fr.app N114 N121
        have g122 : Goes p e below S0 (T121.setTop (mkF m 200 #[iv i0, iv i1, iv i2, iv i3, iv i4, rv b38, iv (2 : Int32), iv (nI0 i4), iv (nI1 i4), iv (nI2 i4), rv b106, .val (.long (((1 : Int64) * ((own_sel (nS i0) (nS i1) (nS i2) (nS i3) (nI0 i4)).toInt64)) * ((own_sel (nS i0) (nS i1) (nS i2) (nS i3) (nI1 i4)).toInt64))), .second, .unset, .unset, .unset] [(.double (f_ent2  (nI0 i4) (nI1 i4) (nS i0) (nS i1) (nS i2) (nS i3)))])) := fun t k => g120 t (st121 t k)
        have g123 : Goes p e below S0 (T121.setTop (mkF m 225 #[iv i0, iv i1, iv i2, iv i3, iv i4, rv b38, iv (2 : Int32), iv (nI0 i4), iv (nI1 i4), iv (nI2 i4), rv b106, .val (.long (((1 : Int64) * ((own_sel (nS i0) (nS i1) (nS i2) (nS i3) (nI0 i4)).toInt64)) * ((own_sel (nS i0) (nS i1) (nS i2) (nS i3) (nI1 i4)).toInt64))), .second, .val (.double (f_ent2  (nI0 i4) (nI1 i4) (nS i0) (nS i1) (nS i2) (nS i3))), .second, iv (1 : Int32)] [(.ref b106)])) := fun t k => g122 t (by
          refine XS.dstore X121.here hx rfl (hb hby at_200) rfl (l' := #[iv i0, iv i1, iv i2, iv i3, iv i4, rv b38, iv (2 : Int32), iv (nI0 i4), iv (nI1 i4), iv (nI2 i4), rv b106, .val (.long (((1 : Int64) * ((own_sel (nS i0) (nS i1) (nS i2) (nS i3) (nI0 i4)).toInt64)) * ((own_sel (nS i0) (nS i1) (nS i2) (nS i3) (nI1 i4)).toInt64))), .second, .val (.double (f_ent2  (nI0 i4) (nI1 i4) (nS i0) (nS i1) (nS i2) (nS i3))), .second, .unset]) rfl ?_
          show Go p e below t T121 m 202 #[iv i0, iv i1, iv i2, iv i3, iv i4, rv b38, iv (2 : Int32), iv (nI0 i4), iv (nI1 i4), iv (nI2 i4), rv b106, .val (.long (((1 : Int64) * ((own_sel (nS i0) (nS i1) (nS i2) (nS i3) (nI0 i4)).toInt64)) * ((own_sel (nS i0) (nS i1) (nS i2) (nS i3) (nI1 i4)).toInt64))), .second, .val (.double (f_ent2  (nI0 i4) (nI1 i4) (nS i0) (nS i1) (nS i2) (nS i3))), .second, .unset] []
          refine XS.dload X121.here hx rfl (hb hby at_202) rfl ?_
          show Go p e below t T121 m 204 #[iv i0, iv i1, iv i2, iv i3, iv i4, rv b38, iv (2 : Int32), iv (nI0 i4), iv (nI1 i4), iv (nI2 i4), rv b106, .val (.long (((1 : Int64) * ((own_sel (nS i0) (nS i1) (nS i2) (nS i3) (nI0 i4)).toInt64)) * ((own_sel (nS i0) (nS i1) (nS i2) (nS i3) (nI1 i4)).toInt64))), .second, .val (.double (f_ent2  (nI0 i4) (nI1 i4) (nS i0) (nS i1) (nS i2) (nS i3))), .second, .unset] [(.double (f_ent2  (nI0 i4) (nI1 i4) (nS i0) (nS i1) (nS i2) (nS i3)))]
          refine XS.lload X121.here hx rfl (hb hby at_204) rfl ?_
          show Go p e below t T121 m 206 #[iv i0, iv i1, iv i2, iv i3, iv i4, rv b38, iv (2 : Int32), iv (nI0 i4), iv (nI1 i4), iv (nI2 i4), rv b106, .val (.long (((1 : Int64) * ((own_sel (nS i0) (nS i1) (nS i2) (nS i3) (nI0 i4)).toInt64)) * ((own_sel (nS i0) (nS i1) (nS i2) (nS i3) (nI1 i4)).toInt64))), .second, .val (.double (f_ent2  (nI0 i4) (nI1 i4) (nS i0) (nS i1) (nS i2) (nS i3))), .second, .unset] [(.long (((1 : Int64) * ((own_sel (nS i0) (nS i1) (nS i2) (nS i3) (nI0 i4)).toInt64)) * ((own_sel (nS i0) (nS i1) (nS i2) (nS i3) (nI1 i4)).toInt64))), (.double (f_ent2  (nI0 i4) (nI1 i4) (nS i0) (nS i1) (nS i2) (nS i3)))]
          refine XS.l2dS X121.here hx rfl (hb hby at_206) rfl rfl ?_
          show Go p e below t T121 m 207 #[iv i0, iv i1, iv i2, iv i3, iv i4, rv b38, iv (2 : Int32), iv (nI0 i4), iv (nI1 i4), iv (nI2 i4), rv b106, .val (.long (((1 : Int64) * ((own_sel (nS i0) (nS i1) (nS i2) (nS i3) (nI0 i4)).toInt64)) * ((own_sel (nS i0) (nS i1) (nS i2) (nS i3) (nI1 i4)).toInt64))), .second, .val (.double (f_ent2  (nI0 i4) (nI1 i4) (nS i0) (nS i1) (nS i2) (nS i3))), .second, .unset] [(.double (FP.l2d (((1 : Int64) * ((own_sel (nS i0) (nS i1) (nS i2) (nS i3) (nI0 i4)).toInt64)) * ((own_sel (nS i0) (nS i1) (nS i2) (nS i3) (nI1 i4)).toInt64)))), (.double (f_ent2  (nI0 i4) (nI1 i4) (nS i0) (nS i1) (nS i2) (nS i3)))]
          refine XS.dcmpS X121.here hx rfl (hb hby at_207) rfl rfl ?_
          show Go p e below t T121 m 208 #[iv i0, iv i1, iv i2, iv i3, iv i4, rv b38, iv (2 : Int32), iv (nI0 i4), iv (nI1 i4), iv (nI2 i4), rv b106, .val (.long (((1 : Int64) * ((own_sel (nS i0) (nS i1) (nS i2) (nS i3) (nI0 i4)).toInt64)) * ((own_sel (nS i0) (nS i1) (nS i2) (nS i3) (nI1 i4)).toInt64))), .second, .val (.double (f_ent2  (nI0 i4) (nI1 i4) (nS i0) (nS i1) (nS i2) (nS i3))), .second, .unset] [(.int (cmpValue (FP.dcmp (f_ent2  (nI0 i4) (nI1 i4) (nS i0) (nS i1) (nS i2) (nS i3)) (FP.l2d (((1 : Int64) * ((own_sel (nS i0) (nS i1) (nS i2) (nS i3) (nI0 i4)).toInt64)) * ((own_sel (nS i0) (nS i1) (nS i2) (nS i3) (nI1 i4)).toInt64)))) .l))]
          refine XS.ifNo X121.here hx rfl (hb hby at_208) rfl (dc_l_ne_f own_eq2) ?_
          show Go p e below t T121 m 211 #[iv i0, iv i1, iv i2, iv i3, iv i4, rv b38, iv (2 : Int32), iv (nI0 i4), iv (nI1 i4), iv (nI2 i4), rv b106, .val (.long (((1 : Int64) * ((own_sel (nS i0) (nS i1) (nS i2) (nS i3) (nI0 i4)).toInt64)) * ((own_sel (nS i0) (nS i1) (nS i2) (nS i3) (nI1 i4)).toInt64))), .second, .val (.double (f_ent2  (nI0 i4) (nI1 i4) (nS i0) (nS i1) (nS i2) (nS i3))), .second, .unset] []
          refine XT.iconstV X121.here hx rfl (1 : Int32) (hb hby at_211) (by decide) ?_
          show Go p e below t T121 m 212 #[iv i0, iv i1, iv i2, iv i3, iv i4, rv b38, iv (2 : Int32), iv (nI0 i4), iv (nI1 i4), iv (nI2 i4), rv b106, .val (.long (((1 : Int64) * ((own_sel (nS i0) (nS i1) (nS i2) (nS i3) (nI0 i4)).toInt64)) * ((own_sel (nS i0) (nS i1) (nS i2) (nS i3) (nI1 i4)).toInt64))), .second, .val (.double (f_ent2  (nI0 i4) (nI1 i4) (nS i0) (nS i1) (nS i2) (nS i3))), .second, .unset] [(.int (1 : Int32))]
          refine XS.goto X121.here hx rfl (pc0 := 212) (pc' := 216) rfl (hb hby at_212) (by decide) (by decide) ?_
          show Go p e below t T121 m 216 #[iv i0, iv i1, iv i2, iv i3, iv i4, rv b38, iv (2 : Int32), iv (nI0 i4), iv (nI1 i4), iv (nI2 i4), rv b106, .val (.long (((1 : Int64) * ((own_sel (nS i0) (nS i1) (nS i2) (nS i3) (nI0 i4)).toInt64)) * ((own_sel (nS i0) (nS i1) (nS i2) (nS i3) (nI1 i4)).toInt64))), .second, .val (.double (f_ent2  (nI0 i4) (nI1 i4) (nS i0) (nS i1) (nS i2) (nS i3))), .second, .unset] [(.int (1 : Int32))]
          refine XS.istore X121.here hx rfl (hb hby at_216) rfl (l' := #[iv i0, iv i1, iv i2, iv i3, iv i4, rv b38, iv (2 : Int32), iv (nI0 i4), iv (nI1 i4), iv (nI2 i4), rv b106, .val (.long (((1 : Int64) * ((own_sel (nS i0) (nS i1) (nS i2) (nS i3) (nI0 i4)).toInt64)) * ((own_sel (nS i0) (nS i1) (nS i2) (nS i3) (nI1 i4)).toInt64))), .second, .val (.double (f_ent2  (nI0 i4) (nI1 i4) (nS i0) (nS i1) (nS i2) (nS i3))), .second, iv (1 : Int32)]) rfl ?_
          show Go p e below t T121 m 218 #[iv i0, iv i1, iv i2, iv i3, iv i4, rv b38, iv (2 : Int32), iv (nI0 i4), iv (nI1 i4), iv (nI2 i4), rv b106, .val (.long (((1 : Int64) * ((own_sel (nS i0) (nS i1) (nS i2) (nS i3) (nI0 i4)).toInt64)) * ((own_sel (nS i0) (nS i1) (nS i2) (nS i3) (nI1 i4)).toInt64))), .second, .val (.double (f_ent2  (nI0 i4) (nI1 i4) (nS i0) (nS i1) (nS i2) (nS i3))), .second, iv (1 : Int32)] []
          refine XS.iload X121.here hx rfl (hb hby at_218) rfl ?_
          show Go p e below t T121 m 220 #[iv i0, iv i1, iv i2, iv i3, iv i4, rv b38, iv (2 : Int32), iv (nI0 i4), iv (nI1 i4), iv (nI2 i4), rv b106, .val (.long (((1 : Int64) * ((own_sel (nS i0) (nS i1) (nS i2) (nS i3) (nI0 i4)).toInt64)) * ((own_sel (nS i0) (nS i1) (nS i2) (nS i3) (nI1 i4)).toInt64))), .second, .val (.double (f_ent2  (nI0 i4) (nI1 i4) (nS i0) (nS i1) (nS i2) (nS i3))), .second, iv (1 : Int32)] [(.int (1 : Int32))]
          refine XS.ifNo X121.here hx rfl (hb hby at_220) rfl (XT.i0_eq_f (by decide)) ?_
          show Go p e below t T121 m 223 #[iv i0, iv i1, iv i2, iv i3, iv i4, rv b38, iv (2 : Int32), iv (nI0 i4), iv (nI1 i4), iv (nI2 i4), rv b106, .val (.long (((1 : Int64) * ((own_sel (nS i0) (nS i1) (nS i2) (nS i3) (nI0 i4)).toInt64)) * ((own_sel (nS i0) (nS i1) (nS i2) (nS i3) (nI1 i4)).toInt64))), .second, .val (.double (f_ent2  (nI0 i4) (nI1 i4) (nS i0) (nS i1) (nS i2) (nS i3))), .second, iv (1 : Int32)] []
          refine XS.aload X121.here hx rfl (hb hby at_223) rfl rfl ?_
          show Go p e below t T121 m 225 #[iv i0, iv i1, iv i2, iv i3, iv i4, rv b38, iv (2 : Int32), iv (nI0 i4), iv (nI1 i4), iv (nI2 i4), rv b106, .val (.long (((1 : Int64) * ((own_sel (nS i0) (nS i1) (nS i2) (nS i3) (nI0 i4)).toInt64)) * ((own_sel (nS i0) (nS i1) (nS i2) (nS i3) (nI1 i4)).toInt64))), .second, .val (.double (f_ent2  (nI0 i4) (nI1 i4) (nS i0) (nS i1) (nS i2) (nS i3))), .second, iv (1 : Int32)] [(.ref b106)]
          exact k)
        obtain ⟨cl124, Ar124, q124, S124, M124, H124, G124⟩ := id V114
        have g125 : Goes p e below S0 (T121.setTop (mkF m 251 #[iv i0, iv i1, iv i2, iv i3, iv i4, rv b38, iv (2 : Int32), iv (nI0 i4), iv (nI1 i4), iv (nI2 i4), rv b106, .val (.long (((1 : Int64) * ((own_sel (nS i0) (nS i1) (nS i2) (nS i3) (nI0 i4)).toInt64)) * ((own_sel (nS i0) (nS i1) (nS i2) (nS i3) (nI1 i4)).toInt64))), .second, .val (.double (f_ent2  (nI0 i4) (nI1 i4) (nS i0) (nS i1) (nS i2) (nS i3))), .second, iv (1 : Int32)] [(.int (0 : Int32)), (.ref b106)])) := fun t k => g123 t (by
          refine X121.arraylength hx (by rw [e121]; exact Ar124.1) (State.isArrayOf_alike hZ.alike Ar124.2.1) (g := (mkF m 225 #[iv i0, iv i1, iv i2, iv i3, iv i4, rv b38, iv (2 : Int32), iv (nI0 i4), iv (nI1 i4), iv (nI2 i4), rv b106, .val (.long (((1 : Int64) * ((own_sel (nS i0) (nS i1) (nS i2) (nS i3) (nI0 i4)).toInt64)) * ((own_sel (nS i0) (nS i1) (nS i2) (nS i3) (nI1 i4)).toInt64))), .second, .val (.double (f_ent2  (nI0 i4) (nI1 i4) (nS i0) (nS i1) (nS i2) (nS i3))), .second, iv (1 : Int32)] [(.ref b106)])) rfl rfl (hb hby at_225) _ ?_
          rw [len_of S124 M124]
          show Go p e below t T121 m 226 #[iv i0, iv i1, iv i2, iv i3, iv i4, rv b38, iv (2 : Int32), iv (nI0 i4), iv (nI1 i4), iv (nI2 i4), rv b106, .val (.long (((1 : Int64) * ((own_sel (nS i0) (nS i1) (nS i2) (nS i3) (nI0 i4)).toInt64)) * ((own_sel (nS i0) (nS i1) (nS i2) (nS i3) (nI1 i4)).toInt64))), .second, .val (.double (f_ent2  (nI0 i4) (nI1 i4) (nS i0) (nS i1) (nS i2) (nS i3))), .second, iv (1 : Int32)] [(.int (2 : Int32))]
          refine XS.iload X121.here hx rfl (hb hby at_226) rfl ?_
          show Go p e below t T121 m 228 #[iv i0, iv i1, iv i2, iv i3, iv i4, rv b38, iv (2 : Int32), iv (nI0 i4), iv (nI1 i4), iv (nI2 i4), rv b106, .val (.long (((1 : Int64) * ((own_sel (nS i0) (nS i1) (nS i2) (nS i3) (nI0 i4)).toInt64)) * ((own_sel (nS i0) (nS i1) (nS i2) (nS i3) (nI1 i4)).toInt64))), .second, .val (.double (f_ent2  (nI0 i4) (nI1 i4) (nS i0) (nS i1) (nS i2) (nS i3))), .second, iv (1 : Int32)] [(.int (2 : Int32)), (.int (2 : Int32))]
          refine XS.icmpNo X121.here hx rfl (hb hby at_228) rfl (XT.ii_ne_f (by decide)) ?_
          show Go p e below t T121 m 231 #[iv i0, iv i1, iv i2, iv i3, iv i4, rv b38, iv (2 : Int32), iv (nI0 i4), iv (nI1 i4), iv (nI2 i4), rv b106, .val (.long (((1 : Int64) * ((own_sel (nS i0) (nS i1) (nS i2) (nS i3) (nI0 i4)).toInt64)) * ((own_sel (nS i0) (nS i1) (nS i2) (nS i3) (nI1 i4)).toInt64))), .second, .val (.double (f_ent2  (nI0 i4) (nI1 i4) (nS i0) (nS i1) (nS i2) (nS i3))), .second, iv (1 : Int32)] []
          refine XT.iconstV X121.here hx rfl (1 : Int32) (hb hby at_231) (by decide) ?_
          show Go p e below t T121 m 232 #[iv i0, iv i1, iv i2, iv i3, iv i4, rv b38, iv (2 : Int32), iv (nI0 i4), iv (nI1 i4), iv (nI2 i4), rv b106, .val (.long (((1 : Int64) * ((own_sel (nS i0) (nS i1) (nS i2) (nS i3) (nI0 i4)).toInt64)) * ((own_sel (nS i0) (nS i1) (nS i2) (nS i3) (nI1 i4)).toInt64))), .second, .val (.double (f_ent2  (nI0 i4) (nI1 i4) (nS i0) (nS i1) (nS i2) (nS i3))), .second, iv (1 : Int32)] [(.int (1 : Int32))]
          refine XS.goto X121.here hx rfl (pc0 := 232) (pc' := 236) rfl (hb hby at_232) (by decide) (by decide) ?_
          show Go p e below t T121 m 236 #[iv i0, iv i1, iv i2, iv i3, iv i4, rv b38, iv (2 : Int32), iv (nI0 i4), iv (nI1 i4), iv (nI2 i4), rv b106, .val (.long (((1 : Int64) * ((own_sel (nS i0) (nS i1) (nS i2) (nS i3) (nI0 i4)).toInt64)) * ((own_sel (nS i0) (nS i1) (nS i2) (nS i3) (nI1 i4)).toInt64))), .second, .val (.double (f_ent2  (nI0 i4) (nI1 i4) (nS i0) (nS i1) (nS i2) (nS i3))), .second, iv (1 : Int32)] [(.int (1 : Int32))]
          refine XS.istore X121.here hx rfl (hb hby at_236) rfl (l' := #[iv i0, iv i1, iv i2, iv i3, iv i4, rv b38, iv (2 : Int32), iv (nI0 i4), iv (nI1 i4), iv (nI2 i4), rv b106, .val (.long (((1 : Int64) * ((own_sel (nS i0) (nS i1) (nS i2) (nS i3) (nI0 i4)).toInt64)) * ((own_sel (nS i0) (nS i1) (nS i2) (nS i3) (nI1 i4)).toInt64))), .second, .val (.double (f_ent2  (nI0 i4) (nI1 i4) (nS i0) (nS i1) (nS i2) (nS i3))), .second, iv (1 : Int32)]) rfl ?_
          show Go p e below t T121 m 238 #[iv i0, iv i1, iv i2, iv i3, iv i4, rv b38, iv (2 : Int32), iv (nI0 i4), iv (nI1 i4), iv (nI2 i4), rv b106, .val (.long (((1 : Int64) * ((own_sel (nS i0) (nS i1) (nS i2) (nS i3) (nI0 i4)).toInt64)) * ((own_sel (nS i0) (nS i1) (nS i2) (nS i3) (nI1 i4)).toInt64))), .second, .val (.double (f_ent2  (nI0 i4) (nI1 i4) (nS i0) (nS i1) (nS i2) (nS i3))), .second, iv (1 : Int32)] []
          refine XS.iload X121.here hx rfl (hb hby at_238) rfl ?_
          show Go p e below t T121 m 240 #[iv i0, iv i1, iv i2, iv i3, iv i4, rv b38, iv (2 : Int32), iv (nI0 i4), iv (nI1 i4), iv (nI2 i4), rv b106, .val (.long (((1 : Int64) * ((own_sel (nS i0) (nS i1) (nS i2) (nS i3) (nI0 i4)).toInt64)) * ((own_sel (nS i0) (nS i1) (nS i2) (nS i3) (nI1 i4)).toInt64))), .second, .val (.double (f_ent2  (nI0 i4) (nI1 i4) (nS i0) (nS i1) (nS i2) (nS i3))), .second, iv (1 : Int32)] [(.int (2 : Int32))]
          refine XS.ifNo X121.here hx rfl (hb hby at_240) rfl (XT.i0_le_f (by decide)) ?_
          show Go p e below t T121 m 243 #[iv i0, iv i1, iv i2, iv i3, iv i4, rv b38, iv (2 : Int32), iv (nI0 i4), iv (nI1 i4), iv (nI2 i4), rv b106, .val (.long (((1 : Int64) * ((own_sel (nS i0) (nS i1) (nS i2) (nS i3) (nI0 i4)).toInt64)) * ((own_sel (nS i0) (nS i1) (nS i2) (nS i3) (nI1 i4)).toInt64))), .second, .val (.double (f_ent2  (nI0 i4) (nI1 i4) (nS i0) (nS i1) (nS i2) (nS i3))), .second, iv (1 : Int32)] []
          refine XS.iload X121.here hx rfl (hb hby at_243) rfl ?_
          show Go p e below t T121 m 245 #[iv i0, iv i1, iv i2, iv i3, iv i4, rv b38, iv (2 : Int32), iv (nI0 i4), iv (nI1 i4), iv (nI2 i4), rv b106, .val (.long (((1 : Int64) * ((own_sel (nS i0) (nS i1) (nS i2) (nS i3) (nI0 i4)).toInt64)) * ((own_sel (nS i0) (nS i1) (nS i2) (nS i3) (nI1 i4)).toInt64))), .second, .val (.double (f_ent2  (nI0 i4) (nI1 i4) (nS i0) (nS i1) (nS i2) (nS i3))), .second, iv (1 : Int32)] [(.int (1 : Int32))]
          refine XS.ifNo X121.here hx rfl (hb hby at_245) rfl (XT.i0_eq_f (by decide)) ?_
          show Go p e below t T121 m 248 #[iv i0, iv i1, iv i2, iv i3, iv i4, rv b38, iv (2 : Int32), iv (nI0 i4), iv (nI1 i4), iv (nI2 i4), rv b106, .val (.long (((1 : Int64) * ((own_sel (nS i0) (nS i1) (nS i2) (nS i3) (nI0 i4)).toInt64)) * ((own_sel (nS i0) (nS i1) (nS i2) (nS i3) (nI1 i4)).toInt64))), .second, .val (.double (f_ent2  (nI0 i4) (nI1 i4) (nS i0) (nS i1) (nS i2) (nS i3))), .second, iv (1 : Int32)] []
          refine XS.aload X121.here hx rfl (hb hby at_248) rfl rfl ?_
          show Go p e below t T121 m 250 #[iv i0, iv i1, iv i2, iv i3, iv i4, rv b38, iv (2 : Int32), iv (nI0 i4), iv (nI1 i4), iv (nI2 i4), rv b106, .val (.long (((1 : Int64) * ((own_sel (nS i0) (nS i1) (nS i2) (nS i3) (nI0 i4)).toInt64)) * ((own_sel (nS i0) (nS i1) (nS i2) (nS i3) (nI1 i4)).toInt64))), .second, .val (.double (f_ent2  (nI0 i4) (nI1 i4) (nS i0) (nS i1) (nS i2) (nS i3))), .second, iv (1 : Int32)] [(.ref b106)]
          refine XT.iconstV X121.here hx rfl (0 : Int32) (hb hby at_250) (by decide) ?_
          show Go p e below t T121 m 251 #[iv i0, iv i1, iv i2, iv i3, iv i4, rv b38, iv (2 : Int32), iv (nI0 i4), iv (nI1 i4), iv (nI2 i4), rv b106, .val (.long (((1 : Int64) * ((own_sel (nS i0) (nS i1) (nS i2) (nS i3) (nI0 i4)).toInt64)) * ((own_sel (nS i0) (nS i1) (nS i2) (nS i3) (nI1 i4)).toInt64))), .second, .val (.double (f_ent2  (nI0 i4) (nI1 i4) (nS i0) (nS i1) (nS i2) (nS i3))), .second, iv (1 : Int32)] [(.int (0 : Int32)), (.ref b106)]
          exact k)
        obtain ⟨cl126, Ar126, q126, S126, M126, H126, G126⟩ := id V114
        have g127 : Goes p e below S0 (T121.setTop (mkF m 278 #[iv i0, iv i1, iv i2, iv i3, iv i4, rv b38, iv (2 : Int32), iv (nI0 i4), iv (nI1 i4), iv (nI2 i4), rv b106, .val (.long (((1 : Int64) * ((own_sel (nS i0) (nS i1) (nS i2) (nS i3) (nI0 i4)).toInt64)) * ((own_sel (nS i0) (nS i1) (nS i2) (nS i3) (nI1 i4)).toInt64))), .second, .val (.double (f_ent2  (nI0 i4) (nI1 i4) (nS i0) (nS i1) (nS i2) (nS i3))), .second, iv (1 : Int32)] [(.int (1 : Int32)), (.ref b106)])) := fun t k => g125 t (by
          refine X121.iaload hx (j := (0 : Int32)) (v := (.int (nI0 i4))) (by rw [e121]; exact Ar126.1) (State.isArrayOf_alike hZ.alike Ar126.2.1) Ar126.2.2 (inb_of S126 ⟨by decide, by decide⟩) (H126.at (inb_of S126 ⟨by decide, by decide⟩) rfl) (g := (mkF m 251 #[iv i0, iv i1, iv i2, iv i3, iv i4, rv b38, iv (2 : Int32), iv (nI0 i4), iv (nI1 i4), iv (nI2 i4), rv b106, .val (.long (((1 : Int64) * ((own_sel (nS i0) (nS i1) (nS i2) (nS i3) (nI0 i4)).toInt64)) * ((own_sel (nS i0) (nS i1) (nS i2) (nS i3) (nI1 i4)).toInt64))), .second, .val (.double (f_ent2  (nI0 i4) (nI1 i4) (nS i0) (nS i1) (nS i2) (nS i3))), .second, iv (1 : Int32)] [(.int (0 : Int32)), (.ref b106)])) rfl rfl (hb hby at_251) _ ?_
          show Go p e below t T121 m 252 #[iv i0, iv i1, iv i2, iv i3, iv i4, rv b38, iv (2 : Int32), iv (nI0 i4), iv (nI1 i4), iv (nI2 i4), rv b106, .val (.long (((1 : Int64) * ((own_sel (nS i0) (nS i1) (nS i2) (nS i3) (nI0 i4)).toInt64)) * ((own_sel (nS i0) (nS i1) (nS i2) (nS i3) (nI1 i4)).toInt64))), .second, .val (.double (f_ent2  (nI0 i4) (nI1 i4) (nS i0) (nS i1) (nS i2) (nS i3))), .second, iv (1 : Int32)] [(.int (nI0 i4))]
          refine XS.iload X121.here hx rfl (hb hby at_252) rfl ?_
          show Go p e below t T121 m 254 #[iv i0, iv i1, iv i2, iv i3, iv i4, rv b38, iv (2 : Int32), iv (nI0 i4), iv (nI1 i4), iv (nI2 i4), rv b106, .val (.long (((1 : Int64) * ((own_sel (nS i0) (nS i1) (nS i2) (nS i3) (nI0 i4)).toInt64)) * ((own_sel (nS i0) (nS i1) (nS i2) (nS i3) (nI1 i4)).toInt64))), .second, .val (.double (f_ent2  (nI0 i4) (nI1 i4) (nS i0) (nS i1) (nS i2) (nS i3))), .second, iv (1 : Int32)] [(.int (nI0 i4)), (.int (nI0 i4))]
          refine XS.icmpNo X121.here hx rfl (hb hby at_254) rfl (XT.ii_ne_f rfl) ?_
          show Go p e below t T121 m 257 #[iv i0, iv i1, iv i2, iv i3, iv i4, rv b38, iv (2 : Int32), iv (nI0 i4), iv (nI1 i4), iv (nI2 i4), rv b106, .val (.long (((1 : Int64) * ((own_sel (nS i0) (nS i1) (nS i2) (nS i3) (nI0 i4)).toInt64)) * ((own_sel (nS i0) (nS i1) (nS i2) (nS i3) (nI1 i4)).toInt64))), .second, .val (.double (f_ent2  (nI0 i4) (nI1 i4) (nS i0) (nS i1) (nS i2) (nS i3))), .second, iv (1 : Int32)] []
          refine XT.iconstV X121.here hx rfl (1 : Int32) (hb hby at_257) (by decide) ?_
          show Go p e below t T121 m 258 #[iv i0, iv i1, iv i2, iv i3, iv i4, rv b38, iv (2 : Int32), iv (nI0 i4), iv (nI1 i4), iv (nI2 i4), rv b106, .val (.long (((1 : Int64) * ((own_sel (nS i0) (nS i1) (nS i2) (nS i3) (nI0 i4)).toInt64)) * ((own_sel (nS i0) (nS i1) (nS i2) (nS i3) (nI1 i4)).toInt64))), .second, .val (.double (f_ent2  (nI0 i4) (nI1 i4) (nS i0) (nS i1) (nS i2) (nS i3))), .second, iv (1 : Int32)] [(.int (1 : Int32))]
          refine XS.goto X121.here hx rfl (pc0 := 258) (pc' := 262) rfl (hb hby at_258) (by decide) (by decide) ?_
          show Go p e below t T121 m 262 #[iv i0, iv i1, iv i2, iv i3, iv i4, rv b38, iv (2 : Int32), iv (nI0 i4), iv (nI1 i4), iv (nI2 i4), rv b106, .val (.long (((1 : Int64) * ((own_sel (nS i0) (nS i1) (nS i2) (nS i3) (nI0 i4)).toInt64)) * ((own_sel (nS i0) (nS i1) (nS i2) (nS i3) (nI1 i4)).toInt64))), .second, .val (.double (f_ent2  (nI0 i4) (nI1 i4) (nS i0) (nS i1) (nS i2) (nS i3))), .second, iv (1 : Int32)] [(.int (1 : Int32))]
          refine XS.istore X121.here hx rfl (hb hby at_262) rfl (l' := #[iv i0, iv i1, iv i2, iv i3, iv i4, rv b38, iv (2 : Int32), iv (nI0 i4), iv (nI1 i4), iv (nI2 i4), rv b106, .val (.long (((1 : Int64) * ((own_sel (nS i0) (nS i1) (nS i2) (nS i3) (nI0 i4)).toInt64)) * ((own_sel (nS i0) (nS i1) (nS i2) (nS i3) (nI1 i4)).toInt64))), .second, .val (.double (f_ent2  (nI0 i4) (nI1 i4) (nS i0) (nS i1) (nS i2) (nS i3))), .second, iv (1 : Int32)]) rfl ?_
          show Go p e below t T121 m 264 #[iv i0, iv i1, iv i2, iv i3, iv i4, rv b38, iv (2 : Int32), iv (nI0 i4), iv (nI1 i4), iv (nI2 i4), rv b106, .val (.long (((1 : Int64) * ((own_sel (nS i0) (nS i1) (nS i2) (nS i3) (nI0 i4)).toInt64)) * ((own_sel (nS i0) (nS i1) (nS i2) (nS i3) (nI1 i4)).toInt64))), .second, .val (.double (f_ent2  (nI0 i4) (nI1 i4) (nS i0) (nS i1) (nS i2) (nS i3))), .second, iv (1 : Int32)] []
          refine XS.iload X121.here hx rfl (hb hby at_264) rfl ?_
          show Go p e below t T121 m 266 #[iv i0, iv i1, iv i2, iv i3, iv i4, rv b38, iv (2 : Int32), iv (nI0 i4), iv (nI1 i4), iv (nI2 i4), rv b106, .val (.long (((1 : Int64) * ((own_sel (nS i0) (nS i1) (nS i2) (nS i3) (nI0 i4)).toInt64)) * ((own_sel (nS i0) (nS i1) (nS i2) (nS i3) (nI1 i4)).toInt64))), .second, .val (.double (f_ent2  (nI0 i4) (nI1 i4) (nS i0) (nS i1) (nS i2) (nS i3))), .second, iv (1 : Int32)] [(.int (2 : Int32))]
          refine XT.iconstV X121.here hx rfl (1 : Int32) (hb hby at_266) (by decide) ?_
          show Go p e below t T121 m 267 #[iv i0, iv i1, iv i2, iv i3, iv i4, rv b38, iv (2 : Int32), iv (nI0 i4), iv (nI1 i4), iv (nI2 i4), rv b106, .val (.long (((1 : Int64) * ((own_sel (nS i0) (nS i1) (nS i2) (nS i3) (nI0 i4)).toInt64)) * ((own_sel (nS i0) (nS i1) (nS i2) (nS i3) (nI1 i4)).toInt64))), .second, .val (.double (f_ent2  (nI0 i4) (nI1 i4) (nS i0) (nS i1) (nS i2) (nS i3))), .second, iv (1 : Int32)] [(.int (1 : Int32)), (.int (2 : Int32))]
          refine XS.icmpNo X121.here hx rfl (hb hby at_267) rfl (XT.ii_le_f (by decide)) ?_
          show Go p e below t T121 m 270 #[iv i0, iv i1, iv i2, iv i3, iv i4, rv b38, iv (2 : Int32), iv (nI0 i4), iv (nI1 i4), iv (nI2 i4), rv b106, .val (.long (((1 : Int64) * ((own_sel (nS i0) (nS i1) (nS i2) (nS i3) (nI0 i4)).toInt64)) * ((own_sel (nS i0) (nS i1) (nS i2) (nS i3) (nI1 i4)).toInt64))), .second, .val (.double (f_ent2  (nI0 i4) (nI1 i4) (nS i0) (nS i1) (nS i2) (nS i3))), .second, iv (1 : Int32)] []
          refine XS.iload X121.here hx rfl (hb hby at_270) rfl ?_
          show Go p e below t T121 m 272 #[iv i0, iv i1, iv i2, iv i3, iv i4, rv b38, iv (2 : Int32), iv (nI0 i4), iv (nI1 i4), iv (nI2 i4), rv b106, .val (.long (((1 : Int64) * ((own_sel (nS i0) (nS i1) (nS i2) (nS i3) (nI0 i4)).toInt64)) * ((own_sel (nS i0) (nS i1) (nS i2) (nS i3) (nI1 i4)).toInt64))), .second, .val (.double (f_ent2  (nI0 i4) (nI1 i4) (nS i0) (nS i1) (nS i2) (nS i3))), .second, iv (1 : Int32)] [(.int (1 : Int32))]
          refine XS.ifNo X121.here hx rfl (hb hby at_272) rfl (XT.i0_eq_f (by decide)) ?_
          show Go p e below t T121 m 275 #[iv i0, iv i1, iv i2, iv i3, iv i4, rv b38, iv (2 : Int32), iv (nI0 i4), iv (nI1 i4), iv (nI2 i4), rv b106, .val (.long (((1 : Int64) * ((own_sel (nS i0) (nS i1) (nS i2) (nS i3) (nI0 i4)).toInt64)) * ((own_sel (nS i0) (nS i1) (nS i2) (nS i3) (nI1 i4)).toInt64))), .second, .val (.double (f_ent2  (nI0 i4) (nI1 i4) (nS i0) (nS i1) (nS i2) (nS i3))), .second, iv (1 : Int32)] []
          refine XS.aload X121.here hx rfl (hb hby at_275) rfl rfl ?_
          show Go p e below t T121 m 277 #[iv i0, iv i1, iv i2, iv i3, iv i4, rv b38, iv (2 : Int32), iv (nI0 i4), iv (nI1 i4), iv (nI2 i4), rv b106, .val (.long (((1 : Int64) * ((own_sel (nS i0) (nS i1) (nS i2) (nS i3) (nI0 i4)).toInt64)) * ((own_sel (nS i0) (nS i1) (nS i2) (nS i3) (nI1 i4)).toInt64))), .second, .val (.double (f_ent2  (nI0 i4) (nI1 i4) (nS i0) (nS i1) (nS i2) (nS i3))), .second, iv (1 : Int32)] [(.ref b106)]
          refine XT.iconstV X121.here hx rfl (1 : Int32) (hb hby at_277) (by decide) ?_
          show Go p e below t T121 m 278 #[iv i0, iv i1, iv i2, iv i3, iv i4, rv b38, iv (2 : Int32), iv (nI0 i4), iv (nI1 i4), iv (nI2 i4), rv b106, .val (.long (((1 : Int64) * ((own_sel (nS i0) (nS i1) (nS i2) (nS i3) (nI0 i4)).toInt64)) * ((own_sel (nS i0) (nS i1) (nS i2) (nS i3) (nI1 i4)).toInt64))), .second, .val (.double (f_ent2  (nI0 i4) (nI1 i4) (nS i0) (nS i1) (nS i2) (nS i3))), .second, iv (1 : Int32)] [(.int (1 : Int32)), (.ref b106)]
          exact k)
        obtain ⟨cl128, Ar128, q128, S128, M128, H128, G128⟩ := id V114
        have g129 : Goes p e below S0 (T121.setTop (mkF m 326 #[iv i0, iv i1, iv i2, iv i3, iv i4, rv b38, iv (2 : Int32), iv (nI0 i4), iv (nI1 i4), iv (nI2 i4), rv b106, .val (.long (((1 : Int64) * ((own_sel (nS i0) (nS i1) (nS i2) (nS i3) (nI0 i4)).toInt64)) * ((own_sel (nS i0) (nS i1) (nS i2) (nS i3) (nI1 i4)).toInt64))), .second, .val (.double (f_ent2  (nI0 i4) (nI1 i4) (nS i0) (nS i1) (nS i2) (nS i3))), .second, iv (1 : Int32)] [(.int (0 : Int32)), (.ref b38)])) := fun t k => g127 t (by
          refine X121.iaload hx (j := (1 : Int32)) (v := (.int (nI1 i4))) (by rw [e121]; exact Ar128.1) (State.isArrayOf_alike hZ.alike Ar128.2.1) Ar128.2.2 (inb_of S128 ⟨by decide, by decide⟩) (H128.at (inb_of S128 ⟨by decide, by decide⟩) rfl) (g := (mkF m 278 #[iv i0, iv i1, iv i2, iv i3, iv i4, rv b38, iv (2 : Int32), iv (nI0 i4), iv (nI1 i4), iv (nI2 i4), rv b106, .val (.long (((1 : Int64) * ((own_sel (nS i0) (nS i1) (nS i2) (nS i3) (nI0 i4)).toInt64)) * ((own_sel (nS i0) (nS i1) (nS i2) (nS i3) (nI1 i4)).toInt64))), .second, .val (.double (f_ent2  (nI0 i4) (nI1 i4) (nS i0) (nS i1) (nS i2) (nS i3))), .second, iv (1 : Int32)] [(.int (1 : Int32)), (.ref b106)])) rfl rfl (hb hby at_278) _ ?_
          show Go p e below t T121 m 279 #[iv i0, iv i1, iv i2, iv i3, iv i4, rv b38, iv (2 : Int32), iv (nI0 i4), iv (nI1 i4), iv (nI2 i4), rv b106, .val (.long (((1 : Int64) * ((own_sel (nS i0) (nS i1) (nS i2) (nS i3) (nI0 i4)).toInt64)) * ((own_sel (nS i0) (nS i1) (nS i2) (nS i3) (nI1 i4)).toInt64))), .second, .val (.double (f_ent2  (nI0 i4) (nI1 i4) (nS i0) (nS i1) (nS i2) (nS i3))), .second, iv (1 : Int32)] [(.int (nI1 i4))]
          refine XS.iload X121.here hx rfl (hb hby at_279) rfl ?_
          show Go p e below t T121 m 281 #[iv i0, iv i1, iv i2, iv i3, iv i4, rv b38, iv (2 : Int32), iv (nI0 i4), iv (nI1 i4), iv (nI2 i4), rv b106, .val (.long (((1 : Int64) * ((own_sel (nS i0) (nS i1) (nS i2) (nS i3) (nI0 i4)).toInt64)) * ((own_sel (nS i0) (nS i1) (nS i2) (nS i3) (nI1 i4)).toInt64))), .second, .val (.double (f_ent2  (nI0 i4) (nI1 i4) (nS i0) (nS i1) (nS i2) (nS i3))), .second, iv (1 : Int32)] [(.int (nI1 i4)), (.int (nI1 i4))]
          refine XS.icmpNo X121.here hx rfl (hb hby at_281) rfl (XT.ii_ne_f rfl) ?_
          show Go p e below t T121 m 284 #[iv i0, iv i1, iv i2, iv i3, iv i4, rv b38, iv (2 : Int32), iv (nI0 i4), iv (nI1 i4), iv (nI2 i4), rv b106, .val (.long (((1 : Int64) * ((own_sel (nS i0) (nS i1) (nS i2) (nS i3) (nI0 i4)).toInt64)) * ((own_sel (nS i0) (nS i1) (nS i2) (nS i3) (nI1 i4)).toInt64))), .second, .val (.double (f_ent2  (nI0 i4) (nI1 i4) (nS i0) (nS i1) (nS i2) (nS i3))), .second, iv (1 : Int32)] []
          refine XT.iconstV X121.here hx rfl (1 : Int32) (hb hby at_284) (by decide) ?_
          show Go p e below t T121 m 285 #[iv i0, iv i1, iv i2, iv i3, iv i4, rv b38, iv (2 : Int32), iv (nI0 i4), iv (nI1 i4), iv (nI2 i4), rv b106, .val (.long (((1 : Int64) * ((own_sel (nS i0) (nS i1) (nS i2) (nS i3) (nI0 i4)).toInt64)) * ((own_sel (nS i0) (nS i1) (nS i2) (nS i3) (nI1 i4)).toInt64))), .second, .val (.double (f_ent2  (nI0 i4) (nI1 i4) (nS i0) (nS i1) (nS i2) (nS i3))), .second, iv (1 : Int32)] [(.int (1 : Int32))]
          refine XS.goto X121.here hx rfl (pc0 := 285) (pc' := 289) rfl (hb hby at_285) (by decide) (by decide) ?_
          show Go p e below t T121 m 289 #[iv i0, iv i1, iv i2, iv i3, iv i4, rv b38, iv (2 : Int32), iv (nI0 i4), iv (nI1 i4), iv (nI2 i4), rv b106, .val (.long (((1 : Int64) * ((own_sel (nS i0) (nS i1) (nS i2) (nS i3) (nI0 i4)).toInt64)) * ((own_sel (nS i0) (nS i1) (nS i2) (nS i3) (nI1 i4)).toInt64))), .second, .val (.double (f_ent2  (nI0 i4) (nI1 i4) (nS i0) (nS i1) (nS i2) (nS i3))), .second, iv (1 : Int32)] [(.int (1 : Int32))]
          refine XS.istore X121.here hx rfl (hb hby at_289) rfl (l' := #[iv i0, iv i1, iv i2, iv i3, iv i4, rv b38, iv (2 : Int32), iv (nI0 i4), iv (nI1 i4), iv (nI2 i4), rv b106, .val (.long (((1 : Int64) * ((own_sel (nS i0) (nS i1) (nS i2) (nS i3) (nI0 i4)).toInt64)) * ((own_sel (nS i0) (nS i1) (nS i2) (nS i3) (nI1 i4)).toInt64))), .second, .val (.double (f_ent2  (nI0 i4) (nI1 i4) (nS i0) (nS i1) (nS i2) (nS i3))), .second, iv (1 : Int32)]) rfl ?_
          show Go p e below t T121 m 291 #[iv i0, iv i1, iv i2, iv i3, iv i4, rv b38, iv (2 : Int32), iv (nI0 i4), iv (nI1 i4), iv (nI2 i4), rv b106, .val (.long (((1 : Int64) * ((own_sel (nS i0) (nS i1) (nS i2) (nS i3) (nI0 i4)).toInt64)) * ((own_sel (nS i0) (nS i1) (nS i2) (nS i3) (nI1 i4)).toInt64))), .second, .val (.double (f_ent2  (nI0 i4) (nI1 i4) (nS i0) (nS i1) (nS i2) (nS i3))), .second, iv (1 : Int32)] []
          refine XS.iload X121.here hx rfl (hb hby at_291) rfl ?_
          show Go p e below t T121 m 293 #[iv i0, iv i1, iv i2, iv i3, iv i4, rv b38, iv (2 : Int32), iv (nI0 i4), iv (nI1 i4), iv (nI2 i4), rv b106, .val (.long (((1 : Int64) * ((own_sel (nS i0) (nS i1) (nS i2) (nS i3) (nI0 i4)).toInt64)) * ((own_sel (nS i0) (nS i1) (nS i2) (nS i3) (nI1 i4)).toInt64))), .second, .val (.double (f_ent2  (nI0 i4) (nI1 i4) (nS i0) (nS i1) (nS i2) (nS i3))), .second, iv (1 : Int32)] [(.int (2 : Int32))]
          refine XT.iconstV X121.here hx rfl (2 : Int32) (hb hby at_293) (by decide) ?_
          show Go p e below t T121 m 294 #[iv i0, iv i1, iv i2, iv i3, iv i4, rv b38, iv (2 : Int32), iv (nI0 i4), iv (nI1 i4), iv (nI2 i4), rv b106, .val (.long (((1 : Int64) * ((own_sel (nS i0) (nS i1) (nS i2) (nS i3) (nI0 i4)).toInt64)) * ((own_sel (nS i0) (nS i1) (nS i2) (nS i3) (nI1 i4)).toInt64))), .second, .val (.double (f_ent2  (nI0 i4) (nI1 i4) (nS i0) (nS i1) (nS i2) (nS i3))), .second, iv (1 : Int32)] [(.int (2 : Int32)), (.int (2 : Int32))]
          refine XS.icmpYes X121.here hx rfl (pc0 := 294) (pc' := 318) rfl (hb hby at_294) rfl (XT.ii_le_t (by decide)) (by decide) (by decide) ?_
          show Go p e below t T121 m 318 #[iv i0, iv i1, iv i2, iv i3, iv i4, rv b38, iv (2 : Int32), iv (nI0 i4), iv (nI1 i4), iv (nI2 i4), rv b106, .val (.long (((1 : Int64) * ((own_sel (nS i0) (nS i1) (nS i2) (nS i3) (nI0 i4)).toInt64)) * ((own_sel (nS i0) (nS i1) (nS i2) (nS i3) (nI1 i4)).toInt64))), .second, .val (.double (f_ent2  (nI0 i4) (nI1 i4) (nS i0) (nS i1) (nS i2) (nS i3))), .second, iv (1 : Int32)] []
          refine XS.iload X121.here hx rfl (hb hby at_318) rfl ?_
          show Go p e below t T121 m 320 #[iv i0, iv i1, iv i2, iv i3, iv i4, rv b38, iv (2 : Int32), iv (nI0 i4), iv (nI1 i4), iv (nI2 i4), rv b106, .val (.long (((1 : Int64) * ((own_sel (nS i0) (nS i1) (nS i2) (nS i3) (nI0 i4)).toInt64)) * ((own_sel (nS i0) (nS i1) (nS i2) (nS i3) (nI1 i4)).toInt64))), .second, .val (.double (f_ent2  (nI0 i4) (nI1 i4) (nS i0) (nS i1) (nS i2) (nS i3))), .second, iv (1 : Int32)] [(.int (1 : Int32))]
          refine XS.ifNo X121.here hx rfl (hb hby at_320) rfl (XT.i0_eq_f (by decide)) ?_
          show Go p e below t T121 m 323 #[iv i0, iv i1, iv i2, iv i3, iv i4, rv b38, iv (2 : Int32), iv (nI0 i4), iv (nI1 i4), iv (nI2 i4), rv b106, .val (.long (((1 : Int64) * ((own_sel (nS i0) (nS i1) (nS i2) (nS i3) (nI0 i4)).toInt64)) * ((own_sel (nS i0) (nS i1) (nS i2) (nS i3) (nI1 i4)).toInt64))), .second, .val (.double (f_ent2  (nI0 i4) (nI1 i4) (nS i0) (nS i1) (nS i2) (nS i3))), .second, iv (1 : Int32)] []
          refine XS.aload X121.here hx rfl (hb hby at_323) rfl rfl ?_
          show Go p e below t T121 m 325 #[iv i0, iv i1, iv i2, iv i3, iv i4, rv b38, iv (2 : Int32), iv (nI0 i4), iv (nI1 i4), iv (nI2 i4), rv b106, .val (.long (((1 : Int64) * ((own_sel (nS i0) (nS i1) (nS i2) (nS i3) (nI0 i4)).toInt64)) * ((own_sel (nS i0) (nS i1) (nS i2) (nS i3) (nI1 i4)).toInt64))), .second, .val (.double (f_ent2  (nI0 i4) (nI1 i4) (nS i0) (nS i1) (nS i2) (nS i3))), .second, iv (1 : Int32)] [(.ref b38)]
          refine XT.iconstV X121.here hx rfl (0 : Int32) (hb hby at_325) (by decide) ?_
          show Go p e below t T121 m 326 #[iv i0, iv i1, iv i2, iv i3, iv i4, rv b38, iv (2 : Int32), iv (nI0 i4), iv (nI1 i4), iv (nI2 i4), rv b106, .val (.long (((1 : Int64) * ((own_sel (nS i0) (nS i1) (nS i2) (nS i3) (nI0 i4)).toInt64)) * ((own_sel (nS i0) (nS i1) (nS i2) (nS i3) (nI1 i4)).toInt64))), .second, .val (.double (f_ent2  (nI0 i4) (nI1 i4) (nS i0) (nS i1) (nS i2) (nS i3))), .second, iv (1 : Int32)] [(.int (0 : Int32)), (.ref b38)]
          exact k)
        obtain ⟨cl130, Ar130, q130, S130, M130, H130, G130⟩ := id (((V54.ext E106).other W110 (Nat.ne_of_lt (Nat.lt_of_lt_of_le V54.lt (Nat.le_of_eq gb106.symm)))).other W114 (Nat.ne_of_lt (Nat.lt_of_lt_of_le V54.lt (Nat.le_of_eq gb106.symm))))
        have g131 : Goes p e below S0 (T121.setTop (mkF m 337 #[iv i0, iv i1, iv i2, iv i3, iv i4, rv b38, iv (2 : Int32), iv (nI0 i4), iv (nI1 i4), iv (nI2 i4), rv b106, .val (.long (((1 : Int64) * ((own_sel (nS i0) (nS i1) (nS i2) (nS i3) (nI0 i4)).toInt64)) * ((own_sel (nS i0) (nS i1) (nS i2) (nS i3) (nI1 i4)).toInt64))), .second, .val (.double (f_ent2  (nI0 i4) (nI1 i4) (nS i0) (nS i1) (nS i2) (nS i3))), .second, iv (1 : Int32)] [(.int (1 : Int32)), (.ref b38)])) := fun t k => g129 t (by
          refine X121.iaload hx (j := (0 : Int32)) (v := (.int (nS i0))) (by rw [e121]; exact Ar130.1) (State.isArrayOf_alike hZ.alike Ar130.2.1) Ar130.2.2 (inb_of S130 ⟨by decide, by decide⟩) (H130.at (inb_of S130 ⟨by decide, by decide⟩) rfl) (g := (mkF m 326 #[iv i0, iv i1, iv i2, iv i3, iv i4, rv b38, iv (2 : Int32), iv (nI0 i4), iv (nI1 i4), iv (nI2 i4), rv b106, .val (.long (((1 : Int64) * ((own_sel (nS i0) (nS i1) (nS i2) (nS i3) (nI0 i4)).toInt64)) * ((own_sel (nS i0) (nS i1) (nS i2) (nS i3) (nI1 i4)).toInt64))), .second, .val (.double (f_ent2  (nI0 i4) (nI1 i4) (nS i0) (nS i1) (nS i2) (nS i3))), .second, iv (1 : Int32)] [(.int (0 : Int32)), (.ref b38)])) rfl rfl (hb hby at_326) _ ?_
          show Go p e below t T121 m 327 #[iv i0, iv i1, iv i2, iv i3, iv i4, rv b38, iv (2 : Int32), iv (nI0 i4), iv (nI1 i4), iv (nI2 i4), rv b106, .val (.long (((1 : Int64) * ((own_sel (nS i0) (nS i1) (nS i2) (nS i3) (nI0 i4)).toInt64)) * ((own_sel (nS i0) (nS i1) (nS i2) (nS i3) (nI1 i4)).toInt64))), .second, .val (.double (f_ent2  (nI0 i4) (nI1 i4) (nS i0) (nS i1) (nS i2) (nS i3))), .second, iv (1 : Int32)] [(.int (nS i0))]
          refine XS.iloadN X121.here hx rfl (hb hby at_327) rfl ?_
          show Go p e below t T121 m 328 #[iv i0, iv i1, iv i2, iv i3, iv i4, rv b38, iv (2 : Int32), iv (nI0 i4), iv (nI1 i4), iv (nI2 i4), rv b106, .val (.long (((1 : Int64) * ((own_sel (nS i0) (nS i1) (nS i2) (nS i3) (nI0 i4)).toInt64)) * ((own_sel (nS i0) (nS i1) (nS i2) (nS i3) (nI1 i4)).toInt64))), .second, .val (.double (f_ent2  (nI0 i4) (nI1 i4) (nS i0) (nS i1) (nS i2) (nS i3))), .second, iv (1 : Int32)] [(.int i0), (.int (nS i0))]
          refine Jvm.Stand.ldcI X121 hx hown (mvT hZ (hw _ (List.mem_of_getElem? (i := 1) rfl))) (g := (mkF m 328 #[iv i0, iv i1, iv i2, iv i3, iv i4, rv b38, iv (2 : Int32), iv (nI0 i4), iv (nI1 i4), iv (nI2 i4), rv b106, .val (.long (((1 : Int64) * ((own_sel (nS i0) (nS i1) (nS i2) (nS i3) (nI0 i4)).toInt64)) * ((own_sel (nS i0) (nS i1) (nS i2) (nS i3) (nI1 i4)).toInt64))), .second, .val (.double (f_ent2  (nI0 i4) (nI1 i4) (nS i0) (nS i1) (nS i2) (nS i3))), .second, iv (1 : Int32)] [(.int i0), (.int (nS i0))])) rfl (hb hby at_328) ?_
          show Go p e below t T121 m 330 #[iv i0, iv i1, iv i2, iv i3, iv i4, rv b38, iv (2 : Int32), iv (nI0 i4), iv (nI1 i4), iv (nI2 i4), rv b106, .val (.long (((1 : Int64) * ((own_sel (nS i0) (nS i1) (nS i2) (nS i3) (nI0 i4)).toInt64)) * ((own_sel (nS i0) (nS i1) (nS i2) (nS i3) (nI1 i4)).toInt64))), .second, .val (.double (f_ent2  (nI0 i4) (nI1 i4) (nS i0) (nS i1) (nS i2) (nS i3))), .second, iv (1 : Int32)] [(.int (131071 : Int32)), (.int i0), (.int (nS i0))]
          refine XS.iand X121.here hx rfl (hb hby at_330) rfl ?_
          show Go p e below t T121 m 331 #[iv i0, iv i1, iv i2, iv i3, iv i4, rv b38, iv (2 : Int32), iv (nI0 i4), iv (nI1 i4), iv (nI2 i4), rv b106, .val (.long (((1 : Int64) * ((own_sel (nS i0) (nS i1) (nS i2) (nS i3) (nI0 i4)).toInt64)) * ((own_sel (nS i0) (nS i1) (nS i2) (nS i3) (nI1 i4)).toInt64))), .second, .val (.double (f_ent2  (nI0 i4) (nI1 i4) (nS i0) (nS i1) (nS i2) (nS i3))), .second, iv (1 : Int32)] [(.int (i0 &&& (131071 : Int32))), (.int (nS i0))]
          show Go p e below t T121 m 331 #[iv i0, iv i1, iv i2, iv i3, iv i4, rv b38, iv (2 : Int32), iv (nI0 i4), iv (nI1 i4), iv (nI2 i4), rv b106, .val (.long (((1 : Int64) * ((own_sel (nS i0) (nS i1) (nS i2) (nS i3) (nI0 i4)).toInt64)) * ((own_sel (nS i0) (nS i1) (nS i2) (nS i3) (nI1 i4)).toInt64))), .second, .val (.double (f_ent2  (nI0 i4) (nI1 i4) (nS i0) (nS i1) (nS i2) (nS i3))), .second, iv (1 : Int32)] [(.int (nS i0)), (.int (nS i0))]
          refine XS.icmpNo X121.here hx rfl (hb hby at_331) rfl (XT.ii_ne_f rfl) ?_
          show Go p e below t T121 m 334 #[iv i0, iv i1, iv i2, iv i3, iv i4, rv b38, iv (2 : Int32), iv (nI0 i4), iv (nI1 i4), iv (nI2 i4), rv b106, .val (.long (((1 : Int64) * ((own_sel (nS i0) (nS i1) (nS i2) (nS i3) (nI0 i4)).toInt64)) * ((own_sel (nS i0) (nS i1) (nS i2) (nS i3) (nI1 i4)).toInt64))), .second, .val (.double (f_ent2  (nI0 i4) (nI1 i4) (nS i0) (nS i1) (nS i2) (nS i3))), .second, iv (1 : Int32)] []
          refine XS.aload X121.here hx rfl (hb hby at_334) rfl rfl ?_
          show Go p e below t T121 m 336 #[iv i0, iv i1, iv i2, iv i3, iv i4, rv b38, iv (2 : Int32), iv (nI0 i4), iv (nI1 i4), iv (nI2 i4), rv b106, .val (.long (((1 : Int64) * ((own_sel (nS i0) (nS i1) (nS i2) (nS i3) (nI0 i4)).toInt64)) * ((own_sel (nS i0) (nS i1) (nS i2) (nS i3) (nI1 i4)).toInt64))), .second, .val (.double (f_ent2  (nI0 i4) (nI1 i4) (nS i0) (nS i1) (nS i2) (nS i3))), .second, iv (1 : Int32)] [(.ref b38)]
          refine XT.iconstV X121.here hx rfl (1 : Int32) (hb hby at_336) (by decide) ?_
          show Go p e below t T121 m 337 #[iv i0, iv i1, iv i2, iv i3, iv i4, rv b38, iv (2 : Int32), iv (nI0 i4), iv (nI1 i4), iv (nI2 i4), rv b106, .val (.long (((1 : Int64) * ((own_sel (nS i0) (nS i1) (nS i2) (nS i3) (nI0 i4)).toInt64)) * ((own_sel (nS i0) (nS i1) (nS i2) (nS i3) (nI1 i4)).toInt64))), .second, .val (.double (f_ent2  (nI0 i4) (nI1 i4) (nS i0) (nS i1) (nS i2) (nS i3))), .second, iv (1 : Int32)] [(.int (1 : Int32)), (.ref b38)]
          exact k)
        obtain ⟨cl132, Ar132, q132, S132, M132, H132, G132⟩ := id (((V54.ext E106).other W110 (Nat.ne_of_lt (Nat.lt_of_lt_of_le V54.lt (Nat.le_of_eq gb106.symm)))).other W114 (Nat.ne_of_lt (Nat.lt_of_lt_of_le V54.lt (Nat.le_of_eq gb106.symm))))
        have g133 : Goes p e below S0 (T121.setTop (mkF m 348 #[iv i0, iv i1, iv i2, iv i3, iv i4, rv b38, iv (2 : Int32), iv (nI0 i4), iv (nI1 i4), iv (nI2 i4), rv b106, .val (.long (((1 : Int64) * ((own_sel (nS i0) (nS i1) (nS i2) (nS i3) (nI0 i4)).toInt64)) * ((own_sel (nS i0) (nS i1) (nS i2) (nS i3) (nI1 i4)).toInt64))), .second, .val (.double (f_ent2  (nI0 i4) (nI1 i4) (nS i0) (nS i1) (nS i2) (nS i3))), .second, iv (1 : Int32)] [(.int (2 : Int32)), (.ref b38)])) := fun t k => g131 t (by
          refine X121.iaload hx (j := (1 : Int32)) (v := (.int (nS i1))) (by rw [e121]; exact Ar132.1) (State.isArrayOf_alike hZ.alike Ar132.2.1) Ar132.2.2 (inb_of S132 ⟨by decide, by decide⟩) (H132.at (inb_of S132 ⟨by decide, by decide⟩) rfl) (g := (mkF m 337 #[iv i0, iv i1, iv i2, iv i3, iv i4, rv b38, iv (2 : Int32), iv (nI0 i4), iv (nI1 i4), iv (nI2 i4), rv b106, .val (.long (((1 : Int64) * ((own_sel (nS i0) (nS i1) (nS i2) (nS i3) (nI0 i4)).toInt64)) * ((own_sel (nS i0) (nS i1) (nS i2) (nS i3) (nI1 i4)).toInt64))), .second, .val (.double (f_ent2  (nI0 i4) (nI1 i4) (nS i0) (nS i1) (nS i2) (nS i3))), .second, iv (1 : Int32)] [(.int (1 : Int32)), (.ref b38)])) rfl rfl (hb hby at_337) _ ?_
          show Go p e below t T121 m 338 #[iv i0, iv i1, iv i2, iv i3, iv i4, rv b38, iv (2 : Int32), iv (nI0 i4), iv (nI1 i4), iv (nI2 i4), rv b106, .val (.long (((1 : Int64) * ((own_sel (nS i0) (nS i1) (nS i2) (nS i3) (nI0 i4)).toInt64)) * ((own_sel (nS i0) (nS i1) (nS i2) (nS i3) (nI1 i4)).toInt64))), .second, .val (.double (f_ent2  (nI0 i4) (nI1 i4) (nS i0) (nS i1) (nS i2) (nS i3))), .second, iv (1 : Int32)] [(.int (nS i1))]
          refine XS.iloadN X121.here hx rfl (hb hby at_338) rfl ?_
          show Go p e below t T121 m 339 #[iv i0, iv i1, iv i2, iv i3, iv i4, rv b38, iv (2 : Int32), iv (nI0 i4), iv (nI1 i4), iv (nI2 i4), rv b106, .val (.long (((1 : Int64) * ((own_sel (nS i0) (nS i1) (nS i2) (nS i3) (nI0 i4)).toInt64)) * ((own_sel (nS i0) (nS i1) (nS i2) (nS i3) (nI1 i4)).toInt64))), .second, .val (.double (f_ent2  (nI0 i4) (nI1 i4) (nS i0) (nS i1) (nS i2) (nS i3))), .second, iv (1 : Int32)] [(.int i1), (.int (nS i1))]
          refine Jvm.Stand.ldcI X121 hx hown (mvT hZ (hw _ (List.mem_of_getElem? (i := 1) rfl))) (g := (mkF m 339 #[iv i0, iv i1, iv i2, iv i3, iv i4, rv b38, iv (2 : Int32), iv (nI0 i4), iv (nI1 i4), iv (nI2 i4), rv b106, .val (.long (((1 : Int64) * ((own_sel (nS i0) (nS i1) (nS i2) (nS i3) (nI0 i4)).toInt64)) * ((own_sel (nS i0) (nS i1) (nS i2) (nS i3) (nI1 i4)).toInt64))), .second, .val (.double (f_ent2  (nI0 i4) (nI1 i4) (nS i0) (nS i1) (nS i2) (nS i3))), .second, iv (1 : Int32)] [(.int i1), (.int (nS i1))])) rfl (hb hby at_339) ?_
          show Go p e below t T121 m 341 #[iv i0, iv i1, iv i2, iv i3, iv i4, rv b38, iv (2 : Int32), iv (nI0 i4), iv (nI1 i4), iv (nI2 i4), rv b106, .val (.long (((1 : Int64) * ((own_sel (nS i0) (nS i1) (nS i2) (nS i3) (nI0 i4)).toInt64)) * ((own_sel (nS i0) (nS i1) (nS i2) (nS i3) (nI1 i4)).toInt64))), .second, .val (.double (f_ent2  (nI0 i4) (nI1 i4) (nS i0) (nS i1) (nS i2) (nS i3))), .second, iv (1 : Int32)] [(.int (131071 : Int32)), (.int i1), (.int (nS i1))]
          refine XS.iand X121.here hx rfl (hb hby at_341) rfl ?_
          show Go p e below t T121 m 342 #[iv i0, iv i1, iv i2, iv i3, iv i4, rv b38, iv (2 : Int32), iv (nI0 i4), iv (nI1 i4), iv (nI2 i4), rv b106, .val (.long (((1 : Int64) * ((own_sel (nS i0) (nS i1) (nS i2) (nS i3) (nI0 i4)).toInt64)) * ((own_sel (nS i0) (nS i1) (nS i2) (nS i3) (nI1 i4)).toInt64))), .second, .val (.double (f_ent2  (nI0 i4) (nI1 i4) (nS i0) (nS i1) (nS i2) (nS i3))), .second, iv (1 : Int32)] [(.int (i1 &&& (131071 : Int32))), (.int (nS i1))]
          show Go p e below t T121 m 342 #[iv i0, iv i1, iv i2, iv i3, iv i4, rv b38, iv (2 : Int32), iv (nI0 i4), iv (nI1 i4), iv (nI2 i4), rv b106, .val (.long (((1 : Int64) * ((own_sel (nS i0) (nS i1) (nS i2) (nS i3) (nI0 i4)).toInt64)) * ((own_sel (nS i0) (nS i1) (nS i2) (nS i3) (nI1 i4)).toInt64))), .second, .val (.double (f_ent2  (nI0 i4) (nI1 i4) (nS i0) (nS i1) (nS i2) (nS i3))), .second, iv (1 : Int32)] [(.int (nS i1)), (.int (nS i1))]
          refine XS.icmpNo X121.here hx rfl (hb hby at_342) rfl (XT.ii_ne_f rfl) ?_
          show Go p e below t T121 m 345 #[iv i0, iv i1, iv i2, iv i3, iv i4, rv b38, iv (2 : Int32), iv (nI0 i4), iv (nI1 i4), iv (nI2 i4), rv b106, .val (.long (((1 : Int64) * ((own_sel (nS i0) (nS i1) (nS i2) (nS i3) (nI0 i4)).toInt64)) * ((own_sel (nS i0) (nS i1) (nS i2) (nS i3) (nI1 i4)).toInt64))), .second, .val (.double (f_ent2  (nI0 i4) (nI1 i4) (nS i0) (nS i1) (nS i2) (nS i3))), .second, iv (1 : Int32)] []
          refine XS.aload X121.here hx rfl (hb hby at_345) rfl rfl ?_
          show Go p e below t T121 m 347 #[iv i0, iv i1, iv i2, iv i3, iv i4, rv b38, iv (2 : Int32), iv (nI0 i4), iv (nI1 i4), iv (nI2 i4), rv b106, .val (.long (((1 : Int64) * ((own_sel (nS i0) (nS i1) (nS i2) (nS i3) (nI0 i4)).toInt64)) * ((own_sel (nS i0) (nS i1) (nS i2) (nS i3) (nI1 i4)).toInt64))), .second, .val (.double (f_ent2  (nI0 i4) (nI1 i4) (nS i0) (nS i1) (nS i2) (nS i3))), .second, iv (1 : Int32)] [(.ref b38)]
          refine XT.iconstV X121.here hx rfl (2 : Int32) (hb hby at_347) (by decide) ?_
          show Go p e below t T121 m 348 #[iv i0, iv i1, iv i2, iv i3, iv i4, rv b38, iv (2 : Int32), iv (nI0 i4), iv (nI1 i4), iv (nI2 i4), rv b106, .val (.long (((1 : Int64) * ((own_sel (nS i0) (nS i1) (nS i2) (nS i3) (nI0 i4)).toInt64)) * ((own_sel (nS i0) (nS i1) (nS i2) (nS i3) (nI1 i4)).toInt64))), .second, .val (.double (f_ent2  (nI0 i4) (nI1 i4) (nS i0) (nS i1) (nS i2) (nS i3))), .second, iv (1 : Int32)] [(.int (2 : Int32)), (.ref b38)]
          exact k)
        obtain ⟨cl134, Ar134, q134, S134, M134, H134, G134⟩ := id (((V54.ext E106).other W110 (Nat.ne_of_lt (Nat.lt_of_lt_of_le V54.lt (Nat.le_of_eq gb106.symm)))).other W114 (Nat.ne_of_lt (Nat.lt_of_lt_of_le V54.lt (Nat.le_of_eq gb106.symm))))
        have g135 : Goes p e below S0 (T121.setTop (mkF m 359 #[iv i0, iv i1, iv i2, iv i3, iv i4, rv b38, iv (2 : Int32), iv (nI0 i4), iv (nI1 i4), iv (nI2 i4), rv b106, .val (.long (((1 : Int64) * ((own_sel (nS i0) (nS i1) (nS i2) (nS i3) (nI0 i4)).toInt64)) * ((own_sel (nS i0) (nS i1) (nS i2) (nS i3) (nI1 i4)).toInt64))), .second, .val (.double (f_ent2  (nI0 i4) (nI1 i4) (nS i0) (nS i1) (nS i2) (nS i3))), .second, iv (1 : Int32)] [(.int (3 : Int32)), (.ref b38)])) := fun t k => g133 t (by
          refine X121.iaload hx (j := (2 : Int32)) (v := (.int (nS i2))) (by rw [e121]; exact Ar134.1) (State.isArrayOf_alike hZ.alike Ar134.2.1) Ar134.2.2 (inb_of S134 ⟨by decide, by decide⟩) (H134.at (inb_of S134 ⟨by decide, by decide⟩) rfl) (g := (mkF m 348 #[iv i0, iv i1, iv i2, iv i3, iv i4, rv b38, iv (2 : Int32), iv (nI0 i4), iv (nI1 i4), iv (nI2 i4), rv b106, .val (.long (((1 : Int64) * ((own_sel (nS i0) (nS i1) (nS i2) (nS i3) (nI0 i4)).toInt64)) * ((own_sel (nS i0) (nS i1) (nS i2) (nS i3) (nI1 i4)).toInt64))), .second, .val (.double (f_ent2  (nI0 i4) (nI1 i4) (nS i0) (nS i1) (nS i2) (nS i3))), .second, iv (1 : Int32)] [(.int (2 : Int32)), (.ref b38)])) rfl rfl (hb hby at_348) _ ?_
          show Go p e below t T121 m 349 #[iv i0, iv i1, iv i2, iv i3, iv i4, rv b38, iv (2 : Int32), iv (nI0 i4), iv (nI1 i4), iv (nI2 i4), rv b106, .val (.long (((1 : Int64) * ((own_sel (nS i0) (nS i1) (nS i2) (nS i3) (nI0 i4)).toInt64)) * ((own_sel (nS i0) (nS i1) (nS i2) (nS i3) (nI1 i4)).toInt64))), .second, .val (.double (f_ent2  (nI0 i4) (nI1 i4) (nS i0) (nS i1) (nS i2) (nS i3))), .second, iv (1 : Int32)] [(.int (nS i2))]
          refine XS.iloadN X121.here hx rfl (hb hby at_349) rfl ?_
          show Go p e below t T121 m 350 #[iv i0, iv i1, iv i2, iv i3, iv i4, rv b38, iv (2 : Int32), iv (nI0 i4), iv (nI1 i4), iv (nI2 i4), rv b106, .val (.long (((1 : Int64) * ((own_sel (nS i0) (nS i1) (nS i2) (nS i3) (nI0 i4)).toInt64)) * ((own_sel (nS i0) (nS i1) (nS i2) (nS i3) (nI1 i4)).toInt64))), .second, .val (.double (f_ent2  (nI0 i4) (nI1 i4) (nS i0) (nS i1) (nS i2) (nS i3))), .second, iv (1 : Int32)] [(.int i2), (.int (nS i2))]
          refine Jvm.Stand.ldcI X121 hx hown (mvT hZ (hw _ (List.mem_of_getElem? (i := 1) rfl))) (g := (mkF m 350 #[iv i0, iv i1, iv i2, iv i3, iv i4, rv b38, iv (2 : Int32), iv (nI0 i4), iv (nI1 i4), iv (nI2 i4), rv b106, .val (.long (((1 : Int64) * ((own_sel (nS i0) (nS i1) (nS i2) (nS i3) (nI0 i4)).toInt64)) * ((own_sel (nS i0) (nS i1) (nS i2) (nS i3) (nI1 i4)).toInt64))), .second, .val (.double (f_ent2  (nI0 i4) (nI1 i4) (nS i0) (nS i1) (nS i2) (nS i3))), .second, iv (1 : Int32)] [(.int i2), (.int (nS i2))])) rfl (hb hby at_350) ?_
          show Go p e below t T121 m 352 #[iv i0, iv i1, iv i2, iv i3, iv i4, rv b38, iv (2 : Int32), iv (nI0 i4), iv (nI1 i4), iv (nI2 i4), rv b106, .val (.long (((1 : Int64) * ((own_sel (nS i0) (nS i1) (nS i2) (nS i3) (nI0 i4)).toInt64)) * ((own_sel (nS i0) (nS i1) (nS i2) (nS i3) (nI1 i4)).toInt64))), .second, .val (.double (f_ent2  (nI0 i4) (nI1 i4) (nS i0) (nS i1) (nS i2) (nS i3))), .second, iv (1 : Int32)] [(.int (131071 : Int32)), (.int i2), (.int (nS i2))]
          refine XS.iand X121.here hx rfl (hb hby at_352) rfl ?_
          show Go p e below t T121 m 353 #[iv i0, iv i1, iv i2, iv i3, iv i4, rv b38, iv (2 : Int32), iv (nI0 i4), iv (nI1 i4), iv (nI2 i4), rv b106, .val (.long (((1 : Int64) * ((own_sel (nS i0) (nS i1) (nS i2) (nS i3) (nI0 i4)).toInt64)) * ((own_sel (nS i0) (nS i1) (nS i2) (nS i3) (nI1 i4)).toInt64))), .second, .val (.double (f_ent2  (nI0 i4) (nI1 i4) (nS i0) (nS i1) (nS i2) (nS i3))), .second, iv (1 : Int32)] [(.int (i2 &&& (131071 : Int32))), (.int (nS i2))]
          show Go p e below t T121 m 353 #[iv i0, iv i1, iv i2, iv i3, iv i4, rv b38, iv (2 : Int32), iv (nI0 i4), iv (nI1 i4), iv (nI2 i4), rv b106, .val (.long (((1 : Int64) * ((own_sel (nS i0) (nS i1) (nS i2) (nS i3) (nI0 i4)).toInt64)) * ((own_sel (nS i0) (nS i1) (nS i2) (nS i3) (nI1 i4)).toInt64))), .second, .val (.double (f_ent2  (nI0 i4) (nI1 i4) (nS i0) (nS i1) (nS i2) (nS i3))), .second, iv (1 : Int32)] [(.int (nS i2)), (.int (nS i2))]
          refine XS.icmpNo X121.here hx rfl (hb hby at_353) rfl (XT.ii_ne_f rfl) ?_
          show Go p e below t T121 m 356 #[iv i0, iv i1, iv i2, iv i3, iv i4, rv b38, iv (2 : Int32), iv (nI0 i4), iv (nI1 i4), iv (nI2 i4), rv b106, .val (.long (((1 : Int64) * ((own_sel (nS i0) (nS i1) (nS i2) (nS i3) (nI0 i4)).toInt64)) * ((own_sel (nS i0) (nS i1) (nS i2) (nS i3) (nI1 i4)).toInt64))), .second, .val (.double (f_ent2  (nI0 i4) (nI1 i4) (nS i0) (nS i1) (nS i2) (nS i3))), .second, iv (1 : Int32)] []
          refine XS.aload X121.here hx rfl (hb hby at_356) rfl rfl ?_
          show Go p e below t T121 m 358 #[iv i0, iv i1, iv i2, iv i3, iv i4, rv b38, iv (2 : Int32), iv (nI0 i4), iv (nI1 i4), iv (nI2 i4), rv b106, .val (.long (((1 : Int64) * ((own_sel (nS i0) (nS i1) (nS i2) (nS i3) (nI0 i4)).toInt64)) * ((own_sel (nS i0) (nS i1) (nS i2) (nS i3) (nI1 i4)).toInt64))), .second, .val (.double (f_ent2  (nI0 i4) (nI1 i4) (nS i0) (nS i1) (nS i2) (nS i3))), .second, iv (1 : Int32)] [(.ref b38)]
          refine XT.iconstV X121.here hx rfl (3 : Int32) (hb hby at_358) (by decide) ?_
          show Go p e below t T121 m 359 #[iv i0, iv i1, iv i2, iv i3, iv i4, rv b38, iv (2 : Int32), iv (nI0 i4), iv (nI1 i4), iv (nI2 i4), rv b106, .val (.long (((1 : Int64) * ((own_sel (nS i0) (nS i1) (nS i2) (nS i3) (nI0 i4)).toInt64)) * ((own_sel (nS i0) (nS i1) (nS i2) (nS i3) (nI1 i4)).toInt64))), .second, .val (.double (f_ent2  (nI0 i4) (nI1 i4) (nS i0) (nS i1) (nS i2) (nS i3))), .second, iv (1 : Int32)] [(.int (3 : Int32)), (.ref b38)]
          exact k)
        obtain ⟨cl136, Ar136, q136, S136, M136, H136, G136⟩ := id (((V54.ext E106).other W110 (Nat.ne_of_lt (Nat.lt_of_lt_of_le V54.lt (Nat.le_of_eq gb106.symm)))).other W114 (Nat.ne_of_lt (Nat.lt_of_lt_of_le V54.lt (Nat.le_of_eq gb106.symm))))
        have g137 : Goes p e below S0 (T121.setTop (mkF m 376 #[iv i0, iv i1, iv i2, iv i3, iv i4, rv b38, iv (2 : Int32), iv (nI0 i4), iv (nI1 i4), iv (nI2 i4), rv b106, .val (.long (((1 : Int64) * ((own_sel (nS i0) (nS i1) (nS i2) (nS i3) (nI0 i4)).toInt64)) * ((own_sel (nS i0) (nS i1) (nS i2) (nS i3) (nI1 i4)).toInt64))), .second, .val (.double (f_ent2  (nI0 i4) (nI1 i4) (nS i0) (nS i1) (nS i2) (nS i3))), .second, iv (1 : Int32)] [(.int (1 : Int32))])) := fun t k => g135 t (by
          refine X121.iaload hx (j := (3 : Int32)) (v := (.int (nS i3))) (by rw [e121]; exact Ar136.1) (State.isArrayOf_alike hZ.alike Ar136.2.1) Ar136.2.2 (inb_of S136 ⟨by decide, by decide⟩) (H136.at (inb_of S136 ⟨by decide, by decide⟩) rfl) (g := (mkF m 359 #[iv i0, iv i1, iv i2, iv i3, iv i4, rv b38, iv (2 : Int32), iv (nI0 i4), iv (nI1 i4), iv (nI2 i4), rv b106, .val (.long (((1 : Int64) * ((own_sel (nS i0) (nS i1) (nS i2) (nS i3) (nI0 i4)).toInt64)) * ((own_sel (nS i0) (nS i1) (nS i2) (nS i3) (nI1 i4)).toInt64))), .second, .val (.double (f_ent2  (nI0 i4) (nI1 i4) (nS i0) (nS i1) (nS i2) (nS i3))), .second, iv (1 : Int32)] [(.int (3 : Int32)), (.ref b38)])) rfl rfl (hb hby at_359) _ ?_
          show Go p e below t T121 m 360 #[iv i0, iv i1, iv i2, iv i3, iv i4, rv b38, iv (2 : Int32), iv (nI0 i4), iv (nI1 i4), iv (nI2 i4), rv b106, .val (.long (((1 : Int64) * ((own_sel (nS i0) (nS i1) (nS i2) (nS i3) (nI0 i4)).toInt64)) * ((own_sel (nS i0) (nS i1) (nS i2) (nS i3) (nI1 i4)).toInt64))), .second, .val (.double (f_ent2  (nI0 i4) (nI1 i4) (nS i0) (nS i1) (nS i2) (nS i3))), .second, iv (1 : Int32)] [(.int (nS i3))]
          refine XS.iloadN X121.here hx rfl (hb hby at_360) rfl ?_
          show Go p e below t T121 m 361 #[iv i0, iv i1, iv i2, iv i3, iv i4, rv b38, iv (2 : Int32), iv (nI0 i4), iv (nI1 i4), iv (nI2 i4), rv b106, .val (.long (((1 : Int64) * ((own_sel (nS i0) (nS i1) (nS i2) (nS i3) (nI0 i4)).toInt64)) * ((own_sel (nS i0) (nS i1) (nS i2) (nS i3) (nI1 i4)).toInt64))), .second, .val (.double (f_ent2  (nI0 i4) (nI1 i4) (nS i0) (nS i1) (nS i2) (nS i3))), .second, iv (1 : Int32)] [(.int i3), (.int (nS i3))]
          refine Jvm.Stand.ldcI X121 hx hown (mvT hZ (hw _ (List.mem_of_getElem? (i := 1) rfl))) (g := (mkF m 361 #[iv i0, iv i1, iv i2, iv i3, iv i4, rv b38, iv (2 : Int32), iv (nI0 i4), iv (nI1 i4), iv (nI2 i4), rv b106, .val (.long (((1 : Int64) * ((own_sel (nS i0) (nS i1) (nS i2) (nS i3) (nI0 i4)).toInt64)) * ((own_sel (nS i0) (nS i1) (nS i2) (nS i3) (nI1 i4)).toInt64))), .second, .val (.double (f_ent2  (nI0 i4) (nI1 i4) (nS i0) (nS i1) (nS i2) (nS i3))), .second, iv (1 : Int32)] [(.int i3), (.int (nS i3))])) rfl (hb hby at_361) ?_
          show Go p e below t T121 m 363 #[iv i0, iv i1, iv i2, iv i3, iv i4, rv b38, iv (2 : Int32), iv (nI0 i4), iv (nI1 i4), iv (nI2 i4), rv b106, .val (.long (((1 : Int64) * ((own_sel (nS i0) (nS i1) (nS i2) (nS i3) (nI0 i4)).toInt64)) * ((own_sel (nS i0) (nS i1) (nS i2) (nS i3) (nI1 i4)).toInt64))), .second, .val (.double (f_ent2  (nI0 i4) (nI1 i4) (nS i0) (nS i1) (nS i2) (nS i3))), .second, iv (1 : Int32)] [(.int (131071 : Int32)), (.int i3), (.int (nS i3))]
          refine XS.iand X121.here hx rfl (hb hby at_363) rfl ?_
          show Go p e below t T121 m 364 #[iv i0, iv i1, iv i2, iv i3, iv i4, rv b38, iv (2 : Int32), iv (nI0 i4), iv (nI1 i4), iv (nI2 i4), rv b106, .val (.long (((1 : Int64) * ((own_sel (nS i0) (nS i1) (nS i2) (nS i3) (nI0 i4)).toInt64)) * ((own_sel (nS i0) (nS i1) (nS i2) (nS i3) (nI1 i4)).toInt64))), .second, .val (.double (f_ent2  (nI0 i4) (nI1 i4) (nS i0) (nS i1) (nS i2) (nS i3))), .second, iv (1 : Int32)] [(.int (i3 &&& (131071 : Int32))), (.int (nS i3))]
          show Go p e below t T121 m 364 #[iv i0, iv i1, iv i2, iv i3, iv i4, rv b38, iv (2 : Int32), iv (nI0 i4), iv (nI1 i4), iv (nI2 i4), rv b106, .val (.long (((1 : Int64) * ((own_sel (nS i0) (nS i1) (nS i2) (nS i3) (nI0 i4)).toInt64)) * ((own_sel (nS i0) (nS i1) (nS i2) (nS i3) (nI1 i4)).toInt64))), .second, .val (.double (f_ent2  (nI0 i4) (nI1 i4) (nS i0) (nS i1) (nS i2) (nS i3))), .second, iv (1 : Int32)] [(.int (nS i3)), (.int (nS i3))]
          refine XS.icmpNo X121.here hx rfl (hb hby at_364) rfl (XT.ii_ne_f rfl) ?_
          show Go p e below t T121 m 367 #[iv i0, iv i1, iv i2, iv i3, iv i4, rv b38, iv (2 : Int32), iv (nI0 i4), iv (nI1 i4), iv (nI2 i4), rv b106, .val (.long (((1 : Int64) * ((own_sel (nS i0) (nS i1) (nS i2) (nS i3) (nI0 i4)).toInt64)) * ((own_sel (nS i0) (nS i1) (nS i2) (nS i3) (nI1 i4)).toInt64))), .second, .val (.double (f_ent2  (nI0 i4) (nI1 i4) (nS i0) (nS i1) (nS i2) (nS i3))), .second, iv (1 : Int32)] []
          refine XT.iconstV X121.here hx rfl (1 : Int32) (hb hby at_367) (by decide) ?_
          show Go p e below t T121 m 368 #[iv i0, iv i1, iv i2, iv i3, iv i4, rv b38, iv (2 : Int32), iv (nI0 i4), iv (nI1 i4), iv (nI2 i4), rv b106, .val (.long (((1 : Int64) * ((own_sel (nS i0) (nS i1) (nS i2) (nS i3) (nI0 i4)).toInt64)) * ((own_sel (nS i0) (nS i1) (nS i2) (nS i3) (nI1 i4)).toInt64))), .second, .val (.double (f_ent2  (nI0 i4) (nI1 i4) (nS i0) (nS i1) (nS i2) (nS i3))), .second, iv (1 : Int32)] [(.int (1 : Int32))]
          refine XS.goto X121.here hx rfl (pc0 := 368) (pc' := 372) rfl (hb hby at_368) (by decide) (by decide) ?_
          show Go p e below t T121 m 372 #[iv i0, iv i1, iv i2, iv i3, iv i4, rv b38, iv (2 : Int32), iv (nI0 i4), iv (nI1 i4), iv (nI2 i4), rv b106, .val (.long (((1 : Int64) * ((own_sel (nS i0) (nS i1) (nS i2) (nS i3) (nI0 i4)).toInt64)) * ((own_sel (nS i0) (nS i1) (nS i2) (nS i3) (nI1 i4)).toInt64))), .second, .val (.double (f_ent2  (nI0 i4) (nI1 i4) (nS i0) (nS i1) (nS i2) (nS i3))), .second, iv (1 : Int32)] [(.int (1 : Int32))]
          refine XS.istore X121.here hx rfl (hb hby at_372) rfl (l' := #[iv i0, iv i1, iv i2, iv i3, iv i4, rv b38, iv (2 : Int32), iv (nI0 i4), iv (nI1 i4), iv (nI2 i4), rv b106, .val (.long (((1 : Int64) * ((own_sel (nS i0) (nS i1) (nS i2) (nS i3) (nI0 i4)).toInt64)) * ((own_sel (nS i0) (nS i1) (nS i2) (nS i3) (nI1 i4)).toInt64))), .second, .val (.double (f_ent2  (nI0 i4) (nI1 i4) (nS i0) (nS i1) (nS i2) (nS i3))), .second, iv (1 : Int32)]) rfl ?_
          show Go p e below t T121 m 374 #[iv i0, iv i1, iv i2, iv i3, iv i4, rv b38, iv (2 : Int32), iv (nI0 i4), iv (nI1 i4), iv (nI2 i4), rv b106, .val (.long (((1 : Int64) * ((own_sel (nS i0) (nS i1) (nS i2) (nS i3) (nI0 i4)).toInt64)) * ((own_sel (nS i0) (nS i1) (nS i2) (nS i3) (nI1 i4)).toInt64))), .second, .val (.double (f_ent2  (nI0 i4) (nI1 i4) (nS i0) (nS i1) (nS i2) (nS i3))), .second, iv (1 : Int32)] []
          refine XS.iload X121.here hx rfl (hb hby at_374) rfl ?_
          show Go p e below t T121 m 376 #[iv i0, iv i1, iv i2, iv i3, iv i4, rv b38, iv (2 : Int32), iv (nI0 i4), iv (nI1 i4), iv (nI2 i4), rv b106, .val (.long (((1 : Int64) * ((own_sel (nS i0) (nS i1) (nS i2) (nS i3) (nI0 i4)).toInt64)) * ((own_sel (nS i0) (nS i1) (nS i2) (nS i3) (nI1 i4)).toInt64))), .second, .val (.double (f_ent2  (nI0 i4) (nI1 i4) (nS i0) (nS i1) (nS i2) (nS i3))), .second, iv (1 : Int32)] [(.int (1 : Int32))]
          exact k)
        obtain ⟨fs, hr, hrun, hended, hW, hsame⟩ := X121.leave (v := some (.int (1 : Int32))) (fun h => by rw [Bd.returns] at h; cases h)
        refine ⟨_, _, g137 _ (retN X121 hx (t := .boolean) Bd.returns (by simp) (hb hby at_376) hr), hrun, hended, _, _, rfl, ?_, ⟨_, rfl⟩, hW, hsame.mono (by decide) (by decide)⟩
        show Q_law Z i0 i1 i2 i3 i4  h0 n0 _ T121.heap _
        rw [e121]
        exact ⟨rfl, M121⟩
      · skip
        have g138 : Goes p e below S0 (T54.setTop (mkF m 120 #[iv i0, iv i1, iv i2, iv i3, iv i4, rv b38, iv n4, iv (nI0 i4), iv (nI1 i4), iv (nI2 i4), .unset, .unset, .unset, .unset, .unset, .unset] [])) := fun t k => g103 t (by
          refine XS.icmpYes X54.here hx rfl (pc0 := 99) (pc' := 120) rfl (hb hby at_99) rfl (XT.ii_ne_t h104) (by decide) (by decide) ?_
          show Go p e below t T54 m 120 #[iv i0, iv i1, iv i2, iv i3, iv i4, rv b38, iv n4, iv (nI0 i4), iv (nI1 i4), iv (nI2 i4), .unset, .unset, .unset, .unset, .unset, .unset] []
          exact k)
        obtain rfl : n4 = (3 : Int32) := own_len3 hn4 h58 h77 h104
        have g139 : Goes p e below S0 (T54.setTop (mkF m 121 #[iv i0, iv i1, iv i2, iv i3, iv i4, rv b38, iv (3 : Int32), iv (nI0 i4), iv (nI1 i4), iv (nI2 i4), .unset, .unset, .unset, .unset, .unset, .unset] [(.int (3 : Int32))])) := fun t k => g138 t (by
          refine XT.iconstV X54.here hx rfl (3 : Int32) (hb hby at_120) (by decide) ?_
          show Go p e below t T54 m 121 #[iv i0, iv i1, iv i2, iv i3, iv i4, rv b38, iv (3 : Int32), iv (nI0 i4), iv (nI1 i4), iv (nI2 i4), .unset, .unset, .unset, .unset, .unset, .unset] [(.int (3 : Int32))]
          exact k)
        obtain ⟨T140, h140, k140, X140, e140, E140, A140, st140⟩ := newP X54 hx hZ (hw _ (List.mem_of_getElem? (i := 0) rfl)) e54 (g := (mkF m 121 #[iv i0, iv i1, iv i2, iv i3, iv i4, rv b38, iv (3 : Int32), iv (nI0 i4), iv (nI1 i4), iv (nI2 i4), .unset, .unset, .unset, .unset, .unset, .unset] [(.int (3 : Int32))])) rfl (hb hby at_121) rfl (by decide) (cap := 3) (by decide) (by decide) (by decide) (by decide)
        obtain ⟨b140, gb140⟩ : ∃ z, z = h54.size := ⟨_, rfl⟩
        have sz140 : h0.size ≤ b140 := Nat.le_trans (Nat.le_trans (Nat.le_trans (Nat.le_trans (Nat.le_trans (Nat.le_trans (Nat.le_refl _) E38.1) (Nat.le_of_eq W42.size.symm)) (Nat.le_of_eq W46.size.symm)) (Nat.le_of_eq W50.size.symm)) (Nat.le_of_eq W54.size.symm)) (Nat.le_of_eq gb140.symm)
        have ng140 : n0 ≤ b140 := Nat.le_trans Z0 sz140
        rw [← gb140] at A140 st140
        have V140 : Arv Z h140 b140 k140 .int (3 : Int32) [(.int (0 : Int32)), (.int (0 : Int32)), (.int (0 : Int32))] (.int (0 : Int32)) := (Arv.new A140 (by decide)).pad (pad_rep [] (.int (0 : Int32)) 3)
        have g141 : Goes p e below S0 (T140.setTop (mkF m 123 #[iv i0, iv i1, iv i2, iv i3, iv i4, rv b38, iv (3 : Int32), iv (nI0 i4), iv (nI1 i4), iv (nI2 i4), .unset, .unset, .unset, .unset, .unset, .unset] [(.ref b140)])) := fun t k => g139 t (st140 t k)
        have g142 : Goes p e below S0 (T140.setTop (mkF m 127 #[iv i0, iv i1, iv i2, iv i3, iv i4, rv b38, iv (3 : Int32), iv (nI0 i4), iv (nI1 i4), iv (nI2 i4), .unset, .unset, .unset, .unset, .unset, .unset] [(.int (nI0 i4)), (.int (0 : Int32)), (.ref b140), (.ref b140)])) := fun t k => g141 t (by
          refine XS.dup X140.here hx rfl (hb hby at_123) rfl rfl ?_
          show Go p e below t T140 m 124 #[iv i0, iv i1, iv i2, iv i3, iv i4, rv b38, iv (3 : Int32), iv (nI0 i4), iv (nI1 i4), iv (nI2 i4), .unset, .unset, .unset, .unset, .unset, .unset] [(.ref b140), (.ref b140)]
          refine XT.iconstV X140.here hx rfl (0 : Int32) (hb hby at_124) (by decide) ?_
          show Go p e below t T140 m 125 #[iv i0, iv i1, iv i2, iv i3, iv i4, rv b38, iv (3 : Int32), iv (nI0 i4), iv (nI1 i4), iv (nI2 i4), .unset, .unset, .unset, .unset, .unset, .unset] [(.int (0 : Int32)), (.ref b140), (.ref b140)]
          refine XS.iload X140.here hx rfl (hb hby at_125) rfl ?_
          show Go p e below t T140 m 127 #[iv i0, iv i1, iv i2, iv i3, iv i4, rv b38, iv (3 : Int32), iv (nI0 i4), iv (nI1 i4), iv (nI2 i4), .unset, .unset, .unset, .unset, .unset, .unset] [(.int (nI0 i4)), (.int (0 : Int32)), (.ref b140), (.ref b140)]
          exact k)
        obtain ⟨cl143, Ar143, q143, S143, M143, H143, G143⟩ := id V140
        obtain ⟨T144, h144, X144, e144, W144, st144⟩ := stI X140 hx hZ e140 Ar143 (j := (0 : Int32)) (inb_of S143 ⟨by decide, by decide⟩) (g := (mkF m 127 #[iv i0, iv i1, iv i2, iv i3, iv i4, rv b38, iv (3 : Int32), iv (nI0 i4), iv (nI1 i4), iv (nI2 i4), .unset, .unset, .unset, .unset, .unset, .unset] [(.int (nI0 i4)), (.int (0 : Int32)), (.ref b140), (.ref b140)])) rfl rfl (hb hby at_127)
        have N144 := Fr.snoc X144 N54 ng140
        have V144 : Arv Z h144 b140 k140 .int (3 : Int32) [(.int (nI0 i4)), (.int (0 : Int32)), (.int (0 : Int32))] (.int (0 : Int32)) := Arv.set Ar143 q143 S143 M143 H143 G143 rfl W144 0 rfl (Nat.le_of_ble_eq_true rfl)
        have g145 : Goes p e below S0 (T144.setTop (mkF m 128 #[iv i0, iv i1, iv i2, iv i3, iv i4, rv b38, iv (3 : Int32), iv (nI0 i4), iv (nI1 i4), iv (nI2 i4), .unset, .unset, .unset, .unset, .unset, .unset] [(.ref b140)])) := fun t k => g142 t (st144 t k)
        have g146 : Goes p e below S0 (T144.setTop (mkF m 132 #[iv i0, iv i1, iv i2, iv i3, iv i4, rv b38, iv (3 : Int32), iv (nI0 i4), iv (nI1 i4), iv (nI2 i4), .unset, .unset, .unset, .unset, .unset, .unset] [(.int (nI1 i4)), (.int (1 : Int32)), (.ref b140), (.ref b140)])) := fun t k => g145 t (by
          refine XS.dup X144.here hx rfl (hb hby at_128) rfl rfl ?_
          show Go p e below t T144 m 129 #[iv i0, iv i1, iv i2, iv i3, iv i4, rv b38, iv (3 : Int32), iv (nI0 i4), iv (nI1 i4), iv (nI2 i4), .unset, .unset, .unset, .unset, .unset, .unset] [(.ref b140), (.ref b140)]
          refine XT.iconstV X144.here hx rfl (1 : Int32) (hb hby at_129) (by decide) ?_
          show Go p e below t T144 m 130 #[iv i0, iv i1, iv i2, iv i3, iv i4, rv b38, iv (3 : Int32), iv (nI0 i4), iv (nI1 i4), iv (nI2 i4), .unset, .unset, .unset, .unset, .unset, .unset] [(.int (1 : Int32)), (.ref b140), (.ref b140)]
          refine XS.iload X144.here hx rfl (hb hby at_130) rfl ?_
          show Go p e below t T144 m 132 #[iv i0, iv i1, iv i2, iv i3, iv i4, rv b38, iv (3 : Int32), iv (nI0 i4), iv (nI1 i4), iv (nI2 i4), .unset, .unset, .unset, .unset, .unset, .unset] [(.int (nI1 i4)), (.int (1 : Int32)), (.ref b140), (.ref b140)]
          exact k)
        obtain ⟨cl147, Ar147, q147, S147, M147, H147, G147⟩ := id V144
        obtain ⟨T148, h148, X148, e148, W148, st148⟩ := stI X144 hx hZ e144 Ar147 (j := (1 : Int32)) (inb_of S147 ⟨by decide, by decide⟩) (g := (mkF m 132 #[iv i0, iv i1, iv i2, iv i3, iv i4, rv b38, iv (3 : Int32), iv (nI0 i4), iv (nI1 i4), iv (nI2 i4), .unset, .unset, .unset, .unset, .unset, .unset] [(.int (nI1 i4)), (.int (1 : Int32)), (.ref b140), (.ref b140)])) rfl rfl (hb hby at_132)
        have N148 := Fr.snoc X148 N144 ng140
        have V148 : Arv Z h148 b140 k140 .int (3 : Int32) [(.int (nI0 i4)), (.int (nI1 i4)), (.int (0 : Int32))] (.int (0 : Int32)) := Arv.set Ar147 q147 S147 M147 H147 G147 rfl W148 1 rfl (Nat.le_of_ble_eq_true rfl)
        have g149 : Goes p e below S0 (T148.setTop (mkF m 133 #[iv i0, iv i1, iv i2, iv i3, iv i4, rv b38, iv (3 : Int32), iv (nI0 i4), iv (nI1 i4), iv (nI2 i4), .unset, .unset, .unset, .unset, .unset, .unset] [(.ref b140)])) := fun t k => g146 t (st148 t k)
        have g150 : Goes p e below S0 (T148.setTop (mkF m 137 #[iv i0, iv i1, iv i2, iv i3, iv i4, rv b38, iv (3 : Int32), iv (nI0 i4), iv (nI1 i4), iv (nI2 i4), .unset, .unset, .unset, .unset, .unset, .unset] [(.int (nI2 i4)), (.int (2 : Int32)), (.ref b140), (.ref b140)])) := fun t k => g149 t (by
          refine XS.dup X148.here hx rfl (hb hby at_133) rfl rfl ?_
          show Go p e below t T148 m 134 #[iv i0, iv i1, iv i2, iv i3, iv i4, rv b38, iv (3 : Int32), iv (nI0 i4), iv (nI1 i4), iv (nI2 i4), .unset, .unset, .unset, .unset, .unset, .unset] [(.ref b140), (.ref b140)]
          refine XT.iconstV X148.here hx rfl (2 : Int32) (hb hby at_134) (by decide) ?_
          show Go p e below t T148 m 135 #[iv i0, iv i1, iv i2, iv i3, iv i4, rv b38, iv (3 : Int32), iv (nI0 i4), iv (nI1 i4), iv (nI2 i4), .unset, .unset, .unset, .unset, .unset, .unset] [(.int (2 : Int32)), (.ref b140), (.ref b140)]
          refine XS.iload X148.here hx rfl (hb hby at_135) rfl ?_
          show Go p e below t T148 m 137 #[iv i0, iv i1, iv i2, iv i3, iv i4, rv b38, iv (3 : Int32), iv (nI0 i4), iv (nI1 i4), iv (nI2 i4), .unset, .unset, .unset, .unset, .unset, .unset] [(.int (nI2 i4)), (.int (2 : Int32)), (.ref b140), (.ref b140)]
          exact k)
        obtain ⟨cl151, Ar151, q151, S151, M151, H151, G151⟩ := id V148
        obtain ⟨T152, h152, X152, e152, W152, st152⟩ := stI X148 hx hZ e148 Ar151 (j := (2 : Int32)) (inb_of S151 ⟨by decide, by decide⟩) (g := (mkF m 137 #[iv i0, iv i1, iv i2, iv i3, iv i4, rv b38, iv (3 : Int32), iv (nI0 i4), iv (nI1 i4), iv (nI2 i4), .unset, .unset, .unset, .unset, .unset, .unset] [(.int (nI2 i4)), (.int (2 : Int32)), (.ref b140), (.ref b140)])) rfl rfl (hb hby at_137)
        have N152 := Fr.snoc X152 N148 ng140
        have V152 : Arv Z h152 b140 k140 .int (3 : Int32) [(.int (nI0 i4)), (.int (nI1 i4)), (.int (nI2 i4))] (.int (0 : Int32)) := Arv.set Ar151 q151 S151 M151 H151 G151 rfl W152 2 rfl (Nat.le_of_ble_eq_true rfl)
        have g153 : Goes p e below S0 (T152.setTop (mkF m 138 #[iv i0, iv i1, iv i2, iv i3, iv i4, rv b38, iv (3 : Int32), iv (nI0 i4), iv (nI1 i4), iv (nI2 i4), .unset, .unset, .unset, .unset, .unset, .unset] [(.ref b140)])) := fun t k => g150 t (st152 t k)
        have g154 : Goes p e below S0 (T152.setTop (mkF m 154 #[iv i0, iv i1, iv i2, iv i3, iv i4, rv b38, iv (3 : Int32), iv (nI0 i4), iv (nI1 i4), iv (nI2 i4), rv b140, .val (.long (1 : Int64)), .second, .unset, .unset, .unset] [(.int (nI0 i4)), (.ref b38), (.long (1 : Int64))])) := fun t k => g153 t (by
          refine XS.astore X152.here hx rfl (hb hby at_138) rfl rfl (l' := #[iv i0, iv i1, iv i2, iv i3, iv i4, rv b38, iv (3 : Int32), iv (nI0 i4), iv (nI1 i4), iv (nI2 i4), rv b140, .unset, .unset, .unset, .unset, .unset]) rfl ?_
          show Go p e below t T152 m 140 #[iv i0, iv i1, iv i2, iv i3, iv i4, rv b38, iv (3 : Int32), iv (nI0 i4), iv (nI1 i4), iv (nI2 i4), rv b140, .unset, .unset, .unset, .unset, .unset] []
          refine XT.lconstV X152.here hx rfl (1 : Int64) (hb hby at_140) (by decide) ?_
          show Go p e below t T152 m 141 #[iv i0, iv i1, iv i2, iv i3, iv i4, rv b38, iv (3 : Int32), iv (nI0 i4), iv (nI1 i4), iv (nI2 i4), rv b140, .unset, .unset, .unset, .unset, .unset] [(.long (1 : Int64))]
          refine XS.lstore X152.here hx rfl (hb hby at_141) rfl (l' := #[iv i0, iv i1, iv i2, iv i3, iv i4, rv b38, iv (3 : Int32), iv (nI0 i4), iv (nI1 i4), iv (nI2 i4), rv b140, .val (.long (1 : Int64)), .second, .unset, .unset, .unset]) rfl ?_
          show Go p e below t T152 m 143 #[iv i0, iv i1, iv i2, iv i3, iv i4, rv b38, iv (3 : Int32), iv (nI0 i4), iv (nI1 i4), iv (nI2 i4), rv b140, .val (.long (1 : Int64)), .second, .unset, .unset, .unset] []
          refine XS.iload X152.here hx rfl (hb hby at_143) rfl ?_
          show Go p e below t T152 m 145 #[iv i0, iv i1, iv i2, iv i3, iv i4, rv b38, iv (3 : Int32), iv (nI0 i4), iv (nI1 i4), iv (nI2 i4), rv b140, .val (.long (1 : Int64)), .second, .unset, .unset, .unset] [(.int (3 : Int32))]
          refine XS.ifNo X152.here hx rfl (hb hby at_145) rfl (XT.i0_le_f (by decide)) ?_
          show Go p e below t T152 m 148 #[iv i0, iv i1, iv i2, iv i3, iv i4, rv b38, iv (3 : Int32), iv (nI0 i4), iv (nI1 i4), iv (nI2 i4), rv b140, .val (.long (1 : Int64)), .second, .unset, .unset, .unset] []
          refine XS.lload X152.here hx rfl (hb hby at_148) rfl ?_
          show Go p e below t T152 m 150 #[iv i0, iv i1, iv i2, iv i3, iv i4, rv b38, iv (3 : Int32), iv (nI0 i4), iv (nI1 i4), iv (nI2 i4), rv b140, .val (.long (1 : Int64)), .second, .unset, .unset, .unset] [(.long (1 : Int64))]
          refine XS.aload X152.here hx rfl (hb hby at_150) rfl rfl ?_
          show Go p e below t T152 m 152 #[iv i0, iv i1, iv i2, iv i3, iv i4, rv b38, iv (3 : Int32), iv (nI0 i4), iv (nI1 i4), iv (nI2 i4), rv b140, .val (.long (1 : Int64)), .second, .unset, .unset, .unset] [(.ref b38), (.long (1 : Int64))]
          refine XS.iload X152.here hx rfl (hb hby at_152) rfl ?_
          show Go p e below t T152 m 154 #[iv i0, iv i1, iv i2, iv i3, iv i4, rv b38, iv (3 : Int32), iv (nI0 i4), iv (nI1 i4), iv (nI2 i4), rv b140, .val (.long (1 : Int64)), .second, .unset, .unset, .unset] [(.int (nI0 i4)), (.ref b38), (.long (1 : Int64))]
          exact k)
        obtain ⟨cl155, Ar155, q155, S155, M155, H155, G155⟩ := id ((((V54.ext E140).other W144 (Nat.ne_of_lt (Nat.lt_of_lt_of_le V54.lt (Nat.le_of_eq gb140.symm)))).other W148 (Nat.ne_of_lt (Nat.lt_of_lt_of_le V54.lt (Nat.le_of_eq gb140.symm)))).other W152 (Nat.ne_of_lt (Nat.lt_of_lt_of_le V54.lt (Nat.le_of_eq gb140.symm))))
        have g156 : Goes p e below S0 (T152.setTop (mkF m 171 #[iv i0, iv i1, iv i2, iv i3, iv i4, rv b38, iv (3 : Int32), iv (nI0 i4), iv (nI1 i4), iv (nI2 i4), rv b140, .val (.long ((1 : Int64) * ((own_sel (nS i0) (nS i1) (nS i2) (nS i3) (nI0 i4)).toInt64))), .second, .unset, .unset, .unset] [(.int (nI1 i4)), (.ref b38), (.long ((1 : Int64) * ((own_sel (nS i0) (nS i1) (nS i2) (nS i3) (nI0 i4)).toInt64)))])) := fun t k => g154 t (by
          refine X152.iaload hx (j := (nI0 i4)) (v := (.int (own_sel (nS i0) (nS i1) (nS i2) (nS i3) (nI0 i4)))) (by rw [e152]; exact Ar155.1) (State.isArrayOf_alike hZ.alike Ar155.2.1) Ar155.2.2 (inb_of S155 (own_in (own_b0 i4))) (H155.at (inb_of S155 (own_in (own_b0 i4))) (own_at (own_b0 i4) _ _ _ _)) (g := (mkF m 154 #[iv i0, iv i1, iv i2, iv i3, iv i4, rv b38, iv (3 : Int32), iv (nI0 i4), iv (nI1 i4), iv (nI2 i4), rv b140, .val (.long (1 : Int64)), .second, .unset, .unset, .unset] [(.int (nI0 i4)), (.ref b38), (.long (1 : Int64))])) rfl rfl (hb hby at_154) _ ?_
          show Go p e below t T152 m 155 #[iv i0, iv i1, iv i2, iv i3, iv i4, rv b38, iv (3 : Int32), iv (nI0 i4), iv (nI1 i4), iv (nI2 i4), rv b140, .val (.long (1 : Int64)), .second, .unset, .unset, .unset] [(.int (own_sel (nS i0) (nS i1) (nS i2) (nS i3) (nI0 i4))), (.long (1 : Int64))]
          refine XS.i2l X152.here hx rfl (hb hby at_155) rfl ?_
          show Go p e below t T152 m 156 #[iv i0, iv i1, iv i2, iv i3, iv i4, rv b38, iv (3 : Int32), iv (nI0 i4), iv (nI1 i4), iv (nI2 i4), rv b140, .val (.long (1 : Int64)), .second, .unset, .unset, .unset] [(.long ((own_sel (nS i0) (nS i1) (nS i2) (nS i3) (nI0 i4)).toInt64)), (.long (1 : Int64))]
          refine XS.lmul X152.here hx rfl (hb hby at_156) rfl ?_
          show Go p e below t T152 m 157 #[iv i0, iv i1, iv i2, iv i3, iv i4, rv b38, iv (3 : Int32), iv (nI0 i4), iv (nI1 i4), iv (nI2 i4), rv b140, .val (.long (1 : Int64)), .second, .unset, .unset, .unset] [(.long ((1 : Int64) * ((own_sel (nS i0) (nS i1) (nS i2) (nS i3) (nI0 i4)).toInt64)))]
          refine XS.lstore X152.here hx rfl (hb hby at_157) rfl (l' := #[iv i0, iv i1, iv i2, iv i3, iv i4, rv b38, iv (3 : Int32), iv (nI0 i4), iv (nI1 i4), iv (nI2 i4), rv b140, .val (.long ((1 : Int64) * ((own_sel (nS i0) (nS i1) (nS i2) (nS i3) (nI0 i4)).toInt64))), .second, .unset, .unset, .unset]) rfl ?_
          show Go p e below t T152 m 159 #[iv i0, iv i1, iv i2, iv i3, iv i4, rv b38, iv (3 : Int32), iv (nI0 i4), iv (nI1 i4), iv (nI2 i4), rv b140, .val (.long ((1 : Int64) * ((own_sel (nS i0) (nS i1) (nS i2) (nS i3) (nI0 i4)).toInt64))), .second, .unset, .unset, .unset] []
          refine XS.iload X152.here hx rfl (hb hby at_159) rfl ?_
          show Go p e below t T152 m 161 #[iv i0, iv i1, iv i2, iv i3, iv i4, rv b38, iv (3 : Int32), iv (nI0 i4), iv (nI1 i4), iv (nI2 i4), rv b140, .val (.long ((1 : Int64) * ((own_sel (nS i0) (nS i1) (nS i2) (nS i3) (nI0 i4)).toInt64))), .second, .unset, .unset, .unset] [(.int (3 : Int32))]
          refine XT.iconstV X152.here hx rfl (1 : Int32) (hb hby at_161) (by decide) ?_
          show Go p e below t T152 m 162 #[iv i0, iv i1, iv i2, iv i3, iv i4, rv b38, iv (3 : Int32), iv (nI0 i4), iv (nI1 i4), iv (nI2 i4), rv b140, .val (.long ((1 : Int64) * ((own_sel (nS i0) (nS i1) (nS i2) (nS i3) (nI0 i4)).toInt64))), .second, .unset, .unset, .unset] [(.int (1 : Int32)), (.int (3 : Int32))]
          refine XS.icmpNo X152.here hx rfl (hb hby at_162) rfl (XT.ii_le_f (by decide)) ?_
          show Go p e below t T152 m 165 #[iv i0, iv i1, iv i2, iv i3, iv i4, rv b38, iv (3 : Int32), iv (nI0 i4), iv (nI1 i4), iv (nI2 i4), rv b140, .val (.long ((1 : Int64) * ((own_sel (nS i0) (nS i1) (nS i2) (nS i3) (nI0 i4)).toInt64))), .second, .unset, .unset, .unset] []
          refine XS.lload X152.here hx rfl (hb hby at_165) rfl ?_
          show Go p e below t T152 m 167 #[iv i0, iv i1, iv i2, iv i3, iv i4, rv b38, iv (3 : Int32), iv (nI0 i4), iv (nI1 i4), iv (nI2 i4), rv b140, .val (.long ((1 : Int64) * ((own_sel (nS i0) (nS i1) (nS i2) (nS i3) (nI0 i4)).toInt64))), .second, .unset, .unset, .unset] [(.long ((1 : Int64) * ((own_sel (nS i0) (nS i1) (nS i2) (nS i3) (nI0 i4)).toInt64)))]
          refine XS.aload X152.here hx rfl (hb hby at_167) rfl rfl ?_
          show Go p e below t T152 m 169 #[iv i0, iv i1, iv i2, iv i3, iv i4, rv b38, iv (3 : Int32), iv (nI0 i4), iv (nI1 i4), iv (nI2 i4), rv b140, .val (.long ((1 : Int64) * ((own_sel (nS i0) (nS i1) (nS i2) (nS i3) (nI0 i4)).toInt64))), .second, .unset, .unset, .unset] [(.ref b38), (.long ((1 : Int64) * ((own_sel (nS i0) (nS i1) (nS i2) (nS i3) (nI0 i4)).toInt64)))]
          refine XS.iload X152.here hx rfl (hb hby at_169) rfl ?_
          show Go p e below t T152 m 171 #[iv i0, iv i1, iv i2, iv i3, iv i4, rv b38, iv (3 : Int32), iv (nI0 i4), iv (nI1 i4), iv (nI2 i4), rv b140, .val (.long ((1 : Int64) * ((own_sel (nS i0) (nS i1) (nS i2) (nS i3) (nI0 i4)).toInt64))), .second, .unset, .unset, .unset] [(.int (nI1 i4)), (.ref b38), (.long ((1 : Int64) * ((own_sel (nS i0) (nS i1) (nS i2) (nS i3) (nI0 i4)).toInt64)))]
          exact k)
        obtain ⟨cl157, Ar157, q157, S157, M157, H157, G157⟩ := id ((((V54.ext E140).other W144 (Nat.ne_of_lt (Nat.lt_of_lt_of_le V54.lt (Nat.le_of_eq gb140.symm)))).other W148 (Nat.ne_of_lt (Nat.lt_of_lt_of_le V54.lt (Nat.le_of_eq gb140.symm)))).other W152 (Nat.ne_of_lt (Nat.lt_of_lt_of_le V54.lt (Nat.le_of_eq gb140.symm))))
        have g158 : Goes p e below S0 (T152.setTop (mkF m 188 #[iv i0, iv i1, iv i2, iv i3, iv i4, rv b38, iv (3 : Int32), iv (nI0 i4), iv (nI1 i4), iv (nI2 i4), rv b140, .val (.long (((1 : Int64) * ((own_sel (nS i0) (nS i1) (nS i2) (nS i3) (nI0 i4)).toInt64)) * ((own_sel (nS i0) (nS i1) (nS i2) (nS i3) (nI1 i4)).toInt64))), .second, .unset, .unset, .unset] [(.int (nI2 i4)), (.ref b38), (.long (((1 : Int64) * ((own_sel (nS i0) (nS i1) (nS i2) (nS i3) (nI0 i4)).toInt64)) * ((own_sel (nS i0) (nS i1) (nS i2) (nS i3) (nI1 i4)).toInt64)))])) := fun t k => g156 t (by
          refine X152.iaload hx (j := (nI1 i4)) (v := (.int (own_sel (nS i0) (nS i1) (nS i2) (nS i3) (nI1 i4)))) (by rw [e152]; exact Ar157.1) (State.isArrayOf_alike hZ.alike Ar157.2.1) Ar157.2.2 (inb_of S157 (own_in (own_b1 i4))) (H157.at (inb_of S157 (own_in (own_b1 i4))) (own_at (own_b1 i4) _ _ _ _)) (g := (mkF m 171 #[iv i0, iv i1, iv i2, iv i3, iv i4, rv b38, iv (3 : Int32), iv (nI0 i4), iv (nI1 i4), iv (nI2 i4), rv b140, .val (.long ((1 : Int64) * ((own_sel (nS i0) (nS i1) (nS i2) (nS i3) (nI0 i4)).toInt64))), .second, .unset, .unset, .unset] [(.int (nI1 i4)), (.ref b38), (.long ((1 : Int64) * ((own_sel (nS i0) (nS i1) (nS i2) (nS i3) (nI0 i4)).toInt64)))])) rfl rfl (hb hby at_171) _ ?_
          show Go p e below t T152 m 172 #[iv i0, iv i1, iv i2, iv i3, iv i4, rv b38, iv (3 : Int32), iv (nI0 i4), iv (nI1 i4), iv (nI2 i4), rv b140, .val (.long ((1 : Int64) * ((own_sel (nS i0) (nS i1) (nS i2) (nS i3) (nI0 i4)).toInt64))), .second, .unset, .unset, .unset] [(.int (own_sel (nS i0) (nS i1) (nS i2) (nS i3) (nI1 i4))), (.long ((1 : Int64) * ((own_sel (nS i0) (nS i1) (nS i2) (nS i3) (nI0 i4)).toInt64)))]
          refine XS.i2l X152.here hx rfl (hb hby at_172) rfl ?_
          show Go p e below t T152 m 173 #[iv i0, iv i1, iv i2, iv i3, iv i4, rv b38, iv (3 : Int32), iv (nI0 i4), iv (nI1 i4), iv (nI2 i4), rv b140, .val (.long ((1 : Int64) * ((own_sel (nS i0) (nS i1) (nS i2) (nS i3) (nI0 i4)).toInt64))), .second, .unset, .unset, .unset] [(.long ((own_sel (nS i0) (nS i1) (nS i2) (nS i3) (nI1 i4)).toInt64)), (.long ((1 : Int64) * ((own_sel (nS i0) (nS i1) (nS i2) (nS i3) (nI0 i4)).toInt64)))]
          refine XS.lmul X152.here hx rfl (hb hby at_173) rfl ?_
          show Go p e below t T152 m 174 #[iv i0, iv i1, iv i2, iv i3, iv i4, rv b38, iv (3 : Int32), iv (nI0 i4), iv (nI1 i4), iv (nI2 i4), rv b140, .val (.long ((1 : Int64) * ((own_sel (nS i0) (nS i1) (nS i2) (nS i3) (nI0 i4)).toInt64))), .second, .unset, .unset, .unset] [(.long (((1 : Int64) * ((own_sel (nS i0) (nS i1) (nS i2) (nS i3) (nI0 i4)).toInt64)) * ((own_sel (nS i0) (nS i1) (nS i2) (nS i3) (nI1 i4)).toInt64)))]
          refine XS.lstore X152.here hx rfl (hb hby at_174) rfl (l' := #[iv i0, iv i1, iv i2, iv i3, iv i4, rv b38, iv (3 : Int32), iv (nI0 i4), iv (nI1 i4), iv (nI2 i4), rv b140, .val (.long (((1 : Int64) * ((own_sel (nS i0) (nS i1) (nS i2) (nS i3) (nI0 i4)).toInt64)) * ((own_sel (nS i0) (nS i1) (nS i2) (nS i3) (nI1 i4)).toInt64))), .second, .unset, .unset, .unset]) rfl ?_
          show Go p e below t T152 m 176 #[iv i0, iv i1, iv i2, iv i3, iv i4, rv b38, iv (3 : Int32), iv (nI0 i4), iv (nI1 i4), iv (nI2 i4), rv b140, .val (.long (((1 : Int64) * ((own_sel (nS i0) (nS i1) (nS i2) (nS i3) (nI0 i4)).toInt64)) * ((own_sel (nS i0) (nS i1) (nS i2) (nS i3) (nI1 i4)).toInt64))), .second, .unset, .unset, .unset] []
          refine XS.iload X152.here hx rfl (hb hby at_176) rfl ?_
          show Go p e below t T152 m 178 #[iv i0, iv i1, iv i2, iv i3, iv i4, rv b38, iv (3 : Int32), iv (nI0 i4), iv (nI1 i4), iv (nI2 i4), rv b140, .val (.long (((1 : Int64) * ((own_sel (nS i0) (nS i1) (nS i2) (nS i3) (nI0 i4)).toInt64)) * ((own_sel (nS i0) (nS i1) (nS i2) (nS i3) (nI1 i4)).toInt64))), .second, .unset, .unset, .unset] [(.int (3 : Int32))]
          refine XT.iconstV X152.here hx rfl (2 : Int32) (hb hby at_178) (by decide) ?_
          show Go p e below t T152 m 179 #[iv i0, iv i1, iv i2, iv i3, iv i4, rv b38, iv (3 : Int32), iv (nI0 i4), iv (nI1 i4), iv (nI2 i4), rv b140, .val (.long (((1 : Int64) * ((own_sel (nS i0) (nS i1) (nS i2) (nS i3) (nI0 i4)).toInt64)) * ((own_sel (nS i0) (nS i1) (nS i2) (nS i3) (nI1 i4)).toInt64))), .second, .unset, .unset, .unset] [(.int (2 : Int32)), (.int (3 : Int32))]
          refine XS.icmpNo X152.here hx rfl (hb hby at_179) rfl (XT.ii_le_f (by decide)) ?_
          show Go p e below t T152 m 182 #[iv i0, iv i1, iv i2, iv i3, iv i4, rv b38, iv (3 : Int32), iv (nI0 i4), iv (nI1 i4), iv (nI2 i4), rv b140, .val (.long (((1 : Int64) * ((own_sel (nS i0) (nS i1) (nS i2) (nS i3) (nI0 i4)).toInt64)) * ((own_sel (nS i0) (nS i1) (nS i2) (nS i3) (nI1 i4)).toInt64))), .second, .unset, .unset, .unset] []
          refine XS.lload X152.here hx rfl (hb hby at_182) rfl ?_
          show Go p e below t T152 m 184 #[iv i0, iv i1, iv i2, iv i3, iv i4, rv b38, iv (3 : Int32), iv (nI0 i4), iv (nI1 i4), iv (nI2 i4), rv b140, .val (.long (((1 : Int64) * ((own_sel (nS i0) (nS i1) (nS i2) (nS i3) (nI0 i4)).toInt64)) * ((own_sel (nS i0) (nS i1) (nS i2) (nS i3) (nI1 i4)).toInt64))), .second, .unset, .unset, .unset] [(.long (((1 : Int64) * ((own_sel (nS i0) (nS i1) (nS i2) (nS i3) (nI0 i4)).toInt64)) * ((own_sel (nS i0) (nS i1) (nS i2) (nS i3) (nI1 i4)).toInt64)))]
          refine XS.aload X152.here hx rfl (hb hby at_184) rfl rfl ?_
          show Go p e below t T152 m 186 #[iv i0, iv i1, iv i2, iv i3, iv i4, rv b38, iv (3 : Int32), iv (nI0 i4), iv (nI1 i4), iv (nI2 i4), rv b140, .val (.long (((1 : Int64) * ((own_sel (nS i0) (nS i1) (nS i2) (nS i3) (nI0 i4)).toInt64)) * ((own_sel (nS i0) (nS i1) (nS i2) (nS i3) (nI1 i4)).toInt64))), .second, .unset, .unset, .unset] [(.ref b38), (.long (((1 : Int64) * ((own_sel (nS i0) (nS i1) (nS i2) (nS i3) (nI0 i4)).toInt64)) * ((own_sel (nS i0) (nS i1) (nS i2) (nS i3) (nI1 i4)).toInt64)))]
          refine XS.iload X152.here hx rfl (hb hby at_186) rfl ?_
          show Go p e below t T152 m 188 #[iv i0, iv i1, iv i2, iv i3, iv i4, rv b38, iv (3 : Int32), iv (nI0 i4), iv (nI1 i4), iv (nI2 i4), rv b140, .val (.long (((1 : Int64) * ((own_sel (nS i0) (nS i1) (nS i2) (nS i3) (nI0 i4)).toInt64)) * ((own_sel (nS i0) (nS i1) (nS i2) (nS i3) (nI1 i4)).toInt64))), .second, .unset, .unset, .unset] [(.int (nI2 i4)), (.ref b38), (.long (((1 : Int64) * ((own_sel (nS i0) (nS i1) (nS i2) (nS i3) (nI0 i4)).toInt64)) * ((own_sel (nS i0) (nS i1) (nS i2) (nS i3) (nI1 i4)).toInt64)))]
          exact k)
        obtain ⟨cl159, Ar159, q159, S159, M159, H159, G159⟩ := id ((((V54.ext E140).other W144 (Nat.ne_of_lt (Nat.lt_of_lt_of_le V54.lt (Nat.le_of_eq gb140.symm)))).other W148 (Nat.ne_of_lt (Nat.lt_of_lt_of_le V54.lt (Nat.le_of_eq gb140.symm)))).other W152 (Nat.ne_of_lt (Nat.lt_of_lt_of_le V54.lt (Nat.le_of_eq gb140.symm))))
        have g160 : Goes p e below S0 (T152.setTop (mkF m 197 #[iv i0, iv i1, iv i2, iv i3, iv i4, rv b38, iv (3 : Int32), iv (nI0 i4), iv (nI1 i4), iv (nI2 i4), rv b140, .val (.long ((((1 : Int64) * ((own_sel (nS i0) (nS i1) (nS i2) (nS i3) (nI0 i4)).toInt64)) * ((own_sel (nS i0) (nS i1) (nS i2) (nS i3) (nI1 i4)).toInt64)) * ((own_sel (nS i0) (nS i1) (nS i2) (nS i3) (nI2 i4)).toInt64))), .second, .unset, .unset, .unset] [(.ref b38), (.ref b140)])) := fun t k => g158 t (by
          refine X152.iaload hx (j := (nI2 i4)) (v := (.int (own_sel (nS i0) (nS i1) (nS i2) (nS i3) (nI2 i4)))) (by rw [e152]; exact Ar159.1) (State.isArrayOf_alike hZ.alike Ar159.2.1) Ar159.2.2 (inb_of S159 (own_in (own_b2 i4))) (H159.at (inb_of S159 (own_in (own_b2 i4))) (own_at (own_b2 i4) _ _ _ _)) (g := (mkF m 188 #[iv i0, iv i1, iv i2, iv i3, iv i4, rv b38, iv (3 : Int32), iv (nI0 i4), iv (nI1 i4), iv (nI2 i4), rv b140, .val (.long (((1 : Int64) * ((own_sel (nS i0) (nS i1) (nS i2) (nS i3) (nI0 i4)).toInt64)) * ((own_sel (nS i0) (nS i1) (nS i2) (nS i3) (nI1 i4)).toInt64))), .second, .unset, .unset, .unset] [(.int (nI2 i4)), (.ref b38), (.long (((1 : Int64) * ((own_sel (nS i0) (nS i1) (nS i2) (nS i3) (nI0 i4)).toInt64)) * ((own_sel (nS i0) (nS i1) (nS i2) (nS i3) (nI1 i4)).toInt64)))])) rfl rfl (hb hby at_188) _ ?_
          show Go p e below t T152 m 189 #[iv i0, iv i1, iv i2, iv i3, iv i4, rv b38, iv (3 : Int32), iv (nI0 i4), iv (nI1 i4), iv (nI2 i4), rv b140, .val (.long (((1 : Int64) * ((own_sel (nS i0) (nS i1) (nS i2) (nS i3) (nI0 i4)).toInt64)) * ((own_sel (nS i0) (nS i1) (nS i2) (nS i3) (nI1 i4)).toInt64))), .second, .unset, .unset, .unset] [(.int (own_sel (nS i0) (nS i1) (nS i2) (nS i3) (nI2 i4))), (.long (((1 : Int64) * ((own_sel (nS i0) (nS i1) (nS i2) (nS i3) (nI0 i4)).toInt64)) * ((own_sel (nS i0) (nS i1) (nS i2) (nS i3) (nI1 i4)).toInt64)))]
          refine XS.i2l X152.here hx rfl (hb hby at_189) rfl ?_
          show Go p e below t T152 m 190 #[iv i0, iv i1, iv i2, iv i3, iv i4, rv b38, iv (3 : Int32), iv (nI0 i4), iv (nI1 i4), iv (nI2 i4), rv b140, .val (.long (((1 : Int64) * ((own_sel (nS i0) (nS i1) (nS i2) (nS i3) (nI0 i4)).toInt64)) * ((own_sel (nS i0) (nS i1) (nS i2) (nS i3) (nI1 i4)).toInt64))), .second, .unset, .unset, .unset] [(.long ((own_sel (nS i0) (nS i1) (nS i2) (nS i3) (nI2 i4)).toInt64)), (.long (((1 : Int64) * ((own_sel (nS i0) (nS i1) (nS i2) (nS i3) (nI0 i4)).toInt64)) * ((own_sel (nS i0) (nS i1) (nS i2) (nS i3) (nI1 i4)).toInt64)))]
          refine XS.lmul X152.here hx rfl (hb hby at_190) rfl ?_
          show Go p e below t T152 m 191 #[iv i0, iv i1, iv i2, iv i3, iv i4, rv b38, iv (3 : Int32), iv (nI0 i4), iv (nI1 i4), iv (nI2 i4), rv b140, .val (.long (((1 : Int64) * ((own_sel (nS i0) (nS i1) (nS i2) (nS i3) (nI0 i4)).toInt64)) * ((own_sel (nS i0) (nS i1) (nS i2) (nS i3) (nI1 i4)).toInt64))), .second, .unset, .unset, .unset] [(.long ((((1 : Int64) * ((own_sel (nS i0) (nS i1) (nS i2) (nS i3) (nI0 i4)).toInt64)) * ((own_sel (nS i0) (nS i1) (nS i2) (nS i3) (nI1 i4)).toInt64)) * ((own_sel (nS i0) (nS i1) (nS i2) (nS i3) (nI2 i4)).toInt64)))]
          refine XS.lstore X152.here hx rfl (hb hby at_191) rfl (l' := #[iv i0, iv i1, iv i2, iv i3, iv i4, rv b38, iv (3 : Int32), iv (nI0 i4), iv (nI1 i4), iv (nI2 i4), rv b140, .val (.long ((((1 : Int64) * ((own_sel (nS i0) (nS i1) (nS i2) (nS i3) (nI0 i4)).toInt64)) * ((own_sel (nS i0) (nS i1) (nS i2) (nS i3) (nI1 i4)).toInt64)) * ((own_sel (nS i0) (nS i1) (nS i2) (nS i3) (nI2 i4)).toInt64))), .second, .unset, .unset, .unset]) rfl ?_
          show Go p e below t T152 m 193 #[iv i0, iv i1, iv i2, iv i3, iv i4, rv b38, iv (3 : Int32), iv (nI0 i4), iv (nI1 i4), iv (nI2 i4), rv b140, .val (.long ((((1 : Int64) * ((own_sel (nS i0) (nS i1) (nS i2) (nS i3) (nI0 i4)).toInt64)) * ((own_sel (nS i0) (nS i1) (nS i2) (nS i3) (nI1 i4)).toInt64)) * ((own_sel (nS i0) (nS i1) (nS i2) (nS i3) (nI2 i4)).toInt64))), .second, .unset, .unset, .unset] []
          refine XS.aload X152.here hx rfl (hb hby at_193) rfl rfl ?_
          show Go p e below t T152 m 195 #[iv i0, iv i1, iv i2, iv i3, iv i4, rv b38, iv (3 : Int32), iv (nI0 i4), iv (nI1 i4), iv (nI2 i4), rv b140, .val (.long ((((1 : Int64) * ((own_sel (nS i0) (nS i1) (nS i2) (nS i3) (nI0 i4)).toInt64)) * ((own_sel (nS i0) (nS i1) (nS i2) (nS i3) (nI1 i4)).toInt64)) * ((own_sel (nS i0) (nS i1) (nS i2) (nS i3) (nI2 i4)).toInt64))), .second, .unset, .unset, .unset] [(.ref b140)]
          refine XS.aload X152.here hx rfl (hb hby at_195) rfl rfl ?_
          show Go p e below t T152 m 197 #[iv i0, iv i1, iv i2, iv i3, iv i4, rv b38, iv (3 : Int32), iv (nI0 i4), iv (nI1 i4), iv (nI2 i4), rv b140, .val (.long ((((1 : Int64) * ((own_sel (nS i0) (nS i1) (nS i2) (nS i3) (nI0 i4)).toInt64)) * ((own_sel (nS i0) (nS i1) (nS i2) (nS i3) (nI1 i4)).toInt64)) * ((own_sel (nS i0) (nS i1) (nS i2) (nS i3) (nI2 i4)).toInt64))), .second, .unset, .unset, .unset] [(.ref b38), (.ref b140)]
          exact k)
        obtain ⟨_, _, ⟨T161, L161, k161, n161⟩, -, X161, ⟨Lc161, hQ161, l161, y161, z161⟩, st161⟩ := Jvm.LawKit.callS X152 hx (y := (⟨"com/example/aristotle/aristotle/EliminationPlan", "entries", "([I[I)D"⟩ : MethodName)) hown (mvT hZ (hw _ (List.mem_of_getElem? (i := 2) rfl))) (mvT hZ (hw _ (List.mem_of_getElem? (i := 3) rfl))) (mvT hZ (hw _ (List.mem_of_getElem? (i := 4) rfl))) (mvT hZ (hw _ (List.mem_of_getElem? (i := 5) rfl))) (by decide) (backOf (W := 0) (rm_ent3 l Z a0 hw [] b140 b38 k140 k38 (nI0 i4) (nI1 i4) (nI2 i4) (nS i0) (nS i1) (nS i2) (nS i3) h152 n0 (Nat.le_trans Z0 (Nat.le_trans (Nat.le_trans (Nat.le_trans (Nat.le_trans (Nat.le_trans (Nat.le_trans (Nat.le_trans (Nat.le_trans (Nat.le_trans (Nat.le_refl _) E38.1) (Nat.le_of_eq W42.size.symm)) (Nat.le_of_eq W46.size.symm)) (Nat.le_of_eq W50.size.symm)) (Nat.le_of_eq W54.size.symm)) E140.1) (Nat.le_of_eq W144.size.symm)) (Nat.le_of_eq W148.size.symm)) (Nat.le_of_eq W152.size.symm))) V152 ((((V54.ext E140).other W144 (Nat.ne_of_lt (Nat.lt_of_lt_of_le V54.lt (Nat.le_of_eq gb140.symm)))).other W148 (Nat.ne_of_lt (Nat.lt_of_lt_of_le V54.lt (Nat.le_of_eq gb140.symm)))).other W152 (Nat.ne_of_lt (Nat.lt_of_lt_of_le V54.lt (Nat.le_of_eq gb140.symm)))) (own_b0 i4) (own_b1 i4) (own_b2 i4) (fun _ _ _ => own_nn1) (fun _ _ _ => own_nn2) (fun _ _ _ => own_nn3)) hZ (hw _ (List.mem_of_getElem? (i := 5) rfl)) (hw _ (List.mem_of_getElem? (i := 4) rfl)) (by decide) (by decide)) (g := (mkF m 197 #[iv i0, iv i1, iv i2, iv i3, iv i4, rv b38, iv (3 : Int32), iv (nI0 i4), iv (nI1 i4), iv (nI2 i4), rv b140, .val (.long ((((1 : Int64) * ((own_sel (nS i0) (nS i1) (nS i2) (nS i3) (nI0 i4)).toInt64)) * ((own_sel (nS i0) (nS i1) (nS i2) (nS i3) (nI1 i4)).toInt64)) * ((own_sel (nS i0) (nS i1) (nS i2) (nS i3) (nI2 i4)).toInt64))), .second, .unset, .unset, .unset] [(.ref b38), (.ref b140)])) rfl (by rw [hml]; rfl) (argsL := [(.ref b140), (.ref b38)]) (rest := []) (lenOf pd0 rfl) rfl (by show 2 * 0 + _ ≤ _; exact Nat.le_of_eq rfl) (hb hby at_197) (fun _ _ => ⟨rfl, e152, (by decide : 2 + 0 ≤ _), (by decide : 7 + 0 ≤ _)⟩)
        dsimp only [Pt.U, Pt.locs, Pt.cells, Pt.slots] at X161 l161 y161 z161 st161 hQ161
        subst l161 y161 z161
        obtain ⟨rfl, N161, e161⟩ := hQ161
        have M161 := Fr.app N152 N161
        have g162 : Goes p e below S0 (T161.setTop (mkF m 200 #[iv i0, iv i1, iv i2, iv i3, iv i4, rv b38, iv (3 : Int32), iv (nI0 i4), iv (nI1 i4), iv (nI2 i4), rv b140, .val (.long ((((1 : Int64) * ((own_sel (nS i0) (nS i1) (nS i2) (nS i3) (nI0 i4)).toInt64)) * ((own_sel (nS i0) (nS i1) (nS i2) (nS i3) (nI1 i4)).toInt64)) * ((own_sel (nS i0) (nS i1) (nS i2) (nS i3) (nI2 i4)).toInt64))), .second, .unset, .unset, .unset] [(.double (f_ent3  (nI0 i4) (nI1 i4) (nI2 i4) (nS i0) (nS i1) (nS i2) (nS i3)))])) := fun t k => g160 t (st161 t k)
        have g163 : Goes p e below S0 (T161.setTop (mkF m 225 #[iv i0, iv i1, iv i2, iv i3, iv i4, rv b38, iv (3 : Int32), iv (nI0 i4), iv (nI1 i4), iv (nI2 i4), rv b140, .val (.long ((((1 : Int64) * ((own_sel (nS i0) (nS i1) (nS i2) (nS i3) (nI0 i4)).toInt64)) * ((own_sel (nS i0) (nS i1) (nS i2) (nS i3) (nI1 i4)).toInt64)) * ((own_sel (nS i0) (nS i1) (nS i2) (nS i3) (nI2 i4)).toInt64))), .second, .val (.double (f_ent3  (nI0 i4) (nI1 i4) (nI2 i4) (nS i0) (nS i1) (nS i2) (nS i3))), .second, iv (1 : Int32)] [(.ref b140)])) := fun t k => g162 t (by
          refine XS.dstore X161.here hx rfl (hb hby at_200) rfl (l' := #[iv i0, iv i1, iv i2, iv i3, iv i4, rv b38, iv (3 : Int32), iv (nI0 i4), iv (nI1 i4), iv (nI2 i4), rv b140, .val (.long ((((1 : Int64) * ((own_sel (nS i0) (nS i1) (nS i2) (nS i3) (nI0 i4)).toInt64)) * ((own_sel (nS i0) (nS i1) (nS i2) (nS i3) (nI1 i4)).toInt64)) * ((own_sel (nS i0) (nS i1) (nS i2) (nS i3) (nI2 i4)).toInt64))), .second, .val (.double (f_ent3  (nI0 i4) (nI1 i4) (nI2 i4) (nS i0) (nS i1) (nS i2) (nS i3))), .second, .unset]) rfl ?_
          show Go p e below t T161 m 202 #[iv i0, iv i1, iv i2, iv i3, iv i4, rv b38, iv (3 : Int32), iv (nI0 i4), iv (nI1 i4), iv (nI2 i4), rv b140, .val (.long ((((1 : Int64) * ((own_sel (nS i0) (nS i1) (nS i2) (nS i3) (nI0 i4)).toInt64)) * ((own_sel (nS i0) (nS i1) (nS i2) (nS i3) (nI1 i4)).toInt64)) * ((own_sel (nS i0) (nS i1) (nS i2) (nS i3) (nI2 i4)).toInt64))), .second, .val (.double (f_ent3  (nI0 i4) (nI1 i4) (nI2 i4) (nS i0) (nS i1) (nS i2) (nS i3))), .second, .unset] []
          refine XS.dload X161.here hx rfl (hb hby at_202) rfl ?_
          show Go p e below t T161 m 204 #[iv i0, iv i1, iv i2, iv i3, iv i4, rv b38, iv (3 : Int32), iv (nI0 i4), iv (nI1 i4), iv (nI2 i4), rv b140, .val (.long ((((1 : Int64) * ((own_sel (nS i0) (nS i1) (nS i2) (nS i3) (nI0 i4)).toInt64)) * ((own_sel (nS i0) (nS i1) (nS i2) (nS i3) (nI1 i4)).toInt64)) * ((own_sel (nS i0) (nS i1) (nS i2) (nS i3) (nI2 i4)).toInt64))), .second, .val (.double (f_ent3  (nI0 i4) (nI1 i4) (nI2 i4) (nS i0) (nS i1) (nS i2) (nS i3))), .second, .unset] [(.double (f_ent3  (nI0 i4) (nI1 i4) (nI2 i4) (nS i0) (nS i1) (nS i2) (nS i3)))]
          refine XS.lload X161.here hx rfl (hb hby at_204) rfl ?_
          show Go p e below t T161 m 206 #[iv i0, iv i1, iv i2, iv i3, iv i4, rv b38, iv (3 : Int32), iv (nI0 i4), iv (nI1 i4), iv (nI2 i4), rv b140, .val (.long ((((1 : Int64) * ((own_sel (nS i0) (nS i1) (nS i2) (nS i3) (nI0 i4)).toInt64)) * ((own_sel (nS i0) (nS i1) (nS i2) (nS i3) (nI1 i4)).toInt64)) * ((own_sel (nS i0) (nS i1) (nS i2) (nS i3) (nI2 i4)).toInt64))), .second, .val (.double (f_ent3  (nI0 i4) (nI1 i4) (nI2 i4) (nS i0) (nS i1) (nS i2) (nS i3))), .second, .unset] [(.long ((((1 : Int64) * ((own_sel (nS i0) (nS i1) (nS i2) (nS i3) (nI0 i4)).toInt64)) * ((own_sel (nS i0) (nS i1) (nS i2) (nS i3) (nI1 i4)).toInt64)) * ((own_sel (nS i0) (nS i1) (nS i2) (nS i3) (nI2 i4)).toInt64))), (.double (f_ent3  (nI0 i4) (nI1 i4) (nI2 i4) (nS i0) (nS i1) (nS i2) (nS i3)))]
          refine XS.l2dS X161.here hx rfl (hb hby at_206) rfl rfl ?_
          show Go p e below t T161 m 207 #[iv i0, iv i1, iv i2, iv i3, iv i4, rv b38, iv (3 : Int32), iv (nI0 i4), iv (nI1 i4), iv (nI2 i4), rv b140, .val (.long ((((1 : Int64) * ((own_sel (nS i0) (nS i1) (nS i2) (nS i3) (nI0 i4)).toInt64)) * ((own_sel (nS i0) (nS i1) (nS i2) (nS i3) (nI1 i4)).toInt64)) * ((own_sel (nS i0) (nS i1) (nS i2) (nS i3) (nI2 i4)).toInt64))), .second, .val (.double (f_ent3  (nI0 i4) (nI1 i4) (nI2 i4) (nS i0) (nS i1) (nS i2) (nS i3))), .second, .unset] [(.double (FP.l2d ((((1 : Int64) * ((own_sel (nS i0) (nS i1) (nS i2) (nS i3) (nI0 i4)).toInt64)) * ((own_sel (nS i0) (nS i1) (nS i2) (nS i3) (nI1 i4)).toInt64)) * ((own_sel (nS i0) (nS i1) (nS i2) (nS i3) (nI2 i4)).toInt64)))), (.double (f_ent3  (nI0 i4) (nI1 i4) (nI2 i4) (nS i0) (nS i1) (nS i2) (nS i3)))]
          refine XS.dcmpS X161.here hx rfl (hb hby at_207) rfl rfl ?_
          show Go p e below t T161 m 208 #[iv i0, iv i1, iv i2, iv i3, iv i4, rv b38, iv (3 : Int32), iv (nI0 i4), iv (nI1 i4), iv (nI2 i4), rv b140, .val (.long ((((1 : Int64) * ((own_sel (nS i0) (nS i1) (nS i2) (nS i3) (nI0 i4)).toInt64)) * ((own_sel (nS i0) (nS i1) (nS i2) (nS i3) (nI1 i4)).toInt64)) * ((own_sel (nS i0) (nS i1) (nS i2) (nS i3) (nI2 i4)).toInt64))), .second, .val (.double (f_ent3  (nI0 i4) (nI1 i4) (nI2 i4) (nS i0) (nS i1) (nS i2) (nS i3))), .second, .unset] [(.int (cmpValue (FP.dcmp (f_ent3  (nI0 i4) (nI1 i4) (nI2 i4) (nS i0) (nS i1) (nS i2) (nS i3)) (FP.l2d ((((1 : Int64) * ((own_sel (nS i0) (nS i1) (nS i2) (nS i3) (nI0 i4)).toInt64)) * ((own_sel (nS i0) (nS i1) (nS i2) (nS i3) (nI1 i4)).toInt64)) * ((own_sel (nS i0) (nS i1) (nS i2) (nS i3) (nI2 i4)).toInt64)))) .l))]
          refine XS.ifNo X161.here hx rfl (hb hby at_208) rfl (dc_l_ne_f own_eq3) ?_
          show Go p e below t T161 m 211 #[iv i0, iv i1, iv i2, iv i3, iv i4, rv b38, iv (3 : Int32), iv (nI0 i4), iv (nI1 i4), iv (nI2 i4), rv b140, .val (.long ((((1 : Int64) * ((own_sel (nS i0) (nS i1) (nS i2) (nS i3) (nI0 i4)).toInt64)) * ((own_sel (nS i0) (nS i1) (nS i2) (nS i3) (nI1 i4)).toInt64)) * ((own_sel (nS i0) (nS i1) (nS i2) (nS i3) (nI2 i4)).toInt64))), .second, .val (.double (f_ent3  (nI0 i4) (nI1 i4) (nI2 i4) (nS i0) (nS i1) (nS i2) (nS i3))), .second, .unset] []
          refine XT.iconstV X161.here hx rfl (1 : Int32) (hb hby at_211) (by decide) ?_
          show Go p e below t T161 m 212 #[iv i0, iv i1, iv i2, iv i3, iv i4, rv b38, iv (3 : Int32), iv (nI0 i4), iv (nI1 i4), iv (nI2 i4), rv b140, .val (.long ((((1 : Int64) * ((own_sel (nS i0) (nS i1) (nS i2) (nS i3) (nI0 i4)).toInt64)) * ((own_sel (nS i0) (nS i1) (nS i2) (nS i3) (nI1 i4)).toInt64)) * ((own_sel (nS i0) (nS i1) (nS i2) (nS i3) (nI2 i4)).toInt64))), .second, .val (.double (f_ent3  (nI0 i4) (nI1 i4) (nI2 i4) (nS i0) (nS i1) (nS i2) (nS i3))), .second, .unset] [(.int (1 : Int32))]
          refine XS.goto X161.here hx rfl (pc0 := 212) (pc' := 216) rfl (hb hby at_212) (by decide) (by decide) ?_
          show Go p e below t T161 m 216 #[iv i0, iv i1, iv i2, iv i3, iv i4, rv b38, iv (3 : Int32), iv (nI0 i4), iv (nI1 i4), iv (nI2 i4), rv b140, .val (.long ((((1 : Int64) * ((own_sel (nS i0) (nS i1) (nS i2) (nS i3) (nI0 i4)).toInt64)) * ((own_sel (nS i0) (nS i1) (nS i2) (nS i3) (nI1 i4)).toInt64)) * ((own_sel (nS i0) (nS i1) (nS i2) (nS i3) (nI2 i4)).toInt64))), .second, .val (.double (f_ent3  (nI0 i4) (nI1 i4) (nI2 i4) (nS i0) (nS i1) (nS i2) (nS i3))), .second, .unset] [(.int (1 : Int32))]
          refine XS.istore X161.here hx rfl (hb hby at_216) rfl (l' := #[iv i0, iv i1, iv i2, iv i3, iv i4, rv b38, iv (3 : Int32), iv (nI0 i4), iv (nI1 i4), iv (nI2 i4), rv b140, .val (.long ((((1 : Int64) * ((own_sel (nS i0) (nS i1) (nS i2) (nS i3) (nI0 i4)).toInt64)) * ((own_sel (nS i0) (nS i1) (nS i2) (nS i3) (nI1 i4)).toInt64)) * ((own_sel (nS i0) (nS i1) (nS i2) (nS i3) (nI2 i4)).toInt64))), .second, .val (.double (f_ent3  (nI0 i4) (nI1 i4) (nI2 i4) (nS i0) (nS i1) (nS i2) (nS i3))), .second, iv (1 : Int32)]) rfl ?_
          show Go p e below t T161 m 218 #[iv i0, iv i1, iv i2, iv i3, iv i4, rv b38, iv (3 : Int32), iv (nI0 i4), iv (nI1 i4), iv (nI2 i4), rv b140, .val (.long ((((1 : Int64) * ((own_sel (nS i0) (nS i1) (nS i2) (nS i3) (nI0 i4)).toInt64)) * ((own_sel (nS i0) (nS i1) (nS i2) (nS i3) (nI1 i4)).toInt64)) * ((own_sel (nS i0) (nS i1) (nS i2) (nS i3) (nI2 i4)).toInt64))), .second, .val (.double (f_ent3  (nI0 i4) (nI1 i4) (nI2 i4) (nS i0) (nS i1) (nS i2) (nS i3))), .second, iv (1 : Int32)] []
          refine XS.iload X161.here hx rfl (hb hby at_218) rfl ?_
          show Go p e below t T161 m 220 #[iv i0, iv i1, iv i2, iv i3, iv i4, rv b38, iv (3 : Int32), iv (nI0 i4), iv (nI1 i4), iv (nI2 i4), rv b140, .val (.long ((((1 : Int64) * ((own_sel (nS i0) (nS i1) (nS i2) (nS i3) (nI0 i4)).toInt64)) * ((own_sel (nS i0) (nS i1) (nS i2) (nS i3) (nI1 i4)).toInt64)) * ((own_sel (nS i0) (nS i1) (nS i2) (nS i3) (nI2 i4)).toInt64))), .second, .val (.double (f_ent3  (nI0 i4) (nI1 i4) (nI2 i4) (nS i0) (nS i1) (nS i2) (nS i3))), .second, iv (1 : Int32)] [(.int (1 : Int32))]
          refine XS.ifNo X161.here hx rfl (hb hby at_220) rfl (XT.i0_eq_f (by decide)) ?_
          show Go p e below t T161 m 223 #[iv i0, iv i1, iv i2, iv i3, iv i4, rv b38, iv (3 : Int32), iv (nI0 i4), iv (nI1 i4), iv (nI2 i4), rv b140, .val (.long ((((1 : Int64) * ((own_sel (nS i0) (nS i1) (nS i2) (nS i3) (nI0 i4)).toInt64)) * ((own_sel (nS i0) (nS i1) (nS i2) (nS i3) (nI1 i4)).toInt64)) * ((own_sel (nS i0) (nS i1) (nS i2) (nS i3) (nI2 i4)).toInt64))), .second, .val (.double (f_ent3  (nI0 i4) (nI1 i4) (nI2 i4) (nS i0) (nS i1) (nS i2) (nS i3))), .second, iv (1 : Int32)] []
          refine XS.aload X161.here hx rfl (hb hby at_223) rfl rfl ?_
          show Go p e below t T161 m 225 #[iv i0, iv i1, iv i2, iv i3, iv i4, rv b38, iv (3 : Int32), iv (nI0 i4), iv (nI1 i4), iv (nI2 i4), rv b140, .val (.long ((((1 : Int64) * ((own_sel (nS i0) (nS i1) (nS i2) (nS i3) (nI0 i4)).toInt64)) * ((own_sel (nS i0) (nS i1) (nS i2) (nS i3) (nI1 i4)).toInt64)) * ((own_sel (nS i0) (nS i1) (nS i2) (nS i3) (nI2 i4)).toInt64))), .second, .val (.double (f_ent3  (nI0 i4) (nI1 i4) (nI2 i4) (nS i0) (nS i1) (nS i2) (nS i3))), .second, iv (1 : Int32)] [(.ref b140)]
          exact k)
        obtain ⟨cl164, Ar164, q164, S164, M164, H164, G164⟩ := id V152
        have g165 : Goes p e below S0 (T161.setTop (mkF m 251 #[iv i0, iv i1, iv i2, iv i3, iv i4, rv b38, iv (3 : Int32), iv (nI0 i4), iv (nI1 i4), iv (nI2 i4), rv b140, .val (.long ((((1 : Int64) * ((own_sel (nS i0) (nS i1) (nS i2) (nS i3) (nI0 i4)).toInt64)) * ((own_sel (nS i0) (nS i1) (nS i2) (nS i3) (nI1 i4)).toInt64)) * ((own_sel (nS i0) (nS i1) (nS i2) (nS i3) (nI2 i4)).toInt64))), .second, .val (.double (f_ent3  (nI0 i4) (nI1 i4) (nI2 i4) (nS i0) (nS i1) (nS i2) (nS i3))), .second, iv (1 : Int32)] [(.int (0 : Int32)), (.ref b140)])) := fun t k => g163 t (by
          refine X161.arraylength hx (by rw [e161]; exact Ar164.1) (State.isArrayOf_alike hZ.alike Ar164.2.1) (g := (mkF m 225 #[iv i0, iv i1, iv i2, iv i3, iv i4, rv b38, iv (3 : Int32), iv (nI0 i4), iv (nI1 i4), iv (nI2 i4), rv b140, .val (.long ((((1 : Int64) * ((own_sel (nS i0) (nS i1) (nS i2) (nS i3) (nI0 i4)).toInt64)) * ((own_sel (nS i0) (nS i1) (nS i2) (nS i3) (nI1 i4)).toInt64)) * ((own_sel (nS i0) (nS i1) (nS i2) (nS i3) (nI2 i4)).toInt64))), .second, .val (.double (f_ent3  (nI0 i4) (nI1 i4) (nI2 i4) (nS i0) (nS i1) (nS i2) (nS i3))), .second, iv (1 : Int32)] [(.ref b140)])) rfl rfl (hb hby at_225) _ ?_
          rw [len_of S164 M164]
          show Go p e below t T161 m 226 #[iv i0, iv i1, iv i2, iv i3, iv i4, rv b38, iv (3 : Int32), iv (nI0 i4), iv (nI1 i4), iv (nI2 i4), rv b140, .val (.long ((((1 : Int64) * ((own_sel (nS i0) (nS i1) (nS i2) (nS i3) (nI0 i4)).toInt64)) * ((own_sel (nS i0) (nS i1) (nS i2) (nS i3) (nI1 i4)).toInt64)) * ((own_sel (nS i0) (nS i1) (nS i2) (nS i3) (nI2 i4)).toInt64))), .second, .val (.double (f_ent3  (nI0 i4) (nI1 i4) (nI2 i4) (nS i0) (nS i1) (nS i2) (nS i3))), .second, iv (1 : Int32)] [(.int (3 : Int32))]
          refine XS.iload X161.here hx rfl (hb hby at_226) rfl ?_
          show Go p e below t T161 m 228 #[iv i0, iv i1, iv i2, iv i3, iv i4, rv b38, iv (3 : Int32), iv (nI0 i4), iv (nI1 i4), iv (nI2 i4), rv b140, .val (.long ((((1 : Int64) * ((own_sel (nS i0) (nS i1) (nS i2) (nS i3) (nI0 i4)).toInt64)) * ((own_sel (nS i0) (nS i1) (nS i2) (nS i3) (nI1 i4)).toInt64)) * ((own_sel (nS i0) (nS i1) (nS i2) (nS i3) (nI2 i4)).toInt64))), .second, .val (.double (f_ent3  (nI0 i4) (nI1 i4) (nI2 i4) (nS i0) (nS i1) (nS i2) (nS i3))), .second, iv (1 : Int32)] [(.int (3 : Int32)), (.int (3 : Int32))]
          refine XS.icmpNo X161.here hx rfl (hb hby at_228) rfl (XT.ii_ne_f (by decide)) ?_
          show Go p e below t T161 m 231 #[iv i0, iv i1, iv i2, iv i3, iv i4, rv b38, iv (3 : Int32), iv (nI0 i4), iv (nI1 i4), iv (nI2 i4), rv b140, .val (.long ((((1 : Int64) * ((own_sel (nS i0) (nS i1) (nS i2) (nS i3) (nI0 i4)).toInt64)) * ((own_sel (nS i0) (nS i1) (nS i2) (nS i3) (nI1 i4)).toInt64)) * ((own_sel (nS i0) (nS i1) (nS i2) (nS i3) (nI2 i4)).toInt64))), .second, .val (.double (f_ent3  (nI0 i4) (nI1 i4) (nI2 i4) (nS i0) (nS i1) (nS i2) (nS i3))), .second, iv (1 : Int32)] []
          refine XT.iconstV X161.here hx rfl (1 : Int32) (hb hby at_231) (by decide) ?_
          show Go p e below t T161 m 232 #[iv i0, iv i1, iv i2, iv i3, iv i4, rv b38, iv (3 : Int32), iv (nI0 i4), iv (nI1 i4), iv (nI2 i4), rv b140, .val (.long ((((1 : Int64) * ((own_sel (nS i0) (nS i1) (nS i2) (nS i3) (nI0 i4)).toInt64)) * ((own_sel (nS i0) (nS i1) (nS i2) (nS i3) (nI1 i4)).toInt64)) * ((own_sel (nS i0) (nS i1) (nS i2) (nS i3) (nI2 i4)).toInt64))), .second, .val (.double (f_ent3  (nI0 i4) (nI1 i4) (nI2 i4) (nS i0) (nS i1) (nS i2) (nS i3))), .second, iv (1 : Int32)] [(.int (1 : Int32))]
          refine XS.goto X161.here hx rfl (pc0 := 232) (pc' := 236) rfl (hb hby at_232) (by decide) (by decide) ?_
          show Go p e below t T161 m 236 #[iv i0, iv i1, iv i2, iv i3, iv i4, rv b38, iv (3 : Int32), iv (nI0 i4), iv (nI1 i4), iv (nI2 i4), rv b140, .val (.long ((((1 : Int64) * ((own_sel (nS i0) (nS i1) (nS i2) (nS i3) (nI0 i4)).toInt64)) * ((own_sel (nS i0) (nS i1) (nS i2) (nS i3) (nI1 i4)).toInt64)) * ((own_sel (nS i0) (nS i1) (nS i2) (nS i3) (nI2 i4)).toInt64))), .second, .val (.double (f_ent3  (nI0 i4) (nI1 i4) (nI2 i4) (nS i0) (nS i1) (nS i2) (nS i3))), .second, iv (1 : Int32)] [(.int (1 : Int32))]
          refine XS.istore X161.here hx rfl (hb hby at_236) rfl (l' := #[iv i0, iv i1, iv i2, iv i3, iv i4, rv b38, iv (3 : Int32), iv (nI0 i4), iv (nI1 i4), iv (nI2 i4), rv b140, .val (.long ((((1 : Int64) * ((own_sel (nS i0) (nS i1) (nS i2) (nS i3) (nI0 i4)).toInt64)) * ((own_sel (nS i0) (nS i1) (nS i2) (nS i3) (nI1 i4)).toInt64)) * ((own_sel (nS i0) (nS i1) (nS i2) (nS i3) (nI2 i4)).toInt64))), .second, .val (.double (f_ent3  (nI0 i4) (nI1 i4) (nI2 i4) (nS i0) (nS i1) (nS i2) (nS i3))), .second, iv (1 : Int32)]) rfl ?_
          show Go p e below t T161 m 238 #[iv i0, iv i1, iv i2, iv i3, iv i4, rv b38, iv (3 : Int32), iv (nI0 i4), iv (nI1 i4), iv (nI2 i4), rv b140, .val (.long ((((1 : Int64) * ((own_sel (nS i0) (nS i1) (nS i2) (nS i3) (nI0 i4)).toInt64)) * ((own_sel (nS i0) (nS i1) (nS i2) (nS i3) (nI1 i4)).toInt64)) * ((own_sel (nS i0) (nS i1) (nS i2) (nS i3) (nI2 i4)).toInt64))), .second, .val (.double (f_ent3  (nI0 i4) (nI1 i4) (nI2 i4) (nS i0) (nS i1) (nS i2) (nS i3))), .second, iv (1 : Int32)] []
          refine XS.iload X161.here hx rfl (hb hby at_238) rfl ?_
          show Go p e below t T161 m 240 #[iv i0, iv i1, iv i2, iv i3, iv i4, rv b38, iv (3 : Int32), iv (nI0 i4), iv (nI1 i4), iv (nI2 i4), rv b140, .val (.long ((((1 : Int64) * ((own_sel (nS i0) (nS i1) (nS i2) (nS i3) (nI0 i4)).toInt64)) * ((own_sel (nS i0) (nS i1) (nS i2) (nS i3) (nI1 i4)).toInt64)) * ((own_sel (nS i0) (nS i1) (nS i2) (nS i3) (nI2 i4)).toInt64))), .second, .val (.double (f_ent3  (nI0 i4) (nI1 i4) (nI2 i4) (nS i0) (nS i1) (nS i2) (nS i3))), .second, iv (1 : Int32)] [(.int (3 : Int32))]
          refine XS.ifNo X161.here hx rfl (hb hby at_240) rfl (XT.i0_le_f (by decide)) ?_
          show Go p e below t T161 m 243 #[iv i0, iv i1, iv i2, iv i3, iv i4, rv b38, iv (3 : Int32), iv (nI0 i4), iv (nI1 i4), iv (nI2 i4), rv b140, .val (.long ((((1 : Int64) * ((own_sel (nS i0) (nS i1) (nS i2) (nS i3) (nI0 i4)).toInt64)) * ((own_sel (nS i0) (nS i1) (nS i2) (nS i3) (nI1 i4)).toInt64)) * ((own_sel (nS i0) (nS i1) (nS i2) (nS i3) (nI2 i4)).toInt64))), .second, .val (.double (f_ent3  (nI0 i4) (nI1 i4) (nI2 i4) (nS i0) (nS i1) (nS i2) (nS i3))), .second, iv (1 : Int32)] []
          refine XS.iload X161.here hx rfl (hb hby at_243) rfl ?_
          show Go p e below t T161 m 245 #[iv i0, iv i1, iv i2, iv i3, iv i4, rv b38, iv (3 : Int32), iv (nI0 i4), iv (nI1 i4), iv (nI2 i4), rv b140, .val (.long ((((1 : Int64) * ((own_sel (nS i0) (nS i1) (nS i2) (nS i3) (nI0 i4)).toInt64)) * ((own_sel (nS i0) (nS i1) (nS i2) (nS i3) (nI1 i4)).toInt64)) * ((own_sel (nS i0) (nS i1) (nS i2) (nS i3) (nI2 i4)).toInt64))), .second, .val (.double (f_ent3  (nI0 i4) (nI1 i4) (nI2 i4) (nS i0) (nS i1) (nS i2) (nS i3))), .second, iv (1 : Int32)] [(.int (1 : Int32))]
          refine XS.ifNo X161.here hx rfl (hb hby at_245) rfl (XT.i0_eq_f (by decide)) ?_
          show Go p e below t T161 m 248 #[iv i0, iv i1, iv i2, iv i3, iv i4, rv b38, iv (3 : Int32), iv (nI0 i4), iv (nI1 i4), iv (nI2 i4), rv b140, .val (.long ((((1 : Int64) * ((own_sel (nS i0) (nS i1) (nS i2) (nS i3) (nI0 i4)).toInt64)) * ((own_sel (nS i0) (nS i1) (nS i2) (nS i3) (nI1 i4)).toInt64)) * ((own_sel (nS i0) (nS i1) (nS i2) (nS i3) (nI2 i4)).toInt64))), .second, .val (.double (f_ent3  (nI0 i4) (nI1 i4) (nI2 i4) (nS i0) (nS i1) (nS i2) (nS i3))), .second, iv (1 : Int32)] []
          refine XS.aload X161.here hx rfl (hb hby at_248) rfl rfl ?_
          show Go p e below t T161 m 250 #[iv i0, iv i1, iv i2, iv i3, iv i4, rv b38, iv (3 : Int32), iv (nI0 i4), iv (nI1 i4), iv (nI2 i4), rv b140, .val (.long ((((1 : Int64) * ((own_sel (nS i0) (nS i1) (nS i2) (nS i3) (nI0 i4)).toInt64)) * ((own_sel (nS i0) (nS i1) (nS i2) (nS i3) (nI1 i4)).toInt64)) * ((own_sel (nS i0) (nS i1) (nS i2) (nS i3) (nI2 i4)).toInt64))), .second, .val (.double (f_ent3  (nI0 i4) (nI1 i4) (nI2 i4) (nS i0) (nS i1) (nS i2) (nS i3))), .second, iv (1 : Int32)] [(.ref b140)]
          refine XT.iconstV X161.here hx rfl (0 : Int32) (hb hby at_250) (by decide) ?_
          show Go p e below t T161 m 251 #[iv i0, iv i1, iv i2, iv i3, iv i4, rv b38, iv (3 : Int32), iv (nI0 i4), iv (nI1 i4), iv (nI2 i4), rv b140, .val (.long ((((1 : Int64) * ((own_sel (nS i0) (nS i1) (nS i2) (nS i3) (nI0 i4)).toInt64)) * ((own_sel (nS i0) (nS i1) (nS i2) (nS i3) (nI1 i4)).toInt64)) * ((own_sel (nS i0) (nS i1) (nS i2) (nS i3) (nI2 i4)).toInt64))), .second, .val (.double (f_ent3  (nI0 i4) (nI1 i4) (nI2 i4) (nS i0) (nS i1) (nS i2) (nS i3))), .second, iv (1 : Int32)] [(.int (0 : Int32)), (.ref b140)]
          exact k)
        obtain ⟨cl166, Ar166, q166, S166, M166, H166, G166⟩ := id V152
        have g167 : Goes p e below S0 (T161.setTop (mkF m 278 #[iv i0, iv i1, iv i2, iv i3, iv i4, rv b38, iv (3 : Int32), iv (nI0 i4), iv (nI1 i4), iv (nI2 i4), rv b140, .val (.long ((((1 : Int64) * ((own_sel (nS i0) (nS i1) (nS i2) (nS i3) (nI0 i4)).toInt64)) * ((own_sel (nS i0) (nS i1) (nS i2) (nS i3) (nI1 i4)).toInt64)) * ((own_sel (nS i0) (nS i1) (nS i2) (nS i3) (nI2 i4)).toInt64))), .second, .val (.double (f_ent3  (nI0 i4) (nI1 i4) (nI2 i4) (nS i0) (nS i1) (nS i2) (nS i3))), .second, iv (1 : Int32)] [(.int (1 : Int32)), (.ref b140)])) := fun t k => g165 t (by
          refine X161.iaload hx (j := (0 : Int32)) (v := (.int (nI0 i4))) (by rw [e161]; exact Ar166.1) (State.isArrayOf_alike hZ.alike Ar166.2.1) Ar166.2.2 (inb_of S166 ⟨by decide, by decide⟩) (H166.at (inb_of S166 ⟨by decide, by decide⟩) rfl) (g := (mkF m 251 #[iv i0, iv i1, iv i2, iv i3, iv i4, rv b38, iv (3 : Int32), iv (nI0 i4), iv (nI1 i4), iv (nI2 i4), rv b140, .val (.long ((((1 : Int64) * ((own_sel (nS i0) (nS i1) (nS i2) (nS i3) (nI0 i4)).toInt64)) * ((own_sel (nS i0) (nS i1) (nS i2) (nS i3) (nI1 i4)).toInt64)) * ((own_sel (nS i0) (nS i1) (nS i2) (nS i3) (nI2 i4)).toInt64))), .second, .val (.double (f_ent3  (nI0 i4) (nI1 i4) (nI2 i4) (nS i0) (nS i1) (nS i2) (nS i3))), .second, iv (1 : Int32)] [(.int (0 : Int32)), (.ref b140)])) rfl rfl (hb hby at_251) _ ?_
          show Go p e below t T161 m 252 #[iv i0, iv i1, iv i2, iv i3, iv i4, rv b38, iv (3 : Int32), iv (nI0 i4), iv (nI1 i4), iv (nI2 i4), rv b140, .val (.long ((((1 : Int64) * ((own_sel (nS i0) (nS i1) (nS i2) (nS i3) (nI0 i4)).toInt64)) * ((own_sel (nS i0) (nS i1) (nS i2) (nS i3) (nI1 i4)).toInt64)) * ((own_sel (nS i0) (nS i1) (nS i2) (nS i3) (nI2 i4)).toInt64))), .second, .val (.double (f_ent3  (nI0 i4) (nI1 i4) (nI2 i4) (nS i0) (nS i1) (nS i2) (nS i3))), .second, iv (1 : Int32)] [(.int (nI0 i4))]
          refine XS.iload X161.here hx rfl (hb hby at_252) rfl ?_
          show Go p e below t T161 m 254 #[iv i0, iv i1, iv i2, iv i3, iv i4, rv b38, iv (3 : Int32), iv (nI0 i4), iv (nI1 i4), iv (nI2 i4), rv b140, .val (.long ((((1 : Int64) * ((own_sel (nS i0) (nS i1) (nS i2) (nS i3) (nI0 i4)).toInt64)) * ((own_sel (nS i0) (nS i1) (nS i2) (nS i3) (nI1 i4)).toInt64)) * ((own_sel (nS i0) (nS i1) (nS i2) (nS i3) (nI2 i4)).toInt64))), .second, .val (.double (f_ent3  (nI0 i4) (nI1 i4) (nI2 i4) (nS i0) (nS i1) (nS i2) (nS i3))), .second, iv (1 : Int32)] [(.int (nI0 i4)), (.int (nI0 i4))]
          refine XS.icmpNo X161.here hx rfl (hb hby at_254) rfl (XT.ii_ne_f rfl) ?_
          show Go p e below t T161 m 257 #[iv i0, iv i1, iv i2, iv i3, iv i4, rv b38, iv (3 : Int32), iv (nI0 i4), iv (nI1 i4), iv (nI2 i4), rv b140, .val (.long ((((1 : Int64) * ((own_sel (nS i0) (nS i1) (nS i2) (nS i3) (nI0 i4)).toInt64)) * ((own_sel (nS i0) (nS i1) (nS i2) (nS i3) (nI1 i4)).toInt64)) * ((own_sel (nS i0) (nS i1) (nS i2) (nS i3) (nI2 i4)).toInt64))), .second, .val (.double (f_ent3  (nI0 i4) (nI1 i4) (nI2 i4) (nS i0) (nS i1) (nS i2) (nS i3))), .second, iv (1 : Int32)] []
          refine XT.iconstV X161.here hx rfl (1 : Int32) (hb hby at_257) (by decide) ?_
          show Go p e below t T161 m 258 #[iv i0, iv i1, iv i2, iv i3, iv i4, rv b38, iv (3 : Int32), iv (nI0 i4), iv (nI1 i4), iv (nI2 i4), rv b140, .val (.long ((((1 : Int64) * ((own_sel (nS i0) (nS i1) (nS i2) (nS i3) (nI0 i4)).toInt64)) * ((own_sel (nS i0) (nS i1) (nS i2) (nS i3) (nI1 i4)).toInt64)) * ((own_sel (nS i0) (nS i1) (nS i2) (nS i3) (nI2 i4)).toInt64))), .second, .val (.double (f_ent3  (nI0 i4) (nI1 i4) (nI2 i4) (nS i0) (nS i1) (nS i2) (nS i3))), .second, iv (1 : Int32)] [(.int (1 : Int32))]
          refine XS.goto X161.here hx rfl (pc0 := 258) (pc' := 262) rfl (hb hby at_258) (by decide) (by decide) ?_
          show Go p e below t T161 m 262 #[iv i0, iv i1, iv i2, iv i3, iv i4, rv b38, iv (3 : Int32), iv (nI0 i4), iv (nI1 i4), iv (nI2 i4), rv b140, .val (.long ((((1 : Int64) * ((own_sel (nS i0) (nS i1) (nS i2) (nS i3) (nI0 i4)).toInt64)) * ((own_sel (nS i0) (nS i1) (nS i2) (nS i3) (nI1 i4)).toInt64)) * ((own_sel (nS i0) (nS i1) (nS i2) (nS i3) (nI2 i4)).toInt64))), .second, .val (.double (f_ent3  (nI0 i4) (nI1 i4) (nI2 i4) (nS i0) (nS i1) (nS i2) (nS i3))), .second, iv (1 : Int32)] [(.int (1 : Int32))]
          refine XS.istore X161.here hx rfl (hb hby at_262) rfl (l' := #[iv i0, iv i1, iv i2, iv i3, iv i4, rv b38, iv (3 : Int32), iv (nI0 i4), iv (nI1 i4), iv (nI2 i4), rv b140, .val (.long ((((1 : Int64) * ((own_sel (nS i0) (nS i1) (nS i2) (nS i3) (nI0 i4)).toInt64)) * ((own_sel (nS i0) (nS i1) (nS i2) (nS i3) (nI1 i4)).toInt64)) * ((own_sel (nS i0) (nS i1) (nS i2) (nS i3) (nI2 i4)).toInt64))), .second, .val (.double (f_ent3  (nI0 i4) (nI1 i4) (nI2 i4) (nS i0) (nS i1) (nS i2) (nS i3))), .second, iv (1 : Int32)]) rfl ?_
          show Go p e below t T161 m 264 #[iv i0, iv i1, iv i2, iv i3, iv i4, rv b38, iv (3 : Int32), iv (nI0 i4), iv (nI1 i4), iv (nI2 i4), rv b140, .val (.long ((((1 : Int64) * ((own_sel (nS i0) (nS i1) (nS i2) (nS i3) (nI0 i4)).toInt64)) * ((own_sel (nS i0) (nS i1) (nS i2) (nS i3) (nI1 i4)).toInt64)) * ((own_sel (nS i0) (nS i1) (nS i2) (nS i3) (nI2 i4)).toInt64))), .second, .val (.double (f_ent3  (nI0 i4) (nI1 i4) (nI2 i4) (nS i0) (nS i1) (nS i2) (nS i3))), .second, iv (1 : Int32)] []
          refine XS.iload X161.here hx rfl (hb hby at_264) rfl ?_
          show Go p e below t T161 m 266 #[iv i0, iv i1, iv i2, iv i3, iv i4, rv b38, iv (3 : Int32), iv (nI0 i4), iv (nI1 i4), iv (nI2 i4), rv b140, .val (.long ((((1 : Int64) * ((own_sel (nS i0) (nS i1) (nS i2) (nS i3) (nI0 i4)).toInt64)) * ((own_sel (nS i0) (nS i1) (nS i2) (nS i3) (nI1 i4)).toInt64)) * ((own_sel (nS i0) (nS i1) (nS i2) (nS i3) (nI2 i4)).toInt64))), .second, .val (.double (f_ent3  (nI0 i4) (nI1 i4) (nI2 i4) (nS i0) (nS i1) (nS i2) (nS i3))), .second, iv (1 : Int32)] [(.int (3 : Int32))]
          refine XT.iconstV X161.here hx rfl (1 : Int32) (hb hby at_266) (by decide) ?_
          show Go p e below t T161 m 267 #[iv i0, iv i1, iv i2, iv i3, iv i4, rv b38, iv (3 : Int32), iv (nI0 i4), iv (nI1 i4), iv (nI2 i4), rv b140, .val (.long ((((1 : Int64) * ((own_sel (nS i0) (nS i1) (nS i2) (nS i3) (nI0 i4)).toInt64)) * ((own_sel (nS i0) (nS i1) (nS i2) (nS i3) (nI1 i4)).toInt64)) * ((own_sel (nS i0) (nS i1) (nS i2) (nS i3) (nI2 i4)).toInt64))), .second, .val (.double (f_ent3  (nI0 i4) (nI1 i4) (nI2 i4) (nS i0) (nS i1) (nS i2) (nS i3))), .second, iv (1 : Int32)] [(.int (1 : Int32)), (.int (3 : Int32))]
          refine XS.icmpNo X161.here hx rfl (hb hby at_267) rfl (XT.ii_le_f (by decide)) ?_
          show Go p e below t T161 m 270 #[iv i0, iv i1, iv i2, iv i3, iv i4, rv b38, iv (3 : Int32), iv (nI0 i4), iv (nI1 i4), iv (nI2 i4), rv b140, .val (.long ((((1 : Int64) * ((own_sel (nS i0) (nS i1) (nS i2) (nS i3) (nI0 i4)).toInt64)) * ((own_sel (nS i0) (nS i1) (nS i2) (nS i3) (nI1 i4)).toInt64)) * ((own_sel (nS i0) (nS i1) (nS i2) (nS i3) (nI2 i4)).toInt64))), .second, .val (.double (f_ent3  (nI0 i4) (nI1 i4) (nI2 i4) (nS i0) (nS i1) (nS i2) (nS i3))), .second, iv (1 : Int32)] []
          refine XS.iload X161.here hx rfl (hb hby at_270) rfl ?_
          show Go p e below t T161 m 272 #[iv i0, iv i1, iv i2, iv i3, iv i4, rv b38, iv (3 : Int32), iv (nI0 i4), iv (nI1 i4), iv (nI2 i4), rv b140, .val (.long ((((1 : Int64) * ((own_sel (nS i0) (nS i1) (nS i2) (nS i3) (nI0 i4)).toInt64)) * ((own_sel (nS i0) (nS i1) (nS i2) (nS i3) (nI1 i4)).toInt64)) * ((own_sel (nS i0) (nS i1) (nS i2) (nS i3) (nI2 i4)).toInt64))), .second, .val (.double (f_ent3  (nI0 i4) (nI1 i4) (nI2 i4) (nS i0) (nS i1) (nS i2) (nS i3))), .second, iv (1 : Int32)] [(.int (1 : Int32))]
          refine XS.ifNo X161.here hx rfl (hb hby at_272) rfl (XT.i0_eq_f (by decide)) ?_
          show Go p e below t T161 m 275 #[iv i0, iv i1, iv i2, iv i3, iv i4, rv b38, iv (3 : Int32), iv (nI0 i4), iv (nI1 i4), iv (nI2 i4), rv b140, .val (.long ((((1 : Int64) * ((own_sel (nS i0) (nS i1) (nS i2) (nS i3) (nI0 i4)).toInt64)) * ((own_sel (nS i0) (nS i1) (nS i2) (nS i3) (nI1 i4)).toInt64)) * ((own_sel (nS i0) (nS i1) (nS i2) (nS i3) (nI2 i4)).toInt64))), .second, .val (.double (f_ent3  (nI0 i4) (nI1 i4) (nI2 i4) (nS i0) (nS i1) (nS i2) (nS i3))), .second, iv (1 : Int32)] []
          refine XS.aload X161.here hx rfl (hb hby at_275) rfl rfl ?_
          show Go p e below t T161 m 277 #[iv i0, iv i1, iv i2, iv i3, iv i4, rv b38, iv (3 : Int32), iv (nI0 i4), iv (nI1 i4), iv (nI2 i4), rv b140, .val (.long ((((1 : Int64) * ((own_sel (nS i0) (nS i1) (nS i2) (nS i3) (nI0 i4)).toInt64)) * ((own_sel (nS i0) (nS i1) (nS i2) (nS i3) (nI1 i4)).toInt64)) * ((own_sel (nS i0) (nS i1) (nS i2) (nS i3) (nI2 i4)).toInt64))), .second, .val (.double (f_ent3  (nI0 i4) (nI1 i4) (nI2 i4) (nS i0) (nS i1) (nS i2) (nS i3))), .second, iv (1 : Int32)] [(.ref b140)]
          refine XT.iconstV X161.here hx rfl (1 : Int32) (hb hby at_277) (by decide) ?_
          show Go p e below t T161 m 278 #[iv i0, iv i1, iv i2, iv i3, iv i4, rv b38, iv (3 : Int32), iv (nI0 i4), iv (nI1 i4), iv (nI2 i4), rv b140, .val (.long ((((1 : Int64) * ((own_sel (nS i0) (nS i1) (nS i2) (nS i3) (nI0 i4)).toInt64)) * ((own_sel (nS i0) (nS i1) (nS i2) (nS i3) (nI1 i4)).toInt64)) * ((own_sel (nS i0) (nS i1) (nS i2) (nS i3) (nI2 i4)).toInt64))), .second, .val (.double (f_ent3  (nI0 i4) (nI1 i4) (nI2 i4) (nS i0) (nS i1) (nS i2) (nS i3))), .second, iv (1 : Int32)] [(.int (1 : Int32)), (.ref b140)]
          exact k)
        obtain ⟨cl168, Ar168, q168, S168, M168, H168, G168⟩ := id V152
        have g169 : Goes p e below S0 (T161.setTop (mkF m 305 #[iv i0, iv i1, iv i2, iv i3, iv i4, rv b38, iv (3 : Int32), iv (nI0 i4), iv (nI1 i4), iv (nI2 i4), rv b140, .val (.long ((((1 : Int64) * ((own_sel (nS i0) (nS i1) (nS i2) (nS i3) (nI0 i4)).toInt64)) * ((own_sel (nS i0) (nS i1) (nS i2) (nS i3) (nI1 i4)).toInt64)) * ((own_sel (nS i0) (nS i1) (nS i2) (nS i3) (nI2 i4)).toInt64))), .second, .val (.double (f_ent3  (nI0 i4) (nI1 i4) (nI2 i4) (nS i0) (nS i1) (nS i2) (nS i3))), .second, iv (1 : Int32)] [(.int (2 : Int32)), (.ref b140)])) := fun t k => g167 t (by
          refine X161.iaload hx (j := (1 : Int32)) (v := (.int (nI1 i4))) (by rw [e161]; exact Ar168.1) (State.isArrayOf_alike hZ.alike Ar168.2.1) Ar168.2.2 (inb_of S168 ⟨by decide, by decide⟩) (H168.at (inb_of S168 ⟨by decide, by decide⟩) rfl) (g := (mkF m 278 #[iv i0, iv i1, iv i2, iv i3, iv i4, rv b38, iv (3 : Int32), iv (nI0 i4), iv (nI1 i4), iv (nI2 i4), rv b140, .val (.long ((((1 : Int64) * ((own_sel (nS i0) (nS i1) (nS i2) (nS i3) (nI0 i4)).toInt64)) * ((own_sel (nS i0) (nS i1) (nS i2) (nS i3) (nI1 i4)).toInt64)) * ((own_sel (nS i0) (nS i1) (nS i2) (nS i3) (nI2 i4)).toInt64))), .second, .val (.double (f_ent3  (nI0 i4) (nI1 i4) (nI2 i4) (nS i0) (nS i1) (nS i2) (nS i3))), .second, iv (1 : Int32)] [(.int (1 : Int32)), (.ref b140)])) rfl rfl (hb hby at_278) _ ?_
          show Go p e below t T161 m 279 #[iv i0, iv i1, iv i2, iv i3, iv i4, rv b38, iv (3 : Int32), iv (nI0 i4), iv (nI1 i4), iv (nI2 i4), rv b140, .val (.long ((((1 : Int64) * ((own_sel (nS i0) (nS i1) (nS i2) (nS i3) (nI0 i4)).toInt64)) * ((own_sel (nS i0) (nS i1) (nS i2) (nS i3) (nI1 i4)).toInt64)) * ((own_sel (nS i0) (nS i1) (nS i2) (nS i3) (nI2 i4)).toInt64))), .second, .val (.double (f_ent3  (nI0 i4) (nI1 i4) (nI2 i4) (nS i0) (nS i1) (nS i2) (nS i3))), .second, iv (1 : Int32)] [(.int (nI1 i4))]
          refine XS.iload X161.here hx rfl (hb hby at_279) rfl ?_
          show Go p e below t T161 m 281 #[iv i0, iv i1, iv i2, iv i3, iv i4, rv b38, iv (3 : Int32), iv (nI0 i4), iv (nI1 i4), iv (nI2 i4), rv b140, .val (.long ((((1 : Int64) * ((own_sel (nS i0) (nS i1) (nS i2) (nS i3) (nI0 i4)).toInt64)) * ((own_sel (nS i0) (nS i1) (nS i2) (nS i3) (nI1 i4)).toInt64)) * ((own_sel (nS i0) (nS i1) (nS i2) (nS i3) (nI2 i4)).toInt64))), .second, .val (.double (f_ent3  (nI0 i4) (nI1 i4) (nI2 i4) (nS i0) (nS i1) (nS i2) (nS i3))), .second, iv (1 : Int32)] [(.int (nI1 i4)), (.int (nI1 i4))]
          refine XS.icmpNo X161.here hx rfl (hb hby at_281) rfl (XT.ii_ne_f rfl) ?_
          show Go p e below t T161 m 284 #[iv i0, iv i1, iv i2, iv i3, iv i4, rv b38, iv (3 : Int32), iv (nI0 i4), iv (nI1 i4), iv (nI2 i4), rv b140, .val (.long ((((1 : Int64) * ((own_sel (nS i0) (nS i1) (nS i2) (nS i3) (nI0 i4)).toInt64)) * ((own_sel (nS i0) (nS i1) (nS i2) (nS i3) (nI1 i4)).toInt64)) * ((own_sel (nS i0) (nS i1) (nS i2) (nS i3) (nI2 i4)).toInt64))), .second, .val (.double (f_ent3  (nI0 i4) (nI1 i4) (nI2 i4) (nS i0) (nS i1) (nS i2) (nS i3))), .second, iv (1 : Int32)] []
          refine XT.iconstV X161.here hx rfl (1 : Int32) (hb hby at_284) (by decide) ?_
          show Go p e below t T161 m 285 #[iv i0, iv i1, iv i2, iv i3, iv i4, rv b38, iv (3 : Int32), iv (nI0 i4), iv (nI1 i4), iv (nI2 i4), rv b140, .val (.long ((((1 : Int64) * ((own_sel (nS i0) (nS i1) (nS i2) (nS i3) (nI0 i4)).toInt64)) * ((own_sel (nS i0) (nS i1) (nS i2) (nS i3) (nI1 i4)).toInt64)) * ((own_sel (nS i0) (nS i1) (nS i2) (nS i3) (nI2 i4)).toInt64))), .second, .val (.double (f_ent3  (nI0 i4) (nI1 i4) (nI2 i4) (nS i0) (nS i1) (nS i2) (nS i3))), .second, iv (1 : Int32)] [(.int (1 : Int32))]
          refine XS.goto X161.here hx rfl (pc0 := 285) (pc' := 289) rfl (hb hby at_285) (by decide) (by decide) ?_
          show Go p e below t T161 m 289 #[iv i0, iv i1, iv i2, iv i3, iv i4, rv b38, iv (3 : Int32), iv (nI0 i4), iv (nI1 i4), iv (nI2 i4), rv b140, .val (.long ((((1 : Int64) * ((own_sel (nS i0) (nS i1) (nS i2) (nS i3) (nI0 i4)).toInt64)) * ((own_sel (nS i0) (nS i1) (nS i2) (nS i3) (nI1 i4)).toInt64)) * ((own_sel (nS i0) (nS i1) (nS i2) (nS i3) (nI2 i4)).toInt64))), .second, .val (.double (f_ent3  (nI0 i4) (nI1 i4) (nI2 i4) (nS i0) (nS i1) (nS i2) (nS i3))), .second, iv (1 : Int32)] [(.int (1 : Int32))]
          refine XS.istore X161.here hx rfl (hb hby at_289) rfl (l' := #[iv i0, iv i1, iv i2, iv i3, iv i4, rv b38, iv (3 : Int32), iv (nI0 i4), iv (nI1 i4), iv (nI2 i4), rv b140, .val (.long ((((1 : Int64) * ((own_sel (nS i0) (nS i1) (nS i2) (nS i3) (nI0 i4)).toInt64)) * ((own_sel (nS i0) (nS i1) (nS i2) (nS i3) (nI1 i4)).toInt64)) * ((own_sel (nS i0) (nS i1) (nS i2) (nS i3) (nI2 i4)).toInt64))), .second, .val (.double (f_ent3  (nI0 i4) (nI1 i4) (nI2 i4) (nS i0) (nS i1) (nS i2) (nS i3))), .second, iv (1 : Int32)]) rfl ?_
          show Go p e below t T161 m 291 #[iv i0, iv i1, iv i2, iv i3, iv i4, rv b38, iv (3 : Int32), iv (nI0 i4), iv (nI1 i4), iv (nI2 i4), rv b140, .val (.long ((((1 : Int64) * ((own_sel (nS i0) (nS i1) (nS i2) (nS i3) (nI0 i4)).toInt64)) * ((own_sel (nS i0) (nS i1) (nS i2) (nS i3) (nI1 i4)).toInt64)) * ((own_sel (nS i0) (nS i1) (nS i2) (nS i3) (nI2 i4)).toInt64))), .second, .val (.double (f_ent3  (nI0 i4) (nI1 i4) (nI2 i4) (nS i0) (nS i1) (nS i2) (nS i3))), .second, iv (1 : Int32)] []
          refine XS.iload X161.here hx rfl (hb hby at_291) rfl ?_
          show Go p e below t T161 m 293 #[iv i0, iv i1, iv i2, iv i3, iv i4, rv b38, iv (3 : Int32), iv (nI0 i4), iv (nI1 i4), iv (nI2 i4), rv b140, .val (.long ((((1 : Int64) * ((own_sel (nS i0) (nS i1) (nS i2) (nS i3) (nI0 i4)).toInt64)) * ((own_sel (nS i0) (nS i1) (nS i2) (nS i3) (nI1 i4)).toInt64)) * ((own_sel (nS i0) (nS i1) (nS i2) (nS i3) (nI2 i4)).toInt64))), .second, .val (.double (f_ent3  (nI0 i4) (nI1 i4) (nI2 i4) (nS i0) (nS i1) (nS i2) (nS i3))), .second, iv (1 : Int32)] [(.int (3 : Int32))]
          refine XT.iconstV X161.here hx rfl (2 : Int32) (hb hby at_293) (by decide) ?_
          show Go p e below t T161 m 294 #[iv i0, iv i1, iv i2, iv i3, iv i4, rv b38, iv (3 : Int32), iv (nI0 i4), iv (nI1 i4), iv (nI2 i4), rv b140, .val (.long ((((1 : Int64) * ((own_sel (nS i0) (nS i1) (nS i2) (nS i3) (nI0 i4)).toInt64)) * ((own_sel (nS i0) (nS i1) (nS i2) (nS i3) (nI1 i4)).toInt64)) * ((own_sel (nS i0) (nS i1) (nS i2) (nS i3) (nI2 i4)).toInt64))), .second, .val (.double (f_ent3  (nI0 i4) (nI1 i4) (nI2 i4) (nS i0) (nS i1) (nS i2) (nS i3))), .second, iv (1 : Int32)] [(.int (2 : Int32)), (.int (3 : Int32))]
          refine XS.icmpNo X161.here hx rfl (hb hby at_294) rfl (XT.ii_le_f (by decide)) ?_
          show Go p e below t T161 m 297 #[iv i0, iv i1, iv i2, iv i3, iv i4, rv b38, iv (3 : Int32), iv (nI0 i4), iv (nI1 i4), iv (nI2 i4), rv b140, .val (.long ((((1 : Int64) * ((own_sel (nS i0) (nS i1) (nS i2) (nS i3) (nI0 i4)).toInt64)) * ((own_sel (nS i0) (nS i1) (nS i2) (nS i3) (nI1 i4)).toInt64)) * ((own_sel (nS i0) (nS i1) (nS i2) (nS i3) (nI2 i4)).toInt64))), .second, .val (.double (f_ent3  (nI0 i4) (nI1 i4) (nI2 i4) (nS i0) (nS i1) (nS i2) (nS i3))), .second, iv (1 : Int32)] []
          refine XS.iload X161.here hx rfl (hb hby at_297) rfl ?_
          show Go p e below t T161 m 299 #[iv i0, iv i1, iv i2, iv i3, iv i4, rv b38, iv (3 : Int32), iv (nI0 i4), iv (nI1 i4), iv (nI2 i4), rv b140, .val (.long ((((1 : Int64) * ((own_sel (nS i0) (nS i1) (nS i2) (nS i3) (nI0 i4)).toInt64)) * ((own_sel (nS i0) (nS i1) (nS i2) (nS i3) (nI1 i4)).toInt64)) * ((own_sel (nS i0) (nS i1) (nS i2) (nS i3) (nI2 i4)).toInt64))), .second, .val (.double (f_ent3  (nI0 i4) (nI1 i4) (nI2 i4) (nS i0) (nS i1) (nS i2) (nS i3))), .second, iv (1 : Int32)] [(.int (1 : Int32))]
          refine XS.ifNo X161.here hx rfl (hb hby at_299) rfl (XT.i0_eq_f (by decide)) ?_
          show Go p e below t T161 m 302 #[iv i0, iv i1, iv i2, iv i3, iv i4, rv b38, iv (3 : Int32), iv (nI0 i4), iv (nI1 i4), iv (nI2 i4), rv b140, .val (.long ((((1 : Int64) * ((own_sel (nS i0) (nS i1) (nS i2) (nS i3) (nI0 i4)).toInt64)) * ((own_sel (nS i0) (nS i1) (nS i2) (nS i3) (nI1 i4)).toInt64)) * ((own_sel (nS i0) (nS i1) (nS i2) (nS i3) (nI2 i4)).toInt64))), .second, .val (.double (f_ent3  (nI0 i4) (nI1 i4) (nI2 i4) (nS i0) (nS i1) (nS i2) (nS i3))), .second, iv (1 : Int32)] []
          refine XS.aload X161.here hx rfl (hb hby at_302) rfl rfl ?_
          show Go p e below t T161 m 304 #[iv i0, iv i1, iv i2, iv i3, iv i4, rv b38, iv (3 : Int32), iv (nI0 i4), iv (nI1 i4), iv (nI2 i4), rv b140, .val (.long ((((1 : Int64) * ((own_sel (nS i0) (nS i1) (nS i2) (nS i3) (nI0 i4)).toInt64)) * ((own_sel (nS i0) (nS i1) (nS i2) (nS i3) (nI1 i4)).toInt64)) * ((own_sel (nS i0) (nS i1) (nS i2) (nS i3) (nI2 i4)).toInt64))), .second, .val (.double (f_ent3  (nI0 i4) (nI1 i4) (nI2 i4) (nS i0) (nS i1) (nS i2) (nS i3))), .second, iv (1 : Int32)] [(.ref b140)]
          refine XT.iconstV X161.here hx rfl (2 : Int32) (hb hby at_304) (by decide) ?_
          show Go p e below t T161 m 305 #[iv i0, iv i1, iv i2, iv i3, iv i4, rv b38, iv (3 : Int32), iv (nI0 i4), iv (nI1 i4), iv (nI2 i4), rv b140, .val (.long ((((1 : Int64) * ((own_sel (nS i0) (nS i1) (nS i2) (nS i3) (nI0 i4)).toInt64)) * ((own_sel (nS i0) (nS i1) (nS i2) (nS i3) (nI1 i4)).toInt64)) * ((own_sel (nS i0) (nS i1) (nS i2) (nS i3) (nI2 i4)).toInt64))), .second, .val (.double (f_ent3  (nI0 i4) (nI1 i4) (nI2 i4) (nS i0) (nS i1) (nS i2) (nS i3))), .second, iv (1 : Int32)] [(.int (2 : Int32)), (.ref b140)]
          exact k)
        obtain ⟨cl170, Ar170, q170, S170, M170, H170, G170⟩ := id V152
        have g171 : Goes p e below S0 (T161.setTop (mkF m 326 #[iv i0, iv i1, iv i2, iv i3, iv i4, rv b38, iv (3 : Int32), iv (nI0 i4), iv (nI1 i4), iv (nI2 i4), rv b140, .val (.long ((((1 : Int64) * ((own_sel (nS i0) (nS i1) (nS i2) (nS i3) (nI0 i4)).toInt64)) * ((own_sel (nS i0) (nS i1) (nS i2) (nS i3) (nI1 i4)).toInt64)) * ((own_sel (nS i0) (nS i1) (nS i2) (nS i3) (nI2 i4)).toInt64))), .second, .val (.double (f_ent3  (nI0 i4) (nI1 i4) (nI2 i4) (nS i0) (nS i1) (nS i2) (nS i3))), .second, iv (1 : Int32)] [(.int (0 : Int32)), (.ref b38)])) := fun t k => g169 t (by
          refine X161.iaload hx (j := (2 : Int32)) (v := (.int (nI2 i4))) (by rw [e161]; exact Ar170.1) (State.isArrayOf_alike hZ.alike Ar170.2.1) Ar170.2.2 (inb_of S170 ⟨by decide, by decide⟩) (H170.at (inb_of S170 ⟨by decide, by decide⟩) rfl) (g := (mkF m 305 #[iv i0, iv i1, iv i2, iv i3, iv i4, rv b38, iv (3 : Int32), iv (nI0 i4), iv (nI1 i4), iv (nI2 i4), rv b140, .val (.long ((((1 : Int64) * ((own_sel (nS i0) (nS i1) (nS i2) (nS i3) (nI0 i4)).toInt64)) * ((own_sel (nS i0) (nS i1) (nS i2) (nS i3) (nI1 i4)).toInt64)) * ((own_sel (nS i0) (nS i1) (nS i2) (nS i3) (nI2 i4)).toInt64))), .second, .val (.double (f_ent3  (nI0 i4) (nI1 i4) (nI2 i4) (nS i0) (nS i1) (nS i2) (nS i3))), .second, iv (1 : Int32)] [(.int (2 : Int32)), (.ref b140)])) rfl rfl (hb hby at_305) _ ?_
          show Go p e below t T161 m 306 #[iv i0, iv i1, iv i2, iv i3, iv i4, rv b38, iv (3 : Int32), iv (nI0 i4), iv (nI1 i4), iv (nI2 i4), rv b140, .val (.long ((((1 : Int64) * ((own_sel (nS i0) (nS i1) (nS i2) (nS i3) (nI0 i4)).toInt64)) * ((own_sel (nS i0) (nS i1) (nS i2) (nS i3) (nI1 i4)).toInt64)) * ((own_sel (nS i0) (nS i1) (nS i2) (nS i3) (nI2 i4)).toInt64))), .second, .val (.double (f_ent3  (nI0 i4) (nI1 i4) (nI2 i4) (nS i0) (nS i1) (nS i2) (nS i3))), .second, iv (1 : Int32)] [(.int (nI2 i4))]
          refine XS.iload X161.here hx rfl (hb hby at_306) rfl ?_
          show Go p e below t T161 m 308 #[iv i0, iv i1, iv i2, iv i3, iv i4, rv b38, iv (3 : Int32), iv (nI0 i4), iv (nI1 i4), iv (nI2 i4), rv b140, .val (.long ((((1 : Int64) * ((own_sel (nS i0) (nS i1) (nS i2) (nS i3) (nI0 i4)).toInt64)) * ((own_sel (nS i0) (nS i1) (nS i2) (nS i3) (nI1 i4)).toInt64)) * ((own_sel (nS i0) (nS i1) (nS i2) (nS i3) (nI2 i4)).toInt64))), .second, .val (.double (f_ent3  (nI0 i4) (nI1 i4) (nI2 i4) (nS i0) (nS i1) (nS i2) (nS i3))), .second, iv (1 : Int32)] [(.int (nI2 i4)), (.int (nI2 i4))]
          refine XS.icmpNo X161.here hx rfl (hb hby at_308) rfl (XT.ii_ne_f rfl) ?_
          show Go p e below t T161 m 311 #[iv i0, iv i1, iv i2, iv i3, iv i4, rv b38, iv (3 : Int32), iv (nI0 i4), iv (nI1 i4), iv (nI2 i4), rv b140, .val (.long ((((1 : Int64) * ((own_sel (nS i0) (nS i1) (nS i2) (nS i3) (nI0 i4)).toInt64)) * ((own_sel (nS i0) (nS i1) (nS i2) (nS i3) (nI1 i4)).toInt64)) * ((own_sel (nS i0) (nS i1) (nS i2) (nS i3) (nI2 i4)).toInt64))), .second, .val (.double (f_ent3  (nI0 i4) (nI1 i4) (nI2 i4) (nS i0) (nS i1) (nS i2) (nS i3))), .second, iv (1 : Int32)] []
          refine XT.iconstV X161.here hx rfl (1 : Int32) (hb hby at_311) (by decide) ?_
          show Go p e below t T161 m 312 #[iv i0, iv i1, iv i2, iv i3, iv i4, rv b38, iv (3 : Int32), iv (nI0 i4), iv (nI1 i4), iv (nI2 i4), rv b140, .val (.long ((((1 : Int64) * ((own_sel (nS i0) (nS i1) (nS i2) (nS i3) (nI0 i4)).toInt64)) * ((own_sel (nS i0) (nS i1) (nS i2) (nS i3) (nI1 i4)).toInt64)) * ((own_sel (nS i0) (nS i1) (nS i2) (nS i3) (nI2 i4)).toInt64))), .second, .val (.double (f_ent3  (nI0 i4) (nI1 i4) (nI2 i4) (nS i0) (nS i1) (nS i2) (nS i3))), .second, iv (1 : Int32)] [(.int (1 : Int32))]
          refine XS.goto X161.here hx rfl (pc0 := 312) (pc' := 316) rfl (hb hby at_312) (by decide) (by decide) ?_
          show Go p e below t T161 m 316 #[iv i0, iv i1, iv i2, iv i3, iv i4, rv b38, iv (3 : Int32), iv (nI0 i4), iv (nI1 i4), iv (nI2 i4), rv b140, .val (.long ((((1 : Int64) * ((own_sel (nS i0) (nS i1) (nS i2) (nS i3) (nI0 i4)).toInt64)) * ((own_sel (nS i0) (nS i1) (nS i2) (nS i3) (nI1 i4)).toInt64)) * ((own_sel (nS i0) (nS i1) (nS i2) (nS i3) (nI2 i4)).toInt64))), .second, .val (.double (f_ent3  (nI0 i4) (nI1 i4) (nI2 i4) (nS i0) (nS i1) (nS i2) (nS i3))), .second, iv (1 : Int32)] [(.int (1 : Int32))]
          refine XS.istore X161.here hx rfl (hb hby at_316) rfl (l' := #[iv i0, iv i1, iv i2, iv i3, iv i4, rv b38, iv (3 : Int32), iv (nI0 i4), iv (nI1 i4), iv (nI2 i4), rv b140, .val (.long ((((1 : Int64) * ((own_sel (nS i0) (nS i1) (nS i2) (nS i3) (nI0 i4)).toInt64)) * ((own_sel (nS i0) (nS i1) (nS i2) (nS i3) (nI1 i4)).toInt64)) * ((own_sel (nS i0) (nS i1) (nS i2) (nS i3) (nI2 i4)).toInt64))), .second, .val (.double (f_ent3  (nI0 i4) (nI1 i4) (nI2 i4) (nS i0) (nS i1) (nS i2) (nS i3))), .second, iv (1 : Int32)]) rfl ?_
          show Go p e below t T161 m 318 #[iv i0, iv i1, iv i2, iv i3, iv i4, rv b38, iv (3 : Int32), iv (nI0 i4), iv (nI1 i4), iv (nI2 i4), rv b140, .val (.long ((((1 : Int64) * ((own_sel (nS i0) (nS i1) (nS i2) (nS i3) (nI0 i4)).toInt64)) * ((own_sel (nS i0) (nS i1) (nS i2) (nS i3) (nI1 i4)).toInt64)) * ((own_sel (nS i0) (nS i1) (nS i2) (nS i3) (nI2 i4)).toInt64))), .second, .val (.double (f_ent3  (nI0 i4) (nI1 i4) (nI2 i4) (nS i0) (nS i1) (nS i2) (nS i3))), .second, iv (1 : Int32)] []
          refine XS.iload X161.here hx rfl (hb hby at_318) rfl ?_
          show Go p e below t T161 m 320 #[iv i0, iv i1, iv i2, iv i3, iv i4, rv b38, iv (3 : Int32), iv (nI0 i4), iv (nI1 i4), iv (nI2 i4), rv b140, .val (.long ((((1 : Int64) * ((own_sel (nS i0) (nS i1) (nS i2) (nS i3) (nI0 i4)).toInt64)) * ((own_sel (nS i0) (nS i1) (nS i2) (nS i3) (nI1 i4)).toInt64)) * ((own_sel (nS i0) (nS i1) (nS i2) (nS i3) (nI2 i4)).toInt64))), .second, .val (.double (f_ent3  (nI0 i4) (nI1 i4) (nI2 i4) (nS i0) (nS i1) (nS i2) (nS i3))), .second, iv (1 : Int32)] [(.int (1 : Int32))]
          refine XS.ifNo X161.here hx rfl (hb hby at_320) rfl (XT.i0_eq_f (by decide)) ?_
          show Go p e below t T161 m 323 #[iv i0, iv i1, iv i2, iv i3, iv i4, rv b38, iv (3 : Int32), iv (nI0 i4), iv (nI1 i4), iv (nI2 i4), rv b140, .val (.long ((((1 : Int64) * ((own_sel (nS i0) (nS i1) (nS i2) (nS i3) (nI0 i4)).toInt64)) * ((own_sel (nS i0) (nS i1) (nS i2) (nS i3) (nI1 i4)).toInt64)) * ((own_sel (nS i0) (nS i1) (nS i2) (nS i3) (nI2 i4)).toInt64))), .second, .val (.double (f_ent3  (nI0 i4) (nI1 i4) (nI2 i4) (nS i0) (nS i1) (nS i2) (nS i3))), .second, iv (1 : Int32)] []
          refine XS.aload X161.here hx rfl (hb hby at_323) rfl rfl ?_
          show Go p e below t T161 m 325 #[iv i0, iv i1, iv i2, iv i3, iv i4, rv b38, iv (3 : Int32), iv (nI0 i4), iv (nI1 i4), iv (nI2 i4), rv b140, .val (.long ((((1 : Int64) * ((own_sel (nS i0) (nS i1) (nS i2) (nS i3) (nI0 i4)).toInt64)) * ((own_sel (nS i0) (nS i1) (nS i2) (nS i3) (nI1 i4)).toInt64)) * ((own_sel (nS i0) (nS i1) (nS i2) (nS i3) (nI2 i4)).toInt64))), .second, .val (.double (f_ent3  (nI0 i4) (nI1 i4) (nI2 i4) (nS i0) (nS i1) (nS i2) (nS i3))), .second, iv (1 : Int32)] [(.ref b38)]
          refine XT.iconstV X161.here hx rfl (0 : Int32) (hb hby at_325) (by decide) ?_
          show Go p e below t T161 m 326 #[iv i0, iv i1, iv i2, iv i3, iv i4, rv b38, iv (3 : Int32), iv (nI0 i4), iv (nI1 i4), iv (nI2 i4), rv b140, .val (.long ((((1 : Int64) * ((own_sel (nS i0) (nS i1) (nS i2) (nS i3) (nI0 i4)).toInt64)) * ((own_sel (nS i0) (nS i1) (nS i2) (nS i3) (nI1 i4)).toInt64)) * ((own_sel (nS i0) (nS i1) (nS i2) (nS i3) (nI2 i4)).toInt64))), .second, .val (.double (f_ent3  (nI0 i4) (nI1 i4) (nI2 i4) (nS i0) (nS i1) (nS i2) (nS i3))), .second, iv (1 : Int32)] [(.int (0 : Int32)), (.ref b38)]
          exact k)
        obtain ⟨cl172, Ar172, q172, S172, M172, H172, G172⟩ := id ((((V54.ext E140).other W144 (Nat.ne_of_lt (Nat.lt_of_lt_of_le V54.lt (Nat.le_of_eq gb140.symm)))).other W148 (Nat.ne_of_lt (Nat.lt_of_lt_of_le V54.lt (Nat.le_of_eq gb140.symm)))).other W152 (Nat.ne_of_lt (Nat.lt_of_lt_of_le V54.lt (Nat.le_of_eq gb140.symm))))
        have g173 : Goes p e below S0 (T161.setTop (mkF m 337 #[iv i0, iv i1, iv i2, iv i3, iv i4, rv b38, iv (3 : Int32), iv (nI0 i4), iv (nI1 i4), iv (nI2 i4), rv b140, .val (.long ((((1 : Int64) * ((own_sel (nS i0) (nS i1) (nS i2) (nS i3) (nI0 i4)).toInt64)) * ((own_sel (nS i0) (nS i1) (nS i2) (nS i3) (nI1 i4)).toInt64)) * ((own_sel (nS i0) (nS i1) (nS i2) (nS i3) (nI2 i4)).toInt64))), .second, .val (.double (f_ent3  (nI0 i4) (nI1 i4) (nI2 i4) (nS i0) (nS i1) (nS i2) (nS i3))), .second, iv (1 : Int32)] [(.int (1 : Int32)), (.ref b38)])) := fun t k => g171 t (by
          refine X161.iaload hx (j := (0 : Int32)) (v := (.int (nS i0))) (by rw [e161]; exact Ar172.1) (State.isArrayOf_alike hZ.alike Ar172.2.1) Ar172.2.2 (inb_of S172 ⟨by decide, by decide⟩) (H172.at (inb_of S172 ⟨by decide, by decide⟩) rfl) (g := (mkF m 326 #[iv i0, iv i1, iv i2, iv i3, iv i4, rv b38, iv (3 : Int32), iv (nI0 i4), iv (nI1 i4), iv (nI2 i4), rv b140, .val (.long ((((1 : Int64) * ((own_sel (nS i0) (nS i1) (nS i2) (nS i3) (nI0 i4)).toInt64)) * ((own_sel (nS i0) (nS i1) (nS i2) (nS i3) (nI1 i4)).toInt64)) * ((own_sel (nS i0) (nS i1) (nS i2) (nS i3) (nI2 i4)).toInt64))), .second, .val (.double (f_ent3  (nI0 i4) (nI1 i4) (nI2 i4) (nS i0) (nS i1) (nS i2) (nS i3))), .second, iv (1 : Int32)] [(.int (0 : Int32)), (.ref b38)])) rfl rfl (hb hby at_326) _ ?_
          show Go p e below t T161 m 327 #[iv i0, iv i1, iv i2, iv i3, iv i4, rv b38, iv (3 : Int32), iv (nI0 i4), iv (nI1 i4), iv (nI2 i4), rv b140, .val (.long ((((1 : Int64) * ((own_sel (nS i0) (nS i1) (nS i2) (nS i3) (nI0 i4)).toInt64)) * ((own_sel (nS i0) (nS i1) (nS i2) (nS i3) (nI1 i4)).toInt64)) * ((own_sel (nS i0) (nS i1) (nS i2) (nS i3) (nI2 i4)).toInt64))), .second, .val (.double (f_ent3  (nI0 i4) (nI1 i4) (nI2 i4) (nS i0) (nS i1) (nS i2) (nS i3))), .second, iv (1 : Int32)] [(.int (nS i0))]
          refine XS.iloadN X161.here hx rfl (hb hby at_327) rfl ?_
          show Go p e below t T161 m 328 #[iv i0, iv i1, iv i2, iv i3, iv i4, rv b38, iv (3 : Int32), iv (nI0 i4), iv (nI1 i4), iv (nI2 i4), rv b140, .val (.long ((((1 : Int64) * ((own_sel (nS i0) (nS i1) (nS i2) (nS i3) (nI0 i4)).toInt64)) * ((own_sel (nS i0) (nS i1) (nS i2) (nS i3) (nI1 i4)).toInt64)) * ((own_sel (nS i0) (nS i1) (nS i2) (nS i3) (nI2 i4)).toInt64))), .second, .val (.double (f_ent3  (nI0 i4) (nI1 i4) (nI2 i4) (nS i0) (nS i1) (nS i2) (nS i3))), .second, iv (1 : Int32)] [(.int i0), (.int (nS i0))]
          refine Jvm.Stand.ldcI X161 hx hown (mvT hZ (hw _ (List.mem_of_getElem? (i := 1) rfl))) (g := (mkF m 328 #[iv i0, iv i1, iv i2, iv i3, iv i4, rv b38, iv (3 : Int32), iv (nI0 i4), iv (nI1 i4), iv (nI2 i4), rv b140, .val (.long ((((1 : Int64) * ((own_sel (nS i0) (nS i1) (nS i2) (nS i3) (nI0 i4)).toInt64)) * ((own_sel (nS i0) (nS i1) (nS i2) (nS i3) (nI1 i4)).toInt64)) * ((own_sel (nS i0) (nS i1) (nS i2) (nS i3) (nI2 i4)).toInt64))), .second, .val (.double (f_ent3  (nI0 i4) (nI1 i4) (nI2 i4) (nS i0) (nS i1) (nS i2) (nS i3))), .second, iv (1 : Int32)] [(.int i0), (.int (nS i0))])) rfl (hb hby at_328) ?_
          show Go p e below t T161 m 330 #[iv i0, iv i1, iv i2, iv i3, iv i4, rv b38, iv (3 : Int32), iv (nI0 i4), iv (nI1 i4), iv (nI2 i4), rv b140, .val (.long ((((1 : Int64) * ((own_sel (nS i0) (nS i1) (nS i2) (nS i3) (nI0 i4)).toInt64)) * ((own_sel (nS i0) (nS i1) (nS i2) (nS i3) (nI1 i4)).toInt64)) * ((own_sel (nS i0) (nS i1) (nS i2) (nS i3) (nI2 i4)).toInt64))), .second, .val (.double (f_ent3  (nI0 i4) (nI1 i4) (nI2 i4) (nS i0) (nS i1) (nS i2) (nS i3))), .second, iv (1 : Int32)] [(.int (131071 : Int32)), (.int i0), (.int (nS i0))]
          refine XS.iand X161.here hx rfl (hb hby at_330) rfl ?_
          show Go p e below t T161 m 331 #[iv i0, iv i1, iv i2, iv i3, iv i4, rv b38, iv (3 : Int32), iv (nI0 i4), iv (nI1 i4), iv (nI2 i4), rv b140, .val (.long ((((1 : Int64) * ((own_sel (nS i0) (nS i1) (nS i2) (nS i3) (nI0 i4)).toInt64)) * ((own_sel (nS i0) (nS i1) (nS i2) (nS i3) (nI1 i4)).toInt64)) * ((own_sel (nS i0) (nS i1) (nS i2) (nS i3) (nI2 i4)).toInt64))), .second, .val (.double (f_ent3  (nI0 i4) (nI1 i4) (nI2 i4) (nS i0) (nS i1) (nS i2) (nS i3))), .second, iv (1 : Int32)] [(.int (i0 &&& (131071 : Int32))), (.int (nS i0))]
          show Go p e below t T161 m 331 #[iv i0, iv i1, iv i2, iv i3, iv i4, rv b38, iv (3 : Int32), iv (nI0 i4), iv (nI1 i4), iv (nI2 i4), rv b140, .val (.long ((((1 : Int64) * ((own_sel (nS i0) (nS i1) (nS i2) (nS i3) (nI0 i4)).toInt64)) * ((own_sel (nS i0) (nS i1) (nS i2) (nS i3) (nI1 i4)).toInt64)) * ((own_sel (nS i0) (nS i1) (nS i2) (nS i3) (nI2 i4)).toInt64))), .second, .val (.double (f_ent3  (nI0 i4) (nI1 i4) (nI2 i4) (nS i0) (nS i1) (nS i2) (nS i3))), .second, iv (1 : Int32)] [(.int (nS i0)), (.int (nS i0))]
          refine XS.icmpNo X161.here hx rfl (hb hby at_331) rfl (XT.ii_ne_f rfl) ?_
          show Go p e below t T161 m 334 #[iv i0, iv i1, iv i2, iv i3, iv i4, rv b38, iv (3 : Int32), iv (nI0 i4), iv (nI1 i4), iv (nI2 i4), rv b140, .val (.long ((((1 : Int64) * ((own_sel (nS i0) (nS i1) (nS i2) (nS i3) (nI0 i4)).toInt64)) * ((own_sel (nS i0) (nS i1) (nS i2) (nS i3) (nI1 i4)).toInt64)) * ((own_sel (nS i0) (nS i1) (nS i2) (nS i3) (nI2 i4)).toInt64))), .second, .val (.double (f_ent3  (nI0 i4) (nI1 i4) (nI2 i4) (nS i0) (nS i1) (nS i2) (nS i3))), .second, iv (1 : Int32)] []
          refine XS.aload X161.here hx rfl (hb hby at_334) rfl rfl ?_
          show Go p e below t T161 m 336 #[iv i0, iv i1, iv i2, iv i3, iv i4, rv b38, iv (3 : Int32), iv (nI0 i4), iv (nI1 i4), iv (nI2 i4), rv b140, .val (.long ((((1 : Int64) * ((own_sel (nS i0) (nS i1) (nS i2) (nS i3) (nI0 i4)).toInt64)) * ((own_sel (nS i0) (nS i1) (nS i2) (nS i3) (nI1 i4)).toInt64)) * ((own_sel (nS i0) (nS i1) (nS i2) (nS i3) (nI2 i4)).toInt64))), .second, .val (.double (f_ent3  (nI0 i4) (nI1 i4) (nI2 i4) (nS i0) (nS i1) (nS i2) (nS i3))), .second, iv (1 : Int32)] [(.ref b38)]
          refine XT.iconstV X161.here hx rfl (1 : Int32) (hb hby at_336) (by decide) ?_
          show Go p e below t T161 m 337 #[iv i0, iv i1, iv i2, iv i3, iv i4, rv b38, iv (3 : Int32), iv (nI0 i4), iv (nI1 i4), iv (nI2 i4), rv b140, .val (.long ((((1 : Int64) * ((own_sel (nS i0) (nS i1) (nS i2) (nS i3) (nI0 i4)).toInt64)) * ((own_sel (nS i0) (nS i1) (nS i2) (nS i3) (nI1 i4)).toInt64)) * ((own_sel (nS i0) (nS i1) (nS i2) (nS i3) (nI2 i4)).toInt64))), .second, .val (.double (f_ent3  (nI0 i4) (nI1 i4) (nI2 i4) (nS i0) (nS i1) (nS i2) (nS i3))), .second, iv (1 : Int32)] [(.int (1 : Int32)), (.ref b38)]
          exact k)
        obtain ⟨cl174, Ar174, q174, S174, M174, H174, G174⟩ := id ((((V54.ext E140).other W144 (Nat.ne_of_lt (Nat.lt_of_lt_of_le V54.lt (Nat.le_of_eq gb140.symm)))).other W148 (Nat.ne_of_lt (Nat.lt_of_lt_of_le V54.lt (Nat.le_of_eq gb140.symm)))).other W152 (Nat.ne_of_lt (Nat.lt_of_lt_of_le V54.lt (Nat.le_of_eq gb140.symm))))
        have g175 : Goes p e below S0 (T161.setTop (mkF m 348 #[iv i0, iv i1, iv i2, iv i3, iv i4, rv b38, iv (3 : Int32), iv (nI0 i4), iv (nI1 i4), iv (nI2 i4), rv b140, .val (.long ((((1 : Int64) * ((own_sel (nS i0) (nS i1) (nS i2) (nS i3) (nI0 i4)).toInt64)) * ((own_sel (nS i0) (nS i1) (nS i2) (nS i3) (nI1 i4)).toInt64)) * ((own_sel (nS i0) (nS i1) (nS i2) (nS i3) (nI2 i4)).toInt64))), .second, .val (.double (f_ent3  (nI0 i4) (nI1 i4) (nI2 i4) (nS i0) (nS i1) (nS i2) (nS i3))), .second, iv (1 : Int32)] [(.int (2 : Int32)), (.ref b38)])) := fun t k => g173 t (by
          refine X161.iaload hx (j := (1 : Int32)) (v := (.int (nS i1))) (by rw [e161]; exact Ar174.1) (State.isArrayOf_alike hZ.alike Ar174.2.1) Ar174.2.2 (inb_of S174 ⟨by decide, by decide⟩) (H174.at (inb_of S174 ⟨by decide, by decide⟩) rfl) (g := (mkF m 337 #[iv i0, iv i1, iv i2, iv i3, iv i4, rv b38, iv (3 : Int32), iv (nI0 i4), iv (nI1 i4), iv (nI2 i4), rv b140, .val (.long ((((1 : Int64) * ((own_sel (nS i0) (nS i1) (nS i2) (nS i3) (nI0 i4)).toInt64)) * ((own_sel (nS i0) (nS i1) (nS i2) (nS i3) (nI1 i4)).toInt64)) * ((own_sel (nS i0) (nS i1) (nS i2) (nS i3) (nI2 i4)).toInt64))), .second, .val (.double (f_ent3  (nI0 i4) (nI1 i4) (nI2 i4) (nS i0) (nS i1) (nS i2) (nS i3))), .second, iv (1 : Int32)] [(.int (1 : Int32)), (.ref b38)])) rfl rfl (hb hby at_337) _ ?_
          show Go p e below t T161 m 338 #[iv i0, iv i1, iv i2, iv i3, iv i4, rv b38, iv (3 : Int32), iv (nI0 i4), iv (nI1 i4), iv (nI2 i4), rv b140, .val (.long ((((1 : Int64) * ((own_sel (nS i0) (nS i1) (nS i2) (nS i3) (nI0 i4)).toInt64)) * ((own_sel (nS i0) (nS i1) (nS i2) (nS i3) (nI1 i4)).toInt64)) * ((own_sel (nS i0) (nS i1) (nS i2) (nS i3) (nI2 i4)).toInt64))), .second, .val (.double (f_ent3  (nI0 i4) (nI1 i4) (nI2 i4) (nS i0) (nS i1) (nS i2) (nS i3))), .second, iv (1 : Int32)] [(.int (nS i1))]
          refine XS.iloadN X161.here hx rfl (hb hby at_338) rfl ?_
          show Go p e below t T161 m 339 #[iv i0, iv i1, iv i2, iv i3, iv i4, rv b38, iv (3 : Int32), iv (nI0 i4), iv (nI1 i4), iv (nI2 i4), rv b140, .val (.long ((((1 : Int64) * ((own_sel (nS i0) (nS i1) (nS i2) (nS i3) (nI0 i4)).toInt64)) * ((own_sel (nS i0) (nS i1) (nS i2) (nS i3) (nI1 i4)).toInt64)) * ((own_sel (nS i0) (nS i1) (nS i2) (nS i3) (nI2 i4)).toInt64))), .second, .val (.double (f_ent3  (nI0 i4) (nI1 i4) (nI2 i4) (nS i0) (nS i1) (nS i2) (nS i3))), .second, iv (1 : Int32)] [(.int i1), (.int (nS i1))]
          refine Jvm.Stand.ldcI X161 hx hown (mvT hZ (hw _ (List.mem_of_getElem? (i := 1) rfl))) (g := (mkF m 339 #[iv i0, iv i1, iv i2, iv i3, iv i4, rv b38, iv (3 : Int32), iv (nI0 i4), iv (nI1 i4), iv (nI2 i4), rv b140, .val (.long ((((1 : Int64) * ((own_sel (nS i0) (nS i1) (nS i2) (nS i3) (nI0 i4)).toInt64)) * ((own_sel (nS i0) (nS i1) (nS i2) (nS i3) (nI1 i4)).toInt64)) * ((own_sel (nS i0) (nS i1) (nS i2) (nS i3) (nI2 i4)).toInt64))), .second, .val (.double (f_ent3  (nI0 i4) (nI1 i4) (nI2 i4) (nS i0) (nS i1) (nS i2) (nS i3))), .second, iv (1 : Int32)] [(.int i1), (.int (nS i1))])) rfl (hb hby at_339) ?_
          show Go p e below t T161 m 341 #[iv i0, iv i1, iv i2, iv i3, iv i4, rv b38, iv (3 : Int32), iv (nI0 i4), iv (nI1 i4), iv (nI2 i4), rv b140, .val (.long ((((1 : Int64) * ((own_sel (nS i0) (nS i1) (nS i2) (nS i3) (nI0 i4)).toInt64)) * ((own_sel (nS i0) (nS i1) (nS i2) (nS i3) (nI1 i4)).toInt64)) * ((own_sel (nS i0) (nS i1) (nS i2) (nS i3) (nI2 i4)).toInt64))), .second, .val (.double (f_ent3  (nI0 i4) (nI1 i4) (nI2 i4) (nS i0) (nS i1) (nS i2) (nS i3))), .second, iv (1 : Int32)] [(.int (131071 : Int32)), (.int i1), (.int (nS i1))]
          refine XS.iand X161.here hx rfl (hb hby at_341) rfl ?_
          show Go p e below t T161 m 342 #[iv i0, iv i1, iv i2, iv i3, iv i4, rv b38, iv (3 : Int32), iv (nI0 i4), iv (nI1 i4), iv (nI2 i4), rv b140, .val (.long ((((1 : Int64) * ((own_sel (nS i0) (nS i1) (nS i2) (nS i3) (nI0 i4)).toInt64)) * ((own_sel (nS i0) (nS i1) (nS i2) (nS i3) (nI1 i4)).toInt64)) * ((own_sel (nS i0) (nS i1) (nS i2) (nS i3) (nI2 i4)).toInt64))), .second, .val (.double (f_ent3  (nI0 i4) (nI1 i4) (nI2 i4) (nS i0) (nS i1) (nS i2) (nS i3))), .second, iv (1 : Int32)] [(.int (i1 &&& (131071 : Int32))), (.int (nS i1))]
          show Go p e below t T161 m 342 #[iv i0, iv i1, iv i2, iv i3, iv i4, rv b38, iv (3 : Int32), iv (nI0 i4), iv (nI1 i4), iv (nI2 i4), rv b140, .val (.long ((((1 : Int64) * ((own_sel (nS i0) (nS i1) (nS i2) (nS i3) (nI0 i4)).toInt64)) * ((own_sel (nS i0) (nS i1) (nS i2) (nS i3) (nI1 i4)).toInt64)) * ((own_sel (nS i0) (nS i1) (nS i2) (nS i3) (nI2 i4)).toInt64))), .second, .val (.double (f_ent3  (nI0 i4) (nI1 i4) (nI2 i4) (nS i0) (nS i1) (nS i2) (nS i3))), .second, iv (1 : Int32)] [(.int (nS i1)), (.int (nS i1))]
          refine XS.icmpNo X161.here hx rfl (hb hby at_342) rfl (XT.ii_ne_f rfl) ?_
          show Go p e below t T161 m 345 #[iv i0, iv i1, iv i2, iv i3, iv i4, rv b38, iv (3 : Int32), iv (nI0 i4), iv (nI1 i4), iv (nI2 i4), rv b140, .val (.long ((((1 : Int64) * ((own_sel (nS i0) (nS i1) (nS i2) (nS i3) (nI0 i4)).toInt64)) * ((own_sel (nS i0) (nS i1) (nS i2) (nS i3) (nI1 i4)).toInt64)) * ((own_sel (nS i0) (nS i1) (nS i2) (nS i3) (nI2 i4)).toInt64))), .second, .val (.double (f_ent3  (nI0 i4) (nI1 i4) (nI2 i4) (nS i0) (nS i1) (nS i2) (nS i3))), .second, iv (1 : Int32)] []
          refine XS.aload X161.here hx rfl (hb hby at_345) rfl rfl ?_
          show Go p e below t T161 m 347 #[iv i0, iv i1, iv i2, iv i3, iv i4, rv b38, iv (3 : Int32), iv (nI0 i4), iv (nI1 i4), iv (nI2 i4), rv b140, .val (.long ((((1 : Int64) * ((own_sel (nS i0) (nS i1) (nS i2) (nS i3) (nI0 i4)).toInt64)) * ((own_sel (nS i0) (nS i1) (nS i2) (nS i3) (nI1 i4)).toInt64)) * ((own_sel (nS i0) (nS i1) (nS i2) (nS i3) (nI2 i4)).toInt64))), .second, .val (.double (f_ent3  (nI0 i4) (nI1 i4) (nI2 i4) (nS i0) (nS i1) (nS i2) (nS i3))), .second, iv (1 : Int32)] [(.ref b38)]
          refine XT.iconstV X161.here hx rfl (2 : Int32) (hb hby at_347) (by decide) ?_
          show Go p e below t T161 m 348 #[iv i0, iv i1, iv i2, iv i3, iv i4, rv b38, iv (3 : Int32), iv (nI0 i4), iv (nI1 i4), iv (nI2 i4), rv b140, .val (.long ((((1 : Int64) * ((own_sel (nS i0) (nS i1) (nS i2) (nS i3) (nI0 i4)).toInt64)) * ((own_sel (nS i0) (nS i1) (nS i2) (nS i3) (nI1 i4)).toInt64)) * ((own_sel (nS i0) (nS i1) (nS i2) (nS i3) (nI2 i4)).toInt64))), .second, .val (.double (f_ent3  (nI0 i4) (nI1 i4) (nI2 i4) (nS i0) (nS i1) (nS i2) (nS i3))), .second, iv (1 : Int32)] [(.int (2 : Int32)), (.ref b38)]
          exact k)
        obtain ⟨cl176, Ar176, q176, S176, M176, H176, G176⟩ := id ((((V54.ext E140).other W144 (Nat.ne_of_lt (Nat.lt_of_lt_of_le V54.lt (Nat.le_of_eq gb140.symm)))).other W148 (Nat.ne_of_lt (Nat.lt_of_lt_of_le V54.lt (Nat.le_of_eq gb140.symm)))).other W152 (Nat.ne_of_lt (Nat.lt_of_lt_of_le V54.lt (Nat.le_of_eq gb140.symm))))
        have g177 : Goes p e below S0 (T161.setTop (mkF m 359 #[iv i0, iv i1, iv i2, iv i3, iv i4, rv b38, iv (3 : Int32), iv (nI0 i4), iv (nI1 i4), iv (nI2 i4), rv b140, .val (.long ((((1 : Int64) * ((own_sel (nS i0) (nS i1) (nS i2) (nS i3) (nI0 i4)).toInt64)) * ((own_sel (nS i0) (nS i1) (nS i2) (nS i3) (nI1 i4)).toInt64)) * ((own_sel (nS i0) (nS i1) (nS i2) (nS i3) (nI2 i4)).toInt64))), .second, .val (.double (f_ent3  (nI0 i4) (nI1 i4) (nI2 i4) (nS i0) (nS i1) (nS i2) (nS i3))), .second, iv (1 : Int32)] [(.int (3 : Int32)), (.ref b38)])) := fun t k => g175 t (by
          refine X161.iaload hx (j := (2 : Int32)) (v := (.int (nS i2))) (by rw [e161]; exact Ar176.1) (State.isArrayOf_alike hZ.alike Ar176.2.1) Ar176.2.2 (inb_of S176 ⟨by decide, by decide⟩) (H176.at (inb_of S176 ⟨by decide, by decide⟩) rfl) (g := (mkF m 348 #[iv i0, iv i1, iv i2, iv i3, iv i4, rv b38, iv (3 : Int32), iv (nI0 i4), iv (nI1 i4), iv (nI2 i4), rv b140, .val (.long ((((1 : Int64) * ((own_sel (nS i0) (nS i1) (nS i2) (nS i3) (nI0 i4)).toInt64)) * ((own_sel (nS i0) (nS i1) (nS i2) (nS i3) (nI1 i4)).toInt64)) * ((own_sel (nS i0) (nS i1) (nS i2) (nS i3) (nI2 i4)).toInt64))), .second, .val (.double (f_ent3  (nI0 i4) (nI1 i4) (nI2 i4) (nS i0) (nS i1) (nS i2) (nS i3))), .second, iv (1 : Int32)] [(.int (2 : Int32)), (.ref b38)])) rfl rfl (hb hby at_348) _ ?_
          show Go p e below t T161 m 349 #[iv i0, iv i1, iv i2, iv i3, iv i4, rv b38, iv (3 : Int32), iv (nI0 i4), iv (nI1 i4), iv (nI2 i4), rv b140, .val (.long ((((1 : Int64) * ((own_sel (nS i0) (nS i1) (nS i2) (nS i3) (nI0 i4)).toInt64)) * ((own_sel (nS i0) (nS i1) (nS i2) (nS i3) (nI1 i4)).toInt64)) * ((own_sel (nS i0) (nS i1) (nS i2) (nS i3) (nI2 i4)).toInt64))), .second, .val (.double (f_ent3  (nI0 i4) (nI1 i4) (nI2 i4) (nS i0) (nS i1) (nS i2) (nS i3))), .second, iv (1 : Int32)] [(.int (nS i2))]
          refine XS.iloadN X161.here hx rfl (hb hby at_349) rfl ?_
          show Go p e below t T161 m 350 #[iv i0, iv i1, iv i2, iv i3, iv i4, rv b38, iv (3 : Int32), iv (nI0 i4), iv (nI1 i4), iv (nI2 i4), rv b140, .val (.long ((((1 : Int64) * ((own_sel (nS i0) (nS i1) (nS i2) (nS i3) (nI0 i4)).toInt64)) * ((own_sel (nS i0) (nS i1) (nS i2) (nS i3) (nI1 i4)).toInt64)) * ((own_sel (nS i0) (nS i1) (nS i2) (nS i3) (nI2 i4)).toInt64))), .second, .val (.double (f_ent3  (nI0 i4) (nI1 i4) (nI2 i4) (nS i0) (nS i1) (nS i2) (nS i3))), .second, iv (1 : Int32)] [(.int i2), (.int (nS i2))]
          refine Jvm.Stand.ldcI X161 hx hown (mvT hZ (hw _ (List.mem_of_getElem? (i := 1) rfl))) (g := (mkF m 350 #[iv i0, iv i1, iv i2, iv i3, iv i4, rv b38, iv (3 : Int32), iv (nI0 i4), iv (nI1 i4), iv (nI2 i4), rv b140, .val (.long ((((1 : Int64) * ((own_sel (nS i0) (nS i1) (nS i2) (nS i3) (nI0 i4)).toInt64)) * ((own_sel (nS i0) (nS i1) (nS i2) (nS i3) (nI1 i4)).toInt64)) * ((own_sel (nS i0) (nS i1) (nS i2) (nS i3) (nI2 i4)).toInt64))), .second, .val (.double (f_ent3  (nI0 i4) (nI1 i4) (nI2 i4) (nS i0) (nS i1) (nS i2) (nS i3))), .second, iv (1 : Int32)] [(.int i2), (.int (nS i2))])) rfl (hb hby at_350) ?_
          show Go p e below t T161 m 352 #[iv i0, iv i1, iv i2, iv i3, iv i4, rv b38, iv (3 : Int32), iv (nI0 i4), iv (nI1 i4), iv (nI2 i4), rv b140, .val (.long ((((1 : Int64) * ((own_sel (nS i0) (nS i1) (nS i2) (nS i3) (nI0 i4)).toInt64)) * ((own_sel (nS i0) (nS i1) (nS i2) (nS i3) (nI1 i4)).toInt64)) * ((own_sel (nS i0) (nS i1) (nS i2) (nS i3) (nI2 i4)).toInt64))), .second, .val (.double (f_ent3  (nI0 i4) (nI1 i4) (nI2 i4) (nS i0) (nS i1) (nS i2) (nS i3))), .second, iv (1 : Int32)] [(.int (131071 : Int32)), (.int i2), (.int (nS i2))]
          refine XS.iand X161.here hx rfl (hb hby at_352) rfl ?_
          show Go p e below t T161 m 353 #[iv i0, iv i1, iv i2, iv i3, iv i4, rv b38, iv (3 : Int32), iv (nI0 i4), iv (nI1 i4), iv (nI2 i4), rv b140, .val (.long ((((1 : Int64) * ((own_sel (nS i0) (nS i1) (nS i2) (nS i3) (nI0 i4)).toInt64)) * ((own_sel (nS i0) (nS i1) (nS i2) (nS i3) (nI1 i4)).toInt64)) * ((own_sel (nS i0) (nS i1) (nS i2) (nS i3) (nI2 i4)).toInt64))), .second, .val (.double (f_ent3  (nI0 i4) (nI1 i4) (nI2 i4) (nS i0) (nS i1) (nS i2) (nS i3))), .second, iv (1 : Int32)] [(.int (i2 &&& (131071 : Int32))), (.int (nS i2))]
          show Go p e below t T161 m 353 #[iv i0, iv i1, iv i2, iv i3, iv i4, rv b38, iv (3 : Int32), iv (nI0 i4), iv (nI1 i4), iv (nI2 i4), rv b140, .val (.long ((((1 : Int64) * ((own_sel (nS i0) (nS i1) (nS i2) (nS i3) (nI0 i4)).toInt64)) * ((own_sel (nS i0) (nS i1) (nS i2) (nS i3) (nI1 i4)).toInt64)) * ((own_sel (nS i0) (nS i1) (nS i2) (nS i3) (nI2 i4)).toInt64))), .second, .val (.double (f_ent3  (nI0 i4) (nI1 i4) (nI2 i4) (nS i0) (nS i1) (nS i2) (nS i3))), .second, iv (1 : Int32)] [(.int (nS i2)), (.int (nS i2))]
          refine XS.icmpNo X161.here hx rfl (hb hby at_353) rfl (XT.ii_ne_f rfl) ?_
          show Go p e below t T161 m 356 #[iv i0, iv i1, iv i2, iv i3, iv i4, rv b38, iv (3 : Int32), iv (nI0 i4), iv (nI1 i4), iv (nI2 i4), rv b140, .val (.long ((((1 : Int64) * ((own_sel (nS i0) (nS i1) (nS i2) (nS i3) (nI0 i4)).toInt64)) * ((own_sel (nS i0) (nS i1) (nS i2) (nS i3) (nI1 i4)).toInt64)) * ((own_sel (nS i0) (nS i1) (nS i2) (nS i3) (nI2 i4)).toInt64))), .second, .val (.double (f_ent3  (nI0 i4) (nI1 i4) (nI2 i4) (nS i0) (nS i1) (nS i2) (nS i3))), .second, iv (1 : Int32)] []
          refine XS.aload X161.here hx rfl (hb hby at_356) rfl rfl ?_
          show Go p e below t T161 m 358 #[iv i0, iv i1, iv i2, iv i3, iv i4, rv b38, iv (3 : Int32), iv (nI0 i4), iv (nI1 i4), iv (nI2 i4), rv b140, .val (.long ((((1 : Int64) * ((own_sel (nS i0) (nS i1) (nS i2) (nS i3) (nI0 i4)).toInt64)) * ((own_sel (nS i0) (nS i1) (nS i2) (nS i3) (nI1 i4)).toInt64)) * ((own_sel (nS i0) (nS i1) (nS i2) (nS i3) (nI2 i4)).toInt64))), .second, .val (.double (f_ent3  (nI0 i4) (nI1 i4) (nI2 i4) (nS i0) (nS i1) (nS i2) (nS i3))), .second, iv (1 : Int32)] [(.ref b38)]
          refine XT.iconstV X161.here hx rfl (3 : Int32) (hb hby at_358) (by decide) ?_
          show Go p e below t T161 m 359 #[iv i0, iv i1, iv i2, iv i3, iv i4, rv b38, iv (3 : Int32), iv (nI0 i4), iv (nI1 i4), iv (nI2 i4), rv b140, .val (.long ((((1 : Int64) * ((own_sel (nS i0) (nS i1) (nS i2) (nS i3) (nI0 i4)).toInt64)) * ((own_sel (nS i0) (nS i1) (nS i2) (nS i3) (nI1 i4)).toInt64)) * ((own_sel (nS i0) (nS i1) (nS i2) (nS i3) (nI2 i4)).toInt64))), .second, .val (.double (f_ent3  (nI0 i4) (nI1 i4) (nI2 i4) (nS i0) (nS i1) (nS i2) (nS i3))), .second, iv (1 : Int32)] [(.int (3 : Int32)), (.ref b38)]
          exact k)
        obtain ⟨cl178, Ar178, q178, S178, M178, H178, G178⟩ := id ((((V54.ext E140).other W144 (Nat.ne_of_lt (Nat.lt_of_lt_of_le V54.lt (Nat.le_of_eq gb140.symm)))).other W148 (Nat.ne_of_lt (Nat.lt_of_lt_of_le V54.lt (Nat.le_of_eq gb140.symm)))).other W152 (Nat.ne_of_lt (Nat.lt_of_lt_of_le V54.lt (Nat.le_of_eq gb140.symm))))
        have g179 : Goes p e below S0 (T161.setTop (mkF m 376 #[iv i0, iv i1, iv i2, iv i3, iv i4, rv b38, iv (3 : Int32), iv (nI0 i4), iv (nI1 i4), iv (nI2 i4), rv b140, .val (.long ((((1 : Int64) * ((own_sel (nS i0) (nS i1) (nS i2) (nS i3) (nI0 i4)).toInt64)) * ((own_sel (nS i0) (nS i1) (nS i2) (nS i3) (nI1 i4)).toInt64)) * ((own_sel (nS i0) (nS i1) (nS i2) (nS i3) (nI2 i4)).toInt64))), .second, .val (.double (f_ent3  (nI0 i4) (nI1 i4) (nI2 i4) (nS i0) (nS i1) (nS i2) (nS i3))), .second, iv (1 : Int32)] [(.int (1 : Int32))])) := fun t k => g177 t (by
          refine X161.iaload hx (j := (3 : Int32)) (v := (.int (nS i3))) (by rw [e161]; exact Ar178.1) (State.isArrayOf_alike hZ.alike Ar178.2.1) Ar178.2.2 (inb_of S178 ⟨by decide, by decide⟩) (H178.at (inb_of S178 ⟨by decide, by decide⟩) rfl) (g := (mkF m 359 #[iv i0, iv i1, iv i2, iv i3, iv i4, rv b38, iv (3 : Int32), iv (nI0 i4), iv (nI1 i4), iv (nI2 i4), rv b140, .val (.long ((((1 : Int64) * ((own_sel (nS i0) (nS i1) (nS i2) (nS i3) (nI0 i4)).toInt64)) * ((own_sel (nS i0) (nS i1) (nS i2) (nS i3) (nI1 i4)).toInt64)) * ((own_sel (nS i0) (nS i1) (nS i2) (nS i3) (nI2 i4)).toInt64))), .second, .val (.double (f_ent3  (nI0 i4) (nI1 i4) (nI2 i4) (nS i0) (nS i1) (nS i2) (nS i3))), .second, iv (1 : Int32)] [(.int (3 : Int32)), (.ref b38)])) rfl rfl (hb hby at_359) _ ?_
          show Go p e below t T161 m 360 #[iv i0, iv i1, iv i2, iv i3, iv i4, rv b38, iv (3 : Int32), iv (nI0 i4), iv (nI1 i4), iv (nI2 i4), rv b140, .val (.long ((((1 : Int64) * ((own_sel (nS i0) (nS i1) (nS i2) (nS i3) (nI0 i4)).toInt64)) * ((own_sel (nS i0) (nS i1) (nS i2) (nS i3) (nI1 i4)).toInt64)) * ((own_sel (nS i0) (nS i1) (nS i2) (nS i3) (nI2 i4)).toInt64))), .second, .val (.double (f_ent3  (nI0 i4) (nI1 i4) (nI2 i4) (nS i0) (nS i1) (nS i2) (nS i3))), .second, iv (1 : Int32)] [(.int (nS i3))]
          refine XS.iloadN X161.here hx rfl (hb hby at_360) rfl ?_
          show Go p e below t T161 m 361 #[iv i0, iv i1, iv i2, iv i3, iv i4, rv b38, iv (3 : Int32), iv (nI0 i4), iv (nI1 i4), iv (nI2 i4), rv b140, .val (.long ((((1 : Int64) * ((own_sel (nS i0) (nS i1) (nS i2) (nS i3) (nI0 i4)).toInt64)) * ((own_sel (nS i0) (nS i1) (nS i2) (nS i3) (nI1 i4)).toInt64)) * ((own_sel (nS i0) (nS i1) (nS i2) (nS i3) (nI2 i4)).toInt64))), .second, .val (.double (f_ent3  (nI0 i4) (nI1 i4) (nI2 i4) (nS i0) (nS i1) (nS i2) (nS i3))), .second, iv (1 : Int32)] [(.int i3), (.int (nS i3))]
          refine Jvm.Stand.ldcI X161 hx hown (mvT hZ (hw _ (List.mem_of_getElem? (i := 1) rfl))) (g := (mkF m 361 #[iv i0, iv i1, iv i2, iv i3, iv i4, rv b38, iv (3 : Int32), iv (nI0 i4), iv (nI1 i4), iv (nI2 i4), rv b140, .val (.long ((((1 : Int64) * ((own_sel (nS i0) (nS i1) (nS i2) (nS i3) (nI0 i4)).toInt64)) * ((own_sel (nS i0) (nS i1) (nS i2) (nS i3) (nI1 i4)).toInt64)) * ((own_sel (nS i0) (nS i1) (nS i2) (nS i3) (nI2 i4)).toInt64))), .second, .val (.double (f_ent3  (nI0 i4) (nI1 i4) (nI2 i4) (nS i0) (nS i1) (nS i2) (nS i3))), .second, iv (1 : Int32)] [(.int i3), (.int (nS i3))])) rfl (hb hby at_361) ?_
          show Go p e below t T161 m 363 #[iv i0, iv i1, iv i2, iv i3, iv i4, rv b38, iv (3 : Int32), iv (nI0 i4), iv (nI1 i4), iv (nI2 i4), rv b140, .val (.long ((((1 : Int64) * ((own_sel (nS i0) (nS i1) (nS i2) (nS i3) (nI0 i4)).toInt64)) * ((own_sel (nS i0) (nS i1) (nS i2) (nS i3) (nI1 i4)).toInt64)) * ((own_sel (nS i0) (nS i1) (nS i2) (nS i3) (nI2 i4)).toInt64))), .second, .val (.double (f_ent3  (nI0 i4) (nI1 i4) (nI2 i4) (nS i0) (nS i1) (nS i2) (nS i3))), .second, iv (1 : Int32)] [(.int (131071 : Int32)), (.int i3), (.int (nS i3))]
          refine XS.iand X161.here hx rfl (hb hby at_363) rfl ?_
          show Go p e below t T161 m 364 #[iv i0, iv i1, iv i2, iv i3, iv i4, rv b38, iv (3 : Int32), iv (nI0 i4), iv (nI1 i4), iv (nI2 i4), rv b140, .val (.long ((((1 : Int64) * ((own_sel (nS i0) (nS i1) (nS i2) (nS i3) (nI0 i4)).toInt64)) * ((own_sel (nS i0) (nS i1) (nS i2) (nS i3) (nI1 i4)).toInt64)) * ((own_sel (nS i0) (nS i1) (nS i2) (nS i3) (nI2 i4)).toInt64))), .second, .val (.double (f_ent3  (nI0 i4) (nI1 i4) (nI2 i4) (nS i0) (nS i1) (nS i2) (nS i3))), .second, iv (1 : Int32)] [(.int (i3 &&& (131071 : Int32))), (.int (nS i3))]
          show Go p e below t T161 m 364 #[iv i0, iv i1, iv i2, iv i3, iv i4, rv b38, iv (3 : Int32), iv (nI0 i4), iv (nI1 i4), iv (nI2 i4), rv b140, .val (.long ((((1 : Int64) * ((own_sel (nS i0) (nS i1) (nS i2) (nS i3) (nI0 i4)).toInt64)) * ((own_sel (nS i0) (nS i1) (nS i2) (nS i3) (nI1 i4)).toInt64)) * ((own_sel (nS i0) (nS i1) (nS i2) (nS i3) (nI2 i4)).toInt64))), .second, .val (.double (f_ent3  (nI0 i4) (nI1 i4) (nI2 i4) (nS i0) (nS i1) (nS i2) (nS i3))), .second, iv (1 : Int32)] [(.int (nS i3)), (.int (nS i3))]
          refine XS.icmpNo X161.here hx rfl (hb hby at_364) rfl (XT.ii_ne_f rfl) ?_
          show Go p e below t T161 m 367 #[iv i0, iv i1, iv i2, iv i3, iv i4, rv b38, iv (3 : Int32), iv (nI0 i4), iv (nI1 i4), iv (nI2 i4), rv b140, .val (.long ((((1 : Int64) * ((own_sel (nS i0) (nS i1) (nS i2) (nS i3) (nI0 i4)).toInt64)) * ((own_sel (nS i0) (nS i1) (nS i2) (nS i3) (nI1 i4)).toInt64)) * ((own_sel (nS i0) (nS i1) (nS i2) (nS i3) (nI2 i4)).toInt64))), .second, .val (.double (f_ent3  (nI0 i4) (nI1 i4) (nI2 i4) (nS i0) (nS i1) (nS i2) (nS i3))), .second, iv (1 : Int32)] []
          refine XT.iconstV X161.here hx rfl (1 : Int32) (hb hby at_367) (by decide) ?_
          show Go p e below t T161 m 368 #[iv i0, iv i1, iv i2, iv i3, iv i4, rv b38, iv (3 : Int32), iv (nI0 i4), iv (nI1 i4), iv (nI2 i4), rv b140, .val (.long ((((1 : Int64) * ((own_sel (nS i0) (nS i1) (nS i2) (nS i3) (nI0 i4)).toInt64)) * ((own_sel (nS i0) (nS i1) (nS i2) (nS i3) (nI1 i4)).toInt64)) * ((own_sel (nS i0) (nS i1) (nS i2) (nS i3) (nI2 i4)).toInt64))), .second, .val (.double (f_ent3  (nI0 i4) (nI1 i4) (nI2 i4) (nS i0) (nS i1) (nS i2) (nS i3))), .second, iv (1 : Int32)] [(.int (1 : Int32))]
          refine XS.goto X161.here hx rfl (pc0 := 368) (pc' := 372) rfl (hb hby at_368) (by decide) (by decide) ?_
          show Go p e below t T161 m 372 #[iv i0, iv i1, iv i2, iv i3, iv i4, rv b38, iv (3 : Int32), iv (nI0 i4), iv (nI1 i4), iv (nI2 i4), rv b140, .val (.long ((((1 : Int64) * ((own_sel (nS i0) (nS i1) (nS i2) (nS i3) (nI0 i4)).toInt64)) * ((own_sel (nS i0) (nS i1) (nS i2) (nS i3) (nI1 i4)).toInt64)) * ((own_sel (nS i0) (nS i1) (nS i2) (nS i3) (nI2 i4)).toInt64))), .second, .val (.double (f_ent3  (nI0 i4) (nI1 i4) (nI2 i4) (nS i0) (nS i1) (nS i2) (nS i3))), .second, iv (1 : Int32)] [(.int (1 : Int32))]
          refine XS.istore X161.here hx rfl (hb hby at_372) rfl (l' := #[iv i0, iv i1, iv i2, iv i3, iv i4, rv b38, iv (3 : Int32), iv (nI0 i4), iv (nI1 i4), iv (nI2 i4), rv b140, .val (.long ((((1 : Int64) * ((own_sel (nS i0) (nS i1) (nS i2) (nS i3) (nI0 i4)).toInt64)) * ((own_sel (nS i0) (nS i1) (nS i2) (nS i3) (nI1 i4)).toInt64)) * ((own_sel (nS i0) (nS i1) (nS i2) (nS i3) (nI2 i4)).toInt64))), .second, .val (.double (f_ent3  (nI0 i4) (nI1 i4) (nI2 i4) (nS i0) (nS i1) (nS i2) (nS i3))), .second, iv (1 : Int32)]) rfl ?_
          show Go p e below t T161 m 374 #[iv i0, iv i1, iv i2, iv i3, iv i4, rv b38, iv (3 : Int32), iv (nI0 i4), iv (nI1 i4), iv (nI2 i4), rv b140, .val (.long ((((1 : Int64) * ((own_sel (nS i0) (nS i1) (nS i2) (nS i3) (nI0 i4)).toInt64)) * ((own_sel (nS i0) (nS i1) (nS i2) (nS i3) (nI1 i4)).toInt64)) * ((own_sel (nS i0) (nS i1) (nS i2) (nS i3) (nI2 i4)).toInt64))), .second, .val (.double (f_ent3  (nI0 i4) (nI1 i4) (nI2 i4) (nS i0) (nS i1) (nS i2) (nS i3))), .second, iv (1 : Int32)] []
          refine XS.iload X161.here hx rfl (hb hby at_374) rfl ?_
          show Go p e below t T161 m 376 #[iv i0, iv i1, iv i2, iv i3, iv i4, rv b38, iv (3 : Int32), iv (nI0 i4), iv (nI1 i4), iv (nI2 i4), rv b140, .val (.long ((((1 : Int64) * ((own_sel (nS i0) (nS i1) (nS i2) (nS i3) (nI0 i4)).toInt64)) * ((own_sel (nS i0) (nS i1) (nS i2) (nS i3) (nI1 i4)).toInt64)) * ((own_sel (nS i0) (nS i1) (nS i2) (nS i3) (nI2 i4)).toInt64))), .second, .val (.double (f_ent3  (nI0 i4) (nI1 i4) (nI2 i4) (nS i0) (nS i1) (nS i2) (nS i3))), .second, iv (1 : Int32)] [(.int (1 : Int32))]
          exact k)
        obtain ⟨fs, hr, hrun, hended, hW, hsame⟩ := X161.leave (v := some (.int (1 : Int32))) (fun h => by rw [Bd.returns] at h; cases h)
        refine ⟨_, _, g179 _ (retN X161 hx (t := .boolean) Bd.returns (by simp) (hb hby at_376) hr), hrun, hended, _, _, rfl, ?_, ⟨_, rfl⟩, hW, hsame.mono (by decide) (by decide)⟩
        show Q_law Z i0 i1 i2 i3 i4  h0 n0 _ T161.heap _
        rw [e161]
        exact ⟨rfl, M161⟩
theorem own_one (a b c d e : Int32) : f_law a b c d e = 1 := rfl
set_option maxRecDepth 65536 in
set_option maxHeartbeats 40000000 in
theorem comes_1 {Post : Tables → Env → Array Value → State → Outcome → State → Prop} (hpost : ∀ tb e args s v u, (limb_1_1.after args s (.returned v) u = true ∧ limb_1_2.after args s (.returned v) u = true ∧ True) → FrameEnd s (.returned v) u (Jvm.fieldLocs frame_1_writes args s ++ Jvm.arrayLocs frame_1_arrays args s ++ Jvm.staticLocs frame_1_statics s) 16 128 → Post tb e args s (.returned v) u) :
    ArmFor flags0 classFile x code maxLocals ret World_1 tables_1 room_1 Calls_1 rest_1 Pre_1 Post := by
  intro l hfl _ _ p e ha hc hk s m args below hf hA hF happ hP
  obtain ⟨hcalls, hrest, hpre⟩ := hP
  obtain ⟨-, -, -, hnamed, -, -, -, hat⟩ := (Spec.applies_iff hf).mp happ
  obtain ⟨hg, hn⟩ := and_e (Cond.before_iff.mp (show (Jvm.Cond.and given_1 narrow_1).before args s = true from hpre))
  obtain ⟨hcount, q0⟩ := and_e hg
  obtain ⟨b0, q1⟩ := and_e q0
  obtain ⟨b1, q2⟩ := and_e q1
  obtain ⟨b2, q3⟩ := and_e q2
  obtain ⟨b3, q4⟩ := and_e q3
  have b4 := q4
  obtain ⟨w0, w1, w2, w3, w4, rfl⟩ : ∃ w0 w1 w2 w3 w4 : Value, args = #[w0, w1, w2, w3, w4] := by
    have hs : args.size = 5 := by simpa [Cond.value, given_1] using hcount
    obtain ⟨L⟩ := args
    match L, hs with
    | [w0, w1, w2, w3, w4], _ => exact ⟨w0, w1, w2, w3, w4, rfl⟩
  have hw := fun d (hd : d ∈ tables_1) => atoms_spec (ws := Jvm.Cond.code x code maxLocals ret :: tables_1) hat d (List.mem_cons_of_mem _ hd)
  have hfit : Fit s := fun {y c} hc i hi => by
    obtain ⟨ha, rfl⟩ := Array.getElem?_eq_some_iff.mp hc
    have q := List.all_eq_true.mp ((Array.all_eq_true_iff_forall_mem.mp hF) _ (Array.getElem_mem ha)) i (List.mem_range.mpr hi)
    simpa [Array.getElem?_eq_getElem hi] using q
  obtain ⟨i0, r0⟩ := is_v b0
  obtain rfl : w0 = (.int i0) := Option.some.inj r0
  obtain ⟨i1, r1⟩ := is_v b1
  obtain rfl : w1 = (.int i1) := Option.some.inj r1
  obtain ⟨i2, r2⟩ := is_v b2
  obtain rfl : w2 = (.int i2) := Option.some.inj r2
  obtain ⟨i3, r3⟩ := is_v b3
  obtain rfl : w3 = (.int i3) := Option.some.inj r3
  obtain ⟨i4, r4⟩ := is_v b4
  obtain rfl : w4 = (.int i4) := Option.some.inj r4
  obtain ⟨n, o, h1, h2, h3, v, L, rfl, ⟨hv, N⟩, hq⟩ := rm_law l s _ hw tables_1 i0 i1 i2 i3 i4  s.heap s.heap.size (Nat.le_refl _)  p e ha hc hk s m _ below hf ((Spec.applies_iff_loose hf).mp happ).1 ⟨rfl, State.Warmed39.refl s, rfl⟩ trivial
  obtain rfl : v = some (.int 1) := by rw [hv, own_one]
  refine ⟨n, _, h1, h2, h3, hpost _ _ _ _ _ _ ⟨Cond.after_iff.mpr rfl, Cond.after_iff.mpr (eq_i res_at (Term.int_eval (1)) rfl), trivial⟩ ⟨hq.1, hq.2.1, (hq.2.2.sift fun y hy => Or.inr (N y hy)).mono (by decide) (by decide)⟩⟩
theorem main_1_1 : Claimed_1_1 := comes_1 fun _ _ _ _ _ _ h hF => ⟨h.1, hF⟩
theorem main_1_2 : Claimed_1_2 := comes_1 fun _ _ _ _ _ _ h hF => ⟨h.2.1, hF⟩
end Jvm.Pilot.@@N@@
namespace Jvm.Pilot.@@N@@
open Jvm Jvm.ClassFile Sem Op Lib Jvm.Free Jvm.Stand Jvm.Pilot.@@N@@.Jvm.D
/-! MADE BY PROGRAM (witnessworld.py) out of the Statement's table words and the real class files: 9 classes; the members and pool entries that the words name. The judged class is class 1, her method 1. -/
namespace start1
open Jvm.ClassFile
def u (s : String) : CpInfo := .utf8 (stringToUtf16 s)
/-- a pool by its gaps: so many unusable entries, then the entry; so many at the end -/
def gap : Nat → List CpInfo → List CpInfo
  | 0, r => r
  | n + 1, r => .unusable :: gap n r
def poolList (es : List (Nat × CpInfo)) (last : Nat) : List CpInfo := es.foldr (fun e r => gap e.1 (e.2 :: r)) (gap last [])
def pool (es : List (Nat × CpInfo)) (last : Nat) : Array CpInfo := ⟨poolList es last⟩
def fileOf (pool : Array CpInfo) (this : Nat) (attrs : Array Attribute := #[]) (ms : Array MethodInfo := #[]) (fl : Nat := 33) (sup : Nat := 0) (ifs : Array Nat := #[]) (fds : Array FieldInfo := #[]) : ClassFile where
  minorVersion := 0
  majorVersion := 65
  constantPool := pool
  accessFlags := fl
  thisClass := this
  superClass := sup
  interfaces := ifs
  fields := fds
  methods := ms
  attributes := attrs
def plain (name : String) (sup : Option ClassId) : Class where
  name := name
  kind := .ordinary
  loader := none
  accessFlags := 33
  super := sup
  interfaces := #[]
  cf := none
  fields := #[]
  methods := #[]
  instanceTypes := #[]
  staticTypes := #[]
  resolved := #[]
  callSites := []
  init := .initialized
  statics := none
  mirror := none

def pool0 : Array CpInfo := pool [(5, u "<init>"), (0, u "()V"), (1, .class_ 10), (1, u "java/lang/Object")] 113

def k0m0 : Method := { name := "<init>", desc := "()V", sig := { parameters := [], returnType := none }, accessFlags := 1, code := none }
/-- java/lang/Object -/
def k0 : Class := { plain "java/lang/Object" none with
  accessFlags := 33
  interfaces := #[]
  cf := some (fileOf pool0 8 #[] #[{ accessFlags := 1, nameIndex := 5, descriptorIndex := 6, attributes := #[] }] 33 0 #[] #[])
  fields := #[]
  methods := #[k0m0]
  instanceTypes := #[]
  staticTypes := #[]
  resolved := Array.replicate 124 none
  statics := none }

def pool1 : Array CpInfo := pool [(2, .class_ 4), (1, u "java/lang/Object"), (0, u "<init>"), (0, u "()V"), (0, .integer 131071), (0, .methodref 9 10), (0, .class_ 11), (0, .nameAndType 12 13), (0, u "com/example/aristotle/aristotle/EliminationPlan"), (0, u "entries"), (0, u "([I[I)D"), (0, .class_ 15), (0, u "com/example/aristotle/aristotle/EliminationPlanEntriesPinLaw"), (2, u "law"), (0, u "(IIIII)Z")] 5

def k1m0 : Method := { name := "<init>", desc := "()V", sig := { parameters := [], returnType := none }, accessFlags := 1, code := none }
def k1c1 : Code := { maxStack := 5, maxLocals := 16, code := code, exceptionTable := #[], attributes := #[] }
def k1m1 : Method := { name := "law", desc := "(IIIII)Z", sig := { parameters := [.int, .int, .int, .int, .int], returnType := some .boolean }, accessFlags := 9, code := some k1c1 }
/-- com/example/aristotle/aristotle/EliminationPlanEntriesPinLaw -/
def k1 : Class := { plain "com/example/aristotle/aristotle/EliminationPlanEntriesPinLaw" (some 0) with
  accessFlags := 49
  interfaces := #[]
  cf := some (fileOf pool1 14 #[] #[{ accessFlags := 1, nameIndex := 5, descriptorIndex := 6, attributes := #[] }, { accessFlags := 9, nameIndex := 18, descriptorIndex := 19, attributes := #[] }] 49 2 #[] #[])
  fields := #[]
  methods := #[k1m0, k1m1]
  instanceTypes := #[]
  staticTypes := #[]
  resolved := Array.replicate 25 none
  statics := none }

def pool2 : Array CpInfo := pool [(2, .class_ 4), (1, u "java/lang/Object"), (6, .class_ 13), (1, u "com/example/aristotle/aristotle/EliminationPlan"), (0, u "steps"), (0, u "Ljava/util/List;"), (8, u "given"), (0, u "I"), (52, u "entries"), (0, u "([I[I)D"), (24, .class_ 105), (0, u "com/example/aristotle/aristotle/EliminationPlan$Step"), (12, u "looks"), (0, u "D")] 164

def k2c0 : Code := { maxStack := 4, maxLocals := 8, code := prog_47_method_2_code, exceptionTable := #[], attributes := #[] }
def k2m0 : Method := { name := "entries", desc := "([I[I)D", sig := { parameters := [(.array .int), (.array .int)], returnType := some .double }, accessFlags := 8, code := some k2c0 }
/-- com/example/aristotle/aristotle/EliminationPlan -/
def k2 : Class := { plain "com/example/aristotle/aristotle/EliminationPlan" (some 0) with
  accessFlags := 32
  interfaces := #[]
  cf := some (fileOf pool2 11 #[.nestMembers #[104]] #[{ accessFlags := 8, nameIndex := 78, descriptorIndex := 79, attributes := #[] }] 32 2 #[] #[{ accessFlags := 18, nameIndex := 24, descriptorIndex := 25, attributes := #[] }, { accessFlags := 18, nameIndex := 14, descriptorIndex := 15, attributes := #[] }, { accessFlags := 18, nameIndex := 118, descriptorIndex := 119, attributes := #[] }])
  fields := #[{ name := "given", type := .int, accessFlags := 18, slot := 0, constantValue := 0 }, { name := "steps", type := (.object "java/util/List"), accessFlags := 18, slot := 1, constantValue := 0 }, { name := "looks", type := .double, accessFlags := 18, slot := 2, constantValue := 0 }]
  methods := #[k2m0]
  instanceTypes := #[.int, (.object "java/util/List"), .double]
  staticTypes := #[]
  resolved := Array.replicate 284 none
  statics := none }

def pool3 : Array CpInfo := pool [(1, u "java/lang/Cloneable"), (0, .class_ 1), (0, u "java/lang/Object"), (0, .class_ 3)] 3

/-- java/lang/Cloneable -/
def k3 : Class := { plain "java/lang/Cloneable" (some 0) with
  accessFlags := 1537
  interfaces := #[]
  cf := some (fileOf pool3 2 #[] #[] 1537 4 #[] #[])
  fields := #[]
  methods := #[]
  instanceTypes := #[]
  staticTypes := #[]
  resolved := Array.replicate 8 none
  statics := none }

def pool4 : Array CpInfo := pool [(1, u "java/io/Serializable"), (0, .class_ 1), (0, u "java/lang/Object"), (0, .class_ 3)] 3

/-- java/io/Serializable -/
def k4 : Class := { plain "java/io/Serializable" (some 0) with
  accessFlags := 1537
  interfaces := #[]
  cf := some (fileOf pool4 2 #[] #[] 1537 4 #[] #[])
  fields := #[]
  methods := #[]
  instanceTypes := #[]
  staticTypes := #[]
  resolved := Array.replicate 8 none
  statics := none }

/-- the primitive byte -/
def k5 : Class := { plain "byte" none with kind := .primitive 'B', accessFlags := 0x411 }
/-- [B -/
def k6 : Class := { plain "[B" (some 0) with kind := .array 5 .byte, interfaces := #[3, 4], accessFlags := 1041 }

/-- the primitive int -/
def k7 : Class := { plain "int" none with kind := .primitive 'I', accessFlags := 0x411 }
/-- [I -/
def k8 : Class := { plain "[I" (some 0) with kind := .array 7 .int, interfaces := #[3, 4], accessFlags := 1041 }

def heap : Heap := #[]
def classes : Array Class := #[k0, k1, k2, k3, k4, k5, k6, k7, k8]
def interned : List (Array UInt16 × Addr) := []
def slotsUsed : Nat := 0
def theMethod : MethodId := ⟨1, 1⟩
def args0 : Array Value := #[.int 5, .int 7, .int 9, .int 11, .int 13]
def aboutOver (below : List Frame) : State where
  vm := { classes := classes, interned := interned.toArray }
  heap := heap
  slotsUsed := slotsUsed
  threads := #[{ frames := .invoking theMethod args0 :: below }]
def below0 : List Frame := [.native { method := ⟨0, 0⟩, args := #[] }]
def about1 : State := aboutOver below0
def p0 : Program := .bare "" "" ""
def e0 : Env := launch0.env 0 0 0
theorem w_frames : about1.frames = Frame.invoking theMethod args0 :: below0 := rfl
set_option maxRecDepth 65536 in
theorem w_args : argsFit about1.vm theMethod args0 = true := by decide +kernel
set_option maxRecDepth 65536 in
theorem w_heap : heapFits about1 = true := by decide +kernel
set_option maxRecDepth 65536 in
theorem w_runnable : about1.curStatus? = some .runnable := by decide +kernel
set_option maxRecDepth 65536 in
theorem w_alone : about1.alone = true := by decide +kernel
set_option maxRecDepth 65536 in
theorem w_named : about1.methodNamed? x = some theMethod := by decide +kernel
set_option maxRecDepth 65536 in
theorem w_hears : about1.hears theMethod below0 = true := by decide +kernel
set_option maxRecDepth 65536 in
theorem w_ripe : about1.ripe theMethod args0 below0 = true := by decide +kernel
theorem w_running : about1.status = .running := rfl
set_option maxRecDepth 65536 in
theorem w_room : about1.hasRoom e0.platform room_1 = true :=
  launch0.hasRoom_least _ room_1 (by decide +kernel) (by decide +kernel) (by decide +kernel) (by decide +kernel) (by decide +kernel) (by decide +kernel)
theorem allAtoms_all (ts : List Jvm.Cond) (a : Array Jvm.Value) (st : Jvm.State) : (allAtoms ts).before a st = ts.all (fun c => c.before a st) := by
  induction ts with
  | nil => rfl
  | cons c t ih =>
    show (Jvm.Cond.and c (allAtoms t)).before a st = _
    rw [Jvm.Cond.before_and, ih, List.all_cons]
def words1 : List Jvm.Cond := Jvm.Cond.code x code maxLocals ret :: tables_1
/-- a 'code' word, met by the world's own term for the bytes: nothing is compared byte by byte -/
theorem code_word {y : MethodName} {bytes : ByteArray} {mx : Nat} {rt : Option FieldType} {a : Array Value} {s : State} {m : MethodId} {meth : Method} {c : Code} (h1 : s.methodNamed? y = some m) (h2 : s.vm.method? m = some meth) (h3 : meth.code = some c) (h4 : c.code = bytes)
    (h5 : (c.maxLocals == mx && c.exceptionTable.isEmpty && decide (c.maxStack ≤ mostOperands) && decide (meth.sig.returnType = rt) && !meth.locks && decide (parseMethodDescriptor y.desc = some meth.sig)) = true) : (Jvm.Cond.code y bytes mx rt).before a s = true := by
  simp only [Bool.and_eq_true, beq_iff_eq, Bool.not_eq_true', decide_eq_true_eq] at h5
  obtain ⟨⟨⟨⟨⟨g1, g2⟩, g3⟩, g4⟩, g5⟩, g6⟩ := h5
  simp [Cond.before, Cond.holds, Cond.value, h1, h2, h3, h4, g1, g2, g3, g4, g5, g6]
def isCode : Jvm.Cond → Bool
  | .code _ _ _ _ => true
  | _ => false
theorem all_split {L : List Jvm.Cond} {P : Jvm.Cond → Bool} (h1 : L.all (fun c => isCode c || P c) = true) (h2 : ∀ c ∈ L.filter isCode, P c = true) : L.all P = true := by
  refine List.all_eq_true.mpr fun c hc => ?_
  have h := List.all_eq_true.mp h1 c hc
  rcases Bool.eq_false_or_eq_true (isCode c) with hi | hi
  · exact h2 c (List.mem_filter.mpr ⟨hc, hi⟩)
  · simpa [hi] using h
set_option maxRecDepth 65536 in
theorem w_c0 : (Jvm.Cond.code x code maxLocals ret).before args0 about1 = true := code_word (m := ⟨1, 1⟩) (meth := k1m1) (c := k1c1) (by decide +kernel) rfl rfl rfl (by decide +kernel)
set_option maxRecDepth 65536 in
theorem w_c1 : (Jvm.Cond.code ({ cls := "com/example/aristotle/aristotle/EliminationPlan", name := "entries", desc := "([I[I)D" } : Jvm.MethodName) prog_47_method_2_code (8 : Nat) (Option.some Jvm.ClassFile.FieldType.double)).before args0 about1 = true := code_word (m := ⟨2, 0⟩) (meth := k2m0) (c := k2c0) (by decide +kernel) rfl rfl rfl (by decide +kernel)
def codes1 : List Jvm.Cond := [Jvm.Cond.code x code maxLocals ret, Jvm.Cond.code ({ cls := "com/example/aristotle/aristotle/EliminationPlan", name := "entries", desc := "([I[I)D" } : Jvm.MethodName) prog_47_method_2_code (8 : Nat) (Option.some Jvm.ClassFile.FieldType.double)]
set_option maxRecDepth 65536 in
theorem codes_eq : words1.filter isCode = codes1 := rfl
theorem w_codes : ∀ c ∈ words1.filter isCode, c.before args0 about1 = true := by
  rw [codes_eq]
  intro c hc
  simp only [codes1, List.mem_cons, List.not_mem_nil, or_false] at hc
  rcases hc with rfl | rfl
  · exact w_c0
  · exact w_c1
set_option maxRecDepth 65536 in
theorem w_t1 : words1.all (fun c => isCode c || c.before args0 about1) = true := by decide +kernel
theorem w_tables : (allAtoms (Jvm.Cond.code x code maxLocals ret :: tables_1)).before args0 about1 = true := by
  rw [allAtoms_all]
  show words1.all (fun c => c.before args0 about1) = true
  refine all_split ?_ w_codes
  rw [w_t1]
set_option maxRecDepth 65536 in
theorem w_case : (Jvm.Cond.and given_1 narrow_1).before args0 about1 = true := by decide +kernel
theorem w_applies : (headSpec (Jvm.Cond.code x code maxLocals ret :: tables_1) room_1).applies x e0.platform about1 = true :=
  (Spec.applies_iff w_frames).mpr ⟨w_running, w_runnable, w_alone, w_named, w_hears, w_ripe, w_room, w_tables⟩
theorem atStart : AtStart classFile x code maxLocals ret World_1 tables_1 room_1 Calls_1 rest_1 Pre_1 launch0 p0 e0 about1 theMethod args0 below0 :=
  ⟨lists_1, trivial, launch0.admits_env _ _ _, launch0.least_env, fairChoices_fair.cas, fairChoices_fair.clock, w_frames, w_args, w_heap, w_applies, trivial, trivial, w_case⟩
end start1
theorem witness_1 : WitnessClaimed_1 := ⟨start1.p0, start1.e0, start1.about1, start1.theMethod, start1.args0, start1.below0, start1.atStart⟩
end Jvm.Pilot.@@N@@
