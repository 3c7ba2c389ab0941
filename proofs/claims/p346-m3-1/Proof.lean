import JvmDerived
import JvmDerived.Pilot.@@N@@Statement
import JvmDerived.Pilot.@@N@@Code
set_option linter.unusedVariables false
set_option linter.unusedSimpArgs false
namespace Jvm.OwnFP
open Jvm.FP Jvm.FP.Core
/-- a double's value in units of the least double, 2^-1074 -/
abbrev Zv (a : UInt64) : Int := zval b64 (val64 a)
theorem fin_ne {a : UInt64} (h : DFin a) : val64 a ≠ .nan := by
  obtain ⟨s, c, q, h⟩ := h; rw [h]; exact Datum.noConfusion
theorem mul_ne {a b : UInt64} (ha : DFin a) (hb : DFin b) : val64 (FP.dmul a b) ≠ .nan :=
  Jvm.Free.Fl.val64_no.mp (Jvm.Free.Fl.dmul_out (Jvm.Free.Fl.fin64_core.mpr ha) (Jvm.Free.Fl.fin64_core.mpr hb))
theorem add_ne {a b : UInt64} (ha : DFin a) (hb : DFin b) : val64 (FP.dadd a b) ≠ .nan :=
  Jvm.Free.Fl.val64_no.mp (Jvm.Free.Fl.dadd_out (Jvm.Free.Fl.fin64_core.mpr ha).noNaN (Jvm.Free.Fl.fin64_core.mpr hb))
theorem sub_ne {a b : UInt64} (ha : DFin a) (hb : DFin b) : val64 (FP.dsub a b) ≠ .nan :=
  Jvm.Free.Fl.val64_no.mp (Jvm.Free.Fl.dsub_out (Jvm.Free.Fl.fin64_core.mpr ha).noNaN (Jvm.Free.Fl.fin64_core.mpr hb))
theorem fin_of {r U V : UInt64} (hr : val64 r ≠ .nan) (hU : DFin U) (hV : DFin V) (h1 : Zv U ≤ Zv r) (h2 : Zv r ≤ Zv V) : DFin r := by
  have uU := hU.zval_lt
  have uV := hV.zval_lt
  have aU : (Zv U).natAbs = zmag b64 (val64 U) := natAbs_signed _ _
  have aV : (Zv V).natAbs = zmag b64 (val64 V) := natAbs_signed _ _
  have ar : (Zv r).natAbs = zmag b64 (val64 r) := natAbs_signed _ _
  cases e : val64 r with
  | nan => exact absurd e hr
  | fin s c q => exact ⟨s, c, q, e⟩
  | inf s =>
    have e2 : zmag b64 (val64 r) = b64.tails * 2 ^ (b64.exps - 2) := by rw [e]; rfl
    rw [e2] at ar
    generalize b64.tails * 2 ^ (b64.exps - 2) = top at *
    omega
theorem dmul_le {a b V : UInt64} (ha : DFin a) (hb : DFin b) (hV : val64 V ≠ .nan) (h : Zv a * Zv b ≤ Zv V * (one64 : Int)) : Zv (FP.dmul a b) ≤ Zv V := by
  obtain ⟨s, c, q, ea⟩ := ha
  obtain ⟨t, d, r, eb⟩ := hb
  have fa := val64_fits a
  have fb := val64_fits b
  unfold Zv at h ⊢
  rw [ea] at fa h
  rw [eb] at fb h
  obtain ⟨p1, p2, p3⟩ := product_units fa fb
  rw [val64_dmul, ea, eb, p1]
  have hq := qmin_neg good_b64
  refine zval_round_le good_b64 (val64_fits V) hV (e0 := 2 * b64.qmin) (by omega) p2 ?_
  rw [p3, signed_xor, show (b64.qmin - 2 * b64.qmin).toNat = (-b64.qmin).toNat by omega, pow_qmin64]
  exact h
theorem dmul_ge {a b V : UInt64} (ha : DFin a) (hb : DFin b) (hV : val64 V ≠ .nan) (h : Zv V * (one64 : Int) ≤ Zv a * Zv b) : Zv V ≤ Zv (FP.dmul a b) := by
  obtain ⟨s, c, q, ea⟩ := ha
  obtain ⟨t, d, r, eb⟩ := hb
  have fa := val64_fits a
  have fb := val64_fits b
  unfold Zv at h ⊢
  rw [ea] at fa h
  rw [eb] at fb h
  obtain ⟨p1, p2, p3⟩ := product_units fa fb
  rw [val64_dmul, ea, eb, p1]
  have hq := qmin_neg good_b64
  refine zval_round_ge good_b64 (val64_fits V) hV (e0 := 2 * b64.qmin) (by omega) p2 ?_
  rw [p3, signed_xor, show (b64.qmin - 2 * b64.qmin).toNat = (-b64.qmin).toNat by omega, pow_qmin64]
  exact h
theorem dadd_le {a b V : UInt64} (ha : DFin a) (hb : DFin b) (hV : val64 V ≠ .nan) (h : Zv a + Zv b ≤ Zv V) : Zv (FP.dadd a b) ≤ Zv V := by
  unfold Zv at h ⊢
  rw [val64_dadd]; exact sum_le good_b64 ha hb (val64_fits a) (val64_fits b) (val64_fits V) hV h
theorem dadd_ge {a b V : UInt64} (ha : DFin a) (hb : DFin b) (hV : val64 V ≠ .nan) (h : Zv V ≤ Zv a + Zv b) : Zv V ≤ Zv (FP.dadd a b) := by
  unfold Zv at h ⊢
  rw [val64_dadd]; exact sum_ge good_b64 ha hb (val64_fits a) (val64_fits b) (val64_fits V) hV h
theorem neg_fin {a : UInt64} (h : DFin a) : DFin (FP.dneg a) := by
  obtain ⟨s, c, q, h⟩ := h
  exact ⟨!s, c, q, by rw [FP.val64_dneg, h]; rfl⟩
theorem Zv_neg (a : UInt64) : Zv (FP.dneg a) = -Zv a := by unfold Zv; rw [FP.val64_dneg, zval_negate]
theorem cneg_fin {a : UInt64} (h : DFin a) : DFin (Core.dneg a) := by
  obtain ⟨s, c, q, h⟩ := h
  exact ⟨!s, c, q, by rw [Core.val64_dneg, h]; rfl⟩
theorem Zv_cneg (a : UInt64) : Zv (Core.dneg a) = -Zv a := by unfold Zv; rw [Core.val64_dneg, zval_negate]
theorem dsub_le {a b V : UInt64} (ha : DFin a) (hb : DFin b) (hV : val64 V ≠ .nan) (h : Zv a - Zv b ≤ Zv V) : Zv (FP.dsub a b) ≤ Zv V := by
  show Zv (Core.dsub a b) ≤ _
  rw [Core.dsub_eq]; exact dadd_le ha (cneg_fin hb) hV (by rw [Zv_cneg]; omega)
theorem dsub_ge {a b V : UInt64} (ha : DFin a) (hb : DFin b) (hV : val64 V ≠ .nan) (h : Zv V ≤ Zv a - Zv b) : Zv V ≤ Zv (FP.dsub a b) := by
  show _ ≤ Zv (Core.dsub a b)
  rw [Core.dsub_eq]; exact dadd_ge ha (cneg_fin hb) hV (by rw [Zv_cneg]; omega)
/-- where the exact value is a double's, it is the result's -/
theorem dmul_eq {a b V : UInt64} (ha : DFin a) (hb : DFin b) (hV : DFin V) (h : Zv a * Zv b = Zv V * (one64 : Int)) : DFin (FP.dmul a b) ∧ Zv (FP.dmul a b) = Zv V := by
  have h1 := dmul_le ha hb (fin_ne hV) (Int.le_of_eq h)
  have h2 := dmul_ge ha hb (fin_ne hV) (Int.le_of_eq h.symm)
  exact ⟨fin_of (mul_ne ha hb) hV hV h2 h1, Int.le_antisymm h1 h2⟩
theorem dadd_eq {a b V : UInt64} (ha : DFin a) (hb : DFin b) (hV : DFin V) (h : Zv a + Zv b = Zv V) : DFin (FP.dadd a b) ∧ Zv (FP.dadd a b) = Zv V := by
  have h1 := dadd_le ha hb (fin_ne hV) (Int.le_of_eq h)
  have h2 := dadd_ge ha hb (fin_ne hV) (Int.le_of_eq h.symm)
  exact ⟨fin_of (add_ne ha hb) hV hV h2 h1, Int.le_antisymm h1 h2⟩
theorem dsub_eq {a b V : UInt64} (ha : DFin a) (hb : DFin b) (hV : DFin V) (h : Zv a - Zv b = Zv V) : DFin (FP.dsub a b) ∧ Zv (FP.dsub a b) = Zv V := by
  have h1 := dsub_le ha hb (fin_ne hV) (Int.le_of_eq h)
  have h2 := dsub_ge ha hb (fin_ne hV) (Int.le_of_eq h.symm)
  exact ⟨fin_of (sub_ne ha hb) hV hV h2 h1, Int.le_antisymm h1 h2⟩
theorem signed_self (N : Int) (k : Nat) : signed (decide (N < 0)) (N.natAbs * k) = N * (k : Int) := by
  rw [signed_mul]
  congr 1
  unfold signed
  by_cases h : N < 0 <;> simp [h] <;> omega
/-- every N * 2^k units, N of up to 53 digits, is a double -/
theorem rep (N : Int) (k : Nat) (hN : N.natAbs < 2 ^ 53) (hk : k ≤ 2045) : ∃ V, DFin V ∧ Zv V = N * ((2 ^ k : Nat) : Int) := by
  have q1 := qmin_b64
  have q2 : b64.qmax = 971 := by decide
  obtain ⟨c', q', h1, h2⟩ := round_exact good_b64 (decide (N < 0)) (c := N.natAbs) (q := (k : Int) - 1074) hN (by omega) (by omega)
  have hv : val64 (of64 (round b64 (.fin (decide (N < 0)) N.natAbs ((k : Int) - 1074)))) = .fin (decide (N < 0)) c' q' := by
    rw [val64_of64 (round_fits good_b64 _), h1]
  refine ⟨_, ⟨_, _, _, hv⟩, ?_⟩
  unfold Zv
  rw [hv]
  show signed (decide (N < 0)) (inUnits c' q' b64.qmin) = _
  rw [h2, q1]
  unfold inUnits
  rw [show ((k : Int) - 1074 - -1074).toNat = k by omega]
  exact signed_self N _
/-- the double a is N * 2^(k - 1074) -/
def Val (a : UInt64) (N : Int) (k : Nat) : Prop := DFin a ∧ Zv a = N * ((2 ^ k : Nat) : Int)
theorem one_pow : (one64 : Int) = ((2 ^ 1074 : Nat) : Int) := rfl
theorem Val.of_int {i : Int} {a : UInt64} (h : DInt i a) : Val a i 1074 := by
  refine ⟨?_, (DInt_zval h).trans (by rw [one_pow])⟩
  unfold DInt at h
  cases e : val64 a with
  | nan => rw [e] at h; exact h.elim
  | inf s => rw [e] at h; exact h.elim
  | fin s c q => exact ⟨s, c, q, e⟩
theorem Val.i2d (n : Int32) : Val (FP.i2d n) n.toInt 1074 := Val.of_int (i2d_int n)
theorem Val.l2d {n : Int64} (h : n.toInt.natAbs ≤ 2 ^ 53) : Val (FP.l2d n) n.toInt 1074 := Val.of_int (l2d_int h)
theorem Val.neg {a : UInt64} {N : Int} {k : Nat} (h : Val a N k) : Val (FP.dneg a) (-N) k := ⟨neg_fin h.1, by rw [Zv_neg, h.2, Int.neg_mul]⟩
theorem pow_cast (k j : Nat) : ((2 ^ (k + j) : Nat) : Int) = ((2 ^ k : Nat) : Int) * ((2 ^ j : Nat) : Int) := by
  rw [Nat.pow_add, Int.natCast_mul]
theorem Val.mul {a b : UInt64} {N M : Int} {k j i : Nat} (ha : Val a N k) (hb : Val b M j) (hN : (N * M).natAbs < 2 ^ 53) (hi : k + j = i + 1074) (hk : i ≤ 2045) : Val (FP.dmul a b) (N * M) i := by
  obtain ⟨V, fV, zV⟩ := rep (N * M) i hN hk
  obtain ⟨h1, h2⟩ := dmul_eq ha.1 hb.1 fV (by
    rw [ha.2, hb.2, zV, one_pow, Int.mul_assoc (N * M), ← pow_cast, ← hi, pow_cast, Int.mul_assoc N M, Int.mul_assoc N, Int.mul_left_comm _ M])
  exact ⟨h1, h2.trans zV⟩
theorem Val.add {a b : UInt64} {N M : Int} {k : Nat} (ha : Val a N k) (hb : Val b M k) (hN : (N + M).natAbs < 2 ^ 53) (hk : k ≤ 2045) : Val (FP.dadd a b) (N + M) k := by
  obtain ⟨V, fV, zV⟩ := rep (N + M) k hN hk
  obtain ⟨h1, h2⟩ := dadd_eq ha.1 hb.1 fV (by rw [ha.2, hb.2, zV, Int.add_mul])
  exact ⟨h1, h2.trans zV⟩
theorem Val.sub {a b : UInt64} {N M : Int} {k : Nat} (ha : Val a N k) (hb : Val b M k) (hN : (N - M).natAbs < 2 ^ 53) (hk : k ≤ 2045) : Val (FP.dsub a b) (N - M) k := by
  obtain ⟨V, fV, zV⟩ := rep (N - M) k hN hk
  obtain ⟨h1, h2⟩ := dsub_eq ha.1 hb.1 fV (by rw [ha.2, hb.2, zV, Int.sub_mul])
  exact ⟨h1, h2.trans zV⟩
theorem pow_pos' (k : Nat) : (0 : Int) < ((2 ^ k : Nat) : Int) := by have := Nat.two_pow_pos k; omega
theorem Val.cmp {a b : UInt64} {N M : Int} {k : Nat} (ha : Val a N k) (hb : Val b M k) : FP.dcmp a b = some (compare N M) := by
  have h : FP.dcmp a b = some (compare (Zv a) (Zv b)) := dcmp_zval (fin_ne ha.1) (fin_ne hb.1)
  rw [h, ha.2, hb.2, compare_mul_pos _ _ _ (pow_pos' k)]
theorem Val.scale {a : UInt64} {N : Int} {k : Nat} (j : Nat) (ha : Val a N (k + j)) : Val a (N * ((2 ^ j : Nat) : Int)) k :=
  ⟨ha.1, by rw [ha.2, pow_cast, Int.mul_assoc, Int.mul_comm ((2 ^ k : Nat) : Int)]⟩
theorem lt_iff {a b : UInt64} (ha : DFin a) (hb : DFin b) : FP.dcmp a b = some .lt ↔ Zv a < Zv b :=
  ⟨fun h => (dcmp_lt.mp h).2.2, fun h => dcmp_lt.mpr ⟨fin_ne ha, fin_ne hb, h⟩⟩
theorem eq_iff {a b : UInt64} (ha : DFin a) (hb : DFin b) : FP.dcmp a b = some .eq ↔ Zv a = Zv b :=
  ⟨fun h => (dcmp_eq.mp h).2.2, fun h => dcmp_eq.mpr ⟨fin_ne ha, fin_ne hb, h⟩⟩
theorem le_iff {a b : UInt64} (ha : DFin a) (hb : DFin b) : (FP.dcmp a b = some .lt ∨ FP.dcmp a b = some .eq) ↔ Zv a ≤ Zv b := by
  rw [lt_iff ha hb, eq_iff ha hb]; omega
theorem dfin_const {a : UInt64} (h : a.toNat % 9223372036854775808 < 9218868437227405312) : DFin a := (Core.fin_bits a).mpr h
end Jvm.OwnFP
namespace Jvm.Pilot.@@N@@
open Jvm Jvm.ClassFile Sem Op Lib Jvm.Free Jvm.Stand Jvm.LawKit Jvm.RoadKit Bundle Jvm.Pilot.@@N@@.Jvm.D
abbrev Go (p : Program) (e : Env) (below : List Frame) (t T : State) (m : MethodId) (pc : Nat) (ls : Array Slot) (st : List Value) : Prop := Steps p.tables e below (T.setTop (mkF m pc ls st)) t
/-- from A the run comes to B -/
def Goes (p : Program) (e : Env) (below : List Frame) (A B : State) : Prop := ∀ t, Steps p.tables e below B t → Steps p.tables e below A t
abbrev dLt (x y : UInt64) : Prop := FP.dcmp x y = some .lt
abbrev dEq (x y : UInt64) : Prop := FP.dcmp x y = some .eq
abbrev dLe (x y : UInt64) : Prop := FP.dcmp x y = some .lt ∨ FP.dcmp x y = some .eq
abbrev fLt (x y : UInt32) : Prop := FP.fcmp x y = some .lt
abbrev fEq (x y : UInt32) : Prop := FP.fcmp x y = some .eq
abbrev fLe (x y : UInt32) : Prop := FP.fcmp x y = some .lt ∨ FP.fcmp x y = some .eq
theorem Sta.keepO {Z : State} {h h' : Heap} {C n d : String} {v : Value} {ws : List Addr} (F : Sta Z h C n d v) (K : Keep h h' ws) (q : ∀ x ∈ ws, ∀ cell : Cell, h[x]? = some cell → cell.vm.isStatics = false) : Sta Z h' C n d v := by
  obtain ⟨cf, i, k, f, st, cell, h1, h2, h3, h4, h5, h6, h7⟩ := F
  refine ⟨cf, i, k, f, st, cell, h1, h2, h3, h4, K.2.1 _ _ h5 fun hm => ?_, h6, h7⟩
  rw [q _ hm _ h5] at h6; cases h6
theorem own_swap (o : Option Ordering) : o.map Ordering.swap = some .lt ↔ o = some .gt := by rcases o with _ | (_ | _ | _) <;> simp [Ordering.swap]
theorem own_swapE (o : Option Ordering) : o.map Ordering.swap = some .eq ↔ o = some .eq := by rcases o with _ | (_ | _ | _) <;> simp [Ordering.swap]
theorem own_dgt (x y : UInt64) : dLt y x ↔ FP.dcmp x y = some .gt := by
  show FP.Core.dcmp y x = some .lt ↔ FP.Core.dcmp x y = some .gt
  rw [FP.Core.dcmp_swap x y]; exact own_swap _
theorem own_dge (x y : UInt64) : dLe y x ↔ (FP.dcmp x y = some .gt ∨ FP.dcmp x y = some .eq) := by
  show (FP.Core.dcmp y x = some .lt ∨ FP.Core.dcmp y x = some .eq) ↔ (FP.Core.dcmp x y = some .gt ∨ FP.Core.dcmp x y = some .eq)
  rw [FP.Core.dcmp_swap x y, own_swap, own_swapE]
theorem own_fgt (x y : UInt32) : fLt y x ↔ FP.fcmp x y = some .gt := by
  show FP.Core.fcmp y x = some .lt ↔ FP.Core.fcmp x y = some .gt
  rw [FP.Core.fcmp_swap x y]; exact own_swap _
theorem own_fge (x y : UInt32) : fLe y x ↔ (FP.fcmp x y = some .gt ∨ FP.fcmp x y = some .eq) := by
  show (FP.Core.fcmp y x = some .lt ∨ FP.Core.fcmp y x = some .eq) ↔ (FP.Core.fcmp x y = some .gt ∨ FP.Core.fcmp x y = some .eq)
  rw [FP.Core.fcmp_swap x y, own_swap, own_swapE]
theorem own_c (o : Option Ordering) :
    (o = some .lt → ifCond.holds .ge (cmpValue o .g) = false ∧ ifCond.holds .lt (cmpValue o .g) = true) ∧
    (¬ o = some .lt → ifCond.holds .ge (cmpValue o .g) = true ∧ ifCond.holds .lt (cmpValue o .g) = false) ∧
    ((o = some .lt ∨ o = some .eq) → ifCond.holds .gt (cmpValue o .g) = false ∧ ifCond.holds .le (cmpValue o .g) = true) ∧
    (¬ (o = some .lt ∨ o = some .eq) → ifCond.holds .gt (cmpValue o .g) = true ∧ ifCond.holds .le (cmpValue o .g) = false) ∧
    (o = some .gt → ifCond.holds .le (cmpValue o .l) = false ∧ ifCond.holds .gt (cmpValue o .l) = true) ∧
    (¬ o = some .gt → ifCond.holds .le (cmpValue o .l) = true ∧ ifCond.holds .gt (cmpValue o .l) = false) ∧
    ((o = some .gt ∨ o = some .eq) → ifCond.holds .lt (cmpValue o .l) = false ∧ ifCond.holds .ge (cmpValue o .l) = true) ∧
    (¬ (o = some .gt ∨ o = some .eq) → ifCond.holds .lt (cmpValue o .l) = true ∧ ifCond.holds .ge (cmpValue o .l) = false) ∧
    (o = some .eq → ∀ q, ifCond.holds .ne (cmpValue o q) = false ∧ ifCond.holds .eq (cmpValue o q) = true) ∧
    (¬ o = some .eq → ∀ q, ifCond.holds .ne (cmpValue o q) = true ∧ ifCond.holds .eq (cmpValue o q) = false) := by
  refine ⟨?_, ?_, ?_, ?_, ?_, ?_, ?_, ?_, ?_, ?_⟩ <;> rcases o with _ | (_ | _ | _) <;> first | (intro h; exact ⟨by decide, by decide⟩) | (intro h q; cases q <;> exact ⟨by decide, by decide⟩) | (intro h; simp at h; done) | (intro h; exact absurd rfl h) | (intro h; exact absurd (Or.inl rfl) h) | (intro h; exact absurd (Or.inr rfl) h)
theorem dc_g_ge_f {x y : UInt64} (h : dLt x y) : ifCond.holds .ge (cmpValue (FP.dcmp x y) .g) = false := ((own_c _).1 h).1
theorem dc_g_ge_t {x y : UInt64} (h : ¬ dLt x y) : ifCond.holds .ge (cmpValue (FP.dcmp x y) .g) = true := ((own_c _).2.1 h).1
theorem dc_g_lt_t {x y : UInt64} (h : dLt x y) : ifCond.holds .lt (cmpValue (FP.dcmp x y) .g) = true := ((own_c _).1 h).2
theorem dc_g_lt_f {x y : UInt64} (h : ¬ dLt x y) : ifCond.holds .lt (cmpValue (FP.dcmp x y) .g) = false := ((own_c _).2.1 h).2
theorem dc_g_gt_f {x y : UInt64} (h : dLe x y) : ifCond.holds .gt (cmpValue (FP.dcmp x y) .g) = false := ((own_c _).2.2.1 h).1
theorem dc_g_gt_t {x y : UInt64} (h : ¬ dLe x y) : ifCond.holds .gt (cmpValue (FP.dcmp x y) .g) = true := ((own_c _).2.2.2.1 h).1
theorem dc_g_le_t {x y : UInt64} (h : dLe x y) : ifCond.holds .le (cmpValue (FP.dcmp x y) .g) = true := ((own_c _).2.2.1 h).2
theorem dc_g_le_f {x y : UInt64} (h : ¬ dLe x y) : ifCond.holds .le (cmpValue (FP.dcmp x y) .g) = false := ((own_c _).2.2.2.1 h).2
theorem dc_l_le_f {x y : UInt64} (h : dLt y x) : ifCond.holds .le (cmpValue (FP.dcmp x y) .l) = false := ((own_c _).2.2.2.2.1 ((own_dgt x y).mp h)).1
theorem dc_l_le_t {x y : UInt64} (h : ¬ dLt y x) : ifCond.holds .le (cmpValue (FP.dcmp x y) .l) = true := ((own_c _).2.2.2.2.2.1 (fun q => h ((own_dgt x y).mpr q))).1
theorem dc_l_gt_t {x y : UInt64} (h : dLt y x) : ifCond.holds .gt (cmpValue (FP.dcmp x y) .l) = true := ((own_c _).2.2.2.2.1 ((own_dgt x y).mp h)).2
theorem dc_l_gt_f {x y : UInt64} (h : ¬ dLt y x) : ifCond.holds .gt (cmpValue (FP.dcmp x y) .l) = false := ((own_c _).2.2.2.2.2.1 (fun q => h ((own_dgt x y).mpr q))).2
theorem dc_l_lt_f {x y : UInt64} (h : dLe y x) : ifCond.holds .lt (cmpValue (FP.dcmp x y) .l) = false := ((own_c _).2.2.2.2.2.2.1 ((own_dge x y).mp h)).1
theorem dc_l_lt_t {x y : UInt64} (h : ¬ dLe y x) : ifCond.holds .lt (cmpValue (FP.dcmp x y) .l) = true := ((own_c _).2.2.2.2.2.2.2.1 (fun q => h ((own_dge x y).mpr q))).1
theorem dc_l_ge_t {x y : UInt64} (h : dLe y x) : ifCond.holds .ge (cmpValue (FP.dcmp x y) .l) = true := ((own_c _).2.2.2.2.2.2.1 ((own_dge x y).mp h)).2
theorem dc_l_ge_f {x y : UInt64} (h : ¬ dLe y x) : ifCond.holds .ge (cmpValue (FP.dcmp x y) .l) = false := ((own_c _).2.2.2.2.2.2.2.1 (fun q => h ((own_dge x y).mpr q))).2
theorem dc_l_ne_f {x y : UInt64} (h : dEq x y) : ifCond.holds .ne (cmpValue (FP.dcmp x y) .l) = false := ((own_c _).2.2.2.2.2.2.2.2.1 h _).1
theorem dc_l_ne_t {x y : UInt64} (h : ¬ dEq x y) : ifCond.holds .ne (cmpValue (FP.dcmp x y) .l) = true := ((own_c _).2.2.2.2.2.2.2.2.2 h _).1
theorem dc_l_eq_t {x y : UInt64} (h : dEq x y) : ifCond.holds .eq (cmpValue (FP.dcmp x y) .l) = true := ((own_c _).2.2.2.2.2.2.2.2.1 h _).2
theorem dc_l_eq_f {x y : UInt64} (h : ¬ dEq x y) : ifCond.holds .eq (cmpValue (FP.dcmp x y) .l) = false := ((own_c _).2.2.2.2.2.2.2.2.2 h _).2
theorem dc_g_ne_f {x y : UInt64} (h : dEq x y) : ifCond.holds .ne (cmpValue (FP.dcmp x y) .g) = false := ((own_c _).2.2.2.2.2.2.2.2.1 h _).1
theorem dc_g_ne_t {x y : UInt64} (h : ¬ dEq x y) : ifCond.holds .ne (cmpValue (FP.dcmp x y) .g) = true := ((own_c _).2.2.2.2.2.2.2.2.2 h _).1
theorem dc_g_eq_t {x y : UInt64} (h : dEq x y) : ifCond.holds .eq (cmpValue (FP.dcmp x y) .g) = true := ((own_c _).2.2.2.2.2.2.2.2.1 h _).2
theorem dc_g_eq_f {x y : UInt64} (h : ¬ dEq x y) : ifCond.holds .eq (cmpValue (FP.dcmp x y) .g) = false := ((own_c _).2.2.2.2.2.2.2.2.2 h _).2
theorem fc_g_ge_f {x y : UInt32} (h : fLt x y) : ifCond.holds .ge (cmpValue (FP.fcmp x y) .g) = false := ((own_c _).1 h).1
theorem fc_g_ge_t {x y : UInt32} (h : ¬ fLt x y) : ifCond.holds .ge (cmpValue (FP.fcmp x y) .g) = true := ((own_c _).2.1 h).1
theorem fc_g_lt_t {x y : UInt32} (h : fLt x y) : ifCond.holds .lt (cmpValue (FP.fcmp x y) .g) = true := ((own_c _).1 h).2
theorem fc_g_lt_f {x y : UInt32} (h : ¬ fLt x y) : ifCond.holds .lt (cmpValue (FP.fcmp x y) .g) = false := ((own_c _).2.1 h).2
theorem fc_g_gt_f {x y : UInt32} (h : fLe x y) : ifCond.holds .gt (cmpValue (FP.fcmp x y) .g) = false := ((own_c _).2.2.1 h).1
theorem fc_g_gt_t {x y : UInt32} (h : ¬ fLe x y) : ifCond.holds .gt (cmpValue (FP.fcmp x y) .g) = true := ((own_c _).2.2.2.1 h).1
theorem fc_g_le_t {x y : UInt32} (h : fLe x y) : ifCond.holds .le (cmpValue (FP.fcmp x y) .g) = true := ((own_c _).2.2.1 h).2
theorem fc_g_le_f {x y : UInt32} (h : ¬ fLe x y) : ifCond.holds .le (cmpValue (FP.fcmp x y) .g) = false := ((own_c _).2.2.2.1 h).2
theorem fc_l_le_f {x y : UInt32} (h : fLt y x) : ifCond.holds .le (cmpValue (FP.fcmp x y) .l) = false := ((own_c _).2.2.2.2.1 ((own_fgt x y).mp h)).1
theorem fc_l_le_t {x y : UInt32} (h : ¬ fLt y x) : ifCond.holds .le (cmpValue (FP.fcmp x y) .l) = true := ((own_c _).2.2.2.2.2.1 (fun q => h ((own_fgt x y).mpr q))).1
theorem fc_l_gt_t {x y : UInt32} (h : fLt y x) : ifCond.holds .gt (cmpValue (FP.fcmp x y) .l) = true := ((own_c _).2.2.2.2.1 ((own_fgt x y).mp h)).2
theorem fc_l_gt_f {x y : UInt32} (h : ¬ fLt y x) : ifCond.holds .gt (cmpValue (FP.fcmp x y) .l) = false := ((own_c _).2.2.2.2.2.1 (fun q => h ((own_fgt x y).mpr q))).2
theorem fc_l_lt_f {x y : UInt32} (h : fLe y x) : ifCond.holds .lt (cmpValue (FP.fcmp x y) .l) = false := ((own_c _).2.2.2.2.2.2.1 ((own_fge x y).mp h)).1
theorem fc_l_lt_t {x y : UInt32} (h : ¬ fLe y x) : ifCond.holds .lt (cmpValue (FP.fcmp x y) .l) = true := ((own_c _).2.2.2.2.2.2.2.1 (fun q => h ((own_fge x y).mpr q))).1
theorem fc_l_ge_t {x y : UInt32} (h : fLe y x) : ifCond.holds .ge (cmpValue (FP.fcmp x y) .l) = true := ((own_c _).2.2.2.2.2.2.1 ((own_fge x y).mp h)).2
theorem fc_l_ge_f {x y : UInt32} (h : ¬ fLe y x) : ifCond.holds .ge (cmpValue (FP.fcmp x y) .l) = false := ((own_c _).2.2.2.2.2.2.2.1 (fun q => h ((own_fge x y).mpr q))).2
theorem fc_l_ne_f {x y : UInt32} (h : fEq x y) : ifCond.holds .ne (cmpValue (FP.fcmp x y) .l) = false := ((own_c _).2.2.2.2.2.2.2.2.1 h _).1
theorem fc_l_ne_t {x y : UInt32} (h : ¬ fEq x y) : ifCond.holds .ne (cmpValue (FP.fcmp x y) .l) = true := ((own_c _).2.2.2.2.2.2.2.2.2 h _).1
theorem fc_l_eq_t {x y : UInt32} (h : fEq x y) : ifCond.holds .eq (cmpValue (FP.fcmp x y) .l) = true := ((own_c _).2.2.2.2.2.2.2.2.1 h _).2
theorem fc_l_eq_f {x y : UInt32} (h : ¬ fEq x y) : ifCond.holds .eq (cmpValue (FP.fcmp x y) .l) = false := ((own_c _).2.2.2.2.2.2.2.2.2 h _).2
theorem fc_g_ne_f {x y : UInt32} (h : fEq x y) : ifCond.holds .ne (cmpValue (FP.fcmp x y) .g) = false := ((own_c _).2.2.2.2.2.2.2.2.1 h _).1
theorem fc_g_ne_t {x y : UInt32} (h : ¬ fEq x y) : ifCond.holds .ne (cmpValue (FP.fcmp x y) .g) = true := ((own_c _).2.2.2.2.2.2.2.2.2 h _).1
theorem fc_g_eq_t {x y : UInt32} (h : fEq x y) : ifCond.holds .eq (cmpValue (FP.fcmp x y) .g) = true := ((own_c _).2.2.2.2.2.2.2.2.1 h _).2
theorem fc_g_eq_f {x y : UInt32} (h : ¬ fEq x y) : ifCond.holds .eq (cmpValue (FP.fcmp x y) .g) = false := ((own_c _).2.2.2.2.2.2.2.2.2 h _).2
theorem d1_0 : decode jdk_30_method_1_code 0 = .ok (.aload_n 0, 1) := by decide +kernel
theorem d1_1 : decode jdk_30_method_1_code 1 = .ok (.invokespecial 1, 3) := by decide +kernel
theorem d1_4 : decode jdk_30_method_1_code 4 = .ok (.return_, 1) := by decide +kernel
theorem pd0 : parseMethodDescriptor "()V" = some ⟨[], none⟩ := by decide +kernel
theorem pf_rec : plainFor (⟨"java/lang/Record", "<init>", "()V"⟩ : MethodName) = true := by first | exact plainFor_of_name (by first | (simp [plainName, overriddenIn, x]; done) | decide +kernel) | exact Jvm.Free.JP.mathPlain rfl (by decide +kernel) | decide +kernel
theorem ef_rec (m : MethodId) (ra : Addr) : entryFrame m #[(.ref ra)] 1 = mkF m 0 #[rv ra] [] := by first | (simp [entryFrame, mkF, argsToLocals, Value.category, maxLocals]; done) | rfl
def Q_rec (Z : State) (ra : Addr)  (h0 : Heap) (n0 : Nat) (v : Option Value) (h : Heap) (L : List Loc) : Prop := v = none ∧ Fr n0 L ∧ h = h0
set_option maxRecDepth 65536 in
set_option maxHeartbeats 40000000 in
theorem rm_rec (l : Launch) (Z : State) (a0 : Array Value) (hw : ∀ d ∈ tables_1, d.before a0 Z = true) (ws : List Jvm.Cond) (ra : Addr)  (h0 : Heap) (n0 : Nat) (Z0 : n0 ≤ h0.size)   :
    MetFree l (⟨"java/lang/Record", "<init>", "()V"⟩ : MethodName) (head1 (Jvm.Cond.code (⟨"java/lang/Record", "<init>", "()V"⟩ : MethodName) jdk_30_method_1_code 1 none :: ws) ({ frames := 1, cells := 0, slots := 0, locals := 12 } : Room)) (fun a U => a = #[(.ref ra)] ∧ Z.Warmed39 U.vm ∧ U.heap = h0) (fun _ _ _ _ _ => True) (fun _ U o U' => ∃ v L, o = .returned v ∧ Q_rec Z ra  h0 n0 v U'.heap L ∧ FrameEnd U o U' L ({ frames := 1, cells := 0, slots := 0, locals := 12 } : Room).cells ({ frames := 1, cells := 0, slots := 0, locals := 12 } : Room).slots) := by
  refine MetFree.of_bodySF pf_rec hisR ?_
  intro p e s m args below meth c s₁ Bd hml0 hP hK
  obtain ⟨rfl, hZ, hh⟩ := hP
  have hx := Bd.exec
  have hby := Bd.bytes
  have hml : c.maxLocals = 1 := hml0
  have hown : s.vm.findClass "java/lang/Record" = some m.cls := findClass_of_methodNamed Bd.named
  have hnm := (name_of_methodNamed Bd.named Bd.method).1
  have X0 : Stand p l e ({ frames := 1, cells := 0, slots := 0, locals := 12 } : Room) s m #[(.ref ra)] below meth c s₁ [] 0 0 := Stand.of_body Bd
  have e0 : s₁.heap = h0 := by rw [← hh, Bd.state]; rfl
  have N0 := Fr.nil n0
  obtain ⟨S0, hS0⟩ : ∃ z, z = s₁.setTop (entryFrame m #[(.ref ra)] 1) := ⟨_, rfl⟩
  rw [← hS0]
  have g0 : Goes p e below S0 (s₁.setTop (mkF m 0 #[rv ra] [])) := fun t k => by rw [hS0]; exact castTop (ef_rec m ra) k
  have g1 : Goes p e below S0 (s₁.setTop (mkF m 1 #[rv ra] [(.ref ra)])) := fun t k => g0 t (by
    refine XS.aloadN X0.here hx rfl (hb hby d1_0) rfl rfl ?_
    show Go p e below t s₁ m 1 #[rv ra] [(.ref ra)]
    exact k)
  obtain ⟨T2, X2, e2, st2⟩ := initO X0 hx hZ hown (hw _ (List.mem_of_getElem? (i := 12) rfl)) (hw _ (List.mem_of_getElem? (i := 13) rfl)) (hw _ (List.mem_of_getElem? (i := 14) rfl)) e0 (g := (mkF m 1 #[rv ra] [(.ref ra)])) rfl (by rw [hml]; rfl) rfl (hb hby d1_1) (by decide) (W := 0) (by show 2 * 0 + _ ≤ _; exact Nat.le_of_eq rfl) (by decide)
  have g3 : Goes p e below S0 (T2.setTop (mkF m 4 #[rv ra] [])) := fun t k => g1 t (st2 t k)
  obtain ⟨fs, hr, hrun, hended, hW, hsame⟩ := X2.leave (v := none) (fun _ => rfl)
  refine ⟨_, _, g3 _ (X2.returnOut hx Bd.returns (hb hby d1_4) hr), hrun, hended, _, _, rfl, ?_, ⟨_, rfl⟩, hW, hsame.mono (by decide) (by decide)⟩
  show Q_rec Z ra  h0 n0 _ T2.heap _
  rw [e2]
  exact ⟨rfl, N0, rfl⟩
theorem d0_0 : decode prog_46_method_1_code 0 = .ok (.aload_n 0, 1) := by decide +kernel
theorem d0_1 : decode prog_46_method_1_code 1 = .ok (.invokespecial 1, 3) := by decide +kernel
theorem d0_4 : decode prog_46_method_1_code 4 = .ok (.aload_n 0, 1) := by decide +kernel
theorem d0_5 : decode prog_46_method_1_code 5 = .ok (.dload_n 1, 1) := by decide +kernel
theorem d0_6 : decode prog_46_method_1_code 6 = .ok (.putfield 7, 3) := by decide +kernel
theorem d0_9 : decode prog_46_method_1_code 9 = .ok (.aload_n 0, 1) := by decide +kernel
theorem d0_10 : decode prog_46_method_1_code 10 = .ok (.dload_n 3, 1) := by decide +kernel
theorem d0_11 : decode prog_46_method_1_code 11 = .ok (.putfield 13, 3) := by decide +kernel
theorem d0_14 : decode prog_46_method_1_code 14 = .ok (.return_, 1) := by decide +kernel
theorem pd1 : parseMethodDescriptor "(DD)V" = some ⟨[.double, .double], none⟩ := by decide +kernel
theorem pf_ini : plainFor (⟨"com/example/aristotle/aristotle/DoubleDouble", "<init>", "(DD)V"⟩ : MethodName) = true := by first | exact plainFor_of_name (by first | (simp [plainName, overriddenIn, x]; done) | decide +kernel) | exact Jvm.Free.JP.mathPlain rfl (by decide +kernel) | decide +kernel
theorem ef_ini (m : MethodId) (ca : Addr) (cx : UInt64) (cy : UInt64) : entryFrame m #[(.ref ca), (.double cx), (.double cy)] 5 = mkF m 0 #[rv ca, .val (.double cx), .second, .val (.double cy), .second] [] := by first | (simp [entryFrame, mkF, argsToLocals, Value.category, maxLocals]; done) | rfl
def Q_ini (Z : State) (ca : Addr) (cx : UInt64) (cy : UInt64)  (h0 : Heap) (n0 : Nat) (v : Option Value) (h : Heap) (L : List Loc) : Prop := v = none ∧ Fr n0 L ∧ (Keep h0 h [ca]) ∧ (Exa Z h ca "com/example/aristotle/aristotle/DoubleDouble") ∧ (Fld Z h ca "com/example/aristotle/aristotle/DoubleDouble" "high" "D" (.double cx)) ∧ (Fld Z h ca "com/example/aristotle/aristotle/DoubleDouble" "low" "D" (.double cy))
set_option maxRecDepth 65536 in
set_option maxHeartbeats 40000000 in
theorem rm_ini (l : Launch) (Z : State) (a0 : Array Value) (hw : ∀ d ∈ tables_1, d.before a0 Z = true) (ws : List Jvm.Cond) (ca : Addr) (cx : UInt64) (cy : UInt64)  (h0 : Heap) (n0 : Nat) (Z0 : n0 ≤ h0.size) (P0 : Exa Z h0 ca "com/example/aristotle/aristotle/DoubleDouble") (P1 : Fld Z h0 ca "com/example/aristotle/aristotle/DoubleDouble" "high" "D" (.double (0 : UInt64))) (P2 : Fld Z h0 ca "com/example/aristotle/aristotle/DoubleDouble" "low" "D" (.double (0 : UInt64))) (P3 : n0 ≤ ca)  :
    MetFree l (⟨"com/example/aristotle/aristotle/DoubleDouble", "<init>", "(DD)V"⟩ : MethodName) (head1 (Jvm.Cond.code (⟨"com/example/aristotle/aristotle/DoubleDouble", "<init>", "(DD)V"⟩ : MethodName) prog_46_method_1_code 5 none :: ws) ({ frames := 2, cells := 0, slots := 0, locals := 24 } : Room)) (fun a U => a = #[(.ref ca), (.double cx), (.double cy)] ∧ Z.Warmed39 U.vm ∧ U.heap = h0) (fun _ _ _ _ _ => True) (fun _ U o U' => ∃ v L, o = .returned v ∧ Q_ini Z ca cx cy  h0 n0 v U'.heap L ∧ FrameEnd U o U' L ({ frames := 2, cells := 0, slots := 0, locals := 24 } : Room).cells ({ frames := 2, cells := 0, slots := 0, locals := 24 } : Room).slots) := by
  refine MetFree.of_bodySF pf_ini hisR ?_
  intro p e s m args below meth c s₁ Bd hml0 hP hK
  obtain ⟨rfl, hZ, hh⟩ := hP
  have hx := Bd.exec
  have hby := Bd.bytes
  have hml : c.maxLocals = 5 := hml0
  have hown : s.vm.findClass "com/example/aristotle/aristotle/DoubleDouble" = some m.cls := findClass_of_methodNamed Bd.named
  have hnm := (name_of_methodNamed Bd.named Bd.method).1
  have X0 : Stand p l e ({ frames := 2, cells := 0, slots := 0, locals := 24 } : Room) s m #[(.ref ca), (.double cx), (.double cy)] below meth c s₁ [] 0 0 := Stand.of_body Bd
  have e0 : s₁.heap = h0 := by rw [← hh, Bd.state]; rfl
  have N0 := Fr.nil n0
  obtain ⟨S0, hS0⟩ : ∃ z, z = s₁.setTop (entryFrame m #[(.ref ca), (.double cx), (.double cy)] 5) := ⟨_, rfl⟩
  rw [← hS0]
  have g0 : Goes p e below S0 (s₁.setTop (mkF m 0 #[rv ca, .val (.double cx), .second, .val (.double cy), .second] [])) := fun t k => by rw [hS0]; exact castTop (ef_ini m ca cx cy) k
  have g4 : Goes p e below S0 (s₁.setTop (mkF m 1 #[rv ca, .val (.double cx), .second, .val (.double cy), .second] [(.ref ca)])) := fun t k => g0 t (by
    refine XS.aloadN X0.here hx rfl (hb hby d0_0) rfl rfl ?_
    show Go p e below t s₁ m 1 #[rv ca, .val (.double cx), .second, .val (.double cy), .second] [(.ref ca)]
    exact k)
  obtain ⟨_, _, ⟨T5, L5, k5, n5⟩, -, X5, ⟨Lc5, hQ5, l5, y5, z5⟩, st5⟩ := X0.specialBack hx (y := (⟨"java/lang/Record", "<init>", "()V"⟩ : MethodName)) rfl hown (mvT hZ (hw _ (List.mem_of_getElem? (i := 7) rfl))) (mvT hZ (hw _ (List.mem_of_getElem? (i := 8) rfl))) (mvT hZ (hw _ (List.mem_of_getElem? (i := 11) rfl))) (by decide) (backOf (W := 0) (rm_rec l Z a0 hw [] ca  h0 n0 Z0 ) hZ (hw _ (List.mem_of_getElem? (i := 11) rfl)) (hw _ (List.mem_of_getElem? (i := 10) rfl)) (by decide) (by decide)) (g := (mkF m 1 #[rv ca, .val (.double cx), .second, .val (.double cy), .second] [(.ref ca)])) rfl (by rw [hml]; rfl) (Steps.refl _) (a := ca) (argsL := []) (rest := []) (lenOf pd0 rfl) rfl (by show 2 * 0 + _ ≤ _; exact Nat.le_of_eq rfl) (hb hby d0_1) (fun _ _ => ⟨rfl, e0, (by decide : 0 + 0 ≤ _), (by decide : 0 + 0 ≤ _)⟩)
  dsimp only [Pt.U, Pt.locs, Pt.cells, Pt.slots] at X5 l5 y5 z5 st5 hQ5
  subst l5 y5 z5
  obtain ⟨rfl, N5, R5_0⟩ := hQ5
  have M5 := Fr.app N0 N5
  have g6 : Goes p e below S0 (T5.setTop (mkF m 4 #[rv ca, .val (.double cx), .second, .val (.double cy), .second] [])) := fun t k => g4 t (st5.trans k)
  have g7 : Goes p e below S0 (T5.setTop (mkF m 6 #[rv ca, .val (.double cx), .second, .val (.double cy), .second] [(.double cx), (.ref ca)])) := fun t k => g6 t (by
    refine XS.aloadN X5.here hx rfl (hb hby d0_4) rfl rfl ?_
    show Go p e below t T5 m 5 #[rv ca, .val (.double cx), .second, .val (.double cy), .second] [(.ref ca)]
    refine XS.dloadN X5.here hx rfl (hb hby d0_5) rfl ?_
    show Go p e below t T5 m 6 #[rv ca, .val (.double cx), .second, .val (.double cy), .second] [(.double cx), (.ref ca)]
    exact k)
  obtain ⟨T8, h8, X8, e8, W8, st8⟩ := putF X5 hx hZ hown (host := "") (Or.inl (hw _ (List.mem_of_getElem? (i := 15) rfl))) Via.refl R5_0 P1 P0 (Or.inr ⟨(hw _ (List.mem_of_getElem? (i := 16) rfl)), rfl, hnm⟩) (hw _ (List.mem_of_getElem? (i := 2) rfl)) (ty := .double) (by decide) rfl rfl (g := (mkF m 6 #[rv ca, .val (.double cx), .second, .val (.double cy), .second] [(.double cx), (.ref ca)])) rfl rfl (hb hby d0_6)
  have N8 := Fr.snoc X8 M5 P3
  have Fw8 := Fld.same W8 P1
  have g9 : Goes p e below S0 (T8.setTop (mkF m 9 #[rv ca, .val (.double cx), .second, .val (.double cy), .second] [])) := fun t k => g7 t (st8 t k)
  have g10 : Goes p e below S0 (T8.setTop (mkF m 11 #[rv ca, .val (.double cx), .second, .val (.double cy), .second] [(.double cy), (.ref ca)])) := fun t k => g9 t (by
    refine XS.aloadN X8.here hx rfl (hb hby d0_9) rfl rfl ?_
    show Go p e below t T8 m 10 #[rv ca, .val (.double cx), .second, .val (.double cy), .second] [(.ref ca)]
    refine XS.dloadN X8.here hx rfl (hb hby d0_10) rfl ?_
    show Go p e below t T8 m 11 #[rv ca, .val (.double cx), .second, .val (.double cy), .second] [(.double cy), (.ref ca)]
    exact k)
  obtain ⟨T11, h11, X11, e11, W11, st11⟩ := putF X8 hx hZ hown (host := "") (Or.inl (hw _ (List.mem_of_getElem? (i := 17) rfl))) Via.refl e8 (P2.other W8 (Or.inr (slot_ne (Or.inr (hw _ (List.mem_of_getElem? (i := 18) rfl))) (Or.inr (hw _ (List.mem_of_getElem? (i := 16) rfl))) (by decide) (t := .double) (t' := .double) (by decide) (by decide)))) (P0.wr W8) (Or.inr ⟨(hw _ (List.mem_of_getElem? (i := 18) rfl)), rfl, hnm⟩) (hw _ (List.mem_of_getElem? (i := 2) rfl)) (ty := .double) (by decide) rfl rfl (g := (mkF m 11 #[rv ca, .val (.double cx), .second, .val (.double cy), .second] [(.double cy), (.ref ca)])) rfl rfl (hb hby d0_11)
  have N11 := Fr.snoc X11 N8 P3
  have Fw11 := Fld.same W11 (P2.other W8 (Or.inr (slot_ne (Or.inr (hw _ (List.mem_of_getElem? (i := 18) rfl))) (Or.inr (hw _ (List.mem_of_getElem? (i := 16) rfl))) (by decide) (t := .double) (t' := .double) (by decide) (by decide))))
  have g12 : Goes p e below S0 (T11.setTop (mkF m 14 #[rv ca, .val (.double cx), .second, .val (.double cy), .second] [])) := fun t k => g10 t (st11 t k)
  obtain ⟨fs, hr, hrun, hended, hW, hsame⟩ := X11.leave (v := none) (fun _ => rfl)
  refine ⟨_, _, g12 _ (X11.returnOut hx Bd.returns (hb hby d0_14) hr), hrun, hended, _, _, rfl, ?_, ⟨_, rfl⟩, hW, hsame.mono (by decide) (by decide)⟩
  show Q_ini Z ca cx cy  h0 n0 _ T11.heap _
  rw [e11]
  exact ⟨rfl, N11, (((Keep.refl h0 [ca]).wr W8 (Or.inl (List.mem_of_getElem? (i := 0) rfl))).wr W11 (Or.inl (List.mem_of_getElem? (i := 0) rfl))), ((P0.wr W8).wr W11), (Fw8.other W11 (Or.inr (slot_ne (Or.inr (hw _ (List.mem_of_getElem? (i := 16) rfl))) (Or.inr (hw _ (List.mem_of_getElem? (i := 18) rfl))) (by decide) (t := .double) (t' := .double) (by decide) (by decide)))), Fw11⟩
theorem d3_0 : decode prog_46_method_4_code 0 = .ok (.aload_n 0, 1) := by decide +kernel
theorem d3_1 : decode prog_46_method_4_code 1 = .ok (.getfield 7, 3) := by decide +kernel
theorem d3_4 : decode prog_46_method_4_code 4 = .ok (.dconst 0, 1) := by decide +kernel
theorem d3_5 : decode prog_46_method_4_code 5 = .ok (.dcmp .l, 1) := by decide +kernel
theorem d3_6 : decode prog_46_method_4_code 6 = .ok (.ifCond .le 7, 3) := by decide +kernel
theorem d3_9 : decode prog_46_method_4_code 9 = .ok (.iconst 1, 1) := by decide +kernel
theorem d3_10 : decode prog_46_method_4_code 10 = .ok (.goto 4, 3) := by decide +kernel
theorem d3_13 : decode prog_46_method_4_code 13 = .ok (.iconst 0, 1) := by decide +kernel
theorem d3_14 : decode prog_46_method_4_code 14 = .ok (.ireturn, 1) := by decide +kernel
theorem pd2 : parseMethodDescriptor "()Z" = some ⟨[], some .boolean⟩ := by decide +kernel
theorem pf_pos : plainFor (⟨"com/example/aristotle/aristotle/DoubleDouble", "isPositive", "()Z"⟩ : MethodName) = true := by first | exact plainFor_of_name (by first | (simp [plainName, overriddenIn, x]; done) | decide +kernel) | exact Jvm.Free.JP.mathPlain rfl (by decide +kernel) | decide +kernel
theorem ef_pos (m : MethodId) (za : Addr) : entryFrame m #[(.ref za)] 1 = mkF m 0 #[rv za] [] := by first | (simp [entryFrame, mkF, argsToLocals, Value.category, maxLocals]; done) | rfl
def f_pos (zx : UInt64) : Int32 := (if dLt (0 : UInt64) zx then (1 : Int32) else (0 : Int32))
def Q_pos (Z : State) (za : Addr) (zx : UInt64) (h0 : Heap) (n0 : Nat) (v : Option Value) (h : Heap) (L : List Loc) : Prop := v = some (.int (f_pos zx)) ∧ Fr n0 L ∧ h = h0
set_option maxRecDepth 65536 in
set_option maxHeartbeats 40000000 in
theorem rm_pos (l : Launch) (Z : State) (a0 : Array Value) (hw : ∀ d ∈ tables_1, d.before a0 Z = true) (ws : List Jvm.Cond) (za : Addr) (zx : UInt64) (h0 : Heap) (n0 : Nat) (Z0 : n0 ≤ h0.size) (P0 : Fld Z h0 za "com/example/aristotle/aristotle/DoubleDouble" "high" "D" (.double zx))  :
    MetFree l (⟨"com/example/aristotle/aristotle/DoubleDouble", "isPositive", "()Z"⟩ : MethodName) (head1 (Jvm.Cond.code (⟨"com/example/aristotle/aristotle/DoubleDouble", "isPositive", "()Z"⟩ : MethodName) prog_46_method_4_code 1 (some .boolean) :: ws) ({ frames := 0, cells := 0, slots := 0, locals := 0 } : Room)) (fun a U => a = #[(.ref za)] ∧ Z.Warmed39 U.vm ∧ U.heap = h0) (fun _ _ _ _ _ => True) (fun _ U o U' => ∃ v L, o = .returned v ∧ Q_pos Z za zx h0 n0 v U'.heap L ∧ FrameEnd U o U' L ({ frames := 0, cells := 0, slots := 0, locals := 0 } : Room).cells ({ frames := 0, cells := 0, slots := 0, locals := 0 } : Room).slots) := by
  refine MetFree.of_bodySF pf_pos hisR ?_
  intro p e s m args below meth c s₁ Bd hml0 hP hK
  obtain ⟨rfl, hZ, hh⟩ := hP
  have hx := Bd.exec
  have hby := Bd.bytes
  have hml : c.maxLocals = 1 := hml0
  have hown : s.vm.findClass "com/example/aristotle/aristotle/DoubleDouble" = some m.cls := findClass_of_methodNamed Bd.named
  have hnm := (name_of_methodNamed Bd.named Bd.method).1
  have X0 : Stand p l e ({ frames := 0, cells := 0, slots := 0, locals := 0 } : Room) s m #[(.ref za)] below meth c s₁ [] 0 0 := Stand.of_body Bd
  have e0 : s₁.heap = h0 := by rw [← hh, Bd.state]; rfl
  have N0 := Fr.nil n0
  obtain ⟨S0, hS0⟩ : ∃ z, z = s₁.setTop (entryFrame m #[(.ref za)] 1) := ⟨_, rfl⟩
  rw [← hS0]
  have g0 : Goes p e below S0 (s₁.setTop (mkF m 0 #[rv za] [])) := fun t k => by rw [hS0]; exact castTop (ef_pos m za) k
  have g13 : Goes p e below S0 (s₁.setTop (mkF m 1 #[rv za] [(.ref za)])) := fun t k => g0 t (by
    refine XS.aloadN X0.here hx rfl (hb hby d3_0) rfl rfl ?_
    show Go p e below t s₁ m 1 #[rv za] [(.ref za)]
    exact k)
  obtain ⟨T14, X14, e14, st14⟩ := getF X0 hx hZ hown (host := "") (Or.inl (hw _ (List.mem_of_getElem? (i := 15) rfl))) Via.refl e0 P0 (g := (mkF m 1 #[rv za] [(.ref za)])) rfl rfl (hb hby d3_1)
  have g15 : Goes p e below S0 (T14.setTop (mkF m 4 #[rv za] [(.double zx)])) := fun t k => g13 t (st14 t k)
  have g16 : Goes p e below S0 (T14.setTop (mkF m 6 #[rv za] [(.int (cmpValue (FP.dcmp zx (0 : UInt64)) .l))])) := fun t k => g15 t (by
    refine XS.dconst0 X14.here hx rfl (hb hby d3_4) (v := (0 : UInt64)) rfl ?_
    show Go p e below t T14 m 5 #[rv za] [(.double (0 : UInt64)), (.double zx)]
    refine XS.dcmpS X14.here hx rfl (hb hby d3_5) rfl rfl ?_
    show Go p e below t T14 m 6 #[rv za] [(.int (cmpValue (FP.dcmp zx (0 : UInt64)) .l))]
    exact k)
  by_cases h17 : dLt (0 : UInt64) zx
  · skip
    have g18 : Goes p e below S0 (T14.setTop (mkF m 14 #[rv za] [(.int (1 : Int32))])) := fun t k => g16 t (by
      refine XS.ifNo X14.here hx rfl (hb hby d3_6) rfl (dc_l_le_f h17) ?_
      show Go p e below t T14 m 9 #[rv za] []
      refine XT.iconstV X14.here hx rfl (1 : Int32) (hb hby d3_9) (by decide) ?_
      show Go p e below t T14 m 10 #[rv za] [(.int (1 : Int32))]
      refine XS.goto X14.here hx rfl (pc0 := 10) (pc' := 14) rfl (hb hby d3_10) (by decide) (by decide) ?_
      show Go p e below t T14 m 14 #[rv za] [(.int (1 : Int32))]
      exact k)
    obtain ⟨fs, hr, hrun, hended, hW, hsame⟩ := X14.leave (v := some (.int (1 : Int32))) (fun h => by rw [Bd.returns] at h; cases h)
    refine ⟨_, _, g18 _ (retN X14 hx (t := .boolean) Bd.returns (by simp) (hb hby d3_14) hr), hrun, hended, _, _, rfl, ?_, ⟨_, rfl⟩, hW, hsame.mono (by decide) (by decide)⟩
    show Q_pos Z za zx h0 n0 _ T14.heap _
    rw [e14]
    exact ⟨by unfold f_pos; rw [if_pos h17], N0, rfl⟩
  · skip
    have g19 : Goes p e below S0 (T14.setTop (mkF m 14 #[rv za] [(.int (0 : Int32))])) := fun t k => g16 t (by
      refine XS.ifYes X14.here hx rfl (pc0 := 6) (pc' := 13) rfl (hb hby d3_6) rfl (dc_l_le_t h17) (by decide) (by decide) ?_
      show Go p e below t T14 m 13 #[rv za] []
      refine XT.iconstV X14.here hx rfl (0 : Int32) (hb hby d3_13) (by decide) ?_
      show Go p e below t T14 m 14 #[rv za] [(.int (0 : Int32))]
      exact k)
    obtain ⟨fs, hr, hrun, hended, hW, hsame⟩ := X14.leave (v := some (.int (0 : Int32))) (fun h => by rw [Bd.returns] at h; cases h)
    refine ⟨_, _, g19 _ (retN X14 hx (t := .boolean) Bd.returns (by simp) (hb hby d3_14) hr), hrun, hended, _, _, rfl, ?_, ⟨_, rfl⟩, hW, hsame.mono (by decide) (by decide)⟩
    show Q_pos Z za zx h0 n0 _ T14.heap _
    rw [e14]
    exact ⟨by unfold f_pos; rw [if_neg h17], N0, rfl⟩
theorem d4_0 : decode prog_46_method_21_code 0 = .ok (.aload_n 0, 1) := by decide +kernel
theorem d4_1 : decode prog_46_method_21_code 1 = .ok (.getfield 7, 3) := by decide +kernel
theorem d4_4 : decode prog_46_method_21_code 4 = .ok (.dreturn, 1) := by decide +kernel
theorem pd3 : parseMethodDescriptor "()D" = some ⟨[], some .double⟩ := by decide +kernel
theorem pf_hi : plainFor (⟨"com/example/aristotle/aristotle/DoubleDouble", "high", "()D"⟩ : MethodName) = true := by first | exact plainFor_of_name (by first | (simp [plainName, overriddenIn, x]; done) | decide +kernel) | exact Jvm.Free.JP.mathPlain rfl (by decide +kernel) | decide +kernel
theorem ef_hi (m : MethodId) (za : Addr) : entryFrame m #[(.ref za)] 1 = mkF m 0 #[rv za] [] := by first | (simp [entryFrame, mkF, argsToLocals, Value.category, maxLocals]; done) | rfl
def f_hi (zx : UInt64) : UInt64 := zx
def Q_hi (Z : State) (za : Addr) (zx : UInt64) (h0 : Heap) (n0 : Nat) (v : Option Value) (h : Heap) (L : List Loc) : Prop := v = some (.double (f_hi zx)) ∧ Fr n0 L ∧ h = h0
set_option maxRecDepth 65536 in
set_option maxHeartbeats 40000000 in
theorem rm_hi (l : Launch) (Z : State) (a0 : Array Value) (hw : ∀ d ∈ tables_1, d.before a0 Z = true) (ws : List Jvm.Cond) (za : Addr) (zx : UInt64) (h0 : Heap) (n0 : Nat) (Z0 : n0 ≤ h0.size) (P0 : Fld Z h0 za "com/example/aristotle/aristotle/DoubleDouble" "high" "D" (.double zx))  :
    MetFree l (⟨"com/example/aristotle/aristotle/DoubleDouble", "high", "()D"⟩ : MethodName) (head1 (Jvm.Cond.code (⟨"com/example/aristotle/aristotle/DoubleDouble", "high", "()D"⟩ : MethodName) prog_46_method_21_code 1 (some .double) :: ws) ({ frames := 0, cells := 0, slots := 0, locals := 0 } : Room)) (fun a U => a = #[(.ref za)] ∧ Z.Warmed39 U.vm ∧ U.heap = h0) (fun _ _ _ _ _ => True) (fun _ U o U' => ∃ v L, o = .returned v ∧ Q_hi Z za zx h0 n0 v U'.heap L ∧ FrameEnd U o U' L ({ frames := 0, cells := 0, slots := 0, locals := 0 } : Room).cells ({ frames := 0, cells := 0, slots := 0, locals := 0 } : Room).slots) := by
  refine MetFree.of_bodySF pf_hi hisR ?_
  intro p e s m args below meth c s₁ Bd hml0 hP hK
  obtain ⟨rfl, hZ, hh⟩ := hP
  have hx := Bd.exec
  have hby := Bd.bytes
  have hml : c.maxLocals = 1 := hml0
  have hown : s.vm.findClass "com/example/aristotle/aristotle/DoubleDouble" = some m.cls := findClass_of_methodNamed Bd.named
  have hnm := (name_of_methodNamed Bd.named Bd.method).1
  have X0 : Stand p l e ({ frames := 0, cells := 0, slots := 0, locals := 0 } : Room) s m #[(.ref za)] below meth c s₁ [] 0 0 := Stand.of_body Bd
  have e0 : s₁.heap = h0 := by rw [← hh, Bd.state]; rfl
  have N0 := Fr.nil n0
  obtain ⟨S0, hS0⟩ : ∃ z, z = s₁.setTop (entryFrame m #[(.ref za)] 1) := ⟨_, rfl⟩
  rw [← hS0]
  have g0 : Goes p e below S0 (s₁.setTop (mkF m 0 #[rv za] [])) := fun t k => by rw [hS0]; exact castTop (ef_hi m za) k
  have g20 : Goes p e below S0 (s₁.setTop (mkF m 1 #[rv za] [(.ref za)])) := fun t k => g0 t (by
    refine XS.aloadN X0.here hx rfl (hb hby d4_0) rfl rfl ?_
    show Go p e below t s₁ m 1 #[rv za] [(.ref za)]
    exact k)
  obtain ⟨T21, X21, e21, st21⟩ := getF X0 hx hZ hown (host := "") (Or.inl (hw _ (List.mem_of_getElem? (i := 15) rfl))) Via.refl e0 P0 (g := (mkF m 1 #[rv za] [(.ref za)])) rfl rfl (hb hby d4_1)
  have g22 : Goes p e below S0 (T21.setTop (mkF m 4 #[rv za] [(.double zx)])) := fun t k => g20 t (st21 t k)
  obtain ⟨fs, hr, hrun, hended, hW, hsame⟩ := X21.leave (v := some (.double zx)) (fun h => by rw [Bd.returns] at h; cases h)
  refine ⟨_, _, g22 _ (retOut X21 hx Bd.returns rfl (Or.inr (Or.inr (Or.inl ⟨rfl, rfl, _, rfl⟩))) (hb hby d4_4) hr), hrun, hended, _, _, rfl, ?_, ⟨_, rfl⟩, hW, hsame.mono (by decide) (by decide)⟩
  show Q_hi Z za zx h0 n0 _ T21.heap _
  rw [e21]
  exact ⟨rfl, N0, rfl⟩
theorem own_nn (a : Int32) : Jvm.Free.Fl.NoNaN64 (FP.dmul (FP.i2d a) (4156822456062967808 : UInt64)) := Jvm.Free.Fl.dmul_out (Jvm.Free.Fl.i2d_fin _) (by unfold Jvm.Free.Fl.Fin64; decide)
open Jvm.OwnFP in
theorem own_v0 : Val (0 : UInt64) 0 1074 := by
  have h := Val.i2d 0
  rw [show FP.i2d 0 = (0 : UInt64) by decide +kernel] at h
  exact h
open Jvm.OwnFP in
theorem own_lt (a : Int32) : dLt (0 : UInt64) (FP.i2d a) ↔ 0 < a := by
  unfold dLt
  rw [own_v0.cmp (Val.i2d a), Option.some.injEq, FP.Core.compare_lt_iff, Int32.lt_iff_toInt_lt]
  have : (0 : Int32).toInt = 0 := by decide
  omega
theorem own_p1 {a : Int32} (h : 0 < a) : (f_pos (FP.i2d a)) = (1 : Int32) := by unfold f_pos; exact if_pos ((own_lt a).mpr h)
theorem own_p0 {a : Int32} (h : ¬ 0 < a) : (f_pos (FP.i2d a)) = (0 : Int32) := by unfold f_pos; exact if_neg (fun q => h ((own_lt a).mp q))
theorem own_fld {s : State} {args : Array Value} {t : Term} {x : Addr} {C n d : String} (ev : t.eval args s none [] s = some (.ref x)) (h : (Jvm.Cond.eq (.field t C n d) (.op1 .bitsD (.long (-4503599627370496 : Int64)))).value args s none s [] = some true) : s.fieldOf? x C n d = some (.double (18442240474082181120 : UInt64)) := by
  have e1 : (Term.field t C n d).eval args s none [] s = s.fieldOf? x C n d := by
    simp only [Term.eval, ev]; rfl
  have e2 : (Term.op1 .bitsD (.long (-4503599627370496 : Int64))).eval args s none [] s = some (.double (18442240474082181120 : UInt64)) := by
    have z : (-4503599627370496 : Int64).toUInt64 = (18442240474082181120 : UInt64) := by decide
    rw [← z]; rfl
  simp only [Jvm.Cond.value, e1, e2] at h
  cases e : s.fieldOf? x C n d with
  | none => rw [e] at h; simp at h
  | some v =>
    rw [e] at h
    cases v <;> simp at h
    rw [h]

theorem pd4 : parseMethodDescriptor "(III)Z" = some ⟨[.int, .int, .int], some .boolean⟩ := by decide +kernel
theorem pf_law : plainFor x = true := by first | exact plainFor_of_name (by first | (simp [plainName, overriddenIn, x]; done) | decide +kernel) | exact Jvm.Free.JP.mathPlain rfl (by decide +kernel) | decide +kernel
theorem ef_law (m : MethodId) (i0 : Int32) (i1 : Int32) (i2 : Int32) : entryFrame m #[(.int i0), (.int i1), (.int i2)] maxLocals = mkF m 0 #[iv i0, iv i1, iv i2, .unset, .unset, .unset, .unset, .unset, .unset, .unset, .unset, .unset] [] := by first | (simp [entryFrame, mkF, argsToLocals, Value.category, maxLocals]; done) | rfl
def f_law (i0 : Int32) (i1 : Int32) (i2 : Int32) : Int32 := (if (i0 &&& (3 : Int32)) = 0 then (if i1 = 0 then (if 0 < i1 then (1 : Int32) else (1 : Int32)) else (if 0 < i1 then (1 : Int32) else (1 : Int32))) else (if (i0 &&& (3 : Int32)) = (1 : Int32) then (if i1 = 0 then (if 0 < i1 then (1 : Int32) else (1 : Int32)) else (if 0 < i1 then (1 : Int32) else (1 : Int32))) else (if (i0 &&& (3 : Int32)) = (2 : Int32) then (1 : Int32) else (if (i2 &&& (1 : Int32)) = 0 then (1 : Int32) else (1 : Int32)))))
def Q_law (Z : State) (i0 : Int32) (i1 : Int32) (i2 : Int32) (sa : Addr) (h0 : Heap) (n0 : Nat) (v : Option Value) (h : Heap) (L : List Loc) : Prop := v = some (.int (f_law i0 i1 i2)) ∧ Fr n0 L
set_option maxRecDepth 65536 in
set_option maxHeartbeats 40000000 in
theorem rm_law (l : Launch) (Z : State) (a0 : Array Value) (hw : ∀ d ∈ tables_1, d.before a0 Z = true) (ws : List Jvm.Cond) (i0 : Int32) (i1 : Int32) (i2 : Int32) (sa : Addr) (h0 : Heap) (n0 : Nat) (Z0 : n0 ≤ h0.size) (P0 : Sta Z h0 "com/example/aristotle/aristotle/DoubleDouble" "NEGATIVE_INFINITY" "Lcom/example/aristotle/aristotle/DoubleDouble;" (.ref sa)) (P1 : Exa Z h0 sa "com/example/aristotle/aristotle/DoubleDouble") (P2 : Fld Z h0 sa "com/example/aristotle/aristotle/DoubleDouble" "high" "D" (.double (18442240474082181120 : UInt64)))  :
    MetFree l x (head1 (Jvm.Cond.code x code maxLocals ret :: ws) room_1) (fun a U => a = #[(.int i0), (.int i1), (.int i2)] ∧ Z.Warmed39 U.vm ∧ U.heap = h0) (fun _ _ _ _ _ => True) (fun _ U o U' => ∃ v L, o = .returned v ∧ Q_law Z i0 i1 i2 sa h0 n0 v U'.heap L ∧ FrameEnd U o U' L 16 128) := by
  refine MetFree.of_bodySF pf_law hisR ?_
  intro p e s m args below meth c s₁ Bd hml0 hP hK
  obtain ⟨rfl, hZ, hh⟩ := hP
  have hx := Bd.exec
  have hby := Bd.bytes
  have hml : c.maxLocals = 12 := hml0
  have hown : s.vm.findClass "com/example/aristotle/aristotle/DoubleDoubleIsPositivePinLaw" = some m.cls := findClass_of_methodNamed Bd.named
  have hnm := (name_of_methodNamed Bd.named Bd.method).1
  have X0 : Stand p l e room_1 s m #[(.int i0), (.int i1), (.int i2)] below meth c s₁ [] 0 0 := Stand.of_body Bd
  have e0 : s₁.heap = h0 := by rw [← hh, Bd.state]; rfl
  have N0 := Fr.nil n0
  obtain ⟨S0, hS0⟩ : ∃ z, z = s₁.setTop (entryFrame m #[(.int i0), (.int i1), (.int i2)] maxLocals) := ⟨_, rfl⟩
  rw [← hS0]
  have g0 : Goes p e below S0 (s₁.setTop (mkF m 0 #[iv i0, iv i1, iv i2, .unset, .unset, .unset, .unset, .unset, .unset, .unset, .unset, .unset] [])) := fun t k => by rw [hS0]; exact castTop (ef_law m i0 i1 i2) k
  have g23 : Goes p e below S0 (s₁.setTop (mkF m 5 #[iv i0, iv i1, iv i2, iv (i0 &&& (3 : Int32)), .unset, .unset, .unset, .unset, .unset, .unset, .unset, .unset] [(.int (i0 &&& (3 : Int32)))])) := fun t k => g0 t (by
    refine XS.iloadN X0.here hx rfl (hb hby at_0) rfl ?_
    show Go p e below t s₁ m 1 #[iv i0, iv i1, iv i2, .unset, .unset, .unset, .unset, .unset, .unset, .unset, .unset, .unset] [(.int i0)]
    refine XT.iconstV X0.here hx rfl (3 : Int32) (hb hby at_1) (by decide) ?_
    show Go p e below t s₁ m 2 #[iv i0, iv i1, iv i2, .unset, .unset, .unset, .unset, .unset, .unset, .unset, .unset, .unset] [(.int (3 : Int32)), (.int i0)]
    refine XS.iand X0.here hx rfl (hb hby at_2) rfl ?_
    show Go p e below t s₁ m 3 #[iv i0, iv i1, iv i2, .unset, .unset, .unset, .unset, .unset, .unset, .unset, .unset, .unset] [(.int (i0 &&& (3 : Int32)))]
    refine XS.istoreN X0.here hx rfl (hb hby at_3) rfl (l' := #[iv i0, iv i1, iv i2, iv (i0 &&& (3 : Int32)), .unset, .unset, .unset, .unset, .unset, .unset, .unset, .unset]) rfl ?_
    show Go p e below t s₁ m 4 #[iv i0, iv i1, iv i2, iv (i0 &&& (3 : Int32)), .unset, .unset, .unset, .unset, .unset, .unset, .unset, .unset] []
    refine XS.iloadN X0.here hx rfl (hb hby at_4) rfl ?_
    show Go p e below t s₁ m 5 #[iv i0, iv i1, iv i2, iv (i0 &&& (3 : Int32)), .unset, .unset, .unset, .unset, .unset, .unset, .unset, .unset] [(.int (i0 &&& (3 : Int32)))]
    exact k)
  by_cases h24 : (i0 &&& (3 : Int32)) = 0
  · skip
    have g25 : Goes p e below S0 (s₁.setTop (mkF m 18 #[iv i0, iv i1, iv i2, iv (i0 &&& (3 : Int32)), .val (.double (FP.i2d i1)), .second, .unset, .unset, .unset, .unset, .unset, .unset] [(.int i1)])) := fun t k => g23 t (by
      refine XS.ifYes X0.here hx rfl (pc0 := 5) (pc' := 13) rfl (hb hby at_5) rfl (XT.i0_eq_t h24) (by decide) (by decide) ?_
      show Go p e below t s₁ m 13 #[iv i0, iv i1, iv i2, iv (i0 &&& (3 : Int32)), .unset, .unset, .unset, .unset, .unset, .unset, .unset, .unset] []
      refine XS.iloadN X0.here hx rfl (hb hby at_13) rfl ?_
      show Go p e below t s₁ m 14 #[iv i0, iv i1, iv i2, iv (i0 &&& (3 : Int32)), .unset, .unset, .unset, .unset, .unset, .unset, .unset, .unset] [(.int i1)]
      refine XS.i2dS X0.here hx rfl (hb hby at_14) rfl rfl ?_
      show Go p e below t s₁ m 15 #[iv i0, iv i1, iv i2, iv (i0 &&& (3 : Int32)), .unset, .unset, .unset, .unset, .unset, .unset, .unset, .unset] [(.double (FP.i2d i1))]
      refine XS.dstore X0.here hx rfl (hb hby at_15) rfl (l' := #[iv i0, iv i1, iv i2, iv (i0 &&& (3 : Int32)), .val (.double (FP.i2d i1)), .second, .unset, .unset, .unset, .unset, .unset, .unset]) rfl ?_
      show Go p e below t s₁ m 17 #[iv i0, iv i1, iv i2, iv (i0 &&& (3 : Int32)), .val (.double (FP.i2d i1)), .second, .unset, .unset, .unset, .unset, .unset, .unset] []
      refine XS.iloadN X0.here hx rfl (hb hby at_17) rfl ?_
      show Go p e below t s₁ m 18 #[iv i0, iv i1, iv i2, iv (i0 &&& (3 : Int32)), .val (.double (FP.i2d i1)), .second, .unset, .unset, .unset, .unset, .unset, .unset] [(.int i1)]
      exact k)
    by_cases h26 : i1 = 0
    · skip
      have g27 : Goes p e below S0 (s₁.setTop (mkF m 34 #[iv i0, iv i1, iv i2, iv (i0 &&& (3 : Int32)), .val (.double (FP.i2d i1)), .second, .val (.double (0 : UInt64)), .second, .unset, .unset, .unset, .unset] [(.int i1)])) := fun t k => g25 t (by
        refine XS.ifNo X0.here hx rfl (hb hby at_18) rfl (XT.i0_ne_f h26) ?_
        show Go p e below t s₁ m 21 #[iv i0, iv i1, iv i2, iv (i0 &&& (3 : Int32)), .val (.double (FP.i2d i1)), .second, .unset, .unset, .unset, .unset, .unset, .unset] []
        refine XS.dconst0 X0.here hx rfl (hb hby at_21) (v := (0 : UInt64)) rfl ?_
        show Go p e below t s₁ m 22 #[iv i0, iv i1, iv i2, iv (i0 &&& (3 : Int32)), .val (.double (FP.i2d i1)), .second, .unset, .unset, .unset, .unset, .unset, .unset] [(.double (0 : UInt64))]
        refine XS.goto X0.here hx rfl (pc0 := 22) (pc' := 31) rfl (hb hby at_22) (by decide) (by decide) ?_
        show Go p e below t s₁ m 31 #[iv i0, iv i1, iv i2, iv (i0 &&& (3 : Int32)), .val (.double (FP.i2d i1)), .second, .unset, .unset, .unset, .unset, .unset, .unset] [(.double (0 : UInt64))]
        refine XS.dstore X0.here hx rfl (hb hby at_31) rfl (l' := #[iv i0, iv i1, iv i2, iv (i0 &&& (3 : Int32)), .val (.double (FP.i2d i1)), .second, .val (.double (0 : UInt64)), .second, .unset, .unset, .unset, .unset]) rfl ?_
        show Go p e below t s₁ m 33 #[iv i0, iv i1, iv i2, iv (i0 &&& (3 : Int32)), .val (.double (FP.i2d i1)), .second, .val (.double (0 : UInt64)), .second, .unset, .unset, .unset, .unset] []
        refine XS.iloadN X0.here hx rfl (hb hby at_33) rfl ?_
        show Go p e below t s₁ m 34 #[iv i0, iv i1, iv i2, iv (i0 &&& (3 : Int32)), .val (.double (FP.i2d i1)), .second, .val (.double (0 : UInt64)), .second, .unset, .unset, .unset, .unset] [(.int i1)]
        exact k)
      by_cases h28 : 0 < i1
      · skip
        have g29 : Goes p e below S0 (s₁.setTop (mkF m 109 #[iv i0, iv i1, iv i2, iv (i0 &&& (3 : Int32)), .val (.double (FP.i2d i1)), .second, .val (.double (0 : UInt64)), .second, iv (1 : Int32), .unset, .unset, .unset] [])) := fun t k => g27 t (by
          refine XS.ifNo X0.here hx rfl (hb hby at_34) rfl (XT.i0_le_f h28) ?_
          show Go p e below t s₁ m 37 #[iv i0, iv i1, iv i2, iv (i0 &&& (3 : Int32)), .val (.double (FP.i2d i1)), .second, .val (.double (0 : UInt64)), .second, .unset, .unset, .unset, .unset] []
          refine XT.iconstV X0.here hx rfl (1 : Int32) (hb hby at_37) (by decide) ?_
          show Go p e below t s₁ m 38 #[iv i0, iv i1, iv i2, iv (i0 &&& (3 : Int32)), .val (.double (FP.i2d i1)), .second, .val (.double (0 : UInt64)), .second, .unset, .unset, .unset, .unset] [(.int (1 : Int32))]
          refine XS.goto X0.here hx rfl (pc0 := 38) (pc' := 42) rfl (hb hby at_38) (by decide) (by decide) ?_
          show Go p e below t s₁ m 42 #[iv i0, iv i1, iv i2, iv (i0 &&& (3 : Int32)), .val (.double (FP.i2d i1)), .second, .val (.double (0 : UInt64)), .second, .unset, .unset, .unset, .unset] [(.int (1 : Int32))]
          refine XS.istore X0.here hx rfl (hb hby at_42) rfl (l' := #[iv i0, iv i1, iv i2, iv (i0 &&& (3 : Int32)), .val (.double (FP.i2d i1)), .second, .val (.double (0 : UInt64)), .second, iv (1 : Int32), .unset, .unset, .unset]) rfl ?_
          show Go p e below t s₁ m 44 #[iv i0, iv i1, iv i2, iv (i0 &&& (3 : Int32)), .val (.double (FP.i2d i1)), .second, .val (.double (0 : UInt64)), .second, iv (1 : Int32), .unset, .unset, .unset] []
          refine XS.goto X0.here hx rfl (pc0 := 44) (pc' := 109) rfl (hb hby at_44) (by decide) (by decide) ?_
          show Go p e below t s₁ m 109 #[iv i0, iv i1, iv i2, iv (i0 &&& (3 : Int32)), .val (.double (FP.i2d i1)), .second, .val (.double (0 : UInt64)), .second, iv (1 : Int32), .unset, .unset, .unset] []
          exact k)
        obtain ⟨T30, h30, X30, e30, E30, A30, D30, -, st30⟩ := newO X0 hx hZ hown (hw _ (List.mem_of_getElem? (i := 1) rfl)) (hw _ (List.mem_of_getElem? (i := 2) rfl)) (hw _ (List.mem_of_getElem? (i := 3) rfl)) e0 (g := (mkF m 109 #[iv i0, iv i1, iv i2, iv (i0 &&& (3 : Int32)), .val (.double (FP.i2d i1)), .second, .val (.double (0 : UInt64)), .second, iv (1 : Int32), .unset, .unset, .unset] [])) rfl (hb hby at_109) (by decide) (by decide)
        obtain ⟨b30, gb30⟩ : ∃ z, z = h0.size := ⟨_, rfl⟩
        have sz30 : h0.size ≤ b30 := Nat.le_trans (Nat.le_refl _) (Nat.le_of_eq gb30.symm)
        have ng30 : n0 ≤ b30 := Nat.le_trans Z0 sz30
        rw [← gb30] at A30 D30 st30
        have F30_31 : Fld Z h30 b30 "com/example/aristotle/aristotle/DoubleDouble" "high" "D" (.double (0 : UInt64)) := D30 (Or.inr (hw _ (List.mem_of_getElem? (i := 16) rfl))) (ty := .double) (by decide)
        have F30_32 : Fld Z h30 b30 "com/example/aristotle/aristotle/DoubleDouble" "low" "D" (.double (0 : UInt64)) := D30 (Or.inr (hw _ (List.mem_of_getElem? (i := 18) rfl))) (ty := .double) (by decide)
        have g33 : Goes p e below S0 (T30.setTop (mkF m 112 #[iv i0, iv i1, iv i2, iv (i0 &&& (3 : Int32)), .val (.double (FP.i2d i1)), .second, .val (.double (0 : UInt64)), .second, iv (1 : Int32), .unset, .unset, .unset] [(.ref b30)])) := fun t k => g29 t (st30 t k)
        have g34 : Goes p e below S0 (T30.setTop (mkF m 117 #[iv i0, iv i1, iv i2, iv (i0 &&& (3 : Int32)), .val (.double (FP.i2d i1)), .second, .val (.double (0 : UInt64)), .second, iv (1 : Int32), .unset, .unset, .unset] [(.double (0 : UInt64)), (.double (FP.i2d i1)), (.ref b30), (.ref b30)])) := fun t k => g33 t (by
          refine XS.dup X30.here hx rfl (hb hby at_112) rfl rfl ?_
          show Go p e below t T30 m 113 #[iv i0, iv i1, iv i2, iv (i0 &&& (3 : Int32)), .val (.double (FP.i2d i1)), .second, .val (.double (0 : UInt64)), .second, iv (1 : Int32), .unset, .unset, .unset] [(.ref b30), (.ref b30)]
          refine XS.dload X30.here hx rfl (hb hby at_113) rfl ?_
          show Go p e below t T30 m 115 #[iv i0, iv i1, iv i2, iv (i0 &&& (3 : Int32)), .val (.double (FP.i2d i1)), .second, .val (.double (0 : UInt64)), .second, iv (1 : Int32), .unset, .unset, .unset] [(.double (FP.i2d i1)), (.ref b30), (.ref b30)]
          refine XS.dload X30.here hx rfl (hb hby at_115) rfl ?_
          show Go p e below t T30 m 117 #[iv i0, iv i1, iv i2, iv (i0 &&& (3 : Int32)), .val (.double (FP.i2d i1)), .second, .val (.double (0 : UInt64)), .second, iv (1 : Int32), .unset, .unset, .unset] [(.double (0 : UInt64)), (.double (FP.i2d i1)), (.ref b30), (.ref b30)]
          exact k)
        obtain ⟨_, _, ⟨T35, L35, k35, n35⟩, -, X35, ⟨Lc35, hQ35, l35, y35, z35⟩, st35⟩ := X30.specialBack hx (y := (⟨"com/example/aristotle/aristotle/DoubleDouble", "<init>", "(DD)V"⟩ : MethodName)) rfl hown (mvT hZ (hw _ (List.mem_of_getElem? (i := 4) rfl))) (mvT hZ (hw _ (List.mem_of_getElem? (i := 5) rfl))) (mvT hZ (hw _ (List.mem_of_getElem? (i := 6) rfl))) (by decide) (backOf (W := 1) (rm_ini l Z a0 hw [] b30 (FP.i2d i1) (0 : UInt64)  h30 n0 (Nat.le_trans Z0 (Nat.le_trans (Nat.le_refl _) E30.1)) A30 F30_31 F30_32 ng30) hZ (hw _ (List.mem_of_getElem? (i := 6) rfl)) (hw _ (List.mem_of_getElem? (i := 3) rfl)) (by decide) (by decide)) (g := (mkF m 117 #[iv i0, iv i1, iv i2, iv (i0 &&& (3 : Int32)), .val (.double (FP.i2d i1)), .second, .val (.double (0 : UInt64)), .second, iv (1 : Int32), .unset, .unset, .unset] [(.double (0 : UInt64)), (.double (FP.i2d i1)), (.ref b30), (.ref b30)])) rfl (by rw [hml]; rfl) (Steps.refl _) (a := b30) (argsL := [(.double (FP.i2d i1)), (.double (0 : UInt64))]) (rest := [(.ref b30)]) (lenOf pd1 rfl) rfl (by show 2 * 0 + _ ≤ _; exact Nat.le_of_eq rfl) (hb hby at_117) (fun _ _ => ⟨rfl, e30, (by decide : 1 + 0 ≤ _), (by decide : 2 + 0 ≤ _)⟩)
        dsimp only [Pt.U, Pt.locs, Pt.cells, Pt.slots] at X35 l35 y35 z35 st35 hQ35
        subst l35 y35 z35
        obtain ⟨rfl, N35, R35_0, R35_1, R35_2, R35_3⟩ := hQ35
        have M35 := Fr.app N0 N35
        have g36 : Goes p e below S0 (T35.setTop (mkF m 120 #[iv i0, iv i1, iv i2, iv (i0 &&& (3 : Int32)), .val (.double (FP.i2d i1)), .second, .val (.double (0 : UInt64)), .second, iv (1 : Int32), .unset, .unset, .unset] [(.ref b30)])) := fun t k => g34 t (st35.trans k)
        have g37 : Goes p e below S0 (T35.setTop (mkF m 124 #[iv i0, iv i1, iv i2, iv (i0 &&& (3 : Int32)), .val (.double (FP.i2d i1)), .second, .val (.double (0 : UInt64)), .second, iv (1 : Int32), rv b30, .unset, .unset] [(.ref b30)])) := fun t k => g36 t (by
          refine XS.astore X35.here hx rfl (hb hby at_120) rfl rfl (l' := #[iv i0, iv i1, iv i2, iv (i0 &&& (3 : Int32)), .val (.double (FP.i2d i1)), .second, .val (.double (0 : UInt64)), .second, iv (1 : Int32), rv b30, .unset, .unset]) rfl ?_
          show Go p e below t T35 m 122 #[iv i0, iv i1, iv i2, iv (i0 &&& (3 : Int32)), .val (.double (FP.i2d i1)), .second, .val (.double (0 : UInt64)), .second, iv (1 : Int32), rv b30, .unset, .unset] []
          refine XS.aload X35.here hx rfl (hb hby at_122) rfl rfl ?_
          show Go p e below t T35 m 124 #[iv i0, iv i1, iv i2, iv (i0 &&& (3 : Int32)), .val (.double (FP.i2d i1)), .second, .val (.double (0 : UInt64)), .second, iv (1 : Int32), rv b30, .unset, .unset] [(.ref b30)]
          exact k)
        obtain ⟨cq38, kq38, q38a, q38b, q38c⟩ := isOf hZ rfl R35_1
        obtain ⟨_, _, ⟨T38, L38, k38, n38⟩, -, X38, ⟨Lc38, hQ38, l38, y38, z38⟩, st38⟩ := X35.virtualBack hx (y := (⟨"com/example/aristotle/aristotle/DoubleDouble", "isPositive", "()Z"⟩ : MethodName)) (z := (⟨"com/example/aristotle/aristotle/DoubleDouble", "isPositive", "()Z"⟩ : MethodName)) hown (mvT hZ (hw _ (List.mem_of_getElem? (i := 19) rfl))) (mvT hZ (hw _ (List.mem_of_getElem? (i := 20) rfl))) (notFace_of_selects (args := #[]) (mvT hZ (hw _ (List.mem_of_getElem? (i := 22) rfl)))) (mvT hZ (hw _ (List.mem_of_getElem? (i := 22) rfl))) (mvT hZ (hw _ (List.mem_of_getElem? (i := 21) rfl))) (by decide) (backOf (W := 0) (rm_pos l Z a0 hw [] b30 (FP.i2d i1) T35.heap n0 (Nat.le_trans Z0 (Nat.le_trans (Nat.le_trans (Nat.le_refl _) E30.1) R35_0.1)) R35_2) hZ (hw _ (List.mem_of_getElem? (i := 23) rfl)) (hw _ (List.mem_of_getElem? (i := 3) rfl)) (by decide) (by decide)) q38a q38c (g := (mkF m 124 #[iv i0, iv i1, iv i2, iv (i0 &&& (3 : Int32)), .val (.double (FP.i2d i1)), .second, .val (.double (0 : UInt64)), .second, iv (1 : Int32), rv b30, .unset, .unset] [(.ref b30)])) rfl (by rw [hml]; rfl) (Steps.refl _) (argsL := []) (rest := []) (lenOf pd2 rfl) rfl (by show 2 * 0 + _ ≤ _; exact Nat.le_of_eq rfl) (hb hby at_124) (fun _ _ => ⟨rfl, rfl, (by decide : 1 + 0 ≤ _), (by decide : 2 + 0 ≤ _)⟩)
        dsimp only [Pt.U, Pt.locs, Pt.cells, Pt.slots] at X38 l38 y38 z38 st38 hQ38
        subst l38 y38 z38
        obtain ⟨rfl, N38, e38⟩ := hQ38
        have M38 := Fr.app M35 N38
        have g39 : Goes p e below S0 (T38.setTop (mkF m 127 #[iv i0, iv i1, iv i2, iv (i0 &&& (3 : Int32)), .val (.double (FP.i2d i1)), .second, .val (.double (0 : UInt64)), .second, iv (1 : Int32), rv b30, .unset, .unset] [(.int (f_pos  (FP.i2d i1)))])) := fun t k => g37 t (st38.trans k)
        have g40 : Goes p e below S0 (T38.setTop (mkF m 137 #[iv i0, iv i1, iv i2, iv (i0 &&& (3 : Int32)), .val (.double (FP.i2d i1)), .second, .val (.double (0 : UInt64)), .second, iv (1 : Int32), rv b30, .unset, .unset] [(.int (1 : Int32))])) := fun t k => g39 t (by
          refine XS.iload X38.here hx rfl (hb hby at_127) rfl ?_
          show Go p e below t T38 m 129 #[iv i0, iv i1, iv i2, iv (i0 &&& (3 : Int32)), .val (.double (FP.i2d i1)), .second, .val (.double (0 : UInt64)), .second, iv (1 : Int32), rv b30, .unset, .unset] [(.int (1 : Int32)), (.int (f_pos  (FP.i2d i1)))]
          refine XS.icmpNo X38.here hx rfl (hb hby at_129) rfl (XT.ii_ne_f (own_p1 h28)) ?_
          show Go p e below t T38 m 132 #[iv i0, iv i1, iv i2, iv (i0 &&& (3 : Int32)), .val (.double (FP.i2d i1)), .second, .val (.double (0 : UInt64)), .second, iv (1 : Int32), rv b30, .unset, .unset] []
          refine XT.iconstV X38.here hx rfl (1 : Int32) (hb hby at_132) (by decide) ?_
          show Go p e below t T38 m 133 #[iv i0, iv i1, iv i2, iv (i0 &&& (3 : Int32)), .val (.double (FP.i2d i1)), .second, .val (.double (0 : UInt64)), .second, iv (1 : Int32), rv b30, .unset, .unset] [(.int (1 : Int32))]
          refine XS.goto X38.here hx rfl (pc0 := 133) (pc' := 137) rfl (hb hby at_133) (by decide) (by decide) ?_
          show Go p e below t T38 m 137 #[iv i0, iv i1, iv i2, iv (i0 &&& (3 : Int32)), .val (.double (FP.i2d i1)), .second, .val (.double (0 : UInt64)), .second, iv (1 : Int32), rv b30, .unset, .unset] [(.int (1 : Int32))]
          exact k)
        obtain ⟨fs, hr, hrun, hended, hW, hsame⟩ := X38.leave (v := some (.int (1 : Int32))) (fun h => by rw [Bd.returns] at h; cases h)
        refine ⟨_, _, g40 _ (retN X38 hx (t := .boolean) Bd.returns (by simp) (hb hby at_137) hr), hrun, hended, _, _, rfl, ?_, ⟨_, rfl⟩, hW, hsame.mono (by decide) (by decide)⟩
        show Q_law Z i0 i1 i2 sa h0 n0 _ T38.heap _
        rw [e38]
        exact ⟨by unfold f_law; rw [if_pos h24, if_pos h26, if_pos h28], M38⟩
      · skip
        have g41 : Goes p e below S0 (s₁.setTop (mkF m 109 #[iv i0, iv i1, iv i2, iv (i0 &&& (3 : Int32)), .val (.double (FP.i2d i1)), .second, .val (.double (0 : UInt64)), .second, iv (0 : Int32), .unset, .unset, .unset] [])) := fun t k => g27 t (by
          refine XS.ifYes X0.here hx rfl (pc0 := 34) (pc' := 41) rfl (hb hby at_34) rfl (XT.i0_le_t h28) (by decide) (by decide) ?_
          show Go p e below t s₁ m 41 #[iv i0, iv i1, iv i2, iv (i0 &&& (3 : Int32)), .val (.double (FP.i2d i1)), .second, .val (.double (0 : UInt64)), .second, .unset, .unset, .unset, .unset] []
          refine XT.iconstV X0.here hx rfl (0 : Int32) (hb hby at_41) (by decide) ?_
          show Go p e below t s₁ m 42 #[iv i0, iv i1, iv i2, iv (i0 &&& (3 : Int32)), .val (.double (FP.i2d i1)), .second, .val (.double (0 : UInt64)), .second, .unset, .unset, .unset, .unset] [(.int (0 : Int32))]
          refine XS.istore X0.here hx rfl (hb hby at_42) rfl (l' := #[iv i0, iv i1, iv i2, iv (i0 &&& (3 : Int32)), .val (.double (FP.i2d i1)), .second, .val (.double (0 : UInt64)), .second, iv (0 : Int32), .unset, .unset, .unset]) rfl ?_
          show Go p e below t s₁ m 44 #[iv i0, iv i1, iv i2, iv (i0 &&& (3 : Int32)), .val (.double (FP.i2d i1)), .second, .val (.double (0 : UInt64)), .second, iv (0 : Int32), .unset, .unset, .unset] []
          refine XS.goto X0.here hx rfl (pc0 := 44) (pc' := 109) rfl (hb hby at_44) (by decide) (by decide) ?_
          show Go p e below t s₁ m 109 #[iv i0, iv i1, iv i2, iv (i0 &&& (3 : Int32)), .val (.double (FP.i2d i1)), .second, .val (.double (0 : UInt64)), .second, iv (0 : Int32), .unset, .unset, .unset] []
          exact k)
        obtain ⟨T42, h42, X42, e42, E42, A42, D42, -, st42⟩ := newO X0 hx hZ hown (hw _ (List.mem_of_getElem? (i := 1) rfl)) (hw _ (List.mem_of_getElem? (i := 2) rfl)) (hw _ (List.mem_of_getElem? (i := 3) rfl)) e0 (g := (mkF m 109 #[iv i0, iv i1, iv i2, iv (i0 &&& (3 : Int32)), .val (.double (FP.i2d i1)), .second, .val (.double (0 : UInt64)), .second, iv (0 : Int32), .unset, .unset, .unset] [])) rfl (hb hby at_109) (by decide) (by decide)
        obtain ⟨b42, gb42⟩ : ∃ z, z = h0.size := ⟨_, rfl⟩
        have sz42 : h0.size ≤ b42 := Nat.le_trans (Nat.le_refl _) (Nat.le_of_eq gb42.symm)
        have ng42 : n0 ≤ b42 := Nat.le_trans Z0 sz42
        rw [← gb42] at A42 D42 st42
        have F42_43 : Fld Z h42 b42 "com/example/aristotle/aristotle/DoubleDouble" "high" "D" (.double (0 : UInt64)) := D42 (Or.inr (hw _ (List.mem_of_getElem? (i := 16) rfl))) (ty := .double) (by decide)
        have F42_44 : Fld Z h42 b42 "com/example/aristotle/aristotle/DoubleDouble" "low" "D" (.double (0 : UInt64)) := D42 (Or.inr (hw _ (List.mem_of_getElem? (i := 18) rfl))) (ty := .double) (by decide)
        have g45 : Goes p e below S0 (T42.setTop (mkF m 112 #[iv i0, iv i1, iv i2, iv (i0 &&& (3 : Int32)), .val (.double (FP.i2d i1)), .second, .val (.double (0 : UInt64)), .second, iv (0 : Int32), .unset, .unset, .unset] [(.ref b42)])) := fun t k => g41 t (st42 t k)
        have g46 : Goes p e below S0 (T42.setTop (mkF m 117 #[iv i0, iv i1, iv i2, iv (i0 &&& (3 : Int32)), .val (.double (FP.i2d i1)), .second, .val (.double (0 : UInt64)), .second, iv (0 : Int32), .unset, .unset, .unset] [(.double (0 : UInt64)), (.double (FP.i2d i1)), (.ref b42), (.ref b42)])) := fun t k => g45 t (by
          refine XS.dup X42.here hx rfl (hb hby at_112) rfl rfl ?_
          show Go p e below t T42 m 113 #[iv i0, iv i1, iv i2, iv (i0 &&& (3 : Int32)), .val (.double (FP.i2d i1)), .second, .val (.double (0 : UInt64)), .second, iv (0 : Int32), .unset, .unset, .unset] [(.ref b42), (.ref b42)]
          refine XS.dload X42.here hx rfl (hb hby at_113) rfl ?_
          show Go p e below t T42 m 115 #[iv i0, iv i1, iv i2, iv (i0 &&& (3 : Int32)), .val (.double (FP.i2d i1)), .second, .val (.double (0 : UInt64)), .second, iv (0 : Int32), .unset, .unset, .unset] [(.double (FP.i2d i1)), (.ref b42), (.ref b42)]
          refine XS.dload X42.here hx rfl (hb hby at_115) rfl ?_
          show Go p e below t T42 m 117 #[iv i0, iv i1, iv i2, iv (i0 &&& (3 : Int32)), .val (.double (FP.i2d i1)), .second, .val (.double (0 : UInt64)), .second, iv (0 : Int32), .unset, .unset, .unset] [(.double (0 : UInt64)), (.double (FP.i2d i1)), (.ref b42), (.ref b42)]
          exact k)
        obtain ⟨_, _, ⟨T47, L47, k47, n47⟩, -, X47, ⟨Lc47, hQ47, l47, y47, z47⟩, st47⟩ := X42.specialBack hx (y := (⟨"com/example/aristotle/aristotle/DoubleDouble", "<init>", "(DD)V"⟩ : MethodName)) rfl hown (mvT hZ (hw _ (List.mem_of_getElem? (i := 4) rfl))) (mvT hZ (hw _ (List.mem_of_getElem? (i := 5) rfl))) (mvT hZ (hw _ (List.mem_of_getElem? (i := 6) rfl))) (by decide) (backOf (W := 1) (rm_ini l Z a0 hw [] b42 (FP.i2d i1) (0 : UInt64)  h42 n0 (Nat.le_trans Z0 (Nat.le_trans (Nat.le_refl _) E42.1)) A42 F42_43 F42_44 ng42) hZ (hw _ (List.mem_of_getElem? (i := 6) rfl)) (hw _ (List.mem_of_getElem? (i := 3) rfl)) (by decide) (by decide)) (g := (mkF m 117 #[iv i0, iv i1, iv i2, iv (i0 &&& (3 : Int32)), .val (.double (FP.i2d i1)), .second, .val (.double (0 : UInt64)), .second, iv (0 : Int32), .unset, .unset, .unset] [(.double (0 : UInt64)), (.double (FP.i2d i1)), (.ref b42), (.ref b42)])) rfl (by rw [hml]; rfl) (Steps.refl _) (a := b42) (argsL := [(.double (FP.i2d i1)), (.double (0 : UInt64))]) (rest := [(.ref b42)]) (lenOf pd1 rfl) rfl (by show 2 * 0 + _ ≤ _; exact Nat.le_of_eq rfl) (hb hby at_117) (fun _ _ => ⟨rfl, e42, (by decide : 1 + 0 ≤ _), (by decide : 2 + 0 ≤ _)⟩)
        dsimp only [Pt.U, Pt.locs, Pt.cells, Pt.slots] at X47 l47 y47 z47 st47 hQ47
        subst l47 y47 z47
        obtain ⟨rfl, N47, R47_0, R47_1, R47_2, R47_3⟩ := hQ47
        have M47 := Fr.app N0 N47
        have g48 : Goes p e below S0 (T47.setTop (mkF m 120 #[iv i0, iv i1, iv i2, iv (i0 &&& (3 : Int32)), .val (.double (FP.i2d i1)), .second, .val (.double (0 : UInt64)), .second, iv (0 : Int32), .unset, .unset, .unset] [(.ref b42)])) := fun t k => g46 t (st47.trans k)
        have g49 : Goes p e below S0 (T47.setTop (mkF m 124 #[iv i0, iv i1, iv i2, iv (i0 &&& (3 : Int32)), .val (.double (FP.i2d i1)), .second, .val (.double (0 : UInt64)), .second, iv (0 : Int32), rv b42, .unset, .unset] [(.ref b42)])) := fun t k => g48 t (by
          refine XS.astore X47.here hx rfl (hb hby at_120) rfl rfl (l' := #[iv i0, iv i1, iv i2, iv (i0 &&& (3 : Int32)), .val (.double (FP.i2d i1)), .second, .val (.double (0 : UInt64)), .second, iv (0 : Int32), rv b42, .unset, .unset]) rfl ?_
          show Go p e below t T47 m 122 #[iv i0, iv i1, iv i2, iv (i0 &&& (3 : Int32)), .val (.double (FP.i2d i1)), .second, .val (.double (0 : UInt64)), .second, iv (0 : Int32), rv b42, .unset, .unset] []
          refine XS.aload X47.here hx rfl (hb hby at_122) rfl rfl ?_
          show Go p e below t T47 m 124 #[iv i0, iv i1, iv i2, iv (i0 &&& (3 : Int32)), .val (.double (FP.i2d i1)), .second, .val (.double (0 : UInt64)), .second, iv (0 : Int32), rv b42, .unset, .unset] [(.ref b42)]
          exact k)
        obtain ⟨cq50, kq50, q50a, q50b, q50c⟩ := isOf hZ rfl R47_1
        obtain ⟨_, _, ⟨T50, L50, k50, n50⟩, -, X50, ⟨Lc50, hQ50, l50, y50, z50⟩, st50⟩ := X47.virtualBack hx (y := (⟨"com/example/aristotle/aristotle/DoubleDouble", "isPositive", "()Z"⟩ : MethodName)) (z := (⟨"com/example/aristotle/aristotle/DoubleDouble", "isPositive", "()Z"⟩ : MethodName)) hown (mvT hZ (hw _ (List.mem_of_getElem? (i := 19) rfl))) (mvT hZ (hw _ (List.mem_of_getElem? (i := 20) rfl))) (notFace_of_selects (args := #[]) (mvT hZ (hw _ (List.mem_of_getElem? (i := 22) rfl)))) (mvT hZ (hw _ (List.mem_of_getElem? (i := 22) rfl))) (mvT hZ (hw _ (List.mem_of_getElem? (i := 21) rfl))) (by decide) (backOf (W := 0) (rm_pos l Z a0 hw [] b42 (FP.i2d i1) T47.heap n0 (Nat.le_trans Z0 (Nat.le_trans (Nat.le_trans (Nat.le_refl _) E42.1) R47_0.1)) R47_2) hZ (hw _ (List.mem_of_getElem? (i := 23) rfl)) (hw _ (List.mem_of_getElem? (i := 3) rfl)) (by decide) (by decide)) q50a q50c (g := (mkF m 124 #[iv i0, iv i1, iv i2, iv (i0 &&& (3 : Int32)), .val (.double (FP.i2d i1)), .second, .val (.double (0 : UInt64)), .second, iv (0 : Int32), rv b42, .unset, .unset] [(.ref b42)])) rfl (by rw [hml]; rfl) (Steps.refl _) (argsL := []) (rest := []) (lenOf pd2 rfl) rfl (by show 2 * 0 + _ ≤ _; exact Nat.le_of_eq rfl) (hb hby at_124) (fun _ _ => ⟨rfl, rfl, (by decide : 1 + 0 ≤ _), (by decide : 2 + 0 ≤ _)⟩)
        dsimp only [Pt.U, Pt.locs, Pt.cells, Pt.slots] at X50 l50 y50 z50 st50 hQ50
        subst l50 y50 z50
        obtain ⟨rfl, N50, e50⟩ := hQ50
        have M50 := Fr.app M47 N50
        have g51 : Goes p e below S0 (T50.setTop (mkF m 127 #[iv i0, iv i1, iv i2, iv (i0 &&& (3 : Int32)), .val (.double (FP.i2d i1)), .second, .val (.double (0 : UInt64)), .second, iv (0 : Int32), rv b42, .unset, .unset] [(.int (f_pos  (FP.i2d i1)))])) := fun t k => g49 t (st50.trans k)
        have g52 : Goes p e below S0 (T50.setTop (mkF m 137 #[iv i0, iv i1, iv i2, iv (i0 &&& (3 : Int32)), .val (.double (FP.i2d i1)), .second, .val (.double (0 : UInt64)), .second, iv (0 : Int32), rv b42, .unset, .unset] [(.int (1 : Int32))])) := fun t k => g51 t (by
          refine XS.iload X50.here hx rfl (hb hby at_127) rfl ?_
          show Go p e below t T50 m 129 #[iv i0, iv i1, iv i2, iv (i0 &&& (3 : Int32)), .val (.double (FP.i2d i1)), .second, .val (.double (0 : UInt64)), .second, iv (0 : Int32), rv b42, .unset, .unset] [(.int (0 : Int32)), (.int (f_pos  (FP.i2d i1)))]
          refine XS.icmpNo X50.here hx rfl (hb hby at_129) rfl (XT.ii_ne_f (own_p0 h28)) ?_
          show Go p e below t T50 m 132 #[iv i0, iv i1, iv i2, iv (i0 &&& (3 : Int32)), .val (.double (FP.i2d i1)), .second, .val (.double (0 : UInt64)), .second, iv (0 : Int32), rv b42, .unset, .unset] []
          refine XT.iconstV X50.here hx rfl (1 : Int32) (hb hby at_132) (by decide) ?_
          show Go p e below t T50 m 133 #[iv i0, iv i1, iv i2, iv (i0 &&& (3 : Int32)), .val (.double (FP.i2d i1)), .second, .val (.double (0 : UInt64)), .second, iv (0 : Int32), rv b42, .unset, .unset] [(.int (1 : Int32))]
          refine XS.goto X50.here hx rfl (pc0 := 133) (pc' := 137) rfl (hb hby at_133) (by decide) (by decide) ?_
          show Go p e below t T50 m 137 #[iv i0, iv i1, iv i2, iv (i0 &&& (3 : Int32)), .val (.double (FP.i2d i1)), .second, .val (.double (0 : UInt64)), .second, iv (0 : Int32), rv b42, .unset, .unset] [(.int (1 : Int32))]
          exact k)
        obtain ⟨fs, hr, hrun, hended, hW, hsame⟩ := X50.leave (v := some (.int (1 : Int32))) (fun h => by rw [Bd.returns] at h; cases h)
        refine ⟨_, _, g52 _ (retN X50 hx (t := .boolean) Bd.returns (by simp) (hb hby at_137) hr), hrun, hended, _, _, rfl, ?_, ⟨_, rfl⟩, hW, hsame.mono (by decide) (by decide)⟩
        show Q_law Z i0 i1 i2 sa h0 n0 _ T50.heap _
        rw [e50]
        exact ⟨by unfold f_law; rw [if_pos h24, if_pos h26, if_neg h28], M50⟩
    · skip
      have g53 : Goes p e below S0 (s₁.setTop (mkF m 34 #[iv i0, iv i1, iv i2, iv (i0 &&& (3 : Int32)), .val (.double (FP.i2d i1)), .second, .val (.double (FP.dmul (FP.i2d i2) (4156822456062967808 : UInt64))), .second, .unset, .unset, .unset, .unset] [(.int i1)])) := fun t k => g25 t (by
        refine XS.ifYes X0.here hx rfl (pc0 := 18) (pc' := 25) rfl (hb hby at_18) rfl (XT.i0_ne_t h26) (by decide) (by decide) ?_
        show Go p e below t s₁ m 25 #[iv i0, iv i1, iv i2, iv (i0 &&& (3 : Int32)), .val (.double (FP.i2d i1)), .second, .unset, .unset, .unset, .unset, .unset, .unset] []
        refine XS.iloadN X0.here hx rfl (hb hby at_25) rfl ?_
        show Go p e below t s₁ m 26 #[iv i0, iv i1, iv i2, iv (i0 &&& (3 : Int32)), .val (.double (FP.i2d i1)), .second, .unset, .unset, .unset, .unset, .unset, .unset] [(.int i2)]
        refine XS.i2dS X0.here hx rfl (hb hby at_26) rfl rfl ?_
        show Go p e below t s₁ m 27 #[iv i0, iv i1, iv i2, iv (i0 &&& (3 : Int32)), .val (.double (FP.i2d i1)), .second, .unset, .unset, .unset, .unset, .unset, .unset] [(.double (FP.i2d i2))]
        refine X0.ldc2DoubleC hx hown (mvT hZ (hw _ (List.mem_of_getElem? (i := 0) rfl))) (g := (mkF m 27 #[iv i0, iv i1, iv i2, iv (i0 &&& (3 : Int32)), .val (.double (FP.i2d i1)), .second, .unset, .unset, .unset, .unset, .unset, .unset] [(.double (FP.i2d i2))])) rfl (hb hby at_27) _ ?_
        show Go p e below t s₁ m 30 #[iv i0, iv i1, iv i2, iv (i0 &&& (3 : Int32)), .val (.double (FP.i2d i1)), .second, .unset, .unset, .unset, .unset, .unset, .unset] [(.double (4156822456062967808 : UInt64)), (.double (FP.i2d i2))]
        refine XS.dmulS X0.here hx rfl (hb hby at_30) rfl (own_nn i2) rfl ?_
        show Go p e below t s₁ m 31 #[iv i0, iv i1, iv i2, iv (i0 &&& (3 : Int32)), .val (.double (FP.i2d i1)), .second, .unset, .unset, .unset, .unset, .unset, .unset] [(.double (FP.dmul (FP.i2d i2) (4156822456062967808 : UInt64)))]
        refine XS.dstore X0.here hx rfl (hb hby at_31) rfl (l' := #[iv i0, iv i1, iv i2, iv (i0 &&& (3 : Int32)), .val (.double (FP.i2d i1)), .second, .val (.double (FP.dmul (FP.i2d i2) (4156822456062967808 : UInt64))), .second, .unset, .unset, .unset, .unset]) rfl ?_
        show Go p e below t s₁ m 33 #[iv i0, iv i1, iv i2, iv (i0 &&& (3 : Int32)), .val (.double (FP.i2d i1)), .second, .val (.double (FP.dmul (FP.i2d i2) (4156822456062967808 : UInt64))), .second, .unset, .unset, .unset, .unset] []
        refine XS.iloadN X0.here hx rfl (hb hby at_33) rfl ?_
        show Go p e below t s₁ m 34 #[iv i0, iv i1, iv i2, iv (i0 &&& (3 : Int32)), .val (.double (FP.i2d i1)), .second, .val (.double (FP.dmul (FP.i2d i2) (4156822456062967808 : UInt64))), .second, .unset, .unset, .unset, .unset] [(.int i1)]
        exact k)
      by_cases h54 : 0 < i1
      · skip
        have g55 : Goes p e below S0 (s₁.setTop (mkF m 109 #[iv i0, iv i1, iv i2, iv (i0 &&& (3 : Int32)), .val (.double (FP.i2d i1)), .second, .val (.double (FP.dmul (FP.i2d i2) (4156822456062967808 : UInt64))), .second, iv (1 : Int32), .unset, .unset, .unset] [])) := fun t k => g53 t (by
          refine XS.ifNo X0.here hx rfl (hb hby at_34) rfl (XT.i0_le_f h54) ?_
          show Go p e below t s₁ m 37 #[iv i0, iv i1, iv i2, iv (i0 &&& (3 : Int32)), .val (.double (FP.i2d i1)), .second, .val (.double (FP.dmul (FP.i2d i2) (4156822456062967808 : UInt64))), .second, .unset, .unset, .unset, .unset] []
          refine XT.iconstV X0.here hx rfl (1 : Int32) (hb hby at_37) (by decide) ?_
          show Go p e below t s₁ m 38 #[iv i0, iv i1, iv i2, iv (i0 &&& (3 : Int32)), .val (.double (FP.i2d i1)), .second, .val (.double (FP.dmul (FP.i2d i2) (4156822456062967808 : UInt64))), .second, .unset, .unset, .unset, .unset] [(.int (1 : Int32))]
          refine XS.goto X0.here hx rfl (pc0 := 38) (pc' := 42) rfl (hb hby at_38) (by decide) (by decide) ?_
          show Go p e below t s₁ m 42 #[iv i0, iv i1, iv i2, iv (i0 &&& (3 : Int32)), .val (.double (FP.i2d i1)), .second, .val (.double (FP.dmul (FP.i2d i2) (4156822456062967808 : UInt64))), .second, .unset, .unset, .unset, .unset] [(.int (1 : Int32))]
          refine XS.istore X0.here hx rfl (hb hby at_42) rfl (l' := #[iv i0, iv i1, iv i2, iv (i0 &&& (3 : Int32)), .val (.double (FP.i2d i1)), .second, .val (.double (FP.dmul (FP.i2d i2) (4156822456062967808 : UInt64))), .second, iv (1 : Int32), .unset, .unset, .unset]) rfl ?_
          show Go p e below t s₁ m 44 #[iv i0, iv i1, iv i2, iv (i0 &&& (3 : Int32)), .val (.double (FP.i2d i1)), .second, .val (.double (FP.dmul (FP.i2d i2) (4156822456062967808 : UInt64))), .second, iv (1 : Int32), .unset, .unset, .unset] []
          refine XS.goto X0.here hx rfl (pc0 := 44) (pc' := 109) rfl (hb hby at_44) (by decide) (by decide) ?_
          show Go p e below t s₁ m 109 #[iv i0, iv i1, iv i2, iv (i0 &&& (3 : Int32)), .val (.double (FP.i2d i1)), .second, .val (.double (FP.dmul (FP.i2d i2) (4156822456062967808 : UInt64))), .second, iv (1 : Int32), .unset, .unset, .unset] []
          exact k)
        obtain ⟨T56, h56, X56, e56, E56, A56, D56, -, st56⟩ := newO X0 hx hZ hown (hw _ (List.mem_of_getElem? (i := 1) rfl)) (hw _ (List.mem_of_getElem? (i := 2) rfl)) (hw _ (List.mem_of_getElem? (i := 3) rfl)) e0 (g := (mkF m 109 #[iv i0, iv i1, iv i2, iv (i0 &&& (3 : Int32)), .val (.double (FP.i2d i1)), .second, .val (.double (FP.dmul (FP.i2d i2) (4156822456062967808 : UInt64))), .second, iv (1 : Int32), .unset, .unset, .unset] [])) rfl (hb hby at_109) (by decide) (by decide)
        obtain ⟨b56, gb56⟩ : ∃ z, z = h0.size := ⟨_, rfl⟩
        have sz56 : h0.size ≤ b56 := Nat.le_trans (Nat.le_refl _) (Nat.le_of_eq gb56.symm)
        have ng56 : n0 ≤ b56 := Nat.le_trans Z0 sz56
        rw [← gb56] at A56 D56 st56
        have F56_57 : Fld Z h56 b56 "com/example/aristotle/aristotle/DoubleDouble" "high" "D" (.double (0 : UInt64)) := D56 (Or.inr (hw _ (List.mem_of_getElem? (i := 16) rfl))) (ty := .double) (by decide)
        have F56_58 : Fld Z h56 b56 "com/example/aristotle/aristotle/DoubleDouble" "low" "D" (.double (0 : UInt64)) := D56 (Or.inr (hw _ (List.mem_of_getElem? (i := 18) rfl))) (ty := .double) (by decide)
        have g59 : Goes p e below S0 (T56.setTop (mkF m 112 #[iv i0, iv i1, iv i2, iv (i0 &&& (3 : Int32)), .val (.double (FP.i2d i1)), .second, .val (.double (FP.dmul (FP.i2d i2) (4156822456062967808 : UInt64))), .second, iv (1 : Int32), .unset, .unset, .unset] [(.ref b56)])) := fun t k => g55 t (st56 t k)
        have g60 : Goes p e below S0 (T56.setTop (mkF m 117 #[iv i0, iv i1, iv i2, iv (i0 &&& (3 : Int32)), .val (.double (FP.i2d i1)), .second, .val (.double (FP.dmul (FP.i2d i2) (4156822456062967808 : UInt64))), .second, iv (1 : Int32), .unset, .unset, .unset] [(.double (FP.dmul (FP.i2d i2) (4156822456062967808 : UInt64))), (.double (FP.i2d i1)), (.ref b56), (.ref b56)])) := fun t k => g59 t (by
          refine XS.dup X56.here hx rfl (hb hby at_112) rfl rfl ?_
          show Go p e below t T56 m 113 #[iv i0, iv i1, iv i2, iv (i0 &&& (3 : Int32)), .val (.double (FP.i2d i1)), .second, .val (.double (FP.dmul (FP.i2d i2) (4156822456062967808 : UInt64))), .second, iv (1 : Int32), .unset, .unset, .unset] [(.ref b56), (.ref b56)]
          refine XS.dload X56.here hx rfl (hb hby at_113) rfl ?_
          show Go p e below t T56 m 115 #[iv i0, iv i1, iv i2, iv (i0 &&& (3 : Int32)), .val (.double (FP.i2d i1)), .second, .val (.double (FP.dmul (FP.i2d i2) (4156822456062967808 : UInt64))), .second, iv (1 : Int32), .unset, .unset, .unset] [(.double (FP.i2d i1)), (.ref b56), (.ref b56)]
          refine XS.dload X56.here hx rfl (hb hby at_115) rfl ?_
          show Go p e below t T56 m 117 #[iv i0, iv i1, iv i2, iv (i0 &&& (3 : Int32)), .val (.double (FP.i2d i1)), .second, .val (.double (FP.dmul (FP.i2d i2) (4156822456062967808 : UInt64))), .second, iv (1 : Int32), .unset, .unset, .unset] [(.double (FP.dmul (FP.i2d i2) (4156822456062967808 : UInt64))), (.double (FP.i2d i1)), (.ref b56), (.ref b56)]
          exact k)
        obtain ⟨_, _, ⟨T61, L61, k61, n61⟩, -, X61, ⟨Lc61, hQ61, l61, y61, z61⟩, st61⟩ := X56.specialBack hx (y := (⟨"com/example/aristotle/aristotle/DoubleDouble", "<init>", "(DD)V"⟩ : MethodName)) rfl hown (mvT hZ (hw _ (List.mem_of_getElem? (i := 4) rfl))) (mvT hZ (hw _ (List.mem_of_getElem? (i := 5) rfl))) (mvT hZ (hw _ (List.mem_of_getElem? (i := 6) rfl))) (by decide) (backOf (W := 1) (rm_ini l Z a0 hw [] b56 (FP.i2d i1) (FP.dmul (FP.i2d i2) (4156822456062967808 : UInt64))  h56 n0 (Nat.le_trans Z0 (Nat.le_trans (Nat.le_refl _) E56.1)) A56 F56_57 F56_58 ng56) hZ (hw _ (List.mem_of_getElem? (i := 6) rfl)) (hw _ (List.mem_of_getElem? (i := 3) rfl)) (by decide) (by decide)) (g := (mkF m 117 #[iv i0, iv i1, iv i2, iv (i0 &&& (3 : Int32)), .val (.double (FP.i2d i1)), .second, .val (.double (FP.dmul (FP.i2d i2) (4156822456062967808 : UInt64))), .second, iv (1 : Int32), .unset, .unset, .unset] [(.double (FP.dmul (FP.i2d i2) (4156822456062967808 : UInt64))), (.double (FP.i2d i1)), (.ref b56), (.ref b56)])) rfl (by rw [hml]; rfl) (Steps.refl _) (a := b56) (argsL := [(.double (FP.i2d i1)), (.double (FP.dmul (FP.i2d i2) (4156822456062967808 : UInt64)))]) (rest := [(.ref b56)]) (lenOf pd1 rfl) rfl (by show 2 * 0 + _ ≤ _; exact Nat.le_of_eq rfl) (hb hby at_117) (fun _ _ => ⟨rfl, e56, (by decide : 1 + 0 ≤ _), (by decide : 2 + 0 ≤ _)⟩)
        dsimp only [Pt.U, Pt.locs, Pt.cells, Pt.slots] at X61 l61 y61 z61 st61 hQ61
        subst l61 y61 z61
        obtain ⟨rfl, N61, R61_0, R61_1, R61_2, R61_3⟩ := hQ61
        have M61 := Fr.app N0 N61
        have g62 : Goes p e below S0 (T61.setTop (mkF m 120 #[iv i0, iv i1, iv i2, iv (i0 &&& (3 : Int32)), .val (.double (FP.i2d i1)), .second, .val (.double (FP.dmul (FP.i2d i2) (4156822456062967808 : UInt64))), .second, iv (1 : Int32), .unset, .unset, .unset] [(.ref b56)])) := fun t k => g60 t (st61.trans k)
        have g63 : Goes p e below S0 (T61.setTop (mkF m 124 #[iv i0, iv i1, iv i2, iv (i0 &&& (3 : Int32)), .val (.double (FP.i2d i1)), .second, .val (.double (FP.dmul (FP.i2d i2) (4156822456062967808 : UInt64))), .second, iv (1 : Int32), rv b56, .unset, .unset] [(.ref b56)])) := fun t k => g62 t (by
          refine XS.astore X61.here hx rfl (hb hby at_120) rfl rfl (l' := #[iv i0, iv i1, iv i2, iv (i0 &&& (3 : Int32)), .val (.double (FP.i2d i1)), .second, .val (.double (FP.dmul (FP.i2d i2) (4156822456062967808 : UInt64))), .second, iv (1 : Int32), rv b56, .unset, .unset]) rfl ?_
          show Go p e below t T61 m 122 #[iv i0, iv i1, iv i2, iv (i0 &&& (3 : Int32)), .val (.double (FP.i2d i1)), .second, .val (.double (FP.dmul (FP.i2d i2) (4156822456062967808 : UInt64))), .second, iv (1 : Int32), rv b56, .unset, .unset] []
          refine XS.aload X61.here hx rfl (hb hby at_122) rfl rfl ?_
          show Go p e below t T61 m 124 #[iv i0, iv i1, iv i2, iv (i0 &&& (3 : Int32)), .val (.double (FP.i2d i1)), .second, .val (.double (FP.dmul (FP.i2d i2) (4156822456062967808 : UInt64))), .second, iv (1 : Int32), rv b56, .unset, .unset] [(.ref b56)]
          exact k)
        obtain ⟨cq64, kq64, q64a, q64b, q64c⟩ := isOf hZ rfl R61_1
        obtain ⟨_, _, ⟨T64, L64, k64, n64⟩, -, X64, ⟨Lc64, hQ64, l64, y64, z64⟩, st64⟩ := X61.virtualBack hx (y := (⟨"com/example/aristotle/aristotle/DoubleDouble", "isPositive", "()Z"⟩ : MethodName)) (z := (⟨"com/example/aristotle/aristotle/DoubleDouble", "isPositive", "()Z"⟩ : MethodName)) hown (mvT hZ (hw _ (List.mem_of_getElem? (i := 19) rfl))) (mvT hZ (hw _ (List.mem_of_getElem? (i := 20) rfl))) (notFace_of_selects (args := #[]) (mvT hZ (hw _ (List.mem_of_getElem? (i := 22) rfl)))) (mvT hZ (hw _ (List.mem_of_getElem? (i := 22) rfl))) (mvT hZ (hw _ (List.mem_of_getElem? (i := 21) rfl))) (by decide) (backOf (W := 0) (rm_pos l Z a0 hw [] b56 (FP.i2d i1) T61.heap n0 (Nat.le_trans Z0 (Nat.le_trans (Nat.le_trans (Nat.le_refl _) E56.1) R61_0.1)) R61_2) hZ (hw _ (List.mem_of_getElem? (i := 23) rfl)) (hw _ (List.mem_of_getElem? (i := 3) rfl)) (by decide) (by decide)) q64a q64c (g := (mkF m 124 #[iv i0, iv i1, iv i2, iv (i0 &&& (3 : Int32)), .val (.double (FP.i2d i1)), .second, .val (.double (FP.dmul (FP.i2d i2) (4156822456062967808 : UInt64))), .second, iv (1 : Int32), rv b56, .unset, .unset] [(.ref b56)])) rfl (by rw [hml]; rfl) (Steps.refl _) (argsL := []) (rest := []) (lenOf pd2 rfl) rfl (by show 2 * 0 + _ ≤ _; exact Nat.le_of_eq rfl) (hb hby at_124) (fun _ _ => ⟨rfl, rfl, (by decide : 1 + 0 ≤ _), (by decide : 2 + 0 ≤ _)⟩)
        dsimp only [Pt.U, Pt.locs, Pt.cells, Pt.slots] at X64 l64 y64 z64 st64 hQ64
        subst l64 y64 z64
        obtain ⟨rfl, N64, e64⟩ := hQ64
        have M64 := Fr.app M61 N64
        have g65 : Goes p e below S0 (T64.setTop (mkF m 127 #[iv i0, iv i1, iv i2, iv (i0 &&& (3 : Int32)), .val (.double (FP.i2d i1)), .second, .val (.double (FP.dmul (FP.i2d i2) (4156822456062967808 : UInt64))), .second, iv (1 : Int32), rv b56, .unset, .unset] [(.int (f_pos  (FP.i2d i1)))])) := fun t k => g63 t (st64.trans k)
        have g66 : Goes p e below S0 (T64.setTop (mkF m 137 #[iv i0, iv i1, iv i2, iv (i0 &&& (3 : Int32)), .val (.double (FP.i2d i1)), .second, .val (.double (FP.dmul (FP.i2d i2) (4156822456062967808 : UInt64))), .second, iv (1 : Int32), rv b56, .unset, .unset] [(.int (1 : Int32))])) := fun t k => g65 t (by
          refine XS.iload X64.here hx rfl (hb hby at_127) rfl ?_
          show Go p e below t T64 m 129 #[iv i0, iv i1, iv i2, iv (i0 &&& (3 : Int32)), .val (.double (FP.i2d i1)), .second, .val (.double (FP.dmul (FP.i2d i2) (4156822456062967808 : UInt64))), .second, iv (1 : Int32), rv b56, .unset, .unset] [(.int (1 : Int32)), (.int (f_pos  (FP.i2d i1)))]
          refine XS.icmpNo X64.here hx rfl (hb hby at_129) rfl (XT.ii_ne_f (own_p1 h54)) ?_
          show Go p e below t T64 m 132 #[iv i0, iv i1, iv i2, iv (i0 &&& (3 : Int32)), .val (.double (FP.i2d i1)), .second, .val (.double (FP.dmul (FP.i2d i2) (4156822456062967808 : UInt64))), .second, iv (1 : Int32), rv b56, .unset, .unset] []
          refine XT.iconstV X64.here hx rfl (1 : Int32) (hb hby at_132) (by decide) ?_
          show Go p e below t T64 m 133 #[iv i0, iv i1, iv i2, iv (i0 &&& (3 : Int32)), .val (.double (FP.i2d i1)), .second, .val (.double (FP.dmul (FP.i2d i2) (4156822456062967808 : UInt64))), .second, iv (1 : Int32), rv b56, .unset, .unset] [(.int (1 : Int32))]
          refine XS.goto X64.here hx rfl (pc0 := 133) (pc' := 137) rfl (hb hby at_133) (by decide) (by decide) ?_
          show Go p e below t T64 m 137 #[iv i0, iv i1, iv i2, iv (i0 &&& (3 : Int32)), .val (.double (FP.i2d i1)), .second, .val (.double (FP.dmul (FP.i2d i2) (4156822456062967808 : UInt64))), .second, iv (1 : Int32), rv b56, .unset, .unset] [(.int (1 : Int32))]
          exact k)
        obtain ⟨fs, hr, hrun, hended, hW, hsame⟩ := X64.leave (v := some (.int (1 : Int32))) (fun h => by rw [Bd.returns] at h; cases h)
        refine ⟨_, _, g66 _ (retN X64 hx (t := .boolean) Bd.returns (by simp) (hb hby at_137) hr), hrun, hended, _, _, rfl, ?_, ⟨_, rfl⟩, hW, hsame.mono (by decide) (by decide)⟩
        show Q_law Z i0 i1 i2 sa h0 n0 _ T64.heap _
        rw [e64]
        exact ⟨by unfold f_law; rw [if_pos h24, if_neg h26, if_pos h54], M64⟩
      · skip
        have g67 : Goes p e below S0 (s₁.setTop (mkF m 109 #[iv i0, iv i1, iv i2, iv (i0 &&& (3 : Int32)), .val (.double (FP.i2d i1)), .second, .val (.double (FP.dmul (FP.i2d i2) (4156822456062967808 : UInt64))), .second, iv (0 : Int32), .unset, .unset, .unset] [])) := fun t k => g53 t (by
          refine XS.ifYes X0.here hx rfl (pc0 := 34) (pc' := 41) rfl (hb hby at_34) rfl (XT.i0_le_t h54) (by decide) (by decide) ?_
          show Go p e below t s₁ m 41 #[iv i0, iv i1, iv i2, iv (i0 &&& (3 : Int32)), .val (.double (FP.i2d i1)), .second, .val (.double (FP.dmul (FP.i2d i2) (4156822456062967808 : UInt64))), .second, .unset, .unset, .unset, .unset] []
          refine XT.iconstV X0.here hx rfl (0 : Int32) (hb hby at_41) (by decide) ?_
          show Go p e below t s₁ m 42 #[iv i0, iv i1, iv i2, iv (i0 &&& (3 : Int32)), .val (.double (FP.i2d i1)), .second, .val (.double (FP.dmul (FP.i2d i2) (4156822456062967808 : UInt64))), .second, .unset, .unset, .unset, .unset] [(.int (0 : Int32))]
          refine XS.istore X0.here hx rfl (hb hby at_42) rfl (l' := #[iv i0, iv i1, iv i2, iv (i0 &&& (3 : Int32)), .val (.double (FP.i2d i1)), .second, .val (.double (FP.dmul (FP.i2d i2) (4156822456062967808 : UInt64))), .second, iv (0 : Int32), .unset, .unset, .unset]) rfl ?_
          show Go p e below t s₁ m 44 #[iv i0, iv i1, iv i2, iv (i0 &&& (3 : Int32)), .val (.double (FP.i2d i1)), .second, .val (.double (FP.dmul (FP.i2d i2) (4156822456062967808 : UInt64))), .second, iv (0 : Int32), .unset, .unset, .unset] []
          refine XS.goto X0.here hx rfl (pc0 := 44) (pc' := 109) rfl (hb hby at_44) (by decide) (by decide) ?_
          show Go p e below t s₁ m 109 #[iv i0, iv i1, iv i2, iv (i0 &&& (3 : Int32)), .val (.double (FP.i2d i1)), .second, .val (.double (FP.dmul (FP.i2d i2) (4156822456062967808 : UInt64))), .second, iv (0 : Int32), .unset, .unset, .unset] []
          exact k)
        obtain ⟨T68, h68, X68, e68, E68, A68, D68, -, st68⟩ := newO X0 hx hZ hown (hw _ (List.mem_of_getElem? (i := 1) rfl)) (hw _ (List.mem_of_getElem? (i := 2) rfl)) (hw _ (List.mem_of_getElem? (i := 3) rfl)) e0 (g := (mkF m 109 #[iv i0, iv i1, iv i2, iv (i0 &&& (3 : Int32)), .val (.double (FP.i2d i1)), .second, .val (.double (FP.dmul (FP.i2d i2) (4156822456062967808 : UInt64))), .second, iv (0 : Int32), .unset, .unset, .unset] [])) rfl (hb hby at_109) (by decide) (by decide)
        obtain ⟨b68, gb68⟩ : ∃ z, z = h0.size := ⟨_, rfl⟩
        have sz68 : h0.size ≤ b68 := Nat.le_trans (Nat.le_refl _) (Nat.le_of_eq gb68.symm)
        have ng68 : n0 ≤ b68 := Nat.le_trans Z0 sz68
        rw [← gb68] at A68 D68 st68
        have F68_69 : Fld Z h68 b68 "com/example/aristotle/aristotle/DoubleDouble" "high" "D" (.double (0 : UInt64)) := D68 (Or.inr (hw _ (List.mem_of_getElem? (i := 16) rfl))) (ty := .double) (by decide)
        have F68_70 : Fld Z h68 b68 "com/example/aristotle/aristotle/DoubleDouble" "low" "D" (.double (0 : UInt64)) := D68 (Or.inr (hw _ (List.mem_of_getElem? (i := 18) rfl))) (ty := .double) (by decide)
        have g71 : Goes p e below S0 (T68.setTop (mkF m 112 #[iv i0, iv i1, iv i2, iv (i0 &&& (3 : Int32)), .val (.double (FP.i2d i1)), .second, .val (.double (FP.dmul (FP.i2d i2) (4156822456062967808 : UInt64))), .second, iv (0 : Int32), .unset, .unset, .unset] [(.ref b68)])) := fun t k => g67 t (st68 t k)
        have g72 : Goes p e below S0 (T68.setTop (mkF m 117 #[iv i0, iv i1, iv i2, iv (i0 &&& (3 : Int32)), .val (.double (FP.i2d i1)), .second, .val (.double (FP.dmul (FP.i2d i2) (4156822456062967808 : UInt64))), .second, iv (0 : Int32), .unset, .unset, .unset] [(.double (FP.dmul (FP.i2d i2) (4156822456062967808 : UInt64))), (.double (FP.i2d i1)), (.ref b68), (.ref b68)])) := fun t k => g71 t (by
          refine XS.dup X68.here hx rfl (hb hby at_112) rfl rfl ?_
          show Go p e below t T68 m 113 #[iv i0, iv i1, iv i2, iv (i0 &&& (3 : Int32)), .val (.double (FP.i2d i1)), .second, .val (.double (FP.dmul (FP.i2d i2) (4156822456062967808 : UInt64))), .second, iv (0 : Int32), .unset, .unset, .unset] [(.ref b68), (.ref b68)]
          refine XS.dload X68.here hx rfl (hb hby at_113) rfl ?_
          show Go p e below t T68 m 115 #[iv i0, iv i1, iv i2, iv (i0 &&& (3 : Int32)), .val (.double (FP.i2d i1)), .second, .val (.double (FP.dmul (FP.i2d i2) (4156822456062967808 : UInt64))), .second, iv (0 : Int32), .unset, .unset, .unset] [(.double (FP.i2d i1)), (.ref b68), (.ref b68)]
          refine XS.dload X68.here hx rfl (hb hby at_115) rfl ?_
          show Go p e below t T68 m 117 #[iv i0, iv i1, iv i2, iv (i0 &&& (3 : Int32)), .val (.double (FP.i2d i1)), .second, .val (.double (FP.dmul (FP.i2d i2) (4156822456062967808 : UInt64))), .second, iv (0 : Int32), .unset, .unset, .unset] [(.double (FP.dmul (FP.i2d i2) (4156822456062967808 : UInt64))), (.double (FP.i2d i1)), (.ref b68), (.ref b68)]
          exact k)
        obtain ⟨_, _, ⟨T73, L73, k73, n73⟩, -, X73, ⟨Lc73, hQ73, l73, y73, z73⟩, st73⟩ := X68.specialBack hx (y := (⟨"com/example/aristotle/aristotle/DoubleDouble", "<init>", "(DD)V"⟩ : MethodName)) rfl hown (mvT hZ (hw _ (List.mem_of_getElem? (i := 4) rfl))) (mvT hZ (hw _ (List.mem_of_getElem? (i := 5) rfl))) (mvT hZ (hw _ (List.mem_of_getElem? (i := 6) rfl))) (by decide) (backOf (W := 1) (rm_ini l Z a0 hw [] b68 (FP.i2d i1) (FP.dmul (FP.i2d i2) (4156822456062967808 : UInt64))  h68 n0 (Nat.le_trans Z0 (Nat.le_trans (Nat.le_refl _) E68.1)) A68 F68_69 F68_70 ng68) hZ (hw _ (List.mem_of_getElem? (i := 6) rfl)) (hw _ (List.mem_of_getElem? (i := 3) rfl)) (by decide) (by decide)) (g := (mkF m 117 #[iv i0, iv i1, iv i2, iv (i0 &&& (3 : Int32)), .val (.double (FP.i2d i1)), .second, .val (.double (FP.dmul (FP.i2d i2) (4156822456062967808 : UInt64))), .second, iv (0 : Int32), .unset, .unset, .unset] [(.double (FP.dmul (FP.i2d i2) (4156822456062967808 : UInt64))), (.double (FP.i2d i1)), (.ref b68), (.ref b68)])) rfl (by rw [hml]; rfl) (Steps.refl _) (a := b68) (argsL := [(.double (FP.i2d i1)), (.double (FP.dmul (FP.i2d i2) (4156822456062967808 : UInt64)))]) (rest := [(.ref b68)]) (lenOf pd1 rfl) rfl (by show 2 * 0 + _ ≤ _; exact Nat.le_of_eq rfl) (hb hby at_117) (fun _ _ => ⟨rfl, e68, (by decide : 1 + 0 ≤ _), (by decide : 2 + 0 ≤ _)⟩)
        dsimp only [Pt.U, Pt.locs, Pt.cells, Pt.slots] at X73 l73 y73 z73 st73 hQ73
        subst l73 y73 z73
        obtain ⟨rfl, N73, R73_0, R73_1, R73_2, R73_3⟩ := hQ73
        have M73 := Fr.app N0 N73
        have g74 : Goes p e below S0 (T73.setTop (mkF m 120 #[iv i0, iv i1, iv i2, iv (i0 &&& (3 : Int32)), .val (.double (FP.i2d i1)), .second, .val (.double (FP.dmul (FP.i2d i2) (4156822456062967808 : UInt64))), .second, iv (0 : Int32), .unset, .unset, .unset] [(.ref b68)])) := fun t k => g72 t (st73.trans k)
        have g75 : Goes p e below S0 (T73.setTop (mkF m 124 #[iv i0, iv i1, iv i2, iv (i0 &&& (3 : Int32)), .val (.double (FP.i2d i1)), .second, .val (.double (FP.dmul (FP.i2d i2) (4156822456062967808 : UInt64))), .second, iv (0 : Int32), rv b68, .unset, .unset] [(.ref b68)])) := fun t k => g74 t (by
          refine XS.astore X73.here hx rfl (hb hby at_120) rfl rfl (l' := #[iv i0, iv i1, iv i2, iv (i0 &&& (3 : Int32)), .val (.double (FP.i2d i1)), .second, .val (.double (FP.dmul (FP.i2d i2) (4156822456062967808 : UInt64))), .second, iv (0 : Int32), rv b68, .unset, .unset]) rfl ?_
          show Go p e below t T73 m 122 #[iv i0, iv i1, iv i2, iv (i0 &&& (3 : Int32)), .val (.double (FP.i2d i1)), .second, .val (.double (FP.dmul (FP.i2d i2) (4156822456062967808 : UInt64))), .second, iv (0 : Int32), rv b68, .unset, .unset] []
          refine XS.aload X73.here hx rfl (hb hby at_122) rfl rfl ?_
          show Go p e below t T73 m 124 #[iv i0, iv i1, iv i2, iv (i0 &&& (3 : Int32)), .val (.double (FP.i2d i1)), .second, .val (.double (FP.dmul (FP.i2d i2) (4156822456062967808 : UInt64))), .second, iv (0 : Int32), rv b68, .unset, .unset] [(.ref b68)]
          exact k)
        obtain ⟨cq76, kq76, q76a, q76b, q76c⟩ := isOf hZ rfl R73_1
        obtain ⟨_, _, ⟨T76, L76, k76, n76⟩, -, X76, ⟨Lc76, hQ76, l76, y76, z76⟩, st76⟩ := X73.virtualBack hx (y := (⟨"com/example/aristotle/aristotle/DoubleDouble", "isPositive", "()Z"⟩ : MethodName)) (z := (⟨"com/example/aristotle/aristotle/DoubleDouble", "isPositive", "()Z"⟩ : MethodName)) hown (mvT hZ (hw _ (List.mem_of_getElem? (i := 19) rfl))) (mvT hZ (hw _ (List.mem_of_getElem? (i := 20) rfl))) (notFace_of_selects (args := #[]) (mvT hZ (hw _ (List.mem_of_getElem? (i := 22) rfl)))) (mvT hZ (hw _ (List.mem_of_getElem? (i := 22) rfl))) (mvT hZ (hw _ (List.mem_of_getElem? (i := 21) rfl))) (by decide) (backOf (W := 0) (rm_pos l Z a0 hw [] b68 (FP.i2d i1) T73.heap n0 (Nat.le_trans Z0 (Nat.le_trans (Nat.le_trans (Nat.le_refl _) E68.1) R73_0.1)) R73_2) hZ (hw _ (List.mem_of_getElem? (i := 23) rfl)) (hw _ (List.mem_of_getElem? (i := 3) rfl)) (by decide) (by decide)) q76a q76c (g := (mkF m 124 #[iv i0, iv i1, iv i2, iv (i0 &&& (3 : Int32)), .val (.double (FP.i2d i1)), .second, .val (.double (FP.dmul (FP.i2d i2) (4156822456062967808 : UInt64))), .second, iv (0 : Int32), rv b68, .unset, .unset] [(.ref b68)])) rfl (by rw [hml]; rfl) (Steps.refl _) (argsL := []) (rest := []) (lenOf pd2 rfl) rfl (by show 2 * 0 + _ ≤ _; exact Nat.le_of_eq rfl) (hb hby at_124) (fun _ _ => ⟨rfl, rfl, (by decide : 1 + 0 ≤ _), (by decide : 2 + 0 ≤ _)⟩)
        dsimp only [Pt.U, Pt.locs, Pt.cells, Pt.slots] at X76 l76 y76 z76 st76 hQ76
        subst l76 y76 z76
        obtain ⟨rfl, N76, e76⟩ := hQ76
        have M76 := Fr.app M73 N76
        have g77 : Goes p e below S0 (T76.setTop (mkF m 127 #[iv i0, iv i1, iv i2, iv (i0 &&& (3 : Int32)), .val (.double (FP.i2d i1)), .second, .val (.double (FP.dmul (FP.i2d i2) (4156822456062967808 : UInt64))), .second, iv (0 : Int32), rv b68, .unset, .unset] [(.int (f_pos  (FP.i2d i1)))])) := fun t k => g75 t (st76.trans k)
        have g78 : Goes p e below S0 (T76.setTop (mkF m 137 #[iv i0, iv i1, iv i2, iv (i0 &&& (3 : Int32)), .val (.double (FP.i2d i1)), .second, .val (.double (FP.dmul (FP.i2d i2) (4156822456062967808 : UInt64))), .second, iv (0 : Int32), rv b68, .unset, .unset] [(.int (1 : Int32))])) := fun t k => g77 t (by
          refine XS.iload X76.here hx rfl (hb hby at_127) rfl ?_
          show Go p e below t T76 m 129 #[iv i0, iv i1, iv i2, iv (i0 &&& (3 : Int32)), .val (.double (FP.i2d i1)), .second, .val (.double (FP.dmul (FP.i2d i2) (4156822456062967808 : UInt64))), .second, iv (0 : Int32), rv b68, .unset, .unset] [(.int (0 : Int32)), (.int (f_pos  (FP.i2d i1)))]
          refine XS.icmpNo X76.here hx rfl (hb hby at_129) rfl (XT.ii_ne_f (own_p0 h54)) ?_
          show Go p e below t T76 m 132 #[iv i0, iv i1, iv i2, iv (i0 &&& (3 : Int32)), .val (.double (FP.i2d i1)), .second, .val (.double (FP.dmul (FP.i2d i2) (4156822456062967808 : UInt64))), .second, iv (0 : Int32), rv b68, .unset, .unset] []
          refine XT.iconstV X76.here hx rfl (1 : Int32) (hb hby at_132) (by decide) ?_
          show Go p e below t T76 m 133 #[iv i0, iv i1, iv i2, iv (i0 &&& (3 : Int32)), .val (.double (FP.i2d i1)), .second, .val (.double (FP.dmul (FP.i2d i2) (4156822456062967808 : UInt64))), .second, iv (0 : Int32), rv b68, .unset, .unset] [(.int (1 : Int32))]
          refine XS.goto X76.here hx rfl (pc0 := 133) (pc' := 137) rfl (hb hby at_133) (by decide) (by decide) ?_
          show Go p e below t T76 m 137 #[iv i0, iv i1, iv i2, iv (i0 &&& (3 : Int32)), .val (.double (FP.i2d i1)), .second, .val (.double (FP.dmul (FP.i2d i2) (4156822456062967808 : UInt64))), .second, iv (0 : Int32), rv b68, .unset, .unset] [(.int (1 : Int32))]
          exact k)
        obtain ⟨fs, hr, hrun, hended, hW, hsame⟩ := X76.leave (v := some (.int (1 : Int32))) (fun h => by rw [Bd.returns] at h; cases h)
        refine ⟨_, _, g78 _ (retN X76 hx (t := .boolean) Bd.returns (by simp) (hb hby at_137) hr), hrun, hended, _, _, rfl, ?_, ⟨_, rfl⟩, hW, hsame.mono (by decide) (by decide)⟩
        show Q_law Z i0 i1 i2 sa h0 n0 _ T76.heap _
        rw [e76]
        exact ⟨by unfold f_law; rw [if_pos h24, if_neg h26, if_neg h54], M76⟩
  · skip
    have g79 : Goes p e below S0 (s₁.setTop (mkF m 10 #[iv i0, iv i1, iv i2, iv (i0 &&& (3 : Int32)), .unset, .unset, .unset, .unset, .unset, .unset, .unset, .unset] [(.int (1 : Int32)), (.int (i0 &&& (3 : Int32)))])) := fun t k => g23 t (by
      refine XS.ifNo X0.here hx rfl (hb hby at_5) rfl (XT.i0_eq_f h24) ?_
      show Go p e below t s₁ m 8 #[iv i0, iv i1, iv i2, iv (i0 &&& (3 : Int32)), .unset, .unset, .unset, .unset, .unset, .unset, .unset, .unset] []
      refine XS.iloadN X0.here hx rfl (hb hby at_8) rfl ?_
      show Go p e below t s₁ m 9 #[iv i0, iv i1, iv i2, iv (i0 &&& (3 : Int32)), .unset, .unset, .unset, .unset, .unset, .unset, .unset, .unset] [(.int (i0 &&& (3 : Int32)))]
      refine XT.iconstV X0.here hx rfl (1 : Int32) (hb hby at_9) (by decide) ?_
      show Go p e below t s₁ m 10 #[iv i0, iv i1, iv i2, iv (i0 &&& (3 : Int32)), .unset, .unset, .unset, .unset, .unset, .unset, .unset, .unset] [(.int (1 : Int32)), (.int (i0 &&& (3 : Int32)))]
      exact k)
    by_cases h80 : (i0 &&& (3 : Int32)) = (1 : Int32)
    · skip
      have g81 : Goes p e below S0 (s₁.setTop (mkF m 18 #[iv i0, iv i1, iv i2, iv (i0 &&& (3 : Int32)), .val (.double (FP.i2d i1)), .second, .unset, .unset, .unset, .unset, .unset, .unset] [(.int i1)])) := fun t k => g79 t (by
        refine XS.icmpNo X0.here hx rfl (hb hby at_10) rfl (XT.ii_ne_f h80) ?_
        show Go p e below t s₁ m 13 #[iv i0, iv i1, iv i2, iv (i0 &&& (3 : Int32)), .unset, .unset, .unset, .unset, .unset, .unset, .unset, .unset] []
        refine XS.iloadN X0.here hx rfl (hb hby at_13) rfl ?_
        show Go p e below t s₁ m 14 #[iv i0, iv i1, iv i2, iv (i0 &&& (3 : Int32)), .unset, .unset, .unset, .unset, .unset, .unset, .unset, .unset] [(.int i1)]
        refine XS.i2dS X0.here hx rfl (hb hby at_14) rfl rfl ?_
        show Go p e below t s₁ m 15 #[iv i0, iv i1, iv i2, iv (i0 &&& (3 : Int32)), .unset, .unset, .unset, .unset, .unset, .unset, .unset, .unset] [(.double (FP.i2d i1))]
        refine XS.dstore X0.here hx rfl (hb hby at_15) rfl (l' := #[iv i0, iv i1, iv i2, iv (i0 &&& (3 : Int32)), .val (.double (FP.i2d i1)), .second, .unset, .unset, .unset, .unset, .unset, .unset]) rfl ?_
        show Go p e below t s₁ m 17 #[iv i0, iv i1, iv i2, iv (i0 &&& (3 : Int32)), .val (.double (FP.i2d i1)), .second, .unset, .unset, .unset, .unset, .unset, .unset] []
        refine XS.iloadN X0.here hx rfl (hb hby at_17) rfl ?_
        show Go p e below t s₁ m 18 #[iv i0, iv i1, iv i2, iv (i0 &&& (3 : Int32)), .val (.double (FP.i2d i1)), .second, .unset, .unset, .unset, .unset, .unset, .unset] [(.int i1)]
        exact k)
      by_cases h82 : i1 = 0
      · skip
        have g83 : Goes p e below S0 (s₁.setTop (mkF m 34 #[iv i0, iv i1, iv i2, iv (i0 &&& (3 : Int32)), .val (.double (FP.i2d i1)), .second, .val (.double (0 : UInt64)), .second, .unset, .unset, .unset, .unset] [(.int i1)])) := fun t k => g81 t (by
          refine XS.ifNo X0.here hx rfl (hb hby at_18) rfl (XT.i0_ne_f h82) ?_
          show Go p e below t s₁ m 21 #[iv i0, iv i1, iv i2, iv (i0 &&& (3 : Int32)), .val (.double (FP.i2d i1)), .second, .unset, .unset, .unset, .unset, .unset, .unset] []
          refine XS.dconst0 X0.here hx rfl (hb hby at_21) (v := (0 : UInt64)) rfl ?_
          show Go p e below t s₁ m 22 #[iv i0, iv i1, iv i2, iv (i0 &&& (3 : Int32)), .val (.double (FP.i2d i1)), .second, .unset, .unset, .unset, .unset, .unset, .unset] [(.double (0 : UInt64))]
          refine XS.goto X0.here hx rfl (pc0 := 22) (pc' := 31) rfl (hb hby at_22) (by decide) (by decide) ?_
          show Go p e below t s₁ m 31 #[iv i0, iv i1, iv i2, iv (i0 &&& (3 : Int32)), .val (.double (FP.i2d i1)), .second, .unset, .unset, .unset, .unset, .unset, .unset] [(.double (0 : UInt64))]
          refine XS.dstore X0.here hx rfl (hb hby at_31) rfl (l' := #[iv i0, iv i1, iv i2, iv (i0 &&& (3 : Int32)), .val (.double (FP.i2d i1)), .second, .val (.double (0 : UInt64)), .second, .unset, .unset, .unset, .unset]) rfl ?_
          show Go p e below t s₁ m 33 #[iv i0, iv i1, iv i2, iv (i0 &&& (3 : Int32)), .val (.double (FP.i2d i1)), .second, .val (.double (0 : UInt64)), .second, .unset, .unset, .unset, .unset] []
          refine XS.iloadN X0.here hx rfl (hb hby at_33) rfl ?_
          show Go p e below t s₁ m 34 #[iv i0, iv i1, iv i2, iv (i0 &&& (3 : Int32)), .val (.double (FP.i2d i1)), .second, .val (.double (0 : UInt64)), .second, .unset, .unset, .unset, .unset] [(.int i1)]
          exact k)
        by_cases h84 : 0 < i1
        · skip
          have g85 : Goes p e below S0 (s₁.setTop (mkF m 109 #[iv i0, iv i1, iv i2, iv (i0 &&& (3 : Int32)), .val (.double (FP.i2d i1)), .second, .val (.double (0 : UInt64)), .second, iv (1 : Int32), .unset, .unset, .unset] [])) := fun t k => g83 t (by
            refine XS.ifNo X0.here hx rfl (hb hby at_34) rfl (XT.i0_le_f h84) ?_
            show Go p e below t s₁ m 37 #[iv i0, iv i1, iv i2, iv (i0 &&& (3 : Int32)), .val (.double (FP.i2d i1)), .second, .val (.double (0 : UInt64)), .second, .unset, .unset, .unset, .unset] []
            refine XT.iconstV X0.here hx rfl (1 : Int32) (hb hby at_37) (by decide) ?_
            show Go p e below t s₁ m 38 #[iv i0, iv i1, iv i2, iv (i0 &&& (3 : Int32)), .val (.double (FP.i2d i1)), .second, .val (.double (0 : UInt64)), .second, .unset, .unset, .unset, .unset] [(.int (1 : Int32))]
            refine XS.goto X0.here hx rfl (pc0 := 38) (pc' := 42) rfl (hb hby at_38) (by decide) (by decide) ?_
            show Go p e below t s₁ m 42 #[iv i0, iv i1, iv i2, iv (i0 &&& (3 : Int32)), .val (.double (FP.i2d i1)), .second, .val (.double (0 : UInt64)), .second, .unset, .unset, .unset, .unset] [(.int (1 : Int32))]
            refine XS.istore X0.here hx rfl (hb hby at_42) rfl (l' := #[iv i0, iv i1, iv i2, iv (i0 &&& (3 : Int32)), .val (.double (FP.i2d i1)), .second, .val (.double (0 : UInt64)), .second, iv (1 : Int32), .unset, .unset, .unset]) rfl ?_
            show Go p e below t s₁ m 44 #[iv i0, iv i1, iv i2, iv (i0 &&& (3 : Int32)), .val (.double (FP.i2d i1)), .second, .val (.double (0 : UInt64)), .second, iv (1 : Int32), .unset, .unset, .unset] []
            refine XS.goto X0.here hx rfl (pc0 := 44) (pc' := 109) rfl (hb hby at_44) (by decide) (by decide) ?_
            show Go p e below t s₁ m 109 #[iv i0, iv i1, iv i2, iv (i0 &&& (3 : Int32)), .val (.double (FP.i2d i1)), .second, .val (.double (0 : UInt64)), .second, iv (1 : Int32), .unset, .unset, .unset] []
            exact k)
          obtain ⟨T86, h86, X86, e86, E86, A86, D86, -, st86⟩ := newO X0 hx hZ hown (hw _ (List.mem_of_getElem? (i := 1) rfl)) (hw _ (List.mem_of_getElem? (i := 2) rfl)) (hw _ (List.mem_of_getElem? (i := 3) rfl)) e0 (g := (mkF m 109 #[iv i0, iv i1, iv i2, iv (i0 &&& (3 : Int32)), .val (.double (FP.i2d i1)), .second, .val (.double (0 : UInt64)), .second, iv (1 : Int32), .unset, .unset, .unset] [])) rfl (hb hby at_109) (by decide) (by decide)
          obtain ⟨b86, gb86⟩ : ∃ z, z = h0.size := ⟨_, rfl⟩
          have sz86 : h0.size ≤ b86 := Nat.le_trans (Nat.le_refl _) (Nat.le_of_eq gb86.symm)
          have ng86 : n0 ≤ b86 := Nat.le_trans Z0 sz86
          rw [← gb86] at A86 D86 st86
          have F86_87 : Fld Z h86 b86 "com/example/aristotle/aristotle/DoubleDouble" "high" "D" (.double (0 : UInt64)) := D86 (Or.inr (hw _ (List.mem_of_getElem? (i := 16) rfl))) (ty := .double) (by decide)
          have F86_88 : Fld Z h86 b86 "com/example/aristotle/aristotle/DoubleDouble" "low" "D" (.double (0 : UInt64)) := D86 (Or.inr (hw _ (List.mem_of_getElem? (i := 18) rfl))) (ty := .double) (by decide)
          have g89 : Goes p e below S0 (T86.setTop (mkF m 112 #[iv i0, iv i1, iv i2, iv (i0 &&& (3 : Int32)), .val (.double (FP.i2d i1)), .second, .val (.double (0 : UInt64)), .second, iv (1 : Int32), .unset, .unset, .unset] [(.ref b86)])) := fun t k => g85 t (st86 t k)
          have g90 : Goes p e below S0 (T86.setTop (mkF m 117 #[iv i0, iv i1, iv i2, iv (i0 &&& (3 : Int32)), .val (.double (FP.i2d i1)), .second, .val (.double (0 : UInt64)), .second, iv (1 : Int32), .unset, .unset, .unset] [(.double (0 : UInt64)), (.double (FP.i2d i1)), (.ref b86), (.ref b86)])) := fun t k => g89 t (by
            refine XS.dup X86.here hx rfl (hb hby at_112) rfl rfl ?_
            show Go p e below t T86 m 113 #[iv i0, iv i1, iv i2, iv (i0 &&& (3 : Int32)), .val (.double (FP.i2d i1)), .second, .val (.double (0 : UInt64)), .second, iv (1 : Int32), .unset, .unset, .unset] [(.ref b86), (.ref b86)]
            refine XS.dload X86.here hx rfl (hb hby at_113) rfl ?_
            show Go p e below t T86 m 115 #[iv i0, iv i1, iv i2, iv (i0 &&& (3 : Int32)), .val (.double (FP.i2d i1)), .second, .val (.double (0 : UInt64)), .second, iv (1 : Int32), .unset, .unset, .unset] [(.double (FP.i2d i1)), (.ref b86), (.ref b86)]
            refine XS.dload X86.here hx rfl (hb hby at_115) rfl ?_
            show Go p e below t T86 m 117 #[iv i0, iv i1, iv i2, iv (i0 &&& (3 : Int32)), .val (.double (FP.i2d i1)), .second, .val (.double (0 : UInt64)), .second, iv (1 : Int32), .unset, .unset, .unset] [(.double (0 : UInt64)), (.double (FP.i2d i1)), (.ref b86), (.ref b86)]
            exact k)
          obtain ⟨_, _, ⟨T91, L91, k91, n91⟩, -, X91, ⟨Lc91, hQ91, l91, y91, z91⟩, st91⟩ := X86.specialBack hx (y := (⟨"com/example/aristotle/aristotle/DoubleDouble", "<init>", "(DD)V"⟩ : MethodName)) rfl hown (mvT hZ (hw _ (List.mem_of_getElem? (i := 4) rfl))) (mvT hZ (hw _ (List.mem_of_getElem? (i := 5) rfl))) (mvT hZ (hw _ (List.mem_of_getElem? (i := 6) rfl))) (by decide) (backOf (W := 1) (rm_ini l Z a0 hw [] b86 (FP.i2d i1) (0 : UInt64)  h86 n0 (Nat.le_trans Z0 (Nat.le_trans (Nat.le_refl _) E86.1)) A86 F86_87 F86_88 ng86) hZ (hw _ (List.mem_of_getElem? (i := 6) rfl)) (hw _ (List.mem_of_getElem? (i := 3) rfl)) (by decide) (by decide)) (g := (mkF m 117 #[iv i0, iv i1, iv i2, iv (i0 &&& (3 : Int32)), .val (.double (FP.i2d i1)), .second, .val (.double (0 : UInt64)), .second, iv (1 : Int32), .unset, .unset, .unset] [(.double (0 : UInt64)), (.double (FP.i2d i1)), (.ref b86), (.ref b86)])) rfl (by rw [hml]; rfl) (Steps.refl _) (a := b86) (argsL := [(.double (FP.i2d i1)), (.double (0 : UInt64))]) (rest := [(.ref b86)]) (lenOf pd1 rfl) rfl (by show 2 * 0 + _ ≤ _; exact Nat.le_of_eq rfl) (hb hby at_117) (fun _ _ => ⟨rfl, e86, (by decide : 1 + 0 ≤ _), (by decide : 2 + 0 ≤ _)⟩)
          dsimp only [Pt.U, Pt.locs, Pt.cells, Pt.slots] at X91 l91 y91 z91 st91 hQ91
          subst l91 y91 z91
          obtain ⟨rfl, N91, R91_0, R91_1, R91_2, R91_3⟩ := hQ91
          have M91 := Fr.app N0 N91
          have g92 : Goes p e below S0 (T91.setTop (mkF m 120 #[iv i0, iv i1, iv i2, iv (i0 &&& (3 : Int32)), .val (.double (FP.i2d i1)), .second, .val (.double (0 : UInt64)), .second, iv (1 : Int32), .unset, .unset, .unset] [(.ref b86)])) := fun t k => g90 t (st91.trans k)
          have g93 : Goes p e below S0 (T91.setTop (mkF m 124 #[iv i0, iv i1, iv i2, iv (i0 &&& (3 : Int32)), .val (.double (FP.i2d i1)), .second, .val (.double (0 : UInt64)), .second, iv (1 : Int32), rv b86, .unset, .unset] [(.ref b86)])) := fun t k => g92 t (by
            refine XS.astore X91.here hx rfl (hb hby at_120) rfl rfl (l' := #[iv i0, iv i1, iv i2, iv (i0 &&& (3 : Int32)), .val (.double (FP.i2d i1)), .second, .val (.double (0 : UInt64)), .second, iv (1 : Int32), rv b86, .unset, .unset]) rfl ?_
            show Go p e below t T91 m 122 #[iv i0, iv i1, iv i2, iv (i0 &&& (3 : Int32)), .val (.double (FP.i2d i1)), .second, .val (.double (0 : UInt64)), .second, iv (1 : Int32), rv b86, .unset, .unset] []
            refine XS.aload X91.here hx rfl (hb hby at_122) rfl rfl ?_
            show Go p e below t T91 m 124 #[iv i0, iv i1, iv i2, iv (i0 &&& (3 : Int32)), .val (.double (FP.i2d i1)), .second, .val (.double (0 : UInt64)), .second, iv (1 : Int32), rv b86, .unset, .unset] [(.ref b86)]
            exact k)
          obtain ⟨cq94, kq94, q94a, q94b, q94c⟩ := isOf hZ rfl R91_1
          obtain ⟨_, _, ⟨T94, L94, k94, n94⟩, -, X94, ⟨Lc94, hQ94, l94, y94, z94⟩, st94⟩ := X91.virtualBack hx (y := (⟨"com/example/aristotle/aristotle/DoubleDouble", "isPositive", "()Z"⟩ : MethodName)) (z := (⟨"com/example/aristotle/aristotle/DoubleDouble", "isPositive", "()Z"⟩ : MethodName)) hown (mvT hZ (hw _ (List.mem_of_getElem? (i := 19) rfl))) (mvT hZ (hw _ (List.mem_of_getElem? (i := 20) rfl))) (notFace_of_selects (args := #[]) (mvT hZ (hw _ (List.mem_of_getElem? (i := 22) rfl)))) (mvT hZ (hw _ (List.mem_of_getElem? (i := 22) rfl))) (mvT hZ (hw _ (List.mem_of_getElem? (i := 21) rfl))) (by decide) (backOf (W := 0) (rm_pos l Z a0 hw [] b86 (FP.i2d i1) T91.heap n0 (Nat.le_trans Z0 (Nat.le_trans (Nat.le_trans (Nat.le_refl _) E86.1) R91_0.1)) R91_2) hZ (hw _ (List.mem_of_getElem? (i := 23) rfl)) (hw _ (List.mem_of_getElem? (i := 3) rfl)) (by decide) (by decide)) q94a q94c (g := (mkF m 124 #[iv i0, iv i1, iv i2, iv (i0 &&& (3 : Int32)), .val (.double (FP.i2d i1)), .second, .val (.double (0 : UInt64)), .second, iv (1 : Int32), rv b86, .unset, .unset] [(.ref b86)])) rfl (by rw [hml]; rfl) (Steps.refl _) (argsL := []) (rest := []) (lenOf pd2 rfl) rfl (by show 2 * 0 + _ ≤ _; exact Nat.le_of_eq rfl) (hb hby at_124) (fun _ _ => ⟨rfl, rfl, (by decide : 1 + 0 ≤ _), (by decide : 2 + 0 ≤ _)⟩)
          dsimp only [Pt.U, Pt.locs, Pt.cells, Pt.slots] at X94 l94 y94 z94 st94 hQ94
          subst l94 y94 z94
          obtain ⟨rfl, N94, e94⟩ := hQ94
          have M94 := Fr.app M91 N94
          have g95 : Goes p e below S0 (T94.setTop (mkF m 127 #[iv i0, iv i1, iv i2, iv (i0 &&& (3 : Int32)), .val (.double (FP.i2d i1)), .second, .val (.double (0 : UInt64)), .second, iv (1 : Int32), rv b86, .unset, .unset] [(.int (f_pos  (FP.i2d i1)))])) := fun t k => g93 t (st94.trans k)
          have g96 : Goes p e below S0 (T94.setTop (mkF m 137 #[iv i0, iv i1, iv i2, iv (i0 &&& (3 : Int32)), .val (.double (FP.i2d i1)), .second, .val (.double (0 : UInt64)), .second, iv (1 : Int32), rv b86, .unset, .unset] [(.int (1 : Int32))])) := fun t k => g95 t (by
            refine XS.iload X94.here hx rfl (hb hby at_127) rfl ?_
            show Go p e below t T94 m 129 #[iv i0, iv i1, iv i2, iv (i0 &&& (3 : Int32)), .val (.double (FP.i2d i1)), .second, .val (.double (0 : UInt64)), .second, iv (1 : Int32), rv b86, .unset, .unset] [(.int (1 : Int32)), (.int (f_pos  (FP.i2d i1)))]
            refine XS.icmpNo X94.here hx rfl (hb hby at_129) rfl (XT.ii_ne_f (own_p1 h84)) ?_
            show Go p e below t T94 m 132 #[iv i0, iv i1, iv i2, iv (i0 &&& (3 : Int32)), .val (.double (FP.i2d i1)), .second, .val (.double (0 : UInt64)), .second, iv (1 : Int32), rv b86, .unset, .unset] []
            refine XT.iconstV X94.here hx rfl (1 : Int32) (hb hby at_132) (by decide) ?_
            show Go p e below t T94 m 133 #[iv i0, iv i1, iv i2, iv (i0 &&& (3 : Int32)), .val (.double (FP.i2d i1)), .second, .val (.double (0 : UInt64)), .second, iv (1 : Int32), rv b86, .unset, .unset] [(.int (1 : Int32))]
            refine XS.goto X94.here hx rfl (pc0 := 133) (pc' := 137) rfl (hb hby at_133) (by decide) (by decide) ?_
            show Go p e below t T94 m 137 #[iv i0, iv i1, iv i2, iv (i0 &&& (3 : Int32)), .val (.double (FP.i2d i1)), .second, .val (.double (0 : UInt64)), .second, iv (1 : Int32), rv b86, .unset, .unset] [(.int (1 : Int32))]
            exact k)
          obtain ⟨fs, hr, hrun, hended, hW, hsame⟩ := X94.leave (v := some (.int (1 : Int32))) (fun h => by rw [Bd.returns] at h; cases h)
          refine ⟨_, _, g96 _ (retN X94 hx (t := .boolean) Bd.returns (by simp) (hb hby at_137) hr), hrun, hended, _, _, rfl, ?_, ⟨_, rfl⟩, hW, hsame.mono (by decide) (by decide)⟩
          show Q_law Z i0 i1 i2 sa h0 n0 _ T94.heap _
          rw [e94]
          exact ⟨by unfold f_law; rw [if_neg h24, if_pos h80, if_pos h82, if_pos h84], M94⟩
        · skip
          have g97 : Goes p e below S0 (s₁.setTop (mkF m 109 #[iv i0, iv i1, iv i2, iv (i0 &&& (3 : Int32)), .val (.double (FP.i2d i1)), .second, .val (.double (0 : UInt64)), .second, iv (0 : Int32), .unset, .unset, .unset] [])) := fun t k => g83 t (by
            refine XS.ifYes X0.here hx rfl (pc0 := 34) (pc' := 41) rfl (hb hby at_34) rfl (XT.i0_le_t h84) (by decide) (by decide) ?_
            show Go p e below t s₁ m 41 #[iv i0, iv i1, iv i2, iv (i0 &&& (3 : Int32)), .val (.double (FP.i2d i1)), .second, .val (.double (0 : UInt64)), .second, .unset, .unset, .unset, .unset] []
            refine XT.iconstV X0.here hx rfl (0 : Int32) (hb hby at_41) (by decide) ?_
            show Go p e below t s₁ m 42 #[iv i0, iv i1, iv i2, iv (i0 &&& (3 : Int32)), .val (.double (FP.i2d i1)), .second, .val (.double (0 : UInt64)), .second, .unset, .unset, .unset, .unset] [(.int (0 : Int32))]
            refine XS.istore X0.here hx rfl (hb hby at_42) rfl (l' := #[iv i0, iv i1, iv i2, iv (i0 &&& (3 : Int32)), .val (.double (FP.i2d i1)), .second, .val (.double (0 : UInt64)), .second, iv (0 : Int32), .unset, .unset, .unset]) rfl ?_
            show Go p e below t s₁ m 44 #[iv i0, iv i1, iv i2, iv (i0 &&& (3 : Int32)), .val (.double (FP.i2d i1)), .second, .val (.double (0 : UInt64)), .second, iv (0 : Int32), .unset, .unset, .unset] []
            refine XS.goto X0.here hx rfl (pc0 := 44) (pc' := 109) rfl (hb hby at_44) (by decide) (by decide) ?_
            show Go p e below t s₁ m 109 #[iv i0, iv i1, iv i2, iv (i0 &&& (3 : Int32)), .val (.double (FP.i2d i1)), .second, .val (.double (0 : UInt64)), .second, iv (0 : Int32), .unset, .unset, .unset] []
            exact k)
          obtain ⟨T98, h98, X98, e98, E98, A98, D98, -, st98⟩ := newO X0 hx hZ hown (hw _ (List.mem_of_getElem? (i := 1) rfl)) (hw _ (List.mem_of_getElem? (i := 2) rfl)) (hw _ (List.mem_of_getElem? (i := 3) rfl)) e0 (g := (mkF m 109 #[iv i0, iv i1, iv i2, iv (i0 &&& (3 : Int32)), .val (.double (FP.i2d i1)), .second, .val (.double (0 : UInt64)), .second, iv (0 : Int32), .unset, .unset, .unset] [])) rfl (hb hby at_109) (by decide) (by decide)
          obtain ⟨b98, gb98⟩ : ∃ z, z = h0.size := ⟨_, rfl⟩
          have sz98 : h0.size ≤ b98 := Nat.le_trans (Nat.le_refl _) (Nat.le_of_eq gb98.symm)
          have ng98 : n0 ≤ b98 := Nat.le_trans Z0 sz98
          rw [← gb98] at A98 D98 st98
          have F98_99 : Fld Z h98 b98 "com/example/aristotle/aristotle/DoubleDouble" "high" "D" (.double (0 : UInt64)) := D98 (Or.inr (hw _ (List.mem_of_getElem? (i := 16) rfl))) (ty := .double) (by decide)
          have F98_100 : Fld Z h98 b98 "com/example/aristotle/aristotle/DoubleDouble" "low" "D" (.double (0 : UInt64)) := D98 (Or.inr (hw _ (List.mem_of_getElem? (i := 18) rfl))) (ty := .double) (by decide)
          have g101 : Goes p e below S0 (T98.setTop (mkF m 112 #[iv i0, iv i1, iv i2, iv (i0 &&& (3 : Int32)), .val (.double (FP.i2d i1)), .second, .val (.double (0 : UInt64)), .second, iv (0 : Int32), .unset, .unset, .unset] [(.ref b98)])) := fun t k => g97 t (st98 t k)
          have g102 : Goes p e below S0 (T98.setTop (mkF m 117 #[iv i0, iv i1, iv i2, iv (i0 &&& (3 : Int32)), .val (.double (FP.i2d i1)), .second, .val (.double (0 : UInt64)), .second, iv (0 : Int32), .unset, .unset, .unset] [(.double (0 : UInt64)), (.double (FP.i2d i1)), (.ref b98), (.ref b98)])) := fun t k => g101 t (by
            refine XS.dup X98.here hx rfl (hb hby at_112) rfl rfl ?_
            show Go p e below t T98 m 113 #[iv i0, iv i1, iv i2, iv (i0 &&& (3 : Int32)), .val (.double (FP.i2d i1)), .second, .val (.double (0 : UInt64)), .second, iv (0 : Int32), .unset, .unset, .unset] [(.ref b98), (.ref b98)]
            refine XS.dload X98.here hx rfl (hb hby at_113) rfl ?_
            show Go p e below t T98 m 115 #[iv i0, iv i1, iv i2, iv (i0 &&& (3 : Int32)), .val (.double (FP.i2d i1)), .second, .val (.double (0 : UInt64)), .second, iv (0 : Int32), .unset, .unset, .unset] [(.double (FP.i2d i1)), (.ref b98), (.ref b98)]
            refine XS.dload X98.here hx rfl (hb hby at_115) rfl ?_
            show Go p e below t T98 m 117 #[iv i0, iv i1, iv i2, iv (i0 &&& (3 : Int32)), .val (.double (FP.i2d i1)), .second, .val (.double (0 : UInt64)), .second, iv (0 : Int32), .unset, .unset, .unset] [(.double (0 : UInt64)), (.double (FP.i2d i1)), (.ref b98), (.ref b98)]
            exact k)
          obtain ⟨_, _, ⟨T103, L103, k103, n103⟩, -, X103, ⟨Lc103, hQ103, l103, y103, z103⟩, st103⟩ := X98.specialBack hx (y := (⟨"com/example/aristotle/aristotle/DoubleDouble", "<init>", "(DD)V"⟩ : MethodName)) rfl hown (mvT hZ (hw _ (List.mem_of_getElem? (i := 4) rfl))) (mvT hZ (hw _ (List.mem_of_getElem? (i := 5) rfl))) (mvT hZ (hw _ (List.mem_of_getElem? (i := 6) rfl))) (by decide) (backOf (W := 1) (rm_ini l Z a0 hw [] b98 (FP.i2d i1) (0 : UInt64)  h98 n0 (Nat.le_trans Z0 (Nat.le_trans (Nat.le_refl _) E98.1)) A98 F98_99 F98_100 ng98) hZ (hw _ (List.mem_of_getElem? (i := 6) rfl)) (hw _ (List.mem_of_getElem? (i := 3) rfl)) (by decide) (by decide)) (g := (mkF m 117 #[iv i0, iv i1, iv i2, iv (i0 &&& (3 : Int32)), .val (.double (FP.i2d i1)), .second, .val (.double (0 : UInt64)), .second, iv (0 : Int32), .unset, .unset, .unset] [(.double (0 : UInt64)), (.double (FP.i2d i1)), (.ref b98), (.ref b98)])) rfl (by rw [hml]; rfl) (Steps.refl _) (a := b98) (argsL := [(.double (FP.i2d i1)), (.double (0 : UInt64))]) (rest := [(.ref b98)]) (lenOf pd1 rfl) rfl (by show 2 * 0 + _ ≤ _; exact Nat.le_of_eq rfl) (hb hby at_117) (fun _ _ => ⟨rfl, e98, (by decide : 1 + 0 ≤ _), (by decide : 2 + 0 ≤ _)⟩)
          dsimp only [Pt.U, Pt.locs, Pt.cells, Pt.slots] at X103 l103 y103 z103 st103 hQ103
          subst l103 y103 z103
          obtain ⟨rfl, N103, R103_0, R103_1, R103_2, R103_3⟩ := hQ103
          have M103 := Fr.app N0 N103
          have g104 : Goes p e below S0 (T103.setTop (mkF m 120 #[iv i0, iv i1, iv i2, iv (i0 &&& (3 : Int32)), .val (.double (FP.i2d i1)), .second, .val (.double (0 : UInt64)), .second, iv (0 : Int32), .unset, .unset, .unset] [(.ref b98)])) := fun t k => g102 t (st103.trans k)
          have g105 : Goes p e below S0 (T103.setTop (mkF m 124 #[iv i0, iv i1, iv i2, iv (i0 &&& (3 : Int32)), .val (.double (FP.i2d i1)), .second, .val (.double (0 : UInt64)), .second, iv (0 : Int32), rv b98, .unset, .unset] [(.ref b98)])) := fun t k => g104 t (by
            refine XS.astore X103.here hx rfl (hb hby at_120) rfl rfl (l' := #[iv i0, iv i1, iv i2, iv (i0 &&& (3 : Int32)), .val (.double (FP.i2d i1)), .second, .val (.double (0 : UInt64)), .second, iv (0 : Int32), rv b98, .unset, .unset]) rfl ?_
            show Go p e below t T103 m 122 #[iv i0, iv i1, iv i2, iv (i0 &&& (3 : Int32)), .val (.double (FP.i2d i1)), .second, .val (.double (0 : UInt64)), .second, iv (0 : Int32), rv b98, .unset, .unset] []
            refine XS.aload X103.here hx rfl (hb hby at_122) rfl rfl ?_
            show Go p e below t T103 m 124 #[iv i0, iv i1, iv i2, iv (i0 &&& (3 : Int32)), .val (.double (FP.i2d i1)), .second, .val (.double (0 : UInt64)), .second, iv (0 : Int32), rv b98, .unset, .unset] [(.ref b98)]
            exact k)
          obtain ⟨cq106, kq106, q106a, q106b, q106c⟩ := isOf hZ rfl R103_1
          obtain ⟨_, _, ⟨T106, L106, k106, n106⟩, -, X106, ⟨Lc106, hQ106, l106, y106, z106⟩, st106⟩ := X103.virtualBack hx (y := (⟨"com/example/aristotle/aristotle/DoubleDouble", "isPositive", "()Z"⟩ : MethodName)) (z := (⟨"com/example/aristotle/aristotle/DoubleDouble", "isPositive", "()Z"⟩ : MethodName)) hown (mvT hZ (hw _ (List.mem_of_getElem? (i := 19) rfl))) (mvT hZ (hw _ (List.mem_of_getElem? (i := 20) rfl))) (notFace_of_selects (args := #[]) (mvT hZ (hw _ (List.mem_of_getElem? (i := 22) rfl)))) (mvT hZ (hw _ (List.mem_of_getElem? (i := 22) rfl))) (mvT hZ (hw _ (List.mem_of_getElem? (i := 21) rfl))) (by decide) (backOf (W := 0) (rm_pos l Z a0 hw [] b98 (FP.i2d i1) T103.heap n0 (Nat.le_trans Z0 (Nat.le_trans (Nat.le_trans (Nat.le_refl _) E98.1) R103_0.1)) R103_2) hZ (hw _ (List.mem_of_getElem? (i := 23) rfl)) (hw _ (List.mem_of_getElem? (i := 3) rfl)) (by decide) (by decide)) q106a q106c (g := (mkF m 124 #[iv i0, iv i1, iv i2, iv (i0 &&& (3 : Int32)), .val (.double (FP.i2d i1)), .second, .val (.double (0 : UInt64)), .second, iv (0 : Int32), rv b98, .unset, .unset] [(.ref b98)])) rfl (by rw [hml]; rfl) (Steps.refl _) (argsL := []) (rest := []) (lenOf pd2 rfl) rfl (by show 2 * 0 + _ ≤ _; exact Nat.le_of_eq rfl) (hb hby at_124) (fun _ _ => ⟨rfl, rfl, (by decide : 1 + 0 ≤ _), (by decide : 2 + 0 ≤ _)⟩)
          dsimp only [Pt.U, Pt.locs, Pt.cells, Pt.slots] at X106 l106 y106 z106 st106 hQ106
          subst l106 y106 z106
          obtain ⟨rfl, N106, e106⟩ := hQ106
          have M106 := Fr.app M103 N106
          have g107 : Goes p e below S0 (T106.setTop (mkF m 127 #[iv i0, iv i1, iv i2, iv (i0 &&& (3 : Int32)), .val (.double (FP.i2d i1)), .second, .val (.double (0 : UInt64)), .second, iv (0 : Int32), rv b98, .unset, .unset] [(.int (f_pos  (FP.i2d i1)))])) := fun t k => g105 t (st106.trans k)
          have g108 : Goes p e below S0 (T106.setTop (mkF m 137 #[iv i0, iv i1, iv i2, iv (i0 &&& (3 : Int32)), .val (.double (FP.i2d i1)), .second, .val (.double (0 : UInt64)), .second, iv (0 : Int32), rv b98, .unset, .unset] [(.int (1 : Int32))])) := fun t k => g107 t (by
            refine XS.iload X106.here hx rfl (hb hby at_127) rfl ?_
            show Go p e below t T106 m 129 #[iv i0, iv i1, iv i2, iv (i0 &&& (3 : Int32)), .val (.double (FP.i2d i1)), .second, .val (.double (0 : UInt64)), .second, iv (0 : Int32), rv b98, .unset, .unset] [(.int (0 : Int32)), (.int (f_pos  (FP.i2d i1)))]
            refine XS.icmpNo X106.here hx rfl (hb hby at_129) rfl (XT.ii_ne_f (own_p0 h84)) ?_
            show Go p e below t T106 m 132 #[iv i0, iv i1, iv i2, iv (i0 &&& (3 : Int32)), .val (.double (FP.i2d i1)), .second, .val (.double (0 : UInt64)), .second, iv (0 : Int32), rv b98, .unset, .unset] []
            refine XT.iconstV X106.here hx rfl (1 : Int32) (hb hby at_132) (by decide) ?_
            show Go p e below t T106 m 133 #[iv i0, iv i1, iv i2, iv (i0 &&& (3 : Int32)), .val (.double (FP.i2d i1)), .second, .val (.double (0 : UInt64)), .second, iv (0 : Int32), rv b98, .unset, .unset] [(.int (1 : Int32))]
            refine XS.goto X106.here hx rfl (pc0 := 133) (pc' := 137) rfl (hb hby at_133) (by decide) (by decide) ?_
            show Go p e below t T106 m 137 #[iv i0, iv i1, iv i2, iv (i0 &&& (3 : Int32)), .val (.double (FP.i2d i1)), .second, .val (.double (0 : UInt64)), .second, iv (0 : Int32), rv b98, .unset, .unset] [(.int (1 : Int32))]
            exact k)
          obtain ⟨fs, hr, hrun, hended, hW, hsame⟩ := X106.leave (v := some (.int (1 : Int32))) (fun h => by rw [Bd.returns] at h; cases h)
          refine ⟨_, _, g108 _ (retN X106 hx (t := .boolean) Bd.returns (by simp) (hb hby at_137) hr), hrun, hended, _, _, rfl, ?_, ⟨_, rfl⟩, hW, hsame.mono (by decide) (by decide)⟩
          show Q_law Z i0 i1 i2 sa h0 n0 _ T106.heap _
          rw [e106]
          exact ⟨by unfold f_law; rw [if_neg h24, if_pos h80, if_pos h82, if_neg h84], M106⟩
      · skip
        have g109 : Goes p e below S0 (s₁.setTop (mkF m 34 #[iv i0, iv i1, iv i2, iv (i0 &&& (3 : Int32)), .val (.double (FP.i2d i1)), .second, .val (.double (FP.dmul (FP.i2d i2) (4156822456062967808 : UInt64))), .second, .unset, .unset, .unset, .unset] [(.int i1)])) := fun t k => g81 t (by
          refine XS.ifYes X0.here hx rfl (pc0 := 18) (pc' := 25) rfl (hb hby at_18) rfl (XT.i0_ne_t h82) (by decide) (by decide) ?_
          show Go p e below t s₁ m 25 #[iv i0, iv i1, iv i2, iv (i0 &&& (3 : Int32)), .val (.double (FP.i2d i1)), .second, .unset, .unset, .unset, .unset, .unset, .unset] []
          refine XS.iloadN X0.here hx rfl (hb hby at_25) rfl ?_
          show Go p e below t s₁ m 26 #[iv i0, iv i1, iv i2, iv (i0 &&& (3 : Int32)), .val (.double (FP.i2d i1)), .second, .unset, .unset, .unset, .unset, .unset, .unset] [(.int i2)]
          refine XS.i2dS X0.here hx rfl (hb hby at_26) rfl rfl ?_
          show Go p e below t s₁ m 27 #[iv i0, iv i1, iv i2, iv (i0 &&& (3 : Int32)), .val (.double (FP.i2d i1)), .second, .unset, .unset, .unset, .unset, .unset, .unset] [(.double (FP.i2d i2))]
          refine X0.ldc2DoubleC hx hown (mvT hZ (hw _ (List.mem_of_getElem? (i := 0) rfl))) (g := (mkF m 27 #[iv i0, iv i1, iv i2, iv (i0 &&& (3 : Int32)), .val (.double (FP.i2d i1)), .second, .unset, .unset, .unset, .unset, .unset, .unset] [(.double (FP.i2d i2))])) rfl (hb hby at_27) _ ?_
          show Go p e below t s₁ m 30 #[iv i0, iv i1, iv i2, iv (i0 &&& (3 : Int32)), .val (.double (FP.i2d i1)), .second, .unset, .unset, .unset, .unset, .unset, .unset] [(.double (4156822456062967808 : UInt64)), (.double (FP.i2d i2))]
          refine XS.dmulS X0.here hx rfl (hb hby at_30) rfl (own_nn i2) rfl ?_
          show Go p e below t s₁ m 31 #[iv i0, iv i1, iv i2, iv (i0 &&& (3 : Int32)), .val (.double (FP.i2d i1)), .second, .unset, .unset, .unset, .unset, .unset, .unset] [(.double (FP.dmul (FP.i2d i2) (4156822456062967808 : UInt64)))]
          refine XS.dstore X0.here hx rfl (hb hby at_31) rfl (l' := #[iv i0, iv i1, iv i2, iv (i0 &&& (3 : Int32)), .val (.double (FP.i2d i1)), .second, .val (.double (FP.dmul (FP.i2d i2) (4156822456062967808 : UInt64))), .second, .unset, .unset, .unset, .unset]) rfl ?_
          show Go p e below t s₁ m 33 #[iv i0, iv i1, iv i2, iv (i0 &&& (3 : Int32)), .val (.double (FP.i2d i1)), .second, .val (.double (FP.dmul (FP.i2d i2) (4156822456062967808 : UInt64))), .second, .unset, .unset, .unset, .unset] []
          refine XS.iloadN X0.here hx rfl (hb hby at_33) rfl ?_
          show Go p e below t s₁ m 34 #[iv i0, iv i1, iv i2, iv (i0 &&& (3 : Int32)), .val (.double (FP.i2d i1)), .second, .val (.double (FP.dmul (FP.i2d i2) (4156822456062967808 : UInt64))), .second, .unset, .unset, .unset, .unset] [(.int i1)]
          exact k)
        by_cases h110 : 0 < i1
        · skip
          have g111 : Goes p e below S0 (s₁.setTop (mkF m 109 #[iv i0, iv i1, iv i2, iv (i0 &&& (3 : Int32)), .val (.double (FP.i2d i1)), .second, .val (.double (FP.dmul (FP.i2d i2) (4156822456062967808 : UInt64))), .second, iv (1 : Int32), .unset, .unset, .unset] [])) := fun t k => g109 t (by
            refine XS.ifNo X0.here hx rfl (hb hby at_34) rfl (XT.i0_le_f h110) ?_
            show Go p e below t s₁ m 37 #[iv i0, iv i1, iv i2, iv (i0 &&& (3 : Int32)), .val (.double (FP.i2d i1)), .second, .val (.double (FP.dmul (FP.i2d i2) (4156822456062967808 : UInt64))), .second, .unset, .unset, .unset, .unset] []
            refine XT.iconstV X0.here hx rfl (1 : Int32) (hb hby at_37) (by decide) ?_
            show Go p e below t s₁ m 38 #[iv i0, iv i1, iv i2, iv (i0 &&& (3 : Int32)), .val (.double (FP.i2d i1)), .second, .val (.double (FP.dmul (FP.i2d i2) (4156822456062967808 : UInt64))), .second, .unset, .unset, .unset, .unset] [(.int (1 : Int32))]
            refine XS.goto X0.here hx rfl (pc0 := 38) (pc' := 42) rfl (hb hby at_38) (by decide) (by decide) ?_
            show Go p e below t s₁ m 42 #[iv i0, iv i1, iv i2, iv (i0 &&& (3 : Int32)), .val (.double (FP.i2d i1)), .second, .val (.double (FP.dmul (FP.i2d i2) (4156822456062967808 : UInt64))), .second, .unset, .unset, .unset, .unset] [(.int (1 : Int32))]
            refine XS.istore X0.here hx rfl (hb hby at_42) rfl (l' := #[iv i0, iv i1, iv i2, iv (i0 &&& (3 : Int32)), .val (.double (FP.i2d i1)), .second, .val (.double (FP.dmul (FP.i2d i2) (4156822456062967808 : UInt64))), .second, iv (1 : Int32), .unset, .unset, .unset]) rfl ?_
            show Go p e below t s₁ m 44 #[iv i0, iv i1, iv i2, iv (i0 &&& (3 : Int32)), .val (.double (FP.i2d i1)), .second, .val (.double (FP.dmul (FP.i2d i2) (4156822456062967808 : UInt64))), .second, iv (1 : Int32), .unset, .unset, .unset] []
            refine XS.goto X0.here hx rfl (pc0 := 44) (pc' := 109) rfl (hb hby at_44) (by decide) (by decide) ?_
            show Go p e below t s₁ m 109 #[iv i0, iv i1, iv i2, iv (i0 &&& (3 : Int32)), .val (.double (FP.i2d i1)), .second, .val (.double (FP.dmul (FP.i2d i2) (4156822456062967808 : UInt64))), .second, iv (1 : Int32), .unset, .unset, .unset] []
            exact k)
          obtain ⟨T112, h112, X112, e112, E112, A112, D112, -, st112⟩ := newO X0 hx hZ hown (hw _ (List.mem_of_getElem? (i := 1) rfl)) (hw _ (List.mem_of_getElem? (i := 2) rfl)) (hw _ (List.mem_of_getElem? (i := 3) rfl)) e0 (g := (mkF m 109 #[iv i0, iv i1, iv i2, iv (i0 &&& (3 : Int32)), .val (.double (FP.i2d i1)), .second, .val (.double (FP.dmul (FP.i2d i2) (4156822456062967808 : UInt64))), .second, iv (1 : Int32), .unset, .unset, .unset] [])) rfl (hb hby at_109) (by decide) (by decide)
          obtain ⟨b112, gb112⟩ : ∃ z, z = h0.size := ⟨_, rfl⟩
          have sz112 : h0.size ≤ b112 := Nat.le_trans (Nat.le_refl _) (Nat.le_of_eq gb112.symm)
          have ng112 : n0 ≤ b112 := Nat.le_trans Z0 sz112
          rw [← gb112] at A112 D112 st112
          have F112_113 : Fld Z h112 b112 "com/example/aristotle/aristotle/DoubleDouble" "high" "D" (.double (0 : UInt64)) := D112 (Or.inr (hw _ (List.mem_of_getElem? (i := 16) rfl))) (ty := .double) (by decide)
          have F112_114 : Fld Z h112 b112 "com/example/aristotle/aristotle/DoubleDouble" "low" "D" (.double (0 : UInt64)) := D112 (Or.inr (hw _ (List.mem_of_getElem? (i := 18) rfl))) (ty := .double) (by decide)
          have g115 : Goes p e below S0 (T112.setTop (mkF m 112 #[iv i0, iv i1, iv i2, iv (i0 &&& (3 : Int32)), .val (.double (FP.i2d i1)), .second, .val (.double (FP.dmul (FP.i2d i2) (4156822456062967808 : UInt64))), .second, iv (1 : Int32), .unset, .unset, .unset] [(.ref b112)])) := fun t k => g111 t (st112 t k)
          have g116 : Goes p e below S0 (T112.setTop (mkF m 117 #[iv i0, iv i1, iv i2, iv (i0 &&& (3 : Int32)), .val (.double (FP.i2d i1)), .second, .val (.double (FP.dmul (FP.i2d i2) (4156822456062967808 : UInt64))), .second, iv (1 : Int32), .unset, .unset, .unset] [(.double (FP.dmul (FP.i2d i2) (4156822456062967808 : UInt64))), (.double (FP.i2d i1)), (.ref b112), (.ref b112)])) := fun t k => g115 t (by
            refine XS.dup X112.here hx rfl (hb hby at_112) rfl rfl ?_
            show Go p e below t T112 m 113 #[iv i0, iv i1, iv i2, iv (i0 &&& (3 : Int32)), .val (.double (FP.i2d i1)), .second, .val (.double (FP.dmul (FP.i2d i2) (4156822456062967808 : UInt64))), .second, iv (1 : Int32), .unset, .unset, .unset] [(.ref b112), (.ref b112)]
            refine XS.dload X112.here hx rfl (hb hby at_113) rfl ?_
            show Go p e below t T112 m 115 #[iv i0, iv i1, iv i2, iv (i0 &&& (3 : Int32)), .val (.double (FP.i2d i1)), .second, .val (.double (FP.dmul (FP.i2d i2) (4156822456062967808 : UInt64))), .second, iv (1 : Int32), .unset, .unset, .unset] [(.double (FP.i2d i1)), (.ref b112), (.ref b112)]
            refine XS.dload X112.here hx rfl (hb hby at_115) rfl ?_
            show Go p e below t T112 m 117 #[iv i0, iv i1, iv i2, iv (i0 &&& (3 : Int32)), .val (.double (FP.i2d i1)), .second, .val (.double (FP.dmul (FP.i2d i2) (4156822456062967808 : UInt64))), .second, iv (1 : Int32), .unset, .unset, .unset] [(.double (FP.dmul (FP.i2d i2) (4156822456062967808 : UInt64))), (.double (FP.i2d i1)), (.ref b112), (.ref b112)]
            exact k)
          obtain ⟨_, _, ⟨T117, L117, k117, n117⟩, -, X117, ⟨Lc117, hQ117, l117, y117, z117⟩, st117⟩ := X112.specialBack hx (y := (⟨"com/example/aristotle/aristotle/DoubleDouble", "<init>", "(DD)V"⟩ : MethodName)) rfl hown (mvT hZ (hw _ (List.mem_of_getElem? (i := 4) rfl))) (mvT hZ (hw _ (List.mem_of_getElem? (i := 5) rfl))) (mvT hZ (hw _ (List.mem_of_getElem? (i := 6) rfl))) (by decide) (backOf (W := 1) (rm_ini l Z a0 hw [] b112 (FP.i2d i1) (FP.dmul (FP.i2d i2) (4156822456062967808 : UInt64))  h112 n0 (Nat.le_trans Z0 (Nat.le_trans (Nat.le_refl _) E112.1)) A112 F112_113 F112_114 ng112) hZ (hw _ (List.mem_of_getElem? (i := 6) rfl)) (hw _ (List.mem_of_getElem? (i := 3) rfl)) (by decide) (by decide)) (g := (mkF m 117 #[iv i0, iv i1, iv i2, iv (i0 &&& (3 : Int32)), .val (.double (FP.i2d i1)), .second, .val (.double (FP.dmul (FP.i2d i2) (4156822456062967808 : UInt64))), .second, iv (1 : Int32), .unset, .unset, .unset] [(.double (FP.dmul (FP.i2d i2) (4156822456062967808 : UInt64))), (.double (FP.i2d i1)), (.ref b112), (.ref b112)])) rfl (by rw [hml]; rfl) (Steps.refl _) (a := b112) (argsL := [(.double (FP.i2d i1)), (.double (FP.dmul (FP.i2d i2) (4156822456062967808 : UInt64)))]) (rest := [(.ref b112)]) (lenOf pd1 rfl) rfl (by show 2 * 0 + _ ≤ _; exact Nat.le_of_eq rfl) (hb hby at_117) (fun _ _ => ⟨rfl, e112, (by decide : 1 + 0 ≤ _), (by decide : 2 + 0 ≤ _)⟩)
          dsimp only [Pt.U, Pt.locs, Pt.cells, Pt.slots] at X117 l117 y117 z117 st117 hQ117
          subst l117 y117 z117
          obtain ⟨rfl, N117, R117_0, R117_1, R117_2, R117_3⟩ := hQ117
          have M117 := Fr.app N0 N117
          have g118 : Goes p e below S0 (T117.setTop (mkF m 120 #[iv i0, iv i1, iv i2, iv (i0 &&& (3 : Int32)), .val (.double (FP.i2d i1)), .second, .val (.double (FP.dmul (FP.i2d i2) (4156822456062967808 : UInt64))), .second, iv (1 : Int32), .unset, .unset, .unset] [(.ref b112)])) := fun t k => g116 t (st117.trans k)
          have g119 : Goes p e below S0 (T117.setTop (mkF m 124 #[iv i0, iv i1, iv i2, iv (i0 &&& (3 : Int32)), .val (.double (FP.i2d i1)), .second, .val (.double (FP.dmul (FP.i2d i2) (4156822456062967808 : UInt64))), .second, iv (1 : Int32), rv b112, .unset, .unset] [(.ref b112)])) := fun t k => g118 t (by
            refine XS.astore X117.here hx rfl (hb hby at_120) rfl rfl (l' := #[iv i0, iv i1, iv i2, iv (i0 &&& (3 : Int32)), .val (.double (FP.i2d i1)), .second, .val (.double (FP.dmul (FP.i2d i2) (4156822456062967808 : UInt64))), .second, iv (1 : Int32), rv b112, .unset, .unset]) rfl ?_
            show Go p e below t T117 m 122 #[iv i0, iv i1, iv i2, iv (i0 &&& (3 : Int32)), .val (.double (FP.i2d i1)), .second, .val (.double (FP.dmul (FP.i2d i2) (4156822456062967808 : UInt64))), .second, iv (1 : Int32), rv b112, .unset, .unset] []
            refine XS.aload X117.here hx rfl (hb hby at_122) rfl rfl ?_
            show Go p e below t T117 m 124 #[iv i0, iv i1, iv i2, iv (i0 &&& (3 : Int32)), .val (.double (FP.i2d i1)), .second, .val (.double (FP.dmul (FP.i2d i2) (4156822456062967808 : UInt64))), .second, iv (1 : Int32), rv b112, .unset, .unset] [(.ref b112)]
            exact k)
          obtain ⟨cq120, kq120, q120a, q120b, q120c⟩ := isOf hZ rfl R117_1
          obtain ⟨_, _, ⟨T120, L120, k120, n120⟩, -, X120, ⟨Lc120, hQ120, l120, y120, z120⟩, st120⟩ := X117.virtualBack hx (y := (⟨"com/example/aristotle/aristotle/DoubleDouble", "isPositive", "()Z"⟩ : MethodName)) (z := (⟨"com/example/aristotle/aristotle/DoubleDouble", "isPositive", "()Z"⟩ : MethodName)) hown (mvT hZ (hw _ (List.mem_of_getElem? (i := 19) rfl))) (mvT hZ (hw _ (List.mem_of_getElem? (i := 20) rfl))) (notFace_of_selects (args := #[]) (mvT hZ (hw _ (List.mem_of_getElem? (i := 22) rfl)))) (mvT hZ (hw _ (List.mem_of_getElem? (i := 22) rfl))) (mvT hZ (hw _ (List.mem_of_getElem? (i := 21) rfl))) (by decide) (backOf (W := 0) (rm_pos l Z a0 hw [] b112 (FP.i2d i1) T117.heap n0 (Nat.le_trans Z0 (Nat.le_trans (Nat.le_trans (Nat.le_refl _) E112.1) R117_0.1)) R117_2) hZ (hw _ (List.mem_of_getElem? (i := 23) rfl)) (hw _ (List.mem_of_getElem? (i := 3) rfl)) (by decide) (by decide)) q120a q120c (g := (mkF m 124 #[iv i0, iv i1, iv i2, iv (i0 &&& (3 : Int32)), .val (.double (FP.i2d i1)), .second, .val (.double (FP.dmul (FP.i2d i2) (4156822456062967808 : UInt64))), .second, iv (1 : Int32), rv b112, .unset, .unset] [(.ref b112)])) rfl (by rw [hml]; rfl) (Steps.refl _) (argsL := []) (rest := []) (lenOf pd2 rfl) rfl (by show 2 * 0 + _ ≤ _; exact Nat.le_of_eq rfl) (hb hby at_124) (fun _ _ => ⟨rfl, rfl, (by decide : 1 + 0 ≤ _), (by decide : 2 + 0 ≤ _)⟩)
          dsimp only [Pt.U, Pt.locs, Pt.cells, Pt.slots] at X120 l120 y120 z120 st120 hQ120
          subst l120 y120 z120
          obtain ⟨rfl, N120, e120⟩ := hQ120
          have M120 := Fr.app M117 N120
          have g121 : Goes p e below S0 (T120.setTop (mkF m 127 #[iv i0, iv i1, iv i2, iv (i0 &&& (3 : Int32)), .val (.double (FP.i2d i1)), .second, .val (.double (FP.dmul (FP.i2d i2) (4156822456062967808 : UInt64))), .second, iv (1 : Int32), rv b112, .unset, .unset] [(.int (f_pos  (FP.i2d i1)))])) := fun t k => g119 t (st120.trans k)
          have g122 : Goes p e below S0 (T120.setTop (mkF m 137 #[iv i0, iv i1, iv i2, iv (i0 &&& (3 : Int32)), .val (.double (FP.i2d i1)), .second, .val (.double (FP.dmul (FP.i2d i2) (4156822456062967808 : UInt64))), .second, iv (1 : Int32), rv b112, .unset, .unset] [(.int (1 : Int32))])) := fun t k => g121 t (by
            refine XS.iload X120.here hx rfl (hb hby at_127) rfl ?_
            show Go p e below t T120 m 129 #[iv i0, iv i1, iv i2, iv (i0 &&& (3 : Int32)), .val (.double (FP.i2d i1)), .second, .val (.double (FP.dmul (FP.i2d i2) (4156822456062967808 : UInt64))), .second, iv (1 : Int32), rv b112, .unset, .unset] [(.int (1 : Int32)), (.int (f_pos  (FP.i2d i1)))]
            refine XS.icmpNo X120.here hx rfl (hb hby at_129) rfl (XT.ii_ne_f (own_p1 h110)) ?_
            show Go p e below t T120 m 132 #[iv i0, iv i1, iv i2, iv (i0 &&& (3 : Int32)), .val (.double (FP.i2d i1)), .second, .val (.double (FP.dmul (FP.i2d i2) (4156822456062967808 : UInt64))), .second, iv (1 : Int32), rv b112, .unset, .unset] []
            refine XT.iconstV X120.here hx rfl (1 : Int32) (hb hby at_132) (by decide) ?_
            show Go p e below t T120 m 133 #[iv i0, iv i1, iv i2, iv (i0 &&& (3 : Int32)), .val (.double (FP.i2d i1)), .second, .val (.double (FP.dmul (FP.i2d i2) (4156822456062967808 : UInt64))), .second, iv (1 : Int32), rv b112, .unset, .unset] [(.int (1 : Int32))]
            refine XS.goto X120.here hx rfl (pc0 := 133) (pc' := 137) rfl (hb hby at_133) (by decide) (by decide) ?_
            show Go p e below t T120 m 137 #[iv i0, iv i1, iv i2, iv (i0 &&& (3 : Int32)), .val (.double (FP.i2d i1)), .second, .val (.double (FP.dmul (FP.i2d i2) (4156822456062967808 : UInt64))), .second, iv (1 : Int32), rv b112, .unset, .unset] [(.int (1 : Int32))]
            exact k)
          obtain ⟨fs, hr, hrun, hended, hW, hsame⟩ := X120.leave (v := some (.int (1 : Int32))) (fun h => by rw [Bd.returns] at h; cases h)
          refine ⟨_, _, g122 _ (retN X120 hx (t := .boolean) Bd.returns (by simp) (hb hby at_137) hr), hrun, hended, _, _, rfl, ?_, ⟨_, rfl⟩, hW, hsame.mono (by decide) (by decide)⟩
          show Q_law Z i0 i1 i2 sa h0 n0 _ T120.heap _
          rw [e120]
          exact ⟨by unfold f_law; rw [if_neg h24, if_pos h80, if_neg h82, if_pos h110], M120⟩
        · skip
          have g123 : Goes p e below S0 (s₁.setTop (mkF m 109 #[iv i0, iv i1, iv i2, iv (i0 &&& (3 : Int32)), .val (.double (FP.i2d i1)), .second, .val (.double (FP.dmul (FP.i2d i2) (4156822456062967808 : UInt64))), .second, iv (0 : Int32), .unset, .unset, .unset] [])) := fun t k => g109 t (by
            refine XS.ifYes X0.here hx rfl (pc0 := 34) (pc' := 41) rfl (hb hby at_34) rfl (XT.i0_le_t h110) (by decide) (by decide) ?_
            show Go p e below t s₁ m 41 #[iv i0, iv i1, iv i2, iv (i0 &&& (3 : Int32)), .val (.double (FP.i2d i1)), .second, .val (.double (FP.dmul (FP.i2d i2) (4156822456062967808 : UInt64))), .second, .unset, .unset, .unset, .unset] []
            refine XT.iconstV X0.here hx rfl (0 : Int32) (hb hby at_41) (by decide) ?_
            show Go p e below t s₁ m 42 #[iv i0, iv i1, iv i2, iv (i0 &&& (3 : Int32)), .val (.double (FP.i2d i1)), .second, .val (.double (FP.dmul (FP.i2d i2) (4156822456062967808 : UInt64))), .second, .unset, .unset, .unset, .unset] [(.int (0 : Int32))]
            refine XS.istore X0.here hx rfl (hb hby at_42) rfl (l' := #[iv i0, iv i1, iv i2, iv (i0 &&& (3 : Int32)), .val (.double (FP.i2d i1)), .second, .val (.double (FP.dmul (FP.i2d i2) (4156822456062967808 : UInt64))), .second, iv (0 : Int32), .unset, .unset, .unset]) rfl ?_
            show Go p e below t s₁ m 44 #[iv i0, iv i1, iv i2, iv (i0 &&& (3 : Int32)), .val (.double (FP.i2d i1)), .second, .val (.double (FP.dmul (FP.i2d i2) (4156822456062967808 : UInt64))), .second, iv (0 : Int32), .unset, .unset, .unset] []
            refine XS.goto X0.here hx rfl (pc0 := 44) (pc' := 109) rfl (hb hby at_44) (by decide) (by decide) ?_
            show Go p e below t s₁ m 109 #[iv i0, iv i1, iv i2, iv (i0 &&& (3 : Int32)), .val (.double (FP.i2d i1)), .second, .val (.double (FP.dmul (FP.i2d i2) (4156822456062967808 : UInt64))), .second, iv (0 : Int32), .unset, .unset, .unset] []
            exact k)
          obtain ⟨T124, h124, X124, e124, E124, A124, D124, -, st124⟩ := newO X0 hx hZ hown (hw _ (List.mem_of_getElem? (i := 1) rfl)) (hw _ (List.mem_of_getElem? (i := 2) rfl)) (hw _ (List.mem_of_getElem? (i := 3) rfl)) e0 (g := (mkF m 109 #[iv i0, iv i1, iv i2, iv (i0 &&& (3 : Int32)), .val (.double (FP.i2d i1)), .second, .val (.double (FP.dmul (FP.i2d i2) (4156822456062967808 : UInt64))), .second, iv (0 : Int32), .unset, .unset, .unset] [])) rfl (hb hby at_109) (by decide) (by decide)
          obtain ⟨b124, gb124⟩ : ∃ z, z = h0.size := ⟨_, rfl⟩
          have sz124 : h0.size ≤ b124 := Nat.le_trans (Nat.le_refl _) (Nat.le_of_eq gb124.symm)
          have ng124 : n0 ≤ b124 := Nat.le_trans Z0 sz124
          rw [← gb124] at A124 D124 st124
          have F124_125 : Fld Z h124 b124 "com/example/aristotle/aristotle/DoubleDouble" "high" "D" (.double (0 : UInt64)) := D124 (Or.inr (hw _ (List.mem_of_getElem? (i := 16) rfl))) (ty := .double) (by decide)
          have F124_126 : Fld Z h124 b124 "com/example/aristotle/aristotle/DoubleDouble" "low" "D" (.double (0 : UInt64)) := D124 (Or.inr (hw _ (List.mem_of_getElem? (i := 18) rfl))) (ty := .double) (by decide)
          have g127 : Goes p e below S0 (T124.setTop (mkF m 112 #[iv i0, iv i1, iv i2, iv (i0 &&& (3 : Int32)), .val (.double (FP.i2d i1)), .second, .val (.double (FP.dmul (FP.i2d i2) (4156822456062967808 : UInt64))), .second, iv (0 : Int32), .unset, .unset, .unset] [(.ref b124)])) := fun t k => g123 t (st124 t k)
          have g128 : Goes p e below S0 (T124.setTop (mkF m 117 #[iv i0, iv i1, iv i2, iv (i0 &&& (3 : Int32)), .val (.double (FP.i2d i1)), .second, .val (.double (FP.dmul (FP.i2d i2) (4156822456062967808 : UInt64))), .second, iv (0 : Int32), .unset, .unset, .unset] [(.double (FP.dmul (FP.i2d i2) (4156822456062967808 : UInt64))), (.double (FP.i2d i1)), (.ref b124), (.ref b124)])) := fun t k => g127 t (by
            refine XS.dup X124.here hx rfl (hb hby at_112) rfl rfl ?_
            show Go p e below t T124 m 113 #[iv i0, iv i1, iv i2, iv (i0 &&& (3 : Int32)), .val (.double (FP.i2d i1)), .second, .val (.double (FP.dmul (FP.i2d i2) (4156822456062967808 : UInt64))), .second, iv (0 : Int32), .unset, .unset, .unset] [(.ref b124), (.ref b124)]
            refine XS.dload X124.here hx rfl (hb hby at_113) rfl ?_
            show Go p e below t T124 m 115 #[iv i0, iv i1, iv i2, iv (i0 &&& (3 : Int32)), .val (.double (FP.i2d i1)), .second, .val (.double (FP.dmul (FP.i2d i2) (4156822456062967808 : UInt64))), .second, iv (0 : Int32), .unset, .unset, .unset] [(.double (FP.i2d i1)), (.ref b124), (.ref b124)]
            refine XS.dload X124.here hx rfl (hb hby at_115) rfl ?_
            show Go p e below t T124 m 117 #[iv i0, iv i1, iv i2, iv (i0 &&& (3 : Int32)), .val (.double (FP.i2d i1)), .second, .val (.double (FP.dmul (FP.i2d i2) (4156822456062967808 : UInt64))), .second, iv (0 : Int32), .unset, .unset, .unset] [(.double (FP.dmul (FP.i2d i2) (4156822456062967808 : UInt64))), (.double (FP.i2d i1)), (.ref b124), (.ref b124)]
            exact k)
          obtain ⟨_, _, ⟨T129, L129, k129, n129⟩, -, X129, ⟨Lc129, hQ129, l129, y129, z129⟩, st129⟩ := X124.specialBack hx (y := (⟨"com/example/aristotle/aristotle/DoubleDouble", "<init>", "(DD)V"⟩ : MethodName)) rfl hown (mvT hZ (hw _ (List.mem_of_getElem? (i := 4) rfl))) (mvT hZ (hw _ (List.mem_of_getElem? (i := 5) rfl))) (mvT hZ (hw _ (List.mem_of_getElem? (i := 6) rfl))) (by decide) (backOf (W := 1) (rm_ini l Z a0 hw [] b124 (FP.i2d i1) (FP.dmul (FP.i2d i2) (4156822456062967808 : UInt64))  h124 n0 (Nat.le_trans Z0 (Nat.le_trans (Nat.le_refl _) E124.1)) A124 F124_125 F124_126 ng124) hZ (hw _ (List.mem_of_getElem? (i := 6) rfl)) (hw _ (List.mem_of_getElem? (i := 3) rfl)) (by decide) (by decide)) (g := (mkF m 117 #[iv i0, iv i1, iv i2, iv (i0 &&& (3 : Int32)), .val (.double (FP.i2d i1)), .second, .val (.double (FP.dmul (FP.i2d i2) (4156822456062967808 : UInt64))), .second, iv (0 : Int32), .unset, .unset, .unset] [(.double (FP.dmul (FP.i2d i2) (4156822456062967808 : UInt64))), (.double (FP.i2d i1)), (.ref b124), (.ref b124)])) rfl (by rw [hml]; rfl) (Steps.refl _) (a := b124) (argsL := [(.double (FP.i2d i1)), (.double (FP.dmul (FP.i2d i2) (4156822456062967808 : UInt64)))]) (rest := [(.ref b124)]) (lenOf pd1 rfl) rfl (by show 2 * 0 + _ ≤ _; exact Nat.le_of_eq rfl) (hb hby at_117) (fun _ _ => ⟨rfl, e124, (by decide : 1 + 0 ≤ _), (by decide : 2 + 0 ≤ _)⟩)
          dsimp only [Pt.U, Pt.locs, Pt.cells, Pt.slots] at X129 l129 y129 z129 st129 hQ129
          subst l129 y129 z129
          obtain ⟨rfl, N129, R129_0, R129_1, R129_2, R129_3⟩ := hQ129
          have M129 := Fr.app N0 N129
          have g130 : Goes p e below S0 (T129.setTop (mkF m 120 #[iv i0, iv i1, iv i2, iv (i0 &&& (3 : Int32)), .val (.double (FP.i2d i1)), .second, .val (.double (FP.dmul (FP.i2d i2) (4156822456062967808 : UInt64))), .second, iv (0 : Int32), .unset, .unset, .unset] [(.ref b124)])) := fun t k => g128 t (st129.trans k)
          have g131 : Goes p e below S0 (T129.setTop (mkF m 124 #[iv i0, iv i1, iv i2, iv (i0 &&& (3 : Int32)), .val (.double (FP.i2d i1)), .second, .val (.double (FP.dmul (FP.i2d i2) (4156822456062967808 : UInt64))), .second, iv (0 : Int32), rv b124, .unset, .unset] [(.ref b124)])) := fun t k => g130 t (by
            refine XS.astore X129.here hx rfl (hb hby at_120) rfl rfl (l' := #[iv i0, iv i1, iv i2, iv (i0 &&& (3 : Int32)), .val (.double (FP.i2d i1)), .second, .val (.double (FP.dmul (FP.i2d i2) (4156822456062967808 : UInt64))), .second, iv (0 : Int32), rv b124, .unset, .unset]) rfl ?_
            show Go p e below t T129 m 122 #[iv i0, iv i1, iv i2, iv (i0 &&& (3 : Int32)), .val (.double (FP.i2d i1)), .second, .val (.double (FP.dmul (FP.i2d i2) (4156822456062967808 : UInt64))), .second, iv (0 : Int32), rv b124, .unset, .unset] []
            refine XS.aload X129.here hx rfl (hb hby at_122) rfl rfl ?_
            show Go p e below t T129 m 124 #[iv i0, iv i1, iv i2, iv (i0 &&& (3 : Int32)), .val (.double (FP.i2d i1)), .second, .val (.double (FP.dmul (FP.i2d i2) (4156822456062967808 : UInt64))), .second, iv (0 : Int32), rv b124, .unset, .unset] [(.ref b124)]
            exact k)
          obtain ⟨cq132, kq132, q132a, q132b, q132c⟩ := isOf hZ rfl R129_1
          obtain ⟨_, _, ⟨T132, L132, k132, n132⟩, -, X132, ⟨Lc132, hQ132, l132, y132, z132⟩, st132⟩ := X129.virtualBack hx (y := (⟨"com/example/aristotle/aristotle/DoubleDouble", "isPositive", "()Z"⟩ : MethodName)) (z := (⟨"com/example/aristotle/aristotle/DoubleDouble", "isPositive", "()Z"⟩ : MethodName)) hown (mvT hZ (hw _ (List.mem_of_getElem? (i := 19) rfl))) (mvT hZ (hw _ (List.mem_of_getElem? (i := 20) rfl))) (notFace_of_selects (args := #[]) (mvT hZ (hw _ (List.mem_of_getElem? (i := 22) rfl)))) (mvT hZ (hw _ (List.mem_of_getElem? (i := 22) rfl))) (mvT hZ (hw _ (List.mem_of_getElem? (i := 21) rfl))) (by decide) (backOf (W := 0) (rm_pos l Z a0 hw [] b124 (FP.i2d i1) T129.heap n0 (Nat.le_trans Z0 (Nat.le_trans (Nat.le_trans (Nat.le_refl _) E124.1) R129_0.1)) R129_2) hZ (hw _ (List.mem_of_getElem? (i := 23) rfl)) (hw _ (List.mem_of_getElem? (i := 3) rfl)) (by decide) (by decide)) q132a q132c (g := (mkF m 124 #[iv i0, iv i1, iv i2, iv (i0 &&& (3 : Int32)), .val (.double (FP.i2d i1)), .second, .val (.double (FP.dmul (FP.i2d i2) (4156822456062967808 : UInt64))), .second, iv (0 : Int32), rv b124, .unset, .unset] [(.ref b124)])) rfl (by rw [hml]; rfl) (Steps.refl _) (argsL := []) (rest := []) (lenOf pd2 rfl) rfl (by show 2 * 0 + _ ≤ _; exact Nat.le_of_eq rfl) (hb hby at_124) (fun _ _ => ⟨rfl, rfl, (by decide : 1 + 0 ≤ _), (by decide : 2 + 0 ≤ _)⟩)
          dsimp only [Pt.U, Pt.locs, Pt.cells, Pt.slots] at X132 l132 y132 z132 st132 hQ132
          subst l132 y132 z132
          obtain ⟨rfl, N132, e132⟩ := hQ132
          have M132 := Fr.app M129 N132
          have g133 : Goes p e below S0 (T132.setTop (mkF m 127 #[iv i0, iv i1, iv i2, iv (i0 &&& (3 : Int32)), .val (.double (FP.i2d i1)), .second, .val (.double (FP.dmul (FP.i2d i2) (4156822456062967808 : UInt64))), .second, iv (0 : Int32), rv b124, .unset, .unset] [(.int (f_pos  (FP.i2d i1)))])) := fun t k => g131 t (st132.trans k)
          have g134 : Goes p e below S0 (T132.setTop (mkF m 137 #[iv i0, iv i1, iv i2, iv (i0 &&& (3 : Int32)), .val (.double (FP.i2d i1)), .second, .val (.double (FP.dmul (FP.i2d i2) (4156822456062967808 : UInt64))), .second, iv (0 : Int32), rv b124, .unset, .unset] [(.int (1 : Int32))])) := fun t k => g133 t (by
            refine XS.iload X132.here hx rfl (hb hby at_127) rfl ?_
            show Go p e below t T132 m 129 #[iv i0, iv i1, iv i2, iv (i0 &&& (3 : Int32)), .val (.double (FP.i2d i1)), .second, .val (.double (FP.dmul (FP.i2d i2) (4156822456062967808 : UInt64))), .second, iv (0 : Int32), rv b124, .unset, .unset] [(.int (0 : Int32)), (.int (f_pos  (FP.i2d i1)))]
            refine XS.icmpNo X132.here hx rfl (hb hby at_129) rfl (XT.ii_ne_f (own_p0 h110)) ?_
            show Go p e below t T132 m 132 #[iv i0, iv i1, iv i2, iv (i0 &&& (3 : Int32)), .val (.double (FP.i2d i1)), .second, .val (.double (FP.dmul (FP.i2d i2) (4156822456062967808 : UInt64))), .second, iv (0 : Int32), rv b124, .unset, .unset] []
            refine XT.iconstV X132.here hx rfl (1 : Int32) (hb hby at_132) (by decide) ?_
            show Go p e below t T132 m 133 #[iv i0, iv i1, iv i2, iv (i0 &&& (3 : Int32)), .val (.double (FP.i2d i1)), .second, .val (.double (FP.dmul (FP.i2d i2) (4156822456062967808 : UInt64))), .second, iv (0 : Int32), rv b124, .unset, .unset] [(.int (1 : Int32))]
            refine XS.goto X132.here hx rfl (pc0 := 133) (pc' := 137) rfl (hb hby at_133) (by decide) (by decide) ?_
            show Go p e below t T132 m 137 #[iv i0, iv i1, iv i2, iv (i0 &&& (3 : Int32)), .val (.double (FP.i2d i1)), .second, .val (.double (FP.dmul (FP.i2d i2) (4156822456062967808 : UInt64))), .second, iv (0 : Int32), rv b124, .unset, .unset] [(.int (1 : Int32))]
            exact k)
          obtain ⟨fs, hr, hrun, hended, hW, hsame⟩ := X132.leave (v := some (.int (1 : Int32))) (fun h => by rw [Bd.returns] at h; cases h)
          refine ⟨_, _, g134 _ (retN X132 hx (t := .boolean) Bd.returns (by simp) (hb hby at_137) hr), hrun, hended, _, _, rfl, ?_, ⟨_, rfl⟩, hW, hsame.mono (by decide) (by decide)⟩
          show Q_law Z i0 i1 i2 sa h0 n0 _ T132.heap _
          rw [e132]
          exact ⟨by unfold f_law; rw [if_neg h24, if_pos h80, if_neg h82, if_neg h110], M132⟩
    · skip
      have g135 : Goes p e below S0 (s₁.setTop (mkF m 49 #[iv i0, iv i1, iv i2, iv (i0 &&& (3 : Int32)), .unset, .unset, .unset, .unset, .unset, .unset, .unset, .unset] [(.int (2 : Int32)), (.int (i0 &&& (3 : Int32)))])) := fun t k => g79 t (by
        refine XS.icmpYes X0.here hx rfl (pc0 := 10) (pc' := 47) rfl (hb hby at_10) rfl (XT.ii_ne_t h80) (by decide) (by decide) ?_
        show Go p e below t s₁ m 47 #[iv i0, iv i1, iv i2, iv (i0 &&& (3 : Int32)), .unset, .unset, .unset, .unset, .unset, .unset, .unset, .unset] []
        refine XS.iloadN X0.here hx rfl (hb hby at_47) rfl ?_
        show Go p e below t s₁ m 48 #[iv i0, iv i1, iv i2, iv (i0 &&& (3 : Int32)), .unset, .unset, .unset, .unset, .unset, .unset, .unset, .unset] [(.int (i0 &&& (3 : Int32)))]
        refine XT.iconstV X0.here hx rfl (2 : Int32) (hb hby at_48) (by decide) ?_
        show Go p e below t s₁ m 49 #[iv i0, iv i1, iv i2, iv (i0 &&& (3 : Int32)), .unset, .unset, .unset, .unset, .unset, .unset, .unset, .unset] [(.int (2 : Int32)), (.int (i0 &&& (3 : Int32)))]
        exact k)
      by_cases h136 : (i0 &&& (3 : Int32)) = (2 : Int32)
      · skip
        have g137 : Goes p e below S0 (s₁.setTop (mkF m 109 #[iv i0, iv i1, iv i2, iv (i0 &&& (3 : Int32)), .val (.double (9223372036854775808 : UInt64)), .second, .val (.double (0 : UInt64)), .second, iv (0 : Int32), .unset, .unset, .unset] [])) := fun t k => g135 t (by
          refine XS.icmpNo X0.here hx rfl (hb hby at_49) rfl (XT.ii_ne_f h136) ?_
          show Go p e below t s₁ m 52 #[iv i0, iv i1, iv i2, iv (i0 &&& (3 : Int32)), .unset, .unset, .unset, .unset, .unset, .unset, .unset, .unset] []
          refine X0.ldc2DoubleC hx hown (mvT hZ (hw _ (List.mem_of_getElem? (i := 31) rfl))) (g := (mkF m 52 #[iv i0, iv i1, iv i2, iv (i0 &&& (3 : Int32)), .unset, .unset, .unset, .unset, .unset, .unset, .unset, .unset] [])) rfl (hb hby at_52) _ ?_
          show Go p e below t s₁ m 55 #[iv i0, iv i1, iv i2, iv (i0 &&& (3 : Int32)), .unset, .unset, .unset, .unset, .unset, .unset, .unset, .unset] [(.double (9223372036854775808 : UInt64))]
          refine XS.dstore X0.here hx rfl (hb hby at_55) rfl (l' := #[iv i0, iv i1, iv i2, iv (i0 &&& (3 : Int32)), .val (.double (9223372036854775808 : UInt64)), .second, .unset, .unset, .unset, .unset, .unset, .unset]) rfl ?_
          show Go p e below t s₁ m 57 #[iv i0, iv i1, iv i2, iv (i0 &&& (3 : Int32)), .val (.double (9223372036854775808 : UInt64)), .second, .unset, .unset, .unset, .unset, .unset, .unset] []
          refine XS.dconst0 X0.here hx rfl (hb hby at_57) (v := (0 : UInt64)) rfl ?_
          show Go p e below t s₁ m 58 #[iv i0, iv i1, iv i2, iv (i0 &&& (3 : Int32)), .val (.double (9223372036854775808 : UInt64)), .second, .unset, .unset, .unset, .unset, .unset, .unset] [(.double (0 : UInt64))]
          refine XS.dstore X0.here hx rfl (hb hby at_58) rfl (l' := #[iv i0, iv i1, iv i2, iv (i0 &&& (3 : Int32)), .val (.double (9223372036854775808 : UInt64)), .second, .val (.double (0 : UInt64)), .second, .unset, .unset, .unset, .unset]) rfl ?_
          show Go p e below t s₁ m 60 #[iv i0, iv i1, iv i2, iv (i0 &&& (3 : Int32)), .val (.double (9223372036854775808 : UInt64)), .second, .val (.double (0 : UInt64)), .second, .unset, .unset, .unset, .unset] []
          refine XT.iconstV X0.here hx rfl (0 : Int32) (hb hby at_60) (by decide) ?_
          show Go p e below t s₁ m 61 #[iv i0, iv i1, iv i2, iv (i0 &&& (3 : Int32)), .val (.double (9223372036854775808 : UInt64)), .second, .val (.double (0 : UInt64)), .second, .unset, .unset, .unset, .unset] [(.int (0 : Int32))]
          refine XS.istore X0.here hx rfl (hb hby at_61) rfl (l' := #[iv i0, iv i1, iv i2, iv (i0 &&& (3 : Int32)), .val (.double (9223372036854775808 : UInt64)), .second, .val (.double (0 : UInt64)), .second, iv (0 : Int32), .unset, .unset, .unset]) rfl ?_
          show Go p e below t s₁ m 63 #[iv i0, iv i1, iv i2, iv (i0 &&& (3 : Int32)), .val (.double (9223372036854775808 : UInt64)), .second, .val (.double (0 : UInt64)), .second, iv (0 : Int32), .unset, .unset, .unset] []
          refine XS.goto X0.here hx rfl (pc0 := 63) (pc' := 109) rfl (hb hby at_63) (by decide) (by decide) ?_
          show Go p e below t s₁ m 109 #[iv i0, iv i1, iv i2, iv (i0 &&& (3 : Int32)), .val (.double (9223372036854775808 : UInt64)), .second, .val (.double (0 : UInt64)), .second, iv (0 : Int32), .unset, .unset, .unset] []
          exact k)
        obtain ⟨T138, h138, X138, e138, E138, A138, D138, -, st138⟩ := newO X0 hx hZ hown (hw _ (List.mem_of_getElem? (i := 1) rfl)) (hw _ (List.mem_of_getElem? (i := 2) rfl)) (hw _ (List.mem_of_getElem? (i := 3) rfl)) e0 (g := (mkF m 109 #[iv i0, iv i1, iv i2, iv (i0 &&& (3 : Int32)), .val (.double (9223372036854775808 : UInt64)), .second, .val (.double (0 : UInt64)), .second, iv (0 : Int32), .unset, .unset, .unset] [])) rfl (hb hby at_109) (by decide) (by decide)
        obtain ⟨b138, gb138⟩ : ∃ z, z = h0.size := ⟨_, rfl⟩
        have sz138 : h0.size ≤ b138 := Nat.le_trans (Nat.le_refl _) (Nat.le_of_eq gb138.symm)
        have ng138 : n0 ≤ b138 := Nat.le_trans Z0 sz138
        rw [← gb138] at A138 D138 st138
        have F138_139 : Fld Z h138 b138 "com/example/aristotle/aristotle/DoubleDouble" "high" "D" (.double (0 : UInt64)) := D138 (Or.inr (hw _ (List.mem_of_getElem? (i := 16) rfl))) (ty := .double) (by decide)
        have F138_140 : Fld Z h138 b138 "com/example/aristotle/aristotle/DoubleDouble" "low" "D" (.double (0 : UInt64)) := D138 (Or.inr (hw _ (List.mem_of_getElem? (i := 18) rfl))) (ty := .double) (by decide)
        have g141 : Goes p e below S0 (T138.setTop (mkF m 112 #[iv i0, iv i1, iv i2, iv (i0 &&& (3 : Int32)), .val (.double (9223372036854775808 : UInt64)), .second, .val (.double (0 : UInt64)), .second, iv (0 : Int32), .unset, .unset, .unset] [(.ref b138)])) := fun t k => g137 t (st138 t k)
        have g142 : Goes p e below S0 (T138.setTop (mkF m 117 #[iv i0, iv i1, iv i2, iv (i0 &&& (3 : Int32)), .val (.double (9223372036854775808 : UInt64)), .second, .val (.double (0 : UInt64)), .second, iv (0 : Int32), .unset, .unset, .unset] [(.double (0 : UInt64)), (.double (9223372036854775808 : UInt64)), (.ref b138), (.ref b138)])) := fun t k => g141 t (by
          refine XS.dup X138.here hx rfl (hb hby at_112) rfl rfl ?_
          show Go p e below t T138 m 113 #[iv i0, iv i1, iv i2, iv (i0 &&& (3 : Int32)), .val (.double (9223372036854775808 : UInt64)), .second, .val (.double (0 : UInt64)), .second, iv (0 : Int32), .unset, .unset, .unset] [(.ref b138), (.ref b138)]
          refine XS.dload X138.here hx rfl (hb hby at_113) rfl ?_
          show Go p e below t T138 m 115 #[iv i0, iv i1, iv i2, iv (i0 &&& (3 : Int32)), .val (.double (9223372036854775808 : UInt64)), .second, .val (.double (0 : UInt64)), .second, iv (0 : Int32), .unset, .unset, .unset] [(.double (9223372036854775808 : UInt64)), (.ref b138), (.ref b138)]
          refine XS.dload X138.here hx rfl (hb hby at_115) rfl ?_
          show Go p e below t T138 m 117 #[iv i0, iv i1, iv i2, iv (i0 &&& (3 : Int32)), .val (.double (9223372036854775808 : UInt64)), .second, .val (.double (0 : UInt64)), .second, iv (0 : Int32), .unset, .unset, .unset] [(.double (0 : UInt64)), (.double (9223372036854775808 : UInt64)), (.ref b138), (.ref b138)]
          exact k)
        obtain ⟨_, _, ⟨T143, L143, k143, n143⟩, -, X143, ⟨Lc143, hQ143, l143, y143, z143⟩, st143⟩ := X138.specialBack hx (y := (⟨"com/example/aristotle/aristotle/DoubleDouble", "<init>", "(DD)V"⟩ : MethodName)) rfl hown (mvT hZ (hw _ (List.mem_of_getElem? (i := 4) rfl))) (mvT hZ (hw _ (List.mem_of_getElem? (i := 5) rfl))) (mvT hZ (hw _ (List.mem_of_getElem? (i := 6) rfl))) (by decide) (backOf (W := 1) (rm_ini l Z a0 hw [] b138 (9223372036854775808 : UInt64) (0 : UInt64)  h138 n0 (Nat.le_trans Z0 (Nat.le_trans (Nat.le_refl _) E138.1)) A138 F138_139 F138_140 ng138) hZ (hw _ (List.mem_of_getElem? (i := 6) rfl)) (hw _ (List.mem_of_getElem? (i := 3) rfl)) (by decide) (by decide)) (g := (mkF m 117 #[iv i0, iv i1, iv i2, iv (i0 &&& (3 : Int32)), .val (.double (9223372036854775808 : UInt64)), .second, .val (.double (0 : UInt64)), .second, iv (0 : Int32), .unset, .unset, .unset] [(.double (0 : UInt64)), (.double (9223372036854775808 : UInt64)), (.ref b138), (.ref b138)])) rfl (by rw [hml]; rfl) (Steps.refl _) (a := b138) (argsL := [(.double (9223372036854775808 : UInt64)), (.double (0 : UInt64))]) (rest := [(.ref b138)]) (lenOf pd1 rfl) rfl (by show 2 * 0 + _ ≤ _; exact Nat.le_of_eq rfl) (hb hby at_117) (fun _ _ => ⟨rfl, e138, (by decide : 1 + 0 ≤ _), (by decide : 2 + 0 ≤ _)⟩)
        dsimp only [Pt.U, Pt.locs, Pt.cells, Pt.slots] at X143 l143 y143 z143 st143 hQ143
        subst l143 y143 z143
        obtain ⟨rfl, N143, R143_0, R143_1, R143_2, R143_3⟩ := hQ143
        have M143 := Fr.app N0 N143
        have g144 : Goes p e below S0 (T143.setTop (mkF m 120 #[iv i0, iv i1, iv i2, iv (i0 &&& (3 : Int32)), .val (.double (9223372036854775808 : UInt64)), .second, .val (.double (0 : UInt64)), .second, iv (0 : Int32), .unset, .unset, .unset] [(.ref b138)])) := fun t k => g142 t (st143.trans k)
        have g145 : Goes p e below S0 (T143.setTop (mkF m 124 #[iv i0, iv i1, iv i2, iv (i0 &&& (3 : Int32)), .val (.double (9223372036854775808 : UInt64)), .second, .val (.double (0 : UInt64)), .second, iv (0 : Int32), rv b138, .unset, .unset] [(.ref b138)])) := fun t k => g144 t (by
          refine XS.astore X143.here hx rfl (hb hby at_120) rfl rfl (l' := #[iv i0, iv i1, iv i2, iv (i0 &&& (3 : Int32)), .val (.double (9223372036854775808 : UInt64)), .second, .val (.double (0 : UInt64)), .second, iv (0 : Int32), rv b138, .unset, .unset]) rfl ?_
          show Go p e below t T143 m 122 #[iv i0, iv i1, iv i2, iv (i0 &&& (3 : Int32)), .val (.double (9223372036854775808 : UInt64)), .second, .val (.double (0 : UInt64)), .second, iv (0 : Int32), rv b138, .unset, .unset] []
          refine XS.aload X143.here hx rfl (hb hby at_122) rfl rfl ?_
          show Go p e below t T143 m 124 #[iv i0, iv i1, iv i2, iv (i0 &&& (3 : Int32)), .val (.double (9223372036854775808 : UInt64)), .second, .val (.double (0 : UInt64)), .second, iv (0 : Int32), rv b138, .unset, .unset] [(.ref b138)]
          exact k)
        obtain ⟨cq146, kq146, q146a, q146b, q146c⟩ := isOf hZ rfl R143_1
        obtain ⟨_, _, ⟨T146, L146, k146, n146⟩, -, X146, ⟨Lc146, hQ146, l146, y146, z146⟩, st146⟩ := X143.virtualBack hx (y := (⟨"com/example/aristotle/aristotle/DoubleDouble", "isPositive", "()Z"⟩ : MethodName)) (z := (⟨"com/example/aristotle/aristotle/DoubleDouble", "isPositive", "()Z"⟩ : MethodName)) hown (mvT hZ (hw _ (List.mem_of_getElem? (i := 19) rfl))) (mvT hZ (hw _ (List.mem_of_getElem? (i := 20) rfl))) (notFace_of_selects (args := #[]) (mvT hZ (hw _ (List.mem_of_getElem? (i := 22) rfl)))) (mvT hZ (hw _ (List.mem_of_getElem? (i := 22) rfl))) (mvT hZ (hw _ (List.mem_of_getElem? (i := 21) rfl))) (by decide) (backOf (W := 0) (rm_pos l Z a0 hw [] b138 (9223372036854775808 : UInt64) T143.heap n0 (Nat.le_trans Z0 (Nat.le_trans (Nat.le_trans (Nat.le_refl _) E138.1) R143_0.1)) R143_2) hZ (hw _ (List.mem_of_getElem? (i := 23) rfl)) (hw _ (List.mem_of_getElem? (i := 3) rfl)) (by decide) (by decide)) q146a q146c (g := (mkF m 124 #[iv i0, iv i1, iv i2, iv (i0 &&& (3 : Int32)), .val (.double (9223372036854775808 : UInt64)), .second, .val (.double (0 : UInt64)), .second, iv (0 : Int32), rv b138, .unset, .unset] [(.ref b138)])) rfl (by rw [hml]; rfl) (Steps.refl _) (argsL := []) (rest := []) (lenOf pd2 rfl) rfl (by show 2 * 0 + _ ≤ _; exact Nat.le_of_eq rfl) (hb hby at_124) (fun _ _ => ⟨rfl, rfl, (by decide : 1 + 0 ≤ _), (by decide : 2 + 0 ≤ _)⟩)
        dsimp only [Pt.U, Pt.locs, Pt.cells, Pt.slots] at X146 l146 y146 z146 st146 hQ146
        subst l146 y146 z146
        obtain ⟨rfl, N146, e146⟩ := hQ146
        have M146 := Fr.app M143 N146
        have g147 : Goes p e below S0 (T146.setTop (mkF m 127 #[iv i0, iv i1, iv i2, iv (i0 &&& (3 : Int32)), .val (.double (9223372036854775808 : UInt64)), .second, .val (.double (0 : UInt64)), .second, iv (0 : Int32), rv b138, .unset, .unset] [(.int (f_pos  (9223372036854775808 : UInt64)))])) := fun t k => g145 t (st146.trans k)
        have g148 : Goes p e below S0 (T146.setTop (mkF m 137 #[iv i0, iv i1, iv i2, iv (i0 &&& (3 : Int32)), .val (.double (9223372036854775808 : UInt64)), .second, .val (.double (0 : UInt64)), .second, iv (0 : Int32), rv b138, .unset, .unset] [(.int (1 : Int32))])) := fun t k => g147 t (by
          refine XS.iload X146.here hx rfl (hb hby at_127) rfl ?_
          show Go p e below t T146 m 129 #[iv i0, iv i1, iv i2, iv (i0 &&& (3 : Int32)), .val (.double (9223372036854775808 : UInt64)), .second, .val (.double (0 : UInt64)), .second, iv (0 : Int32), rv b138, .unset, .unset] [(.int (0 : Int32)), (.int (f_pos  (9223372036854775808 : UInt64)))]
          refine XS.icmpNo X146.here hx rfl (hb hby at_129) rfl (XT.ii_ne_f (by decide +kernel)) ?_
          show Go p e below t T146 m 132 #[iv i0, iv i1, iv i2, iv (i0 &&& (3 : Int32)), .val (.double (9223372036854775808 : UInt64)), .second, .val (.double (0 : UInt64)), .second, iv (0 : Int32), rv b138, .unset, .unset] []
          refine XT.iconstV X146.here hx rfl (1 : Int32) (hb hby at_132) (by decide) ?_
          show Go p e below t T146 m 133 #[iv i0, iv i1, iv i2, iv (i0 &&& (3 : Int32)), .val (.double (9223372036854775808 : UInt64)), .second, .val (.double (0 : UInt64)), .second, iv (0 : Int32), rv b138, .unset, .unset] [(.int (1 : Int32))]
          refine XS.goto X146.here hx rfl (pc0 := 133) (pc' := 137) rfl (hb hby at_133) (by decide) (by decide) ?_
          show Go p e below t T146 m 137 #[iv i0, iv i1, iv i2, iv (i0 &&& (3 : Int32)), .val (.double (9223372036854775808 : UInt64)), .second, .val (.double (0 : UInt64)), .second, iv (0 : Int32), rv b138, .unset, .unset] [(.int (1 : Int32))]
          exact k)
        obtain ⟨fs, hr, hrun, hended, hW, hsame⟩ := X146.leave (v := some (.int (1 : Int32))) (fun h => by rw [Bd.returns] at h; cases h)
        refine ⟨_, _, g148 _ (retN X146 hx (t := .boolean) Bd.returns (by simp) (hb hby at_137) hr), hrun, hended, _, _, rfl, ?_, ⟨_, rfl⟩, hW, hsame.mono (by decide) (by decide)⟩
        show Q_law Z i0 i1 i2 sa h0 n0 _ T146.heap _
        rw [e146]
        exact ⟨by unfold f_law; rw [if_neg h24, if_neg h80, if_pos h136], M146⟩
      · skip
        have g149 : Goes p e below S0 (s₁.setTop (mkF m 66 #[iv i0, iv i1, iv i2, iv (i0 &&& (3 : Int32)), .unset, .unset, .unset, .unset, .unset, .unset, .unset, .unset] [])) := fun t k => g135 t (by
          refine XS.icmpYes X0.here hx rfl (pc0 := 49) (pc' := 66) rfl (hb hby at_49) rfl (XT.ii_ne_t h136) (by decide) (by decide) ?_
          show Go p e below t s₁ m 66 #[iv i0, iv i1, iv i2, iv (i0 &&& (3 : Int32)), .unset, .unset, .unset, .unset, .unset, .unset, .unset, .unset] []
          exact k)
        obtain ⟨T150, X150, e150, st150⟩ := getS (host := "") X0 hx hZ hown (hw _ (List.mem_of_getElem? (i := 24) rfl)) Via.refl e0 P0 (g := (mkF m 66 #[iv i0, iv i1, iv i2, iv (i0 &&& (3 : Int32)), .unset, .unset, .unset, .unset, .unset, .unset, .unset, .unset] [])) rfl (hb hby at_66)
        have g151 : Goes p e below S0 (T150.setTop (mkF m 69 #[iv i0, iv i1, iv i2, iv (i0 &&& (3 : Int32)), .unset, .unset, .unset, .unset, .unset, .unset, .unset, .unset] [(.ref sa)])) := fun t k => g149 t (st150 t k)
        obtain ⟨cq152, kq152, q152a, q152b, q152c⟩ := isOf hZ e150 P1
        obtain ⟨_, _, ⟨T152, L152, k152, n152⟩, -, X152, ⟨Lc152, hQ152, l152, y152, z152⟩, st152⟩ := X150.virtualBack hx (y := (⟨"com/example/aristotle/aristotle/DoubleDouble", "high", "()D"⟩ : MethodName)) (z := (⟨"com/example/aristotle/aristotle/DoubleDouble", "high", "()D"⟩ : MethodName)) hown (mvT hZ (hw _ (List.mem_of_getElem? (i := 26) rfl))) (mvT hZ (hw _ (List.mem_of_getElem? (i := 27) rfl))) (notFace_of_selects (args := #[]) (mvT hZ (hw _ (List.mem_of_getElem? (i := 29) rfl)))) (mvT hZ (hw _ (List.mem_of_getElem? (i := 29) rfl))) (mvT hZ (hw _ (List.mem_of_getElem? (i := 28) rfl))) (by decide) (backOf (W := 0) (rm_hi l Z a0 hw [] sa (18442240474082181120 : UInt64) h0 n0 Z0 P2) hZ (hw _ (List.mem_of_getElem? (i := 30) rfl)) (hw _ (List.mem_of_getElem? (i := 3) rfl)) (by decide) (by decide)) q152a q152c (g := (mkF m 69 #[iv i0, iv i1, iv i2, iv (i0 &&& (3 : Int32)), .unset, .unset, .unset, .unset, .unset, .unset, .unset, .unset] [(.ref sa)])) rfl (by rw [hml]; rfl) (Steps.refl _) (argsL := []) (rest := []) (lenOf pd3 rfl) rfl (by show 2 * 0 + _ ≤ _; exact Nat.le_of_eq rfl) (hb hby at_69) (fun _ _ => ⟨rfl, e150, (by decide : 0 + 0 ≤ _), (by decide : 0 + 0 ≤ _)⟩)
        dsimp only [Pt.U, Pt.locs, Pt.cells, Pt.slots] at X152 l152 y152 z152 st152 hQ152
        subst l152 y152 z152
        obtain ⟨rfl, N152, e152⟩ := hQ152
        have M152 := Fr.app N0 N152
        have g153 : Goes p e below S0 (T152.setTop (mkF m 72 #[iv i0, iv i1, iv i2, iv (i0 &&& (3 : Int32)), .unset, .unset, .unset, .unset, .unset, .unset, .unset, .unset] [(.double (f_hi  (18442240474082181120 : UInt64)))])) := fun t k => g151 t (st152.trans k)
        have g154 : Goes p e below S0 (T152.setTop (mkF m 77 #[iv i0, iv i1, iv i2, iv (i0 &&& (3 : Int32)), .unset, .unset, .unset, .unset, .unset, .val (.double (f_hi  (18442240474082181120 : UInt64))), .second, .unset] [(.int (i2 &&& (1 : Int32)))])) := fun t k => g153 t (by
          refine XS.dstore X152.here hx rfl (hb hby at_72) rfl (l' := #[iv i0, iv i1, iv i2, iv (i0 &&& (3 : Int32)), .unset, .unset, .unset, .unset, .unset, .val (.double (f_hi  (18442240474082181120 : UInt64))), .second, .unset]) rfl ?_
          show Go p e below t T152 m 74 #[iv i0, iv i1, iv i2, iv (i0 &&& (3 : Int32)), .unset, .unset, .unset, .unset, .unset, .val (.double (f_hi  (18442240474082181120 : UInt64))), .second, .unset] []
          refine XS.iloadN X152.here hx rfl (hb hby at_74) rfl ?_
          show Go p e below t T152 m 75 #[iv i0, iv i1, iv i2, iv (i0 &&& (3 : Int32)), .unset, .unset, .unset, .unset, .unset, .val (.double (f_hi  (18442240474082181120 : UInt64))), .second, .unset] [(.int i2)]
          refine XT.iconstV X152.here hx rfl (1 : Int32) (hb hby at_75) (by decide) ?_
          show Go p e below t T152 m 76 #[iv i0, iv i1, iv i2, iv (i0 &&& (3 : Int32)), .unset, .unset, .unset, .unset, .unset, .val (.double (f_hi  (18442240474082181120 : UInt64))), .second, .unset] [(.int (1 : Int32)), (.int i2)]
          refine XS.iand X152.here hx rfl (hb hby at_76) rfl ?_
          show Go p e below t T152 m 77 #[iv i0, iv i1, iv i2, iv (i0 &&& (3 : Int32)), .unset, .unset, .unset, .unset, .unset, .val (.double (f_hi  (18442240474082181120 : UInt64))), .second, .unset] [(.int (i2 &&& (1 : Int32)))]
          exact k)
        by_cases h155 : (i2 &&& (1 : Int32)) = 0
        · skip
          have g156 : Goes p e below S0 (T152.setTop (mkF m 109 #[iv i0, iv i1, iv i2, iv (i0 &&& (3 : Int32)), .val (.double (f_hi  (18442240474082181120 : UInt64))), .second, .val (.double (0 : UInt64)), .second, iv (0 : Int32), .val (.double (f_hi  (18442240474082181120 : UInt64))), .second, iv (0 : Int32)] [])) := fun t k => g154 t (by
            refine XS.ifYes X152.here hx rfl (pc0 := 77) (pc' := 84) rfl (hb hby at_77) rfl (XT.i0_eq_t h155) (by decide) (by decide) ?_
            show Go p e below t T152 m 84 #[iv i0, iv i1, iv i2, iv (i0 &&& (3 : Int32)), .unset, .unset, .unset, .unset, .unset, .val (.double (f_hi  (18442240474082181120 : UInt64))), .second, .unset] []
            refine XT.iconstV X152.here hx rfl (0 : Int32) (hb hby at_84) (by decide) ?_
            show Go p e below t T152 m 85 #[iv i0, iv i1, iv i2, iv (i0 &&& (3 : Int32)), .unset, .unset, .unset, .unset, .unset, .val (.double (f_hi  (18442240474082181120 : UInt64))), .second, .unset] [(.int (0 : Int32))]
            refine XS.istore X152.here hx rfl (hb hby at_85) rfl (l' := #[iv i0, iv i1, iv i2, iv (i0 &&& (3 : Int32)), .unset, .unset, .unset, .unset, .unset, .val (.double (f_hi  (18442240474082181120 : UInt64))), .second, iv (0 : Int32)]) rfl ?_
            show Go p e below t T152 m 87 #[iv i0, iv i1, iv i2, iv (i0 &&& (3 : Int32)), .unset, .unset, .unset, .unset, .unset, .val (.double (f_hi  (18442240474082181120 : UInt64))), .second, iv (0 : Int32)] []
            refine XS.iload X152.here hx rfl (hb hby at_87) rfl ?_
            show Go p e below t T152 m 89 #[iv i0, iv i1, iv i2, iv (i0 &&& (3 : Int32)), .unset, .unset, .unset, .unset, .unset, .val (.double (f_hi  (18442240474082181120 : UInt64))), .second, iv (0 : Int32)] [(.int (0 : Int32))]
            refine XS.ifYes X152.here hx rfl (pc0 := 89) (pc' := 98) rfl (hb hby at_89) rfl (XT.i0_eq_t (by decide)) (by decide) (by decide) ?_
            show Go p e below t T152 m 98 #[iv i0, iv i1, iv i2, iv (i0 &&& (3 : Int32)), .unset, .unset, .unset, .unset, .unset, .val (.double (f_hi  (18442240474082181120 : UInt64))), .second, iv (0 : Int32)] []
            refine XS.dload X152.here hx rfl (hb hby at_98) rfl ?_
            show Go p e below t T152 m 100 #[iv i0, iv i1, iv i2, iv (i0 &&& (3 : Int32)), .unset, .unset, .unset, .unset, .unset, .val (.double (f_hi  (18442240474082181120 : UInt64))), .second, iv (0 : Int32)] [(.double (f_hi  (18442240474082181120 : UInt64)))]
            refine XS.dstore X152.here hx rfl (hb hby at_100) rfl (l' := #[iv i0, iv i1, iv i2, iv (i0 &&& (3 : Int32)), .val (.double (f_hi  (18442240474082181120 : UInt64))), .second, .unset, .unset, .unset, .val (.double (f_hi  (18442240474082181120 : UInt64))), .second, iv (0 : Int32)]) rfl ?_
            show Go p e below t T152 m 102 #[iv i0, iv i1, iv i2, iv (i0 &&& (3 : Int32)), .val (.double (f_hi  (18442240474082181120 : UInt64))), .second, .unset, .unset, .unset, .val (.double (f_hi  (18442240474082181120 : UInt64))), .second, iv (0 : Int32)] []
            refine XS.dconst0 X152.here hx rfl (hb hby at_102) (v := (0 : UInt64)) rfl ?_
            show Go p e below t T152 m 103 #[iv i0, iv i1, iv i2, iv (i0 &&& (3 : Int32)), .val (.double (f_hi  (18442240474082181120 : UInt64))), .second, .unset, .unset, .unset, .val (.double (f_hi  (18442240474082181120 : UInt64))), .second, iv (0 : Int32)] [(.double (0 : UInt64))]
            refine XS.dstore X152.here hx rfl (hb hby at_103) rfl (l' := #[iv i0, iv i1, iv i2, iv (i0 &&& (3 : Int32)), .val (.double (f_hi  (18442240474082181120 : UInt64))), .second, .val (.double (0 : UInt64)), .second, .unset, .val (.double (f_hi  (18442240474082181120 : UInt64))), .second, iv (0 : Int32)]) rfl ?_
            show Go p e below t T152 m 105 #[iv i0, iv i1, iv i2, iv (i0 &&& (3 : Int32)), .val (.double (f_hi  (18442240474082181120 : UInt64))), .second, .val (.double (0 : UInt64)), .second, .unset, .val (.double (f_hi  (18442240474082181120 : UInt64))), .second, iv (0 : Int32)] []
            refine XS.iload X152.here hx rfl (hb hby at_105) rfl ?_
            show Go p e below t T152 m 107 #[iv i0, iv i1, iv i2, iv (i0 &&& (3 : Int32)), .val (.double (f_hi  (18442240474082181120 : UInt64))), .second, .val (.double (0 : UInt64)), .second, .unset, .val (.double (f_hi  (18442240474082181120 : UInt64))), .second, iv (0 : Int32)] [(.int (0 : Int32))]
            refine XS.istore X152.here hx rfl (hb hby at_107) rfl (l' := #[iv i0, iv i1, iv i2, iv (i0 &&& (3 : Int32)), .val (.double (f_hi  (18442240474082181120 : UInt64))), .second, .val (.double (0 : UInt64)), .second, iv (0 : Int32), .val (.double (f_hi  (18442240474082181120 : UInt64))), .second, iv (0 : Int32)]) rfl ?_
            show Go p e below t T152 m 109 #[iv i0, iv i1, iv i2, iv (i0 &&& (3 : Int32)), .val (.double (f_hi  (18442240474082181120 : UInt64))), .second, .val (.double (0 : UInt64)), .second, iv (0 : Int32), .val (.double (f_hi  (18442240474082181120 : UInt64))), .second, iv (0 : Int32)] []
            exact k)
          obtain ⟨T157, h157, X157, e157, E157, A157, D157, -, st157⟩ := newO X152 hx hZ hown (hw _ (List.mem_of_getElem? (i := 1) rfl)) (hw _ (List.mem_of_getElem? (i := 2) rfl)) (hw _ (List.mem_of_getElem? (i := 3) rfl)) e152 (g := (mkF m 109 #[iv i0, iv i1, iv i2, iv (i0 &&& (3 : Int32)), .val (.double (f_hi  (18442240474082181120 : UInt64))), .second, .val (.double (0 : UInt64)), .second, iv (0 : Int32), .val (.double (f_hi  (18442240474082181120 : UInt64))), .second, iv (0 : Int32)] [])) rfl (hb hby at_109) (by decide) (by decide)
          obtain ⟨b157, gb157⟩ : ∃ z, z = h0.size := ⟨_, rfl⟩
          have sz157 : h0.size ≤ b157 := Nat.le_trans (Nat.le_refl _) (Nat.le_of_eq gb157.symm)
          have ng157 : n0 ≤ b157 := Nat.le_trans Z0 sz157
          rw [← gb157] at A157 D157 st157
          have F157_158 : Fld Z h157 b157 "com/example/aristotle/aristotle/DoubleDouble" "high" "D" (.double (0 : UInt64)) := D157 (Or.inr (hw _ (List.mem_of_getElem? (i := 16) rfl))) (ty := .double) (by decide)
          have F157_159 : Fld Z h157 b157 "com/example/aristotle/aristotle/DoubleDouble" "low" "D" (.double (0 : UInt64)) := D157 (Or.inr (hw _ (List.mem_of_getElem? (i := 18) rfl))) (ty := .double) (by decide)
          have g160 : Goes p e below S0 (T157.setTop (mkF m 112 #[iv i0, iv i1, iv i2, iv (i0 &&& (3 : Int32)), .val (.double (f_hi  (18442240474082181120 : UInt64))), .second, .val (.double (0 : UInt64)), .second, iv (0 : Int32), .val (.double (f_hi  (18442240474082181120 : UInt64))), .second, iv (0 : Int32)] [(.ref b157)])) := fun t k => g156 t (st157 t k)
          have g161 : Goes p e below S0 (T157.setTop (mkF m 117 #[iv i0, iv i1, iv i2, iv (i0 &&& (3 : Int32)), .val (.double (f_hi  (18442240474082181120 : UInt64))), .second, .val (.double (0 : UInt64)), .second, iv (0 : Int32), .val (.double (f_hi  (18442240474082181120 : UInt64))), .second, iv (0 : Int32)] [(.double (0 : UInt64)), (.double (f_hi  (18442240474082181120 : UInt64))), (.ref b157), (.ref b157)])) := fun t k => g160 t (by
            refine XS.dup X157.here hx rfl (hb hby at_112) rfl rfl ?_
            show Go p e below t T157 m 113 #[iv i0, iv i1, iv i2, iv (i0 &&& (3 : Int32)), .val (.double (f_hi  (18442240474082181120 : UInt64))), .second, .val (.double (0 : UInt64)), .second, iv (0 : Int32), .val (.double (f_hi  (18442240474082181120 : UInt64))), .second, iv (0 : Int32)] [(.ref b157), (.ref b157)]
            refine XS.dload X157.here hx rfl (hb hby at_113) rfl ?_
            show Go p e below t T157 m 115 #[iv i0, iv i1, iv i2, iv (i0 &&& (3 : Int32)), .val (.double (f_hi  (18442240474082181120 : UInt64))), .second, .val (.double (0 : UInt64)), .second, iv (0 : Int32), .val (.double (f_hi  (18442240474082181120 : UInt64))), .second, iv (0 : Int32)] [(.double (f_hi  (18442240474082181120 : UInt64))), (.ref b157), (.ref b157)]
            refine XS.dload X157.here hx rfl (hb hby at_115) rfl ?_
            show Go p e below t T157 m 117 #[iv i0, iv i1, iv i2, iv (i0 &&& (3 : Int32)), .val (.double (f_hi  (18442240474082181120 : UInt64))), .second, .val (.double (0 : UInt64)), .second, iv (0 : Int32), .val (.double (f_hi  (18442240474082181120 : UInt64))), .second, iv (0 : Int32)] [(.double (0 : UInt64)), (.double (f_hi  (18442240474082181120 : UInt64))), (.ref b157), (.ref b157)]
            exact k)
          obtain ⟨_, _, ⟨T162, L162, k162, n162⟩, -, X162, ⟨Lc162, hQ162, l162, y162, z162⟩, st162⟩ := X157.specialBack hx (y := (⟨"com/example/aristotle/aristotle/DoubleDouble", "<init>", "(DD)V"⟩ : MethodName)) rfl hown (mvT hZ (hw _ (List.mem_of_getElem? (i := 4) rfl))) (mvT hZ (hw _ (List.mem_of_getElem? (i := 5) rfl))) (mvT hZ (hw _ (List.mem_of_getElem? (i := 6) rfl))) (by decide) (backOf (W := 1) (rm_ini l Z a0 hw [] b157 (f_hi  (18442240474082181120 : UInt64)) (0 : UInt64)  h157 n0 (Nat.le_trans Z0 (Nat.le_trans (Nat.le_refl _) E157.1)) A157 F157_158 F157_159 ng157) hZ (hw _ (List.mem_of_getElem? (i := 6) rfl)) (hw _ (List.mem_of_getElem? (i := 3) rfl)) (by decide) (by decide)) (g := (mkF m 117 #[iv i0, iv i1, iv i2, iv (i0 &&& (3 : Int32)), .val (.double (f_hi  (18442240474082181120 : UInt64))), .second, .val (.double (0 : UInt64)), .second, iv (0 : Int32), .val (.double (f_hi  (18442240474082181120 : UInt64))), .second, iv (0 : Int32)] [(.double (0 : UInt64)), (.double (f_hi  (18442240474082181120 : UInt64))), (.ref b157), (.ref b157)])) rfl (by rw [hml]; rfl) (Steps.refl _) (a := b157) (argsL := [(.double (f_hi  (18442240474082181120 : UInt64))), (.double (0 : UInt64))]) (rest := [(.ref b157)]) (lenOf pd1 rfl) rfl (by show 2 * 0 + _ ≤ _; exact Nat.le_of_eq rfl) (hb hby at_117) (fun _ _ => ⟨rfl, e157, (by decide : 1 + 0 ≤ _), (by decide : 2 + 0 ≤ _)⟩)
          dsimp only [Pt.U, Pt.locs, Pt.cells, Pt.slots] at X162 l162 y162 z162 st162 hQ162
          subst l162 y162 z162
          obtain ⟨rfl, N162, R162_0, R162_1, R162_2, R162_3⟩ := hQ162
          have M162 := Fr.app M152 N162
          have g163 : Goes p e below S0 (T162.setTop (mkF m 120 #[iv i0, iv i1, iv i2, iv (i0 &&& (3 : Int32)), .val (.double (f_hi  (18442240474082181120 : UInt64))), .second, .val (.double (0 : UInt64)), .second, iv (0 : Int32), .val (.double (f_hi  (18442240474082181120 : UInt64))), .second, iv (0 : Int32)] [(.ref b157)])) := fun t k => g161 t (st162.trans k)
          have g164 : Goes p e below S0 (T162.setTop (mkF m 124 #[iv i0, iv i1, iv i2, iv (i0 &&& (3 : Int32)), .val (.double (f_hi  (18442240474082181120 : UInt64))), .second, .val (.double (0 : UInt64)), .second, iv (0 : Int32), rv b157, .unset, iv (0 : Int32)] [(.ref b157)])) := fun t k => g163 t (by
            refine XS.astore X162.here hx rfl (hb hby at_120) rfl rfl (l' := #[iv i0, iv i1, iv i2, iv (i0 &&& (3 : Int32)), .val (.double (f_hi  (18442240474082181120 : UInt64))), .second, .val (.double (0 : UInt64)), .second, iv (0 : Int32), rv b157, .unset, iv (0 : Int32)]) rfl ?_
            show Go p e below t T162 m 122 #[iv i0, iv i1, iv i2, iv (i0 &&& (3 : Int32)), .val (.double (f_hi  (18442240474082181120 : UInt64))), .second, .val (.double (0 : UInt64)), .second, iv (0 : Int32), rv b157, .unset, iv (0 : Int32)] []
            refine XS.aload X162.here hx rfl (hb hby at_122) rfl rfl ?_
            show Go p e below t T162 m 124 #[iv i0, iv i1, iv i2, iv (i0 &&& (3 : Int32)), .val (.double (f_hi  (18442240474082181120 : UInt64))), .second, .val (.double (0 : UInt64)), .second, iv (0 : Int32), rv b157, .unset, iv (0 : Int32)] [(.ref b157)]
            exact k)
          obtain ⟨cq165, kq165, q165a, q165b, q165c⟩ := isOf hZ rfl R162_1
          obtain ⟨_, _, ⟨T165, L165, k165, n165⟩, -, X165, ⟨Lc165, hQ165, l165, y165, z165⟩, st165⟩ := X162.virtualBack hx (y := (⟨"com/example/aristotle/aristotle/DoubleDouble", "isPositive", "()Z"⟩ : MethodName)) (z := (⟨"com/example/aristotle/aristotle/DoubleDouble", "isPositive", "()Z"⟩ : MethodName)) hown (mvT hZ (hw _ (List.mem_of_getElem? (i := 19) rfl))) (mvT hZ (hw _ (List.mem_of_getElem? (i := 20) rfl))) (notFace_of_selects (args := #[]) (mvT hZ (hw _ (List.mem_of_getElem? (i := 22) rfl)))) (mvT hZ (hw _ (List.mem_of_getElem? (i := 22) rfl))) (mvT hZ (hw _ (List.mem_of_getElem? (i := 21) rfl))) (by decide) (backOf (W := 0) (rm_pos l Z a0 hw [] b157 (f_hi  (18442240474082181120 : UInt64)) T162.heap n0 (Nat.le_trans Z0 (Nat.le_trans (Nat.le_trans (Nat.le_refl _) E157.1) R162_0.1)) R162_2) hZ (hw _ (List.mem_of_getElem? (i := 23) rfl)) (hw _ (List.mem_of_getElem? (i := 3) rfl)) (by decide) (by decide)) q165a q165c (g := (mkF m 124 #[iv i0, iv i1, iv i2, iv (i0 &&& (3 : Int32)), .val (.double (f_hi  (18442240474082181120 : UInt64))), .second, .val (.double (0 : UInt64)), .second, iv (0 : Int32), rv b157, .unset, iv (0 : Int32)] [(.ref b157)])) rfl (by rw [hml]; rfl) (Steps.refl _) (argsL := []) (rest := []) (lenOf pd2 rfl) rfl (by show 2 * 0 + _ ≤ _; exact Nat.le_of_eq rfl) (hb hby at_124) (fun _ _ => ⟨rfl, rfl, (by decide : 1 + 0 ≤ _), (by decide : 2 + 0 ≤ _)⟩)
          dsimp only [Pt.U, Pt.locs, Pt.cells, Pt.slots] at X165 l165 y165 z165 st165 hQ165
          subst l165 y165 z165
          obtain ⟨rfl, N165, e165⟩ := hQ165
          have M165 := Fr.app M162 N165
          have g166 : Goes p e below S0 (T165.setTop (mkF m 127 #[iv i0, iv i1, iv i2, iv (i0 &&& (3 : Int32)), .val (.double (f_hi  (18442240474082181120 : UInt64))), .second, .val (.double (0 : UInt64)), .second, iv (0 : Int32), rv b157, .unset, iv (0 : Int32)] [(.int (f_pos  (f_hi  (18442240474082181120 : UInt64))))])) := fun t k => g164 t (st165.trans k)
          have g167 : Goes p e below S0 (T165.setTop (mkF m 137 #[iv i0, iv i1, iv i2, iv (i0 &&& (3 : Int32)), .val (.double (f_hi  (18442240474082181120 : UInt64))), .second, .val (.double (0 : UInt64)), .second, iv (0 : Int32), rv b157, .unset, iv (0 : Int32)] [(.int (1 : Int32))])) := fun t k => g166 t (by
            refine XS.iload X165.here hx rfl (hb hby at_127) rfl ?_
            show Go p e below t T165 m 129 #[iv i0, iv i1, iv i2, iv (i0 &&& (3 : Int32)), .val (.double (f_hi  (18442240474082181120 : UInt64))), .second, .val (.double (0 : UInt64)), .second, iv (0 : Int32), rv b157, .unset, iv (0 : Int32)] [(.int (0 : Int32)), (.int (f_pos  (f_hi  (18442240474082181120 : UInt64))))]
            refine XS.icmpNo X165.here hx rfl (hb hby at_129) rfl (XT.ii_ne_f (by decide +kernel)) ?_
            show Go p e below t T165 m 132 #[iv i0, iv i1, iv i2, iv (i0 &&& (3 : Int32)), .val (.double (f_hi  (18442240474082181120 : UInt64))), .second, .val (.double (0 : UInt64)), .second, iv (0 : Int32), rv b157, .unset, iv (0 : Int32)] []
            refine XT.iconstV X165.here hx rfl (1 : Int32) (hb hby at_132) (by decide) ?_
            show Go p e below t T165 m 133 #[iv i0, iv i1, iv i2, iv (i0 &&& (3 : Int32)), .val (.double (f_hi  (18442240474082181120 : UInt64))), .second, .val (.double (0 : UInt64)), .second, iv (0 : Int32), rv b157, .unset, iv (0 : Int32)] [(.int (1 : Int32))]
            refine XS.goto X165.here hx rfl (pc0 := 133) (pc' := 137) rfl (hb hby at_133) (by decide) (by decide) ?_
            show Go p e below t T165 m 137 #[iv i0, iv i1, iv i2, iv (i0 &&& (3 : Int32)), .val (.double (f_hi  (18442240474082181120 : UInt64))), .second, .val (.double (0 : UInt64)), .second, iv (0 : Int32), rv b157, .unset, iv (0 : Int32)] [(.int (1 : Int32))]
            exact k)
          obtain ⟨fs, hr, hrun, hended, hW, hsame⟩ := X165.leave (v := some (.int (1 : Int32))) (fun h => by rw [Bd.returns] at h; cases h)
          refine ⟨_, _, g167 _ (retN X165 hx (t := .boolean) Bd.returns (by simp) (hb hby at_137) hr), hrun, hended, _, _, rfl, ?_, ⟨_, rfl⟩, hW, hsame.mono (by decide) (by decide)⟩
          show Q_law Z i0 i1 i2 sa h0 n0 _ T165.heap _
          rw [e165]
          exact ⟨by unfold f_law; rw [if_neg h24, if_neg h80, if_neg h136, if_pos h155], M165⟩
        · skip
          have g168 : Goes p e below S0 (T152.setTop (mkF m 109 #[iv i0, iv i1, iv i2, iv (i0 &&& (3 : Int32)), .val (.double (FP.dneg (f_hi  (18442240474082181120 : UInt64)))), .second, .val (.double (0 : UInt64)), .second, iv (1 : Int32), .val (.double (f_hi  (18442240474082181120 : UInt64))), .second, iv (1 : Int32)] [])) := fun t k => g154 t (by
            refine XS.ifNo X152.here hx rfl (hb hby at_77) rfl (XT.i0_eq_f h155) ?_
            show Go p e below t T152 m 80 #[iv i0, iv i1, iv i2, iv (i0 &&& (3 : Int32)), .unset, .unset, .unset, .unset, .unset, .val (.double (f_hi  (18442240474082181120 : UInt64))), .second, .unset] []
            refine XT.iconstV X152.here hx rfl (1 : Int32) (hb hby at_80) (by decide) ?_
            show Go p e below t T152 m 81 #[iv i0, iv i1, iv i2, iv (i0 &&& (3 : Int32)), .unset, .unset, .unset, .unset, .unset, .val (.double (f_hi  (18442240474082181120 : UInt64))), .second, .unset] [(.int (1 : Int32))]
            refine XS.goto X152.here hx rfl (pc0 := 81) (pc' := 85) rfl (hb hby at_81) (by decide) (by decide) ?_
            show Go p e below t T152 m 85 #[iv i0, iv i1, iv i2, iv (i0 &&& (3 : Int32)), .unset, .unset, .unset, .unset, .unset, .val (.double (f_hi  (18442240474082181120 : UInt64))), .second, .unset] [(.int (1 : Int32))]
            refine XS.istore X152.here hx rfl (hb hby at_85) rfl (l' := #[iv i0, iv i1, iv i2, iv (i0 &&& (3 : Int32)), .unset, .unset, .unset, .unset, .unset, .val (.double (f_hi  (18442240474082181120 : UInt64))), .second, iv (1 : Int32)]) rfl ?_
            show Go p e below t T152 m 87 #[iv i0, iv i1, iv i2, iv (i0 &&& (3 : Int32)), .unset, .unset, .unset, .unset, .unset, .val (.double (f_hi  (18442240474082181120 : UInt64))), .second, iv (1 : Int32)] []
            refine XS.iload X152.here hx rfl (hb hby at_87) rfl ?_
            show Go p e below t T152 m 89 #[iv i0, iv i1, iv i2, iv (i0 &&& (3 : Int32)), .unset, .unset, .unset, .unset, .unset, .val (.double (f_hi  (18442240474082181120 : UInt64))), .second, iv (1 : Int32)] [(.int (1 : Int32))]
            refine XS.ifNo X152.here hx rfl (hb hby at_89) rfl (XT.i0_eq_f (by decide)) ?_
            show Go p e below t T152 m 92 #[iv i0, iv i1, iv i2, iv (i0 &&& (3 : Int32)), .unset, .unset, .unset, .unset, .unset, .val (.double (f_hi  (18442240474082181120 : UInt64))), .second, iv (1 : Int32)] []
            refine XS.dload X152.here hx rfl (hb hby at_92) rfl ?_
            show Go p e below t T152 m 94 #[iv i0, iv i1, iv i2, iv (i0 &&& (3 : Int32)), .unset, .unset, .unset, .unset, .unset, .val (.double (f_hi  (18442240474082181120 : UInt64))), .second, iv (1 : Int32)] [(.double (f_hi  (18442240474082181120 : UInt64)))]
            refine XS.dnegS X152.here hx rfl (hb hby at_94) rfl rfl ?_
            show Go p e below t T152 m 95 #[iv i0, iv i1, iv i2, iv (i0 &&& (3 : Int32)), .unset, .unset, .unset, .unset, .unset, .val (.double (f_hi  (18442240474082181120 : UInt64))), .second, iv (1 : Int32)] [(.double (FP.dneg (f_hi  (18442240474082181120 : UInt64))))]
            refine XS.goto X152.here hx rfl (pc0 := 95) (pc' := 100) rfl (hb hby at_95) (by decide) (by decide) ?_
            show Go p e below t T152 m 100 #[iv i0, iv i1, iv i2, iv (i0 &&& (3 : Int32)), .unset, .unset, .unset, .unset, .unset, .val (.double (f_hi  (18442240474082181120 : UInt64))), .second, iv (1 : Int32)] [(.double (FP.dneg (f_hi  (18442240474082181120 : UInt64))))]
            refine XS.dstore X152.here hx rfl (hb hby at_100) rfl (l' := #[iv i0, iv i1, iv i2, iv (i0 &&& (3 : Int32)), .val (.double (FP.dneg (f_hi  (18442240474082181120 : UInt64)))), .second, .unset, .unset, .unset, .val (.double (f_hi  (18442240474082181120 : UInt64))), .second, iv (1 : Int32)]) rfl ?_
            show Go p e below t T152 m 102 #[iv i0, iv i1, iv i2, iv (i0 &&& (3 : Int32)), .val (.double (FP.dneg (f_hi  (18442240474082181120 : UInt64)))), .second, .unset, .unset, .unset, .val (.double (f_hi  (18442240474082181120 : UInt64))), .second, iv (1 : Int32)] []
            refine XS.dconst0 X152.here hx rfl (hb hby at_102) (v := (0 : UInt64)) rfl ?_
            show Go p e below t T152 m 103 #[iv i0, iv i1, iv i2, iv (i0 &&& (3 : Int32)), .val (.double (FP.dneg (f_hi  (18442240474082181120 : UInt64)))), .second, .unset, .unset, .unset, .val (.double (f_hi  (18442240474082181120 : UInt64))), .second, iv (1 : Int32)] [(.double (0 : UInt64))]
            refine XS.dstore X152.here hx rfl (hb hby at_103) rfl (l' := #[iv i0, iv i1, iv i2, iv (i0 &&& (3 : Int32)), .val (.double (FP.dneg (f_hi  (18442240474082181120 : UInt64)))), .second, .val (.double (0 : UInt64)), .second, .unset, .val (.double (f_hi  (18442240474082181120 : UInt64))), .second, iv (1 : Int32)]) rfl ?_
            show Go p e below t T152 m 105 #[iv i0, iv i1, iv i2, iv (i0 &&& (3 : Int32)), .val (.double (FP.dneg (f_hi  (18442240474082181120 : UInt64)))), .second, .val (.double (0 : UInt64)), .second, .unset, .val (.double (f_hi  (18442240474082181120 : UInt64))), .second, iv (1 : Int32)] []
            refine XS.iload X152.here hx rfl (hb hby at_105) rfl ?_
            show Go p e below t T152 m 107 #[iv i0, iv i1, iv i2, iv (i0 &&& (3 : Int32)), .val (.double (FP.dneg (f_hi  (18442240474082181120 : UInt64)))), .second, .val (.double (0 : UInt64)), .second, .unset, .val (.double (f_hi  (18442240474082181120 : UInt64))), .second, iv (1 : Int32)] [(.int (1 : Int32))]
            refine XS.istore X152.here hx rfl (hb hby at_107) rfl (l' := #[iv i0, iv i1, iv i2, iv (i0 &&& (3 : Int32)), .val (.double (FP.dneg (f_hi  (18442240474082181120 : UInt64)))), .second, .val (.double (0 : UInt64)), .second, iv (1 : Int32), .val (.double (f_hi  (18442240474082181120 : UInt64))), .second, iv (1 : Int32)]) rfl ?_
            show Go p e below t T152 m 109 #[iv i0, iv i1, iv i2, iv (i0 &&& (3 : Int32)), .val (.double (FP.dneg (f_hi  (18442240474082181120 : UInt64)))), .second, .val (.double (0 : UInt64)), .second, iv (1 : Int32), .val (.double (f_hi  (18442240474082181120 : UInt64))), .second, iv (1 : Int32)] []
            exact k)
          obtain ⟨T169, h169, X169, e169, E169, A169, D169, -, st169⟩ := newO X152 hx hZ hown (hw _ (List.mem_of_getElem? (i := 1) rfl)) (hw _ (List.mem_of_getElem? (i := 2) rfl)) (hw _ (List.mem_of_getElem? (i := 3) rfl)) e152 (g := (mkF m 109 #[iv i0, iv i1, iv i2, iv (i0 &&& (3 : Int32)), .val (.double (FP.dneg (f_hi  (18442240474082181120 : UInt64)))), .second, .val (.double (0 : UInt64)), .second, iv (1 : Int32), .val (.double (f_hi  (18442240474082181120 : UInt64))), .second, iv (1 : Int32)] [])) rfl (hb hby at_109) (by decide) (by decide)
          obtain ⟨b169, gb169⟩ : ∃ z, z = h0.size := ⟨_, rfl⟩
          have sz169 : h0.size ≤ b169 := Nat.le_trans (Nat.le_refl _) (Nat.le_of_eq gb169.symm)
          have ng169 : n0 ≤ b169 := Nat.le_trans Z0 sz169
          rw [← gb169] at A169 D169 st169
          have F169_170 : Fld Z h169 b169 "com/example/aristotle/aristotle/DoubleDouble" "high" "D" (.double (0 : UInt64)) := D169 (Or.inr (hw _ (List.mem_of_getElem? (i := 16) rfl))) (ty := .double) (by decide)
          have F169_171 : Fld Z h169 b169 "com/example/aristotle/aristotle/DoubleDouble" "low" "D" (.double (0 : UInt64)) := D169 (Or.inr (hw _ (List.mem_of_getElem? (i := 18) rfl))) (ty := .double) (by decide)
          have g172 : Goes p e below S0 (T169.setTop (mkF m 112 #[iv i0, iv i1, iv i2, iv (i0 &&& (3 : Int32)), .val (.double (FP.dneg (f_hi  (18442240474082181120 : UInt64)))), .second, .val (.double (0 : UInt64)), .second, iv (1 : Int32), .val (.double (f_hi  (18442240474082181120 : UInt64))), .second, iv (1 : Int32)] [(.ref b169)])) := fun t k => g168 t (st169 t k)
          have g173 : Goes p e below S0 (T169.setTop (mkF m 117 #[iv i0, iv i1, iv i2, iv (i0 &&& (3 : Int32)), .val (.double (FP.dneg (f_hi  (18442240474082181120 : UInt64)))), .second, .val (.double (0 : UInt64)), .second, iv (1 : Int32), .val (.double (f_hi  (18442240474082181120 : UInt64))), .second, iv (1 : Int32)] [(.double (0 : UInt64)), (.double (FP.dneg (f_hi  (18442240474082181120 : UInt64)))), (.ref b169), (.ref b169)])) := fun t k => g172 t (by
            refine XS.dup X169.here hx rfl (hb hby at_112) rfl rfl ?_
            show Go p e below t T169 m 113 #[iv i0, iv i1, iv i2, iv (i0 &&& (3 : Int32)), .val (.double (FP.dneg (f_hi  (18442240474082181120 : UInt64)))), .second, .val (.double (0 : UInt64)), .second, iv (1 : Int32), .val (.double (f_hi  (18442240474082181120 : UInt64))), .second, iv (1 : Int32)] [(.ref b169), (.ref b169)]
            refine XS.dload X169.here hx rfl (hb hby at_113) rfl ?_
            show Go p e below t T169 m 115 #[iv i0, iv i1, iv i2, iv (i0 &&& (3 : Int32)), .val (.double (FP.dneg (f_hi  (18442240474082181120 : UInt64)))), .second, .val (.double (0 : UInt64)), .second, iv (1 : Int32), .val (.double (f_hi  (18442240474082181120 : UInt64))), .second, iv (1 : Int32)] [(.double (FP.dneg (f_hi  (18442240474082181120 : UInt64)))), (.ref b169), (.ref b169)]
            refine XS.dload X169.here hx rfl (hb hby at_115) rfl ?_
            show Go p e below t T169 m 117 #[iv i0, iv i1, iv i2, iv (i0 &&& (3 : Int32)), .val (.double (FP.dneg (f_hi  (18442240474082181120 : UInt64)))), .second, .val (.double (0 : UInt64)), .second, iv (1 : Int32), .val (.double (f_hi  (18442240474082181120 : UInt64))), .second, iv (1 : Int32)] [(.double (0 : UInt64)), (.double (FP.dneg (f_hi  (18442240474082181120 : UInt64)))), (.ref b169), (.ref b169)]
            exact k)
          obtain ⟨_, _, ⟨T174, L174, k174, n174⟩, -, X174, ⟨Lc174, hQ174, l174, y174, z174⟩, st174⟩ := X169.specialBack hx (y := (⟨"com/example/aristotle/aristotle/DoubleDouble", "<init>", "(DD)V"⟩ : MethodName)) rfl hown (mvT hZ (hw _ (List.mem_of_getElem? (i := 4) rfl))) (mvT hZ (hw _ (List.mem_of_getElem? (i := 5) rfl))) (mvT hZ (hw _ (List.mem_of_getElem? (i := 6) rfl))) (by decide) (backOf (W := 1) (rm_ini l Z a0 hw [] b169 (FP.dneg (f_hi  (18442240474082181120 : UInt64))) (0 : UInt64)  h169 n0 (Nat.le_trans Z0 (Nat.le_trans (Nat.le_refl _) E169.1)) A169 F169_170 F169_171 ng169) hZ (hw _ (List.mem_of_getElem? (i := 6) rfl)) (hw _ (List.mem_of_getElem? (i := 3) rfl)) (by decide) (by decide)) (g := (mkF m 117 #[iv i0, iv i1, iv i2, iv (i0 &&& (3 : Int32)), .val (.double (FP.dneg (f_hi  (18442240474082181120 : UInt64)))), .second, .val (.double (0 : UInt64)), .second, iv (1 : Int32), .val (.double (f_hi  (18442240474082181120 : UInt64))), .second, iv (1 : Int32)] [(.double (0 : UInt64)), (.double (FP.dneg (f_hi  (18442240474082181120 : UInt64)))), (.ref b169), (.ref b169)])) rfl (by rw [hml]; rfl) (Steps.refl _) (a := b169) (argsL := [(.double (FP.dneg (f_hi  (18442240474082181120 : UInt64)))), (.double (0 : UInt64))]) (rest := [(.ref b169)]) (lenOf pd1 rfl) rfl (by show 2 * 0 + _ ≤ _; exact Nat.le_of_eq rfl) (hb hby at_117) (fun _ _ => ⟨rfl, e169, (by decide : 1 + 0 ≤ _), (by decide : 2 + 0 ≤ _)⟩)
          dsimp only [Pt.U, Pt.locs, Pt.cells, Pt.slots] at X174 l174 y174 z174 st174 hQ174
          subst l174 y174 z174
          obtain ⟨rfl, N174, R174_0, R174_1, R174_2, R174_3⟩ := hQ174
          have M174 := Fr.app M152 N174
          have g175 : Goes p e below S0 (T174.setTop (mkF m 120 #[iv i0, iv i1, iv i2, iv (i0 &&& (3 : Int32)), .val (.double (FP.dneg (f_hi  (18442240474082181120 : UInt64)))), .second, .val (.double (0 : UInt64)), .second, iv (1 : Int32), .val (.double (f_hi  (18442240474082181120 : UInt64))), .second, iv (1 : Int32)] [(.ref b169)])) := fun t k => g173 t (st174.trans k)
          have g176 : Goes p e below S0 (T174.setTop (mkF m 124 #[iv i0, iv i1, iv i2, iv (i0 &&& (3 : Int32)), .val (.double (FP.dneg (f_hi  (18442240474082181120 : UInt64)))), .second, .val (.double (0 : UInt64)), .second, iv (1 : Int32), rv b169, .unset, iv (1 : Int32)] [(.ref b169)])) := fun t k => g175 t (by
            refine XS.astore X174.here hx rfl (hb hby at_120) rfl rfl (l' := #[iv i0, iv i1, iv i2, iv (i0 &&& (3 : Int32)), .val (.double (FP.dneg (f_hi  (18442240474082181120 : UInt64)))), .second, .val (.double (0 : UInt64)), .second, iv (1 : Int32), rv b169, .unset, iv (1 : Int32)]) rfl ?_
            show Go p e below t T174 m 122 #[iv i0, iv i1, iv i2, iv (i0 &&& (3 : Int32)), .val (.double (FP.dneg (f_hi  (18442240474082181120 : UInt64)))), .second, .val (.double (0 : UInt64)), .second, iv (1 : Int32), rv b169, .unset, iv (1 : Int32)] []
            refine XS.aload X174.here hx rfl (hb hby at_122) rfl rfl ?_
            show Go p e below t T174 m 124 #[iv i0, iv i1, iv i2, iv (i0 &&& (3 : Int32)), .val (.double (FP.dneg (f_hi  (18442240474082181120 : UInt64)))), .second, .val (.double (0 : UInt64)), .second, iv (1 : Int32), rv b169, .unset, iv (1 : Int32)] [(.ref b169)]
            exact k)
          obtain ⟨cq177, kq177, q177a, q177b, q177c⟩ := isOf hZ rfl R174_1
          obtain ⟨_, _, ⟨T177, L177, k177, n177⟩, -, X177, ⟨Lc177, hQ177, l177, y177, z177⟩, st177⟩ := X174.virtualBack hx (y := (⟨"com/example/aristotle/aristotle/DoubleDouble", "isPositive", "()Z"⟩ : MethodName)) (z := (⟨"com/example/aristotle/aristotle/DoubleDouble", "isPositive", "()Z"⟩ : MethodName)) hown (mvT hZ (hw _ (List.mem_of_getElem? (i := 19) rfl))) (mvT hZ (hw _ (List.mem_of_getElem? (i := 20) rfl))) (notFace_of_selects (args := #[]) (mvT hZ (hw _ (List.mem_of_getElem? (i := 22) rfl)))) (mvT hZ (hw _ (List.mem_of_getElem? (i := 22) rfl))) (mvT hZ (hw _ (List.mem_of_getElem? (i := 21) rfl))) (by decide) (backOf (W := 0) (rm_pos l Z a0 hw [] b169 (FP.dneg (f_hi  (18442240474082181120 : UInt64))) T174.heap n0 (Nat.le_trans Z0 (Nat.le_trans (Nat.le_trans (Nat.le_refl _) E169.1) R174_0.1)) R174_2) hZ (hw _ (List.mem_of_getElem? (i := 23) rfl)) (hw _ (List.mem_of_getElem? (i := 3) rfl)) (by decide) (by decide)) q177a q177c (g := (mkF m 124 #[iv i0, iv i1, iv i2, iv (i0 &&& (3 : Int32)), .val (.double (FP.dneg (f_hi  (18442240474082181120 : UInt64)))), .second, .val (.double (0 : UInt64)), .second, iv (1 : Int32), rv b169, .unset, iv (1 : Int32)] [(.ref b169)])) rfl (by rw [hml]; rfl) (Steps.refl _) (argsL := []) (rest := []) (lenOf pd2 rfl) rfl (by show 2 * 0 + _ ≤ _; exact Nat.le_of_eq rfl) (hb hby at_124) (fun _ _ => ⟨rfl, rfl, (by decide : 1 + 0 ≤ _), (by decide : 2 + 0 ≤ _)⟩)
          dsimp only [Pt.U, Pt.locs, Pt.cells, Pt.slots] at X177 l177 y177 z177 st177 hQ177
          subst l177 y177 z177
          obtain ⟨rfl, N177, e177⟩ := hQ177
          have M177 := Fr.app M174 N177
          have g178 : Goes p e below S0 (T177.setTop (mkF m 127 #[iv i0, iv i1, iv i2, iv (i0 &&& (3 : Int32)), .val (.double (FP.dneg (f_hi  (18442240474082181120 : UInt64)))), .second, .val (.double (0 : UInt64)), .second, iv (1 : Int32), rv b169, .unset, iv (1 : Int32)] [(.int (f_pos  (FP.dneg (f_hi  (18442240474082181120 : UInt64)))))])) := fun t k => g176 t (st177.trans k)
          have g179 : Goes p e below S0 (T177.setTop (mkF m 137 #[iv i0, iv i1, iv i2, iv (i0 &&& (3 : Int32)), .val (.double (FP.dneg (f_hi  (18442240474082181120 : UInt64)))), .second, .val (.double (0 : UInt64)), .second, iv (1 : Int32), rv b169, .unset, iv (1 : Int32)] [(.int (1 : Int32))])) := fun t k => g178 t (by
            refine XS.iload X177.here hx rfl (hb hby at_127) rfl ?_
            show Go p e below t T177 m 129 #[iv i0, iv i1, iv i2, iv (i0 &&& (3 : Int32)), .val (.double (FP.dneg (f_hi  (18442240474082181120 : UInt64)))), .second, .val (.double (0 : UInt64)), .second, iv (1 : Int32), rv b169, .unset, iv (1 : Int32)] [(.int (1 : Int32)), (.int (f_pos  (FP.dneg (f_hi  (18442240474082181120 : UInt64)))))]
            refine XS.icmpNo X177.here hx rfl (hb hby at_129) rfl (XT.ii_ne_f (by decide +kernel)) ?_
            show Go p e below t T177 m 132 #[iv i0, iv i1, iv i2, iv (i0 &&& (3 : Int32)), .val (.double (FP.dneg (f_hi  (18442240474082181120 : UInt64)))), .second, .val (.double (0 : UInt64)), .second, iv (1 : Int32), rv b169, .unset, iv (1 : Int32)] []
            refine XT.iconstV X177.here hx rfl (1 : Int32) (hb hby at_132) (by decide) ?_
            show Go p e below t T177 m 133 #[iv i0, iv i1, iv i2, iv (i0 &&& (3 : Int32)), .val (.double (FP.dneg (f_hi  (18442240474082181120 : UInt64)))), .second, .val (.double (0 : UInt64)), .second, iv (1 : Int32), rv b169, .unset, iv (1 : Int32)] [(.int (1 : Int32))]
            refine XS.goto X177.here hx rfl (pc0 := 133) (pc' := 137) rfl (hb hby at_133) (by decide) (by decide) ?_
            show Go p e below t T177 m 137 #[iv i0, iv i1, iv i2, iv (i0 &&& (3 : Int32)), .val (.double (FP.dneg (f_hi  (18442240474082181120 : UInt64)))), .second, .val (.double (0 : UInt64)), .second, iv (1 : Int32), rv b169, .unset, iv (1 : Int32)] [(.int (1 : Int32))]
            exact k)
          obtain ⟨fs, hr, hrun, hended, hW, hsame⟩ := X177.leave (v := some (.int (1 : Int32))) (fun h => by rw [Bd.returns] at h; cases h)
          refine ⟨_, _, g179 _ (retN X177 hx (t := .boolean) Bd.returns (by simp) (hb hby at_137) hr), hrun, hended, _, _, rfl, ?_, ⟨_, rfl⟩, hW, hsame.mono (by decide) (by decide)⟩
          show Q_law Z i0 i1 i2 sa h0 n0 _ T177.heap _
          rw [e177]
          exact ⟨by unfold f_law; rw [if_neg h24, if_neg h80, if_neg h136, if_neg h155], M177⟩
theorem own_one (a b c : Int32) : f_law a b c = 1 := by
  unfold f_law
  repeat' split
  all_goals rfl

set_option maxRecDepth 65536 in
set_option maxHeartbeats 40000000 in
theorem comes_1 {Post : Tables → Env → Array Value → State → Outcome → State → Prop} (hpost : ∀ tb e args s v u, (limb_1_1.after args s (.returned v) u = true ∧ limb_1_2.after args s (.returned v) u = true ∧ True) → FrameEnd s (.returned v) u (Jvm.fieldLocs frame_1_writes args s ++ Jvm.arrayLocs frame_1_arrays args s ++ Jvm.staticLocs frame_1_statics s) 16 128 → Post tb e args s (.returned v) u) :
    ArmFor flags0 classFile x code maxLocals ret World_1 tables_1 room_1 Calls_1 rest_1 Pre_1 Post := by
  intro l hfl _ _ p e ha hc hk s m args below hf hA hF happ hP
  obtain ⟨hcalls, hrest, hpre⟩ := hP
  obtain ⟨-, -, -, hnamed, -, -, -, hat⟩ := (Spec.applies_iff hf).mp happ
  obtain ⟨hg, hn⟩ := and_e (Cond.before_iff.mp (show (Jvm.Cond.and given_1 narrow_1).before args s = true from hpre))
  obtain ⟨hcount, q0⟩ := and_e hg
  obtain ⟨b0, q1⟩ := and_e q0
  obtain ⟨b1, q2⟩ := and_e q1
  have b2 := q2
  obtain ⟨w0, w1, w2, rfl⟩ : ∃ w0 w1 w2 : Value, args = #[w0, w1, w2] := by
    have hs : args.size = 3 := by simpa [Cond.value, given_1] using hcount
    obtain ⟨L⟩ := args
    match L, hs with
    | [w0, w1, w2], _ => exact ⟨w0, w1, w2, rfl⟩
  have hw := fun d (hd : d ∈ tables_1) => atoms_spec (ws := Jvm.Cond.code x code maxLocals ret :: tables_1) hat d (List.mem_cons_of_mem _ hd)
  have hfit : Fit s := fun {y c} hc i hi => by
    obtain ⟨ha, rfl⟩ := Array.getElem?_eq_some_iff.mp hc
    have q := List.all_eq_true.mp ((Array.all_eq_true_iff_forall_mem.mp hF) _ (Array.getElem_mem ha)) i (List.mem_range.mpr hi)
    simpa [Array.getElem?_eq_getElem hi] using q
  obtain ⟨i0, r0⟩ := is_v b0
  obtain rfl : w0 = (.int i0) := Option.some.inj r0
  obtain ⟨i1, r1⟩ := is_v b1
  obtain rfl : w1 = (.int i1) := Option.some.inj r1
  obtain ⟨i2, r2⟩ := is_v b2
  obtain rfl : w2 = (.int i2) := Option.some.inj r2
  obtain ⟨n1, n2⟩ := and_e hn
  obtain ⟨sa, ev⟩ := exa_v n1
  have S1 := Sta.start (args := _) ev (Or.inr ⟨hw _ (List.mem_of_getElem? (i := 3) rfl), hw _ (List.mem_of_getElem? (i := 25) rfl)⟩)
  have E1 := Exa.start ev n1
  have F1 : Fld s s.heap sa "com/example/aristotle/aristotle/DoubleDouble" "high" "D" (.double (18442240474082181120 : UInt64)) := Fld.start (own_fld ev n2)
  obtain ⟨n, o, h1, h2, h3, v, L, rfl, ⟨hv, N⟩, hq⟩ := rm_law l s _ hw tables_1 i0 i1 i2 sa s.heap s.heap.size (Nat.le_refl _) S1 E1 F1 p e ha hc hk s m _ below hf ((Spec.applies_iff_loose hf).mp happ).1 ⟨rfl, State.Warmed39.refl s, rfl⟩ trivial
  obtain rfl : v = some (.int 1) := by rw [hv, own_one]
  refine ⟨n, _, h1, h2, h3, hpost _ _ _ _ _ _ ⟨Cond.after_iff.mpr rfl, Cond.after_iff.mpr (eq_i res_at (Term.int_eval (1)) rfl), trivial⟩ ⟨hq.1, hq.2.1, (hq.2.2.sift fun y hy => Or.inr (N y hy)).mono (by decide) (by decide)⟩⟩
theorem main_1_1 : Claimed_1_1 := comes_1 fun _ _ _ _ _ _ h hF => ⟨h.1, hF⟩
theorem main_1_2 : Claimed_1_2 := comes_1 fun _ _ _ _ _ _ h hF => ⟨h.2.1, hF⟩
end Jvm.Pilot.@@N@@
namespace Jvm.Pilot.@@N@@
open Jvm Jvm.ClassFile Sem Op Lib Jvm.Free Jvm.Stand Jvm.Pilot.@@N@@.Jvm.D
/-! MADE BY PROGRAM (witnessworld.py) out of the Statement's table words and the real class files: 11 classes; the members and pool entries that the words name. The judged class is class 1, her method 1. -/
namespace start1
open Jvm.ClassFile
def u (s : String) : CpInfo := .utf8 (stringToUtf16 s)
/-- a pool by its gaps: so many unusable entries, then the entry; so many at the end -/
def gap : Nat → List CpInfo → List CpInfo
  | 0, r => r
  | n + 1, r => .unusable :: gap n r
def poolList (es : List (Nat × CpInfo)) (last : Nat) : List CpInfo := es.foldr (fun e r => gap e.1 (e.2 :: r)) (gap last [])
def pool (es : List (Nat × CpInfo)) (last : Nat) : Array CpInfo := ⟨poolList es last⟩
def fileOf (pool : Array CpInfo) (this : Nat) (attrs : Array Attribute := #[]) (ms : Array MethodInfo := #[]) (fl : Nat := 33) (sup : Nat := 0) (ifs : Array Nat := #[]) (fds : Array FieldInfo := #[]) : ClassFile where
  minorVersion := 0
  majorVersion := 65
  constantPool := pool
  accessFlags := fl
  thisClass := this
  superClass := sup
  interfaces := ifs
  fields := fds
  methods := ms
  attributes := attrs
def plain (name : String) (sup : Option ClassId) : Class where
  name := name
  kind := .ordinary
  loader := none
  accessFlags := 33
  super := sup
  interfaces := #[]
  cf := none
  fields := #[]
  methods := #[]
  instanceTypes := #[]
  staticTypes := #[]
  resolved := #[]
  callSites := []
  init := .initialized
  statics := none
  mirror := none

def pool0 : Array CpInfo := pool [(5, u "<init>"), (0, u "()V"), (1, .class_ 10), (1, u "java/lang/Object")] 113

def k0c0 : Code := { maxStack := 0, maxLocals := 1, code := object_method_1_code, exceptionTable := #[], attributes := #[] }
def k0m0 : Method := { name := "<init>", desc := "()V", sig := { parameters := [], returnType := none }, accessFlags := 1, code := some k0c0 }
/-- java/lang/Object -/
def k0 : Class := { plain "java/lang/Object" none with
  accessFlags := 33
  interfaces := #[]
  cf := some (fileOf pool0 8 #[] #[{ accessFlags := 1, nameIndex := 5, descriptorIndex := 6, attributes := #[] }] 33 0 #[] #[])
  fields := #[]
  methods := #[k0m0]
  instanceTypes := #[]
  staticTypes := #[]
  resolved := Array.replicate 124 none
  statics := none }

def pool1 : Array CpInfo := pool [(2, .class_ 4), (1, u "java/lang/Object"), (0, u "<init>"), (0, u "()V"), (0, .double 4156822456062967808), (1, .double 9223372036854775808), (1, .fieldref 12 13), (0, .class_ 14), (0, .nameAndType 15 16), (0, u "com/example/aristotle/aristotle/DoubleDouble"), (0, u "NEGATIVE_INFINITY"), (0, u "Lcom/example/aristotle/aristotle/DoubleDouble;"), (0, .methodref 12 18), (0, .nameAndType 19 20), (0, u "high"), (0, u "()D"), (0, .methodref 12 22), (0, .nameAndType 5 23), (0, u "(DD)V"), (0, .methodref 12 25), (0, .nameAndType 26 27), (0, u "isPositive"), (0, u "()Z"), (0, .class_ 29), (0, u "com/example/aristotle/aristotle/DoubleDoubleIsPositivePinLaw"), (2, u "law"), (0, u "(III)Z")] 3

def k1m0 : Method := { name := "<init>", desc := "()V", sig := { parameters := [], returnType := none }, accessFlags := 1, code := none }
def k1c1 : Code := { maxStack := 6, maxLocals := 12, code := code, exceptionTable := #[], attributes := #[] }
def k1m1 : Method := { name := "law", desc := "(III)Z", sig := { parameters := [.int, .int, .int], returnType := some .boolean }, accessFlags := 9, code := some k1c1 }
/-- com/example/aristotle/aristotle/DoubleDoubleIsPositivePinLaw -/
def k1 : Class := { plain "com/example/aristotle/aristotle/DoubleDoubleIsPositivePinLaw" (some 0) with
  accessFlags := 49
  interfaces := #[]
  cf := some (fileOf pool1 28 #[] #[{ accessFlags := 1, nameIndex := 5, descriptorIndex := 6, attributes := #[] }, { accessFlags := 9, nameIndex := 32, descriptorIndex := 33, attributes := #[] }] 49 2 #[] #[])
  fields := #[]
  methods := #[k1m0, k1m1]
  instanceTypes := #[]
  staticTypes := #[]
  resolved := Array.replicate 37 none
  statics := none }

def pool2 : Array CpInfo := pool [(1, .methodref 2 3), (0, .class_ 4), (0, .nameAndType 5 6), (0, u "java/lang/Object"), (0, u "<init>"), (0, u "()V"), (0, .class_ 8), (0, u "java/lang/Record")] 13

def k2c0 : Code := { maxStack := 1, maxLocals := 1, code := jdk_30_method_1_code, exceptionTable := #[], attributes := #[] }
def k2m0 : Method := { name := "<init>", desc := "()V", sig := { parameters := [], returnType := none }, accessFlags := 4, code := some k2c0 }
/-- java/lang/Record -/
def k2 : Class := { plain "java/lang/Record" (some 0) with
  accessFlags := 1057
  interfaces := #[]
  cf := some (fileOf pool2 7 #[] #[{ accessFlags := 4, nameIndex := 5, descriptorIndex := 6, attributes := #[] }] 1057 2 #[] #[])
  fields := #[]
  methods := #[k2m0]
  instanceTypes := #[]
  staticTypes := #[]
  resolved := Array.replicate 22 none
  statics := none }

def pool3 : Array CpInfo := pool [(1, .class_ 2), (0, u "java/lang/Comparable"), (0, .class_ 4), (0, u "java/lang/Object")] 7

/-- java/lang/Comparable -/
def k3 : Class := { plain "java/lang/Comparable" (some 0) with
  accessFlags := 1537
  interfaces := #[]
  cf := some (fileOf pool3 1 #[] #[] 1537 3 #[] #[])
  fields := #[]
  methods := #[]
  instanceTypes := #[]
  staticTypes := #[]
  resolved := Array.replicate 12 none
  statics := none }

def pool4 : Array CpInfo := pool [(1, .methodref 2 3), (0, .class_ 4), (0, .nameAndType 5 6), (0, u "java/lang/Record"), (0, u "<init>"), (0, u "()V"), (0, .fieldref 8 9), (0, .class_ 10), (0, .nameAndType 11 12), (0, u "com/example/aristotle/aristotle/DoubleDouble"), (0, u "high"), (0, u "D"), (0, .fieldref 8 14), (0, .nameAndType 15 12), (0, u "low"), (2, u "(DD)V"), (5, u "()D"), (63, u "ZERO"), (0, u "Lcom/example/aristotle/aristotle/DoubleDouble;"), (2, u "LN_2"), (12, u "TWO"), (2, u "ONE"), (7, u "LOG10_E"), (21, u "LN_10"), (35, u "NEGATIVE_INFINITY"), (14, .class_ 190), (0, u "java/lang/Comparable"), (0, u "HALVINGS"), (0, u "I"), (2, u "TERMS"), (6, u "isPositive"), (0, u "()Z")] 38

def k4c0 : Code := { maxStack := 3, maxLocals := 5, code := prog_46_method_1_code, exceptionTable := #[], attributes := #[] }
def k4m0 : Method := { name := "<init>", desc := "(DD)V", sig := { parameters := [.double, .double], returnType := none }, accessFlags := 0, code := some k4c0 }
def k4c1 : Code := { maxStack := 4, maxLocals := 1, code := prog_46_method_4_code, exceptionTable := #[], attributes := #[] }
def k4m1 : Method := { name := "isPositive", desc := "()Z", sig := { parameters := [], returnType := some .boolean }, accessFlags := 0, code := some k4c1 }
def k4c2 : Code := { maxStack := 2, maxLocals := 1, code := prog_46_method_21_code, exceptionTable := #[], attributes := #[] }
def k4m2 : Method := { name := "high", desc := "()D", sig := { parameters := [], returnType := some .double }, accessFlags := 1, code := some k4c2 }
/-- com/example/aristotle/aristotle/DoubleDouble -/
def k4 : Class := { plain "com/example/aristotle/aristotle/DoubleDouble" (some 2) with
  accessFlags := 48
  interfaces := #[3]
  cf := some (fileOf pool4 8 #[] #[{ accessFlags := 0, nameIndex := 5, descriptorIndex := 18, attributes := #[] }, { accessFlags := 0, nameIndex := 202, descriptorIndex := 203, attributes := #[] }, { accessFlags := 1, nameIndex := 11, descriptorIndex := 24, attributes := #[] }] 48 2 #[189] #[{ accessFlags := 18, nameIndex := 11, descriptorIndex := 12, attributes := #[] }, { accessFlags := 18, nameIndex := 15, descriptorIndex := 12, attributes := #[] }, { accessFlags := 24, nameIndex := 88, descriptorIndex := 89, attributes := #[] }, { accessFlags := 24, nameIndex := 108, descriptorIndex := 89, attributes := #[] }, { accessFlags := 24, nameIndex := 174, descriptorIndex := 89, attributes := #[] }, { accessFlags := 26, nameIndex := 105, descriptorIndex := 89, attributes := #[] }, { accessFlags := 26, nameIndex := 92, descriptorIndex := 89, attributes := #[] }, { accessFlags := 26, nameIndex := 138, descriptorIndex := 89, attributes := #[] }, { accessFlags := 26, nameIndex := 116, descriptorIndex := 89, attributes := #[] }, { accessFlags := 26, nameIndex := 191, descriptorIndex := 192, attributes := #[] }, { accessFlags := 26, nameIndex := 195, descriptorIndex := 192, attributes := #[] }])
  fields := #[{ name := "high", type := .double, accessFlags := 18, slot := 0, constantValue := 0 }, { name := "low", type := .double, accessFlags := 18, slot := 1, constantValue := 0 }, { name := "ZERO", type := (.object "com/example/aristotle/aristotle/DoubleDouble"), accessFlags := 24, slot := 0, constantValue := 0 }, { name := "ONE", type := (.object "com/example/aristotle/aristotle/DoubleDouble"), accessFlags := 24, slot := 1, constantValue := 0 }, { name := "NEGATIVE_INFINITY", type := (.object "com/example/aristotle/aristotle/DoubleDouble"), accessFlags := 24, slot := 2, constantValue := 0 }, { name := "TWO", type := (.object "com/example/aristotle/aristotle/DoubleDouble"), accessFlags := 26, slot := 3, constantValue := 0 }, { name := "LN_2", type := (.object "com/example/aristotle/aristotle/DoubleDouble"), accessFlags := 26, slot := 4, constantValue := 0 }, { name := "LN_10", type := (.object "com/example/aristotle/aristotle/DoubleDouble"), accessFlags := 26, slot := 5, constantValue := 0 }, { name := "LOG10_E", type := (.object "com/example/aristotle/aristotle/DoubleDouble"), accessFlags := 26, slot := 6, constantValue := 0 }, { name := "HALVINGS", type := .int, accessFlags := 26, slot := 7, constantValue := 0 }, { name := "TERMS", type := .int, accessFlags := 26, slot := 8, constantValue := 0 }]
  methods := #[k4m0, k4m1, k4m2]
  instanceTypes := #[.double, .double]
  staticTypes := #[(.object "com/example/aristotle/aristotle/DoubleDouble"), (.object "com/example/aristotle/aristotle/DoubleDouble"), (.object "com/example/aristotle/aristotle/DoubleDouble"), (.object "com/example/aristotle/aristotle/DoubleDouble"), (.object "com/example/aristotle/aristotle/DoubleDouble"), (.object "com/example/aristotle/aristotle/DoubleDouble"), (.object "com/example/aristotle/aristotle/DoubleDouble"), .int, .int]
  resolved := Array.replicate 242 none
  statics := some 0 }

def pool5 : Array CpInfo := pool [(1, u "java/lang/Cloneable"), (0, .class_ 1), (0, u "java/lang/Object"), (0, .class_ 3)] 3

/-- java/lang/Cloneable -/
def k5 : Class := { plain "java/lang/Cloneable" (some 0) with
  accessFlags := 1537
  interfaces := #[]
  cf := some (fileOf pool5 2 #[] #[] 1537 4 #[] #[])
  fields := #[]
  methods := #[]
  instanceTypes := #[]
  staticTypes := #[]
  resolved := Array.replicate 8 none
  statics := none }

def pool6 : Array CpInfo := pool [(1, u "java/io/Serializable"), (0, .class_ 1), (0, u "java/lang/Object"), (0, .class_ 3)] 3

/-- java/io/Serializable -/
def k6 : Class := { plain "java/io/Serializable" (some 0) with
  accessFlags := 1537
  interfaces := #[]
  cf := some (fileOf pool6 2 #[] #[] 1537 4 #[] #[])
  fields := #[]
  methods := #[]
  instanceTypes := #[]
  staticTypes := #[]
  resolved := Array.replicate 8 none
  statics := none }

/-- the primitive byte -/
def k7 : Class := { plain "byte" none with kind := .primitive 'B', accessFlags := 0x411 }
/-- [B -/
def k8 : Class := { plain "[B" (some 0) with kind := .array 7 .byte, interfaces := #[5, 6], accessFlags := 1041 }

/-- the primitive int -/
def k9 : Class := { plain "int" none with kind := .primitive 'I', accessFlags := 0x411 }
/-- [I -/
def k10 : Class := { plain "[I" (some 0) with kind := .array 9 .int, interfaces := #[5, 6], accessFlags := 1041 }

def heap : Heap := #[{ cls := 4, slots := #[.null, .null, .ref 1, .null, .null, .null, .null, .int 0, .int 0], vm := .statics 4 },
  { cls := 4, slots := #[.double 18442240474082181120, .double 0], vm := .none }]
def classes : Array Class := #[k0, k1, k2, k3, k4, k5, k6, k7, k8, k9, k10]
def interned : List (Array UInt16 × Addr) := []
def slotsUsed : Nat := 11
def theMethod : MethodId := ⟨1, 1⟩
def args0 : Array Value := #[.int 5, .int 7, .int 9]
def aboutOver (below : List Frame) : State where
  vm := { classes := classes, interned := interned.toArray }
  heap := heap
  slotsUsed := slotsUsed
  threads := #[{ frames := .invoking theMethod args0 :: below }]
def below0 : List Frame := [.native { method := ⟨0, 0⟩, args := #[] }]
def about1 : State := aboutOver below0
def p0 : Program := .bare "" "" ""
def e0 : Env := launch0.env 0 0 0
theorem w_frames : about1.frames = Frame.invoking theMethod args0 :: below0 := rfl
set_option maxRecDepth 65536 in
theorem w_args : argsFit about1.vm theMethod args0 = true := by decide +kernel
set_option maxRecDepth 65536 in
theorem w_heap : heapFits about1 = true := by decide +kernel
set_option maxRecDepth 65536 in
theorem w_runnable : about1.curStatus? = some .runnable := by decide +kernel
set_option maxRecDepth 65536 in
theorem w_alone : about1.alone = true := by decide +kernel
set_option maxRecDepth 65536 in
theorem w_named : about1.methodNamed? x = some theMethod := by decide +kernel
set_option maxRecDepth 65536 in
theorem w_hears : about1.hears theMethod below0 = true := by decide +kernel
set_option maxRecDepth 65536 in
theorem w_ripe : about1.ripe theMethod args0 below0 = true := by decide +kernel
theorem w_running : about1.status = .running := rfl
set_option maxRecDepth 65536 in
theorem w_room : about1.hasRoom e0.platform room_1 = true :=
  launch0.hasRoom_least _ room_1 (by decide +kernel) (by decide +kernel) (by decide +kernel) (by decide +kernel) (by decide +kernel) (by decide +kernel)
theorem allAtoms_all (ts : List Jvm.Cond) (a : Array Jvm.Value) (st : Jvm.State) : (allAtoms ts).before a st = ts.all (fun c => c.before a st) := by
  induction ts with
  | nil => rfl
  | cons c t ih =>
    show (Jvm.Cond.and c (allAtoms t)).before a st = _
    rw [Jvm.Cond.before_and, ih, List.all_cons]
def words1 : List Jvm.Cond := Jvm.Cond.code x code maxLocals ret :: tables_1
/-- a 'code' word, met by the world's own term for the bytes: nothing is compared byte by byte -/
theorem code_word {y : MethodName} {bytes : ByteArray} {mx : Nat} {rt : Option FieldType} {a : Array Value} {s : State} {m : MethodId} {meth : Method} {c : Code} (h1 : s.methodNamed? y = some m) (h2 : s.vm.method? m = some meth) (h3 : meth.code = some c) (h4 : c.code = bytes)
    (h5 : (c.maxLocals == mx && c.exceptionTable.isEmpty && decide (c.maxStack ≤ mostOperands) && decide (meth.sig.returnType = rt) && !meth.locks && decide (parseMethodDescriptor y.desc = some meth.sig)) = true) : (Jvm.Cond.code y bytes mx rt).before a s = true := by
  simp only [Bool.and_eq_true, beq_iff_eq, Bool.not_eq_true', decide_eq_true_eq] at h5
  obtain ⟨⟨⟨⟨⟨g1, g2⟩, g3⟩, g4⟩, g5⟩, g6⟩ := h5
  simp [Cond.before, Cond.holds, Cond.value, h1, h2, h3, h4, g1, g2, g3, g4, g5, g6]
def isCode : Jvm.Cond → Bool
  | .code _ _ _ _ => true
  | _ => false
theorem all_split {L : List Jvm.Cond} {P : Jvm.Cond → Bool} (h1 : L.all (fun c => isCode c || P c) = true) (h2 : ∀ c ∈ L.filter isCode, P c = true) : L.all P = true := by
  refine List.all_eq_true.mpr fun c hc => ?_
  have h := List.all_eq_true.mp h1 c hc
  rcases Bool.eq_false_or_eq_true (isCode c) with hi | hi
  · exact h2 c (List.mem_filter.mpr ⟨hc, hi⟩)
  · simpa [hi] using h
set_option maxRecDepth 65536 in
theorem w_c0 : (Jvm.Cond.code x code maxLocals ret).before args0 about1 = true := code_word (m := ⟨1, 1⟩) (meth := k1m1) (c := k1c1) (by decide +kernel) rfl rfl rfl (by decide +kernel)
set_option maxRecDepth 65536 in
theorem w_c1 : (Jvm.Cond.code ({ cls := "com/example/aristotle/aristotle/DoubleDouble", name := "<init>", desc := "(DD)V" } : Jvm.MethodName) prog_46_method_1_code (5 : Nat) (Option.none : Option Jvm.ClassFile.FieldType)).before args0 about1 = true := code_word (m := ⟨4, 0⟩) (meth := k4m0) (c := k4c0) (by decide +kernel) rfl rfl rfl (by decide +kernel)
set_option maxRecDepth 65536 in
theorem w_c2 : (Jvm.Cond.code ({ cls := "java/lang/Record", name := "<init>", desc := "()V" } : Jvm.MethodName) jdk_30_method_1_code (1 : Nat) (Option.none : Option Jvm.ClassFile.FieldType)).before args0 about1 = true := code_word (m := ⟨2, 0⟩) (meth := k2m0) (c := k2c0) (by decide +kernel) rfl rfl rfl (by decide +kernel)
set_option maxRecDepth 65536 in
theorem w_c3 : (Jvm.Cond.code ({ cls := "java/lang/Object", name := "<init>", desc := "()V" } : Jvm.MethodName) object_method_1_code (1 : Nat) (Option.none : Option Jvm.ClassFile.FieldType)).before args0 about1 = true := code_word (m := ⟨0, 0⟩) (meth := k0m0) (c := k0c0) (by decide +kernel) rfl rfl rfl (by decide +kernel)
set_option maxRecDepth 65536 in
theorem w_c4 : (Jvm.Cond.code ({ cls := "com/example/aristotle/aristotle/DoubleDouble", name := "isPositive", desc := "()Z" } : Jvm.MethodName) prog_46_method_4_code (1 : Nat) (Option.some Jvm.ClassFile.FieldType.boolean)).before args0 about1 = true := code_word (m := ⟨4, 1⟩) (meth := k4m1) (c := k4c1) (by decide +kernel) rfl rfl rfl (by decide +kernel)
set_option maxRecDepth 65536 in
theorem w_c5 : (Jvm.Cond.code ({ cls := "com/example/aristotle/aristotle/DoubleDouble", name := "high", desc := "()D" } : Jvm.MethodName) prog_46_method_21_code (1 : Nat) (Option.some Jvm.ClassFile.FieldType.double)).before args0 about1 = true := code_word (m := ⟨4, 2⟩) (meth := k4m2) (c := k4c2) (by decide +kernel) rfl rfl rfl (by decide +kernel)
def codes1 : List Jvm.Cond := [Jvm.Cond.code x code maxLocals ret, Jvm.Cond.code ({ cls := "com/example/aristotle/aristotle/DoubleDouble", name := "<init>", desc := "(DD)V" } : Jvm.MethodName) prog_46_method_1_code (5 : Nat) (Option.none : Option Jvm.ClassFile.FieldType), Jvm.Cond.code ({ cls := "java/lang/Record", name := "<init>", desc := "()V" } : Jvm.MethodName) jdk_30_method_1_code (1 : Nat) (Option.none : Option Jvm.ClassFile.FieldType), Jvm.Cond.code ({ cls := "java/lang/Object", name := "<init>", desc := "()V" } : Jvm.MethodName) object_method_1_code (1 : Nat) (Option.none : Option Jvm.ClassFile.FieldType), Jvm.Cond.code ({ cls := "com/example/aristotle/aristotle/DoubleDouble", name := "isPositive", desc := "()Z" } : Jvm.MethodName) prog_46_method_4_code (1 : Nat) (Option.some Jvm.ClassFile.FieldType.boolean), Jvm.Cond.code ({ cls := "com/example/aristotle/aristotle/DoubleDouble", name := "high", desc := "()D" } : Jvm.MethodName) prog_46_method_21_code (1 : Nat) (Option.some Jvm.ClassFile.FieldType.double)]
set_option maxRecDepth 65536 in
theorem codes_eq : words1.filter isCode = codes1 := rfl
theorem w_codes : ∀ c ∈ words1.filter isCode, c.before args0 about1 = true := by
  rw [codes_eq]
  intro c hc
  simp only [codes1, List.mem_cons, List.not_mem_nil, or_false] at hc
  rcases hc with rfl | rfl | rfl | rfl | rfl | rfl
  · exact w_c0
  · exact w_c1
  · exact w_c2
  · exact w_c3
  · exact w_c4
  · exact w_c5
set_option maxRecDepth 65536 in
theorem w_t1 : (words1.take 24).all (fun c => isCode c || c.before args0 about1) = true := by decide +kernel
set_option maxRecDepth 65536 in
theorem w_t2 : (words1.drop 24).all (fun c => isCode c || c.before args0 about1) = true := by decide +kernel
theorem w_tables : (allAtoms (Jvm.Cond.code x code maxLocals ret :: tables_1)).before args0 about1 = true := by
  rw [allAtoms_all]
  show words1.all (fun c => c.before args0 about1) = true
  refine all_split ?_ w_codes
  rw [← List.take_append_drop 24 words1, List.all_append, w_t1, w_t2]
  rfl
set_option maxRecDepth 65536 in
theorem w_case : (Jvm.Cond.and given_1 narrow_1).before args0 about1 = true := by decide +kernel
theorem w_applies : (headSpec (Jvm.Cond.code x code maxLocals ret :: tables_1) room_1).applies x e0.platform about1 = true :=
  (Spec.applies_iff w_frames).mpr ⟨w_running, w_runnable, w_alone, w_named, w_hears, w_ripe, w_room, w_tables⟩
theorem atStart : AtStart classFile x code maxLocals ret World_1 tables_1 room_1 Calls_1 rest_1 Pre_1 launch0 p0 e0 about1 theMethod args0 below0 :=
  ⟨lists_1, trivial, launch0.admits_env _ _ _, launch0.least_env, fairChoices_fair.cas, fairChoices_fair.clock, w_frames, w_args, w_heap, w_applies, trivial, trivial, w_case⟩
end start1
theorem witness_1 : WitnessClaimed_1 := ⟨start1.p0, start1.e0, start1.about1, start1.theMethod, start1.args0, start1.below0, start1.atStart⟩
end Jvm.Pilot.@@N@@
