import JvmDerived
import JvmDerived.Pilot.@@N@@Statement
import JvmDerived.Pilot.@@N@@Code
set_option linter.unusedVariables false
set_option linter.unusedSimpArgs false
namespace Jvm.OwnFP
open Jvm.FP Jvm.FP.Core
/-- a double's value in units of the least double, 2^-1074 -/
abbrev Zv (a : UInt64) : Int := zval b64 (val64 a)
theorem fin_ne {a : UInt64} (h : DFin a) : val64 a ≠ .nan := by
  obtain ⟨s, c, q, h⟩ := h; rw [h]; exact Datum.noConfusion
theorem mul_ne {a b : UInt64} (ha : DFin a) (hb : DFin b) : val64 (FP.dmul a b) ≠ .nan :=
  Jvm.Free.Fl.val64_no.mp (Jvm.Free.Fl.dmul_out (Jvm.Free.Fl.fin64_core.mpr ha) (Jvm.Free.Fl.fin64_core.mpr hb))
theorem add_ne {a b : UInt64} (ha : DFin a) (hb : DFin b) : val64 (FP.dadd a b) ≠ .nan :=
  Jvm.Free.Fl.val64_no.mp (Jvm.Free.Fl.dadd_out (Jvm.Free.Fl.fin64_core.mpr ha).noNaN (Jvm.Free.Fl.fin64_core.mpr hb))
theorem sub_ne {a b : UInt64} (ha : DFin a) (hb : DFin b) : val64 (FP.dsub a b) ≠ .nan :=
  Jvm.Free.Fl.val64_no.mp (Jvm.Free.Fl.dsub_out (Jvm.Free.Fl.fin64_core.mpr ha).noNaN (Jvm.Free.Fl.fin64_core.mpr hb))
theorem fin_of {r U V : UInt64} (hr : val64 r ≠ .nan) (hU : DFin U) (hV : DFin V) (h1 : Zv U ≤ Zv r) (h2 : Zv r ≤ Zv V) : DFin r := by
  have uU := hU.zval_lt
  have uV := hV.zval_lt
  have aU : (Zv U).natAbs = zmag b64 (val64 U) := natAbs_signed _ _
  have aV : (Zv V).natAbs = zmag b64 (val64 V) := natAbs_signed _ _
  have ar : (Zv r).natAbs = zmag b64 (val64 r) := natAbs_signed _ _
  cases e : val64 r with
  | nan => exact absurd e hr
  | fin s c q => exact ⟨s, c, q, e⟩
  | inf s =>
    have e2 : zmag b64 (val64 r) = b64.tails * 2 ^ (b64.exps - 2) := by rw [e]; rfl
    rw [e2] at ar
    generalize b64.tails * 2 ^ (b64.exps - 2) = top at *
    omega
theorem dmul_le {a b V : UInt64} (ha : DFin a) (hb : DFin b) (hV : val64 V ≠ .nan) (h : Zv a * Zv b ≤ Zv V * (one64 : Int)) : Zv (FP.dmul a b) ≤ Zv V := by
  obtain ⟨s, c, q, ea⟩ := ha
  obtain ⟨t, d, r, eb⟩ := hb
  have fa := val64_fits a
  have fb := val64_fits b
  unfold Zv at h ⊢
  rw [ea] at fa h
  rw [eb] at fb h
  obtain ⟨p1, p2, p3⟩ := product_units fa fb
  rw [val64_dmul, ea, eb, p1]
  have hq := qmin_neg good_b64
  refine zval_round_le good_b64 (val64_fits V) hV (e0 := 2 * b64.qmin) (by omega) p2 ?_
  rw [p3, signed_xor, show (b64.qmin - 2 * b64.qmin).toNat = (-b64.qmin).toNat by omega, pow_qmin64]
  exact h
theorem dmul_ge {a b V : UInt64} (ha : DFin a) (hb : DFin b) (hV : val64 V ≠ .nan) (h : Zv V * (one64 : Int) ≤ Zv a * Zv b) : Zv V ≤ Zv (FP.dmul a b) := by
  obtain ⟨s, c, q, ea⟩ := ha
  obtain ⟨t, d, r, eb⟩ := hb
  have fa := val64_fits a
  have fb := val64_fits b
  unfold Zv at h ⊢
  rw [ea] at fa h
  rw [eb] at fb h
  obtain ⟨p1, p2, p3⟩ := product_units fa fb
  rw [val64_dmul, ea, eb, p1]
  have hq := qmin_neg good_b64
  refine zval_round_ge good_b64 (val64_fits V) hV (e0 := 2 * b64.qmin) (by omega) p2 ?_
  rw [p3, signed_xor, show (b64.qmin - 2 * b64.qmin).toNat = (-b64.qmin).toNat by omega, pow_qmin64]
  exact h
theorem dadd_le {a b V : UInt64} (ha : DFin a) (hb : DFin b) (hV : val64 V ≠ .nan) (h : Zv a + Zv b ≤ Zv V) : Zv (FP.dadd a b) ≤ Zv V := by
  unfold Zv at h ⊢
  rw [val64_dadd]; exact sum_le good_b64 ha hb (val64_fits a) (val64_fits b) (val64_fits V) hV h
theorem dadd_ge {a b V : UInt64} (ha : DFin a) (hb : DFin b) (hV : val64 V ≠ .nan) (h : Zv V ≤ Zv a + Zv b) : Zv V ≤ Zv (FP.dadd a b) := by
  unfold Zv at h ⊢
  rw [val64_dadd]; exact sum_ge good_b64 ha hb (val64_fits a) (val64_fits b) (val64_fits V) hV h
theorem neg_fin {a : UInt64} (h : DFin a) : DFin (FP.dneg a) := by
  obtain ⟨s, c, q, h⟩ := h
  exact ⟨!s, c, q, by rw [FP.val64_dneg, h]; rfl⟩
theorem Zv_neg (a : UInt64) : Zv (FP.dneg a) = -Zv a := by unfold Zv; rw [FP.val64_dneg, zval_negate]
theorem cneg_fin {a : UInt64} (h : DFin a) : DFin (Core.dneg a) := by
  obtain ⟨s, c, q, h⟩ := h
  exact ⟨!s, c, q, by rw [Core.val64_dneg, h]; rfl⟩
theorem Zv_cneg (a : UInt64) : Zv (Core.dneg a) = -Zv a := by unfold Zv; rw [Core.val64_dneg, zval_negate]
theorem dsub_le {a b V : UInt64} (ha : DFin a) (hb : DFin b) (hV : val64 V ≠ .nan) (h : Zv a - Zv b ≤ Zv V) : Zv (FP.dsub a b) ≤ Zv V := by
  show Zv (Core.dsub a b) ≤ _
  rw [Core.dsub_eq]; exact dadd_le ha (cneg_fin hb) hV (by rw [Zv_cneg]; omega)
theorem dsub_ge {a b V : UInt64} (ha : DFin a) (hb : DFin b) (hV : val64 V ≠ .nan) (h : Zv V ≤ Zv a - Zv b) : Zv V ≤ Zv (FP.dsub a b) := by
  show _ ≤ Zv (Core.dsub a b)
  rw [Core.dsub_eq]; exact dadd_ge ha (cneg_fin hb) hV (by rw [Zv_cneg]; omega)
/-- where the exact value is a double's, it is the result's -/
theorem dmul_eq {a b V : UInt64} (ha : DFin a) (hb : DFin b) (hV : DFin V) (h : Zv a * Zv b = Zv V * (one64 : Int)) : DFin (FP.dmul a b) ∧ Zv (FP.dmul a b) = Zv V := by
  have h1 := dmul_le ha hb (fin_ne hV) (Int.le_of_eq h)
  have h2 := dmul_ge ha hb (fin_ne hV) (Int.le_of_eq h.symm)
  exact ⟨fin_of (mul_ne ha hb) hV hV h2 h1, Int.le_antisymm h1 h2⟩
theorem dadd_eq {a b V : UInt64} (ha : DFin a) (hb : DFin b) (hV : DFin V) (h : Zv a + Zv b = Zv V) : DFin (FP.dadd a b) ∧ Zv (FP.dadd a b) = Zv V := by
  have h1 := dadd_le ha hb (fin_ne hV) (Int.le_of_eq h)
  have h2 := dadd_ge ha hb (fin_ne hV) (Int.le_of_eq h.symm)
  exact ⟨fin_of (add_ne ha hb) hV hV h2 h1, Int.le_antisymm h1 h2⟩
theorem dsub_eq {a b V : UInt64} (ha : DFin a) (hb : DFin b) (hV : DFin V) (h : Zv a - Zv b = Zv V) : DFin (FP.dsub a b) ∧ Zv (FP.dsub a b) = Zv V := by
  have h1 := dsub_le ha hb (fin_ne hV) (Int.le_of_eq h)
  have h2 := dsub_ge ha hb (fin_ne hV) (Int.le_of_eq h.symm)
  exact ⟨fin_of (sub_ne ha hb) hV hV h2 h1, Int.le_antisymm h1 h2⟩
theorem signed_self (N : Int) (k : Nat) : signed (decide (N < 0)) (N.natAbs * k) = N * (k : Int) := by
  rw [signed_mul]
  congr 1
  unfold signed
  by_cases h : N < 0 <;> simp [h] <;> omega
/-- every N * 2^k units, N of up to 53 digits, is a double -/
theorem rep (N : Int) (k : Nat) (hN : N.natAbs < 2 ^ 53) (hk : k ≤ 2045) : ∃ V, DFin V ∧ Zv V = N * ((2 ^ k : Nat) : Int) := by
  have q1 := qmin_b64
  have q2 : b64.qmax = 971 := by decide
  obtain ⟨c', q', h1, h2⟩ := round_exact good_b64 (decide (N < 0)) (c := N.natAbs) (q := (k : Int) - 1074) hN (by omega) (by omega)
  have hv : val64 (of64 (round b64 (.fin (decide (N < 0)) N.natAbs ((k : Int) - 1074)))) = .fin (decide (N < 0)) c' q' := by
    rw [val64_of64 (round_fits good_b64 _), h1]
  refine ⟨_, ⟨_, _, _, hv⟩, ?_⟩
  unfold Zv
  rw [hv]
  show signed (decide (N < 0)) (inUnits c' q' b64.qmin) = _
  rw [h2, q1]
  unfold inUnits
  rw [show ((k : Int) - 1074 - -1074).toNat = k by omega]
  exact signed_self N _
/-- the double a is N * 2^(k - 1074) -/
def Val (a : UInt64) (N : Int) (k : Nat) : Prop := DFin a ∧ Zv a = N * ((2 ^ k : Nat) : Int)
theorem one_pow : (one64 : Int) = ((2 ^ 1074 : Nat) : Int) := rfl
theorem Val.of_int {i : Int} {a : UInt64} (h : DInt i a) : Val a i 1074 := by
  refine ⟨?_, (DInt_zval h).trans (by rw [one_pow])⟩
  unfold DInt at h
  cases e : val64 a with
  | nan => rw [e] at h; exact h.elim
  | inf s => rw [e] at h; exact h.elim
  | fin s c q => exact ⟨s, c, q, e⟩
theorem Val.i2d (n : Int32) : Val (FP.i2d n) n.toInt 1074 := Val.of_int (i2d_int n)
theorem Val.l2d {n : Int64} (h : n.toInt.natAbs ≤ 2 ^ 53) : Val (FP.l2d n) n.toInt 1074 := Val.of_int (l2d_int h)
theorem Val.neg {a : UInt64} {N : Int} {k : Nat} (h : Val a N k) : Val (FP.dneg a) (-N) k := ⟨neg_fin h.1, by rw [Zv_neg, h.2, Int.neg_mul]⟩
theorem pow_cast (k j : Nat) : ((2 ^ (k + j) : Nat) : Int) = ((2 ^ k : Nat) : Int) * ((2 ^ j : Nat) : Int) := by
  rw [Nat.pow_add, Int.natCast_mul]
theorem Val.mul {a b : UInt64} {N M : Int} {k j i : Nat} (ha : Val a N k) (hb : Val b M j) (hN : (N * M).natAbs < 2 ^ 53) (hi : k + j = i + 1074) (hk : i ≤ 2045) : Val (FP.dmul a b) (N * M) i := by
  obtain ⟨V, fV, zV⟩ := rep (N * M) i hN hk
  obtain ⟨h1, h2⟩ := dmul_eq ha.1 hb.1 fV (by
    rw [ha.2, hb.2, zV, one_pow, Int.mul_assoc (N * M), ← pow_cast, ← hi, pow_cast, Int.mul_assoc N M, Int.mul_assoc N, Int.mul_left_comm _ M])
  exact ⟨h1, h2.trans zV⟩
theorem Val.add {a b : UInt64} {N M : Int} {k : Nat} (ha : Val a N k) (hb : Val b M k) (hN : (N + M).natAbs < 2 ^ 53) (hk : k ≤ 2045) : Val (FP.dadd a b) (N + M) k := by
  obtain ⟨V, fV, zV⟩ := rep (N + M) k hN hk
  obtain ⟨h1, h2⟩ := dadd_eq ha.1 hb.1 fV (by rw [ha.2, hb.2, zV, Int.add_mul])
  exact ⟨h1, h2.trans zV⟩
theorem Val.sub {a b : UInt64} {N M : Int} {k : Nat} (ha : Val a N k) (hb : Val b M k) (hN : (N - M).natAbs < 2 ^ 53) (hk : k ≤ 2045) : Val (FP.dsub a b) (N - M) k := by
  obtain ⟨V, fV, zV⟩ := rep (N - M) k hN hk
  obtain ⟨h1, h2⟩ := dsub_eq ha.1 hb.1 fV (by rw [ha.2, hb.2, zV, Int.sub_mul])
  exact ⟨h1, h2.trans zV⟩
theorem pow_pos' (k : Nat) : (0 : Int) < ((2 ^ k : Nat) : Int) := by have := Nat.two_pow_pos k; omega
theorem Val.cmp {a b : UInt64} {N M : Int} {k : Nat} (ha : Val a N k) (hb : Val b M k) : FP.dcmp a b = some (compare N M) := by
  have h : FP.dcmp a b = some (compare (Zv a) (Zv b)) := dcmp_zval (fin_ne ha.1) (fin_ne hb.1)
  rw [h, ha.2, hb.2, compare_mul_pos _ _ _ (pow_pos' k)]
theorem Val.scale {a : UInt64} {N : Int} {k : Nat} (j : Nat) (ha : Val a N (k + j)) : Val a (N * ((2 ^ j : Nat) : Int)) k :=
  ⟨ha.1, by rw [ha.2, pow_cast, Int.mul_assoc, Int.mul_comm ((2 ^ k : Nat) : Int)]⟩
theorem lt_iff {a b : UInt64} (ha : DFin a) (hb : DFin b) : FP.dcmp a b = some .lt ↔ Zv a < Zv b :=
  ⟨fun h => (dcmp_lt.mp h).2.2, fun h => dcmp_lt.mpr ⟨fin_ne ha, fin_ne hb, h⟩⟩
theorem eq_iff {a b : UInt64} (ha : DFin a) (hb : DFin b) : FP.dcmp a b = some .eq ↔ Zv a = Zv b :=
  ⟨fun h => (dcmp_eq.mp h).2.2, fun h => dcmp_eq.mpr ⟨fin_ne ha, fin_ne hb, h⟩⟩
theorem le_iff {a b : UInt64} (ha : DFin a) (hb : DFin b) : (FP.dcmp a b = some .lt ∨ FP.dcmp a b = some .eq) ↔ Zv a ≤ Zv b := by
  rw [lt_iff ha hb, eq_iff ha hb]; omega
theorem dfin_const {a : UInt64} (h : a.toNat % 9223372036854775808 < 9218868437227405312) : DFin a := (Core.fin_bits a).mpr h
end Jvm.OwnFP
namespace Jvm.OwnFP
open Jvm.FP Jvm.FP.Core
theorem ratio_units {s t : Bool} {c d : Nat} {q r : Int} (fa : Core.fits b64 (.fin s c q)) (fb : Core.fits b64 (.fin t d r)) :
    2 * b64.qmin - r ≤ b64.qmin ∧ 2 * b64.qmin - r ≤ q - r ∧ inUnits c (q - r) (2 * b64.qmin - r) = zmag b64 (.fin s c q) * one64 ∧
    ∀ m : Nat, m * 2 ^ (b64.qmin - (2 * b64.qmin - r)).toNat * d = m * zmag b64 (.fin t d r) := by
  have h1 : b64.qmin ≤ q := fa.2.1
  have h2 : b64.qmin ≤ r := fb.2.1
  have hq := qmin_neg good_b64
  refine ⟨by omega, by omega, ?_, fun m => ?_⟩
  · show c * 2 ^ (q - r - (2 * b64.qmin - r)).toNat = c * 2 ^ (q - b64.qmin).toNat * one64
    rw [← pow_qmin64, Nat.mul_assoc, ← Nat.pow_add]
    congr 2; omega
  · show m * 2 ^ (b64.qmin - (2 * b64.qmin - r)).toNat * d = m * (d * 2 ^ (r - b64.qmin).toNat)
    rw [show (b64.qmin - (2 * b64.qmin - r)).toNat = (r - b64.qmin).toNat by omega, Nat.mul_assoc, Nat.mul_comm d]
theorem div_form {a b : UInt64} (hb : 0 < Zv b) {s t : Bool} {c d : Nat} {q r : Int} (ea : val64 a = .fin s c q) (eb : val64 b = .fin t d r) :
    0 < d ∧ t = false ∧ val64 (FP.ddiv a b) = roundRatio b64 s c d (q - r) := by
  have hd : d ≠ 0 := by
    intro hd
    unfold Zv at hb
    rw [eb, hd] at hb
    have : zval b64 (.fin t 0 r) = 0 := by
      show signed t (0 * _) = 0
      rw [Nat.zero_mul]; exact signed_zero t
    omega
  have ht : t = false := by
    cases t with
    | false => rfl
    | true =>
      exfalso
      unfold Zv at hb
      rw [eb] at hb
      have : zval b64 (.fin true d r) = -((zmag b64 (.fin true d r) : Nat) : Int) := rfl
      omega
  subst ht
  refine ⟨by omega, rfl, ?_⟩
  rw [val64_ddiv, ea, eb]
  show (if d = 0 then _ else roundRatio b64 (s != false) c d (q - r)) = _
  rw [if_neg hd]
  cases s <;> rfl
theorem zsgn {s : Bool} {c : Nat} {q : Int} : zval b64 (.fin s c q) = signed s (zmag b64 (.fin s c q)) := rfl
theorem zval_rr (s : Bool) (A B : Nat) (e : Int) : zval b64 (roundRatio b64 s A B e) = signed s (zmag b64 (roundRatio b64 s A B e)) := by
  unfold zval; rw [sgn_roundRatio]
theorem zmag_of (V : UInt64) : (0 ≤ Zv V → ((zmag b64 (val64 V) : Nat) : Int) = Zv V) ∧ (Zv V ≤ 0 → ((zmag b64 (val64 V) : Nat) : Int) = -Zv V) := by
  have h : Zv V = signed (sgn (val64 V)) (zmag b64 (val64 V)) := rfl
  cases hs : sgn (val64 V) <;> rw [hs] at h <;> simp only [signed, if_true, Bool.false_eq_true, if_false] at h <;> omega
theorem ddiv_le {a b V : UInt64} (ha : DFin a) (hb : DFin b) (hb0 : 0 < Zv b) (hV : val64 V ≠ .nan) (h : Zv a * (one64 : Int) ≤ Zv V * Zv b) : Zv (FP.ddiv a b) ≤ Zv V := by
  obtain ⟨s, c, q, ea⟩ := ha
  obtain ⟨t, d, r, eb⟩ := hb
  obtain ⟨hd, rfl, e⟩ := div_form hb0 ea eb
  have fa := val64_fits a
  have fb := val64_fits b
  rw [ea] at fa
  rw [eb] at fb
  obtain ⟨u1, u2, u3, u4⟩ := ratio_units fa fb
  obtain ⟨v1, v2⟩ := zmag_of V
  have za : Zv a = signed s (zmag b64 (.fin s c q)) := by unfold Zv; rw [ea]; rfl
  have zb : Zv b = ((zmag b64 (.fin false d r) : Nat) : Int) := by unfold Zv; rw [eb]; rfl
  rw [zb] at h hb0
  rw [za] at h
  show zval b64 (val64 (FP.ddiv a b)) ≤ Zv V
  rw [e, zval_rr]
  have op := one64_pos
  cases s with
  | false =>
    simp only [signed, Bool.false_eq_true, if_false] at h ⊢
    have hV0 : 0 ≤ Zv V := Int.not_lt.mp fun hn => by
      have : Zv V * ((zmag b64 (.fin false d r) : Nat) : Int) < 0 := Int.mul_neg_of_neg_of_pos hn hb0
      have : (0 : Int) ≤ ((zmag b64 (.fin false c q) : Nat) : Int) * (one64 : Int) := Int.mul_nonneg (by omega) (by omega)
      omega
    have := zmag_roundRatio_le good_b64 (s := false) (A := c) (B := d) (e := q - r) hd (val64_fits V) hV u1 u2 (by
      rw [u3, u4]
      rw [← v1 hV0] at h
      exact Int.ofNat_le.mp (by rw [Int.natCast_mul, Int.natCast_mul]; exact h))
    have := v1 hV0
    omega
  | true =>
    simp only [signed, if_true] at h ⊢
    by_cases hV0 : 0 ≤ Zv V
    · omega
    · have hv := v2 (by omega)
      have := zmag_roundRatio_ge good_b64 (s := true) (A := c) (B := d) (e := q - r) hd (val64_fits V) u1 u2 (by
        rw [u3, u4]
        refine Int.ofNat_le.mp ?_
        rw [Int.natCast_mul, Int.natCast_mul, hv, Int.neg_mul]
        rw [Int.neg_mul] at h
        omega)
      omega
theorem neg_ddiv (a b : UInt64) : Zv (FP.ddiv (Core.dneg a) b) = -Zv (FP.ddiv a b) := by
  show Zv (Core.ddiv (Core.dneg a) b) = _
  rw [Core.ddiv_dneg, Zv_cneg]
theorem ddiv_ge {a b V : UInt64} (ha : DFin a) (hb : DFin b) (hb0 : 0 < Zv b) (hV : val64 V ≠ .nan) (h : Zv V * Zv b ≤ Zv a * (one64 : Int)) : Zv V ≤ Zv (FP.ddiv a b) := by
  have := ddiv_le (a := Core.dneg a) (b := b) (V := Core.dneg V) (cneg_fin ha) hb hb0 (by rw [Core.val64_dneg]; exact negate_ne_nan hV) (by rw [Zv_cneg, Zv_cneg, Int.neg_mul, Int.neg_mul]; omega)
  rw [neg_ddiv, Zv_cneg] at this
  omega
theorem div_ne {a b : UInt64} (ha : DFin a) (hb : DFin b) (hb0 : 0 < Zv b) : val64 (FP.ddiv a b) ≠ .nan := by
  obtain ⟨s, c, q, ea⟩ := ha
  obtain ⟨t, d, r, eb⟩ := hb
  obtain ⟨hd, rfl, e⟩ := div_form hb0 ea eb
  rw [e]; exact roundRatio_ne_nan _ _ _ _ _
theorem ddiv_eq {a b V : UInt64} (ha : DFin a) (hb : DFin b) (hb0 : 0 < Zv b) (hV : DFin V) (h : Zv a * (one64 : Int) = Zv V * Zv b) : DFin (FP.ddiv a b) ∧ Zv (FP.ddiv a b) = Zv V := by
  have h1 := ddiv_le ha hb hb0 (fin_ne hV) (Int.le_of_eq h)
  have h2 := ddiv_ge ha hb hb0 (fin_ne hV) (Int.le_of_eq h.symm)
  exact ⟨fin_of (div_ne ha hb hb0) hV hV h2 h1, Int.le_antisymm h1 h2⟩
/-- a quotient by a power of two -/
theorem Val.div2 {a b : UInt64} {N : Int} {k i : Nat} (ha : Val a N k) (hb : Val b 1 i) (hN : N.natAbs < 2 ^ 53) {j : Nat} (hi : k + 1074 = j + i) (hj : j ≤ 2045) : Val (FP.ddiv a b) N j := by
  obtain ⟨V, fV, zV⟩ := rep N j hN hj
  have hb0 : 0 < Zv b := by rw [hb.2, Int.one_mul]; exact pow_pos' i
  obtain ⟨h1, h2⟩ := ddiv_eq ha.1 hb.1 hb0 fV (by rw [ha.2, hb.2, zV, one_pow, Int.one_mul, Int.mul_assoc, Int.mul_assoc, ← pow_cast, ← pow_cast, hi])
  exact ⟨h1, h2.trans zV⟩
end Jvm.OwnFP
namespace Jvm.Pilot.@@N@@
open Jvm Jvm.ClassFile Sem Op Lib Jvm.Free Jvm.Stand Jvm.LawKit Jvm.RoadKit Bundle Jvm.Pilot.@@N@@.Jvm.D
abbrev Go (p : Program) (e : Env) (below : List Frame) (t T : State) (m : MethodId) (pc : Nat) (ls : Array Slot) (st : List Value) : Prop := Steps p.tables e below (T.setTop (mkF m pc ls st)) t
/-- from A the run comes to B -/
def Goes (p : Program) (e : Env) (below : List Frame) (A B : State) : Prop := ∀ t, Steps p.tables e below B t → Steps p.tables e below A t
abbrev dLt (x y : UInt64) : Prop := FP.dcmp x y = some .lt
abbrev dEq (x y : UInt64) : Prop := FP.dcmp x y = some .eq
abbrev dLe (x y : UInt64) : Prop := FP.dcmp x y = some .lt ∨ FP.dcmp x y = some .eq
abbrev fLt (x y : UInt32) : Prop := FP.fcmp x y = some .lt
abbrev fEq (x y : UInt32) : Prop := FP.fcmp x y = some .eq
abbrev fLe (x y : UInt32) : Prop := FP.fcmp x y = some .lt ∨ FP.fcmp x y = some .eq
theorem Sta.keepO {Z : State} {h h' : Heap} {C n d : String} {v : Value} {ws : List Addr} (F : Sta Z h C n d v) (K : Keep h h' ws) (q : ∀ x ∈ ws, ∀ cell : Cell, h[x]? = some cell → cell.vm.isStatics = false) : Sta Z h' C n d v := by
  obtain ⟨cf, i, k, f, st, cell, h1, h2, h3, h4, h5, h6, h7⟩ := F
  refine ⟨cf, i, k, f, st, cell, h1, h2, h3, h4, K.2.1 _ _ h5 fun hm => ?_, h6, h7⟩
  rw [q _ hm _ h5] at h6; cases h6
theorem own_swap (o : Option Ordering) : o.map Ordering.swap = some .lt ↔ o = some .gt := by rcases o with _ | (_ | _ | _) <;> simp [Ordering.swap]
theorem own_swapE (o : Option Ordering) : o.map Ordering.swap = some .eq ↔ o = some .eq := by rcases o with _ | (_ | _ | _) <;> simp [Ordering.swap]
theorem own_dgt (x y : UInt64) : dLt y x ↔ FP.dcmp x y = some .gt := by
  show FP.Core.dcmp y x = some .lt ↔ FP.Core.dcmp x y = some .gt
  rw [FP.Core.dcmp_swap x y]; exact own_swap _
theorem own_dge (x y : UInt64) : dLe y x ↔ (FP.dcmp x y = some .gt ∨ FP.dcmp x y = some .eq) := by
  show (FP.Core.dcmp y x = some .lt ∨ FP.Core.dcmp y x = some .eq) ↔ (FP.Core.dcmp x y = some .gt ∨ FP.Core.dcmp x y = some .eq)
  rw [FP.Core.dcmp_swap x y, own_swap, own_swapE]
theorem own_fgt (x y : UInt32) : fLt y x ↔ FP.fcmp x y = some .gt := by
  show FP.Core.fcmp y x = some .lt ↔ FP.Core.fcmp x y = some .gt
  rw [FP.Core.fcmp_swap x y]; exact own_swap _
theorem own_fge (x y : UInt32) : fLe y x ↔ (FP.fcmp x y = some .gt ∨ FP.fcmp x y = some .eq) := by
  show (FP.Core.fcmp y x = some .lt ∨ FP.Core.fcmp y x = some .eq) ↔ (FP.Core.fcmp x y = some .gt ∨ FP.Core.fcmp x y = some .eq)
  rw [FP.Core.fcmp_swap x y, own_swap, own_swapE]
theorem own_c (o : Option Ordering) :
    (o = some .lt → ifCond.holds .ge (cmpValue o .g) = false ∧ ifCond.holds .lt (cmpValue o .g) = true) ∧
    (¬ o = some .lt → ifCond.holds .ge (cmpValue o .g) = true ∧ ifCond.holds .lt (cmpValue o .g) = false) ∧
    ((o = some .lt ∨ o = some .eq) → ifCond.holds .gt (cmpValue o .g) = false ∧ ifCond.holds .le (cmpValue o .g) = true) ∧
    (¬ (o = some .lt ∨ o = some .eq) → ifCond.holds .gt (cmpValue o .g) = true ∧ ifCond.holds .le (cmpValue o .g) = false) ∧
    (o = some .gt → ifCond.holds .le (cmpValue o .l) = false ∧ ifCond.holds .gt (cmpValue o .l) = true) ∧
    (¬ o = some .gt → ifCond.holds .le (cmpValue o .l) = true ∧ ifCond.holds .gt (cmpValue o .l) = false) ∧
    ((o = some .gt ∨ o = some .eq) → ifCond.holds .lt (cmpValue o .l) = false ∧ ifCond.holds .ge (cmpValue o .l) = true) ∧
    (¬ (o = some .gt ∨ o = some .eq) → ifCond.holds .lt (cmpValue o .l) = true ∧ ifCond.holds .ge (cmpValue o .l) = false) ∧
    (o = some .eq → ∀ q, ifCond.holds .ne (cmpValue o q) = false ∧ ifCond.holds .eq (cmpValue o q) = true) ∧
    (¬ o = some .eq → ∀ q, ifCond.holds .ne (cmpValue o q) = true ∧ ifCond.holds .eq (cmpValue o q) = false) := by
  refine ⟨?_, ?_, ?_, ?_, ?_, ?_, ?_, ?_, ?_, ?_⟩ <;> rcases o with _ | (_ | _ | _) <;> first | (intro h; exact ⟨by decide, by decide⟩) | (intro h q; cases q <;> exact ⟨by decide, by decide⟩) | (intro h; simp at h; done) | (intro h; exact absurd rfl h) | (intro h; exact absurd (Or.inl rfl) h) | (intro h; exact absurd (Or.inr rfl) h)
theorem dc_g_ge_f {x y : UInt64} (h : dLt x y) : ifCond.holds .ge (cmpValue (FP.dcmp x y) .g) = false := ((own_c _).1 h).1
theorem dc_g_ge_t {x y : UInt64} (h : ¬ dLt x y) : ifCond.holds .ge (cmpValue (FP.dcmp x y) .g) = true := ((own_c _).2.1 h).1
theorem dc_g_lt_t {x y : UInt64} (h : dLt x y) : ifCond.holds .lt (cmpValue (FP.dcmp x y) .g) = true := ((own_c _).1 h).2
theorem dc_g_lt_f {x y : UInt64} (h : ¬ dLt x y) : ifCond.holds .lt (cmpValue (FP.dcmp x y) .g) = false := ((own_c _).2.1 h).2
theorem dc_g_gt_f {x y : UInt64} (h : dLe x y) : ifCond.holds .gt (cmpValue (FP.dcmp x y) .g) = false := ((own_c _).2.2.1 h).1
theorem dc_g_gt_t {x y : UInt64} (h : ¬ dLe x y) : ifCond.holds .gt (cmpValue (FP.dcmp x y) .g) = true := ((own_c _).2.2.2.1 h).1
theorem dc_g_le_t {x y : UInt64} (h : dLe x y) : ifCond.holds .le (cmpValue (FP.dcmp x y) .g) = true := ((own_c _).2.2.1 h).2
theorem dc_g_le_f {x y : UInt64} (h : ¬ dLe x y) : ifCond.holds .le (cmpValue (FP.dcmp x y) .g) = false := ((own_c _).2.2.2.1 h).2
theorem dc_l_le_f {x y : UInt64} (h : dLt y x) : ifCond.holds .le (cmpValue (FP.dcmp x y) .l) = false := ((own_c _).2.2.2.2.1 ((own_dgt x y).mp h)).1
theorem dc_l_le_t {x y : UInt64} (h : ¬ dLt y x) : ifCond.holds .le (cmpValue (FP.dcmp x y) .l) = true := ((own_c _).2.2.2.2.2.1 (fun q => h ((own_dgt x y).mpr q))).1
theorem dc_l_gt_t {x y : UInt64} (h : dLt y x) : ifCond.holds .gt (cmpValue (FP.dcmp x y) .l) = true := ((own_c _).2.2.2.2.1 ((own_dgt x y).mp h)).2
theorem dc_l_gt_f {x y : UInt64} (h : ¬ dLt y x) : ifCond.holds .gt (cmpValue (FP.dcmp x y) .l) = false := ((own_c _).2.2.2.2.2.1 (fun q => h ((own_dgt x y).mpr q))).2
theorem dc_l_lt_f {x y : UInt64} (h : dLe y x) : ifCond.holds .lt (cmpValue (FP.dcmp x y) .l) = false := ((own_c _).2.2.2.2.2.2.1 ((own_dge x y).mp h)).1
theorem dc_l_lt_t {x y : UInt64} (h : ¬ dLe y x) : ifCond.holds .lt (cmpValue (FP.dcmp x y) .l) = true := ((own_c _).2.2.2.2.2.2.2.1 (fun q => h ((own_dge x y).mpr q))).1
theorem dc_l_ge_t {x y : UInt64} (h : dLe y x) : ifCond.holds .ge (cmpValue (FP.dcmp x y) .l) = true := ((own_c _).2.2.2.2.2.2.1 ((own_dge x y).mp h)).2
theorem dc_l_ge_f {x y : UInt64} (h : ¬ dLe y x) : ifCond.holds .ge (cmpValue (FP.dcmp x y) .l) = false := ((own_c _).2.2.2.2.2.2.2.1 (fun q => h ((own_dge x y).mpr q))).2
theorem dc_l_ne_f {x y : UInt64} (h : dEq x y) : ifCond.holds .ne (cmpValue (FP.dcmp x y) .l) = false := ((own_c _).2.2.2.2.2.2.2.2.1 h _).1
theorem dc_l_ne_t {x y : UInt64} (h : ¬ dEq x y) : ifCond.holds .ne (cmpValue (FP.dcmp x y) .l) = true := ((own_c _).2.2.2.2.2.2.2.2.2 h _).1
theorem dc_l_eq_t {x y : UInt64} (h : dEq x y) : ifCond.holds .eq (cmpValue (FP.dcmp x y) .l) = true := ((own_c _).2.2.2.2.2.2.2.2.1 h _).2
theorem dc_l_eq_f {x y : UInt64} (h : ¬ dEq x y) : ifCond.holds .eq (cmpValue (FP.dcmp x y) .l) = false := ((own_c _).2.2.2.2.2.2.2.2.2 h _).2
theorem dc_g_ne_f {x y : UInt64} (h : dEq x y) : ifCond.holds .ne (cmpValue (FP.dcmp x y) .g) = false := ((own_c _).2.2.2.2.2.2.2.2.1 h _).1
theorem dc_g_ne_t {x y : UInt64} (h : ¬ dEq x y) : ifCond.holds .ne (cmpValue (FP.dcmp x y) .g) = true := ((own_c _).2.2.2.2.2.2.2.2.2 h _).1
theorem dc_g_eq_t {x y : UInt64} (h : dEq x y) : ifCond.holds .eq (cmpValue (FP.dcmp x y) .g) = true := ((own_c _).2.2.2.2.2.2.2.2.1 h _).2
theorem dc_g_eq_f {x y : UInt64} (h : ¬ dEq x y) : ifCond.holds .eq (cmpValue (FP.dcmp x y) .g) = false := ((own_c _).2.2.2.2.2.2.2.2.2 h _).2
theorem fc_g_ge_f {x y : UInt32} (h : fLt x y) : ifCond.holds .ge (cmpValue (FP.fcmp x y) .g) = false := ((own_c _).1 h).1
theorem fc_g_ge_t {x y : UInt32} (h : ¬ fLt x y) : ifCond.holds .ge (cmpValue (FP.fcmp x y) .g) = true := ((own_c _).2.1 h).1
theorem fc_g_lt_t {x y : UInt32} (h : fLt x y) : ifCond.holds .lt (cmpValue (FP.fcmp x y) .g) = true := ((own_c _).1 h).2
theorem fc_g_lt_f {x y : UInt32} (h : ¬ fLt x y) : ifCond.holds .lt (cmpValue (FP.fcmp x y) .g) = false := ((own_c _).2.1 h).2
theorem fc_g_gt_f {x y : UInt32} (h : fLe x y) : ifCond.holds .gt (cmpValue (FP.fcmp x y) .g) = false := ((own_c _).2.2.1 h).1
theorem fc_g_gt_t {x y : UInt32} (h : ¬ fLe x y) : ifCond.holds .gt (cmpValue (FP.fcmp x y) .g) = true := ((own_c _).2.2.2.1 h).1
theorem fc_g_le_t {x y : UInt32} (h : fLe x y) : ifCond.holds .le (cmpValue (FP.fcmp x y) .g) = true := ((own_c _).2.2.1 h).2
theorem fc_g_le_f {x y : UInt32} (h : ¬ fLe x y) : ifCond.holds .le (cmpValue (FP.fcmp x y) .g) = false := ((own_c _).2.2.2.1 h).2
theorem fc_l_le_f {x y : UInt32} (h : fLt y x) : ifCond.holds .le (cmpValue (FP.fcmp x y) .l) = false := ((own_c _).2.2.2.2.1 ((own_fgt x y).mp h)).1
theorem fc_l_le_t {x y : UInt32} (h : ¬ fLt y x) : ifCond.holds .le (cmpValue (FP.fcmp x y) .l) = true := ((own_c _).2.2.2.2.2.1 (fun q => h ((own_fgt x y).mpr q))).1
theorem fc_l_gt_t {x y : UInt32} (h : fLt y x) : ifCond.holds .gt (cmpValue (FP.fcmp x y) .l) = true := ((own_c _).2.2.2.2.1 ((own_fgt x y).mp h)).2
theorem fc_l_gt_f {x y : UInt32} (h : ¬ fLt y x) : ifCond.holds .gt (cmpValue (FP.fcmp x y) .l) = false := ((own_c _).2.2.2.2.2.1 (fun q => h ((own_fgt x y).mpr q))).2
theorem fc_l_lt_f {x y : UInt32} (h : fLe y x) : ifCond.holds .lt (cmpValue (FP.fcmp x y) .l) = false := ((own_c _).2.2.2.2.2.2.1 ((own_fge x y).mp h)).1
theorem fc_l_lt_t {x y : UInt32} (h : ¬ fLe y x) : ifCond.holds .lt (cmpValue (FP.fcmp x y) .l) = true := ((own_c _).2.2.2.2.2.2.2.1 (fun q => h ((own_fge x y).mpr q))).1
theorem fc_l_ge_t {x y : UInt32} (h : fLe y x) : ifCond.holds .ge (cmpValue (FP.fcmp x y) .l) = true := ((own_c _).2.2.2.2.2.2.1 ((own_fge x y).mp h)).2
theorem fc_l_ge_f {x y : UInt32} (h : ¬ fLe y x) : ifCond.holds .ge (cmpValue (FP.fcmp x y) .l) = false := ((own_c _).2.2.2.2.2.2.2.1 (fun q => h ((own_fge x y).mpr q))).2
theorem fc_l_ne_f {x y : UInt32} (h : fEq x y) : ifCond.holds .ne (cmpValue (FP.fcmp x y) .l) = false := ((own_c _).2.2.2.2.2.2.2.2.1 h _).1
theorem fc_l_ne_t {x y : UInt32} (h : ¬ fEq x y) : ifCond.holds .ne (cmpValue (FP.fcmp x y) .l) = true := ((own_c _).2.2.2.2.2.2.2.2.2 h _).1
theorem fc_l_eq_t {x y : UInt32} (h : fEq x y) : ifCond.holds .eq (cmpValue (FP.fcmp x y) .l) = true := ((own_c _).2.2.2.2.2.2.2.2.1 h _).2
theorem fc_l_eq_f {x y : UInt32} (h : ¬ fEq x y) : ifCond.holds .eq (cmpValue (FP.fcmp x y) .l) = false := ((own_c _).2.2.2.2.2.2.2.2.2 h _).2
theorem fc_g_ne_f {x y : UInt32} (h : fEq x y) : ifCond.holds .ne (cmpValue (FP.fcmp x y) .g) = false := ((own_c _).2.2.2.2.2.2.2.2.1 h _).1
theorem fc_g_ne_t {x y : UInt32} (h : ¬ fEq x y) : ifCond.holds .ne (cmpValue (FP.fcmp x y) .g) = true := ((own_c _).2.2.2.2.2.2.2.2.2 h _).1
theorem fc_g_eq_t {x y : UInt32} (h : fEq x y) : ifCond.holds .eq (cmpValue (FP.fcmp x y) .g) = true := ((own_c _).2.2.2.2.2.2.2.2.1 h _).2
theorem fc_g_eq_f {x y : UInt32} (h : ¬ fEq x y) : ifCond.holds .eq (cmpValue (FP.fcmp x y) .g) = false := ((own_c _).2.2.2.2.2.2.2.2.2 h _).2
theorem d0_0 : decode prog_48_method_5_code 0 = .ok (.dload_n 2, 1) := by decide +kernel
theorem d0_1 : decode prog_48_method_5_code 1 = .ok (.dconst 0, 1) := by decide +kernel
theorem d0_2 : decode prog_48_method_5_code 2 = .ok (.dcmp .l, 1) := by decide +kernel
theorem d0_3 : decode prog_48_method_5_code 3 = .ok (.ifCond .ne 9, 3) := by decide +kernel
theorem d0_6 : decode prog_48_method_5_code 6 = .ok (.dconst 0, 1) := by decide +kernel
theorem d0_7 : decode prog_48_method_5_code 7 = .ok (.dstore 6, 2) := by decide +kernel
theorem d0_9 : decode prog_48_method_5_code 9 = .ok (.goto 28, 3) := by decide +kernel
theorem d0_12 : decode prog_48_method_5_code 12 = .ok (.dload_n 2, 1) := by decide +kernel
theorem d0_13 : decode prog_48_method_5_code 13 = .ok (.ldc2_w 9, 3) := by decide +kernel
theorem d0_16 : decode prog_48_method_5_code 16 = .ok (.dcmp .l, 1) := by decide +kernel
theorem d0_17 : decode prog_48_method_5_code 17 = .ok (.ifCond .ne 10, 3) := by decide +kernel
theorem d0_20 : decode prog_48_method_5_code 20 = .ok (.dload 4, 2) := by decide +kernel
theorem d0_22 : decode prog_48_method_5_code 22 = .ok (.dstore 6, 2) := by decide +kernel
theorem d0_24 : decode prog_48_method_5_code 24 = .ok (.goto 13, 3) := by decide +kernel
theorem d0_27 : decode prog_48_method_5_code 27 = .ok (.dload 4, 2) := by decide +kernel
theorem d0_29 : decode prog_48_method_5_code 29 = .ok (.dload_n 2, 1) := by decide +kernel
theorem d0_30 : decode prog_48_method_5_code 30 = .ok (.dload_n 0, 1) := by decide +kernel
theorem d0_31 : decode prog_48_method_5_code 31 = .ok (.dload_n 2, 1) := by decide +kernel
theorem d0_32 : decode prog_48_method_5_code 32 = .ok (.dadd, 1) := by decide +kernel
theorem d0_33 : decode prog_48_method_5_code 33 = .ok (.ddiv, 1) := by decide +kernel
theorem d0_34 : decode prog_48_method_5_code 34 = .ok (.dmul, 1) := by decide +kernel
theorem d0_35 : decode prog_48_method_5_code 35 = .ok (.dstore 6, 2) := by decide +kernel
theorem d0_37 : decode prog_48_method_5_code 37 = .ok (.dload 6, 2) := by decide +kernel
theorem d0_39 : decode prog_48_method_5_code 39 = .ok (.dreturn, 1) := by decide +kernel
theorem pd0 : parseMethodDescriptor "(DDD)D" = some ⟨[.double, .double, .double], some .double⟩ := by decide +kernel
theorem pf_sat : plainFor (⟨"com/example/narabi/narabi/ranking/Bm25", "saturate", "(DDD)D"⟩ : MethodName) = true := by first | exact plainFor_of_name (by first | (simp [plainName, overriddenIn, x]; done) | decide +kernel) | exact Jvm.Free.JP.mathPlain rfl (by decide +kernel) | decide +kernel
theorem ef_sat (m : MethodId) (xk : UInt64) (xf : UInt64) (xi : UInt64) : entryFrame m #[(.double xk), (.double xf), (.double xi)] 8 = mkF m 0 #[.val (.double xk), .second, .val (.double xf), .second, .val (.double xi), .second, .unset, .unset] [] := by first | (simp [entryFrame, mkF, argsToLocals, Value.category, maxLocals]; done) | rfl
def f_sat (xk : UInt64) (xf : UInt64) (xi : UInt64) : UInt64 := (if dEq xf (0 : UInt64) then (0 : UInt64) else (if dEq xf (9218868437227405312 : UInt64) then xi else (FP.dmul xi (FP.ddiv xf (FP.dadd xk xf)))))
def Q_sat (Z : State) (xk : UInt64) (xf : UInt64) (xi : UInt64)  (h0 : Heap) (n0 : Nat) (v : Option Value) (h : Heap) (L : List Loc) : Prop := v = some (.double (f_sat xk xf xi)) ∧ Fr n0 L ∧ h = h0
set_option maxRecDepth 65536 in
set_option maxHeartbeats 40000000 in
theorem rm_sat (l : Launch) (Z : State) (a0 : Array Value) (hw : ∀ d ∈ tables_1, d.before a0 Z = true) (ws : List Jvm.Cond) (xk : UInt64) (xf : UInt64) (xi : UInt64)  (h0 : Heap) (n0 : Nat) (Z0 : n0 ≤ h0.size)  (nn32 : ¬ (dEq xf (0 : UInt64)) → ¬ (dEq xf (9218868437227405312 : UInt64)) → Jvm.Free.Fl.NoNaN64 (FP.dadd xk xf)) (nn33 : ¬ (dEq xf (0 : UInt64)) → ¬ (dEq xf (9218868437227405312 : UInt64)) → Jvm.Free.Fl.NoNaN64 (FP.ddiv xf (FP.dadd xk xf))) (nn34 : ¬ (dEq xf (0 : UInt64)) → ¬ (dEq xf (9218868437227405312 : UInt64)) → Jvm.Free.Fl.NoNaN64 (FP.dmul xi (FP.ddiv xf (FP.dadd xk xf)))) :
    MetFree l (⟨"com/example/narabi/narabi/ranking/Bm25", "saturate", "(DDD)D"⟩ : MethodName) (head1 (Jvm.Cond.code (⟨"com/example/narabi/narabi/ranking/Bm25", "saturate", "(DDD)D"⟩ : MethodName) prog_48_method_5_code 8 (some .double) :: ws) ({ frames := 0, cells := 0, slots := 0, locals := 0 } : Room)) (fun a U => a = #[(.double xk), (.double xf), (.double xi)] ∧ Z.Warmed39 U.vm ∧ U.heap = h0) (fun _ _ _ _ _ => True) (fun _ U o U' => ∃ v L, o = .returned v ∧ Q_sat Z xk xf xi  h0 n0 v U'.heap L ∧ FrameEnd U o U' L ({ frames := 0, cells := 0, slots := 0, locals := 0 } : Room).cells ({ frames := 0, cells := 0, slots := 0, locals := 0 } : Room).slots) := by
  refine MetFree.of_bodySF pf_sat hisR ?_
  intro p e s m args below meth c s₁ Bd hml0 hP hK
  obtain ⟨rfl, hZ, hh⟩ := hP
  have hx := Bd.exec
  have hby := Bd.bytes
  have hml : c.maxLocals = 8 := hml0
  have hown : s.vm.findClass "com/example/narabi/narabi/ranking/Bm25" = some m.cls := findClass_of_methodNamed Bd.named
  have hnm := (name_of_methodNamed Bd.named Bd.method).1
  have X0 : Stand p l e ({ frames := 0, cells := 0, slots := 0, locals := 0 } : Room) s m #[(.double xk), (.double xf), (.double xi)] below meth c s₁ [] 0 0 := Stand.of_body Bd
  have e0 : s₁.heap = h0 := by rw [← hh, Bd.state]; rfl
  have N0 := Fr.nil n0
  obtain ⟨S0, hS0⟩ : ∃ z, z = s₁.setTop (entryFrame m #[(.double xk), (.double xf), (.double xi)] 8) := ⟨_, rfl⟩
  rw [← hS0]
  have g0 : Goes p e below S0 (s₁.setTop (mkF m 0 #[.val (.double xk), .second, .val (.double xf), .second, .val (.double xi), .second, .unset, .unset] [])) := fun t k => by rw [hS0]; exact castTop (ef_sat m xk xf xi) k
  have g1 : Goes p e below S0 (s₁.setTop (mkF m 3 #[.val (.double xk), .second, .val (.double xf), .second, .val (.double xi), .second, .unset, .unset] [(.int (cmpValue (FP.dcmp xf (0 : UInt64)) .l))])) := fun t k => g0 t (by
    refine XS.dloadN X0.here hx rfl (hb hby d0_0) rfl ?_
    show Go p e below t s₁ m 1 #[.val (.double xk), .second, .val (.double xf), .second, .val (.double xi), .second, .unset, .unset] [(.double xf)]
    refine XS.dconst0 X0.here hx rfl (hb hby d0_1) (v := (0 : UInt64)) rfl ?_
    show Go p e below t s₁ m 2 #[.val (.double xk), .second, .val (.double xf), .second, .val (.double xi), .second, .unset, .unset] [(.double (0 : UInt64)), (.double xf)]
    refine XS.dcmpS X0.here hx rfl (hb hby d0_2) rfl rfl ?_
    show Go p e below t s₁ m 3 #[.val (.double xk), .second, .val (.double xf), .second, .val (.double xi), .second, .unset, .unset] [(.int (cmpValue (FP.dcmp xf (0 : UInt64)) .l))]
    exact k)
  by_cases h2 : dEq xf (0 : UInt64)
  · skip
    have g3 : Goes p e below S0 (s₁.setTop (mkF m 39 #[.val (.double xk), .second, .val (.double xf), .second, .val (.double xi), .second, .val (.double (0 : UInt64)), .second] [(.double (0 : UInt64))])) := fun t k => g1 t (by
      refine XS.ifNo X0.here hx rfl (hb hby d0_3) rfl (dc_l_ne_f h2) ?_
      show Go p e below t s₁ m 6 #[.val (.double xk), .second, .val (.double xf), .second, .val (.double xi), .second, .unset, .unset] []
      refine XS.dconst0 X0.here hx rfl (hb hby d0_6) (v := (0 : UInt64)) rfl ?_
      show Go p e below t s₁ m 7 #[.val (.double xk), .second, .val (.double xf), .second, .val (.double xi), .second, .unset, .unset] [(.double (0 : UInt64))]
      refine XS.dstore X0.here hx rfl (hb hby d0_7) rfl (l' := #[.val (.double xk), .second, .val (.double xf), .second, .val (.double xi), .second, .val (.double (0 : UInt64)), .second]) rfl ?_
      show Go p e below t s₁ m 9 #[.val (.double xk), .second, .val (.double xf), .second, .val (.double xi), .second, .val (.double (0 : UInt64)), .second] []
      refine XS.goto X0.here hx rfl (pc0 := 9) (pc' := 37) rfl (hb hby d0_9) (by decide) (by decide) ?_
      show Go p e below t s₁ m 37 #[.val (.double xk), .second, .val (.double xf), .second, .val (.double xi), .second, .val (.double (0 : UInt64)), .second] []
      refine XS.dload X0.here hx rfl (hb hby d0_37) rfl ?_
      show Go p e below t s₁ m 39 #[.val (.double xk), .second, .val (.double xf), .second, .val (.double xi), .second, .val (.double (0 : UInt64)), .second] [(.double (0 : UInt64))]
      exact k)
    obtain ⟨fs, hr, hrun, hended, hW, hsame⟩ := X0.leave (v := some (.double (0 : UInt64))) (fun h => by rw [Bd.returns] at h; cases h)
    refine ⟨_, _, g3 _ (retOut X0 hx Bd.returns rfl (Or.inr (Or.inr (Or.inl ⟨rfl, rfl, _, rfl⟩))) (hb hby d0_39) hr), hrun, hended, _, _, rfl, ?_, ⟨_, rfl⟩, hW, hsame.mono (by decide) (by decide)⟩
    show Q_sat Z xk xf xi  h0 n0 _ s₁.heap _
    rw [e0]
    exact ⟨by unfold f_sat; rw [if_pos h2], N0, rfl⟩
  · skip
    have g4 : Goes p e below S0 (s₁.setTop (mkF m 17 #[.val (.double xk), .second, .val (.double xf), .second, .val (.double xi), .second, .unset, .unset] [(.int (cmpValue (FP.dcmp xf (9218868437227405312 : UInt64)) .l))])) := fun t k => g1 t (by
      refine XS.ifYes X0.here hx rfl (pc0 := 3) (pc' := 12) rfl (hb hby d0_3) rfl (dc_l_ne_t h2) (by decide) (by decide) ?_
      show Go p e below t s₁ m 12 #[.val (.double xk), .second, .val (.double xf), .second, .val (.double xi), .second, .unset, .unset] []
      refine XS.dloadN X0.here hx rfl (hb hby d0_12) rfl ?_
      show Go p e below t s₁ m 13 #[.val (.double xk), .second, .val (.double xf), .second, .val (.double xi), .second, .unset, .unset] [(.double xf)]
      refine X0.ldc2DoubleC hx hown (mvT hZ (hw _ (List.mem_of_getElem? (i := 7) rfl))) (g := (mkF m 13 #[.val (.double xk), .second, .val (.double xf), .second, .val (.double xi), .second, .unset, .unset] [(.double xf)])) rfl (hb hby d0_13) _ ?_
      show Go p e below t s₁ m 16 #[.val (.double xk), .second, .val (.double xf), .second, .val (.double xi), .second, .unset, .unset] [(.double (9218868437227405312 : UInt64)), (.double xf)]
      refine XS.dcmpS X0.here hx rfl (hb hby d0_16) rfl rfl ?_
      show Go p e below t s₁ m 17 #[.val (.double xk), .second, .val (.double xf), .second, .val (.double xi), .second, .unset, .unset] [(.int (cmpValue (FP.dcmp xf (9218868437227405312 : UInt64)) .l))]
      exact k)
    by_cases h5 : dEq xf (9218868437227405312 : UInt64)
    · skip
      have g6 : Goes p e below S0 (s₁.setTop (mkF m 39 #[.val (.double xk), .second, .val (.double xf), .second, .val (.double xi), .second, .val (.double xi), .second] [(.double xi)])) := fun t k => g4 t (by
        refine XS.ifNo X0.here hx rfl (hb hby d0_17) rfl (dc_l_ne_f h5) ?_
        show Go p e below t s₁ m 20 #[.val (.double xk), .second, .val (.double xf), .second, .val (.double xi), .second, .unset, .unset] []
        refine XS.dload X0.here hx rfl (hb hby d0_20) rfl ?_
        show Go p e below t s₁ m 22 #[.val (.double xk), .second, .val (.double xf), .second, .val (.double xi), .second, .unset, .unset] [(.double xi)]
        refine XS.dstore X0.here hx rfl (hb hby d0_22) rfl (l' := #[.val (.double xk), .second, .val (.double xf), .second, .val (.double xi), .second, .val (.double xi), .second]) rfl ?_
        show Go p e below t s₁ m 24 #[.val (.double xk), .second, .val (.double xf), .second, .val (.double xi), .second, .val (.double xi), .second] []
        refine XS.goto X0.here hx rfl (pc0 := 24) (pc' := 37) rfl (hb hby d0_24) (by decide) (by decide) ?_
        show Go p e below t s₁ m 37 #[.val (.double xk), .second, .val (.double xf), .second, .val (.double xi), .second, .val (.double xi), .second] []
        refine XS.dload X0.here hx rfl (hb hby d0_37) rfl ?_
        show Go p e below t s₁ m 39 #[.val (.double xk), .second, .val (.double xf), .second, .val (.double xi), .second, .val (.double xi), .second] [(.double xi)]
        exact k)
      obtain ⟨fs, hr, hrun, hended, hW, hsame⟩ := X0.leave (v := some (.double xi)) (fun h => by rw [Bd.returns] at h; cases h)
      refine ⟨_, _, g6 _ (retOut X0 hx Bd.returns rfl (Or.inr (Or.inr (Or.inl ⟨rfl, rfl, _, rfl⟩))) (hb hby d0_39) hr), hrun, hended, _, _, rfl, ?_, ⟨_, rfl⟩, hW, hsame.mono (by decide) (by decide)⟩
      show Q_sat Z xk xf xi  h0 n0 _ s₁.heap _
      rw [e0]
      exact ⟨by unfold f_sat; rw [if_neg h2, if_pos h5], N0, rfl⟩
    · skip
      have g7 : Goes p e below S0 (s₁.setTop (mkF m 39 #[.val (.double xk), .second, .val (.double xf), .second, .val (.double xi), .second, .val (.double (FP.dmul xi (FP.ddiv xf (FP.dadd xk xf)))), .second] [(.double (FP.dmul xi (FP.ddiv xf (FP.dadd xk xf))))])) := fun t k => g4 t (by
        refine XS.ifYes X0.here hx rfl (pc0 := 17) (pc' := 27) rfl (hb hby d0_17) rfl (dc_l_ne_t h5) (by decide) (by decide) ?_
        show Go p e below t s₁ m 27 #[.val (.double xk), .second, .val (.double xf), .second, .val (.double xi), .second, .unset, .unset] []
        refine XS.dload X0.here hx rfl (hb hby d0_27) rfl ?_
        show Go p e below t s₁ m 29 #[.val (.double xk), .second, .val (.double xf), .second, .val (.double xi), .second, .unset, .unset] [(.double xi)]
        refine XS.dloadN X0.here hx rfl (hb hby d0_29) rfl ?_
        show Go p e below t s₁ m 30 #[.val (.double xk), .second, .val (.double xf), .second, .val (.double xi), .second, .unset, .unset] [(.double xf), (.double xi)]
        refine XS.dloadN X0.here hx rfl (hb hby d0_30) rfl ?_
        show Go p e below t s₁ m 31 #[.val (.double xk), .second, .val (.double xf), .second, .val (.double xi), .second, .unset, .unset] [(.double xk), (.double xf), (.double xi)]
        refine XS.dloadN X0.here hx rfl (hb hby d0_31) rfl ?_
        show Go p e below t s₁ m 32 #[.val (.double xk), .second, .val (.double xf), .second, .val (.double xi), .second, .unset, .unset] [(.double xf), (.double xk), (.double xf), (.double xi)]
        refine XS.daddS X0.here hx rfl (hb hby d0_32) rfl (nn32 h2 h5) rfl ?_
        show Go p e below t s₁ m 33 #[.val (.double xk), .second, .val (.double xf), .second, .val (.double xi), .second, .unset, .unset] [(.double (FP.dadd xk xf)), (.double xf), (.double xi)]
        refine XS.ddivS X0.here hx rfl (hb hby d0_33) rfl (nn33 h2 h5) rfl ?_
        show Go p e below t s₁ m 34 #[.val (.double xk), .second, .val (.double xf), .second, .val (.double xi), .second, .unset, .unset] [(.double (FP.ddiv xf (FP.dadd xk xf))), (.double xi)]
        refine XS.dmulS X0.here hx rfl (hb hby d0_34) rfl (nn34 h2 h5) rfl ?_
        show Go p e below t s₁ m 35 #[.val (.double xk), .second, .val (.double xf), .second, .val (.double xi), .second, .unset, .unset] [(.double (FP.dmul xi (FP.ddiv xf (FP.dadd xk xf))))]
        refine XS.dstore X0.here hx rfl (hb hby d0_35) rfl (l' := #[.val (.double xk), .second, .val (.double xf), .second, .val (.double xi), .second, .val (.double (FP.dmul xi (FP.ddiv xf (FP.dadd xk xf)))), .second]) rfl ?_
        show Go p e below t s₁ m 37 #[.val (.double xk), .second, .val (.double xf), .second, .val (.double xi), .second, .val (.double (FP.dmul xi (FP.ddiv xf (FP.dadd xk xf)))), .second] []
        refine XS.dload X0.here hx rfl (hb hby d0_37) rfl ?_
        show Go p e below t s₁ m 39 #[.val (.double xk), .second, .val (.double xf), .second, .val (.double xi), .second, .val (.double (FP.dmul xi (FP.ddiv xf (FP.dadd xk xf)))), .second] [(.double (FP.dmul xi (FP.ddiv xf (FP.dadd xk xf))))]
        exact k)
      obtain ⟨fs, hr, hrun, hended, hW, hsame⟩ := X0.leave (v := some (.double (FP.dmul xi (FP.ddiv xf (FP.dadd xk xf))))) (fun h => by rw [Bd.returns] at h; cases h)
      refine ⟨_, _, g7 _ (retOut X0 hx Bd.returns rfl (Or.inr (Or.inr (Or.inl ⟨rfl, rfl, _, rfl⟩))) (hb hby d0_39) hr), hrun, hended, _, _, rfl, ?_, ⟨_, rfl⟩, hW, hsame.mono (by decide) (by decide)⟩
      show Q_sat Z xk xf xi  h0 n0 _ s₁.heap _
      rw [e0]
      exact ⟨by unfold f_sat; rw [if_neg h2, if_neg h5], N0, rfl⟩
def nM (a : Int32) : Int32 := a &&& 7
def nI (a : Int32) : Int32 := a % 65536
def nKd (a : Int32) : UInt64 := FP.i2d (a &&& 65535)
def nFd (a : Int32) : UInt64 := FP.i2d ((a &&& 65535) + 1)
def nK1 (a : Int32) : UInt64 := FP.dadd (nKd a) 4607182418800017408
def nF1 (a : Int32) : UInt64 := FP.dadd (nFd a) 4607182418800017408
def nK2 (a : Int32) : UInt64 := FP.dadd (nK1 a) 4607182418800017408
def nF3 (a : Int32) : UInt64 := FP.dmul 4613937818241073152 (nFd a)
/-! whole numbers: the ceiling and the floor of N * (F / D), in units of 2^-36, by way of units of 2^-50 -/
def oA (F D : Int) : Int := (F * 1125899906842624 + D - 1) / D
def oB (F D : Int) : Int := F * 1125899906842624 / D
def oH (F D N : Int) : Int := (N * oA F D + 16383) / 16384
def oL (F D N : Int) : Int := (N * oB F D) / 16384
theorem oA_ge {F D : Int} (hD : 0 < D) : F * 1125899906842624 ≤ oA F D * D := by
  have h := Int.lt_ediv_add_one_mul_self (F * 1125899906842624 + D - 1) hD
  rw [Int.add_mul, Int.one_mul] at h
  show _ ≤ (F * 1125899906842624 + D - 1) / D * D
  omega
theorem oA_le {F D : Int} (hD : 0 < D) : oA F D * D ≤ F * 1125899906842624 + D - 1 := Int.ediv_mul_le _ (by omega)
theorem oB_le {F D : Int} (hD : 0 < D) : oB F D * D ≤ F * 1125899906842624 := Int.ediv_mul_le _ (by omega)
theorem oB_ge {F D : Int} (hD : 0 < D) : F * 1125899906842624 < oB F D * D + D := by
  have h := Int.lt_ediv_add_one_mul_self (F * 1125899906842624) hD
  rw [Int.add_mul, Int.one_mul] at h
  exact h
theorem oA_top {F D : Int} (hD : 0 < D) (h : F ≤ D) : oA F D ≤ 1125899906842624 := by
  have h1 := oA_le (F := F) hD
  refine Int.le_of_lt_add_one (Int.lt_of_mul_lt_mul_right (a := D) ?_ (by omega))
  rw [Int.add_mul, Int.one_mul]
  have : F * 1125899906842624 ≤ D * 1125899906842624 := Int.mul_le_mul_of_nonneg_right h (by omega)
  omega
theorem oB_nn {F D : Int} (hF : 0 ≤ F) (hD : 0 < D) : 0 ≤ oB F D := Int.ediv_nonneg (by omega) (by omega)
theorem oA_nn {F D : Int} (hF : 0 ≤ F) (hD : 0 < D) : 0 ≤ oA F D := Int.ediv_nonneg (by omega) (by omega)
/-- two fractions p/D < q/E that lie apart: their brackets do so too -/
theorem o_gap {p q D E A B : Int} (hD : 0 < D) (hE : 0 < E) (hA : A * D ≤ p * 1125899906842624 + D - 1) (hB : q * 1125899906842624 < B * E + E) (h : D * E ≤ (q * D - p * E) * 17179869184) : A + 65535 ≤ B := by
  have m1 : A * D * E ≤ (p * 1125899906842624 + D - 1) * E := Int.mul_le_mul_of_nonneg_right hA (by omega)
  have m2 : q * 1125899906842624 * D < (B * E + E) * D := Int.mul_lt_mul_of_pos_right hB hD
  have e1 : (p * 1125899906842624 + D - 1) * E = p * E * 1125899906842624 + D * E - E := by
    rw [Int.sub_mul, Int.add_mul, Int.one_mul, Int.mul_right_comm]
  have e2 : (B * E + E) * D = B * (D * E) + D * E := by
    rw [Int.add_mul, Int.mul_assoc, Int.mul_comm E D]
  have e3 : q * 1125899906842624 * D = q * D * 1125899906842624 := Int.mul_right_comm ..
  have e4 : A * D * E = A * (D * E) := Int.mul_assoc ..
  rw [e1, e4] at m1
  rw [e2, e3] at m2
  have hP : 0 < D * E := Int.mul_pos hD hE
  have k : 65536 * (D * E) < (B + 2 - A) * (D * E) := by
    rw [Int.sub_mul, Int.add_mul]
    generalize D * E = P at *
    generalize A * P = x at *
    generalize B * P = y at *
    generalize q * D = u at *
    generalize p * E = v at *
    omega
  have := Int.lt_of_mul_lt_mul_right k (by omega)
  omega
theorem o_fin {A B N : Int} (hN : 1 ≤ N) (h : A + 65535 ≤ B) : (N * A + 16383) / 16384 < (N * B) / 16384 := by
  have h1 : N * (A + 65535) ≤ N * B := Int.mul_le_mul_of_nonneg_left h (by omega)
  rw [Int.mul_add] at h1
  have h2 : 1 * 65535 ≤ N * 65535 := Int.mul_le_mul_of_nonneg_right hN (by omega)
  generalize N * A = x at *
  generalize N * B = y at *
  omega
theorem o_up {K F N : Int} (hK : 1 ≤ K) (hK2 : K ≤ 65537) (hF : 1 ≤ F) (hF2 : F ≤ 65537) (hN : 1 ≤ N) : oH F (K + F) N < oL (F + 1) (K + (F + 1)) N := by
  refine o_fin hN (o_gap (D := K + F) (E := K + (F + 1)) (by omega) (by omega) (oA_le (by omega)) (oB_ge (by omega)) ?_)
  have e : (F + 1) * (K + F) - F * (K + (F + 1)) = K := by
    rw [Int.add_mul, Int.one_mul, Int.mul_add F K, Int.mul_add F K, Int.mul_add F F]
    generalize F * K = x
    generalize F * F = y
    omega
  rw [e]
  have h1 : (K + F) * (K + (F + 1)) ≤ 131074 * (K + (F + 1)) := Int.mul_le_mul_of_nonneg_right (by omega) (by omega)
  omega
theorem o_dn {K F N : Int} (hK : 1 ≤ K) (hK2 : K ≤ 65537) (hF : 1 ≤ F) (hF2 : F ≤ 65537) (hN : 1 ≤ N) : oH F (K + 1 + F) N < oL F (K + F) N := by
  refine o_fin hN (o_gap (D := K + 1 + F) (E := K + F) (by omega) (by omega) (oA_le (by omega)) (oB_ge (by omega)) ?_)
  have e : F * (K + 1 + F) - F * (K + F) = F := by
    rw [Int.mul_add, Int.mul_add, Int.mul_add]
    generalize F * K = x
    generalize F * F = y
    omega
  rw [e]
  have h1 : (K + 1 + F) * (K + F) ≤ 131075 * (K + F) := Int.mul_le_mul_of_nonneg_right (by omega) (by omega)
  omega
theorem o_top {K F N : Int} (hK : 1 ≤ K) (hK2 : K ≤ 65537) (hF : 1 ≤ F) (hF2 : F ≤ 65537) (hN : 1 ≤ N) : oH F (K + F) N < N * 68719476736 := by
  have hD : 0 < K + F := by omega
  have h1 := oA_le (F := F) hD
  have h2 : oA F (K + F) ≤ 1125899906842624 - 32769 := by
    refine Int.le_of_lt_add_one (Int.lt_of_mul_lt_mul_right (a := K + F) ?_ (by omega))
    generalize oA F (K + F) * (K + F) = x at *
    omega
  have h3 : N * oA F (K + F) ≤ N * (1125899906842624 - 32769) := Int.mul_le_mul_of_nonneg_left h2 (by omega)
  unfold oH
  generalize N * oA F (K + F) = x at *
  omega
theorem o_bot {K F N : Int} (hK : 0 ≤ K) (hK2 : K ≤ 65537) (hF : 1 ≤ F) (hF2 : F ≤ 65537) (hN : 1 ≤ N) : 0 < oL F (K + F) N := by
  have hD : 0 < K + F := by omega
  have h1 := oB_ge (F := F) hD
  have h2 : 32768 ≤ oB F (K + F) := by
    refine Int.le_of_lt_add_one (Int.lt_of_mul_lt_mul_right (a := K + F) ?_ (by omega))
    rw [Int.add_mul, Int.one_mul]
    generalize oB F (K + F) * (K + F) = x at *
    omega
  have h3 : N * 32768 ≤ N * oB F (K + F) := Int.mul_le_mul_of_nonneg_left h2 (by omega)
  unfold oL
  generalize N * oB F (K + F) = x at *
  omega
section Own
open Jvm.OwnFP
theorem own_e0 : dEq (0 : UInt64) (0 : UInt64) := by decide +kernel
theorem own_ei : dEq (9218868437227405312 : UInt64) (9218868437227405312 : UInt64) := by decide +kernel
theorem own_v1 : Val (4607182418800017408 : UInt64) 1 1074 := Val.of_int FP.Core.dint_one
theorem own_v3 : Val (4613937818241073152 : UInt64) 3 1074 := ⟨dfin_const (by decide), by decide +kernel⟩
theorem own_v2 : Val (4611686018427387904 : UInt64) 1 1075 := ⟨dfin_const (by decide), by decide +kernel⟩
theorem own_v4 : Val (4616189618054758400 : UInt64) 1 1076 := ⟨dfin_const (by decide), by decide +kernel⟩
theorem own_vz (k : Nat) : Val (0 : UInt64) 0 k := by
  have h := Val.i2d 0
  rw [show FP.i2d 0 = (0 : UInt64) by decide +kernel] at h
  exact ⟨h.1, by rw [h.2, show (0 : Int32).toInt = 0 by decide, Int.zero_mul, Int.zero_mul]⟩
def kv (a : Int32) : Int := (a &&& 65535).toInt
def fv (a : Int32) : Int := ((a &&& 65535) + 1).toInt
theorem own_kr (a : Int32) : 0 ≤ kv a ∧ kv a ≤ 65535 := by
  have := c_mask a 65535 16 (by decide) (by decide)
  unfold kv; omega
theorem own_fr (a : Int32) : 1 ≤ fv a ∧ fv a ≤ 65536 := by
  have h := c_mask a 65535 16 (by decide) (by decide)
  have h1 := c_iadd (a &&& 65535) 1
  have h2 := rng32 ((a &&& 65535) + 1)
  have z : (1 : Int32).toInt = 1 := by decide
  unfold fv; omega
theorem own_ir (a : Int32) : -65536 < (nI a).toInt ∧ (nI a).toInt < 65536 := by
  have h := c_irem a 65536 65536 (by decide)
  unfold nI
  by_cases q : 0 ≤ a.toInt
  · have := h.1 q; omega
  · have := h.2 (by omega); omega
theorem vK (a : Int32) : Val (nKd a) (kv a) 1074 := Val.i2d _
theorem vF (a : Int32) : Val (nFd a) (fv a) 1074 := Val.i2d _
theorem vI (a : Int32) : Val (FP.i2d (nI a)) (nI a).toInt 1074 := Val.i2d _
theorem vK1 (a : Int32) : Val (nK1 a) (kv a + 1) 1074 := (vK a).add own_v1 (by have := own_kr a; omega) (by decide)
theorem vF1 (a : Int32) : Val (nF1 a) (fv a + 1) 1074 := (vF a).add own_v1 (by have := own_fr a; omega) (by decide)
theorem vK2 (a : Int32) : Val (nK2 a) (kv a + 1 + 1) 1074 := (vK1 a).add own_v1 (by have := own_kr a; omega) (by decide)
theorem vF3 (a : Int32) : Val (nF3 a) (3 * fv a) 1074 := own_v3.mul (vF a) (by have := own_fr a; omega) rfl (by decide)
theorem own_vn {a : UInt64} {N : Int} {k : Nat} (h : Val a N k) : Jvm.Free.Fl.NoNaN64 a := Jvm.Free.Fl.val64_no.mpr (fin_ne h.1)
theorem own_fn {a : UInt64} (h : FP.Core.DFin a) : Jvm.Free.Fl.NoNaN64 a := Jvm.Free.Fl.val64_no.mpr (fin_ne h)
theorem own_k1 (a : Int32) : Jvm.Free.Fl.NoNaN64 (FP.dadd (nKd a) (4607182418800017408 : UInt64)) := own_vn (vK1 a)
theorem own_k2 (a : Int32) : Jvm.Free.Fl.NoNaN64 (FP.dadd (nK1 a) (4607182418800017408 : UInt64)) := own_vn (vK2 a)
theorem own_f1 (a : Int32) : Jvm.Free.Fl.NoNaN64 (FP.dadd (nFd a) (4607182418800017408 : UInt64)) := own_vn (vF1 a)
theorem own_f3 (a : Int32) : Jvm.Free.Fl.NoNaN64 (FP.dmul (4613937818241073152 : UInt64) (nFd a)) := own_vn (vF3 a)
theorem vI2 (a : Int32) : Val (FP.ddiv (FP.i2d (nI a)) (4611686018427387904 : UInt64)) (nI a).toInt 1073 := (vI a).div2 own_v2 (by have := own_ir a; omega) rfl (by decide)
theorem vI4 (a : Int32) : Val (FP.ddiv (FP.i2d (nI a)) (4616189618054758400 : UInt64)) (nI a).toInt 1072 := (vI a).div2 own_v4 (by have := own_ir a; omega) rfl (by decide)
theorem own_d2 (a : Int32) : Jvm.Free.Fl.NoNaN64 (FP.ddiv (FP.i2d (nI a)) (4611686018427387904 : UInt64)) := own_vn (vI2 a)
theorem own_d4 (a : Int32) : Jvm.Free.Fl.NoNaN64 (FP.ddiv (FP.i2d (nI a)) (4616189618054758400 : UInt64)) := own_vn (vI4 a)
theorem own_eqv {a b : UInt64} {N M : Int} {k : Nat} (ha : Val a N k) (hb : Val b M k) : dEq a b ↔ N = M := by
  unfold dEq
  rw [ha.cmp hb, Option.some.injEq, FP.Core.compare_eq_iff]
theorem own_sat {k f i : UInt64} {F : Int} (hf : Val f F 1074) (hF : 0 < F) : f_sat k f i = FP.dmul i (FP.ddiv f (FP.dadd k f)) := by
  unfold f_sat
  rw [if_neg (fun q => by have := (own_eqv hf (own_vz 1074)).mp q; omega), if_neg (fun q => ?_)]
  have h : FP.dcmp f 9218868437227405312 = some .lt := (FP.Core.fin_lt_inf hf.1).1
  unfold dEq at q
  rw [h] at q
  cases q
theorem e50 : ((2 ^ 1074 : Nat) : Int) = 1125899906842624 * ((2 ^ 1024 : Nat) : Int) := by
  rw [show (1125899906842624 : Int) = ((2 ^ 50 : Nat) : Int) by decide, ← pow_cast]
theorem e14 : ((2 ^ 1038 : Nat) : Int) = 16384 * ((2 ^ 1024 : Nat) : Int) := by
  rw [show (16384 : Int) = ((2 ^ 14 : Nat) : Int) by decide, ← pow_cast]
/-- the quotient between two numbers of the grid 2^-50 -/
theorem own_quo {f S : UInt64} {F D : Int} (vf : Val f F 1074) (vs : Val S D 1074) (hF : 1 ≤ F) (hD : F ≤ D) :
    FP.Core.DFin (FP.ddiv f S) ∧ oB F D * ((2 ^ 1024 : Nat) : Int) ≤ Zv (FP.ddiv f S) ∧ Zv (FP.ddiv f S) ≤ oA F D * ((2 ^ 1024 : Nat) : Int) := by
  have hA := oA_ge (F := F) (D := D) (by omega)
  have hB := oB_le (F := F) (D := D) (by omega)
  have tA := oA_top (F := F) (D := D) (by omega) hD
  have nA := oA_nn (F := F) (D := D) (by omega) (by omega)
  have nB := oB_nn (F := F) (D := D) (by omega) (by omega)
  have tB : oB F D ≤ oA F D := by
    refine Int.le_of_mul_le_mul_right (a := D) ?_ (by omega)
    omega
  obtain ⟨VA, fA, zA⟩ := rep (oA F D) 1024 (by omega) (by decide)
  obtain ⟨VB, fB, zB⟩ := rep (oB F D) 1024 (by omega) (by decide)
  have p1 := pow_pos' 1024
  have p2 := pow_pos' 1074
  have hS : 0 < Zv S := by rw [vs.2]; exact Int.mul_pos (by omega) p2
  have pp : 0 ≤ ((2 ^ 1024 : Nat) : Int) * ((2 ^ 1074 : Nat) : Int) := Int.mul_nonneg (by omega) (by omega)
  have eL : F * ((2 ^ 1074 : Nat) : Int) * ((2 ^ 1074 : Nat) : Int) = F * 1125899906842624 * (((2 ^ 1024 : Nat) : Int) * ((2 ^ 1074 : Nat) : Int)) := by
    rw [← Int.mul_assoc, Int.mul_assoc F 1125899906842624, ← e50]
  have eR : ∀ x : Int, x * ((2 ^ 1024 : Nat) : Int) * (D * ((2 ^ 1074 : Nat) : Int)) = x * D * (((2 ^ 1024 : Nat) : Int) * ((2 ^ 1074 : Nat) : Int)) := fun x => by
    rw [Int.mul_assoc, Int.mul_left_comm _ D, ← Int.mul_assoc]
  have l1 : Zv VB ≤ Zv (FP.ddiv f S) := by
    refine ddiv_ge vf.1 vs.1 hS (fin_ne fB) ?_
    rw [zB, vf.2, vs.2, one_pow, eL, eR]
    exact Int.mul_le_mul_of_nonneg_right hB pp
  have l2 : Zv (FP.ddiv f S) ≤ Zv VA := by
    refine ddiv_le vf.1 vs.1 hS (fin_ne fA) ?_
    rw [zA, vf.2, vs.2, one_pow, eL, eR]
    exact Int.mul_le_mul_of_nonneg_right hA pp
  exact ⟨fin_of (div_ne vf.1 vs.1 hS) fB fA l1 l2, by rw [← zB]; exact l1, by rw [← zA]; exact l2⟩
/-- a product between two numbers of the grid 2^-36 -/
theorem own_prod {i q : UInt64} {n w w' : Int} (hi : Val i n 1074) (fq : FP.Core.DFin q) (h1 : w' * ((2 ^ 1038 : Nat) : Int) ≤ n * Zv q) (h2 : n * Zv q ≤ w * ((2 ^ 1038 : Nat) : Int)) (b1 : w'.natAbs < 2 ^ 53) (b2 : w.natAbs < 2 ^ 53) :
    FP.Core.DFin (FP.dmul i q) ∧ w' * ((2 ^ 1038 : Nat) : Int) ≤ Zv (FP.dmul i q) ∧ Zv (FP.dmul i q) ≤ w * ((2 ^ 1038 : Nat) : Int) := by
  obtain ⟨VA, fA, zA⟩ := rep w 1038 b2 (by decide)
  obtain ⟨VB, fB, zB⟩ := rep w' 1038 b1 (by decide)
  have p2 := pow_pos' 1074
  have e : n * ((2 ^ 1074 : Nat) : Int) * Zv q = n * Zv q * ((2 ^ 1074 : Nat) : Int) := Int.mul_right_comm ..
  have l1 : Zv VB ≤ Zv (FP.dmul i q) := by
    refine dmul_ge hi.1 fq (fin_ne fB) ?_
    rw [zB, hi.2, one_pow, e]
    exact Int.mul_le_mul_of_nonneg_right h1 (by omega)
  have l2 : Zv (FP.dmul i q) ≤ Zv VA := by
    refine dmul_le hi.1 fq (fin_ne fA) ?_
    rw [zA, hi.2, one_pow, e]
    exact Int.mul_le_mul_of_nonneg_right h2 (by omega)
  exact ⟨fin_of (mul_ne hi.1 fq) fB fA l1 l2, by rw [← zB]; exact l1, by rw [← zA]; exact l2⟩
theorem oH_b {F D N : Int} (hF : 1 ≤ F) (hD : F ≤ D) (hN : 1 ≤ N) (hN2 : N < 65536) : N * oA F D ≤ oH F D N * 16384 ∧ 0 ≤ oH F D N ∧ oH F D N < 9007199254740992 := by
  have tA := oA_top (F := F) (D := D) (by omega) hD
  have nA := oA_nn (F := F) (D := D) (by omega) (by omega)
  have h1 : N * oA F D ≤ N * 1125899906842624 := Int.mul_le_mul_of_nonneg_left tA (by omega)
  have h0 : 0 ≤ N * oA F D := Int.mul_nonneg (by omega) nA
  unfold oH
  generalize N * oA F D = x at *
  omega
theorem oL_b {F D N : Int} (hF : 1 ≤ F) (hD : F ≤ D) (hN : 1 ≤ N) (hN2 : N < 65536) : oL F D N * 16384 ≤ N * oB F D ∧ 0 ≤ oL F D N ∧ oL F D N < 9007199254740992 := by
  have hB := oB_le (F := F) (D := D) (by omega)
  have nB := oB_nn (F := F) (D := D) (by omega) (by omega)
  have tB : oB F D ≤ 1125899906842624 := by
    refine Int.le_of_mul_le_mul_right (a := D) ?_ (by omega)
    have : F * 1125899906842624 ≤ D * 1125899906842624 := Int.mul_le_mul_of_nonneg_right hD (by omega)
    omega
  have h1 : N * oB F D ≤ N * 1125899906842624 := Int.mul_le_mul_of_nonneg_left tB (by omega)
  have h0 : 0 ≤ N * oB F D := Int.mul_nonneg (by omega) nB
  unfold oL
  generalize N * oB F D = x at *
  omega
theorem own_gp {k f i : UInt64} {K F n : Int} (hk : Val k K 1074) (hf : Val f F 1074) (hi : Val i n 1074) (k0 : 0 ≤ K) (k1 : K ≤ 65537) (f0 : 1 ≤ F) (f1 : F ≤ 65537) (hn : 1 ≤ n) (hn2 : n < 65536) :
    FP.Core.DFin (f_sat k f i) ∧ oL F (K + F) n * ((2 ^ 1038 : Nat) : Int) ≤ Zv (f_sat k f i) ∧ Zv (f_sat k f i) ≤ oH F (K + F) n * ((2 ^ 1038 : Nat) : Int) := by
  have hs := hk.add hf (by omega) (by decide)
  obtain ⟨fq, q1, q2⟩ := own_quo hf hs f0 (by omega)
  rw [own_sat hf (by omega)]
  have bH := oH_b (F := F) (D := K + F) f0 (by omega) hn hn2
  have bL := oL_b (F := F) (D := K + F) f0 (by omega) hn hn2
  have p := pow_pos' 1024
  refine own_prod hi fq ?_ ?_ (by omega) (by omega)
  · have a1 := Int.mul_le_mul_of_nonneg_left q1 (show 0 ≤ n by omega)
    have a2 := Int.mul_le_mul_of_nonneg_right bL.1 (show 0 ≤ ((2 ^ 1024 : Nat) : Int) by omega)
    rw [e14, ← Int.mul_assoc]
    rw [← Int.mul_assoc] at a1
    exact Int.le_trans a2 a1
  · have a1 := Int.mul_le_mul_of_nonneg_left q2 (show 0 ≤ n by omega)
    have a2 := Int.mul_le_mul_of_nonneg_right bH.1 (show 0 ≤ ((2 ^ 1024 : Nat) : Int) by omega)
    rw [e14, ← Int.mul_assoc]
    rw [← Int.mul_assoc] at a1
    exact Int.le_trans a1 a2
theorem own_gn {k f i : UInt64} {K F n : Int} (hk : Val k K 1074) (hf : Val f F 1074) (hi : Val i n 1074) (k0 : 0 ≤ K) (k1 : K ≤ 65537) (f0 : 1 ≤ F) (f1 : F ≤ 65537) (hn : n ≤ -1) (hn2 : -65536 < n) :
    FP.Core.DFin (f_sat k f i) ∧ -oH F (K + F) (-n) * ((2 ^ 1038 : Nat) : Int) ≤ Zv (f_sat k f i) ∧ Zv (f_sat k f i) ≤ -oL F (K + F) (-n) * ((2 ^ 1038 : Nat) : Int) := by
  have hs := hk.add hf (by omega) (by decide)
  obtain ⟨fq, q1, q2⟩ := own_quo hf hs f0 (by omega)
  rw [own_sat hf (by omega)]
  have bH := oH_b (F := F) (D := K + F) (N := -n) f0 (by omega) (by omega) (by omega)
  have bL := oL_b (F := F) (D := K + F) (N := -n) f0 (by omega) (by omega) (by omega)
  have p := pow_pos' 1024
  have e : n * Zv (FP.ddiv f (FP.dadd k f)) = -(-n * Zv (FP.ddiv f (FP.dadd k f))) := by rw [Int.neg_mul, Int.neg_neg]
  refine own_prod hi fq ?_ ?_ (by omega) (by omega)
  · have a1 := Int.mul_le_mul_of_nonneg_left q2 (show 0 ≤ -n by omega)
    have a2 := Int.mul_le_mul_of_nonneg_right bH.1 (show 0 ≤ ((2 ^ 1024 : Nat) : Int) by omega)
    rw [e, e14, ← Int.mul_assoc, Int.neg_mul, Int.neg_mul]
    rw [← Int.mul_assoc] at a1
    exact Int.neg_le_neg (Int.le_trans a1 a2)
  · have a1 := Int.mul_le_mul_of_nonneg_left q1 (show 0 ≤ -n by omega)
    have a2 := Int.mul_le_mul_of_nonneg_right bL.1 (show 0 ≤ ((2 ^ 1024 : Nat) : Int) by omega)
    rw [e, e14, ← Int.mul_assoc, Int.neg_mul (oL F (K + F) (-n)) 16384, Int.neg_mul (oL F (K + F) (-n) * 16384)]
    rw [← Int.mul_assoc] at a1
    exact Int.neg_le_neg (Int.le_trans a2 a1)
theorem own_glt {x y : UInt64} {u v : Int} (fx : FP.Core.DFin x) (fy : FP.Core.DFin y) (hx : Zv x ≤ u * ((2 ^ 1038 : Nat) : Int)) (hy : v * ((2 ^ 1038 : Nat) : Int) ≤ Zv y) (h : u < v) : dLt x y :=
  (lt_iff fx fy).mpr (Int.lt_of_le_of_lt hx (Int.lt_of_lt_of_le (Int.mul_lt_mul_of_pos_right h (pow_pos' 1038)) hy))
theorem vI36 (a : Int32) : Zv (FP.i2d (nI a)) = (nI a).toInt * 68719476736 * ((2 ^ 1038 : Nat) : Int) := by
  rw [(vI a).2, Int.mul_assoc, show (68719476736 : Int) = ((2 ^ 36 : Nat) : Int) by decide, ← pow_cast]
theorem pos_of {x : Int32} (h : 0 < x) : 1 ≤ x.toInt := by
  rw [Int32.lt_iff_toInt_lt] at h
  have z : (0 : Int32).toInt = 0 := by decide
  omega
theorem neg_of {x : Int32} (h : x < 0) : x.toInt ≤ -1 := by
  rw [Int32.lt_iff_toInt_lt] at h
  have z : (0 : Int32).toInt = 0 := by decide
  omega
theorem zero_of {x : Int32} (h0 : ¬ 0 < x) (h : ¬ x < 0) : x.toInt = 0 := by
  rw [Int32.lt_iff_toInt_lt] at h h0
  have z : (0 : Int32).toInt = 0 := by decide
  omega
theorem own_ga (a b c : Int32) (h : 1 ≤ (nI c).toInt) : FP.Core.DFin (f_sat (nK1 a) (nFd b) (FP.i2d (nI c))) ∧ oL (fv b) ((kv a + 1) + (fv b)) (nI c).toInt * ((2 ^ 1038 : Nat) : Int) ≤ Zv (f_sat (nK1 a) (nFd b) (FP.i2d (nI c))) ∧ Zv (f_sat (nK1 a) (nFd b) (FP.i2d (nI c))) ≤ oH (fv b) ((kv a + 1) + (fv b)) (nI c).toInt * ((2 ^ 1038 : Nat) : Int) := own_gp (vK1 a) (vF b) (vI c) (by have := own_kr a; omega) (by have := own_kr a; omega) (own_fr b).1 (by have := own_fr b; omega) h (own_ir c).2
theorem own_gb (a b c : Int32) (h : 1 ≤ (nI c).toInt) : FP.Core.DFin (f_sat (nK1 a) (nF1 b) (FP.i2d (nI c))) ∧ oL (fv b + 1) ((kv a + 1) + (fv b + 1)) (nI c).toInt * ((2 ^ 1038 : Nat) : Int) ≤ Zv (f_sat (nK1 a) (nF1 b) (FP.i2d (nI c))) ∧ Zv (f_sat (nK1 a) (nF1 b) (FP.i2d (nI c))) ≤ oH (fv b + 1) ((kv a + 1) + (fv b + 1)) (nI c).toInt * ((2 ^ 1038 : Nat) : Int) := own_gp (vK1 a) (vF1 b) (vI c) (by have := own_kr a; omega) (by have := own_kr a; omega) (by have := own_fr b; omega) (by have := own_fr b; omega) h (own_ir c).2
theorem own_gc (a b c : Int32) (h : 1 ≤ (nI c).toInt) : FP.Core.DFin (f_sat (nK2 a) (nFd b) (FP.i2d (nI c))) ∧ oL (fv b) ((kv a + 1 + 1) + (fv b)) (nI c).toInt * ((2 ^ 1038 : Nat) : Int) ≤ Zv (f_sat (nK2 a) (nFd b) (FP.i2d (nI c))) ∧ Zv (f_sat (nK2 a) (nFd b) (FP.i2d (nI c))) ≤ oH (fv b) ((kv a + 1 + 1) + (fv b)) (nI c).toInt * ((2 ^ 1038 : Nat) : Int) := own_gp (vK2 a) (vF b) (vI c) (by have := own_kr a; omega) (by have := own_kr a; omega) (own_fr b).1 (by have := own_fr b; omega) h (own_ir c).2
theorem own_ha (a b c : Int32) (h : (nI c).toInt ≤ -1) : FP.Core.DFin (f_sat (nK1 a) (nFd b) (FP.i2d (nI c))) ∧ -oH (fv b) ((kv a + 1) + (fv b)) (-(nI c).toInt) * ((2 ^ 1038 : Nat) : Int) ≤ Zv (f_sat (nK1 a) (nFd b) (FP.i2d (nI c))) ∧ Zv (f_sat (nK1 a) (nFd b) (FP.i2d (nI c))) ≤ -oL (fv b) ((kv a + 1) + (fv b)) (-(nI c).toInt) * ((2 ^ 1038 : Nat) : Int) := own_gn (vK1 a) (vF b) (vI c) (by have := own_kr a; omega) (by have := own_kr a; omega) (own_fr b).1 (by have := own_fr b; omega) h (own_ir c).1
theorem own_hb (a b c : Int32) (h : (nI c).toInt ≤ -1) : FP.Core.DFin (f_sat (nK1 a) (nF1 b) (FP.i2d (nI c))) ∧ -oH (fv b + 1) ((kv a + 1) + (fv b + 1)) (-(nI c).toInt) * ((2 ^ 1038 : Nat) : Int) ≤ Zv (f_sat (nK1 a) (nF1 b) (FP.i2d (nI c))) ∧ Zv (f_sat (nK1 a) (nF1 b) (FP.i2d (nI c))) ≤ -oL (fv b + 1) ((kv a + 1) + (fv b + 1)) (-(nI c).toInt) * ((2 ^ 1038 : Nat) : Int) := own_gn (vK1 a) (vF1 b) (vI c) (by have := own_kr a; omega) (by have := own_kr a; omega) (by have := own_fr b; omega) (by have := own_fr b; omega) h (own_ir c).1
theorem own_hc (a b c : Int32) (h : (nI c).toInt ≤ -1) : FP.Core.DFin (f_sat (nK2 a) (nFd b) (FP.i2d (nI c))) ∧ -oH (fv b) ((kv a + 1 + 1) + (fv b)) (-(nI c).toInt) * ((2 ^ 1038 : Nat) : Int) ≤ Zv (f_sat (nK2 a) (nFd b) (FP.i2d (nI c))) ∧ Zv (f_sat (nK2 a) (nFd b) (FP.i2d (nI c))) ≤ -oL (fv b) ((kv a + 1 + 1) + (fv b)) (-(nI c).toInt) * ((2 ^ 1038 : Nat) : Int) := own_gn (vK2 a) (vF b) (vI c) (by have := own_kr a; omega) (by have := own_kr a; omega) (own_fr b).1 (by have := own_fr b; omega) h (own_ir c).1
theorem own_p1 (a b c : Int32) (h : 0 < (nI c)) : dLt (0 : UInt64) (f_sat (nK1 a) (nFd b) (FP.i2d (nI c))) := by
  have hn := pos_of h
  obtain ⟨fg, g1, -⟩ := own_ga a b c hn
  refine own_glt (u := 0) (own_vz 1074).1 fg (by rw [(own_vz 1074).2]; omega) g1 ?_
  exact o_bot (by have := own_kr a; omega) (by have := own_kr a; omega) (own_fr b).1 (by have := own_fr b; omega) hn
theorem own_p2 (a b c : Int32) (h : 0 < (nI c)) : dLt (f_sat (nK1 a) (nFd b) (FP.i2d (nI c))) (FP.i2d (nI c)) := by
  have hn := pos_of h
  obtain ⟨fg, -, g2⟩ := own_ga a b c hn
  refine own_glt fg (vI c).1 g2 (Int.le_of_eq (vI36 c).symm) ?_
  exact o_top (by have := own_kr a; omega) (by have := own_kr a; omega) (own_fr b).1 (by have := own_fr b; omega) hn
theorem own_p3 (a b c : Int32) (h : 0 < (nI c)) : dLt (f_sat (nK1 a) (nFd b) (FP.i2d (nI c))) (f_sat (nK1 a) (nF1 b) (FP.i2d (nI c))) := by
  have hn := pos_of h
  obtain ⟨fg, -, g2⟩ := own_ga a b c hn
  obtain ⟨fh, k1, -⟩ := own_gb a b c hn
  refine own_glt fg fh g2 k1 ?_
  exact o_up (by have := own_kr a; omega) (by have := own_kr a; omega) (own_fr b).1 (by have := own_fr b; omega) hn
theorem own_p4 (a b c : Int32) (h : 0 < (nI c)) : dLt (f_sat (nK2 a) (nFd b) (FP.i2d (nI c))) (f_sat (nK1 a) (nFd b) (FP.i2d (nI c))) := by
  have hn := pos_of h
  obtain ⟨fg, g1, -⟩ := own_ga a b c hn
  obtain ⟨fh, -, k2⟩ := own_gc a b c hn
  refine own_glt fh fg k2 g1 ?_
  exact o_dn (by have := own_kr a; omega) (by have := own_kr a; omega) (own_fr b).1 (by have := own_fr b; omega) hn
theorem own_n1 (a b c : Int32) (h : (nI c) < 0) : dLt (FP.i2d (nI c)) (f_sat (nK1 a) (nFd b) (FP.i2d (nI c))) := by
  have hn := neg_of h
  obtain ⟨fg, g1, -⟩ := own_ha a b c hn
  refine own_glt (vI c).1 fg (Int.le_of_eq (vI36 c)) g1 ?_
  have := o_top (K := kv a + 1) (F := fv b) (N := -(nI c).toInt) (by have := own_kr a; omega) (by have := own_kr a; omega) (own_fr b).1 (by have := own_fr b; omega) (by omega)
  omega
theorem own_n2 (a b c : Int32) (h : (nI c) < 0) : dLt (f_sat (nK1 a) (nFd b) (FP.i2d (nI c))) (0 : UInt64) := by
  have hn := neg_of h
  obtain ⟨fg, -, g2⟩ := own_ha a b c hn
  refine own_glt (v := 0) fg (own_vz 1074).1 g2 (by rw [(own_vz 1074).2]; omega) ?_
  have := o_bot (K := kv a + 1) (F := fv b) (N := -(nI c).toInt) (by have := own_kr a; omega) (by have := own_kr a; omega) (own_fr b).1 (by have := own_fr b; omega) (by omega)
  omega
theorem own_n3 (a b c : Int32) (h : (nI c) < 0) : dLt (f_sat (nK1 a) (nF1 b) (FP.i2d (nI c))) (f_sat (nK1 a) (nFd b) (FP.i2d (nI c))) := by
  have hn := neg_of h
  obtain ⟨fg, g1, -⟩ := own_ha a b c hn
  obtain ⟨fh, -, k2⟩ := own_hb a b c hn
  refine own_glt fh fg k2 g1 ?_
  have := o_up (K := kv a + 1) (F := fv b) (N := -(nI c).toInt) (by have := own_kr a; omega) (by have := own_kr a; omega) (own_fr b).1 (by have := own_fr b; omega) (by omega)
  omega
theorem own_n4 (a b c : Int32) (h : (nI c) < 0) : dLt (f_sat (nK1 a) (nFd b) (FP.i2d (nI c))) (f_sat (nK2 a) (nFd b) (FP.i2d (nI c))) := by
  have hn := neg_of h
  obtain ⟨fg, -, g2⟩ := own_ha a b c hn
  obtain ⟨fh, k1, -⟩ := own_hc a b c hn
  refine own_glt fg fh g2 k1 ?_
  have := o_dn (K := kv a + 1) (F := fv b) (N := -(nI c).toInt) (by have := own_kr a; omega) (by have := own_kr a; omega) (own_fr b).1 (by have := own_fr b; omega) (by omega)
  omega
theorem own_zero {k f i : UInt64} {K F : Int} (hk : Val k K 1074) (hf : Val f F 1074) (hi : Val i 0 1074) (k0 : 0 ≤ K) (k1 : K ≤ 65537) (f0 : 1 ≤ F) (f1 : F ≤ 65537) : dEq (f_sat k f i) (0 : UInt64) := by
  have hs := hk.add hf (by omega) (by decide)
  obtain ⟨fq, q1, q2⟩ := own_quo hf hs f0 (by omega)
  rw [own_sat hf (by omega)]
  obtain ⟨fg, g1, g2⟩ := own_prod (w := 0) (w' := 0) hi fq (by rw [Int.zero_mul, Int.zero_mul]; omega) (by rw [Int.zero_mul, Int.zero_mul]; omega) (by decide) (by decide)
  refine (eq_iff fg (own_vz 1074).1).mpr ?_
  rw [(own_vz 1074).2]
  rw [Int.zero_mul] at g1 g2 ⊢
  omega
theorem vI0 {c : Int32} (h0 : ¬ 0 < (nI c)) (h : ¬ (nI c) < 0) : Val (FP.i2d (nI c)) 0 1074 := by
  have e := zero_of h0 h
  have := vI c
  rw [e] at this
  exact this
theorem own_o1 (a b c : Int32) (h0 : ¬ 0 < (nI c)) (h : ¬ (nI c) < 0) : dEq (f_sat (nK1 a) (nFd b) (FP.i2d (nI c))) (0 : UInt64) :=
  own_zero (vK1 a) (vF b) (vI0 h0 h) (by have := own_kr a; omega) (by have := own_kr a; omega) (own_fr b).1 (by have := own_fr b; omega)
theorem own_o2 (a b c : Int32) (h0 : ¬ 0 < (nI c)) (h : ¬ (nI c) < 0) : dEq (f_sat (nK1 a) (nF1 b) (FP.i2d (nI c))) (0 : UInt64) :=
  own_zero (vK1 a) (vF1 b) (vI0 h0 h) (by have := own_kr a; omega) (by have := own_kr a; omega) (by have := own_fr b; omega) (by have := own_fr b; omega)
theorem own_o3 (a b c : Int32) (h0 : ¬ 0 < (nI c)) (h : ¬ (nI c) < 0) : dEq (f_sat (nK2 a) (nFd b) (FP.i2d (nI c))) (0 : UInt64) :=
  own_zero (vK2 a) (vF b) (vI0 h0 h) (by have := own_kr a; omega) (by have := own_kr a; omega) (own_fr b).1 (by have := own_fr b; omega)
/-- the quotient is a power of two: F / (2^j F) -/
theorem own_half {f S : UInt64} {F D : Int} (j : Nat) (vf : Val f F 1074) (vs : Val S D 1074) (hF : 1 ≤ F) (hD : D = F * ((2 ^ j : Nat) : Int)) (hj : j ≤ 1074) : Val (FP.ddiv f S) 1 (1074 - j) := by
  obtain ⟨V, fV, zV⟩ := rep 1 (1074 - j) (by decide) (by omega)
  have p2 := pow_pos' 1074
  have hS : 0 < Zv S := by rw [vs.2, hD]; exact Int.mul_pos (Int.mul_pos (by omega) (pow_pos' j)) p2
  have hp : ((2 ^ (1074 - j) : Nat) : Int) * ((2 ^ j : Nat) : Int) = ((2 ^ 1074 : Nat) : Int) := by rw [← pow_cast, Nat.sub_add_cancel hj]
  obtain ⟨h1, h2⟩ := ddiv_eq vf.1 vs.1 hS fV (by
    rw [vf.2, vs.2, zV, one_pow, hD, Int.one_mul, ← hp]
    generalize ((2 ^ (1074 - j) : Nat) : Int) = A
    generalize ((2 ^ j : Nat) : Int) = B
    ac_rfl)
  exact ⟨h1, h2.trans zV⟩
theorem own_t0 (a b c : Int32) : dEq (f_sat (nKd a) (0 : UInt64) (FP.i2d (nI c))) (0 : UInt64) := by
  unfold f_sat
  rw [if_pos own_e0]
  exact own_e0
theorem own_t1 (a b c : Int32) : dEq (f_sat (nKd a) (9218868437227405312 : UInt64) (FP.i2d (nI c))) (FP.i2d (nI c)) := by
  unfold f_sat
  rw [if_neg (by decide +kernel), if_pos own_ei]
  exact (own_eqv (vI c) (vI c)).mpr rfl
theorem own_q2 (b : Int32) : Val (FP.ddiv (nFd b) (FP.dadd (0 : UInt64) (nFd b))) 1 1074 :=
  own_half 0 (vF b) ((own_vz 1074).add (vF b) (by have := own_fr b; omega) (by decide)) (own_fr b).1 (by rw [Int.zero_add]; simp) (by decide)
theorem own_q3 (b : Int32) : Val (FP.ddiv (nFd b) (FP.dadd (nFd b) (nFd b))) 1 1073 :=
  own_half 1 (vF b) ((vF b).add (vF b) (by have := own_fr b; omega) (by decide)) (own_fr b).1 (by rw [show ((2 ^ 1 : Nat) : Int) = 2 by decide]; omega) (by decide)
theorem own_q4 (b : Int32) : Val (FP.ddiv (nFd b) (FP.dadd (nF3 b) (nFd b))) 1 1072 :=
  own_half 2 (vF b) ((vF3 b).add (vF b) (by have := own_fr b; omega) (by decide)) (own_fr b).1 (by rw [show ((2 ^ 2 : Nat) : Int) = 4 by decide]; omega) (by decide)
theorem own_g2 (b c : Int32) : Val (FP.dmul (FP.i2d (nI c)) (FP.ddiv (nFd b) (FP.dadd (0 : UInt64) (nFd b)))) ((nI c).toInt * 1) 1074 := (vI c).mul (own_q2 b) (by have := own_ir c; omega) rfl (by decide)
theorem own_g3 (b c : Int32) : Val (FP.dmul (FP.i2d (nI c)) (FP.ddiv (nFd b) (FP.dadd (nFd b) (nFd b)))) ((nI c).toInt * 1) 1073 := (vI c).mul (own_q3 b) (by have := own_ir c; omega) rfl (by decide)
theorem own_g4 (b c : Int32) : Val (FP.dmul (FP.i2d (nI c)) (FP.ddiv (nFd b) (FP.dadd (nF3 b) (nFd b)))) ((nI c).toInt * 1) 1072 := (vI c).mul (own_q4 b) (by have := own_ir c; omega) rfl (by decide)
theorem own_t2 (a b c : Int32) : dEq (f_sat (0 : UInt64) (nFd b) (FP.i2d (nI c))) (FP.i2d (nI c)) := by
  rw [own_sat (vF b) (by have := own_fr b; omega)]
  exact (own_eqv (own_g2 b c) (vI c)).mpr (by omega)
theorem own_t3 (a b c : Int32) : dEq (f_sat (nFd b) (nFd b) (FP.i2d (nI c))) (FP.ddiv (FP.i2d (nI c)) (4611686018427387904 : UInt64)) := by
  rw [own_sat (vF b) (by have := own_fr b; omega)]
  exact (own_eqv (own_g3 b c) (vI2 c)).mpr (by omega)
theorem own_t4 (a b c : Int32) : dEq (f_sat (nF3 b) (nFd b) (FP.i2d (nI c))) (FP.ddiv (FP.i2d (nI c)) (4616189618054758400 : UInt64)) := by
  rw [own_sat (vF b) (by have := own_fr b; omega)]
  exact (own_eqv (own_g4 b c) (vI4 c)).mpr (by omega)
theorem own_nn32_2 (a b c : Int32) : Jvm.Free.Fl.NoNaN64 (FP.dadd (0 : UInt64) (nFd b)) := own_vn ((own_vz 1074).add (vF b) (by have := own_fr b; omega) (by decide))
theorem own_nn33_2 (a b c : Int32) : Jvm.Free.Fl.NoNaN64 (FP.ddiv (nFd b) (FP.dadd (0 : UInt64) (nFd b))) := own_vn (own_q2 b)
theorem own_nn34_2 (a b c : Int32) : Jvm.Free.Fl.NoNaN64 (FP.dmul (FP.i2d (nI c)) (FP.ddiv (nFd b) (FP.dadd (0 : UInt64) (nFd b)))) := own_vn (own_g2 b c)
theorem own_nn32_3 (a b c : Int32) : Jvm.Free.Fl.NoNaN64 (FP.dadd (nFd b) (nFd b)) := own_vn ((vF b).add (vF b) (by have := own_fr b; omega) (by decide))
theorem own_nn33_3 (a b c : Int32) : Jvm.Free.Fl.NoNaN64 (FP.ddiv (nFd b) (FP.dadd (nFd b) (nFd b))) := own_vn (own_q3 b)
theorem own_nn34_3 (a b c : Int32) : Jvm.Free.Fl.NoNaN64 (FP.dmul (FP.i2d (nI c)) (FP.ddiv (nFd b) (FP.dadd (nFd b) (nFd b)))) := own_vn (own_g3 b c)
theorem own_nn32_4 (a b c : Int32) : Jvm.Free.Fl.NoNaN64 (FP.dadd (nF3 b) (nFd b)) := own_vn ((vF3 b).add (vF b) (by have := own_fr b; omega) (by decide))
theorem own_nn33_4 (a b c : Int32) : Jvm.Free.Fl.NoNaN64 (FP.ddiv (nFd b) (FP.dadd (nF3 b) (nFd b))) := own_vn (own_q4 b)
theorem own_nn34_4 (a b c : Int32) : Jvm.Free.Fl.NoNaN64 (FP.dmul (FP.i2d (nI c)) (FP.ddiv (nFd b) (FP.dadd (nF3 b) (nFd b)))) := own_vn (own_g4 b c)
theorem own_s {k f i : UInt64} {K F n : Int} (hk : Val k K 1074) (hf : Val f F 1074) (hi : Val i n 1074) (k0 : 0 ≤ K) (k1 : K ≤ 65537) (f0 : 1 ≤ F) (f1 : F ≤ 65537) :
    Jvm.Free.Fl.NoNaN64 (FP.dadd k f) ∧ Jvm.Free.Fl.NoNaN64 (FP.ddiv f (FP.dadd k f)) ∧ Jvm.Free.Fl.NoNaN64 (FP.dmul i (FP.ddiv f (FP.dadd k f))) := by
  have hs := hk.add hf (by omega) (by decide)
  obtain ⟨fq, -, -⟩ := own_quo hf hs f0 (by omega)
  exact ⟨own_vn hs, own_fn fq, Jvm.Free.Fl.val64_no.mpr (mul_ne hi.1 fq)⟩
theorem own_sa (a b c : Int32) : Jvm.Free.Fl.NoNaN64 (FP.dadd (nK1 a) (nFd b)) ∧ Jvm.Free.Fl.NoNaN64 (FP.ddiv (nFd b) (FP.dadd (nK1 a) (nFd b))) ∧ Jvm.Free.Fl.NoNaN64 (FP.dmul (FP.i2d (nI c)) (FP.ddiv (nFd b) (FP.dadd (nK1 a) (nFd b)))) := own_s (vK1 a) (vF b) (vI c) (by have := own_kr a; omega) (by have := own_kr a; omega) (own_fr b).1 (by have := own_fr b; omega)
theorem own_sb (a b c : Int32) : Jvm.Free.Fl.NoNaN64 (FP.dadd (nK1 a) (nF1 b)) ∧ Jvm.Free.Fl.NoNaN64 (FP.ddiv (nF1 b) (FP.dadd (nK1 a) (nF1 b))) ∧ Jvm.Free.Fl.NoNaN64 (FP.dmul (FP.i2d (nI c)) (FP.ddiv (nF1 b) (FP.dadd (nK1 a) (nF1 b)))) := own_s (vK1 a) (vF1 b) (vI c) (by have := own_kr a; omega) (by have := own_kr a; omega) (by have := own_fr b; omega) (by have := own_fr b; omega)
theorem own_sc (a b c : Int32) : Jvm.Free.Fl.NoNaN64 (FP.dadd (nK2 a) (nFd b)) ∧ Jvm.Free.Fl.NoNaN64 (FP.ddiv (nFd b) (FP.dadd (nK2 a) (nFd b))) ∧ Jvm.Free.Fl.NoNaN64 (FP.dmul (FP.i2d (nI c)) (FP.ddiv (nFd b) (FP.dadd (nK2 a) (nFd b)))) := own_s (vK2 a) (vF b) (vI c) (by have := own_kr a; omega) (by have := own_kr a; omega) (own_fr b).1 (by have := own_fr b; omega)
theorem own_nn32_a (a b c : Int32) : Jvm.Free.Fl.NoNaN64 (FP.dadd (nK1 a) (nFd b)) := (own_sa a b c).1
theorem own_nn33_a (a b c : Int32) : Jvm.Free.Fl.NoNaN64 (FP.ddiv (nFd b) (FP.dadd (nK1 a) (nFd b))) := (own_sa a b c).2.1
theorem own_nn34_a (a b c : Int32) : Jvm.Free.Fl.NoNaN64 (FP.dmul (FP.i2d (nI c)) (FP.ddiv (nFd b) (FP.dadd (nK1 a) (nFd b)))) := (own_sa a b c).2.2
theorem own_nn32_b (a b c : Int32) : Jvm.Free.Fl.NoNaN64 (FP.dadd (nK1 a) (nF1 b)) := (own_sb a b c).1
theorem own_nn33_b (a b c : Int32) : Jvm.Free.Fl.NoNaN64 (FP.ddiv (nF1 b) (FP.dadd (nK1 a) (nF1 b))) := (own_sb a b c).2.1
theorem own_nn34_b (a b c : Int32) : Jvm.Free.Fl.NoNaN64 (FP.dmul (FP.i2d (nI c)) (FP.ddiv (nF1 b) (FP.dadd (nK1 a) (nF1 b)))) := (own_sb a b c).2.2
theorem own_nn32_c (a b c : Int32) : Jvm.Free.Fl.NoNaN64 (FP.dadd (nK2 a) (nFd b)) := (own_sc a b c).1
theorem own_nn33_c (a b c : Int32) : Jvm.Free.Fl.NoNaN64 (FP.ddiv (nFd b) (FP.dadd (nK2 a) (nFd b))) := (own_sc a b c).2.1
theorem own_nn34_c (a b c : Int32) : Jvm.Free.Fl.NoNaN64 (FP.dmul (FP.i2d (nI c)) (FP.ddiv (nFd b) (FP.dadd (nK2 a) (nFd b)))) := (own_sc a b c).2.2
end Own

theorem pd1 : parseMethodDescriptor "(IIII)Z" = some ⟨[.int, .int, .int, .int], some .boolean⟩ := by decide +kernel
theorem pf_law : plainFor x = true := by first | exact plainFor_of_name (by first | (simp [plainName, overriddenIn, x]; done) | decide +kernel) | exact Jvm.Free.JP.mathPlain rfl (by decide +kernel) | decide +kernel
theorem ef_law (m : MethodId) (i0 : Int32) (i1 : Int32) (i2 : Int32) (i3 : Int32) : entryFrame m #[(.int i0), (.int i1), (.int i2), (.int i3)] maxLocals = mkF m 0 #[iv i0, iv i1, iv i2, iv i3, .unset, .unset, .unset, .unset, .unset, .unset, .unset, .unset, .unset, .unset, .unset, .unset, .unset, .unset, .unset, .unset] [] := by first | (simp [entryFrame, mkF, argsToLocals, Value.category, maxLocals]; done) | rfl
def f_law (i0 : Int32) (i1 : Int32) (i2 : Int32) (i3 : Int32) : Int32 := 1
def Q_law (Z : State) (i0 : Int32) (i1 : Int32) (i2 : Int32) (i3 : Int32)  (h0 : Heap) (n0 : Nat) (v : Option Value) (h : Heap) (L : List Loc) : Prop := v = some (.int (f_law i0 i1 i2 i3)) ∧ Fr n0 L
set_option maxRecDepth 65536 in
set_option maxHeartbeats 40000000 in
theorem rm_law (l : Launch) (Z : State) (a0 : Array Value) (hw : ∀ d ∈ tables_1, d.before a0 Z = true) (ws : List Jvm.Cond) (i0 : Int32) (i1 : Int32) (i2 : Int32) (i3 : Int32)  (h0 : Heap) (n0 : Nat) (Z0 : n0 ≤ h0.size)   :
    MetFree l x (head1 (Jvm.Cond.code x code maxLocals ret :: ws) room_1) (fun a U => a = #[(.int i0), (.int i1), (.int i2), (.int i3)] ∧ Z.Warmed39 U.vm ∧ U.heap = h0) (fun _ _ _ _ _ => True) (fun _ U o U' => ∃ v L, o = .returned v ∧ Q_law Z i0 i1 i2 i3  h0 n0 v U'.heap L ∧ FrameEnd U o U' L 0 0) := by
  refine MetFree.of_bodySF pf_law hisR ?_
  intro p e s m args below meth c s₁ Bd hml0 hP hK
  obtain ⟨rfl, hZ, hh⟩ := hP
  have hx := Bd.exec
  have hby := Bd.bytes
  have hml : c.maxLocals = 20 := hml0
  have hown : s.vm.findClass "com/example/narabi/narabi/ranking/Bm25SaturatePinLaw" = some m.cls := findClass_of_methodNamed Bd.named
  have hnm := (name_of_methodNamed Bd.named Bd.method).1
  have X0 : Stand p l e room_1 s m #[(.int i0), (.int i1), (.int i2), (.int i3)] below meth c s₁ [] 0 0 := Stand.of_body Bd
  have e0 : s₁.heap = h0 := by rw [← hh, Bd.state]; rfl
  have N0 := Fr.nil n0
  obtain ⟨S0, hS0⟩ : ∃ z, z = s₁.setTop (entryFrame m #[(.int i0), (.int i1), (.int i2), (.int i3)] maxLocals) := ⟨_, rfl⟩
  rw [← hS0]
  have g0 : Goes p e below S0 (s₁.setTop (mkF m 0 #[iv i0, iv i1, iv i2, iv i3, .unset, .unset, .unset, .unset, .unset, .unset, .unset, .unset, .unset, .unset, .unset, .unset, .unset, .unset, .unset, .unset] [])) := fun t k => by rw [hS0]; exact castTop (ef_law m i0 i1 i2 i3) k
  have g8 : Goes p e below S0 (s₁.setTop (mkF m 35 #[iv i0, iv i1, iv i2, iv i3, iv (nM i3), iv (nI i2), .val (.double (FP.i2d (nI i2))), .second, .val (.double (nKd i0)), .second, .val (.double (nFd i1)), .second, .unset, .unset, .unset, .unset, .unset, .unset, .unset, .unset] [(.int (nM i3))])) := fun t k => g0 t (by
    refine XS.iloadN X0.here hx rfl (hb hby at_0) rfl ?_
    show Go p e below t s₁ m 1 #[iv i0, iv i1, iv i2, iv i3, .unset, .unset, .unset, .unset, .unset, .unset, .unset, .unset, .unset, .unset, .unset, .unset, .unset, .unset, .unset, .unset] [(.int i3)]
    refine XT.bipushV X0.here hx rfl (7 : Int32) (hb hby at_1) (by decide) ?_
    show Go p e below t s₁ m 3 #[iv i0, iv i1, iv i2, iv i3, .unset, .unset, .unset, .unset, .unset, .unset, .unset, .unset, .unset, .unset, .unset, .unset, .unset, .unset, .unset, .unset] [(.int (7 : Int32)), (.int i3)]
    refine XS.iand X0.here hx rfl (hb hby at_3) rfl ?_
    show Go p e below t s₁ m 4 #[iv i0, iv i1, iv i2, iv i3, .unset, .unset, .unset, .unset, .unset, .unset, .unset, .unset, .unset, .unset, .unset, .unset, .unset, .unset, .unset, .unset] [(.int (i3 &&& (7 : Int32)))]
    refine XS.istore X0.here hx rfl (hb hby at_4) rfl (l' := #[iv i0, iv i1, iv i2, iv i3, iv (nM i3), .unset, .unset, .unset, .unset, .unset, .unset, .unset, .unset, .unset, .unset, .unset, .unset, .unset, .unset, .unset]) rfl ?_
    show Go p e below t s₁ m 6 #[iv i0, iv i1, iv i2, iv i3, iv (nM i3), .unset, .unset, .unset, .unset, .unset, .unset, .unset, .unset, .unset, .unset, .unset, .unset, .unset, .unset, .unset] []
    refine XS.iloadN X0.here hx rfl (hb hby at_6) rfl ?_
    show Go p e below t s₁ m 7 #[iv i0, iv i1, iv i2, iv i3, iv (nM i3), .unset, .unset, .unset, .unset, .unset, .unset, .unset, .unset, .unset, .unset, .unset, .unset, .unset, .unset, .unset] [(.int i2)]
    refine Jvm.Stand.ldcI X0 hx hown (mvT hZ (hw _ (List.mem_of_getElem? (i := 0) rfl))) (g := (mkF m 7 #[iv i0, iv i1, iv i2, iv i3, iv (nM i3), .unset, .unset, .unset, .unset, .unset, .unset, .unset, .unset, .unset, .unset, .unset, .unset, .unset, .unset, .unset] [(.int i2)])) rfl (hb hby at_7) ?_
    show Go p e below t s₁ m 9 #[iv i0, iv i1, iv i2, iv i3, iv (nM i3), .unset, .unset, .unset, .unset, .unset, .unset, .unset, .unset, .unset, .unset, .unset, .unset, .unset, .unset, .unset] [(.int (65536 : Int32)), (.int i2)]
    refine iremM X0 hx rfl (hb hby at_9) rfl (by decide) ?_
    show Go p e below t s₁ m 10 #[iv i0, iv i1, iv i2, iv i3, iv (nM i3), .unset, .unset, .unset, .unset, .unset, .unset, .unset, .unset, .unset, .unset, .unset, .unset, .unset, .unset, .unset] [(.int (i2 % (65536 : Int32)))]
    refine XS.istore X0.here hx rfl (hb hby at_10) rfl (l' := #[iv i0, iv i1, iv i2, iv i3, iv (nM i3), iv (nI i2), .unset, .unset, .unset, .unset, .unset, .unset, .unset, .unset, .unset, .unset, .unset, .unset, .unset, .unset]) rfl ?_
    show Go p e below t s₁ m 12 #[iv i0, iv i1, iv i2, iv i3, iv (nM i3), iv (nI i2), .unset, .unset, .unset, .unset, .unset, .unset, .unset, .unset, .unset, .unset, .unset, .unset, .unset, .unset] []
    refine XS.iload X0.here hx rfl (hb hby at_12) rfl ?_
    show Go p e below t s₁ m 14 #[iv i0, iv i1, iv i2, iv i3, iv (nM i3), iv (nI i2), .unset, .unset, .unset, .unset, .unset, .unset, .unset, .unset, .unset, .unset, .unset, .unset, .unset, .unset] [(.int (nI i2))]
    refine XS.i2dS X0.here hx rfl (hb hby at_14) rfl rfl ?_
    show Go p e below t s₁ m 15 #[iv i0, iv i1, iv i2, iv i3, iv (nM i3), iv (nI i2), .unset, .unset, .unset, .unset, .unset, .unset, .unset, .unset, .unset, .unset, .unset, .unset, .unset, .unset] [(.double (FP.i2d (nI i2)))]
    refine XS.dstore X0.here hx rfl (hb hby at_15) rfl (l' := #[iv i0, iv i1, iv i2, iv i3, iv (nM i3), iv (nI i2), .val (.double (FP.i2d (nI i2))), .second, .unset, .unset, .unset, .unset, .unset, .unset, .unset, .unset, .unset, .unset, .unset, .unset]) rfl ?_
    show Go p e below t s₁ m 17 #[iv i0, iv i1, iv i2, iv i3, iv (nM i3), iv (nI i2), .val (.double (FP.i2d (nI i2))), .second, .unset, .unset, .unset, .unset, .unset, .unset, .unset, .unset, .unset, .unset, .unset, .unset] []
    refine XS.iloadN X0.here hx rfl (hb hby at_17) rfl ?_
    show Go p e below t s₁ m 18 #[iv i0, iv i1, iv i2, iv i3, iv (nM i3), iv (nI i2), .val (.double (FP.i2d (nI i2))), .second, .unset, .unset, .unset, .unset, .unset, .unset, .unset, .unset, .unset, .unset, .unset, .unset] [(.int i0)]
    refine Jvm.Stand.ldcI X0 hx hown (mvT hZ (hw _ (List.mem_of_getElem? (i := 1) rfl))) (g := (mkF m 18 #[iv i0, iv i1, iv i2, iv i3, iv (nM i3), iv (nI i2), .val (.double (FP.i2d (nI i2))), .second, .unset, .unset, .unset, .unset, .unset, .unset, .unset, .unset, .unset, .unset, .unset, .unset] [(.int i0)])) rfl (hb hby at_18) ?_
    show Go p e below t s₁ m 20 #[iv i0, iv i1, iv i2, iv i3, iv (nM i3), iv (nI i2), .val (.double (FP.i2d (nI i2))), .second, .unset, .unset, .unset, .unset, .unset, .unset, .unset, .unset, .unset, .unset, .unset, .unset] [(.int (65535 : Int32)), (.int i0)]
    refine XS.iand X0.here hx rfl (hb hby at_20) rfl ?_
    show Go p e below t s₁ m 21 #[iv i0, iv i1, iv i2, iv i3, iv (nM i3), iv (nI i2), .val (.double (FP.i2d (nI i2))), .second, .unset, .unset, .unset, .unset, .unset, .unset, .unset, .unset, .unset, .unset, .unset, .unset] [(.int (i0 &&& (65535 : Int32)))]
    refine XS.i2dS X0.here hx rfl (hb hby at_21) rfl rfl ?_
    show Go p e below t s₁ m 22 #[iv i0, iv i1, iv i2, iv i3, iv (nM i3), iv (nI i2), .val (.double (FP.i2d (nI i2))), .second, .unset, .unset, .unset, .unset, .unset, .unset, .unset, .unset, .unset, .unset, .unset, .unset] [(.double (FP.i2d (i0 &&& (65535 : Int32))))]
    refine XS.dstore X0.here hx rfl (hb hby at_22) rfl (l' := #[iv i0, iv i1, iv i2, iv i3, iv (nM i3), iv (nI i2), .val (.double (FP.i2d (nI i2))), .second, .val (.double (nKd i0)), .second, .unset, .unset, .unset, .unset, .unset, .unset, .unset, .unset, .unset, .unset]) rfl ?_
    show Go p e below t s₁ m 24 #[iv i0, iv i1, iv i2, iv i3, iv (nM i3), iv (nI i2), .val (.double (FP.i2d (nI i2))), .second, .val (.double (nKd i0)), .second, .unset, .unset, .unset, .unset, .unset, .unset, .unset, .unset, .unset, .unset] []
    refine XS.iloadN X0.here hx rfl (hb hby at_24) rfl ?_
    show Go p e below t s₁ m 25 #[iv i0, iv i1, iv i2, iv i3, iv (nM i3), iv (nI i2), .val (.double (FP.i2d (nI i2))), .second, .val (.double (nKd i0)), .second, .unset, .unset, .unset, .unset, .unset, .unset, .unset, .unset, .unset, .unset] [(.int i1)]
    refine Jvm.Stand.ldcI X0 hx hown (mvT hZ (hw _ (List.mem_of_getElem? (i := 1) rfl))) (g := (mkF m 25 #[iv i0, iv i1, iv i2, iv i3, iv (nM i3), iv (nI i2), .val (.double (FP.i2d (nI i2))), .second, .val (.double (nKd i0)), .second, .unset, .unset, .unset, .unset, .unset, .unset, .unset, .unset, .unset, .unset] [(.int i1)])) rfl (hb hby at_25) ?_
    show Go p e below t s₁ m 27 #[iv i0, iv i1, iv i2, iv i3, iv (nM i3), iv (nI i2), .val (.double (FP.i2d (nI i2))), .second, .val (.double (nKd i0)), .second, .unset, .unset, .unset, .unset, .unset, .unset, .unset, .unset, .unset, .unset] [(.int (65535 : Int32)), (.int i1)]
    refine XS.iand X0.here hx rfl (hb hby at_27) rfl ?_
    show Go p e below t s₁ m 28 #[iv i0, iv i1, iv i2, iv i3, iv (nM i3), iv (nI i2), .val (.double (FP.i2d (nI i2))), .second, .val (.double (nKd i0)), .second, .unset, .unset, .unset, .unset, .unset, .unset, .unset, .unset, .unset, .unset] [(.int (i1 &&& (65535 : Int32)))]
    refine XT.iconstV X0.here hx rfl (1 : Int32) (hb hby at_28) (by decide) ?_
    show Go p e below t s₁ m 29 #[iv i0, iv i1, iv i2, iv i3, iv (nM i3), iv (nI i2), .val (.double (FP.i2d (nI i2))), .second, .val (.double (nKd i0)), .second, .unset, .unset, .unset, .unset, .unset, .unset, .unset, .unset, .unset, .unset] [(.int (1 : Int32)), (.int (i1 &&& (65535 : Int32)))]
    refine XS.iadd X0.here hx rfl (hb hby at_29) rfl ?_
    show Go p e below t s₁ m 30 #[iv i0, iv i1, iv i2, iv i3, iv (nM i3), iv (nI i2), .val (.double (FP.i2d (nI i2))), .second, .val (.double (nKd i0)), .second, .unset, .unset, .unset, .unset, .unset, .unset, .unset, .unset, .unset, .unset] [(.int ((i1 &&& (65535 : Int32)) + (1 : Int32)))]
    refine XS.i2dS X0.here hx rfl (hb hby at_30) rfl rfl ?_
    show Go p e below t s₁ m 31 #[iv i0, iv i1, iv i2, iv i3, iv (nM i3), iv (nI i2), .val (.double (FP.i2d (nI i2))), .second, .val (.double (nKd i0)), .second, .unset, .unset, .unset, .unset, .unset, .unset, .unset, .unset, .unset, .unset] [(.double (FP.i2d ((i1 &&& (65535 : Int32)) + (1 : Int32))))]
    refine XS.dstore X0.here hx rfl (hb hby at_31) rfl (l' := #[iv i0, iv i1, iv i2, iv i3, iv (nM i3), iv (nI i2), .val (.double (FP.i2d (nI i2))), .second, .val (.double (nKd i0)), .second, .val (.double (nFd i1)), .second, .unset, .unset, .unset, .unset, .unset, .unset, .unset, .unset]) rfl ?_
    show Go p e below t s₁ m 33 #[iv i0, iv i1, iv i2, iv i3, iv (nM i3), iv (nI i2), .val (.double (FP.i2d (nI i2))), .second, .val (.double (nKd i0)), .second, .val (.double (nFd i1)), .second, .unset, .unset, .unset, .unset, .unset, .unset, .unset, .unset] []
    refine XS.iload X0.here hx rfl (hb hby at_33) rfl ?_
    show Go p e below t s₁ m 35 #[iv i0, iv i1, iv i2, iv i3, iv (nM i3), iv (nI i2), .val (.double (FP.i2d (nI i2))), .second, .val (.double (nKd i0)), .second, .val (.double (nFd i1)), .second, .unset, .unset, .unset, .unset, .unset, .unset, .unset, .unset] [(.int (nM i3))]
    exact k)
  by_cases h9 : (nM i3) = 0
  · skip
    have g10 : Goes p e below S0 (s₁.setTop (mkF m 43 #[iv i0, iv i1, iv i2, iv i3, iv (nM i3), iv (nI i2), .val (.double (FP.i2d (nI i2))), .second, .val (.double (nKd i0)), .second, .val (.double (nFd i1)), .second, .unset, .unset, .unset, .unset, .unset, .unset, .unset, .unset] [(.double (FP.i2d (nI i2))), (.double (0 : UInt64)), (.double (nKd i0))])) := fun t k => g8 t (by
      refine XS.ifNo X0.here hx rfl (hb hby at_35) rfl (XT.i0_ne_f h9) ?_
      show Go p e below t s₁ m 38 #[iv i0, iv i1, iv i2, iv i3, iv (nM i3), iv (nI i2), .val (.double (FP.i2d (nI i2))), .second, .val (.double (nKd i0)), .second, .val (.double (nFd i1)), .second, .unset, .unset, .unset, .unset, .unset, .unset, .unset, .unset] []
      refine XS.dload X0.here hx rfl (hb hby at_38) rfl ?_
      show Go p e below t s₁ m 40 #[iv i0, iv i1, iv i2, iv i3, iv (nM i3), iv (nI i2), .val (.double (FP.i2d (nI i2))), .second, .val (.double (nKd i0)), .second, .val (.double (nFd i1)), .second, .unset, .unset, .unset, .unset, .unset, .unset, .unset, .unset] [(.double (nKd i0))]
      refine XS.dconst0 X0.here hx rfl (hb hby at_40) (v := (0 : UInt64)) rfl ?_
      show Go p e below t s₁ m 41 #[iv i0, iv i1, iv i2, iv i3, iv (nM i3), iv (nI i2), .val (.double (FP.i2d (nI i2))), .second, .val (.double (nKd i0)), .second, .val (.double (nFd i1)), .second, .unset, .unset, .unset, .unset, .unset, .unset, .unset, .unset] [(.double (0 : UInt64)), (.double (nKd i0))]
      refine XS.dload X0.here hx rfl (hb hby at_41) rfl ?_
      show Go p e below t s₁ m 43 #[iv i0, iv i1, iv i2, iv i3, iv (nM i3), iv (nI i2), .val (.double (FP.i2d (nI i2))), .second, .val (.double (nKd i0)), .second, .val (.double (nFd i1)), .second, .unset, .unset, .unset, .unset, .unset, .unset, .unset, .unset] [(.double (FP.i2d (nI i2))), (.double (0 : UInt64)), (.double (nKd i0))]
      exact k)
    obtain ⟨_, _, ⟨T11, L11, k11, n11⟩, -, X11, ⟨Lc11, hQ11, l11, y11, z11⟩, st11⟩ := Jvm.LawKit.callS X0 hx (y := (⟨"com/example/narabi/narabi/ranking/Bm25", "saturate", "(DDD)D"⟩ : MethodName)) hown (mvT hZ (hw _ (List.mem_of_getElem? (i := 3) rfl))) (mvT hZ (hw _ (List.mem_of_getElem? (i := 4) rfl))) (mvT hZ (hw _ (List.mem_of_getElem? (i := 5) rfl))) (mvT hZ (hw _ (List.mem_of_getElem? (i := 6) rfl))) (by decide) (backOf (W := 0) (rm_sat l Z a0 hw [] (nKd i0) (0 : UInt64) (FP.i2d (nI i2))  h0 n0 Z0 (fun h _ => absurd own_e0 h) (fun h _ => absurd own_e0 h) (fun h _ => absurd own_e0 h)) hZ (hw _ (List.mem_of_getElem? (i := 6) rfl)) (hw _ (List.mem_of_getElem? (i := 5) rfl)) (by decide) (by decide)) (g := (mkF m 43 #[iv i0, iv i1, iv i2, iv i3, iv (nM i3), iv (nI i2), .val (.double (FP.i2d (nI i2))), .second, .val (.double (nKd i0)), .second, .val (.double (nFd i1)), .second, .unset, .unset, .unset, .unset, .unset, .unset, .unset, .unset] [(.double (FP.i2d (nI i2))), (.double (0 : UInt64)), (.double (nKd i0))])) rfl (by rw [hml]; rfl) (argsL := [(.double (nKd i0)), (.double (0 : UInt64)), (.double (FP.i2d (nI i2)))]) (rest := []) (lenOf pd0 rfl) rfl (by show 2 * 0 + _ ≤ _; exact Nat.le_of_eq rfl) (hb hby at_43) (fun _ _ => ⟨rfl, e0, (by decide : 0 + 0 ≤ _), (by decide : 0 + 0 ≤ _)⟩)
    dsimp only [Pt.U, Pt.locs, Pt.cells, Pt.slots] at X11 l11 y11 z11 st11 hQ11
    subst l11 y11 z11
    obtain ⟨rfl, N11, e11⟩ := hQ11
    have M11 := Fr.app N0 N11
    have g12 : Goes p e below S0 (T11.setTop (mkF m 46 #[iv i0, iv i1, iv i2, iv i3, iv (nM i3), iv (nI i2), .val (.double (FP.i2d (nI i2))), .second, .val (.double (nKd i0)), .second, .val (.double (nFd i1)), .second, .unset, .unset, .unset, .unset, .unset, .unset, .unset, .unset] [(.double (f_sat (nKd i0) (0 : UInt64) (FP.i2d (nI i2))))])) := fun t k => g10 t (st11 t k)
    have g13 : Goes p e below S0 (T11.setTop (mkF m 60 #[iv i0, iv i1, iv i2, iv i3, iv (nM i3), iv (nI i2), .val (.double (FP.i2d (nI i2))), .second, .val (.double (nKd i0)), .second, .val (.double (nFd i1)), .second, .val (.double (f_sat (nKd i0) (0 : UInt64) (FP.i2d (nI i2)))), .second, .unset, .unset, .unset, .unset, .unset, .unset] [(.int (1 : Int32))])) := fun t k => g12 t (by
      refine XS.dstore X11.here hx rfl (hb hby at_46) rfl (l' := #[iv i0, iv i1, iv i2, iv i3, iv (nM i3), iv (nI i2), .val (.double (FP.i2d (nI i2))), .second, .val (.double (nKd i0)), .second, .val (.double (nFd i1)), .second, .val (.double (f_sat (nKd i0) (0 : UInt64) (FP.i2d (nI i2)))), .second, .unset, .unset, .unset, .unset, .unset, .unset]) rfl ?_
      show Go p e below t T11 m 48 #[iv i0, iv i1, iv i2, iv i3, iv (nM i3), iv (nI i2), .val (.double (FP.i2d (nI i2))), .second, .val (.double (nKd i0)), .second, .val (.double (nFd i1)), .second, .val (.double (f_sat (nKd i0) (0 : UInt64) (FP.i2d (nI i2)))), .second, .unset, .unset, .unset, .unset, .unset, .unset] []
      refine XS.dload X11.here hx rfl (hb hby at_48) rfl ?_
      show Go p e below t T11 m 50 #[iv i0, iv i1, iv i2, iv i3, iv (nM i3), iv (nI i2), .val (.double (FP.i2d (nI i2))), .second, .val (.double (nKd i0)), .second, .val (.double (nFd i1)), .second, .val (.double (f_sat (nKd i0) (0 : UInt64) (FP.i2d (nI i2)))), .second, .unset, .unset, .unset, .unset, .unset, .unset] [(.double (f_sat (nKd i0) (0 : UInt64) (FP.i2d (nI i2))))]
      refine XS.dconst0 X11.here hx rfl (hb hby at_50) (v := (0 : UInt64)) rfl ?_
      show Go p e below t T11 m 51 #[iv i0, iv i1, iv i2, iv i3, iv (nM i3), iv (nI i2), .val (.double (FP.i2d (nI i2))), .second, .val (.double (nKd i0)), .second, .val (.double (nFd i1)), .second, .val (.double (f_sat (nKd i0) (0 : UInt64) (FP.i2d (nI i2)))), .second, .unset, .unset, .unset, .unset, .unset, .unset] [(.double (0 : UInt64)), (.double (f_sat (nKd i0) (0 : UInt64) (FP.i2d (nI i2))))]
      refine XS.dcmpS X11.here hx rfl (hb hby at_51) rfl rfl ?_
      show Go p e below t T11 m 52 #[iv i0, iv i1, iv i2, iv i3, iv (nM i3), iv (nI i2), .val (.double (FP.i2d (nI i2))), .second, .val (.double (nKd i0)), .second, .val (.double (nFd i1)), .second, .val (.double (f_sat (nKd i0) (0 : UInt64) (FP.i2d (nI i2)))), .second, .unset, .unset, .unset, .unset, .unset, .unset] [(.int (cmpValue (FP.dcmp (f_sat (nKd i0) (0 : UInt64) (FP.i2d (nI i2))) (0 : UInt64)) .l))]
      refine XS.ifNo X11.here hx rfl (hb hby at_52) rfl (dc_l_ne_f (own_t0 i0 i1 i2)) ?_
      show Go p e below t T11 m 55 #[iv i0, iv i1, iv i2, iv i3, iv (nM i3), iv (nI i2), .val (.double (FP.i2d (nI i2))), .second, .val (.double (nKd i0)), .second, .val (.double (nFd i1)), .second, .val (.double (f_sat (nKd i0) (0 : UInt64) (FP.i2d (nI i2)))), .second, .unset, .unset, .unset, .unset, .unset, .unset] []
      refine XT.iconstV X11.here hx rfl (1 : Int32) (hb hby at_55) (by decide) ?_
      show Go p e below t T11 m 56 #[iv i0, iv i1, iv i2, iv i3, iv (nM i3), iv (nI i2), .val (.double (FP.i2d (nI i2))), .second, .val (.double (nKd i0)), .second, .val (.double (nFd i1)), .second, .val (.double (f_sat (nKd i0) (0 : UInt64) (FP.i2d (nI i2)))), .second, .unset, .unset, .unset, .unset, .unset, .unset] [(.int (1 : Int32))]
      refine XS.goto X11.here hx rfl (pc0 := 56) (pc' := 60) rfl (hb hby at_56) (by decide) (by decide) ?_
      show Go p e below t T11 m 60 #[iv i0, iv i1, iv i2, iv i3, iv (nM i3), iv (nI i2), .val (.double (FP.i2d (nI i2))), .second, .val (.double (nKd i0)), .second, .val (.double (nFd i1)), .second, .val (.double (f_sat (nKd i0) (0 : UInt64) (FP.i2d (nI i2)))), .second, .unset, .unset, .unset, .unset, .unset, .unset] [(.int (1 : Int32))]
      exact k)
    obtain ⟨fs, hr, hrun, hended, hW, hsame⟩ := X11.leave (v := some (.int (1 : Int32))) (fun h => by rw [Bd.returns] at h; cases h)
    refine ⟨_, _, g13 _ (retN X11 hx (t := .boolean) Bd.returns (by simp) (hb hby at_60) hr), hrun, hended, _, _, rfl, ?_, ⟨_, rfl⟩, hW, hsame.mono (by decide) (by decide)⟩
    show Q_law Z i0 i1 i2 i3  h0 n0 _ T11.heap _
    rw [e11]
    exact ⟨rfl, M11⟩
  · skip
    have g14 : Goes p e below S0 (s₁.setTop (mkF m 64 #[iv i0, iv i1, iv i2, iv i3, iv (nM i3), iv (nI i2), .val (.double (FP.i2d (nI i2))), .second, .val (.double (nKd i0)), .second, .val (.double (nFd i1)), .second, .unset, .unset, .unset, .unset, .unset, .unset, .unset, .unset] [(.int (1 : Int32)), (.int (nM i3))])) := fun t k => g8 t (by
      refine XS.ifYes X0.here hx rfl (pc0 := 35) (pc' := 61) rfl (hb hby at_35) rfl (XT.i0_ne_t h9) (by decide) (by decide) ?_
      show Go p e below t s₁ m 61 #[iv i0, iv i1, iv i2, iv i3, iv (nM i3), iv (nI i2), .val (.double (FP.i2d (nI i2))), .second, .val (.double (nKd i0)), .second, .val (.double (nFd i1)), .second, .unset, .unset, .unset, .unset, .unset, .unset, .unset, .unset] []
      refine XS.iload X0.here hx rfl (hb hby at_61) rfl ?_
      show Go p e below t s₁ m 63 #[iv i0, iv i1, iv i2, iv i3, iv (nM i3), iv (nI i2), .val (.double (FP.i2d (nI i2))), .second, .val (.double (nKd i0)), .second, .val (.double (nFd i1)), .second, .unset, .unset, .unset, .unset, .unset, .unset, .unset, .unset] [(.int (nM i3))]
      refine XT.iconstV X0.here hx rfl (1 : Int32) (hb hby at_63) (by decide) ?_
      show Go p e below t s₁ m 64 #[iv i0, iv i1, iv i2, iv i3, iv (nM i3), iv (nI i2), .val (.double (FP.i2d (nI i2))), .second, .val (.double (nKd i0)), .second, .val (.double (nFd i1)), .second, .unset, .unset, .unset, .unset, .unset, .unset, .unset, .unset] [(.int (1 : Int32)), (.int (nM i3))]
      exact k)
    by_cases h15 : (nM i3) = (1 : Int32)
    · skip
      have g16 : Goes p e below S0 (s₁.setTop (mkF m 78 #[iv i0, iv i1, iv i2, iv i3, iv (nM i3), iv (nI i2), .val (.double (FP.i2d (nI i2))), .second, .val (.double (nKd i0)), .second, .val (.double (nFd i1)), .second, .val (.double (9218868437227405312 : UInt64)), .second, .unset, .unset, .unset, .unset, .unset, .unset] [(.double (FP.i2d (nI i2))), (.double (9218868437227405312 : UInt64)), (.double (nKd i0))])) := fun t k => g14 t (by
        refine XS.icmpNo X0.here hx rfl (hb hby at_64) rfl (XT.ii_ne_f h15) ?_
        show Go p e below t s₁ m 67 #[iv i0, iv i1, iv i2, iv i3, iv (nM i3), iv (nI i2), .val (.double (FP.i2d (nI i2))), .second, .val (.double (nKd i0)), .second, .val (.double (nFd i1)), .second, .unset, .unset, .unset, .unset, .unset, .unset, .unset, .unset] []
        refine X0.ldc2DoubleC hx hown (mvT hZ (hw _ (List.mem_of_getElem? (i := 2) rfl))) (g := (mkF m 67 #[iv i0, iv i1, iv i2, iv i3, iv (nM i3), iv (nI i2), .val (.double (FP.i2d (nI i2))), .second, .val (.double (nKd i0)), .second, .val (.double (nFd i1)), .second, .unset, .unset, .unset, .unset, .unset, .unset, .unset, .unset] [])) rfl (hb hby at_67) _ ?_
        show Go p e below t s₁ m 70 #[iv i0, iv i1, iv i2, iv i3, iv (nM i3), iv (nI i2), .val (.double (FP.i2d (nI i2))), .second, .val (.double (nKd i0)), .second, .val (.double (nFd i1)), .second, .unset, .unset, .unset, .unset, .unset, .unset, .unset, .unset] [(.double (9218868437227405312 : UInt64))]
        refine XS.dstore X0.here hx rfl (hb hby at_70) rfl (l' := #[iv i0, iv i1, iv i2, iv i3, iv (nM i3), iv (nI i2), .val (.double (FP.i2d (nI i2))), .second, .val (.double (nKd i0)), .second, .val (.double (nFd i1)), .second, .val (.double (9218868437227405312 : UInt64)), .second, .unset, .unset, .unset, .unset, .unset, .unset]) rfl ?_
        show Go p e below t s₁ m 72 #[iv i0, iv i1, iv i2, iv i3, iv (nM i3), iv (nI i2), .val (.double (FP.i2d (nI i2))), .second, .val (.double (nKd i0)), .second, .val (.double (nFd i1)), .second, .val (.double (9218868437227405312 : UInt64)), .second, .unset, .unset, .unset, .unset, .unset, .unset] []
        refine XS.dload X0.here hx rfl (hb hby at_72) rfl ?_
        show Go p e below t s₁ m 74 #[iv i0, iv i1, iv i2, iv i3, iv (nM i3), iv (nI i2), .val (.double (FP.i2d (nI i2))), .second, .val (.double (nKd i0)), .second, .val (.double (nFd i1)), .second, .val (.double (9218868437227405312 : UInt64)), .second, .unset, .unset, .unset, .unset, .unset, .unset] [(.double (nKd i0))]
        refine XS.dload X0.here hx rfl (hb hby at_74) rfl ?_
        show Go p e below t s₁ m 76 #[iv i0, iv i1, iv i2, iv i3, iv (nM i3), iv (nI i2), .val (.double (FP.i2d (nI i2))), .second, .val (.double (nKd i0)), .second, .val (.double (nFd i1)), .second, .val (.double (9218868437227405312 : UInt64)), .second, .unset, .unset, .unset, .unset, .unset, .unset] [(.double (9218868437227405312 : UInt64)), (.double (nKd i0))]
        refine XS.dload X0.here hx rfl (hb hby at_76) rfl ?_
        show Go p e below t s₁ m 78 #[iv i0, iv i1, iv i2, iv i3, iv (nM i3), iv (nI i2), .val (.double (FP.i2d (nI i2))), .second, .val (.double (nKd i0)), .second, .val (.double (nFd i1)), .second, .val (.double (9218868437227405312 : UInt64)), .second, .unset, .unset, .unset, .unset, .unset, .unset] [(.double (FP.i2d (nI i2))), (.double (9218868437227405312 : UInt64)), (.double (nKd i0))]
        exact k)
      obtain ⟨_, _, ⟨T17, L17, k17, n17⟩, -, X17, ⟨Lc17, hQ17, l17, y17, z17⟩, st17⟩ := Jvm.LawKit.callS X0 hx (y := (⟨"com/example/narabi/narabi/ranking/Bm25", "saturate", "(DDD)D"⟩ : MethodName)) hown (mvT hZ (hw _ (List.mem_of_getElem? (i := 3) rfl))) (mvT hZ (hw _ (List.mem_of_getElem? (i := 4) rfl))) (mvT hZ (hw _ (List.mem_of_getElem? (i := 5) rfl))) (mvT hZ (hw _ (List.mem_of_getElem? (i := 6) rfl))) (by decide) (backOf (W := 0) (rm_sat l Z a0 hw [] (nKd i0) (9218868437227405312 : UInt64) (FP.i2d (nI i2))  h0 n0 Z0 (fun _ h => absurd own_ei h) (fun _ h => absurd own_ei h) (fun _ h => absurd own_ei h)) hZ (hw _ (List.mem_of_getElem? (i := 6) rfl)) (hw _ (List.mem_of_getElem? (i := 5) rfl)) (by decide) (by decide)) (g := (mkF m 78 #[iv i0, iv i1, iv i2, iv i3, iv (nM i3), iv (nI i2), .val (.double (FP.i2d (nI i2))), .second, .val (.double (nKd i0)), .second, .val (.double (nFd i1)), .second, .val (.double (9218868437227405312 : UInt64)), .second, .unset, .unset, .unset, .unset, .unset, .unset] [(.double (FP.i2d (nI i2))), (.double (9218868437227405312 : UInt64)), (.double (nKd i0))])) rfl (by rw [hml]; rfl) (argsL := [(.double (nKd i0)), (.double (9218868437227405312 : UInt64)), (.double (FP.i2d (nI i2)))]) (rest := []) (lenOf pd0 rfl) rfl (by show 2 * 0 + _ ≤ _; exact Nat.le_of_eq rfl) (hb hby at_78) (fun _ _ => ⟨rfl, e0, (by decide : 0 + 0 ≤ _), (by decide : 0 + 0 ≤ _)⟩)
      dsimp only [Pt.U, Pt.locs, Pt.cells, Pt.slots] at X17 l17 y17 z17 st17 hQ17
      subst l17 y17 z17
      obtain ⟨rfl, N17, e17⟩ := hQ17
      have M17 := Fr.app N0 N17
      have g18 : Goes p e below S0 (T17.setTop (mkF m 81 #[iv i0, iv i1, iv i2, iv i3, iv (nM i3), iv (nI i2), .val (.double (FP.i2d (nI i2))), .second, .val (.double (nKd i0)), .second, .val (.double (nFd i1)), .second, .val (.double (9218868437227405312 : UInt64)), .second, .unset, .unset, .unset, .unset, .unset, .unset] [(.double (f_sat (nKd i0) (9218868437227405312 : UInt64) (FP.i2d (nI i2))))])) := fun t k => g16 t (st17 t k)
      have g19 : Goes p e below S0 (T17.setTop (mkF m 92 #[iv i0, iv i1, iv i2, iv i3, iv (nM i3), iv (nI i2), .val (.double (FP.i2d (nI i2))), .second, .val (.double (nKd i0)), .second, .val (.double (nFd i1)), .second, .val (.double (9218868437227405312 : UInt64)), .second, .unset, .unset, .unset, .unset, .unset, .unset] [(.int (1 : Int32))])) := fun t k => g18 t (by
        refine XS.dload X17.here hx rfl (hb hby at_81) rfl ?_
        show Go p e below t T17 m 83 #[iv i0, iv i1, iv i2, iv i3, iv (nM i3), iv (nI i2), .val (.double (FP.i2d (nI i2))), .second, .val (.double (nKd i0)), .second, .val (.double (nFd i1)), .second, .val (.double (9218868437227405312 : UInt64)), .second, .unset, .unset, .unset, .unset, .unset, .unset] [(.double (FP.i2d (nI i2))), (.double (f_sat (nKd i0) (9218868437227405312 : UInt64) (FP.i2d (nI i2))))]
        refine XS.dcmpS X17.here hx rfl (hb hby at_83) rfl rfl ?_
        show Go p e below t T17 m 84 #[iv i0, iv i1, iv i2, iv i3, iv (nM i3), iv (nI i2), .val (.double (FP.i2d (nI i2))), .second, .val (.double (nKd i0)), .second, .val (.double (nFd i1)), .second, .val (.double (9218868437227405312 : UInt64)), .second, .unset, .unset, .unset, .unset, .unset, .unset] [(.int (cmpValue (FP.dcmp (f_sat (nKd i0) (9218868437227405312 : UInt64) (FP.i2d (nI i2))) (FP.i2d (nI i2))) .l))]
        refine XS.ifNo X17.here hx rfl (hb hby at_84) rfl (dc_l_ne_f (own_t1 i0 i1 i2)) ?_
        show Go p e below t T17 m 87 #[iv i0, iv i1, iv i2, iv i3, iv (nM i3), iv (nI i2), .val (.double (FP.i2d (nI i2))), .second, .val (.double (nKd i0)), .second, .val (.double (nFd i1)), .second, .val (.double (9218868437227405312 : UInt64)), .second, .unset, .unset, .unset, .unset, .unset, .unset] []
        refine XT.iconstV X17.here hx rfl (1 : Int32) (hb hby at_87) (by decide) ?_
        show Go p e below t T17 m 88 #[iv i0, iv i1, iv i2, iv i3, iv (nM i3), iv (nI i2), .val (.double (FP.i2d (nI i2))), .second, .val (.double (nKd i0)), .second, .val (.double (nFd i1)), .second, .val (.double (9218868437227405312 : UInt64)), .second, .unset, .unset, .unset, .unset, .unset, .unset] [(.int (1 : Int32))]
        refine XS.goto X17.here hx rfl (pc0 := 88) (pc' := 92) rfl (hb hby at_88) (by decide) (by decide) ?_
        show Go p e below t T17 m 92 #[iv i0, iv i1, iv i2, iv i3, iv (nM i3), iv (nI i2), .val (.double (FP.i2d (nI i2))), .second, .val (.double (nKd i0)), .second, .val (.double (nFd i1)), .second, .val (.double (9218868437227405312 : UInt64)), .second, .unset, .unset, .unset, .unset, .unset, .unset] [(.int (1 : Int32))]
        exact k)
      obtain ⟨fs, hr, hrun, hended, hW, hsame⟩ := X17.leave (v := some (.int (1 : Int32))) (fun h => by rw [Bd.returns] at h; cases h)
      refine ⟨_, _, g19 _ (retN X17 hx (t := .boolean) Bd.returns (by simp) (hb hby at_92) hr), hrun, hended, _, _, rfl, ?_, ⟨_, rfl⟩, hW, hsame.mono (by decide) (by decide)⟩
      show Q_law Z i0 i1 i2 i3  h0 n0 _ T17.heap _
      rw [e17]
      exact ⟨rfl, M17⟩
    · skip
      have g20 : Goes p e below S0 (s₁.setTop (mkF m 96 #[iv i0, iv i1, iv i2, iv i3, iv (nM i3), iv (nI i2), .val (.double (FP.i2d (nI i2))), .second, .val (.double (nKd i0)), .second, .val (.double (nFd i1)), .second, .unset, .unset, .unset, .unset, .unset, .unset, .unset, .unset] [(.int (2 : Int32)), (.int (nM i3))])) := fun t k => g14 t (by
        refine XS.icmpYes X0.here hx rfl (pc0 := 64) (pc' := 93) rfl (hb hby at_64) rfl (XT.ii_ne_t h15) (by decide) (by decide) ?_
        show Go p e below t s₁ m 93 #[iv i0, iv i1, iv i2, iv i3, iv (nM i3), iv (nI i2), .val (.double (FP.i2d (nI i2))), .second, .val (.double (nKd i0)), .second, .val (.double (nFd i1)), .second, .unset, .unset, .unset, .unset, .unset, .unset, .unset, .unset] []
        refine XS.iload X0.here hx rfl (hb hby at_93) rfl ?_
        show Go p e below t s₁ m 95 #[iv i0, iv i1, iv i2, iv i3, iv (nM i3), iv (nI i2), .val (.double (FP.i2d (nI i2))), .second, .val (.double (nKd i0)), .second, .val (.double (nFd i1)), .second, .unset, .unset, .unset, .unset, .unset, .unset, .unset, .unset] [(.int (nM i3))]
        refine XT.iconstV X0.here hx rfl (2 : Int32) (hb hby at_95) (by decide) ?_
        show Go p e below t s₁ m 96 #[iv i0, iv i1, iv i2, iv i3, iv (nM i3), iv (nI i2), .val (.double (FP.i2d (nI i2))), .second, .val (.double (nKd i0)), .second, .val (.double (nFd i1)), .second, .unset, .unset, .unset, .unset, .unset, .unset, .unset, .unset] [(.int (2 : Int32)), (.int (nM i3))]
        exact k)
      by_cases h21 : (nM i3) = (2 : Int32)
      · skip
        have g22 : Goes p e below S0 (s₁.setTop (mkF m 104 #[iv i0, iv i1, iv i2, iv i3, iv (nM i3), iv (nI i2), .val (.double (FP.i2d (nI i2))), .second, .val (.double (nKd i0)), .second, .val (.double (nFd i1)), .second, .unset, .unset, .unset, .unset, .unset, .unset, .unset, .unset] [(.double (FP.i2d (nI i2))), (.double (nFd i1)), (.double (0 : UInt64))])) := fun t k => g20 t (by
          refine XS.icmpNo X0.here hx rfl (hb hby at_96) rfl (XT.ii_ne_f h21) ?_
          show Go p e below t s₁ m 99 #[iv i0, iv i1, iv i2, iv i3, iv (nM i3), iv (nI i2), .val (.double (FP.i2d (nI i2))), .second, .val (.double (nKd i0)), .second, .val (.double (nFd i1)), .second, .unset, .unset, .unset, .unset, .unset, .unset, .unset, .unset] []
          refine XS.dconst0 X0.here hx rfl (hb hby at_99) (v := (0 : UInt64)) rfl ?_
          show Go p e below t s₁ m 100 #[iv i0, iv i1, iv i2, iv i3, iv (nM i3), iv (nI i2), .val (.double (FP.i2d (nI i2))), .second, .val (.double (nKd i0)), .second, .val (.double (nFd i1)), .second, .unset, .unset, .unset, .unset, .unset, .unset, .unset, .unset] [(.double (0 : UInt64))]
          refine XS.dload X0.here hx rfl (hb hby at_100) rfl ?_
          show Go p e below t s₁ m 102 #[iv i0, iv i1, iv i2, iv i3, iv (nM i3), iv (nI i2), .val (.double (FP.i2d (nI i2))), .second, .val (.double (nKd i0)), .second, .val (.double (nFd i1)), .second, .unset, .unset, .unset, .unset, .unset, .unset, .unset, .unset] [(.double (nFd i1)), (.double (0 : UInt64))]
          refine XS.dload X0.here hx rfl (hb hby at_102) rfl ?_
          show Go p e below t s₁ m 104 #[iv i0, iv i1, iv i2, iv i3, iv (nM i3), iv (nI i2), .val (.double (FP.i2d (nI i2))), .second, .val (.double (nKd i0)), .second, .val (.double (nFd i1)), .second, .unset, .unset, .unset, .unset, .unset, .unset, .unset, .unset] [(.double (FP.i2d (nI i2))), (.double (nFd i1)), (.double (0 : UInt64))]
          exact k)
        obtain ⟨_, _, ⟨T23, L23, k23, n23⟩, -, X23, ⟨Lc23, hQ23, l23, y23, z23⟩, st23⟩ := Jvm.LawKit.callS X0 hx (y := (⟨"com/example/narabi/narabi/ranking/Bm25", "saturate", "(DDD)D"⟩ : MethodName)) hown (mvT hZ (hw _ (List.mem_of_getElem? (i := 3) rfl))) (mvT hZ (hw _ (List.mem_of_getElem? (i := 4) rfl))) (mvT hZ (hw _ (List.mem_of_getElem? (i := 5) rfl))) (mvT hZ (hw _ (List.mem_of_getElem? (i := 6) rfl))) (by decide) (backOf (W := 0) (rm_sat l Z a0 hw [] (0 : UInt64) (nFd i1) (FP.i2d (nI i2))  h0 n0 Z0 (fun _ _ => own_nn32_2 i0 i1 i2) (fun _ _ => own_nn33_2 i0 i1 i2) (fun _ _ => own_nn34_2 i0 i1 i2)) hZ (hw _ (List.mem_of_getElem? (i := 6) rfl)) (hw _ (List.mem_of_getElem? (i := 5) rfl)) (by decide) (by decide)) (g := (mkF m 104 #[iv i0, iv i1, iv i2, iv i3, iv (nM i3), iv (nI i2), .val (.double (FP.i2d (nI i2))), .second, .val (.double (nKd i0)), .second, .val (.double (nFd i1)), .second, .unset, .unset, .unset, .unset, .unset, .unset, .unset, .unset] [(.double (FP.i2d (nI i2))), (.double (nFd i1)), (.double (0 : UInt64))])) rfl (by rw [hml]; rfl) (argsL := [(.double (0 : UInt64)), (.double (nFd i1)), (.double (FP.i2d (nI i2)))]) (rest := []) (lenOf pd0 rfl) rfl (by show 2 * 0 + _ ≤ _; exact Nat.le_of_eq rfl) (hb hby at_104) (fun _ _ => ⟨rfl, e0, (by decide : 0 + 0 ≤ _), (by decide : 0 + 0 ≤ _)⟩)
        dsimp only [Pt.U, Pt.locs, Pt.cells, Pt.slots] at X23 l23 y23 z23 st23 hQ23
        subst l23 y23 z23
        obtain ⟨rfl, N23, e23⟩ := hQ23
        have M23 := Fr.app N0 N23
        have g24 : Goes p e below S0 (T23.setTop (mkF m 107 #[iv i0, iv i1, iv i2, iv i3, iv (nM i3), iv (nI i2), .val (.double (FP.i2d (nI i2))), .second, .val (.double (nKd i0)), .second, .val (.double (nFd i1)), .second, .unset, .unset, .unset, .unset, .unset, .unset, .unset, .unset] [(.double (f_sat (0 : UInt64) (nFd i1) (FP.i2d (nI i2))))])) := fun t k => g22 t (st23 t k)
        have g25 : Goes p e below S0 (T23.setTop (mkF m 118 #[iv i0, iv i1, iv i2, iv i3, iv (nM i3), iv (nI i2), .val (.double (FP.i2d (nI i2))), .second, .val (.double (nKd i0)), .second, .val (.double (nFd i1)), .second, .unset, .unset, .unset, .unset, .unset, .unset, .unset, .unset] [(.int (1 : Int32))])) := fun t k => g24 t (by
          refine XS.dload X23.here hx rfl (hb hby at_107) rfl ?_
          show Go p e below t T23 m 109 #[iv i0, iv i1, iv i2, iv i3, iv (nM i3), iv (nI i2), .val (.double (FP.i2d (nI i2))), .second, .val (.double (nKd i0)), .second, .val (.double (nFd i1)), .second, .unset, .unset, .unset, .unset, .unset, .unset, .unset, .unset] [(.double (FP.i2d (nI i2))), (.double (f_sat (0 : UInt64) (nFd i1) (FP.i2d (nI i2))))]
          refine XS.dcmpS X23.here hx rfl (hb hby at_109) rfl rfl ?_
          show Go p e below t T23 m 110 #[iv i0, iv i1, iv i2, iv i3, iv (nM i3), iv (nI i2), .val (.double (FP.i2d (nI i2))), .second, .val (.double (nKd i0)), .second, .val (.double (nFd i1)), .second, .unset, .unset, .unset, .unset, .unset, .unset, .unset, .unset] [(.int (cmpValue (FP.dcmp (f_sat (0 : UInt64) (nFd i1) (FP.i2d (nI i2))) (FP.i2d (nI i2))) .l))]
          refine XS.ifNo X23.here hx rfl (hb hby at_110) rfl (dc_l_ne_f (own_t2 i0 i1 i2)) ?_
          show Go p e below t T23 m 113 #[iv i0, iv i1, iv i2, iv i3, iv (nM i3), iv (nI i2), .val (.double (FP.i2d (nI i2))), .second, .val (.double (nKd i0)), .second, .val (.double (nFd i1)), .second, .unset, .unset, .unset, .unset, .unset, .unset, .unset, .unset] []
          refine XT.iconstV X23.here hx rfl (1 : Int32) (hb hby at_113) (by decide) ?_
          show Go p e below t T23 m 114 #[iv i0, iv i1, iv i2, iv i3, iv (nM i3), iv (nI i2), .val (.double (FP.i2d (nI i2))), .second, .val (.double (nKd i0)), .second, .val (.double (nFd i1)), .second, .unset, .unset, .unset, .unset, .unset, .unset, .unset, .unset] [(.int (1 : Int32))]
          refine XS.goto X23.here hx rfl (pc0 := 114) (pc' := 118) rfl (hb hby at_114) (by decide) (by decide) ?_
          show Go p e below t T23 m 118 #[iv i0, iv i1, iv i2, iv i3, iv (nM i3), iv (nI i2), .val (.double (FP.i2d (nI i2))), .second, .val (.double (nKd i0)), .second, .val (.double (nFd i1)), .second, .unset, .unset, .unset, .unset, .unset, .unset, .unset, .unset] [(.int (1 : Int32))]
          exact k)
        obtain ⟨fs, hr, hrun, hended, hW, hsame⟩ := X23.leave (v := some (.int (1 : Int32))) (fun h => by rw [Bd.returns] at h; cases h)
        refine ⟨_, _, g25 _ (retN X23 hx (t := .boolean) Bd.returns (by simp) (hb hby at_118) hr), hrun, hended, _, _, rfl, ?_, ⟨_, rfl⟩, hW, hsame.mono (by decide) (by decide)⟩
        show Q_law Z i0 i1 i2 i3  h0 n0 _ T23.heap _
        rw [e23]
        exact ⟨rfl, M23⟩
      · skip
        have g26 : Goes p e below S0 (s₁.setTop (mkF m 122 #[iv i0, iv i1, iv i2, iv i3, iv (nM i3), iv (nI i2), .val (.double (FP.i2d (nI i2))), .second, .val (.double (nKd i0)), .second, .val (.double (nFd i1)), .second, .unset, .unset, .unset, .unset, .unset, .unset, .unset, .unset] [(.int (3 : Int32)), (.int (nM i3))])) := fun t k => g20 t (by
          refine XS.icmpYes X0.here hx rfl (pc0 := 96) (pc' := 119) rfl (hb hby at_96) rfl (XT.ii_ne_t h21) (by decide) (by decide) ?_
          show Go p e below t s₁ m 119 #[iv i0, iv i1, iv i2, iv i3, iv (nM i3), iv (nI i2), .val (.double (FP.i2d (nI i2))), .second, .val (.double (nKd i0)), .second, .val (.double (nFd i1)), .second, .unset, .unset, .unset, .unset, .unset, .unset, .unset, .unset] []
          refine XS.iload X0.here hx rfl (hb hby at_119) rfl ?_
          show Go p e below t s₁ m 121 #[iv i0, iv i1, iv i2, iv i3, iv (nM i3), iv (nI i2), .val (.double (FP.i2d (nI i2))), .second, .val (.double (nKd i0)), .second, .val (.double (nFd i1)), .second, .unset, .unset, .unset, .unset, .unset, .unset, .unset, .unset] [(.int (nM i3))]
          refine XT.iconstV X0.here hx rfl (3 : Int32) (hb hby at_121) (by decide) ?_
          show Go p e below t s₁ m 122 #[iv i0, iv i1, iv i2, iv i3, iv (nM i3), iv (nI i2), .val (.double (FP.i2d (nI i2))), .second, .val (.double (nKd i0)), .second, .val (.double (nFd i1)), .second, .unset, .unset, .unset, .unset, .unset, .unset, .unset, .unset] [(.int (3 : Int32)), (.int (nM i3))]
          exact k)
        by_cases h27 : (nM i3) = (3 : Int32)
        · skip
          have g28 : Goes p e below S0 (s₁.setTop (mkF m 131 #[iv i0, iv i1, iv i2, iv i3, iv (nM i3), iv (nI i2), .val (.double (FP.i2d (nI i2))), .second, .val (.double (nKd i0)), .second, .val (.double (nFd i1)), .second, .unset, .unset, .unset, .unset, .unset, .unset, .unset, .unset] [(.double (FP.i2d (nI i2))), (.double (nFd i1)), (.double (nFd i1))])) := fun t k => g26 t (by
            refine XS.icmpNo X0.here hx rfl (hb hby at_122) rfl (XT.ii_ne_f h27) ?_
            show Go p e below t s₁ m 125 #[iv i0, iv i1, iv i2, iv i3, iv (nM i3), iv (nI i2), .val (.double (FP.i2d (nI i2))), .second, .val (.double (nKd i0)), .second, .val (.double (nFd i1)), .second, .unset, .unset, .unset, .unset, .unset, .unset, .unset, .unset] []
            refine XS.dload X0.here hx rfl (hb hby at_125) rfl ?_
            show Go p e below t s₁ m 127 #[iv i0, iv i1, iv i2, iv i3, iv (nM i3), iv (nI i2), .val (.double (FP.i2d (nI i2))), .second, .val (.double (nKd i0)), .second, .val (.double (nFd i1)), .second, .unset, .unset, .unset, .unset, .unset, .unset, .unset, .unset] [(.double (nFd i1))]
            refine XS.dload X0.here hx rfl (hb hby at_127) rfl ?_
            show Go p e below t s₁ m 129 #[iv i0, iv i1, iv i2, iv i3, iv (nM i3), iv (nI i2), .val (.double (FP.i2d (nI i2))), .second, .val (.double (nKd i0)), .second, .val (.double (nFd i1)), .second, .unset, .unset, .unset, .unset, .unset, .unset, .unset, .unset] [(.double (nFd i1)), (.double (nFd i1))]
            refine XS.dload X0.here hx rfl (hb hby at_129) rfl ?_
            show Go p e below t s₁ m 131 #[iv i0, iv i1, iv i2, iv i3, iv (nM i3), iv (nI i2), .val (.double (FP.i2d (nI i2))), .second, .val (.double (nKd i0)), .second, .val (.double (nFd i1)), .second, .unset, .unset, .unset, .unset, .unset, .unset, .unset, .unset] [(.double (FP.i2d (nI i2))), (.double (nFd i1)), (.double (nFd i1))]
            exact k)
          obtain ⟨_, _, ⟨T29, L29, k29, n29⟩, -, X29, ⟨Lc29, hQ29, l29, y29, z29⟩, st29⟩ := Jvm.LawKit.callS X0 hx (y := (⟨"com/example/narabi/narabi/ranking/Bm25", "saturate", "(DDD)D"⟩ : MethodName)) hown (mvT hZ (hw _ (List.mem_of_getElem? (i := 3) rfl))) (mvT hZ (hw _ (List.mem_of_getElem? (i := 4) rfl))) (mvT hZ (hw _ (List.mem_of_getElem? (i := 5) rfl))) (mvT hZ (hw _ (List.mem_of_getElem? (i := 6) rfl))) (by decide) (backOf (W := 0) (rm_sat l Z a0 hw [] (nFd i1) (nFd i1) (FP.i2d (nI i2))  h0 n0 Z0 (fun _ _ => own_nn32_3 i0 i1 i2) (fun _ _ => own_nn33_3 i0 i1 i2) (fun _ _ => own_nn34_3 i0 i1 i2)) hZ (hw _ (List.mem_of_getElem? (i := 6) rfl)) (hw _ (List.mem_of_getElem? (i := 5) rfl)) (by decide) (by decide)) (g := (mkF m 131 #[iv i0, iv i1, iv i2, iv i3, iv (nM i3), iv (nI i2), .val (.double (FP.i2d (nI i2))), .second, .val (.double (nKd i0)), .second, .val (.double (nFd i1)), .second, .unset, .unset, .unset, .unset, .unset, .unset, .unset, .unset] [(.double (FP.i2d (nI i2))), (.double (nFd i1)), (.double (nFd i1))])) rfl (by rw [hml]; rfl) (argsL := [(.double (nFd i1)), (.double (nFd i1)), (.double (FP.i2d (nI i2)))]) (rest := []) (lenOf pd0 rfl) rfl (by show 2 * 0 + _ ≤ _; exact Nat.le_of_eq rfl) (hb hby at_131) (fun _ _ => ⟨rfl, e0, (by decide : 0 + 0 ≤ _), (by decide : 0 + 0 ≤ _)⟩)
          dsimp only [Pt.U, Pt.locs, Pt.cells, Pt.slots] at X29 l29 y29 z29 st29 hQ29
          subst l29 y29 z29
          obtain ⟨rfl, N29, e29⟩ := hQ29
          have M29 := Fr.app N0 N29
          have g30 : Goes p e below S0 (T29.setTop (mkF m 134 #[iv i0, iv i1, iv i2, iv i3, iv (nM i3), iv (nI i2), .val (.double (FP.i2d (nI i2))), .second, .val (.double (nKd i0)), .second, .val (.double (nFd i1)), .second, .unset, .unset, .unset, .unset, .unset, .unset, .unset, .unset] [(.double (f_sat (nFd i1) (nFd i1) (FP.i2d (nI i2))))])) := fun t k => g28 t (st29 t k)
          have g31 : Goes p e below S0 (T29.setTop (mkF m 149 #[iv i0, iv i1, iv i2, iv i3, iv (nM i3), iv (nI i2), .val (.double (FP.i2d (nI i2))), .second, .val (.double (nKd i0)), .second, .val (.double (nFd i1)), .second, .unset, .unset, .unset, .unset, .unset, .unset, .unset, .unset] [(.int (1 : Int32))])) := fun t k => g30 t (by
            refine XS.dload X29.here hx rfl (hb hby at_134) rfl ?_
            show Go p e below t T29 m 136 #[iv i0, iv i1, iv i2, iv i3, iv (nM i3), iv (nI i2), .val (.double (FP.i2d (nI i2))), .second, .val (.double (nKd i0)), .second, .val (.double (nFd i1)), .second, .unset, .unset, .unset, .unset, .unset, .unset, .unset, .unset] [(.double (FP.i2d (nI i2))), (.double (f_sat (nFd i1) (nFd i1) (FP.i2d (nI i2))))]
            refine X29.ldc2DoubleC hx hown (mvT hZ (hw _ (List.mem_of_getElem? (i := 10) rfl))) (g := (mkF m 136 #[iv i0, iv i1, iv i2, iv i3, iv (nM i3), iv (nI i2), .val (.double (FP.i2d (nI i2))), .second, .val (.double (nKd i0)), .second, .val (.double (nFd i1)), .second, .unset, .unset, .unset, .unset, .unset, .unset, .unset, .unset] [(.double (FP.i2d (nI i2))), (.double (f_sat (nFd i1) (nFd i1) (FP.i2d (nI i2))))])) rfl (hb hby at_136) _ ?_
            show Go p e below t T29 m 139 #[iv i0, iv i1, iv i2, iv i3, iv (nM i3), iv (nI i2), .val (.double (FP.i2d (nI i2))), .second, .val (.double (nKd i0)), .second, .val (.double (nFd i1)), .second, .unset, .unset, .unset, .unset, .unset, .unset, .unset, .unset] [(.double (4611686018427387904 : UInt64)), (.double (FP.i2d (nI i2))), (.double (f_sat (nFd i1) (nFd i1) (FP.i2d (nI i2))))]
            refine XS.ddivS X29.here hx rfl (hb hby at_139) rfl (own_d2 i2) rfl ?_
            show Go p e below t T29 m 140 #[iv i0, iv i1, iv i2, iv i3, iv (nM i3), iv (nI i2), .val (.double (FP.i2d (nI i2))), .second, .val (.double (nKd i0)), .second, .val (.double (nFd i1)), .second, .unset, .unset, .unset, .unset, .unset, .unset, .unset, .unset] [(.double (FP.ddiv (FP.i2d (nI i2)) (4611686018427387904 : UInt64))), (.double (f_sat (nFd i1) (nFd i1) (FP.i2d (nI i2))))]
            refine XS.dcmpS X29.here hx rfl (hb hby at_140) rfl rfl ?_
            show Go p e below t T29 m 141 #[iv i0, iv i1, iv i2, iv i3, iv (nM i3), iv (nI i2), .val (.double (FP.i2d (nI i2))), .second, .val (.double (nKd i0)), .second, .val (.double (nFd i1)), .second, .unset, .unset, .unset, .unset, .unset, .unset, .unset, .unset] [(.int (cmpValue (FP.dcmp (f_sat (nFd i1) (nFd i1) (FP.i2d (nI i2))) (FP.ddiv (FP.i2d (nI i2)) (4611686018427387904 : UInt64))) .l))]
            refine XS.ifNo X29.here hx rfl (hb hby at_141) rfl (dc_l_ne_f (own_t3 i0 i1 i2)) ?_
            show Go p e below t T29 m 144 #[iv i0, iv i1, iv i2, iv i3, iv (nM i3), iv (nI i2), .val (.double (FP.i2d (nI i2))), .second, .val (.double (nKd i0)), .second, .val (.double (nFd i1)), .second, .unset, .unset, .unset, .unset, .unset, .unset, .unset, .unset] []
            refine XT.iconstV X29.here hx rfl (1 : Int32) (hb hby at_144) (by decide) ?_
            show Go p e below t T29 m 145 #[iv i0, iv i1, iv i2, iv i3, iv (nM i3), iv (nI i2), .val (.double (FP.i2d (nI i2))), .second, .val (.double (nKd i0)), .second, .val (.double (nFd i1)), .second, .unset, .unset, .unset, .unset, .unset, .unset, .unset, .unset] [(.int (1 : Int32))]
            refine XS.goto X29.here hx rfl (pc0 := 145) (pc' := 149) rfl (hb hby at_145) (by decide) (by decide) ?_
            show Go p e below t T29 m 149 #[iv i0, iv i1, iv i2, iv i3, iv (nM i3), iv (nI i2), .val (.double (FP.i2d (nI i2))), .second, .val (.double (nKd i0)), .second, .val (.double (nFd i1)), .second, .unset, .unset, .unset, .unset, .unset, .unset, .unset, .unset] [(.int (1 : Int32))]
            exact k)
          obtain ⟨fs, hr, hrun, hended, hW, hsame⟩ := X29.leave (v := some (.int (1 : Int32))) (fun h => by rw [Bd.returns] at h; cases h)
          refine ⟨_, _, g31 _ (retN X29 hx (t := .boolean) Bd.returns (by simp) (hb hby at_149) hr), hrun, hended, _, _, rfl, ?_, ⟨_, rfl⟩, hW, hsame.mono (by decide) (by decide)⟩
          show Q_law Z i0 i1 i2 i3  h0 n0 _ T29.heap _
          rw [e29]
          exact ⟨rfl, M29⟩
        · skip
          have g32 : Goes p e below S0 (s₁.setTop (mkF m 153 #[iv i0, iv i1, iv i2, iv i3, iv (nM i3), iv (nI i2), .val (.double (FP.i2d (nI i2))), .second, .val (.double (nKd i0)), .second, .val (.double (nFd i1)), .second, .unset, .unset, .unset, .unset, .unset, .unset, .unset, .unset] [(.int (4 : Int32)), (.int (nM i3))])) := fun t k => g26 t (by
            refine XS.icmpYes X0.here hx rfl (pc0 := 122) (pc' := 150) rfl (hb hby at_122) rfl (XT.ii_ne_t h27) (by decide) (by decide) ?_
            show Go p e below t s₁ m 150 #[iv i0, iv i1, iv i2, iv i3, iv (nM i3), iv (nI i2), .val (.double (FP.i2d (nI i2))), .second, .val (.double (nKd i0)), .second, .val (.double (nFd i1)), .second, .unset, .unset, .unset, .unset, .unset, .unset, .unset, .unset] []
            refine XS.iload X0.here hx rfl (hb hby at_150) rfl ?_
            show Go p e below t s₁ m 152 #[iv i0, iv i1, iv i2, iv i3, iv (nM i3), iv (nI i2), .val (.double (FP.i2d (nI i2))), .second, .val (.double (nKd i0)), .second, .val (.double (nFd i1)), .second, .unset, .unset, .unset, .unset, .unset, .unset, .unset, .unset] [(.int (nM i3))]
            refine XT.iconstV X0.here hx rfl (4 : Int32) (hb hby at_152) (by decide) ?_
            show Go p e below t s₁ m 153 #[iv i0, iv i1, iv i2, iv i3, iv (nM i3), iv (nI i2), .val (.double (FP.i2d (nI i2))), .second, .val (.double (nKd i0)), .second, .val (.double (nFd i1)), .second, .unset, .unset, .unset, .unset, .unset, .unset, .unset, .unset] [(.int (4 : Int32)), (.int (nM i3))]
            exact k)
          by_cases h33 : (nM i3) = (4 : Int32)
          · skip
            have g34 : Goes p e below S0 (s₁.setTop (mkF m 166 #[iv i0, iv i1, iv i2, iv i3, iv (nM i3), iv (nI i2), .val (.double (FP.i2d (nI i2))), .second, .val (.double (nKd i0)), .second, .val (.double (nFd i1)), .second, .unset, .unset, .unset, .unset, .unset, .unset, .unset, .unset] [(.double (FP.i2d (nI i2))), (.double (nFd i1)), (.double (nF3 i1))])) := fun t k => g32 t (by
              refine XS.icmpNo X0.here hx rfl (hb hby at_153) rfl (XT.ii_ne_f h33) ?_
              show Go p e below t s₁ m 156 #[iv i0, iv i1, iv i2, iv i3, iv (nM i3), iv (nI i2), .val (.double (FP.i2d (nI i2))), .second, .val (.double (nKd i0)), .second, .val (.double (nFd i1)), .second, .unset, .unset, .unset, .unset, .unset, .unset, .unset, .unset] []
              refine X0.ldc2DoubleC hx hown (mvT hZ (hw _ (List.mem_of_getElem? (i := 8) rfl))) (g := (mkF m 156 #[iv i0, iv i1, iv i2, iv i3, iv (nM i3), iv (nI i2), .val (.double (FP.i2d (nI i2))), .second, .val (.double (nKd i0)), .second, .val (.double (nFd i1)), .second, .unset, .unset, .unset, .unset, .unset, .unset, .unset, .unset] [])) rfl (hb hby at_156) _ ?_
              show Go p e below t s₁ m 159 #[iv i0, iv i1, iv i2, iv i3, iv (nM i3), iv (nI i2), .val (.double (FP.i2d (nI i2))), .second, .val (.double (nKd i0)), .second, .val (.double (nFd i1)), .second, .unset, .unset, .unset, .unset, .unset, .unset, .unset, .unset] [(.double (4613937818241073152 : UInt64))]
              refine XS.dload X0.here hx rfl (hb hby at_159) rfl ?_
              show Go p e below t s₁ m 161 #[iv i0, iv i1, iv i2, iv i3, iv (nM i3), iv (nI i2), .val (.double (FP.i2d (nI i2))), .second, .val (.double (nKd i0)), .second, .val (.double (nFd i1)), .second, .unset, .unset, .unset, .unset, .unset, .unset, .unset, .unset] [(.double (nFd i1)), (.double (4613937818241073152 : UInt64))]
              refine XS.dmulS X0.here hx rfl (hb hby at_161) rfl (own_f3 i1) rfl ?_
              show Go p e below t s₁ m 162 #[iv i0, iv i1, iv i2, iv i3, iv (nM i3), iv (nI i2), .val (.double (FP.i2d (nI i2))), .second, .val (.double (nKd i0)), .second, .val (.double (nFd i1)), .second, .unset, .unset, .unset, .unset, .unset, .unset, .unset, .unset] [(.double (FP.dmul (4613937818241073152 : UInt64) (nFd i1)))]
              show Go p e below t s₁ m 162 #[iv i0, iv i1, iv i2, iv i3, iv (nM i3), iv (nI i2), .val (.double (FP.i2d (nI i2))), .second, .val (.double (nKd i0)), .second, .val (.double (nFd i1)), .second, .unset, .unset, .unset, .unset, .unset, .unset, .unset, .unset] [(.double (nF3 i1))]
              refine XS.dload X0.here hx rfl (hb hby at_162) rfl ?_
              show Go p e below t s₁ m 164 #[iv i0, iv i1, iv i2, iv i3, iv (nM i3), iv (nI i2), .val (.double (FP.i2d (nI i2))), .second, .val (.double (nKd i0)), .second, .val (.double (nFd i1)), .second, .unset, .unset, .unset, .unset, .unset, .unset, .unset, .unset] [(.double (nFd i1)), (.double (nF3 i1))]
              refine XS.dload X0.here hx rfl (hb hby at_164) rfl ?_
              show Go p e below t s₁ m 166 #[iv i0, iv i1, iv i2, iv i3, iv (nM i3), iv (nI i2), .val (.double (FP.i2d (nI i2))), .second, .val (.double (nKd i0)), .second, .val (.double (nFd i1)), .second, .unset, .unset, .unset, .unset, .unset, .unset, .unset, .unset] [(.double (FP.i2d (nI i2))), (.double (nFd i1)), (.double (nF3 i1))]
              exact k)
            obtain ⟨_, _, ⟨T35, L35, k35, n35⟩, -, X35, ⟨Lc35, hQ35, l35, y35, z35⟩, st35⟩ := Jvm.LawKit.callS X0 hx (y := (⟨"com/example/narabi/narabi/ranking/Bm25", "saturate", "(DDD)D"⟩ : MethodName)) hown (mvT hZ (hw _ (List.mem_of_getElem? (i := 3) rfl))) (mvT hZ (hw _ (List.mem_of_getElem? (i := 4) rfl))) (mvT hZ (hw _ (List.mem_of_getElem? (i := 5) rfl))) (mvT hZ (hw _ (List.mem_of_getElem? (i := 6) rfl))) (by decide) (backOf (W := 0) (rm_sat l Z a0 hw [] (nF3 i1) (nFd i1) (FP.i2d (nI i2))  h0 n0 Z0 (fun _ _ => own_nn32_4 i0 i1 i2) (fun _ _ => own_nn33_4 i0 i1 i2) (fun _ _ => own_nn34_4 i0 i1 i2)) hZ (hw _ (List.mem_of_getElem? (i := 6) rfl)) (hw _ (List.mem_of_getElem? (i := 5) rfl)) (by decide) (by decide)) (g := (mkF m 166 #[iv i0, iv i1, iv i2, iv i3, iv (nM i3), iv (nI i2), .val (.double (FP.i2d (nI i2))), .second, .val (.double (nKd i0)), .second, .val (.double (nFd i1)), .second, .unset, .unset, .unset, .unset, .unset, .unset, .unset, .unset] [(.double (FP.i2d (nI i2))), (.double (nFd i1)), (.double (nF3 i1))])) rfl (by rw [hml]; rfl) (argsL := [(.double (nF3 i1)), (.double (nFd i1)), (.double (FP.i2d (nI i2)))]) (rest := []) (lenOf pd0 rfl) rfl (by show 2 * 0 + _ ≤ _; exact Nat.le_of_eq rfl) (hb hby at_166) (fun _ _ => ⟨rfl, e0, (by decide : 0 + 0 ≤ _), (by decide : 0 + 0 ≤ _)⟩)
            dsimp only [Pt.U, Pt.locs, Pt.cells, Pt.slots] at X35 l35 y35 z35 st35 hQ35
            subst l35 y35 z35
            obtain ⟨rfl, N35, e35⟩ := hQ35
            have M35 := Fr.app N0 N35
            have g36 : Goes p e below S0 (T35.setTop (mkF m 169 #[iv i0, iv i1, iv i2, iv i3, iv (nM i3), iv (nI i2), .val (.double (FP.i2d (nI i2))), .second, .val (.double (nKd i0)), .second, .val (.double (nFd i1)), .second, .unset, .unset, .unset, .unset, .unset, .unset, .unset, .unset] [(.double (f_sat (nF3 i1) (nFd i1) (FP.i2d (nI i2))))])) := fun t k => g34 t (st35 t k)
            have g37 : Goes p e below S0 (T35.setTop (mkF m 184 #[iv i0, iv i1, iv i2, iv i3, iv (nM i3), iv (nI i2), .val (.double (FP.i2d (nI i2))), .second, .val (.double (nKd i0)), .second, .val (.double (nFd i1)), .second, .unset, .unset, .unset, .unset, .unset, .unset, .unset, .unset] [(.int (1 : Int32))])) := fun t k => g36 t (by
              refine XS.dload X35.here hx rfl (hb hby at_169) rfl ?_
              show Go p e below t T35 m 171 #[iv i0, iv i1, iv i2, iv i3, iv (nM i3), iv (nI i2), .val (.double (FP.i2d (nI i2))), .second, .val (.double (nKd i0)), .second, .val (.double (nFd i1)), .second, .unset, .unset, .unset, .unset, .unset, .unset, .unset, .unset] [(.double (FP.i2d (nI i2))), (.double (f_sat (nF3 i1) (nFd i1) (FP.i2d (nI i2))))]
              refine X35.ldc2DoubleC hx hown (mvT hZ (hw _ (List.mem_of_getElem? (i := 9) rfl))) (g := (mkF m 171 #[iv i0, iv i1, iv i2, iv i3, iv (nM i3), iv (nI i2), .val (.double (FP.i2d (nI i2))), .second, .val (.double (nKd i0)), .second, .val (.double (nFd i1)), .second, .unset, .unset, .unset, .unset, .unset, .unset, .unset, .unset] [(.double (FP.i2d (nI i2))), (.double (f_sat (nF3 i1) (nFd i1) (FP.i2d (nI i2))))])) rfl (hb hby at_171) _ ?_
              show Go p e below t T35 m 174 #[iv i0, iv i1, iv i2, iv i3, iv (nM i3), iv (nI i2), .val (.double (FP.i2d (nI i2))), .second, .val (.double (nKd i0)), .second, .val (.double (nFd i1)), .second, .unset, .unset, .unset, .unset, .unset, .unset, .unset, .unset] [(.double (4616189618054758400 : UInt64)), (.double (FP.i2d (nI i2))), (.double (f_sat (nF3 i1) (nFd i1) (FP.i2d (nI i2))))]
              refine XS.ddivS X35.here hx rfl (hb hby at_174) rfl (own_d4 i2) rfl ?_
              show Go p e below t T35 m 175 #[iv i0, iv i1, iv i2, iv i3, iv (nM i3), iv (nI i2), .val (.double (FP.i2d (nI i2))), .second, .val (.double (nKd i0)), .second, .val (.double (nFd i1)), .second, .unset, .unset, .unset, .unset, .unset, .unset, .unset, .unset] [(.double (FP.ddiv (FP.i2d (nI i2)) (4616189618054758400 : UInt64))), (.double (f_sat (nF3 i1) (nFd i1) (FP.i2d (nI i2))))]
              refine XS.dcmpS X35.here hx rfl (hb hby at_175) rfl rfl ?_
              show Go p e below t T35 m 176 #[iv i0, iv i1, iv i2, iv i3, iv (nM i3), iv (nI i2), .val (.double (FP.i2d (nI i2))), .second, .val (.double (nKd i0)), .second, .val (.double (nFd i1)), .second, .unset, .unset, .unset, .unset, .unset, .unset, .unset, .unset] [(.int (cmpValue (FP.dcmp (f_sat (nF3 i1) (nFd i1) (FP.i2d (nI i2))) (FP.ddiv (FP.i2d (nI i2)) (4616189618054758400 : UInt64))) .l))]
              refine XS.ifNo X35.here hx rfl (hb hby at_176) rfl (dc_l_ne_f (own_t4 i0 i1 i2)) ?_
              show Go p e below t T35 m 179 #[iv i0, iv i1, iv i2, iv i3, iv (nM i3), iv (nI i2), .val (.double (FP.i2d (nI i2))), .second, .val (.double (nKd i0)), .second, .val (.double (nFd i1)), .second, .unset, .unset, .unset, .unset, .unset, .unset, .unset, .unset] []
              refine XT.iconstV X35.here hx rfl (1 : Int32) (hb hby at_179) (by decide) ?_
              show Go p e below t T35 m 180 #[iv i0, iv i1, iv i2, iv i3, iv (nM i3), iv (nI i2), .val (.double (FP.i2d (nI i2))), .second, .val (.double (nKd i0)), .second, .val (.double (nFd i1)), .second, .unset, .unset, .unset, .unset, .unset, .unset, .unset, .unset] [(.int (1 : Int32))]
              refine XS.goto X35.here hx rfl (pc0 := 180) (pc' := 184) rfl (hb hby at_180) (by decide) (by decide) ?_
              show Go p e below t T35 m 184 #[iv i0, iv i1, iv i2, iv i3, iv (nM i3), iv (nI i2), .val (.double (FP.i2d (nI i2))), .second, .val (.double (nKd i0)), .second, .val (.double (nFd i1)), .second, .unset, .unset, .unset, .unset, .unset, .unset, .unset, .unset] [(.int (1 : Int32))]
              exact k)
            obtain ⟨fs, hr, hrun, hended, hW, hsame⟩ := X35.leave (v := some (.int (1 : Int32))) (fun h => by rw [Bd.returns] at h; cases h)
            refine ⟨_, _, g37 _ (retN X35 hx (t := .boolean) Bd.returns (by simp) (hb hby at_184) hr), hrun, hended, _, _, rfl, ?_, ⟨_, rfl⟩, hW, hsame.mono (by decide) (by decide)⟩
            show Q_law Z i0 i1 i2 i3  h0 n0 _ T35.heap _
            rw [e35]
            exact ⟨rfl, M35⟩
          · skip
            have g38 : Goes p e below S0 (s₁.setTop (mkF m 197 #[iv i0, iv i1, iv i2, iv i3, iv (nM i3), iv (nI i2), .val (.double (FP.i2d (nI i2))), .second, .val (.double (nKd i0)), .second, .val (.double (nFd i1)), .second, .val (.double (nK1 i0)), .second, .unset, .unset, .unset, .unset, .unset, .unset] [(.double (FP.i2d (nI i2))), (.double (nFd i1)), (.double (nK1 i0))])) := fun t k => g32 t (by
              refine XS.icmpYes X0.here hx rfl (pc0 := 153) (pc' := 185) rfl (hb hby at_153) rfl (XT.ii_ne_t h33) (by decide) (by decide) ?_
              show Go p e below t s₁ m 185 #[iv i0, iv i1, iv i2, iv i3, iv (nM i3), iv (nI i2), .val (.double (FP.i2d (nI i2))), .second, .val (.double (nKd i0)), .second, .val (.double (nFd i1)), .second, .unset, .unset, .unset, .unset, .unset, .unset, .unset, .unset] []
              refine XS.dload X0.here hx rfl (hb hby at_185) rfl ?_
              show Go p e below t s₁ m 187 #[iv i0, iv i1, iv i2, iv i3, iv (nM i3), iv (nI i2), .val (.double (FP.i2d (nI i2))), .second, .val (.double (nKd i0)), .second, .val (.double (nFd i1)), .second, .unset, .unset, .unset, .unset, .unset, .unset, .unset, .unset] [(.double (nKd i0))]
              refine XS.dconst1 X0.here hx rfl (hb hby at_187) (v := (4607182418800017408 : UInt64)) rfl ?_
              show Go p e below t s₁ m 188 #[iv i0, iv i1, iv i2, iv i3, iv (nM i3), iv (nI i2), .val (.double (FP.i2d (nI i2))), .second, .val (.double (nKd i0)), .second, .val (.double (nFd i1)), .second, .unset, .unset, .unset, .unset, .unset, .unset, .unset, .unset] [(.double (4607182418800017408 : UInt64)), (.double (nKd i0))]
              refine XS.daddS X0.here hx rfl (hb hby at_188) rfl (own_k1 i0) rfl ?_
              show Go p e below t s₁ m 189 #[iv i0, iv i1, iv i2, iv i3, iv (nM i3), iv (nI i2), .val (.double (FP.i2d (nI i2))), .second, .val (.double (nKd i0)), .second, .val (.double (nFd i1)), .second, .unset, .unset, .unset, .unset, .unset, .unset, .unset, .unset] [(.double (FP.dadd (nKd i0) (4607182418800017408 : UInt64)))]
              refine XS.dstore X0.here hx rfl (hb hby at_189) rfl (l' := #[iv i0, iv i1, iv i2, iv i3, iv (nM i3), iv (nI i2), .val (.double (FP.i2d (nI i2))), .second, .val (.double (nKd i0)), .second, .val (.double (nFd i1)), .second, .val (.double (nK1 i0)), .second, .unset, .unset, .unset, .unset, .unset, .unset]) rfl ?_
              show Go p e below t s₁ m 191 #[iv i0, iv i1, iv i2, iv i3, iv (nM i3), iv (nI i2), .val (.double (FP.i2d (nI i2))), .second, .val (.double (nKd i0)), .second, .val (.double (nFd i1)), .second, .val (.double (nK1 i0)), .second, .unset, .unset, .unset, .unset, .unset, .unset] []
              refine XS.dload X0.here hx rfl (hb hby at_191) rfl ?_
              show Go p e below t s₁ m 193 #[iv i0, iv i1, iv i2, iv i3, iv (nM i3), iv (nI i2), .val (.double (FP.i2d (nI i2))), .second, .val (.double (nKd i0)), .second, .val (.double (nFd i1)), .second, .val (.double (nK1 i0)), .second, .unset, .unset, .unset, .unset, .unset, .unset] [(.double (nK1 i0))]
              refine XS.dload X0.here hx rfl (hb hby at_193) rfl ?_
              show Go p e below t s₁ m 195 #[iv i0, iv i1, iv i2, iv i3, iv (nM i3), iv (nI i2), .val (.double (FP.i2d (nI i2))), .second, .val (.double (nKd i0)), .second, .val (.double (nFd i1)), .second, .val (.double (nK1 i0)), .second, .unset, .unset, .unset, .unset, .unset, .unset] [(.double (nFd i1)), (.double (nK1 i0))]
              refine XS.dload X0.here hx rfl (hb hby at_195) rfl ?_
              show Go p e below t s₁ m 197 #[iv i0, iv i1, iv i2, iv i3, iv (nM i3), iv (nI i2), .val (.double (FP.i2d (nI i2))), .second, .val (.double (nKd i0)), .second, .val (.double (nFd i1)), .second, .val (.double (nK1 i0)), .second, .unset, .unset, .unset, .unset, .unset, .unset] [(.double (FP.i2d (nI i2))), (.double (nFd i1)), (.double (nK1 i0))]
              exact k)
            obtain ⟨_, _, ⟨T39, L39, k39, n39⟩, -, X39, ⟨Lc39, hQ39, l39, y39, z39⟩, st39⟩ := Jvm.LawKit.callS X0 hx (y := (⟨"com/example/narabi/narabi/ranking/Bm25", "saturate", "(DDD)D"⟩ : MethodName)) hown (mvT hZ (hw _ (List.mem_of_getElem? (i := 3) rfl))) (mvT hZ (hw _ (List.mem_of_getElem? (i := 4) rfl))) (mvT hZ (hw _ (List.mem_of_getElem? (i := 5) rfl))) (mvT hZ (hw _ (List.mem_of_getElem? (i := 6) rfl))) (by decide) (backOf (W := 0) (rm_sat l Z a0 hw [] (nK1 i0) (nFd i1) (FP.i2d (nI i2))  h0 n0 Z0 (fun _ _ => own_nn32_a i0 i1 i2) (fun _ _ => own_nn33_a i0 i1 i2) (fun _ _ => own_nn34_a i0 i1 i2)) hZ (hw _ (List.mem_of_getElem? (i := 6) rfl)) (hw _ (List.mem_of_getElem? (i := 5) rfl)) (by decide) (by decide)) (g := (mkF m 197 #[iv i0, iv i1, iv i2, iv i3, iv (nM i3), iv (nI i2), .val (.double (FP.i2d (nI i2))), .second, .val (.double (nKd i0)), .second, .val (.double (nFd i1)), .second, .val (.double (nK1 i0)), .second, .unset, .unset, .unset, .unset, .unset, .unset] [(.double (FP.i2d (nI i2))), (.double (nFd i1)), (.double (nK1 i0))])) rfl (by rw [hml]; rfl) (argsL := [(.double (nK1 i0)), (.double (nFd i1)), (.double (FP.i2d (nI i2)))]) (rest := []) (lenOf pd0 rfl) rfl (by show 2 * 0 + _ ≤ _; exact Nat.le_of_eq rfl) (hb hby at_197) (fun _ _ => ⟨rfl, e0, (by decide : 0 + 0 ≤ _), (by decide : 0 + 0 ≤ _)⟩)
            dsimp only [Pt.U, Pt.locs, Pt.cells, Pt.slots] at X39 l39 y39 z39 st39 hQ39
            subst l39 y39 z39
            obtain ⟨rfl, N39, e39⟩ := hQ39
            have M39 := Fr.app N0 N39
            have g40 : Goes p e below S0 (T39.setTop (mkF m 200 #[iv i0, iv i1, iv i2, iv i3, iv (nM i3), iv (nI i2), .val (.double (FP.i2d (nI i2))), .second, .val (.double (nKd i0)), .second, .val (.double (nFd i1)), .second, .val (.double (nK1 i0)), .second, .unset, .unset, .unset, .unset, .unset, .unset] [(.double (f_sat (nK1 i0) (nFd i1) (FP.i2d (nI i2))))])) := fun t k => g38 t (st39 t k)
            have g41 : Goes p e below S0 (T39.setTop (mkF m 210 #[iv i0, iv i1, iv i2, iv i3, iv (nM i3), iv (nI i2), .val (.double (FP.i2d (nI i2))), .second, .val (.double (nKd i0)), .second, .val (.double (nFd i1)), .second, .val (.double (nK1 i0)), .second, .val (.double (f_sat (nK1 i0) (nFd i1) (FP.i2d (nI i2)))), .second, .unset, .unset, .unset, .unset] [(.double (FP.i2d (nI i2))), (.double (nF1 i1)), (.double (nK1 i0))])) := fun t k => g40 t (by
              refine XS.dstore X39.here hx rfl (hb hby at_200) rfl (l' := #[iv i0, iv i1, iv i2, iv i3, iv (nM i3), iv (nI i2), .val (.double (FP.i2d (nI i2))), .second, .val (.double (nKd i0)), .second, .val (.double (nFd i1)), .second, .val (.double (nK1 i0)), .second, .val (.double (f_sat (nK1 i0) (nFd i1) (FP.i2d (nI i2)))), .second, .unset, .unset, .unset, .unset]) rfl ?_
              show Go p e below t T39 m 202 #[iv i0, iv i1, iv i2, iv i3, iv (nM i3), iv (nI i2), .val (.double (FP.i2d (nI i2))), .second, .val (.double (nKd i0)), .second, .val (.double (nFd i1)), .second, .val (.double (nK1 i0)), .second, .val (.double (f_sat (nK1 i0) (nFd i1) (FP.i2d (nI i2)))), .second, .unset, .unset, .unset, .unset] []
              refine XS.dload X39.here hx rfl (hb hby at_202) rfl ?_
              show Go p e below t T39 m 204 #[iv i0, iv i1, iv i2, iv i3, iv (nM i3), iv (nI i2), .val (.double (FP.i2d (nI i2))), .second, .val (.double (nKd i0)), .second, .val (.double (nFd i1)), .second, .val (.double (nK1 i0)), .second, .val (.double (f_sat (nK1 i0) (nFd i1) (FP.i2d (nI i2)))), .second, .unset, .unset, .unset, .unset] [(.double (nK1 i0))]
              refine XS.dload X39.here hx rfl (hb hby at_204) rfl ?_
              show Go p e below t T39 m 206 #[iv i0, iv i1, iv i2, iv i3, iv (nM i3), iv (nI i2), .val (.double (FP.i2d (nI i2))), .second, .val (.double (nKd i0)), .second, .val (.double (nFd i1)), .second, .val (.double (nK1 i0)), .second, .val (.double (f_sat (nK1 i0) (nFd i1) (FP.i2d (nI i2)))), .second, .unset, .unset, .unset, .unset] [(.double (nFd i1)), (.double (nK1 i0))]
              refine XS.dconst1 X39.here hx rfl (hb hby at_206) (v := (4607182418800017408 : UInt64)) rfl ?_
              show Go p e below t T39 m 207 #[iv i0, iv i1, iv i2, iv i3, iv (nM i3), iv (nI i2), .val (.double (FP.i2d (nI i2))), .second, .val (.double (nKd i0)), .second, .val (.double (nFd i1)), .second, .val (.double (nK1 i0)), .second, .val (.double (f_sat (nK1 i0) (nFd i1) (FP.i2d (nI i2)))), .second, .unset, .unset, .unset, .unset] [(.double (4607182418800017408 : UInt64)), (.double (nFd i1)), (.double (nK1 i0))]
              refine XS.daddS X39.here hx rfl (hb hby at_207) rfl (own_f1 i1) rfl ?_
              show Go p e below t T39 m 208 #[iv i0, iv i1, iv i2, iv i3, iv (nM i3), iv (nI i2), .val (.double (FP.i2d (nI i2))), .second, .val (.double (nKd i0)), .second, .val (.double (nFd i1)), .second, .val (.double (nK1 i0)), .second, .val (.double (f_sat (nK1 i0) (nFd i1) (FP.i2d (nI i2)))), .second, .unset, .unset, .unset, .unset] [(.double (FP.dadd (nFd i1) (4607182418800017408 : UInt64))), (.double (nK1 i0))]
              show Go p e below t T39 m 208 #[iv i0, iv i1, iv i2, iv i3, iv (nM i3), iv (nI i2), .val (.double (FP.i2d (nI i2))), .second, .val (.double (nKd i0)), .second, .val (.double (nFd i1)), .second, .val (.double (nK1 i0)), .second, .val (.double (f_sat (nK1 i0) (nFd i1) (FP.i2d (nI i2)))), .second, .unset, .unset, .unset, .unset] [(.double (nF1 i1)), (.double (nK1 i0))]
              refine XS.dload X39.here hx rfl (hb hby at_208) rfl ?_
              show Go p e below t T39 m 210 #[iv i0, iv i1, iv i2, iv i3, iv (nM i3), iv (nI i2), .val (.double (FP.i2d (nI i2))), .second, .val (.double (nKd i0)), .second, .val (.double (nFd i1)), .second, .val (.double (nK1 i0)), .second, .val (.double (f_sat (nK1 i0) (nFd i1) (FP.i2d (nI i2)))), .second, .unset, .unset, .unset, .unset] [(.double (FP.i2d (nI i2))), (.double (nF1 i1)), (.double (nK1 i0))]
              exact k)
            obtain ⟨_, _, ⟨T42, L42, k42, n42⟩, -, X42, ⟨Lc42, hQ42, l42, y42, z42⟩, st42⟩ := Jvm.LawKit.callS X39 hx (y := (⟨"com/example/narabi/narabi/ranking/Bm25", "saturate", "(DDD)D"⟩ : MethodName)) hown (mvT hZ (hw _ (List.mem_of_getElem? (i := 3) rfl))) (mvT hZ (hw _ (List.mem_of_getElem? (i := 4) rfl))) (mvT hZ (hw _ (List.mem_of_getElem? (i := 5) rfl))) (mvT hZ (hw _ (List.mem_of_getElem? (i := 6) rfl))) (by decide) (backOf (W := 0) (rm_sat l Z a0 hw [] (nK1 i0) (nF1 i1) (FP.i2d (nI i2))  h0 n0 Z0 (fun _ _ => own_nn32_b i0 i1 i2) (fun _ _ => own_nn33_b i0 i1 i2) (fun _ _ => own_nn34_b i0 i1 i2)) hZ (hw _ (List.mem_of_getElem? (i := 6) rfl)) (hw _ (List.mem_of_getElem? (i := 5) rfl)) (by decide) (by decide)) (g := (mkF m 210 #[iv i0, iv i1, iv i2, iv i3, iv (nM i3), iv (nI i2), .val (.double (FP.i2d (nI i2))), .second, .val (.double (nKd i0)), .second, .val (.double (nFd i1)), .second, .val (.double (nK1 i0)), .second, .val (.double (f_sat (nK1 i0) (nFd i1) (FP.i2d (nI i2)))), .second, .unset, .unset, .unset, .unset] [(.double (FP.i2d (nI i2))), (.double (nF1 i1)), (.double (nK1 i0))])) rfl (by rw [hml]; rfl) (argsL := [(.double (nK1 i0)), (.double (nF1 i1)), (.double (FP.i2d (nI i2)))]) (rest := []) (lenOf pd0 rfl) rfl (by show 2 * 0 + _ ≤ _; exact Nat.le_of_eq rfl) (hb hby at_210) (fun _ _ => ⟨rfl, e39, (by decide : 0 + 0 ≤ _), (by decide : 0 + 0 ≤ _)⟩)
            dsimp only [Pt.U, Pt.locs, Pt.cells, Pt.slots] at X42 l42 y42 z42 st42 hQ42
            subst l42 y42 z42
            obtain ⟨rfl, N42, e42⟩ := hQ42
            have M42 := Fr.app M39 N42
            have g43 : Goes p e below S0 (T42.setTop (mkF m 213 #[iv i0, iv i1, iv i2, iv i3, iv (nM i3), iv (nI i2), .val (.double (FP.i2d (nI i2))), .second, .val (.double (nKd i0)), .second, .val (.double (nFd i1)), .second, .val (.double (nK1 i0)), .second, .val (.double (f_sat (nK1 i0) (nFd i1) (FP.i2d (nI i2)))), .second, .unset, .unset, .unset, .unset] [(.double (f_sat (nK1 i0) (nF1 i1) (FP.i2d (nI i2))))])) := fun t k => g41 t (st42 t k)
            have g44 : Goes p e below S0 (T42.setTop (mkF m 223 #[iv i0, iv i1, iv i2, iv i3, iv (nM i3), iv (nI i2), .val (.double (FP.i2d (nI i2))), .second, .val (.double (nKd i0)), .second, .val (.double (nFd i1)), .second, .val (.double (nK1 i0)), .second, .val (.double (f_sat (nK1 i0) (nFd i1) (FP.i2d (nI i2)))), .second, .val (.double (f_sat (nK1 i0) (nF1 i1) (FP.i2d (nI i2)))), .second, .unset, .unset] [(.double (FP.i2d (nI i2))), (.double (nFd i1)), (.double (nK2 i0))])) := fun t k => g43 t (by
              refine XS.dstore X42.here hx rfl (hb hby at_213) rfl (l' := #[iv i0, iv i1, iv i2, iv i3, iv (nM i3), iv (nI i2), .val (.double (FP.i2d (nI i2))), .second, .val (.double (nKd i0)), .second, .val (.double (nFd i1)), .second, .val (.double (nK1 i0)), .second, .val (.double (f_sat (nK1 i0) (nFd i1) (FP.i2d (nI i2)))), .second, .val (.double (f_sat (nK1 i0) (nF1 i1) (FP.i2d (nI i2)))), .second, .unset, .unset]) rfl ?_
              show Go p e below t T42 m 215 #[iv i0, iv i1, iv i2, iv i3, iv (nM i3), iv (nI i2), .val (.double (FP.i2d (nI i2))), .second, .val (.double (nKd i0)), .second, .val (.double (nFd i1)), .second, .val (.double (nK1 i0)), .second, .val (.double (f_sat (nK1 i0) (nFd i1) (FP.i2d (nI i2)))), .second, .val (.double (f_sat (nK1 i0) (nF1 i1) (FP.i2d (nI i2)))), .second, .unset, .unset] []
              refine XS.dload X42.here hx rfl (hb hby at_215) rfl ?_
              show Go p e below t T42 m 217 #[iv i0, iv i1, iv i2, iv i3, iv (nM i3), iv (nI i2), .val (.double (FP.i2d (nI i2))), .second, .val (.double (nKd i0)), .second, .val (.double (nFd i1)), .second, .val (.double (nK1 i0)), .second, .val (.double (f_sat (nK1 i0) (nFd i1) (FP.i2d (nI i2)))), .second, .val (.double (f_sat (nK1 i0) (nF1 i1) (FP.i2d (nI i2)))), .second, .unset, .unset] [(.double (nK1 i0))]
              refine XS.dconst1 X42.here hx rfl (hb hby at_217) (v := (4607182418800017408 : UInt64)) rfl ?_
              show Go p e below t T42 m 218 #[iv i0, iv i1, iv i2, iv i3, iv (nM i3), iv (nI i2), .val (.double (FP.i2d (nI i2))), .second, .val (.double (nKd i0)), .second, .val (.double (nFd i1)), .second, .val (.double (nK1 i0)), .second, .val (.double (f_sat (nK1 i0) (nFd i1) (FP.i2d (nI i2)))), .second, .val (.double (f_sat (nK1 i0) (nF1 i1) (FP.i2d (nI i2)))), .second, .unset, .unset] [(.double (4607182418800017408 : UInt64)), (.double (nK1 i0))]
              refine XS.daddS X42.here hx rfl (hb hby at_218) rfl (own_k2 i0) rfl ?_
              show Go p e below t T42 m 219 #[iv i0, iv i1, iv i2, iv i3, iv (nM i3), iv (nI i2), .val (.double (FP.i2d (nI i2))), .second, .val (.double (nKd i0)), .second, .val (.double (nFd i1)), .second, .val (.double (nK1 i0)), .second, .val (.double (f_sat (nK1 i0) (nFd i1) (FP.i2d (nI i2)))), .second, .val (.double (f_sat (nK1 i0) (nF1 i1) (FP.i2d (nI i2)))), .second, .unset, .unset] [(.double (FP.dadd (nK1 i0) (4607182418800017408 : UInt64)))]
              show Go p e below t T42 m 219 #[iv i0, iv i1, iv i2, iv i3, iv (nM i3), iv (nI i2), .val (.double (FP.i2d (nI i2))), .second, .val (.double (nKd i0)), .second, .val (.double (nFd i1)), .second, .val (.double (nK1 i0)), .second, .val (.double (f_sat (nK1 i0) (nFd i1) (FP.i2d (nI i2)))), .second, .val (.double (f_sat (nK1 i0) (nF1 i1) (FP.i2d (nI i2)))), .second, .unset, .unset] [(.double (nK2 i0))]
              refine XS.dload X42.here hx rfl (hb hby at_219) rfl ?_
              show Go p e below t T42 m 221 #[iv i0, iv i1, iv i2, iv i3, iv (nM i3), iv (nI i2), .val (.double (FP.i2d (nI i2))), .second, .val (.double (nKd i0)), .second, .val (.double (nFd i1)), .second, .val (.double (nK1 i0)), .second, .val (.double (f_sat (nK1 i0) (nFd i1) (FP.i2d (nI i2)))), .second, .val (.double (f_sat (nK1 i0) (nF1 i1) (FP.i2d (nI i2)))), .second, .unset, .unset] [(.double (nFd i1)), (.double (nK2 i0))]
              refine XS.dload X42.here hx rfl (hb hby at_221) rfl ?_
              show Go p e below t T42 m 223 #[iv i0, iv i1, iv i2, iv i3, iv (nM i3), iv (nI i2), .val (.double (FP.i2d (nI i2))), .second, .val (.double (nKd i0)), .second, .val (.double (nFd i1)), .second, .val (.double (nK1 i0)), .second, .val (.double (f_sat (nK1 i0) (nFd i1) (FP.i2d (nI i2)))), .second, .val (.double (f_sat (nK1 i0) (nF1 i1) (FP.i2d (nI i2)))), .second, .unset, .unset] [(.double (FP.i2d (nI i2))), (.double (nFd i1)), (.double (nK2 i0))]
              exact k)
            obtain ⟨_, _, ⟨T45, L45, k45, n45⟩, -, X45, ⟨Lc45, hQ45, l45, y45, z45⟩, st45⟩ := Jvm.LawKit.callS X42 hx (y := (⟨"com/example/narabi/narabi/ranking/Bm25", "saturate", "(DDD)D"⟩ : MethodName)) hown (mvT hZ (hw _ (List.mem_of_getElem? (i := 3) rfl))) (mvT hZ (hw _ (List.mem_of_getElem? (i := 4) rfl))) (mvT hZ (hw _ (List.mem_of_getElem? (i := 5) rfl))) (mvT hZ (hw _ (List.mem_of_getElem? (i := 6) rfl))) (by decide) (backOf (W := 0) (rm_sat l Z a0 hw [] (nK2 i0) (nFd i1) (FP.i2d (nI i2))  h0 n0 Z0 (fun _ _ => own_nn32_c i0 i1 i2) (fun _ _ => own_nn33_c i0 i1 i2) (fun _ _ => own_nn34_c i0 i1 i2)) hZ (hw _ (List.mem_of_getElem? (i := 6) rfl)) (hw _ (List.mem_of_getElem? (i := 5) rfl)) (by decide) (by decide)) (g := (mkF m 223 #[iv i0, iv i1, iv i2, iv i3, iv (nM i3), iv (nI i2), .val (.double (FP.i2d (nI i2))), .second, .val (.double (nKd i0)), .second, .val (.double (nFd i1)), .second, .val (.double (nK1 i0)), .second, .val (.double (f_sat (nK1 i0) (nFd i1) (FP.i2d (nI i2)))), .second, .val (.double (f_sat (nK1 i0) (nF1 i1) (FP.i2d (nI i2)))), .second, .unset, .unset] [(.double (FP.i2d (nI i2))), (.double (nFd i1)), (.double (nK2 i0))])) rfl (by rw [hml]; rfl) (argsL := [(.double (nK2 i0)), (.double (nFd i1)), (.double (FP.i2d (nI i2)))]) (rest := []) (lenOf pd0 rfl) rfl (by show 2 * 0 + _ ≤ _; exact Nat.le_of_eq rfl) (hb hby at_223) (fun _ _ => ⟨rfl, e42, (by decide : 0 + 0 ≤ _), (by decide : 0 + 0 ≤ _)⟩)
            dsimp only [Pt.U, Pt.locs, Pt.cells, Pt.slots] at X45 l45 y45 z45 st45 hQ45
            subst l45 y45 z45
            obtain ⟨rfl, N45, e45⟩ := hQ45
            have M45 := Fr.app M42 N45
            have g46 : Goes p e below S0 (T45.setTop (mkF m 226 #[iv i0, iv i1, iv i2, iv i3, iv (nM i3), iv (nI i2), .val (.double (FP.i2d (nI i2))), .second, .val (.double (nKd i0)), .second, .val (.double (nFd i1)), .second, .val (.double (nK1 i0)), .second, .val (.double (f_sat (nK1 i0) (nFd i1) (FP.i2d (nI i2)))), .second, .val (.double (f_sat (nK1 i0) (nF1 i1) (FP.i2d (nI i2)))), .second, .unset, .unset] [(.double (f_sat (nK2 i0) (nFd i1) (FP.i2d (nI i2))))])) := fun t k => g44 t (st45 t k)
            have g47 : Goes p e below S0 (T45.setTop (mkF m 230 #[iv i0, iv i1, iv i2, iv i3, iv (nM i3), iv (nI i2), .val (.double (FP.i2d (nI i2))), .second, .val (.double (nKd i0)), .second, .val (.double (nFd i1)), .second, .val (.double (nK1 i0)), .second, .val (.double (f_sat (nK1 i0) (nFd i1) (FP.i2d (nI i2)))), .second, .val (.double (f_sat (nK1 i0) (nF1 i1) (FP.i2d (nI i2)))), .second, .val (.double (f_sat (nK2 i0) (nFd i1) (FP.i2d (nI i2)))), .second] [(.int (nI i2))])) := fun t k => g46 t (by
              refine XS.dstore X45.here hx rfl (hb hby at_226) rfl (l' := #[iv i0, iv i1, iv i2, iv i3, iv (nM i3), iv (nI i2), .val (.double (FP.i2d (nI i2))), .second, .val (.double (nKd i0)), .second, .val (.double (nFd i1)), .second, .val (.double (nK1 i0)), .second, .val (.double (f_sat (nK1 i0) (nFd i1) (FP.i2d (nI i2)))), .second, .val (.double (f_sat (nK1 i0) (nF1 i1) (FP.i2d (nI i2)))), .second, .val (.double (f_sat (nK2 i0) (nFd i1) (FP.i2d (nI i2)))), .second]) rfl ?_
              show Go p e below t T45 m 228 #[iv i0, iv i1, iv i2, iv i3, iv (nM i3), iv (nI i2), .val (.double (FP.i2d (nI i2))), .second, .val (.double (nKd i0)), .second, .val (.double (nFd i1)), .second, .val (.double (nK1 i0)), .second, .val (.double (f_sat (nK1 i0) (nFd i1) (FP.i2d (nI i2)))), .second, .val (.double (f_sat (nK1 i0) (nF1 i1) (FP.i2d (nI i2)))), .second, .val (.double (f_sat (nK2 i0) (nFd i1) (FP.i2d (nI i2)))), .second] []
              refine XS.iload X45.here hx rfl (hb hby at_228) rfl ?_
              show Go p e below t T45 m 230 #[iv i0, iv i1, iv i2, iv i3, iv (nM i3), iv (nI i2), .val (.double (FP.i2d (nI i2))), .second, .val (.double (nKd i0)), .second, .val (.double (nFd i1)), .second, .val (.double (nK1 i0)), .second, .val (.double (f_sat (nK1 i0) (nFd i1) (FP.i2d (nI i2)))), .second, .val (.double (f_sat (nK1 i0) (nF1 i1) (FP.i2d (nI i2)))), .second, .val (.double (f_sat (nK2 i0) (nFd i1) (FP.i2d (nI i2)))), .second] [(.int (nI i2))]
              exact k)
            by_cases h48 : 0 < (nI i2)
            · skip
              have g49 : Goes p e below S0 (T45.setTop (mkF m 269 #[iv i0, iv i1, iv i2, iv i3, iv (nM i3), iv (nI i2), .val (.double (FP.i2d (nI i2))), .second, .val (.double (nKd i0)), .second, .val (.double (nFd i1)), .second, .val (.double (nK1 i0)), .second, .val (.double (f_sat (nK1 i0) (nFd i1) (FP.i2d (nI i2)))), .second, .val (.double (f_sat (nK1 i0) (nF1 i1) (FP.i2d (nI i2)))), .second, .val (.double (f_sat (nK2 i0) (nFd i1) (FP.i2d (nI i2)))), .second] [(.int (1 : Int32))])) := fun t k => g47 t (by
                refine XS.ifNo X45.here hx rfl (hb hby at_230) rfl (XT.i0_le_f h48) ?_
                show Go p e below t T45 m 233 #[iv i0, iv i1, iv i2, iv i3, iv (nM i3), iv (nI i2), .val (.double (FP.i2d (nI i2))), .second, .val (.double (nKd i0)), .second, .val (.double (nFd i1)), .second, .val (.double (nK1 i0)), .second, .val (.double (f_sat (nK1 i0) (nFd i1) (FP.i2d (nI i2)))), .second, .val (.double (f_sat (nK1 i0) (nF1 i1) (FP.i2d (nI i2)))), .second, .val (.double (f_sat (nK2 i0) (nFd i1) (FP.i2d (nI i2)))), .second] []
                refine XS.dconst0 X45.here hx rfl (hb hby at_233) (v := (0 : UInt64)) rfl ?_
                show Go p e below t T45 m 234 #[iv i0, iv i1, iv i2, iv i3, iv (nM i3), iv (nI i2), .val (.double (FP.i2d (nI i2))), .second, .val (.double (nKd i0)), .second, .val (.double (nFd i1)), .second, .val (.double (nK1 i0)), .second, .val (.double (f_sat (nK1 i0) (nFd i1) (FP.i2d (nI i2)))), .second, .val (.double (f_sat (nK1 i0) (nF1 i1) (FP.i2d (nI i2)))), .second, .val (.double (f_sat (nK2 i0) (nFd i1) (FP.i2d (nI i2)))), .second] [(.double (0 : UInt64))]
                refine XS.dload X45.here hx rfl (hb hby at_234) rfl ?_
                show Go p e below t T45 m 236 #[iv i0, iv i1, iv i2, iv i3, iv (nM i3), iv (nI i2), .val (.double (FP.i2d (nI i2))), .second, .val (.double (nKd i0)), .second, .val (.double (nFd i1)), .second, .val (.double (nK1 i0)), .second, .val (.double (f_sat (nK1 i0) (nFd i1) (FP.i2d (nI i2)))), .second, .val (.double (f_sat (nK1 i0) (nF1 i1) (FP.i2d (nI i2)))), .second, .val (.double (f_sat (nK2 i0) (nFd i1) (FP.i2d (nI i2)))), .second] [(.double (f_sat (nK1 i0) (nFd i1) (FP.i2d (nI i2)))), (.double (0 : UInt64))]
                refine XS.dcmpS X45.here hx rfl (hb hby at_236) rfl rfl ?_
                show Go p e below t T45 m 237 #[iv i0, iv i1, iv i2, iv i3, iv (nM i3), iv (nI i2), .val (.double (FP.i2d (nI i2))), .second, .val (.double (nKd i0)), .second, .val (.double (nFd i1)), .second, .val (.double (nK1 i0)), .second, .val (.double (f_sat (nK1 i0) (nFd i1) (FP.i2d (nI i2)))), .second, .val (.double (f_sat (nK1 i0) (nF1 i1) (FP.i2d (nI i2)))), .second, .val (.double (f_sat (nK2 i0) (nFd i1) (FP.i2d (nI i2)))), .second] [(.int (cmpValue (FP.dcmp (0 : UInt64) (f_sat (nK1 i0) (nFd i1) (FP.i2d (nI i2)))) .g))]
                refine XS.ifNo X45.here hx rfl (hb hby at_237) rfl (dc_g_ge_f (own_p1 i0 i1 i2 h48)) ?_
                show Go p e below t T45 m 240 #[iv i0, iv i1, iv i2, iv i3, iv (nM i3), iv (nI i2), .val (.double (FP.i2d (nI i2))), .second, .val (.double (nKd i0)), .second, .val (.double (nFd i1)), .second, .val (.double (nK1 i0)), .second, .val (.double (f_sat (nK1 i0) (nFd i1) (FP.i2d (nI i2)))), .second, .val (.double (f_sat (nK1 i0) (nF1 i1) (FP.i2d (nI i2)))), .second, .val (.double (f_sat (nK2 i0) (nFd i1) (FP.i2d (nI i2)))), .second] []
                refine XS.dload X45.here hx rfl (hb hby at_240) rfl ?_
                show Go p e below t T45 m 242 #[iv i0, iv i1, iv i2, iv i3, iv (nM i3), iv (nI i2), .val (.double (FP.i2d (nI i2))), .second, .val (.double (nKd i0)), .second, .val (.double (nFd i1)), .second, .val (.double (nK1 i0)), .second, .val (.double (f_sat (nK1 i0) (nFd i1) (FP.i2d (nI i2)))), .second, .val (.double (f_sat (nK1 i0) (nF1 i1) (FP.i2d (nI i2)))), .second, .val (.double (f_sat (nK2 i0) (nFd i1) (FP.i2d (nI i2)))), .second] [(.double (f_sat (nK1 i0) (nFd i1) (FP.i2d (nI i2))))]
                refine XS.dload X45.here hx rfl (hb hby at_242) rfl ?_
                show Go p e below t T45 m 244 #[iv i0, iv i1, iv i2, iv i3, iv (nM i3), iv (nI i2), .val (.double (FP.i2d (nI i2))), .second, .val (.double (nKd i0)), .second, .val (.double (nFd i1)), .second, .val (.double (nK1 i0)), .second, .val (.double (f_sat (nK1 i0) (nFd i1) (FP.i2d (nI i2)))), .second, .val (.double (f_sat (nK1 i0) (nF1 i1) (FP.i2d (nI i2)))), .second, .val (.double (f_sat (nK2 i0) (nFd i1) (FP.i2d (nI i2)))), .second] [(.double (FP.i2d (nI i2))), (.double (f_sat (nK1 i0) (nFd i1) (FP.i2d (nI i2))))]
                refine XS.dcmpS X45.here hx rfl (hb hby at_244) rfl rfl ?_
                show Go p e below t T45 m 245 #[iv i0, iv i1, iv i2, iv i3, iv (nM i3), iv (nI i2), .val (.double (FP.i2d (nI i2))), .second, .val (.double (nKd i0)), .second, .val (.double (nFd i1)), .second, .val (.double (nK1 i0)), .second, .val (.double (f_sat (nK1 i0) (nFd i1) (FP.i2d (nI i2)))), .second, .val (.double (f_sat (nK1 i0) (nF1 i1) (FP.i2d (nI i2)))), .second, .val (.double (f_sat (nK2 i0) (nFd i1) (FP.i2d (nI i2)))), .second] [(.int (cmpValue (FP.dcmp (f_sat (nK1 i0) (nFd i1) (FP.i2d (nI i2))) (FP.i2d (nI i2))) .g))]
                refine XS.ifNo X45.here hx rfl (hb hby at_245) rfl (dc_g_ge_f (own_p2 i0 i1 i2 h48)) ?_
                show Go p e below t T45 m 248 #[iv i0, iv i1, iv i2, iv i3, iv (nM i3), iv (nI i2), .val (.double (FP.i2d (nI i2))), .second, .val (.double (nKd i0)), .second, .val (.double (nFd i1)), .second, .val (.double (nK1 i0)), .second, .val (.double (f_sat (nK1 i0) (nFd i1) (FP.i2d (nI i2)))), .second, .val (.double (f_sat (nK1 i0) (nF1 i1) (FP.i2d (nI i2)))), .second, .val (.double (f_sat (nK2 i0) (nFd i1) (FP.i2d (nI i2)))), .second] []
                refine XS.dload X45.here hx rfl (hb hby at_248) rfl ?_
                show Go p e below t T45 m 250 #[iv i0, iv i1, iv i2, iv i3, iv (nM i3), iv (nI i2), .val (.double (FP.i2d (nI i2))), .second, .val (.double (nKd i0)), .second, .val (.double (nFd i1)), .second, .val (.double (nK1 i0)), .second, .val (.double (f_sat (nK1 i0) (nFd i1) (FP.i2d (nI i2)))), .second, .val (.double (f_sat (nK1 i0) (nF1 i1) (FP.i2d (nI i2)))), .second, .val (.double (f_sat (nK2 i0) (nFd i1) (FP.i2d (nI i2)))), .second] [(.double (f_sat (nK1 i0) (nFd i1) (FP.i2d (nI i2))))]
                refine XS.dload X45.here hx rfl (hb hby at_250) rfl ?_
                show Go p e below t T45 m 252 #[iv i0, iv i1, iv i2, iv i3, iv (nM i3), iv (nI i2), .val (.double (FP.i2d (nI i2))), .second, .val (.double (nKd i0)), .second, .val (.double (nFd i1)), .second, .val (.double (nK1 i0)), .second, .val (.double (f_sat (nK1 i0) (nFd i1) (FP.i2d (nI i2)))), .second, .val (.double (f_sat (nK1 i0) (nF1 i1) (FP.i2d (nI i2)))), .second, .val (.double (f_sat (nK2 i0) (nFd i1) (FP.i2d (nI i2)))), .second] [(.double (f_sat (nK1 i0) (nF1 i1) (FP.i2d (nI i2)))), (.double (f_sat (nK1 i0) (nFd i1) (FP.i2d (nI i2))))]
                refine XS.dcmpS X45.here hx rfl (hb hby at_252) rfl rfl ?_
                show Go p e below t T45 m 253 #[iv i0, iv i1, iv i2, iv i3, iv (nM i3), iv (nI i2), .val (.double (FP.i2d (nI i2))), .second, .val (.double (nKd i0)), .second, .val (.double (nFd i1)), .second, .val (.double (nK1 i0)), .second, .val (.double (f_sat (nK1 i0) (nFd i1) (FP.i2d (nI i2)))), .second, .val (.double (f_sat (nK1 i0) (nF1 i1) (FP.i2d (nI i2)))), .second, .val (.double (f_sat (nK2 i0) (nFd i1) (FP.i2d (nI i2)))), .second] [(.int (cmpValue (FP.dcmp (f_sat (nK1 i0) (nFd i1) (FP.i2d (nI i2))) (f_sat (nK1 i0) (nF1 i1) (FP.i2d (nI i2)))) .g))]
                refine XS.ifNo X45.here hx rfl (hb hby at_253) rfl (dc_g_ge_f (own_p3 i0 i1 i2 h48)) ?_
                show Go p e below t T45 m 256 #[iv i0, iv i1, iv i2, iv i3, iv (nM i3), iv (nI i2), .val (.double (FP.i2d (nI i2))), .second, .val (.double (nKd i0)), .second, .val (.double (nFd i1)), .second, .val (.double (nK1 i0)), .second, .val (.double (f_sat (nK1 i0) (nFd i1) (FP.i2d (nI i2)))), .second, .val (.double (f_sat (nK1 i0) (nF1 i1) (FP.i2d (nI i2)))), .second, .val (.double (f_sat (nK2 i0) (nFd i1) (FP.i2d (nI i2)))), .second] []
                refine XS.dload X45.here hx rfl (hb hby at_256) rfl ?_
                show Go p e below t T45 m 258 #[iv i0, iv i1, iv i2, iv i3, iv (nM i3), iv (nI i2), .val (.double (FP.i2d (nI i2))), .second, .val (.double (nKd i0)), .second, .val (.double (nFd i1)), .second, .val (.double (nK1 i0)), .second, .val (.double (f_sat (nK1 i0) (nFd i1) (FP.i2d (nI i2)))), .second, .val (.double (f_sat (nK1 i0) (nF1 i1) (FP.i2d (nI i2)))), .second, .val (.double (f_sat (nK2 i0) (nFd i1) (FP.i2d (nI i2)))), .second] [(.double (f_sat (nK2 i0) (nFd i1) (FP.i2d (nI i2))))]
                refine XS.dload X45.here hx rfl (hb hby at_258) rfl ?_
                show Go p e below t T45 m 260 #[iv i0, iv i1, iv i2, iv i3, iv (nM i3), iv (nI i2), .val (.double (FP.i2d (nI i2))), .second, .val (.double (nKd i0)), .second, .val (.double (nFd i1)), .second, .val (.double (nK1 i0)), .second, .val (.double (f_sat (nK1 i0) (nFd i1) (FP.i2d (nI i2)))), .second, .val (.double (f_sat (nK1 i0) (nF1 i1) (FP.i2d (nI i2)))), .second, .val (.double (f_sat (nK2 i0) (nFd i1) (FP.i2d (nI i2)))), .second] [(.double (f_sat (nK1 i0) (nFd i1) (FP.i2d (nI i2)))), (.double (f_sat (nK2 i0) (nFd i1) (FP.i2d (nI i2))))]
                refine XS.dcmpS X45.here hx rfl (hb hby at_260) rfl rfl ?_
                show Go p e below t T45 m 261 #[iv i0, iv i1, iv i2, iv i3, iv (nM i3), iv (nI i2), .val (.double (FP.i2d (nI i2))), .second, .val (.double (nKd i0)), .second, .val (.double (nFd i1)), .second, .val (.double (nK1 i0)), .second, .val (.double (f_sat (nK1 i0) (nFd i1) (FP.i2d (nI i2)))), .second, .val (.double (f_sat (nK1 i0) (nF1 i1) (FP.i2d (nI i2)))), .second, .val (.double (f_sat (nK2 i0) (nFd i1) (FP.i2d (nI i2)))), .second] [(.int (cmpValue (FP.dcmp (f_sat (nK2 i0) (nFd i1) (FP.i2d (nI i2))) (f_sat (nK1 i0) (nFd i1) (FP.i2d (nI i2)))) .g))]
                refine XS.ifNo X45.here hx rfl (hb hby at_261) rfl (dc_g_ge_f (own_p4 i0 i1 i2 h48)) ?_
                show Go p e below t T45 m 264 #[iv i0, iv i1, iv i2, iv i3, iv (nM i3), iv (nI i2), .val (.double (FP.i2d (nI i2))), .second, .val (.double (nKd i0)), .second, .val (.double (nFd i1)), .second, .val (.double (nK1 i0)), .second, .val (.double (f_sat (nK1 i0) (nFd i1) (FP.i2d (nI i2)))), .second, .val (.double (f_sat (nK1 i0) (nF1 i1) (FP.i2d (nI i2)))), .second, .val (.double (f_sat (nK2 i0) (nFd i1) (FP.i2d (nI i2)))), .second] []
                refine XT.iconstV X45.here hx rfl (1 : Int32) (hb hby at_264) (by decide) ?_
                show Go p e below t T45 m 265 #[iv i0, iv i1, iv i2, iv i3, iv (nM i3), iv (nI i2), .val (.double (FP.i2d (nI i2))), .second, .val (.double (nKd i0)), .second, .val (.double (nFd i1)), .second, .val (.double (nK1 i0)), .second, .val (.double (f_sat (nK1 i0) (nFd i1) (FP.i2d (nI i2)))), .second, .val (.double (f_sat (nK1 i0) (nF1 i1) (FP.i2d (nI i2)))), .second, .val (.double (f_sat (nK2 i0) (nFd i1) (FP.i2d (nI i2)))), .second] [(.int (1 : Int32))]
                refine XS.goto X45.here hx rfl (pc0 := 265) (pc' := 269) rfl (hb hby at_265) (by decide) (by decide) ?_
                show Go p e below t T45 m 269 #[iv i0, iv i1, iv i2, iv i3, iv (nM i3), iv (nI i2), .val (.double (FP.i2d (nI i2))), .second, .val (.double (nKd i0)), .second, .val (.double (nFd i1)), .second, .val (.double (nK1 i0)), .second, .val (.double (f_sat (nK1 i0) (nFd i1) (FP.i2d (nI i2)))), .second, .val (.double (f_sat (nK1 i0) (nF1 i1) (FP.i2d (nI i2)))), .second, .val (.double (f_sat (nK2 i0) (nFd i1) (FP.i2d (nI i2)))), .second] [(.int (1 : Int32))]
                exact k)
              obtain ⟨fs, hr, hrun, hended, hW, hsame⟩ := X45.leave (v := some (.int (1 : Int32))) (fun h => by rw [Bd.returns] at h; cases h)
              refine ⟨_, _, g49 _ (retN X45 hx (t := .boolean) Bd.returns (by simp) (hb hby at_269) hr), hrun, hended, _, _, rfl, ?_, ⟨_, rfl⟩, hW, hsame.mono (by decide) (by decide)⟩
              show Q_law Z i0 i1 i2 i3  h0 n0 _ T45.heap _
              rw [e45]
              exact ⟨rfl, M45⟩
            · skip
              have g50 : Goes p e below S0 (T45.setTop (mkF m 272 #[iv i0, iv i1, iv i2, iv i3, iv (nM i3), iv (nI i2), .val (.double (FP.i2d (nI i2))), .second, .val (.double (nKd i0)), .second, .val (.double (nFd i1)), .second, .val (.double (nK1 i0)), .second, .val (.double (f_sat (nK1 i0) (nFd i1) (FP.i2d (nI i2)))), .second, .val (.double (f_sat (nK1 i0) (nF1 i1) (FP.i2d (nI i2)))), .second, .val (.double (f_sat (nK2 i0) (nFd i1) (FP.i2d (nI i2)))), .second] [(.int (nI i2))])) := fun t k => g47 t (by
                refine XS.ifYes X45.here hx rfl (pc0 := 230) (pc' := 270) rfl (hb hby at_230) rfl (XT.i0_le_t h48) (by decide) (by decide) ?_
                show Go p e below t T45 m 270 #[iv i0, iv i1, iv i2, iv i3, iv (nM i3), iv (nI i2), .val (.double (FP.i2d (nI i2))), .second, .val (.double (nKd i0)), .second, .val (.double (nFd i1)), .second, .val (.double (nK1 i0)), .second, .val (.double (f_sat (nK1 i0) (nFd i1) (FP.i2d (nI i2)))), .second, .val (.double (f_sat (nK1 i0) (nF1 i1) (FP.i2d (nI i2)))), .second, .val (.double (f_sat (nK2 i0) (nFd i1) (FP.i2d (nI i2)))), .second] []
                refine XS.iload X45.here hx rfl (hb hby at_270) rfl ?_
                show Go p e below t T45 m 272 #[iv i0, iv i1, iv i2, iv i3, iv (nM i3), iv (nI i2), .val (.double (FP.i2d (nI i2))), .second, .val (.double (nKd i0)), .second, .val (.double (nFd i1)), .second, .val (.double (nK1 i0)), .second, .val (.double (f_sat (nK1 i0) (nFd i1) (FP.i2d (nI i2)))), .second, .val (.double (f_sat (nK1 i0) (nF1 i1) (FP.i2d (nI i2)))), .second, .val (.double (f_sat (nK2 i0) (nFd i1) (FP.i2d (nI i2)))), .second] [(.int (nI i2))]
                exact k)
              by_cases h51 : (nI i2) < 0
              · skip
                have g52 : Goes p e below S0 (T45.setTop (mkF m 311 #[iv i0, iv i1, iv i2, iv i3, iv (nM i3), iv (nI i2), .val (.double (FP.i2d (nI i2))), .second, .val (.double (nKd i0)), .second, .val (.double (nFd i1)), .second, .val (.double (nK1 i0)), .second, .val (.double (f_sat (nK1 i0) (nFd i1) (FP.i2d (nI i2)))), .second, .val (.double (f_sat (nK1 i0) (nF1 i1) (FP.i2d (nI i2)))), .second, .val (.double (f_sat (nK2 i0) (nFd i1) (FP.i2d (nI i2)))), .second] [(.int (1 : Int32))])) := fun t k => g50 t (by
                  refine XS.ifNo X45.here hx rfl (hb hby at_272) rfl (XT.i0_ge_f h51) ?_
                  show Go p e below t T45 m 275 #[iv i0, iv i1, iv i2, iv i3, iv (nM i3), iv (nI i2), .val (.double (FP.i2d (nI i2))), .second, .val (.double (nKd i0)), .second, .val (.double (nFd i1)), .second, .val (.double (nK1 i0)), .second, .val (.double (f_sat (nK1 i0) (nFd i1) (FP.i2d (nI i2)))), .second, .val (.double (f_sat (nK1 i0) (nF1 i1) (FP.i2d (nI i2)))), .second, .val (.double (f_sat (nK2 i0) (nFd i1) (FP.i2d (nI i2)))), .second] []
                  refine XS.dload X45.here hx rfl (hb hby at_275) rfl ?_
                  show Go p e below t T45 m 277 #[iv i0, iv i1, iv i2, iv i3, iv (nM i3), iv (nI i2), .val (.double (FP.i2d (nI i2))), .second, .val (.double (nKd i0)), .second, .val (.double (nFd i1)), .second, .val (.double (nK1 i0)), .second, .val (.double (f_sat (nK1 i0) (nFd i1) (FP.i2d (nI i2)))), .second, .val (.double (f_sat (nK1 i0) (nF1 i1) (FP.i2d (nI i2)))), .second, .val (.double (f_sat (nK2 i0) (nFd i1) (FP.i2d (nI i2)))), .second] [(.double (FP.i2d (nI i2)))]
                  refine XS.dload X45.here hx rfl (hb hby at_277) rfl ?_
                  show Go p e below t T45 m 279 #[iv i0, iv i1, iv i2, iv i3, iv (nM i3), iv (nI i2), .val (.double (FP.i2d (nI i2))), .second, .val (.double (nKd i0)), .second, .val (.double (nFd i1)), .second, .val (.double (nK1 i0)), .second, .val (.double (f_sat (nK1 i0) (nFd i1) (FP.i2d (nI i2)))), .second, .val (.double (f_sat (nK1 i0) (nF1 i1) (FP.i2d (nI i2)))), .second, .val (.double (f_sat (nK2 i0) (nFd i1) (FP.i2d (nI i2)))), .second] [(.double (f_sat (nK1 i0) (nFd i1) (FP.i2d (nI i2)))), (.double (FP.i2d (nI i2)))]
                  refine XS.dcmpS X45.here hx rfl (hb hby at_279) rfl rfl ?_
                  show Go p e below t T45 m 280 #[iv i0, iv i1, iv i2, iv i3, iv (nM i3), iv (nI i2), .val (.double (FP.i2d (nI i2))), .second, .val (.double (nKd i0)), .second, .val (.double (nFd i1)), .second, .val (.double (nK1 i0)), .second, .val (.double (f_sat (nK1 i0) (nFd i1) (FP.i2d (nI i2)))), .second, .val (.double (f_sat (nK1 i0) (nF1 i1) (FP.i2d (nI i2)))), .second, .val (.double (f_sat (nK2 i0) (nFd i1) (FP.i2d (nI i2)))), .second] [(.int (cmpValue (FP.dcmp (FP.i2d (nI i2)) (f_sat (nK1 i0) (nFd i1) (FP.i2d (nI i2)))) .g))]
                  refine XS.ifNo X45.here hx rfl (hb hby at_280) rfl (dc_g_ge_f (own_n1 i0 i1 i2 h51)) ?_
                  show Go p e below t T45 m 283 #[iv i0, iv i1, iv i2, iv i3, iv (nM i3), iv (nI i2), .val (.double (FP.i2d (nI i2))), .second, .val (.double (nKd i0)), .second, .val (.double (nFd i1)), .second, .val (.double (nK1 i0)), .second, .val (.double (f_sat (nK1 i0) (nFd i1) (FP.i2d (nI i2)))), .second, .val (.double (f_sat (nK1 i0) (nF1 i1) (FP.i2d (nI i2)))), .second, .val (.double (f_sat (nK2 i0) (nFd i1) (FP.i2d (nI i2)))), .second] []
                  refine XS.dload X45.here hx rfl (hb hby at_283) rfl ?_
                  show Go p e below t T45 m 285 #[iv i0, iv i1, iv i2, iv i3, iv (nM i3), iv (nI i2), .val (.double (FP.i2d (nI i2))), .second, .val (.double (nKd i0)), .second, .val (.double (nFd i1)), .second, .val (.double (nK1 i0)), .second, .val (.double (f_sat (nK1 i0) (nFd i1) (FP.i2d (nI i2)))), .second, .val (.double (f_sat (nK1 i0) (nF1 i1) (FP.i2d (nI i2)))), .second, .val (.double (f_sat (nK2 i0) (nFd i1) (FP.i2d (nI i2)))), .second] [(.double (f_sat (nK1 i0) (nFd i1) (FP.i2d (nI i2))))]
                  refine XS.dconst0 X45.here hx rfl (hb hby at_285) (v := (0 : UInt64)) rfl ?_
                  show Go p e below t T45 m 286 #[iv i0, iv i1, iv i2, iv i3, iv (nM i3), iv (nI i2), .val (.double (FP.i2d (nI i2))), .second, .val (.double (nKd i0)), .second, .val (.double (nFd i1)), .second, .val (.double (nK1 i0)), .second, .val (.double (f_sat (nK1 i0) (nFd i1) (FP.i2d (nI i2)))), .second, .val (.double (f_sat (nK1 i0) (nF1 i1) (FP.i2d (nI i2)))), .second, .val (.double (f_sat (nK2 i0) (nFd i1) (FP.i2d (nI i2)))), .second] [(.double (0 : UInt64)), (.double (f_sat (nK1 i0) (nFd i1) (FP.i2d (nI i2))))]
                  refine XS.dcmpS X45.here hx rfl (hb hby at_286) rfl rfl ?_
                  show Go p e below t T45 m 287 #[iv i0, iv i1, iv i2, iv i3, iv (nM i3), iv (nI i2), .val (.double (FP.i2d (nI i2))), .second, .val (.double (nKd i0)), .second, .val (.double (nFd i1)), .second, .val (.double (nK1 i0)), .second, .val (.double (f_sat (nK1 i0) (nFd i1) (FP.i2d (nI i2)))), .second, .val (.double (f_sat (nK1 i0) (nF1 i1) (FP.i2d (nI i2)))), .second, .val (.double (f_sat (nK2 i0) (nFd i1) (FP.i2d (nI i2)))), .second] [(.int (cmpValue (FP.dcmp (f_sat (nK1 i0) (nFd i1) (FP.i2d (nI i2))) (0 : UInt64)) .g))]
                  refine XS.ifNo X45.here hx rfl (hb hby at_287) rfl (dc_g_ge_f (own_n2 i0 i1 i2 h51)) ?_
                  show Go p e below t T45 m 290 #[iv i0, iv i1, iv i2, iv i3, iv (nM i3), iv (nI i2), .val (.double (FP.i2d (nI i2))), .second, .val (.double (nKd i0)), .second, .val (.double (nFd i1)), .second, .val (.double (nK1 i0)), .second, .val (.double (f_sat (nK1 i0) (nFd i1) (FP.i2d (nI i2)))), .second, .val (.double (f_sat (nK1 i0) (nF1 i1) (FP.i2d (nI i2)))), .second, .val (.double (f_sat (nK2 i0) (nFd i1) (FP.i2d (nI i2)))), .second] []
                  refine XS.dload X45.here hx rfl (hb hby at_290) rfl ?_
                  show Go p e below t T45 m 292 #[iv i0, iv i1, iv i2, iv i3, iv (nM i3), iv (nI i2), .val (.double (FP.i2d (nI i2))), .second, .val (.double (nKd i0)), .second, .val (.double (nFd i1)), .second, .val (.double (nK1 i0)), .second, .val (.double (f_sat (nK1 i0) (nFd i1) (FP.i2d (nI i2)))), .second, .val (.double (f_sat (nK1 i0) (nF1 i1) (FP.i2d (nI i2)))), .second, .val (.double (f_sat (nK2 i0) (nFd i1) (FP.i2d (nI i2)))), .second] [(.double (f_sat (nK1 i0) (nF1 i1) (FP.i2d (nI i2))))]
                  refine XS.dload X45.here hx rfl (hb hby at_292) rfl ?_
                  show Go p e below t T45 m 294 #[iv i0, iv i1, iv i2, iv i3, iv (nM i3), iv (nI i2), .val (.double (FP.i2d (nI i2))), .second, .val (.double (nKd i0)), .second, .val (.double (nFd i1)), .second, .val (.double (nK1 i0)), .second, .val (.double (f_sat (nK1 i0) (nFd i1) (FP.i2d (nI i2)))), .second, .val (.double (f_sat (nK1 i0) (nF1 i1) (FP.i2d (nI i2)))), .second, .val (.double (f_sat (nK2 i0) (nFd i1) (FP.i2d (nI i2)))), .second] [(.double (f_sat (nK1 i0) (nFd i1) (FP.i2d (nI i2)))), (.double (f_sat (nK1 i0) (nF1 i1) (FP.i2d (nI i2))))]
                  refine XS.dcmpS X45.here hx rfl (hb hby at_294) rfl rfl ?_
                  show Go p e below t T45 m 295 #[iv i0, iv i1, iv i2, iv i3, iv (nM i3), iv (nI i2), .val (.double (FP.i2d (nI i2))), .second, .val (.double (nKd i0)), .second, .val (.double (nFd i1)), .second, .val (.double (nK1 i0)), .second, .val (.double (f_sat (nK1 i0) (nFd i1) (FP.i2d (nI i2)))), .second, .val (.double (f_sat (nK1 i0) (nF1 i1) (FP.i2d (nI i2)))), .second, .val (.double (f_sat (nK2 i0) (nFd i1) (FP.i2d (nI i2)))), .second] [(.int (cmpValue (FP.dcmp (f_sat (nK1 i0) (nF1 i1) (FP.i2d (nI i2))) (f_sat (nK1 i0) (nFd i1) (FP.i2d (nI i2)))) .g))]
                  refine XS.ifNo X45.here hx rfl (hb hby at_295) rfl (dc_g_ge_f (own_n3 i0 i1 i2 h51)) ?_
                  show Go p e below t T45 m 298 #[iv i0, iv i1, iv i2, iv i3, iv (nM i3), iv (nI i2), .val (.double (FP.i2d (nI i2))), .second, .val (.double (nKd i0)), .second, .val (.double (nFd i1)), .second, .val (.double (nK1 i0)), .second, .val (.double (f_sat (nK1 i0) (nFd i1) (FP.i2d (nI i2)))), .second, .val (.double (f_sat (nK1 i0) (nF1 i1) (FP.i2d (nI i2)))), .second, .val (.double (f_sat (nK2 i0) (nFd i1) (FP.i2d (nI i2)))), .second] []
                  refine XS.dload X45.here hx rfl (hb hby at_298) rfl ?_
                  show Go p e below t T45 m 300 #[iv i0, iv i1, iv i2, iv i3, iv (nM i3), iv (nI i2), .val (.double (FP.i2d (nI i2))), .second, .val (.double (nKd i0)), .second, .val (.double (nFd i1)), .second, .val (.double (nK1 i0)), .second, .val (.double (f_sat (nK1 i0) (nFd i1) (FP.i2d (nI i2)))), .second, .val (.double (f_sat (nK1 i0) (nF1 i1) (FP.i2d (nI i2)))), .second, .val (.double (f_sat (nK2 i0) (nFd i1) (FP.i2d (nI i2)))), .second] [(.double (f_sat (nK1 i0) (nFd i1) (FP.i2d (nI i2))))]
                  refine XS.dload X45.here hx rfl (hb hby at_300) rfl ?_
                  show Go p e below t T45 m 302 #[iv i0, iv i1, iv i2, iv i3, iv (nM i3), iv (nI i2), .val (.double (FP.i2d (nI i2))), .second, .val (.double (nKd i0)), .second, .val (.double (nFd i1)), .second, .val (.double (nK1 i0)), .second, .val (.double (f_sat (nK1 i0) (nFd i1) (FP.i2d (nI i2)))), .second, .val (.double (f_sat (nK1 i0) (nF1 i1) (FP.i2d (nI i2)))), .second, .val (.double (f_sat (nK2 i0) (nFd i1) (FP.i2d (nI i2)))), .second] [(.double (f_sat (nK2 i0) (nFd i1) (FP.i2d (nI i2)))), (.double (f_sat (nK1 i0) (nFd i1) (FP.i2d (nI i2))))]
                  refine XS.dcmpS X45.here hx rfl (hb hby at_302) rfl rfl ?_
                  show Go p e below t T45 m 303 #[iv i0, iv i1, iv i2, iv i3, iv (nM i3), iv (nI i2), .val (.double (FP.i2d (nI i2))), .second, .val (.double (nKd i0)), .second, .val (.double (nFd i1)), .second, .val (.double (nK1 i0)), .second, .val (.double (f_sat (nK1 i0) (nFd i1) (FP.i2d (nI i2)))), .second, .val (.double (f_sat (nK1 i0) (nF1 i1) (FP.i2d (nI i2)))), .second, .val (.double (f_sat (nK2 i0) (nFd i1) (FP.i2d (nI i2)))), .second] [(.int (cmpValue (FP.dcmp (f_sat (nK1 i0) (nFd i1) (FP.i2d (nI i2))) (f_sat (nK2 i0) (nFd i1) (FP.i2d (nI i2)))) .g))]
                  refine XS.ifNo X45.here hx rfl (hb hby at_303) rfl (dc_g_ge_f (own_n4 i0 i1 i2 h51)) ?_
                  show Go p e below t T45 m 306 #[iv i0, iv i1, iv i2, iv i3, iv (nM i3), iv (nI i2), .val (.double (FP.i2d (nI i2))), .second, .val (.double (nKd i0)), .second, .val (.double (nFd i1)), .second, .val (.double (nK1 i0)), .second, .val (.double (f_sat (nK1 i0) (nFd i1) (FP.i2d (nI i2)))), .second, .val (.double (f_sat (nK1 i0) (nF1 i1) (FP.i2d (nI i2)))), .second, .val (.double (f_sat (nK2 i0) (nFd i1) (FP.i2d (nI i2)))), .second] []
                  refine XT.iconstV X45.here hx rfl (1 : Int32) (hb hby at_306) (by decide) ?_
                  show Go p e below t T45 m 307 #[iv i0, iv i1, iv i2, iv i3, iv (nM i3), iv (nI i2), .val (.double (FP.i2d (nI i2))), .second, .val (.double (nKd i0)), .second, .val (.double (nFd i1)), .second, .val (.double (nK1 i0)), .second, .val (.double (f_sat (nK1 i0) (nFd i1) (FP.i2d (nI i2)))), .second, .val (.double (f_sat (nK1 i0) (nF1 i1) (FP.i2d (nI i2)))), .second, .val (.double (f_sat (nK2 i0) (nFd i1) (FP.i2d (nI i2)))), .second] [(.int (1 : Int32))]
                  refine XS.goto X45.here hx rfl (pc0 := 307) (pc' := 311) rfl (hb hby at_307) (by decide) (by decide) ?_
                  show Go p e below t T45 m 311 #[iv i0, iv i1, iv i2, iv i3, iv (nM i3), iv (nI i2), .val (.double (FP.i2d (nI i2))), .second, .val (.double (nKd i0)), .second, .val (.double (nFd i1)), .second, .val (.double (nK1 i0)), .second, .val (.double (f_sat (nK1 i0) (nFd i1) (FP.i2d (nI i2)))), .second, .val (.double (f_sat (nK1 i0) (nF1 i1) (FP.i2d (nI i2)))), .second, .val (.double (f_sat (nK2 i0) (nFd i1) (FP.i2d (nI i2)))), .second] [(.int (1 : Int32))]
                  exact k)
                obtain ⟨fs, hr, hrun, hended, hW, hsame⟩ := X45.leave (v := some (.int (1 : Int32))) (fun h => by rw [Bd.returns] at h; cases h)
                refine ⟨_, _, g52 _ (retN X45 hx (t := .boolean) Bd.returns (by simp) (hb hby at_311) hr), hrun, hended, _, _, rfl, ?_, ⟨_, rfl⟩, hW, hsame.mono (by decide) (by decide)⟩
                show Q_law Z i0 i1 i2 i3  h0 n0 _ T45.heap _
                rw [e45]
                exact ⟨rfl, M45⟩
              · skip
                have g53 : Goes p e below S0 (T45.setTop (mkF m 338 #[iv i0, iv i1, iv i2, iv i3, iv (nM i3), iv (nI i2), .val (.double (FP.i2d (nI i2))), .second, .val (.double (nKd i0)), .second, .val (.double (nFd i1)), .second, .val (.double (nK1 i0)), .second, .val (.double (f_sat (nK1 i0) (nFd i1) (FP.i2d (nI i2)))), .second, .val (.double (f_sat (nK1 i0) (nF1 i1) (FP.i2d (nI i2)))), .second, .val (.double (f_sat (nK2 i0) (nFd i1) (FP.i2d (nI i2)))), .second] [(.int (1 : Int32))])) := fun t k => g50 t (by
                  refine XS.ifYes X45.here hx rfl (pc0 := 272) (pc' := 312) rfl (hb hby at_272) rfl (XT.i0_ge_t h51) (by decide) (by decide) ?_
                  show Go p e below t T45 m 312 #[iv i0, iv i1, iv i2, iv i3, iv (nM i3), iv (nI i2), .val (.double (FP.i2d (nI i2))), .second, .val (.double (nKd i0)), .second, .val (.double (nFd i1)), .second, .val (.double (nK1 i0)), .second, .val (.double (f_sat (nK1 i0) (nFd i1) (FP.i2d (nI i2)))), .second, .val (.double (f_sat (nK1 i0) (nF1 i1) (FP.i2d (nI i2)))), .second, .val (.double (f_sat (nK2 i0) (nFd i1) (FP.i2d (nI i2)))), .second] []
                  refine XS.dload X45.here hx rfl (hb hby at_312) rfl ?_
                  show Go p e below t T45 m 314 #[iv i0, iv i1, iv i2, iv i3, iv (nM i3), iv (nI i2), .val (.double (FP.i2d (nI i2))), .second, .val (.double (nKd i0)), .second, .val (.double (nFd i1)), .second, .val (.double (nK1 i0)), .second, .val (.double (f_sat (nK1 i0) (nFd i1) (FP.i2d (nI i2)))), .second, .val (.double (f_sat (nK1 i0) (nF1 i1) (FP.i2d (nI i2)))), .second, .val (.double (f_sat (nK2 i0) (nFd i1) (FP.i2d (nI i2)))), .second] [(.double (f_sat (nK1 i0) (nFd i1) (FP.i2d (nI i2))))]
                  refine XS.dconst0 X45.here hx rfl (hb hby at_314) (v := (0 : UInt64)) rfl ?_
                  show Go p e below t T45 m 315 #[iv i0, iv i1, iv i2, iv i3, iv (nM i3), iv (nI i2), .val (.double (FP.i2d (nI i2))), .second, .val (.double (nKd i0)), .second, .val (.double (nFd i1)), .second, .val (.double (nK1 i0)), .second, .val (.double (f_sat (nK1 i0) (nFd i1) (FP.i2d (nI i2)))), .second, .val (.double (f_sat (nK1 i0) (nF1 i1) (FP.i2d (nI i2)))), .second, .val (.double (f_sat (nK2 i0) (nFd i1) (FP.i2d (nI i2)))), .second] [(.double (0 : UInt64)), (.double (f_sat (nK1 i0) (nFd i1) (FP.i2d (nI i2))))]
                  refine XS.dcmpS X45.here hx rfl (hb hby at_315) rfl rfl ?_
                  show Go p e below t T45 m 316 #[iv i0, iv i1, iv i2, iv i3, iv (nM i3), iv (nI i2), .val (.double (FP.i2d (nI i2))), .second, .val (.double (nKd i0)), .second, .val (.double (nFd i1)), .second, .val (.double (nK1 i0)), .second, .val (.double (f_sat (nK1 i0) (nFd i1) (FP.i2d (nI i2)))), .second, .val (.double (f_sat (nK1 i0) (nF1 i1) (FP.i2d (nI i2)))), .second, .val (.double (f_sat (nK2 i0) (nFd i1) (FP.i2d (nI i2)))), .second] [(.int (cmpValue (FP.dcmp (f_sat (nK1 i0) (nFd i1) (FP.i2d (nI i2))) (0 : UInt64)) .l))]
                  refine XS.ifNo X45.here hx rfl (hb hby at_316) rfl (dc_l_ne_f (own_o1 i0 i1 i2 h48 h51)) ?_
                  show Go p e below t T45 m 319 #[iv i0, iv i1, iv i2, iv i3, iv (nM i3), iv (nI i2), .val (.double (FP.i2d (nI i2))), .second, .val (.double (nKd i0)), .second, .val (.double (nFd i1)), .second, .val (.double (nK1 i0)), .second, .val (.double (f_sat (nK1 i0) (nFd i1) (FP.i2d (nI i2)))), .second, .val (.double (f_sat (nK1 i0) (nF1 i1) (FP.i2d (nI i2)))), .second, .val (.double (f_sat (nK2 i0) (nFd i1) (FP.i2d (nI i2)))), .second] []
                  refine XS.dload X45.here hx rfl (hb hby at_319) rfl ?_
                  show Go p e below t T45 m 321 #[iv i0, iv i1, iv i2, iv i3, iv (nM i3), iv (nI i2), .val (.double (FP.i2d (nI i2))), .second, .val (.double (nKd i0)), .second, .val (.double (nFd i1)), .second, .val (.double (nK1 i0)), .second, .val (.double (f_sat (nK1 i0) (nFd i1) (FP.i2d (nI i2)))), .second, .val (.double (f_sat (nK1 i0) (nF1 i1) (FP.i2d (nI i2)))), .second, .val (.double (f_sat (nK2 i0) (nFd i1) (FP.i2d (nI i2)))), .second] [(.double (f_sat (nK1 i0) (nF1 i1) (FP.i2d (nI i2))))]
                  refine XS.dconst0 X45.here hx rfl (hb hby at_321) (v := (0 : UInt64)) rfl ?_
                  show Go p e below t T45 m 322 #[iv i0, iv i1, iv i2, iv i3, iv (nM i3), iv (nI i2), .val (.double (FP.i2d (nI i2))), .second, .val (.double (nKd i0)), .second, .val (.double (nFd i1)), .second, .val (.double (nK1 i0)), .second, .val (.double (f_sat (nK1 i0) (nFd i1) (FP.i2d (nI i2)))), .second, .val (.double (f_sat (nK1 i0) (nF1 i1) (FP.i2d (nI i2)))), .second, .val (.double (f_sat (nK2 i0) (nFd i1) (FP.i2d (nI i2)))), .second] [(.double (0 : UInt64)), (.double (f_sat (nK1 i0) (nF1 i1) (FP.i2d (nI i2))))]
                  refine XS.dcmpS X45.here hx rfl (hb hby at_322) rfl rfl ?_
                  show Go p e below t T45 m 323 #[iv i0, iv i1, iv i2, iv i3, iv (nM i3), iv (nI i2), .val (.double (FP.i2d (nI i2))), .second, .val (.double (nKd i0)), .second, .val (.double (nFd i1)), .second, .val (.double (nK1 i0)), .second, .val (.double (f_sat (nK1 i0) (nFd i1) (FP.i2d (nI i2)))), .second, .val (.double (f_sat (nK1 i0) (nF1 i1) (FP.i2d (nI i2)))), .second, .val (.double (f_sat (nK2 i0) (nFd i1) (FP.i2d (nI i2)))), .second] [(.int (cmpValue (FP.dcmp (f_sat (nK1 i0) (nF1 i1) (FP.i2d (nI i2))) (0 : UInt64)) .l))]
                  refine XS.ifNo X45.here hx rfl (hb hby at_323) rfl (dc_l_ne_f (own_o2 i0 i1 i2 h48 h51)) ?_
                  show Go p e below t T45 m 326 #[iv i0, iv i1, iv i2, iv i3, iv (nM i3), iv (nI i2), .val (.double (FP.i2d (nI i2))), .second, .val (.double (nKd i0)), .second, .val (.double (nFd i1)), .second, .val (.double (nK1 i0)), .second, .val (.double (f_sat (nK1 i0) (nFd i1) (FP.i2d (nI i2)))), .second, .val (.double (f_sat (nK1 i0) (nF1 i1) (FP.i2d (nI i2)))), .second, .val (.double (f_sat (nK2 i0) (nFd i1) (FP.i2d (nI i2)))), .second] []
                  refine XS.dload X45.here hx rfl (hb hby at_326) rfl ?_
                  show Go p e below t T45 m 328 #[iv i0, iv i1, iv i2, iv i3, iv (nM i3), iv (nI i2), .val (.double (FP.i2d (nI i2))), .second, .val (.double (nKd i0)), .second, .val (.double (nFd i1)), .second, .val (.double (nK1 i0)), .second, .val (.double (f_sat (nK1 i0) (nFd i1) (FP.i2d (nI i2)))), .second, .val (.double (f_sat (nK1 i0) (nF1 i1) (FP.i2d (nI i2)))), .second, .val (.double (f_sat (nK2 i0) (nFd i1) (FP.i2d (nI i2)))), .second] [(.double (f_sat (nK2 i0) (nFd i1) (FP.i2d (nI i2))))]
                  refine XS.dconst0 X45.here hx rfl (hb hby at_328) (v := (0 : UInt64)) rfl ?_
                  show Go p e below t T45 m 329 #[iv i0, iv i1, iv i2, iv i3, iv (nM i3), iv (nI i2), .val (.double (FP.i2d (nI i2))), .second, .val (.double (nKd i0)), .second, .val (.double (nFd i1)), .second, .val (.double (nK1 i0)), .second, .val (.double (f_sat (nK1 i0) (nFd i1) (FP.i2d (nI i2)))), .second, .val (.double (f_sat (nK1 i0) (nF1 i1) (FP.i2d (nI i2)))), .second, .val (.double (f_sat (nK2 i0) (nFd i1) (FP.i2d (nI i2)))), .second] [(.double (0 : UInt64)), (.double (f_sat (nK2 i0) (nFd i1) (FP.i2d (nI i2))))]
                  refine XS.dcmpS X45.here hx rfl (hb hby at_329) rfl rfl ?_
                  show Go p e below t T45 m 330 #[iv i0, iv i1, iv i2, iv i3, iv (nM i3), iv (nI i2), .val (.double (FP.i2d (nI i2))), .second, .val (.double (nKd i0)), .second, .val (.double (nFd i1)), .second, .val (.double (nK1 i0)), .second, .val (.double (f_sat (nK1 i0) (nFd i1) (FP.i2d (nI i2)))), .second, .val (.double (f_sat (nK1 i0) (nF1 i1) (FP.i2d (nI i2)))), .second, .val (.double (f_sat (nK2 i0) (nFd i1) (FP.i2d (nI i2)))), .second] [(.int (cmpValue (FP.dcmp (f_sat (nK2 i0) (nFd i1) (FP.i2d (nI i2))) (0 : UInt64)) .l))]
                  refine XS.ifNo X45.here hx rfl (hb hby at_330) rfl (dc_l_ne_f (own_o3 i0 i1 i2 h48 h51)) ?_
                  show Go p e below t T45 m 333 #[iv i0, iv i1, iv i2, iv i3, iv (nM i3), iv (nI i2), .val (.double (FP.i2d (nI i2))), .second, .val (.double (nKd i0)), .second, .val (.double (nFd i1)), .second, .val (.double (nK1 i0)), .second, .val (.double (f_sat (nK1 i0) (nFd i1) (FP.i2d (nI i2)))), .second, .val (.double (f_sat (nK1 i0) (nF1 i1) (FP.i2d (nI i2)))), .second, .val (.double (f_sat (nK2 i0) (nFd i1) (FP.i2d (nI i2)))), .second] []
                  refine XT.iconstV X45.here hx rfl (1 : Int32) (hb hby at_333) (by decide) ?_
                  show Go p e below t T45 m 334 #[iv i0, iv i1, iv i2, iv i3, iv (nM i3), iv (nI i2), .val (.double (FP.i2d (nI i2))), .second, .val (.double (nKd i0)), .second, .val (.double (nFd i1)), .second, .val (.double (nK1 i0)), .second, .val (.double (f_sat (nK1 i0) (nFd i1) (FP.i2d (nI i2)))), .second, .val (.double (f_sat (nK1 i0) (nF1 i1) (FP.i2d (nI i2)))), .second, .val (.double (f_sat (nK2 i0) (nFd i1) (FP.i2d (nI i2)))), .second] [(.int (1 : Int32))]
                  refine XS.goto X45.here hx rfl (pc0 := 334) (pc' := 338) rfl (hb hby at_334) (by decide) (by decide) ?_
                  show Go p e below t T45 m 338 #[iv i0, iv i1, iv i2, iv i3, iv (nM i3), iv (nI i2), .val (.double (FP.i2d (nI i2))), .second, .val (.double (nKd i0)), .second, .val (.double (nFd i1)), .second, .val (.double (nK1 i0)), .second, .val (.double (f_sat (nK1 i0) (nFd i1) (FP.i2d (nI i2)))), .second, .val (.double (f_sat (nK1 i0) (nF1 i1) (FP.i2d (nI i2)))), .second, .val (.double (f_sat (nK2 i0) (nFd i1) (FP.i2d (nI i2)))), .second] [(.int (1 : Int32))]
                  exact k)
                obtain ⟨fs, hr, hrun, hended, hW, hsame⟩ := X45.leave (v := some (.int (1 : Int32))) (fun h => by rw [Bd.returns] at h; cases h)
                refine ⟨_, _, g53 _ (retN X45 hx (t := .boolean) Bd.returns (by simp) (hb hby at_338) hr), hrun, hended, _, _, rfl, ?_, ⟨_, rfl⟩, hW, hsame.mono (by decide) (by decide)⟩
                show Q_law Z i0 i1 i2 i3  h0 n0 _ T45.heap _
                rw [e45]
                exact ⟨rfl, M45⟩
theorem own_one (a b c d : Int32) : f_law a b c d = 1 := rfl
set_option maxRecDepth 65536 in
set_option maxHeartbeats 40000000 in
theorem comes_1 {Post : Tables → Env → Array Value → State → Outcome → State → Prop} (hpost : ∀ tb e args s v u, (limb_1_1.after args s (.returned v) u = true ∧ limb_1_2.after args s (.returned v) u = true ∧ True) → FrameEnd s (.returned v) u (Jvm.fieldLocs frame_1_writes args s ++ Jvm.arrayLocs frame_1_arrays args s ++ Jvm.staticLocs frame_1_statics s) 0 0 → Post tb e args s (.returned v) u) :
    ArmFor flags0 classFile x code maxLocals ret World_1 tables_1 room_1 Calls_1 rest_1 Pre_1 Post := by
  intro l hfl _ _ p e ha hc hk s m args below hf hA hF happ hP
  obtain ⟨hcalls, hrest, hpre⟩ := hP
  obtain ⟨-, -, -, hnamed, -, -, -, hat⟩ := (Spec.applies_iff hf).mp happ
  obtain ⟨hg, hn⟩ := and_e (Cond.before_iff.mp (show (Jvm.Cond.and given_1 narrow_1).before args s = true from hpre))
  obtain ⟨hcount, q0⟩ := and_e hg
  obtain ⟨b0, q1⟩ := and_e q0
  obtain ⟨b1, q2⟩ := and_e q1
  obtain ⟨b2, q3⟩ := and_e q2
  have b3 := q3
  obtain ⟨w0, w1, w2, w3, rfl⟩ : ∃ w0 w1 w2 w3 : Value, args = #[w0, w1, w2, w3] := by
    have hs : args.size = 4 := by simpa [Cond.value, given_1] using hcount
    obtain ⟨L⟩ := args
    match L, hs with
    | [w0, w1, w2, w3], _ => exact ⟨w0, w1, w2, w3, rfl⟩
  have hw := fun d (hd : d ∈ tables_1) => atoms_spec (ws := Jvm.Cond.code x code maxLocals ret :: tables_1) hat d (List.mem_cons_of_mem _ hd)
  have hfit : Fit s := fun {y c} hc i hi => by
    obtain ⟨ha, rfl⟩ := Array.getElem?_eq_some_iff.mp hc
    have q := List.all_eq_true.mp ((Array.all_eq_true_iff_forall_mem.mp hF) _ (Array.getElem_mem ha)) i (List.mem_range.mpr hi)
    simpa [Array.getElem?_eq_getElem hi] using q
  obtain ⟨i0, r0⟩ := is_v b0
  obtain rfl : w0 = (.int i0) := Option.some.inj r0
  obtain ⟨i1, r1⟩ := is_v b1
  obtain rfl : w1 = (.int i1) := Option.some.inj r1
  obtain ⟨i2, r2⟩ := is_v b2
  obtain rfl : w2 = (.int i2) := Option.some.inj r2
  obtain ⟨i3, r3⟩ := is_v b3
  obtain rfl : w3 = (.int i3) := Option.some.inj r3
  obtain ⟨n, o, h1, h2, h3, v, L, rfl, ⟨hv, N⟩, hq⟩ := rm_law l s _ hw tables_1 i0 i1 i2 i3  s.heap s.heap.size (Nat.le_refl _)  p e ha hc hk s m _ below hf ((Spec.applies_iff_loose hf).mp happ).1 ⟨rfl, State.Warmed39.refl s, rfl⟩ trivial
  obtain rfl : v = some (.int 1) := by rw [hv, own_one]
  refine ⟨n, _, h1, h2, h3, hpost _ _ _ _ _ _ ⟨Cond.after_iff.mpr rfl, Cond.after_iff.mpr (eq_i res_at (Term.int_eval (1)) rfl), trivial⟩ ⟨hq.1, hq.2.1, (hq.2.2.sift fun y hy => Or.inr (N y hy)).mono (by decide) (by decide)⟩⟩
theorem main_1_1 : Claimed_1_1 := comes_1 fun _ _ _ _ _ _ h hF => ⟨h.1, hF⟩
theorem main_1_2 : Claimed_1_2 := comes_1 fun _ _ _ _ _ _ h hF => ⟨h.2.1, hF⟩
end Jvm.Pilot.@@N@@
namespace Jvm.Pilot.@@N@@
open Jvm Jvm.ClassFile Sem Op Lib Jvm.Free Jvm.Stand Jvm.Pilot.@@N@@.Jvm.D
/-! MADE BY PROGRAM (witnessworld.py) out of the Statement's table words and the real class files: 11 classes; the members and pool entries that the words name. The judged class is class 1, her method 1. -/
namespace start1
open Jvm.ClassFile
def u (s : String) : CpInfo := .utf8 (stringToUtf16 s)
/-- a pool by its gaps: so many unusable entries, then the entry; so many at the end -/
def gap : Nat → List CpInfo → List CpInfo
  | 0, r => r
  | n + 1, r => .unusable :: gap n r
def poolList (es : List (Nat × CpInfo)) (last : Nat) : List CpInfo := es.foldr (fun e r => gap e.1 (e.2 :: r)) (gap last [])
def pool (es : List (Nat × CpInfo)) (last : Nat) : Array CpInfo := ⟨poolList es last⟩
def fileOf (pool : Array CpInfo) (this : Nat) (attrs : Array Attribute := #[]) (ms : Array MethodInfo := #[]) (fl : Nat := 33) (sup : Nat := 0) (ifs : Array Nat := #[]) (fds : Array FieldInfo := #[]) : ClassFile where
  minorVersion := 0
  majorVersion := 65
  constantPool := pool
  accessFlags := fl
  thisClass := this
  superClass := sup
  interfaces := ifs
  fields := fds
  methods := ms
  attributes := attrs
def plain (name : String) (sup : Option ClassId) : Class where
  name := name
  kind := .ordinary
  loader := none
  accessFlags := 33
  super := sup
  interfaces := #[]
  cf := none
  fields := #[]
  methods := #[]
  instanceTypes := #[]
  staticTypes := #[]
  resolved := #[]
  callSites := []
  init := .initialized
  statics := none
  mirror := none

def pool0 : Array CpInfo := pool [(5, u "<init>"), (0, u "()V"), (1, .class_ 10), (1, u "java/lang/Object")] 113

def k0m0 : Method := { name := "<init>", desc := "()V", sig := { parameters := [], returnType := none }, accessFlags := 1, code := none }
/-- java/lang/Object -/
def k0 : Class := { plain "java/lang/Object" none with
  accessFlags := 33
  interfaces := #[]
  cf := some (fileOf pool0 8 #[] #[{ accessFlags := 1, nameIndex := 5, descriptorIndex := 6, attributes := #[] }] 33 0 #[] #[])
  fields := #[]
  methods := #[k0m0]
  instanceTypes := #[]
  staticTypes := #[]
  resolved := Array.replicate 124 none
  statics := none }

def pool1 : Array CpInfo := pool [(2, .class_ 4), (1, u "java/lang/Object"), (0, u "<init>"), (0, u "()V"), (0, .integer 65536), (0, .integer 65535), (0, .methodref 10 11), (0, .class_ 12), (0, .nameAndType 13 14), (0, u "com/example/narabi/narabi/ranking/Bm25"), (0, u "saturate"), (0, u "(DDD)D"), (0, .double 9218868437227405312), (1, .double 4611686018427387904), (1, .double 4613937818241073152), (1, .double 4616189618054758400), (1, .class_ 24), (0, u "com/example/narabi/narabi/ranking/Bm25SaturatePinLaw"), (2, u "law"), (0, u "(IIII)Z")] 3

def k1m0 : Method := { name := "<init>", desc := "()V", sig := { parameters := [], returnType := none }, accessFlags := 1, code := none }
def k1c1 : Code := { maxStack := 6, maxLocals := 20, code := code, exceptionTable := #[], attributes := #[] }
def k1m1 : Method := { name := "law", desc := "(IIII)Z", sig := { parameters := [.int, .int, .int, .int], returnType := some .boolean }, accessFlags := 9, code := some k1c1 }
/-- com/example/narabi/narabi/ranking/Bm25SaturatePinLaw -/
def k1 : Class := { plain "com/example/narabi/narabi/ranking/Bm25SaturatePinLaw" (some 0) with
  accessFlags := 49
  interfaces := #[]
  cf := some (fileOf pool1 23 #[] #[{ accessFlags := 1, nameIndex := 5, descriptorIndex := 6, attributes := #[] }, { accessFlags := 9, nameIndex := 27, descriptorIndex := 28, attributes := #[] }] 49 2 #[] #[])
  fields := #[]
  methods := #[k1m0, k1m1]
  instanceTypes := #[]
  staticTypes := #[]
  resolved := Array.replicate 32 none
  statics := none }

def pool2 : Array CpInfo := pool [(2, .class_ 4), (1, u "java/lang/Object"), (0, u "<init>"), (0, u "()V"), (0, .class_ 8), (0, u "java/lang/Record")] 13

def k2m0 : Method := { name := "<init>", desc := "()V", sig := { parameters := [], returnType := none }, accessFlags := 4, code := none }
/-- java/lang/Record -/
def k2 : Class := { plain "java/lang/Record" (some 0) with
  accessFlags := 1057
  interfaces := #[]
  cf := some (fileOf pool2 7 #[] #[{ accessFlags := 4, nameIndex := 5, descriptorIndex := 6, attributes := #[] }] 1057 2 #[] #[])
  fields := #[]
  methods := #[k2m0]
  instanceTypes := #[]
  staticTypes := #[]
  resolved := Array.replicate 22 none
  statics := none }

def pool3 : Array CpInfo := pool [(1, .class_ 2), (0, u "com/example/narabi/narabi/ranking/ScoringModel"), (0, .class_ 4), (0, u "java/lang/Object"), (7, .class_ 13), (0, u "com/example/narabi/narabi/ranking/ScoringModel$Scorer")] 9

/-- com/example/narabi/narabi/ranking/ScoringModel -/
def k3 : Class := { plain "com/example/narabi/narabi/ranking/ScoringModel" (some 0) with
  accessFlags := 1537
  interfaces := #[]
  cf := some (fileOf pool3 1 #[.nestMembers #[12]] #[] 1537 3 #[] #[])
  fields := #[]
  methods := #[]
  instanceTypes := #[]
  staticTypes := #[]
  resolved := Array.replicate 23 none
  statics := none }

def pool4 : Array CpInfo := pool [(2, .class_ 4), (1, u "java/lang/Record"), (4, .double 9218868437227405312), (11, u "b"), (1, .class_ 25), (1, u "com/example/narabi/narabi/ranking/Bm25"), (4, u "k1"), (0, u "D"), (12, .class_ 45), (0, u "com/example/narabi/narabi/ranking/Bm25$LengthNormalised"), (73, u "DEFAULTS"), (0, u "Lcom/example/narabi/narabi/ranking/Bm25;"), (0, .class_ 122), (0, u "com/example/narabi/narabi/ranking/ScoringModel"), (15, u "saturate"), (0, u "(DDD)D")] 40

def k4c0 : Code := { maxStack := 8, maxLocals := 8, code := prog_48_method_5_code, exceptionTable := #[], attributes := #[] }
def k4m0 : Method := { name := "saturate", desc := "(DDD)D", sig := { parameters := [.double, .double, .double], returnType := some .double }, accessFlags := 8, code := some k4c0 }
/-- com/example/narabi/narabi/ranking/Bm25 -/
def k4 : Class := { plain "com/example/narabi/narabi/ranking/Bm25" (some 2) with
  accessFlags := 49
  interfaces := #[3]
  cf := some (fileOf pool4 23 #[.nestMembers #[44]] #[{ accessFlags := 8, nameIndex := 138, descriptorIndex := 139, attributes := #[] }] 49 2 #[121] #[{ accessFlags := 18, nameIndex := 30, descriptorIndex := 31, attributes := #[] }, { accessFlags := 18, nameIndex := 21, descriptorIndex := 31, attributes := #[] }, { accessFlags := 25, nameIndex := 119, descriptorIndex := 120, attributes := #[] }])
  fields := #[{ name := "k1", type := .double, accessFlags := 18, slot := 0, constantValue := 0 }, { name := "b", type := .double, accessFlags := 18, slot := 1, constantValue := 0 }, { name := "DEFAULTS", type := (.object "com/example/narabi/narabi/ranking/Bm25"), accessFlags := 25, slot := 0, constantValue := 0 }]
  methods := #[k4m0]
  instanceTypes := #[.double, .double]
  staticTypes := #[(.object "com/example/narabi/narabi/ranking/Bm25")]
  resolved := Array.replicate 180 none
  statics := none }

def pool5 : Array CpInfo := pool [(1, u "java/lang/Cloneable"), (0, .class_ 1), (0, u "java/lang/Object"), (0, .class_ 3)] 3

/-- java/lang/Cloneable -/
def k5 : Class := { plain "java/lang/Cloneable" (some 0) with
  accessFlags := 1537
  interfaces := #[]
  cf := some (fileOf pool5 2 #[] #[] 1537 4 #[] #[])
  fields := #[]
  methods := #[]
  instanceTypes := #[]
  staticTypes := #[]
  resolved := Array.replicate 8 none
  statics := none }

def pool6 : Array CpInfo := pool [(1, u "java/io/Serializable"), (0, .class_ 1), (0, u "java/lang/Object"), (0, .class_ 3)] 3

/-- java/io/Serializable -/
def k6 : Class := { plain "java/io/Serializable" (some 0) with
  accessFlags := 1537
  interfaces := #[]
  cf := some (fileOf pool6 2 #[] #[] 1537 4 #[] #[])
  fields := #[]
  methods := #[]
  instanceTypes := #[]
  staticTypes := #[]
  resolved := Array.replicate 8 none
  statics := none }

/-- the primitive byte -/
def k7 : Class := { plain "byte" none with kind := .primitive 'B', accessFlags := 0x411 }
/-- [B -/
def k8 : Class := { plain "[B" (some 0) with kind := .array 7 .byte, interfaces := #[5, 6], accessFlags := 1041 }

/-- the primitive int -/
def k9 : Class := { plain "int" none with kind := .primitive 'I', accessFlags := 0x411 }
/-- [I -/
def k10 : Class := { plain "[I" (some 0) with kind := .array 9 .int, interfaces := #[5, 6], accessFlags := 1041 }

def heap : Heap := #[]
def classes : Array Class := #[k0, k1, k2, k3, k4, k5, k6, k7, k8, k9, k10]
def interned : List (Array UInt16 × Addr) := []
def slotsUsed : Nat := 0
def theMethod : MethodId := ⟨1, 1⟩
def args0 : Array Value := #[.int 5, .int 7, .int 9, .int 11]
def aboutOver (below : List Frame) : State where
  vm := { classes := classes, interned := interned.toArray }
  heap := heap
  slotsUsed := slotsUsed
  threads := #[{ frames := .invoking theMethod args0 :: below }]
def below0 : List Frame := [.native { method := ⟨0, 0⟩, args := #[] }]
def about1 : State := aboutOver below0
def p0 : Program := .bare "" "" ""
def e0 : Env := launch0.env 0 0 0
theorem w_frames : about1.frames = Frame.invoking theMethod args0 :: below0 := rfl
set_option maxRecDepth 65536 in
theorem w_args : argsFit about1.vm theMethod args0 = true := by decide +kernel
set_option maxRecDepth 65536 in
theorem w_heap : heapFits about1 = true := by decide +kernel
set_option maxRecDepth 65536 in
theorem w_runnable : about1.curStatus? = some .runnable := by decide +kernel
set_option maxRecDepth 65536 in
theorem w_alone : about1.alone = true := by decide +kernel
set_option maxRecDepth 65536 in
theorem w_named : about1.methodNamed? x = some theMethod := by decide +kernel
set_option maxRecDepth 65536 in
theorem w_hears : about1.hears theMethod below0 = true := by decide +kernel
set_option maxRecDepth 65536 in
theorem w_ripe : about1.ripe theMethod args0 below0 = true := by decide +kernel
theorem w_running : about1.status = .running := rfl
set_option maxRecDepth 65536 in
theorem w_room : about1.hasRoom e0.platform room_1 = true :=
  launch0.hasRoom_least _ room_1 (by decide +kernel) (by decide +kernel) (by decide +kernel) (by decide +kernel) (by decide +kernel) (by decide +kernel)
theorem allAtoms_all (ts : List Jvm.Cond) (a : Array Jvm.Value) (st : Jvm.State) : (allAtoms ts).before a st = ts.all (fun c => c.before a st) := by
  induction ts with
  | nil => rfl
  | cons c t ih =>
    show (Jvm.Cond.and c (allAtoms t)).before a st = _
    rw [Jvm.Cond.before_and, ih, List.all_cons]
def words1 : List Jvm.Cond := Jvm.Cond.code x code maxLocals ret :: tables_1
/-- a 'code' word, met by the world's own term for the bytes: nothing is compared byte by byte -/
theorem code_word {y : MethodName} {bytes : ByteArray} {mx : Nat} {rt : Option FieldType} {a : Array Value} {s : State} {m : MethodId} {meth : Method} {c : Code} (h1 : s.methodNamed? y = some m) (h2 : s.vm.method? m = some meth) (h3 : meth.code = some c) (h4 : c.code = bytes)
    (h5 : (c.maxLocals == mx && c.exceptionTable.isEmpty && decide (c.maxStack ≤ mostOperands) && decide (meth.sig.returnType = rt) && !meth.locks && decide (parseMethodDescriptor y.desc = some meth.sig)) = true) : (Jvm.Cond.code y bytes mx rt).before a s = true := by
  simp only [Bool.and_eq_true, beq_iff_eq, Bool.not_eq_true', decide_eq_true_eq] at h5
  obtain ⟨⟨⟨⟨⟨g1, g2⟩, g3⟩, g4⟩, g5⟩, g6⟩ := h5
  simp [Cond.before, Cond.holds, Cond.value, h1, h2, h3, h4, g1, g2, g3, g4, g5, g6]
def isCode : Jvm.Cond → Bool
  | .code _ _ _ _ => true
  | _ => false
theorem all_split {L : List Jvm.Cond} {P : Jvm.Cond → Bool} (h1 : L.all (fun c => isCode c || P c) = true) (h2 : ∀ c ∈ L.filter isCode, P c = true) : L.all P = true := by
  refine List.all_eq_true.mpr fun c hc => ?_
  have h := List.all_eq_true.mp h1 c hc
  rcases Bool.eq_false_or_eq_true (isCode c) with hi | hi
  · exact h2 c (List.mem_filter.mpr ⟨hc, hi⟩)
  · simpa [hi] using h
set_option maxRecDepth 65536 in
theorem w_c0 : (Jvm.Cond.code x code maxLocals ret).before args0 about1 = true := code_word (m := ⟨1, 1⟩) (meth := k1m1) (c := k1c1) (by decide +kernel) rfl rfl rfl (by decide +kernel)
set_option maxRecDepth 65536 in
theorem w_c1 : (Jvm.Cond.code ({ cls := "com/example/narabi/narabi/ranking/Bm25", name := "saturate", desc := "(DDD)D" } : Jvm.MethodName) prog_48_method_5_code (8 : Nat) (Option.some Jvm.ClassFile.FieldType.double)).before args0 about1 = true := code_word (m := ⟨4, 0⟩) (meth := k4m0) (c := k4c0) (by decide +kernel) rfl rfl rfl (by decide +kernel)
def codes1 : List Jvm.Cond := [Jvm.Cond.code x code maxLocals ret, Jvm.Cond.code ({ cls := "com/example/narabi/narabi/ranking/Bm25", name := "saturate", desc := "(DDD)D" } : Jvm.MethodName) prog_48_method_5_code (8 : Nat) (Option.some Jvm.ClassFile.FieldType.double)]
set_option maxRecDepth 65536 in
theorem codes_eq : words1.filter isCode = codes1 := rfl
theorem w_codes : ∀ c ∈ words1.filter isCode, c.before args0 about1 = true := by
  rw [codes_eq]
  intro c hc
  simp only [codes1, List.mem_cons, List.not_mem_nil, or_false] at hc
  rcases hc with rfl | rfl
  · exact w_c0
  · exact w_c1
set_option maxRecDepth 65536 in
theorem w_t1 : words1.all (fun c => isCode c || c.before args0 about1) = true := by decide +kernel
theorem w_tables : (allAtoms (Jvm.Cond.code x code maxLocals ret :: tables_1)).before args0 about1 = true := by
  rw [allAtoms_all]
  show words1.all (fun c => c.before args0 about1) = true
  refine all_split ?_ w_codes
  rw [w_t1]
set_option maxRecDepth 65536 in
theorem w_case : (Jvm.Cond.and given_1 narrow_1).before args0 about1 = true := by decide +kernel
theorem w_applies : (headSpec (Jvm.Cond.code x code maxLocals ret :: tables_1) room_1).applies x e0.platform about1 = true :=
  (Spec.applies_iff w_frames).mpr ⟨w_running, w_runnable, w_alone, w_named, w_hears, w_ripe, w_room, w_tables⟩
theorem atStart : AtStart classFile x code maxLocals ret World_1 tables_1 room_1 Calls_1 rest_1 Pre_1 launch0 p0 e0 about1 theMethod args0 below0 :=
  ⟨lists_1, trivial, launch0.admits_env _ _ _, launch0.least_env, fairChoices_fair.cas, fairChoices_fair.clock, w_frames, w_args, w_heap, w_applies, trivial, trivial, w_case⟩
end start1
theorem witness_1 : WitnessClaimed_1 := ⟨start1.p0, start1.e0, start1.about1, start1.theMethod, start1.args0, start1.below0, start1.atStart⟩
end Jvm.Pilot.@@N@@
