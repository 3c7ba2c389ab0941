import JvmDerived
import JvmDerived.Pilot.@@N@@Statement
import JvmDerived.Pilot.@@N@@Code
set_option linter.unusedVariables false
set_option linter.unusedSimpArgs false
namespace Jvm.OwnFP
open Jvm.FP Jvm.FP.Core
/-- a double's value in units of the least double, 2^-1074 -/
abbrev Zv (a : UInt64) : Int := zval b64 (val64 a)
theorem fin_ne {a : UInt64} (h : DFin a) : val64 a ≠ .nan := by
  obtain ⟨s, c, q, h⟩ := h; rw [h]; exact Datum.noConfusion
theorem mul_ne {a b : UInt64} (ha : DFin a) (hb : DFin b) : val64 (FP.dmul a b) ≠ .nan :=
  Jvm.Free.Fl.val64_no.mp (Jvm.Free.Fl.dmul_out (Jvm.Free.Fl.fin64_core.mpr ha) (Jvm.Free.Fl.fin64_core.mpr hb))
theorem add_ne {a b : UInt64} (ha : DFin a) (hb : DFin b) : val64 (FP.dadd a b) ≠ .nan :=
  Jvm.Free.Fl.val64_no.mp (Jvm.Free.Fl.dadd_out (Jvm.Free.Fl.fin64_core.mpr ha).noNaN (Jvm.Free.Fl.fin64_core.mpr hb))
theorem sub_ne {a b : UInt64} (ha : DFin a) (hb : DFin b) : val64 (FP.dsub a b) ≠ .nan :=
  Jvm.Free.Fl.val64_no.mp (Jvm.Free.Fl.dsub_out (Jvm.Free.Fl.fin64_core.mpr ha).noNaN (Jvm.Free.Fl.fin64_core.mpr hb))
theorem fin_of {r U V : UInt64} (hr : val64 r ≠ .nan) (hU : DFin U) (hV : DFin V) (h1 : Zv U ≤ Zv r) (h2 : Zv r ≤ Zv V) : DFin r := by
  have uU := hU.zval_lt
  have uV := hV.zval_lt
  have aU : (Zv U).natAbs = zmag b64 (val64 U) := natAbs_signed _ _
  have aV : (Zv V).natAbs = zmag b64 (val64 V) := natAbs_signed _ _
  have ar : (Zv r).natAbs = zmag b64 (val64 r) := natAbs_signed _ _
  cases e : val64 r with
  | nan => exact absurd e hr
  | fin s c q => exact ⟨s, c, q, e⟩
  | inf s =>
    have e2 : zmag b64 (val64 r) = b64.tails * 2 ^ (b64.exps - 2) := by rw [e]; rfl
    rw [e2] at ar
    generalize b64.tails * 2 ^ (b64.exps - 2) = top at *
    omega
theorem dmul_le {a b V : UInt64} (ha : DFin a) (hb : DFin b) (hV : val64 V ≠ .nan) (h : Zv a * Zv b ≤ Zv V * (one64 : Int)) : Zv (FP.dmul a b) ≤ Zv V := by
  obtain ⟨s, c, q, ea⟩ := ha
  obtain ⟨t, d, r, eb⟩ := hb
  have fa := val64_fits a
  have fb := val64_fits b
  unfold Zv at h ⊢
  rw [ea] at fa h
  rw [eb] at fb h
  obtain ⟨p1, p2, p3⟩ := product_units fa fb
  rw [val64_dmul, ea, eb, p1]
  have hq := qmin_neg good_b64
  refine zval_round_le good_b64 (val64_fits V) hV (e0 := 2 * b64.qmin) (by omega) p2 ?_
  rw [p3, signed_xor, show (b64.qmin - 2 * b64.qmin).toNat = (-b64.qmin).toNat by omega, pow_qmin64]
  exact h
theorem dmul_ge {a b V : UInt64} (ha : DFin a) (hb : DFin b) (hV : val64 V ≠ .nan) (h : Zv V * (one64 : Int) ≤ Zv a * Zv b) : Zv V ≤ Zv (FP.dmul a b) := by
  obtain ⟨s, c, q, ea⟩ := ha
  obtain ⟨t, d, r, eb⟩ := hb
  have fa := val64_fits a
  have fb := val64_fits b
  unfold Zv at h ⊢
  rw [ea] at fa h
  rw [eb] at fb h
  obtain ⟨p1, p2, p3⟩ := product_units fa fb
  rw [val64_dmul, ea, eb, p1]
  have hq := qmin_neg good_b64
  refine zval_round_ge good_b64 (val64_fits V) hV (e0 := 2 * b64.qmin) (by omega) p2 ?_
  rw [p3, signed_xor, show (b64.qmin - 2 * b64.qmin).toNat = (-b64.qmin).toNat by omega, pow_qmin64]
  exact h
theorem dadd_le {a b V : UInt64} (ha : DFin a) (hb : DFin b) (hV : val64 V ≠ .nan) (h : Zv a + Zv b ≤ Zv V) : Zv (FP.dadd a b) ≤ Zv V := by
  unfold Zv at h ⊢
  rw [val64_dadd]; exact sum_le good_b64 ha hb (val64_fits a) (val64_fits b) (val64_fits V) hV h
theorem dadd_ge {a b V : UInt64} (ha : DFin a) (hb : DFin b) (hV : val64 V ≠ .nan) (h : Zv V ≤ Zv a + Zv b) : Zv V ≤ Zv (FP.dadd a b) := by
  unfold Zv at h ⊢
  rw [val64_dadd]; exact sum_ge good_b64 ha hb (val64_fits a) (val64_fits b) (val64_fits V) hV h
theorem neg_fin {a : UInt64} (h : DFin a) : DFin (FP.dneg a) := by
  obtain ⟨s, c, q, h⟩ := h
  exact ⟨!s, c, q, by rw [FP.val64_dneg, h]; rfl⟩
theorem Zv_neg (a : UInt64) : Zv (FP.dneg a) = -Zv a := by unfold Zv; rw [FP.val64_dneg, zval_negate]
theorem cneg_fin {a : UInt64} (h : DFin a) : DFin (Core.dneg a) := by
  obtain ⟨s, c, q, h⟩ := h
  exact ⟨!s, c, q, by rw [Core.val64_dneg, h]; rfl⟩
theorem Zv_cneg (a : UInt64) : Zv (Core.dneg a) = -Zv a := by unfold Zv; rw [Core.val64_dneg, zval_negate]
theorem dsub_le {a b V : UInt64} (ha : DFin a) (hb : DFin b) (hV : val64 V ≠ .nan) (h : Zv a - Zv b ≤ Zv V) : Zv (FP.dsub a b) ≤ Zv V := by
  show Zv (Core.dsub a b) ≤ _
  rw [Core.dsub_eq]; exact dadd_le ha (cneg_fin hb) hV (by rw [Zv_cneg]; omega)
theorem dsub_ge {a b V : UInt64} (ha : DFin a) (hb : DFin b) (hV : val64 V ≠ .nan) (h : Zv V ≤ Zv a - Zv b) : Zv V ≤ Zv (FP.dsub a b) := by
  show _ ≤ Zv (Core.dsub a b)
  rw [Core.dsub_eq]; exact dadd_ge ha (cneg_fin hb) hV (by rw [Zv_cneg]; omega)
/-- where the exact value is a double's, it is the result's -/
theorem dmul_eq {a b V : UInt64} (ha : DFin a) (hb : DFin b) (hV : DFin V) (h : Zv a * Zv b = Zv V * (one64 : Int)) : DFin (FP.dmul a b) ∧ Zv (FP.dmul a b) = Zv V := by
  have h1 := dmul_le ha hb (fin_ne hV) (Int.le_of_eq h)
  have h2 := dmul_ge ha hb (fin_ne hV) (Int.le_of_eq h.symm)
  exact ⟨fin_of (mul_ne ha hb) hV hV h2 h1, Int.le_antisymm h1 h2⟩
theorem dadd_eq {a b V : UInt64} (ha : DFin a) (hb : DFin b) (hV : DFin V) (h : Zv a + Zv b = Zv V) : DFin (FP.dadd a b) ∧ Zv (FP.dadd a b) = Zv V := by
  have h1 := dadd_le ha hb (fin_ne hV) (Int.le_of_eq h)
  have h2 := dadd_ge ha hb (fin_ne hV) (Int.le_of_eq h.symm)
  exact ⟨fin_of (add_ne ha hb) hV hV h2 h1, Int.le_antisymm h1 h2⟩
theorem dsub_eq {a b V : UInt64} (ha : DFin a) (hb : DFin b) (hV : DFin V) (h : Zv a - Zv b = Zv V) : DFin (FP.dsub a b) ∧ Zv (FP.dsub a b) = Zv V := by
  have h1 := dsub_le ha hb (fin_ne hV) (Int.le_of_eq h)
  have h2 := dsub_ge ha hb (fin_ne hV) (Int.le_of_eq h.symm)
  exact ⟨fin_of (sub_ne ha hb) hV hV h2 h1, Int.le_antisymm h1 h2⟩
theorem signed_self (N : Int) (k : Nat) : signed (decide (N < 0)) (N.natAbs * k) = N * (k : Int) := by
  rw [signed_mul]
  congr 1
  unfold signed
  by_cases h : N < 0 <;> simp [h] <;> omega
/-- every N * 2^k units, N of up to 53 digits, is a double -/
theorem rep (N : Int) (k : Nat) (hN : N.natAbs < 2 ^ 53) (hk : k ≤ 2045) : ∃ V, DFin V ∧ Zv V = N * ((2 ^ k : Nat) : Int) := by
  have q1 := qmin_b64
  have q2 : b64.qmax = 971 := by decide
  obtain ⟨c', q', h1, h2⟩ := round_exact good_b64 (decide (N < 0)) (c := N.natAbs) (q := (k : Int) - 1074) hN (by omega) (by omega)
  have hv : val64 (of64 (round b64 (.fin (decide (N < 0)) N.natAbs ((k : Int) - 1074)))) = .fin (decide (N < 0)) c' q' := by
    rw [val64_of64 (round_fits good_b64 _), h1]
  refine ⟨_, ⟨_, _, _, hv⟩, ?_⟩
  unfold Zv
  rw [hv]
  show signed (decide (N < 0)) (inUnits c' q' b64.qmin) = _
  rw [h2, q1]
  unfold inUnits
  rw [show ((k : Int) - 1074 - -1074).toNat = k by omega]
  exact signed_self N _
/-- the double a is N * 2^(k - 1074) -/
def Val (a : UInt64) (N : Int) (k : Nat) : Prop := DFin a ∧ Zv a = N * ((2 ^ k : Nat) : Int)
theorem one_pow : (one64 : Int) = ((2 ^ 1074 : Nat) : Int) := rfl
theorem Val.of_int {i : Int} {a : UInt64} (h : DInt i a) : Val a i 1074 := by
  refine ⟨?_, (DInt_zval h).trans (by rw [one_pow])⟩
  unfold DInt at h
  cases e : val64 a with
  | nan => rw [e] at h; exact h.elim
  | inf s => rw [e] at h; exact h.elim
  | fin s c q => exact ⟨s, c, q, e⟩
theorem Val.i2d (n : Int32) : Val (FP.i2d n) n.toInt 1074 := Val.of_int (i2d_int n)
theorem Val.l2d {n : Int64} (h : n.toInt.natAbs ≤ 2 ^ 53) : Val (FP.l2d n) n.toInt 1074 := Val.of_int (l2d_int h)
theorem Val.neg {a : UInt64} {N : Int} {k : Nat} (h : Val a N k) : Val (FP.dneg a) (-N) k := ⟨neg_fin h.1, by rw [Zv_neg, h.2, Int.neg_mul]⟩
theorem pow_cast (k j : Nat) : ((2 ^ (k + j) : Nat) : Int) = ((2 ^ k : Nat) : Int) * ((2 ^ j : Nat) : Int) := by
  rw [Nat.pow_add, Int.natCast_mul]
theorem Val.mul {a b : UInt64} {N M : Int} {k j i : Nat} (ha : Val a N k) (hb : Val b M j) (hN : (N * M).natAbs < 2 ^ 53) (hi : k + j = i + 1074) (hk : i ≤ 2045) : Val (FP.dmul a b) (N * M) i := by
  obtain ⟨V, fV, zV⟩ := rep (N * M) i hN hk
  obtain ⟨h1, h2⟩ := dmul_eq ha.1 hb.1 fV (by
    rw [ha.2, hb.2, zV, one_pow, Int.mul_assoc (N * M), ← pow_cast, ← hi, pow_cast, Int.mul_assoc N M, Int.mul_assoc N, Int.mul_left_comm _ M])
  exact ⟨h1, h2.trans zV⟩
theorem Val.add {a b : UInt64} {N M : Int} {k : Nat} (ha : Val a N k) (hb : Val b M k) (hN : (N + M).natAbs < 2 ^ 53) (hk : k ≤ 2045) : Val (FP.dadd a b) (N + M) k := by
  obtain ⟨V, fV, zV⟩ := rep (N + M) k hN hk
  obtain ⟨h1, h2⟩ := dadd_eq ha.1 hb.1 fV (by rw [ha.2, hb.2, zV, Int.add_mul])
  exact ⟨h1, h2.trans zV⟩
theorem Val.sub {a b : UInt64} {N M : Int} {k : Nat} (ha : Val a N k) (hb : Val b M k) (hN : (N - M).natAbs < 2 ^ 53) (hk : k ≤ 2045) : Val (FP.dsub a b) (N - M) k := by
  obtain ⟨V, fV, zV⟩ := rep (N - M) k hN hk
  obtain ⟨h1, h2⟩ := dsub_eq ha.1 hb.1 fV (by rw [ha.2, hb.2, zV, Int.sub_mul])
  exact ⟨h1, h2.trans zV⟩
theorem pow_pos' (k : Nat) : (0 : Int) < ((2 ^ k : Nat) : Int) := by have := Nat.two_pow_pos k; omega
theorem Val.cmp {a b : UInt64} {N M : Int} {k : Nat} (ha : Val a N k) (hb : Val b M k) : FP.dcmp a b = some (compare N M) := by
  have h : FP.dcmp a b = some (compare (Zv a) (Zv b)) := dcmp_zval (fin_ne ha.1) (fin_ne hb.1)
  rw [h, ha.2, hb.2, compare_mul_pos _ _ _ (pow_pos' k)]
theorem Val.scale {a : UInt64} {N : Int} {k : Nat} (j : Nat) (ha : Val a N (k + j)) : Val a (N * ((2 ^ j : Nat) : Int)) k :=
  ⟨ha.1, by rw [ha.2, pow_cast, Int.mul_assoc, Int.mul_comm ((2 ^ k : Nat) : Int)]⟩
theorem lt_iff {a b : UInt64} (ha : DFin a) (hb : DFin b) : FP.dcmp a b = some .lt ↔ Zv a < Zv b :=
  ⟨fun h => (dcmp_lt.mp h).2.2, fun h => dcmp_lt.mpr ⟨fin_ne ha, fin_ne hb, h⟩⟩
theorem eq_iff {a b : UInt64} (ha : DFin a) (hb : DFin b) : FP.dcmp a b = some .eq ↔ Zv a = Zv b :=
  ⟨fun h => (dcmp_eq.mp h).2.2, fun h => dcmp_eq.mpr ⟨fin_ne ha, fin_ne hb, h⟩⟩
theorem le_iff {a b : UInt64} (ha : DFin a) (hb : DFin b) : (FP.dcmp a b = some .lt ∨ FP.dcmp a b = some .eq) ↔ Zv a ≤ Zv b := by
  rw [lt_iff ha hb, eq_iff ha hb]; omega
theorem dfin_const {a : UInt64} (h : a.toNat % 9223372036854775808 < 9218868437227405312) : DFin a := (Core.fin_bits a).mpr h
end Jvm.OwnFP
namespace Jvm.OwnFP
open Jvm.FP Jvm.FP.Core
theorem ratio_units {s t : Bool} {c d : Nat} {q r : Int} (fa : Core.fits b64 (.fin s c q)) (fb : Core.fits b64 (.fin t d r)) :
    2 * b64.qmin - r ≤ b64.qmin ∧ 2 * b64.qmin - r ≤ q - r ∧ inUnits c (q - r) (2 * b64.qmin - r) = zmag b64 (.fin s c q) * one64 ∧
    ∀ m : Nat, m * 2 ^ (b64.qmin - (2 * b64.qmin - r)).toNat * d = m * zmag b64 (.fin t d r) := by
  have h1 : b64.qmin ≤ q := fa.2.1
  have h2 : b64.qmin ≤ r := fb.2.1
  have hq := qmin_neg good_b64
  refine ⟨by omega, by omega, ?_, fun m => ?_⟩
  · show c * 2 ^ (q - r - (2 * b64.qmin - r)).toNat = c * 2 ^ (q - b64.qmin).toNat * one64
    rw [← pow_qmin64, Nat.mul_assoc, ← Nat.pow_add]
    congr 2; omega
  · show m * 2 ^ (b64.qmin - (2 * b64.qmin - r)).toNat * d = m * (d * 2 ^ (r - b64.qmin).toNat)
    rw [show (b64.qmin - (2 * b64.qmin - r)).toNat = (r - b64.qmin).toNat by omega, Nat.mul_assoc, Nat.mul_comm d]
theorem div_form {a b : UInt64} (hb : 0 < Zv b) {s t : Bool} {c d : Nat} {q r : Int} (ea : val64 a = .fin s c q) (eb : val64 b = .fin t d r) :
    0 < d ∧ t = false ∧ val64 (FP.ddiv a b) = roundRatio b64 s c d (q - r) := by
  have hd : d ≠ 0 := by
    intro hd
    unfold Zv at hb
    rw [eb, hd] at hb
    have : zval b64 (.fin t 0 r) = 0 := by
      show signed t (0 * _) = 0
      rw [Nat.zero_mul]; exact signed_zero t
    omega
  have ht : t = false := by
    cases t with
    | false => rfl
    | true =>
      exfalso
      unfold Zv at hb
      rw [eb] at hb
      have : zval b64 (.fin true d r) = -((zmag b64 (.fin true d r) : Nat) : Int) := rfl
      omega
  subst ht
  refine ⟨by omega, rfl, ?_⟩
  rw [val64_ddiv, ea, eb]
  show (if d = 0 then _ else roundRatio b64 (s != false) c d (q - r)) = _
  rw [if_neg hd]
  cases s <;> rfl
theorem zsgn {s : Bool} {c : Nat} {q : Int} : zval b64 (.fin s c q) = signed s (zmag b64 (.fin s c q)) := rfl
theorem zval_rr (s : Bool) (A B : Nat) (e : Int) : zval b64 (roundRatio b64 s A B e) = signed s (zmag b64 (roundRatio b64 s A B e)) := by
  unfold zval; rw [sgn_roundRatio]
theorem zmag_of (V : UInt64) : (0 ≤ Zv V → ((zmag b64 (val64 V) : Nat) : Int) = Zv V) ∧ (Zv V ≤ 0 → ((zmag b64 (val64 V) : Nat) : Int) = -Zv V) := by
  have h : Zv V = signed (sgn (val64 V)) (zmag b64 (val64 V)) := rfl
  cases hs : sgn (val64 V) <;> rw [hs] at h <;> simp only [signed, if_true, Bool.false_eq_true, if_false] at h <;> omega
theorem ddiv_le {a b V : UInt64} (ha : DFin a) (hb : DFin b) (hb0 : 0 < Zv b) (hV : val64 V ≠ .nan) (h : Zv a * (one64 : Int) ≤ Zv V * Zv b) : Zv (FP.ddiv a b) ≤ Zv V := by
  obtain ⟨s, c, q, ea⟩ := ha
  obtain ⟨t, d, r, eb⟩ := hb
  obtain ⟨hd, rfl, e⟩ := div_form hb0 ea eb
  have fa := val64_fits a
  have fb := val64_fits b
  rw [ea] at fa
  rw [eb] at fb
  obtain ⟨u1, u2, u3, u4⟩ := ratio_units fa fb
  obtain ⟨v1, v2⟩ := zmag_of V
  have za : Zv a = signed s (zmag b64 (.fin s c q)) := by unfold Zv; rw [ea]; rfl
  have zb : Zv b = ((zmag b64 (.fin false d r) : Nat) : Int) := by unfold Zv; rw [eb]; rfl
  rw [zb] at h hb0
  rw [za] at h
  show zval b64 (val64 (FP.ddiv a b)) ≤ Zv V
  rw [e, zval_rr]
  have op := one64_pos
  cases s with
  | false =>
    simp only [signed, Bool.false_eq_true, if_false] at h ⊢
    have hV0 : 0 ≤ Zv V := Int.not_lt.mp fun hn => by
      have : Zv V * ((zmag b64 (.fin false d r) : Nat) : Int) < 0 := Int.mul_neg_of_neg_of_pos hn hb0
      have : (0 : Int) ≤ ((zmag b64 (.fin false c q) : Nat) : Int) * (one64 : Int) := Int.mul_nonneg (by omega) (by omega)
      omega
    have := zmag_roundRatio_le good_b64 (s := false) (A := c) (B := d) (e := q - r) hd (val64_fits V) hV u1 u2 (by
      rw [u3, u4]
      rw [← v1 hV0] at h
      exact Int.ofNat_le.mp (by rw [Int.natCast_mul, Int.natCast_mul]; exact h))
    have := v1 hV0
    omega
  | true =>
    simp only [signed, if_true] at h ⊢
    by_cases hV0 : 0 ≤ Zv V
    · omega
    · have hv := v2 (by omega)
      have := zmag_roundRatio_ge good_b64 (s := true) (A := c) (B := d) (e := q - r) hd (val64_fits V) u1 u2 (by
        rw [u3, u4]
        refine Int.ofNat_le.mp ?_
        rw [Int.natCast_mul, Int.natCast_mul, hv, Int.neg_mul]
        rw [Int.neg_mul] at h
        omega)
      omega
theorem neg_ddiv (a b : UInt64) : Zv (FP.ddiv (Core.dneg a) b) = -Zv (FP.ddiv a b) := by
  show Zv (Core.ddiv (Core.dneg a) b) = _
  rw [Core.ddiv_dneg, Zv_cneg]
theorem ddiv_ge {a b V : UInt64} (ha : DFin a) (hb : DFin b) (hb0 : 0 < Zv b) (hV : val64 V ≠ .nan) (h : Zv V * Zv b ≤ Zv a * (one64 : Int)) : Zv V ≤ Zv (FP.ddiv a b) := by
  have := ddiv_le (a := Core.dneg a) (b := b) (V := Core.dneg V) (cneg_fin ha) hb hb0 (by rw [Core.val64_dneg]; exact negate_ne_nan hV) (by rw [Zv_cneg, Zv_cneg, Int.neg_mul, Int.neg_mul]; omega)
  rw [neg_ddiv, Zv_cneg] at this
  omega
theorem div_ne {a b : UInt64} (ha : DFin a) (hb : DFin b) (hb0 : 0 < Zv b) : val64 (FP.ddiv a b) ≠ .nan := by
  obtain ⟨s, c, q, ea⟩ := ha
  obtain ⟨t, d, r, eb⟩ := hb
  obtain ⟨hd, rfl, e⟩ := div_form hb0 ea eb
  rw [e]; exact roundRatio_ne_nan _ _ _ _ _
theorem ddiv_eq {a b V : UInt64} (ha : DFin a) (hb : DFin b) (hb0 : 0 < Zv b) (hV : DFin V) (h : Zv a * (one64 : Int) = Zv V * Zv b) : DFin (FP.ddiv a b) ∧ Zv (FP.ddiv a b) = Zv V := by
  have h1 := ddiv_le ha hb hb0 (fin_ne hV) (Int.le_of_eq h)
  have h2 := ddiv_ge ha hb hb0 (fin_ne hV) (Int.le_of_eq h.symm)
  exact ⟨fin_of (div_ne ha hb hb0) hV hV h2 h1, Int.le_antisymm h1 h2⟩
/-- a quotient by a power of two -/
theorem Val.div2 {a b : UInt64} {N : Int} {k i : Nat} (ha : Val a N k) (hb : Val b 1 i) (hN : N.natAbs < 2 ^ 53) {j : Nat} (hi : k + 1074 = j + i) (hj : j ≤ 2045) : Val (FP.ddiv a b) N j := by
  obtain ⟨V, fV, zV⟩ := rep N j hN hj
  have hb0 : 0 < Zv b := by rw [hb.2, Int.one_mul]; exact pow_pos' i
  obtain ⟨h1, h2⟩ := ddiv_eq ha.1 hb.1 hb0 fV (by rw [ha.2, hb.2, zV, one_pow, Int.one_mul, Int.mul_assoc, Int.mul_assoc, ← pow_cast, ← pow_cast, hi])
  exact ⟨h1, h2.trans zV⟩
end Jvm.OwnFP
namespace Jvm.Pilot.@@N@@
open Jvm Jvm.ClassFile Sem Op Lib Jvm.Free Jvm.Stand Jvm.LawKit Jvm.RoadKit Bundle Jvm.Pilot.@@N@@.Jvm.D
abbrev Go (p : Program) (e : Env) (below : List Frame) (t T : State) (m : MethodId) (pc : Nat) (ls : Array Slot) (st : List Value) : Prop := Steps p.tables e below (T.setTop (mkF m pc ls st)) t
/-- from A the run comes to B -/
def Goes (p : Program) (e : Env) (below : List Frame) (A B : State) : Prop := ∀ t, Steps p.tables e below B t → Steps p.tables e below A t
abbrev dLt (x y : UInt64) : Prop := FP.dcmp x y = some .lt
abbrev dEq (x y : UInt64) : Prop := FP.dcmp x y = some .eq
abbrev dLe (x y : UInt64) : Prop := FP.dcmp x y = some .lt ∨ FP.dcmp x y = some .eq
abbrev fLt (x y : UInt32) : Prop := FP.fcmp x y = some .lt
abbrev fEq (x y : UInt32) : Prop := FP.fcmp x y = some .eq
abbrev fLe (x y : UInt32) : Prop := FP.fcmp x y = some .lt ∨ FP.fcmp x y = some .eq
theorem Sta.keepO {Z : State} {h h' : Heap} {C n d : String} {v : Value} {ws : List Addr} (F : Sta Z h C n d v) (K : Keep h h' ws) (q : ∀ x ∈ ws, ∀ cell : Cell, h[x]? = some cell → cell.vm.isStatics = false) : Sta Z h' C n d v := by
  obtain ⟨cf, i, k, f, st, cell, h1, h2, h3, h4, h5, h6, h7⟩ := F
  refine ⟨cf, i, k, f, st, cell, h1, h2, h3, h4, K.2.1 _ _ h5 fun hm => ?_, h6, h7⟩
  rw [q _ hm _ h5] at h6; cases h6
theorem own_swap (o : Option Ordering) : o.map Ordering.swap = some .lt ↔ o = some .gt := by rcases o with _ | (_ | _ | _) <;> simp [Ordering.swap]
theorem own_swapE (o : Option Ordering) : o.map Ordering.swap = some .eq ↔ o = some .eq := by rcases o with _ | (_ | _ | _) <;> simp [Ordering.swap]
theorem own_dgt (x y : UInt64) : dLt y x ↔ FP.dcmp x y = some .gt := by
  show FP.Core.dcmp y x = some .lt ↔ FP.Core.dcmp x y = some .gt
  rw [FP.Core.dcmp_swap x y]; exact own_swap _
theorem own_dge (x y : UInt64) : dLe y x ↔ (FP.dcmp x y = some .gt ∨ FP.dcmp x y = some .eq) := by
  show (FP.Core.dcmp y x = some .lt ∨ FP.Core.dcmp y x = some .eq) ↔ (FP.Core.dcmp x y = some .gt ∨ FP.Core.dcmp x y = some .eq)
  rw [FP.Core.dcmp_swap x y, own_swap, own_swapE]
theorem own_fgt (x y : UInt32) : fLt y x ↔ FP.fcmp x y = some .gt := by
  show FP.Core.fcmp y x = some .lt ↔ FP.Core.fcmp x y = some .gt
  rw [FP.Core.fcmp_swap x y]; exact own_swap _
theorem own_fge (x y : UInt32) : fLe y x ↔ (FP.fcmp x y = some .gt ∨ FP.fcmp x y = some .eq) := by
  show (FP.Core.fcmp y x = some .lt ∨ FP.Core.fcmp y x = some .eq) ↔ (FP.Core.fcmp x y = some .gt ∨ FP.Core.fcmp x y = some .eq)
  rw [FP.Core.fcmp_swap x y, own_swap, own_swapE]
theorem own_c (o : Option Ordering) :
    (o = some .lt → ifCond.holds .ge (cmpValue o .g) = false ∧ ifCond.holds .lt (cmpValue o .g) = true) ∧
    (¬ o = some .lt → ifCond.holds .ge (cmpValue o .g) = true ∧ ifCond.holds .lt (cmpValue o .g) = false) ∧
    ((o = some .lt ∨ o = some .eq) → ifCond.holds .gt (cmpValue o .g) = false ∧ ifCond.holds .le (cmpValue o .g) = true) ∧
    (¬ (o = some .lt ∨ o = some .eq) → ifCond.holds .gt (cmpValue o .g) = true ∧ ifCond.holds .le (cmpValue o .g) = false) ∧
    (o = some .gt → ifCond.holds .le (cmpValue o .l) = false ∧ ifCond.holds .gt (cmpValue o .l) = true) ∧
    (¬ o = some .gt → ifCond.holds .le (cmpValue o .l) = true ∧ ifCond.holds .gt (cmpValue o .l) = false) ∧
    ((o = some .gt ∨ o = some .eq) → ifCond.holds .lt (cmpValue o .l) = false ∧ ifCond.holds .ge (cmpValue o .l) = true) ∧
    (¬ (o = some .gt ∨ o = some .eq) → ifCond.holds .lt (cmpValue o .l) = true ∧ ifCond.holds .ge (cmpValue o .l) = false) ∧
    (o = some .eq → ∀ q, ifCond.holds .ne (cmpValue o q) = false ∧ ifCond.holds .eq (cmpValue o q) = true) ∧
    (¬ o = some .eq → ∀ q, ifCond.holds .ne (cmpValue o q) = true ∧ ifCond.holds .eq (cmpValue o q) = false) := by
  refine ⟨?_, ?_, ?_, ?_, ?_, ?_, ?_, ?_, ?_, ?_⟩ <;> rcases o with _ | (_ | _ | _) <;> first | (intro h; exact ⟨by decide, by decide⟩) | (intro h q; cases q <;> exact ⟨by decide, by decide⟩) | (intro h; simp at h; done) | (intro h; exact absurd rfl h) | (intro h; exact absurd (Or.inl rfl) h) | (intro h; exact absurd (Or.inr rfl) h)
theorem dc_g_ge_f {x y : UInt64} (h : dLt x y) : ifCond.holds .ge (cmpValue (FP.dcmp x y) .g) = false := ((own_c _).1 h).1
theorem dc_g_ge_t {x y : UInt64} (h : ¬ dLt x y) : ifCond.holds .ge (cmpValue (FP.dcmp x y) .g) = true := ((own_c _).2.1 h).1
theorem dc_g_lt_t {x y : UInt64} (h : dLt x y) : ifCond.holds .lt (cmpValue (FP.dcmp x y) .g) = true := ((own_c _).1 h).2
theorem dc_g_lt_f {x y : UInt64} (h : ¬ dLt x y) : ifCond.holds .lt (cmpValue (FP.dcmp x y) .g) = false := ((own_c _).2.1 h).2
theorem dc_g_gt_f {x y : UInt64} (h : dLe x y) : ifCond.holds .gt (cmpValue (FP.dcmp x y) .g) = false := ((own_c _).2.2.1 h).1
theorem dc_g_gt_t {x y : UInt64} (h : ¬ dLe x y) : ifCond.holds .gt (cmpValue (FP.dcmp x y) .g) = true := ((own_c _).2.2.2.1 h).1
theorem dc_g_le_t {x y : UInt64} (h : dLe x y) : ifCond.holds .le (cmpValue (FP.dcmp x y) .g) = true := ((own_c _).2.2.1 h).2
theorem dc_g_le_f {x y : UInt64} (h : ¬ dLe x y) : ifCond.holds .le (cmpValue (FP.dcmp x y) .g) = false := ((own_c _).2.2.2.1 h).2
theorem dc_l_le_f {x y : UInt64} (h : dLt y x) : ifCond.holds .le (cmpValue (FP.dcmp x y) .l) = false := ((own_c _).2.2.2.2.1 ((own_dgt x y).mp h)).1
theorem dc_l_le_t {x y : UInt64} (h : ¬ dLt y x) : ifCond.holds .le (cmpValue (FP.dcmp x y) .l) = true := ((own_c _).2.2.2.2.2.1 (fun q => h ((own_dgt x y).mpr q))).1
theorem dc_l_gt_t {x y : UInt64} (h : dLt y x) : ifCond.holds .gt (cmpValue (FP.dcmp x y) .l) = true := ((own_c _).2.2.2.2.1 ((own_dgt x y).mp h)).2
theorem dc_l_gt_f {x y : UInt64} (h : ¬ dLt y x) : ifCond.holds .gt (cmpValue (FP.dcmp x y) .l) = false := ((own_c _).2.2.2.2.2.1 (fun q => h ((own_dgt x y).mpr q))).2
theorem dc_l_lt_f {x y : UInt64} (h : dLe y x) : ifCond.holds .lt (cmpValue (FP.dcmp x y) .l) = false := ((own_c _).2.2.2.2.2.2.1 ((own_dge x y).mp h)).1
theorem dc_l_lt_t {x y : UInt64} (h : ¬ dLe y x) : ifCond.holds .lt (cmpValue (FP.dcmp x y) .l) = true := ((own_c _).2.2.2.2.2.2.2.1 (fun q => h ((own_dge x y).mpr q))).1
theorem dc_l_ge_t {x y : UInt64} (h : dLe y x) : ifCond.holds .ge (cmpValue (FP.dcmp x y) .l) = true := ((own_c _).2.2.2.2.2.2.1 ((own_dge x y).mp h)).2
theorem dc_l_ge_f {x y : UInt64} (h : ¬ dLe y x) : ifCond.holds .ge (cmpValue (FP.dcmp x y) .l) = false := ((own_c _).2.2.2.2.2.2.2.1 (fun q => h ((own_dge x y).mpr q))).2
theorem dc_l_ne_f {x y : UInt64} (h : dEq x y) : ifCond.holds .ne (cmpValue (FP.dcmp x y) .l) = false := ((own_c _).2.2.2.2.2.2.2.2.1 h _).1
theorem dc_l_ne_t {x y : UInt64} (h : ¬ dEq x y) : ifCond.holds .ne (cmpValue (FP.dcmp x y) .l) = true := ((own_c _).2.2.2.2.2.2.2.2.2 h _).1
theorem dc_l_eq_t {x y : UInt64} (h : dEq x y) : ifCond.holds .eq (cmpValue (FP.dcmp x y) .l) = true := ((own_c _).2.2.2.2.2.2.2.2.1 h _).2
theorem dc_l_eq_f {x y : UInt64} (h : ¬ dEq x y) : ifCond.holds .eq (cmpValue (FP.dcmp x y) .l) = false := ((own_c _).2.2.2.2.2.2.2.2.2 h _).2
theorem dc_g_ne_f {x y : UInt64} (h : dEq x y) : ifCond.holds .ne (cmpValue (FP.dcmp x y) .g) = false := ((own_c _).2.2.2.2.2.2.2.2.1 h _).1
theorem dc_g_ne_t {x y : UInt64} (h : ¬ dEq x y) : ifCond.holds .ne (cmpValue (FP.dcmp x y) .g) = true := ((own_c _).2.2.2.2.2.2.2.2.2 h _).1
theorem dc_g_eq_t {x y : UInt64} (h : dEq x y) : ifCond.holds .eq (cmpValue (FP.dcmp x y) .g) = true := ((own_c _).2.2.2.2.2.2.2.2.1 h _).2
theorem dc_g_eq_f {x y : UInt64} (h : ¬ dEq x y) : ifCond.holds .eq (cmpValue (FP.dcmp x y) .g) = false := ((own_c _).2.2.2.2.2.2.2.2.2 h _).2
theorem fc_g_ge_f {x y : UInt32} (h : fLt x y) : ifCond.holds .ge (cmpValue (FP.fcmp x y) .g) = false := ((own_c _).1 h).1
theorem fc_g_ge_t {x y : UInt32} (h : ¬ fLt x y) : ifCond.holds .ge (cmpValue (FP.fcmp x y) .g) = true := ((own_c _).2.1 h).1
theorem fc_g_lt_t {x y : UInt32} (h : fLt x y) : ifCond.holds .lt (cmpValue (FP.fcmp x y) .g) = true := ((own_c _).1 h).2
theorem fc_g_lt_f {x y : UInt32} (h : ¬ fLt x y) : ifCond.holds .lt (cmpValue (FP.fcmp x y) .g) = false := ((own_c _).2.1 h).2
theorem fc_g_gt_f {x y : UInt32} (h : fLe x y) : ifCond.holds .gt (cmpValue (FP.fcmp x y) .g) = false := ((own_c _).2.2.1 h).1
theorem fc_g_gt_t {x y : UInt32} (h : ¬ fLe x y) : ifCond.holds .gt (cmpValue (FP.fcmp x y) .g) = true := ((own_c _).2.2.2.1 h).1
theorem fc_g_le_t {x y : UInt32} (h : fLe x y) : ifCond.holds .le (cmpValue (FP.fcmp x y) .g) = true := ((own_c _).2.2.1 h).2
theorem fc_g_le_f {x y : UInt32} (h : ¬ fLe x y) : ifCond.holds .le (cmpValue (FP.fcmp x y) .g) = false := ((own_c _).2.2.2.1 h).2
theorem fc_l_le_f {x y : UInt32} (h : fLt y x) : ifCond.holds .le (cmpValue (FP.fcmp x y) .l) = false := ((own_c _).2.2.2.2.1 ((own_fgt x y).mp h)).1
theorem fc_l_le_t {x y : UInt32} (h : ¬ fLt y x) : ifCond.holds .le (cmpValue (FP.fcmp x y) .l) = true := ((own_c _).2.2.2.2.2.1 (fun q => h ((own_fgt x y).mpr q))).1
theorem fc_l_gt_t {x y : UInt32} (h : fLt y x) : ifCond.holds .gt (cmpValue (FP.fcmp x y) .l) = true := ((own_c _).2.2.2.2.1 ((own_fgt x y).mp h)).2
theorem fc_l_gt_f {x y : UInt32} (h : ¬ fLt y x) : ifCond.holds .gt (cmpValue (FP.fcmp x y) .l) = false := ((own_c _).2.2.2.2.2.1 (fun q => h ((own_fgt x y).mpr q))).2
theorem fc_l_lt_f {x y : UInt32} (h : fLe y x) : ifCond.holds .lt (cmpValue (FP.fcmp x y) .l) = false := ((own_c _).2.2.2.2.2.2.1 ((own_fge x y).mp h)).1
theorem fc_l_lt_t {x y : UInt32} (h : ¬ fLe y x) : ifCond.holds .lt (cmpValue (FP.fcmp x y) .l) = true := ((own_c _).2.2.2.2.2.2.2.1 (fun q => h ((own_fge x y).mpr q))).1
theorem fc_l_ge_t {x y : UInt32} (h : fLe y x) : ifCond.holds .ge (cmpValue (FP.fcmp x y) .l) = true := ((own_c _).2.2.2.2.2.2.1 ((own_fge x y).mp h)).2
theorem fc_l_ge_f {x y : UInt32} (h : ¬ fLe y x) : ifCond.holds .ge (cmpValue (FP.fcmp x y) .l) = false := ((own_c _).2.2.2.2.2.2.2.1 (fun q => h ((own_fge x y).mpr q))).2
theorem fc_l_ne_f {x y : UInt32} (h : fEq x y) : ifCond.holds .ne (cmpValue (FP.fcmp x y) .l) = false := ((own_c _).2.2.2.2.2.2.2.2.1 h _).1
theorem fc_l_ne_t {x y : UInt32} (h : ¬ fEq x y) : ifCond.holds .ne (cmpValue (FP.fcmp x y) .l) = true := ((own_c _).2.2.2.2.2.2.2.2.2 h _).1
theorem fc_l_eq_t {x y : UInt32} (h : fEq x y) : ifCond.holds .eq (cmpValue (FP.fcmp x y) .l) = true := ((own_c _).2.2.2.2.2.2.2.2.1 h _).2
theorem fc_l_eq_f {x y : UInt32} (h : ¬ fEq x y) : ifCond.holds .eq (cmpValue (FP.fcmp x y) .l) = false := ((own_c _).2.2.2.2.2.2.2.2.2 h _).2
theorem fc_g_ne_f {x y : UInt32} (h : fEq x y) : ifCond.holds .ne (cmpValue (FP.fcmp x y) .g) = false := ((own_c _).2.2.2.2.2.2.2.2.1 h _).1
theorem fc_g_ne_t {x y : UInt32} (h : ¬ fEq x y) : ifCond.holds .ne (cmpValue (FP.fcmp x y) .g) = true := ((own_c _).2.2.2.2.2.2.2.2.2 h _).1
theorem fc_g_eq_t {x y : UInt32} (h : fEq x y) : ifCond.holds .eq (cmpValue (FP.fcmp x y) .g) = true := ((own_c _).2.2.2.2.2.2.2.2.1 h _).2
theorem fc_g_eq_f {x y : UInt32} (h : ¬ fEq x y) : ifCond.holds .eq (cmpValue (FP.fcmp x y) .g) = false := ((own_c _).2.2.2.2.2.2.2.2.2 h _).2
theorem d1_0 : decode jdk_43_method_3_code 0 = .ok (.iload_n 0, 1) := by decide +kernel
theorem d1_1 : decode jdk_43_method_3_code 1 = .ok (.sipush 255, 3) := by decide +kernel
theorem d1_4 : decode jdk_43_method_3_code 4 = .ok (.if_icmp .gt 7, 3) := by decide +kernel
theorem d1_7 : decode jdk_43_method_3_code 7 = .ok (.iconst 1, 1) := by decide +kernel
theorem d1_8 : decode jdk_43_method_3_code 8 = .ok (.goto 4, 3) := by decide +kernel
theorem d1_11 : decode jdk_43_method_3_code 11 = .ok (.iconst 0, 1) := by decide +kernel
theorem d1_12 : decode jdk_43_method_3_code 12 = .ok (.ireturn, 1) := by decide +kernel
theorem pd0 : parseMethodDescriptor "(C)Z" = some ⟨[.char], some .boolean⟩ := by decide +kernel
theorem pf_can : plainFor (⟨"java/lang/StringLatin1", "canEncode", "(C)Z"⟩ : MethodName) = true := by first | exact plainFor_of_name (by first | (simp [plainName, overriddenIn, x]; done) | decide +kernel) | exact Jvm.Free.JP.mathPlain rfl (by decide +kernel) | decide +kernel
theorem ef_can (m : MethodId) (xc : Int32) : entryFrame m #[(.int xc)] 1 = mkF m 0 #[iv xc] [] := by first | (simp [entryFrame, mkF, argsToLocals, Value.category, maxLocals]; done) | rfl
def f_can (xc : Int32) : Int32 := (if (255 : Int32) < xc then (0 : Int32) else (1 : Int32))
def Q_can (Z : State) (xc : Int32)  (h0 : Heap) (n0 : Nat) (v : Option Value) (h : Heap) (L : List Loc) : Prop := v = some (.int (f_can xc)) ∧ Fr n0 L ∧ h = h0
set_option maxRecDepth 65536 in
set_option maxHeartbeats 40000000 in
theorem rm_can (l : Launch) (Z : State) (a0 : Array Value) (hw : ∀ d ∈ tables_1, d.before a0 Z = true) (ws : List Jvm.Cond) (xc : Int32)  (h0 : Heap) (n0 : Nat) (Z0 : n0 ≤ h0.size)   :
    MetFree l (⟨"java/lang/StringLatin1", "canEncode", "(C)Z"⟩ : MethodName) (head1 (Jvm.Cond.code (⟨"java/lang/StringLatin1", "canEncode", "(C)Z"⟩ : MethodName) jdk_43_method_3_code 1 (some .boolean) :: ws) ({ frames := 0, cells := 0, slots := 0, locals := 0 } : Room)) (fun a U => a = #[(.int xc)] ∧ Z.Warmed39 U.vm ∧ U.heap = h0) (fun _ _ _ _ _ => True) (fun _ U o U' => ∃ v L, o = .returned v ∧ Q_can Z xc  h0 n0 v U'.heap L ∧ FrameEnd U o U' L ({ frames := 0, cells := 0, slots := 0, locals := 0 } : Room).cells ({ frames := 0, cells := 0, slots := 0, locals := 0 } : Room).slots) := by
  refine MetFree.of_bodySF pf_can hisR ?_
  intro p e s m args below meth c s₁ Bd hml0 hP hK
  obtain ⟨rfl, hZ, hh⟩ := hP
  have hx := Bd.exec
  have hby := Bd.bytes
  have hml : c.maxLocals = 1 := hml0
  have hown : s.vm.findClass "java/lang/StringLatin1" = some m.cls := findClass_of_methodNamed Bd.named
  have hnm := (name_of_methodNamed Bd.named Bd.method).1
  have X0 : Stand p l e ({ frames := 0, cells := 0, slots := 0, locals := 0 } : Room) s m #[(.int xc)] below meth c s₁ [] 0 0 := Stand.of_body Bd
  have e0 : s₁.heap = h0 := by rw [← hh, Bd.state]; rfl
  have N0 := Fr.nil n0
  obtain ⟨S0, hS0⟩ : ∃ z, z = s₁.setTop (entryFrame m #[(.int xc)] 1) := ⟨_, rfl⟩
  rw [← hS0]
  have g0 : Goes p e below S0 (s₁.setTop (mkF m 0 #[iv xc] [])) := fun t k => by rw [hS0]; exact castTop (ef_can m xc) k
  have g1 : Goes p e below S0 (s₁.setTop (mkF m 4 #[iv xc] [(.int (255 : Int32)), (.int xc)])) := fun t k => g0 t (by
    refine XS.iloadN X0.here hx rfl (hb hby d1_0) rfl ?_
    show Go p e below t s₁ m 1 #[iv xc] [(.int xc)]
    refine XT.sipushV X0.here hx rfl (255 : Int32) (hb hby d1_1) (by decide) ?_
    show Go p e below t s₁ m 4 #[iv xc] [(.int (255 : Int32)), (.int xc)]
    exact k)
  by_cases h2 : (255 : Int32) < xc
  · skip
    have g3 : Goes p e below S0 (s₁.setTop (mkF m 12 #[iv xc] [(.int (0 : Int32))])) := fun t k => g1 t (by
      refine XS.icmpYes X0.here hx rfl (pc0 := 4) (pc' := 11) rfl (hb hby d1_4) rfl (XT.ii_gt_t h2) (by decide) (by decide) ?_
      show Go p e below t s₁ m 11 #[iv xc] []
      refine XT.iconstV X0.here hx rfl (0 : Int32) (hb hby d1_11) (by decide) ?_
      show Go p e below t s₁ m 12 #[iv xc] [(.int (0 : Int32))]
      exact k)
    obtain ⟨fs, hr, hrun, hended, hW, hsame⟩ := X0.leave (v := some (.int (0 : Int32))) (fun h => by rw [Bd.returns] at h; cases h)
    refine ⟨_, _, g3 _ (retN X0 hx (t := .boolean) Bd.returns (by simp) (hb hby d1_12) hr), hrun, hended, _, _, rfl, ?_, ⟨_, rfl⟩, hW, hsame.mono (by decide) (by decide)⟩
    show Q_can Z xc  h0 n0 _ s₁.heap _
    rw [e0]
    exact ⟨by unfold f_can; rw [if_pos h2], N0, rfl⟩
  · skip
    have g4 : Goes p e below S0 (s₁.setTop (mkF m 12 #[iv xc] [(.int (1 : Int32))])) := fun t k => g1 t (by
      refine XS.icmpNo X0.here hx rfl (hb hby d1_4) rfl (XT.ii_gt_f h2) ?_
      show Go p e below t s₁ m 7 #[iv xc] []
      refine XT.iconstV X0.here hx rfl (1 : Int32) (hb hby d1_7) (by decide) ?_
      show Go p e below t s₁ m 8 #[iv xc] [(.int (1 : Int32))]
      refine XS.goto X0.here hx rfl (pc0 := 8) (pc' := 12) rfl (hb hby d1_8) (by decide) (by decide) ?_
      show Go p e below t s₁ m 12 #[iv xc] [(.int (1 : Int32))]
      exact k)
    obtain ⟨fs, hr, hrun, hended, hW, hsame⟩ := X0.leave (v := some (.int (1 : Int32))) (fun h => by rw [Bd.returns] at h; cases h)
    refine ⟨_, _, g4 _ (retN X0 hx (t := .boolean) Bd.returns (by simp) (hb hby d1_12) hr), hrun, hended, _, _, rfl, ?_, ⟨_, rfl⟩, hW, hsame.mono (by decide) (by decide)⟩
    show Q_can Z xc  h0 n0 _ s₁.heap _
    rw [e0]
    exact ⟨by unfold f_can; rw [if_neg h2], N0, rfl⟩
open Jvm.OwnFP
def own_den (d : Int32) : Int32 := (d &&& (65535 : Int32)) + (1 : Int32)
def own_num (k d : Int32) : Int32 := (k &&& (2147483647 : Int32)) % (own_den d + (1 : Int32))
theorem own_denb (d : Int32) : 1 ≤ (own_den d).toInt ∧ (own_den d).toInt ≤ 65536 := by
  unfold own_den
  have h := c_and d 65535 (by decide)
  have h2 := c_iadd (d &&& 65535) 1
  have h3 := rng32 ((d &&& 65535) + 1)
  have h4 : (1 : Int32).toInt = 1 := by decide
  have h5 : (65535 : Int32).toInt = 65535 := by decide
  omega
theorem own_den1 (d : Int32) : (own_den d + (1 : Int32)).toInt = (own_den d).toInt + 1 := by
  have h := own_denb d
  have h2 := c_iadd (own_den d) 1
  have h3 := rng32 (own_den d + 1)
  have h4 : (1 : Int32).toInt = 1 := by decide
  omega
theorem own_nz (d : Int32) : own_den d + (1 : Int32) ≠ 0 := fun q => by
  have h := own_den1 d
  have h1 := own_denb d
  rw [q] at h
  have : (0 : Int32).toInt = 0 := by decide
  omega
theorem own_numb (k d : Int32) : 0 ≤ (own_num k d).toInt ∧ (own_num k d).toInt ≤ (own_den d).toInt := by
  have h := c_and k 2147483647 (by decide)
  have h1 := own_den1 d
  have h2 := own_denb d
  have h3 := (c_irem (k &&& 2147483647) (own_den d + 1) ((own_den d).toInt + 1) h1).1 h.1
  have h4 := Int.emod_nonneg (k &&& 2147483647).toInt (show (own_den d).toInt + 1 ≠ 0 by omega)
  have h5 := Int.emod_lt_of_pos (k &&& 2147483647).toInt (show 0 < (own_den d).toInt + 1 by omega)
  have e : (own_num k d).toInt = (k &&& 2147483647).toInt % ((own_den d).toInt + 1) := h3
  rw [e]; omega
theorem own_zd (d : Int32) : 0 < Zv (FP.i2d (own_den d)) := by
  rw [(Val.i2d (own_den d)).2]
  exact Int.mul_pos (by have := own_denb d; omega) (pow_pos' _)
theorem own_nnd (k d : Int32) : Jvm.Free.Fl.NoNaN64 (FP.ddiv (FP.i2d (own_num k d)) (FP.i2d (own_den d))) :=
  Jvm.Free.Fl.val64_no.mpr (div_ne (Val.i2d _).1 (Val.i2d _).1 (own_zd d))
theorem own_q0 (k d : Int32) : dLe (0 : UInt64) (FP.ddiv (FP.i2d (own_num k d)) (FP.i2d (own_den d))) := by
  have f0 : FP.Core.DFin (0 : UInt64) := dfin_const (by decide)
  have f1 : FP.Core.DFin (4607182418800017408 : UInt64) := dfin_const (by decide)
  have z0 : Zv (0 : UInt64) = 0 := by decide +kernel
  have z1 : Zv (4607182418800017408 : UInt64) = (FP.Core.one64 : Int) := by decide +kernel
  have hn := own_numb k d
  have h1 : Zv (0 : UInt64) ≤ Zv (FP.ddiv (FP.i2d (own_num k d)) (FP.i2d (own_den d))) := by
    refine ddiv_ge (Val.i2d _).1 (Val.i2d _).1 (own_zd d) (fin_ne f0) ?_
    rw [z0, Int.zero_mul, (Val.i2d (own_num k d)).2]
    exact Int.mul_nonneg (Int.mul_nonneg hn.1 (Int.le_of_lt (pow_pos' _))) (by rw [one_pow]; exact Int.le_of_lt (pow_pos' _))
  have h2 : Zv (FP.ddiv (FP.i2d (own_num k d)) (FP.i2d (own_den d))) ≤ Zv (4607182418800017408 : UInt64) := by
    refine ddiv_le (Val.i2d _).1 (Val.i2d _).1 (own_zd d) (fin_ne f1) ?_
    rw [z1, (Val.i2d (own_num k d)).2, (Val.i2d (own_den d)).2, Int.mul_comm (FP.Core.one64 : Int)]
    exact Int.mul_le_mul_of_nonneg_right (Int.mul_le_mul_of_nonneg_right hn.2 (Int.le_of_lt (pow_pos' _))) (by rw [one_pow]; exact Int.le_of_lt (pow_pos' _))
  have fr := fin_of (div_ne (Val.i2d _).1 (Val.i2d _).1 (own_zd d)) f0 f1 h1 h2
  exact (le_iff f0 fr).mpr h1
theorem own_q1 (k d : Int32) : dLe (FP.ddiv (FP.i2d (own_num k d)) (FP.i2d (own_den d))) (4607182418800017408 : UInt64) := by
  have f0 : FP.Core.DFin (0 : UInt64) := dfin_const (by decide)
  have f1 : FP.Core.DFin (4607182418800017408 : UInt64) := dfin_const (by decide)
  have z1 : Zv (4607182418800017408 : UInt64) = (FP.Core.one64 : Int) := by decide +kernel
  have hn := own_numb k d
  have h1 : Zv (0 : UInt64) ≤ Zv (FP.ddiv (FP.i2d (own_num k d)) (FP.i2d (own_den d))) := by
    have q := own_q0 k d
    rcases q with q | q
    · exact Int.le_of_lt (FP.Core.dcmp_lt.mp q).2.2
    · exact Int.le_of_eq (FP.Core.dcmp_eq.mp q).2.2
  have h2 : Zv (FP.ddiv (FP.i2d (own_num k d)) (FP.i2d (own_den d))) ≤ Zv (4607182418800017408 : UInt64) := by
    refine ddiv_le (Val.i2d _).1 (Val.i2d _).1 (own_zd d) (fin_ne f1) ?_
    rw [z1, (Val.i2d (own_num k d)).2, (Val.i2d (own_den d)).2, Int.mul_comm (FP.Core.one64 : Int)]
    exact Int.mul_le_mul_of_nonneg_right (Int.mul_le_mul_of_nonneg_right hn.2 (Int.le_of_lt (pow_pos' _))) (by rw [one_pow]; exact Int.le_of_lt (pow_pos' _))
  have fr := fin_of (div_ne (Val.i2d _).1 (Val.i2d _).1 (own_zd d)) f0 f1 h1 h2
  exact (le_iff fr f1).mpr h2
theorem own_ch (x : Int32) : ¬ ((255 : Int32) < nar .char ((x &&& (255 : Int32)).toUInt32.toUInt16.toUInt32.toInt32)) := by
  rw [show nar .char ((x &&& (255 : Int32)).toUInt32.toUInt16.toUInt32.toInt32) = x &&& 255 by
    rw [i2c_mask]; exact i2c_mask x]
  have h := c_and x 255 (by decide)
  rw [Int32.lt_iff_toInt_lt]; omega
theorem own_can {c : Int32} (h : ¬ ((255 : Int32) < c)) : ¬ (f_can c) = 0 := by
  unfold f_can; rw [if_neg h]; decide
theorem own_notz {s : State} {args : Array Value} {t : Term} {k : Int32} (ev : t.eval args s none [] s = some (.int k)) (h : (Jvm.Cond.not (Jvm.Cond.eq t (.int 0))).value args s none s [] = some true) : ¬ k = 0 := by
  have e2 : (Term.int 0).eval args s none [] s = some (.int 0) := rfl
  simp only [Jvm.Cond.value, ev, e2] at h
  simpa using h

theorem d2_0 : decode jdk_43_method_46_code 0 = .ok (.iconst 1, 1) := by decide +kernel
theorem d2_1 : decode jdk_43_method_46_code 1 = .ok (.newarray .byte, 2) := by decide +kernel
theorem d2_3 : decode jdk_43_method_46_code 3 = .ok (.dup, 1) := by decide +kernel
theorem d2_4 : decode jdk_43_method_46_code 4 = .ok (.iconst 0, 1) := by decide +kernel
theorem d2_5 : decode jdk_43_method_46_code 5 = .ok (.iload_n 0, 1) := by decide +kernel
theorem d2_6 : decode jdk_43_method_46_code 6 = .ok (.i2b, 1) := by decide +kernel
theorem d2_7 : decode jdk_43_method_46_code 7 = .ok (.bastore, 1) := by decide +kernel
theorem d2_8 : decode jdk_43_method_46_code 8 = .ok (.areturn, 1) := by decide +kernel
theorem pd1 : parseMethodDescriptor "(C)[B" = some ⟨[.char], some (.array .byte)⟩ := by decide +kernel
theorem pf_tob : plainFor (⟨"java/lang/StringLatin1", "toBytes", "(C)[B"⟩ : MethodName) = true := by first | exact plainFor_of_name (by first | (simp [plainName, overriddenIn, x]; done) | decide +kernel) | exact Jvm.Free.JP.mathPlain rfl (by decide +kernel) | decide +kernel
theorem ef_tob (m : MethodId) (xc : Int32) : entryFrame m #[(.int xc)] 1 = mkF m 0 #[iv xc] [] := by first | (simp [entryFrame, mkF, argsToLocals, Value.category, maxLocals]; done) | rfl
def Q_tob (Z : State) (xc : Int32)  (h0 : Heap) (n0 : Nat) (v : Option Value) (h : Heap) (L : List Loc) : Prop := ∃ (tb : Addr) (tk : ClassId), v = some (.ref tb) ∧ Fr n0 L ∧ (Keep h0 h []) ∧ (h0.size ≤ tb) ∧ (Arv Z h tb tk .byte (1 : Int32) [(.int (((xc).toInt8.toInt32).toInt8.toInt32))] (.int (0 : Int32)))
set_option maxRecDepth 65536 in
set_option maxHeartbeats 40000000 in
theorem rm_tob (l : Launch) (Z : State) (a0 : Array Value) (hw : ∀ d ∈ tables_1, d.before a0 Z = true) (ws : List Jvm.Cond) (xc : Int32)  (h0 : Heap) (n0 : Nat) (Z0 : n0 ≤ h0.size)   :
    MetFree l (⟨"java/lang/StringLatin1", "toBytes", "(C)[B"⟩ : MethodName) (head1 (Jvm.Cond.code (⟨"java/lang/StringLatin1", "toBytes", "(C)[B"⟩ : MethodName) jdk_43_method_46_code 1 (some (.array .byte)) :: ws) ({ frames := 0, cells := 1, slots := 1, locals := 0 } : Room)) (fun a U => a = #[(.int xc)] ∧ Z.Warmed39 U.vm ∧ U.heap = h0) (fun _ _ _ _ _ => True) (fun _ U o U' => ∃ v L, o = .returned v ∧ Q_tob Z xc  h0 n0 v U'.heap L ∧ FrameEnd U o U' L ({ frames := 0, cells := 1, slots := 1, locals := 0 } : Room).cells ({ frames := 0, cells := 1, slots := 1, locals := 0 } : Room).slots) := by
  refine MetFree.of_bodySF pf_tob hisR ?_
  intro p e s m args below meth c s₁ Bd hml0 hP hK
  obtain ⟨rfl, hZ, hh⟩ := hP
  have hx := Bd.exec
  have hby := Bd.bytes
  have hml : c.maxLocals = 1 := hml0
  have hown : s.vm.findClass "java/lang/StringLatin1" = some m.cls := findClass_of_methodNamed Bd.named
  have hnm := (name_of_methodNamed Bd.named Bd.method).1
  have X0 : Stand p l e ({ frames := 0, cells := 1, slots := 1, locals := 0 } : Room) s m #[(.int xc)] below meth c s₁ [] 0 0 := Stand.of_body Bd
  have e0 : s₁.heap = h0 := by rw [← hh, Bd.state]; rfl
  have N0 := Fr.nil n0
  obtain ⟨S0, hS0⟩ : ∃ z, z = s₁.setTop (entryFrame m #[(.int xc)] 1) := ⟨_, rfl⟩
  rw [← hS0]
  have g0 : Goes p e below S0 (s₁.setTop (mkF m 0 #[iv xc] [])) := fun t k => by rw [hS0]; exact castTop (ef_tob m xc) k
  have g5 : Goes p e below S0 (s₁.setTop (mkF m 1 #[iv xc] [(.int (1 : Int32))])) := fun t k => g0 t (by
    refine XT.iconstV X0.here hx rfl (1 : Int32) (hb hby d2_0) (by decide) ?_
    show Go p e below t s₁ m 1 #[iv xc] [(.int (1 : Int32))]
    exact k)
  obtain ⟨T6, h6, k6, X6, e6, E6, A6, st6⟩ := newP X0 hx hZ (hw _ (List.mem_of_getElem? (i := 18) rfl)) e0 (g := (mkF m 1 #[iv xc] [(.int (1 : Int32))])) rfl (hb hby d2_1) rfl (by decide) (cap := 1) (by decide) (by decide) (by decide) (by decide)
  obtain ⟨b6, gb6⟩ : ∃ z, z = h0.size := ⟨_, rfl⟩
  have sz6 : h0.size ≤ b6 := Nat.le_trans (Nat.le_refl _) (Nat.le_of_eq gb6.symm)
  have ng6 : n0 ≤ b6 := Nat.le_trans Z0 sz6
  rw [← gb6] at A6 st6
  have V6 : Arv Z h6 b6 k6 .byte (1 : Int32) [(.int (0 : Int32))] (.int (0 : Int32)) := (Arv.new A6 (by decide)).pad (pad_rep [] (.int (0 : Int32)) 1)
  have g7 : Goes p e below S0 (T6.setTop (mkF m 3 #[iv xc] [(.ref b6)])) := fun t k => g5 t (st6 t k)
  have g8 : Goes p e below S0 (T6.setTop (mkF m 7 #[iv xc] [(.int ((xc).toInt8.toInt32)), (.int (0 : Int32)), (.ref b6), (.ref b6)])) := fun t k => g7 t (by
    refine XS.dup X6.here hx rfl (hb hby d2_3) rfl rfl ?_
    show Go p e below t T6 m 4 #[iv xc] [(.ref b6), (.ref b6)]
    refine XT.iconstV X6.here hx rfl (0 : Int32) (hb hby d2_4) (by decide) ?_
    show Go p e below t T6 m 5 #[iv xc] [(.int (0 : Int32)), (.ref b6), (.ref b6)]
    refine XS.iloadN X6.here hx rfl (hb hby d2_5) rfl ?_
    show Go p e below t T6 m 6 #[iv xc] [(.int xc), (.int (0 : Int32)), (.ref b6), (.ref b6)]
    refine XS.i2b X6.here hx rfl (hb hby d2_6) rfl ?_
    show Go p e below t T6 m 7 #[iv xc] [(.int ((xc).toInt8.toInt32)), (.int (0 : Int32)), (.ref b6), (.ref b6)]
    exact k)
  obtain ⟨cl9, Ar9, q9, S9, M9, H9, G9⟩ := id V6
  obtain ⟨T10, h10, X10, e10, W10, st10⟩ := stB X6 hx hZ e6 Ar9 (j := (0 : Int32)) (inb_of S9 ⟨by decide, by decide⟩) (g := (mkF m 7 #[iv xc] [(.int ((xc).toInt8.toInt32)), (.int (0 : Int32)), (.ref b6), (.ref b6)])) rfl rfl (hb hby d2_7)
  have N10 := Fr.snoc X10 N0 ng6
  have V10 : Arv Z h10 b6 k6 .byte (1 : Int32) [(.int ((((xc).toInt8.toInt32)).toInt8.toInt32))] (.int (0 : Int32)) := Arv.set Ar9 q9 S9 M9 H9 G9 (fits_nar_byte _) W10 0 rfl (Nat.le_of_ble_eq_true rfl)
  have g11 : Goes p e below S0 (T10.setTop (mkF m 8 #[iv xc] [(.ref b6)])) := fun t k => g8 t (st10 t k)
  obtain ⟨fs, hr, hrun, hended, hW, hsame⟩ := X10.leave (v := some (.ref b6)) (fun h => by rw [Bd.returns] at h; cases h)
  refine ⟨_, _, g11 _ (retOut X10 hx Bd.returns rfl (Or.inr (Or.inr (Or.inr (Or.inr ⟨rfl, rfl, rfl⟩)))) (hb hby d2_8) hr), hrun, hended, _, _, rfl, ?_, ⟨_, rfl⟩, hW, hsame.mono (by decide) (by decide)⟩
  show Q_tob Z xc  h0 n0 _ T10.heap _
  rw [e10]
  exact ⟨b6, k6, rfl, N10, (((Keep.refl h0 []).ext E6).wr W10 (Or.inr sz6)), sz6, V10⟩
theorem d3_0 : decode jdk_42_method_151_code 0 = .ok (.aload_n 0, 1) := by decide +kernel
theorem d3_1 : decode jdk_42_method_151_code 1 = .ok (.invokespecial 1, 3) := by decide +kernel
theorem d3_4 : decode jdk_42_method_151_code 4 = .ok (.aload_n 0, 1) := by decide +kernel
theorem d3_5 : decode jdk_42_method_151_code 5 = .ok (.aload_n 1, 1) := by decide +kernel
theorem d3_6 : decode jdk_42_method_151_code 6 = .ok (.putfield 9, 3) := by decide +kernel
theorem d3_9 : decode jdk_42_method_151_code 9 = .ok (.aload_n 0, 1) := by decide +kernel
theorem d3_10 : decode jdk_42_method_151_code 10 = .ok (.iload_n 2, 1) := by decide +kernel
theorem d3_11 : decode jdk_42_method_151_code 11 = .ok (.putfield 15, 3) := by decide +kernel
theorem d3_14 : decode jdk_42_method_151_code 14 = .ok (.return_, 1) := by decide +kernel
theorem pd2 : parseMethodDescriptor "([BB)V" = some ⟨[(.array .byte), .byte], none⟩ := by decide +kernel
theorem pf_sbi : plainFor (⟨"java/lang/String", "<init>", "([BB)V"⟩ : MethodName) = true := by first | exact plainFor_of_name (by first | (simp [plainName, overriddenIn, x]; done) | decide +kernel) | exact Jvm.Free.JP.mathPlain rfl (by decide +kernel) | decide +kernel
theorem ef_sbi (m : MethodId) (sa : Addr) (sb : Addr) (sc : Int32) : entryFrame m #[(.ref sa), (.ref sb), (.int sc)] 3 = mkF m 0 #[rv sa, rv sb, iv sc] [] := by first | (simp [entryFrame, mkF, argsToLocals, Value.category, maxLocals]; done) | rfl
def Q_sbi (Z : State) (sa : Addr) (sb : Addr) (sc : Int32)  (h0 : Heap) (n0 : Nat) (v : Option Value) (h : Heap) (L : List Loc) : Prop := v = none ∧ Fr n0 L ∧ (Keep h0 h [sa])
set_option maxRecDepth 65536 in
set_option maxHeartbeats 40000000 in
theorem rm_sbi (l : Launch) (Z : State) (a0 : Array Value) (hw : ∀ d ∈ tables_1, d.before a0 Z = true) (ws : List Jvm.Cond) (sa : Addr) (sb : Addr) (sc : Int32)  (h0 : Heap) (n0 : Nat) (Z0 : n0 ≤ h0.size) (P0 : Exa Z h0 sa "java/lang/String") (P1 : Fld Z h0 sa "java/lang/String" "value" "[B" .null) (P2 : Fld Z h0 sa "java/lang/String" "coder" "B" (.int (0 : Int32))) (P3 : n0 ≤ sa)  :
    MetFree l (⟨"java/lang/String", "<init>", "([BB)V"⟩ : MethodName) (head1 (Jvm.Cond.code (⟨"java/lang/String", "<init>", "([BB)V"⟩ : MethodName) jdk_42_method_151_code 3 none :: ws) ({ frames := 1, cells := 0, slots := 0, locals := 12 } : Room)) (fun a U => a = #[(.ref sa), (.ref sb), (.int sc)] ∧ Z.Warmed39 U.vm ∧ U.heap = h0) (fun _ _ _ _ _ => True) (fun _ U o U' => ∃ v L, o = .returned v ∧ Q_sbi Z sa sb sc  h0 n0 v U'.heap L ∧ FrameEnd U o U' L ({ frames := 1, cells := 0, slots := 0, locals := 12 } : Room).cells ({ frames := 1, cells := 0, slots := 0, locals := 12 } : Room).slots) := by
  refine MetFree.of_bodySF pf_sbi hisR ?_
  intro p e s m args below meth c s₁ Bd hml0 hP hK
  obtain ⟨rfl, hZ, hh⟩ := hP
  have hx := Bd.exec
  have hby := Bd.bytes
  have hml : c.maxLocals = 3 := hml0
  have hown : s.vm.findClass "java/lang/String" = some m.cls := findClass_of_methodNamed Bd.named
  have hnm := (name_of_methodNamed Bd.named Bd.method).1
  have X0 : Stand p l e ({ frames := 1, cells := 0, slots := 0, locals := 12 } : Room) s m #[(.ref sa), (.ref sb), (.int sc)] below meth c s₁ [] 0 0 := Stand.of_body Bd
  have e0 : s₁.heap = h0 := by rw [← hh, Bd.state]; rfl
  have N0 := Fr.nil n0
  obtain ⟨S0, hS0⟩ : ∃ z, z = s₁.setTop (entryFrame m #[(.ref sa), (.ref sb), (.int sc)] 3) := ⟨_, rfl⟩
  rw [← hS0]
  have g0 : Goes p e below S0 (s₁.setTop (mkF m 0 #[rv sa, rv sb, iv sc] [])) := fun t k => by rw [hS0]; exact castTop (ef_sbi m sa sb sc) k
  have g12 : Goes p e below S0 (s₁.setTop (mkF m 1 #[rv sa, rv sb, iv sc] [(.ref sa)])) := fun t k => g0 t (by
    refine XS.aloadN X0.here hx rfl (hb hby d3_0) rfl rfl ?_
    show Go p e below t s₁ m 1 #[rv sa, rv sb, iv sc] [(.ref sa)]
    exact k)
  obtain ⟨T13, X13, e13, st13⟩ := initO X0 hx hZ hown (hw _ (List.mem_of_getElem? (i := 23) rfl)) (hw _ (List.mem_of_getElem? (i := 24) rfl)) (hw _ (List.mem_of_getElem? (i := 25) rfl)) e0 (g := (mkF m 1 #[rv sa, rv sb, iv sc] [(.ref sa)])) rfl (by rw [hml]; rfl) rfl (hb hby d3_1) (by decide) (W := 0) (by show 2 * 0 + _ ≤ _; exact Nat.le_of_eq rfl) (by decide)
  have g14 : Goes p e below S0 (T13.setTop (mkF m 4 #[rv sa, rv sb, iv sc] [])) := fun t k => g12 t (st13 t k)
  have g15 : Goes p e below S0 (T13.setTop (mkF m 6 #[rv sa, rv sb, iv sc] [(.ref sb), (.ref sa)])) := fun t k => g14 t (by
    refine XS.aloadN X13.here hx rfl (hb hby d3_4) rfl rfl ?_
    show Go p e below t T13 m 5 #[rv sa, rv sb, iv sc] [(.ref sa)]
    refine XS.aloadN X13.here hx rfl (hb hby d3_5) rfl rfl ?_
    show Go p e below t T13 m 6 #[rv sa, rv sb, iv sc] [(.ref sb), (.ref sa)]
    exact k)
  obtain ⟨T16, h16, X16, e16, W16, st16⟩ := putF X13 hx hZ hown (host := "") (Or.inl (hw _ (List.mem_of_getElem? (i := 26) rfl))) Via.refl e13 P1 P0 (Or.inr ⟨(hw _ (List.mem_of_getElem? (i := 27) rfl)), rfl, hnm⟩) (hw _ (List.mem_of_getElem? (i := 14) rfl)) (ty := (.array .byte)) (by decide) rfl rfl (g := (mkF m 6 #[rv sa, rv sb, iv sc] [(.ref sb), (.ref sa)])) rfl rfl (hb hby d3_6)
  have N16 := Fr.snoc X16 N0 P3
  have Fw16 := Fld.same W16 P1
  have g17 : Goes p e below S0 (T16.setTop (mkF m 9 #[rv sa, rv sb, iv sc] [])) := fun t k => g15 t (st16 t k)
  have g18 : Goes p e below S0 (T16.setTop (mkF m 11 #[rv sa, rv sb, iv sc] [(.int sc), (.ref sa)])) := fun t k => g17 t (by
    refine XS.aloadN X16.here hx rfl (hb hby d3_9) rfl rfl ?_
    show Go p e below t T16 m 10 #[rv sa, rv sb, iv sc] [(.ref sa)]
    refine XS.iloadN X16.here hx rfl (hb hby d3_10) rfl ?_
    show Go p e below t T16 m 11 #[rv sa, rv sb, iv sc] [(.int sc), (.ref sa)]
    exact k)
  obtain ⟨T19, h19, X19, e19, W19, st19⟩ := putFN X16 hx hZ hown (hw _ (List.mem_of_getElem? (i := 28) rfl)) Via.refl e16 (P2.other W16 (Or.inr (slot_ne (Or.inr (hw _ (List.mem_of_getElem? (i := 29) rfl))) (Or.inr (hw _ (List.mem_of_getElem? (i := 27) rfl))) (by decide) (t := .byte) (t' := (.array .byte)) (by decide) (by decide)))) (P0.wr W16) (Or.inr ⟨(hw _ (List.mem_of_getElem? (i := 29) rfl)), rfl, hnm⟩) (hw _ (List.mem_of_getElem? (i := 14) rfl)) (ty := .byte) (v' := (.int (nar .byte sc))) (by decide) rfl (fits_nar_byte _) (g := (mkF m 11 #[rv sa, rv sb, iv sc] [(.int sc), (.ref sa)])) rfl rfl (hb hby d3_11)
  have N19 := Fr.snoc X19 N16 P3
  have Fw19 := Fld.same W19 (P2.other W16 (Or.inr (slot_ne (Or.inr (hw _ (List.mem_of_getElem? (i := 29) rfl))) (Or.inr (hw _ (List.mem_of_getElem? (i := 27) rfl))) (by decide) (t := .byte) (t' := (.array .byte)) (by decide) (by decide))))
  have g20 : Goes p e below S0 (T19.setTop (mkF m 14 #[rv sa, rv sb, iv sc] [])) := fun t k => g18 t (st19 t k)
  obtain ⟨fs, hr, hrun, hended, hW, hsame⟩ := X19.leave (v := none) (fun _ => rfl)
  refine ⟨_, _, g20 _ (X19.returnOut hx Bd.returns (hb hby d3_14) hr), hrun, hended, _, _, rfl, ?_, ⟨_, rfl⟩, hW, hsame.mono (by decide) (by decide)⟩
  show Q_sbi Z sa sb sc  h0 n0 _ T19.heap _
  rw [e19]
  exact ⟨rfl, N19, (((Keep.refl h0 [sa]).wr W16 (Or.inl (List.mem_of_getElem? (i := 0) rfl))).wr W19 (Or.inl (List.mem_of_getElem? (i := 0) rfl)))⟩
theorem d0_0 : decode jdk_42_method_139_code 0 = .ok (.getstatic 38, 3) := by decide +kernel
theorem d0_3 : decode jdk_42_method_139_code 3 = .ok (.ifCond .eq 23, 3) := by decide +kernel
theorem d0_6 : decode jdk_42_method_139_code 6 = .ok (.iload_n 0, 1) := by decide +kernel
theorem d0_7 : decode jdk_42_method_139_code 7 = .ok (.invokestatic 1015, 3) := by decide +kernel
theorem d0_10 : decode jdk_42_method_139_code 10 = .ok (.ifCond .eq 16, 3) := by decide +kernel
theorem d0_13 : decode jdk_42_method_139_code 13 = .ok (.new 10, 3) := by decide +kernel
theorem d0_16 : decode jdk_42_method_139_code 16 = .ok (.dup, 1) := by decide +kernel
theorem d0_17 : decode jdk_42_method_139_code 17 = .ok (.iload_n 0, 1) := by decide +kernel
theorem d0_18 : decode jdk_42_method_139_code 18 = .ok (.invokestatic 1018, 3) := by decide +kernel
theorem d0_21 : decode jdk_42_method_139_code 21 = .ok (.iconst 0, 1) := by decide +kernel
theorem d0_22 : decode jdk_42_method_139_code 22 = .ok (.invokespecial 209, 3) := by decide +kernel
theorem d0_25 : decode jdk_42_method_139_code 25 = .ok (.areturn, 1) := by decide +kernel
theorem d0_26 : decode jdk_42_method_139_code 26 = .ok (.new 10, 3) := by decide +kernel
theorem d0_29 : decode jdk_42_method_139_code 29 = .ok (.dup, 1) := by decide +kernel
theorem d0_30 : decode jdk_42_method_139_code 30 = .ok (.iload_n 0, 1) := by decide +kernel
theorem d0_31 : decode jdk_42_method_139_code 31 = .ok (.invokestatic 1021, 3) := by decide +kernel
theorem d0_34 : decode jdk_42_method_139_code 34 = .ok (.iconst 1, 1) := by decide +kernel
theorem d0_35 : decode jdk_42_method_139_code 35 = .ok (.invokespecial 209, 3) := by decide +kernel
theorem d0_38 : decode jdk_42_method_139_code 38 = .ok (.areturn, 1) := by decide +kernel
theorem pd3 : parseMethodDescriptor "(C)Ljava/lang/String;" = some ⟨[.char], some (.object "java/lang/String")⟩ := by decide +kernel
theorem pf_vof : plainFor (⟨"java/lang/String", "valueOf", "(C)Ljava/lang/String;"⟩ : MethodName) = true := by first | exact plainFor_of_name (by first | (simp [plainName, overriddenIn, x]; done) | decide +kernel) | exact Jvm.Free.JP.mathPlain rfl (by decide +kernel) | decide +kernel
theorem ef_vof (m : MethodId) (xc : Int32) : entryFrame m #[(.int xc)] 1 = mkF m 0 #[iv xc] [] := by first | (simp [entryFrame, mkF, argsToLocals, Value.category, maxLocals]; done) | rfl
def Q_vof (Z : State) (xc : Int32) (cz : Int32) (h0 : Heap) (n0 : Nat) (v : Option Value) (h : Heap) (L : List Loc) : Prop := ∃ (vr : Addr), v = some (.ref vr) ∧ Fr n0 L ∧ (Keep h0 h [])
set_option maxRecDepth 65536 in
set_option maxHeartbeats 40000000 in
theorem rm_vof (l : Launch) (Z : State) (a0 : Array Value) (hw : ∀ d ∈ tables_1, d.before a0 Z = true) (ws : List Jvm.Cond) (xc : Int32) (cz : Int32) (h0 : Heap) (n0 : Nat) (Z0 : n0 ≤ h0.size) (P0 : Sta Z h0 "java/lang/String" "COMPACT_STRINGS" "Z" (.int cz)) (hz : ¬ cz = 0) (hc : ¬ ((255 : Int32) < xc))  :
    MetFree l (⟨"java/lang/String", "valueOf", "(C)Ljava/lang/String;"⟩ : MethodName) (head1 (Jvm.Cond.code (⟨"java/lang/String", "valueOf", "(C)Ljava/lang/String;"⟩ : MethodName) jdk_42_method_139_code 1 (some (.object "java/lang/String")) :: ws) ({ frames := 2, cells := 2, slots := 5, locals := 40 } : Room)) (fun a U => a = #[(.int xc)] ∧ Z.Warmed39 U.vm ∧ U.heap = h0) (fun _ _ _ _ _ => True) (fun _ U o U' => ∃ v L, o = .returned v ∧ Q_vof Z xc cz h0 n0 v U'.heap L ∧ FrameEnd U o U' L ({ frames := 2, cells := 2, slots := 5, locals := 40 } : Room).cells ({ frames := 2, cells := 2, slots := 5, locals := 40 } : Room).slots) := by
  refine MetFree.of_bodySF pf_vof hisR ?_
  intro p e s m args below meth c s₁ Bd hml0 hP hK
  obtain ⟨rfl, hZ, hh⟩ := hP
  have hx := Bd.exec
  have hby := Bd.bytes
  have hml : c.maxLocals = 1 := hml0
  have hown : s.vm.findClass "java/lang/String" = some m.cls := findClass_of_methodNamed Bd.named
  have hnm := (name_of_methodNamed Bd.named Bd.method).1
  have X0 : Stand p l e ({ frames := 2, cells := 2, slots := 5, locals := 40 } : Room) s m #[(.int xc)] below meth c s₁ [] 0 0 := Stand.of_body Bd
  have e0 : s₁.heap = h0 := by rw [← hh, Bd.state]; rfl
  have N0 := Fr.nil n0
  obtain ⟨S0, hS0⟩ : ∃ z, z = s₁.setTop (entryFrame m #[(.int xc)] 1) := ⟨_, rfl⟩
  rw [← hS0]
  have g0 : Goes p e below S0 (s₁.setTop (mkF m 0 #[iv xc] [])) := fun t k => by rw [hS0]; exact castTop (ef_vof m xc) k
  obtain ⟨T21, X21, e21, st21⟩ := getS (host := "") X0 hx hZ hown (hw _ (List.mem_of_getElem? (i := 8) rfl)) Via.refl e0 P0 (g := (mkF m 0 #[iv xc] [])) rfl (hb hby d0_0)
  have g22 : Goes p e below S0 (T21.setTop (mkF m 3 #[iv xc] [(.int cz)])) := fun t k => g0 t (st21 t k)
  have g23 : Goes p e below S0 (T21.setTop (mkF m 7 #[iv xc] [(.int xc)])) := fun t k => g22 t (by
    refine XS.ifNo X21.here hx rfl (hb hby d0_3) rfl (XT.i0_eq_f hz) ?_
    show Go p e below t T21 m 6 #[iv xc] []
    refine XS.iloadN X21.here hx rfl (hb hby d0_6) rfl ?_
    show Go p e below t T21 m 7 #[iv xc] [(.int xc)]
    exact k)
  obtain ⟨_, _, ⟨T24, L24, k24, n24⟩, -, X24, ⟨Lc24, hQ24, l24, y24, z24⟩, st24⟩ := Jvm.LawKit.callS X21 hx (y := (⟨"java/lang/StringLatin1", "canEncode", "(C)Z"⟩ : MethodName)) hown (mvT hZ (hw _ (List.mem_of_getElem? (i := 9) rfl))) (mvT hZ (hw _ (List.mem_of_getElem? (i := 10) rfl))) (mvT hZ (hw _ (List.mem_of_getElem? (i := 11) rfl))) (mvT hZ (hw _ (List.mem_of_getElem? (i := 12) rfl))) (by decide) (backOf (W := 0) (rm_can l Z a0 hw [] xc  h0 n0 Z0 ) hZ (hw _ (List.mem_of_getElem? (i := 12) rfl)) (hw _ (List.mem_of_getElem? (i := 11) rfl)) (by decide) (by decide)) (g := (mkF m 7 #[iv xc] [(.int xc)])) rfl (by rw [hml]; rfl) (argsL := [(.int xc)]) (rest := []) (lenOf pd0 rfl) rfl (by show 2 * 0 + _ ≤ _; exact Nat.le_of_eq rfl) (hb hby d0_7) (fun _ _ => ⟨rfl, e21, (by decide : 0 + 0 ≤ _), (by decide : 0 + 0 ≤ _)⟩)
  dsimp only [Pt.U, Pt.locs, Pt.cells, Pt.slots] at X24 l24 y24 z24 st24 hQ24
  subst l24 y24 z24
  obtain ⟨rfl, N24, e24⟩ := hQ24
  have M24 := Fr.app N0 N24
  have g25 : Goes p e below S0 (T24.setTop (mkF m 10 #[iv xc] [(.int (f_can xc))])) := fun t k => g23 t (st24 t k)
  have g26 : Goes p e below S0 (T24.setTop (mkF m 13 #[iv xc] [])) := fun t k => g25 t (by
    refine XS.ifNo X24.here hx rfl (hb hby d0_10) rfl (XT.i0_eq_f (own_can hc)) ?_
    show Go p e below t T24 m 13 #[iv xc] []
    exact k)
  obtain ⟨T27, h27, X27, e27, E27, A27, D27, -, st27⟩ := newO X24 hx hZ hown (hw _ (List.mem_of_getElem? (i := 13) rfl)) (hw _ (List.mem_of_getElem? (i := 14) rfl)) (hw _ (List.mem_of_getElem? (i := 6) rfl)) e24 (g := (mkF m 13 #[iv xc] [])) rfl (hb hby d0_13) (by decide) (by decide)
  obtain ⟨b27, gb27⟩ : ∃ z, z = h0.size := ⟨_, rfl⟩
  have sz27 : h0.size ≤ b27 := Nat.le_trans (Nat.le_refl _) (Nat.le_of_eq gb27.symm)
  have ng27 : n0 ≤ b27 := Nat.le_trans Z0 sz27
  rw [← gb27] at A27 D27 st27
  have F27_28 : Fld Z h27 b27 "java/lang/String" "value" "[B" .null := D27 (Or.inr (hw _ (List.mem_of_getElem? (i := 27) rfl))) (ty := (.array .byte)) (by decide)
  have F27_29 : Fld Z h27 b27 "java/lang/String" "coder" "B" (.int (0 : Int32)) := D27 (Or.inr (hw _ (List.mem_of_getElem? (i := 29) rfl))) (ty := .byte) (by decide)
  have g30 : Goes p e below S0 (T27.setTop (mkF m 16 #[iv xc] [(.ref b27)])) := fun t k => g26 t (st27 t k)
  have g31 : Goes p e below S0 (T27.setTop (mkF m 18 #[iv xc] [(.int xc), (.ref b27), (.ref b27)])) := fun t k => g30 t (by
    refine XS.dup X27.here hx rfl (hb hby d0_16) rfl rfl ?_
    show Go p e below t T27 m 17 #[iv xc] [(.ref b27), (.ref b27)]
    refine XS.iloadN X27.here hx rfl (hb hby d0_17) rfl ?_
    show Go p e below t T27 m 18 #[iv xc] [(.int xc), (.ref b27), (.ref b27)]
    exact k)
  obtain ⟨_, _, ⟨T32, L32, k32, n32⟩, -, X32, ⟨Lc32, hQ32, l32, y32, z32⟩, st32⟩ := Jvm.LawKit.callS X27 hx (y := (⟨"java/lang/StringLatin1", "toBytes", "(C)[B"⟩ : MethodName)) hown (mvT hZ (hw _ (List.mem_of_getElem? (i := 15) rfl))) (mvT hZ (hw _ (List.mem_of_getElem? (i := 16) rfl))) (mvT hZ (hw _ (List.mem_of_getElem? (i := 11) rfl))) (mvT hZ (hw _ (List.mem_of_getElem? (i := 17) rfl))) (by decide) (backOf (W := 2) (rm_tob l Z a0 hw [] xc  h27 n0 (Nat.le_trans Z0 (Nat.le_trans (Nat.le_refl _) E27.1)) ) hZ (hw _ (List.mem_of_getElem? (i := 17) rfl)) (hw _ (List.mem_of_getElem? (i := 11) rfl)) (by decide) (by decide)) (g := (mkF m 18 #[iv xc] [(.int xc), (.ref b27), (.ref b27)])) rfl (by rw [hml]; rfl) (argsL := [(.int xc)]) (rest := [(.ref b27), (.ref b27)]) (lenOf pd1 rfl) rfl (by show 2 * 0 + _ ≤ _; exact Nat.le_of_eq rfl) (hb hby d0_18) (fun _ _ => ⟨rfl, e27, (by decide : 1 + 1 ≤ _), (by decide : 4 + 1 ≤ _)⟩)
  dsimp only [Pt.U, Pt.locs, Pt.cells, Pt.slots] at X32 l32 y32 z32 st32 hQ32
  subst l32 y32 z32
  obtain ⟨tb_32, tk_32, rfl, N32, R32_0, R32_1, R32_2⟩ := hQ32
  have M32 := Fr.app M24 N32
  have sz32_1 : h0.size ≤ tb_32 := Nat.le_trans (Nat.le_trans (Nat.le_refl _) E27.1) R32_1
  have ng32_1 : n0 ≤ tb_32 := Nat.le_trans Z0 sz32_1
  have g33 : Goes p e below S0 (T32.setTop (mkF m 21 #[iv xc] [(.ref tb_32), (.ref b27), (.ref b27)])) := fun t k => g31 t (st32 t k)
  have g34 : Goes p e below S0 (T32.setTop (mkF m 22 #[iv xc] [(.int (0 : Int32)), (.ref tb_32), (.ref b27), (.ref b27)])) := fun t k => g33 t (by
    refine XT.iconstV X32.here hx rfl (0 : Int32) (hb hby d0_21) (by decide) ?_
    show Go p e below t T32 m 22 #[iv xc] [(.int (0 : Int32)), (.ref tb_32), (.ref b27), (.ref b27)]
    exact k)
  obtain ⟨_, _, ⟨T35, L35, k35, n35⟩, -, X35, ⟨Lc35, hQ35, l35, y35, z35⟩, st35⟩ := X32.specialBack hx (y := (⟨"java/lang/String", "<init>", "([BB)V"⟩ : MethodName)) rfl hown (mvT hZ (hw _ (List.mem_of_getElem? (i := 19) rfl))) (mvT hZ (hw _ (List.mem_of_getElem? (i := 20) rfl))) (mvT hZ (hw _ (List.mem_of_getElem? (i := 22) rfl))) (by decide) (backOf (W := 1) (rm_sbi l Z a0 hw [] b27 tb_32 (0 : Int32)  T32.heap n0 (Nat.le_trans Z0 (Nat.le_trans (Nat.le_trans (Nat.le_refl _) E27.1) R32_0.1)) (A27.keep R32_0) (F27_28.keep R32_0 nin0) (F27_29.keep R32_0 nin0) ng27) hZ (hw _ (List.mem_of_getElem? (i := 22) rfl)) (hw _ (List.mem_of_getElem? (i := 6) rfl)) (by decide) (by decide)) (g := (mkF m 22 #[iv xc] [(.int (0 : Int32)), (.ref tb_32), (.ref b27), (.ref b27)])) rfl (by rw [hml]; rfl) (Steps.refl _) (a := b27) (argsL := [(.ref tb_32), (.int (0 : Int32))]) (rest := [(.ref b27)]) (lenOf pd2 rfl) rfl (by show 2 * 0 + _ ≤ _; exact Nat.le_of_eq rfl) (hb hby d0_22) (fun _ _ => ⟨rfl, rfl, (by decide : 2 + 0 ≤ _), (by decide : 5 + 0 ≤ _)⟩)
  dsimp only [Pt.U, Pt.locs, Pt.cells, Pt.slots] at X35 l35 y35 z35 st35 hQ35
  subst l35 y35 z35
  obtain ⟨rfl, N35, R35_0⟩ := hQ35
  have M35 := Fr.app M32 N35
  have g36 : Goes p e below S0 (T35.setTop (mkF m 25 #[iv xc] [(.ref b27)])) := fun t k => g34 t (st35.trans k)
  obtain ⟨fs, hr, hrun, hended, hW, hsame⟩ := X35.leave (v := some (.ref b27)) (fun h => by rw [Bd.returns] at h; cases h)
  refine ⟨_, _, g36 _ (retOut X35 hx Bd.returns rfl (Or.inr (Or.inr (Or.inr (Or.inr ⟨rfl, rfl, rfl⟩)))) (hb hby d0_25) hr), hrun, hended, _, _, rfl, ?_, ⟨_, rfl⟩, hW, hsame.mono (by decide) (by decide)⟩
  show Q_vof Z xc cz h0 n0 _ T35.heap _
  exact ⟨b27, rfl, M35, ((((Keep.refl h0 []).ext E27).trans R32_0 all0).trans R35_0 (allS (Or.inr sz27) all0))⟩
theorem d9_0 : decode jdk_52_method_21_code 0 = .ok (.iconst 0, 1) := by decide +kernel
theorem d9_1 : decode jdk_52_method_21_code 1 = .ok (.istore 5, 2) := by decide +kernel
theorem d9_3 : decode jdk_52_method_21_code 3 = .ok (.iload 5, 2) := by decide +kernel
theorem d9_5 : decode jdk_52_method_21_code 5 = .ok (.iload 4, 2) := by decide +kernel
theorem d9_7 : decode jdk_52_method_21_code 7 = .ok (.if_icmp .ge 37, 3) := by decide +kernel
theorem d9_10 : decode jdk_52_method_21_code 10 = .ok (.aload_n 0, 1) := by decide +kernel
theorem d9_11 : decode jdk_52_method_21_code 11 = .ok (.iload_n 1, 1) := by decide +kernel
theorem d9_12 : decode jdk_52_method_21_code 12 = .ok (.caload, 1) := by decide +kernel
theorem d9_13 : decode jdk_52_method_21_code 13 = .ok (.istore 6, 2) := by decide +kernel
theorem d9_15 : decode jdk_52_method_21_code 15 = .ok (.iload 6, 2) := by decide +kernel
theorem d9_17 : decode jdk_52_method_21_code 17 = .ok (.sipush 255, 3) := by decide +kernel
theorem d9_20 : decode jdk_52_method_21_code 20 = .ok (.if_icmp .le 6, 3) := by decide +kernel
theorem d9_23 : decode jdk_52_method_21_code 23 = .ok (.iload 5, 2) := by decide +kernel
theorem d9_25 : decode jdk_52_method_21_code 25 = .ok (.ireturn, 1) := by decide +kernel
theorem d9_26 : decode jdk_52_method_21_code 26 = .ok (.aload_n 2, 1) := by decide +kernel
theorem d9_27 : decode jdk_52_method_21_code 27 = .ok (.iload_n 3, 1) := by decide +kernel
theorem d9_28 : decode jdk_52_method_21_code 28 = .ok (.iload 6, 2) := by decide +kernel
theorem d9_30 : decode jdk_52_method_21_code 30 = .ok (.i2b, 1) := by decide +kernel
theorem d9_31 : decode jdk_52_method_21_code 31 = .ok (.bastore, 1) := by decide +kernel
theorem d9_32 : decode jdk_52_method_21_code 32 = .ok (.iinc 1 1, 3) := by decide +kernel
theorem d9_35 : decode jdk_52_method_21_code 35 = .ok (.iinc 3 1, 3) := by decide +kernel
theorem d9_38 : decode jdk_52_method_21_code 38 = .ok (.iinc 5 1, 3) := by decide +kernel
theorem d9_41 : decode jdk_52_method_21_code 41 = .ok (.goto (-38), 3) := by decide +kernel
theorem d9_44 : decode jdk_52_method_21_code 44 = .ok (.iload 4, 2) := by decide +kernel
theorem d9_46 : decode jdk_52_method_21_code 46 = .ok (.ireturn, 1) := by decide +kernel
theorem pd4 : parseMethodDescriptor "([CI[BII)I" = some ⟨[(.array .char), .int, (.array .byte), .int, .int], some .int⟩ := by decide +kernel
theorem pf_czl : plainFor (⟨"java/lang/StringUTF16", "compress", "([CI[BII)I"⟩ : MethodName) = true := by first | exact plainFor_of_name (by first | (simp [plainName, overriddenIn, x]; done) | decide +kernel) | exact Jvm.Free.JP.mathPlain rfl (by decide +kernel) | decide +kernel
theorem ef_czl (m : MethodId) (ca : Addr) (xo : Int32) (ba : Addr) (yo : Int32) (xl : Int32) : entryFrame m #[(.ref ca), (.int xo), (.ref ba), (.int yo), (.int xl)] 7 = mkF m 0 #[rv ca, iv xo, rv ba, iv yo, iv xl, .unset, .unset] [] := by first | (simp [entryFrame, mkF, argsToLocals, Value.category, maxLocals]; done) | rfl
def Q_czl (Z : State) (ca : Addr) (xo : Int32) (ba : Addr) (yo : Int32) (xl : Int32) (kc : ClassId) (kb : ClassId) (v0 : Int32) (v1 : Int32) (h0 : Heap) (n0 : Nat) (v : Option Value) (h : Heap) (L : List Loc) : Prop := v = some (.int (2 : Int32)) ∧ Fr n0 L ∧ (Keep h0 h [ba]) ∧ (Arv Z h ba kb .byte (2 : Int32) [(.int (((v0).toInt8.toInt32).toInt8.toInt32)), (.int (((v1).toInt8.toInt32).toInt8.toInt32))] (.int (0 : Int32)))
set_option maxRecDepth 65536 in
set_option maxHeartbeats 40000000 in
theorem rm_czl (l : Launch) (Z : State) (a0 : Array Value) (hw : ∀ d ∈ tables_1, d.before a0 Z = true) (ws : List Jvm.Cond) (ca : Addr) (xo : Int32) (ba : Addr) (yo : Int32) (xl : Int32) (kc : ClassId) (kb : ClassId) (v0 : Int32) (v1 : Int32) (h0 : Heap) (n0 : Nat) (Z0 : n0 ≤ h0.size) (P0 : Arv Z h0 ca kc .char (2 : Int32) [(.int v0), (.int v1)] (.int (0 : Int32))) (P1 : Arv Z h0 ba kb .byte (2 : Int32) [(.int (0 : Int32)), (.int (0 : Int32))] (.int (0 : Int32))) (P2 : n0 ≤ ba) (P3 : ca ≠ ba) (hv0 : ¬ ((255 : Int32) < v0)) (hv1 : ¬ ((255 : Int32) < v1)) (q1 : xo = (0 : Int32)) (q2 : yo = (0 : Int32)) (q3 : xl = (2 : Int32))  :
    MetFree l (⟨"java/lang/StringUTF16", "compress", "([CI[BII)I"⟩ : MethodName) (head1 (Jvm.Cond.code (⟨"java/lang/StringUTF16", "compress", "([CI[BII)I"⟩ : MethodName) jdk_52_method_21_code 7 (some .int) :: ws) ({ frames := 0, cells := 0, slots := 0, locals := 0 } : Room)) (fun a U => a = #[(.ref ca), (.int xo), (.ref ba), (.int yo), (.int xl)] ∧ Z.Warmed39 U.vm ∧ U.heap = h0) (fun _ _ _ _ _ => True) (fun _ U o U' => ∃ v L, o = .returned v ∧ Q_czl Z ca xo ba yo xl kc kb v0 v1 h0 n0 v U'.heap L ∧ FrameEnd U o U' L ({ frames := 0, cells := 0, slots := 0, locals := 0 } : Room).cells ({ frames := 0, cells := 0, slots := 0, locals := 0 } : Room).slots) := by
  refine MetFree.of_bodySF pf_czl hisR ?_
  intro p e s m args below meth c s₁ Bd hml0 hP hK
  obtain ⟨rfl, hZ, hh⟩ := hP
  have hx := Bd.exec
  have hby := Bd.bytes
  have hml : c.maxLocals = 7 := hml0
  have hown : s.vm.findClass "java/lang/StringUTF16" = some m.cls := findClass_of_methodNamed Bd.named
  have hnm := (name_of_methodNamed Bd.named Bd.method).1
  have X0 : Stand p l e ({ frames := 0, cells := 0, slots := 0, locals := 0 } : Room) s m #[(.ref ca), (.int xo), (.ref ba), (.int yo), (.int xl)] below meth c s₁ [] 0 0 := Stand.of_body Bd
  have e0 : s₁.heap = h0 := by rw [← hh, Bd.state]; rfl
  have N0 := Fr.nil n0
  obtain ⟨S0, hS0⟩ : ∃ z, z = s₁.setTop (entryFrame m #[(.ref ca), (.int xo), (.ref ba), (.int yo), (.int xl)] 7) := ⟨_, rfl⟩
  rw [← hS0]
  have g0 : Goes p e below S0 (s₁.setTop (mkF m 0 #[rv ca, iv xo, rv ba, iv yo, iv xl, .unset, .unset] [])) := fun t k => by rw [hS0]; exact castTop (ef_czl m ca xo ba yo xl) k
  obtain rfl : xo = (0 : Int32) := q1
  obtain rfl : yo = (0 : Int32) := q2
  obtain rfl : xl = (2 : Int32) := q3
  have g37 : Goes p e below S0 (s₁.setTop (mkF m 12 #[rv ca, iv (0 : Int32), rv ba, iv (0 : Int32), iv (2 : Int32), iv (0 : Int32), .unset] [(.int (0 : Int32)), (.ref ca)])) := fun t k => g0 t (by
    refine XT.iconstV X0.here hx rfl (0 : Int32) (hb hby d9_0) (by decide) ?_
    show Go p e below t s₁ m 1 #[rv ca, iv (0 : Int32), rv ba, iv (0 : Int32), iv (2 : Int32), .unset, .unset] [(.int (0 : Int32))]
    refine XS.istore X0.here hx rfl (hb hby d9_1) rfl (l' := #[rv ca, iv (0 : Int32), rv ba, iv (0 : Int32), iv (2 : Int32), iv (0 : Int32), .unset]) rfl ?_
    show Go p e below t s₁ m 3 #[rv ca, iv (0 : Int32), rv ba, iv (0 : Int32), iv (2 : Int32), iv (0 : Int32), .unset] []
    refine XS.iload X0.here hx rfl (hb hby d9_3) rfl ?_
    show Go p e below t s₁ m 5 #[rv ca, iv (0 : Int32), rv ba, iv (0 : Int32), iv (2 : Int32), iv (0 : Int32), .unset] [(.int (0 : Int32))]
    refine XS.iload X0.here hx rfl (hb hby d9_5) rfl ?_
    show Go p e below t s₁ m 7 #[rv ca, iv (0 : Int32), rv ba, iv (0 : Int32), iv (2 : Int32), iv (0 : Int32), .unset] [(.int (2 : Int32)), (.int (0 : Int32))]
    refine XS.icmpNo X0.here hx rfl (hb hby d9_7) rfl (XT.ii_ge_f (by decide)) ?_
    show Go p e below t s₁ m 10 #[rv ca, iv (0 : Int32), rv ba, iv (0 : Int32), iv (2 : Int32), iv (0 : Int32), .unset] []
    refine XS.aloadN X0.here hx rfl (hb hby d9_10) rfl rfl ?_
    show Go p e below t s₁ m 11 #[rv ca, iv (0 : Int32), rv ba, iv (0 : Int32), iv (2 : Int32), iv (0 : Int32), .unset] [(.ref ca)]
    refine XS.iloadN X0.here hx rfl (hb hby d9_11) rfl ?_
    show Go p e below t s₁ m 12 #[rv ca, iv (0 : Int32), rv ba, iv (0 : Int32), iv (2 : Int32), iv (0 : Int32), .unset] [(.int (0 : Int32)), (.ref ca)]
    exact k)
  obtain ⟨cl38, Ar38, q38, S38, M38, H38, G38⟩ := id P0
  have g39 : Goes p e below S0 (s₁.setTop (mkF m 31 #[rv ca, iv (0 : Int32), rv ba, iv (0 : Int32), iv (2 : Int32), iv (0 : Int32), iv v0] [(.int ((v0).toInt8.toInt32)), (.int (0 : Int32)), (.ref ba)])) := fun t k => g37 t (by
    refine X0.caload hx (j := (0 : Int32)) (v := (.int v0)) (by rw [e0]; exact Ar38.1) (State.isArrayOf_alike hZ.alike Ar38.2.1) Ar38.2.2 (inb_of S38 ⟨by decide, by decide⟩) (H38.at (inb_of S38 ⟨by decide, by decide⟩) rfl) (g := (mkF m 12 #[rv ca, iv (0 : Int32), rv ba, iv (0 : Int32), iv (2 : Int32), iv (0 : Int32), .unset] [(.int (0 : Int32)), (.ref ca)])) rfl rfl (hb hby d9_12) _ ?_
    show Go p e below t s₁ m 13 #[rv ca, iv (0 : Int32), rv ba, iv (0 : Int32), iv (2 : Int32), iv (0 : Int32), .unset] [(.int v0)]
    refine XS.istore X0.here hx rfl (hb hby d9_13) rfl (l' := #[rv ca, iv (0 : Int32), rv ba, iv (0 : Int32), iv (2 : Int32), iv (0 : Int32), iv v0]) rfl ?_
    show Go p e below t s₁ m 15 #[rv ca, iv (0 : Int32), rv ba, iv (0 : Int32), iv (2 : Int32), iv (0 : Int32), iv v0] []
    refine XS.iload X0.here hx rfl (hb hby d9_15) rfl ?_
    show Go p e below t s₁ m 17 #[rv ca, iv (0 : Int32), rv ba, iv (0 : Int32), iv (2 : Int32), iv (0 : Int32), iv v0] [(.int v0)]
    refine XT.sipushV X0.here hx rfl (255 : Int32) (hb hby d9_17) (by decide) ?_
    show Go p e below t s₁ m 20 #[rv ca, iv (0 : Int32), rv ba, iv (0 : Int32), iv (2 : Int32), iv (0 : Int32), iv v0] [(.int (255 : Int32)), (.int v0)]
    refine XS.icmpYes X0.here hx rfl (pc0 := 20) (pc' := 26) rfl (hb hby d9_20) rfl (XT.ii_le_t hv0) (by decide) (by decide) ?_
    show Go p e below t s₁ m 26 #[rv ca, iv (0 : Int32), rv ba, iv (0 : Int32), iv (2 : Int32), iv (0 : Int32), iv v0] []
    refine XS.aloadN X0.here hx rfl (hb hby d9_26) rfl rfl ?_
    show Go p e below t s₁ m 27 #[rv ca, iv (0 : Int32), rv ba, iv (0 : Int32), iv (2 : Int32), iv (0 : Int32), iv v0] [(.ref ba)]
    refine XS.iloadN X0.here hx rfl (hb hby d9_27) rfl ?_
    show Go p e below t s₁ m 28 #[rv ca, iv (0 : Int32), rv ba, iv (0 : Int32), iv (2 : Int32), iv (0 : Int32), iv v0] [(.int (0 : Int32)), (.ref ba)]
    refine XS.iload X0.here hx rfl (hb hby d9_28) rfl ?_
    show Go p e below t s₁ m 30 #[rv ca, iv (0 : Int32), rv ba, iv (0 : Int32), iv (2 : Int32), iv (0 : Int32), iv v0] [(.int v0), (.int (0 : Int32)), (.ref ba)]
    refine XS.i2b X0.here hx rfl (hb hby d9_30) rfl ?_
    show Go p e below t s₁ m 31 #[rv ca, iv (0 : Int32), rv ba, iv (0 : Int32), iv (2 : Int32), iv (0 : Int32), iv v0] [(.int ((v0).toInt8.toInt32)), (.int (0 : Int32)), (.ref ba)]
    exact k)
  obtain ⟨cl40, Ar40, q40, S40, M40, H40, G40⟩ := id P1
  obtain ⟨T41, h41, X41, e41, W41, st41⟩ := stB X0 hx hZ e0 Ar40 (j := (0 : Int32)) (inb_of S40 ⟨by decide, by decide⟩) (g := (mkF m 31 #[rv ca, iv (0 : Int32), rv ba, iv (0 : Int32), iv (2 : Int32), iv (0 : Int32), iv v0] [(.int ((v0).toInt8.toInt32)), (.int (0 : Int32)), (.ref ba)])) rfl rfl (hb hby d9_31)
  have N41 := Fr.snoc X41 N0 P2
  have V41 : Arv Z h41 ba kb .byte (2 : Int32) [(.int ((((v0).toInt8.toInt32)).toInt8.toInt32)), (.int (0 : Int32))] (.int (0 : Int32)) := Arv.set Ar40 q40 S40 M40 H40 G40 (fits_nar_byte _) W41 0 rfl (Nat.le_of_ble_eq_true rfl)
  have g42 : Goes p e below S0 (T41.setTop (mkF m 32 #[rv ca, iv (0 : Int32), rv ba, iv (0 : Int32), iv (2 : Int32), iv (0 : Int32), iv v0] [])) := fun t k => g39 t (st41 t k)
  have g43 : Goes p e below S0 (T41.setTop (mkF m 12 #[rv ca, iv (1 : Int32), rv ba, iv (1 : Int32), iv (2 : Int32), iv (1 : Int32), iv v0] [(.int (1 : Int32)), (.ref ca)])) := fun t k => g42 t (by
    refine XT.iincV X41.here hx rfl (1 : Int32) (hb hby d9_32) (by decide) rfl (l' := #[rv ca, iv (1 : Int32), rv ba, iv (0 : Int32), iv (2 : Int32), iv (0 : Int32), iv v0]) rfl ?_
    show Go p e below t T41 m 35 #[rv ca, iv (1 : Int32), rv ba, iv (0 : Int32), iv (2 : Int32), iv (0 : Int32), iv v0] []
    refine XT.iincV X41.here hx rfl (1 : Int32) (hb hby d9_35) (by decide) rfl (l' := #[rv ca, iv (1 : Int32), rv ba, iv (1 : Int32), iv (2 : Int32), iv (0 : Int32), iv v0]) rfl ?_
    show Go p e below t T41 m 38 #[rv ca, iv (1 : Int32), rv ba, iv (1 : Int32), iv (2 : Int32), iv (0 : Int32), iv v0] []
    refine XT.iincV X41.here hx rfl (1 : Int32) (hb hby d9_38) (by decide) rfl (l' := #[rv ca, iv (1 : Int32), rv ba, iv (1 : Int32), iv (2 : Int32), iv (1 : Int32), iv v0]) rfl ?_
    show Go p e below t T41 m 41 #[rv ca, iv (1 : Int32), rv ba, iv (1 : Int32), iv (2 : Int32), iv (1 : Int32), iv v0] []
    refine XS.goto X41.here hx rfl (pc0 := 41) (pc' := 3) rfl (hb hby d9_41) (by decide) (by decide) ?_
    show Go p e below t T41 m 3 #[rv ca, iv (1 : Int32), rv ba, iv (1 : Int32), iv (2 : Int32), iv (1 : Int32), iv v0] []
    refine XS.iload X41.here hx rfl (hb hby d9_3) rfl ?_
    show Go p e below t T41 m 5 #[rv ca, iv (1 : Int32), rv ba, iv (1 : Int32), iv (2 : Int32), iv (1 : Int32), iv v0] [(.int (1 : Int32))]
    refine XS.iload X41.here hx rfl (hb hby d9_5) rfl ?_
    show Go p e below t T41 m 7 #[rv ca, iv (1 : Int32), rv ba, iv (1 : Int32), iv (2 : Int32), iv (1 : Int32), iv v0] [(.int (2 : Int32)), (.int (1 : Int32))]
    refine XS.icmpNo X41.here hx rfl (hb hby d9_7) rfl (XT.ii_ge_f (by decide)) ?_
    show Go p e below t T41 m 10 #[rv ca, iv (1 : Int32), rv ba, iv (1 : Int32), iv (2 : Int32), iv (1 : Int32), iv v0] []
    refine XS.aloadN X41.here hx rfl (hb hby d9_10) rfl rfl ?_
    show Go p e below t T41 m 11 #[rv ca, iv (1 : Int32), rv ba, iv (1 : Int32), iv (2 : Int32), iv (1 : Int32), iv v0] [(.ref ca)]
    refine XS.iloadN X41.here hx rfl (hb hby d9_11) rfl ?_
    show Go p e below t T41 m 12 #[rv ca, iv (1 : Int32), rv ba, iv (1 : Int32), iv (2 : Int32), iv (1 : Int32), iv v0] [(.int (1 : Int32)), (.ref ca)]
    exact k)
  obtain ⟨cl44, Ar44, q44, S44, M44, H44, G44⟩ := id (P0.other W41 P3)
  have g45 : Goes p e below S0 (T41.setTop (mkF m 31 #[rv ca, iv (1 : Int32), rv ba, iv (1 : Int32), iv (2 : Int32), iv (1 : Int32), iv v1] [(.int ((v1).toInt8.toInt32)), (.int (1 : Int32)), (.ref ba)])) := fun t k => g43 t (by
    refine X41.caload hx (j := (1 : Int32)) (v := (.int v1)) (by rw [e41]; exact Ar44.1) (State.isArrayOf_alike hZ.alike Ar44.2.1) Ar44.2.2 (inb_of S44 ⟨by decide, by decide⟩) (H44.at (inb_of S44 ⟨by decide, by decide⟩) rfl) (g := (mkF m 12 #[rv ca, iv (1 : Int32), rv ba, iv (1 : Int32), iv (2 : Int32), iv (1 : Int32), iv v0] [(.int (1 : Int32)), (.ref ca)])) rfl rfl (hb hby d9_12) _ ?_
    show Go p e below t T41 m 13 #[rv ca, iv (1 : Int32), rv ba, iv (1 : Int32), iv (2 : Int32), iv (1 : Int32), iv v0] [(.int v1)]
    refine XS.istore X41.here hx rfl (hb hby d9_13) rfl (l' := #[rv ca, iv (1 : Int32), rv ba, iv (1 : Int32), iv (2 : Int32), iv (1 : Int32), iv v1]) rfl ?_
    show Go p e below t T41 m 15 #[rv ca, iv (1 : Int32), rv ba, iv (1 : Int32), iv (2 : Int32), iv (1 : Int32), iv v1] []
    refine XS.iload X41.here hx rfl (hb hby d9_15) rfl ?_
    show Go p e below t T41 m 17 #[rv ca, iv (1 : Int32), rv ba, iv (1 : Int32), iv (2 : Int32), iv (1 : Int32), iv v1] [(.int v1)]
    refine XT.sipushV X41.here hx rfl (255 : Int32) (hb hby d9_17) (by decide) ?_
    show Go p e below t T41 m 20 #[rv ca, iv (1 : Int32), rv ba, iv (1 : Int32), iv (2 : Int32), iv (1 : Int32), iv v1] [(.int (255 : Int32)), (.int v1)]
    refine XS.icmpYes X41.here hx rfl (pc0 := 20) (pc' := 26) rfl (hb hby d9_20) rfl (XT.ii_le_t hv1) (by decide) (by decide) ?_
    show Go p e below t T41 m 26 #[rv ca, iv (1 : Int32), rv ba, iv (1 : Int32), iv (2 : Int32), iv (1 : Int32), iv v1] []
    refine XS.aloadN X41.here hx rfl (hb hby d9_26) rfl rfl ?_
    show Go p e below t T41 m 27 #[rv ca, iv (1 : Int32), rv ba, iv (1 : Int32), iv (2 : Int32), iv (1 : Int32), iv v1] [(.ref ba)]
    refine XS.iloadN X41.here hx rfl (hb hby d9_27) rfl ?_
    show Go p e below t T41 m 28 #[rv ca, iv (1 : Int32), rv ba, iv (1 : Int32), iv (2 : Int32), iv (1 : Int32), iv v1] [(.int (1 : Int32)), (.ref ba)]
    refine XS.iload X41.here hx rfl (hb hby d9_28) rfl ?_
    show Go p e below t T41 m 30 #[rv ca, iv (1 : Int32), rv ba, iv (1 : Int32), iv (2 : Int32), iv (1 : Int32), iv v1] [(.int v1), (.int (1 : Int32)), (.ref ba)]
    refine XS.i2b X41.here hx rfl (hb hby d9_30) rfl ?_
    show Go p e below t T41 m 31 #[rv ca, iv (1 : Int32), rv ba, iv (1 : Int32), iv (2 : Int32), iv (1 : Int32), iv v1] [(.int ((v1).toInt8.toInt32)), (.int (1 : Int32)), (.ref ba)]
    exact k)
  obtain ⟨cl46, Ar46, q46, S46, M46, H46, G46⟩ := id V41
  obtain ⟨T47, h47, X47, e47, W47, st47⟩ := stB X41 hx hZ e41 Ar46 (j := (1 : Int32)) (inb_of S46 ⟨by decide, by decide⟩) (g := (mkF m 31 #[rv ca, iv (1 : Int32), rv ba, iv (1 : Int32), iv (2 : Int32), iv (1 : Int32), iv v1] [(.int ((v1).toInt8.toInt32)), (.int (1 : Int32)), (.ref ba)])) rfl rfl (hb hby d9_31)
  have N47 := Fr.snoc X47 N41 P2
  have V47 : Arv Z h47 ba kb .byte (2 : Int32) [(.int ((((v0).toInt8.toInt32)).toInt8.toInt32)), (.int ((((v1).toInt8.toInt32)).toInt8.toInt32))] (.int (0 : Int32)) := Arv.set Ar46 q46 S46 M46 H46 G46 (fits_nar_byte _) W47 1 rfl (Nat.le_of_ble_eq_true rfl)
  have g48 : Goes p e below S0 (T47.setTop (mkF m 32 #[rv ca, iv (1 : Int32), rv ba, iv (1 : Int32), iv (2 : Int32), iv (1 : Int32), iv v1] [])) := fun t k => g45 t (st47 t k)
  have g49 : Goes p e below S0 (T47.setTop (mkF m 46 #[rv ca, iv (2 : Int32), rv ba, iv (2 : Int32), iv (2 : Int32), iv (2 : Int32), iv v1] [(.int (2 : Int32))])) := fun t k => g48 t (by
    refine XT.iincV X47.here hx rfl (1 : Int32) (hb hby d9_32) (by decide) rfl (l' := #[rv ca, iv (2 : Int32), rv ba, iv (1 : Int32), iv (2 : Int32), iv (1 : Int32), iv v1]) rfl ?_
    show Go p e below t T47 m 35 #[rv ca, iv (2 : Int32), rv ba, iv (1 : Int32), iv (2 : Int32), iv (1 : Int32), iv v1] []
    refine XT.iincV X47.here hx rfl (1 : Int32) (hb hby d9_35) (by decide) rfl (l' := #[rv ca, iv (2 : Int32), rv ba, iv (2 : Int32), iv (2 : Int32), iv (1 : Int32), iv v1]) rfl ?_
    show Go p e below t T47 m 38 #[rv ca, iv (2 : Int32), rv ba, iv (2 : Int32), iv (2 : Int32), iv (1 : Int32), iv v1] []
    refine XT.iincV X47.here hx rfl (1 : Int32) (hb hby d9_38) (by decide) rfl (l' := #[rv ca, iv (2 : Int32), rv ba, iv (2 : Int32), iv (2 : Int32), iv (2 : Int32), iv v1]) rfl ?_
    show Go p e below t T47 m 41 #[rv ca, iv (2 : Int32), rv ba, iv (2 : Int32), iv (2 : Int32), iv (2 : Int32), iv v1] []
    refine XS.goto X47.here hx rfl (pc0 := 41) (pc' := 3) rfl (hb hby d9_41) (by decide) (by decide) ?_
    show Go p e below t T47 m 3 #[rv ca, iv (2 : Int32), rv ba, iv (2 : Int32), iv (2 : Int32), iv (2 : Int32), iv v1] []
    refine XS.iload X47.here hx rfl (hb hby d9_3) rfl ?_
    show Go p e below t T47 m 5 #[rv ca, iv (2 : Int32), rv ba, iv (2 : Int32), iv (2 : Int32), iv (2 : Int32), iv v1] [(.int (2 : Int32))]
    refine XS.iload X47.here hx rfl (hb hby d9_5) rfl ?_
    show Go p e below t T47 m 7 #[rv ca, iv (2 : Int32), rv ba, iv (2 : Int32), iv (2 : Int32), iv (2 : Int32), iv v1] [(.int (2 : Int32)), (.int (2 : Int32))]
    refine XS.icmpYes X47.here hx rfl (pc0 := 7) (pc' := 44) rfl (hb hby d9_7) rfl (XT.ii_ge_t (by decide)) (by decide) (by decide) ?_
    show Go p e below t T47 m 44 #[rv ca, iv (2 : Int32), rv ba, iv (2 : Int32), iv (2 : Int32), iv (2 : Int32), iv v1] []
    refine XS.iload X47.here hx rfl (hb hby d9_44) rfl ?_
    show Go p e below t T47 m 46 #[rv ca, iv (2 : Int32), rv ba, iv (2 : Int32), iv (2 : Int32), iv (2 : Int32), iv v1] [(.int (2 : Int32))]
    exact k)
  obtain ⟨fs, hr, hrun, hended, hW, hsame⟩ := X47.leave (v := some (.int (2 : Int32))) (fun h => by rw [Bd.returns] at h; cases h)
  refine ⟨_, _, g49 _ (retOut X47 hx Bd.returns rfl (Or.inl ⟨rfl, Or.inl rfl, _, rfl⟩) (hb hby d9_46) hr), hrun, hended, _, _, rfl, ?_, ⟨_, rfl⟩, hW, hsame.mono (by decide) (by decide)⟩
  show Q_czl Z ca (0 : Int32) ba (0 : Int32) (2 : Int32) kc kb v0 v1 h0 n0 _ T47.heap _
  rw [e47]
  exact ⟨rfl, N47, (((Keep.refl h0 [ba]).wr W41 (Or.inl (List.mem_of_getElem? (i := 0) rfl))).wr W47 (Or.inl (List.mem_of_getElem? (i := 0) rfl))), V47⟩
theorem d8_0 : decode jdk_52_method_16_code 0 = .ok (.iload_n 2, 1) := by decide +kernel
theorem d8_1 : decode jdk_52_method_16_code 1 = .ok (.newarray .byte, 2) := by decide +kernel
theorem d8_3 : decode jdk_52_method_16_code 3 = .ok (.astore_n 3, 1) := by decide +kernel
theorem d8_4 : decode jdk_52_method_16_code 4 = .ok (.aload_n 0, 1) := by decide +kernel
theorem d8_5 : decode jdk_52_method_16_code 5 = .ok (.iload_n 1, 1) := by decide +kernel
theorem d8_6 : decode jdk_52_method_16_code 6 = .ok (.aload_n 3, 1) := by decide +kernel
theorem d8_7 : decode jdk_52_method_16_code 7 = .ok (.iconst 0, 1) := by decide +kernel
theorem d8_8 : decode jdk_52_method_16_code 8 = .ok (.iload_n 2, 1) := by decide +kernel
theorem d8_9 : decode jdk_52_method_16_code 9 = .ok (.invokestatic 115, 3) := by decide +kernel
theorem d8_12 : decode jdk_52_method_16_code 12 = .ok (.istore 4, 2) := by decide +kernel
theorem d8_14 : decode jdk_52_method_16_code 14 = .ok (.iload 4, 2) := by decide +kernel
theorem d8_16 : decode jdk_52_method_16_code 16 = .ok (.iload_n 2, 1) := by decide +kernel
theorem d8_17 : decode jdk_52_method_16_code 17 = .ok (.if_icmp .eq 40, 3) := by decide +kernel
theorem d8_20 : decode jdk_52_method_16_code 20 = .ok (.aload_n 0, 1) := by decide +kernel
theorem d8_21 : decode jdk_52_method_16_code 21 = .ok (.iload_n 1, 1) := by decide +kernel
theorem d8_22 : decode jdk_52_method_16_code 22 = .ok (.iload_n 2, 1) := by decide +kernel
theorem d8_23 : decode jdk_52_method_16_code 23 = .ok (.invokestatic 119, 3) := by decide +kernel
theorem d8_26 : decode jdk_52_method_16_code 26 = .ok (.astore 5, 2) := by decide +kernel
theorem d8_28 : decode jdk_52_method_16_code 28 = .ok (.aload 5, 2) := by decide +kernel
theorem d8_30 : decode jdk_52_method_16_code 30 = .ok (.iload 4, 2) := by decide +kernel
theorem d8_32 : decode jdk_52_method_16_code 32 = .ok (.invokestatic 71, 3) := by decide +kernel
theorem d8_35 : decode jdk_52_method_16_code 35 = .ok (.sipush 255, 3) := by decide +kernel
theorem d8_38 : decode jdk_52_method_16_code 38 = .ok (.if_icmp .gt 16, 3) := by decide +kernel
theorem d8_41 : decode jdk_52_method_16_code 41 = .ok (.aload 5, 2) := by decide +kernel
theorem d8_43 : decode jdk_52_method_16_code 43 = .ok (.iconst 0, 1) := by decide +kernel
theorem d8_44 : decode jdk_52_method_16_code 44 = .ok (.aload_n 3, 1) := by decide +kernel
theorem d8_45 : decode jdk_52_method_16_code 45 = .ok (.iconst 0, 1) := by decide +kernel
theorem d8_46 : decode jdk_52_method_16_code 46 = .ok (.iload_n 2, 1) := by decide +kernel
theorem d8_47 : decode jdk_52_method_16_code 47 = .ok (.invokestatic 123, 3) := by decide +kernel
theorem d8_50 : decode jdk_52_method_16_code 50 = .ok (.iload_n 2, 1) := by decide +kernel
theorem d8_51 : decode jdk_52_method_16_code 51 = .ok (.if_icmp .eq 6, 3) := by decide +kernel
theorem d8_54 : decode jdk_52_method_16_code 54 = .ok (.aload 5, 2) := by decide +kernel
theorem d8_56 : decode jdk_52_method_16_code 56 = .ok (.areturn, 1) := by decide +kernel
theorem d8_57 : decode jdk_52_method_16_code 57 = .ok (.aload_n 3, 1) := by decide +kernel
theorem d8_58 : decode jdk_52_method_16_code 58 = .ok (.areturn, 1) := by decide +kernel
theorem pd5 : parseMethodDescriptor "([CII)[B" = some ⟨[(.array .char), .int, .int], some (.array .byte)⟩ := by decide +kernel
theorem pf_cm2 : plainFor (⟨"java/lang/StringUTF16", "compress", "([CII)[B"⟩ : MethodName) = true := by first | exact plainFor_of_name (by first | (simp [plainName, overriddenIn, x]; done) | decide +kernel) | exact Jvm.Free.JP.mathPlain rfl (by decide +kernel) | decide +kernel
theorem ef_cm2 (m : MethodId) (ca : Addr) (xo : Int32) (xl : Int32) : entryFrame m #[(.ref ca), (.int xo), (.int xl)] 6 = mkF m 0 #[rv ca, iv xo, iv xl, .unset, .unset, .unset] [] := by first | (simp [entryFrame, mkF, argsToLocals, Value.category, maxLocals]; done) | rfl
def Q_cm2 (Z : State) (ca : Addr) (xo : Int32) (xl : Int32) (kc : ClassId) (v0 : Int32) (v1 : Int32) (h0 : Heap) (n0 : Nat) (v : Option Value) (h : Heap) (L : List Loc) : Prop := ∃ (tb : Addr) (tk : ClassId), v = some (.ref tb) ∧ Fr n0 L ∧ (Keep h0 h []) ∧ (h0.size ≤ tb) ∧ (Arv Z h tb tk .byte (2 : Int32) [(.int (((v0).toInt8.toInt32).toInt8.toInt32)), (.int (((v1).toInt8.toInt32).toInt8.toInt32))] (.int (0 : Int32)))
set_option maxRecDepth 65536 in
set_option maxHeartbeats 40000000 in
theorem rm_cm2 (l : Launch) (Z : State) (a0 : Array Value) (hw : ∀ d ∈ tables_1, d.before a0 Z = true) (ws : List Jvm.Cond) (ca : Addr) (xo : Int32) (xl : Int32) (kc : ClassId) (v0 : Int32) (v1 : Int32) (h0 : Heap) (n0 : Nat) (Z0 : n0 ≤ h0.size) (P0 : Arv Z h0 ca kc .char (2 : Int32) [(.int v0), (.int v1)] (.int (0 : Int32))) (hv0 : ¬ ((255 : Int32) < v0)) (hv1 : ¬ ((255 : Int32) < v1)) (q1 : xo = (0 : Int32)) (q3 : xl = (2 : Int32))  :
    MetFree l (⟨"java/lang/StringUTF16", "compress", "([CII)[B"⟩ : MethodName) (head1 (Jvm.Cond.code (⟨"java/lang/StringUTF16", "compress", "([CII)[B"⟩ : MethodName) jdk_52_method_16_code 6 (some (.array .byte)) :: ws) ({ frames := 1, cells := 1, slots := 2, locals := 18 } : Room)) (fun a U => a = #[(.ref ca), (.int xo), (.int xl)] ∧ Z.Warmed39 U.vm ∧ U.heap = h0) (fun _ _ _ _ _ => True) (fun _ U o U' => ∃ v L, o = .returned v ∧ Q_cm2 Z ca xo xl kc v0 v1 h0 n0 v U'.heap L ∧ FrameEnd U o U' L ({ frames := 1, cells := 1, slots := 2, locals := 18 } : Room).cells ({ frames := 1, cells := 1, slots := 2, locals := 18 } : Room).slots) := by
  refine MetFree.of_bodySF pf_cm2 hisR ?_
  intro p e s m args below meth c s₁ Bd hml0 hP hK
  obtain ⟨rfl, hZ, hh⟩ := hP
  have hx := Bd.exec
  have hby := Bd.bytes
  have hml : c.maxLocals = 6 := hml0
  have hown : s.vm.findClass "java/lang/StringUTF16" = some m.cls := findClass_of_methodNamed Bd.named
  have hnm := (name_of_methodNamed Bd.named Bd.method).1
  have X0 : Stand p l e ({ frames := 1, cells := 1, slots := 2, locals := 18 } : Room) s m #[(.ref ca), (.int xo), (.int xl)] below meth c s₁ [] 0 0 := Stand.of_body Bd
  have e0 : s₁.heap = h0 := by rw [← hh, Bd.state]; rfl
  have N0 := Fr.nil n0
  obtain ⟨S0, hS0⟩ : ∃ z, z = s₁.setTop (entryFrame m #[(.ref ca), (.int xo), (.int xl)] 6) := ⟨_, rfl⟩
  rw [← hS0]
  have g0 : Goes p e below S0 (s₁.setTop (mkF m 0 #[rv ca, iv xo, iv xl, .unset, .unset, .unset] [])) := fun t k => by rw [hS0]; exact castTop (ef_cm2 m ca xo xl) k
  obtain rfl : xo = (0 : Int32) := q1
  obtain rfl : xl = (2 : Int32) := q3
  have g50 : Goes p e below S0 (s₁.setTop (mkF m 1 #[rv ca, iv (0 : Int32), iv (2 : Int32), .unset, .unset, .unset] [(.int (2 : Int32))])) := fun t k => g0 t (by
    refine XS.iloadN X0.here hx rfl (hb hby d8_0) rfl ?_
    show Go p e below t s₁ m 1 #[rv ca, iv (0 : Int32), iv (2 : Int32), .unset, .unset, .unset] [(.int (2 : Int32))]
    exact k)
  obtain ⟨T51, h51, k51, X51, e51, E51, A51, st51⟩ := newP X0 hx hZ (hw _ (List.mem_of_getElem? (i := 18) rfl)) e0 (g := (mkF m 1 #[rv ca, iv (0 : Int32), iv (2 : Int32), .unset, .unset, .unset] [(.int (2 : Int32))])) rfl (hb hby d8_1) rfl (by decide) (cap := 2) (by decide) (by decide) (by decide) (by decide)
  obtain ⟨b51, gb51⟩ : ∃ z, z = h0.size := ⟨_, rfl⟩
  have sz51 : h0.size ≤ b51 := Nat.le_trans (Nat.le_refl _) (Nat.le_of_eq gb51.symm)
  have ng51 : n0 ≤ b51 := Nat.le_trans Z0 sz51
  rw [← gb51] at A51 st51
  have V51 : Arv Z h51 b51 k51 .byte (2 : Int32) [(.int (0 : Int32)), (.int (0 : Int32))] (.int (0 : Int32)) := (Arv.new A51 (by decide)).pad (pad_rep [] (.int (0 : Int32)) 2)
  have g52 : Goes p e below S0 (T51.setTop (mkF m 3 #[rv ca, iv (0 : Int32), iv (2 : Int32), .unset, .unset, .unset] [(.ref b51)])) := fun t k => g50 t (st51 t k)
  have g53 : Goes p e below S0 (T51.setTop (mkF m 9 #[rv ca, iv (0 : Int32), iv (2 : Int32), rv b51, .unset, .unset] [(.int (2 : Int32)), (.int (0 : Int32)), (.ref b51), (.int (0 : Int32)), (.ref ca)])) := fun t k => g52 t (by
    refine XS.astoreN X51.here hx rfl (hb hby d8_3) rfl rfl (l' := #[rv ca, iv (0 : Int32), iv (2 : Int32), rv b51, .unset, .unset]) rfl ?_
    show Go p e below t T51 m 4 #[rv ca, iv (0 : Int32), iv (2 : Int32), rv b51, .unset, .unset] []
    refine XS.aloadN X51.here hx rfl (hb hby d8_4) rfl rfl ?_
    show Go p e below t T51 m 5 #[rv ca, iv (0 : Int32), iv (2 : Int32), rv b51, .unset, .unset] [(.ref ca)]
    refine XS.iloadN X51.here hx rfl (hb hby d8_5) rfl ?_
    show Go p e below t T51 m 6 #[rv ca, iv (0 : Int32), iv (2 : Int32), rv b51, .unset, .unset] [(.int (0 : Int32)), (.ref ca)]
    refine XS.aloadN X51.here hx rfl (hb hby d8_6) rfl rfl ?_
    show Go p e below t T51 m 7 #[rv ca, iv (0 : Int32), iv (2 : Int32), rv b51, .unset, .unset] [(.ref b51), (.int (0 : Int32)), (.ref ca)]
    refine XT.iconstV X51.here hx rfl (0 : Int32) (hb hby d8_7) (by decide) ?_
    show Go p e below t T51 m 8 #[rv ca, iv (0 : Int32), iv (2 : Int32), rv b51, .unset, .unset] [(.int (0 : Int32)), (.ref b51), (.int (0 : Int32)), (.ref ca)]
    refine XS.iloadN X51.here hx rfl (hb hby d8_8) rfl ?_
    show Go p e below t T51 m 9 #[rv ca, iv (0 : Int32), iv (2 : Int32), rv b51, .unset, .unset] [(.int (2 : Int32)), (.int (0 : Int32)), (.ref b51), (.int (0 : Int32)), (.ref ca)]
    exact k)
  obtain ⟨_, _, ⟨T54, L54, k54, n54⟩, -, X54, ⟨Lc54, hQ54, l54, y54, z54⟩, st54⟩ := Jvm.LawKit.callS X51 hx (y := (⟨"java/lang/StringUTF16", "compress", "([CI[BII)I"⟩ : MethodName)) hown (mvT hZ (hw _ (List.mem_of_getElem? (i := 45) rfl))) (mvT hZ (hw _ (List.mem_of_getElem? (i := 46) rfl))) (mvT hZ (hw _ (List.mem_of_getElem? (i := 43) rfl))) (mvT hZ (hw _ (List.mem_of_getElem? (i := 47) rfl))) (by decide) (backOf (W := 0) (rm_czl l Z a0 hw [] ca (0 : Int32) b51 (0 : Int32) (2 : Int32) kc k51 v0 v1 h51 n0 (Nat.le_trans Z0 (Nat.le_trans (Nat.le_refl _) E51.1)) (P0.ext E51) V51 ng51 (Nat.ne_of_lt (Nat.lt_of_lt_of_le P0.lt (Nat.le_of_eq gb51.symm))) hv0 hv1 rfl rfl rfl) hZ (hw _ (List.mem_of_getElem? (i := 47) rfl)) (hw _ (List.mem_of_getElem? (i := 43) rfl)) (by decide) (by decide)) (g := (mkF m 9 #[rv ca, iv (0 : Int32), iv (2 : Int32), rv b51, .unset, .unset] [(.int (2 : Int32)), (.int (0 : Int32)), (.ref b51), (.int (0 : Int32)), (.ref ca)])) rfl (by rw [hml]; rfl) (argsL := [(.ref ca), (.int (0 : Int32)), (.ref b51), (.int (0 : Int32)), (.int (2 : Int32))]) (rest := []) (lenOf pd4 rfl) rfl (by show 2 * 0 + _ ≤ _; exact Nat.le_of_eq rfl) (hb hby d8_9) (fun _ _ => ⟨rfl, e51, (by decide : 1 + 0 ≤ _), (by decide : 2 + 0 ≤ _)⟩)
  dsimp only [Pt.U, Pt.locs, Pt.cells, Pt.slots] at X54 l54 y54 z54 st54 hQ54
  subst l54 y54 z54
  obtain ⟨rfl, N54, R54_0, R54_1⟩ := hQ54
  have M54 := Fr.app N0 N54
  have g55 : Goes p e below S0 (T54.setTop (mkF m 12 #[rv ca, iv (0 : Int32), iv (2 : Int32), rv b51, .unset, .unset] [(.int (2 : Int32))])) := fun t k => g53 t (st54 t k)
  have g56 : Goes p e below S0 (T54.setTop (mkF m 58 #[rv ca, iv (0 : Int32), iv (2 : Int32), rv b51, iv (2 : Int32), .unset] [(.ref b51)])) := fun t k => g55 t (by
    refine XS.istore X54.here hx rfl (hb hby d8_12) rfl (l' := #[rv ca, iv (0 : Int32), iv (2 : Int32), rv b51, iv (2 : Int32), .unset]) rfl ?_
    show Go p e below t T54 m 14 #[rv ca, iv (0 : Int32), iv (2 : Int32), rv b51, iv (2 : Int32), .unset] []
    refine XS.iload X54.here hx rfl (hb hby d8_14) rfl ?_
    show Go p e below t T54 m 16 #[rv ca, iv (0 : Int32), iv (2 : Int32), rv b51, iv (2 : Int32), .unset] [(.int (2 : Int32))]
    refine XS.iloadN X54.here hx rfl (hb hby d8_16) rfl ?_
    show Go p e below t T54 m 17 #[rv ca, iv (0 : Int32), iv (2 : Int32), rv b51, iv (2 : Int32), .unset] [(.int (2 : Int32)), (.int (2 : Int32))]
    refine XS.icmpYes X54.here hx rfl (pc0 := 17) (pc' := 57) rfl (hb hby d8_17) rfl (XT.ii_eq_t (by decide)) (by decide) (by decide) ?_
    show Go p e below t T54 m 57 #[rv ca, iv (0 : Int32), iv (2 : Int32), rv b51, iv (2 : Int32), .unset] []
    refine XS.aloadN X54.here hx rfl (hb hby d8_57) rfl rfl ?_
    show Go p e below t T54 m 58 #[rv ca, iv (0 : Int32), iv (2 : Int32), rv b51, iv (2 : Int32), .unset] [(.ref b51)]
    exact k)
  obtain ⟨fs, hr, hrun, hended, hW, hsame⟩ := X54.leave (v := some (.ref b51)) (fun h => by rw [Bd.returns] at h; cases h)
  refine ⟨_, _, g56 _ (retOut X54 hx Bd.returns rfl (Or.inr (Or.inr (Or.inr (Or.inr ⟨rfl, rfl, rfl⟩)))) (hb hby d8_58) hr), hrun, hended, _, _, rfl, ?_, ⟨_, rfl⟩, hW, hsame.mono (by decide) (by decide)⟩
  show Q_cm2 Z ca (0 : Int32) (2 : Int32) kc v0 v1 h0 n0 _ T54.heap _
  exact ⟨b51, k51, rfl, M54, (((Keep.refl h0 []).ext E51).trans R54_0 (allS (Or.inr sz51) all0)), sz51, R54_1⟩
theorem d10_0 : decode jdk_52_method_15_code 0 = .ok (.iload_n 1, 1) := by decide +kernel
theorem d10_1 : decode jdk_52_method_15_code 1 = .ok (.aload_n 0, 1) := by decide +kernel
theorem d10_2 : decode jdk_52_method_15_code 2 = .ok (.arraylength, 1) := by decide +kernel
theorem d10_3 : decode jdk_52_method_15_code 3 = .ok (.isub, 1) := by decide +kernel
theorem d10_4 : decode jdk_52_method_15_code 4 = .ok (.bipush 31, 2) := by decide +kernel
theorem d10_6 : decode jdk_52_method_15_code 6 = .ok (.iushr, 1) := by decide +kernel
theorem d10_7 : decode jdk_52_method_15_code 7 = .ok (.i2b, 1) := by decide +kernel
theorem d10_8 : decode jdk_52_method_15_code 8 = .ok (.ireturn, 1) := by decide +kernel
theorem pd6 : parseMethodDescriptor "([BI)B" = some ⟨[(.array .byte), .int], some .byte⟩ := by decide +kernel
theorem pf_cfl : plainFor (⟨"java/lang/StringUTF16", "coderFromArrayLen", "([BI)B"⟩ : MethodName) = true := by first | exact plainFor_of_name (by first | (simp [plainName, overriddenIn, x]; done) | decide +kernel) | exact Jvm.Free.JP.mathPlain rfl (by decide +kernel) | decide +kernel
theorem ef_cfl (m : MethodId) (ba : Addr) (xl : Int32) : entryFrame m #[(.ref ba), (.int xl)] 2 = mkF m 0 #[rv ba, iv xl] [] := by first | (simp [entryFrame, mkF, argsToLocals, Value.category, maxLocals]; done) | rfl
def Q_cfl (Z : State) (ba : Addr) (xl : Int32) (kb : ClassId) (v0 : Int32) (v1 : Int32) (h0 : Heap) (n0 : Nat) (v : Option Value) (h : Heap) (L : List Loc) : Prop := ∃ (rv : Int32), v = some (.int rv) ∧ Fr n0 L ∧ h = h0
set_option maxRecDepth 65536 in
set_option maxHeartbeats 40000000 in
theorem rm_cfl (l : Launch) (Z : State) (a0 : Array Value) (hw : ∀ d ∈ tables_1, d.before a0 Z = true) (ws : List Jvm.Cond) (ba : Addr) (xl : Int32) (kb : ClassId) (v0 : Int32) (v1 : Int32) (h0 : Heap) (n0 : Nat) (Z0 : n0 ≤ h0.size) (P0 : Arv Z h0 ba kb .byte (2 : Int32) [(.int v0), (.int v1)] (.int (0 : Int32)))  :
    MetFree l (⟨"java/lang/StringUTF16", "coderFromArrayLen", "([BI)B"⟩ : MethodName) (head1 (Jvm.Cond.code (⟨"java/lang/StringUTF16", "coderFromArrayLen", "([BI)B"⟩ : MethodName) jdk_52_method_15_code 2 (some .byte) :: ws) ({ frames := 0, cells := 0, slots := 0, locals := 0 } : Room)) (fun a U => a = #[(.ref ba), (.int xl)] ∧ Z.Warmed39 U.vm ∧ U.heap = h0) (fun _ _ _ _ _ => True) (fun _ U o U' => ∃ v L, o = .returned v ∧ Q_cfl Z ba xl kb v0 v1 h0 n0 v U'.heap L ∧ FrameEnd U o U' L ({ frames := 0, cells := 0, slots := 0, locals := 0 } : Room).cells ({ frames := 0, cells := 0, slots := 0, locals := 0 } : Room).slots) := by
  refine MetFree.of_bodySF pf_cfl hisR ?_
  intro p e s m args below meth c s₁ Bd hml0 hP hK
  obtain ⟨rfl, hZ, hh⟩ := hP
  have hx := Bd.exec
  have hby := Bd.bytes
  have hml : c.maxLocals = 2 := hml0
  have hown : s.vm.findClass "java/lang/StringUTF16" = some m.cls := findClass_of_methodNamed Bd.named
  have hnm := (name_of_methodNamed Bd.named Bd.method).1
  have X0 : Stand p l e ({ frames := 0, cells := 0, slots := 0, locals := 0 } : Room) s m #[(.ref ba), (.int xl)] below meth c s₁ [] 0 0 := Stand.of_body Bd
  have e0 : s₁.heap = h0 := by rw [← hh, Bd.state]; rfl
  have N0 := Fr.nil n0
  obtain ⟨S0, hS0⟩ : ∃ z, z = s₁.setTop (entryFrame m #[(.ref ba), (.int xl)] 2) := ⟨_, rfl⟩
  rw [← hS0]
  have g0 : Goes p e below S0 (s₁.setTop (mkF m 0 #[rv ba, iv xl] [])) := fun t k => by rw [hS0]; exact castTop (ef_cfl m ba xl) k
  have g57 : Goes p e below S0 (s₁.setTop (mkF m 2 #[rv ba, iv xl] [(.ref ba), (.int xl)])) := fun t k => g0 t (by
    refine XS.iloadN X0.here hx rfl (hb hby d10_0) rfl ?_
    show Go p e below t s₁ m 1 #[rv ba, iv xl] [(.int xl)]
    refine XS.aloadN X0.here hx rfl (hb hby d10_1) rfl rfl ?_
    show Go p e below t s₁ m 2 #[rv ba, iv xl] [(.ref ba), (.int xl)]
    exact k)
  obtain ⟨cl58, Ar58, q58, S58, M58, H58, G58⟩ := id P0
  have g59 : Goes p e below S0 (s₁.setTop (mkF m 8 #[rv ba, iv xl] [(.int (((((xl - (2 : Int32))).toUInt32 >>> ((31 : Int32) &&& 31).toUInt32).toInt32).toInt8.toInt32))])) := fun t k => g57 t (by
    refine X0.arraylength hx (by rw [e0]; exact Ar58.1) (State.isArrayOf_alike hZ.alike Ar58.2.1) (g := (mkF m 2 #[rv ba, iv xl] [(.ref ba), (.int xl)])) rfl rfl (hb hby d10_2) _ ?_
    rw [len_of S58 M58]
    show Go p e below t s₁ m 3 #[rv ba, iv xl] [(.int (2 : Int32)), (.int xl)]
    refine XS.isub X0.here hx rfl (hb hby d10_3) rfl ?_
    show Go p e below t s₁ m 4 #[rv ba, iv xl] [(.int (xl - (2 : Int32)))]
    refine XT.bipushV X0.here hx rfl (31 : Int32) (hb hby d10_4) (by decide) ?_
    show Go p e below t s₁ m 6 #[rv ba, iv xl] [(.int (31 : Int32)), (.int (xl - (2 : Int32)))]
    refine XS.iushr X0.here hx rfl (hb hby d10_6) rfl ?_
    show Go p e below t s₁ m 7 #[rv ba, iv xl] [(.int ((((xl - (2 : Int32))).toUInt32 >>> ((31 : Int32) &&& 31).toUInt32).toInt32))]
    refine XS.i2b X0.here hx rfl (hb hby d10_7) rfl ?_
    show Go p e below t s₁ m 8 #[rv ba, iv xl] [(.int (((((xl - (2 : Int32))).toUInt32 >>> ((31 : Int32) &&& 31).toUInt32).toInt32).toInt8.toInt32))]
    exact k)
  obtain ⟨fs, hr, hrun, hended, hW, hsame⟩ := X0.leave (v := some (.int (nar .byte (((((xl - (2 : Int32))).toUInt32 >>> ((31 : Int32) &&& 31).toUInt32).toInt32).toInt8.toInt32)))) (fun h => by rw [Bd.returns] at h; cases h)
  refine ⟨_, _, g59 _ (retN X0 hx (t := .byte) Bd.returns (by simp) (hb hby d10_8) hr), hrun, hended, _, _, rfl, ?_, ⟨_, rfl⟩, hW, hsame.mono (by decide) (by decide)⟩
  show Q_cfl Z ba xl kb v0 v1 h0 n0 _ s₁.heap _
  rw [e0]
  exact ⟨(nar .byte (((((xl - (2 : Int32))).toUInt32 >>> ((31 : Int32) &&& 31).toUInt32).toInt32).toInt8.toInt32)), rfl, N0, rfl⟩
theorem d7_0 : decode jdk_42_method_149_code 0 = .ok (.aload_n 0, 1) := by decide +kernel
theorem d7_1 : decode jdk_42_method_149_code 1 = .ok (.invokespecial 1, 3) := by decide +kernel
theorem d7_4 : decode jdk_42_method_149_code 4 = .ok (.iload_n 3, 1) := by decide +kernel
theorem d7_5 : decode jdk_42_method_149_code 5 = .ok (.ifCond .ne 22, 3) := by decide +kernel
theorem d7_8 : decode jdk_42_method_149_code 8 = .ok (.aload_n 0, 1) := by decide +kernel
theorem d7_9 : decode jdk_42_method_149_code 9 = .ok (.ldc 7, 2) := by decide +kernel
theorem d7_11 : decode jdk_42_method_149_code 11 = .ok (.getfield 9, 3) := by decide +kernel
theorem d7_14 : decode jdk_42_method_149_code 14 = .ok (.putfield 9, 3) := by decide +kernel
theorem d7_17 : decode jdk_42_method_149_code 17 = .ok (.aload_n 0, 1) := by decide +kernel
theorem d7_18 : decode jdk_42_method_149_code 18 = .ok (.ldc 7, 2) := by decide +kernel
theorem d7_20 : decode jdk_42_method_149_code 20 = .ok (.getfield 15, 3) := by decide +kernel
theorem d7_23 : decode jdk_42_method_149_code 23 = .ok (.putfield 15, 3) := by decide +kernel
theorem d7_26 : decode jdk_42_method_149_code 26 = .ok (.return_, 1) := by decide +kernel
theorem d7_27 : decode jdk_42_method_149_code 27 = .ok (.getstatic 38, 3) := by decide +kernel
theorem d7_30 : decode jdk_42_method_149_code 30 = .ok (.ifCond .eq 28, 3) := by decide +kernel
theorem d7_33 : decode jdk_42_method_149_code 33 = .ok (.aload_n 1, 1) := by decide +kernel
theorem d7_34 : decode jdk_42_method_149_code 34 = .ok (.iload_n 2, 1) := by decide +kernel
theorem d7_35 : decode jdk_42_method_149_code 35 = .ok (.iload_n 3, 1) := by decide +kernel
theorem d7_36 : decode jdk_42_method_149_code 36 = .ok (.invokestatic 177, 3) := by decide +kernel
theorem d7_39 : decode jdk_42_method_149_code 39 = .ok (.astore 5, 2) := by decide +kernel
theorem d7_41 : decode jdk_42_method_149_code 41 = .ok (.aload_n 0, 1) := by decide +kernel
theorem d7_42 : decode jdk_42_method_149_code 42 = .ok (.aload 5, 2) := by decide +kernel
theorem d7_44 : decode jdk_42_method_149_code 44 = .ok (.iload_n 3, 1) := by decide +kernel
theorem d7_45 : decode jdk_42_method_149_code 45 = .ok (.invokestatic 47, 3) := by decide +kernel
theorem d7_48 : decode jdk_42_method_149_code 48 = .ok (.putfield 15, 3) := by decide +kernel
theorem d7_51 : decode jdk_42_method_149_code 51 = .ok (.aload_n 0, 1) := by decide +kernel
theorem d7_52 : decode jdk_42_method_149_code 52 = .ok (.aload 5, 2) := by decide +kernel
theorem d7_54 : decode jdk_42_method_149_code 54 = .ok (.putfield 9, 3) := by decide +kernel
theorem d7_57 : decode jdk_42_method_149_code 57 = .ok (.return_, 1) := by decide +kernel
theorem d7_58 : decode jdk_42_method_149_code 58 = .ok (.aload_n 0, 1) := by decide +kernel
theorem d7_59 : decode jdk_42_method_149_code 59 = .ok (.iconst 1, 1) := by decide +kernel
theorem d7_60 : decode jdk_42_method_149_code 60 = .ok (.putfield 15, 3) := by decide +kernel
theorem d7_63 : decode jdk_42_method_149_code 63 = .ok (.aload_n 0, 1) := by decide +kernel
theorem d7_64 : decode jdk_42_method_149_code 64 = .ok (.aload_n 1, 1) := by decide +kernel
theorem d7_65 : decode jdk_42_method_149_code 65 = .ok (.iload_n 2, 1) := by decide +kernel
theorem d7_66 : decode jdk_42_method_149_code 66 = .ok (.iload_n 3, 1) := by decide +kernel
theorem d7_67 : decode jdk_42_method_149_code 67 = .ok (.invokestatic 180, 3) := by decide +kernel
theorem d7_70 : decode jdk_42_method_149_code 70 = .ok (.putfield 9, 3) := by decide +kernel
theorem d7_73 : decode jdk_42_method_149_code 73 = .ok (.return_, 1) := by decide +kernel
theorem pd7 : parseMethodDescriptor "([CIILjava/lang/Void;)V" = some ⟨[(.array .char), .int, .int, (.object "java/lang/Void")], none⟩ := by decide +kernel
theorem pf_in4 : plainFor (⟨"java/lang/String", "<init>", "([CIILjava/lang/Void;)V"⟩ : MethodName) = true := by first | exact plainFor_of_name (by first | (simp [plainName, overriddenIn, x]; done) | decide +kernel) | exact Jvm.Free.JP.mathPlain rfl (by decide +kernel) | decide +kernel
theorem ef_in4 (m : MethodId) (sa : Addr) (ca : Addr) (xo : Int32) (xl : Int32) : entryFrame m #[(.ref sa), (.ref ca), (.int xo), (.int xl), .null] 6 = mkF m 0 #[rv sa, rv ca, iv xo, iv xl, .val .null, .unset] [] := by first | (simp [entryFrame, mkF, argsToLocals, Value.category, maxLocals]; done) | rfl
def Q_in4 (Z : State) (sa : Addr) (ca : Addr) (xo : Int32) (xl : Int32) (kc : ClassId) (v0 : Int32) (v1 : Int32) (cz : Int32) (h0 : Heap) (n0 : Nat) (v : Option Value) (h : Heap) (L : List Loc) : Prop := v = none ∧ Fr n0 L ∧ (Keep h0 h [sa])
set_option maxRecDepth 65536 in
set_option maxHeartbeats 40000000 in
theorem rm_in4 (l : Launch) (Z : State) (a0 : Array Value) (hw : ∀ d ∈ tables_1, d.before a0 Z = true) (ws : List Jvm.Cond) (sa : Addr) (ca : Addr) (xo : Int32) (xl : Int32) (kc : ClassId) (v0 : Int32) (v1 : Int32) (cz : Int32) (h0 : Heap) (n0 : Nat) (Z0 : n0 ≤ h0.size) (P0 : Exa Z h0 sa "java/lang/String") (P1 : Fld Z h0 sa "java/lang/String" "value" "[B" .null) (P2 : Fld Z h0 sa "java/lang/String" "coder" "B" (.int (0 : Int32))) (P3 : n0 ≤ sa) (P4 : Arv Z h0 ca kc .char (2 : Int32) [(.int v0), (.int v1)] (.int (0 : Int32))) (hv0 : ¬ ((255 : Int32) < v0)) (hv1 : ¬ ((255 : Int32) < v1)) (P7 : Sta Z h0 "java/lang/String" "COMPACT_STRINGS" "Z" (.int cz)) (hz : ¬ cz = 0) (q1 : xo = (0 : Int32)) (q3 : xl = (2 : Int32))  :
    MetFree l (⟨"java/lang/String", "<init>", "([CIILjava/lang/Void;)V"⟩ : MethodName) (head1 (Jvm.Cond.code (⟨"java/lang/String", "<init>", "([CIILjava/lang/Void;)V"⟩ : MethodName) jdk_42_method_149_code 6 none :: ws) ({ frames := 2, cells := 1, slots := 2, locals := 40 } : Room)) (fun a U => a = #[(.ref sa), (.ref ca), (.int xo), (.int xl), .null] ∧ Z.Warmed39 U.vm ∧ U.heap = h0) (fun _ _ _ _ _ => True) (fun _ U o U' => ∃ v L, o = .returned v ∧ Q_in4 Z sa ca xo xl kc v0 v1 cz h0 n0 v U'.heap L ∧ FrameEnd U o U' L ({ frames := 2, cells := 1, slots := 2, locals := 40 } : Room).cells ({ frames := 2, cells := 1, slots := 2, locals := 40 } : Room).slots) := by
  refine MetFree.of_bodySF pf_in4 hisR ?_
  intro p e s m args below meth c s₁ Bd hml0 hP hK
  obtain ⟨rfl, hZ, hh⟩ := hP
  have hx := Bd.exec
  have hby := Bd.bytes
  have hml : c.maxLocals = 6 := hml0
  have hown : s.vm.findClass "java/lang/String" = some m.cls := findClass_of_methodNamed Bd.named
  have hnm := (name_of_methodNamed Bd.named Bd.method).1
  have X0 : Stand p l e ({ frames := 2, cells := 1, slots := 2, locals := 40 } : Room) s m #[(.ref sa), (.ref ca), (.int xo), (.int xl), .null] below meth c s₁ [] 0 0 := Stand.of_body Bd
  have e0 : s₁.heap = h0 := by rw [← hh, Bd.state]; rfl
  have N0 := Fr.nil n0
  obtain ⟨S0, hS0⟩ : ∃ z, z = s₁.setTop (entryFrame m #[(.ref sa), (.ref ca), (.int xo), (.int xl), .null] 6) := ⟨_, rfl⟩
  rw [← hS0]
  have g0 : Goes p e below S0 (s₁.setTop (mkF m 0 #[rv sa, rv ca, iv xo, iv xl, .val .null, .unset] [])) := fun t k => by rw [hS0]; exact castTop (ef_in4 m sa ca xo xl) k
  obtain rfl : xo = (0 : Int32) := q1
  obtain rfl : xl = (2 : Int32) := q3
  have g60 : Goes p e below S0 (s₁.setTop (mkF m 1 #[rv sa, rv ca, iv (0 : Int32), iv (2 : Int32), .val .null, .unset] [(.ref sa)])) := fun t k => g0 t (by
    refine XS.aloadN X0.here hx rfl (hb hby d7_0) rfl rfl ?_
    show Go p e below t s₁ m 1 #[rv sa, rv ca, iv (0 : Int32), iv (2 : Int32), .val .null, .unset] [(.ref sa)]
    exact k)
  obtain ⟨T61, X61, e61, st61⟩ := initO X0 hx hZ hown (hw _ (List.mem_of_getElem? (i := 23) rfl)) (hw _ (List.mem_of_getElem? (i := 24) rfl)) (hw _ (List.mem_of_getElem? (i := 25) rfl)) e0 (g := (mkF m 1 #[rv sa, rv ca, iv (0 : Int32), iv (2 : Int32), .val .null, .unset] [(.ref sa)])) rfl (by rw [hml]; rfl) rfl (hb hby d7_1) (by decide) (W := 0) (by show 2 * 0 + _ ≤ _; exact Nat.le_of_eq rfl) (by decide)
  have g62 : Goes p e below S0 (T61.setTop (mkF m 4 #[rv sa, rv ca, iv (0 : Int32), iv (2 : Int32), .val .null, .unset] [])) := fun t k => g60 t (st61 t k)
  have g63 : Goes p e below S0 (T61.setTop (mkF m 27 #[rv sa, rv ca, iv (0 : Int32), iv (2 : Int32), .val .null, .unset] [])) := fun t k => g62 t (by
    refine XS.iloadN X61.here hx rfl (hb hby d7_4) rfl ?_
    show Go p e below t T61 m 5 #[rv sa, rv ca, iv (0 : Int32), iv (2 : Int32), .val .null, .unset] [(.int (2 : Int32))]
    refine XS.ifYes X61.here hx rfl (pc0 := 5) (pc' := 27) rfl (hb hby d7_5) rfl (XT.i0_ne_t (by decide)) (by decide) (by decide) ?_
    show Go p e below t T61 m 27 #[rv sa, rv ca, iv (0 : Int32), iv (2 : Int32), .val .null, .unset] []
    exact k)
  obtain ⟨T64, X64, e64, st64⟩ := getS (host := "") X61 hx hZ hown (hw _ (List.mem_of_getElem? (i := 8) rfl)) Via.refl e61 P7 (g := (mkF m 27 #[rv sa, rv ca, iv (0 : Int32), iv (2 : Int32), .val .null, .unset] [])) rfl (hb hby d7_27)
  have g65 : Goes p e below S0 (T64.setTop (mkF m 30 #[rv sa, rv ca, iv (0 : Int32), iv (2 : Int32), .val .null, .unset] [(.int cz)])) := fun t k => g63 t (st64 t k)
  have g66 : Goes p e below S0 (T64.setTop (mkF m 36 #[rv sa, rv ca, iv (0 : Int32), iv (2 : Int32), .val .null, .unset] [(.int (2 : Int32)), (.int (0 : Int32)), (.ref ca)])) := fun t k => g65 t (by
    refine XS.ifNo X64.here hx rfl (hb hby d7_30) rfl (XT.i0_eq_f hz) ?_
    show Go p e below t T64 m 33 #[rv sa, rv ca, iv (0 : Int32), iv (2 : Int32), .val .null, .unset] []
    refine XS.aloadN X64.here hx rfl (hb hby d7_33) rfl rfl ?_
    show Go p e below t T64 m 34 #[rv sa, rv ca, iv (0 : Int32), iv (2 : Int32), .val .null, .unset] [(.ref ca)]
    refine XS.iloadN X64.here hx rfl (hb hby d7_34) rfl ?_
    show Go p e below t T64 m 35 #[rv sa, rv ca, iv (0 : Int32), iv (2 : Int32), .val .null, .unset] [(.int (0 : Int32)), (.ref ca)]
    refine XS.iloadN X64.here hx rfl (hb hby d7_35) rfl ?_
    show Go p e below t T64 m 36 #[rv sa, rv ca, iv (0 : Int32), iv (2 : Int32), .val .null, .unset] [(.int (2 : Int32)), (.int (0 : Int32)), (.ref ca)]
    exact k)
  obtain ⟨_, _, ⟨T67, L67, k67, n67⟩, -, X67, ⟨Lc67, hQ67, l67, y67, z67⟩, st67⟩ := Jvm.LawKit.callS X64 hx (y := (⟨"java/lang/StringUTF16", "compress", "([CII)[B"⟩ : MethodName)) hown (mvT hZ (hw _ (List.mem_of_getElem? (i := 41) rfl))) (mvT hZ (hw _ (List.mem_of_getElem? (i := 42) rfl))) (mvT hZ (hw _ (List.mem_of_getElem? (i := 43) rfl))) (mvT hZ (hw _ (List.mem_of_getElem? (i := 44) rfl))) (by decide) (backOf (W := 0) (rm_cm2 l Z a0 hw [] ca (0 : Int32) (2 : Int32) kc v0 v1 h0 n0 Z0 P4 hv0 hv1 rfl rfl) hZ (hw _ (List.mem_of_getElem? (i := 44) rfl)) (hw _ (List.mem_of_getElem? (i := 43) rfl)) (by decide) (by decide)) (g := (mkF m 36 #[rv sa, rv ca, iv (0 : Int32), iv (2 : Int32), .val .null, .unset] [(.int (2 : Int32)), (.int (0 : Int32)), (.ref ca)])) rfl (by rw [hml]; rfl) (argsL := [(.ref ca), (.int (0 : Int32)), (.int (2 : Int32))]) (rest := []) (lenOf pd5 rfl) rfl (by show 2 * 0 + _ ≤ _; exact Nat.le_of_eq rfl) (hb hby d7_36) (fun _ _ => ⟨rfl, e64, (by decide : 0 + 1 ≤ _), (by decide : 0 + 2 ≤ _)⟩)
  dsimp only [Pt.U, Pt.locs, Pt.cells, Pt.slots] at X67 l67 y67 z67 st67 hQ67
  subst l67 y67 z67
  obtain ⟨tb_67, tk_67, rfl, N67, R67_0, R67_1, R67_2⟩ := hQ67
  have M67 := Fr.app N0 N67
  have sz67_1 : h0.size ≤ tb_67 := Nat.le_trans (Nat.le_refl _) R67_1
  have ng67_1 : n0 ≤ tb_67 := Nat.le_trans Z0 sz67_1
  have g68 : Goes p e below S0 (T67.setTop (mkF m 39 #[rv sa, rv ca, iv (0 : Int32), iv (2 : Int32), .val .null, .unset] [(.ref tb_67)])) := fun t k => g66 t (st67 t k)
  have g69 : Goes p e below S0 (T67.setTop (mkF m 45 #[rv sa, rv ca, iv (0 : Int32), iv (2 : Int32), .val .null, rv tb_67] [(.int (2 : Int32)), (.ref tb_67), (.ref sa)])) := fun t k => g68 t (by
    refine XS.astore X67.here hx rfl (hb hby d7_39) rfl rfl (l' := #[rv sa, rv ca, iv (0 : Int32), iv (2 : Int32), .val .null, rv tb_67]) rfl ?_
    show Go p e below t T67 m 41 #[rv sa, rv ca, iv (0 : Int32), iv (2 : Int32), .val .null, rv tb_67] []
    refine XS.aloadN X67.here hx rfl (hb hby d7_41) rfl rfl ?_
    show Go p e below t T67 m 42 #[rv sa, rv ca, iv (0 : Int32), iv (2 : Int32), .val .null, rv tb_67] [(.ref sa)]
    refine XS.aload X67.here hx rfl (hb hby d7_42) rfl rfl ?_
    show Go p e below t T67 m 44 #[rv sa, rv ca, iv (0 : Int32), iv (2 : Int32), .val .null, rv tb_67] [(.ref tb_67), (.ref sa)]
    refine XS.iloadN X67.here hx rfl (hb hby d7_44) rfl ?_
    show Go p e below t T67 m 45 #[rv sa, rv ca, iv (0 : Int32), iv (2 : Int32), .val .null, rv tb_67] [(.int (2 : Int32)), (.ref tb_67), (.ref sa)]
    exact k)
  obtain ⟨_, _, ⟨T70, L70, k70, n70⟩, -, X70, ⟨Lc70, hQ70, l70, y70, z70⟩, st70⟩ := Jvm.LawKit.callS X67 hx (y := (⟨"java/lang/StringUTF16", "coderFromArrayLen", "([BI)B"⟩ : MethodName)) hown (mvT hZ (hw _ (List.mem_of_getElem? (i := 48) rfl))) (mvT hZ (hw _ (List.mem_of_getElem? (i := 49) rfl))) (mvT hZ (hw _ (List.mem_of_getElem? (i := 43) rfl))) (mvT hZ (hw _ (List.mem_of_getElem? (i := 50) rfl))) (by decide) (backOf (W := 1) (rm_cfl l Z a0 hw [] tb_67 (2 : Int32) tk_67 (((v0).toInt8.toInt32).toInt8.toInt32) (((v1).toInt8.toInt32).toInt8.toInt32) T67.heap n0 (Nat.le_trans Z0 (Nat.le_trans (Nat.le_refl _) R67_0.1)) R67_2) hZ (hw _ (List.mem_of_getElem? (i := 50) rfl)) (hw _ (List.mem_of_getElem? (i := 43) rfl)) (by decide) (by decide)) (g := (mkF m 45 #[rv sa, rv ca, iv (0 : Int32), iv (2 : Int32), .val .null, rv tb_67] [(.int (2 : Int32)), (.ref tb_67), (.ref sa)])) rfl (by rw [hml]; rfl) (argsL := [(.ref tb_67), (.int (2 : Int32))]) (rest := [(.ref sa)]) (lenOf pd6 rfl) rfl (by show 2 * 0 + _ ≤ _; exact Nat.le_of_eq rfl) (hb hby d7_45) (fun _ _ => ⟨rfl, rfl, (by decide : 1 + 0 ≤ _), (by decide : 2 + 0 ≤ _)⟩)
  dsimp only [Pt.U, Pt.locs, Pt.cells, Pt.slots] at X70 l70 y70 z70 st70 hQ70
  subst l70 y70 z70
  obtain ⟨rv_70, rfl, N70, R70_0⟩ := hQ70
  have M70 := Fr.app M67 N70
  have g71 : Goes p e below S0 (T70.setTop (mkF m 48 #[rv sa, rv ca, iv (0 : Int32), iv (2 : Int32), .val .null, rv tb_67] [(.int rv_70), (.ref sa)])) := fun t k => g69 t (st70 t k)
  obtain ⟨T72, h72, X72, e72, W72, st72⟩ := putFN X70 hx hZ hown (hw _ (List.mem_of_getElem? (i := 28) rfl)) Via.refl R70_0 (P2.keep R67_0 nin0) (P0.keep R67_0) (Or.inr ⟨(hw _ (List.mem_of_getElem? (i := 29) rfl)), rfl, hnm⟩) (hw _ (List.mem_of_getElem? (i := 14) rfl)) (ty := .byte) (v' := (.int (nar .byte rv_70))) (by decide) rfl (fits_nar_byte _) (g := (mkF m 48 #[rv sa, rv ca, iv (0 : Int32), iv (2 : Int32), .val .null, rv tb_67] [(.int rv_70), (.ref sa)])) rfl rfl (hb hby d7_48)
  have N72 := Fr.snoc X72 M70 P3
  have Fw72 := Fld.same W72 (P2.keep R67_0 nin0)
  have g73 : Goes p e below S0 (T72.setTop (mkF m 51 #[rv sa, rv ca, iv (0 : Int32), iv (2 : Int32), .val .null, rv tb_67] [])) := fun t k => g71 t (st72 t k)
  have g74 : Goes p e below S0 (T72.setTop (mkF m 54 #[rv sa, rv ca, iv (0 : Int32), iv (2 : Int32), .val .null, rv tb_67] [(.ref tb_67), (.ref sa)])) := fun t k => g73 t (by
    refine XS.aloadN X72.here hx rfl (hb hby d7_51) rfl rfl ?_
    show Go p e below t T72 m 52 #[rv sa, rv ca, iv (0 : Int32), iv (2 : Int32), .val .null, rv tb_67] [(.ref sa)]
    refine XS.aload X72.here hx rfl (hb hby d7_52) rfl rfl ?_
    show Go p e below t T72 m 54 #[rv sa, rv ca, iv (0 : Int32), iv (2 : Int32), .val .null, rv tb_67] [(.ref tb_67), (.ref sa)]
    exact k)
  obtain ⟨T75, h75, X75, e75, W75, st75⟩ := putF X72 hx hZ hown (host := "") (Or.inl (hw _ (List.mem_of_getElem? (i := 26) rfl))) Via.refl e72 ((P1.keep R67_0 nin0).other W72 (Or.inr (slot_ne (Or.inr (hw _ (List.mem_of_getElem? (i := 27) rfl))) (Or.inr (hw _ (List.mem_of_getElem? (i := 29) rfl))) (by decide) (t := (.array .byte)) (t' := .byte) (by decide) (by decide)))) ((P0.keep R67_0).wr W72) (Or.inr ⟨(hw _ (List.mem_of_getElem? (i := 27) rfl)), rfl, hnm⟩) (hw _ (List.mem_of_getElem? (i := 14) rfl)) (ty := (.array .byte)) (by decide) rfl rfl (g := (mkF m 54 #[rv sa, rv ca, iv (0 : Int32), iv (2 : Int32), .val .null, rv tb_67] [(.ref tb_67), (.ref sa)])) rfl rfl (hb hby d7_54)
  have N75 := Fr.snoc X75 N72 P3
  have Fw75 := Fld.same W75 ((P1.keep R67_0 nin0).other W72 (Or.inr (slot_ne (Or.inr (hw _ (List.mem_of_getElem? (i := 27) rfl))) (Or.inr (hw _ (List.mem_of_getElem? (i := 29) rfl))) (by decide) (t := (.array .byte)) (t' := .byte) (by decide) (by decide))))
  have g76 : Goes p e below S0 (T75.setTop (mkF m 57 #[rv sa, rv ca, iv (0 : Int32), iv (2 : Int32), .val .null, rv tb_67] [])) := fun t k => g74 t (st75 t k)
  obtain ⟨fs, hr, hrun, hended, hW, hsame⟩ := X75.leave (v := none) (fun _ => rfl)
  refine ⟨_, _, g76 _ (X75.returnOut hx Bd.returns (hb hby d7_57) hr), hrun, hended, _, _, rfl, ?_, ⟨_, rfl⟩, hW, hsame.mono (by decide) (by decide)⟩
  show Q_in4 Z sa ca (0 : Int32) (2 : Int32) kc v0 v1 cz h0 n0 _ T75.heap _
  rw [e75]
  exact ⟨rfl, N75, ((((Keep.refl h0 [sa]).trans R67_0 all0).wr W72 (Or.inl (List.mem_of_getElem? (i := 0) rfl))).wr W75 (Or.inl (List.mem_of_getElem? (i := 0) rfl)))⟩
theorem d6_0 : decode jdk_42_method_3_code 0 = .ok (.aload_n 0, 1) := by decide +kernel
theorem d6_1 : decode jdk_42_method_3_code 1 = .ok (.aload_n 1, 1) := by decide +kernel
theorem d6_2 : decode jdk_42_method_3_code 2 = .ok (.iconst 0, 1) := by decide +kernel
theorem d6_3 : decode jdk_42_method_3_code 3 = .ok (.aload_n 1, 1) := by decide +kernel
theorem d6_4 : decode jdk_42_method_3_code 4 = .ok (.arraylength, 1) := by decide +kernel
theorem d6_5 : decode jdk_42_method_3_code 5 = .ok (.aconst_null, 1) := by decide +kernel
theorem d6_6 : decode jdk_42_method_3_code 6 = .ok (.invokespecial 27, 3) := by decide +kernel
theorem d6_9 : decode jdk_42_method_3_code 9 = .ok (.return_, 1) := by decide +kernel
theorem pd8 : parseMethodDescriptor "([C)V" = some ⟨[(.array .char)], none⟩ := by decide +kernel
theorem pf_in1 : plainFor (⟨"java/lang/String", "<init>", "([C)V"⟩ : MethodName) = true := by first | exact plainFor_of_name (by first | (simp [plainName, overriddenIn, x]; done) | decide +kernel) | exact Jvm.Free.JP.mathPlain rfl (by decide +kernel) | decide +kernel
theorem ef_in1 (m : MethodId) (sa : Addr) (ca : Addr) : entryFrame m #[(.ref sa), (.ref ca)] 2 = mkF m 0 #[rv sa, rv ca] [] := by first | (simp [entryFrame, mkF, argsToLocals, Value.category, maxLocals]; done) | rfl
def Q_in1 (Z : State) (sa : Addr) (ca : Addr) (kc : ClassId) (v0 : Int32) (v1 : Int32) (cz : Int32) (h0 : Heap) (n0 : Nat) (v : Option Value) (h : Heap) (L : List Loc) : Prop := v = none ∧ Fr n0 L ∧ (Keep h0 h [sa])
set_option maxRecDepth 65536 in
set_option maxHeartbeats 40000000 in
theorem rm_in1 (l : Launch) (Z : State) (a0 : Array Value) (hw : ∀ d ∈ tables_1, d.before a0 Z = true) (ws : List Jvm.Cond) (sa : Addr) (ca : Addr) (kc : ClassId) (v0 : Int32) (v1 : Int32) (cz : Int32) (h0 : Heap) (n0 : Nat) (Z0 : n0 ≤ h0.size) (P0 : Exa Z h0 sa "java/lang/String") (P1 : Fld Z h0 sa "java/lang/String" "value" "[B" .null) (P2 : Fld Z h0 sa "java/lang/String" "coder" "B" (.int (0 : Int32))) (P3 : n0 ≤ sa) (P4 : Arv Z h0 ca kc .char (2 : Int32) [(.int v0), (.int v1)] (.int (0 : Int32))) (hv0 : ¬ ((255 : Int32) < v0)) (hv1 : ¬ ((255 : Int32) < v1)) (P7 : Sta Z h0 "java/lang/String" "COMPACT_STRINGS" "Z" (.int cz)) (hz : ¬ cz = 0)  :
    MetFree l (⟨"java/lang/String", "<init>", "([C)V"⟩ : MethodName) (head1 (Jvm.Cond.code (⟨"java/lang/String", "<init>", "([C)V"⟩ : MethodName) jdk_42_method_3_code 2 none :: ws) ({ frames := 3, cells := 1, slots := 2, locals := 57 } : Room)) (fun a U => a = #[(.ref sa), (.ref ca)] ∧ Z.Warmed39 U.vm ∧ U.heap = h0) (fun _ _ _ _ _ => True) (fun _ U o U' => ∃ v L, o = .returned v ∧ Q_in1 Z sa ca kc v0 v1 cz h0 n0 v U'.heap L ∧ FrameEnd U o U' L ({ frames := 3, cells := 1, slots := 2, locals := 57 } : Room).cells ({ frames := 3, cells := 1, slots := 2, locals := 57 } : Room).slots) := by
  refine MetFree.of_bodySF pf_in1 hisR ?_
  intro p e s m args below meth c s₁ Bd hml0 hP hK
  obtain ⟨rfl, hZ, hh⟩ := hP
  have hx := Bd.exec
  have hby := Bd.bytes
  have hml : c.maxLocals = 2 := hml0
  have hown : s.vm.findClass "java/lang/String" = some m.cls := findClass_of_methodNamed Bd.named
  have hnm := (name_of_methodNamed Bd.named Bd.method).1
  have X0 : Stand p l e ({ frames := 3, cells := 1, slots := 2, locals := 57 } : Room) s m #[(.ref sa), (.ref ca)] below meth c s₁ [] 0 0 := Stand.of_body Bd
  have e0 : s₁.heap = h0 := by rw [← hh, Bd.state]; rfl
  have N0 := Fr.nil n0
  obtain ⟨S0, hS0⟩ : ∃ z, z = s₁.setTop (entryFrame m #[(.ref sa), (.ref ca)] 2) := ⟨_, rfl⟩
  rw [← hS0]
  have g0 : Goes p e below S0 (s₁.setTop (mkF m 0 #[rv sa, rv ca] [])) := fun t k => by rw [hS0]; exact castTop (ef_in1 m sa ca) k
  have g77 : Goes p e below S0 (s₁.setTop (mkF m 4 #[rv sa, rv ca] [(.ref ca), (.int (0 : Int32)), (.ref ca), (.ref sa)])) := fun t k => g0 t (by
    refine XS.aloadN X0.here hx rfl (hb hby d6_0) rfl rfl ?_
    show Go p e below t s₁ m 1 #[rv sa, rv ca] [(.ref sa)]
    refine XS.aloadN X0.here hx rfl (hb hby d6_1) rfl rfl ?_
    show Go p e below t s₁ m 2 #[rv sa, rv ca] [(.ref ca), (.ref sa)]
    refine XT.iconstV X0.here hx rfl (0 : Int32) (hb hby d6_2) (by decide) ?_
    show Go p e below t s₁ m 3 #[rv sa, rv ca] [(.int (0 : Int32)), (.ref ca), (.ref sa)]
    refine XS.aloadN X0.here hx rfl (hb hby d6_3) rfl rfl ?_
    show Go p e below t s₁ m 4 #[rv sa, rv ca] [(.ref ca), (.int (0 : Int32)), (.ref ca), (.ref sa)]
    exact k)
  obtain ⟨cl78, Ar78, q78, S78, M78, H78, G78⟩ := id P4
  have g79 : Goes p e below S0 (s₁.setTop (mkF m 6 #[rv sa, rv ca] [.null, (.int (2 : Int32)), (.int (0 : Int32)), (.ref ca), (.ref sa)])) := fun t k => g77 t (by
    refine X0.arraylength hx (by rw [e0]; exact Ar78.1) (State.isArrayOf_alike hZ.alike Ar78.2.1) (g := (mkF m 4 #[rv sa, rv ca] [(.ref ca), (.int (0 : Int32)), (.ref ca), (.ref sa)])) rfl rfl (hb hby d6_4) _ ?_
    rw [len_of S78 M78]
    show Go p e below t s₁ m 5 #[rv sa, rv ca] [(.int (2 : Int32)), (.int (0 : Int32)), (.ref ca), (.ref sa)]
    refine XS.aconstNull X0.here hx rfl (hb hby d6_5) ?_
    show Go p e below t s₁ m 6 #[rv sa, rv ca] [.null, (.int (2 : Int32)), (.int (0 : Int32)), (.ref ca), (.ref sa)]
    exact k)
  obtain ⟨_, _, ⟨T80, L80, k80, n80⟩, -, X80, ⟨Lc80, hQ80, l80, y80, z80⟩, st80⟩ := X0.specialBack hx (y := (⟨"java/lang/String", "<init>", "([CIILjava/lang/Void;)V"⟩ : MethodName)) rfl hown (mvT hZ (hw _ (List.mem_of_getElem? (i := 38) rfl))) (mvT hZ (hw _ (List.mem_of_getElem? (i := 39) rfl))) (mvT hZ (hw _ (List.mem_of_getElem? (i := 40) rfl))) (by decide) (backOf (W := 0) (rm_in4 l Z a0 hw [] sa ca (0 : Int32) (2 : Int32) kc v0 v1 cz h0 n0 Z0 P0 P1 P2 P3 P4 hv0 hv1 P7 hz rfl rfl) hZ (hw _ (List.mem_of_getElem? (i := 40) rfl)) (hw _ (List.mem_of_getElem? (i := 6) rfl)) (by decide) (by decide)) (g := (mkF m 6 #[rv sa, rv ca] [.null, (.int (2 : Int32)), (.int (0 : Int32)), (.ref ca), (.ref sa)])) rfl (by rw [hml]; rfl) (Steps.refl _) (a := sa) (argsL := [(.ref ca), (.int (0 : Int32)), (.int (2 : Int32)), .null]) (rest := []) (lenOf pd7 rfl) rfl (by show 2 * 0 + _ ≤ _; exact Nat.le_of_eq rfl) (hb hby d6_6) (fun _ _ => ⟨rfl, e0, (by decide : 0 + 1 ≤ _), (by decide : 0 + 2 ≤ _)⟩)
  dsimp only [Pt.U, Pt.locs, Pt.cells, Pt.slots] at X80 l80 y80 z80 st80 hQ80
  subst l80 y80 z80
  obtain ⟨rfl, N80, R80_0⟩ := hQ80
  have M80 := Fr.app N0 N80
  have g81 : Goes p e below S0 (T80.setTop (mkF m 9 #[rv sa, rv ca] [])) := fun t k => g79 t (st80.trans k)
  obtain ⟨fs, hr, hrun, hended, hW, hsame⟩ := X80.leave (v := none) (fun _ => rfl)
  refine ⟨_, _, g81 _ (X80.returnOut hx Bd.returns (hb hby d6_9) hr), hrun, hended, _, _, rfl, ?_, ⟨_, rfl⟩, hW, hsame.mono (by decide) (by decide)⟩
  show Q_in1 Z sa ca kc v0 v1 cz h0 n0 _ T80.heap _
  exact ⟨rfl, M80, ((Keep.refl h0 [sa]).trans R80_0 (allS (Or.inl (List.mem_of_getElem? (i := 0) rfl)) all0))⟩
theorem d5_0 : decode prog_48_method_6_code 0 = .ok (.dload_n 1, 1) := by decide +kernel
theorem d5_1 : decode prog_48_method_6_code 1 = .ok (.dconst 0, 1) := by decide +kernel
theorem d5_2 : decode prog_48_method_6_code 2 = .ok (.dcmp .l, 1) := by decide +kernel
theorem d5_3 : decode prog_48_method_6_code 3 = .ok (.ifCond .lt 9, 3) := by decide +kernel
theorem d5_6 : decode prog_48_method_6_code 6 = .ok (.dload_n 1, 1) := by decide +kernel
theorem d5_7 : decode prog_48_method_6_code 7 = .ok (.dconst 1, 1) := by decide +kernel
theorem d5_8 : decode prog_48_method_6_code 8 = .ok (.dcmp .g, 1) := by decide +kernel
theorem d5_9 : decode prog_48_method_6_code 9 = .ok (.ifCond .le 18, 3) := by decide +kernel
theorem d5_12 : decode prog_48_method_6_code 12 = .ok (.new 11, 3) := by decide +kernel
theorem d5_15 : decode prog_48_method_6_code 15 = .ok (.dup, 1) := by decide +kernel
theorem d5_16 : decode prog_48_method_6_code 16 = .ok (.aload_n 0, 1) := by decide +kernel
theorem d5_17 : decode prog_48_method_6_code 17 = .ok (.dload_n 1, 1) := by decide +kernel
theorem d5_18 : decode prog_48_method_6_code 18 = .ok (.invokedynamic 95, 5) := by decide +kernel
theorem d5_23 : decode prog_48_method_6_code 23 = .ok (.invokespecial 17, 3) := by decide +kernel
theorem d5_26 : decode prog_48_method_6_code 26 = .ok (.athrow, 1) := by decide +kernel
theorem d5_27 : decode prog_48_method_6_code 27 = .ok (.return_, 1) := by decide +kernel
theorem pd9 : parseMethodDescriptor "(Ljava/lang/String;D)V" = some ⟨[(.object "java/lang/String"), .double], none⟩ := by decide +kernel
theorem pf_chk : plainFor (⟨"com/example/narabi/narabi/ranking/Bm25", "checkB", "(Ljava/lang/String;D)V"⟩ : MethodName) = true := by first | exact plainFor_of_name (by first | (simp [plainName, overriddenIn, x]; done) | decide +kernel) | exact Jvm.Free.JP.mathPlain rfl (by decide +kernel) | decide +kernel
theorem ef_chk (m : MethodId) (sa : Addr) (xb : UInt64) : entryFrame m #[(.ref sa), (.double xb)] 3 = mkF m 0 #[rv sa, .val (.double xb), .second] [] := by first | (simp [entryFrame, mkF, argsToLocals, Value.category, maxLocals]; done) | rfl
def Q_chk (Z : State) (sa : Addr) (xb : UInt64)  (h0 : Heap) (n0 : Nat) (v : Option Value) (h : Heap) (L : List Loc) : Prop := v = none ∧ Fr n0 L ∧ h = h0
set_option maxRecDepth 65536 in
set_option maxHeartbeats 40000000 in
theorem rm_chk (l : Launch) (Z : State) (a0 : Array Value) (hw : ∀ d ∈ tables_1, d.before a0 Z = true) (ws : List Jvm.Cond) (sa : Addr) (xb : UInt64)  (h0 : Heap) (n0 : Nat) (Z0 : n0 ≤ h0.size) (h0_ : dLe (0 : UInt64) xb) (h1_ : dLe xb (4607182418800017408 : UInt64))  :
    MetFree l (⟨"com/example/narabi/narabi/ranking/Bm25", "checkB", "(Ljava/lang/String;D)V"⟩ : MethodName) (head1 (Jvm.Cond.code (⟨"com/example/narabi/narabi/ranking/Bm25", "checkB", "(Ljava/lang/String;D)V"⟩ : MethodName) prog_48_method_6_code 3 none :: ws) ({ frames := 0, cells := 0, slots := 0, locals := 0 } : Room)) (fun a U => a = #[(.ref sa), (.double xb)] ∧ Z.Warmed39 U.vm ∧ U.heap = h0) (fun _ _ _ _ _ => True) (fun _ U o U' => ∃ v L, o = .returned v ∧ Q_chk Z sa xb  h0 n0 v U'.heap L ∧ FrameEnd U o U' L ({ frames := 0, cells := 0, slots := 0, locals := 0 } : Room).cells ({ frames := 0, cells := 0, slots := 0, locals := 0 } : Room).slots) := by
  refine MetFree.of_bodySF pf_chk hisR ?_
  intro p e s m args below meth c s₁ Bd hml0 hP hK
  obtain ⟨rfl, hZ, hh⟩ := hP
  have hx := Bd.exec
  have hby := Bd.bytes
  have hml : c.maxLocals = 3 := hml0
  have hown : s.vm.findClass "com/example/narabi/narabi/ranking/Bm25" = some m.cls := findClass_of_methodNamed Bd.named
  have hnm := (name_of_methodNamed Bd.named Bd.method).1
  have X0 : Stand p l e ({ frames := 0, cells := 0, slots := 0, locals := 0 } : Room) s m #[(.ref sa), (.double xb)] below meth c s₁ [] 0 0 := Stand.of_body Bd
  have e0 : s₁.heap = h0 := by rw [← hh, Bd.state]; rfl
  have N0 := Fr.nil n0
  obtain ⟨S0, hS0⟩ : ∃ z, z = s₁.setTop (entryFrame m #[(.ref sa), (.double xb)] 3) := ⟨_, rfl⟩
  rw [← hS0]
  have g0 : Goes p e below S0 (s₁.setTop (mkF m 0 #[rv sa, .val (.double xb), .second] [])) := fun t k => by rw [hS0]; exact castTop (ef_chk m sa xb) k
  have g82 : Goes p e below S0 (s₁.setTop (mkF m 27 #[rv sa, .val (.double xb), .second] [])) := fun t k => g0 t (by
    refine XS.dloadN X0.here hx rfl (hb hby d5_0) rfl ?_
    show Go p e below t s₁ m 1 #[rv sa, .val (.double xb), .second] [(.double xb)]
    refine XS.dconst0 X0.here hx rfl (hb hby d5_1) (v := (0 : UInt64)) rfl ?_
    show Go p e below t s₁ m 2 #[rv sa, .val (.double xb), .second] [(.double (0 : UInt64)), (.double xb)]
    refine XS.dcmpS X0.here hx rfl (hb hby d5_2) rfl rfl ?_
    show Go p e below t s₁ m 3 #[rv sa, .val (.double xb), .second] [(.int (cmpValue (FP.dcmp xb (0 : UInt64)) .l))]
    refine XS.ifNo X0.here hx rfl (hb hby d5_3) rfl (dc_l_lt_f h0_) ?_
    show Go p e below t s₁ m 6 #[rv sa, .val (.double xb), .second] []
    refine XS.dloadN X0.here hx rfl (hb hby d5_6) rfl ?_
    show Go p e below t s₁ m 7 #[rv sa, .val (.double xb), .second] [(.double xb)]
    refine XS.dconst1 X0.here hx rfl (hb hby d5_7) (v := (4607182418800017408 : UInt64)) rfl ?_
    show Go p e below t s₁ m 8 #[rv sa, .val (.double xb), .second] [(.double (4607182418800017408 : UInt64)), (.double xb)]
    refine XS.dcmpS X0.here hx rfl (hb hby d5_8) rfl rfl ?_
    show Go p e below t s₁ m 9 #[rv sa, .val (.double xb), .second] [(.int (cmpValue (FP.dcmp xb (4607182418800017408 : UInt64)) .g))]
    refine XS.ifYes X0.here hx rfl (pc0 := 9) (pc' := 27) rfl (hb hby d5_9) rfl (dc_g_le_t h1_) (by decide) (by decide) ?_
    show Go p e below t s₁ m 27 #[rv sa, .val (.double xb), .second] []
    exact k)
  obtain ⟨fs, hr, hrun, hended, hW, hsame⟩ := X0.leave (v := none) (fun _ => rfl)
  refine ⟨_, _, g82 _ (X0.returnOut hx Bd.returns (hb hby d5_27) hr), hrun, hended, _, _, rfl, ?_, ⟨_, rfl⟩, hW, hsame.mono (by decide) (by decide)⟩
  show Q_chk Z sa xb  h0 n0 _ s₁.heap _
  rw [e0]
  exact ⟨rfl, N0, rfl⟩
theorem pd10 : parseMethodDescriptor "(IIII)Z" = some ⟨[.int, .int, .int, .int], some .boolean⟩ := by decide +kernel
theorem pf_law : plainFor x = true := by first | exact plainFor_of_name (by first | (simp [plainName, overriddenIn, x]; done) | decide +kernel) | exact Jvm.Free.JP.mathPlain rfl (by decide +kernel) | decide +kernel
theorem ef_law (m : MethodId) (i0 : Int32) (i1 : Int32) (i2 : Int32) (i3 : Int32) : entryFrame m #[(.int i0), (.int i1), (.int i2), (.int i3)] maxLocals = mkF m 0 #[iv i0, iv i1, iv i2, iv i3, .unset, .unset, .unset, .unset, .unset, .unset] [] := by first | (simp [entryFrame, mkF, argsToLocals, Value.category, maxLocals]; done) | rfl
def f_law (i0 : Int32) (i1 : Int32) (i2 : Int32) (i3 : Int32) : Int32 := 1
def Q_law (Z : State) (i0 : Int32) (i1 : Int32) (i2 : Int32) (i3 : Int32) (cz : Int32) (h0 : Heap) (n0 : Nat) (v : Option Value) (h : Heap) (L : List Loc) : Prop := v = some (.int (f_law i0 i1 i2 i3)) ∧ Fr n0 L
set_option maxRecDepth 65536 in
set_option maxHeartbeats 40000000 in
theorem rm_law (l : Launch) (Z : State) (a0 : Array Value) (hw : ∀ d ∈ tables_1, d.before a0 Z = true) (ws : List Jvm.Cond) (i0 : Int32) (i1 : Int32) (i2 : Int32) (i3 : Int32) (cz : Int32) (h0 : Heap) (n0 : Nat) (Z0 : n0 ≤ h0.size) (P0 : Sta Z h0 "java/lang/String" "COMPACT_STRINGS" "Z" (.int cz)) (hz : ¬ cz = 0)  :
    MetFree l x (head1 (Jvm.Cond.code x code maxLocals ret :: ws) room_1) (fun a U => a = #[(.int i0), (.int i1), (.int i2), (.int i3)] ∧ Z.Warmed39 U.vm ∧ U.heap = h0) (fun _ _ _ _ _ => True) (fun _ U o U' => ∃ v L, o = .returned v ∧ Q_law Z i0 i1 i2 i3 cz h0 n0 v U'.heap L ∧ FrameEnd U o U' L 16 128) := by
  refine MetFree.of_bodySF pf_law hisR ?_
  intro p e s m args below meth c s₁ Bd hml0 hP hK
  obtain ⟨rfl, hZ, hh⟩ := hP
  have hx := Bd.exec
  have hby := Bd.bytes
  have hml : c.maxLocals = 10 := hml0
  have hown : s.vm.findClass "com/example/narabi/narabi/ranking/Bm25CheckBPinLaw" = some m.cls := findClass_of_methodNamed Bd.named
  have hnm := (name_of_methodNamed Bd.named Bd.method).1
  have X0 : Stand p l e room_1 s m #[(.int i0), (.int i1), (.int i2), (.int i3)] below meth c s₁ [] 0 0 := Stand.of_body Bd
  have e0 : s₁.heap = h0 := by rw [← hh, Bd.state]; rfl
  have N0 := Fr.nil n0
  obtain ⟨S0, hS0⟩ : ∃ z, z = s₁.setTop (entryFrame m #[(.int i0), (.int i1), (.int i2), (.int i3)] maxLocals) := ⟨_, rfl⟩
  rw [← hS0]
  have g0 : Goes p e below S0 (s₁.setTop (mkF m 0 #[iv i0, iv i1, iv i2, iv i3, .unset, .unset, .unset, .unset, .unset, .unset] [])) := fun t k => by rw [hS0]; exact castTop (ef_law m i0 i1 i2 i3) k
  have g83 : Goes p e below S0 (s₁.setTop (mkF m 31 #[iv i0, iv i1, iv i2, iv i3, iv (own_den i1), iv (own_num i0 i1), .val (.double (FP.ddiv (FP.i2d (own_num i0 i1)) (FP.i2d (own_den i1)))), .second, .unset, .unset] [(.int (i3 &&& (1 : Int32)))])) := fun t k => g0 t (by
    refine XS.iloadN X0.here hx rfl (hb hby at_0) rfl ?_
    show Go p e below t s₁ m 1 #[iv i0, iv i1, iv i2, iv i3, .unset, .unset, .unset, .unset, .unset, .unset] [(.int i1)]
    refine Jvm.Stand.ldcI X0 hx hown (mvT hZ (hw _ (List.mem_of_getElem? (i := 0) rfl))) (g := (mkF m 1 #[iv i0, iv i1, iv i2, iv i3, .unset, .unset, .unset, .unset, .unset, .unset] [(.int i1)])) rfl (hb hby at_1) ?_
    show Go p e below t s₁ m 3 #[iv i0, iv i1, iv i2, iv i3, .unset, .unset, .unset, .unset, .unset, .unset] [(.int (65535 : Int32)), (.int i1)]
    refine XS.iand X0.here hx rfl (hb hby at_3) rfl ?_
    show Go p e below t s₁ m 4 #[iv i0, iv i1, iv i2, iv i3, .unset, .unset, .unset, .unset, .unset, .unset] [(.int (i1 &&& (65535 : Int32)))]
    refine XT.iconstV X0.here hx rfl (1 : Int32) (hb hby at_4) (by decide) ?_
    show Go p e below t s₁ m 5 #[iv i0, iv i1, iv i2, iv i3, .unset, .unset, .unset, .unset, .unset, .unset] [(.int (1 : Int32)), (.int (i1 &&& (65535 : Int32)))]
    refine XS.iadd X0.here hx rfl (hb hby at_5) rfl ?_
    show Go p e below t s₁ m 6 #[iv i0, iv i1, iv i2, iv i3, .unset, .unset, .unset, .unset, .unset, .unset] [(.int ((i1 &&& (65535 : Int32)) + (1 : Int32)))]
    refine XS.istore X0.here hx rfl (hb hby at_6) rfl (l' := #[iv i0, iv i1, iv i2, iv i3, iv (own_den i1), .unset, .unset, .unset, .unset, .unset]) rfl ?_
    show Go p e below t s₁ m 8 #[iv i0, iv i1, iv i2, iv i3, iv (own_den i1), .unset, .unset, .unset, .unset, .unset] []
    refine XS.iloadN X0.here hx rfl (hb hby at_8) rfl ?_
    show Go p e below t s₁ m 9 #[iv i0, iv i1, iv i2, iv i3, iv (own_den i1), .unset, .unset, .unset, .unset, .unset] [(.int i0)]
    refine Jvm.Stand.ldcI X0 hx hown (mvT hZ (hw _ (List.mem_of_getElem? (i := 1) rfl))) (g := (mkF m 9 #[iv i0, iv i1, iv i2, iv i3, iv (own_den i1), .unset, .unset, .unset, .unset, .unset] [(.int i0)])) rfl (hb hby at_9) ?_
    show Go p e below t s₁ m 11 #[iv i0, iv i1, iv i2, iv i3, iv (own_den i1), .unset, .unset, .unset, .unset, .unset] [(.int (2147483647 : Int32)), (.int i0)]
    refine XS.iand X0.here hx rfl (hb hby at_11) rfl ?_
    show Go p e below t s₁ m 12 #[iv i0, iv i1, iv i2, iv i3, iv (own_den i1), .unset, .unset, .unset, .unset, .unset] [(.int (i0 &&& (2147483647 : Int32)))]
    refine XS.iload X0.here hx rfl (hb hby at_12) rfl ?_
    show Go p e below t s₁ m 14 #[iv i0, iv i1, iv i2, iv i3, iv (own_den i1), .unset, .unset, .unset, .unset, .unset] [(.int (own_den i1)), (.int (i0 &&& (2147483647 : Int32)))]
    refine XT.iconstV X0.here hx rfl (1 : Int32) (hb hby at_14) (by decide) ?_
    show Go p e below t s₁ m 15 #[iv i0, iv i1, iv i2, iv i3, iv (own_den i1), .unset, .unset, .unset, .unset, .unset] [(.int (1 : Int32)), (.int (own_den i1)), (.int (i0 &&& (2147483647 : Int32)))]
    refine XS.iadd X0.here hx rfl (hb hby at_15) rfl ?_
    show Go p e below t s₁ m 16 #[iv i0, iv i1, iv i2, iv i3, iv (own_den i1), .unset, .unset, .unset, .unset, .unset] [(.int ((own_den i1) + (1 : Int32))), (.int (i0 &&& (2147483647 : Int32)))]
    refine iremM X0 hx rfl (hb hby at_16) rfl (own_nz i1) ?_
    show Go p e below t s₁ m 17 #[iv i0, iv i1, iv i2, iv i3, iv (own_den i1), .unset, .unset, .unset, .unset, .unset] [(.int ((i0 &&& (2147483647 : Int32)) % ((own_den i1) + (1 : Int32))))]
    refine XS.istore X0.here hx rfl (hb hby at_17) rfl (l' := #[iv i0, iv i1, iv i2, iv i3, iv (own_den i1), iv (own_num i0 i1), .unset, .unset, .unset, .unset]) rfl ?_
    show Go p e below t s₁ m 19 #[iv i0, iv i1, iv i2, iv i3, iv (own_den i1), iv (own_num i0 i1), .unset, .unset, .unset, .unset] []
    refine XS.iload X0.here hx rfl (hb hby at_19) rfl ?_
    show Go p e below t s₁ m 21 #[iv i0, iv i1, iv i2, iv i3, iv (own_den i1), iv (own_num i0 i1), .unset, .unset, .unset, .unset] [(.int (own_num i0 i1))]
    refine XS.i2dS X0.here hx rfl (hb hby at_21) rfl rfl ?_
    show Go p e below t s₁ m 22 #[iv i0, iv i1, iv i2, iv i3, iv (own_den i1), iv (own_num i0 i1), .unset, .unset, .unset, .unset] [(.double (FP.i2d (own_num i0 i1)))]
    refine XS.iload X0.here hx rfl (hb hby at_22) rfl ?_
    show Go p e below t s₁ m 24 #[iv i0, iv i1, iv i2, iv i3, iv (own_den i1), iv (own_num i0 i1), .unset, .unset, .unset, .unset] [(.int (own_den i1)), (.double (FP.i2d (own_num i0 i1)))]
    refine XS.i2dS X0.here hx rfl (hb hby at_24) rfl rfl ?_
    show Go p e below t s₁ m 25 #[iv i0, iv i1, iv i2, iv i3, iv (own_den i1), iv (own_num i0 i1), .unset, .unset, .unset, .unset] [(.double (FP.i2d (own_den i1))), (.double (FP.i2d (own_num i0 i1)))]
    refine XS.ddivS X0.here hx rfl (hb hby at_25) rfl (own_nnd i0 i1) rfl ?_
    show Go p e below t s₁ m 26 #[iv i0, iv i1, iv i2, iv i3, iv (own_den i1), iv (own_num i0 i1), .unset, .unset, .unset, .unset] [(.double (FP.ddiv (FP.i2d (own_num i0 i1)) (FP.i2d (own_den i1))))]
    refine XS.dstore X0.here hx rfl (hb hby at_26) rfl (l' := #[iv i0, iv i1, iv i2, iv i3, iv (own_den i1), iv (own_num i0 i1), .val (.double (FP.ddiv (FP.i2d (own_num i0 i1)) (FP.i2d (own_den i1)))), .second, .unset, .unset]) rfl ?_
    show Go p e below t s₁ m 28 #[iv i0, iv i1, iv i2, iv i3, iv (own_den i1), iv (own_num i0 i1), .val (.double (FP.ddiv (FP.i2d (own_num i0 i1)) (FP.i2d (own_den i1)))), .second, .unset, .unset] []
    refine XS.iloadN X0.here hx rfl (hb hby at_28) rfl ?_
    show Go p e below t s₁ m 29 #[iv i0, iv i1, iv i2, iv i3, iv (own_den i1), iv (own_num i0 i1), .val (.double (FP.ddiv (FP.i2d (own_num i0 i1)) (FP.i2d (own_den i1)))), .second, .unset, .unset] [(.int i3)]
    refine XT.iconstV X0.here hx rfl (1 : Int32) (hb hby at_29) (by decide) ?_
    show Go p e below t s₁ m 30 #[iv i0, iv i1, iv i2, iv i3, iv (own_den i1), iv (own_num i0 i1), .val (.double (FP.ddiv (FP.i2d (own_num i0 i1)) (FP.i2d (own_den i1)))), .second, .unset, .unset] [(.int (1 : Int32)), (.int i3)]
    refine XS.iand X0.here hx rfl (hb hby at_30) rfl ?_
    show Go p e below t s₁ m 31 #[iv i0, iv i1, iv i2, iv i3, iv (own_den i1), iv (own_num i0 i1), .val (.double (FP.ddiv (FP.i2d (own_num i0 i1)) (FP.i2d (own_den i1)))), .second, .unset, .unset] [(.int (i3 &&& (1 : Int32)))]
    exact k)
  by_cases h84 : (i3 &&& (1 : Int32)) = 0
  · skip
    have g85 : Goes p e below S0 (s₁.setTop (mkF m 45 #[iv i0, iv i1, iv i2, iv i3, iv (own_den i1), iv (own_num i0 i1), .val (.double (FP.ddiv (FP.i2d (own_num i0 i1)) (FP.i2d (own_den i1)))), .second, .unset, .unset] [(.int (2 : Int32))])) := fun t k => g83 t (by
      refine XS.ifYes X0.here hx rfl (pc0 := 31) (pc' := 44) rfl (hb hby at_31) rfl (XT.i0_eq_t h84) (by decide) (by decide) ?_
      show Go p e below t s₁ m 44 #[iv i0, iv i1, iv i2, iv i3, iv (own_den i1), iv (own_num i0 i1), .val (.double (FP.ddiv (FP.i2d (own_num i0 i1)) (FP.i2d (own_den i1)))), .second, .unset, .unset] []
      refine XT.iconstV X0.here hx rfl (2 : Int32) (hb hby at_44) (by decide) ?_
      show Go p e below t s₁ m 45 #[iv i0, iv i1, iv i2, iv i3, iv (own_den i1), iv (own_num i0 i1), .val (.double (FP.ddiv (FP.i2d (own_num i0 i1)) (FP.i2d (own_den i1)))), .second, .unset, .unset] [(.int (2 : Int32))]
      exact k)
    obtain ⟨T86, h86, k86, X86, e86, E86, A86, st86⟩ := newP X0 hx hZ (hw _ (List.mem_of_getElem? (i := 3) rfl)) e0 (g := (mkF m 45 #[iv i0, iv i1, iv i2, iv i3, iv (own_den i1), iv (own_num i0 i1), .val (.double (FP.ddiv (FP.i2d (own_num i0 i1)) (FP.i2d (own_den i1)))), .second, .unset, .unset] [(.int (2 : Int32))])) rfl (hb hby at_45) rfl (by decide) (cap := 2) (by decide) (by decide) (by decide) (by decide)
    obtain ⟨b86, gb86⟩ : ∃ z, z = h0.size := ⟨_, rfl⟩
    have sz86 : h0.size ≤ b86 := Nat.le_trans (Nat.le_refl _) (Nat.le_of_eq gb86.symm)
    have ng86 : n0 ≤ b86 := Nat.le_trans Z0 sz86
    rw [← gb86] at A86 st86
    have V86 : Arv Z h86 b86 k86 .char (2 : Int32) [(.int (0 : Int32)), (.int (0 : Int32))] (.int (0 : Int32)) := (Arv.new A86 (by decide)).pad (pad_rep [] (.int (0 : Int32)) 2)
    have g87 : Goes p e below S0 (T86.setTop (mkF m 47 #[iv i0, iv i1, iv i2, iv i3, iv (own_den i1), iv (own_num i0 i1), .val (.double (FP.ddiv (FP.i2d (own_num i0 i1)) (FP.i2d (own_den i1)))), .second, .unset, .unset] [(.ref b86)])) := fun t k => g85 t (st86 t k)
    have g88 : Goes p e below S0 (T86.setTop (mkF m 58 #[iv i0, iv i1, iv i2, iv i3, iv (own_den i1), iv (own_num i0 i1), .val (.double (FP.ddiv (FP.i2d (own_num i0 i1)) (FP.i2d (own_den i1)))), .second, rv b86, .unset] [(.int ((i2 &&& (255 : Int32)).toUInt32.toUInt16.toUInt32.toInt32)), (.int (0 : Int32)), (.ref b86)])) := fun t k => g87 t (by
      refine XS.astore X86.here hx rfl (hb hby at_47) rfl rfl (l' := #[iv i0, iv i1, iv i2, iv i3, iv (own_den i1), iv (own_num i0 i1), .val (.double (FP.ddiv (FP.i2d (own_num i0 i1)) (FP.i2d (own_den i1)))), .second, rv b86, .unset]) rfl ?_
      show Go p e below t T86 m 49 #[iv i0, iv i1, iv i2, iv i3, iv (own_den i1), iv (own_num i0 i1), .val (.double (FP.ddiv (FP.i2d (own_num i0 i1)) (FP.i2d (own_den i1)))), .second, rv b86, .unset] []
      refine XS.aload X86.here hx rfl (hb hby at_49) rfl rfl ?_
      show Go p e below t T86 m 51 #[iv i0, iv i1, iv i2, iv i3, iv (own_den i1), iv (own_num i0 i1), .val (.double (FP.ddiv (FP.i2d (own_num i0 i1)) (FP.i2d (own_den i1)))), .second, rv b86, .unset] [(.ref b86)]
      refine XT.iconstV X86.here hx rfl (0 : Int32) (hb hby at_51) (by decide) ?_
      show Go p e below t T86 m 52 #[iv i0, iv i1, iv i2, iv i3, iv (own_den i1), iv (own_num i0 i1), .val (.double (FP.ddiv (FP.i2d (own_num i0 i1)) (FP.i2d (own_den i1)))), .second, rv b86, .unset] [(.int (0 : Int32)), (.ref b86)]
      refine XS.iloadN X86.here hx rfl (hb hby at_52) rfl ?_
      show Go p e below t T86 m 53 #[iv i0, iv i1, iv i2, iv i3, iv (own_den i1), iv (own_num i0 i1), .val (.double (FP.ddiv (FP.i2d (own_num i0 i1)) (FP.i2d (own_den i1)))), .second, rv b86, .unset] [(.int i2), (.int (0 : Int32)), (.ref b86)]
      refine XT.sipushV X86.here hx rfl (255 : Int32) (hb hby at_53) (by decide) ?_
      show Go p e below t T86 m 56 #[iv i0, iv i1, iv i2, iv i3, iv (own_den i1), iv (own_num i0 i1), .val (.double (FP.ddiv (FP.i2d (own_num i0 i1)) (FP.i2d (own_den i1)))), .second, rv b86, .unset] [(.int (255 : Int32)), (.int i2), (.int (0 : Int32)), (.ref b86)]
      refine XS.iand X86.here hx rfl (hb hby at_56) rfl ?_
      show Go p e below t T86 m 57 #[iv i0, iv i1, iv i2, iv i3, iv (own_den i1), iv (own_num i0 i1), .val (.double (FP.ddiv (FP.i2d (own_num i0 i1)) (FP.i2d (own_den i1)))), .second, rv b86, .unset] [(.int (i2 &&& (255 : Int32))), (.int (0 : Int32)), (.ref b86)]
      refine XS.i2c X86.here hx rfl (hb hby at_57) rfl ?_
      show Go p e below t T86 m 58 #[iv i0, iv i1, iv i2, iv i3, iv (own_den i1), iv (own_num i0 i1), .val (.double (FP.ddiv (FP.i2d (own_num i0 i1)) (FP.i2d (own_den i1)))), .second, rv b86, .unset] [(.int ((i2 &&& (255 : Int32)).toUInt32.toUInt16.toUInt32.toInt32)), (.int (0 : Int32)), (.ref b86)]
      exact k)
    obtain ⟨cl89, Ar89, q89, S89, M89, H89, G89⟩ := id V86
    obtain ⟨T90, h90, X90, e90, W90, st90⟩ := stC X86 hx hZ e86 Ar89 (j := (0 : Int32)) (inb_of S89 ⟨by decide, by decide⟩) (g := (mkF m 58 #[iv i0, iv i1, iv i2, iv i3, iv (own_den i1), iv (own_num i0 i1), .val (.double (FP.ddiv (FP.i2d (own_num i0 i1)) (FP.i2d (own_den i1)))), .second, rv b86, .unset] [(.int ((i2 &&& (255 : Int32)).toUInt32.toUInt16.toUInt32.toInt32)), (.int (0 : Int32)), (.ref b86)])) rfl rfl (hb hby at_58)
    have N90 := Fr.snoc X90 N0 ng86
    have V90 : Arv Z h90 b86 k86 .char (2 : Int32) [(.int (nar .char ((i2 &&& (255 : Int32)).toUInt32.toUInt16.toUInt32.toInt32))), (.int (0 : Int32))] (.int (0 : Int32)) := Arv.set Ar89 q89 S89 M89 H89 G89 (fits_nar_char _) W90 0 rfl (Nat.le_of_ble_eq_true rfl)
    have g91 : Goes p e below S0 (T90.setTop (mkF m 59 #[iv i0, iv i1, iv i2, iv i3, iv (own_den i1), iv (own_num i0 i1), .val (.double (FP.ddiv (FP.i2d (own_num i0 i1)) (FP.i2d (own_den i1)))), .second, rv b86, .unset] [])) := fun t k => g88 t (st90 t k)
    have g92 : Goes p e below S0 (T90.setTop (mkF m 71 #[iv i0, iv i1, iv i2, iv i3, iv (own_den i1), iv (own_num i0 i1), .val (.double (FP.ddiv (FP.i2d (own_num i0 i1)) (FP.i2d (own_den i1)))), .second, rv b86, .unset] [(.int (((((i2).toUInt32 >>> ((8 : Int32) &&& 31).toUInt32).toInt32) &&& (255 : Int32)).toUInt32.toUInt16.toUInt32.toInt32)), (.int (1 : Int32)), (.ref b86)])) := fun t k => g91 t (by
      refine XS.aload X90.here hx rfl (hb hby at_59) rfl rfl ?_
      show Go p e below t T90 m 61 #[iv i0, iv i1, iv i2, iv i3, iv (own_den i1), iv (own_num i0 i1), .val (.double (FP.ddiv (FP.i2d (own_num i0 i1)) (FP.i2d (own_den i1)))), .second, rv b86, .unset] [(.ref b86)]
      refine XT.iconstV X90.here hx rfl (1 : Int32) (hb hby at_61) (by decide) ?_
      show Go p e below t T90 m 62 #[iv i0, iv i1, iv i2, iv i3, iv (own_den i1), iv (own_num i0 i1), .val (.double (FP.ddiv (FP.i2d (own_num i0 i1)) (FP.i2d (own_den i1)))), .second, rv b86, .unset] [(.int (1 : Int32)), (.ref b86)]
      refine XS.iloadN X90.here hx rfl (hb hby at_62) rfl ?_
      show Go p e below t T90 m 63 #[iv i0, iv i1, iv i2, iv i3, iv (own_den i1), iv (own_num i0 i1), .val (.double (FP.ddiv (FP.i2d (own_num i0 i1)) (FP.i2d (own_den i1)))), .second, rv b86, .unset] [(.int i2), (.int (1 : Int32)), (.ref b86)]
      refine XT.bipushV X90.here hx rfl (8 : Int32) (hb hby at_63) (by decide) ?_
      show Go p e below t T90 m 65 #[iv i0, iv i1, iv i2, iv i3, iv (own_den i1), iv (own_num i0 i1), .val (.double (FP.ddiv (FP.i2d (own_num i0 i1)) (FP.i2d (own_den i1)))), .second, rv b86, .unset] [(.int (8 : Int32)), (.int i2), (.int (1 : Int32)), (.ref b86)]
      refine XS.iushr X90.here hx rfl (hb hby at_65) rfl ?_
      show Go p e below t T90 m 66 #[iv i0, iv i1, iv i2, iv i3, iv (own_den i1), iv (own_num i0 i1), .val (.double (FP.ddiv (FP.i2d (own_num i0 i1)) (FP.i2d (own_den i1)))), .second, rv b86, .unset] [(.int (((i2).toUInt32 >>> ((8 : Int32) &&& 31).toUInt32).toInt32)), (.int (1 : Int32)), (.ref b86)]
      refine XT.sipushV X90.here hx rfl (255 : Int32) (hb hby at_66) (by decide) ?_
      show Go p e below t T90 m 69 #[iv i0, iv i1, iv i2, iv i3, iv (own_den i1), iv (own_num i0 i1), .val (.double (FP.ddiv (FP.i2d (own_num i0 i1)) (FP.i2d (own_den i1)))), .second, rv b86, .unset] [(.int (255 : Int32)), (.int (((i2).toUInt32 >>> ((8 : Int32) &&& 31).toUInt32).toInt32)), (.int (1 : Int32)), (.ref b86)]
      refine XS.iand X90.here hx rfl (hb hby at_69) rfl ?_
      show Go p e below t T90 m 70 #[iv i0, iv i1, iv i2, iv i3, iv (own_den i1), iv (own_num i0 i1), .val (.double (FP.ddiv (FP.i2d (own_num i0 i1)) (FP.i2d (own_den i1)))), .second, rv b86, .unset] [(.int ((((i2).toUInt32 >>> ((8 : Int32) &&& 31).toUInt32).toInt32) &&& (255 : Int32))), (.int (1 : Int32)), (.ref b86)]
      refine XS.i2c X90.here hx rfl (hb hby at_70) rfl ?_
      show Go p e below t T90 m 71 #[iv i0, iv i1, iv i2, iv i3, iv (own_den i1), iv (own_num i0 i1), .val (.double (FP.ddiv (FP.i2d (own_num i0 i1)) (FP.i2d (own_den i1)))), .second, rv b86, .unset] [(.int (((((i2).toUInt32 >>> ((8 : Int32) &&& 31).toUInt32).toInt32) &&& (255 : Int32)).toUInt32.toUInt16.toUInt32.toInt32)), (.int (1 : Int32)), (.ref b86)]
      exact k)
    obtain ⟨cl93, Ar93, q93, S93, M93, H93, G93⟩ := id V90
    obtain ⟨T94, h94, X94, e94, W94, st94⟩ := stC X90 hx hZ e90 Ar93 (j := (1 : Int32)) (inb_of S93 ⟨by decide, by decide⟩) (g := (mkF m 71 #[iv i0, iv i1, iv i2, iv i3, iv (own_den i1), iv (own_num i0 i1), .val (.double (FP.ddiv (FP.i2d (own_num i0 i1)) (FP.i2d (own_den i1)))), .second, rv b86, .unset] [(.int (((((i2).toUInt32 >>> ((8 : Int32) &&& 31).toUInt32).toInt32) &&& (255 : Int32)).toUInt32.toUInt16.toUInt32.toInt32)), (.int (1 : Int32)), (.ref b86)])) rfl rfl (hb hby at_71)
    have N94 := Fr.snoc X94 N90 ng86
    have V94 : Arv Z h94 b86 k86 .char (2 : Int32) [(.int (nar .char ((i2 &&& (255 : Int32)).toUInt32.toUInt16.toUInt32.toInt32))), (.int (nar .char (((((i2).toUInt32 >>> ((8 : Int32) &&& 31).toUInt32).toInt32) &&& (255 : Int32)).toUInt32.toUInt16.toUInt32.toInt32)))] (.int (0 : Int32)) := Arv.set Ar93 q93 S93 M93 H93 G93 (fits_nar_char _) W94 1 rfl (Nat.le_of_ble_eq_true rfl)
    have g95 : Goes p e below S0 (T94.setTop (mkF m 72 #[iv i0, iv i1, iv i2, iv i3, iv (own_den i1), iv (own_num i0 i1), .val (.double (FP.ddiv (FP.i2d (own_num i0 i1)) (FP.i2d (own_den i1)))), .second, rv b86, .unset] [])) := fun t k => g92 t (st94 t k)
    have g96 : Goes p e below S0 (T94.setTop (mkF m 75 #[iv i0, iv i1, iv i2, iv i3, iv (own_den i1), iv (own_num i0 i1), .val (.double (FP.ddiv (FP.i2d (own_num i0 i1)) (FP.i2d (own_den i1)))), .second, rv b86, .unset] [(.int (i3 &&& (2 : Int32)))])) := fun t k => g95 t (by
      refine XS.iloadN X94.here hx rfl (hb hby at_72) rfl ?_
      show Go p e below t T94 m 73 #[iv i0, iv i1, iv i2, iv i3, iv (own_den i1), iv (own_num i0 i1), .val (.double (FP.ddiv (FP.i2d (own_num i0 i1)) (FP.i2d (own_den i1)))), .second, rv b86, .unset] [(.int i3)]
      refine XT.iconstV X94.here hx rfl (2 : Int32) (hb hby at_73) (by decide) ?_
      show Go p e below t T94 m 74 #[iv i0, iv i1, iv i2, iv i3, iv (own_den i1), iv (own_num i0 i1), .val (.double (FP.ddiv (FP.i2d (own_num i0 i1)) (FP.i2d (own_den i1)))), .second, rv b86, .unset] [(.int (2 : Int32)), (.int i3)]
      refine XS.iand X94.here hx rfl (hb hby at_74) rfl ?_
      show Go p e below t T94 m 75 #[iv i0, iv i1, iv i2, iv i3, iv (own_den i1), iv (own_num i0 i1), .val (.double (FP.ddiv (FP.i2d (own_num i0 i1)) (FP.i2d (own_den i1)))), .second, rv b86, .unset] [(.int (i3 &&& (2 : Int32)))]
      exact k)
    by_cases h97 : (i3 &&& (2 : Int32)) = 0
    · skip
      have g98 : Goes p e below S0 (T94.setTop (mkF m 93 #[iv i0, iv i1, iv i2, iv i3, iv (own_den i1), iv (own_num i0 i1), .val (.double (FP.ddiv (FP.i2d (own_num i0 i1)) (FP.i2d (own_den i1)))), .second, rv b86, .unset] [(.int (0 : Int32)), (.ref b86)])) := fun t k => g96 t (by
        refine XS.ifYes X94.here hx rfl (pc0 := 75) (pc' := 90) rfl (hb hby at_75) rfl (XT.i0_eq_t h97) (by decide) (by decide) ?_
        show Go p e below t T94 m 90 #[iv i0, iv i1, iv i2, iv i3, iv (own_den i1), iv (own_num i0 i1), .val (.double (FP.ddiv (FP.i2d (own_num i0 i1)) (FP.i2d (own_den i1)))), .second, rv b86, .unset] []
        refine XS.aload X94.here hx rfl (hb hby at_90) rfl rfl ?_
        show Go p e below t T94 m 92 #[iv i0, iv i1, iv i2, iv i3, iv (own_den i1), iv (own_num i0 i1), .val (.double (FP.ddiv (FP.i2d (own_num i0 i1)) (FP.i2d (own_den i1)))), .second, rv b86, .unset] [(.ref b86)]
        refine XT.iconstV X94.here hx rfl (0 : Int32) (hb hby at_92) (by decide) ?_
        show Go p e below t T94 m 93 #[iv i0, iv i1, iv i2, iv i3, iv (own_den i1), iv (own_num i0 i1), .val (.double (FP.ddiv (FP.i2d (own_num i0 i1)) (FP.i2d (own_den i1)))), .second, rv b86, .unset] [(.int (0 : Int32)), (.ref b86)]
        exact k)
      obtain ⟨cl99, Ar99, q99, S99, M99, H99, G99⟩ := id V94
      have g100 : Goes p e below S0 (T94.setTop (mkF m 94 #[iv i0, iv i1, iv i2, iv i3, iv (own_den i1), iv (own_num i0 i1), .val (.double (FP.ddiv (FP.i2d (own_num i0 i1)) (FP.i2d (own_den i1)))), .second, rv b86, .unset] [(.int (nar .char ((i2 &&& (255 : Int32)).toUInt32.toUInt16.toUInt32.toInt32)))])) := fun t k => g98 t (by
        refine X94.caload hx (j := (0 : Int32)) (v := (.int (nar .char ((i2 &&& (255 : Int32)).toUInt32.toUInt16.toUInt32.toInt32)))) (by rw [e94]; exact Ar99.1) (State.isArrayOf_alike hZ.alike Ar99.2.1) Ar99.2.2 (inb_of S99 ⟨by decide, by decide⟩) (H99.at (inb_of S99 ⟨by decide, by decide⟩) rfl) (g := (mkF m 93 #[iv i0, iv i1, iv i2, iv i3, iv (own_den i1), iv (own_num i0 i1), .val (.double (FP.ddiv (FP.i2d (own_num i0 i1)) (FP.i2d (own_den i1)))), .second, rv b86, .unset] [(.int (0 : Int32)), (.ref b86)])) rfl rfl (hb hby at_93) _ ?_
        show Go p e below t T94 m 94 #[iv i0, iv i1, iv i2, iv i3, iv (own_den i1), iv (own_num i0 i1), .val (.double (FP.ddiv (FP.i2d (own_num i0 i1)) (FP.i2d (own_den i1)))), .second, rv b86, .unset] [(.int (nar .char ((i2 &&& (255 : Int32)).toUInt32.toUInt16.toUInt32.toInt32)))]
        exact k)
      obtain ⟨_, _, ⟨T101, L101, k101, n101⟩, -, X101, ⟨Lc101, hQ101, l101, y101, z101⟩, st101⟩ := Jvm.LawKit.callS X94 hx (y := (⟨"java/lang/String", "valueOf", "(C)Ljava/lang/String;"⟩ : MethodName)) hown (mvT hZ (hw _ (List.mem_of_getElem? (i := 4) rfl))) (mvT hZ (hw _ (List.mem_of_getElem? (i := 5) rfl))) (mvT hZ (hw _ (List.mem_of_getElem? (i := 6) rfl))) (mvT hZ (hw _ (List.mem_of_getElem? (i := 7) rfl))) (by decide) (backOf (W := 0) (rm_vof l Z a0 hw [] (nar .char ((i2 &&& (255 : Int32)).toUInt32.toUInt16.toUInt32.toInt32)) cz h94 n0 (Nat.le_trans Z0 (Nat.le_trans (Nat.le_trans (Nat.le_trans (Nat.le_refl _) E86.1) (Nat.le_of_eq W90.size.symm)) (Nat.le_of_eq W94.size.symm))) (((P0.ext E86).wr W90).wr W94) hz (own_ch _)) hZ (hw _ (List.mem_of_getElem? (i := 7) rfl)) (hw _ (List.mem_of_getElem? (i := 6) rfl)) (by decide) (by decide)) (g := (mkF m 94 #[iv i0, iv i1, iv i2, iv i3, iv (own_den i1), iv (own_num i0 i1), .val (.double (FP.ddiv (FP.i2d (own_num i0 i1)) (FP.i2d (own_den i1)))), .second, rv b86, .unset] [(.int (nar .char ((i2 &&& (255 : Int32)).toUInt32.toUInt16.toUInt32.toInt32)))])) rfl (by rw [hml]; rfl) (argsL := [(.int (nar .char ((i2 &&& (255 : Int32)).toUInt32.toUInt16.toUInt32.toInt32)))]) (rest := []) (lenOf pd3 rfl) rfl (by show 2 * 0 + _ ≤ _; exact Nat.le_of_eq rfl) (hb hby at_94) (fun _ _ => ⟨rfl, e94, (by decide : 1 + 2 ≤ _), (by decide : 2 + 5 ≤ _)⟩)
      dsimp only [Pt.U, Pt.locs, Pt.cells, Pt.slots] at X101 l101 y101 z101 st101 hQ101
      subst l101 y101 z101
      obtain ⟨vr_101, rfl, N101, R101_0⟩ := hQ101
      have M101 := Fr.app N94 N101
      have g102 : Goes p e below S0 (T101.setTop (mkF m 97 #[iv i0, iv i1, iv i2, iv i3, iv (own_den i1), iv (own_num i0 i1), .val (.double (FP.ddiv (FP.i2d (own_num i0 i1)) (FP.i2d (own_den i1)))), .second, rv b86, .unset] [(.ref vr_101)])) := fun t k => g100 t (st101 t k)
      have g103 : Goes p e below S0 (T101.setTop (mkF m 103 #[iv i0, iv i1, iv i2, iv i3, iv (own_den i1), iv (own_num i0 i1), .val (.double (FP.ddiv (FP.i2d (own_num i0 i1)) (FP.i2d (own_den i1)))), .second, rv b86, rv vr_101] [(.double (FP.ddiv (FP.i2d (own_num i0 i1)) (FP.i2d (own_den i1)))), (.ref vr_101)])) := fun t k => g102 t (by
        refine XS.astore X101.here hx rfl (hb hby at_97) rfl rfl (l' := #[iv i0, iv i1, iv i2, iv i3, iv (own_den i1), iv (own_num i0 i1), .val (.double (FP.ddiv (FP.i2d (own_num i0 i1)) (FP.i2d (own_den i1)))), .second, rv b86, rv vr_101]) rfl ?_
        show Go p e below t T101 m 99 #[iv i0, iv i1, iv i2, iv i3, iv (own_den i1), iv (own_num i0 i1), .val (.double (FP.ddiv (FP.i2d (own_num i0 i1)) (FP.i2d (own_den i1)))), .second, rv b86, rv vr_101] []
        refine XS.aload X101.here hx rfl (hb hby at_99) rfl rfl ?_
        show Go p e below t T101 m 101 #[iv i0, iv i1, iv i2, iv i3, iv (own_den i1), iv (own_num i0 i1), .val (.double (FP.ddiv (FP.i2d (own_num i0 i1)) (FP.i2d (own_den i1)))), .second, rv b86, rv vr_101] [(.ref vr_101)]
        refine XS.dload X101.here hx rfl (hb hby at_101) rfl ?_
        show Go p e below t T101 m 103 #[iv i0, iv i1, iv i2, iv i3, iv (own_den i1), iv (own_num i0 i1), .val (.double (FP.ddiv (FP.i2d (own_num i0 i1)) (FP.i2d (own_den i1)))), .second, rv b86, rv vr_101] [(.double (FP.ddiv (FP.i2d (own_num i0 i1)) (FP.i2d (own_den i1)))), (.ref vr_101)]
        exact k)
      obtain ⟨_, _, ⟨T104, L104, k104, n104⟩, -, X104, ⟨Lc104, hQ104, l104, y104, z104⟩, st104⟩ := Jvm.LawKit.callS X101 hx (y := (⟨"com/example/narabi/narabi/ranking/Bm25", "checkB", "(Ljava/lang/String;D)V"⟩ : MethodName)) hown (mvT hZ (hw _ (List.mem_of_getElem? (i := 30) rfl))) (mvT hZ (hw _ (List.mem_of_getElem? (i := 31) rfl))) (mvT hZ (hw _ (List.mem_of_getElem? (i := 32) rfl))) (mvT hZ (hw _ (List.mem_of_getElem? (i := 33) rfl))) (by decide) (backOf (W := 0) (rm_chk l Z a0 hw [] vr_101 (FP.ddiv (FP.i2d (own_num i0 i1)) (FP.i2d (own_den i1)))  T101.heap n0 (Nat.le_trans Z0 (Nat.le_trans (Nat.le_trans (Nat.le_trans (Nat.le_trans (Nat.le_refl _) E86.1) (Nat.le_of_eq W90.size.symm)) (Nat.le_of_eq W94.size.symm)) R101_0.1)) (own_q0 i0 i1) (own_q1 i0 i1)) hZ (hw _ (List.mem_of_getElem? (i := 33) rfl)) (hw _ (List.mem_of_getElem? (i := 32) rfl)) (by decide) (by decide)) (g := (mkF m 103 #[iv i0, iv i1, iv i2, iv i3, iv (own_den i1), iv (own_num i0 i1), .val (.double (FP.ddiv (FP.i2d (own_num i0 i1)) (FP.i2d (own_den i1)))), .second, rv b86, rv vr_101] [(.double (FP.ddiv (FP.i2d (own_num i0 i1)) (FP.i2d (own_den i1)))), (.ref vr_101)])) rfl (by rw [hml]; rfl) (argsL := [(.ref vr_101), (.double (FP.ddiv (FP.i2d (own_num i0 i1)) (FP.i2d (own_den i1))))]) (rest := []) (lenOf pd9 rfl) rfl (by show 2 * 0 + _ ≤ _; exact Nat.le_of_eq rfl) (hb hby at_103) (fun _ _ => ⟨rfl, rfl, (by decide : 3 + 0 ≤ _), (by decide : 7 + 0 ≤ _)⟩)
      dsimp only [Pt.U, Pt.locs, Pt.cells, Pt.slots] at X104 l104 y104 z104 st104 hQ104
      subst l104 y104 z104
      obtain ⟨rfl, N104, R104_0⟩ := hQ104
      have M104 := Fr.app M101 N104
      have g105 : Goes p e below S0 (T104.setTop (mkF m 106 #[iv i0, iv i1, iv i2, iv i3, iv (own_den i1), iv (own_num i0 i1), .val (.double (FP.ddiv (FP.i2d (own_num i0 i1)) (FP.i2d (own_den i1)))), .second, rv b86, rv vr_101] [])) := fun t k => g103 t (st104 t k)
      have g106 : Goes p e below S0 (T104.setTop (mkF m 107 #[iv i0, iv i1, iv i2, iv i3, iv (own_den i1), iv (own_num i0 i1), .val (.double (FP.ddiv (FP.i2d (own_num i0 i1)) (FP.i2d (own_den i1)))), .second, rv b86, rv vr_101] [(.int (1 : Int32))])) := fun t k => g105 t (by
        refine XT.iconstV X104.here hx rfl (1 : Int32) (hb hby at_106) (by decide) ?_
        show Go p e below t T104 m 107 #[iv i0, iv i1, iv i2, iv i3, iv (own_den i1), iv (own_num i0 i1), .val (.double (FP.ddiv (FP.i2d (own_num i0 i1)) (FP.i2d (own_den i1)))), .second, rv b86, rv vr_101] [(.int (1 : Int32))]
        exact k)
      obtain ⟨fs, hr, hrun, hended, hW, hsame⟩ := X104.leave (v := some (.int (1 : Int32))) (fun h => by rw [Bd.returns] at h; cases h)
      refine ⟨_, _, g106 _ (retN X104 hx (t := .boolean) Bd.returns (by simp) (hb hby at_107) hr), hrun, hended, _, _, rfl, ?_, ⟨_, rfl⟩, hW, hsame.mono (by decide) (by decide)⟩
      show Q_law Z i0 i1 i2 i3 cz h0 n0 _ T104.heap _
      rw [R104_0]
      exact ⟨rfl, M104⟩
    · skip
      have g107 : Goes p e below S0 (T94.setTop (mkF m 78 #[iv i0, iv i1, iv i2, iv i3, iv (own_den i1), iv (own_num i0 i1), .val (.double (FP.ddiv (FP.i2d (own_num i0 i1)) (FP.i2d (own_den i1)))), .second, rv b86, .unset] [])) := fun t k => g96 t (by
        refine XS.ifNo X94.here hx rfl (hb hby at_75) rfl (XT.i0_eq_f h97) ?_
        show Go p e below t T94 m 78 #[iv i0, iv i1, iv i2, iv i3, iv (own_den i1), iv (own_num i0 i1), .val (.double (FP.ddiv (FP.i2d (own_num i0 i1)) (FP.i2d (own_den i1)))), .second, rv b86, .unset] []
        exact k)
      obtain ⟨T108, h108, X108, e108, E108, A108, D108, -, st108⟩ := newO X94 hx hZ hown (hw _ (List.mem_of_getElem? (i := 34) rfl)) (hw _ (List.mem_of_getElem? (i := 14) rfl)) (hw _ (List.mem_of_getElem? (i := 6) rfl)) e94 (g := (mkF m 78 #[iv i0, iv i1, iv i2, iv i3, iv (own_den i1), iv (own_num i0 i1), .val (.double (FP.ddiv (FP.i2d (own_num i0 i1)) (FP.i2d (own_den i1)))), .second, rv b86, .unset] [])) rfl (hb hby at_78) (by decide) (by decide)
      obtain ⟨b108, gb108⟩ : ∃ z, z = h94.size := ⟨_, rfl⟩
      have sz108 : h0.size ≤ b108 := Nat.le_trans (Nat.le_trans (Nat.le_trans (Nat.le_trans (Nat.le_refl _) E86.1) (Nat.le_of_eq W90.size.symm)) (Nat.le_of_eq W94.size.symm)) (Nat.le_of_eq gb108.symm)
      have ng108 : n0 ≤ b108 := Nat.le_trans Z0 sz108
      rw [← gb108] at A108 D108 st108
      have F108_109 : Fld Z h108 b108 "java/lang/String" "value" "[B" .null := D108 (Or.inr (hw _ (List.mem_of_getElem? (i := 27) rfl))) (ty := (.array .byte)) (by decide)
      have F108_110 : Fld Z h108 b108 "java/lang/String" "coder" "B" (.int (0 : Int32)) := D108 (Or.inr (hw _ (List.mem_of_getElem? (i := 29) rfl))) (ty := .byte) (by decide)
      have g111 : Goes p e below S0 (T108.setTop (mkF m 81 #[iv i0, iv i1, iv i2, iv i3, iv (own_den i1), iv (own_num i0 i1), .val (.double (FP.ddiv (FP.i2d (own_num i0 i1)) (FP.i2d (own_den i1)))), .second, rv b86, .unset] [(.ref b108)])) := fun t k => g107 t (st108 t k)
      have g112 : Goes p e below S0 (T108.setTop (mkF m 84 #[iv i0, iv i1, iv i2, iv i3, iv (own_den i1), iv (own_num i0 i1), .val (.double (FP.ddiv (FP.i2d (own_num i0 i1)) (FP.i2d (own_den i1)))), .second, rv b86, .unset] [(.ref b86), (.ref b108), (.ref b108)])) := fun t k => g111 t (by
        refine XS.dup X108.here hx rfl (hb hby at_81) rfl rfl ?_
        show Go p e below t T108 m 82 #[iv i0, iv i1, iv i2, iv i3, iv (own_den i1), iv (own_num i0 i1), .val (.double (FP.ddiv (FP.i2d (own_num i0 i1)) (FP.i2d (own_den i1)))), .second, rv b86, .unset] [(.ref b108), (.ref b108)]
        refine XS.aload X108.here hx rfl (hb hby at_82) rfl rfl ?_
        show Go p e below t T108 m 84 #[iv i0, iv i1, iv i2, iv i3, iv (own_den i1), iv (own_num i0 i1), .val (.double (FP.ddiv (FP.i2d (own_num i0 i1)) (FP.i2d (own_den i1)))), .second, rv b86, .unset] [(.ref b86), (.ref b108), (.ref b108)]
        exact k)
      obtain ⟨_, _, ⟨T113, L113, k113, n113⟩, -, X113, ⟨Lc113, hQ113, l113, y113, z113⟩, st113⟩ := X108.specialBack hx (y := (⟨"java/lang/String", "<init>", "([C)V"⟩ : MethodName)) rfl hown (mvT hZ (hw _ (List.mem_of_getElem? (i := 35) rfl))) (mvT hZ (hw _ (List.mem_of_getElem? (i := 36) rfl))) (mvT hZ (hw _ (List.mem_of_getElem? (i := 37) rfl))) (by decide) (backOf (W := 1) (rm_in1 l Z a0 hw [] b108 b86 k86 (nar .char ((i2 &&& (255 : Int32)).toUInt32.toUInt16.toUInt32.toInt32)) (nar .char (((((i2).toUInt32 >>> ((8 : Int32) &&& 31).toUInt32).toInt32) &&& (255 : Int32)).toUInt32.toUInt16.toUInt32.toInt32)) cz h108 n0 (Nat.le_trans Z0 (Nat.le_trans (Nat.le_trans (Nat.le_trans (Nat.le_trans (Nat.le_refl _) E86.1) (Nat.le_of_eq W90.size.symm)) (Nat.le_of_eq W94.size.symm)) E108.1)) A108 F108_109 F108_110 ng108 (V94.ext E108) (own_ch _) (own_ch _) ((((P0.ext E86).wr W90).wr W94).ext E108) hz) hZ (hw _ (List.mem_of_getElem? (i := 37) rfl)) (hw _ (List.mem_of_getElem? (i := 6) rfl)) (by decide) (by decide)) (g := (mkF m 84 #[iv i0, iv i1, iv i2, iv i3, iv (own_den i1), iv (own_num i0 i1), .val (.double (FP.ddiv (FP.i2d (own_num i0 i1)) (FP.i2d (own_den i1)))), .second, rv b86, .unset] [(.ref b86), (.ref b108), (.ref b108)])) rfl (by rw [hml]; rfl) (Steps.refl _) (a := b108) (argsL := [(.ref b86)]) (rest := [(.ref b108)]) (lenOf pd8 rfl) rfl (by show 2 * 0 + _ ≤ _; exact Nat.le_of_eq rfl) (hb hby at_84) (fun _ _ => ⟨rfl, e108, (by decide : 2 + 1 ≤ _), (by decide : 6 + 2 ≤ _)⟩)
      dsimp only [Pt.U, Pt.locs, Pt.cells, Pt.slots] at X113 l113 y113 z113 st113 hQ113
      subst l113 y113 z113
      obtain ⟨rfl, N113, R113_0⟩ := hQ113
      have M113 := Fr.app N94 N113
      have g114 : Goes p e below S0 (T113.setTop (mkF m 87 #[iv i0, iv i1, iv i2, iv i3, iv (own_den i1), iv (own_num i0 i1), .val (.double (FP.ddiv (FP.i2d (own_num i0 i1)) (FP.i2d (own_den i1)))), .second, rv b86, .unset] [(.ref b108)])) := fun t k => g112 t (st113.trans k)
      have g115 : Goes p e below S0 (T113.setTop (mkF m 103 #[iv i0, iv i1, iv i2, iv i3, iv (own_den i1), iv (own_num i0 i1), .val (.double (FP.ddiv (FP.i2d (own_num i0 i1)) (FP.i2d (own_den i1)))), .second, rv b86, rv b108] [(.double (FP.ddiv (FP.i2d (own_num i0 i1)) (FP.i2d (own_den i1)))), (.ref b108)])) := fun t k => g114 t (by
        refine XS.goto X113.here hx rfl (pc0 := 87) (pc' := 97) rfl (hb hby at_87) (by decide) (by decide) ?_
        show Go p e below t T113 m 97 #[iv i0, iv i1, iv i2, iv i3, iv (own_den i1), iv (own_num i0 i1), .val (.double (FP.ddiv (FP.i2d (own_num i0 i1)) (FP.i2d (own_den i1)))), .second, rv b86, .unset] [(.ref b108)]
        refine XS.astore X113.here hx rfl (hb hby at_97) rfl rfl (l' := #[iv i0, iv i1, iv i2, iv i3, iv (own_den i1), iv (own_num i0 i1), .val (.double (FP.ddiv (FP.i2d (own_num i0 i1)) (FP.i2d (own_den i1)))), .second, rv b86, rv b108]) rfl ?_
        show Go p e below t T113 m 99 #[iv i0, iv i1, iv i2, iv i3, iv (own_den i1), iv (own_num i0 i1), .val (.double (FP.ddiv (FP.i2d (own_num i0 i1)) (FP.i2d (own_den i1)))), .second, rv b86, rv b108] []
        refine XS.aload X113.here hx rfl (hb hby at_99) rfl rfl ?_
        show Go p e below t T113 m 101 #[iv i0, iv i1, iv i2, iv i3, iv (own_den i1), iv (own_num i0 i1), .val (.double (FP.ddiv (FP.i2d (own_num i0 i1)) (FP.i2d (own_den i1)))), .second, rv b86, rv b108] [(.ref b108)]
        refine XS.dload X113.here hx rfl (hb hby at_101) rfl ?_
        show Go p e below t T113 m 103 #[iv i0, iv i1, iv i2, iv i3, iv (own_den i1), iv (own_num i0 i1), .val (.double (FP.ddiv (FP.i2d (own_num i0 i1)) (FP.i2d (own_den i1)))), .second, rv b86, rv b108] [(.double (FP.ddiv (FP.i2d (own_num i0 i1)) (FP.i2d (own_den i1)))), (.ref b108)]
        exact k)
      obtain ⟨_, _, ⟨T116, L116, k116, n116⟩, -, X116, ⟨Lc116, hQ116, l116, y116, z116⟩, st116⟩ := Jvm.LawKit.callS X113 hx (y := (⟨"com/example/narabi/narabi/ranking/Bm25", "checkB", "(Ljava/lang/String;D)V"⟩ : MethodName)) hown (mvT hZ (hw _ (List.mem_of_getElem? (i := 30) rfl))) (mvT hZ (hw _ (List.mem_of_getElem? (i := 31) rfl))) (mvT hZ (hw _ (List.mem_of_getElem? (i := 32) rfl))) (mvT hZ (hw _ (List.mem_of_getElem? (i := 33) rfl))) (by decide) (backOf (W := 0) (rm_chk l Z a0 hw [] b108 (FP.ddiv (FP.i2d (own_num i0 i1)) (FP.i2d (own_den i1)))  T113.heap n0 (Nat.le_trans Z0 (Nat.le_trans (Nat.le_trans (Nat.le_trans (Nat.le_trans (Nat.le_trans (Nat.le_refl _) E86.1) (Nat.le_of_eq W90.size.symm)) (Nat.le_of_eq W94.size.symm)) E108.1) R113_0.1)) (own_q0 i0 i1) (own_q1 i0 i1)) hZ (hw _ (List.mem_of_getElem? (i := 33) rfl)) (hw _ (List.mem_of_getElem? (i := 32) rfl)) (by decide) (by decide)) (g := (mkF m 103 #[iv i0, iv i1, iv i2, iv i3, iv (own_den i1), iv (own_num i0 i1), .val (.double (FP.ddiv (FP.i2d (own_num i0 i1)) (FP.i2d (own_den i1)))), .second, rv b86, rv b108] [(.double (FP.ddiv (FP.i2d (own_num i0 i1)) (FP.i2d (own_den i1)))), (.ref b108)])) rfl (by rw [hml]; rfl) (argsL := [(.ref b108), (.double (FP.ddiv (FP.i2d (own_num i0 i1)) (FP.i2d (own_den i1))))]) (rest := []) (lenOf pd9 rfl) rfl (by show 2 * 0 + _ ≤ _; exact Nat.le_of_eq rfl) (hb hby at_103) (fun _ _ => ⟨rfl, rfl, (by decide : 3 + 0 ≤ _), (by decide : 8 + 0 ≤ _)⟩)
      dsimp only [Pt.U, Pt.locs, Pt.cells, Pt.slots] at X116 l116 y116 z116 st116 hQ116
      subst l116 y116 z116
      obtain ⟨rfl, N116, R116_0⟩ := hQ116
      have M116 := Fr.app M113 N116
      have g117 : Goes p e below S0 (T116.setTop (mkF m 106 #[iv i0, iv i1, iv i2, iv i3, iv (own_den i1), iv (own_num i0 i1), .val (.double (FP.ddiv (FP.i2d (own_num i0 i1)) (FP.i2d (own_den i1)))), .second, rv b86, rv b108] [])) := fun t k => g115 t (st116 t k)
      have g118 : Goes p e below S0 (T116.setTop (mkF m 107 #[iv i0, iv i1, iv i2, iv i3, iv (own_den i1), iv (own_num i0 i1), .val (.double (FP.ddiv (FP.i2d (own_num i0 i1)) (FP.i2d (own_den i1)))), .second, rv b86, rv b108] [(.int (1 : Int32))])) := fun t k => g117 t (by
        refine XT.iconstV X116.here hx rfl (1 : Int32) (hb hby at_106) (by decide) ?_
        show Go p e below t T116 m 107 #[iv i0, iv i1, iv i2, iv i3, iv (own_den i1), iv (own_num i0 i1), .val (.double (FP.ddiv (FP.i2d (own_num i0 i1)) (FP.i2d (own_den i1)))), .second, rv b86, rv b108] [(.int (1 : Int32))]
        exact k)
      obtain ⟨fs, hr, hrun, hended, hW, hsame⟩ := X116.leave (v := some (.int (1 : Int32))) (fun h => by rw [Bd.returns] at h; cases h)
      refine ⟨_, _, g118 _ (retN X116 hx (t := .boolean) Bd.returns (by simp) (hb hby at_107) hr), hrun, hended, _, _, rfl, ?_, ⟨_, rfl⟩, hW, hsame.mono (by decide) (by decide)⟩
      show Q_law Z i0 i1 i2 i3 cz h0 n0 _ T116.heap _
      rw [R116_0]
      exact ⟨rfl, M116⟩
  · skip
    have g119 : Goes p e below S0 (s₁.setTop (mkF m 36 #[iv i0, iv i1, iv i2, iv i3, iv (own_den i1), iv (own_num i0 i1), .val (.double (FP.ddiv (FP.i2d (own_num i0 i1)) (FP.i2d (own_den i1)))), .second, .unset, .unset] [(.int (own_num i0 i1))])) := fun t k => g83 t (by
      refine XS.ifNo X0.here hx rfl (hb hby at_31) rfl (XT.i0_eq_f h84) ?_
      show Go p e below t s₁ m 34 #[iv i0, iv i1, iv i2, iv i3, iv (own_den i1), iv (own_num i0 i1), .val (.double (FP.ddiv (FP.i2d (own_num i0 i1)) (FP.i2d (own_den i1)))), .second, .unset, .unset] []
      refine XS.iload X0.here hx rfl (hb hby at_34) rfl ?_
      show Go p e below t s₁ m 36 #[iv i0, iv i1, iv i2, iv i3, iv (own_den i1), iv (own_num i0 i1), .val (.double (FP.ddiv (FP.i2d (own_num i0 i1)) (FP.i2d (own_den i1)))), .second, .unset, .unset] [(.int (own_num i0 i1))]
      exact k)
    by_cases h120 : (own_num i0 i1) = 0
    · skip
      have g121 : Goes p e below S0 (s₁.setTop (mkF m 45 #[iv i0, iv i1, iv i2, iv i3, iv (own_den i1), iv (own_num i0 i1), .val (.double (9223372036854775808 : UInt64)), .second, .unset, .unset] [(.int (2 : Int32))])) := fun t k => g119 t (by
        refine XS.ifNo X0.here hx rfl (hb hby at_36) rfl (XT.i0_ne_f h120) ?_
        show Go p e below t s₁ m 39 #[iv i0, iv i1, iv i2, iv i3, iv (own_den i1), iv (own_num i0 i1), .val (.double (FP.ddiv (FP.i2d (own_num i0 i1)) (FP.i2d (own_den i1)))), .second, .unset, .unset] []
        refine X0.ldc2DoubleC hx hown (mvT hZ (hw _ (List.mem_of_getElem? (i := 2) rfl))) (g := (mkF m 39 #[iv i0, iv i1, iv i2, iv i3, iv (own_den i1), iv (own_num i0 i1), .val (.double (FP.ddiv (FP.i2d (own_num i0 i1)) (FP.i2d (own_den i1)))), .second, .unset, .unset] [])) rfl (hb hby at_39) _ ?_
        show Go p e below t s₁ m 42 #[iv i0, iv i1, iv i2, iv i3, iv (own_den i1), iv (own_num i0 i1), .val (.double (FP.ddiv (FP.i2d (own_num i0 i1)) (FP.i2d (own_den i1)))), .second, .unset, .unset] [(.double (9223372036854775808 : UInt64))]
        refine XS.dstore X0.here hx rfl (hb hby at_42) rfl (l' := #[iv i0, iv i1, iv i2, iv i3, iv (own_den i1), iv (own_num i0 i1), .val (.double (9223372036854775808 : UInt64)), .second, .unset, .unset]) rfl ?_
        show Go p e below t s₁ m 44 #[iv i0, iv i1, iv i2, iv i3, iv (own_den i1), iv (own_num i0 i1), .val (.double (9223372036854775808 : UInt64)), .second, .unset, .unset] []
        refine XT.iconstV X0.here hx rfl (2 : Int32) (hb hby at_44) (by decide) ?_
        show Go p e below t s₁ m 45 #[iv i0, iv i1, iv i2, iv i3, iv (own_den i1), iv (own_num i0 i1), .val (.double (9223372036854775808 : UInt64)), .second, .unset, .unset] [(.int (2 : Int32))]
        exact k)
      obtain ⟨T122, h122, k122, X122, e122, E122, A122, st122⟩ := newP X0 hx hZ (hw _ (List.mem_of_getElem? (i := 3) rfl)) e0 (g := (mkF m 45 #[iv i0, iv i1, iv i2, iv i3, iv (own_den i1), iv (own_num i0 i1), .val (.double (9223372036854775808 : UInt64)), .second, .unset, .unset] [(.int (2 : Int32))])) rfl (hb hby at_45) rfl (by decide) (cap := 2) (by decide) (by decide) (by decide) (by decide)
      obtain ⟨b122, gb122⟩ : ∃ z, z = h0.size := ⟨_, rfl⟩
      have sz122 : h0.size ≤ b122 := Nat.le_trans (Nat.le_refl _) (Nat.le_of_eq gb122.symm)
      have ng122 : n0 ≤ b122 := Nat.le_trans Z0 sz122
      rw [← gb122] at A122 st122
      have V122 : Arv Z h122 b122 k122 .char (2 : Int32) [(.int (0 : Int32)), (.int (0 : Int32))] (.int (0 : Int32)) := (Arv.new A122 (by decide)).pad (pad_rep [] (.int (0 : Int32)) 2)
      have g123 : Goes p e below S0 (T122.setTop (mkF m 47 #[iv i0, iv i1, iv i2, iv i3, iv (own_den i1), iv (own_num i0 i1), .val (.double (9223372036854775808 : UInt64)), .second, .unset, .unset] [(.ref b122)])) := fun t k => g121 t (st122 t k)
      have g124 : Goes p e below S0 (T122.setTop (mkF m 58 #[iv i0, iv i1, iv i2, iv i3, iv (own_den i1), iv (own_num i0 i1), .val (.double (9223372036854775808 : UInt64)), .second, rv b122, .unset] [(.int ((i2 &&& (255 : Int32)).toUInt32.toUInt16.toUInt32.toInt32)), (.int (0 : Int32)), (.ref b122)])) := fun t k => g123 t (by
        refine XS.astore X122.here hx rfl (hb hby at_47) rfl rfl (l' := #[iv i0, iv i1, iv i2, iv i3, iv (own_den i1), iv (own_num i0 i1), .val (.double (9223372036854775808 : UInt64)), .second, rv b122, .unset]) rfl ?_
        show Go p e below t T122 m 49 #[iv i0, iv i1, iv i2, iv i3, iv (own_den i1), iv (own_num i0 i1), .val (.double (9223372036854775808 : UInt64)), .second, rv b122, .unset] []
        refine XS.aload X122.here hx rfl (hb hby at_49) rfl rfl ?_
        show Go p e below t T122 m 51 #[iv i0, iv i1, iv i2, iv i3, iv (own_den i1), iv (own_num i0 i1), .val (.double (9223372036854775808 : UInt64)), .second, rv b122, .unset] [(.ref b122)]
        refine XT.iconstV X122.here hx rfl (0 : Int32) (hb hby at_51) (by decide) ?_
        show Go p e below t T122 m 52 #[iv i0, iv i1, iv i2, iv i3, iv (own_den i1), iv (own_num i0 i1), .val (.double (9223372036854775808 : UInt64)), .second, rv b122, .unset] [(.int (0 : Int32)), (.ref b122)]
        refine XS.iloadN X122.here hx rfl (hb hby at_52) rfl ?_
        show Go p e below t T122 m 53 #[iv i0, iv i1, iv i2, iv i3, iv (own_den i1), iv (own_num i0 i1), .val (.double (9223372036854775808 : UInt64)), .second, rv b122, .unset] [(.int i2), (.int (0 : Int32)), (.ref b122)]
        refine XT.sipushV X122.here hx rfl (255 : Int32) (hb hby at_53) (by decide) ?_
        show Go p e below t T122 m 56 #[iv i0, iv i1, iv i2, iv i3, iv (own_den i1), iv (own_num i0 i1), .val (.double (9223372036854775808 : UInt64)), .second, rv b122, .unset] [(.int (255 : Int32)), (.int i2), (.int (0 : Int32)), (.ref b122)]
        refine XS.iand X122.here hx rfl (hb hby at_56) rfl ?_
        show Go p e below t T122 m 57 #[iv i0, iv i1, iv i2, iv i3, iv (own_den i1), iv (own_num i0 i1), .val (.double (9223372036854775808 : UInt64)), .second, rv b122, .unset] [(.int (i2 &&& (255 : Int32))), (.int (0 : Int32)), (.ref b122)]
        refine XS.i2c X122.here hx rfl (hb hby at_57) rfl ?_
        show Go p e below t T122 m 58 #[iv i0, iv i1, iv i2, iv i3, iv (own_den i1), iv (own_num i0 i1), .val (.double (9223372036854775808 : UInt64)), .second, rv b122, .unset] [(.int ((i2 &&& (255 : Int32)).toUInt32.toUInt16.toUInt32.toInt32)), (.int (0 : Int32)), (.ref b122)]
        exact k)
      obtain ⟨cl125, Ar125, q125, S125, M125, H125, G125⟩ := id V122
      obtain ⟨T126, h126, X126, e126, W126, st126⟩ := stC X122 hx hZ e122 Ar125 (j := (0 : Int32)) (inb_of S125 ⟨by decide, by decide⟩) (g := (mkF m 58 #[iv i0, iv i1, iv i2, iv i3, iv (own_den i1), iv (own_num i0 i1), .val (.double (9223372036854775808 : UInt64)), .second, rv b122, .unset] [(.int ((i2 &&& (255 : Int32)).toUInt32.toUInt16.toUInt32.toInt32)), (.int (0 : Int32)), (.ref b122)])) rfl rfl (hb hby at_58)
      have N126 := Fr.snoc X126 N0 ng122
      have V126 : Arv Z h126 b122 k122 .char (2 : Int32) [(.int (nar .char ((i2 &&& (255 : Int32)).toUInt32.toUInt16.toUInt32.toInt32))), (.int (0 : Int32))] (.int (0 : Int32)) := Arv.set Ar125 q125 S125 M125 H125 G125 (fits_nar_char _) W126 0 rfl (Nat.le_of_ble_eq_true rfl)
      have g127 : Goes p e below S0 (T126.setTop (mkF m 59 #[iv i0, iv i1, iv i2, iv i3, iv (own_den i1), iv (own_num i0 i1), .val (.double (9223372036854775808 : UInt64)), .second, rv b122, .unset] [])) := fun t k => g124 t (st126 t k)
      have g128 : Goes p e below S0 (T126.setTop (mkF m 71 #[iv i0, iv i1, iv i2, iv i3, iv (own_den i1), iv (own_num i0 i1), .val (.double (9223372036854775808 : UInt64)), .second, rv b122, .unset] [(.int (((((i2).toUInt32 >>> ((8 : Int32) &&& 31).toUInt32).toInt32) &&& (255 : Int32)).toUInt32.toUInt16.toUInt32.toInt32)), (.int (1 : Int32)), (.ref b122)])) := fun t k => g127 t (by
        refine XS.aload X126.here hx rfl (hb hby at_59) rfl rfl ?_
        show Go p e below t T126 m 61 #[iv i0, iv i1, iv i2, iv i3, iv (own_den i1), iv (own_num i0 i1), .val (.double (9223372036854775808 : UInt64)), .second, rv b122, .unset] [(.ref b122)]
        refine XT.iconstV X126.here hx rfl (1 : Int32) (hb hby at_61) (by decide) ?_
        show Go p e below t T126 m 62 #[iv i0, iv i1, iv i2, iv i3, iv (own_den i1), iv (own_num i0 i1), .val (.double (9223372036854775808 : UInt64)), .second, rv b122, .unset] [(.int (1 : Int32)), (.ref b122)]
        refine XS.iloadN X126.here hx rfl (hb hby at_62) rfl ?_
        show Go p e below t T126 m 63 #[iv i0, iv i1, iv i2, iv i3, iv (own_den i1), iv (own_num i0 i1), .val (.double (9223372036854775808 : UInt64)), .second, rv b122, .unset] [(.int i2), (.int (1 : Int32)), (.ref b122)]
        refine XT.bipushV X126.here hx rfl (8 : Int32) (hb hby at_63) (by decide) ?_
        show Go p e below t T126 m 65 #[iv i0, iv i1, iv i2, iv i3, iv (own_den i1), iv (own_num i0 i1), .val (.double (9223372036854775808 : UInt64)), .second, rv b122, .unset] [(.int (8 : Int32)), (.int i2), (.int (1 : Int32)), (.ref b122)]
        refine XS.iushr X126.here hx rfl (hb hby at_65) rfl ?_
        show Go p e below t T126 m 66 #[iv i0, iv i1, iv i2, iv i3, iv (own_den i1), iv (own_num i0 i1), .val (.double (9223372036854775808 : UInt64)), .second, rv b122, .unset] [(.int (((i2).toUInt32 >>> ((8 : Int32) &&& 31).toUInt32).toInt32)), (.int (1 : Int32)), (.ref b122)]
        refine XT.sipushV X126.here hx rfl (255 : Int32) (hb hby at_66) (by decide) ?_
        show Go p e below t T126 m 69 #[iv i0, iv i1, iv i2, iv i3, iv (own_den i1), iv (own_num i0 i1), .val (.double (9223372036854775808 : UInt64)), .second, rv b122, .unset] [(.int (255 : Int32)), (.int (((i2).toUInt32 >>> ((8 : Int32) &&& 31).toUInt32).toInt32)), (.int (1 : Int32)), (.ref b122)]
        refine XS.iand X126.here hx rfl (hb hby at_69) rfl ?_
        show Go p e below t T126 m 70 #[iv i0, iv i1, iv i2, iv i3, iv (own_den i1), iv (own_num i0 i1), .val (.double (9223372036854775808 : UInt64)), .second, rv b122, .unset] [(.int ((((i2).toUInt32 >>> ((8 : Int32) &&& 31).toUInt32).toInt32) &&& (255 : Int32))), (.int (1 : Int32)), (.ref b122)]
        refine XS.i2c X126.here hx rfl (hb hby at_70) rfl ?_
        show Go p e below t T126 m 71 #[iv i0, iv i1, iv i2, iv i3, iv (own_den i1), iv (own_num i0 i1), .val (.double (9223372036854775808 : UInt64)), .second, rv b122, .unset] [(.int (((((i2).toUInt32 >>> ((8 : Int32) &&& 31).toUInt32).toInt32) &&& (255 : Int32)).toUInt32.toUInt16.toUInt32.toInt32)), (.int (1 : Int32)), (.ref b122)]
        exact k)
      obtain ⟨cl129, Ar129, q129, S129, M129, H129, G129⟩ := id V126
      obtain ⟨T130, h130, X130, e130, W130, st130⟩ := stC X126 hx hZ e126 Ar129 (j := (1 : Int32)) (inb_of S129 ⟨by decide, by decide⟩) (g := (mkF m 71 #[iv i0, iv i1, iv i2, iv i3, iv (own_den i1), iv (own_num i0 i1), .val (.double (9223372036854775808 : UInt64)), .second, rv b122, .unset] [(.int (((((i2).toUInt32 >>> ((8 : Int32) &&& 31).toUInt32).toInt32) &&& (255 : Int32)).toUInt32.toUInt16.toUInt32.toInt32)), (.int (1 : Int32)), (.ref b122)])) rfl rfl (hb hby at_71)
      have N130 := Fr.snoc X130 N126 ng122
      have V130 : Arv Z h130 b122 k122 .char (2 : Int32) [(.int (nar .char ((i2 &&& (255 : Int32)).toUInt32.toUInt16.toUInt32.toInt32))), (.int (nar .char (((((i2).toUInt32 >>> ((8 : Int32) &&& 31).toUInt32).toInt32) &&& (255 : Int32)).toUInt32.toUInt16.toUInt32.toInt32)))] (.int (0 : Int32)) := Arv.set Ar129 q129 S129 M129 H129 G129 (fits_nar_char _) W130 1 rfl (Nat.le_of_ble_eq_true rfl)
      have g131 : Goes p e below S0 (T130.setTop (mkF m 72 #[iv i0, iv i1, iv i2, iv i3, iv (own_den i1), iv (own_num i0 i1), .val (.double (9223372036854775808 : UInt64)), .second, rv b122, .unset] [])) := fun t k => g128 t (st130 t k)
      have g132 : Goes p e below S0 (T130.setTop (mkF m 75 #[iv i0, iv i1, iv i2, iv i3, iv (own_den i1), iv (own_num i0 i1), .val (.double (9223372036854775808 : UInt64)), .second, rv b122, .unset] [(.int (i3 &&& (2 : Int32)))])) := fun t k => g131 t (by
        refine XS.iloadN X130.here hx rfl (hb hby at_72) rfl ?_
        show Go p e below t T130 m 73 #[iv i0, iv i1, iv i2, iv i3, iv (own_den i1), iv (own_num i0 i1), .val (.double (9223372036854775808 : UInt64)), .second, rv b122, .unset] [(.int i3)]
        refine XT.iconstV X130.here hx rfl (2 : Int32) (hb hby at_73) (by decide) ?_
        show Go p e below t T130 m 74 #[iv i0, iv i1, iv i2, iv i3, iv (own_den i1), iv (own_num i0 i1), .val (.double (9223372036854775808 : UInt64)), .second, rv b122, .unset] [(.int (2 : Int32)), (.int i3)]
        refine XS.iand X130.here hx rfl (hb hby at_74) rfl ?_
        show Go p e below t T130 m 75 #[iv i0, iv i1, iv i2, iv i3, iv (own_den i1), iv (own_num i0 i1), .val (.double (9223372036854775808 : UInt64)), .second, rv b122, .unset] [(.int (i3 &&& (2 : Int32)))]
        exact k)
      by_cases h133 : (i3 &&& (2 : Int32)) = 0
      · skip
        have g134 : Goes p e below S0 (T130.setTop (mkF m 93 #[iv i0, iv i1, iv i2, iv i3, iv (own_den i1), iv (own_num i0 i1), .val (.double (9223372036854775808 : UInt64)), .second, rv b122, .unset] [(.int (0 : Int32)), (.ref b122)])) := fun t k => g132 t (by
          refine XS.ifYes X130.here hx rfl (pc0 := 75) (pc' := 90) rfl (hb hby at_75) rfl (XT.i0_eq_t h133) (by decide) (by decide) ?_
          show Go p e below t T130 m 90 #[iv i0, iv i1, iv i2, iv i3, iv (own_den i1), iv (own_num i0 i1), .val (.double (9223372036854775808 : UInt64)), .second, rv b122, .unset] []
          refine XS.aload X130.here hx rfl (hb hby at_90) rfl rfl ?_
          show Go p e below t T130 m 92 #[iv i0, iv i1, iv i2, iv i3, iv (own_den i1), iv (own_num i0 i1), .val (.double (9223372036854775808 : UInt64)), .second, rv b122, .unset] [(.ref b122)]
          refine XT.iconstV X130.here hx rfl (0 : Int32) (hb hby at_92) (by decide) ?_
          show Go p e below t T130 m 93 #[iv i0, iv i1, iv i2, iv i3, iv (own_den i1), iv (own_num i0 i1), .val (.double (9223372036854775808 : UInt64)), .second, rv b122, .unset] [(.int (0 : Int32)), (.ref b122)]
          exact k)
        obtain ⟨cl135, Ar135, q135, S135, M135, H135, G135⟩ := id V130
        have g136 : Goes p e below S0 (T130.setTop (mkF m 94 #[iv i0, iv i1, iv i2, iv i3, iv (own_den i1), iv (own_num i0 i1), .val (.double (9223372036854775808 : UInt64)), .second, rv b122, .unset] [(.int (nar .char ((i2 &&& (255 : Int32)).toUInt32.toUInt16.toUInt32.toInt32)))])) := fun t k => g134 t (by
          refine X130.caload hx (j := (0 : Int32)) (v := (.int (nar .char ((i2 &&& (255 : Int32)).toUInt32.toUInt16.toUInt32.toInt32)))) (by rw [e130]; exact Ar135.1) (State.isArrayOf_alike hZ.alike Ar135.2.1) Ar135.2.2 (inb_of S135 ⟨by decide, by decide⟩) (H135.at (inb_of S135 ⟨by decide, by decide⟩) rfl) (g := (mkF m 93 #[iv i0, iv i1, iv i2, iv i3, iv (own_den i1), iv (own_num i0 i1), .val (.double (9223372036854775808 : UInt64)), .second, rv b122, .unset] [(.int (0 : Int32)), (.ref b122)])) rfl rfl (hb hby at_93) _ ?_
          show Go p e below t T130 m 94 #[iv i0, iv i1, iv i2, iv i3, iv (own_den i1), iv (own_num i0 i1), .val (.double (9223372036854775808 : UInt64)), .second, rv b122, .unset] [(.int (nar .char ((i2 &&& (255 : Int32)).toUInt32.toUInt16.toUInt32.toInt32)))]
          exact k)
        obtain ⟨_, _, ⟨T137, L137, k137, n137⟩, -, X137, ⟨Lc137, hQ137, l137, y137, z137⟩, st137⟩ := Jvm.LawKit.callS X130 hx (y := (⟨"java/lang/String", "valueOf", "(C)Ljava/lang/String;"⟩ : MethodName)) hown (mvT hZ (hw _ (List.mem_of_getElem? (i := 4) rfl))) (mvT hZ (hw _ (List.mem_of_getElem? (i := 5) rfl))) (mvT hZ (hw _ (List.mem_of_getElem? (i := 6) rfl))) (mvT hZ (hw _ (List.mem_of_getElem? (i := 7) rfl))) (by decide) (backOf (W := 0) (rm_vof l Z a0 hw [] (nar .char ((i2 &&& (255 : Int32)).toUInt32.toUInt16.toUInt32.toInt32)) cz h130 n0 (Nat.le_trans Z0 (Nat.le_trans (Nat.le_trans (Nat.le_trans (Nat.le_refl _) E122.1) (Nat.le_of_eq W126.size.symm)) (Nat.le_of_eq W130.size.symm))) (((P0.ext E122).wr W126).wr W130) hz (own_ch _)) hZ (hw _ (List.mem_of_getElem? (i := 7) rfl)) (hw _ (List.mem_of_getElem? (i := 6) rfl)) (by decide) (by decide)) (g := (mkF m 94 #[iv i0, iv i1, iv i2, iv i3, iv (own_den i1), iv (own_num i0 i1), .val (.double (9223372036854775808 : UInt64)), .second, rv b122, .unset] [(.int (nar .char ((i2 &&& (255 : Int32)).toUInt32.toUInt16.toUInt32.toInt32)))])) rfl (by rw [hml]; rfl) (argsL := [(.int (nar .char ((i2 &&& (255 : Int32)).toUInt32.toUInt16.toUInt32.toInt32)))]) (rest := []) (lenOf pd3 rfl) rfl (by show 2 * 0 + _ ≤ _; exact Nat.le_of_eq rfl) (hb hby at_94) (fun _ _ => ⟨rfl, e130, (by decide : 1 + 2 ≤ _), (by decide : 2 + 5 ≤ _)⟩)
        dsimp only [Pt.U, Pt.locs, Pt.cells, Pt.slots] at X137 l137 y137 z137 st137 hQ137
        subst l137 y137 z137
        obtain ⟨vr_137, rfl, N137, R137_0⟩ := hQ137
        have M137 := Fr.app N130 N137
        have g138 : Goes p e below S0 (T137.setTop (mkF m 97 #[iv i0, iv i1, iv i2, iv i3, iv (own_den i1), iv (own_num i0 i1), .val (.double (9223372036854775808 : UInt64)), .second, rv b122, .unset] [(.ref vr_137)])) := fun t k => g136 t (st137 t k)
        have g139 : Goes p e below S0 (T137.setTop (mkF m 103 #[iv i0, iv i1, iv i2, iv i3, iv (own_den i1), iv (own_num i0 i1), .val (.double (9223372036854775808 : UInt64)), .second, rv b122, rv vr_137] [(.double (9223372036854775808 : UInt64)), (.ref vr_137)])) := fun t k => g138 t (by
          refine XS.astore X137.here hx rfl (hb hby at_97) rfl rfl (l' := #[iv i0, iv i1, iv i2, iv i3, iv (own_den i1), iv (own_num i0 i1), .val (.double (9223372036854775808 : UInt64)), .second, rv b122, rv vr_137]) rfl ?_
          show Go p e below t T137 m 99 #[iv i0, iv i1, iv i2, iv i3, iv (own_den i1), iv (own_num i0 i1), .val (.double (9223372036854775808 : UInt64)), .second, rv b122, rv vr_137] []
          refine XS.aload X137.here hx rfl (hb hby at_99) rfl rfl ?_
          show Go p e below t T137 m 101 #[iv i0, iv i1, iv i2, iv i3, iv (own_den i1), iv (own_num i0 i1), .val (.double (9223372036854775808 : UInt64)), .second, rv b122, rv vr_137] [(.ref vr_137)]
          refine XS.dload X137.here hx rfl (hb hby at_101) rfl ?_
          show Go p e below t T137 m 103 #[iv i0, iv i1, iv i2, iv i3, iv (own_den i1), iv (own_num i0 i1), .val (.double (9223372036854775808 : UInt64)), .second, rv b122, rv vr_137] [(.double (9223372036854775808 : UInt64)), (.ref vr_137)]
          exact k)
        obtain ⟨_, _, ⟨T140, L140, k140, n140⟩, -, X140, ⟨Lc140, hQ140, l140, y140, z140⟩, st140⟩ := Jvm.LawKit.callS X137 hx (y := (⟨"com/example/narabi/narabi/ranking/Bm25", "checkB", "(Ljava/lang/String;D)V"⟩ : MethodName)) hown (mvT hZ (hw _ (List.mem_of_getElem? (i := 30) rfl))) (mvT hZ (hw _ (List.mem_of_getElem? (i := 31) rfl))) (mvT hZ (hw _ (List.mem_of_getElem? (i := 32) rfl))) (mvT hZ (hw _ (List.mem_of_getElem? (i := 33) rfl))) (by decide) (backOf (W := 0) (rm_chk l Z a0 hw [] vr_137 (9223372036854775808 : UInt64)  T137.heap n0 (Nat.le_trans Z0 (Nat.le_trans (Nat.le_trans (Nat.le_trans (Nat.le_trans (Nat.le_refl _) E122.1) (Nat.le_of_eq W126.size.symm)) (Nat.le_of_eq W130.size.symm)) R137_0.1)) (by decide +kernel) (by decide +kernel)) hZ (hw _ (List.mem_of_getElem? (i := 33) rfl)) (hw _ (List.mem_of_getElem? (i := 32) rfl)) (by decide) (by decide)) (g := (mkF m 103 #[iv i0, iv i1, iv i2, iv i3, iv (own_den i1), iv (own_num i0 i1), .val (.double (9223372036854775808 : UInt64)), .second, rv b122, rv vr_137] [(.double (9223372036854775808 : UInt64)), (.ref vr_137)])) rfl (by rw [hml]; rfl) (argsL := [(.ref vr_137), (.double (9223372036854775808 : UInt64))]) (rest := []) (lenOf pd9 rfl) rfl (by show 2 * 0 + _ ≤ _; exact Nat.le_of_eq rfl) (hb hby at_103) (fun _ _ => ⟨rfl, rfl, (by decide : 3 + 0 ≤ _), (by decide : 7 + 0 ≤ _)⟩)
        dsimp only [Pt.U, Pt.locs, Pt.cells, Pt.slots] at X140 l140 y140 z140 st140 hQ140
        subst l140 y140 z140
        obtain ⟨rfl, N140, R140_0⟩ := hQ140
        have M140 := Fr.app M137 N140
        have g141 : Goes p e below S0 (T140.setTop (mkF m 106 #[iv i0, iv i1, iv i2, iv i3, iv (own_den i1), iv (own_num i0 i1), .val (.double (9223372036854775808 : UInt64)), .second, rv b122, rv vr_137] [])) := fun t k => g139 t (st140 t k)
        have g142 : Goes p e below S0 (T140.setTop (mkF m 107 #[iv i0, iv i1, iv i2, iv i3, iv (own_den i1), iv (own_num i0 i1), .val (.double (9223372036854775808 : UInt64)), .second, rv b122, rv vr_137] [(.int (1 : Int32))])) := fun t k => g141 t (by
          refine XT.iconstV X140.here hx rfl (1 : Int32) (hb hby at_106) (by decide) ?_
          show Go p e below t T140 m 107 #[iv i0, iv i1, iv i2, iv i3, iv (own_den i1), iv (own_num i0 i1), .val (.double (9223372036854775808 : UInt64)), .second, rv b122, rv vr_137] [(.int (1 : Int32))]
          exact k)
        obtain ⟨fs, hr, hrun, hended, hW, hsame⟩ := X140.leave (v := some (.int (1 : Int32))) (fun h => by rw [Bd.returns] at h; cases h)
        refine ⟨_, _, g142 _ (retN X140 hx (t := .boolean) Bd.returns (by simp) (hb hby at_107) hr), hrun, hended, _, _, rfl, ?_, ⟨_, rfl⟩, hW, hsame.mono (by decide) (by decide)⟩
        show Q_law Z i0 i1 i2 i3 cz h0 n0 _ T140.heap _
        rw [R140_0]
        exact ⟨rfl, M140⟩
      · skip
        have g143 : Goes p e below S0 (T130.setTop (mkF m 78 #[iv i0, iv i1, iv i2, iv i3, iv (own_den i1), iv (own_num i0 i1), .val (.double (9223372036854775808 : UInt64)), .second, rv b122, .unset] [])) := fun t k => g132 t (by
          refine XS.ifNo X130.here hx rfl (hb hby at_75) rfl (XT.i0_eq_f h133) ?_
          show Go p e below t T130 m 78 #[iv i0, iv i1, iv i2, iv i3, iv (own_den i1), iv (own_num i0 i1), .val (.double (9223372036854775808 : UInt64)), .second, rv b122, .unset] []
          exact k)
        obtain ⟨T144, h144, X144, e144, E144, A144, D144, -, st144⟩ := newO X130 hx hZ hown (hw _ (List.mem_of_getElem? (i := 34) rfl)) (hw _ (List.mem_of_getElem? (i := 14) rfl)) (hw _ (List.mem_of_getElem? (i := 6) rfl)) e130 (g := (mkF m 78 #[iv i0, iv i1, iv i2, iv i3, iv (own_den i1), iv (own_num i0 i1), .val (.double (9223372036854775808 : UInt64)), .second, rv b122, .unset] [])) rfl (hb hby at_78) (by decide) (by decide)
        obtain ⟨b144, gb144⟩ : ∃ z, z = h130.size := ⟨_, rfl⟩
        have sz144 : h0.size ≤ b144 := Nat.le_trans (Nat.le_trans (Nat.le_trans (Nat.le_trans (Nat.le_refl _) E122.1) (Nat.le_of_eq W126.size.symm)) (Nat.le_of_eq W130.size.symm)) (Nat.le_of_eq gb144.symm)
        have ng144 : n0 ≤ b144 := Nat.le_trans Z0 sz144
        rw [← gb144] at A144 D144 st144
        have F144_145 : Fld Z h144 b144 "java/lang/String" "value" "[B" .null := D144 (Or.inr (hw _ (List.mem_of_getElem? (i := 27) rfl))) (ty := (.array .byte)) (by decide)
        have F144_146 : Fld Z h144 b144 "java/lang/String" "coder" "B" (.int (0 : Int32)) := D144 (Or.inr (hw _ (List.mem_of_getElem? (i := 29) rfl))) (ty := .byte) (by decide)
        have g147 : Goes p e below S0 (T144.setTop (mkF m 81 #[iv i0, iv i1, iv i2, iv i3, iv (own_den i1), iv (own_num i0 i1), .val (.double (9223372036854775808 : UInt64)), .second, rv b122, .unset] [(.ref b144)])) := fun t k => g143 t (st144 t k)
        have g148 : Goes p e below S0 (T144.setTop (mkF m 84 #[iv i0, iv i1, iv i2, iv i3, iv (own_den i1), iv (own_num i0 i1), .val (.double (9223372036854775808 : UInt64)), .second, rv b122, .unset] [(.ref b122), (.ref b144), (.ref b144)])) := fun t k => g147 t (by
          refine XS.dup X144.here hx rfl (hb hby at_81) rfl rfl ?_
          show Go p e below t T144 m 82 #[iv i0, iv i1, iv i2, iv i3, iv (own_den i1), iv (own_num i0 i1), .val (.double (9223372036854775808 : UInt64)), .second, rv b122, .unset] [(.ref b144), (.ref b144)]
          refine XS.aload X144.here hx rfl (hb hby at_82) rfl rfl ?_
          show Go p e below t T144 m 84 #[iv i0, iv i1, iv i2, iv i3, iv (own_den i1), iv (own_num i0 i1), .val (.double (9223372036854775808 : UInt64)), .second, rv b122, .unset] [(.ref b122), (.ref b144), (.ref b144)]
          exact k)
        obtain ⟨_, _, ⟨T149, L149, k149, n149⟩, -, X149, ⟨Lc149, hQ149, l149, y149, z149⟩, st149⟩ := X144.specialBack hx (y := (⟨"java/lang/String", "<init>", "([C)V"⟩ : MethodName)) rfl hown (mvT hZ (hw _ (List.mem_of_getElem? (i := 35) rfl))) (mvT hZ (hw _ (List.mem_of_getElem? (i := 36) rfl))) (mvT hZ (hw _ (List.mem_of_getElem? (i := 37) rfl))) (by decide) (backOf (W := 1) (rm_in1 l Z a0 hw [] b144 b122 k122 (nar .char ((i2 &&& (255 : Int32)).toUInt32.toUInt16.toUInt32.toInt32)) (nar .char (((((i2).toUInt32 >>> ((8 : Int32) &&& 31).toUInt32).toInt32) &&& (255 : Int32)).toUInt32.toUInt16.toUInt32.toInt32)) cz h144 n0 (Nat.le_trans Z0 (Nat.le_trans (Nat.le_trans (Nat.le_trans (Nat.le_trans (Nat.le_refl _) E122.1) (Nat.le_of_eq W126.size.symm)) (Nat.le_of_eq W130.size.symm)) E144.1)) A144 F144_145 F144_146 ng144 (V130.ext E144) (own_ch _) (own_ch _) ((((P0.ext E122).wr W126).wr W130).ext E144) hz) hZ (hw _ (List.mem_of_getElem? (i := 37) rfl)) (hw _ (List.mem_of_getElem? (i := 6) rfl)) (by decide) (by decide)) (g := (mkF m 84 #[iv i0, iv i1, iv i2, iv i3, iv (own_den i1), iv (own_num i0 i1), .val (.double (9223372036854775808 : UInt64)), .second, rv b122, .unset] [(.ref b122), (.ref b144), (.ref b144)])) rfl (by rw [hml]; rfl) (Steps.refl _) (a := b144) (argsL := [(.ref b122)]) (rest := [(.ref b144)]) (lenOf pd8 rfl) rfl (by show 2 * 0 + _ ≤ _; exact Nat.le_of_eq rfl) (hb hby at_84) (fun _ _ => ⟨rfl, e144, (by decide : 2 + 1 ≤ _), (by decide : 6 + 2 ≤ _)⟩)
        dsimp only [Pt.U, Pt.locs, Pt.cells, Pt.slots] at X149 l149 y149 z149 st149 hQ149
        subst l149 y149 z149
        obtain ⟨rfl, N149, R149_0⟩ := hQ149
        have M149 := Fr.app N130 N149
        have g150 : Goes p e below S0 (T149.setTop (mkF m 87 #[iv i0, iv i1, iv i2, iv i3, iv (own_den i1), iv (own_num i0 i1), .val (.double (9223372036854775808 : UInt64)), .second, rv b122, .unset] [(.ref b144)])) := fun t k => g148 t (st149.trans k)
        have g151 : Goes p e below S0 (T149.setTop (mkF m 103 #[iv i0, iv i1, iv i2, iv i3, iv (own_den i1), iv (own_num i0 i1), .val (.double (9223372036854775808 : UInt64)), .second, rv b122, rv b144] [(.double (9223372036854775808 : UInt64)), (.ref b144)])) := fun t k => g150 t (by
          refine XS.goto X149.here hx rfl (pc0 := 87) (pc' := 97) rfl (hb hby at_87) (by decide) (by decide) ?_
          show Go p e below t T149 m 97 #[iv i0, iv i1, iv i2, iv i3, iv (own_den i1), iv (own_num i0 i1), .val (.double (9223372036854775808 : UInt64)), .second, rv b122, .unset] [(.ref b144)]
          refine XS.astore X149.here hx rfl (hb hby at_97) rfl rfl (l' := #[iv i0, iv i1, iv i2, iv i3, iv (own_den i1), iv (own_num i0 i1), .val (.double (9223372036854775808 : UInt64)), .second, rv b122, rv b144]) rfl ?_
          show Go p e below t T149 m 99 #[iv i0, iv i1, iv i2, iv i3, iv (own_den i1), iv (own_num i0 i1), .val (.double (9223372036854775808 : UInt64)), .second, rv b122, rv b144] []
          refine XS.aload X149.here hx rfl (hb hby at_99) rfl rfl ?_
          show Go p e below t T149 m 101 #[iv i0, iv i1, iv i2, iv i3, iv (own_den i1), iv (own_num i0 i1), .val (.double (9223372036854775808 : UInt64)), .second, rv b122, rv b144] [(.ref b144)]
          refine XS.dload X149.here hx rfl (hb hby at_101) rfl ?_
          show Go p e below t T149 m 103 #[iv i0, iv i1, iv i2, iv i3, iv (own_den i1), iv (own_num i0 i1), .val (.double (9223372036854775808 : UInt64)), .second, rv b122, rv b144] [(.double (9223372036854775808 : UInt64)), (.ref b144)]
          exact k)
        obtain ⟨_, _, ⟨T152, L152, k152, n152⟩, -, X152, ⟨Lc152, hQ152, l152, y152, z152⟩, st152⟩ := Jvm.LawKit.callS X149 hx (y := (⟨"com/example/narabi/narabi/ranking/Bm25", "checkB", "(Ljava/lang/String;D)V"⟩ : MethodName)) hown (mvT hZ (hw _ (List.mem_of_getElem? (i := 30) rfl))) (mvT hZ (hw _ (List.mem_of_getElem? (i := 31) rfl))) (mvT hZ (hw _ (List.mem_of_getElem? (i := 32) rfl))) (mvT hZ (hw _ (List.mem_of_getElem? (i := 33) rfl))) (by decide) (backOf (W := 0) (rm_chk l Z a0 hw [] b144 (9223372036854775808 : UInt64)  T149.heap n0 (Nat.le_trans Z0 (Nat.le_trans (Nat.le_trans (Nat.le_trans (Nat.le_trans (Nat.le_trans (Nat.le_refl _) E122.1) (Nat.le_of_eq W126.size.symm)) (Nat.le_of_eq W130.size.symm)) E144.1) R149_0.1)) (by decide +kernel) (by decide +kernel)) hZ (hw _ (List.mem_of_getElem? (i := 33) rfl)) (hw _ (List.mem_of_getElem? (i := 32) rfl)) (by decide) (by decide)) (g := (mkF m 103 #[iv i0, iv i1, iv i2, iv i3, iv (own_den i1), iv (own_num i0 i1), .val (.double (9223372036854775808 : UInt64)), .second, rv b122, rv b144] [(.double (9223372036854775808 : UInt64)), (.ref b144)])) rfl (by rw [hml]; rfl) (argsL := [(.ref b144), (.double (9223372036854775808 : UInt64))]) (rest := []) (lenOf pd9 rfl) rfl (by show 2 * 0 + _ ≤ _; exact Nat.le_of_eq rfl) (hb hby at_103) (fun _ _ => ⟨rfl, rfl, (by decide : 3 + 0 ≤ _), (by decide : 8 + 0 ≤ _)⟩)
        dsimp only [Pt.U, Pt.locs, Pt.cells, Pt.slots] at X152 l152 y152 z152 st152 hQ152
        subst l152 y152 z152
        obtain ⟨rfl, N152, R152_0⟩ := hQ152
        have M152 := Fr.app M149 N152
        have g153 : Goes p e below S0 (T152.setTop (mkF m 106 #[iv i0, iv i1, iv i2, iv i3, iv (own_den i1), iv (own_num i0 i1), .val (.double (9223372036854775808 : UInt64)), .second, rv b122, rv b144] [])) := fun t k => g151 t (st152 t k)
        have g154 : Goes p e below S0 (T152.setTop (mkF m 107 #[iv i0, iv i1, iv i2, iv i3, iv (own_den i1), iv (own_num i0 i1), .val (.double (9223372036854775808 : UInt64)), .second, rv b122, rv b144] [(.int (1 : Int32))])) := fun t k => g153 t (by
          refine XT.iconstV X152.here hx rfl (1 : Int32) (hb hby at_106) (by decide) ?_
          show Go p e below t T152 m 107 #[iv i0, iv i1, iv i2, iv i3, iv (own_den i1), iv (own_num i0 i1), .val (.double (9223372036854775808 : UInt64)), .second, rv b122, rv b144] [(.int (1 : Int32))]
          exact k)
        obtain ⟨fs, hr, hrun, hended, hW, hsame⟩ := X152.leave (v := some (.int (1 : Int32))) (fun h => by rw [Bd.returns] at h; cases h)
        refine ⟨_, _, g154 _ (retN X152 hx (t := .boolean) Bd.returns (by simp) (hb hby at_107) hr), hrun, hended, _, _, rfl, ?_, ⟨_, rfl⟩, hW, hsame.mono (by decide) (by decide)⟩
        show Q_law Z i0 i1 i2 i3 cz h0 n0 _ T152.heap _
        rw [R152_0]
        exact ⟨rfl, M152⟩
    · skip
      have g155 : Goes p e below S0 (s₁.setTop (mkF m 45 #[iv i0, iv i1, iv i2, iv i3, iv (own_den i1), iv (own_num i0 i1), .val (.double (FP.ddiv (FP.i2d (own_num i0 i1)) (FP.i2d (own_den i1)))), .second, .unset, .unset] [(.int (2 : Int32))])) := fun t k => g119 t (by
        refine XS.ifYes X0.here hx rfl (pc0 := 36) (pc' := 44) rfl (hb hby at_36) rfl (XT.i0_ne_t h120) (by decide) (by decide) ?_
        show Go p e below t s₁ m 44 #[iv i0, iv i1, iv i2, iv i3, iv (own_den i1), iv (own_num i0 i1), .val (.double (FP.ddiv (FP.i2d (own_num i0 i1)) (FP.i2d (own_den i1)))), .second, .unset, .unset] []
        refine XT.iconstV X0.here hx rfl (2 : Int32) (hb hby at_44) (by decide) ?_
        show Go p e below t s₁ m 45 #[iv i0, iv i1, iv i2, iv i3, iv (own_den i1), iv (own_num i0 i1), .val (.double (FP.ddiv (FP.i2d (own_num i0 i1)) (FP.i2d (own_den i1)))), .second, .unset, .unset] [(.int (2 : Int32))]
        exact k)
      obtain ⟨T156, h156, k156, X156, e156, E156, A156, st156⟩ := newP X0 hx hZ (hw _ (List.mem_of_getElem? (i := 3) rfl)) e0 (g := (mkF m 45 #[iv i0, iv i1, iv i2, iv i3, iv (own_den i1), iv (own_num i0 i1), .val (.double (FP.ddiv (FP.i2d (own_num i0 i1)) (FP.i2d (own_den i1)))), .second, .unset, .unset] [(.int (2 : Int32))])) rfl (hb hby at_45) rfl (by decide) (cap := 2) (by decide) (by decide) (by decide) (by decide)
      obtain ⟨b156, gb156⟩ : ∃ z, z = h0.size := ⟨_, rfl⟩
      have sz156 : h0.size ≤ b156 := Nat.le_trans (Nat.le_refl _) (Nat.le_of_eq gb156.symm)
      have ng156 : n0 ≤ b156 := Nat.le_trans Z0 sz156
      rw [← gb156] at A156 st156
      have V156 : Arv Z h156 b156 k156 .char (2 : Int32) [(.int (0 : Int32)), (.int (0 : Int32))] (.int (0 : Int32)) := (Arv.new A156 (by decide)).pad (pad_rep [] (.int (0 : Int32)) 2)
      have g157 : Goes p e below S0 (T156.setTop (mkF m 47 #[iv i0, iv i1, iv i2, iv i3, iv (own_den i1), iv (own_num i0 i1), .val (.double (FP.ddiv (FP.i2d (own_num i0 i1)) (FP.i2d (own_den i1)))), .second, .unset, .unset] [(.ref b156)])) := fun t k => g155 t (st156 t k)
      have g158 : Goes p e below S0 (T156.setTop (mkF m 58 #[iv i0, iv i1, iv i2, iv i3, iv (own_den i1), iv (own_num i0 i1), .val (.double (FP.ddiv (FP.i2d (own_num i0 i1)) (FP.i2d (own_den i1)))), .second, rv b156, .unset] [(.int ((i2 &&& (255 : Int32)).toUInt32.toUInt16.toUInt32.toInt32)), (.int (0 : Int32)), (.ref b156)])) := fun t k => g157 t (by
        refine XS.astore X156.here hx rfl (hb hby at_47) rfl rfl (l' := #[iv i0, iv i1, iv i2, iv i3, iv (own_den i1), iv (own_num i0 i1), .val (.double (FP.ddiv (FP.i2d (own_num i0 i1)) (FP.i2d (own_den i1)))), .second, rv b156, .unset]) rfl ?_
        show Go p e below t T156 m 49 #[iv i0, iv i1, iv i2, iv i3, iv (own_den i1), iv (own_num i0 i1), .val (.double (FP.ddiv (FP.i2d (own_num i0 i1)) (FP.i2d (own_den i1)))), .second, rv b156, .unset] []
        refine XS.aload X156.here hx rfl (hb hby at_49) rfl rfl ?_
        show Go p e below t T156 m 51 #[iv i0, iv i1, iv i2, iv i3, iv (own_den i1), iv (own_num i0 i1), .val (.double (FP.ddiv (FP.i2d (own_num i0 i1)) (FP.i2d (own_den i1)))), .second, rv b156, .unset] [(.ref b156)]
        refine XT.iconstV X156.here hx rfl (0 : Int32) (hb hby at_51) (by decide) ?_
        show Go p e below t T156 m 52 #[iv i0, iv i1, iv i2, iv i3, iv (own_den i1), iv (own_num i0 i1), .val (.double (FP.ddiv (FP.i2d (own_num i0 i1)) (FP.i2d (own_den i1)))), .second, rv b156, .unset] [(.int (0 : Int32)), (.ref b156)]
        refine XS.iloadN X156.here hx rfl (hb hby at_52) rfl ?_
        show Go p e below t T156 m 53 #[iv i0, iv i1, iv i2, iv i3, iv (own_den i1), iv (own_num i0 i1), .val (.double (FP.ddiv (FP.i2d (own_num i0 i1)) (FP.i2d (own_den i1)))), .second, rv b156, .unset] [(.int i2), (.int (0 : Int32)), (.ref b156)]
        refine XT.sipushV X156.here hx rfl (255 : Int32) (hb hby at_53) (by decide) ?_
        show Go p e below t T156 m 56 #[iv i0, iv i1, iv i2, iv i3, iv (own_den i1), iv (own_num i0 i1), .val (.double (FP.ddiv (FP.i2d (own_num i0 i1)) (FP.i2d (own_den i1)))), .second, rv b156, .unset] [(.int (255 : Int32)), (.int i2), (.int (0 : Int32)), (.ref b156)]
        refine XS.iand X156.here hx rfl (hb hby at_56) rfl ?_
        show Go p e below t T156 m 57 #[iv i0, iv i1, iv i2, iv i3, iv (own_den i1), iv (own_num i0 i1), .val (.double (FP.ddiv (FP.i2d (own_num i0 i1)) (FP.i2d (own_den i1)))), .second, rv b156, .unset] [(.int (i2 &&& (255 : Int32))), (.int (0 : Int32)), (.ref b156)]
        refine XS.i2c X156.here hx rfl (hb hby at_57) rfl ?_
        show Go p e below t T156 m 58 #[iv i0, iv i1, iv i2, iv i3, iv (own_den i1), iv (own_num i0 i1), .val (.double (FP.ddiv (FP.i2d (own_num i0 i1)) (FP.i2d (own_den i1)))), .second, rv b156, .unset] [(.int ((i2 &&& (255 : Int32)).toUInt32.toUInt16.toUInt32.toInt32)), (.int (0 : Int32)), (.ref b156)]
        exact k)
      obtain ⟨cl159, Ar159, q159, S159, M159, H159, G159⟩ := id V156
      obtain ⟨T160, h160, X160, e160, W160, st160⟩ := stC X156 hx hZ e156 Ar159 (j := (0 : Int32)) (inb_of S159 ⟨by decide, by decide⟩) (g := (mkF m 58 #[iv i0, iv i1, iv i2, iv i3, iv (own_den i1), iv (own_num i0 i1), .val (.double (FP.ddiv (FP.i2d (own_num i0 i1)) (FP.i2d (own_den i1)))), .second, rv b156, .unset] [(.int ((i2 &&& (255 : Int32)).toUInt32.toUInt16.toUInt32.toInt32)), (.int (0 : Int32)), (.ref b156)])) rfl rfl (hb hby at_58)
      have N160 := Fr.snoc X160 N0 ng156
      have V160 : Arv Z h160 b156 k156 .char (2 : Int32) [(.int (nar .char ((i2 &&& (255 : Int32)).toUInt32.toUInt16.toUInt32.toInt32))), (.int (0 : Int32))] (.int (0 : Int32)) := Arv.set Ar159 q159 S159 M159 H159 G159 (fits_nar_char _) W160 0 rfl (Nat.le_of_ble_eq_true rfl)
      have g161 : Goes p e below S0 (T160.setTop (mkF m 59 #[iv i0, iv i1, iv i2, iv i3, iv (own_den i1), iv (own_num i0 i1), .val (.double (FP.ddiv (FP.i2d (own_num i0 i1)) (FP.i2d (own_den i1)))), .second, rv b156, .unset] [])) := fun t k => g158 t (st160 t k)
      have g162 : Goes p e below S0 (T160.setTop (mkF m 71 #[iv i0, iv i1, iv i2, iv i3, iv (own_den i1), iv (own_num i0 i1), .val (.double (FP.ddiv (FP.i2d (own_num i0 i1)) (FP.i2d (own_den i1)))), .second, rv b156, .unset] [(.int (((((i2).toUInt32 >>> ((8 : Int32) &&& 31).toUInt32).toInt32) &&& (255 : Int32)).toUInt32.toUInt16.toUInt32.toInt32)), (.int (1 : Int32)), (.ref b156)])) := fun t k => g161 t (by
        refine XS.aload X160.here hx rfl (hb hby at_59) rfl rfl ?_
        show Go p e below t T160 m 61 #[iv i0, iv i1, iv i2, iv i3, iv (own_den i1), iv (own_num i0 i1), .val (.double (FP.ddiv (FP.i2d (own_num i0 i1)) (FP.i2d (own_den i1)))), .second, rv b156, .unset] [(.ref b156)]
        refine XT.iconstV X160.here hx rfl (1 : Int32) (hb hby at_61) (by decide) ?_
        show Go p e below t T160 m 62 #[iv i0, iv i1, iv i2, iv i3, iv (own_den i1), iv (own_num i0 i1), .val (.double (FP.ddiv (FP.i2d (own_num i0 i1)) (FP.i2d (own_den i1)))), .second, rv b156, .unset] [(.int (1 : Int32)), (.ref b156)]
        refine XS.iloadN X160.here hx rfl (hb hby at_62) rfl ?_
        show Go p e below t T160 m 63 #[iv i0, iv i1, iv i2, iv i3, iv (own_den i1), iv (own_num i0 i1), .val (.double (FP.ddiv (FP.i2d (own_num i0 i1)) (FP.i2d (own_den i1)))), .second, rv b156, .unset] [(.int i2), (.int (1 : Int32)), (.ref b156)]
        refine XT.bipushV X160.here hx rfl (8 : Int32) (hb hby at_63) (by decide) ?_
        show Go p e below t T160 m 65 #[iv i0, iv i1, iv i2, iv i3, iv (own_den i1), iv (own_num i0 i1), .val (.double (FP.ddiv (FP.i2d (own_num i0 i1)) (FP.i2d (own_den i1)))), .second, rv b156, .unset] [(.int (8 : Int32)), (.int i2), (.int (1 : Int32)), (.ref b156)]
        refine XS.iushr X160.here hx rfl (hb hby at_65) rfl ?_
        show Go p e below t T160 m 66 #[iv i0, iv i1, iv i2, iv i3, iv (own_den i1), iv (own_num i0 i1), .val (.double (FP.ddiv (FP.i2d (own_num i0 i1)) (FP.i2d (own_den i1)))), .second, rv b156, .unset] [(.int (((i2).toUInt32 >>> ((8 : Int32) &&& 31).toUInt32).toInt32)), (.int (1 : Int32)), (.ref b156)]
        refine XT.sipushV X160.here hx rfl (255 : Int32) (hb hby at_66) (by decide) ?_
        show Go p e below t T160 m 69 #[iv i0, iv i1, iv i2, iv i3, iv (own_den i1), iv (own_num i0 i1), .val (.double (FP.ddiv (FP.i2d (own_num i0 i1)) (FP.i2d (own_den i1)))), .second, rv b156, .unset] [(.int (255 : Int32)), (.int (((i2).toUInt32 >>> ((8 : Int32) &&& 31).toUInt32).toInt32)), (.int (1 : Int32)), (.ref b156)]
        refine XS.iand X160.here hx rfl (hb hby at_69) rfl ?_
        show Go p e below t T160 m 70 #[iv i0, iv i1, iv i2, iv i3, iv (own_den i1), iv (own_num i0 i1), .val (.double (FP.ddiv (FP.i2d (own_num i0 i1)) (FP.i2d (own_den i1)))), .second, rv b156, .unset] [(.int ((((i2).toUInt32 >>> ((8 : Int32) &&& 31).toUInt32).toInt32) &&& (255 : Int32))), (.int (1 : Int32)), (.ref b156)]
        refine XS.i2c X160.here hx rfl (hb hby at_70) rfl ?_
        show Go p e below t T160 m 71 #[iv i0, iv i1, iv i2, iv i3, iv (own_den i1), iv (own_num i0 i1), .val (.double (FP.ddiv (FP.i2d (own_num i0 i1)) (FP.i2d (own_den i1)))), .second, rv b156, .unset] [(.int (((((i2).toUInt32 >>> ((8 : Int32) &&& 31).toUInt32).toInt32) &&& (255 : Int32)).toUInt32.toUInt16.toUInt32.toInt32)), (.int (1 : Int32)), (.ref b156)]
        exact k)
      obtain ⟨cl163, Ar163, q163, S163, M163, H163, G163⟩ := id V160
      obtain ⟨T164, h164, X164, e164, W164, st164⟩ := stC X160 hx hZ e160 Ar163 (j := (1 : Int32)) (inb_of S163 ⟨by decide, by decide⟩) (g := (mkF m 71 #[iv i0, iv i1, iv i2, iv i3, iv (own_den i1), iv (own_num i0 i1), .val (.double (FP.ddiv (FP.i2d (own_num i0 i1)) (FP.i2d (own_den i1)))), .second, rv b156, .unset] [(.int (((((i2).toUInt32 >>> ((8 : Int32) &&& 31).toUInt32).toInt32) &&& (255 : Int32)).toUInt32.toUInt16.toUInt32.toInt32)), (.int (1 : Int32)), (.ref b156)])) rfl rfl (hb hby at_71)
      have N164 := Fr.snoc X164 N160 ng156
      have V164 : Arv Z h164 b156 k156 .char (2 : Int32) [(.int (nar .char ((i2 &&& (255 : Int32)).toUInt32.toUInt16.toUInt32.toInt32))), (.int (nar .char (((((i2).toUInt32 >>> ((8 : Int32) &&& 31).toUInt32).toInt32) &&& (255 : Int32)).toUInt32.toUInt16.toUInt32.toInt32)))] (.int (0 : Int32)) := Arv.set Ar163 q163 S163 M163 H163 G163 (fits_nar_char _) W164 1 rfl (Nat.le_of_ble_eq_true rfl)
      have g165 : Goes p e below S0 (T164.setTop (mkF m 72 #[iv i0, iv i1, iv i2, iv i3, iv (own_den i1), iv (own_num i0 i1), .val (.double (FP.ddiv (FP.i2d (own_num i0 i1)) (FP.i2d (own_den i1)))), .second, rv b156, .unset] [])) := fun t k => g162 t (st164 t k)
      have g166 : Goes p e below S0 (T164.setTop (mkF m 75 #[iv i0, iv i1, iv i2, iv i3, iv (own_den i1), iv (own_num i0 i1), .val (.double (FP.ddiv (FP.i2d (own_num i0 i1)) (FP.i2d (own_den i1)))), .second, rv b156, .unset] [(.int (i3 &&& (2 : Int32)))])) := fun t k => g165 t (by
        refine XS.iloadN X164.here hx rfl (hb hby at_72) rfl ?_
        show Go p e below t T164 m 73 #[iv i0, iv i1, iv i2, iv i3, iv (own_den i1), iv (own_num i0 i1), .val (.double (FP.ddiv (FP.i2d (own_num i0 i1)) (FP.i2d (own_den i1)))), .second, rv b156, .unset] [(.int i3)]
        refine XT.iconstV X164.here hx rfl (2 : Int32) (hb hby at_73) (by decide) ?_
        show Go p e below t T164 m 74 #[iv i0, iv i1, iv i2, iv i3, iv (own_den i1), iv (own_num i0 i1), .val (.double (FP.ddiv (FP.i2d (own_num i0 i1)) (FP.i2d (own_den i1)))), .second, rv b156, .unset] [(.int (2 : Int32)), (.int i3)]
        refine XS.iand X164.here hx rfl (hb hby at_74) rfl ?_
        show Go p e below t T164 m 75 #[iv i0, iv i1, iv i2, iv i3, iv (own_den i1), iv (own_num i0 i1), .val (.double (FP.ddiv (FP.i2d (own_num i0 i1)) (FP.i2d (own_den i1)))), .second, rv b156, .unset] [(.int (i3 &&& (2 : Int32)))]
        exact k)
      by_cases h167 : (i3 &&& (2 : Int32)) = 0
      · skip
        have g168 : Goes p e below S0 (T164.setTop (mkF m 93 #[iv i0, iv i1, iv i2, iv i3, iv (own_den i1), iv (own_num i0 i1), .val (.double (FP.ddiv (FP.i2d (own_num i0 i1)) (FP.i2d (own_den i1)))), .second, rv b156, .unset] [(.int (0 : Int32)), (.ref b156)])) := fun t k => g166 t (by
          refine XS.ifYes X164.here hx rfl (pc0 := 75) (pc' := 90) rfl (hb hby at_75) rfl (XT.i0_eq_t h167) (by decide) (by decide) ?_
          show Go p e below t T164 m 90 #[iv i0, iv i1, iv i2, iv i3, iv (own_den i1), iv (own_num i0 i1), .val (.double (FP.ddiv (FP.i2d (own_num i0 i1)) (FP.i2d (own_den i1)))), .second, rv b156, .unset] []
          refine XS.aload X164.here hx rfl (hb hby at_90) rfl rfl ?_
          show Go p e below t T164 m 92 #[iv i0, iv i1, iv i2, iv i3, iv (own_den i1), iv (own_num i0 i1), .val (.double (FP.ddiv (FP.i2d (own_num i0 i1)) (FP.i2d (own_den i1)))), .second, rv b156, .unset] [(.ref b156)]
          refine XT.iconstV X164.here hx rfl (0 : Int32) (hb hby at_92) (by decide) ?_
          show Go p e below t T164 m 93 #[iv i0, iv i1, iv i2, iv i3, iv (own_den i1), iv (own_num i0 i1), .val (.double (FP.ddiv (FP.i2d (own_num i0 i1)) (FP.i2d (own_den i1)))), .second, rv b156, .unset] [(.int (0 : Int32)), (.ref b156)]
          exact k)
        obtain ⟨cl169, Ar169, q169, S169, M169, H169, G169⟩ := id V164
        have g170 : Goes p e below S0 (T164.setTop (mkF m 94 #[iv i0, iv i1, iv i2, iv i3, iv (own_den i1), iv (own_num i0 i1), .val (.double (FP.ddiv (FP.i2d (own_num i0 i1)) (FP.i2d (own_den i1)))), .second, rv b156, .unset] [(.int (nar .char ((i2 &&& (255 : Int32)).toUInt32.toUInt16.toUInt32.toInt32)))])) := fun t k => g168 t (by
          refine X164.caload hx (j := (0 : Int32)) (v := (.int (nar .char ((i2 &&& (255 : Int32)).toUInt32.toUInt16.toUInt32.toInt32)))) (by rw [e164]; exact Ar169.1) (State.isArrayOf_alike hZ.alike Ar169.2.1) Ar169.2.2 (inb_of S169 ⟨by decide, by decide⟩) (H169.at (inb_of S169 ⟨by decide, by decide⟩) rfl) (g := (mkF m 93 #[iv i0, iv i1, iv i2, iv i3, iv (own_den i1), iv (own_num i0 i1), .val (.double (FP.ddiv (FP.i2d (own_num i0 i1)) (FP.i2d (own_den i1)))), .second, rv b156, .unset] [(.int (0 : Int32)), (.ref b156)])) rfl rfl (hb hby at_93) _ ?_
          show Go p e below t T164 m 94 #[iv i0, iv i1, iv i2, iv i3, iv (own_den i1), iv (own_num i0 i1), .val (.double (FP.ddiv (FP.i2d (own_num i0 i1)) (FP.i2d (own_den i1)))), .second, rv b156, .unset] [(.int (nar .char ((i2 &&& (255 : Int32)).toUInt32.toUInt16.toUInt32.toInt32)))]
          exact k)
        obtain ⟨_, _, ⟨T171, L171, k171, n171⟩, -, X171, ⟨Lc171, hQ171, l171, y171, z171⟩, st171⟩ := Jvm.LawKit.callS X164 hx (y := (⟨"java/lang/String", "valueOf", "(C)Ljava/lang/String;"⟩ : MethodName)) hown (mvT hZ (hw _ (List.mem_of_getElem? (i := 4) rfl))) (mvT hZ (hw _ (List.mem_of_getElem? (i := 5) rfl))) (mvT hZ (hw _ (List.mem_of_getElem? (i := 6) rfl))) (mvT hZ (hw _ (List.mem_of_getElem? (i := 7) rfl))) (by decide) (backOf (W := 0) (rm_vof l Z a0 hw [] (nar .char ((i2 &&& (255 : Int32)).toUInt32.toUInt16.toUInt32.toInt32)) cz h164 n0 (Nat.le_trans Z0 (Nat.le_trans (Nat.le_trans (Nat.le_trans (Nat.le_refl _) E156.1) (Nat.le_of_eq W160.size.symm)) (Nat.le_of_eq W164.size.symm))) (((P0.ext E156).wr W160).wr W164) hz (own_ch _)) hZ (hw _ (List.mem_of_getElem? (i := 7) rfl)) (hw _ (List.mem_of_getElem? (i := 6) rfl)) (by decide) (by decide)) (g := (mkF m 94 #[iv i0, iv i1, iv i2, iv i3, iv (own_den i1), iv (own_num i0 i1), .val (.double (FP.ddiv (FP.i2d (own_num i0 i1)) (FP.i2d (own_den i1)))), .second, rv b156, .unset] [(.int (nar .char ((i2 &&& (255 : Int32)).toUInt32.toUInt16.toUInt32.toInt32)))])) rfl (by rw [hml]; rfl) (argsL := [(.int (nar .char ((i2 &&& (255 : Int32)).toUInt32.toUInt16.toUInt32.toInt32)))]) (rest := []) (lenOf pd3 rfl) rfl (by show 2 * 0 + _ ≤ _; exact Nat.le_of_eq rfl) (hb hby at_94) (fun _ _ => ⟨rfl, e164, (by decide : 1 + 2 ≤ _), (by decide : 2 + 5 ≤ _)⟩)
        dsimp only [Pt.U, Pt.locs, Pt.cells, Pt.slots] at X171 l171 y171 z171 st171 hQ171
        subst l171 y171 z171
        obtain ⟨vr_171, rfl, N171, R171_0⟩ := hQ171
        have M171 := Fr.app N164 N171
        have g172 : Goes p e below S0 (T171.setTop (mkF m 97 #[iv i0, iv i1, iv i2, iv i3, iv (own_den i1), iv (own_num i0 i1), .val (.double (FP.ddiv (FP.i2d (own_num i0 i1)) (FP.i2d (own_den i1)))), .second, rv b156, .unset] [(.ref vr_171)])) := fun t k => g170 t (st171 t k)
        have g173 : Goes p e below S0 (T171.setTop (mkF m 103 #[iv i0, iv i1, iv i2, iv i3, iv (own_den i1), iv (own_num i0 i1), .val (.double (FP.ddiv (FP.i2d (own_num i0 i1)) (FP.i2d (own_den i1)))), .second, rv b156, rv vr_171] [(.double (FP.ddiv (FP.i2d (own_num i0 i1)) (FP.i2d (own_den i1)))), (.ref vr_171)])) := fun t k => g172 t (by
          refine XS.astore X171.here hx rfl (hb hby at_97) rfl rfl (l' := #[iv i0, iv i1, iv i2, iv i3, iv (own_den i1), iv (own_num i0 i1), .val (.double (FP.ddiv (FP.i2d (own_num i0 i1)) (FP.i2d (own_den i1)))), .second, rv b156, rv vr_171]) rfl ?_
          show Go p e below t T171 m 99 #[iv i0, iv i1, iv i2, iv i3, iv (own_den i1), iv (own_num i0 i1), .val (.double (FP.ddiv (FP.i2d (own_num i0 i1)) (FP.i2d (own_den i1)))), .second, rv b156, rv vr_171] []
          refine XS.aload X171.here hx rfl (hb hby at_99) rfl rfl ?_
          show Go p e below t T171 m 101 #[iv i0, iv i1, iv i2, iv i3, iv (own_den i1), iv (own_num i0 i1), .val (.double (FP.ddiv (FP.i2d (own_num i0 i1)) (FP.i2d (own_den i1)))), .second, rv b156, rv vr_171] [(.ref vr_171)]
          refine XS.dload X171.here hx rfl (hb hby at_101) rfl ?_
          show Go p e below t T171 m 103 #[iv i0, iv i1, iv i2, iv i3, iv (own_den i1), iv (own_num i0 i1), .val (.double (FP.ddiv (FP.i2d (own_num i0 i1)) (FP.i2d (own_den i1)))), .second, rv b156, rv vr_171] [(.double (FP.ddiv (FP.i2d (own_num i0 i1)) (FP.i2d (own_den i1)))), (.ref vr_171)]
          exact k)
        obtain ⟨_, _, ⟨T174, L174, k174, n174⟩, -, X174, ⟨Lc174, hQ174, l174, y174, z174⟩, st174⟩ := Jvm.LawKit.callS X171 hx (y := (⟨"com/example/narabi/narabi/ranking/Bm25", "checkB", "(Ljava/lang/String;D)V"⟩ : MethodName)) hown (mvT hZ (hw _ (List.mem_of_getElem? (i := 30) rfl))) (mvT hZ (hw _ (List.mem_of_getElem? (i := 31) rfl))) (mvT hZ (hw _ (List.mem_of_getElem? (i := 32) rfl))) (mvT hZ (hw _ (List.mem_of_getElem? (i := 33) rfl))) (by decide) (backOf (W := 0) (rm_chk l Z a0 hw [] vr_171 (FP.ddiv (FP.i2d (own_num i0 i1)) (FP.i2d (own_den i1)))  T171.heap n0 (Nat.le_trans Z0 (Nat.le_trans (Nat.le_trans (Nat.le_trans (Nat.le_trans (Nat.le_refl _) E156.1) (Nat.le_of_eq W160.size.symm)) (Nat.le_of_eq W164.size.symm)) R171_0.1)) (own_q0 i0 i1) (own_q1 i0 i1)) hZ (hw _ (List.mem_of_getElem? (i := 33) rfl)) (hw _ (List.mem_of_getElem? (i := 32) rfl)) (by decide) (by decide)) (g := (mkF m 103 #[iv i0, iv i1, iv i2, iv i3, iv (own_den i1), iv (own_num i0 i1), .val (.double (FP.ddiv (FP.i2d (own_num i0 i1)) (FP.i2d (own_den i1)))), .second, rv b156, rv vr_171] [(.double (FP.ddiv (FP.i2d (own_num i0 i1)) (FP.i2d (own_den i1)))), (.ref vr_171)])) rfl (by rw [hml]; rfl) (argsL := [(.ref vr_171), (.double (FP.ddiv (FP.i2d (own_num i0 i1)) (FP.i2d (own_den i1))))]) (rest := []) (lenOf pd9 rfl) rfl (by show 2 * 0 + _ ≤ _; exact Nat.le_of_eq rfl) (hb hby at_103) (fun _ _ => ⟨rfl, rfl, (by decide : 3 + 0 ≤ _), (by decide : 7 + 0 ≤ _)⟩)
        dsimp only [Pt.U, Pt.locs, Pt.cells, Pt.slots] at X174 l174 y174 z174 st174 hQ174
        subst l174 y174 z174
        obtain ⟨rfl, N174, R174_0⟩ := hQ174
        have M174 := Fr.app M171 N174
        have g175 : Goes p e below S0 (T174.setTop (mkF m 106 #[iv i0, iv i1, iv i2, iv i3, iv (own_den i1), iv (own_num i0 i1), .val (.double (FP.ddiv (FP.i2d (own_num i0 i1)) (FP.i2d (own_den i1)))), .second, rv b156, rv vr_171] [])) := fun t k => g173 t (st174 t k)
        have g176 : Goes p e below S0 (T174.setTop (mkF m 107 #[iv i0, iv i1, iv i2, iv i3, iv (own_den i1), iv (own_num i0 i1), .val (.double (FP.ddiv (FP.i2d (own_num i0 i1)) (FP.i2d (own_den i1)))), .second, rv b156, rv vr_171] [(.int (1 : Int32))])) := fun t k => g175 t (by
          refine XT.iconstV X174.here hx rfl (1 : Int32) (hb hby at_106) (by decide) ?_
          show Go p e below t T174 m 107 #[iv i0, iv i1, iv i2, iv i3, iv (own_den i1), iv (own_num i0 i1), .val (.double (FP.ddiv (FP.i2d (own_num i0 i1)) (FP.i2d (own_den i1)))), .second, rv b156, rv vr_171] [(.int (1 : Int32))]
          exact k)
        obtain ⟨fs, hr, hrun, hended, hW, hsame⟩ := X174.leave (v := some (.int (1 : Int32))) (fun h => by rw [Bd.returns] at h; cases h)
        refine ⟨_, _, g176 _ (retN X174 hx (t := .boolean) Bd.returns (by simp) (hb hby at_107) hr), hrun, hended, _, _, rfl, ?_, ⟨_, rfl⟩, hW, hsame.mono (by decide) (by decide)⟩
        show Q_law Z i0 i1 i2 i3 cz h0 n0 _ T174.heap _
        rw [R174_0]
        exact ⟨rfl, M174⟩
      · skip
        have g177 : Goes p e below S0 (T164.setTop (mkF m 78 #[iv i0, iv i1, iv i2, iv i3, iv (own_den i1), iv (own_num i0 i1), .val (.double (FP.ddiv (FP.i2d (own_num i0 i1)) (FP.i2d (own_den i1)))), .second, rv b156, .unset] [])) := fun t k => g166 t (by
          refine XS.ifNo X164.here hx rfl (hb hby at_75) rfl (XT.i0_eq_f h167) ?_
          show Go p e below t T164 m 78 #[iv i0, iv i1, iv i2, iv i3, iv (own_den i1), iv (own_num i0 i1), .val (.double (FP.ddiv (FP.i2d (own_num i0 i1)) (FP.i2d (own_den i1)))), .second, rv b156, .unset] []
          exact k)
        obtain ⟨T178, h178, X178, e178, E178, A178, D178, -, st178⟩ := newO X164 hx hZ hown (hw _ (List.mem_of_getElem? (i := 34) rfl)) (hw _ (List.mem_of_getElem? (i := 14) rfl)) (hw _ (List.mem_of_getElem? (i := 6) rfl)) e164 (g := (mkF m 78 #[iv i0, iv i1, iv i2, iv i3, iv (own_den i1), iv (own_num i0 i1), .val (.double (FP.ddiv (FP.i2d (own_num i0 i1)) (FP.i2d (own_den i1)))), .second, rv b156, .unset] [])) rfl (hb hby at_78) (by decide) (by decide)
        obtain ⟨b178, gb178⟩ : ∃ z, z = h164.size := ⟨_, rfl⟩
        have sz178 : h0.size ≤ b178 := Nat.le_trans (Nat.le_trans (Nat.le_trans (Nat.le_trans (Nat.le_refl _) E156.1) (Nat.le_of_eq W160.size.symm)) (Nat.le_of_eq W164.size.symm)) (Nat.le_of_eq gb178.symm)
        have ng178 : n0 ≤ b178 := Nat.le_trans Z0 sz178
        rw [← gb178] at A178 D178 st178
        have F178_179 : Fld Z h178 b178 "java/lang/String" "value" "[B" .null := D178 (Or.inr (hw _ (List.mem_of_getElem? (i := 27) rfl))) (ty := (.array .byte)) (by decide)
        have F178_180 : Fld Z h178 b178 "java/lang/String" "coder" "B" (.int (0 : Int32)) := D178 (Or.inr (hw _ (List.mem_of_getElem? (i := 29) rfl))) (ty := .byte) (by decide)
        have g181 : Goes p e below S0 (T178.setTop (mkF m 81 #[iv i0, iv i1, iv i2, iv i3, iv (own_den i1), iv (own_num i0 i1), .val (.double (FP.ddiv (FP.i2d (own_num i0 i1)) (FP.i2d (own_den i1)))), .second, rv b156, .unset] [(.ref b178)])) := fun t k => g177 t (st178 t k)
        have g182 : Goes p e below S0 (T178.setTop (mkF m 84 #[iv i0, iv i1, iv i2, iv i3, iv (own_den i1), iv (own_num i0 i1), .val (.double (FP.ddiv (FP.i2d (own_num i0 i1)) (FP.i2d (own_den i1)))), .second, rv b156, .unset] [(.ref b156), (.ref b178), (.ref b178)])) := fun t k => g181 t (by
          refine XS.dup X178.here hx rfl (hb hby at_81) rfl rfl ?_
          show Go p e below t T178 m 82 #[iv i0, iv i1, iv i2, iv i3, iv (own_den i1), iv (own_num i0 i1), .val (.double (FP.ddiv (FP.i2d (own_num i0 i1)) (FP.i2d (own_den i1)))), .second, rv b156, .unset] [(.ref b178), (.ref b178)]
          refine XS.aload X178.here hx rfl (hb hby at_82) rfl rfl ?_
          show Go p e below t T178 m 84 #[iv i0, iv i1, iv i2, iv i3, iv (own_den i1), iv (own_num i0 i1), .val (.double (FP.ddiv (FP.i2d (own_num i0 i1)) (FP.i2d (own_den i1)))), .second, rv b156, .unset] [(.ref b156), (.ref b178), (.ref b178)]
          exact k)
        obtain ⟨_, _, ⟨T183, L183, k183, n183⟩, -, X183, ⟨Lc183, hQ183, l183, y183, z183⟩, st183⟩ := X178.specialBack hx (y := (⟨"java/lang/String", "<init>", "([C)V"⟩ : MethodName)) rfl hown (mvT hZ (hw _ (List.mem_of_getElem? (i := 35) rfl))) (mvT hZ (hw _ (List.mem_of_getElem? (i := 36) rfl))) (mvT hZ (hw _ (List.mem_of_getElem? (i := 37) rfl))) (by decide) (backOf (W := 1) (rm_in1 l Z a0 hw [] b178 b156 k156 (nar .char ((i2 &&& (255 : Int32)).toUInt32.toUInt16.toUInt32.toInt32)) (nar .char (((((i2).toUInt32 >>> ((8 : Int32) &&& 31).toUInt32).toInt32) &&& (255 : Int32)).toUInt32.toUInt16.toUInt32.toInt32)) cz h178 n0 (Nat.le_trans Z0 (Nat.le_trans (Nat.le_trans (Nat.le_trans (Nat.le_trans (Nat.le_refl _) E156.1) (Nat.le_of_eq W160.size.symm)) (Nat.le_of_eq W164.size.symm)) E178.1)) A178 F178_179 F178_180 ng178 (V164.ext E178) (own_ch _) (own_ch _) ((((P0.ext E156).wr W160).wr W164).ext E178) hz) hZ (hw _ (List.mem_of_getElem? (i := 37) rfl)) (hw _ (List.mem_of_getElem? (i := 6) rfl)) (by decide) (by decide)) (g := (mkF m 84 #[iv i0, iv i1, iv i2, iv i3, iv (own_den i1), iv (own_num i0 i1), .val (.double (FP.ddiv (FP.i2d (own_num i0 i1)) (FP.i2d (own_den i1)))), .second, rv b156, .unset] [(.ref b156), (.ref b178), (.ref b178)])) rfl (by rw [hml]; rfl) (Steps.refl _) (a := b178) (argsL := [(.ref b156)]) (rest := [(.ref b178)]) (lenOf pd8 rfl) rfl (by show 2 * 0 + _ ≤ _; exact Nat.le_of_eq rfl) (hb hby at_84) (fun _ _ => ⟨rfl, e178, (by decide : 2 + 1 ≤ _), (by decide : 6 + 2 ≤ _)⟩)
        dsimp only [Pt.U, Pt.locs, Pt.cells, Pt.slots] at X183 l183 y183 z183 st183 hQ183
        subst l183 y183 z183
        obtain ⟨rfl, N183, R183_0⟩ := hQ183
        have M183 := Fr.app N164 N183
        have g184 : Goes p e below S0 (T183.setTop (mkF m 87 #[iv i0, iv i1, iv i2, iv i3, iv (own_den i1), iv (own_num i0 i1), .val (.double (FP.ddiv (FP.i2d (own_num i0 i1)) (FP.i2d (own_den i1)))), .second, rv b156, .unset] [(.ref b178)])) := fun t k => g182 t (st183.trans k)
        have g185 : Goes p e below S0 (T183.setTop (mkF m 103 #[iv i0, iv i1, iv i2, iv i3, iv (own_den i1), iv (own_num i0 i1), .val (.double (FP.ddiv (FP.i2d (own_num i0 i1)) (FP.i2d (own_den i1)))), .second, rv b156, rv b178] [(.double (FP.ddiv (FP.i2d (own_num i0 i1)) (FP.i2d (own_den i1)))), (.ref b178)])) := fun t k => g184 t (by
          refine XS.goto X183.here hx rfl (pc0 := 87) (pc' := 97) rfl (hb hby at_87) (by decide) (by decide) ?_
          show Go p e below t T183 m 97 #[iv i0, iv i1, iv i2, iv i3, iv (own_den i1), iv (own_num i0 i1), .val (.double (FP.ddiv (FP.i2d (own_num i0 i1)) (FP.i2d (own_den i1)))), .second, rv b156, .unset] [(.ref b178)]
          refine XS.astore X183.here hx rfl (hb hby at_97) rfl rfl (l' := #[iv i0, iv i1, iv i2, iv i3, iv (own_den i1), iv (own_num i0 i1), .val (.double (FP.ddiv (FP.i2d (own_num i0 i1)) (FP.i2d (own_den i1)))), .second, rv b156, rv b178]) rfl ?_
          show Go p e below t T183 m 99 #[iv i0, iv i1, iv i2, iv i3, iv (own_den i1), iv (own_num i0 i1), .val (.double (FP.ddiv (FP.i2d (own_num i0 i1)) (FP.i2d (own_den i1)))), .second, rv b156, rv b178] []
          refine XS.aload X183.here hx rfl (hb hby at_99) rfl rfl ?_
          show Go p e below t T183 m 101 #[iv i0, iv i1, iv i2, iv i3, iv (own_den i1), iv (own_num i0 i1), .val (.double (FP.ddiv (FP.i2d (own_num i0 i1)) (FP.i2d (own_den i1)))), .second, rv b156, rv b178] [(.ref b178)]
          refine XS.dload X183.here hx rfl (hb hby at_101) rfl ?_
          show Go p e below t T183 m 103 #[iv i0, iv i1, iv i2, iv i3, iv (own_den i1), iv (own_num i0 i1), .val (.double (FP.ddiv (FP.i2d (own_num i0 i1)) (FP.i2d (own_den i1)))), .second, rv b156, rv b178] [(.double (FP.ddiv (FP.i2d (own_num i0 i1)) (FP.i2d (own_den i1)))), (.ref b178)]
          exact k)
        obtain ⟨_, _, ⟨T186, L186, k186, n186⟩, -, X186, ⟨Lc186, hQ186, l186, y186, z186⟩, st186⟩ := Jvm.LawKit.callS X183 hx (y := (⟨"com/example/narabi/narabi/ranking/Bm25", "checkB", "(Ljava/lang/String;D)V"⟩ : MethodName)) hown (mvT hZ (hw _ (List.mem_of_getElem? (i := 30) rfl))) (mvT hZ (hw _ (List.mem_of_getElem? (i := 31) rfl))) (mvT hZ (hw _ (List.mem_of_getElem? (i := 32) rfl))) (mvT hZ (hw _ (List.mem_of_getElem? (i := 33) rfl))) (by decide) (backOf (W := 0) (rm_chk l Z a0 hw [] b178 (FP.ddiv (FP.i2d (own_num i0 i1)) (FP.i2d (own_den i1)))  T183.heap n0 (Nat.le_trans Z0 (Nat.le_trans (Nat.le_trans (Nat.le_trans (Nat.le_trans (Nat.le_trans (Nat.le_refl _) E156.1) (Nat.le_of_eq W160.size.symm)) (Nat.le_of_eq W164.size.symm)) E178.1) R183_0.1)) (own_q0 i0 i1) (own_q1 i0 i1)) hZ (hw _ (List.mem_of_getElem? (i := 33) rfl)) (hw _ (List.mem_of_getElem? (i := 32) rfl)) (by decide) (by decide)) (g := (mkF m 103 #[iv i0, iv i1, iv i2, iv i3, iv (own_den i1), iv (own_num i0 i1), .val (.double (FP.ddiv (FP.i2d (own_num i0 i1)) (FP.i2d (own_den i1)))), .second, rv b156, rv b178] [(.double (FP.ddiv (FP.i2d (own_num i0 i1)) (FP.i2d (own_den i1)))), (.ref b178)])) rfl (by rw [hml]; rfl) (argsL := [(.ref b178), (.double (FP.ddiv (FP.i2d (own_num i0 i1)) (FP.i2d (own_den i1))))]) (rest := []) (lenOf pd9 rfl) rfl (by show 2 * 0 + _ ≤ _; exact Nat.le_of_eq rfl) (hb hby at_103) (fun _ _ => ⟨rfl, rfl, (by decide : 3 + 0 ≤ _), (by decide : 8 + 0 ≤ _)⟩)
        dsimp only [Pt.U, Pt.locs, Pt.cells, Pt.slots] at X186 l186 y186 z186 st186 hQ186
        subst l186 y186 z186
        obtain ⟨rfl, N186, R186_0⟩ := hQ186
        have M186 := Fr.app M183 N186
        have g187 : Goes p e below S0 (T186.setTop (mkF m 106 #[iv i0, iv i1, iv i2, iv i3, iv (own_den i1), iv (own_num i0 i1), .val (.double (FP.ddiv (FP.i2d (own_num i0 i1)) (FP.i2d (own_den i1)))), .second, rv b156, rv b178] [])) := fun t k => g185 t (st186 t k)
        have g188 : Goes p e below S0 (T186.setTop (mkF m 107 #[iv i0, iv i1, iv i2, iv i3, iv (own_den i1), iv (own_num i0 i1), .val (.double (FP.ddiv (FP.i2d (own_num i0 i1)) (FP.i2d (own_den i1)))), .second, rv b156, rv b178] [(.int (1 : Int32))])) := fun t k => g187 t (by
          refine XT.iconstV X186.here hx rfl (1 : Int32) (hb hby at_106) (by decide) ?_
          show Go p e below t T186 m 107 #[iv i0, iv i1, iv i2, iv i3, iv (own_den i1), iv (own_num i0 i1), .val (.double (FP.ddiv (FP.i2d (own_num i0 i1)) (FP.i2d (own_den i1)))), .second, rv b156, rv b178] [(.int (1 : Int32))]
          exact k)
        obtain ⟨fs, hr, hrun, hended, hW, hsame⟩ := X186.leave (v := some (.int (1 : Int32))) (fun h => by rw [Bd.returns] at h; cases h)
        refine ⟨_, _, g188 _ (retN X186 hx (t := .boolean) Bd.returns (by simp) (hb hby at_107) hr), hrun, hended, _, _, rfl, ?_, ⟨_, rfl⟩, hW, hsame.mono (by decide) (by decide)⟩
        show Q_law Z i0 i1 i2 i3 cz h0 n0 _ T186.heap _
        rw [R186_0]
        exact ⟨rfl, M186⟩
theorem own_one (a b c d : Int32) : f_law a b c d = 1 := rfl
set_option maxRecDepth 65536 in
set_option maxHeartbeats 40000000 in
theorem comes_1 {Post : Tables → Env → Array Value → State → Outcome → State → Prop} (hpost : ∀ tb e args s v u, (limb_1_1.after args s (.returned v) u = true ∧ limb_1_2.after args s (.returned v) u = true ∧ True) → FrameEnd s (.returned v) u (Jvm.fieldLocs frame_1_writes args s ++ Jvm.arrayLocs frame_1_arrays args s ++ Jvm.staticLocs frame_1_statics s) 16 128 → Post tb e args s (.returned v) u) :
    ArmFor flags0 classFile x code maxLocals ret World_1 tables_1 room_1 Calls_1 rest_1 Pre_1 Post := by
  intro l hfl _ _ p e ha hc hk s m args below hf hA hF happ hP
  obtain ⟨hcalls, hrest, hpre⟩ := hP
  obtain ⟨-, -, -, hnamed, -, -, -, hat⟩ := (Spec.applies_iff hf).mp happ
  obtain ⟨hg, hn⟩ := and_e (Cond.before_iff.mp (show (Jvm.Cond.and given_1 narrow_1).before args s = true from hpre))
  obtain ⟨hcount, q0⟩ := and_e hg
  obtain ⟨b0, q1⟩ := and_e q0
  obtain ⟨b1, q2⟩ := and_e q1
  obtain ⟨b2, q3⟩ := and_e q2
  have b3 := q3
  obtain ⟨w0, w1, w2, w3, rfl⟩ : ∃ w0 w1 w2 w3 : Value, args = #[w0, w1, w2, w3] := by
    have hs : args.size = 4 := by simpa [Cond.value, given_1] using hcount
    obtain ⟨L⟩ := args
    match L, hs with
    | [w0, w1, w2, w3], _ => exact ⟨w0, w1, w2, w3, rfl⟩
  have hw := fun d (hd : d ∈ tables_1) => atoms_spec (ws := Jvm.Cond.code x code maxLocals ret :: tables_1) hat d (List.mem_cons_of_mem _ hd)
  have hfit : Fit s := fun {y c} hc i hi => by
    obtain ⟨ha, rfl⟩ := Array.getElem?_eq_some_iff.mp hc
    have q := List.all_eq_true.mp ((Array.all_eq_true_iff_forall_mem.mp hF) _ (Array.getElem_mem ha)) i (List.mem_range.mpr hi)
    simpa [Array.getElem?_eq_getElem hi] using q
  obtain ⟨i0, r0⟩ := is_v b0
  obtain rfl : w0 = (.int i0) := Option.some.inj r0
  obtain ⟨i1, r1⟩ := is_v b1
  obtain rfl : w1 = (.int i1) := Option.some.inj r1
  obtain ⟨i2, r2⟩ := is_v b2
  obtain rfl : w2 = (.int i2) := Option.some.inj r2
  obtain ⟨i3, r3⟩ := is_v b3
  obtain rfl : w3 = (.int i3) := Option.some.inj r3
  obtain ⟨nn0, rr0⟩ := and_e (Cond.before_iff.mp (show rest_1_c.before _ s = true from hrest))
  obtain ⟨nn1, rr1⟩ := and_e rr0
  obtain ⟨nn2, rr2⟩ := and_e rr1
  obtain ⟨cz, ev⟩ := is_v nn1
  have S1 := Sta.start (args := _) ev (Or.inl (Cond.before_iff.mpr nn0))
  have hz := own_notz ev nn2
  obtain ⟨n, o, h1, h2, h3, v, L, rfl, ⟨hv, N⟩, hq⟩ := rm_law l s _ hw tables_1 i0 i1 i2 i3 cz s.heap s.heap.size (Nat.le_refl _) S1 hz p e ha hc hk s m _ below hf ((Spec.applies_iff_loose hf).mp happ).1 ⟨rfl, State.Warmed39.refl s, rfl⟩ trivial
  obtain rfl : v = some (.int 1) := by rw [hv, own_one]
  refine ⟨n, _, h1, h2, h3, hpost _ _ _ _ _ _ ⟨Cond.after_iff.mpr rfl, Cond.after_iff.mpr (eq_i res_at (Term.int_eval (1)) rfl), trivial⟩ ⟨hq.1, hq.2.1, (hq.2.2.sift fun y hy => Or.inr (N y hy)).mono (by decide) (by decide)⟩⟩
theorem main_1_1 : Claimed_1_1 := comes_1 fun _ _ _ _ _ _ h hF => ⟨h.1, hF⟩
theorem main_1_2 : Claimed_1_2 := comes_1 fun _ _ _ _ _ _ h hF => ⟨h.2.1, hF⟩
end Jvm.Pilot.@@N@@
namespace Jvm.Pilot.@@N@@
open Jvm Jvm.ClassFile Sem Op Lib Jvm.Free Jvm.Stand Jvm.Pilot.@@N@@.Jvm.D
/-! MADE BY PROGRAM (witnessworld.py) out of the Statement's table words and the real class files: 22 classes; the members and pool entries that the words name. The judged class is class 1, her method 1. -/
namespace start1
open Jvm.ClassFile
def u (s : String) : CpInfo := .utf8 (stringToUtf16 s)
/-- a pool by its gaps: so many unusable entries, then the entry; so many at the end -/
def gap : Nat → List CpInfo → List CpInfo
  | 0, r => r
  | n + 1, r => .unusable :: gap n r
def poolList (es : List (Nat × CpInfo)) (last : Nat) : List CpInfo := es.foldr (fun e r => gap e.1 (e.2 :: r)) (gap last [])
def pool (es : List (Nat × CpInfo)) (last : Nat) : Array CpInfo := ⟨poolList es last⟩
def fileOf (pool : Array CpInfo) (this : Nat) (attrs : Array Attribute := #[]) (ms : Array MethodInfo := #[]) (fl : Nat := 33) (sup : Nat := 0) (ifs : Array Nat := #[]) (fds : Array FieldInfo := #[]) : ClassFile where
  minorVersion := 0
  majorVersion := 65
  constantPool := pool
  accessFlags := fl
  thisClass := this
  superClass := sup
  interfaces := ifs
  fields := fds
  methods := ms
  attributes := attrs
def plain (name : String) (sup : Option ClassId) : Class where
  name := name
  kind := .ordinary
  loader := none
  accessFlags := 33
  super := sup
  interfaces := #[]
  cf := none
  fields := #[]
  methods := #[]
  instanceTypes := #[]
  staticTypes := #[]
  resolved := #[]
  callSites := []
  init := .initialized
  statics := none
  mirror := none

def pool0 : Array CpInfo := pool [(5, u "<init>"), (0, u "()V"), (1, .class_ 10), (1, u "java/lang/Object")] 113

def k0c0 : Code := { maxStack := 0, maxLocals := 1, code := object_method_1_code, exceptionTable := #[], attributes := #[] }
def k0m0 : Method := { name := "<init>", desc := "()V", sig := { parameters := [], returnType := none }, accessFlags := 1, code := some k0c0 }
/-- java/lang/Object -/
def k0 : Class := { plain "java/lang/Object" none with
  accessFlags := 33
  interfaces := #[]
  cf := some (fileOf pool0 8 #[] #[{ accessFlags := 1, nameIndex := 5, descriptorIndex := 6, attributes := #[] }] 33 0 #[] #[])
  fields := #[]
  methods := #[k0m0]
  instanceTypes := #[]
  staticTypes := #[]
  resolved := Array.replicate 124 none
  statics := none }

def pool1 : Array CpInfo := pool [(2, .class_ 4), (1, u "java/lang/Object"), (0, u "<init>"), (0, u "()V"), (0, .integer 65535), (0, .integer 2147483647), (0, .double 9223372036854775808), (1, .class_ 12), (0, u "java/lang/String"), (0, .methodref 11 14), (0, .nameAndType 5 15), (0, u "([C)V"), (0, .methodref 11 17), (0, .nameAndType 18 19), (0, u "valueOf"), (0, u "(C)Ljava/lang/String;"), (0, .methodref 21 22), (0, .class_ 23), (0, .nameAndType 24 25), (0, u "com/example/narabi/narabi/ranking/Bm25"), (0, u "checkB"), (0, u "(Ljava/lang/String;D)V"), (0, .class_ 27), (0, u "com/example/narabi/narabi/ranking/Bm25CheckBPinLaw"), (2, u "law"), (0, u "(IIII)Z")] 5

def k1m0 : Method := { name := "<init>", desc := "()V", sig := { parameters := [], returnType := none }, accessFlags := 2, code := none }
def k1c1 : Code := { maxStack := 4, maxLocals := 10, code := code, exceptionTable := #[], attributes := #[] }
def k1m1 : Method := { name := "law", desc := "(IIII)Z", sig := { parameters := [.int, .int, .int, .int], returnType := some .boolean }, accessFlags := 9, code := some k1c1 }
/-- com/example/narabi/narabi/ranking/Bm25CheckBPinLaw -/
def k1 : Class := { plain "com/example/narabi/narabi/ranking/Bm25CheckBPinLaw" (some 0) with
  accessFlags := 49
  interfaces := #[]
  cf := some (fileOf pool1 26 #[] #[{ accessFlags := 2, nameIndex := 5, descriptorIndex := 6, attributes := #[] }, { accessFlags := 9, nameIndex := 30, descriptorIndex := 31, attributes := #[] }] 49 2 #[] #[])
  fields := #[]
  methods := #[k1m0, k1m1]
  instanceTypes := #[]
  staticTypes := #[]
  resolved := Array.replicate 37 none
  statics := none }

def pool2 : Array CpInfo := pool [(1, .class_ 2), (0, u "java/io/Serializable"), (0, .class_ 4), (0, u "java/lang/Object")] 2

/-- java/io/Serializable -/
def k2 : Class := { plain "java/io/Serializable" (some 0) with
  accessFlags := 1537
  interfaces := #[]
  cf := some (fileOf pool2 1 #[] #[] 1537 3 #[] #[])
  fields := #[]
  methods := #[]
  instanceTypes := #[]
  staticTypes := #[]
  resolved := Array.replicate 7 none
  statics := none }

def pool3 : Array CpInfo := pool [(1, .class_ 2), (0, u "java/lang/Comparable"), (0, .class_ 4), (0, u "java/lang/Object")] 7

/-- java/lang/Comparable -/
def k3 : Class := { plain "java/lang/Comparable" (some 0) with
  accessFlags := 1537
  interfaces := #[]
  cf := some (fileOf pool3 1 #[] #[] 1537 3 #[] #[])
  fields := #[]
  methods := #[]
  instanceTypes := #[]
  staticTypes := #[]
  resolved := Array.replicate 12 none
  statics := none }

def pool4 : Array CpInfo := pool [(2, .class_ 4), (1, u "java/lang/CharSequence"), (42, .class_ 48), (0, u "java/lang/CharSequence$1CodePointIterator"), (10, .class_ 60), (0, u "java/lang/CharSequence$1CharIterator"), (5, .class_ 67), (0, u "java/lang/Object")] 63

/-- java/lang/CharSequence -/
def k4 : Class := { plain "java/lang/CharSequence" (some 0) with
  accessFlags := 1537
  interfaces := #[]
  cf := some (fileOf pool4 2 #[.nestMembers #[47, 59]] #[] 1537 66 #[] #[])
  fields := #[]
  methods := #[]
  instanceTypes := #[]
  staticTypes := #[]
  resolved := Array.replicate 131 none
  statics := none }

def pool5 : Array CpInfo := pool [(1, .class_ 2), (0, u "java/lang/constant/Constable"), (0, .class_ 4), (0, u "java/lang/Object")] 6

/-- java/lang/constant/Constable -/
def k5 : Class := { plain "java/lang/constant/Constable" (some 0) with
  accessFlags := 1537
  interfaces := #[]
  cf := some (fileOf pool5 1 #[] #[] 1537 3 #[] #[])
  fields := #[]
  methods := #[]
  instanceTypes := #[]
  staticTypes := #[]
  resolved := Array.replicate 11 none
  statics := none }

def pool6 : Array CpInfo := pool [(1, .class_ 2), (0, u "java/lang/constant/ConstantDesc"), (0, .class_ 4), (0, u "java/lang/Object")] 32

/-- java/lang/constant/ConstantDesc -/
def k6 : Class := { plain "java/lang/constant/ConstantDesc" (some 0) with
  accessFlags := 1537
  interfaces := #[]
  cf := some (fileOf pool6 1 #[] #[] 1537 3 #[] #[])
  fields := #[]
  methods := #[]
  instanceTypes := #[]
  staticTypes := #[]
  resolved := Array.replicate 37 none
  statics := none }

def pool7 : Array CpInfo := pool [(1, .methodref 2 3), (0, .class_ 4), (0, .nameAndType 5 6), (0, u "java/lang/Object"), (0, u "<init>"), (0, u "()V"), (2, .fieldref 10 11), (0, .class_ 12), (0, .nameAndType 13 14), (0, u "java/lang/String"), (0, u "value"), (0, u "[B"), (0, .fieldref 10 16), (0, .nameAndType 17 18), (0, u "coder"), (0, u "B"), (2, u "hash"), (0, u "I"), (2, u "hashIsZero"), (0, u "Z"), (0, .methodref 10 28), (0, .nameAndType 5 29), (0, u "([CIILjava/lang/Void;)V"), (8, .fieldref 10 39), (0, .nameAndType 40 26), (0, u "COMPACT_STRINGS"), (1, .class_ 44), (1, u "java/lang/StringUTF16"), (0, u "compress"), (1, .methodref 42 48), (0, .nameAndType 49 50), (0, u "coderFromArrayLen"), (0, u "([BI)B"), (2, u "toBytes"), (53, .class_ 109), (1, u "java/lang/StringLatin1"), (67, .methodref 42 178), (0, .nameAndType 45 179), (0, u "([CII)[B"), (29, .methodref 10 210), (0, .nameAndType 5 211), (0, u "([BB)V"), (157, u "(C)Z"), (205, .class_ 576), (0, u "java/lang/CharSequence"), (22, u "CASE_INSENSITIVE_ORDER"), (0, u "Ljava/util/Comparator;"), (181, u "valueOf"), (0, u "(C)Ljava/lang/String;"), (226, u "([C)V"), (4, .methodref 107 1016), (0, .nameAndType 1017 369), (0, u "canEncode"), (0, .methodref 107 1019), (0, .nameAndType 53 1020), (0, u "(C)[B"), (80, u "serialPersistentFields"), (0, u "[Ljava/io/ObjectStreamField;"), (0, .class_ 1104), (0, u "java/lang/String$CaseInsensitiveComparator"), (1, .class_ 1107), (0, u "java/io/Serializable"), (0, .class_ 1109), (0, u "java/lang/Comparable"), (0, .class_ 1111), (0, u "java/lang/constant/Constable"), (0, .class_ 1113), (0, u "java/lang/constant/ConstantDesc"), (2, u "serialVersionUID"), (0, u "J"), (3, u "REPL"), (0, u "C"), (2, u "LATIN1"), (1, u "UTF16")] 323

def k7m0 : Method := { name := "<init>", desc := "()V", sig := { parameters := [], returnType := none }, accessFlags := 1, code := none }
def k7c1 : Code := { maxStack := 5, maxLocals := 2, code := jdk_42_method_3_code, exceptionTable := #[], attributes := #[] }
def k7m1 : Method := { name := "<init>", desc := "([C)V", sig := { parameters := [(.array .char)], returnType := none }, accessFlags := 1, code := some k7c1 }
def k7c2 : Code := { maxStack := 4, maxLocals := 1, code := jdk_42_method_139_code, exceptionTable := #[], attributes := #[] }
def k7m2 : Method := { name := "valueOf", desc := "(C)Ljava/lang/String;", sig := { parameters := [.char], returnType := some (.object "java/lang/String") }, accessFlags := 9, code := some k7c2 }
def k7c3 : Code := { maxStack := 4, maxLocals := 6, code := jdk_42_method_149_code, exceptionTable := #[], attributes := #[] }
def k7m3 : Method := { name := "<init>", desc := "([CIILjava/lang/Void;)V", sig := { parameters := [(.array .char), .int, .int, (.object "java/lang/Void")], returnType := none }, accessFlags := 2, code := some k7c3 }
def k7c4 : Code := { maxStack := 2, maxLocals := 3, code := jdk_42_method_151_code, exceptionTable := #[], attributes := #[] }
def k7m4 : Method := { name := "<init>", desc := "([BB)V", sig := { parameters := [(.array .byte), .byte], returnType := none }, accessFlags := 0, code := some k7c4 }
/-- java/lang/String -/
def k7 : Class := { plain "java/lang/String" (some 0) with
  accessFlags := 49
  interfaces := #[2, 3, 4, 5, 6]
  cf := some (fileOf pool7 10 #[.nestMembers #[1103]] #[{ accessFlags := 1, nameIndex := 5, descriptorIndex := 6, attributes := #[] }, { accessFlags := 1, nameIndex := 5, descriptorIndex := 1010, attributes := #[] }, { accessFlags := 9, nameIndex := 782, descriptorIndex := 783, attributes := #[] }, { accessFlags := 2, nameIndex := 5, descriptorIndex := 29, attributes := #[] }, { accessFlags := 0, nameIndex := 5, descriptorIndex := 211, attributes := #[] }] 49 2 #[1106, 1108, 575, 1110, 1112] #[{ accessFlags := 18, nameIndex := 13, descriptorIndex := 14, attributes := #[] }, { accessFlags := 18, nameIndex := 17, descriptorIndex := 18, attributes := #[] }, { accessFlags := 2, nameIndex := 21, descriptorIndex := 22, attributes := #[] }, { accessFlags := 2, nameIndex := 25, descriptorIndex := 26, attributes := #[] }, { accessFlags := 26, nameIndex := 1116, descriptorIndex := 1117, attributes := #[] }, { accessFlags := 24, nameIndex := 40, descriptorIndex := 26, attributes := #[] }, { accessFlags := 26, nameIndex := 1101, descriptorIndex := 1102, attributes := #[] }, { accessFlags := 26, nameIndex := 1121, descriptorIndex := 1122, attributes := #[] }, { accessFlags := 25, nameIndex := 599, descriptorIndex := 600, attributes := #[] }, { accessFlags := 24, nameIndex := 1125, descriptorIndex := 18, attributes := #[] }, { accessFlags := 24, nameIndex := 1127, descriptorIndex := 18, attributes := #[] }])
  fields := #[{ name := "value", type := (.array .byte), accessFlags := 18, slot := 0, constantValue := 0 }, { name := "coder", type := .byte, accessFlags := 18, slot := 1, constantValue := 0 }, { name := "hash", type := .int, accessFlags := 2, slot := 2, constantValue := 0 }, { name := "hashIsZero", type := .boolean, accessFlags := 2, slot := 3, constantValue := 0 }, { name := "serialVersionUID", type := .long, accessFlags := 26, slot := 0, constantValue := 0 }, { name := "COMPACT_STRINGS", type := .boolean, accessFlags := 24, slot := 1, constantValue := 0 }, { name := "serialPersistentFields", type := (.array (.object "java/io/ObjectStreamField")), accessFlags := 26, slot := 2, constantValue := 0 }, { name := "REPL", type := .char, accessFlags := 26, slot := 3, constantValue := 0 }, { name := "CASE_INSENSITIVE_ORDER", type := (.object "java/util/Comparator"), accessFlags := 25, slot := 4, constantValue := 0 }, { name := "LATIN1", type := .byte, accessFlags := 24, slot := 5, constantValue := 0 }, { name := "UTF16", type := .byte, accessFlags := 24, slot := 6, constantValue := 0 }]
  methods := #[k7m0, k7m1, k7m2, k7m3, k7m4]
  instanceTypes := #[(.array .byte), .byte, .int, .boolean]
  staticTypes := #[.long, .boolean, (.array (.object "java/io/ObjectStreamField")), .char, (.object "java/util/Comparator"), .byte, .byte]
  resolved := Array.replicate 1451 none
  statics := some 0 }

def pool8 : Array CpInfo := pool [(4, .class_ 6), (1, u "java/lang/Object"), (0, u "<init>"), (0, u "()V"), (5, .class_ 16), (1, u "java/lang/StringLatin1"), (73, u "canEncode"), (14, u "(C)Z"), (15, u "$assertionsDisabled"), (0, u "Z"), (98, .class_ 223), (1, u "java/lang/StringLatin1$LinesSpliterator"), (156, u "toBytes"), (1, u "(C)[B"), (7, .class_ 391), (0, u "java/lang/StringLatin1$CharsSpliterator")] 3

def k8m0 : Method := { name := "<init>", desc := "()V", sig := { parameters := [], returnType := none }, accessFlags := 0, code := none }
def k8c1 : Code := { maxStack := 2, maxLocals := 1, code := jdk_43_method_3_code, exceptionTable := #[], attributes := #[] }
def k8m1 : Method := { name := "canEncode", desc := "(C)Z", sig := { parameters := [.char], returnType := some .boolean }, accessFlags := 9, code := some k8c1 }
def k8c2 : Code := { maxStack := 4, maxLocals := 1, code := jdk_43_method_46_code, exceptionTable := #[], attributes := #[] }
def k8m2 : Method := { name := "toBytes", desc := "(C)[B", sig := { parameters := [.char], returnType := some (.array .byte) }, accessFlags := 9, code := some k8c2 }
/-- java/lang/StringLatin1 -/
def k8 : Class := { plain "java/lang/StringLatin1" (some 0) with
  accessFlags := 48
  interfaces := #[]
  cf := some (fileOf pool8 14 #[.nestMembers #[390, 221]] #[{ accessFlags := 0, nameIndex := 7, descriptorIndex := 8, attributes := #[] }, { accessFlags := 9, nameIndex := 90, descriptorIndex := 105, attributes := #[] }, { accessFlags := 9, nameIndex := 380, descriptorIndex := 382, attributes := #[] }] 48 4 #[] #[{ accessFlags := 4120, nameIndex := 121, descriptorIndex := 122, attributes := #[] }])
  fields := #[{ name := "$assertionsDisabled", type := .boolean, accessFlags := 4120, slot := 0, constantValue := 0 }]
  methods := #[k8m0, k8m1, k8m2]
  instanceTypes := #[]
  staticTypes := #[.boolean]
  resolved := Array.replicate 395 none
  statics := none }

def pool9 : Array CpInfo := pool [(2, .class_ 4), (1, u "java/lang/Object"), (0, u "<init>"), (0, u "()V"), (0, .class_ 8), (0, u "java/lang/Record")] 13

def k9m0 : Method := { name := "<init>", desc := "()V", sig := { parameters := [], returnType := none }, accessFlags := 4, code := none }
/-- java/lang/Record -/
def k9 : Class := { plain "java/lang/Record" (some 0) with
  accessFlags := 1057
  interfaces := #[]
  cf := some (fileOf pool9 7 #[] #[{ accessFlags := 4, nameIndex := 5, descriptorIndex := 6, attributes := #[] }] 1057 2 #[] #[])
  fields := #[]
  methods := #[k9m0]
  instanceTypes := #[]
  staticTypes := #[]
  resolved := Array.replicate 22 none
  statics := none }

def pool10 : Array CpInfo := pool [(1, .class_ 2), (0, u "com/example/narabi/narabi/ranking/ScoringModel"), (0, .class_ 4), (0, u "java/lang/Object"), (7, .class_ 13), (0, u "com/example/narabi/narabi/ranking/ScoringModel$Scorer")] 9

/-- com/example/narabi/narabi/ranking/ScoringModel -/
def k10 : Class := { plain "com/example/narabi/narabi/ranking/ScoringModel" (some 0) with
  accessFlags := 1537
  interfaces := #[]
  cf := some (fileOf pool10 1 #[.nestMembers #[12]] #[] 1537 3 #[] #[])
  fields := #[]
  methods := #[]
  instanceTypes := #[]
  staticTypes := #[]
  resolved := Array.replicate 23 none
  statics := none }

def pool11 : Array CpInfo := pool [(2, .class_ 4), (1, u "java/lang/Record"), (16, u "b"), (1, .class_ 25), (1, u "com/example/narabi/narabi/ranking/Bm25"), (0, u "checkB"), (0, u "(Ljava/lang/String;D)V"), (2, u "k1"), (0, u "D"), (12, .class_ 45), (0, u "com/example/narabi/narabi/ranking/Bm25$LengthNormalised"), (73, u "DEFAULTS"), (0, u "Lcom/example/narabi/narabi/ranking/Bm25;"), (0, .class_ 122), (0, u "com/example/narabi/narabi/ranking/ScoringModel")] 57

def k11c0 : Code := { maxStack := 5, maxLocals := 3, code := prog_48_method_6_code, exceptionTable := #[], attributes := #[] }
def k11m0 : Method := { name := "checkB", desc := "(Ljava/lang/String;D)V", sig := { parameters := [(.object "java/lang/String"), .double], returnType := none }, accessFlags := 8, code := some k11c0 }
/-- com/example/narabi/narabi/ranking/Bm25 -/
def k11 : Class := { plain "com/example/narabi/narabi/ranking/Bm25" (some 9) with
  accessFlags := 49
  interfaces := #[10]
  cf := some (fileOf pool11 23 #[.nestMembers #[44]] #[{ accessFlags := 8, nameIndex := 26, descriptorIndex := 27, attributes := #[] }] 49 2 #[121] #[{ accessFlags := 18, nameIndex := 30, descriptorIndex := 31, attributes := #[] }, { accessFlags := 18, nameIndex := 21, descriptorIndex := 31, attributes := #[] }, { accessFlags := 25, nameIndex := 119, descriptorIndex := 120, attributes := #[] }])
  fields := #[{ name := "k1", type := .double, accessFlags := 18, slot := 0, constantValue := 0 }, { name := "b", type := .double, accessFlags := 18, slot := 1, constantValue := 0 }, { name := "DEFAULTS", type := (.object "com/example/narabi/narabi/ranking/Bm25"), accessFlags := 25, slot := 0, constantValue := 0 }]
  methods := #[k11m0]
  instanceTypes := #[.double, .double]
  staticTypes := #[(.object "com/example/narabi/narabi/ranking/Bm25")]
  resolved := Array.replicate 180 none
  statics := none }

def pool12 : Array CpInfo := pool [(6, .class_ 8), (1, u "java/lang/Object"), (0, u "<init>"), (0, u "()V"), (1, .class_ 14), (1, u "java/lang/StringUTF16"), (31, u "$assertionsDisabled"), (0, u "Z"), (13, u "HI_BYTE_SHIFT"), (0, u "I"), (2, u "LO_BYTE_SHIFT"), (49, .methodref 12 116), (0, .nameAndType 117 118), (0, u "compress"), (0, u "([CI[BII)I"), (3, u "([CII)[B"), (138, u "coderFromArrayLen"), (0, u "([BI)B"), (106, .class_ 371), (1, u "java/lang/StringUTF16$LinesSpliterator"), (58, u "MAX_LENGTH"), (196, .class_ 628), (0, u "java/lang/StringUTF16$CodePointsSpliterator"), (0, .class_ 630), (0, u "java/lang/StringUTF16$CharsSpliterator")] 4

def k12m0 : Method := { name := "<init>", desc := "()V", sig := { parameters := [], returnType := none }, accessFlags := 0, code := none }
def k12c1 : Code := { maxStack := 2, maxLocals := 2, code := jdk_52_method_15_code, exceptionTable := #[], attributes := #[] }
def k12m1 : Method := { name := "coderFromArrayLen", desc := "([BI)B", sig := { parameters := [(.array .byte), .int], returnType := some .byte }, accessFlags := 8, code := some k12c1 }
def k12c2 : Code := { maxStack := 5, maxLocals := 6, code := jdk_52_method_16_code, exceptionTable := #[], attributes := #[] }
def k12m2 : Method := { name := "compress", desc := "([CII)[B", sig := { parameters := [(.array .char), .int, .int], returnType := some (.array .byte) }, accessFlags := 9, code := some k12c2 }
def k12c3 : Code := { maxStack := 3, maxLocals := 7, code := jdk_52_method_21_code, exceptionTable := #[], attributes := #[] }
def k12m3 : Method := { name := "compress", desc := "([CI[BII)I", sig := { parameters := [(.array .char), .int, (.array .byte), .int, .int], returnType := some .int }, accessFlags := 9, code := some k12c3 }
/-- java/lang/StringUTF16 -/
def k12 : Class := { plain "java/lang/StringUTF16" (some 0) with
  accessFlags := 48
  interfaces := #[]
  cf := some (fileOf pool12 12 #[.nestMembers #[627, 629, 369]] #[{ accessFlags := 0, nameIndex := 9, descriptorIndex := 10, attributes := #[] }, { accessFlags := 8, nameIndex := 261, descriptorIndex := 262, attributes := #[] }, { accessFlags := 9, nameIndex := 117, descriptorIndex := 122, attributes := #[] }, { accessFlags := 9, nameIndex := 117, descriptorIndex := 118, attributes := #[] }] 48 6 #[] #[{ accessFlags := 26, nameIndex := 61, descriptorIndex := 62, attributes := #[] }, { accessFlags := 26, nameIndex := 65, descriptorIndex := 62, attributes := #[] }, { accessFlags := 24, nameIndex := 430, descriptorIndex := 62, attributes := #[] }, { accessFlags := 4120, nameIndex := 46, descriptorIndex := 47, attributes := #[] }])
  fields := #[{ name := "HI_BYTE_SHIFT", type := .int, accessFlags := 26, slot := 0, constantValue := 0 }, { name := "LO_BYTE_SHIFT", type := .int, accessFlags := 26, slot := 1, constantValue := 0 }, { name := "MAX_LENGTH", type := .int, accessFlags := 24, slot := 2, constantValue := 0 }, { name := "$assertionsDisabled", type := .boolean, accessFlags := 4120, slot := 3, constantValue := 0 }]
  methods := #[k12m0, k12m1, k12m2, k12m3]
  instanceTypes := #[]
  staticTypes := #[.int, .int, .int, .boolean]
  resolved := Array.replicate 635 none
  statics := none }

def pool13 : Array CpInfo := pool [(2, .class_ 4), (1, u "java/lang/Object"), (0, u "<init>"), (0, u "()V"), (17, .class_ 26), (1, u "jdk/internal/util/Preconditions"), (28, .class_ 56), (0, u "jdk/internal/util/Preconditions$4"), (57, .class_ 115), (0, u "jdk/internal/util/Preconditions$1"), (7, u "SIOOBE_FORMATTER"), (0, u "Ljava/util/function/BiFunction;"), (0, .class_ 126), (0, u "jdk/internal/util/Preconditions$2"), (3, u "AIOOBE_FORMATTER"), (0, .class_ 132), (0, u "jdk/internal/util/Preconditions$3"), (3, u "IOOBE_FORMATTER")] 57

def k13m0 : Method := { name := "<init>", desc := "()V", sig := { parameters := [], returnType := none }, accessFlags := 1, code := none }
/-- jdk/internal/util/Preconditions -/
def k13 : Class := { plain "jdk/internal/util/Preconditions" (some 0) with
  accessFlags := 33
  interfaces := #[]
  cf := some (fileOf pool13 24 #[.nestMembers #[55, 131, 125, 114]] #[{ accessFlags := 1, nameIndex := 5, descriptorIndex := 6, attributes := #[] }] 33 2 #[] #[{ accessFlags := 25, nameIndex := 123, descriptorIndex := 124, attributes := #[] }, { accessFlags := 25, nameIndex := 130, descriptorIndex := 124, attributes := #[] }, { accessFlags := 25, nameIndex := 136, descriptorIndex := 124, attributes := #[] }])
  fields := #[{ name := "SIOOBE_FORMATTER", type := (.object "java/util/function/BiFunction"), accessFlags := 25, slot := 0, constantValue := 0 }, { name := "AIOOBE_FORMATTER", type := (.object "java/util/function/BiFunction"), accessFlags := 25, slot := 1, constantValue := 0 }, { name := "IOOBE_FORMATTER", type := (.object "java/util/function/BiFunction"), accessFlags := 25, slot := 2, constantValue := 0 }]
  methods := #[k13m0]
  instanceTypes := #[]
  staticTypes := #[(.object "java/util/function/BiFunction"), (.object "java/util/function/BiFunction"), (.object "java/util/function/BiFunction")]
  resolved := Array.replicate 194 none
  statics := some 1 }

def pool14 : Array CpInfo := pool [(9, u "<init>"), (6, .class_ 18), (1, u "java/lang/Object"), (0, u "()V"), (1, .class_ 23), (1, u "jdk/internal/util/ArraysSupport"), (0, u "LOG2_ARRAY_LONG_INDEX_SCALE"), (0, u "I"), (2, u "U"), (0, u "Ljdk/internal/misc/Unsafe;"), (8, u "BIG_ENDIAN"), (0, u "Z"), (8, u "LOG2_BYTE_BIT_SIZE"), (4, u "LOG2_ARRAY_INT_INDEX_SCALE"), (54, u "JLA"), (0, u "Ljdk/internal/access/JavaLangAccess;"), (11, u "LOG2_ARRAY_BOOLEAN_INDEX_SCALE"), (9, u "LOG2_ARRAY_BYTE_INDEX_SCALE"), (5, u "LOG2_ARRAY_CHAR_INDEX_SCALE"), (5, u "LOG2_ARRAY_SHORT_INDEX_SCALE"), (18, u "LOG2_ARRAY_FLOAT_INDEX_SCALE"), (24, u "LOG2_ARRAY_DOUBLE_INDEX_SCALE"), (89, u "T_BOOLEAN"), (2, u "T_CHAR"), (1, u "T_FLOAT"), (1, u "T_DOUBLE"), (1, u "T_BYTE"), (1, u "T_SHORT"), (1, u "T_INT"), (1, u "T_LONG"), (1, u "SOFT_MAX_ARRAY_LENGTH")] 83

def k14m0 : Method := { name := "<init>", desc := "()V", sig := { parameters := [], returnType := none }, accessFlags := 2, code := none }
/-- jdk/internal/util/ArraysSupport -/
def k14 : Class := { plain "jdk/internal/util/ArraysSupport" (some 0) with
  accessFlags := 33
  interfaces := #[]
  cf := some (fileOf pool14 21 #[] #[{ accessFlags := 2, nameIndex := 9, descriptorIndex := 19, attributes := #[] }] 33 16 #[] #[{ accessFlags := 24, nameIndex := 28, descriptorIndex := 29, attributes := #[] }, { accessFlags := 26, nameIndex := 38, descriptorIndex := 39, attributes := #[] }, { accessFlags := 25, nameIndex := 121, descriptorIndex := 25, attributes := #[] }, { accessFlags := 25, nameIndex := 131, descriptorIndex := 25, attributes := #[] }, { accessFlags := 25, nameIndex := 137, descriptorIndex := 25, attributes := #[] }, { accessFlags := 25, nameIndex := 143, descriptorIndex := 25, attributes := #[] }, { accessFlags := 25, nameIndex := 53, descriptorIndex := 25, attributes := #[] }, { accessFlags := 25, nameIndex := 24, descriptorIndex := 25, attributes := #[] }, { accessFlags := 25, nameIndex := 162, descriptorIndex := 25, attributes := #[] }, { accessFlags := 25, nameIndex := 187, descriptorIndex := 25, attributes := #[] }, { accessFlags := 26, nameIndex := 48, descriptorIndex := 25, attributes := #[] }, { accessFlags := 25, nameIndex := 277, descriptorIndex := 25, attributes := #[] }, { accessFlags := 25, nameIndex := 280, descriptorIndex := 25, attributes := #[] }, { accessFlags := 25, nameIndex := 282, descriptorIndex := 25, attributes := #[] }, { accessFlags := 25, nameIndex := 284, descriptorIndex := 25, attributes := #[] }, { accessFlags := 25, nameIndex := 286, descriptorIndex := 25, attributes := #[] }, { accessFlags := 25, nameIndex := 288, descriptorIndex := 25, attributes := #[] }, { accessFlags := 25, nameIndex := 290, descriptorIndex := 25, attributes := #[] }, { accessFlags := 25, nameIndex := 292, descriptorIndex := 25, attributes := #[] }, { accessFlags := 26, nameIndex := 108, descriptorIndex := 109, attributes := #[] }, { accessFlags := 25, nameIndex := 294, descriptorIndex := 25, attributes := #[] }])
  fields := #[{ name := "U", type := (.object "jdk/internal/misc/Unsafe"), accessFlags := 24, slot := 0, constantValue := 0 }, { name := "BIG_ENDIAN", type := .boolean, accessFlags := 26, slot := 1, constantValue := 0 }, { name := "LOG2_ARRAY_BOOLEAN_INDEX_SCALE", type := .int, accessFlags := 25, slot := 2, constantValue := 0 }, { name := "LOG2_ARRAY_BYTE_INDEX_SCALE", type := .int, accessFlags := 25, slot := 3, constantValue := 0 }, { name := "LOG2_ARRAY_CHAR_INDEX_SCALE", type := .int, accessFlags := 25, slot := 4, constantValue := 0 }, { name := "LOG2_ARRAY_SHORT_INDEX_SCALE", type := .int, accessFlags := 25, slot := 5, constantValue := 0 }, { name := "LOG2_ARRAY_INT_INDEX_SCALE", type := .int, accessFlags := 25, slot := 6, constantValue := 0 }, { name := "LOG2_ARRAY_LONG_INDEX_SCALE", type := .int, accessFlags := 25, slot := 7, constantValue := 0 }, { name := "LOG2_ARRAY_FLOAT_INDEX_SCALE", type := .int, accessFlags := 25, slot := 8, constantValue := 0 }, { name := "LOG2_ARRAY_DOUBLE_INDEX_SCALE", type := .int, accessFlags := 25, slot := 9, constantValue := 0 }, { name := "LOG2_BYTE_BIT_SIZE", type := .int, accessFlags := 26, slot := 10, constantValue := 0 }, { name := "T_BOOLEAN", type := .int, accessFlags := 25, slot := 11, constantValue := 0 }, { name := "T_CHAR", type := .int, accessFlags := 25, slot := 12, constantValue := 0 }, { name := "T_FLOAT", type := .int, accessFlags := 25, slot := 13, constantValue := 0 }, { name := "T_DOUBLE", type := .int, accessFlags := 25, slot := 14, constantValue := 0 }, { name := "T_BYTE", type := .int, accessFlags := 25, slot := 15, constantValue := 0 }, { name := "T_SHORT", type := .int, accessFlags := 25, slot := 16, constantValue := 0 }, { name := "T_INT", type := .int, accessFlags := 25, slot := 17, constantValue := 0 }, { name := "T_LONG", type := .int, accessFlags := 25, slot := 18, constantValue := 0 }, { name := "JLA", type := (.object "jdk/internal/access/JavaLangAccess"), accessFlags := 26, slot := 19, constantValue := 0 }, { name := "SOFT_MAX_ARRAY_LENGTH", type := .int, accessFlags := 25, slot := 20, constantValue := 0 }]
  methods := #[k14m0]
  instanceTypes := #[]
  staticTypes := #[(.object "jdk/internal/misc/Unsafe"), .boolean, .int, .int, .int, .int, .int, .int, .int, .int, .int, .int, .int, .int, .int, .int, .int, .int, .int, (.object "jdk/internal/access/JavaLangAccess"), .int]
  resolved := Array.replicate 378 none
  statics := none }

def pool15 : Array CpInfo := pool [(1, u "java/lang/Cloneable"), (0, .class_ 1), (0, u "java/lang/Object"), (0, .class_ 3)] 3

/-- java/lang/Cloneable -/
def k15 : Class := { plain "java/lang/Cloneable" (some 0) with
  accessFlags := 1537
  interfaces := #[]
  cf := some (fileOf pool15 2 #[] #[] 1537 4 #[] #[])
  fields := #[]
  methods := #[]
  instanceTypes := #[]
  staticTypes := #[]
  resolved := Array.replicate 8 none
  statics := none }

/-- the primitive byte -/
def k16 : Class := { plain "byte" none with kind := .primitive 'B', accessFlags := 0x411 }
/-- [B -/
def k17 : Class := { plain "[B" (some 0) with kind := .array 16 .byte, interfaces := #[15, 2], accessFlags := 1041 }

/-- the primitive char -/
def k18 : Class := { plain "char" none with kind := .primitive 'C', accessFlags := 0x411 }
/-- [C -/
def k19 : Class := { plain "[C" (some 0) with kind := .array 18 .char, interfaces := #[15, 2], accessFlags := 1041 }

/-- the primitive int -/
def k20 : Class := { plain "int" none with kind := .primitive 'I', accessFlags := 0x411 }
/-- [I -/
def k21 : Class := { plain "[I" (some 0) with kind := .array 20 .int, interfaces := #[15, 2], accessFlags := 1041 }

def heap : Heap := #[{ cls := 7, slots := #[.long 0, .int 1, .null, .int 0, .null, .int 0, .int 0], vm := .statics 7 },
  { cls := 13, slots := #[.null, .null, .null], vm := .statics 13 }]
def classes : Array Class := #[k0, k1, k2, k3, k4, k5, k6, k7, k8, k9, k10, k11, k12, k13, k14, k15, k16, k17, k18, k19, k20, k21]
def interned : List (Array UInt16 × Addr) := []
def slotsUsed : Nat := 10
def theMethod : MethodId := ⟨1, 1⟩
def args0 : Array Value := #[.int 5, .int 7, .int 9, .int 11]
def aboutOver (below : List Frame) : State where
  vm := { classes := classes, interned := interned.toArray }
  heap := heap
  slotsUsed := slotsUsed
  threads := #[{ frames := .invoking theMethod args0 :: below }]
def below0 : List Frame := [.native { method := ⟨0, 0⟩, args := #[] }]
def about1 : State := aboutOver below0
def p0 : Program := .bare "" "" ""
def e0 : Env := launch0.env 0 0 0
theorem w_frames : about1.frames = Frame.invoking theMethod args0 :: below0 := rfl
set_option maxRecDepth 65536 in
theorem w_args : argsFit about1.vm theMethod args0 = true := by decide +kernel
set_option maxRecDepth 65536 in
theorem w_heap : heapFits about1 = true := by decide +kernel
set_option maxRecDepth 65536 in
theorem w_runnable : about1.curStatus? = some .runnable := by decide +kernel
set_option maxRecDepth 65536 in
theorem w_alone : about1.alone = true := by decide +kernel
set_option maxRecDepth 65536 in
theorem w_named : about1.methodNamed? x = some theMethod := by decide +kernel
set_option maxRecDepth 65536 in
theorem w_hears : about1.hears theMethod below0 = true := by decide +kernel
set_option maxRecDepth 65536 in
theorem w_ripe : about1.ripe theMethod args0 below0 = true := by decide +kernel
theorem w_running : about1.status = .running := rfl
set_option maxRecDepth 65536 in
theorem w_room : about1.hasRoom e0.platform room_1 = true :=
  launch0.hasRoom_least _ room_1 (by decide +kernel) (by decide +kernel) (by decide +kernel) (by decide +kernel) (by decide +kernel) (by decide +kernel)
theorem allAtoms_all (ts : List Jvm.Cond) (a : Array Jvm.Value) (st : Jvm.State) : (allAtoms ts).before a st = ts.all (fun c => c.before a st) := by
  induction ts with
  | nil => rfl
  | cons c t ih =>
    show (Jvm.Cond.and c (allAtoms t)).before a st = _
    rw [Jvm.Cond.before_and, ih, List.all_cons]
def words1 : List Jvm.Cond := Jvm.Cond.code x code maxLocals ret :: tables_1
/-- a 'code' word, met by the world's own term for the bytes: nothing is compared byte by byte -/
theorem code_word {y : MethodName} {bytes : ByteArray} {mx : Nat} {rt : Option FieldType} {a : Array Value} {s : State} {m : MethodId} {meth : Method} {c : Code} (h1 : s.methodNamed? y = some m) (h2 : s.vm.method? m = some meth) (h3 : meth.code = some c) (h4 : c.code = bytes)
    (h5 : (c.maxLocals == mx && c.exceptionTable.isEmpty && decide (c.maxStack ≤ mostOperands) && decide (meth.sig.returnType = rt) && !meth.locks && decide (parseMethodDescriptor y.desc = some meth.sig)) = true) : (Jvm.Cond.code y bytes mx rt).before a s = true := by
  simp only [Bool.and_eq_true, beq_iff_eq, Bool.not_eq_true', decide_eq_true_eq] at h5
  obtain ⟨⟨⟨⟨⟨g1, g2⟩, g3⟩, g4⟩, g5⟩, g6⟩ := h5
  simp [Cond.before, Cond.holds, Cond.value, h1, h2, h3, h4, g1, g2, g3, g4, g5, g6]
def isCode : Jvm.Cond → Bool
  | .code _ _ _ _ => true
  | _ => false
theorem all_split {L : List Jvm.Cond} {P : Jvm.Cond → Bool} (h1 : L.all (fun c => isCode c || P c) = true) (h2 : ∀ c ∈ L.filter isCode, P c = true) : L.all P = true := by
  refine List.all_eq_true.mpr fun c hc => ?_
  have h := List.all_eq_true.mp h1 c hc
  rcases Bool.eq_false_or_eq_true (isCode c) with hi | hi
  · exact h2 c (List.mem_filter.mpr ⟨hc, hi⟩)
  · simpa [hi] using h
set_option maxRecDepth 65536 in
theorem w_c0 : (Jvm.Cond.code x code maxLocals ret).before args0 about1 = true := code_word (m := ⟨1, 1⟩) (meth := k1m1) (c := k1c1) (by decide +kernel) rfl rfl rfl (by decide +kernel)
set_option maxRecDepth 65536 in
theorem w_c1 : (Jvm.Cond.code ({ cls := "java/lang/String", name := "valueOf", desc := "(C)Ljava/lang/String;" } : Jvm.MethodName) jdk_42_method_139_code (1 : Nat) (Option.some (Jvm.ClassFile.FieldType.object "java/lang/String"))).before args0 about1 = true := code_word (m := ⟨7, 2⟩) (meth := k7m2) (c := k7c2) (by decide +kernel) rfl rfl rfl (by decide +kernel)
set_option maxRecDepth 65536 in
theorem w_c2 : (Jvm.Cond.code ({ cls := "java/lang/StringLatin1", name := "canEncode", desc := "(C)Z" } : Jvm.MethodName) jdk_43_method_3_code (1 : Nat) (Option.some Jvm.ClassFile.FieldType.boolean)).before args0 about1 = true := code_word (m := ⟨8, 1⟩) (meth := k8m1) (c := k8c1) (by decide +kernel) rfl rfl rfl (by decide +kernel)
set_option maxRecDepth 65536 in
theorem w_c3 : (Jvm.Cond.code ({ cls := "java/lang/StringLatin1", name := "toBytes", desc := "(C)[B" } : Jvm.MethodName) jdk_43_method_46_code (1 : Nat) (Option.some (Jvm.ClassFile.FieldType.array Jvm.ClassFile.FieldType.byte))).before args0 about1 = true := code_word (m := ⟨8, 2⟩) (meth := k8m2) (c := k8c2) (by decide +kernel) rfl rfl rfl (by decide +kernel)
set_option maxRecDepth 65536 in
theorem w_c4 : (Jvm.Cond.code ({ cls := "java/lang/String", name := "<init>", desc := "([BB)V" } : Jvm.MethodName) jdk_42_method_151_code (3 : Nat) (Option.none : Option Jvm.ClassFile.FieldType)).before args0 about1 = true := code_word (m := ⟨7, 4⟩) (meth := k7m4) (c := k7c4) (by decide +kernel) rfl rfl rfl (by decide +kernel)
set_option maxRecDepth 65536 in
theorem w_c5 : (Jvm.Cond.code ({ cls := "java/lang/Object", name := "<init>", desc := "()V" } : Jvm.MethodName) object_method_1_code (1 : Nat) (Option.none : Option Jvm.ClassFile.FieldType)).before args0 about1 = true := code_word (m := ⟨0, 0⟩) (meth := k0m0) (c := k0c0) (by decide +kernel) rfl rfl rfl (by decide +kernel)
set_option maxRecDepth 65536 in
theorem w_c6 : (Jvm.Cond.code ({ cls := "com/example/narabi/narabi/ranking/Bm25", name := "checkB", desc := "(Ljava/lang/String;D)V" } : Jvm.MethodName) prog_48_method_6_code (3 : Nat) (Option.none : Option Jvm.ClassFile.FieldType)).before args0 about1 = true := code_word (m := ⟨11, 0⟩) (meth := k11m0) (c := k11c0) (by decide +kernel) rfl rfl rfl (by decide +kernel)
set_option maxRecDepth 65536 in
theorem w_c7 : (Jvm.Cond.code ({ cls := "java/lang/String", name := "<init>", desc := "([C)V" } : Jvm.MethodName) jdk_42_method_3_code (2 : Nat) (Option.none : Option Jvm.ClassFile.FieldType)).before args0 about1 = true := code_word (m := ⟨7, 1⟩) (meth := k7m1) (c := k7c1) (by decide +kernel) rfl rfl rfl (by decide +kernel)
set_option maxRecDepth 65536 in
theorem w_c8 : (Jvm.Cond.code ({ cls := "java/lang/String", name := "<init>", desc := "([CIILjava/lang/Void;)V" } : Jvm.MethodName) jdk_42_method_149_code (6 : Nat) (Option.none : Option Jvm.ClassFile.FieldType)).before args0 about1 = true := code_word (m := ⟨7, 3⟩) (meth := k7m3) (c := k7c3) (by decide +kernel) rfl rfl rfl (by decide +kernel)
set_option maxRecDepth 65536 in
theorem w_c9 : (Jvm.Cond.code ({ cls := "java/lang/StringUTF16", name := "compress", desc := "([CII)[B" } : Jvm.MethodName) jdk_52_method_16_code (6 : Nat) (Option.some (Jvm.ClassFile.FieldType.array Jvm.ClassFile.FieldType.byte))).before args0 about1 = true := code_word (m := ⟨12, 2⟩) (meth := k12m2) (c := k12c2) (by decide +kernel) rfl rfl rfl (by decide +kernel)
set_option maxRecDepth 65536 in
theorem w_c10 : (Jvm.Cond.code ({ cls := "java/lang/StringUTF16", name := "compress", desc := "([CI[BII)I" } : Jvm.MethodName) jdk_52_method_21_code (7 : Nat) (Option.some Jvm.ClassFile.FieldType.int)).before args0 about1 = true := code_word (m := ⟨12, 3⟩) (meth := k12m3) (c := k12c3) (by decide +kernel) rfl rfl rfl (by decide +kernel)
set_option maxRecDepth 65536 in
theorem w_c11 : (Jvm.Cond.code ({ cls := "java/lang/StringUTF16", name := "coderFromArrayLen", desc := "([BI)B" } : Jvm.MethodName) jdk_52_method_15_code (2 : Nat) (Option.some Jvm.ClassFile.FieldType.byte)).before args0 about1 = true := code_word (m := ⟨12, 1⟩) (meth := k12m1) (c := k12c1) (by decide +kernel) rfl rfl rfl (by decide +kernel)
def codes1 : List Jvm.Cond := [Jvm.Cond.code x code maxLocals ret, Jvm.Cond.code ({ cls := "java/lang/String", name := "valueOf", desc := "(C)Ljava/lang/String;" } : Jvm.MethodName) jdk_42_method_139_code (1 : Nat) (Option.some (Jvm.ClassFile.FieldType.object "java/lang/String")), Jvm.Cond.code ({ cls := "java/lang/StringLatin1", name := "canEncode", desc := "(C)Z" } : Jvm.MethodName) jdk_43_method_3_code (1 : Nat) (Option.some Jvm.ClassFile.FieldType.boolean), Jvm.Cond.code ({ cls := "java/lang/StringLatin1", name := "toBytes", desc := "(C)[B" } : Jvm.MethodName) jdk_43_method_46_code (1 : Nat) (Option.some (Jvm.ClassFile.FieldType.array Jvm.ClassFile.FieldType.byte)), Jvm.Cond.code ({ cls := "java/lang/String", name := "<init>", desc := "([BB)V" } : Jvm.MethodName) jdk_42_method_151_code (3 : Nat) (Option.none : Option Jvm.ClassFile.FieldType), Jvm.Cond.code ({ cls := "java/lang/Object", name := "<init>", desc := "()V" } : Jvm.MethodName) object_method_1_code (1 : Nat) (Option.none : Option Jvm.ClassFile.FieldType), Jvm.Cond.code ({ cls := "com/example/narabi/narabi/ranking/Bm25", name := "checkB", desc := "(Ljava/lang/String;D)V" } : Jvm.MethodName) prog_48_method_6_code (3 : Nat) (Option.none : Option Jvm.ClassFile.FieldType), Jvm.Cond.code ({ cls := "java/lang/String", name := "<init>", desc := "([C)V" } : Jvm.MethodName) jdk_42_method_3_code (2 : Nat) (Option.none : Option Jvm.ClassFile.FieldType), Jvm.Cond.code ({ cls := "java/lang/String", name := "<init>", desc := "([CIILjava/lang/Void;)V" } : Jvm.MethodName) jdk_42_method_149_code (6 : Nat) (Option.none : Option Jvm.ClassFile.FieldType), Jvm.Cond.code ({ cls := "java/lang/StringUTF16", name := "compress", desc := "([CII)[B" } : Jvm.MethodName) jdk_52_method_16_code (6 : Nat) (Option.some (Jvm.ClassFile.FieldType.array Jvm.ClassFile.FieldType.byte)), Jvm.Cond.code ({ cls := "java/lang/StringUTF16", name := "compress", desc := "([CI[BII)I" } : Jvm.MethodName) jdk_52_method_21_code (7 : Nat) (Option.some Jvm.ClassFile.FieldType.int), Jvm.Cond.code ({ cls := "java/lang/StringUTF16", name := "coderFromArrayLen", desc := "([BI)B" } : Jvm.MethodName) jdk_52_method_15_code (2 : Nat) (Option.some Jvm.ClassFile.FieldType.byte)]
set_option maxRecDepth 65536 in
theorem codes_eq : words1.filter isCode = codes1 := rfl
theorem w_codes : ∀ c ∈ words1.filter isCode, c.before args0 about1 = true := by
  rw [codes_eq]
  intro c hc
  simp only [codes1, List.mem_cons, List.not_mem_nil, or_false] at hc
  rcases hc with rfl | rfl | rfl | rfl | rfl | rfl | rfl | rfl | rfl | rfl | rfl | rfl
  · exact w_c0
  · exact w_c1
  · exact w_c2
  · exact w_c3
  · exact w_c4
  · exact w_c5
  · exact w_c6
  · exact w_c7
  · exact w_c8
  · exact w_c9
  · exact w_c10
  · exact w_c11
set_option maxRecDepth 65536 in
theorem w_t1 : (words1.take 24).all (fun c => isCode c || c.before args0 about1) = true := by decide +kernel
set_option maxRecDepth 65536 in
theorem w_t2 : ((words1.drop 24).take 24).all (fun c => isCode c || c.before args0 about1) = true := by decide +kernel
set_option maxRecDepth 65536 in
theorem w_t3 : ((words1.drop 24).drop 24).all (fun c => isCode c || c.before args0 about1) = true := by decide +kernel
theorem w_tables : (allAtoms (Jvm.Cond.code x code maxLocals ret :: tables_1)).before args0 about1 = true := by
  rw [allAtoms_all]
  show words1.all (fun c => c.before args0 about1) = true
  refine all_split ?_ w_codes
  rw [← List.take_append_drop 24 words1, List.all_append, w_t1, ← List.take_append_drop 24 (words1.drop 24), List.all_append, w_t2, w_t3]
  rfl
set_option maxRecDepth 65536 in
theorem w_rest : rest_1_c.before args0 about1 = true := by decide +kernel
set_option maxRecDepth 65536 in
theorem w_case : (Jvm.Cond.and given_1 narrow_1).before args0 about1 = true := by decide +kernel
theorem w_applies : (headSpec (Jvm.Cond.code x code maxLocals ret :: tables_1) room_1).applies x e0.platform about1 = true :=
  (Spec.applies_iff w_frames).mpr ⟨w_running, w_runnable, w_alone, w_named, w_hears, w_ripe, w_room, w_tables⟩
theorem atStart : AtStart classFile x code maxLocals ret World_1 tables_1 room_1 Calls_1 rest_1 Pre_1 launch0 p0 e0 about1 theMethod args0 below0 :=
  ⟨lists_1, trivial, launch0.admits_env _ _ _, launch0.least_env, fairChoices_fair.cas, fairChoices_fair.clock, w_frames, w_args, w_heap, w_applies, trivial, w_rest, w_case⟩
end start1
theorem witness_1 : WitnessClaimed_1 := ⟨start1.p0, start1.e0, start1.about1, start1.theMethod, start1.args0, start1.below0, start1.atStart⟩
end Jvm.Pilot.@@N@@
