import JvmDerived
import JvmDerived.Pilot.@@N@@Statement
import JvmDerived.Pilot.@@N@@Code
set_option linter.unusedVariables false
set_option linter.unusedSimpArgs false
namespace Jvm.OwnFP
open Jvm.FP Jvm.FP.Core
/-- a double's value in units of the least double, 2^-1074 -/
abbrev Zv (a : UInt64) : Int := zval b64 (val64 a)
theorem fin_ne {a : UInt64} (h : DFin a) : val64 a ≠ .nan := by
  obtain ⟨s, c, q, h⟩ := h; rw [h]; exact Datum.noConfusion
theorem mul_ne {a b : UInt64} (ha : DFin a) (hb : DFin b) : val64 (FP.dmul a b) ≠ .nan :=
  Jvm.Free.Fl.val64_no.mp (Jvm.Free.Fl.dmul_out (Jvm.Free.Fl.fin64_core.mpr ha) (Jvm.Free.Fl.fin64_core.mpr hb))
theorem add_ne {a b : UInt64} (ha : DFin a) (hb : DFin b) : val64 (FP.dadd a b) ≠ .nan :=
  Jvm.Free.Fl.val64_no.mp (Jvm.Free.Fl.dadd_out (Jvm.Free.Fl.fin64_core.mpr ha).noNaN (Jvm.Free.Fl.fin64_core.mpr hb))
theorem sub_ne {a b : UInt64} (ha : DFin a) (hb : DFin b) : val64 (FP.dsub a b) ≠ .nan :=
  Jvm.Free.Fl.val64_no.mp (Jvm.Free.Fl.dsub_out (Jvm.Free.Fl.fin64_core.mpr ha).noNaN (Jvm.Free.Fl.fin64_core.mpr hb))
theorem fin_of {r U V : UInt64} (hr : val64 r ≠ .nan) (hU : DFin U) (hV : DFin V) (h1 : Zv U ≤ Zv r) (h2 : Zv r ≤ Zv V) : DFin r := by
  have uU := hU.zval_lt
  have uV := hV.zval_lt
  have aU : (Zv U).natAbs = zmag b64 (val64 U) := natAbs_signed _ _
  have aV : (Zv V).natAbs = zmag b64 (val64 V) := natAbs_signed _ _
  have ar : (Zv r).natAbs = zmag b64 (val64 r) := natAbs_signed _ _
  cases e : val64 r with
  | nan => exact absurd e hr
  | fin s c q => exact ⟨s, c, q, e⟩
  | inf s =>
    have e2 : zmag b64 (val64 r) = b64.tails * 2 ^ (b64.exps - 2) := by rw [e]; rfl
    rw [e2] at ar
    generalize b64.tails * 2 ^ (b64.exps - 2) = top at *
    omega
theorem dmul_le {a b V : UInt64} (ha : DFin a) (hb : DFin b) (hV : val64 V ≠ .nan) (h : Zv a * Zv b ≤ Zv V * (one64 : Int)) : Zv (FP.dmul a b) ≤ Zv V := by
  obtain ⟨s, c, q, ea⟩ := ha
  obtain ⟨t, d, r, eb⟩ := hb
  have fa := val64_fits a
  have fb := val64_fits b
  unfold Zv at h ⊢
  rw [ea] at fa h
  rw [eb] at fb h
  obtain ⟨p1, p2, p3⟩ := product_units fa fb
  rw [val64_dmul, ea, eb, p1]
  have hq := qmin_neg good_b64
  refine zval_round_le good_b64 (val64_fits V) hV (e0 := 2 * b64.qmin) (by omega) p2 ?_
  rw [p3, signed_xor, show (b64.qmin - 2 * b64.qmin).toNat = (-b64.qmin).toNat by omega, pow_qmin64]
  exact h
theorem dmul_ge {a b V : UInt64} (ha : DFin a) (hb : DFin b) (hV : val64 V ≠ .nan) (h : Zv V * (one64 : Int) ≤ Zv a * Zv b) : Zv V ≤ Zv (FP.dmul a b) := by
  obtain ⟨s, c, q, ea⟩ := ha
  obtain ⟨t, d, r, eb⟩ := hb
  have fa := val64_fits a
  have fb := val64_fits b
  unfold Zv at h ⊢
  rw [ea] at fa h
  rw [eb] at fb h
  obtain ⟨p1, p2, p3⟩ := product_units fa fb
  rw [val64_dmul, ea, eb, p1]
  have hq := qmin_neg good_b64
  refine zval_round_ge good_b64 (val64_fits V) hV (e0 := 2 * b64.qmin) (by omega) p2 ?_
  rw [p3, signed_xor, show (b64.qmin - 2 * b64.qmin).toNat = (-b64.qmin).toNat by omega, pow_qmin64]
  exact h
theorem dadd_le {a b V : UInt64} (ha : DFin a) (hb : DFin b) (hV : val64 V ≠ .nan) (h : Zv a + Zv b ≤ Zv V) : Zv (FP.dadd a b) ≤ Zv V := by
  unfold Zv at h ⊢
  rw [val64_dadd]; exact sum_le good_b64 ha hb (val64_fits a) (val64_fits b) (val64_fits V) hV h
theorem dadd_ge {a b V : UInt64} (ha : DFin a) (hb : DFin b) (hV : val64 V ≠ .nan) (h : Zv V ≤ Zv a + Zv b) : Zv V ≤ Zv (FP.dadd a b) := by
  unfold Zv at h ⊢
  rw [val64_dadd]; exact sum_ge good_b64 ha hb (val64_fits a) (val64_fits b) (val64_fits V) hV h
theorem neg_fin {a : UInt64} (h : DFin a) : DFin (FP.dneg a) := by
  obtain ⟨s, c, q, h⟩ := h
  exact ⟨!s, c, q, by rw [FP.val64_dneg, h]; rfl⟩
theorem Zv_neg (a : UInt64) : Zv (FP.dneg a) = -Zv a := by unfold Zv; rw [FP.val64_dneg, zval_negate]
theorem cneg_fin {a : UInt64} (h : DFin a) : DFin (Core.dneg a) := by
  obtain ⟨s, c, q, h⟩ := h
  exact ⟨!s, c, q, by rw [Core.val64_dneg, h]; rfl⟩
theorem Zv_cneg (a : UInt64) : Zv (Core.dneg a) = -Zv a := by unfold Zv; rw [Core.val64_dneg, zval_negate]
theorem dsub_le {a b V : UInt64} (ha : DFin a) (hb : DFin b) (hV : val64 V ≠ .nan) (h : Zv a - Zv b ≤ Zv V) : Zv (FP.dsub a b) ≤ Zv V := by
  show Zv (Core.dsub a b) ≤ _
  rw [Core.dsub_eq]; exact dadd_le ha (cneg_fin hb) hV (by rw [Zv_cneg]; omega)
theorem dsub_ge {a b V : UInt64} (ha : DFin a) (hb : DFin b) (hV : val64 V ≠ .nan) (h : Zv V ≤ Zv a - Zv b) : Zv V ≤ Zv (FP.dsub a b) := by
  show _ ≤ Zv (Core.dsub a b)
  rw [Core.dsub_eq]; exact dadd_ge ha (cneg_fin hb) hV (by rw [Zv_cneg]; omega)
/-- where the exact value is a double's, it is the result's -/
theorem dmul_eq {a b V : UInt64} (ha : DFin a) (hb : DFin b) (hV : DFin V) (h : Zv a * Zv b = Zv V * (one64 : Int)) : DFin (FP.dmul a b) ∧ Zv (FP.dmul a b) = Zv V := by
  have h1 := dmul_le ha hb (fin_ne hV) (Int.le_of_eq h)
  have h2 := dmul_ge ha hb (fin_ne hV) (Int.le_of_eq h.symm)
  exact ⟨fin_of (mul_ne ha hb) hV hV h2 h1, Int.le_antisymm h1 h2⟩
theorem dadd_eq {a b V : UInt64} (ha : DFin a) (hb : DFin b) (hV : DFin V) (h : Zv a + Zv b = Zv V) : DFin (FP.dadd a b) ∧ Zv (FP.dadd a b) = Zv V := by
  have h1 := dadd_le ha hb (fin_ne hV) (Int.le_of_eq h)
  have h2 := dadd_ge ha hb (fin_ne hV) (Int.le_of_eq h.symm)
  exact ⟨fin_of (add_ne ha hb) hV hV h2 h1, Int.le_antisymm h1 h2⟩
theorem dsub_eq {a b V : UInt64} (ha : DFin a) (hb : DFin b) (hV : DFin V) (h : Zv a - Zv b = Zv V) : DFin (FP.dsub a b) ∧ Zv (FP.dsub a b) = Zv V := by
  have h1 := dsub_le ha hb (fin_ne hV) (Int.le_of_eq h)
  have h2 := dsub_ge ha hb (fin_ne hV) (Int.le_of_eq h.symm)
  exact ⟨fin_of (sub_ne ha hb) hV hV h2 h1, Int.le_antisymm h1 h2⟩
theorem signed_self (N : Int) (k : Nat) : signed (decide (N < 0)) (N.natAbs * k) = N * (k : Int) := by
  rw [signed_mul]
  congr 1
  unfold signed
  by_cases h : N < 0 <;> simp [h] <;> omega
/-- every N * 2^k units, N of up to 53 digits, is a double -/
theorem rep (N : Int) (k : Nat) (hN : N.natAbs < 2 ^ 53) (hk : k ≤ 2045) : ∃ V, DFin V ∧ Zv V = N * ((2 ^ k : Nat) : Int) := by
  have q1 := qmin_b64
  have q2 : b64.qmax = 971 := by decide
  obtain ⟨c', q', h1, h2⟩ := round_exact good_b64 (decide (N < 0)) (c := N.natAbs) (q := (k : Int) - 1074) hN (by omega) (by omega)
  have hv : val64 (of64 (round b64 (.fin (decide (N < 0)) N.natAbs ((k : Int) - 1074)))) = .fin (decide (N < 0)) c' q' := by
    rw [val64_of64 (round_fits good_b64 _), h1]
  refine ⟨_, ⟨_, _, _, hv⟩, ?_⟩
  unfold Zv
  rw [hv]
  show signed (decide (N < 0)) (inUnits c' q' b64.qmin) = _
  rw [h2, q1]
  unfold inUnits
  rw [show ((k : Int) - 1074 - -1074).toNat = k by omega]
  exact signed_self N _
/-- the double a is N * 2^(k - 1074) -/
def Val (a : UInt64) (N : Int) (k : Nat) : Prop := DFin a ∧ Zv a = N * ((2 ^ k : Nat) : Int)
theorem one_pow : (one64 : Int) = ((2 ^ 1074 : Nat) : Int) := rfl
theorem Val.of_int {i : Int} {a : UInt64} (h : DInt i a) : Val a i 1074 := by
  refine ⟨?_, (DInt_zval h).trans (by rw [one_pow])⟩
  unfold DInt at h
  cases e : val64 a with
  | nan => rw [e] at h; exact h.elim
  | inf s => rw [e] at h; exact h.elim
  | fin s c q => exact ⟨s, c, q, e⟩
theorem Val.i2d (n : Int32) : Val (FP.i2d n) n.toInt 1074 := Val.of_int (i2d_int n)
theorem Val.l2d {n : Int64} (h : n.toInt.natAbs ≤ 2 ^ 53) : Val (FP.l2d n) n.toInt 1074 := Val.of_int (l2d_int h)
theorem Val.neg {a : UInt64} {N : Int} {k : Nat} (h : Val a N k) : Val (FP.dneg a) (-N) k := ⟨neg_fin h.1, by rw [Zv_neg, h.2, Int.neg_mul]⟩
theorem pow_cast (k j : Nat) : ((2 ^ (k + j) : Nat) : Int) = ((2 ^ k : Nat) : Int) * ((2 ^ j : Nat) : Int) := by
  rw [Nat.pow_add, Int.natCast_mul]
theorem Val.mul {a b : UInt64} {N M : Int} {k j i : Nat} (ha : Val a N k) (hb : Val b M j) (hN : (N * M).natAbs < 2 ^ 53) (hi : k + j = i + 1074) (hk : i ≤ 2045) : Val (FP.dmul a b) (N * M) i := by
  obtain ⟨V, fV, zV⟩ := rep (N * M) i hN hk
  obtain ⟨h1, h2⟩ := dmul_eq ha.1 hb.1 fV (by
    rw [ha.2, hb.2, zV, one_pow, Int.mul_assoc (N * M), ← pow_cast, ← hi, pow_cast, Int.mul_assoc N M, Int.mul_assoc N, Int.mul_left_comm _ M])
  exact ⟨h1, h2.trans zV⟩
theorem Val.add {a b : UInt64} {N M : Int} {k : Nat} (ha : Val a N k) (hb : Val b M k) (hN : (N + M).natAbs < 2 ^ 53) (hk : k ≤ 2045) : Val (FP.dadd a b) (N + M) k := by
  obtain ⟨V, fV, zV⟩ := rep (N + M) k hN hk
  obtain ⟨h1, h2⟩ := dadd_eq ha.1 hb.1 fV (by rw [ha.2, hb.2, zV, Int.add_mul])
  exact ⟨h1, h2.trans zV⟩
theorem Val.sub {a b : UInt64} {N M : Int} {k : Nat} (ha : Val a N k) (hb : Val b M k) (hN : (N - M).natAbs < 2 ^ 53) (hk : k ≤ 2045) : Val (FP.dsub a b) (N - M) k := by
  obtain ⟨V, fV, zV⟩ := rep (N - M) k hN hk
  obtain ⟨h1, h2⟩ := dsub_eq ha.1 hb.1 fV (by rw [ha.2, hb.2, zV, Int.sub_mul])
  exact ⟨h1, h2.trans zV⟩
theorem pow_pos' (k : Nat) : (0 : Int) < ((2 ^ k : Nat) : Int) := by have := Nat.two_pow_pos k; omega
theorem Val.cmp {a b : UInt64} {N M : Int} {k : Nat} (ha : Val a N k) (hb : Val b M k) : FP.dcmp a b = some (compare N M) := by
  have h : FP.dcmp a b = some (compare (Zv a) (Zv b)) := dcmp_zval (fin_ne ha.1) (fin_ne hb.1)
  rw [h, ha.2, hb.2, compare_mul_pos _ _ _ (pow_pos' k)]
theorem Val.scale {a : UInt64} {N : Int} {k : Nat} (j : Nat) (ha : Val a N (k + j)) : Val a (N * ((2 ^ j : Nat) : Int)) k :=
  ⟨ha.1, by rw [ha.2, pow_cast, Int.mul_assoc, Int.mul_comm ((2 ^ k : Nat) : Int)]⟩
theorem lt_iff {a b : UInt64} (ha : DFin a) (hb : DFin b) : FP.dcmp a b = some .lt ↔ Zv a < Zv b :=
  ⟨fun h => (dcmp_lt.mp h).2.2, fun h => dcmp_lt.mpr ⟨fin_ne ha, fin_ne hb, h⟩⟩
theorem eq_iff {a b : UInt64} (ha : DFin a) (hb : DFin b) : FP.dcmp a b = some .eq ↔ Zv a = Zv b :=
  ⟨fun h => (dcmp_eq.mp h).2.2, fun h => dcmp_eq.mpr ⟨fin_ne ha, fin_ne hb, h⟩⟩
theorem le_iff {a b : UInt64} (ha : DFin a) (hb : DFin b) : (FP.dcmp a b = some .lt ∨ FP.dcmp a b = some .eq) ↔ Zv a ≤ Zv b := by
  rw [lt_iff ha hb, eq_iff ha hb]; omega
theorem dfin_const {a : UInt64} (h : a.toNat % 9223372036854775808 < 9218868437227405312) : DFin a := (Core.fin_bits a).mpr h
end Jvm.OwnFP
namespace Jvm.OwnFP
open Jvm.FP Jvm.FP.Core
theorem ratio_units {s t : Bool} {c d : Nat} {q r : Int} (fa : Core.fits b64 (.fin s c q)) (fb : Core.fits b64 (.fin t d r)) :
    2 * b64.qmin - r ≤ b64.qmin ∧ 2 * b64.qmin - r ≤ q - r ∧ inUnits c (q - r) (2 * b64.qmin - r) = zmag b64 (.fin s c q) * one64 ∧
    ∀ m : Nat, m * 2 ^ (b64.qmin - (2 * b64.qmin - r)).toNat * d = m * zmag b64 (.fin t d r) := by
  have h1 : b64.qmin ≤ q := fa.2.1
  have h2 : b64.qmin ≤ r := fb.2.1
  have hq := qmin_neg good_b64
  refine ⟨by omega, by omega, ?_, fun m => ?_⟩
  · show c * 2 ^ (q - r - (2 * b64.qmin - r)).toNat = c * 2 ^ (q - b64.qmin).toNat * one64
    rw [← pow_qmin64, Nat.mul_assoc, ← Nat.pow_add]
    congr 2; omega
  · show m * 2 ^ (b64.qmin - (2 * b64.qmin - r)).toNat * d = m * (d * 2 ^ (r - b64.qmin).toNat)
    rw [show (b64.qmin - (2 * b64.qmin - r)).toNat = (r - b64.qmin).toNat by omega, Nat.mul_assoc, Nat.mul_comm d]
theorem div_form {a b : UInt64} (hb : 0 < Zv b) {s t : Bool} {c d : Nat} {q r : Int} (ea : val64 a = .fin s c q) (eb : val64 b = .fin t d r) :
    0 < d ∧ t = false ∧ val64 (FP.ddiv a b) = roundRatio b64 s c d (q - r) := by
  have hd : d ≠ 0 := by
    intro hd
    unfold Zv at hb
    rw [eb, hd] at hb
    have : zval b64 (.fin t 0 r) = 0 := by
      show signed t (0 * _) = 0
      rw [Nat.zero_mul]; exact signed_zero t
    omega
  have ht : t = false := by
    cases t with
    | false => rfl
    | true =>
      exfalso
      unfold Zv at hb
      rw [eb] at hb
      have : zval b64 (.fin true d r) = -((zmag b64 (.fin true d r) : Nat) : Int) := rfl
      omega
  subst ht
  refine ⟨by omega, rfl, ?_⟩
  rw [val64_ddiv, ea, eb]
  show (if d = 0 then _ else roundRatio b64 (s != false) c d (q - r)) = _
  rw [if_neg hd]
  cases s <;> rfl
theorem zsgn {s : Bool} {c : Nat} {q : Int} : zval b64 (.fin s c q) = signed s (zmag b64 (.fin s c q)) := rfl
theorem zval_rr (s : Bool) (A B : Nat) (e : Int) : zval b64 (roundRatio b64 s A B e) = signed s (zmag b64 (roundRatio b64 s A B e)) := by
  unfold zval; rw [sgn_roundRatio]
theorem zmag_of (V : UInt64) : (0 ≤ Zv V → ((zmag b64 (val64 V) : Nat) : Int) = Zv V) ∧ (Zv V ≤ 0 → ((zmag b64 (val64 V) : Nat) : Int) = -Zv V) := by
  have h : Zv V = signed (sgn (val64 V)) (zmag b64 (val64 V)) := rfl
  cases hs : sgn (val64 V) <;> rw [hs] at h <;> simp only [signed, if_true, Bool.false_eq_true, if_false] at h <;> omega
theorem ddiv_le {a b V : UInt64} (ha : DFin a) (hb : DFin b) (hb0 : 0 < Zv b) (hV : val64 V ≠ .nan) (h : Zv a * (one64 : Int) ≤ Zv V * Zv b) : Zv (FP.ddiv a b) ≤ Zv V := by
  obtain ⟨s, c, q, ea⟩ := ha
  obtain ⟨t, d, r, eb⟩ := hb
  obtain ⟨hd, rfl, e⟩ := div_form hb0 ea eb
  have fa := val64_fits a
  have fb := val64_fits b
  rw [ea] at fa
  rw [eb] at fb
  obtain ⟨u1, u2, u3, u4⟩ := ratio_units fa fb
  obtain ⟨v1, v2⟩ := zmag_of V
  have za : Zv a = signed s (zmag b64 (.fin s c q)) := by unfold Zv; rw [ea]; rfl
  have zb : Zv b = ((zmag b64 (.fin false d r) : Nat) : Int) := by unfold Zv; rw [eb]; rfl
  rw [zb] at h hb0
  rw [za] at h
  show zval b64 (val64 (FP.ddiv a b)) ≤ Zv V
  rw [e, zval_rr]
  have op := one64_pos
  cases s with
  | false =>
    simp only [signed, Bool.false_eq_true, if_false] at h ⊢
    have hV0 : 0 ≤ Zv V := Int.not_lt.mp fun hn => by
      have : Zv V * ((zmag b64 (.fin false d r) : Nat) : Int) < 0 := Int.mul_neg_of_neg_of_pos hn hb0
      have : (0 : Int) ≤ ((zmag b64 (.fin false c q) : Nat) : Int) * (one64 : Int) := Int.mul_nonneg (by omega) (by omega)
      omega
    have := zmag_roundRatio_le good_b64 (s := false) (A := c) (B := d) (e := q - r) hd (val64_fits V) hV u1 u2 (by
      rw [u3, u4]
      rw [← v1 hV0] at h
      exact Int.ofNat_le.mp (by rw [Int.natCast_mul, Int.natCast_mul]; exact h))
    have := v1 hV0
    omega
  | true =>
    simp only [signed, if_true] at h ⊢
    by_cases hV0 : 0 ≤ Zv V
    · omega
    · have hv := v2 (by omega)
      have := zmag_roundRatio_ge good_b64 (s := true) (A := c) (B := d) (e := q - r) hd (val64_fits V) u1 u2 (by
        rw [u3, u4]
        refine Int.ofNat_le.mp ?_
        rw [Int.natCast_mul, Int.natCast_mul, hv, Int.neg_mul]
        rw [Int.neg_mul] at h
        omega)
      omega
theorem neg_ddiv (a b : UInt64) : Zv (FP.ddiv (Core.dneg a) b) = -Zv (FP.ddiv a b) := by
  show Zv (Core.ddiv (Core.dneg a) b) = _
  rw [Core.ddiv_dneg, Zv_cneg]
theorem ddiv_ge {a b V : UInt64} (ha : DFin a) (hb : DFin b) (hb0 : 0 < Zv b) (hV : val64 V ≠ .nan) (h : Zv V * Zv b ≤ Zv a * (one64 : Int)) : Zv V ≤ Zv (FP.ddiv a b) := by
  have := ddiv_le (a := Core.dneg a) (b := b) (V := Core.dneg V) (cneg_fin ha) hb hb0 (by rw [Core.val64_dneg]; exact negate_ne_nan hV) (by rw [Zv_cneg, Zv_cneg, Int.neg_mul, Int.neg_mul]; omega)
  rw [neg_ddiv, Zv_cneg] at this
  omega
theorem div_ne {a b : UInt64} (ha : DFin a) (hb : DFin b) (hb0 : 0 < Zv b) : val64 (FP.ddiv a b) ≠ .nan := by
  obtain ⟨s, c, q, ea⟩ := ha
  obtain ⟨t, d, r, eb⟩ := hb
  obtain ⟨hd, rfl, e⟩ := div_form hb0 ea eb
  rw [e]; exact roundRatio_ne_nan _ _ _ _ _
theorem ddiv_eq {a b V : UInt64} (ha : DFin a) (hb : DFin b) (hb0 : 0 < Zv b) (hV : DFin V) (h : Zv a * (one64 : Int) = Zv V * Zv b) : DFin (FP.ddiv a b) ∧ Zv (FP.ddiv a b) = Zv V := by
  have h1 := ddiv_le ha hb hb0 (fin_ne hV) (Int.le_of_eq h)
  have h2 := ddiv_ge ha hb hb0 (fin_ne hV) (Int.le_of_eq h.symm)
  exact ⟨fin_of (div_ne ha hb hb0) hV hV h2 h1, Int.le_antisymm h1 h2⟩
/-- a quotient by a power of two -/
theorem Val.div2 {a b : UInt64} {N : Int} {k i : Nat} (ha : Val a N k) (hb : Val b 1 i) (hN : N.natAbs < 2 ^ 53) {j : Nat} (hi : k + 1074 = j + i) (hj : j ≤ 2045) : Val (FP.ddiv a b) N j := by
  obtain ⟨V, fV, zV⟩ := rep N j hN hj
  have hb0 : 0 < Zv b := by rw [hb.2, Int.one_mul]; exact pow_pos' i
  obtain ⟨h1, h2⟩ := ddiv_eq ha.1 hb.1 hb0 fV (by rw [ha.2, hb.2, zV, one_pow, Int.one_mul, Int.mul_assoc, Int.mul_assoc, ← pow_cast, ← pow_cast, hi])
  exact ⟨h1, h2.trans zV⟩
end Jvm.OwnFP
namespace Jvm.Pilot.@@N@@
open Jvm Jvm.ClassFile Sem Op Lib Jvm.Free Jvm.Stand Jvm.LawKit Jvm.RoadKit Bundle Jvm.Pilot.@@N@@.Jvm.D
abbrev Go (p : Program) (e : Env) (below : List Frame) (t T : State) (m : MethodId) (pc : Nat) (ls : Array Slot) (st : List Value) : Prop := Steps p.tables e below (T.setTop (mkF m pc ls st)) t
/-- from A the run comes to B -/
def Goes (p : Program) (e : Env) (below : List Frame) (A B : State) : Prop := ∀ t, Steps p.tables e below B t → Steps p.tables e below A t
abbrev dLt (x y : UInt64) : Prop := FP.dcmp x y = some .lt
abbrev dEq (x y : UInt64) : Prop := FP.dcmp x y = some .eq
abbrev dLe (x y : UInt64) : Prop := FP.dcmp x y = some .lt ∨ FP.dcmp x y = some .eq
abbrev fLt (x y : UInt32) : Prop := FP.fcmp x y = some .lt
abbrev fEq (x y : UInt32) : Prop := FP.fcmp x y = some .eq
abbrev fLe (x y : UInt32) : Prop := FP.fcmp x y = some .lt ∨ FP.fcmp x y = some .eq
theorem Sta.keepO {Z : State} {h h' : Heap} {C n d : String} {v : Value} {ws : List Addr} (F : Sta Z h C n d v) (K : Keep h h' ws) (q : ∀ x ∈ ws, ∀ cell : Cell, h[x]? = some cell → cell.vm.isStatics = false) : Sta Z h' C n d v := by
  obtain ⟨cf, i, k, f, st, cell, h1, h2, h3, h4, h5, h6, h7⟩ := F
  refine ⟨cf, i, k, f, st, cell, h1, h2, h3, h4, K.2.1 _ _ h5 fun hm => ?_, h6, h7⟩
  rw [q _ hm _ h5] at h6; cases h6
theorem own_swap (o : Option Ordering) : o.map Ordering.swap = some .lt ↔ o = some .gt := by rcases o with _ | (_ | _ | _) <;> simp [Ordering.swap]
theorem own_swapE (o : Option Ordering) : o.map Ordering.swap = some .eq ↔ o = some .eq := by rcases o with _ | (_ | _ | _) <;> simp [Ordering.swap]
theorem own_dgt (x y : UInt64) : dLt y x ↔ FP.dcmp x y = some .gt := by
  show FP.Core.dcmp y x = some .lt ↔ FP.Core.dcmp x y = some .gt
  rw [FP.Core.dcmp_swap x y]; exact own_swap _
theorem own_dge (x y : UInt64) : dLe y x ↔ (FP.dcmp x y = some .gt ∨ FP.dcmp x y = some .eq) := by
  show (FP.Core.dcmp y x = some .lt ∨ FP.Core.dcmp y x = some .eq) ↔ (FP.Core.dcmp x y = some .gt ∨ FP.Core.dcmp x y = some .eq)
  rw [FP.Core.dcmp_swap x y, own_swap, own_swapE]
theorem own_fgt (x y : UInt32) : fLt y x ↔ FP.fcmp x y = some .gt := by
  show FP.Core.fcmp y x = some .lt ↔ FP.Core.fcmp x y = some .gt
  rw [FP.Core.fcmp_swap x y]; exact own_swap _
theorem own_fge (x y : UInt32) : fLe y x ↔ (FP.fcmp x y = some .gt ∨ FP.fcmp x y = some .eq) := by
  show (FP.Core.fcmp y x = some .lt ∨ FP.Core.fcmp y x = some .eq) ↔ (FP.Core.fcmp x y = some .gt ∨ FP.Core.fcmp x y = some .eq)
  rw [FP.Core.fcmp_swap x y, own_swap, own_swapE]
theorem own_c (o : Option Ordering) :
    (o = some .lt → ifCond.holds .ge (cmpValue o .g) = false ∧ ifCond.holds .lt (cmpValue o .g) = true) ∧
    (¬ o = some .lt → ifCond.holds .ge (cmpValue o .g) = true ∧ ifCond.holds .lt (cmpValue o .g) = false) ∧
    ((o = some .lt ∨ o = some .eq) → ifCond.holds .gt (cmpValue o .g) = false ∧ ifCond.holds .le (cmpValue o .g) = true) ∧
    (¬ (o = some .lt ∨ o = some .eq) → ifCond.holds .gt (cmpValue o .g) = true ∧ ifCond.holds .le (cmpValue o .g) = false) ∧
    (o = some .gt → ifCond.holds .le (cmpValue o .l) = false ∧ ifCond.holds .gt (cmpValue o .l) = true) ∧
    (¬ o = some .gt → ifCond.holds .le (cmpValue o .l) = true ∧ ifCond.holds .gt (cmpValue o .l) = false) ∧
    ((o = some .gt ∨ o = some .eq) → ifCond.holds .lt (cmpValue o .l) = false ∧ ifCond.holds .ge (cmpValue o .l) = true) ∧
    (¬ (o = some .gt ∨ o = some .eq) → ifCond.holds .lt (cmpValue o .l) = true ∧ ifCond.holds .ge (cmpValue o .l) = false) ∧
    (o = some .eq → ∀ q, ifCond.holds .ne (cmpValue o q) = false ∧ ifCond.holds .eq (cmpValue o q) = true) ∧
    (¬ o = some .eq → ∀ q, ifCond.holds .ne (cmpValue o q) = true ∧ ifCond.holds .eq (cmpValue o q) = false) := by
  refine ⟨?_, ?_, ?_, ?_, ?_, ?_, ?_, ?_, ?_, ?_⟩ <;> rcases o with _ | (_ | _ | _) <;> first | (intro h; exact ⟨by decide, by decide⟩) | (intro h q; cases q <;> exact ⟨by decide, by decide⟩) | (intro h; simp at h; done) | (intro h; exact absurd rfl h) | (intro h; exact absurd (Or.inl rfl) h) | (intro h; exact absurd (Or.inr rfl) h)
theorem dc_g_ge_f {x y : UInt64} (h : dLt x y) : ifCond.holds .ge (cmpValue (FP.dcmp x y) .g) = false := ((own_c _).1 h).1
theorem dc_g_ge_t {x y : UInt64} (h : ¬ dLt x y) : ifCond.holds .ge (cmpValue (FP.dcmp x y) .g) = true := ((own_c _).2.1 h).1
theorem dc_g_lt_t {x y : UInt64} (h : dLt x y) : ifCond.holds .lt (cmpValue (FP.dcmp x y) .g) = true := ((own_c _).1 h).2
theorem dc_g_lt_f {x y : UInt64} (h : ¬ dLt x y) : ifCond.holds .lt (cmpValue (FP.dcmp x y) .g) = false := ((own_c _).2.1 h).2
theorem dc_g_gt_f {x y : UInt64} (h : dLe x y) : ifCond.holds .gt (cmpValue (FP.dcmp x y) .g) = false := ((own_c _).2.2.1 h).1
theorem dc_g_gt_t {x y : UInt64} (h : ¬ dLe x y) : ifCond.holds .gt (cmpValue (FP.dcmp x y) .g) = true := ((own_c _).2.2.2.1 h).1
theorem dc_g_le_t {x y : UInt64} (h : dLe x y) : ifCond.holds .le (cmpValue (FP.dcmp x y) .g) = true := ((own_c _).2.2.1 h).2
theorem dc_g_le_f {x y : UInt64} (h : ¬ dLe x y) : ifCond.holds .le (cmpValue (FP.dcmp x y) .g) = false := ((own_c _).2.2.2.1 h).2
theorem dc_l_le_f {x y : UInt64} (h : dLt y x) : ifCond.holds .le (cmpValue (FP.dcmp x y) .l) = false := ((own_c _).2.2.2.2.1 ((own_dgt x y).mp h)).1
theorem dc_l_le_t {x y : UInt64} (h : ¬ dLt y x) : ifCond.holds .le (cmpValue (FP.dcmp x y) .l) = true := ((own_c _).2.2.2.2.2.1 (fun q => h ((own_dgt x y).mpr q))).1
theorem dc_l_gt_t {x y : UInt64} (h : dLt y x) : ifCond.holds .gt (cmpValue (FP.dcmp x y) .l) = true := ((own_c _).2.2.2.2.1 ((own_dgt x y).mp h)).2
theorem dc_l_gt_f {x y : UInt64} (h : ¬ dLt y x) : ifCond.holds .gt (cmpValue (FP.dcmp x y) .l) = false := ((own_c _).2.2.2.2.2.1 (fun q => h ((own_dgt x y).mpr q))).2
theorem dc_l_lt_f {x y : UInt64} (h : dLe y x) : ifCond.holds .lt (cmpValue (FP.dcmp x y) .l) = false := ((own_c _).2.2.2.2.2.2.1 ((own_dge x y).mp h)).1
theorem dc_l_lt_t {x y : UInt64} (h : ¬ dLe y x) : ifCond.holds .lt (cmpValue (FP.dcmp x y) .l) = true := ((own_c _).2.2.2.2.2.2.2.1 (fun q => h ((own_dge x y).mpr q))).1
theorem dc_l_ge_t {x y : UInt64} (h : dLe y x) : ifCond.holds .ge (cmpValue (FP.dcmp x y) .l) = true := ((own_c _).2.2.2.2.2.2.1 ((own_dge x y).mp h)).2
theorem dc_l_ge_f {x y : UInt64} (h : ¬ dLe y x) : ifCond.holds .ge (cmpValue (FP.dcmp x y) .l) = false := ((own_c _).2.2.2.2.2.2.2.1 (fun q => h ((own_dge x y).mpr q))).2
theorem dc_l_ne_f {x y : UInt64} (h : dEq x y) : ifCond.holds .ne (cmpValue (FP.dcmp x y) .l) = false := ((own_c _).2.2.2.2.2.2.2.2.1 h _).1
theorem dc_l_ne_t {x y : UInt64} (h : ¬ dEq x y) : ifCond.holds .ne (cmpValue (FP.dcmp x y) .l) = true := ((own_c _).2.2.2.2.2.2.2.2.2 h _).1
theorem dc_l_eq_t {x y : UInt64} (h : dEq x y) : ifCond.holds .eq (cmpValue (FP.dcmp x y) .l) = true := ((own_c _).2.2.2.2.2.2.2.2.1 h _).2
theorem dc_l_eq_f {x y : UInt64} (h : ¬ dEq x y) : ifCond.holds .eq (cmpValue (FP.dcmp x y) .l) = false := ((own_c _).2.2.2.2.2.2.2.2.2 h _).2
theorem dc_g_ne_f {x y : UInt64} (h : dEq x y) : ifCond.holds .ne (cmpValue (FP.dcmp x y) .g) = false := ((own_c _).2.2.2.2.2.2.2.2.1 h _).1
theorem dc_g_ne_t {x y : UInt64} (h : ¬ dEq x y) : ifCond.holds .ne (cmpValue (FP.dcmp x y) .g) = true := ((own_c _).2.2.2.2.2.2.2.2.2 h _).1
theorem dc_g_eq_t {x y : UInt64} (h : dEq x y) : ifCond.holds .eq (cmpValue (FP.dcmp x y) .g) = true := ((own_c _).2.2.2.2.2.2.2.2.1 h _).2
theorem dc_g_eq_f {x y : UInt64} (h : ¬ dEq x y) : ifCond.holds .eq (cmpValue (FP.dcmp x y) .g) = false := ((own_c _).2.2.2.2.2.2.2.2.2 h _).2
theorem fc_g_ge_f {x y : UInt32} (h : fLt x y) : ifCond.holds .ge (cmpValue (FP.fcmp x y) .g) = false := ((own_c _).1 h).1
theorem fc_g_ge_t {x y : UInt32} (h : ¬ fLt x y) : ifCond.holds .ge (cmpValue (FP.fcmp x y) .g) = true := ((own_c _).2.1 h).1
theorem fc_g_lt_t {x y : UInt32} (h : fLt x y) : ifCond.holds .lt (cmpValue (FP.fcmp x y) .g) = true := ((own_c _).1 h).2
theorem fc_g_lt_f {x y : UInt32} (h : ¬ fLt x y) : ifCond.holds .lt (cmpValue (FP.fcmp x y) .g) = false := ((own_c _).2.1 h).2
theorem fc_g_gt_f {x y : UInt32} (h : fLe x y) : ifCond.holds .gt (cmpValue (FP.fcmp x y) .g) = false := ((own_c _).2.2.1 h).1
theorem fc_g_gt_t {x y : UInt32} (h : ¬ fLe x y) : ifCond.holds .gt (cmpValue (FP.fcmp x y) .g) = true := ((own_c _).2.2.2.1 h).1
theorem fc_g_le_t {x y : UInt32} (h : fLe x y) : ifCond.holds .le (cmpValue (FP.fcmp x y) .g) = true := ((own_c _).2.2.1 h).2
theorem fc_g_le_f {x y : UInt32} (h : ¬ fLe x y) : ifCond.holds .le (cmpValue (FP.fcmp x y) .g) = false := ((own_c _).2.2.2.1 h).2
theorem fc_l_le_f {x y : UInt32} (h : fLt y x) : ifCond.holds .le (cmpValue (FP.fcmp x y) .l) = false := ((own_c _).2.2.2.2.1 ((own_fgt x y).mp h)).1
theorem fc_l_le_t {x y : UInt32} (h : ¬ fLt y x) : ifCond.holds .le (cmpValue (FP.fcmp x y) .l) = true := ((own_c _).2.2.2.2.2.1 (fun q => h ((own_fgt x y).mpr q))).1
theorem fc_l_gt_t {x y : UInt32} (h : fLt y x) : ifCond.holds .gt (cmpValue (FP.fcmp x y) .l) = true := ((own_c _).2.2.2.2.1 ((own_fgt x y).mp h)).2
theorem fc_l_gt_f {x y : UInt32} (h : ¬ fLt y x) : ifCond.holds .gt (cmpValue (FP.fcmp x y) .l) = false := ((own_c _).2.2.2.2.2.1 (fun q => h ((own_fgt x y).mpr q))).2
theorem fc_l_lt_f {x y : UInt32} (h : fLe y x) : ifCond.holds .lt (cmpValue (FP.fcmp x y) .l) = false := ((own_c _).2.2.2.2.2.2.1 ((own_fge x y).mp h)).1
theorem fc_l_lt_t {x y : UInt32} (h : ¬ fLe y x) : ifCond.holds .lt (cmpValue (FP.fcmp x y) .l) = true := ((own_c _).2.2.2.2.2.2.2.1 (fun q => h ((own_fge x y).mpr q))).1
theorem fc_l_ge_t {x y : UInt32} (h : fLe y x) : ifCond.holds .ge (cmpValue (FP.fcmp x y) .l) = true := ((own_c _).2.2.2.2.2.2.1 ((own_fge x y).mp h)).2
theorem fc_l_ge_f {x y : UInt32} (h : ¬ fLe y x) : ifCond.holds .ge (cmpValue (FP.fcmp x y) .l) = false := ((own_c _).2.2.2.2.2.2.2.1 (fun q => h ((own_fge x y).mpr q))).2
theorem fc_l_ne_f {x y : UInt32} (h : fEq x y) : ifCond.holds .ne (cmpValue (FP.fcmp x y) .l) = false := ((own_c _).2.2.2.2.2.2.2.2.1 h _).1
theorem fc_l_ne_t {x y : UInt32} (h : ¬ fEq x y) : ifCond.holds .ne (cmpValue (FP.fcmp x y) .l) = true := ((own_c _).2.2.2.2.2.2.2.2.2 h _).1
theorem fc_l_eq_t {x y : UInt32} (h : fEq x y) : ifCond.holds .eq (cmpValue (FP.fcmp x y) .l) = true := ((own_c _).2.2.2.2.2.2.2.2.1 h _).2
theorem fc_l_eq_f {x y : UInt32} (h : ¬ fEq x y) : ifCond.holds .eq (cmpValue (FP.fcmp x y) .l) = false := ((own_c _).2.2.2.2.2.2.2.2.2 h _).2
theorem fc_g_ne_f {x y : UInt32} (h : fEq x y) : ifCond.holds .ne (cmpValue (FP.fcmp x y) .g) = false := ((own_c _).2.2.2.2.2.2.2.2.1 h _).1
theorem fc_g_ne_t {x y : UInt32} (h : ¬ fEq x y) : ifCond.holds .ne (cmpValue (FP.fcmp x y) .g) = true := ((own_c _).2.2.2.2.2.2.2.2.2 h _).1
theorem fc_g_eq_t {x y : UInt32} (h : fEq x y) : ifCond.holds .eq (cmpValue (FP.fcmp x y) .g) = true := ((own_c _).2.2.2.2.2.2.2.2.1 h _).2
theorem fc_g_eq_f {x y : UInt32} (h : ¬ fEq x y) : ifCond.holds .eq (cmpValue (FP.fcmp x y) .g) = false := ((own_c _).2.2.2.2.2.2.2.2.2 h _).2
theorem own_selp {s : State} {args : Array Value} {y z : MethodName} {K : String} (h : (Jvm.Cond.selects K z z).before args s = true) (e : z.cls = y.cls) (hp : s.PrivateAt y) (hi : (Jvm.Cond.instanceMethod y).before args s = true) (hy : y.cls ≠ "java/lang/invoke/MethodHandle" ∧ y.cls ≠ "java/lang/invoke/VarHandle") : (Jvm.Cond.selects y.cls y y).before args s = true := by
  obtain ⟨c, r, m, -, -, h3, -, k, hk, hni⟩ := Cond.selects_spec h
  exact Jvm.Stand.selects_self_of_private (e ▸ findClass_of_methodNamed h3) hk hni hp hi hy

theorem d4_0 : decode jdk_22_method_1_code 0 = .ok (.aload_n 0, 1) := by decide +kernel
theorem d4_1 : decode jdk_22_method_1_code 1 = .ok (.invokespecial 1, 3) := by decide +kernel
theorem d4_4 : decode jdk_22_method_1_code 4 = .ok (.return_, 1) := by decide +kernel
theorem pd0 : parseMethodDescriptor "()V" = some ⟨[], none⟩ := by decide +kernel
theorem pf_abc : plainFor (⟨"java/util/AbstractCollection", "<init>", "()V"⟩ : MethodName) = true := by first | exact plainFor_of_name (by first | (simp [plainName, overriddenIn, x]; done) | decide +kernel) | exact Jvm.Free.JP.mathPlain rfl (by decide +kernel) | decide +kernel
theorem ef_abc (m : MethodId) (aa : Addr) : entryFrame m #[(.ref aa)] 1 = mkF m 0 #[rv aa] [] := by first | (simp [entryFrame, mkF, argsToLocals, Value.category, maxLocals]; done) | rfl
def Q_abc (Z : State) (aa : Addr)  (h0 : Heap) (n0 : Nat) (v : Option Value) (h : Heap) (L : List Loc) : Prop := v = none ∧ Fr n0 L ∧ h = h0
set_option maxRecDepth 65536 in
set_option maxHeartbeats 40000000 in
theorem rm_abc (l : Launch) (Z : State) (a0 : Array Value) (hw : ∀ d ∈ tables_1, d.before a0 Z = true) (ws : List Jvm.Cond) (aa : Addr)  (h0 : Heap) (n0 : Nat) (Z0 : n0 ≤ h0.size)   :
    MetFree l (⟨"java/util/AbstractCollection", "<init>", "()V"⟩ : MethodName) (head1 (Jvm.Cond.code (⟨"java/util/AbstractCollection", "<init>", "()V"⟩ : MethodName) jdk_22_method_1_code 1 none :: ws) ({ frames := 1, cells := 0, slots := 0, locals := 12 } : Room)) (fun a U => a = #[(.ref aa)] ∧ Z.Warmed39 U.vm ∧ U.heap = h0) (fun _ _ _ _ _ => True) (fun _ U o U' => ∃ v L, o = .returned v ∧ Q_abc Z aa  h0 n0 v U'.heap L ∧ FrameEnd U o U' L ({ frames := 1, cells := 0, slots := 0, locals := 12 } : Room).cells ({ frames := 1, cells := 0, slots := 0, locals := 12 } : Room).slots) := by
  refine MetFree.of_bodySF pf_abc hisR ?_
  intro p e s m args below meth c s₁ Bd hml0 hP hK
  obtain ⟨rfl, hZ, hh⟩ := hP
  have hx := Bd.exec
  have hby := Bd.bytes
  have hml : c.maxLocals = 1 := hml0
  have hown : s.vm.findClass "java/util/AbstractCollection" = some m.cls := findClass_of_methodNamed Bd.named
  have hnm := (name_of_methodNamed Bd.named Bd.method).1
  have X0 : Stand p l e ({ frames := 1, cells := 0, slots := 0, locals := 12 } : Room) s m #[(.ref aa)] below meth c s₁ [] 0 0 := Stand.of_body Bd
  have e0 : s₁.heap = h0 := by rw [← hh, Bd.state]; rfl
  have N0 := Fr.nil n0
  obtain ⟨S0, hS0⟩ : ∃ z, z = s₁.setTop (entryFrame m #[(.ref aa)] 1) := ⟨_, rfl⟩
  rw [← hS0]
  have g0 : Goes p e below S0 (s₁.setTop (mkF m 0 #[rv aa] [])) := fun t k => by rw [hS0]; exact castTop (ef_abc m aa) k
  have g1 : Goes p e below S0 (s₁.setTop (mkF m 1 #[rv aa] [(.ref aa)])) := fun t k => g0 t (by
    refine XS.aloadN X0.here hx rfl (hb hby d4_0) rfl rfl ?_
    show Go p e below t s₁ m 1 #[rv aa] [(.ref aa)]
    exact k)
  obtain ⟨T2, X2, e2, st2⟩ := initO X0 hx hZ hown (hw _ (List.mem_of_getElem? (i := 26) rfl)) (hw _ (List.mem_of_getElem? (i := 27) rfl)) (hw _ (List.mem_of_getElem? (i := 28) rfl)) e0 (g := (mkF m 1 #[rv aa] [(.ref aa)])) rfl (by rw [hml]; rfl) rfl (hb hby d4_1) (by decide) (W := 0) (by show 2 * 0 + _ ≤ _; exact Nat.le_of_eq rfl) (by decide)
  have g3 : Goes p e below S0 (T2.setTop (mkF m 4 #[rv aa] [])) := fun t k => g1 t (st2 t k)
  obtain ⟨fs, hr, hrun, hended, hW, hsame⟩ := X2.leave (v := none) (fun _ => rfl)
  refine ⟨_, _, g3 _ (X2.returnOut hx Bd.returns (hb hby d4_4) hr), hrun, hended, _, _, rfl, ?_, ⟨_, rfl⟩, hW, hsame.mono (by decide) (by decide)⟩
  show Q_abc Z aa  h0 n0 _ T2.heap _
  rw [e2]
  exact ⟨rfl, N0, rfl⟩
theorem d3_0 : decode jdk_39_method_1_code 0 = .ok (.aload_n 0, 1) := by decide +kernel
theorem d3_1 : decode jdk_39_method_1_code 1 = .ok (.invokespecial 1, 3) := by decide +kernel
theorem d3_4 : decode jdk_39_method_1_code 4 = .ok (.aload_n 0, 1) := by decide +kernel
theorem d3_5 : decode jdk_39_method_1_code 5 = .ok (.iconst 0, 1) := by decide +kernel
theorem d3_6 : decode jdk_39_method_1_code 6 = .ok (.putfield 7, 3) := by decide +kernel
theorem d3_9 : decode jdk_39_method_1_code 9 = .ok (.return_, 1) := by decide +kernel
theorem pf_abl : plainFor (⟨"java/util/AbstractList", "<init>", "()V"⟩ : MethodName) = true := by first | exact plainFor_of_name (by first | (simp [plainName, overriddenIn, x]; done) | decide +kernel) | exact Jvm.Free.JP.mathPlain rfl (by decide +kernel) | decide +kernel
theorem ef_abl (m : MethodId) (aa : Addr) : entryFrame m #[(.ref aa)] 1 = mkF m 0 #[rv aa] [] := by first | (simp [entryFrame, mkF, argsToLocals, Value.category, maxLocals]; done) | rfl
def Q_abl (Z : State) (aa : Addr)  (h0 : Heap) (n0 : Nat) (v : Option Value) (h : Heap) (L : List Loc) : Prop := v = none ∧ Fr n0 L ∧ (Keep h0 h [aa]) ∧ (Exa Z h aa "java/util/ArrayList") ∧ (Fld Z h aa "java/util/AbstractList" "modCount" "I" (.int (0 : Int32))) ∧ (Fld Z h aa "java/util/ArrayList" "size" "I" (.int (0 : Int32))) ∧ (Fld Z h aa "java/util/ArrayList" "elementData" "[Ljava/lang/Object;" .null)
set_option maxRecDepth 65536 in
set_option maxHeartbeats 40000000 in
theorem rm_abl (l : Launch) (Z : State) (a0 : Array Value) (hw : ∀ d ∈ tables_1, d.before a0 Z = true) (ws : List Jvm.Cond) (aa : Addr)  (h0 : Heap) (n0 : Nat) (Z0 : n0 ≤ h0.size) (P0 : Exa Z h0 aa "java/util/ArrayList") (P1 : Fld Z h0 aa "java/util/AbstractList" "modCount" "I" (.int (0 : Int32))) (P2 : Fld Z h0 aa "java/util/ArrayList" "size" "I" (.int (0 : Int32))) (P3 : Fld Z h0 aa "java/util/ArrayList" "elementData" "[Ljava/lang/Object;" .null) (P4 : n0 ≤ aa)  :
    MetFree l (⟨"java/util/AbstractList", "<init>", "()V"⟩ : MethodName) (head1 (Jvm.Cond.code (⟨"java/util/AbstractList", "<init>", "()V"⟩ : MethodName) jdk_39_method_1_code 1 none :: ws) ({ frames := 2, cells := 0, slots := 0, locals := 24 } : Room)) (fun a U => a = #[(.ref aa)] ∧ Z.Warmed39 U.vm ∧ U.heap = h0) (fun _ _ _ _ _ => True) (fun _ U o U' => ∃ v L, o = .returned v ∧ Q_abl Z aa  h0 n0 v U'.heap L ∧ FrameEnd U o U' L ({ frames := 2, cells := 0, slots := 0, locals := 24 } : Room).cells ({ frames := 2, cells := 0, slots := 0, locals := 24 } : Room).slots) := by
  refine MetFree.of_bodySF pf_abl hisR ?_
  intro p e s m args below meth c s₁ Bd hml0 hP hK
  obtain ⟨rfl, hZ, hh⟩ := hP
  have hx := Bd.exec
  have hby := Bd.bytes
  have hml : c.maxLocals = 1 := hml0
  have hown : s.vm.findClass "java/util/AbstractList" = some m.cls := findClass_of_methodNamed Bd.named
  have hnm := (name_of_methodNamed Bd.named Bd.method).1
  have X0 : Stand p l e ({ frames := 2, cells := 0, slots := 0, locals := 24 } : Room) s m #[(.ref aa)] below meth c s₁ [] 0 0 := Stand.of_body Bd
  have e0 : s₁.heap = h0 := by rw [← hh, Bd.state]; rfl
  have N0 := Fr.nil n0
  obtain ⟨S0, hS0⟩ : ∃ z, z = s₁.setTop (entryFrame m #[(.ref aa)] 1) := ⟨_, rfl⟩
  rw [← hS0]
  have g0 : Goes p e below S0 (s₁.setTop (mkF m 0 #[rv aa] [])) := fun t k => by rw [hS0]; exact castTop (ef_abl m aa) k
  have g4 : Goes p e below S0 (s₁.setTop (mkF m 1 #[rv aa] [(.ref aa)])) := fun t k => g0 t (by
    refine XS.aloadN X0.here hx rfl (hb hby d3_0) rfl rfl ?_
    show Go p e below t s₁ m 1 #[rv aa] [(.ref aa)]
    exact k)
  obtain ⟨_, _, ⟨T5, L5, k5, n5⟩, -, X5, ⟨Lc5, hQ5, l5, y5, z5⟩, st5⟩ := X0.specialBack hx (y := (⟨"java/util/AbstractCollection", "<init>", "()V"⟩ : MethodName)) rfl hown (mvT hZ (hw _ (List.mem_of_getElem? (i := 20) rfl))) (mvT hZ (hw _ (List.mem_of_getElem? (i := 21) rfl))) (mvT hZ (hw _ (List.mem_of_getElem? (i := 25) rfl))) (by decide) (backOf (W := 0) (rm_abc l Z a0 hw [] aa  h0 n0 Z0 ) hZ (hw _ (List.mem_of_getElem? (i := 25) rfl)) (hw _ (List.mem_of_getElem? (i := 24) rfl)) (by decide) (by decide)) (g := (mkF m 1 #[rv aa] [(.ref aa)])) rfl (by rw [hml]; rfl) (Steps.refl _) (a := aa) (argsL := []) (rest := []) (lenOf pd0 rfl) rfl (by show 2 * 0 + _ ≤ _; exact Nat.le_of_eq rfl) (hb hby d3_1) (fun _ _ => ⟨rfl, e0, (by decide : 0 + 0 ≤ _), (by decide : 0 + 0 ≤ _)⟩)
  dsimp only [Pt.U, Pt.locs, Pt.cells, Pt.slots] at X5 l5 y5 z5 st5 hQ5
  subst l5 y5 z5
  obtain ⟨rfl, N5, R5_0⟩ := hQ5
  have M5 := Fr.app N0 N5
  have g6 : Goes p e below S0 (T5.setTop (mkF m 4 #[rv aa] [])) := fun t k => g4 t (st5.trans k)
  have g7 : Goes p e below S0 (T5.setTop (mkF m 6 #[rv aa] [(.int (0 : Int32)), (.ref aa)])) := fun t k => g6 t (by
    refine XS.aloadN X5.here hx rfl (hb hby d3_4) rfl rfl ?_
    show Go p e below t T5 m 5 #[rv aa] [(.ref aa)]
    refine XT.iconstV X5.here hx rfl (0 : Int32) (hb hby d3_5) (by decide) ?_
    show Go p e below t T5 m 6 #[rv aa] [(.int (0 : Int32)), (.ref aa)]
    exact k)
  obtain ⟨T8, h8, X8, e8, W8, st8⟩ := putF X5 hx hZ hown (host := "") (Or.inl (hw _ (List.mem_of_getElem? (i := 29) rfl))) Via.refl R5_0 P1 P0 (Or.inl (hw _ (List.mem_of_getElem? (i := 30) rfl))) (hw _ (List.mem_of_getElem? (i := 9) rfl)) (ty := .int) (by decide) rfl rfl (g := (mkF m 6 #[rv aa] [(.int (0 : Int32)), (.ref aa)])) rfl rfl (hb hby d3_6)
  have N8 := Fr.snoc X8 M5 P4
  have Fw8 := Fld.same W8 P1
  have g9 : Goes p e below S0 (T8.setTop (mkF m 9 #[rv aa] [])) := fun t k => g7 t (st8 t k)
  obtain ⟨fs, hr, hrun, hended, hW, hsame⟩ := X8.leave (v := none) (fun _ => rfl)
  refine ⟨_, _, g9 _ (X8.returnOut hx Bd.returns (hb hby d3_9) hr), hrun, hended, _, _, rfl, ?_, ⟨_, rfl⟩, hW, hsame.mono (by decide) (by decide)⟩
  show Q_abl Z aa  h0 n0 _ T8.heap _
  rw [e8]
  exact ⟨rfl, N8, ((Keep.refl h0 [aa]).wr W8 (Or.inl (List.mem_of_getElem? (i := 0) rfl))), (P0.wr W8), Fw8, (P2.other W8 (Or.inr (slot_ne (Or.inl (hw _ (List.mem_of_getElem? (i := 70) rfl))) (Or.inl (hw _ (List.mem_of_getElem? (i := 30) rfl))) (by decide) (t := .int) (t' := .int) (by decide) (by decide)))), (P3.other W8 (Or.inr (slot_ne (Or.inl (hw _ (List.mem_of_getElem? (i := 33) rfl))) (Or.inl (hw _ (List.mem_of_getElem? (i := 30) rfl))) (by decide) (t := (.array (.object "java/lang/Object"))) (t' := .int) (by decide) (by decide))))⟩
theorem d2_0 : decode jdk_38_method_2_code 0 = .ok (.aload_n 0, 1) := by decide +kernel
theorem d2_1 : decode jdk_38_method_2_code 1 = .ok (.invokespecial 1, 3) := by decide +kernel
theorem d2_4 : decode jdk_38_method_2_code 4 = .ok (.aload_n 0, 1) := by decide +kernel
theorem d2_5 : decode jdk_38_method_2_code 5 = .ok (.getstatic 39, 3) := by decide +kernel
theorem d2_8 : decode jdk_38_method_2_code 8 = .ok (.putfield 9, 3) := by decide +kernel
theorem d2_11 : decode jdk_38_method_2_code 11 = .ok (.return_, 1) := by decide +kernel
theorem pf_ali : plainFor (⟨"java/util/ArrayList", "<init>", "()V"⟩ : MethodName) = true := by first | exact plainFor_of_name (by first | (simp [plainName, overriddenIn, x]; done) | decide +kernel) | exact Jvm.Free.JP.mathPlain rfl (by decide +kernel) | decide +kernel
theorem ef_ali (m : MethodId) (aa : Addr) : entryFrame m #[(.ref aa)] 1 = mkF m 0 #[rv aa] [] := by first | (simp [entryFrame, mkF, argsToLocals, Value.category, maxLocals]; done) | rfl
def Q_ali (Z : State) (aa : Addr) (da : Addr) (h0 : Heap) (n0 : Nat) (v : Option Value) (h : Heap) (L : List Loc) : Prop := v = none ∧ Fr n0 L ∧ (Keep h0 h [aa]) ∧ (Exa Z h aa "java/util/ArrayList") ∧ (Fld Z h aa "java/util/AbstractList" "modCount" "I" (.int (0 : Int32))) ∧ (Fld Z h aa "java/util/ArrayList" "size" "I" (.int (0 : Int32))) ∧ (Fld Z h aa "java/util/ArrayList" "elementData" "[Ljava/lang/Object;" (.ref da))
set_option maxRecDepth 65536 in
set_option maxHeartbeats 40000000 in
theorem rm_ali (l : Launch) (Z : State) (a0 : Array Value) (hw : ∀ d ∈ tables_1, d.before a0 Z = true) (ws : List Jvm.Cond) (aa : Addr) (da : Addr) (h0 : Heap) (n0 : Nat) (Z0 : n0 ≤ h0.size) (P0 : Exa Z h0 aa "java/util/ArrayList") (P1 : Fld Z h0 aa "java/util/AbstractList" "modCount" "I" (.int (0 : Int32))) (P2 : Fld Z h0 aa "java/util/ArrayList" "size" "I" (.int (0 : Int32))) (P3 : Fld Z h0 aa "java/util/ArrayList" "elementData" "[Ljava/lang/Object;" .null) (P4 : n0 ≤ aa) (P5 : Sta Z h0 "java/util/ArrayList" "DEFAULTCAPACITY_EMPTY_ELEMENTDATA" "[Ljava/lang/Object;" (.ref da))  :
    MetFree l (⟨"java/util/ArrayList", "<init>", "()V"⟩ : MethodName) (head1 (Jvm.Cond.code (⟨"java/util/ArrayList", "<init>", "()V"⟩ : MethodName) jdk_38_method_2_code 1 none :: ws) ({ frames := 3, cells := 0, slots := 0, locals := 36 } : Room)) (fun a U => a = #[(.ref aa)] ∧ Z.Warmed39 U.vm ∧ U.heap = h0) (fun _ _ _ _ _ => True) (fun _ U o U' => ∃ v L, o = .returned v ∧ Q_ali Z aa da h0 n0 v U'.heap L ∧ FrameEnd U o U' L ({ frames := 3, cells := 0, slots := 0, locals := 36 } : Room).cells ({ frames := 3, cells := 0, slots := 0, locals := 36 } : Room).slots) := by
  refine MetFree.of_bodySF pf_ali hisR ?_
  intro p e s m args below meth c s₁ Bd hml0 hP hK
  obtain ⟨rfl, hZ, hh⟩ := hP
  have hx := Bd.exec
  have hby := Bd.bytes
  have hml : c.maxLocals = 1 := hml0
  have hown : s.vm.findClass "java/util/ArrayList" = some m.cls := findClass_of_methodNamed Bd.named
  have hnm := (name_of_methodNamed Bd.named Bd.method).1
  have X0 : Stand p l e ({ frames := 3, cells := 0, slots := 0, locals := 36 } : Room) s m #[(.ref aa)] below meth c s₁ [] 0 0 := Stand.of_body Bd
  have e0 : s₁.heap = h0 := by rw [← hh, Bd.state]; rfl
  have N0 := Fr.nil n0
  obtain ⟨S0, hS0⟩ : ∃ z, z = s₁.setTop (entryFrame m #[(.ref aa)] 1) := ⟨_, rfl⟩
  rw [← hS0]
  have g0 : Goes p e below S0 (s₁.setTop (mkF m 0 #[rv aa] [])) := fun t k => by rw [hS0]; exact castTop (ef_ali m aa) k
  have g10 : Goes p e below S0 (s₁.setTop (mkF m 1 #[rv aa] [(.ref aa)])) := fun t k => g0 t (by
    refine XS.aloadN X0.here hx rfl (hb hby d2_0) rfl rfl ?_
    show Go p e below t s₁ m 1 #[rv aa] [(.ref aa)]
    exact k)
  obtain ⟨_, _, ⟨T11, L11, k11, n11⟩, -, X11, ⟨Lc11, hQ11, l11, y11, z11⟩, st11⟩ := X0.specialBack hx (y := (⟨"java/util/AbstractList", "<init>", "()V"⟩ : MethodName)) rfl hown (mvT hZ (hw _ (List.mem_of_getElem? (i := 14) rfl))) (mvT hZ (hw _ (List.mem_of_getElem? (i := 15) rfl))) (mvT hZ (hw _ (List.mem_of_getElem? (i := 19) rfl))) (by decide) (backOf (W := 0) (rm_abl l Z a0 hw [] aa  h0 n0 Z0 P0 P1 P2 P3 P4) hZ (hw _ (List.mem_of_getElem? (i := 19) rfl)) (hw _ (List.mem_of_getElem? (i := 18) rfl)) (by decide) (by decide)) (g := (mkF m 1 #[rv aa] [(.ref aa)])) rfl (by rw [hml]; rfl) (Steps.refl _) (a := aa) (argsL := []) (rest := []) (lenOf pd0 rfl) rfl (by show 2 * 0 + _ ≤ _; exact Nat.le_of_eq rfl) (hb hby d2_1) (fun _ _ => ⟨rfl, e0, (by decide : 0 + 0 ≤ _), (by decide : 0 + 0 ≤ _)⟩)
  dsimp only [Pt.U, Pt.locs, Pt.cells, Pt.slots] at X11 l11 y11 z11 st11 hQ11
  subst l11 y11 z11
  obtain ⟨rfl, N11, R11_0, R11_1, R11_2, R11_3, R11_4⟩ := hQ11
  have M11 := Fr.app N0 N11
  have g12 : Goes p e below S0 (T11.setTop (mkF m 4 #[rv aa] [])) := fun t k => g10 t (st11.trans k)
  have g13 : Goes p e below S0 (T11.setTop (mkF m 5 #[rv aa] [(.ref aa)])) := fun t k => g12 t (by
    refine XS.aloadN X11.here hx rfl (hb hby d2_4) rfl rfl ?_
    show Go p e below t T11 m 5 #[rv aa] [(.ref aa)]
    exact k)
  obtain ⟨T14, X14, e14, st14⟩ := getS (host := "") X11 hx hZ hown (hw _ (List.mem_of_getElem? (i := 31) rfl)) Via.refl rfl (Sta.keepO P5 R11_0 (nsS (Exa.nostat P0) ns0)) (g := (mkF m 5 #[rv aa] [(.ref aa)])) rfl (hb hby d2_5)
  have g15 : Goes p e below S0 (T14.setTop (mkF m 8 #[rv aa] [(.ref da), (.ref aa)])) := fun t k => g13 t (st14 t k)
  obtain ⟨T16, h16, X16, e16, W16, st16⟩ := putF X14 hx hZ hown (host := "") (Or.inl (hw _ (List.mem_of_getElem? (i := 32) rfl))) Via.refl e14 R11_4 R11_1 (Or.inl (hw _ (List.mem_of_getElem? (i := 33) rfl))) (hw _ (List.mem_of_getElem? (i := 9) rfl)) (ty := (.array (.object "java/lang/Object"))) (by decide) rfl rfl (g := (mkF m 8 #[rv aa] [(.ref da), (.ref aa)])) rfl rfl (hb hby d2_8)
  have N16 := Fr.snoc X16 M11 P4
  have Fw16 := Fld.same W16 R11_4
  have g17 : Goes p e below S0 (T16.setTop (mkF m 11 #[rv aa] [])) := fun t k => g15 t (st16 t k)
  obtain ⟨fs, hr, hrun, hended, hW, hsame⟩ := X16.leave (v := none) (fun _ => rfl)
  refine ⟨_, _, g17 _ (X16.returnOut hx Bd.returns (hb hby d2_11) hr), hrun, hended, _, _, rfl, ?_, ⟨_, rfl⟩, hW, hsame.mono (by decide) (by decide)⟩
  show Q_ali Z aa da h0 n0 _ T16.heap _
  rw [e16]
  exact ⟨rfl, N16, (((Keep.refl h0 [aa]).trans R11_0 (allS (Or.inl (List.mem_of_getElem? (i := 0) rfl)) all0)).wr W16 (Or.inl (List.mem_of_getElem? (i := 0) rfl))), (R11_1.wr W16), (R11_2.other W16 (Or.inr (slot_ne (Or.inl (hw _ (List.mem_of_getElem? (i := 30) rfl))) (Or.inl (hw _ (List.mem_of_getElem? (i := 33) rfl))) (by decide) (t := .int) (t' := (.array (.object "java/lang/Object"))) (by decide) (by decide)))), (R11_3.other W16 (Or.inr (slot_ne (Or.inl (hw _ (List.mem_of_getElem? (i := 70) rfl))) (Or.inl (hw _ (List.mem_of_getElem? (i := 33) rfl))) (by decide) (t := .int) (t' := (.array (.object "java/lang/Object"))) (by decide) (by decide)))), Fw16⟩
theorem d7_0 : decode jdk_30_method_1_code 0 = .ok (.aload_n 0, 1) := by decide +kernel
theorem d7_1 : decode jdk_30_method_1_code 1 = .ok (.invokespecial 1, 3) := by decide +kernel
theorem d7_4 : decode jdk_30_method_1_code 4 = .ok (.return_, 1) := by decide +kernel
theorem pf_rec : plainFor (⟨"java/lang/Record", "<init>", "()V"⟩ : MethodName) = true := by first | exact plainFor_of_name (by first | (simp [plainName, overriddenIn, x]; done) | decide +kernel) | exact Jvm.Free.JP.mathPlain rfl (by decide +kernel) | decide +kernel
theorem ef_rec (m : MethodId) (ra : Addr) : entryFrame m #[(.ref ra)] 1 = mkF m 0 #[rv ra] [] := by first | (simp [entryFrame, mkF, argsToLocals, Value.category, maxLocals]; done) | rfl
def Q_rec (Z : State) (ra : Addr)  (h0 : Heap) (n0 : Nat) (v : Option Value) (h : Heap) (L : List Loc) : Prop := v = none ∧ Fr n0 L ∧ h = h0
set_option maxRecDepth 65536 in
set_option maxHeartbeats 40000000 in
theorem rm_rec (l : Launch) (Z : State) (a0 : Array Value) (hw : ∀ d ∈ tables_1, d.before a0 Z = true) (ws : List Jvm.Cond) (ra : Addr)  (h0 : Heap) (n0 : Nat) (Z0 : n0 ≤ h0.size)   :
    MetFree l (⟨"java/lang/Record", "<init>", "()V"⟩ : MethodName) (head1 (Jvm.Cond.code (⟨"java/lang/Record", "<init>", "()V"⟩ : MethodName) jdk_30_method_1_code 1 none :: ws) ({ frames := 1, cells := 0, slots := 0, locals := 12 } : Room)) (fun a U => a = #[(.ref ra)] ∧ Z.Warmed39 U.vm ∧ U.heap = h0) (fun _ _ _ _ _ => True) (fun _ U o U' => ∃ v L, o = .returned v ∧ Q_rec Z ra  h0 n0 v U'.heap L ∧ FrameEnd U o U' L ({ frames := 1, cells := 0, slots := 0, locals := 12 } : Room).cells ({ frames := 1, cells := 0, slots := 0, locals := 12 } : Room).slots) := by
  refine MetFree.of_bodySF pf_rec hisR ?_
  intro p e s m args below meth c s₁ Bd hml0 hP hK
  obtain ⟨rfl, hZ, hh⟩ := hP
  have hx := Bd.exec
  have hby := Bd.bytes
  have hml : c.maxLocals = 1 := hml0
  have hown : s.vm.findClass "java/lang/Record" = some m.cls := findClass_of_methodNamed Bd.named
  have hnm := (name_of_methodNamed Bd.named Bd.method).1
  have X0 : Stand p l e ({ frames := 1, cells := 0, slots := 0, locals := 12 } : Room) s m #[(.ref ra)] below meth c s₁ [] 0 0 := Stand.of_body Bd
  have e0 : s₁.heap = h0 := by rw [← hh, Bd.state]; rfl
  have N0 := Fr.nil n0
  obtain ⟨S0, hS0⟩ : ∃ z, z = s₁.setTop (entryFrame m #[(.ref ra)] 1) := ⟨_, rfl⟩
  rw [← hS0]
  have g0 : Goes p e below S0 (s₁.setTop (mkF m 0 #[rv ra] [])) := fun t k => by rw [hS0]; exact castTop (ef_rec m ra) k
  have g18 : Goes p e below S0 (s₁.setTop (mkF m 1 #[rv ra] [(.ref ra)])) := fun t k => g0 t (by
    refine XS.aloadN X0.here hx rfl (hb hby d7_0) rfl rfl ?_
    show Go p e below t s₁ m 1 #[rv ra] [(.ref ra)]
    exact k)
  obtain ⟨T19, X19, e19, st19⟩ := initO X0 hx hZ hown (hw _ (List.mem_of_getElem? (i := 53) rfl)) (hw _ (List.mem_of_getElem? (i := 27) rfl)) (hw _ (List.mem_of_getElem? (i := 28) rfl)) e0 (g := (mkF m 1 #[rv ra] [(.ref ra)])) rfl (by rw [hml]; rfl) rfl (hb hby d7_1) (by decide) (W := 0) (by show 2 * 0 + _ ≤ _; exact Nat.le_of_eq rfl) (by decide)
  have g20 : Goes p e below S0 (T19.setTop (mkF m 4 #[rv ra] [])) := fun t k => g18 t (st19 t k)
  obtain ⟨fs, hr, hrun, hended, hW, hsame⟩ := X19.leave (v := none) (fun _ => rfl)
  refine ⟨_, _, g20 _ (X19.returnOut hx Bd.returns (hb hby d7_4) hr), hrun, hended, _, _, rfl, ?_, ⟨_, rfl⟩, hW, hsame.mono (by decide) (by decide)⟩
  show Q_rec Z ra  h0 n0 _ T19.heap _
  rw [e19]
  exact ⟨rfl, N0, rfl⟩
theorem d6_0 : decode prog_30_method_1_code 0 = .ok (.aload_n 0, 1) := by decide +kernel
theorem d6_1 : decode prog_30_method_1_code 1 = .ok (.invokespecial 1, 3) := by decide +kernel
theorem d6_4 : decode prog_30_method_1_code 4 = .ok (.aload_n 0, 1) := by decide +kernel
theorem d6_5 : decode prog_30_method_1_code 5 = .ok (.aload_n 1, 1) := by decide +kernel
theorem d6_6 : decode prog_30_method_1_code 6 = .ok (.putfield 7, 3) := by decide +kernel
theorem d6_9 : decode prog_30_method_1_code 9 = .ok (.aload_n 0, 1) := by decide +kernel
theorem d6_10 : decode prog_30_method_1_code 10 = .ok (.dload_n 2, 1) := by decide +kernel
theorem d6_11 : decode prog_30_method_1_code 11 = .ok (.putfield 13, 3) := by decide +kernel
theorem d6_14 : decode prog_30_method_1_code 14 = .ok (.return_, 1) := by decide +kernel
theorem pd1 : parseMethodDescriptor "(Ljava/lang/String;D)V" = some ⟨[(.object "java/lang/String"), .double], none⟩ := by decide +kernel
theorem pf_ri : plainFor (⟨"com/example/nimble_retrieval/nimbleretrieval/format/Run$Retrieved", "<init>", "(Ljava/lang/String;D)V"⟩ : MethodName) = true := by first | exact plainFor_of_name (by first | (simp [plainName, overriddenIn, x]; done) | decide +kernel) | exact Jvm.Free.JP.mathPlain rfl (by decide +kernel) | decide +kernel
theorem ef_ri (m : MethodId) (ra : Addr) (rs : Addr) (rd : UInt64) : entryFrame m #[(.ref ra), (.ref rs), (.double rd)] 4 = mkF m 0 #[rv ra, rv rs, .val (.double rd), .second] [] := by first | (simp [entryFrame, mkF, argsToLocals, Value.category, maxLocals]; done) | rfl
def Q_ri (Z : State) (ra : Addr) (rs : Addr) (rd : UInt64)  (h0 : Heap) (n0 : Nat) (v : Option Value) (h : Heap) (L : List Loc) : Prop := v = none ∧ Fr n0 L ∧ (Keep h0 h [ra]) ∧ (Exa Z h ra "com/example/nimble_retrieval/nimbleretrieval/format/Run$Retrieved") ∧ (Fld Z h ra "com/example/nimble_retrieval/nimbleretrieval/format/Run$Retrieved" "score" "D" (.double rd))
set_option maxRecDepth 65536 in
set_option maxHeartbeats 40000000 in
theorem rm_ri (l : Launch) (Z : State) (a0 : Array Value) (hw : ∀ d ∈ tables_1, d.before a0 Z = true) (ws : List Jvm.Cond) (ra : Addr) (rs : Addr) (rd : UInt64)  (h0 : Heap) (n0 : Nat) (Z0 : n0 ≤ h0.size) (P0 : Exa Z h0 ra "com/example/nimble_retrieval/nimbleretrieval/format/Run$Retrieved") (P1 : Fld Z h0 ra "com/example/nimble_retrieval/nimbleretrieval/format/Run$Retrieved" "docno" "Ljava/lang/String;" .null) (P2 : Fld Z h0 ra "com/example/nimble_retrieval/nimbleretrieval/format/Run$Retrieved" "score" "D" (.double (0 : UInt64))) (P3 : n0 ≤ ra)  :
    MetFree l (⟨"com/example/nimble_retrieval/nimbleretrieval/format/Run$Retrieved", "<init>", "(Ljava/lang/String;D)V"⟩ : MethodName) (head1 (Jvm.Cond.code (⟨"com/example/nimble_retrieval/nimbleretrieval/format/Run$Retrieved", "<init>", "(Ljava/lang/String;D)V"⟩ : MethodName) prog_30_method_1_code 4 none :: ws) ({ frames := 2, cells := 0, slots := 0, locals := 24 } : Room)) (fun a U => a = #[(.ref ra), (.ref rs), (.double rd)] ∧ Z.Warmed39 U.vm ∧ U.heap = h0) (fun _ _ _ _ _ => True) (fun _ U o U' => ∃ v L, o = .returned v ∧ Q_ri Z ra rs rd  h0 n0 v U'.heap L ∧ FrameEnd U o U' L ({ frames := 2, cells := 0, slots := 0, locals := 24 } : Room).cells ({ frames := 2, cells := 0, slots := 0, locals := 24 } : Room).slots) := by
  refine MetFree.of_bodySF pf_ri hisR ?_
  intro p e s m args below meth c s₁ Bd hml0 hP hK
  obtain ⟨rfl, hZ, hh⟩ := hP
  have hx := Bd.exec
  have hby := Bd.bytes
  have hml : c.maxLocals = 4 := hml0
  have hown : s.vm.findClass "com/example/nimble_retrieval/nimbleretrieval/format/Run$Retrieved" = some m.cls := findClass_of_methodNamed Bd.named
  have hnm := (name_of_methodNamed Bd.named Bd.method).1
  have X0 : Stand p l e ({ frames := 2, cells := 0, slots := 0, locals := 24 } : Room) s m #[(.ref ra), (.ref rs), (.double rd)] below meth c s₁ [] 0 0 := Stand.of_body Bd
  have e0 : s₁.heap = h0 := by rw [← hh, Bd.state]; rfl
  have N0 := Fr.nil n0
  obtain ⟨S0, hS0⟩ : ∃ z, z = s₁.setTop (entryFrame m #[(.ref ra), (.ref rs), (.double rd)] 4) := ⟨_, rfl⟩
  rw [← hS0]
  have g0 : Goes p e below S0 (s₁.setTop (mkF m 0 #[rv ra, rv rs, .val (.double rd), .second] [])) := fun t k => by rw [hS0]; exact castTop (ef_ri m ra rs rd) k
  have g21 : Goes p e below S0 (s₁.setTop (mkF m 1 #[rv ra, rv rs, .val (.double rd), .second] [(.ref ra)])) := fun t k => g0 t (by
    refine XS.aloadN X0.here hx rfl (hb hby d6_0) rfl rfl ?_
    show Go p e below t s₁ m 1 #[rv ra, rv rs, .val (.double rd), .second] [(.ref ra)]
    exact k)
  obtain ⟨_, _, ⟨T22, L22, k22, n22⟩, -, X22, ⟨Lc22, hQ22, l22, y22, z22⟩, st22⟩ := X0.specialBack hx (y := (⟨"java/lang/Record", "<init>", "()V"⟩ : MethodName)) rfl hown (mvT hZ (hw _ (List.mem_of_getElem? (i := 48) rfl))) (mvT hZ (hw _ (List.mem_of_getElem? (i := 49) rfl))) (mvT hZ (hw _ (List.mem_of_getElem? (i := 52) rfl))) (by decide) (backOf (W := 0) (rm_rec l Z a0 hw [] ra  h0 n0 Z0 ) hZ (hw _ (List.mem_of_getElem? (i := 52) rfl)) (hw _ (List.mem_of_getElem? (i := 51) rfl)) (by decide) (by decide)) (g := (mkF m 1 #[rv ra, rv rs, .val (.double rd), .second] [(.ref ra)])) rfl (by rw [hml]; rfl) (Steps.refl _) (a := ra) (argsL := []) (rest := []) (lenOf pd0 rfl) rfl (by show 2 * 0 + _ ≤ _; exact Nat.le_of_eq rfl) (hb hby d6_1) (fun _ _ => ⟨rfl, e0, (by decide : 0 + 0 ≤ _), (by decide : 0 + 0 ≤ _)⟩)
  dsimp only [Pt.U, Pt.locs, Pt.cells, Pt.slots] at X22 l22 y22 z22 st22 hQ22
  subst l22 y22 z22
  obtain ⟨rfl, N22, R22_0⟩ := hQ22
  have M22 := Fr.app N0 N22
  have g23 : Goes p e below S0 (T22.setTop (mkF m 4 #[rv ra, rv rs, .val (.double rd), .second] [])) := fun t k => g21 t (st22.trans k)
  have g24 : Goes p e below S0 (T22.setTop (mkF m 6 #[rv ra, rv rs, .val (.double rd), .second] [(.ref rs), (.ref ra)])) := fun t k => g23 t (by
    refine XS.aloadN X22.here hx rfl (hb hby d6_4) rfl rfl ?_
    show Go p e below t T22 m 5 #[rv ra, rv rs, .val (.double rd), .second] [(.ref ra)]
    refine XS.aloadN X22.here hx rfl (hb hby d6_5) rfl rfl ?_
    show Go p e below t T22 m 6 #[rv ra, rv rs, .val (.double rd), .second] [(.ref rs), (.ref ra)]
    exact k)
  obtain ⟨T25, h25, X25, e25, W25, st25⟩ := putF X22 hx hZ hown (host := "") (Or.inl (hw _ (List.mem_of_getElem? (i := 54) rfl))) Via.refl R22_0 P1 P0 (Or.inr ⟨(hw _ (List.mem_of_getElem? (i := 55) rfl)), rfl, hnm⟩) (hw _ (List.mem_of_getElem? (i := 35) rfl)) (ty := (.object "java/lang/String")) (by decide) rfl rfl (g := (mkF m 6 #[rv ra, rv rs, .val (.double rd), .second] [(.ref rs), (.ref ra)])) rfl rfl (hb hby d6_6)
  have N25 := Fr.snoc X25 M22 P3
  have Fw25 := Fld.same W25 P1
  have g26 : Goes p e below S0 (T25.setTop (mkF m 9 #[rv ra, rv rs, .val (.double rd), .second] [])) := fun t k => g24 t (st25 t k)
  have g27 : Goes p e below S0 (T25.setTop (mkF m 11 #[rv ra, rv rs, .val (.double rd), .second] [(.double rd), (.ref ra)])) := fun t k => g26 t (by
    refine XS.aloadN X25.here hx rfl (hb hby d6_9) rfl rfl ?_
    show Go p e below t T25 m 10 #[rv ra, rv rs, .val (.double rd), .second] [(.ref ra)]
    refine XS.dloadN X25.here hx rfl (hb hby d6_10) rfl ?_
    show Go p e below t T25 m 11 #[rv ra, rv rs, .val (.double rd), .second] [(.double rd), (.ref ra)]
    exact k)
  obtain ⟨T28, h28, X28, e28, W28, st28⟩ := putF X25 hx hZ hown (host := "") (Or.inl (hw _ (List.mem_of_getElem? (i := 56) rfl))) Via.refl e25 (P2.other W25 (Or.inr (slot_ne (Or.inr (hw _ (List.mem_of_getElem? (i := 57) rfl))) (Or.inr (hw _ (List.mem_of_getElem? (i := 55) rfl))) (by decide) (t := .double) (t' := (.object "java/lang/String")) (by decide) (by decide)))) (P0.wr W25) (Or.inr ⟨(hw _ (List.mem_of_getElem? (i := 57) rfl)), rfl, hnm⟩) (hw _ (List.mem_of_getElem? (i := 35) rfl)) (ty := .double) (by decide) rfl rfl (g := (mkF m 11 #[rv ra, rv rs, .val (.double rd), .second] [(.double rd), (.ref ra)])) rfl rfl (hb hby d6_11)
  have N28 := Fr.snoc X28 N25 P3
  have Fw28 := Fld.same W28 (P2.other W25 (Or.inr (slot_ne (Or.inr (hw _ (List.mem_of_getElem? (i := 57) rfl))) (Or.inr (hw _ (List.mem_of_getElem? (i := 55) rfl))) (by decide) (t := .double) (t' := (.object "java/lang/String")) (by decide) (by decide))))
  have g29 : Goes p e below S0 (T28.setTop (mkF m 14 #[rv ra, rv rs, .val (.double rd), .second] [])) := fun t k => g27 t (st28 t k)
  obtain ⟨fs, hr, hrun, hended, hW, hsame⟩ := X28.leave (v := none) (fun _ => rfl)
  refine ⟨_, _, g29 _ (X28.returnOut hx Bd.returns (hb hby d6_14) hr), hrun, hended, _, _, rfl, ?_, ⟨_, rfl⟩, hW, hsame.mono (by decide) (by decide)⟩
  show Q_ri Z ra rs rd  h0 n0 _ T28.heap _
  rw [e28]
  exact ⟨rfl, N28, (((Keep.refl h0 [ra]).wr W25 (Or.inl (List.mem_of_getElem? (i := 0) rfl))).wr W28 (Or.inl (List.mem_of_getElem? (i := 0) rfl))), ((P0.wr W25).wr W28), Fw28⟩
theorem d0_0 : decode jdk_29_method_65_code 0 = .ok (.iload_n 0, 1) := by decide +kernel
theorem d0_1 : decode jdk_29_method_65_code 1 = .ok (.iload_n 1, 1) := by decide +kernel
theorem d0_2 : decode jdk_29_method_65_code 2 = .ok (.if_icmp .lt 7, 3) := by decide +kernel
theorem d0_5 : decode jdk_29_method_65_code 5 = .ok (.iload_n 0, 1) := by decide +kernel
theorem d0_6 : decode jdk_29_method_65_code 6 = .ok (.goto 4, 3) := by decide +kernel
theorem d0_9 : decode jdk_29_method_65_code 9 = .ok (.iload_n 1, 1) := by decide +kernel
theorem d0_10 : decode jdk_29_method_65_code 10 = .ok (.ireturn, 1) := by decide +kernel
theorem pd2 : parseMethodDescriptor "(II)I" = some ⟨[.int, .int], some .int⟩ := by decide +kernel
theorem pf_mx : plainFor (⟨"java/lang/Math", "max", "(II)I"⟩ : MethodName) = true := by first | exact plainFor_of_name (by first | (simp [plainName, overriddenIn, x]; done) | decide +kernel) | exact Jvm.Free.JP.mathPlain rfl (by decide +kernel) | decide +kernel
theorem ef_mx (m : MethodId) (xa : Int32) (xb : Int32) : entryFrame m #[(.int xa), (.int xb)] 2 = mkF m 0 #[iv xa, iv xb] [] := by first | (simp [entryFrame, mkF, argsToLocals, Value.category, maxLocals]; done) | rfl
def f_mx (xa : Int32) (xb : Int32) : Int32 := (if xa < xb then xb else xa)
def Q_mx (Z : State) (xa : Int32) (xb : Int32)  (h0 : Heap) (n0 : Nat) (v : Option Value) (h : Heap) (L : List Loc) : Prop := v = some (.int (f_mx xa xb)) ∧ Fr n0 L ∧ h = h0
set_option maxRecDepth 65536 in
set_option maxHeartbeats 40000000 in
theorem rm_mx (l : Launch) (Z : State) (a0 : Array Value) (hw : ∀ d ∈ tables_1, d.before a0 Z = true) (ws : List Jvm.Cond) (xa : Int32) (xb : Int32)  (h0 : Heap) (n0 : Nat) (Z0 : n0 ≤ h0.size)   :
    MetFree l (⟨"java/lang/Math", "max", "(II)I"⟩ : MethodName) (head1 (Jvm.Cond.code (⟨"java/lang/Math", "max", "(II)I"⟩ : MethodName) jdk_29_method_65_code 2 (some .int) :: ws) ({ frames := 0, cells := 0, slots := 0, locals := 0 } : Room)) (fun a U => a = #[(.int xa), (.int xb)] ∧ Z.Warmed39 U.vm ∧ U.heap = h0) (fun _ _ _ _ _ => True) (fun _ U o U' => ∃ v L, o = .returned v ∧ Q_mx Z xa xb  h0 n0 v U'.heap L ∧ FrameEnd U o U' L ({ frames := 0, cells := 0, slots := 0, locals := 0 } : Room).cells ({ frames := 0, cells := 0, slots := 0, locals := 0 } : Room).slots) := by
  refine MetFree.of_bodySF pf_mx hisR ?_
  intro p e s m args below meth c s₁ Bd hml0 hP hK
  obtain ⟨rfl, hZ, hh⟩ := hP
  have hx := Bd.exec
  have hby := Bd.bytes
  have hml : c.maxLocals = 2 := hml0
  have hown : s.vm.findClass "java/lang/Math" = some m.cls := findClass_of_methodNamed Bd.named
  have hnm := (name_of_methodNamed Bd.named Bd.method).1
  have X0 : Stand p l e ({ frames := 0, cells := 0, slots := 0, locals := 0 } : Room) s m #[(.int xa), (.int xb)] below meth c s₁ [] 0 0 := Stand.of_body Bd
  have e0 : s₁.heap = h0 := by rw [← hh, Bd.state]; rfl
  have N0 := Fr.nil n0
  obtain ⟨S0, hS0⟩ : ∃ z, z = s₁.setTop (entryFrame m #[(.int xa), (.int xb)] 2) := ⟨_, rfl⟩
  rw [← hS0]
  have g0 : Goes p e below S0 (s₁.setTop (mkF m 0 #[iv xa, iv xb] [])) := fun t k => by rw [hS0]; exact castTop (ef_mx m xa xb) k
  have g30 : Goes p e below S0 (s₁.setTop (mkF m 2 #[iv xa, iv xb] [(.int xb), (.int xa)])) := fun t k => g0 t (by
    refine XS.iloadN X0.here hx rfl (hb hby d0_0) rfl ?_
    show Go p e below t s₁ m 1 #[iv xa, iv xb] [(.int xa)]
    refine XS.iloadN X0.here hx rfl (hb hby d0_1) rfl ?_
    show Go p e below t s₁ m 2 #[iv xa, iv xb] [(.int xb), (.int xa)]
    exact k)
  by_cases h31 : xa < xb
  · skip
    have g32 : Goes p e below S0 (s₁.setTop (mkF m 10 #[iv xa, iv xb] [(.int xb)])) := fun t k => g30 t (by
      refine XS.icmpYes X0.here hx rfl (pc0 := 2) (pc' := 9) rfl (hb hby d0_2) rfl (XT.ii_lt_t h31) (by decide) (by decide) ?_
      show Go p e below t s₁ m 9 #[iv xa, iv xb] []
      refine XS.iloadN X0.here hx rfl (hb hby d0_9) rfl ?_
      show Go p e below t s₁ m 10 #[iv xa, iv xb] [(.int xb)]
      exact k)
    obtain ⟨fs, hr, hrun, hended, hW, hsame⟩ := X0.leave (v := some (.int xb)) (fun h => by rw [Bd.returns] at h; cases h)
    refine ⟨_, _, g32 _ (retOut X0 hx Bd.returns rfl (Or.inl ⟨rfl, Or.inl rfl, _, rfl⟩) (hb hby d0_10) hr), hrun, hended, _, _, rfl, ?_, ⟨_, rfl⟩, hW, hsame.mono (by decide) (by decide)⟩
    show Q_mx Z xa xb  h0 n0 _ s₁.heap _
    rw [e0]
    exact ⟨by unfold f_mx; rw [if_pos h31], N0, rfl⟩
  · skip
    have g33 : Goes p e below S0 (s₁.setTop (mkF m 10 #[iv xa, iv xb] [(.int xa)])) := fun t k => g30 t (by
      refine XS.icmpNo X0.here hx rfl (hb hby d0_2) rfl (XT.ii_lt_f h31) ?_
      show Go p e below t s₁ m 5 #[iv xa, iv xb] []
      refine XS.iloadN X0.here hx rfl (hb hby d0_5) rfl ?_
      show Go p e below t s₁ m 6 #[iv xa, iv xb] [(.int xa)]
      refine XS.goto X0.here hx rfl (pc0 := 6) (pc' := 10) rfl (hb hby d0_6) (by decide) (by decide) ?_
      show Go p e below t s₁ m 10 #[iv xa, iv xb] [(.int xa)]
      exact k)
    obtain ⟨fs, hr, hrun, hended, hW, hsame⟩ := X0.leave (v := some (.int xa)) (fun h => by rw [Bd.returns] at h; cases h)
    refine ⟨_, _, g33 _ (retOut X0 hx Bd.returns rfl (Or.inl ⟨rfl, Or.inl rfl, _, rfl⟩) (hb hby d0_10) hr), hrun, hended, _, _, rfl, ?_, ⟨_, rfl⟩, hW, hsame.mono (by decide) (by decide)⟩
    show Q_mx Z xa xb  h0 n0 _ s₁.heap _
    rw [e0]
    exact ⟨by unfold f_mx; rw [if_neg h31], N0, rfl⟩
theorem d11_0 : decode jdk_38_method_6_code 0 = .ok (.aload_n 0, 1) := by decide +kernel
theorem d11_1 : decode jdk_38_method_6_code 1 = .ok (.getfield 9, 3) := by decide +kernel
theorem d11_4 : decode jdk_38_method_6_code 4 = .ok (.arraylength, 1) := by decide +kernel
theorem d11_5 : decode jdk_38_method_6_code 5 = .ok (.istore_n 2, 1) := by decide +kernel
theorem d11_6 : decode jdk_38_method_6_code 6 = .ok (.iload_n 2, 1) := by decide +kernel
theorem d11_7 : decode jdk_38_method_6_code 7 = .ok (.ifCond .gt 13, 3) := by decide +kernel
theorem d11_10 : decode jdk_38_method_6_code 10 = .ok (.aload_n 0, 1) := by decide +kernel
theorem d11_11 : decode jdk_38_method_6_code 11 = .ok (.getfield 9, 3) := by decide +kernel
theorem d11_14 : decode jdk_38_method_6_code 14 = .ok (.getstatic 39, 3) := by decide +kernel
theorem d11_17 : decode jdk_38_method_6_code 17 = .ok (.if_acmp .eq 28, 3) := by decide +kernel
theorem d11_20 : decode jdk_38_method_6_code 20 = .ok (.iload_n 2, 1) := by decide +kernel
theorem d11_21 : decode jdk_38_method_6_code 21 = .ok (.iload_n 1, 1) := by decide +kernel
theorem d11_22 : decode jdk_38_method_6_code 22 = .ok (.iload_n 2, 1) := by decide +kernel
theorem d11_23 : decode jdk_38_method_6_code 23 = .ok (.isub, 1) := by decide +kernel
theorem d11_24 : decode jdk_38_method_6_code 24 = .ok (.iload_n 2, 1) := by decide +kernel
theorem d11_25 : decode jdk_38_method_6_code 25 = .ok (.iconst 1, 1) := by decide +kernel
theorem d11_26 : decode jdk_38_method_6_code 26 = .ok (.ishr, 1) := by decide +kernel
theorem d11_27 : decode jdk_38_method_6_code 27 = .ok (.invokestatic 73, 3) := by decide +kernel
theorem d11_30 : decode jdk_38_method_6_code 30 = .ok (.istore_n 3, 1) := by decide +kernel
theorem d11_31 : decode jdk_38_method_6_code 31 = .ok (.aload_n 0, 1) := by decide +kernel
theorem d11_32 : decode jdk_38_method_6_code 32 = .ok (.aload_n 0, 1) := by decide +kernel
theorem d11_33 : decode jdk_38_method_6_code 33 = .ok (.getfield 9, 3) := by decide +kernel
theorem d11_36 : decode jdk_38_method_6_code 36 = .ok (.iload_n 3, 1) := by decide +kernel
theorem d11_37 : decode jdk_38_method_6_code 37 = .ok (.invokestatic 66, 3) := by decide +kernel
theorem d11_40 : decode jdk_38_method_6_code 40 = .ok (.dup_x1, 1) := by decide +kernel
theorem d11_41 : decode jdk_38_method_6_code 41 = .ok (.putfield 9, 3) := by decide +kernel
theorem d11_44 : decode jdk_38_method_6_code 44 = .ok (.areturn, 1) := by decide +kernel
theorem d11_45 : decode jdk_38_method_6_code 45 = .ok (.aload_n 0, 1) := by decide +kernel
theorem d11_46 : decode jdk_38_method_6_code 46 = .ok (.bipush 10, 2) := by decide +kernel
theorem d11_48 : decode jdk_38_method_6_code 48 = .ok (.iload_n 1, 1) := by decide +kernel
theorem d11_49 : decode jdk_38_method_6_code 49 = .ok (.invokestatic 79, 3) := by decide +kernel
theorem d11_52 : decode jdk_38_method_6_code 52 = .ok (.anewarray 7, 3) := by decide +kernel
theorem d11_55 : decode jdk_38_method_6_code 55 = .ok (.dup_x1, 1) := by decide +kernel
theorem d11_56 : decode jdk_38_method_6_code 56 = .ok (.putfield 9, 3) := by decide +kernel
theorem d11_59 : decode jdk_38_method_6_code 59 = .ok (.areturn, 1) := by decide +kernel
theorem pd3 : parseMethodDescriptor "(I)[Ljava/lang/Object;" = some ⟨[.int], some (.array (.object "java/lang/Object"))⟩ := by decide +kernel
theorem pf_gr1 : plainFor (⟨"java/util/ArrayList", "grow", "(I)[Ljava/lang/Object;"⟩ : MethodName) = true := by first | exact plainFor_of_name (by first | (simp [plainName, overriddenIn, x]; done) | decide +kernel) | exact Jvm.Free.JP.mathPlain rfl (by decide +kernel) | decide +kernel
theorem ef_gr1 (m : MethodId) (aa : Addr) (xi : Int32) : entryFrame m #[(.ref aa), (.int xi)] 4 = mkF m 0 #[rv aa, iv xi, .unset, .unset] [] := by first | (simp [entryFrame, mkF, argsToLocals, Value.category, maxLocals]; done) | rfl
def Q_gr1 (Z : State) (aa : Addr) (xi : Int32) (da : Addr) (dk : ClassId) (h0 : Heap) (n0 : Nat) (v : Option Value) (h : Heap) (L : List Loc) : Prop := ∃ (tb : Addr) (tk : ClassId), v = some (.ref tb) ∧ Fr n0 L ∧ (Keep h0 h [aa]) ∧ (h0.size ≤ tb) ∧ (Exa Z h aa "java/util/ArrayList") ∧ (Fld Z h aa "java/util/AbstractList" "modCount" "I" (.int (1 : Int32))) ∧ (Fld Z h aa "java/util/ArrayList" "size" "I" (.int (0 : Int32))) ∧ (Fld Z h aa "java/util/ArrayList" "elementData" "[Ljava/lang/Object;" (.ref tb)) ∧ (Arv Z h tb tk (.object "java/lang/Object") (10 : Int32) [.null, .null, .null, .null, .null, .null, .null, .null, .null, .null] .null) ∧ (Ovr Z tk "java/lang/Object")
set_option maxRecDepth 65536 in
set_option maxHeartbeats 40000000 in
theorem rm_gr1 (l : Launch) (Z : State) (a0 : Array Value) (hw : ∀ d ∈ tables_1, d.before a0 Z = true) (ws : List Jvm.Cond) (aa : Addr) (xi : Int32) (da : Addr) (dk : ClassId) (h0 : Heap) (n0 : Nat) (Z0 : n0 ≤ h0.size) (P0 : Exa Z h0 aa "java/util/ArrayList") (P1 : Fld Z h0 aa "java/util/AbstractList" "modCount" "I" (.int (1 : Int32))) (P2 : Fld Z h0 aa "java/util/ArrayList" "size" "I" (.int (0 : Int32))) (P3 : Fld Z h0 aa "java/util/ArrayList" "elementData" "[Ljava/lang/Object;" (.ref da)) (P4 : n0 ≤ aa) (P5 : aa ≠ da) (P6 : Arv Z h0 da dk (.object "java/lang/Object") (0 : Int32) [] .null) (P7 : Sta Z h0 "java/util/ArrayList" "DEFAULTCAPACITY_EMPTY_ELEMENTDATA" "[Ljava/lang/Object;" (.ref da)) (q1 : xi = (1 : Int32))  :
    MetFree l (⟨"java/util/ArrayList", "grow", "(I)[Ljava/lang/Object;"⟩ : MethodName) (head1 (Jvm.Cond.code (⟨"java/util/ArrayList", "grow", "(I)[Ljava/lang/Object;"⟩ : MethodName) jdk_38_method_6_code 4 (some (.array (.object "java/lang/Object"))) :: ws) ({ frames := 1, cells := 1, slots := 10, locals := 16 } : Room)) (fun a U => a = #[(.ref aa), (.int xi)] ∧ Z.Warmed39 U.vm ∧ U.heap = h0) (fun _ _ _ _ _ => True) (fun _ U o U' => ∃ v L, o = .returned v ∧ Q_gr1 Z aa xi da dk h0 n0 v U'.heap L ∧ FrameEnd U o U' L ({ frames := 1, cells := 1, slots := 10, locals := 16 } : Room).cells ({ frames := 1, cells := 1, slots := 10, locals := 16 } : Room).slots) := by
  refine MetFree.of_bodySF pf_gr1 hisR ?_
  intro p e s m args below meth c s₁ Bd hml0 hP hK
  obtain ⟨rfl, hZ, hh⟩ := hP
  have hx := Bd.exec
  have hby := Bd.bytes
  have hml : c.maxLocals = 4 := hml0
  have hown : s.vm.findClass "java/util/ArrayList" = some m.cls := findClass_of_methodNamed Bd.named
  have hnm := (name_of_methodNamed Bd.named Bd.method).1
  have X0 : Stand p l e ({ frames := 1, cells := 1, slots := 10, locals := 16 } : Room) s m #[(.ref aa), (.int xi)] below meth c s₁ [] 0 0 := Stand.of_body Bd
  have e0 : s₁.heap = h0 := by rw [← hh, Bd.state]; rfl
  have N0 := Fr.nil n0
  obtain ⟨S0, hS0⟩ : ∃ z, z = s₁.setTop (entryFrame m #[(.ref aa), (.int xi)] 4) := ⟨_, rfl⟩
  rw [← hS0]
  have g0 : Goes p e below S0 (s₁.setTop (mkF m 0 #[rv aa, iv xi, .unset, .unset] [])) := fun t k => by rw [hS0]; exact castTop (ef_gr1 m aa xi) k
  obtain rfl : xi = (1 : Int32) := q1
  have g34 : Goes p e below S0 (s₁.setTop (mkF m 1 #[rv aa, iv (1 : Int32), .unset, .unset] [(.ref aa)])) := fun t k => g0 t (by
    refine XS.aloadN X0.here hx rfl (hb hby d11_0) rfl rfl ?_
    show Go p e below t s₁ m 1 #[rv aa, iv (1 : Int32), .unset, .unset] [(.ref aa)]
    exact k)
  obtain ⟨T35, X35, e35, st35⟩ := getF X0 hx hZ hown (host := "") (Or.inl (hw _ (List.mem_of_getElem? (i := 32) rfl))) Via.refl e0 P3 (g := (mkF m 1 #[rv aa, iv (1 : Int32), .unset, .unset] [(.ref aa)])) rfl rfl (hb hby d11_1)
  have g36 : Goes p e below S0 (T35.setTop (mkF m 4 #[rv aa, iv (1 : Int32), .unset, .unset] [(.ref da)])) := fun t k => g34 t (st35 t k)
  obtain ⟨cl37, Ar37, q37, S37, M37, H37, G37⟩ := id P6
  have g38 : Goes p e below S0 (T35.setTop (mkF m 11 #[rv aa, iv (1 : Int32), iv (0 : Int32), .unset] [(.ref aa)])) := fun t k => g36 t (by
    refine X35.arraylength hx (by rw [e35]; exact Ar37.1) (State.isArrayOf_alike hZ.alike Ar37.2.1) (g := (mkF m 4 #[rv aa, iv (1 : Int32), .unset, .unset] [(.ref da)])) rfl rfl (hb hby d11_4) _ ?_
    rw [len_of S37 M37]
    show Go p e below t T35 m 5 #[rv aa, iv (1 : Int32), .unset, .unset] [(.int (0 : Int32))]
    refine XS.istoreN X35.here hx rfl (hb hby d11_5) rfl (l' := #[rv aa, iv (1 : Int32), iv (0 : Int32), .unset]) rfl ?_
    show Go p e below t T35 m 6 #[rv aa, iv (1 : Int32), iv (0 : Int32), .unset] []
    refine XS.iloadN X35.here hx rfl (hb hby d11_6) rfl ?_
    show Go p e below t T35 m 7 #[rv aa, iv (1 : Int32), iv (0 : Int32), .unset] [(.int (0 : Int32))]
    refine XS.ifNo X35.here hx rfl (hb hby d11_7) rfl (XT.i0_gt_f (by decide)) ?_
    show Go p e below t T35 m 10 #[rv aa, iv (1 : Int32), iv (0 : Int32), .unset] []
    refine XS.aloadN X35.here hx rfl (hb hby d11_10) rfl rfl ?_
    show Go p e below t T35 m 11 #[rv aa, iv (1 : Int32), iv (0 : Int32), .unset] [(.ref aa)]
    exact k)
  obtain ⟨T39, X39, e39, st39⟩ := getF X35 hx hZ hown (host := "") (Or.inl (hw _ (List.mem_of_getElem? (i := 32) rfl))) Via.refl e35 P3 (g := (mkF m 11 #[rv aa, iv (1 : Int32), iv (0 : Int32), .unset] [(.ref aa)])) rfl rfl (hb hby d11_11)
  have g40 : Goes p e below S0 (T39.setTop (mkF m 14 #[rv aa, iv (1 : Int32), iv (0 : Int32), .unset] [(.ref da)])) := fun t k => g38 t (st39 t k)
  obtain ⟨T41, X41, e41, st41⟩ := getS (host := "") X39 hx hZ hown (hw _ (List.mem_of_getElem? (i := 31) rfl)) Via.refl e39 P7 (g := (mkF m 14 #[rv aa, iv (1 : Int32), iv (0 : Int32), .unset] [(.ref da)])) rfl (hb hby d11_14)
  have g42 : Goes p e below S0 (T41.setTop (mkF m 17 #[rv aa, iv (1 : Int32), iv (0 : Int32), .unset] [(.ref da), (.ref da)])) := fun t k => g40 t (st41 t k)
  have g43 : Goes p e below S0 (T41.setTop (mkF m 49 #[rv aa, iv (1 : Int32), iv (0 : Int32), .unset] [(.int (1 : Int32)), (.int (10 : Int32)), (.ref aa)])) := fun t k => g42 t (by
    refine XS.acmpYes X41.here hx rfl (pc0 := 17) (pc' := 45) rfl (hb hby d11_17) rfl (by simp [if_acmp.holds]) (by decide) (by decide) ?_
    show Go p e below t T41 m 45 #[rv aa, iv (1 : Int32), iv (0 : Int32), .unset] []
    refine XS.aloadN X41.here hx rfl (hb hby d11_45) rfl rfl ?_
    show Go p e below t T41 m 46 #[rv aa, iv (1 : Int32), iv (0 : Int32), .unset] [(.ref aa)]
    refine XT.bipushV X41.here hx rfl (10 : Int32) (hb hby d11_46) (by decide) ?_
    show Go p e below t T41 m 48 #[rv aa, iv (1 : Int32), iv (0 : Int32), .unset] [(.int (10 : Int32)), (.ref aa)]
    refine XS.iloadN X41.here hx rfl (hb hby d11_48) rfl ?_
    show Go p e below t T41 m 49 #[rv aa, iv (1 : Int32), iv (0 : Int32), .unset] [(.int (1 : Int32)), (.int (10 : Int32)), (.ref aa)]
    exact k)
  obtain ⟨_, _, ⟨T44, L44, k44, n44⟩, -, X44, ⟨Lc44, hQ44, l44, y44, z44⟩, st44⟩ := Jvm.LawKit.callS X41 hx (y := (⟨"java/lang/Math", "max", "(II)I"⟩ : MethodName)) hown (mvT hZ (hw _ (List.mem_of_getElem? (i := 86) rfl))) (mvT hZ (hw _ (List.mem_of_getElem? (i := 2) rfl))) (mvT hZ (hw _ (List.mem_of_getElem? (i := 3) rfl))) (mvT hZ (hw _ (List.mem_of_getElem? (i := 4) rfl))) (by decide) (backOf (W := 1) (rm_mx l Z a0 hw [] (10 : Int32) (1 : Int32)  h0 n0 Z0 ) hZ (hw _ (List.mem_of_getElem? (i := 4) rfl)) (hw _ (List.mem_of_getElem? (i := 3) rfl)) (by decide) (by decide)) (g := (mkF m 49 #[rv aa, iv (1 : Int32), iv (0 : Int32), .unset] [(.int (1 : Int32)), (.int (10 : Int32)), (.ref aa)])) rfl (by rw [hml]; rfl) (argsL := [(.int (10 : Int32)), (.int (1 : Int32))]) (rest := [(.ref aa)]) (lenOf pd2 rfl) rfl (by show 2 * 0 + _ ≤ _; exact Nat.le_of_eq rfl) (hb hby d11_49) (fun _ _ => ⟨rfl, e41, (by decide : 0 + 0 ≤ _), (by decide : 0 + 0 ≤ _)⟩)
  dsimp only [Pt.U, Pt.locs, Pt.cells, Pt.slots] at X44 l44 y44 z44 st44 hQ44
  subst l44 y44 z44
  obtain ⟨rfl, N44, e44⟩ := hQ44
  have M44 := Fr.app N0 N44
  have g45 : Goes p e below S0 (T44.setTop (mkF m 52 #[rv aa, iv (1 : Int32), iv (0 : Int32), .unset] [(.int (f_mx (10 : Int32) (1 : Int32))), (.ref aa)])) := fun t k => g43 t (st44 t k)
  rw [show (f_mx (10 : Int32) (1 : Int32)) = (10 : Int32) from (by decide)] at g45
  obtain ⟨T46, h46, k46, X46, e46, E46, A46, O46, st46⟩ := newR X44 hx hZ hown (hw _ (List.mem_of_getElem? (i := 87) rfl)) (hw _ (List.mem_of_getElem? (i := 88) rfl)) e44 (g := (mkF m 52 #[rv aa, iv (1 : Int32), iv (0 : Int32), .unset] [(.int (10 : Int32)), (.ref aa)])) rfl (hb hby d11_52) rfl (by decide) (cap := 10) (by decide) (by decide) (by decide) (by decide)
  obtain ⟨b46, gb46⟩ : ∃ z, z = h0.size := ⟨_, rfl⟩
  have sz46 : h0.size ≤ b46 := Nat.le_trans (Nat.le_refl _) (Nat.le_of_eq gb46.symm)
  have ng46 : n0 ≤ b46 := Nat.le_trans Z0 sz46
  rw [← gb46] at A46 st46
  have V46 : Arv Z h46 b46 k46 (.object "java/lang/Object") (10 : Int32) [.null, .null, .null, .null, .null, .null, .null, .null, .null, .null] .null := (Arv.new A46 (by decide)).pad (pad_rep [] .null 10)
  have g47 : Goes p e below S0 (T46.setTop (mkF m 55 #[rv aa, iv (1 : Int32), iv (0 : Int32), .unset] [(.ref b46), (.ref aa)])) := fun t k => g45 t (st46 t k)
  have g48 : Goes p e below S0 (T46.setTop (mkF m 56 #[rv aa, iv (1 : Int32), iv (0 : Int32), .unset] [(.ref b46), (.ref aa), (.ref b46)])) := fun t k => g47 t (by
    refine XS.dupX1 X46.here hx rfl (hb hby d11_55) rfl rfl rfl ?_
    show Go p e below t T46 m 56 #[rv aa, iv (1 : Int32), iv (0 : Int32), .unset] [(.ref b46), (.ref aa), (.ref b46)]
    exact k)
  obtain ⟨T49, h49, X49, e49, W49, st49⟩ := putF X46 hx hZ hown (host := "") (Or.inl (hw _ (List.mem_of_getElem? (i := 32) rfl))) Via.refl e46 (P3.ext E46) (P0.ext E46) (Or.inl (hw _ (List.mem_of_getElem? (i := 33) rfl))) (hw _ (List.mem_of_getElem? (i := 9) rfl)) (ty := (.array (.object "java/lang/Object"))) (by decide) rfl rfl (g := (mkF m 56 #[rv aa, iv (1 : Int32), iv (0 : Int32), .unset] [(.ref b46), (.ref aa), (.ref b46)])) rfl rfl (hb hby d11_56)
  have N49 := Fr.snoc X49 M44 P4
  have Fw49 := Fld.same W49 (P3.ext E46)
  have g50 : Goes p e below S0 (T49.setTop (mkF m 59 #[rv aa, iv (1 : Int32), iv (0 : Int32), .unset] [(.ref b46)])) := fun t k => g48 t (st49 t k)
  obtain ⟨fs, hr, hrun, hended, hW, hsame⟩ := X49.leave (v := some (.ref b46)) (fun h => by rw [Bd.returns] at h; cases h)
  refine ⟨_, _, g50 _ (retOut X49 hx Bd.returns rfl (Or.inr (Or.inr (Or.inr (Or.inr ⟨rfl, rfl, rfl⟩)))) (hb hby d11_59) hr), hrun, hended, _, _, rfl, ?_, ⟨_, rfl⟩, hW, hsame.mono (by decide) (by decide)⟩
  show Q_gr1 Z aa (1 : Int32) da dk h0 n0 _ T49.heap _
  rw [e49]
  exact ⟨b46, k46, rfl, N49, (((Keep.refl h0 [aa]).ext E46).wr W49 (Or.inl (List.mem_of_getElem? (i := 0) rfl))), sz46, ((P0.ext E46).wr W49), ((P1.ext E46).other W49 (Or.inr (slot_ne (Or.inl (hw _ (List.mem_of_getElem? (i := 30) rfl))) (Or.inl (hw _ (List.mem_of_getElem? (i := 33) rfl))) (by decide) (t := .int) (t' := (.array (.object "java/lang/Object"))) (by decide) (by decide)))), ((P2.ext E46).other W49 (Or.inr (slot_ne (Or.inl (hw _ (List.mem_of_getElem? (i := 70) rfl))) (Or.inl (hw _ (List.mem_of_getElem? (i := 33) rfl))) (by decide) (t := .int) (t' := (.array (.object "java/lang/Object"))) (by decide) (by decide)))), Fw49, (V46.other W49 (Ne.symm (Nat.ne_of_lt (Nat.lt_of_lt_of_le P0.lt (Nat.le_of_eq gb46.symm))))), O46⟩
theorem d10_0 : decode jdk_38_method_7_code 0 = .ok (.aload_n 0, 1) := by decide +kernel
theorem d10_1 : decode jdk_38_method_7_code 1 = .ok (.aload_n 0, 1) := by decide +kernel
theorem d10_2 : decode jdk_38_method_7_code 2 = .ok (.getfield 48, 3) := by decide +kernel
theorem d10_5 : decode jdk_38_method_7_code 5 = .ok (.iconst 1, 1) := by decide +kernel
theorem d10_6 : decode jdk_38_method_7_code 6 = .ok (.iadd, 1) := by decide +kernel
theorem d10_7 : decode jdk_38_method_7_code 7 = .ok (.invokevirtual 69, 3) := by decide +kernel
theorem d10_10 : decode jdk_38_method_7_code 10 = .ok (.areturn, 1) := by decide +kernel
theorem pd4 : parseMethodDescriptor "()[Ljava/lang/Object;" = some ⟨[], some (.array (.object "java/lang/Object"))⟩ := by decide +kernel
theorem pf_gr0 : plainFor (⟨"java/util/ArrayList", "grow", "()[Ljava/lang/Object;"⟩ : MethodName) = true := by first | exact plainFor_of_name (by first | (simp [plainName, overriddenIn, x]; done) | decide +kernel) | exact Jvm.Free.JP.mathPlain rfl (by decide +kernel) | decide +kernel
theorem ef_gr0 (m : MethodId) (aa : Addr) : entryFrame m #[(.ref aa)] 1 = mkF m 0 #[rv aa] [] := by first | (simp [entryFrame, mkF, argsToLocals, Value.category, maxLocals]; done) | rfl
def Q_gr0 (Z : State) (aa : Addr) (da : Addr) (dk : ClassId) (h0 : Heap) (n0 : Nat) (v : Option Value) (h : Heap) (L : List Loc) : Prop := ∃ (tb : Addr) (tk : ClassId), v = some (.ref tb) ∧ Fr n0 L ∧ (Keep h0 h [aa]) ∧ (h0.size ≤ tb) ∧ (Exa Z h aa "java/util/ArrayList") ∧ (Fld Z h aa "java/util/AbstractList" "modCount" "I" (.int (1 : Int32))) ∧ (Fld Z h aa "java/util/ArrayList" "size" "I" (.int (0 : Int32))) ∧ (Fld Z h aa "java/util/ArrayList" "elementData" "[Ljava/lang/Object;" (.ref tb)) ∧ (Arv Z h tb tk (.object "java/lang/Object") (10 : Int32) [.null, .null, .null, .null, .null, .null, .null, .null, .null, .null] .null) ∧ (Ovr Z tk "java/lang/Object")
set_option maxRecDepth 65536 in
set_option maxHeartbeats 40000000 in
theorem rm_gr0 (l : Launch) (Z : State) (a0 : Array Value) (hw : ∀ d ∈ tables_1, d.before a0 Z = true) (ws : List Jvm.Cond) (aa : Addr) (da : Addr) (dk : ClassId) (h0 : Heap) (n0 : Nat) (Z0 : n0 ≤ h0.size) (P0 : Exa Z h0 aa "java/util/ArrayList") (P1 : Fld Z h0 aa "java/util/AbstractList" "modCount" "I" (.int (1 : Int32))) (P2 : Fld Z h0 aa "java/util/ArrayList" "size" "I" (.int (0 : Int32))) (P3 : Fld Z h0 aa "java/util/ArrayList" "elementData" "[Ljava/lang/Object;" (.ref da)) (P4 : n0 ≤ aa) (P5 : aa ≠ da) (P6 : Arv Z h0 da dk (.object "java/lang/Object") (0 : Int32) [] .null) (P7 : Sta Z h0 "java/util/ArrayList" "DEFAULTCAPACITY_EMPTY_ELEMENTDATA" "[Ljava/lang/Object;" (.ref da))  :
    MetFree l (⟨"java/util/ArrayList", "grow", "()[Ljava/lang/Object;"⟩ : MethodName) (head1 (Jvm.Cond.code (⟨"java/util/ArrayList", "grow", "()[Ljava/lang/Object;"⟩ : MethodName) jdk_38_method_7_code 1 (some (.array (.object "java/lang/Object"))) :: ws) ({ frames := 2, cells := 1, slots := 10, locals := 31 } : Room)) (fun a U => a = #[(.ref aa)] ∧ Z.Warmed39 U.vm ∧ U.heap = h0) (fun _ _ _ _ _ => True) (fun _ U o U' => ∃ v L, o = .returned v ∧ Q_gr0 Z aa da dk h0 n0 v U'.heap L ∧ FrameEnd U o U' L ({ frames := 2, cells := 1, slots := 10, locals := 31 } : Room).cells ({ frames := 2, cells := 1, slots := 10, locals := 31 } : Room).slots) := by
  refine MetFree.of_bodySF pf_gr0 hisR ?_
  intro p e s m args below meth c s₁ Bd hml0 hP hK
  obtain ⟨rfl, hZ, hh⟩ := hP
  have hx := Bd.exec
  have hby := Bd.bytes
  have hml : c.maxLocals = 1 := hml0
  have hown : s.vm.findClass "java/util/ArrayList" = some m.cls := findClass_of_methodNamed Bd.named
  have hnm := (name_of_methodNamed Bd.named Bd.method).1
  have X0 : Stand p l e ({ frames := 2, cells := 1, slots := 10, locals := 31 } : Room) s m #[(.ref aa)] below meth c s₁ [] 0 0 := Stand.of_body Bd
  have e0 : s₁.heap = h0 := by rw [← hh, Bd.state]; rfl
  have N0 := Fr.nil n0
  obtain ⟨S0, hS0⟩ : ∃ z, z = s₁.setTop (entryFrame m #[(.ref aa)] 1) := ⟨_, rfl⟩
  rw [← hS0]
  have g0 : Goes p e below S0 (s₁.setTop (mkF m 0 #[rv aa] [])) := fun t k => by rw [hS0]; exact castTop (ef_gr0 m aa) k
  have g51 : Goes p e below S0 (s₁.setTop (mkF m 2 #[rv aa] [(.ref aa), (.ref aa)])) := fun t k => g0 t (by
    refine XS.aloadN X0.here hx rfl (hb hby d10_0) rfl rfl ?_
    show Go p e below t s₁ m 1 #[rv aa] [(.ref aa)]
    refine XS.aloadN X0.here hx rfl (hb hby d10_1) rfl rfl ?_
    show Go p e below t s₁ m 2 #[rv aa] [(.ref aa), (.ref aa)]
    exact k)
  obtain ⟨T52, X52, e52, st52⟩ := getF X0 hx hZ hown (host := "") (Or.inl (hw _ (List.mem_of_getElem? (i := 69) rfl))) Via.refl e0 P2 (g := (mkF m 2 #[rv aa] [(.ref aa), (.ref aa)])) rfl rfl (hb hby d10_2)
  have g53 : Goes p e below S0 (T52.setTop (mkF m 5 #[rv aa] [(.int (0 : Int32)), (.ref aa)])) := fun t k => g51 t (st52 t k)
  have g54 : Goes p e below S0 (T52.setTop (mkF m 7 #[rv aa] [(.int (1 : Int32)), (.ref aa)])) := fun t k => g53 t (by
    refine XT.iconstV X52.here hx rfl (1 : Int32) (hb hby d10_5) (by decide) ?_
    show Go p e below t T52 m 6 #[rv aa] [(.int (1 : Int32)), (.int (0 : Int32)), (.ref aa)]
    refine XS.iadd X52.here hx rfl (hb hby d10_6) rfl ?_
    rw [show ((0 : Int32) + (1 : Int32)) = (1 : Int32) by decide]
    show Go p e below t T52 m 7 #[rv aa] [(.int (1 : Int32)), (.ref aa)]
    exact k)
  obtain ⟨cq55, q55, q55b⟩ := Exa.cell P0
  obtain ⟨_, _, ⟨T55, L55, k55, n55⟩, -, X55, ⟨Lc55, hQ55, l55, y55, z55⟩, st55⟩ := X52.privateBack hx (y := (⟨"java/util/ArrayList", "grow", "(I)[Ljava/lang/Object;"⟩ : MethodName)) hown (mvT hZ (hw _ (List.mem_of_getElem? (i := 81) rfl))) (mvT hZ (hw _ (List.mem_of_getElem? (i := 82) rfl))) (own_selp (mvT hZ (hw _ (List.mem_of_getElem? (i := 74) rfl))) rfl (Cond.privateMethod_at (mvP hZ (hw _ (List.mem_of_getElem? (i := 83) rfl)) (args := #[]))) (mvT hZ (hw _ (List.mem_of_getElem? (i := 82) rfl))) (by decide)) (Cond.privateMethod_at (mvP hZ (hw _ (List.mem_of_getElem? (i := 83) rfl)) (args := #[]))) (mvT hZ (hw _ (List.mem_of_getElem? (i := 85) rfl))) (by decide) (backOf (W := 0) (rm_gr1 l Z a0 hw [] aa (1 : Int32) da dk h0 n0 Z0 P0 P1 P2 P3 P4 P5 P6 P7 rfl) hZ (hw _ (List.mem_of_getElem? (i := 85) rfl)) (hw _ (List.mem_of_getElem? (i := 10) rfl)) (by decide) (by decide)) (g := (mkF m 7 #[rv aa] [(.int (1 : Int32)), (.ref aa)])) rfl (by rw [hml]; rfl) (Steps.refl _) (a := aa) (by rw [e52]; exact q55) q55b (argsL := [(.int (1 : Int32))]) (rest := []) (lenOf pd3 rfl) rfl (by show 2 * 0 + _ ≤ _; exact Nat.le_of_eq rfl) (hb hby d10_7) (fun _ _ => ⟨rfl, e52, (by decide : 0 + 1 ≤ _), (by decide : 0 + 10 ≤ _)⟩)
  dsimp only [Pt.U, Pt.locs, Pt.cells, Pt.slots] at X55 l55 y55 z55 st55 hQ55
  subst l55 y55 z55
  obtain ⟨tb_55, tk_55, rfl, N55, R55_0, R55_1, R55_2, R55_3, R55_4, R55_5, R55_6, R55_7⟩ := hQ55
  have M55 := Fr.app N0 N55
  have sz55_1 : h0.size ≤ tb_55 := Nat.le_trans (Nat.le_refl _) R55_1
  have ng55_1 : n0 ≤ tb_55 := Nat.le_trans Z0 sz55_1
  have ov_55 := R55_7
  have g56 : Goes p e below S0 (T55.setTop (mkF m 10 #[rv aa] [(.ref tb_55)])) := fun t k => g54 t (st55.trans k)
  obtain ⟨fs, hr, hrun, hended, hW, hsame⟩ := X55.leave (v := some (.ref tb_55)) (fun h => by rw [Bd.returns] at h; cases h)
  refine ⟨_, _, g56 _ (retOut X55 hx Bd.returns rfl (Or.inr (Or.inr (Or.inr (Or.inr ⟨rfl, rfl, rfl⟩)))) (hb hby d10_10) hr), hrun, hended, _, _, rfl, ?_, ⟨_, rfl⟩, hW, hsame.mono (by decide) (by decide)⟩
  show Q_gr0 Z aa da dk h0 n0 _ T55.heap _
  exact ⟨tb_55, tk_55, rfl, M55, ((Keep.refl h0 [aa]).trans R55_0 (allS (Or.inl (List.mem_of_getElem? (i := 0) rfl)) all0)), sz55_1, R55_2, R55_3, R55_4, R55_5, R55_6, ov_55⟩
theorem d9_0 : decode jdk_38_method_24_code 0 = .ok (.iload_n 3, 1) := by decide +kernel
theorem d9_1 : decode jdk_38_method_24_code 1 = .ok (.aload_n 2, 1) := by decide +kernel
theorem d9_2 : decode jdk_38_method_24_code 2 = .ok (.arraylength, 1) := by decide +kernel
theorem d9_3 : decode jdk_38_method_24_code 3 = .ok (.if_icmp .ne 8, 3) := by decide +kernel
theorem d9_6 : decode jdk_38_method_24_code 6 = .ok (.aload_n 0, 1) := by decide +kernel
theorem d9_7 : decode jdk_38_method_24_code 7 = .ok (.invokevirtual 129, 3) := by decide +kernel
theorem d9_10 : decode jdk_38_method_24_code 10 = .ok (.astore_n 2, 1) := by decide +kernel
theorem d9_11 : decode jdk_38_method_24_code 11 = .ok (.aload_n 2, 1) := by decide +kernel
theorem d9_12 : decode jdk_38_method_24_code 12 = .ok (.iload_n 3, 1) := by decide +kernel
theorem d9_13 : decode jdk_38_method_24_code 13 = .ok (.aload_n 1, 1) := by decide +kernel
theorem d9_14 : decode jdk_38_method_24_code 14 = .ok (.aastore, 1) := by decide +kernel
theorem d9_15 : decode jdk_38_method_24_code 15 = .ok (.aload_n 0, 1) := by decide +kernel
theorem d9_16 : decode jdk_38_method_24_code 16 = .ok (.iload_n 3, 1) := by decide +kernel
theorem d9_17 : decode jdk_38_method_24_code 17 = .ok (.iconst 1, 1) := by decide +kernel
theorem d9_18 : decode jdk_38_method_24_code 18 = .ok (.iadd, 1) := by decide +kernel
theorem d9_19 : decode jdk_38_method_24_code 19 = .ok (.putfield 48, 3) := by decide +kernel
theorem d9_22 : decode jdk_38_method_24_code 22 = .ok (.return_, 1) := by decide +kernel
theorem pd5 : parseMethodDescriptor "(Ljava/lang/Object;[Ljava/lang/Object;I)V" = some ⟨[(.object "java/lang/Object"), (.array (.object "java/lang/Object")), .int], none⟩ := by decide +kernel
theorem pf_adp0 : plainFor (⟨"java/util/ArrayList", "add", "(Ljava/lang/Object;[Ljava/lang/Object;I)V"⟩ : MethodName) = true := by first | exact plainFor_of_name (by first | (simp [plainName, overriddenIn, x]; done) | decide +kernel) | exact Jvm.Free.JP.mathPlain rfl (by decide +kernel) | decide +kernel
theorem ef_adp0 (m : MethodId) (aa : Addr) (ob : Addr) (ea : Addr) (xs : Int32) : entryFrame m #[(.ref aa), (.ref ob), (.ref ea), (.int xs)] 4 = mkF m 0 #[rv aa, rv ob, rv ea, iv xs] [] := by first | (simp [entryFrame, mkF, argsToLocals, Value.category, maxLocals]; done) | rfl
def Q_adp0 (Z : State) (aa : Addr) (ob : Addr) (ea : Addr) (xs : Int32) (da : Addr) (dk : ClassId) (h0 : Heap) (n0 : Nat) (v : Option Value) (h : Heap) (L : List Loc) : Prop := ∃ (tb : Addr) (tk : ClassId), v = none ∧ Fr n0 L ∧ (Keep h0 h [aa]) ∧ (h0.size ≤ tb) ∧ (Exa Z h aa "java/util/ArrayList") ∧ (Fld Z h aa "java/util/AbstractList" "modCount" "I" (.int (1 : Int32))) ∧ (Fld Z h aa "java/util/ArrayList" "size" "I" (.int (1 : Int32))) ∧ (Fld Z h aa "java/util/ArrayList" "elementData" "[Ljava/lang/Object;" (.ref tb)) ∧ (Arv Z h tb tk (.object "java/lang/Object") (10 : Int32) [(.ref ob), .null, .null, .null, .null, .null, .null, .null, .null, .null] .null) ∧ (Ovr Z tk "java/lang/Object")
set_option maxRecDepth 65536 in
set_option maxHeartbeats 40000000 in
theorem rm_adp0 (l : Launch) (Z : State) (a0 : Array Value) (hw : ∀ d ∈ tables_1, d.before a0 Z = true) (ws : List Jvm.Cond) (aa : Addr) (ob : Addr) (ea : Addr) (xs : Int32) (da : Addr) (dk : ClassId) (h0 : Heap) (n0 : Nat) (Z0 : n0 ≤ h0.size) (P0 : Exa Z h0 aa "java/util/ArrayList") (P1 : Fld Z h0 aa "java/util/AbstractList" "modCount" "I" (.int (1 : Int32))) (P2 : Fld Z h0 aa "java/util/ArrayList" "size" "I" (.int (0 : Int32))) (P3 : Fld Z h0 aa "java/util/ArrayList" "elementData" "[Ljava/lang/Object;" (.ref da)) (P4 : n0 ≤ aa) (P5 : aa ≠ da) (P6 : Arv Z h0 da dk (.object "java/lang/Object") (0 : Int32) [] .null) (P7 : Sta Z h0 "java/util/ArrayList" "DEFAULTCAPACITY_EMPTY_ELEMENTDATA" "[Ljava/lang/Object;" (.ref da)) (P8 : Exa Z h0 ob "com/example/nimble_retrieval/nimbleretrieval/format/Run$Retrieved") (q1 : xs = (0 : Int32)) (q2 : ea = da)  :
    MetFree l (⟨"java/util/ArrayList", "add", "(Ljava/lang/Object;[Ljava/lang/Object;I)V"⟩ : MethodName) (head1 (Jvm.Cond.code (⟨"java/util/ArrayList", "add", "(Ljava/lang/Object;[Ljava/lang/Object;I)V"⟩ : MethodName) jdk_38_method_24_code 4 none :: ws) ({ frames := 3, cells := 1, slots := 10, locals := 44 } : Room)) (fun a U => a = #[(.ref aa), (.ref ob), (.ref ea), (.int xs)] ∧ Z.Warmed39 U.vm ∧ U.heap = h0) (fun _ _ _ _ _ => True) (fun _ U o U' => ∃ v L, o = .returned v ∧ Q_adp0 Z aa ob ea xs da dk h0 n0 v U'.heap L ∧ FrameEnd U o U' L ({ frames := 3, cells := 1, slots := 10, locals := 44 } : Room).cells ({ frames := 3, cells := 1, slots := 10, locals := 44 } : Room).slots) := by
  refine MetFree.of_bodySF pf_adp0 hisR ?_
  intro p e s m args below meth c s₁ Bd hml0 hP hK
  obtain ⟨rfl, hZ, hh⟩ := hP
  have hx := Bd.exec
  have hby := Bd.bytes
  have hml : c.maxLocals = 4 := hml0
  have hown : s.vm.findClass "java/util/ArrayList" = some m.cls := findClass_of_methodNamed Bd.named
  have hnm := (name_of_methodNamed Bd.named Bd.method).1
  have X0 : Stand p l e ({ frames := 3, cells := 1, slots := 10, locals := 44 } : Room) s m #[(.ref aa), (.ref ob), (.ref ea), (.int xs)] below meth c s₁ [] 0 0 := Stand.of_body Bd
  have e0 : s₁.heap = h0 := by rw [← hh, Bd.state]; rfl
  have N0 := Fr.nil n0
  obtain ⟨S0, hS0⟩ : ∃ z, z = s₁.setTop (entryFrame m #[(.ref aa), (.ref ob), (.ref ea), (.int xs)] 4) := ⟨_, rfl⟩
  rw [← hS0]
  have g0 : Goes p e below S0 (s₁.setTop (mkF m 0 #[rv aa, rv ob, rv ea, iv xs] [])) := fun t k => by rw [hS0]; exact castTop (ef_adp0 m aa ob ea xs) k
  obtain rfl : xs = (0 : Int32) := q1
  have q2s := q2.symm
  subst q2s
  have g57 : Goes p e below S0 (s₁.setTop (mkF m 2 #[rv aa, rv ob, rv da, iv (0 : Int32)] [(.ref da), (.int (0 : Int32))])) := fun t k => g0 t (by
    refine XS.iloadN X0.here hx rfl (hb hby d9_0) rfl ?_
    show Go p e below t s₁ m 1 #[rv aa, rv ob, rv da, iv (0 : Int32)] [(.int (0 : Int32))]
    refine XS.aloadN X0.here hx rfl (hb hby d9_1) rfl rfl ?_
    show Go p e below t s₁ m 2 #[rv aa, rv ob, rv da, iv (0 : Int32)] [(.ref da), (.int (0 : Int32))]
    exact k)
  obtain ⟨cl58, Ar58, q58, S58, M58, H58, G58⟩ := id P6
  have g59 : Goes p e below S0 (s₁.setTop (mkF m 7 #[rv aa, rv ob, rv da, iv (0 : Int32)] [(.ref aa)])) := fun t k => g57 t (by
    refine X0.arraylength hx (by rw [e0]; exact Ar58.1) (State.isArrayOf_alike hZ.alike Ar58.2.1) (g := (mkF m 2 #[rv aa, rv ob, rv da, iv (0 : Int32)] [(.ref da), (.int (0 : Int32))])) rfl rfl (hb hby d9_2) _ ?_
    rw [len_of S58 M58]
    show Go p e below t s₁ m 3 #[rv aa, rv ob, rv da, iv (0 : Int32)] [(.int (0 : Int32)), (.int (0 : Int32))]
    refine XS.icmpNo X0.here hx rfl (hb hby d9_3) rfl (XT.ii_ne_f (by decide)) ?_
    show Go p e below t s₁ m 6 #[rv aa, rv ob, rv da, iv (0 : Int32)] []
    refine XS.aloadN X0.here hx rfl (hb hby d9_6) rfl rfl ?_
    show Go p e below t s₁ m 7 #[rv aa, rv ob, rv da, iv (0 : Int32)] [(.ref aa)]
    exact k)
  obtain ⟨cq60, q60, q60b⟩ := Exa.cell P0
  obtain ⟨_, _, ⟨T60, L60, k60, n60⟩, -, X60, ⟨Lc60, hQ60, l60, y60, z60⟩, st60⟩ := X0.privateBack hx (y := (⟨"java/util/ArrayList", "grow", "()[Ljava/lang/Object;"⟩ : MethodName)) hown (mvT hZ (hw _ (List.mem_of_getElem? (i := 76) rfl))) (mvT hZ (hw _ (List.mem_of_getElem? (i := 77) rfl))) (own_selp (mvT hZ (hw _ (List.mem_of_getElem? (i := 74) rfl))) rfl (Cond.privateMethod_at (mvP hZ (hw _ (List.mem_of_getElem? (i := 78) rfl)) (args := #[]))) (mvT hZ (hw _ (List.mem_of_getElem? (i := 77) rfl))) (by decide)) (Cond.privateMethod_at (mvP hZ (hw _ (List.mem_of_getElem? (i := 78) rfl)) (args := #[]))) (mvT hZ (hw _ (List.mem_of_getElem? (i := 80) rfl))) (by decide) (backOf (W := 0) (rm_gr0 l Z a0 hw [] aa da dk h0 n0 Z0 P0 P1 P2 P3 P4 P5 P6 P7) hZ (hw _ (List.mem_of_getElem? (i := 80) rfl)) (hw _ (List.mem_of_getElem? (i := 10) rfl)) (by decide) (by decide)) (g := (mkF m 7 #[rv aa, rv ob, rv da, iv (0 : Int32)] [(.ref aa)])) rfl (by rw [hml]; rfl) (Steps.refl _) (a := aa) (by rw [e0]; exact q60) q60b (argsL := []) (rest := []) (lenOf pd4 rfl) rfl (by show 2 * 0 + _ ≤ _; exact Nat.le_of_eq rfl) (hb hby d9_7) (fun _ _ => ⟨rfl, e0, (by decide : 0 + 1 ≤ _), (by decide : 0 + 10 ≤ _)⟩)
  dsimp only [Pt.U, Pt.locs, Pt.cells, Pt.slots] at X60 l60 y60 z60 st60 hQ60
  subst l60 y60 z60
  obtain ⟨tb_60, tk_60, rfl, N60, R60_0, R60_1, R60_2, R60_3, R60_4, R60_5, R60_6, R60_7⟩ := hQ60
  have M60 := Fr.app N0 N60
  have sz60_1 : h0.size ≤ tb_60 := Nat.le_trans (Nat.le_refl _) R60_1
  have ng60_1 : n0 ≤ tb_60 := Nat.le_trans Z0 sz60_1
  have ov_60 := R60_7
  have g61 : Goes p e below S0 (T60.setTop (mkF m 10 #[rv aa, rv ob, rv da, iv (0 : Int32)] [(.ref tb_60)])) := fun t k => g59 t (st60.trans k)
  have g62 : Goes p e below S0 (T60.setTop (mkF m 14 #[rv aa, rv ob, rv tb_60, iv (0 : Int32)] [(.ref ob), (.int (0 : Int32)), (.ref tb_60)])) := fun t k => g61 t (by
    refine XS.astoreN X60.here hx rfl (hb hby d9_10) rfl rfl (l' := #[rv aa, rv ob, rv tb_60, iv (0 : Int32)]) rfl ?_
    show Go p e below t T60 m 11 #[rv aa, rv ob, rv tb_60, iv (0 : Int32)] []
    refine XS.aloadN X60.here hx rfl (hb hby d9_11) rfl rfl ?_
    show Go p e below t T60 m 12 #[rv aa, rv ob, rv tb_60, iv (0 : Int32)] [(.ref tb_60)]
    refine XS.iloadN X60.here hx rfl (hb hby d9_12) rfl ?_
    show Go p e below t T60 m 13 #[rv aa, rv ob, rv tb_60, iv (0 : Int32)] [(.int (0 : Int32)), (.ref tb_60)]
    refine XS.aloadN X60.here hx rfl (hb hby d9_13) rfl rfl ?_
    show Go p e below t T60 m 14 #[rv aa, rv ob, rv tb_60, iv (0 : Int32)] [(.ref ob), (.int (0 : Int32)), (.ref tb_60)]
    exact k)
  obtain ⟨cl63, Ar63, q63, S63, M63, H63, G63⟩ := id R60_6
  obtain ⟨T64, h64, X64, e64, W64, st64⟩ := stR X60 hx hZ rfl Ar63 (j := (0 : Int32)) (inb_of S63 ⟨by decide, by decide⟩) rfl (Sto.ofV Ar63 q63 ov_60 (Ins.of_exa (P8.keep R60_0) (hw _ (List.mem_of_getElem? (i := 89) rfl)))) (g := (mkF m 14 #[rv aa, rv ob, rv tb_60, iv (0 : Int32)] [(.ref ob), (.int (0 : Int32)), (.ref tb_60)])) rfl rfl (hb hby d9_14)
  have N64 := Fr.snoc X64 M60 ng60_1
  have V64 : Arv Z h64 tb_60 tk_60 (.object "java/lang/Object") (10 : Int32) [(.ref ob), .null, .null, .null, .null, .null, .null, .null, .null, .null] .null := Arv.set Ar63 q63 S63 M63 H63 G63 rfl W64 0 rfl (Nat.le_of_ble_eq_true rfl)
  have g65 : Goes p e below S0 (T64.setTop (mkF m 15 #[rv aa, rv ob, rv tb_60, iv (0 : Int32)] [])) := fun t k => g62 t (st64 t k)
  have g66 : Goes p e below S0 (T64.setTop (mkF m 19 #[rv aa, rv ob, rv tb_60, iv (0 : Int32)] [(.int (1 : Int32)), (.ref aa)])) := fun t k => g65 t (by
    refine XS.aloadN X64.here hx rfl (hb hby d9_15) rfl rfl ?_
    show Go p e below t T64 m 16 #[rv aa, rv ob, rv tb_60, iv (0 : Int32)] [(.ref aa)]
    refine XS.iloadN X64.here hx rfl (hb hby d9_16) rfl ?_
    show Go p e below t T64 m 17 #[rv aa, rv ob, rv tb_60, iv (0 : Int32)] [(.int (0 : Int32)), (.ref aa)]
    refine XT.iconstV X64.here hx rfl (1 : Int32) (hb hby d9_17) (by decide) ?_
    show Go p e below t T64 m 18 #[rv aa, rv ob, rv tb_60, iv (0 : Int32)] [(.int (1 : Int32)), (.int (0 : Int32)), (.ref aa)]
    refine XS.iadd X64.here hx rfl (hb hby d9_18) rfl ?_
    rw [show ((0 : Int32) + (1 : Int32)) = (1 : Int32) by decide]
    show Go p e below t T64 m 19 #[rv aa, rv ob, rv tb_60, iv (0 : Int32)] [(.int (1 : Int32)), (.ref aa)]
    exact k)
  obtain ⟨T67, h67, X67, e67, W67, st67⟩ := putF X64 hx hZ hown (host := "") (Or.inl (hw _ (List.mem_of_getElem? (i := 69) rfl))) Via.refl e64 (R60_4.other W64 (Or.inl (Nat.ne_of_lt (Nat.lt_of_lt_of_le P0.lt R60_1)))) (R60_2.wr W64) (Or.inl (hw _ (List.mem_of_getElem? (i := 70) rfl))) (hw _ (List.mem_of_getElem? (i := 9) rfl)) (ty := .int) (by decide) rfl rfl (g := (mkF m 19 #[rv aa, rv ob, rv tb_60, iv (0 : Int32)] [(.int (1 : Int32)), (.ref aa)])) rfl rfl (hb hby d9_19)
  have N67 := Fr.snoc X67 N64 P4
  have Fw67 := Fld.same W67 (R60_4.other W64 (Or.inl (Nat.ne_of_lt (Nat.lt_of_lt_of_le P0.lt R60_1))))
  have g68 : Goes p e below S0 (T67.setTop (mkF m 22 #[rv aa, rv ob, rv tb_60, iv (0 : Int32)] [])) := fun t k => g66 t (st67 t k)
  obtain ⟨fs, hr, hrun, hended, hW, hsame⟩ := X67.leave (v := none) (fun _ => rfl)
  refine ⟨_, _, g68 _ (X67.returnOut hx Bd.returns (hb hby d9_22) hr), hrun, hended, _, _, rfl, ?_, ⟨_, rfl⟩, hW, hsame.mono (by decide) (by decide)⟩
  show Q_adp0 Z aa ob da (0 : Int32) da dk h0 n0 _ T67.heap _
  rw [e67]
  exact ⟨tb_60, tk_60, rfl, N67, ((((Keep.refl h0 [aa]).trans R60_0 (allS (Or.inl (List.mem_of_getElem? (i := 0) rfl)) all0)).wr W64 (Or.inr sz60_1)).wr W67 (Or.inl (List.mem_of_getElem? (i := 0) rfl))), sz60_1, ((R60_2.wr W64).wr W67), ((R60_3.other W64 (Or.inl (Nat.ne_of_lt (Nat.lt_of_lt_of_le P0.lt R60_1)))).other W67 (Or.inr (slot_ne (Or.inl (hw _ (List.mem_of_getElem? (i := 30) rfl))) (Or.inl (hw _ (List.mem_of_getElem? (i := 70) rfl))) (by decide) (t := .int) (t' := .int) (by decide) (by decide)))), Fw67, ((R60_5.other W64 (Or.inl (Nat.ne_of_lt (Nat.lt_of_lt_of_le P0.lt R60_1)))).other W67 (Or.inr (slot_ne (Or.inl (hw _ (List.mem_of_getElem? (i := 33) rfl))) (Or.inl (hw _ (List.mem_of_getElem? (i := 70) rfl))) (by decide) (t := (.array (.object "java/lang/Object"))) (t' := .int) (by decide) (by decide)))), (V64.other W67 (Ne.symm (Nat.ne_of_lt (Nat.lt_of_lt_of_le P0.lt R60_1)))), ov_60⟩
theorem d8_0 : decode jdk_38_method_25_code 0 = .ok (.aload_n 0, 1) := by decide +kernel
theorem d8_1 : decode jdk_38_method_25_code 1 = .ok (.dup, 1) := by decide +kernel
theorem d8_2 : decode jdk_38_method_25_code 2 = .ok (.getfield 63, 3) := by decide +kernel
theorem d8_5 : decode jdk_38_method_25_code 5 = .ok (.iconst 1, 1) := by decide +kernel
theorem d8_6 : decode jdk_38_method_25_code 6 = .ok (.iadd, 1) := by decide +kernel
theorem d8_7 : decode jdk_38_method_25_code 7 = .ok (.putfield 63, 3) := by decide +kernel
theorem d8_10 : decode jdk_38_method_25_code 10 = .ok (.aload_n 0, 1) := by decide +kernel
theorem d8_11 : decode jdk_38_method_25_code 11 = .ok (.aload_n 1, 1) := by decide +kernel
theorem d8_12 : decode jdk_38_method_25_code 12 = .ok (.aload_n 0, 1) := by decide +kernel
theorem d8_13 : decode jdk_38_method_25_code 13 = .ok (.getfield 9, 3) := by decide +kernel
theorem d8_16 : decode jdk_38_method_25_code 16 = .ok (.aload_n 0, 1) := by decide +kernel
theorem d8_17 : decode jdk_38_method_25_code 17 = .ok (.getfield 48, 3) := by decide +kernel
theorem d8_20 : decode jdk_38_method_25_code 20 = .ok (.invokevirtual 131, 3) := by decide +kernel
theorem d8_23 : decode jdk_38_method_25_code 23 = .ok (.iconst 1, 1) := by decide +kernel
theorem d8_24 : decode jdk_38_method_25_code 24 = .ok (.ireturn, 1) := by decide +kernel
theorem pd6 : parseMethodDescriptor "(Ljava/lang/Object;)Z" = some ⟨[(.object "java/lang/Object")], some .boolean⟩ := by decide +kernel
theorem pf_add0 : plainFor (⟨"java/util/ArrayList", "add", "(Ljava/lang/Object;)Z"⟩ : MethodName) = true := by first | exact plainFor_of_name (by first | (simp [plainName, overriddenIn, x]; done) | decide +kernel) | exact Jvm.Free.JP.mathPlain rfl (by decide +kernel) | decide +kernel
theorem ef_add0 (m : MethodId) (aa : Addr) (ob : Addr) : entryFrame m #[(.ref aa), (.ref ob)] 2 = mkF m 0 #[rv aa, rv ob] [] := by first | (simp [entryFrame, mkF, argsToLocals, Value.category, maxLocals]; done) | rfl
def Q_add0 (Z : State) (aa : Addr) (ob : Addr) (da : Addr) (dk : ClassId) (h0 : Heap) (n0 : Nat) (v : Option Value) (h : Heap) (L : List Loc) : Prop := ∃ (tb : Addr) (tk : ClassId), v = some (.int (1 : Int32)) ∧ Fr n0 L ∧ (Keep h0 h [aa]) ∧ (h0.size ≤ tb) ∧ (Exa Z h aa "java/util/ArrayList") ∧ (Fld Z h aa "java/util/AbstractList" "modCount" "I" (.int (1 : Int32))) ∧ (Fld Z h aa "java/util/ArrayList" "size" "I" (.int (1 : Int32))) ∧ (Fld Z h aa "java/util/ArrayList" "elementData" "[Ljava/lang/Object;" (.ref tb)) ∧ (Arv Z h tb tk (.object "java/lang/Object") (10 : Int32) [(.ref ob), .null, .null, .null, .null, .null, .null, .null, .null, .null] .null) ∧ (Ovr Z tk "java/lang/Object")
set_option maxRecDepth 65536 in
set_option maxHeartbeats 40000000 in
theorem rm_add0 (l : Launch) (Z : State) (a0 : Array Value) (hw : ∀ d ∈ tables_1, d.before a0 Z = true) (ws : List Jvm.Cond) (aa : Addr) (ob : Addr) (da : Addr) (dk : ClassId) (h0 : Heap) (n0 : Nat) (Z0 : n0 ≤ h0.size) (P0 : Exa Z h0 aa "java/util/ArrayList") (P1 : Fld Z h0 aa "java/util/AbstractList" "modCount" "I" (.int (0 : Int32))) (P2 : Fld Z h0 aa "java/util/ArrayList" "size" "I" (.int (0 : Int32))) (P3 : Fld Z h0 aa "java/util/ArrayList" "elementData" "[Ljava/lang/Object;" (.ref da)) (P4 : n0 ≤ aa) (P5 : aa ≠ da) (P6 : Arv Z h0 da dk (.object "java/lang/Object") (0 : Int32) [] .null) (P7 : Sta Z h0 "java/util/ArrayList" "DEFAULTCAPACITY_EMPTY_ELEMENTDATA" "[Ljava/lang/Object;" (.ref da)) (P8 : Exa Z h0 ob "com/example/nimble_retrieval/nimbleretrieval/format/Run$Retrieved")  :
    MetFree l (⟨"java/util/ArrayList", "add", "(Ljava/lang/Object;)Z"⟩ : MethodName) (head1 (Jvm.Cond.code (⟨"java/util/ArrayList", "add", "(Ljava/lang/Object;)Z"⟩ : MethodName) jdk_38_method_25_code 2 (some .boolean) :: ws) ({ frames := 4, cells := 1, slots := 10, locals := 62 } : Room)) (fun a U => a = #[(.ref aa), (.ref ob)] ∧ Z.Warmed39 U.vm ∧ U.heap = h0) (fun _ _ _ _ _ => True) (fun _ U o U' => ∃ v L, o = .returned v ∧ Q_add0 Z aa ob da dk h0 n0 v U'.heap L ∧ FrameEnd U o U' L ({ frames := 4, cells := 1, slots := 10, locals := 62 } : Room).cells ({ frames := 4, cells := 1, slots := 10, locals := 62 } : Room).slots) := by
  refine MetFree.of_bodySF pf_add0 hisR ?_
  intro p e s m args below meth c s₁ Bd hml0 hP hK
  obtain ⟨rfl, hZ, hh⟩ := hP
  have hx := Bd.exec
  have hby := Bd.bytes
  have hml : c.maxLocals = 2 := hml0
  have hown : s.vm.findClass "java/util/ArrayList" = some m.cls := findClass_of_methodNamed Bd.named
  have hnm := (name_of_methodNamed Bd.named Bd.method).1
  have X0 : Stand p l e ({ frames := 4, cells := 1, slots := 10, locals := 62 } : Room) s m #[(.ref aa), (.ref ob)] below meth c s₁ [] 0 0 := Stand.of_body Bd
  have e0 : s₁.heap = h0 := by rw [← hh, Bd.state]; rfl
  have N0 := Fr.nil n0
  obtain ⟨S0, hS0⟩ : ∃ z, z = s₁.setTop (entryFrame m #[(.ref aa), (.ref ob)] 2) := ⟨_, rfl⟩
  rw [← hS0]
  have g0 : Goes p e below S0 (s₁.setTop (mkF m 0 #[rv aa, rv ob] [])) := fun t k => by rw [hS0]; exact castTop (ef_add0 m aa ob) k
  have g69 : Goes p e below S0 (s₁.setTop (mkF m 2 #[rv aa, rv ob] [(.ref aa), (.ref aa)])) := fun t k => g0 t (by
    refine XS.aloadN X0.here hx rfl (hb hby d8_0) rfl rfl ?_
    show Go p e below t s₁ m 1 #[rv aa, rv ob] [(.ref aa)]
    refine XS.dup X0.here hx rfl (hb hby d8_1) rfl rfl ?_
    show Go p e below t s₁ m 2 #[rv aa, rv ob] [(.ref aa), (.ref aa)]
    exact k)
  obtain ⟨T70, X70, e70, st70⟩ := getF X0 hx hZ hown (host := "") (Or.inl (hw _ (List.mem_of_getElem? (i := 67) rfl))) (Via.of (hw _ (List.mem_of_getElem? (i := 68) rfl))) e0 P1 (g := (mkF m 2 #[rv aa, rv ob] [(.ref aa), (.ref aa)])) rfl rfl (hb hby d8_2)
  have g71 : Goes p e below S0 (T70.setTop (mkF m 5 #[rv aa, rv ob] [(.int (0 : Int32)), (.ref aa)])) := fun t k => g69 t (st70 t k)
  have g72 : Goes p e below S0 (T70.setTop (mkF m 7 #[rv aa, rv ob] [(.int (1 : Int32)), (.ref aa)])) := fun t k => g71 t (by
    refine XT.iconstV X70.here hx rfl (1 : Int32) (hb hby d8_5) (by decide) ?_
    show Go p e below t T70 m 6 #[rv aa, rv ob] [(.int (1 : Int32)), (.int (0 : Int32)), (.ref aa)]
    refine XS.iadd X70.here hx rfl (hb hby d8_6) rfl ?_
    rw [show ((0 : Int32) + (1 : Int32)) = (1 : Int32) by decide]
    show Go p e below t T70 m 7 #[rv aa, rv ob] [(.int (1 : Int32)), (.ref aa)]
    exact k)
  obtain ⟨T73, h73, X73, e73, W73, st73⟩ := putF X70 hx hZ hown (host := "") (Or.inl (hw _ (List.mem_of_getElem? (i := 67) rfl))) (Via.of (hw _ (List.mem_of_getElem? (i := 68) rfl))) e70 P1 P0 (Or.inl (hw _ (List.mem_of_getElem? (i := 30) rfl))) (hw _ (List.mem_of_getElem? (i := 9) rfl)) (ty := .int) (by decide) rfl rfl (g := (mkF m 7 #[rv aa, rv ob] [(.int (1 : Int32)), (.ref aa)])) rfl rfl (hb hby d8_7)
  have N73 := Fr.snoc X73 N0 P4
  have Fw73 := Fld.same W73 P1
  have g74 : Goes p e below S0 (T73.setTop (mkF m 10 #[rv aa, rv ob] [])) := fun t k => g72 t (st73 t k)
  have g75 : Goes p e below S0 (T73.setTop (mkF m 13 #[rv aa, rv ob] [(.ref aa), (.ref ob), (.ref aa)])) := fun t k => g74 t (by
    refine XS.aloadN X73.here hx rfl (hb hby d8_10) rfl rfl ?_
    show Go p e below t T73 m 11 #[rv aa, rv ob] [(.ref aa)]
    refine XS.aloadN X73.here hx rfl (hb hby d8_11) rfl rfl ?_
    show Go p e below t T73 m 12 #[rv aa, rv ob] [(.ref ob), (.ref aa)]
    refine XS.aloadN X73.here hx rfl (hb hby d8_12) rfl rfl ?_
    show Go p e below t T73 m 13 #[rv aa, rv ob] [(.ref aa), (.ref ob), (.ref aa)]
    exact k)
  obtain ⟨T76, X76, e76, st76⟩ := getF X73 hx hZ hown (host := "") (Or.inl (hw _ (List.mem_of_getElem? (i := 32) rfl))) Via.refl e73 (P3.other W73 (Or.inr (slot_ne (Or.inl (hw _ (List.mem_of_getElem? (i := 33) rfl))) (Or.inl (hw _ (List.mem_of_getElem? (i := 30) rfl))) (by decide) (t := (.array (.object "java/lang/Object"))) (t' := .int) (by decide) (by decide)))) (g := (mkF m 13 #[rv aa, rv ob] [(.ref aa), (.ref ob), (.ref aa)])) rfl rfl (hb hby d8_13)
  have g77 : Goes p e below S0 (T76.setTop (mkF m 16 #[rv aa, rv ob] [(.ref da), (.ref ob), (.ref aa)])) := fun t k => g75 t (st76 t k)
  have g78 : Goes p e below S0 (T76.setTop (mkF m 17 #[rv aa, rv ob] [(.ref aa), (.ref da), (.ref ob), (.ref aa)])) := fun t k => g77 t (by
    refine XS.aloadN X76.here hx rfl (hb hby d8_16) rfl rfl ?_
    show Go p e below t T76 m 17 #[rv aa, rv ob] [(.ref aa), (.ref da), (.ref ob), (.ref aa)]
    exact k)
  obtain ⟨T79, X79, e79, st79⟩ := getF X76 hx hZ hown (host := "") (Or.inl (hw _ (List.mem_of_getElem? (i := 69) rfl))) Via.refl e76 (P2.other W73 (Or.inr (slot_ne (Or.inl (hw _ (List.mem_of_getElem? (i := 70) rfl))) (Or.inl (hw _ (List.mem_of_getElem? (i := 30) rfl))) (by decide) (t := .int) (t' := .int) (by decide) (by decide)))) (g := (mkF m 17 #[rv aa, rv ob] [(.ref aa), (.ref da), (.ref ob), (.ref aa)])) rfl rfl (hb hby d8_17)
  have g80 : Goes p e below S0 (T79.setTop (mkF m 20 #[rv aa, rv ob] [(.int (0 : Int32)), (.ref da), (.ref ob), (.ref aa)])) := fun t k => g78 t (st79 t k)
  obtain ⟨cq81, q81, q81b⟩ := Exa.cell (P0.wr W73)
  obtain ⟨_, _, ⟨T81, L81, k81, n81⟩, -, X81, ⟨Lc81, hQ81, l81, y81, z81⟩, st81⟩ := X79.privateBack hx (y := (⟨"java/util/ArrayList", "add", "(Ljava/lang/Object;[Ljava/lang/Object;I)V"⟩ : MethodName)) hown (mvT hZ (hw _ (List.mem_of_getElem? (i := 71) rfl))) (mvT hZ (hw _ (List.mem_of_getElem? (i := 72) rfl))) (own_selp (mvT hZ (hw _ (List.mem_of_getElem? (i := 74) rfl))) rfl (Cond.privateMethod_at (mvP hZ (hw _ (List.mem_of_getElem? (i := 73) rfl)) (args := #[]))) (mvT hZ (hw _ (List.mem_of_getElem? (i := 72) rfl))) (by decide)) (Cond.privateMethod_at (mvP hZ (hw _ (List.mem_of_getElem? (i := 73) rfl)) (args := #[]))) (mvT hZ (hw _ (List.mem_of_getElem? (i := 75) rfl))) (by decide) (backOf (W := 0) (rm_adp0 l Z a0 hw [] aa ob da (0 : Int32) da dk h73 n0 (Nat.le_trans Z0 (Nat.le_trans (Nat.le_refl _) (Nat.le_of_eq W73.size.symm))) (P0.wr W73) Fw73 (P2.other W73 (Or.inr (slot_ne (Or.inl (hw _ (List.mem_of_getElem? (i := 70) rfl))) (Or.inl (hw _ (List.mem_of_getElem? (i := 30) rfl))) (by decide) (t := .int) (t' := .int) (by decide) (by decide)))) (P3.other W73 (Or.inr (slot_ne (Or.inl (hw _ (List.mem_of_getElem? (i := 33) rfl))) (Or.inl (hw _ (List.mem_of_getElem? (i := 30) rfl))) (by decide) (t := (.array (.object "java/lang/Object"))) (t' := .int) (by decide) (by decide)))) P4 P5 (P6.other W73 (Ne.symm P5)) (P7.wr W73) (P8.wr W73) rfl rfl) hZ (hw _ (List.mem_of_getElem? (i := 75) rfl)) (hw _ (List.mem_of_getElem? (i := 10) rfl)) (by decide) (by decide)) (g := (mkF m 20 #[rv aa, rv ob] [(.int (0 : Int32)), (.ref da), (.ref ob), (.ref aa)])) rfl (by rw [hml]; rfl) (Steps.refl _) (a := aa) (by rw [e79]; exact q81) q81b (argsL := [(.ref ob), (.ref da), (.int (0 : Int32))]) (rest := []) (lenOf pd5 rfl) rfl (by show 2 * 0 + _ ≤ _; exact Nat.le_of_eq rfl) (hb hby d8_20) (fun _ _ => ⟨rfl, e79, (by decide : 0 + 1 ≤ _), (by decide : 0 + 10 ≤ _)⟩)
  dsimp only [Pt.U, Pt.locs, Pt.cells, Pt.slots] at X81 l81 y81 z81 st81 hQ81
  subst l81 y81 z81
  obtain ⟨tb_81, tk_81, rfl, N81, R81_0, R81_1, R81_2, R81_3, R81_4, R81_5, R81_6, R81_7⟩ := hQ81
  have M81 := Fr.app N73 N81
  have sz81_1 : h0.size ≤ tb_81 := Nat.le_trans (Nat.le_trans (Nat.le_refl _) (Nat.le_of_eq W73.size.symm)) R81_1
  have ng81_1 : n0 ≤ tb_81 := Nat.le_trans Z0 sz81_1
  have ov_81 := R81_7
  have g82 : Goes p e below S0 (T81.setTop (mkF m 23 #[rv aa, rv ob] [])) := fun t k => g80 t (st81.trans k)
  have g83 : Goes p e below S0 (T81.setTop (mkF m 24 #[rv aa, rv ob] [(.int (1 : Int32))])) := fun t k => g82 t (by
    refine XT.iconstV X81.here hx rfl (1 : Int32) (hb hby d8_23) (by decide) ?_
    show Go p e below t T81 m 24 #[rv aa, rv ob] [(.int (1 : Int32))]
    exact k)
  obtain ⟨fs, hr, hrun, hended, hW, hsame⟩ := X81.leave (v := some (.int (1 : Int32))) (fun h => by rw [Bd.returns] at h; cases h)
  refine ⟨_, _, g83 _ (retN X81 hx (t := .boolean) Bd.returns (by simp) (hb hby d8_24) hr), hrun, hended, _, _, rfl, ?_, ⟨_, rfl⟩, hW, hsame.mono (by decide) (by decide)⟩
  show Q_add0 Z aa ob da dk h0 n0 _ T81.heap _
  exact ⟨tb_81, tk_81, rfl, M81, (((Keep.refl h0 [aa]).wr W73 (Or.inl (List.mem_of_getElem? (i := 0) rfl))).trans R81_0 (allS (Or.inl (List.mem_of_getElem? (i := 0) rfl)) all0)), sz81_1, R81_2, R81_3, R81_4, R81_5, R81_6, ov_81⟩
theorem pf_adp1 : plainFor (⟨"java/util/ArrayList", "add", "(Ljava/lang/Object;[Ljava/lang/Object;I)V"⟩ : MethodName) = true := by first | exact plainFor_of_name (by first | (simp [plainName, overriddenIn, x]; done) | decide +kernel) | exact Jvm.Free.JP.mathPlain rfl (by decide +kernel) | decide +kernel
theorem ef_adp1 (m : MethodId) (aa : Addr) (ob : Addr) (eb : Addr) (xs : Int32) : entryFrame m #[(.ref aa), (.ref ob), (.ref eb), (.int xs)] 4 = mkF m 0 #[rv aa, rv ob, rv eb, iv xs] [] := by first | (simp [entryFrame, mkF, argsToLocals, Value.category, maxLocals]; done) | rfl
def Q_adp1 (Z : State) (aa : Addr) (ob : Addr) (eb : Addr) (xs : Int32) (ea : Addr) (ek : ClassId) (x0 : Addr) (h0 : Heap) (n0 : Nat) (v : Option Value) (h : Heap) (L : List Loc) : Prop := v = none ∧ Fr n0 L ∧ (Keep h0 h [aa, ea]) ∧ (Exa Z h aa "java/util/ArrayList") ∧ (Fld Z h aa "java/util/AbstractList" "modCount" "I" (.int (2 : Int32))) ∧ (Fld Z h aa "java/util/ArrayList" "size" "I" (.int (2 : Int32))) ∧ (Fld Z h aa "java/util/ArrayList" "elementData" "[Ljava/lang/Object;" (.ref ea)) ∧ (Arv Z h ea ek (.object "java/lang/Object") (10 : Int32) [(.ref x0), (.ref ob), .null, .null, .null, .null, .null, .null, .null, .null] .null)
set_option maxRecDepth 65536 in
set_option maxHeartbeats 40000000 in
theorem rm_adp1 (l : Launch) (Z : State) (a0 : Array Value) (hw : ∀ d ∈ tables_1, d.before a0 Z = true) (ws : List Jvm.Cond) (aa : Addr) (ob : Addr) (eb : Addr) (xs : Int32) (ea : Addr) (ek : ClassId) (x0 : Addr) (h0 : Heap) (n0 : Nat) (Z0 : n0 ≤ h0.size) (P0 : Exa Z h0 aa "java/util/ArrayList") (P1 : Fld Z h0 aa "java/util/AbstractList" "modCount" "I" (.int (2 : Int32))) (P2 : Fld Z h0 aa "java/util/ArrayList" "size" "I" (.int (1 : Int32))) (P3 : Fld Z h0 aa "java/util/ArrayList" "elementData" "[Ljava/lang/Object;" (.ref ea)) (P4 : n0 ≤ aa) (P5 : n0 ≤ ea) (P6 : aa ≠ ea) (P7 : Arv Z h0 ea ek (.object "java/lang/Object") (10 : Int32) [(.ref x0), .null, .null, .null, .null, .null, .null, .null, .null, .null] .null) (ove : Ovr Z ek "java/lang/Object") (P9 : Exa Z h0 ob "com/example/nimble_retrieval/nimbleretrieval/format/Run$Retrieved") (q1 : xs = (1 : Int32)) (q2 : eb = ea)  :
    MetFree l (⟨"java/util/ArrayList", "add", "(Ljava/lang/Object;[Ljava/lang/Object;I)V"⟩ : MethodName) (head1 (Jvm.Cond.code (⟨"java/util/ArrayList", "add", "(Ljava/lang/Object;[Ljava/lang/Object;I)V"⟩ : MethodName) jdk_38_method_24_code 4 none :: ws) ({ frames := 0, cells := 0, slots := 0, locals := 0 } : Room)) (fun a U => a = #[(.ref aa), (.ref ob), (.ref eb), (.int xs)] ∧ Z.Warmed39 U.vm ∧ U.heap = h0) (fun _ _ _ _ _ => True) (fun _ U o U' => ∃ v L, o = .returned v ∧ Q_adp1 Z aa ob eb xs ea ek x0 h0 n0 v U'.heap L ∧ FrameEnd U o U' L ({ frames := 0, cells := 0, slots := 0, locals := 0 } : Room).cells ({ frames := 0, cells := 0, slots := 0, locals := 0 } : Room).slots) := by
  refine MetFree.of_bodySF pf_adp1 hisR ?_
  intro p e s m args below meth c s₁ Bd hml0 hP hK
  obtain ⟨rfl, hZ, hh⟩ := hP
  have hx := Bd.exec
  have hby := Bd.bytes
  have hml : c.maxLocals = 4 := hml0
  have hown : s.vm.findClass "java/util/ArrayList" = some m.cls := findClass_of_methodNamed Bd.named
  have hnm := (name_of_methodNamed Bd.named Bd.method).1
  have X0 : Stand p l e ({ frames := 0, cells := 0, slots := 0, locals := 0 } : Room) s m #[(.ref aa), (.ref ob), (.ref eb), (.int xs)] below meth c s₁ [] 0 0 := Stand.of_body Bd
  have e0 : s₁.heap = h0 := by rw [← hh, Bd.state]; rfl
  have N0 := Fr.nil n0
  obtain ⟨S0, hS0⟩ : ∃ z, z = s₁.setTop (entryFrame m #[(.ref aa), (.ref ob), (.ref eb), (.int xs)] 4) := ⟨_, rfl⟩
  rw [← hS0]
  have g0 : Goes p e below S0 (s₁.setTop (mkF m 0 #[rv aa, rv ob, rv eb, iv xs] [])) := fun t k => by rw [hS0]; exact castTop (ef_adp1 m aa ob eb xs) k
  obtain rfl : xs = (1 : Int32) := q1
  have q2s := q2.symm
  subst q2s
  have g84 : Goes p e below S0 (s₁.setTop (mkF m 2 #[rv aa, rv ob, rv ea, iv (1 : Int32)] [(.ref ea), (.int (1 : Int32))])) := fun t k => g0 t (by
    refine XS.iloadN X0.here hx rfl (hb hby d9_0) rfl ?_
    show Go p e below t s₁ m 1 #[rv aa, rv ob, rv ea, iv (1 : Int32)] [(.int (1 : Int32))]
    refine XS.aloadN X0.here hx rfl (hb hby d9_1) rfl rfl ?_
    show Go p e below t s₁ m 2 #[rv aa, rv ob, rv ea, iv (1 : Int32)] [(.ref ea), (.int (1 : Int32))]
    exact k)
  obtain ⟨cl85, Ar85, q85, S85, M85, H85, G85⟩ := id P7
  have g86 : Goes p e below S0 (s₁.setTop (mkF m 14 #[rv aa, rv ob, rv ea, iv (1 : Int32)] [(.ref ob), (.int (1 : Int32)), (.ref ea)])) := fun t k => g84 t (by
    refine X0.arraylength hx (by rw [e0]; exact Ar85.1) (State.isArrayOf_alike hZ.alike Ar85.2.1) (g := (mkF m 2 #[rv aa, rv ob, rv ea, iv (1 : Int32)] [(.ref ea), (.int (1 : Int32))])) rfl rfl (hb hby d9_2) _ ?_
    rw [len_of S85 M85]
    show Go p e below t s₁ m 3 #[rv aa, rv ob, rv ea, iv (1 : Int32)] [(.int (10 : Int32)), (.int (1 : Int32))]
    refine XS.icmpYes X0.here hx rfl (pc0 := 3) (pc' := 11) rfl (hb hby d9_3) rfl (XT.ii_ne_t (by decide)) (by decide) (by decide) ?_
    show Go p e below t s₁ m 11 #[rv aa, rv ob, rv ea, iv (1 : Int32)] []
    refine XS.aloadN X0.here hx rfl (hb hby d9_11) rfl rfl ?_
    show Go p e below t s₁ m 12 #[rv aa, rv ob, rv ea, iv (1 : Int32)] [(.ref ea)]
    refine XS.iloadN X0.here hx rfl (hb hby d9_12) rfl ?_
    show Go p e below t s₁ m 13 #[rv aa, rv ob, rv ea, iv (1 : Int32)] [(.int (1 : Int32)), (.ref ea)]
    refine XS.aloadN X0.here hx rfl (hb hby d9_13) rfl rfl ?_
    show Go p e below t s₁ m 14 #[rv aa, rv ob, rv ea, iv (1 : Int32)] [(.ref ob), (.int (1 : Int32)), (.ref ea)]
    exact k)
  obtain ⟨cl87, Ar87, q87, S87, M87, H87, G87⟩ := id P7
  obtain ⟨T88, h88, X88, e88, W88, st88⟩ := stR X0 hx hZ e0 Ar87 (j := (1 : Int32)) (inb_of S87 ⟨by decide, by decide⟩) rfl (Sto.ofV Ar87 q87 ove (Ins.of_exa P9 (hw _ (List.mem_of_getElem? (i := 89) rfl)))) (g := (mkF m 14 #[rv aa, rv ob, rv ea, iv (1 : Int32)] [(.ref ob), (.int (1 : Int32)), (.ref ea)])) rfl rfl (hb hby d9_14)
  have N88 := Fr.snoc X88 N0 P5
  have V88 : Arv Z h88 ea ek (.object "java/lang/Object") (10 : Int32) [(.ref x0), (.ref ob), .null, .null, .null, .null, .null, .null, .null, .null] .null := Arv.set Ar87 q87 S87 M87 H87 G87 rfl W88 1 rfl (Nat.le_of_ble_eq_true rfl)
  have g89 : Goes p e below S0 (T88.setTop (mkF m 15 #[rv aa, rv ob, rv ea, iv (1 : Int32)] [])) := fun t k => g86 t (st88 t k)
  have g90 : Goes p e below S0 (T88.setTop (mkF m 19 #[rv aa, rv ob, rv ea, iv (1 : Int32)] [(.int (2 : Int32)), (.ref aa)])) := fun t k => g89 t (by
    refine XS.aloadN X88.here hx rfl (hb hby d9_15) rfl rfl ?_
    show Go p e below t T88 m 16 #[rv aa, rv ob, rv ea, iv (1 : Int32)] [(.ref aa)]
    refine XS.iloadN X88.here hx rfl (hb hby d9_16) rfl ?_
    show Go p e below t T88 m 17 #[rv aa, rv ob, rv ea, iv (1 : Int32)] [(.int (1 : Int32)), (.ref aa)]
    refine XT.iconstV X88.here hx rfl (1 : Int32) (hb hby d9_17) (by decide) ?_
    show Go p e below t T88 m 18 #[rv aa, rv ob, rv ea, iv (1 : Int32)] [(.int (1 : Int32)), (.int (1 : Int32)), (.ref aa)]
    refine XS.iadd X88.here hx rfl (hb hby d9_18) rfl ?_
    rw [show ((1 : Int32) + (1 : Int32)) = (2 : Int32) by decide]
    show Go p e below t T88 m 19 #[rv aa, rv ob, rv ea, iv (1 : Int32)] [(.int (2 : Int32)), (.ref aa)]
    exact k)
  obtain ⟨T91, h91, X91, e91, W91, st91⟩ := putF X88 hx hZ hown (host := "") (Or.inl (hw _ (List.mem_of_getElem? (i := 69) rfl))) Via.refl e88 (P2.other W88 (Or.inl P6)) (P0.wr W88) (Or.inl (hw _ (List.mem_of_getElem? (i := 70) rfl))) (hw _ (List.mem_of_getElem? (i := 9) rfl)) (ty := .int) (by decide) rfl rfl (g := (mkF m 19 #[rv aa, rv ob, rv ea, iv (1 : Int32)] [(.int (2 : Int32)), (.ref aa)])) rfl rfl (hb hby d9_19)
  have N91 := Fr.snoc X91 N88 P4
  have Fw91 := Fld.same W91 (P2.other W88 (Or.inl P6))
  have g92 : Goes p e below S0 (T91.setTop (mkF m 22 #[rv aa, rv ob, rv ea, iv (1 : Int32)] [])) := fun t k => g90 t (st91 t k)
  obtain ⟨fs, hr, hrun, hended, hW, hsame⟩ := X91.leave (v := none) (fun _ => rfl)
  refine ⟨_, _, g92 _ (X91.returnOut hx Bd.returns (hb hby d9_22) hr), hrun, hended, _, _, rfl, ?_, ⟨_, rfl⟩, hW, hsame.mono (by decide) (by decide)⟩
  show Q_adp1 Z aa ob ea (1 : Int32) ea ek x0 h0 n0 _ T91.heap _
  rw [e91]
  exact ⟨rfl, N91, (((Keep.refl h0 [aa, ea]).wr W88 (Or.inl (List.mem_of_getElem? (i := 1) rfl))).wr W91 (Or.inl (List.mem_of_getElem? (i := 0) rfl))), ((P0.wr W88).wr W91), ((P1.other W88 (Or.inl P6)).other W91 (Or.inr (slot_ne (Or.inl (hw _ (List.mem_of_getElem? (i := 30) rfl))) (Or.inl (hw _ (List.mem_of_getElem? (i := 70) rfl))) (by decide) (t := .int) (t' := .int) (by decide) (by decide)))), Fw91, ((P3.other W88 (Or.inl P6)).other W91 (Or.inr (slot_ne (Or.inl (hw _ (List.mem_of_getElem? (i := 33) rfl))) (Or.inl (hw _ (List.mem_of_getElem? (i := 70) rfl))) (by decide) (t := (.array (.object "java/lang/Object"))) (t' := .int) (by decide) (by decide)))), (V88.other W91 (Ne.symm P6))⟩
theorem pf_add1 : plainFor (⟨"java/util/ArrayList", "add", "(Ljava/lang/Object;)Z"⟩ : MethodName) = true := by first | exact plainFor_of_name (by first | (simp [plainName, overriddenIn, x]; done) | decide +kernel) | exact Jvm.Free.JP.mathPlain rfl (by decide +kernel) | decide +kernel
theorem ef_add1 (m : MethodId) (aa : Addr) (ob : Addr) : entryFrame m #[(.ref aa), (.ref ob)] 2 = mkF m 0 #[rv aa, rv ob] [] := by first | (simp [entryFrame, mkF, argsToLocals, Value.category, maxLocals]; done) | rfl
def Q_add1 (Z : State) (aa : Addr) (ob : Addr) (ea : Addr) (ek : ClassId) (x0 : Addr) (h0 : Heap) (n0 : Nat) (v : Option Value) (h : Heap) (L : List Loc) : Prop := v = some (.int (1 : Int32)) ∧ Fr n0 L ∧ (Keep h0 h [aa, ea]) ∧ (Exa Z h aa "java/util/ArrayList") ∧ (Fld Z h aa "java/util/AbstractList" "modCount" "I" (.int (2 : Int32))) ∧ (Fld Z h aa "java/util/ArrayList" "size" "I" (.int (2 : Int32))) ∧ (Fld Z h aa "java/util/ArrayList" "elementData" "[Ljava/lang/Object;" (.ref ea)) ∧ (Arv Z h ea ek (.object "java/lang/Object") (10 : Int32) [(.ref x0), (.ref ob), .null, .null, .null, .null, .null, .null, .null, .null] .null)
set_option maxRecDepth 65536 in
set_option maxHeartbeats 40000000 in
theorem rm_add1 (l : Launch) (Z : State) (a0 : Array Value) (hw : ∀ d ∈ tables_1, d.before a0 Z = true) (ws : List Jvm.Cond) (aa : Addr) (ob : Addr) (ea : Addr) (ek : ClassId) (x0 : Addr) (h0 : Heap) (n0 : Nat) (Z0 : n0 ≤ h0.size) (P0 : Exa Z h0 aa "java/util/ArrayList") (P1 : Fld Z h0 aa "java/util/AbstractList" "modCount" "I" (.int (1 : Int32))) (P2 : Fld Z h0 aa "java/util/ArrayList" "size" "I" (.int (1 : Int32))) (P3 : Fld Z h0 aa "java/util/ArrayList" "elementData" "[Ljava/lang/Object;" (.ref ea)) (P4 : n0 ≤ aa) (P5 : n0 ≤ ea) (P6 : aa ≠ ea) (P7 : Arv Z h0 ea ek (.object "java/lang/Object") (10 : Int32) [(.ref x0), .null, .null, .null, .null, .null, .null, .null, .null, .null] .null) (ove : Ovr Z ek "java/lang/Object") (P9 : Exa Z h0 ob "com/example/nimble_retrieval/nimbleretrieval/format/Run$Retrieved")  :
    MetFree l (⟨"java/util/ArrayList", "add", "(Ljava/lang/Object;)Z"⟩ : MethodName) (head1 (Jvm.Cond.code (⟨"java/util/ArrayList", "add", "(Ljava/lang/Object;)Z"⟩ : MethodName) jdk_38_method_25_code 2 (some .boolean) :: ws) ({ frames := 1, cells := 0, slots := 0, locals := 20 } : Room)) (fun a U => a = #[(.ref aa), (.ref ob)] ∧ Z.Warmed39 U.vm ∧ U.heap = h0) (fun _ _ _ _ _ => True) (fun _ U o U' => ∃ v L, o = .returned v ∧ Q_add1 Z aa ob ea ek x0 h0 n0 v U'.heap L ∧ FrameEnd U o U' L ({ frames := 1, cells := 0, slots := 0, locals := 20 } : Room).cells ({ frames := 1, cells := 0, slots := 0, locals := 20 } : Room).slots) := by
  refine MetFree.of_bodySF pf_add1 hisR ?_
  intro p e s m args below meth c s₁ Bd hml0 hP hK
  obtain ⟨rfl, hZ, hh⟩ := hP
  have hx := Bd.exec
  have hby := Bd.bytes
  have hml : c.maxLocals = 2 := hml0
  have hown : s.vm.findClass "java/util/ArrayList" = some m.cls := findClass_of_methodNamed Bd.named
  have hnm := (name_of_methodNamed Bd.named Bd.method).1
  have X0 : Stand p l e ({ frames := 1, cells := 0, slots := 0, locals := 20 } : Room) s m #[(.ref aa), (.ref ob)] below meth c s₁ [] 0 0 := Stand.of_body Bd
  have e0 : s₁.heap = h0 := by rw [← hh, Bd.state]; rfl
  have N0 := Fr.nil n0
  obtain ⟨S0, hS0⟩ : ∃ z, z = s₁.setTop (entryFrame m #[(.ref aa), (.ref ob)] 2) := ⟨_, rfl⟩
  rw [← hS0]
  have g0 : Goes p e below S0 (s₁.setTop (mkF m 0 #[rv aa, rv ob] [])) := fun t k => by rw [hS0]; exact castTop (ef_add1 m aa ob) k
  have g93 : Goes p e below S0 (s₁.setTop (mkF m 2 #[rv aa, rv ob] [(.ref aa), (.ref aa)])) := fun t k => g0 t (by
    refine XS.aloadN X0.here hx rfl (hb hby d8_0) rfl rfl ?_
    show Go p e below t s₁ m 1 #[rv aa, rv ob] [(.ref aa)]
    refine XS.dup X0.here hx rfl (hb hby d8_1) rfl rfl ?_
    show Go p e below t s₁ m 2 #[rv aa, rv ob] [(.ref aa), (.ref aa)]
    exact k)
  obtain ⟨T94, X94, e94, st94⟩ := getF X0 hx hZ hown (host := "") (Or.inl (hw _ (List.mem_of_getElem? (i := 67) rfl))) (Via.of (hw _ (List.mem_of_getElem? (i := 68) rfl))) e0 P1 (g := (mkF m 2 #[rv aa, rv ob] [(.ref aa), (.ref aa)])) rfl rfl (hb hby d8_2)
  have g95 : Goes p e below S0 (T94.setTop (mkF m 5 #[rv aa, rv ob] [(.int (1 : Int32)), (.ref aa)])) := fun t k => g93 t (st94 t k)
  have g96 : Goes p e below S0 (T94.setTop (mkF m 7 #[rv aa, rv ob] [(.int (2 : Int32)), (.ref aa)])) := fun t k => g95 t (by
    refine XT.iconstV X94.here hx rfl (1 : Int32) (hb hby d8_5) (by decide) ?_
    show Go p e below t T94 m 6 #[rv aa, rv ob] [(.int (1 : Int32)), (.int (1 : Int32)), (.ref aa)]
    refine XS.iadd X94.here hx rfl (hb hby d8_6) rfl ?_
    rw [show ((1 : Int32) + (1 : Int32)) = (2 : Int32) by decide]
    show Go p e below t T94 m 7 #[rv aa, rv ob] [(.int (2 : Int32)), (.ref aa)]
    exact k)
  obtain ⟨T97, h97, X97, e97, W97, st97⟩ := putF X94 hx hZ hown (host := "") (Or.inl (hw _ (List.mem_of_getElem? (i := 67) rfl))) (Via.of (hw _ (List.mem_of_getElem? (i := 68) rfl))) e94 P1 P0 (Or.inl (hw _ (List.mem_of_getElem? (i := 30) rfl))) (hw _ (List.mem_of_getElem? (i := 9) rfl)) (ty := .int) (by decide) rfl rfl (g := (mkF m 7 #[rv aa, rv ob] [(.int (2 : Int32)), (.ref aa)])) rfl rfl (hb hby d8_7)
  have N97 := Fr.snoc X97 N0 P4
  have Fw97 := Fld.same W97 P1
  have g98 : Goes p e below S0 (T97.setTop (mkF m 10 #[rv aa, rv ob] [])) := fun t k => g96 t (st97 t k)
  have g99 : Goes p e below S0 (T97.setTop (mkF m 13 #[rv aa, rv ob] [(.ref aa), (.ref ob), (.ref aa)])) := fun t k => g98 t (by
    refine XS.aloadN X97.here hx rfl (hb hby d8_10) rfl rfl ?_
    show Go p e below t T97 m 11 #[rv aa, rv ob] [(.ref aa)]
    refine XS.aloadN X97.here hx rfl (hb hby d8_11) rfl rfl ?_
    show Go p e below t T97 m 12 #[rv aa, rv ob] [(.ref ob), (.ref aa)]
    refine XS.aloadN X97.here hx rfl (hb hby d8_12) rfl rfl ?_
    show Go p e below t T97 m 13 #[rv aa, rv ob] [(.ref aa), (.ref ob), (.ref aa)]
    exact k)
  obtain ⟨T100, X100, e100, st100⟩ := getF X97 hx hZ hown (host := "") (Or.inl (hw _ (List.mem_of_getElem? (i := 32) rfl))) Via.refl e97 (P3.other W97 (Or.inr (slot_ne (Or.inl (hw _ (List.mem_of_getElem? (i := 33) rfl))) (Or.inl (hw _ (List.mem_of_getElem? (i := 30) rfl))) (by decide) (t := (.array (.object "java/lang/Object"))) (t' := .int) (by decide) (by decide)))) (g := (mkF m 13 #[rv aa, rv ob] [(.ref aa), (.ref ob), (.ref aa)])) rfl rfl (hb hby d8_13)
  have g101 : Goes p e below S0 (T100.setTop (mkF m 16 #[rv aa, rv ob] [(.ref ea), (.ref ob), (.ref aa)])) := fun t k => g99 t (st100 t k)
  have g102 : Goes p e below S0 (T100.setTop (mkF m 17 #[rv aa, rv ob] [(.ref aa), (.ref ea), (.ref ob), (.ref aa)])) := fun t k => g101 t (by
    refine XS.aloadN X100.here hx rfl (hb hby d8_16) rfl rfl ?_
    show Go p e below t T100 m 17 #[rv aa, rv ob] [(.ref aa), (.ref ea), (.ref ob), (.ref aa)]
    exact k)
  obtain ⟨T103, X103, e103, st103⟩ := getF X100 hx hZ hown (host := "") (Or.inl (hw _ (List.mem_of_getElem? (i := 69) rfl))) Via.refl e100 (P2.other W97 (Or.inr (slot_ne (Or.inl (hw _ (List.mem_of_getElem? (i := 70) rfl))) (Or.inl (hw _ (List.mem_of_getElem? (i := 30) rfl))) (by decide) (t := .int) (t' := .int) (by decide) (by decide)))) (g := (mkF m 17 #[rv aa, rv ob] [(.ref aa), (.ref ea), (.ref ob), (.ref aa)])) rfl rfl (hb hby d8_17)
  have g104 : Goes p e below S0 (T103.setTop (mkF m 20 #[rv aa, rv ob] [(.int (1 : Int32)), (.ref ea), (.ref ob), (.ref aa)])) := fun t k => g102 t (st103 t k)
  obtain ⟨cq105, q105, q105b⟩ := Exa.cell (P0.wr W97)
  obtain ⟨_, _, ⟨T105, L105, k105, n105⟩, -, X105, ⟨Lc105, hQ105, l105, y105, z105⟩, st105⟩ := X103.privateBack hx (y := (⟨"java/util/ArrayList", "add", "(Ljava/lang/Object;[Ljava/lang/Object;I)V"⟩ : MethodName)) hown (mvT hZ (hw _ (List.mem_of_getElem? (i := 71) rfl))) (mvT hZ (hw _ (List.mem_of_getElem? (i := 72) rfl))) (own_selp (mvT hZ (hw _ (List.mem_of_getElem? (i := 74) rfl))) rfl (Cond.privateMethod_at (mvP hZ (hw _ (List.mem_of_getElem? (i := 73) rfl)) (args := #[]))) (mvT hZ (hw _ (List.mem_of_getElem? (i := 72) rfl))) (by decide)) (Cond.privateMethod_at (mvP hZ (hw _ (List.mem_of_getElem? (i := 73) rfl)) (args := #[]))) (mvT hZ (hw _ (List.mem_of_getElem? (i := 75) rfl))) (by decide) (backOf (W := 0) (rm_adp1 l Z a0 hw [] aa ob ea (1 : Int32) ea ek x0 h97 n0 (Nat.le_trans Z0 (Nat.le_trans (Nat.le_refl _) (Nat.le_of_eq W97.size.symm))) (P0.wr W97) Fw97 (P2.other W97 (Or.inr (slot_ne (Or.inl (hw _ (List.mem_of_getElem? (i := 70) rfl))) (Or.inl (hw _ (List.mem_of_getElem? (i := 30) rfl))) (by decide) (t := .int) (t' := .int) (by decide) (by decide)))) (P3.other W97 (Or.inr (slot_ne (Or.inl (hw _ (List.mem_of_getElem? (i := 33) rfl))) (Or.inl (hw _ (List.mem_of_getElem? (i := 30) rfl))) (by decide) (t := (.array (.object "java/lang/Object"))) (t' := .int) (by decide) (by decide)))) P4 P5 P6 (P7.other W97 (Ne.symm P6)) ove (P9.wr W97) rfl rfl) hZ (hw _ (List.mem_of_getElem? (i := 75) rfl)) (hw _ (List.mem_of_getElem? (i := 10) rfl)) (by decide) (by decide)) (g := (mkF m 20 #[rv aa, rv ob] [(.int (1 : Int32)), (.ref ea), (.ref ob), (.ref aa)])) rfl (by rw [hml]; rfl) (Steps.refl _) (a := aa) (by rw [e103]; exact q105) q105b (argsL := [(.ref ob), (.ref ea), (.int (1 : Int32))]) (rest := []) (lenOf pd5 rfl) rfl (by show 2 * 0 + _ ≤ _; exact Nat.le_of_eq rfl) (hb hby d8_20) (fun _ _ => ⟨rfl, e103, (by decide : 0 + 0 ≤ _), (by decide : 0 + 0 ≤ _)⟩)
  dsimp only [Pt.U, Pt.locs, Pt.cells, Pt.slots] at X105 l105 y105 z105 st105 hQ105
  subst l105 y105 z105
  obtain ⟨rfl, N105, R105_0, R105_1, R105_2, R105_3, R105_4, R105_5⟩ := hQ105
  have M105 := Fr.app N97 N105
  have g106 : Goes p e below S0 (T105.setTop (mkF m 23 #[rv aa, rv ob] [])) := fun t k => g104 t (st105.trans k)
  have g107 : Goes p e below S0 (T105.setTop (mkF m 24 #[rv aa, rv ob] [(.int (1 : Int32))])) := fun t k => g106 t (by
    refine XT.iconstV X105.here hx rfl (1 : Int32) (hb hby d8_23) (by decide) ?_
    show Go p e below t T105 m 24 #[rv aa, rv ob] [(.int (1 : Int32))]
    exact k)
  obtain ⟨fs, hr, hrun, hended, hW, hsame⟩ := X105.leave (v := some (.int (1 : Int32))) (fun h => by rw [Bd.returns] at h; cases h)
  refine ⟨_, _, g107 _ (retN X105 hx (t := .boolean) Bd.returns (by simp) (hb hby d8_24) hr), hrun, hended, _, _, rfl, ?_, ⟨_, rfl⟩, hW, hsame.mono (by decide) (by decide)⟩
  show Q_add1 Z aa ob ea ek x0 h0 n0 _ T105.heap _
  exact ⟨rfl, M105, (((Keep.refl h0 [aa, ea]).wr W97 (Or.inl (List.mem_of_getElem? (i := 0) rfl))).trans R105_0 (allS (Or.inl (List.mem_of_getElem? (i := 0) rfl)) (allS (Or.inl (List.mem_of_getElem? (i := 1) rfl)) all0))), R105_1, R105_2, R105_3, R105_4, R105_5⟩
theorem pf_adp2 : plainFor (⟨"java/util/ArrayList", "add", "(Ljava/lang/Object;[Ljava/lang/Object;I)V"⟩ : MethodName) = true := by first | exact plainFor_of_name (by first | (simp [plainName, overriddenIn, x]; done) | decide +kernel) | exact Jvm.Free.JP.mathPlain rfl (by decide +kernel) | decide +kernel
theorem ef_adp2 (m : MethodId) (aa : Addr) (ob : Addr) (eb : Addr) (xs : Int32) : entryFrame m #[(.ref aa), (.ref ob), (.ref eb), (.int xs)] 4 = mkF m 0 #[rv aa, rv ob, rv eb, iv xs] [] := by first | (simp [entryFrame, mkF, argsToLocals, Value.category, maxLocals]; done) | rfl
def Q_adp2 (Z : State) (aa : Addr) (ob : Addr) (eb : Addr) (xs : Int32) (ea : Addr) (ek : ClassId) (x0 : Addr) (x1 : Addr) (h0 : Heap) (n0 : Nat) (v : Option Value) (h : Heap) (L : List Loc) : Prop := v = none ∧ Fr n0 L ∧ (Keep h0 h [aa, ea]) ∧ (Exa Z h aa "java/util/ArrayList") ∧ (Fld Z h aa "java/util/AbstractList" "modCount" "I" (.int (3 : Int32))) ∧ (Fld Z h aa "java/util/ArrayList" "size" "I" (.int (3 : Int32))) ∧ (Fld Z h aa "java/util/ArrayList" "elementData" "[Ljava/lang/Object;" (.ref ea)) ∧ (Arv Z h ea ek (.object "java/lang/Object") (10 : Int32) [(.ref x0), (.ref x1), (.ref ob), .null, .null, .null, .null, .null, .null, .null] .null)
set_option maxRecDepth 65536 in
set_option maxHeartbeats 40000000 in
theorem rm_adp2 (l : Launch) (Z : State) (a0 : Array Value) (hw : ∀ d ∈ tables_1, d.before a0 Z = true) (ws : List Jvm.Cond) (aa : Addr) (ob : Addr) (eb : Addr) (xs : Int32) (ea : Addr) (ek : ClassId) (x0 : Addr) (x1 : Addr) (h0 : Heap) (n0 : Nat) (Z0 : n0 ≤ h0.size) (P0 : Exa Z h0 aa "java/util/ArrayList") (P1 : Fld Z h0 aa "java/util/AbstractList" "modCount" "I" (.int (3 : Int32))) (P2 : Fld Z h0 aa "java/util/ArrayList" "size" "I" (.int (2 : Int32))) (P3 : Fld Z h0 aa "java/util/ArrayList" "elementData" "[Ljava/lang/Object;" (.ref ea)) (P4 : n0 ≤ aa) (P5 : n0 ≤ ea) (P6 : aa ≠ ea) (P7 : Arv Z h0 ea ek (.object "java/lang/Object") (10 : Int32) [(.ref x0), (.ref x1), .null, .null, .null, .null, .null, .null, .null, .null] .null) (ove : Ovr Z ek "java/lang/Object") (P9 : Exa Z h0 ob "com/example/nimble_retrieval/nimbleretrieval/format/Run$Retrieved") (q1 : xs = (2 : Int32)) (q2 : eb = ea)  :
    MetFree l (⟨"java/util/ArrayList", "add", "(Ljava/lang/Object;[Ljava/lang/Object;I)V"⟩ : MethodName) (head1 (Jvm.Cond.code (⟨"java/util/ArrayList", "add", "(Ljava/lang/Object;[Ljava/lang/Object;I)V"⟩ : MethodName) jdk_38_method_24_code 4 none :: ws) ({ frames := 0, cells := 0, slots := 0, locals := 0 } : Room)) (fun a U => a = #[(.ref aa), (.ref ob), (.ref eb), (.int xs)] ∧ Z.Warmed39 U.vm ∧ U.heap = h0) (fun _ _ _ _ _ => True) (fun _ U o U' => ∃ v L, o = .returned v ∧ Q_adp2 Z aa ob eb xs ea ek x0 x1 h0 n0 v U'.heap L ∧ FrameEnd U o U' L ({ frames := 0, cells := 0, slots := 0, locals := 0 } : Room).cells ({ frames := 0, cells := 0, slots := 0, locals := 0 } : Room).slots) := by
  refine MetFree.of_bodySF pf_adp2 hisR ?_
  intro p e s m args below meth c s₁ Bd hml0 hP hK
  obtain ⟨rfl, hZ, hh⟩ := hP
  have hx := Bd.exec
  have hby := Bd.bytes
  have hml : c.maxLocals = 4 := hml0
  have hown : s.vm.findClass "java/util/ArrayList" = some m.cls := findClass_of_methodNamed Bd.named
  have hnm := (name_of_methodNamed Bd.named Bd.method).1
  have X0 : Stand p l e ({ frames := 0, cells := 0, slots := 0, locals := 0 } : Room) s m #[(.ref aa), (.ref ob), (.ref eb), (.int xs)] below meth c s₁ [] 0 0 := Stand.of_body Bd
  have e0 : s₁.heap = h0 := by rw [← hh, Bd.state]; rfl
  have N0 := Fr.nil n0
  obtain ⟨S0, hS0⟩ : ∃ z, z = s₁.setTop (entryFrame m #[(.ref aa), (.ref ob), (.ref eb), (.int xs)] 4) := ⟨_, rfl⟩
  rw [← hS0]
  have g0 : Goes p e below S0 (s₁.setTop (mkF m 0 #[rv aa, rv ob, rv eb, iv xs] [])) := fun t k => by rw [hS0]; exact castTop (ef_adp2 m aa ob eb xs) k
  obtain rfl : xs = (2 : Int32) := q1
  have q2s := q2.symm
  subst q2s
  have g108 : Goes p e below S0 (s₁.setTop (mkF m 2 #[rv aa, rv ob, rv ea, iv (2 : Int32)] [(.ref ea), (.int (2 : Int32))])) := fun t k => g0 t (by
    refine XS.iloadN X0.here hx rfl (hb hby d9_0) rfl ?_
    show Go p e below t s₁ m 1 #[rv aa, rv ob, rv ea, iv (2 : Int32)] [(.int (2 : Int32))]
    refine XS.aloadN X0.here hx rfl (hb hby d9_1) rfl rfl ?_
    show Go p e below t s₁ m 2 #[rv aa, rv ob, rv ea, iv (2 : Int32)] [(.ref ea), (.int (2 : Int32))]
    exact k)
  obtain ⟨cl109, Ar109, q109, S109, M109, H109, G109⟩ := id P7
  have g110 : Goes p e below S0 (s₁.setTop (mkF m 14 #[rv aa, rv ob, rv ea, iv (2 : Int32)] [(.ref ob), (.int (2 : Int32)), (.ref ea)])) := fun t k => g108 t (by
    refine X0.arraylength hx (by rw [e0]; exact Ar109.1) (State.isArrayOf_alike hZ.alike Ar109.2.1) (g := (mkF m 2 #[rv aa, rv ob, rv ea, iv (2 : Int32)] [(.ref ea), (.int (2 : Int32))])) rfl rfl (hb hby d9_2) _ ?_
    rw [len_of S109 M109]
    show Go p e below t s₁ m 3 #[rv aa, rv ob, rv ea, iv (2 : Int32)] [(.int (10 : Int32)), (.int (2 : Int32))]
    refine XS.icmpYes X0.here hx rfl (pc0 := 3) (pc' := 11) rfl (hb hby d9_3) rfl (XT.ii_ne_t (by decide)) (by decide) (by decide) ?_
    show Go p e below t s₁ m 11 #[rv aa, rv ob, rv ea, iv (2 : Int32)] []
    refine XS.aloadN X0.here hx rfl (hb hby d9_11) rfl rfl ?_
    show Go p e below t s₁ m 12 #[rv aa, rv ob, rv ea, iv (2 : Int32)] [(.ref ea)]
    refine XS.iloadN X0.here hx rfl (hb hby d9_12) rfl ?_
    show Go p e below t s₁ m 13 #[rv aa, rv ob, rv ea, iv (2 : Int32)] [(.int (2 : Int32)), (.ref ea)]
    refine XS.aloadN X0.here hx rfl (hb hby d9_13) rfl rfl ?_
    show Go p e below t s₁ m 14 #[rv aa, rv ob, rv ea, iv (2 : Int32)] [(.ref ob), (.int (2 : Int32)), (.ref ea)]
    exact k)
  obtain ⟨cl111, Ar111, q111, S111, M111, H111, G111⟩ := id P7
  obtain ⟨T112, h112, X112, e112, W112, st112⟩ := stR X0 hx hZ e0 Ar111 (j := (2 : Int32)) (inb_of S111 ⟨by decide, by decide⟩) rfl (Sto.ofV Ar111 q111 ove (Ins.of_exa P9 (hw _ (List.mem_of_getElem? (i := 89) rfl)))) (g := (mkF m 14 #[rv aa, rv ob, rv ea, iv (2 : Int32)] [(.ref ob), (.int (2 : Int32)), (.ref ea)])) rfl rfl (hb hby d9_14)
  have N112 := Fr.snoc X112 N0 P5
  have V112 : Arv Z h112 ea ek (.object "java/lang/Object") (10 : Int32) [(.ref x0), (.ref x1), (.ref ob), .null, .null, .null, .null, .null, .null, .null] .null := Arv.set Ar111 q111 S111 M111 H111 G111 rfl W112 2 rfl (Nat.le_of_ble_eq_true rfl)
  have g113 : Goes p e below S0 (T112.setTop (mkF m 15 #[rv aa, rv ob, rv ea, iv (2 : Int32)] [])) := fun t k => g110 t (st112 t k)
  have g114 : Goes p e below S0 (T112.setTop (mkF m 19 #[rv aa, rv ob, rv ea, iv (2 : Int32)] [(.int (3 : Int32)), (.ref aa)])) := fun t k => g113 t (by
    refine XS.aloadN X112.here hx rfl (hb hby d9_15) rfl rfl ?_
    show Go p e below t T112 m 16 #[rv aa, rv ob, rv ea, iv (2 : Int32)] [(.ref aa)]
    refine XS.iloadN X112.here hx rfl (hb hby d9_16) rfl ?_
    show Go p e below t T112 m 17 #[rv aa, rv ob, rv ea, iv (2 : Int32)] [(.int (2 : Int32)), (.ref aa)]
    refine XT.iconstV X112.here hx rfl (1 : Int32) (hb hby d9_17) (by decide) ?_
    show Go p e below t T112 m 18 #[rv aa, rv ob, rv ea, iv (2 : Int32)] [(.int (1 : Int32)), (.int (2 : Int32)), (.ref aa)]
    refine XS.iadd X112.here hx rfl (hb hby d9_18) rfl ?_
    rw [show ((2 : Int32) + (1 : Int32)) = (3 : Int32) by decide]
    show Go p e below t T112 m 19 #[rv aa, rv ob, rv ea, iv (2 : Int32)] [(.int (3 : Int32)), (.ref aa)]
    exact k)
  obtain ⟨T115, h115, X115, e115, W115, st115⟩ := putF X112 hx hZ hown (host := "") (Or.inl (hw _ (List.mem_of_getElem? (i := 69) rfl))) Via.refl e112 (P2.other W112 (Or.inl P6)) (P0.wr W112) (Or.inl (hw _ (List.mem_of_getElem? (i := 70) rfl))) (hw _ (List.mem_of_getElem? (i := 9) rfl)) (ty := .int) (by decide) rfl rfl (g := (mkF m 19 #[rv aa, rv ob, rv ea, iv (2 : Int32)] [(.int (3 : Int32)), (.ref aa)])) rfl rfl (hb hby d9_19)
  have N115 := Fr.snoc X115 N112 P4
  have Fw115 := Fld.same W115 (P2.other W112 (Or.inl P6))
  have g116 : Goes p e below S0 (T115.setTop (mkF m 22 #[rv aa, rv ob, rv ea, iv (2 : Int32)] [])) := fun t k => g114 t (st115 t k)
  obtain ⟨fs, hr, hrun, hended, hW, hsame⟩ := X115.leave (v := none) (fun _ => rfl)
  refine ⟨_, _, g116 _ (X115.returnOut hx Bd.returns (hb hby d9_22) hr), hrun, hended, _, _, rfl, ?_, ⟨_, rfl⟩, hW, hsame.mono (by decide) (by decide)⟩
  show Q_adp2 Z aa ob ea (2 : Int32) ea ek x0 x1 h0 n0 _ T115.heap _
  rw [e115]
  exact ⟨rfl, N115, (((Keep.refl h0 [aa, ea]).wr W112 (Or.inl (List.mem_of_getElem? (i := 1) rfl))).wr W115 (Or.inl (List.mem_of_getElem? (i := 0) rfl))), ((P0.wr W112).wr W115), ((P1.other W112 (Or.inl P6)).other W115 (Or.inr (slot_ne (Or.inl (hw _ (List.mem_of_getElem? (i := 30) rfl))) (Or.inl (hw _ (List.mem_of_getElem? (i := 70) rfl))) (by decide) (t := .int) (t' := .int) (by decide) (by decide)))), Fw115, ((P3.other W112 (Or.inl P6)).other W115 (Or.inr (slot_ne (Or.inl (hw _ (List.mem_of_getElem? (i := 33) rfl))) (Or.inl (hw _ (List.mem_of_getElem? (i := 70) rfl))) (by decide) (t := (.array (.object "java/lang/Object"))) (t' := .int) (by decide) (by decide)))), (V112.other W115 (Ne.symm P6))⟩
theorem pf_add2 : plainFor (⟨"java/util/ArrayList", "add", "(Ljava/lang/Object;)Z"⟩ : MethodName) = true := by first | exact plainFor_of_name (by first | (simp [plainName, overriddenIn, x]; done) | decide +kernel) | exact Jvm.Free.JP.mathPlain rfl (by decide +kernel) | decide +kernel
theorem ef_add2 (m : MethodId) (aa : Addr) (ob : Addr) : entryFrame m #[(.ref aa), (.ref ob)] 2 = mkF m 0 #[rv aa, rv ob] [] := by first | (simp [entryFrame, mkF, argsToLocals, Value.category, maxLocals]; done) | rfl
def Q_add2 (Z : State) (aa : Addr) (ob : Addr) (ea : Addr) (ek : ClassId) (x0 : Addr) (x1 : Addr) (h0 : Heap) (n0 : Nat) (v : Option Value) (h : Heap) (L : List Loc) : Prop := v = some (.int (1 : Int32)) ∧ Fr n0 L ∧ (Keep h0 h [aa, ea]) ∧ (Exa Z h aa "java/util/ArrayList") ∧ (Fld Z h aa "java/util/AbstractList" "modCount" "I" (.int (3 : Int32))) ∧ (Fld Z h aa "java/util/ArrayList" "size" "I" (.int (3 : Int32))) ∧ (Fld Z h aa "java/util/ArrayList" "elementData" "[Ljava/lang/Object;" (.ref ea)) ∧ (Arv Z h ea ek (.object "java/lang/Object") (10 : Int32) [(.ref x0), (.ref x1), (.ref ob), .null, .null, .null, .null, .null, .null, .null] .null)
set_option maxRecDepth 65536 in
set_option maxHeartbeats 40000000 in
theorem rm_add2 (l : Launch) (Z : State) (a0 : Array Value) (hw : ∀ d ∈ tables_1, d.before a0 Z = true) (ws : List Jvm.Cond) (aa : Addr) (ob : Addr) (ea : Addr) (ek : ClassId) (x0 : Addr) (x1 : Addr) (h0 : Heap) (n0 : Nat) (Z0 : n0 ≤ h0.size) (P0 : Exa Z h0 aa "java/util/ArrayList") (P1 : Fld Z h0 aa "java/util/AbstractList" "modCount" "I" (.int (2 : Int32))) (P2 : Fld Z h0 aa "java/util/ArrayList" "size" "I" (.int (2 : Int32))) (P3 : Fld Z h0 aa "java/util/ArrayList" "elementData" "[Ljava/lang/Object;" (.ref ea)) (P4 : n0 ≤ aa) (P5 : n0 ≤ ea) (P6 : aa ≠ ea) (P7 : Arv Z h0 ea ek (.object "java/lang/Object") (10 : Int32) [(.ref x0), (.ref x1), .null, .null, .null, .null, .null, .null, .null, .null] .null) (ove : Ovr Z ek "java/lang/Object") (P9 : Exa Z h0 ob "com/example/nimble_retrieval/nimbleretrieval/format/Run$Retrieved")  :
    MetFree l (⟨"java/util/ArrayList", "add", "(Ljava/lang/Object;)Z"⟩ : MethodName) (head1 (Jvm.Cond.code (⟨"java/util/ArrayList", "add", "(Ljava/lang/Object;)Z"⟩ : MethodName) jdk_38_method_25_code 2 (some .boolean) :: ws) ({ frames := 1, cells := 0, slots := 0, locals := 20 } : Room)) (fun a U => a = #[(.ref aa), (.ref ob)] ∧ Z.Warmed39 U.vm ∧ U.heap = h0) (fun _ _ _ _ _ => True) (fun _ U o U' => ∃ v L, o = .returned v ∧ Q_add2 Z aa ob ea ek x0 x1 h0 n0 v U'.heap L ∧ FrameEnd U o U' L ({ frames := 1, cells := 0, slots := 0, locals := 20 } : Room).cells ({ frames := 1, cells := 0, slots := 0, locals := 20 } : Room).slots) := by
  refine MetFree.of_bodySF pf_add2 hisR ?_
  intro p e s m args below meth c s₁ Bd hml0 hP hK
  obtain ⟨rfl, hZ, hh⟩ := hP
  have hx := Bd.exec
  have hby := Bd.bytes
  have hml : c.maxLocals = 2 := hml0
  have hown : s.vm.findClass "java/util/ArrayList" = some m.cls := findClass_of_methodNamed Bd.named
  have hnm := (name_of_methodNamed Bd.named Bd.method).1
  have X0 : Stand p l e ({ frames := 1, cells := 0, slots := 0, locals := 20 } : Room) s m #[(.ref aa), (.ref ob)] below meth c s₁ [] 0 0 := Stand.of_body Bd
  have e0 : s₁.heap = h0 := by rw [← hh, Bd.state]; rfl
  have N0 := Fr.nil n0
  obtain ⟨S0, hS0⟩ : ∃ z, z = s₁.setTop (entryFrame m #[(.ref aa), (.ref ob)] 2) := ⟨_, rfl⟩
  rw [← hS0]
  have g0 : Goes p e below S0 (s₁.setTop (mkF m 0 #[rv aa, rv ob] [])) := fun t k => by rw [hS0]; exact castTop (ef_add2 m aa ob) k
  have g117 : Goes p e below S0 (s₁.setTop (mkF m 2 #[rv aa, rv ob] [(.ref aa), (.ref aa)])) := fun t k => g0 t (by
    refine XS.aloadN X0.here hx rfl (hb hby d8_0) rfl rfl ?_
    show Go p e below t s₁ m 1 #[rv aa, rv ob] [(.ref aa)]
    refine XS.dup X0.here hx rfl (hb hby d8_1) rfl rfl ?_
    show Go p e below t s₁ m 2 #[rv aa, rv ob] [(.ref aa), (.ref aa)]
    exact k)
  obtain ⟨T118, X118, e118, st118⟩ := getF X0 hx hZ hown (host := "") (Or.inl (hw _ (List.mem_of_getElem? (i := 67) rfl))) (Via.of (hw _ (List.mem_of_getElem? (i := 68) rfl))) e0 P1 (g := (mkF m 2 #[rv aa, rv ob] [(.ref aa), (.ref aa)])) rfl rfl (hb hby d8_2)
  have g119 : Goes p e below S0 (T118.setTop (mkF m 5 #[rv aa, rv ob] [(.int (2 : Int32)), (.ref aa)])) := fun t k => g117 t (st118 t k)
  have g120 : Goes p e below S0 (T118.setTop (mkF m 7 #[rv aa, rv ob] [(.int (3 : Int32)), (.ref aa)])) := fun t k => g119 t (by
    refine XT.iconstV X118.here hx rfl (1 : Int32) (hb hby d8_5) (by decide) ?_
    show Go p e below t T118 m 6 #[rv aa, rv ob] [(.int (1 : Int32)), (.int (2 : Int32)), (.ref aa)]
    refine XS.iadd X118.here hx rfl (hb hby d8_6) rfl ?_
    rw [show ((2 : Int32) + (1 : Int32)) = (3 : Int32) by decide]
    show Go p e below t T118 m 7 #[rv aa, rv ob] [(.int (3 : Int32)), (.ref aa)]
    exact k)
  obtain ⟨T121, h121, X121, e121, W121, st121⟩ := putF X118 hx hZ hown (host := "") (Or.inl (hw _ (List.mem_of_getElem? (i := 67) rfl))) (Via.of (hw _ (List.mem_of_getElem? (i := 68) rfl))) e118 P1 P0 (Or.inl (hw _ (List.mem_of_getElem? (i := 30) rfl))) (hw _ (List.mem_of_getElem? (i := 9) rfl)) (ty := .int) (by decide) rfl rfl (g := (mkF m 7 #[rv aa, rv ob] [(.int (3 : Int32)), (.ref aa)])) rfl rfl (hb hby d8_7)
  have N121 := Fr.snoc X121 N0 P4
  have Fw121 := Fld.same W121 P1
  have g122 : Goes p e below S0 (T121.setTop (mkF m 10 #[rv aa, rv ob] [])) := fun t k => g120 t (st121 t k)
  have g123 : Goes p e below S0 (T121.setTop (mkF m 13 #[rv aa, rv ob] [(.ref aa), (.ref ob), (.ref aa)])) := fun t k => g122 t (by
    refine XS.aloadN X121.here hx rfl (hb hby d8_10) rfl rfl ?_
    show Go p e below t T121 m 11 #[rv aa, rv ob] [(.ref aa)]
    refine XS.aloadN X121.here hx rfl (hb hby d8_11) rfl rfl ?_
    show Go p e below t T121 m 12 #[rv aa, rv ob] [(.ref ob), (.ref aa)]
    refine XS.aloadN X121.here hx rfl (hb hby d8_12) rfl rfl ?_
    show Go p e below t T121 m 13 #[rv aa, rv ob] [(.ref aa), (.ref ob), (.ref aa)]
    exact k)
  obtain ⟨T124, X124, e124, st124⟩ := getF X121 hx hZ hown (host := "") (Or.inl (hw _ (List.mem_of_getElem? (i := 32) rfl))) Via.refl e121 (P3.other W121 (Or.inr (slot_ne (Or.inl (hw _ (List.mem_of_getElem? (i := 33) rfl))) (Or.inl (hw _ (List.mem_of_getElem? (i := 30) rfl))) (by decide) (t := (.array (.object "java/lang/Object"))) (t' := .int) (by decide) (by decide)))) (g := (mkF m 13 #[rv aa, rv ob] [(.ref aa), (.ref ob), (.ref aa)])) rfl rfl (hb hby d8_13)
  have g125 : Goes p e below S0 (T124.setTop (mkF m 16 #[rv aa, rv ob] [(.ref ea), (.ref ob), (.ref aa)])) := fun t k => g123 t (st124 t k)
  have g126 : Goes p e below S0 (T124.setTop (mkF m 17 #[rv aa, rv ob] [(.ref aa), (.ref ea), (.ref ob), (.ref aa)])) := fun t k => g125 t (by
    refine XS.aloadN X124.here hx rfl (hb hby d8_16) rfl rfl ?_
    show Go p e below t T124 m 17 #[rv aa, rv ob] [(.ref aa), (.ref ea), (.ref ob), (.ref aa)]
    exact k)
  obtain ⟨T127, X127, e127, st127⟩ := getF X124 hx hZ hown (host := "") (Or.inl (hw _ (List.mem_of_getElem? (i := 69) rfl))) Via.refl e124 (P2.other W121 (Or.inr (slot_ne (Or.inl (hw _ (List.mem_of_getElem? (i := 70) rfl))) (Or.inl (hw _ (List.mem_of_getElem? (i := 30) rfl))) (by decide) (t := .int) (t' := .int) (by decide) (by decide)))) (g := (mkF m 17 #[rv aa, rv ob] [(.ref aa), (.ref ea), (.ref ob), (.ref aa)])) rfl rfl (hb hby d8_17)
  have g128 : Goes p e below S0 (T127.setTop (mkF m 20 #[rv aa, rv ob] [(.int (2 : Int32)), (.ref ea), (.ref ob), (.ref aa)])) := fun t k => g126 t (st127 t k)
  obtain ⟨cq129, q129, q129b⟩ := Exa.cell (P0.wr W121)
  obtain ⟨_, _, ⟨T129, L129, k129, n129⟩, -, X129, ⟨Lc129, hQ129, l129, y129, z129⟩, st129⟩ := X127.privateBack hx (y := (⟨"java/util/ArrayList", "add", "(Ljava/lang/Object;[Ljava/lang/Object;I)V"⟩ : MethodName)) hown (mvT hZ (hw _ (List.mem_of_getElem? (i := 71) rfl))) (mvT hZ (hw _ (List.mem_of_getElem? (i := 72) rfl))) (own_selp (mvT hZ (hw _ (List.mem_of_getElem? (i := 74) rfl))) rfl (Cond.privateMethod_at (mvP hZ (hw _ (List.mem_of_getElem? (i := 73) rfl)) (args := #[]))) (mvT hZ (hw _ (List.mem_of_getElem? (i := 72) rfl))) (by decide)) (Cond.privateMethod_at (mvP hZ (hw _ (List.mem_of_getElem? (i := 73) rfl)) (args := #[]))) (mvT hZ (hw _ (List.mem_of_getElem? (i := 75) rfl))) (by decide) (backOf (W := 0) (rm_adp2 l Z a0 hw [] aa ob ea (2 : Int32) ea ek x0 x1 h121 n0 (Nat.le_trans Z0 (Nat.le_trans (Nat.le_refl _) (Nat.le_of_eq W121.size.symm))) (P0.wr W121) Fw121 (P2.other W121 (Or.inr (slot_ne (Or.inl (hw _ (List.mem_of_getElem? (i := 70) rfl))) (Or.inl (hw _ (List.mem_of_getElem? (i := 30) rfl))) (by decide) (t := .int) (t' := .int) (by decide) (by decide)))) (P3.other W121 (Or.inr (slot_ne (Or.inl (hw _ (List.mem_of_getElem? (i := 33) rfl))) (Or.inl (hw _ (List.mem_of_getElem? (i := 30) rfl))) (by decide) (t := (.array (.object "java/lang/Object"))) (t' := .int) (by decide) (by decide)))) P4 P5 P6 (P7.other W121 (Ne.symm P6)) ove (P9.wr W121) rfl rfl) hZ (hw _ (List.mem_of_getElem? (i := 75) rfl)) (hw _ (List.mem_of_getElem? (i := 10) rfl)) (by decide) (by decide)) (g := (mkF m 20 #[rv aa, rv ob] [(.int (2 : Int32)), (.ref ea), (.ref ob), (.ref aa)])) rfl (by rw [hml]; rfl) (Steps.refl _) (a := aa) (by rw [e127]; exact q129) q129b (argsL := [(.ref ob), (.ref ea), (.int (2 : Int32))]) (rest := []) (lenOf pd5 rfl) rfl (by show 2 * 0 + _ ≤ _; exact Nat.le_of_eq rfl) (hb hby d8_20) (fun _ _ => ⟨rfl, e127, (by decide : 0 + 0 ≤ _), (by decide : 0 + 0 ≤ _)⟩)
  dsimp only [Pt.U, Pt.locs, Pt.cells, Pt.slots] at X129 l129 y129 z129 st129 hQ129
  subst l129 y129 z129
  obtain ⟨rfl, N129, R129_0, R129_1, R129_2, R129_3, R129_4, R129_5⟩ := hQ129
  have M129 := Fr.app N121 N129
  have g130 : Goes p e below S0 (T129.setTop (mkF m 23 #[rv aa, rv ob] [])) := fun t k => g128 t (st129.trans k)
  have g131 : Goes p e below S0 (T129.setTop (mkF m 24 #[rv aa, rv ob] [(.int (1 : Int32))])) := fun t k => g130 t (by
    refine XT.iconstV X129.here hx rfl (1 : Int32) (hb hby d8_23) (by decide) ?_
    show Go p e below t T129 m 24 #[rv aa, rv ob] [(.int (1 : Int32))]
    exact k)
  obtain ⟨fs, hr, hrun, hended, hW, hsame⟩ := X129.leave (v := some (.int (1 : Int32))) (fun h => by rw [Bd.returns] at h; cases h)
  refine ⟨_, _, g131 _ (retN X129 hx (t := .boolean) Bd.returns (by simp) (hb hby d8_24) hr), hrun, hended, _, _, rfl, ?_, ⟨_, rfl⟩, hW, hsame.mono (by decide) (by decide)⟩
  show Q_add2 Z aa ob ea ek x0 x1 h0 n0 _ T129.heap _
  exact ⟨rfl, M129, (((Keep.refl h0 [aa, ea]).wr W121 (Or.inl (List.mem_of_getElem? (i := 0) rfl))).trans R129_0 (allS (Or.inl (List.mem_of_getElem? (i := 0) rfl)) (allS (Or.inl (List.mem_of_getElem? (i := 1) rfl)) all0))), R129_1, R129_2, R129_3, R129_4, R129_5⟩
theorem d15_0 : decode jdk_41_method_11_code 0 = .ok (.iload_n 0, 1) := by decide +kernel
theorem d15_1 : decode jdk_41_method_11_code 1 = .ok (.ifCond .lt 8, 3) := by decide +kernel
theorem d15_4 : decode jdk_41_method_11_code 4 = .ok (.iload_n 0, 1) := by decide +kernel
theorem d15_5 : decode jdk_41_method_11_code 5 = .ok (.iload_n 1, 1) := by decide +kernel
theorem d15_6 : decode jdk_41_method_11_code 6 = .ok (.if_icmp .lt 10, 3) := by decide +kernel
theorem d15_9 : decode jdk_41_method_11_code 9 = .ok (.aload_n 2, 1) := by decide +kernel
theorem d15_10 : decode jdk_41_method_11_code 10 = .ok (.iload_n 0, 1) := by decide +kernel
theorem d15_11 : decode jdk_41_method_11_code 11 = .ok (.iload_n 1, 1) := by decide +kernel
theorem d15_12 : decode jdk_41_method_11_code 12 = .ok (.invokestatic 95, 3) := by decide +kernel
theorem d15_15 : decode jdk_41_method_11_code 15 = .ok (.athrow, 1) := by decide +kernel
theorem d15_16 : decode jdk_41_method_11_code 16 = .ok (.iload_n 0, 1) := by decide +kernel
theorem d15_17 : decode jdk_41_method_11_code 17 = .ok (.ireturn, 1) := by decide +kernel
theorem pd7 : parseMethodDescriptor "(IILjava/util/function/BiFunction;)I" = some ⟨[.int, .int, (.object "java/util/function/BiFunction")], some .int⟩ := by decide +kernel
theorem pf_pci : plainFor (⟨"jdk/internal/util/Preconditions", "checkIndex", "(IILjava/util/function/BiFunction;)I"⟩ : MethodName) = true := by first | exact plainFor_of_name (by first | (simp [plainName, overriddenIn, x]; done) | decide +kernel) | exact Jvm.Free.JP.mathPlain rfl (by decide +kernel) | decide +kernel
theorem ef_pci (m : MethodId) (xi : Int32) (xl : Int32) : entryFrame m #[(.int xi), (.int xl), .null] 3 = mkF m 0 #[iv xi, iv xl, .val .null] [] := by first | (simp [entryFrame, mkF, argsToLocals, Value.category, maxLocals]; done) | rfl
def Q_pci (Z : State) (xi : Int32) (xl : Int32)  (h0 : Heap) (n0 : Nat) (v : Option Value) (h : Heap) (L : List Loc) : Prop := v = some (.int xi) ∧ Fr n0 L ∧ h = h0
set_option maxRecDepth 65536 in
set_option maxHeartbeats 40000000 in
theorem rm_pci (l : Launch) (Z : State) (a0 : Array Value) (hw : ∀ d ∈ tables_1, d.before a0 Z = true) (ws : List Jvm.Cond) (xi : Int32) (xl : Int32)  (h0 : Heap) (n0 : Nat) (Z0 : n0 ≤ h0.size) (h0_ : ¬ (xi < 0)) (h1_ : xi < xl)  :
    MetFree l (⟨"jdk/internal/util/Preconditions", "checkIndex", "(IILjava/util/function/BiFunction;)I"⟩ : MethodName) (head1 (Jvm.Cond.code (⟨"jdk/internal/util/Preconditions", "checkIndex", "(IILjava/util/function/BiFunction;)I"⟩ : MethodName) jdk_41_method_11_code 3 (some .int) :: ws) ({ frames := 0, cells := 0, slots := 0, locals := 0 } : Room)) (fun a U => a = #[(.int xi), (.int xl), .null] ∧ Z.Warmed39 U.vm ∧ U.heap = h0) (fun _ _ _ _ _ => True) (fun _ U o U' => ∃ v L, o = .returned v ∧ Q_pci Z xi xl  h0 n0 v U'.heap L ∧ FrameEnd U o U' L ({ frames := 0, cells := 0, slots := 0, locals := 0 } : Room).cells ({ frames := 0, cells := 0, slots := 0, locals := 0 } : Room).slots) := by
  refine MetFree.of_bodySF pf_pci hisR ?_
  intro p e s m args below meth c s₁ Bd hml0 hP hK
  obtain ⟨rfl, hZ, hh⟩ := hP
  have hx := Bd.exec
  have hby := Bd.bytes
  have hml : c.maxLocals = 3 := hml0
  have hown : s.vm.findClass "jdk/internal/util/Preconditions" = some m.cls := findClass_of_methodNamed Bd.named
  have hnm := (name_of_methodNamed Bd.named Bd.method).1
  have X0 : Stand p l e ({ frames := 0, cells := 0, slots := 0, locals := 0 } : Room) s m #[(.int xi), (.int xl), .null] below meth c s₁ [] 0 0 := Stand.of_body Bd
  have e0 : s₁.heap = h0 := by rw [← hh, Bd.state]; rfl
  have N0 := Fr.nil n0
  obtain ⟨S0, hS0⟩ : ∃ z, z = s₁.setTop (entryFrame m #[(.int xi), (.int xl), .null] 3) := ⟨_, rfl⟩
  rw [← hS0]
  have g0 : Goes p e below S0 (s₁.setTop (mkF m 0 #[iv xi, iv xl, .val .null] [])) := fun t k => by rw [hS0]; exact castTop (ef_pci m xi xl) k
  have g132 : Goes p e below S0 (s₁.setTop (mkF m 17 #[iv xi, iv xl, .val .null] [(.int xi)])) := fun t k => g0 t (by
    refine XS.iloadN X0.here hx rfl (hb hby d15_0) rfl ?_
    show Go p e below t s₁ m 1 #[iv xi, iv xl, .val .null] [(.int xi)]
    refine XS.ifNo X0.here hx rfl (hb hby d15_1) rfl (XT.i0_lt_f h0_) ?_
    show Go p e below t s₁ m 4 #[iv xi, iv xl, .val .null] []
    refine XS.iloadN X0.here hx rfl (hb hby d15_4) rfl ?_
    show Go p e below t s₁ m 5 #[iv xi, iv xl, .val .null] [(.int xi)]
    refine XS.iloadN X0.here hx rfl (hb hby d15_5) rfl ?_
    show Go p e below t s₁ m 6 #[iv xi, iv xl, .val .null] [(.int xl), (.int xi)]
    refine XS.icmpYes X0.here hx rfl (pc0 := 6) (pc' := 16) rfl (hb hby d15_6) rfl (XT.ii_lt_t h1_) (by decide) (by decide) ?_
    show Go p e below t s₁ m 16 #[iv xi, iv xl, .val .null] []
    refine XS.iloadN X0.here hx rfl (hb hby d15_16) rfl ?_
    show Go p e below t s₁ m 17 #[iv xi, iv xl, .val .null] [(.int xi)]
    exact k)
  obtain ⟨fs, hr, hrun, hended, hW, hsame⟩ := X0.leave (v := some (.int xi)) (fun h => by rw [Bd.returns] at h; cases h)
  refine ⟨_, _, g132 _ (retOut X0 hx Bd.returns rfl (Or.inl ⟨rfl, Or.inl rfl, _, rfl⟩) (hb hby d15_17) hr), hrun, hended, _, _, rfl, ?_, ⟨_, rfl⟩, hW, hsame.mono (by decide) (by decide)⟩
  show Q_pci Z xi xl  h0 n0 _ s₁.heap _
  rw [e0]
  exact ⟨rfl, N0, rfl⟩
theorem d14_0 : decode jdk_31_method_17_code 0 = .ok (.iload_n 0, 1) := by decide +kernel
theorem d14_1 : decode jdk_31_method_17_code 1 = .ok (.iload_n 1, 1) := by decide +kernel
theorem d14_2 : decode jdk_31_method_17_code 2 = .ok (.aconst_null, 1) := by decide +kernel
theorem d14_3 : decode jdk_31_method_17_code 3 = .ok (.invokestatic 105, 3) := by decide +kernel
theorem d14_6 : decode jdk_31_method_17_code 6 = .ok (.ireturn, 1) := by decide +kernel
theorem pf_oci : plainFor (⟨"java/util/Objects", "checkIndex", "(II)I"⟩ : MethodName) = true := by first | exact plainFor_of_name (by first | (simp [plainName, overriddenIn, x]; done) | decide +kernel) | exact Jvm.Free.JP.mathPlain rfl (by decide +kernel) | decide +kernel
theorem ef_oci (m : MethodId) (xi : Int32) (xl : Int32) : entryFrame m #[(.int xi), (.int xl)] 2 = mkF m 0 #[iv xi, iv xl] [] := by first | (simp [entryFrame, mkF, argsToLocals, Value.category, maxLocals]; done) | rfl
def Q_oci (Z : State) (xi : Int32) (xl : Int32)  (h0 : Heap) (n0 : Nat) (v : Option Value) (h : Heap) (L : List Loc) : Prop := v = some (.int xi) ∧ Fr n0 L ∧ h = h0
set_option maxRecDepth 65536 in
set_option maxHeartbeats 40000000 in
theorem rm_oci (l : Launch) (Z : State) (a0 : Array Value) (hw : ∀ d ∈ tables_1, d.before a0 Z = true) (ws : List Jvm.Cond) (xi : Int32) (xl : Int32)  (h0 : Heap) (n0 : Nat) (Z0 : n0 ≤ h0.size) (h0_ : ¬ (xi < 0)) (h1_ : xi < xl)  :
    MetFree l (⟨"java/util/Objects", "checkIndex", "(II)I"⟩ : MethodName) (head1 (Jvm.Cond.code (⟨"java/util/Objects", "checkIndex", "(II)I"⟩ : MethodName) jdk_31_method_17_code 2 (some .int) :: ws) ({ frames := 1, cells := 0, slots := 0, locals := 14 } : Room)) (fun a U => a = #[(.int xi), (.int xl)] ∧ Z.Warmed39 U.vm ∧ U.heap = h0) (fun _ _ _ _ _ => True) (fun _ U o U' => ∃ v L, o = .returned v ∧ Q_oci Z xi xl  h0 n0 v U'.heap L ∧ FrameEnd U o U' L ({ frames := 1, cells := 0, slots := 0, locals := 14 } : Room).cells ({ frames := 1, cells := 0, slots := 0, locals := 14 } : Room).slots) := by
  refine MetFree.of_bodySF pf_oci hisR ?_
  intro p e s m args below meth c s₁ Bd hml0 hP hK
  obtain ⟨rfl, hZ, hh⟩ := hP
  have hx := Bd.exec
  have hby := Bd.bytes
  have hml : c.maxLocals = 2 := hml0
  have hown : s.vm.findClass "java/util/Objects" = some m.cls := findClass_of_methodNamed Bd.named
  have hnm := (name_of_methodNamed Bd.named Bd.method).1
  have X0 : Stand p l e ({ frames := 1, cells := 0, slots := 0, locals := 14 } : Room) s m #[(.int xi), (.int xl)] below meth c s₁ [] 0 0 := Stand.of_body Bd
  have e0 : s₁.heap = h0 := by rw [← hh, Bd.state]; rfl
  have N0 := Fr.nil n0
  obtain ⟨S0, hS0⟩ : ∃ z, z = s₁.setTop (entryFrame m #[(.int xi), (.int xl)] 2) := ⟨_, rfl⟩
  rw [← hS0]
  have g0 : Goes p e below S0 (s₁.setTop (mkF m 0 #[iv xi, iv xl] [])) := fun t k => by rw [hS0]; exact castTop (ef_oci m xi xl) k
  have g133 : Goes p e below S0 (s₁.setTop (mkF m 3 #[iv xi, iv xl] [.null, (.int xl), (.int xi)])) := fun t k => g0 t (by
    refine XS.iloadN X0.here hx rfl (hb hby d14_0) rfl ?_
    show Go p e below t s₁ m 1 #[iv xi, iv xl] [(.int xi)]
    refine XS.iloadN X0.here hx rfl (hb hby d14_1) rfl ?_
    show Go p e below t s₁ m 2 #[iv xi, iv xl] [(.int xl), (.int xi)]
    refine XS.aconstNull X0.here hx rfl (hb hby d14_2) ?_
    show Go p e below t s₁ m 3 #[iv xi, iv xl] [.null, (.int xl), (.int xi)]
    exact k)
  obtain ⟨_, _, ⟨T134, L134, k134, n134⟩, -, X134, ⟨Lc134, hQ134, l134, y134, z134⟩, st134⟩ := Jvm.LawKit.callS X0 hx (y := (⟨"jdk/internal/util/Preconditions", "checkIndex", "(IILjava/util/function/BiFunction;)I"⟩ : MethodName)) hown (mvT hZ (hw _ (List.mem_of_getElem? (i := 107) rfl))) (mvT hZ (hw _ (List.mem_of_getElem? (i := 108) rfl))) (mvT hZ (hw _ (List.mem_of_getElem? (i := 109) rfl))) (mvT hZ (hw _ (List.mem_of_getElem? (i := 110) rfl))) (by decide) (backOf (W := 0) (rm_pci l Z a0 hw [] xi xl  h0 n0 Z0 h0_ h1_) hZ (hw _ (List.mem_of_getElem? (i := 110) rfl)) (hw _ (List.mem_of_getElem? (i := 109) rfl)) (by decide) (by decide)) (g := (mkF m 3 #[iv xi, iv xl] [.null, (.int xl), (.int xi)])) rfl (by rw [hml]; rfl) (argsL := [(.int xi), (.int xl), .null]) (rest := []) (lenOf pd7 rfl) rfl (by show 2 * 0 + _ ≤ _; exact Nat.le_of_eq rfl) (hb hby d14_3) (fun _ _ => ⟨rfl, e0, (by decide : 0 + 0 ≤ _), (by decide : 0 + 0 ≤ _)⟩)
  dsimp only [Pt.U, Pt.locs, Pt.cells, Pt.slots] at X134 l134 y134 z134 st134 hQ134
  subst l134 y134 z134
  obtain ⟨rfl, N134, R134_0⟩ := hQ134
  have M134 := Fr.app N0 N134
  have g135 : Goes p e below S0 (T134.setTop (mkF m 6 #[iv xi, iv xl] [(.int xi)])) := fun t k => g133 t (st134 t k)
  obtain ⟨fs, hr, hrun, hended, hW, hsame⟩ := X134.leave (v := some (.int xi)) (fun h => by rw [Bd.returns] at h; cases h)
  refine ⟨_, _, g135 _ (retOut X134 hx Bd.returns rfl (Or.inl ⟨rfl, Or.inl rfl, _, rfl⟩) (hb hby d14_6) hr), hrun, hended, _, _, rfl, ?_, ⟨_, rfl⟩, hW, hsame.mono (by decide) (by decide)⟩
  show Q_oci Z xi xl  h0 n0 _ T134.heap _
  rw [R134_0]
  exact ⟨rfl, M134, rfl⟩
theorem d18_0 : decode jdk_38_method_8_code 0 = .ok (.aload_n 0, 1) := by decide +kernel
theorem d18_1 : decode jdk_38_method_8_code 1 = .ok (.getfield 48, 3) := by decide +kernel
theorem d18_4 : decode jdk_38_method_8_code 4 = .ok (.ireturn, 1) := by decide +kernel
theorem pd8 : parseMethodDescriptor "()I" = some ⟨[], some .int⟩ := by decide +kernel
theorem pf_siz1 : plainFor (⟨"java/util/ArrayList", "size", "()I"⟩ : MethodName) = true := by first | exact plainFor_of_name (by first | (simp [plainName, overriddenIn, x]; done) | decide +kernel) | exact Jvm.Free.JP.mathPlain rfl (by decide +kernel) | decide +kernel
theorem ef_siz1 (m : MethodId) (aa : Addr) : entryFrame m #[(.ref aa)] 1 = mkF m 0 #[rv aa] [] := by first | (simp [entryFrame, mkF, argsToLocals, Value.category, maxLocals]; done) | rfl
def Q_siz1 (Z : State) (aa : Addr)  (h0 : Heap) (n0 : Nat) (v : Option Value) (h : Heap) (L : List Loc) : Prop := v = some (.int (1 : Int32)) ∧ Fr n0 L ∧ h = h0
set_option maxRecDepth 65536 in
set_option maxHeartbeats 40000000 in
theorem rm_siz1 (l : Launch) (Z : State) (a0 : Array Value) (hw : ∀ d ∈ tables_1, d.before a0 Z = true) (ws : List Jvm.Cond) (aa : Addr)  (h0 : Heap) (n0 : Nat) (Z0 : n0 ≤ h0.size) (P0 : Fld Z h0 aa "java/util/ArrayList" "size" "I" (.int (1 : Int32)))  :
    MetFree l (⟨"java/util/ArrayList", "size", "()I"⟩ : MethodName) (head1 (Jvm.Cond.code (⟨"java/util/ArrayList", "size", "()I"⟩ : MethodName) jdk_38_method_8_code 1 (some .int) :: ws) ({ frames := 0, cells := 0, slots := 0, locals := 0 } : Room)) (fun a U => a = #[(.ref aa)] ∧ Z.Warmed39 U.vm ∧ U.heap = h0) (fun _ _ _ _ _ => True) (fun _ U o U' => ∃ v L, o = .returned v ∧ Q_siz1 Z aa  h0 n0 v U'.heap L ∧ FrameEnd U o U' L ({ frames := 0, cells := 0, slots := 0, locals := 0 } : Room).cells ({ frames := 0, cells := 0, slots := 0, locals := 0 } : Room).slots) := by
  refine MetFree.of_bodySF pf_siz1 hisR ?_
  intro p e s m args below meth c s₁ Bd hml0 hP hK
  obtain ⟨rfl, hZ, hh⟩ := hP
  have hx := Bd.exec
  have hby := Bd.bytes
  have hml : c.maxLocals = 1 := hml0
  have hown : s.vm.findClass "java/util/ArrayList" = some m.cls := findClass_of_methodNamed Bd.named
  have hnm := (name_of_methodNamed Bd.named Bd.method).1
  have X0 : Stand p l e ({ frames := 0, cells := 0, slots := 0, locals := 0 } : Room) s m #[(.ref aa)] below meth c s₁ [] 0 0 := Stand.of_body Bd
  have e0 : s₁.heap = h0 := by rw [← hh, Bd.state]; rfl
  have N0 := Fr.nil n0
  obtain ⟨S0, hS0⟩ : ∃ z, z = s₁.setTop (entryFrame m #[(.ref aa)] 1) := ⟨_, rfl⟩
  rw [← hS0]
  have g0 : Goes p e below S0 (s₁.setTop (mkF m 0 #[rv aa] [])) := fun t k => by rw [hS0]; exact castTop (ef_siz1 m aa) k
  have g136 : Goes p e below S0 (s₁.setTop (mkF m 1 #[rv aa] [(.ref aa)])) := fun t k => g0 t (by
    refine XS.aloadN X0.here hx rfl (hb hby d18_0) rfl rfl ?_
    show Go p e below t s₁ m 1 #[rv aa] [(.ref aa)]
    exact k)
  obtain ⟨T137, X137, e137, st137⟩ := getF X0 hx hZ hown (host := "") (Or.inl (hw _ (List.mem_of_getElem? (i := 69) rfl))) Via.refl e0 P0 (g := (mkF m 1 #[rv aa] [(.ref aa)])) rfl rfl (hb hby d18_1)
  have g138 : Goes p e below S0 (T137.setTop (mkF m 4 #[rv aa] [(.int (1 : Int32))])) := fun t k => g136 t (st137 t k)
  obtain ⟨fs, hr, hrun, hended, hW, hsame⟩ := X137.leave (v := some (.int (1 : Int32))) (fun h => by rw [Bd.returns] at h; cases h)
  refine ⟨_, _, g138 _ (retOut X137 hx Bd.returns rfl (Or.inl ⟨rfl, Or.inl rfl, _, rfl⟩) (hb hby d18_4) hr), hrun, hended, _, _, rfl, ?_, ⟨_, rfl⟩, hW, hsame.mono (by decide) (by decide)⟩
  show Q_siz1 Z aa  h0 n0 _ T137.heap _
  rw [e137]
  exact ⟨rfl, N0, rfl⟩
theorem d16_0 : decode jdk_38_method_18_code 0 = .ok (.aload_n 0, 1) := by decide +kernel
theorem d16_1 : decode jdk_38_method_18_code 1 = .ok (.getfield 9, 3) := by decide +kernel
theorem d16_4 : decode jdk_38_method_18_code 4 = .ok (.iload_n 1, 1) := by decide +kernel
theorem d16_5 : decode jdk_38_method_18_code 5 = .ok (.aaload, 1) := by decide +kernel
theorem d16_6 : decode jdk_38_method_18_code 6 = .ok (.areturn, 1) := by decide +kernel
theorem pd9 : parseMethodDescriptor "(I)Ljava/lang/Object;" = some ⟨[.int], some (.object "java/lang/Object")⟩ := by decide +kernel
theorem pf_eld10 : plainFor (⟨"java/util/ArrayList", "elementData", "(I)Ljava/lang/Object;"⟩ : MethodName) = true := by first | exact plainFor_of_name (by first | (simp [plainName, overriddenIn, x]; done) | decide +kernel) | exact Jvm.Free.JP.mathPlain rfl (by decide +kernel) | decide +kernel
theorem ef_eld10 (m : MethodId) (aa : Addr) (xi : Int32) : entryFrame m #[(.ref aa), (.int xi)] 2 = mkF m 0 #[rv aa, iv xi] [] := by first | (simp [entryFrame, mkF, argsToLocals, Value.category, maxLocals]; done) | rfl
def Q_eld10 (Z : State) (aa : Addr) (xi : Int32) (ea : Addr) (ek : ClassId) (x0 : Addr) (h0 : Heap) (n0 : Nat) (v : Option Value) (h : Heap) (L : List Loc) : Prop := v = some (.ref x0) ∧ Fr n0 L ∧ h = h0
set_option maxRecDepth 65536 in
set_option maxHeartbeats 40000000 in
theorem rm_eld10 (l : Launch) (Z : State) (a0 : Array Value) (hw : ∀ d ∈ tables_1, d.before a0 Z = true) (ws : List Jvm.Cond) (aa : Addr) (xi : Int32) (ea : Addr) (ek : ClassId) (x0 : Addr) (h0 : Heap) (n0 : Nat) (Z0 : n0 ≤ h0.size) (P0 : Fld Z h0 aa "java/util/ArrayList" "elementData" "[Ljava/lang/Object;" (.ref ea)) (P1 : Arv Z h0 ea ek (.object "java/lang/Object") (10 : Int32) [(.ref x0), .null, .null, .null, .null, .null, .null, .null, .null, .null] .null) (q1 : xi = (0 : Int32))  :
    MetFree l (⟨"java/util/ArrayList", "elementData", "(I)Ljava/lang/Object;"⟩ : MethodName) (head1 (Jvm.Cond.code (⟨"java/util/ArrayList", "elementData", "(I)Ljava/lang/Object;"⟩ : MethodName) jdk_38_method_18_code 2 (some (.object "java/lang/Object")) :: ws) ({ frames := 0, cells := 0, slots := 0, locals := 0 } : Room)) (fun a U => a = #[(.ref aa), (.int xi)] ∧ Z.Warmed39 U.vm ∧ U.heap = h0) (fun _ _ _ _ _ => True) (fun _ U o U' => ∃ v L, o = .returned v ∧ Q_eld10 Z aa xi ea ek x0 h0 n0 v U'.heap L ∧ FrameEnd U o U' L ({ frames := 0, cells := 0, slots := 0, locals := 0 } : Room).cells ({ frames := 0, cells := 0, slots := 0, locals := 0 } : Room).slots) := by
  refine MetFree.of_bodySF pf_eld10 hisR ?_
  intro p e s m args below meth c s₁ Bd hml0 hP hK
  obtain ⟨rfl, hZ, hh⟩ := hP
  have hx := Bd.exec
  have hby := Bd.bytes
  have hml : c.maxLocals = 2 := hml0
  have hown : s.vm.findClass "java/util/ArrayList" = some m.cls := findClass_of_methodNamed Bd.named
  have hnm := (name_of_methodNamed Bd.named Bd.method).1
  have X0 : Stand p l e ({ frames := 0, cells := 0, slots := 0, locals := 0 } : Room) s m #[(.ref aa), (.int xi)] below meth c s₁ [] 0 0 := Stand.of_body Bd
  have e0 : s₁.heap = h0 := by rw [← hh, Bd.state]; rfl
  have N0 := Fr.nil n0
  obtain ⟨S0, hS0⟩ : ∃ z, z = s₁.setTop (entryFrame m #[(.ref aa), (.int xi)] 2) := ⟨_, rfl⟩
  rw [← hS0]
  have g0 : Goes p e below S0 (s₁.setTop (mkF m 0 #[rv aa, iv xi] [])) := fun t k => by rw [hS0]; exact castTop (ef_eld10 m aa xi) k
  obtain rfl : xi = (0 : Int32) := q1
  have g139 : Goes p e below S0 (s₁.setTop (mkF m 1 #[rv aa, iv (0 : Int32)] [(.ref aa)])) := fun t k => g0 t (by
    refine XS.aloadN X0.here hx rfl (hb hby d16_0) rfl rfl ?_
    show Go p e below t s₁ m 1 #[rv aa, iv (0 : Int32)] [(.ref aa)]
    exact k)
  obtain ⟨T140, X140, e140, st140⟩ := getF X0 hx hZ hown (host := "") (Or.inl (hw _ (List.mem_of_getElem? (i := 32) rfl))) Via.refl e0 P0 (g := (mkF m 1 #[rv aa, iv (0 : Int32)] [(.ref aa)])) rfl rfl (hb hby d16_1)
  have g141 : Goes p e below S0 (T140.setTop (mkF m 4 #[rv aa, iv (0 : Int32)] [(.ref ea)])) := fun t k => g139 t (st140 t k)
  have g142 : Goes p e below S0 (T140.setTop (mkF m 5 #[rv aa, iv (0 : Int32)] [(.int (0 : Int32)), (.ref ea)])) := fun t k => g141 t (by
    refine XS.iloadN X140.here hx rfl (hb hby d16_4) rfl ?_
    show Go p e below t T140 m 5 #[rv aa, iv (0 : Int32)] [(.int (0 : Int32)), (.ref ea)]
    exact k)
  obtain ⟨cl143, Ar143, q143, S143, M143, H143, G143⟩ := id P1
  have g144 : Goes p e below S0 (T140.setTop (mkF m 6 #[rv aa, iv (0 : Int32)] [(.ref x0)])) := fun t k => g142 t (by
    refine X140.aaload hx (j := (0 : Int32)) (v := (.ref x0)) (by rw [e140]; exact Ar143.1) (State.isArrayOf_alike hZ.alike Ar143.2.1) rfl Ar143.2.2 (inb_of S143 ⟨by decide, by decide⟩) (H143.at (inb_of S143 ⟨by decide, by decide⟩) rfl) (g := (mkF m 5 #[rv aa, iv (0 : Int32)] [(.int (0 : Int32)), (.ref ea)])) rfl rfl (hb hby d16_5) _ ?_
    show Go p e below t T140 m 6 #[rv aa, iv (0 : Int32)] [(.ref x0)]
    exact k)
  obtain ⟨fs, hr, hrun, hended, hW, hsame⟩ := X140.leave (v := some (.ref x0)) (fun h => by rw [Bd.returns] at h; cases h)
  refine ⟨_, _, g144 _ (retOut X140 hx Bd.returns rfl (Or.inr (Or.inr (Or.inr (Or.inr ⟨rfl, rfl, rfl⟩)))) (hb hby d16_6) hr), hrun, hended, _, _, rfl, ?_, ⟨_, rfl⟩, hW, hsame.mono (by decide) (by decide)⟩
  show Q_eld10 Z aa (0 : Int32) ea ek x0 h0 n0 _ T140.heap _
  rw [e140]
  exact ⟨rfl, N0, rfl⟩
theorem d13_0 : decode jdk_38_method_20_code 0 = .ok (.iload_n 1, 1) := by decide +kernel
theorem d13_1 : decode jdk_38_method_20_code 1 = .ok (.aload_n 0, 1) := by decide +kernel
theorem d13_2 : decode jdk_38_method_20_code 2 = .ok (.getfield 48, 3) := by decide +kernel
theorem d13_5 : decode jdk_38_method_20_code 5 = .ok (.invokestatic 118, 3) := by decide +kernel
theorem d13_8 : decode jdk_38_method_20_code 8 = .ok (.pop, 1) := by decide +kernel
theorem d13_9 : decode jdk_38_method_20_code 9 = .ok (.aload_n 0, 1) := by decide +kernel
theorem d13_10 : decode jdk_38_method_20_code 10 = .ok (.iload_n 1, 1) := by decide +kernel
theorem d13_11 : decode jdk_38_method_20_code 11 = .ok (.invokevirtual 123, 3) := by decide +kernel
theorem d13_14 : decode jdk_38_method_20_code 14 = .ok (.areturn, 1) := by decide +kernel
theorem pf_get10 : plainFor (⟨"java/util/ArrayList", "get", "(I)Ljava/lang/Object;"⟩ : MethodName) = true := by first | exact plainFor_of_name (by first | (simp [plainName, overriddenIn, x]; done) | decide +kernel) | exact Jvm.Free.JP.mathPlain rfl (by decide +kernel) | decide +kernel
theorem ef_get10 (m : MethodId) (aa : Addr) (xi : Int32) : entryFrame m #[(.ref aa), (.int xi)] 2 = mkF m 0 #[rv aa, iv xi] [] := by first | (simp [entryFrame, mkF, argsToLocals, Value.category, maxLocals]; done) | rfl
def Q_get10 (Z : State) (aa : Addr) (xi : Int32) (ea : Addr) (ek : ClassId) (x0 : Addr) (h0 : Heap) (n0 : Nat) (v : Option Value) (h : Heap) (L : List Loc) : Prop := v = some (.ref x0) ∧ Fr n0 L ∧ h = h0
set_option maxRecDepth 65536 in
set_option maxHeartbeats 40000000 in
theorem rm_get10 (l : Launch) (Z : State) (a0 : Array Value) (hw : ∀ d ∈ tables_1, d.before a0 Z = true) (ws : List Jvm.Cond) (aa : Addr) (xi : Int32) (ea : Addr) (ek : ClassId) (x0 : Addr) (h0 : Heap) (n0 : Nat) (Z0 : n0 ≤ h0.size) (P0 : Exa Z h0 aa "java/util/ArrayList") (P1 : Fld Z h0 aa "java/util/ArrayList" "size" "I" (.int (1 : Int32))) (P2 : Fld Z h0 aa "java/util/ArrayList" "elementData" "[Ljava/lang/Object;" (.ref ea)) (P3 : Arv Z h0 ea ek (.object "java/lang/Object") (10 : Int32) [(.ref x0), .null, .null, .null, .null, .null, .null, .null, .null, .null] .null) (q1 : xi = (0 : Int32))  :
    MetFree l (⟨"java/util/ArrayList", "get", "(I)Ljava/lang/Object;"⟩ : MethodName) (head1 (Jvm.Cond.code (⟨"java/util/ArrayList", "get", "(I)Ljava/lang/Object;"⟩ : MethodName) jdk_38_method_20_code 2 (some (.object "java/lang/Object")) :: ws) ({ frames := 2, cells := 0, slots := 0, locals := 27 } : Room)) (fun a U => a = #[(.ref aa), (.int xi)] ∧ Z.Warmed39 U.vm ∧ U.heap = h0) (fun _ _ _ _ _ => True) (fun _ U o U' => ∃ v L, o = .returned v ∧ Q_get10 Z aa xi ea ek x0 h0 n0 v U'.heap L ∧ FrameEnd U o U' L ({ frames := 2, cells := 0, slots := 0, locals := 27 } : Room).cells ({ frames := 2, cells := 0, slots := 0, locals := 27 } : Room).slots) := by
  refine MetFree.of_bodySF pf_get10 hisR ?_
  intro p e s m args below meth c s₁ Bd hml0 hP hK
  obtain ⟨rfl, hZ, hh⟩ := hP
  have hx := Bd.exec
  have hby := Bd.bytes
  have hml : c.maxLocals = 2 := hml0
  have hown : s.vm.findClass "java/util/ArrayList" = some m.cls := findClass_of_methodNamed Bd.named
  have hnm := (name_of_methodNamed Bd.named Bd.method).1
  have X0 : Stand p l e ({ frames := 2, cells := 0, slots := 0, locals := 27 } : Room) s m #[(.ref aa), (.int xi)] below meth c s₁ [] 0 0 := Stand.of_body Bd
  have e0 : s₁.heap = h0 := by rw [← hh, Bd.state]; rfl
  have N0 := Fr.nil n0
  obtain ⟨S0, hS0⟩ : ∃ z, z = s₁.setTop (entryFrame m #[(.ref aa), (.int xi)] 2) := ⟨_, rfl⟩
  rw [← hS0]
  have g0 : Goes p e below S0 (s₁.setTop (mkF m 0 #[rv aa, iv xi] [])) := fun t k => by rw [hS0]; exact castTop (ef_get10 m aa xi) k
  obtain rfl : xi = (0 : Int32) := q1
  have g145 : Goes p e below S0 (s₁.setTop (mkF m 2 #[rv aa, iv (0 : Int32)] [(.ref aa), (.int (0 : Int32))])) := fun t k => g0 t (by
    refine XS.iloadN X0.here hx rfl (hb hby d13_0) rfl ?_
    show Go p e below t s₁ m 1 #[rv aa, iv (0 : Int32)] [(.int (0 : Int32))]
    refine XS.aloadN X0.here hx rfl (hb hby d13_1) rfl rfl ?_
    show Go p e below t s₁ m 2 #[rv aa, iv (0 : Int32)] [(.ref aa), (.int (0 : Int32))]
    exact k)
  obtain ⟨T146, X146, e146, st146⟩ := getF X0 hx hZ hown (host := "") (Or.inl (hw _ (List.mem_of_getElem? (i := 69) rfl))) Via.refl e0 P1 (g := (mkF m 2 #[rv aa, iv (0 : Int32)] [(.ref aa), (.int (0 : Int32))])) rfl rfl (hb hby d13_2)
  have g147 : Goes p e below S0 (T146.setTop (mkF m 5 #[rv aa, iv (0 : Int32)] [(.int (1 : Int32)), (.int (0 : Int32))])) := fun t k => g145 t (st146 t k)
  obtain ⟨_, _, ⟨T148, L148, k148, n148⟩, -, X148, ⟨Lc148, hQ148, l148, y148, z148⟩, st148⟩ := Jvm.LawKit.callS X146 hx (y := (⟨"java/util/Objects", "checkIndex", "(II)I"⟩ : MethodName)) hown (mvT hZ (hw _ (List.mem_of_getElem? (i := 103) rfl))) (mvT hZ (hw _ (List.mem_of_getElem? (i := 104) rfl))) (mvT hZ (hw _ (List.mem_of_getElem? (i := 105) rfl))) (mvT hZ (hw _ (List.mem_of_getElem? (i := 106) rfl))) (by decide) (backOf (W := 0) (rm_oci l Z a0 hw [] (0 : Int32) (1 : Int32)  h0 n0 Z0 (by decide) (by decide)) hZ (hw _ (List.mem_of_getElem? (i := 106) rfl)) (hw _ (List.mem_of_getElem? (i := 105) rfl)) (by decide) (by decide)) (g := (mkF m 5 #[rv aa, iv (0 : Int32)] [(.int (1 : Int32)), (.int (0 : Int32))])) rfl (by rw [hml]; rfl) (argsL := [(.int (0 : Int32)), (.int (1 : Int32))]) (rest := []) (lenOf pd2 rfl) rfl (by show 2 * 0 + _ ≤ _; exact Nat.le_of_eq rfl) (hb hby d13_5) (fun _ _ => ⟨rfl, e146, (by decide : 0 + 0 ≤ _), (by decide : 0 + 0 ≤ _)⟩)
  dsimp only [Pt.U, Pt.locs, Pt.cells, Pt.slots] at X148 l148 y148 z148 st148 hQ148
  subst l148 y148 z148
  obtain ⟨rfl, N148, R148_0⟩ := hQ148
  have M148 := Fr.app N0 N148
  have g149 : Goes p e below S0 (T148.setTop (mkF m 8 #[rv aa, iv (0 : Int32)] [(.int (0 : Int32))])) := fun t k => g147 t (st148 t k)
  have g150 : Goes p e below S0 (T148.setTop (mkF m 11 #[rv aa, iv (0 : Int32)] [(.int (0 : Int32)), (.ref aa)])) := fun t k => g149 t (by
    refine XS.pop X148.here hx rfl (hb hby d13_8) rfl rfl ?_
    show Go p e below t T148 m 9 #[rv aa, iv (0 : Int32)] []
    refine XS.aloadN X148.here hx rfl (hb hby d13_9) rfl rfl ?_
    show Go p e below t T148 m 10 #[rv aa, iv (0 : Int32)] [(.ref aa)]
    refine XS.iloadN X148.here hx rfl (hb hby d13_10) rfl ?_
    show Go p e below t T148 m 11 #[rv aa, iv (0 : Int32)] [(.int (0 : Int32)), (.ref aa)]
    exact k)
  obtain ⟨cq151, kq151, q151a, q151b, q151c⟩ := isOf hZ R148_0 P0
  obtain ⟨_, _, ⟨T151, L151, k151, n151⟩, -, X151, ⟨Lc151, hQ151, l151, y151, z151⟩, st151⟩ := X148.virtualBack hx (y := (⟨"java/util/ArrayList", "elementData", "(I)Ljava/lang/Object;"⟩ : MethodName)) (z := (⟨"java/util/ArrayList", "elementData", "(I)Ljava/lang/Object;"⟩ : MethodName)) hown (mvT hZ (hw _ (List.mem_of_getElem? (i := 111) rfl))) (mvT hZ (hw _ (List.mem_of_getElem? (i := 112) rfl))) (notFace_of_selects (args := #[]) (mvT hZ (hw _ (List.mem_of_getElem? (i := 114) rfl)))) (mvT hZ (hw _ (List.mem_of_getElem? (i := 114) rfl))) (mvT hZ (hw _ (List.mem_of_getElem? (i := 113) rfl))) (by decide) (backOf (W := 0) (rm_eld10 l Z a0 hw [] aa (0 : Int32) ea ek x0 h0 n0 Z0 P2 P3 rfl) hZ (hw _ (List.mem_of_getElem? (i := 115) rfl)) (hw _ (List.mem_of_getElem? (i := 10) rfl)) (by decide) (by decide)) q151a q151c (g := (mkF m 11 #[rv aa, iv (0 : Int32)] [(.int (0 : Int32)), (.ref aa)])) rfl (by rw [hml]; rfl) (Steps.refl _) (argsL := [(.int (0 : Int32))]) (rest := []) (lenOf pd9 rfl) rfl (by show 2 * 0 + _ ≤ _; exact Nat.le_of_eq rfl) (hb hby d13_11) (fun _ _ => ⟨rfl, R148_0, (by decide : 0 + 0 ≤ _), (by decide : 0 + 0 ≤ _)⟩)
  dsimp only [Pt.U, Pt.locs, Pt.cells, Pt.slots] at X151 l151 y151 z151 st151 hQ151
  subst l151 y151 z151
  obtain ⟨rfl, N151, R151_0⟩ := hQ151
  have M151 := Fr.app M148 N151
  have g152 : Goes p e below S0 (T151.setTop (mkF m 14 #[rv aa, iv (0 : Int32)] [(.ref x0)])) := fun t k => g150 t (st151.trans k)
  obtain ⟨fs, hr, hrun, hended, hW, hsame⟩ := X151.leave (v := some (.ref x0)) (fun h => by rw [Bd.returns] at h; cases h)
  refine ⟨_, _, g152 _ (retOut X151 hx Bd.returns rfl (Or.inr (Or.inr (Or.inr (Or.inr ⟨rfl, rfl, rfl⟩)))) (hb hby d13_14) hr), hrun, hended, _, _, rfl, ?_, ⟨_, rfl⟩, hW, hsame.mono (by decide) (by decide)⟩
  show Q_get10 Z aa (0 : Int32) ea ek x0 h0 n0 _ T151.heap _
  rw [R151_0]
  exact ⟨rfl, M151, rfl⟩
theorem pf_siz2 : plainFor (⟨"java/util/ArrayList", "size", "()I"⟩ : MethodName) = true := by first | exact plainFor_of_name (by first | (simp [plainName, overriddenIn, x]; done) | decide +kernel) | exact Jvm.Free.JP.mathPlain rfl (by decide +kernel) | decide +kernel
theorem ef_siz2 (m : MethodId) (aa : Addr) : entryFrame m #[(.ref aa)] 1 = mkF m 0 #[rv aa] [] := by first | (simp [entryFrame, mkF, argsToLocals, Value.category, maxLocals]; done) | rfl
def Q_siz2 (Z : State) (aa : Addr)  (h0 : Heap) (n0 : Nat) (v : Option Value) (h : Heap) (L : List Loc) : Prop := v = some (.int (2 : Int32)) ∧ Fr n0 L ∧ h = h0
set_option maxRecDepth 65536 in
set_option maxHeartbeats 40000000 in
theorem rm_siz2 (l : Launch) (Z : State) (a0 : Array Value) (hw : ∀ d ∈ tables_1, d.before a0 Z = true) (ws : List Jvm.Cond) (aa : Addr)  (h0 : Heap) (n0 : Nat) (Z0 : n0 ≤ h0.size) (P0 : Fld Z h0 aa "java/util/ArrayList" "size" "I" (.int (2 : Int32)))  :
    MetFree l (⟨"java/util/ArrayList", "size", "()I"⟩ : MethodName) (head1 (Jvm.Cond.code (⟨"java/util/ArrayList", "size", "()I"⟩ : MethodName) jdk_38_method_8_code 1 (some .int) :: ws) ({ frames := 0, cells := 0, slots := 0, locals := 0 } : Room)) (fun a U => a = #[(.ref aa)] ∧ Z.Warmed39 U.vm ∧ U.heap = h0) (fun _ _ _ _ _ => True) (fun _ U o U' => ∃ v L, o = .returned v ∧ Q_siz2 Z aa  h0 n0 v U'.heap L ∧ FrameEnd U o U' L ({ frames := 0, cells := 0, slots := 0, locals := 0 } : Room).cells ({ frames := 0, cells := 0, slots := 0, locals := 0 } : Room).slots) := by
  refine MetFree.of_bodySF pf_siz2 hisR ?_
  intro p e s m args below meth c s₁ Bd hml0 hP hK
  obtain ⟨rfl, hZ, hh⟩ := hP
  have hx := Bd.exec
  have hby := Bd.bytes
  have hml : c.maxLocals = 1 := hml0
  have hown : s.vm.findClass "java/util/ArrayList" = some m.cls := findClass_of_methodNamed Bd.named
  have hnm := (name_of_methodNamed Bd.named Bd.method).1
  have X0 : Stand p l e ({ frames := 0, cells := 0, slots := 0, locals := 0 } : Room) s m #[(.ref aa)] below meth c s₁ [] 0 0 := Stand.of_body Bd
  have e0 : s₁.heap = h0 := by rw [← hh, Bd.state]; rfl
  have N0 := Fr.nil n0
  obtain ⟨S0, hS0⟩ : ∃ z, z = s₁.setTop (entryFrame m #[(.ref aa)] 1) := ⟨_, rfl⟩
  rw [← hS0]
  have g0 : Goes p e below S0 (s₁.setTop (mkF m 0 #[rv aa] [])) := fun t k => by rw [hS0]; exact castTop (ef_siz2 m aa) k
  have g153 : Goes p e below S0 (s₁.setTop (mkF m 1 #[rv aa] [(.ref aa)])) := fun t k => g0 t (by
    refine XS.aloadN X0.here hx rfl (hb hby d18_0) rfl rfl ?_
    show Go p e below t s₁ m 1 #[rv aa] [(.ref aa)]
    exact k)
  obtain ⟨T154, X154, e154, st154⟩ := getF X0 hx hZ hown (host := "") (Or.inl (hw _ (List.mem_of_getElem? (i := 69) rfl))) Via.refl e0 P0 (g := (mkF m 1 #[rv aa] [(.ref aa)])) rfl rfl (hb hby d18_1)
  have g155 : Goes p e below S0 (T154.setTop (mkF m 4 #[rv aa] [(.int (2 : Int32))])) := fun t k => g153 t (st154 t k)
  obtain ⟨fs, hr, hrun, hended, hW, hsame⟩ := X154.leave (v := some (.int (2 : Int32))) (fun h => by rw [Bd.returns] at h; cases h)
  refine ⟨_, _, g155 _ (retOut X154 hx Bd.returns rfl (Or.inl ⟨rfl, Or.inl rfl, _, rfl⟩) (hb hby d18_4) hr), hrun, hended, _, _, rfl, ?_, ⟨_, rfl⟩, hW, hsame.mono (by decide) (by decide)⟩
  show Q_siz2 Z aa  h0 n0 _ T154.heap _
  rw [e154]
  exact ⟨rfl, N0, rfl⟩
theorem pf_eld20 : plainFor (⟨"java/util/ArrayList", "elementData", "(I)Ljava/lang/Object;"⟩ : MethodName) = true := by first | exact plainFor_of_name (by first | (simp [plainName, overriddenIn, x]; done) | decide +kernel) | exact Jvm.Free.JP.mathPlain rfl (by decide +kernel) | decide +kernel
theorem ef_eld20 (m : MethodId) (aa : Addr) (xi : Int32) : entryFrame m #[(.ref aa), (.int xi)] 2 = mkF m 0 #[rv aa, iv xi] [] := by first | (simp [entryFrame, mkF, argsToLocals, Value.category, maxLocals]; done) | rfl
def Q_eld20 (Z : State) (aa : Addr) (xi : Int32) (ea : Addr) (ek : ClassId) (x0 : Addr) (x1 : Addr) (h0 : Heap) (n0 : Nat) (v : Option Value) (h : Heap) (L : List Loc) : Prop := v = some (.ref x0) ∧ Fr n0 L ∧ h = h0
set_option maxRecDepth 65536 in
set_option maxHeartbeats 40000000 in
theorem rm_eld20 (l : Launch) (Z : State) (a0 : Array Value) (hw : ∀ d ∈ tables_1, d.before a0 Z = true) (ws : List Jvm.Cond) (aa : Addr) (xi : Int32) (ea : Addr) (ek : ClassId) (x0 : Addr) (x1 : Addr) (h0 : Heap) (n0 : Nat) (Z0 : n0 ≤ h0.size) (P0 : Fld Z h0 aa "java/util/ArrayList" "elementData" "[Ljava/lang/Object;" (.ref ea)) (P1 : Arv Z h0 ea ek (.object "java/lang/Object") (10 : Int32) [(.ref x0), (.ref x1), .null, .null, .null, .null, .null, .null, .null, .null] .null) (q1 : xi = (0 : Int32))  :
    MetFree l (⟨"java/util/ArrayList", "elementData", "(I)Ljava/lang/Object;"⟩ : MethodName) (head1 (Jvm.Cond.code (⟨"java/util/ArrayList", "elementData", "(I)Ljava/lang/Object;"⟩ : MethodName) jdk_38_method_18_code 2 (some (.object "java/lang/Object")) :: ws) ({ frames := 0, cells := 0, slots := 0, locals := 0 } : Room)) (fun a U => a = #[(.ref aa), (.int xi)] ∧ Z.Warmed39 U.vm ∧ U.heap = h0) (fun _ _ _ _ _ => True) (fun _ U o U' => ∃ v L, o = .returned v ∧ Q_eld20 Z aa xi ea ek x0 x1 h0 n0 v U'.heap L ∧ FrameEnd U o U' L ({ frames := 0, cells := 0, slots := 0, locals := 0 } : Room).cells ({ frames := 0, cells := 0, slots := 0, locals := 0 } : Room).slots) := by
  refine MetFree.of_bodySF pf_eld20 hisR ?_
  intro p e s m args below meth c s₁ Bd hml0 hP hK
  obtain ⟨rfl, hZ, hh⟩ := hP
  have hx := Bd.exec
  have hby := Bd.bytes
  have hml : c.maxLocals = 2 := hml0
  have hown : s.vm.findClass "java/util/ArrayList" = some m.cls := findClass_of_methodNamed Bd.named
  have hnm := (name_of_methodNamed Bd.named Bd.method).1
  have X0 : Stand p l e ({ frames := 0, cells := 0, slots := 0, locals := 0 } : Room) s m #[(.ref aa), (.int xi)] below meth c s₁ [] 0 0 := Stand.of_body Bd
  have e0 : s₁.heap = h0 := by rw [← hh, Bd.state]; rfl
  have N0 := Fr.nil n0
  obtain ⟨S0, hS0⟩ : ∃ z, z = s₁.setTop (entryFrame m #[(.ref aa), (.int xi)] 2) := ⟨_, rfl⟩
  rw [← hS0]
  have g0 : Goes p e below S0 (s₁.setTop (mkF m 0 #[rv aa, iv xi] [])) := fun t k => by rw [hS0]; exact castTop (ef_eld20 m aa xi) k
  obtain rfl : xi = (0 : Int32) := q1
  have g156 : Goes p e below S0 (s₁.setTop (mkF m 1 #[rv aa, iv (0 : Int32)] [(.ref aa)])) := fun t k => g0 t (by
    refine XS.aloadN X0.here hx rfl (hb hby d16_0) rfl rfl ?_
    show Go p e below t s₁ m 1 #[rv aa, iv (0 : Int32)] [(.ref aa)]
    exact k)
  obtain ⟨T157, X157, e157, st157⟩ := getF X0 hx hZ hown (host := "") (Or.inl (hw _ (List.mem_of_getElem? (i := 32) rfl))) Via.refl e0 P0 (g := (mkF m 1 #[rv aa, iv (0 : Int32)] [(.ref aa)])) rfl rfl (hb hby d16_1)
  have g158 : Goes p e below S0 (T157.setTop (mkF m 4 #[rv aa, iv (0 : Int32)] [(.ref ea)])) := fun t k => g156 t (st157 t k)
  have g159 : Goes p e below S0 (T157.setTop (mkF m 5 #[rv aa, iv (0 : Int32)] [(.int (0 : Int32)), (.ref ea)])) := fun t k => g158 t (by
    refine XS.iloadN X157.here hx rfl (hb hby d16_4) rfl ?_
    show Go p e below t T157 m 5 #[rv aa, iv (0 : Int32)] [(.int (0 : Int32)), (.ref ea)]
    exact k)
  obtain ⟨cl160, Ar160, q160, S160, M160, H160, G160⟩ := id P1
  have g161 : Goes p e below S0 (T157.setTop (mkF m 6 #[rv aa, iv (0 : Int32)] [(.ref x0)])) := fun t k => g159 t (by
    refine X157.aaload hx (j := (0 : Int32)) (v := (.ref x0)) (by rw [e157]; exact Ar160.1) (State.isArrayOf_alike hZ.alike Ar160.2.1) rfl Ar160.2.2 (inb_of S160 ⟨by decide, by decide⟩) (H160.at (inb_of S160 ⟨by decide, by decide⟩) rfl) (g := (mkF m 5 #[rv aa, iv (0 : Int32)] [(.int (0 : Int32)), (.ref ea)])) rfl rfl (hb hby d16_5) _ ?_
    show Go p e below t T157 m 6 #[rv aa, iv (0 : Int32)] [(.ref x0)]
    exact k)
  obtain ⟨fs, hr, hrun, hended, hW, hsame⟩ := X157.leave (v := some (.ref x0)) (fun h => by rw [Bd.returns] at h; cases h)
  refine ⟨_, _, g161 _ (retOut X157 hx Bd.returns rfl (Or.inr (Or.inr (Or.inr (Or.inr ⟨rfl, rfl, rfl⟩)))) (hb hby d16_6) hr), hrun, hended, _, _, rfl, ?_, ⟨_, rfl⟩, hW, hsame.mono (by decide) (by decide)⟩
  show Q_eld20 Z aa (0 : Int32) ea ek x0 x1 h0 n0 _ T157.heap _
  rw [e157]
  exact ⟨rfl, N0, rfl⟩
theorem pf_get20 : plainFor (⟨"java/util/ArrayList", "get", "(I)Ljava/lang/Object;"⟩ : MethodName) = true := by first | exact plainFor_of_name (by first | (simp [plainName, overriddenIn, x]; done) | decide +kernel) | exact Jvm.Free.JP.mathPlain rfl (by decide +kernel) | decide +kernel
theorem ef_get20 (m : MethodId) (aa : Addr) (xi : Int32) : entryFrame m #[(.ref aa), (.int xi)] 2 = mkF m 0 #[rv aa, iv xi] [] := by first | (simp [entryFrame, mkF, argsToLocals, Value.category, maxLocals]; done) | rfl
def Q_get20 (Z : State) (aa : Addr) (xi : Int32) (ea : Addr) (ek : ClassId) (x0 : Addr) (x1 : Addr) (h0 : Heap) (n0 : Nat) (v : Option Value) (h : Heap) (L : List Loc) : Prop := v = some (.ref x0) ∧ Fr n0 L ∧ h = h0
set_option maxRecDepth 65536 in
set_option maxHeartbeats 40000000 in
theorem rm_get20 (l : Launch) (Z : State) (a0 : Array Value) (hw : ∀ d ∈ tables_1, d.before a0 Z = true) (ws : List Jvm.Cond) (aa : Addr) (xi : Int32) (ea : Addr) (ek : ClassId) (x0 : Addr) (x1 : Addr) (h0 : Heap) (n0 : Nat) (Z0 : n0 ≤ h0.size) (P0 : Exa Z h0 aa "java/util/ArrayList") (P1 : Fld Z h0 aa "java/util/ArrayList" "size" "I" (.int (2 : Int32))) (P2 : Fld Z h0 aa "java/util/ArrayList" "elementData" "[Ljava/lang/Object;" (.ref ea)) (P3 : Arv Z h0 ea ek (.object "java/lang/Object") (10 : Int32) [(.ref x0), (.ref x1), .null, .null, .null, .null, .null, .null, .null, .null] .null) (q1 : xi = (0 : Int32))  :
    MetFree l (⟨"java/util/ArrayList", "get", "(I)Ljava/lang/Object;"⟩ : MethodName) (head1 (Jvm.Cond.code (⟨"java/util/ArrayList", "get", "(I)Ljava/lang/Object;"⟩ : MethodName) jdk_38_method_20_code 2 (some (.object "java/lang/Object")) :: ws) ({ frames := 2, cells := 0, slots := 0, locals := 27 } : Room)) (fun a U => a = #[(.ref aa), (.int xi)] ∧ Z.Warmed39 U.vm ∧ U.heap = h0) (fun _ _ _ _ _ => True) (fun _ U o U' => ∃ v L, o = .returned v ∧ Q_get20 Z aa xi ea ek x0 x1 h0 n0 v U'.heap L ∧ FrameEnd U o U' L ({ frames := 2, cells := 0, slots := 0, locals := 27 } : Room).cells ({ frames := 2, cells := 0, slots := 0, locals := 27 } : Room).slots) := by
  refine MetFree.of_bodySF pf_get20 hisR ?_
  intro p e s m args below meth c s₁ Bd hml0 hP hK
  obtain ⟨rfl, hZ, hh⟩ := hP
  have hx := Bd.exec
  have hby := Bd.bytes
  have hml : c.maxLocals = 2 := hml0
  have hown : s.vm.findClass "java/util/ArrayList" = some m.cls := findClass_of_methodNamed Bd.named
  have hnm := (name_of_methodNamed Bd.named Bd.method).1
  have X0 : Stand p l e ({ frames := 2, cells := 0, slots := 0, locals := 27 } : Room) s m #[(.ref aa), (.int xi)] below meth c s₁ [] 0 0 := Stand.of_body Bd
  have e0 : s₁.heap = h0 := by rw [← hh, Bd.state]; rfl
  have N0 := Fr.nil n0
  obtain ⟨S0, hS0⟩ : ∃ z, z = s₁.setTop (entryFrame m #[(.ref aa), (.int xi)] 2) := ⟨_, rfl⟩
  rw [← hS0]
  have g0 : Goes p e below S0 (s₁.setTop (mkF m 0 #[rv aa, iv xi] [])) := fun t k => by rw [hS0]; exact castTop (ef_get20 m aa xi) k
  obtain rfl : xi = (0 : Int32) := q1
  have g162 : Goes p e below S0 (s₁.setTop (mkF m 2 #[rv aa, iv (0 : Int32)] [(.ref aa), (.int (0 : Int32))])) := fun t k => g0 t (by
    refine XS.iloadN X0.here hx rfl (hb hby d13_0) rfl ?_
    show Go p e below t s₁ m 1 #[rv aa, iv (0 : Int32)] [(.int (0 : Int32))]
    refine XS.aloadN X0.here hx rfl (hb hby d13_1) rfl rfl ?_
    show Go p e below t s₁ m 2 #[rv aa, iv (0 : Int32)] [(.ref aa), (.int (0 : Int32))]
    exact k)
  obtain ⟨T163, X163, e163, st163⟩ := getF X0 hx hZ hown (host := "") (Or.inl (hw _ (List.mem_of_getElem? (i := 69) rfl))) Via.refl e0 P1 (g := (mkF m 2 #[rv aa, iv (0 : Int32)] [(.ref aa), (.int (0 : Int32))])) rfl rfl (hb hby d13_2)
  have g164 : Goes p e below S0 (T163.setTop (mkF m 5 #[rv aa, iv (0 : Int32)] [(.int (2 : Int32)), (.int (0 : Int32))])) := fun t k => g162 t (st163 t k)
  obtain ⟨_, _, ⟨T165, L165, k165, n165⟩, -, X165, ⟨Lc165, hQ165, l165, y165, z165⟩, st165⟩ := Jvm.LawKit.callS X163 hx (y := (⟨"java/util/Objects", "checkIndex", "(II)I"⟩ : MethodName)) hown (mvT hZ (hw _ (List.mem_of_getElem? (i := 103) rfl))) (mvT hZ (hw _ (List.mem_of_getElem? (i := 104) rfl))) (mvT hZ (hw _ (List.mem_of_getElem? (i := 105) rfl))) (mvT hZ (hw _ (List.mem_of_getElem? (i := 106) rfl))) (by decide) (backOf (W := 0) (rm_oci l Z a0 hw [] (0 : Int32) (2 : Int32)  h0 n0 Z0 (by decide) (by decide)) hZ (hw _ (List.mem_of_getElem? (i := 106) rfl)) (hw _ (List.mem_of_getElem? (i := 105) rfl)) (by decide) (by decide)) (g := (mkF m 5 #[rv aa, iv (0 : Int32)] [(.int (2 : Int32)), (.int (0 : Int32))])) rfl (by rw [hml]; rfl) (argsL := [(.int (0 : Int32)), (.int (2 : Int32))]) (rest := []) (lenOf pd2 rfl) rfl (by show 2 * 0 + _ ≤ _; exact Nat.le_of_eq rfl) (hb hby d13_5) (fun _ _ => ⟨rfl, e163, (by decide : 0 + 0 ≤ _), (by decide : 0 + 0 ≤ _)⟩)
  dsimp only [Pt.U, Pt.locs, Pt.cells, Pt.slots] at X165 l165 y165 z165 st165 hQ165
  subst l165 y165 z165
  obtain ⟨rfl, N165, R165_0⟩ := hQ165
  have M165 := Fr.app N0 N165
  have g166 : Goes p e below S0 (T165.setTop (mkF m 8 #[rv aa, iv (0 : Int32)] [(.int (0 : Int32))])) := fun t k => g164 t (st165 t k)
  have g167 : Goes p e below S0 (T165.setTop (mkF m 11 #[rv aa, iv (0 : Int32)] [(.int (0 : Int32)), (.ref aa)])) := fun t k => g166 t (by
    refine XS.pop X165.here hx rfl (hb hby d13_8) rfl rfl ?_
    show Go p e below t T165 m 9 #[rv aa, iv (0 : Int32)] []
    refine XS.aloadN X165.here hx rfl (hb hby d13_9) rfl rfl ?_
    show Go p e below t T165 m 10 #[rv aa, iv (0 : Int32)] [(.ref aa)]
    refine XS.iloadN X165.here hx rfl (hb hby d13_10) rfl ?_
    show Go p e below t T165 m 11 #[rv aa, iv (0 : Int32)] [(.int (0 : Int32)), (.ref aa)]
    exact k)
  obtain ⟨cq168, kq168, q168a, q168b, q168c⟩ := isOf hZ R165_0 P0
  obtain ⟨_, _, ⟨T168, L168, k168, n168⟩, -, X168, ⟨Lc168, hQ168, l168, y168, z168⟩, st168⟩ := X165.virtualBack hx (y := (⟨"java/util/ArrayList", "elementData", "(I)Ljava/lang/Object;"⟩ : MethodName)) (z := (⟨"java/util/ArrayList", "elementData", "(I)Ljava/lang/Object;"⟩ : MethodName)) hown (mvT hZ (hw _ (List.mem_of_getElem? (i := 111) rfl))) (mvT hZ (hw _ (List.mem_of_getElem? (i := 112) rfl))) (notFace_of_selects (args := #[]) (mvT hZ (hw _ (List.mem_of_getElem? (i := 114) rfl)))) (mvT hZ (hw _ (List.mem_of_getElem? (i := 114) rfl))) (mvT hZ (hw _ (List.mem_of_getElem? (i := 113) rfl))) (by decide) (backOf (W := 0) (rm_eld20 l Z a0 hw [] aa (0 : Int32) ea ek x0 x1 h0 n0 Z0 P2 P3 rfl) hZ (hw _ (List.mem_of_getElem? (i := 115) rfl)) (hw _ (List.mem_of_getElem? (i := 10) rfl)) (by decide) (by decide)) q168a q168c (g := (mkF m 11 #[rv aa, iv (0 : Int32)] [(.int (0 : Int32)), (.ref aa)])) rfl (by rw [hml]; rfl) (Steps.refl _) (argsL := [(.int (0 : Int32))]) (rest := []) (lenOf pd9 rfl) rfl (by show 2 * 0 + _ ≤ _; exact Nat.le_of_eq rfl) (hb hby d13_11) (fun _ _ => ⟨rfl, R165_0, (by decide : 0 + 0 ≤ _), (by decide : 0 + 0 ≤ _)⟩)
  dsimp only [Pt.U, Pt.locs, Pt.cells, Pt.slots] at X168 l168 y168 z168 st168 hQ168
  subst l168 y168 z168
  obtain ⟨rfl, N168, R168_0⟩ := hQ168
  have M168 := Fr.app M165 N168
  have g169 : Goes p e below S0 (T168.setTop (mkF m 14 #[rv aa, iv (0 : Int32)] [(.ref x0)])) := fun t k => g167 t (st168.trans k)
  obtain ⟨fs, hr, hrun, hended, hW, hsame⟩ := X168.leave (v := some (.ref x0)) (fun h => by rw [Bd.returns] at h; cases h)
  refine ⟨_, _, g169 _ (retOut X168 hx Bd.returns rfl (Or.inr (Or.inr (Or.inr (Or.inr ⟨rfl, rfl, rfl⟩)))) (hb hby d13_14) hr), hrun, hended, _, _, rfl, ?_, ⟨_, rfl⟩, hW, hsame.mono (by decide) (by decide)⟩
  show Q_get20 Z aa (0 : Int32) ea ek x0 x1 h0 n0 _ T168.heap _
  rw [R168_0]
  exact ⟨rfl, M168, rfl⟩
theorem pf_eld21 : plainFor (⟨"java/util/ArrayList", "elementData", "(I)Ljava/lang/Object;"⟩ : MethodName) = true := by first | exact plainFor_of_name (by first | (simp [plainName, overriddenIn, x]; done) | decide +kernel) | exact Jvm.Free.JP.mathPlain rfl (by decide +kernel) | decide +kernel
theorem ef_eld21 (m : MethodId) (aa : Addr) (xi : Int32) : entryFrame m #[(.ref aa), (.int xi)] 2 = mkF m 0 #[rv aa, iv xi] [] := by first | (simp [entryFrame, mkF, argsToLocals, Value.category, maxLocals]; done) | rfl
def Q_eld21 (Z : State) (aa : Addr) (xi : Int32) (ea : Addr) (ek : ClassId) (x0 : Addr) (x1 : Addr) (h0 : Heap) (n0 : Nat) (v : Option Value) (h : Heap) (L : List Loc) : Prop := v = some (.ref x1) ∧ Fr n0 L ∧ h = h0
set_option maxRecDepth 65536 in
set_option maxHeartbeats 40000000 in
theorem rm_eld21 (l : Launch) (Z : State) (a0 : Array Value) (hw : ∀ d ∈ tables_1, d.before a0 Z = true) (ws : List Jvm.Cond) (aa : Addr) (xi : Int32) (ea : Addr) (ek : ClassId) (x0 : Addr) (x1 : Addr) (h0 : Heap) (n0 : Nat) (Z0 : n0 ≤ h0.size) (P0 : Fld Z h0 aa "java/util/ArrayList" "elementData" "[Ljava/lang/Object;" (.ref ea)) (P1 : Arv Z h0 ea ek (.object "java/lang/Object") (10 : Int32) [(.ref x0), (.ref x1), .null, .null, .null, .null, .null, .null, .null, .null] .null) (q1 : xi = (1 : Int32))  :
    MetFree l (⟨"java/util/ArrayList", "elementData", "(I)Ljava/lang/Object;"⟩ : MethodName) (head1 (Jvm.Cond.code (⟨"java/util/ArrayList", "elementData", "(I)Ljava/lang/Object;"⟩ : MethodName) jdk_38_method_18_code 2 (some (.object "java/lang/Object")) :: ws) ({ frames := 0, cells := 0, slots := 0, locals := 0 } : Room)) (fun a U => a = #[(.ref aa), (.int xi)] ∧ Z.Warmed39 U.vm ∧ U.heap = h0) (fun _ _ _ _ _ => True) (fun _ U o U' => ∃ v L, o = .returned v ∧ Q_eld21 Z aa xi ea ek x0 x1 h0 n0 v U'.heap L ∧ FrameEnd U o U' L ({ frames := 0, cells := 0, slots := 0, locals := 0 } : Room).cells ({ frames := 0, cells := 0, slots := 0, locals := 0 } : Room).slots) := by
  refine MetFree.of_bodySF pf_eld21 hisR ?_
  intro p e s m args below meth c s₁ Bd hml0 hP hK
  obtain ⟨rfl, hZ, hh⟩ := hP
  have hx := Bd.exec
  have hby := Bd.bytes
  have hml : c.maxLocals = 2 := hml0
  have hown : s.vm.findClass "java/util/ArrayList" = some m.cls := findClass_of_methodNamed Bd.named
  have hnm := (name_of_methodNamed Bd.named Bd.method).1
  have X0 : Stand p l e ({ frames := 0, cells := 0, slots := 0, locals := 0 } : Room) s m #[(.ref aa), (.int xi)] below meth c s₁ [] 0 0 := Stand.of_body Bd
  have e0 : s₁.heap = h0 := by rw [← hh, Bd.state]; rfl
  have N0 := Fr.nil n0
  obtain ⟨S0, hS0⟩ : ∃ z, z = s₁.setTop (entryFrame m #[(.ref aa), (.int xi)] 2) := ⟨_, rfl⟩
  rw [← hS0]
  have g0 : Goes p e below S0 (s₁.setTop (mkF m 0 #[rv aa, iv xi] [])) := fun t k => by rw [hS0]; exact castTop (ef_eld21 m aa xi) k
  obtain rfl : xi = (1 : Int32) := q1
  have g170 : Goes p e below S0 (s₁.setTop (mkF m 1 #[rv aa, iv (1 : Int32)] [(.ref aa)])) := fun t k => g0 t (by
    refine XS.aloadN X0.here hx rfl (hb hby d16_0) rfl rfl ?_
    show Go p e below t s₁ m 1 #[rv aa, iv (1 : Int32)] [(.ref aa)]
    exact k)
  obtain ⟨T171, X171, e171, st171⟩ := getF X0 hx hZ hown (host := "") (Or.inl (hw _ (List.mem_of_getElem? (i := 32) rfl))) Via.refl e0 P0 (g := (mkF m 1 #[rv aa, iv (1 : Int32)] [(.ref aa)])) rfl rfl (hb hby d16_1)
  have g172 : Goes p e below S0 (T171.setTop (mkF m 4 #[rv aa, iv (1 : Int32)] [(.ref ea)])) := fun t k => g170 t (st171 t k)
  have g173 : Goes p e below S0 (T171.setTop (mkF m 5 #[rv aa, iv (1 : Int32)] [(.int (1 : Int32)), (.ref ea)])) := fun t k => g172 t (by
    refine XS.iloadN X171.here hx rfl (hb hby d16_4) rfl ?_
    show Go p e below t T171 m 5 #[rv aa, iv (1 : Int32)] [(.int (1 : Int32)), (.ref ea)]
    exact k)
  obtain ⟨cl174, Ar174, q174, S174, M174, H174, G174⟩ := id P1
  have g175 : Goes p e below S0 (T171.setTop (mkF m 6 #[rv aa, iv (1 : Int32)] [(.ref x1)])) := fun t k => g173 t (by
    refine X171.aaload hx (j := (1 : Int32)) (v := (.ref x1)) (by rw [e171]; exact Ar174.1) (State.isArrayOf_alike hZ.alike Ar174.2.1) rfl Ar174.2.2 (inb_of S174 ⟨by decide, by decide⟩) (H174.at (inb_of S174 ⟨by decide, by decide⟩) rfl) (g := (mkF m 5 #[rv aa, iv (1 : Int32)] [(.int (1 : Int32)), (.ref ea)])) rfl rfl (hb hby d16_5) _ ?_
    show Go p e below t T171 m 6 #[rv aa, iv (1 : Int32)] [(.ref x1)]
    exact k)
  obtain ⟨fs, hr, hrun, hended, hW, hsame⟩ := X171.leave (v := some (.ref x1)) (fun h => by rw [Bd.returns] at h; cases h)
  refine ⟨_, _, g175 _ (retOut X171 hx Bd.returns rfl (Or.inr (Or.inr (Or.inr (Or.inr ⟨rfl, rfl, rfl⟩)))) (hb hby d16_6) hr), hrun, hended, _, _, rfl, ?_, ⟨_, rfl⟩, hW, hsame.mono (by decide) (by decide)⟩
  show Q_eld21 Z aa (1 : Int32) ea ek x0 x1 h0 n0 _ T171.heap _
  rw [e171]
  exact ⟨rfl, N0, rfl⟩
theorem pf_get21 : plainFor (⟨"java/util/ArrayList", "get", "(I)Ljava/lang/Object;"⟩ : MethodName) = true := by first | exact plainFor_of_name (by first | (simp [plainName, overriddenIn, x]; done) | decide +kernel) | exact Jvm.Free.JP.mathPlain rfl (by decide +kernel) | decide +kernel
theorem ef_get21 (m : MethodId) (aa : Addr) (xi : Int32) : entryFrame m #[(.ref aa), (.int xi)] 2 = mkF m 0 #[rv aa, iv xi] [] := by first | (simp [entryFrame, mkF, argsToLocals, Value.category, maxLocals]; done) | rfl
def Q_get21 (Z : State) (aa : Addr) (xi : Int32) (ea : Addr) (ek : ClassId) (x0 : Addr) (x1 : Addr) (h0 : Heap) (n0 : Nat) (v : Option Value) (h : Heap) (L : List Loc) : Prop := v = some (.ref x1) ∧ Fr n0 L ∧ h = h0
set_option maxRecDepth 65536 in
set_option maxHeartbeats 40000000 in
theorem rm_get21 (l : Launch) (Z : State) (a0 : Array Value) (hw : ∀ d ∈ tables_1, d.before a0 Z = true) (ws : List Jvm.Cond) (aa : Addr) (xi : Int32) (ea : Addr) (ek : ClassId) (x0 : Addr) (x1 : Addr) (h0 : Heap) (n0 : Nat) (Z0 : n0 ≤ h0.size) (P0 : Exa Z h0 aa "java/util/ArrayList") (P1 : Fld Z h0 aa "java/util/ArrayList" "size" "I" (.int (2 : Int32))) (P2 : Fld Z h0 aa "java/util/ArrayList" "elementData" "[Ljava/lang/Object;" (.ref ea)) (P3 : Arv Z h0 ea ek (.object "java/lang/Object") (10 : Int32) [(.ref x0), (.ref x1), .null, .null, .null, .null, .null, .null, .null, .null] .null) (q1 : xi = (1 : Int32))  :
    MetFree l (⟨"java/util/ArrayList", "get", "(I)Ljava/lang/Object;"⟩ : MethodName) (head1 (Jvm.Cond.code (⟨"java/util/ArrayList", "get", "(I)Ljava/lang/Object;"⟩ : MethodName) jdk_38_method_20_code 2 (some (.object "java/lang/Object")) :: ws) ({ frames := 2, cells := 0, slots := 0, locals := 27 } : Room)) (fun a U => a = #[(.ref aa), (.int xi)] ∧ Z.Warmed39 U.vm ∧ U.heap = h0) (fun _ _ _ _ _ => True) (fun _ U o U' => ∃ v L, o = .returned v ∧ Q_get21 Z aa xi ea ek x0 x1 h0 n0 v U'.heap L ∧ FrameEnd U o U' L ({ frames := 2, cells := 0, slots := 0, locals := 27 } : Room).cells ({ frames := 2, cells := 0, slots := 0, locals := 27 } : Room).slots) := by
  refine MetFree.of_bodySF pf_get21 hisR ?_
  intro p e s m args below meth c s₁ Bd hml0 hP hK
  obtain ⟨rfl, hZ, hh⟩ := hP
  have hx := Bd.exec
  have hby := Bd.bytes
  have hml : c.maxLocals = 2 := hml0
  have hown : s.vm.findClass "java/util/ArrayList" = some m.cls := findClass_of_methodNamed Bd.named
  have hnm := (name_of_methodNamed Bd.named Bd.method).1
  have X0 : Stand p l e ({ frames := 2, cells := 0, slots := 0, locals := 27 } : Room) s m #[(.ref aa), (.int xi)] below meth c s₁ [] 0 0 := Stand.of_body Bd
  have e0 : s₁.heap = h0 := by rw [← hh, Bd.state]; rfl
  have N0 := Fr.nil n0
  obtain ⟨S0, hS0⟩ : ∃ z, z = s₁.setTop (entryFrame m #[(.ref aa), (.int xi)] 2) := ⟨_, rfl⟩
  rw [← hS0]
  have g0 : Goes p e below S0 (s₁.setTop (mkF m 0 #[rv aa, iv xi] [])) := fun t k => by rw [hS0]; exact castTop (ef_get21 m aa xi) k
  obtain rfl : xi = (1 : Int32) := q1
  have g176 : Goes p e below S0 (s₁.setTop (mkF m 2 #[rv aa, iv (1 : Int32)] [(.ref aa), (.int (1 : Int32))])) := fun t k => g0 t (by
    refine XS.iloadN X0.here hx rfl (hb hby d13_0) rfl ?_
    show Go p e below t s₁ m 1 #[rv aa, iv (1 : Int32)] [(.int (1 : Int32))]
    refine XS.aloadN X0.here hx rfl (hb hby d13_1) rfl rfl ?_
    show Go p e below t s₁ m 2 #[rv aa, iv (1 : Int32)] [(.ref aa), (.int (1 : Int32))]
    exact k)
  obtain ⟨T177, X177, e177, st177⟩ := getF X0 hx hZ hown (host := "") (Or.inl (hw _ (List.mem_of_getElem? (i := 69) rfl))) Via.refl e0 P1 (g := (mkF m 2 #[rv aa, iv (1 : Int32)] [(.ref aa), (.int (1 : Int32))])) rfl rfl (hb hby d13_2)
  have g178 : Goes p e below S0 (T177.setTop (mkF m 5 #[rv aa, iv (1 : Int32)] [(.int (2 : Int32)), (.int (1 : Int32))])) := fun t k => g176 t (st177 t k)
  obtain ⟨_, _, ⟨T179, L179, k179, n179⟩, -, X179, ⟨Lc179, hQ179, l179, y179, z179⟩, st179⟩ := Jvm.LawKit.callS X177 hx (y := (⟨"java/util/Objects", "checkIndex", "(II)I"⟩ : MethodName)) hown (mvT hZ (hw _ (List.mem_of_getElem? (i := 103) rfl))) (mvT hZ (hw _ (List.mem_of_getElem? (i := 104) rfl))) (mvT hZ (hw _ (List.mem_of_getElem? (i := 105) rfl))) (mvT hZ (hw _ (List.mem_of_getElem? (i := 106) rfl))) (by decide) (backOf (W := 0) (rm_oci l Z a0 hw [] (1 : Int32) (2 : Int32)  h0 n0 Z0 (by decide) (by decide)) hZ (hw _ (List.mem_of_getElem? (i := 106) rfl)) (hw _ (List.mem_of_getElem? (i := 105) rfl)) (by decide) (by decide)) (g := (mkF m 5 #[rv aa, iv (1 : Int32)] [(.int (2 : Int32)), (.int (1 : Int32))])) rfl (by rw [hml]; rfl) (argsL := [(.int (1 : Int32)), (.int (2 : Int32))]) (rest := []) (lenOf pd2 rfl) rfl (by show 2 * 0 + _ ≤ _; exact Nat.le_of_eq rfl) (hb hby d13_5) (fun _ _ => ⟨rfl, e177, (by decide : 0 + 0 ≤ _), (by decide : 0 + 0 ≤ _)⟩)
  dsimp only [Pt.U, Pt.locs, Pt.cells, Pt.slots] at X179 l179 y179 z179 st179 hQ179
  subst l179 y179 z179
  obtain ⟨rfl, N179, R179_0⟩ := hQ179
  have M179 := Fr.app N0 N179
  have g180 : Goes p e below S0 (T179.setTop (mkF m 8 #[rv aa, iv (1 : Int32)] [(.int (1 : Int32))])) := fun t k => g178 t (st179 t k)
  have g181 : Goes p e below S0 (T179.setTop (mkF m 11 #[rv aa, iv (1 : Int32)] [(.int (1 : Int32)), (.ref aa)])) := fun t k => g180 t (by
    refine XS.pop X179.here hx rfl (hb hby d13_8) rfl rfl ?_
    show Go p e below t T179 m 9 #[rv aa, iv (1 : Int32)] []
    refine XS.aloadN X179.here hx rfl (hb hby d13_9) rfl rfl ?_
    show Go p e below t T179 m 10 #[rv aa, iv (1 : Int32)] [(.ref aa)]
    refine XS.iloadN X179.here hx rfl (hb hby d13_10) rfl ?_
    show Go p e below t T179 m 11 #[rv aa, iv (1 : Int32)] [(.int (1 : Int32)), (.ref aa)]
    exact k)
  obtain ⟨cq182, kq182, q182a, q182b, q182c⟩ := isOf hZ R179_0 P0
  obtain ⟨_, _, ⟨T182, L182, k182, n182⟩, -, X182, ⟨Lc182, hQ182, l182, y182, z182⟩, st182⟩ := X179.virtualBack hx (y := (⟨"java/util/ArrayList", "elementData", "(I)Ljava/lang/Object;"⟩ : MethodName)) (z := (⟨"java/util/ArrayList", "elementData", "(I)Ljava/lang/Object;"⟩ : MethodName)) hown (mvT hZ (hw _ (List.mem_of_getElem? (i := 111) rfl))) (mvT hZ (hw _ (List.mem_of_getElem? (i := 112) rfl))) (notFace_of_selects (args := #[]) (mvT hZ (hw _ (List.mem_of_getElem? (i := 114) rfl)))) (mvT hZ (hw _ (List.mem_of_getElem? (i := 114) rfl))) (mvT hZ (hw _ (List.mem_of_getElem? (i := 113) rfl))) (by decide) (backOf (W := 0) (rm_eld21 l Z a0 hw [] aa (1 : Int32) ea ek x0 x1 h0 n0 Z0 P2 P3 rfl) hZ (hw _ (List.mem_of_getElem? (i := 115) rfl)) (hw _ (List.mem_of_getElem? (i := 10) rfl)) (by decide) (by decide)) q182a q182c (g := (mkF m 11 #[rv aa, iv (1 : Int32)] [(.int (1 : Int32)), (.ref aa)])) rfl (by rw [hml]; rfl) (Steps.refl _) (argsL := [(.int (1 : Int32))]) (rest := []) (lenOf pd9 rfl) rfl (by show 2 * 0 + _ ≤ _; exact Nat.le_of_eq rfl) (hb hby d13_11) (fun _ _ => ⟨rfl, R179_0, (by decide : 0 + 0 ≤ _), (by decide : 0 + 0 ≤ _)⟩)
  dsimp only [Pt.U, Pt.locs, Pt.cells, Pt.slots] at X182 l182 y182 z182 st182 hQ182
  subst l182 y182 z182
  obtain ⟨rfl, N182, R182_0⟩ := hQ182
  have M182 := Fr.app M179 N182
  have g183 : Goes p e below S0 (T182.setTop (mkF m 14 #[rv aa, iv (1 : Int32)] [(.ref x1)])) := fun t k => g181 t (st182.trans k)
  obtain ⟨fs, hr, hrun, hended, hW, hsame⟩ := X182.leave (v := some (.ref x1)) (fun h => by rw [Bd.returns] at h; cases h)
  refine ⟨_, _, g183 _ (retOut X182 hx Bd.returns rfl (Or.inr (Or.inr (Or.inr (Or.inr ⟨rfl, rfl, rfl⟩)))) (hb hby d13_14) hr), hrun, hended, _, _, rfl, ?_, ⟨_, rfl⟩, hW, hsame.mono (by decide) (by decide)⟩
  show Q_get21 Z aa (1 : Int32) ea ek x0 x1 h0 n0 _ T182.heap _
  rw [R182_0]
  exact ⟨rfl, M182, rfl⟩
theorem pf_siz3 : plainFor (⟨"java/util/ArrayList", "size", "()I"⟩ : MethodName) = true := by first | exact plainFor_of_name (by first | (simp [plainName, overriddenIn, x]; done) | decide +kernel) | exact Jvm.Free.JP.mathPlain rfl (by decide +kernel) | decide +kernel
theorem ef_siz3 (m : MethodId) (aa : Addr) : entryFrame m #[(.ref aa)] 1 = mkF m 0 #[rv aa] [] := by first | (simp [entryFrame, mkF, argsToLocals, Value.category, maxLocals]; done) | rfl
def Q_siz3 (Z : State) (aa : Addr)  (h0 : Heap) (n0 : Nat) (v : Option Value) (h : Heap) (L : List Loc) : Prop := v = some (.int (3 : Int32)) ∧ Fr n0 L ∧ h = h0
set_option maxRecDepth 65536 in
set_option maxHeartbeats 40000000 in
theorem rm_siz3 (l : Launch) (Z : State) (a0 : Array Value) (hw : ∀ d ∈ tables_1, d.before a0 Z = true) (ws : List Jvm.Cond) (aa : Addr)  (h0 : Heap) (n0 : Nat) (Z0 : n0 ≤ h0.size) (P0 : Fld Z h0 aa "java/util/ArrayList" "size" "I" (.int (3 : Int32)))  :
    MetFree l (⟨"java/util/ArrayList", "size", "()I"⟩ : MethodName) (head1 (Jvm.Cond.code (⟨"java/util/ArrayList", "size", "()I"⟩ : MethodName) jdk_38_method_8_code 1 (some .int) :: ws) ({ frames := 0, cells := 0, slots := 0, locals := 0 } : Room)) (fun a U => a = #[(.ref aa)] ∧ Z.Warmed39 U.vm ∧ U.heap = h0) (fun _ _ _ _ _ => True) (fun _ U o U' => ∃ v L, o = .returned v ∧ Q_siz3 Z aa  h0 n0 v U'.heap L ∧ FrameEnd U o U' L ({ frames := 0, cells := 0, slots := 0, locals := 0 } : Room).cells ({ frames := 0, cells := 0, slots := 0, locals := 0 } : Room).slots) := by
  refine MetFree.of_bodySF pf_siz3 hisR ?_
  intro p e s m args below meth c s₁ Bd hml0 hP hK
  obtain ⟨rfl, hZ, hh⟩ := hP
  have hx := Bd.exec
  have hby := Bd.bytes
  have hml : c.maxLocals = 1 := hml0
  have hown : s.vm.findClass "java/util/ArrayList" = some m.cls := findClass_of_methodNamed Bd.named
  have hnm := (name_of_methodNamed Bd.named Bd.method).1
  have X0 : Stand p l e ({ frames := 0, cells := 0, slots := 0, locals := 0 } : Room) s m #[(.ref aa)] below meth c s₁ [] 0 0 := Stand.of_body Bd
  have e0 : s₁.heap = h0 := by rw [← hh, Bd.state]; rfl
  have N0 := Fr.nil n0
  obtain ⟨S0, hS0⟩ : ∃ z, z = s₁.setTop (entryFrame m #[(.ref aa)] 1) := ⟨_, rfl⟩
  rw [← hS0]
  have g0 : Goes p e below S0 (s₁.setTop (mkF m 0 #[rv aa] [])) := fun t k => by rw [hS0]; exact castTop (ef_siz3 m aa) k
  have g184 : Goes p e below S0 (s₁.setTop (mkF m 1 #[rv aa] [(.ref aa)])) := fun t k => g0 t (by
    refine XS.aloadN X0.here hx rfl (hb hby d18_0) rfl rfl ?_
    show Go p e below t s₁ m 1 #[rv aa] [(.ref aa)]
    exact k)
  obtain ⟨T185, X185, e185, st185⟩ := getF X0 hx hZ hown (host := "") (Or.inl (hw _ (List.mem_of_getElem? (i := 69) rfl))) Via.refl e0 P0 (g := (mkF m 1 #[rv aa] [(.ref aa)])) rfl rfl (hb hby d18_1)
  have g186 : Goes p e below S0 (T185.setTop (mkF m 4 #[rv aa] [(.int (3 : Int32))])) := fun t k => g184 t (st185 t k)
  obtain ⟨fs, hr, hrun, hended, hW, hsame⟩ := X185.leave (v := some (.int (3 : Int32))) (fun h => by rw [Bd.returns] at h; cases h)
  refine ⟨_, _, g186 _ (retOut X185 hx Bd.returns rfl (Or.inl ⟨rfl, Or.inl rfl, _, rfl⟩) (hb hby d18_4) hr), hrun, hended, _, _, rfl, ?_, ⟨_, rfl⟩, hW, hsame.mono (by decide) (by decide)⟩
  show Q_siz3 Z aa  h0 n0 _ T185.heap _
  rw [e185]
  exact ⟨rfl, N0, rfl⟩
theorem pf_eld30 : plainFor (⟨"java/util/ArrayList", "elementData", "(I)Ljava/lang/Object;"⟩ : MethodName) = true := by first | exact plainFor_of_name (by first | (simp [plainName, overriddenIn, x]; done) | decide +kernel) | exact Jvm.Free.JP.mathPlain rfl (by decide +kernel) | decide +kernel
theorem ef_eld30 (m : MethodId) (aa : Addr) (xi : Int32) : entryFrame m #[(.ref aa), (.int xi)] 2 = mkF m 0 #[rv aa, iv xi] [] := by first | (simp [entryFrame, mkF, argsToLocals, Value.category, maxLocals]; done) | rfl
def Q_eld30 (Z : State) (aa : Addr) (xi : Int32) (ea : Addr) (ek : ClassId) (x0 : Addr) (x1 : Addr) (x2 : Addr) (h0 : Heap) (n0 : Nat) (v : Option Value) (h : Heap) (L : List Loc) : Prop := v = some (.ref x0) ∧ Fr n0 L ∧ h = h0
set_option maxRecDepth 65536 in
set_option maxHeartbeats 40000000 in
theorem rm_eld30 (l : Launch) (Z : State) (a0 : Array Value) (hw : ∀ d ∈ tables_1, d.before a0 Z = true) (ws : List Jvm.Cond) (aa : Addr) (xi : Int32) (ea : Addr) (ek : ClassId) (x0 : Addr) (x1 : Addr) (x2 : Addr) (h0 : Heap) (n0 : Nat) (Z0 : n0 ≤ h0.size) (P0 : Fld Z h0 aa "java/util/ArrayList" "elementData" "[Ljava/lang/Object;" (.ref ea)) (P1 : Arv Z h0 ea ek (.object "java/lang/Object") (10 : Int32) [(.ref x0), (.ref x1), (.ref x2), .null, .null, .null, .null, .null, .null, .null] .null) (q1 : xi = (0 : Int32))  :
    MetFree l (⟨"java/util/ArrayList", "elementData", "(I)Ljava/lang/Object;"⟩ : MethodName) (head1 (Jvm.Cond.code (⟨"java/util/ArrayList", "elementData", "(I)Ljava/lang/Object;"⟩ : MethodName) jdk_38_method_18_code 2 (some (.object "java/lang/Object")) :: ws) ({ frames := 0, cells := 0, slots := 0, locals := 0 } : Room)) (fun a U => a = #[(.ref aa), (.int xi)] ∧ Z.Warmed39 U.vm ∧ U.heap = h0) (fun _ _ _ _ _ => True) (fun _ U o U' => ∃ v L, o = .returned v ∧ Q_eld30 Z aa xi ea ek x0 x1 x2 h0 n0 v U'.heap L ∧ FrameEnd U o U' L ({ frames := 0, cells := 0, slots := 0, locals := 0 } : Room).cells ({ frames := 0, cells := 0, slots := 0, locals := 0 } : Room).slots) := by
  refine MetFree.of_bodySF pf_eld30 hisR ?_
  intro p e s m args below meth c s₁ Bd hml0 hP hK
  obtain ⟨rfl, hZ, hh⟩ := hP
  have hx := Bd.exec
  have hby := Bd.bytes
  have hml : c.maxLocals = 2 := hml0
  have hown : s.vm.findClass "java/util/ArrayList" = some m.cls := findClass_of_methodNamed Bd.named
  have hnm := (name_of_methodNamed Bd.named Bd.method).1
  have X0 : Stand p l e ({ frames := 0, cells := 0, slots := 0, locals := 0 } : Room) s m #[(.ref aa), (.int xi)] below meth c s₁ [] 0 0 := Stand.of_body Bd
  have e0 : s₁.heap = h0 := by rw [← hh, Bd.state]; rfl
  have N0 := Fr.nil n0
  obtain ⟨S0, hS0⟩ : ∃ z, z = s₁.setTop (entryFrame m #[(.ref aa), (.int xi)] 2) := ⟨_, rfl⟩
  rw [← hS0]
  have g0 : Goes p e below S0 (s₁.setTop (mkF m 0 #[rv aa, iv xi] [])) := fun t k => by rw [hS0]; exact castTop (ef_eld30 m aa xi) k
  obtain rfl : xi = (0 : Int32) := q1
  have g187 : Goes p e below S0 (s₁.setTop (mkF m 1 #[rv aa, iv (0 : Int32)] [(.ref aa)])) := fun t k => g0 t (by
    refine XS.aloadN X0.here hx rfl (hb hby d16_0) rfl rfl ?_
    show Go p e below t s₁ m 1 #[rv aa, iv (0 : Int32)] [(.ref aa)]
    exact k)
  obtain ⟨T188, X188, e188, st188⟩ := getF X0 hx hZ hown (host := "") (Or.inl (hw _ (List.mem_of_getElem? (i := 32) rfl))) Via.refl e0 P0 (g := (mkF m 1 #[rv aa, iv (0 : Int32)] [(.ref aa)])) rfl rfl (hb hby d16_1)
  have g189 : Goes p e below S0 (T188.setTop (mkF m 4 #[rv aa, iv (0 : Int32)] [(.ref ea)])) := fun t k => g187 t (st188 t k)
  have g190 : Goes p e below S0 (T188.setTop (mkF m 5 #[rv aa, iv (0 : Int32)] [(.int (0 : Int32)), (.ref ea)])) := fun t k => g189 t (by
    refine XS.iloadN X188.here hx rfl (hb hby d16_4) rfl ?_
    show Go p e below t T188 m 5 #[rv aa, iv (0 : Int32)] [(.int (0 : Int32)), (.ref ea)]
    exact k)
  obtain ⟨cl191, Ar191, q191, S191, M191, H191, G191⟩ := id P1
  have g192 : Goes p e below S0 (T188.setTop (mkF m 6 #[rv aa, iv (0 : Int32)] [(.ref x0)])) := fun t k => g190 t (by
    refine X188.aaload hx (j := (0 : Int32)) (v := (.ref x0)) (by rw [e188]; exact Ar191.1) (State.isArrayOf_alike hZ.alike Ar191.2.1) rfl Ar191.2.2 (inb_of S191 ⟨by decide, by decide⟩) (H191.at (inb_of S191 ⟨by decide, by decide⟩) rfl) (g := (mkF m 5 #[rv aa, iv (0 : Int32)] [(.int (0 : Int32)), (.ref ea)])) rfl rfl (hb hby d16_5) _ ?_
    show Go p e below t T188 m 6 #[rv aa, iv (0 : Int32)] [(.ref x0)]
    exact k)
  obtain ⟨fs, hr, hrun, hended, hW, hsame⟩ := X188.leave (v := some (.ref x0)) (fun h => by rw [Bd.returns] at h; cases h)
  refine ⟨_, _, g192 _ (retOut X188 hx Bd.returns rfl (Or.inr (Or.inr (Or.inr (Or.inr ⟨rfl, rfl, rfl⟩)))) (hb hby d16_6) hr), hrun, hended, _, _, rfl, ?_, ⟨_, rfl⟩, hW, hsame.mono (by decide) (by decide)⟩
  show Q_eld30 Z aa (0 : Int32) ea ek x0 x1 x2 h0 n0 _ T188.heap _
  rw [e188]
  exact ⟨rfl, N0, rfl⟩
theorem pf_get30 : plainFor (⟨"java/util/ArrayList", "get", "(I)Ljava/lang/Object;"⟩ : MethodName) = true := by first | exact plainFor_of_name (by first | (simp [plainName, overriddenIn, x]; done) | decide +kernel) | exact Jvm.Free.JP.mathPlain rfl (by decide +kernel) | decide +kernel
theorem ef_get30 (m : MethodId) (aa : Addr) (xi : Int32) : entryFrame m #[(.ref aa), (.int xi)] 2 = mkF m 0 #[rv aa, iv xi] [] := by first | (simp [entryFrame, mkF, argsToLocals, Value.category, maxLocals]; done) | rfl
def Q_get30 (Z : State) (aa : Addr) (xi : Int32) (ea : Addr) (ek : ClassId) (x0 : Addr) (x1 : Addr) (x2 : Addr) (h0 : Heap) (n0 : Nat) (v : Option Value) (h : Heap) (L : List Loc) : Prop := v = some (.ref x0) ∧ Fr n0 L ∧ h = h0
set_option maxRecDepth 65536 in
set_option maxHeartbeats 40000000 in
theorem rm_get30 (l : Launch) (Z : State) (a0 : Array Value) (hw : ∀ d ∈ tables_1, d.before a0 Z = true) (ws : List Jvm.Cond) (aa : Addr) (xi : Int32) (ea : Addr) (ek : ClassId) (x0 : Addr) (x1 : Addr) (x2 : Addr) (h0 : Heap) (n0 : Nat) (Z0 : n0 ≤ h0.size) (P0 : Exa Z h0 aa "java/util/ArrayList") (P1 : Fld Z h0 aa "java/util/ArrayList" "size" "I" (.int (3 : Int32))) (P2 : Fld Z h0 aa "java/util/ArrayList" "elementData" "[Ljava/lang/Object;" (.ref ea)) (P3 : Arv Z h0 ea ek (.object "java/lang/Object") (10 : Int32) [(.ref x0), (.ref x1), (.ref x2), .null, .null, .null, .null, .null, .null, .null] .null) (q1 : xi = (0 : Int32))  :
    MetFree l (⟨"java/util/ArrayList", "get", "(I)Ljava/lang/Object;"⟩ : MethodName) (head1 (Jvm.Cond.code (⟨"java/util/ArrayList", "get", "(I)Ljava/lang/Object;"⟩ : MethodName) jdk_38_method_20_code 2 (some (.object "java/lang/Object")) :: ws) ({ frames := 2, cells := 0, slots := 0, locals := 27 } : Room)) (fun a U => a = #[(.ref aa), (.int xi)] ∧ Z.Warmed39 U.vm ∧ U.heap = h0) (fun _ _ _ _ _ => True) (fun _ U o U' => ∃ v L, o = .returned v ∧ Q_get30 Z aa xi ea ek x0 x1 x2 h0 n0 v U'.heap L ∧ FrameEnd U o U' L ({ frames := 2, cells := 0, slots := 0, locals := 27 } : Room).cells ({ frames := 2, cells := 0, slots := 0, locals := 27 } : Room).slots) := by
  refine MetFree.of_bodySF pf_get30 hisR ?_
  intro p e s m args below meth c s₁ Bd hml0 hP hK
  obtain ⟨rfl, hZ, hh⟩ := hP
  have hx := Bd.exec
  have hby := Bd.bytes
  have hml : c.maxLocals = 2 := hml0
  have hown : s.vm.findClass "java/util/ArrayList" = some m.cls := findClass_of_methodNamed Bd.named
  have hnm := (name_of_methodNamed Bd.named Bd.method).1
  have X0 : Stand p l e ({ frames := 2, cells := 0, slots := 0, locals := 27 } : Room) s m #[(.ref aa), (.int xi)] below meth c s₁ [] 0 0 := Stand.of_body Bd
  have e0 : s₁.heap = h0 := by rw [← hh, Bd.state]; rfl
  have N0 := Fr.nil n0
  obtain ⟨S0, hS0⟩ : ∃ z, z = s₁.setTop (entryFrame m #[(.ref aa), (.int xi)] 2) := ⟨_, rfl⟩
  rw [← hS0]
  have g0 : Goes p e below S0 (s₁.setTop (mkF m 0 #[rv aa, iv xi] [])) := fun t k => by rw [hS0]; exact castTop (ef_get30 m aa xi) k
  obtain rfl : xi = (0 : Int32) := q1
  have g193 : Goes p e below S0 (s₁.setTop (mkF m 2 #[rv aa, iv (0 : Int32)] [(.ref aa), (.int (0 : Int32))])) := fun t k => g0 t (by
    refine XS.iloadN X0.here hx rfl (hb hby d13_0) rfl ?_
    show Go p e below t s₁ m 1 #[rv aa, iv (0 : Int32)] [(.int (0 : Int32))]
    refine XS.aloadN X0.here hx rfl (hb hby d13_1) rfl rfl ?_
    show Go p e below t s₁ m 2 #[rv aa, iv (0 : Int32)] [(.ref aa), (.int (0 : Int32))]
    exact k)
  obtain ⟨T194, X194, e194, st194⟩ := getF X0 hx hZ hown (host := "") (Or.inl (hw _ (List.mem_of_getElem? (i := 69) rfl))) Via.refl e0 P1 (g := (mkF m 2 #[rv aa, iv (0 : Int32)] [(.ref aa), (.int (0 : Int32))])) rfl rfl (hb hby d13_2)
  have g195 : Goes p e below S0 (T194.setTop (mkF m 5 #[rv aa, iv (0 : Int32)] [(.int (3 : Int32)), (.int (0 : Int32))])) := fun t k => g193 t (st194 t k)
  obtain ⟨_, _, ⟨T196, L196, k196, n196⟩, -, X196, ⟨Lc196, hQ196, l196, y196, z196⟩, st196⟩ := Jvm.LawKit.callS X194 hx (y := (⟨"java/util/Objects", "checkIndex", "(II)I"⟩ : MethodName)) hown (mvT hZ (hw _ (List.mem_of_getElem? (i := 103) rfl))) (mvT hZ (hw _ (List.mem_of_getElem? (i := 104) rfl))) (mvT hZ (hw _ (List.mem_of_getElem? (i := 105) rfl))) (mvT hZ (hw _ (List.mem_of_getElem? (i := 106) rfl))) (by decide) (backOf (W := 0) (rm_oci l Z a0 hw [] (0 : Int32) (3 : Int32)  h0 n0 Z0 (by decide) (by decide)) hZ (hw _ (List.mem_of_getElem? (i := 106) rfl)) (hw _ (List.mem_of_getElem? (i := 105) rfl)) (by decide) (by decide)) (g := (mkF m 5 #[rv aa, iv (0 : Int32)] [(.int (3 : Int32)), (.int (0 : Int32))])) rfl (by rw [hml]; rfl) (argsL := [(.int (0 : Int32)), (.int (3 : Int32))]) (rest := []) (lenOf pd2 rfl) rfl (by show 2 * 0 + _ ≤ _; exact Nat.le_of_eq rfl) (hb hby d13_5) (fun _ _ => ⟨rfl, e194, (by decide : 0 + 0 ≤ _), (by decide : 0 + 0 ≤ _)⟩)
  dsimp only [Pt.U, Pt.locs, Pt.cells, Pt.slots] at X196 l196 y196 z196 st196 hQ196
  subst l196 y196 z196
  obtain ⟨rfl, N196, R196_0⟩ := hQ196
  have M196 := Fr.app N0 N196
  have g197 : Goes p e below S0 (T196.setTop (mkF m 8 #[rv aa, iv (0 : Int32)] [(.int (0 : Int32))])) := fun t k => g195 t (st196 t k)
  have g198 : Goes p e below S0 (T196.setTop (mkF m 11 #[rv aa, iv (0 : Int32)] [(.int (0 : Int32)), (.ref aa)])) := fun t k => g197 t (by
    refine XS.pop X196.here hx rfl (hb hby d13_8) rfl rfl ?_
    show Go p e below t T196 m 9 #[rv aa, iv (0 : Int32)] []
    refine XS.aloadN X196.here hx rfl (hb hby d13_9) rfl rfl ?_
    show Go p e below t T196 m 10 #[rv aa, iv (0 : Int32)] [(.ref aa)]
    refine XS.iloadN X196.here hx rfl (hb hby d13_10) rfl ?_
    show Go p e below t T196 m 11 #[rv aa, iv (0 : Int32)] [(.int (0 : Int32)), (.ref aa)]
    exact k)
  obtain ⟨cq199, kq199, q199a, q199b, q199c⟩ := isOf hZ R196_0 P0
  obtain ⟨_, _, ⟨T199, L199, k199, n199⟩, -, X199, ⟨Lc199, hQ199, l199, y199, z199⟩, st199⟩ := X196.virtualBack hx (y := (⟨"java/util/ArrayList", "elementData", "(I)Ljava/lang/Object;"⟩ : MethodName)) (z := (⟨"java/util/ArrayList", "elementData", "(I)Ljava/lang/Object;"⟩ : MethodName)) hown (mvT hZ (hw _ (List.mem_of_getElem? (i := 111) rfl))) (mvT hZ (hw _ (List.mem_of_getElem? (i := 112) rfl))) (notFace_of_selects (args := #[]) (mvT hZ (hw _ (List.mem_of_getElem? (i := 114) rfl)))) (mvT hZ (hw _ (List.mem_of_getElem? (i := 114) rfl))) (mvT hZ (hw _ (List.mem_of_getElem? (i := 113) rfl))) (by decide) (backOf (W := 0) (rm_eld30 l Z a0 hw [] aa (0 : Int32) ea ek x0 x1 x2 h0 n0 Z0 P2 P3 rfl) hZ (hw _ (List.mem_of_getElem? (i := 115) rfl)) (hw _ (List.mem_of_getElem? (i := 10) rfl)) (by decide) (by decide)) q199a q199c (g := (mkF m 11 #[rv aa, iv (0 : Int32)] [(.int (0 : Int32)), (.ref aa)])) rfl (by rw [hml]; rfl) (Steps.refl _) (argsL := [(.int (0 : Int32))]) (rest := []) (lenOf pd9 rfl) rfl (by show 2 * 0 + _ ≤ _; exact Nat.le_of_eq rfl) (hb hby d13_11) (fun _ _ => ⟨rfl, R196_0, (by decide : 0 + 0 ≤ _), (by decide : 0 + 0 ≤ _)⟩)
  dsimp only [Pt.U, Pt.locs, Pt.cells, Pt.slots] at X199 l199 y199 z199 st199 hQ199
  subst l199 y199 z199
  obtain ⟨rfl, N199, R199_0⟩ := hQ199
  have M199 := Fr.app M196 N199
  have g200 : Goes p e below S0 (T199.setTop (mkF m 14 #[rv aa, iv (0 : Int32)] [(.ref x0)])) := fun t k => g198 t (st199.trans k)
  obtain ⟨fs, hr, hrun, hended, hW, hsame⟩ := X199.leave (v := some (.ref x0)) (fun h => by rw [Bd.returns] at h; cases h)
  refine ⟨_, _, g200 _ (retOut X199 hx Bd.returns rfl (Or.inr (Or.inr (Or.inr (Or.inr ⟨rfl, rfl, rfl⟩)))) (hb hby d13_14) hr), hrun, hended, _, _, rfl, ?_, ⟨_, rfl⟩, hW, hsame.mono (by decide) (by decide)⟩
  show Q_get30 Z aa (0 : Int32) ea ek x0 x1 x2 h0 n0 _ T199.heap _
  rw [R199_0]
  exact ⟨rfl, M199, rfl⟩
theorem pf_eld31 : plainFor (⟨"java/util/ArrayList", "elementData", "(I)Ljava/lang/Object;"⟩ : MethodName) = true := by first | exact plainFor_of_name (by first | (simp [plainName, overriddenIn, x]; done) | decide +kernel) | exact Jvm.Free.JP.mathPlain rfl (by decide +kernel) | decide +kernel
theorem ef_eld31 (m : MethodId) (aa : Addr) (xi : Int32) : entryFrame m #[(.ref aa), (.int xi)] 2 = mkF m 0 #[rv aa, iv xi] [] := by first | (simp [entryFrame, mkF, argsToLocals, Value.category, maxLocals]; done) | rfl
def Q_eld31 (Z : State) (aa : Addr) (xi : Int32) (ea : Addr) (ek : ClassId) (x0 : Addr) (x1 : Addr) (x2 : Addr) (h0 : Heap) (n0 : Nat) (v : Option Value) (h : Heap) (L : List Loc) : Prop := v = some (.ref x1) ∧ Fr n0 L ∧ h = h0
set_option maxRecDepth 65536 in
set_option maxHeartbeats 40000000 in
theorem rm_eld31 (l : Launch) (Z : State) (a0 : Array Value) (hw : ∀ d ∈ tables_1, d.before a0 Z = true) (ws : List Jvm.Cond) (aa : Addr) (xi : Int32) (ea : Addr) (ek : ClassId) (x0 : Addr) (x1 : Addr) (x2 : Addr) (h0 : Heap) (n0 : Nat) (Z0 : n0 ≤ h0.size) (P0 : Fld Z h0 aa "java/util/ArrayList" "elementData" "[Ljava/lang/Object;" (.ref ea)) (P1 : Arv Z h0 ea ek (.object "java/lang/Object") (10 : Int32) [(.ref x0), (.ref x1), (.ref x2), .null, .null, .null, .null, .null, .null, .null] .null) (q1 : xi = (1 : Int32))  :
    MetFree l (⟨"java/util/ArrayList", "elementData", "(I)Ljava/lang/Object;"⟩ : MethodName) (head1 (Jvm.Cond.code (⟨"java/util/ArrayList", "elementData", "(I)Ljava/lang/Object;"⟩ : MethodName) jdk_38_method_18_code 2 (some (.object "java/lang/Object")) :: ws) ({ frames := 0, cells := 0, slots := 0, locals := 0 } : Room)) (fun a U => a = #[(.ref aa), (.int xi)] ∧ Z.Warmed39 U.vm ∧ U.heap = h0) (fun _ _ _ _ _ => True) (fun _ U o U' => ∃ v L, o = .returned v ∧ Q_eld31 Z aa xi ea ek x0 x1 x2 h0 n0 v U'.heap L ∧ FrameEnd U o U' L ({ frames := 0, cells := 0, slots := 0, locals := 0 } : Room).cells ({ frames := 0, cells := 0, slots := 0, locals := 0 } : Room).slots) := by
  refine MetFree.of_bodySF pf_eld31 hisR ?_
  intro p e s m args below meth c s₁ Bd hml0 hP hK
  obtain ⟨rfl, hZ, hh⟩ := hP
  have hx := Bd.exec
  have hby := Bd.bytes
  have hml : c.maxLocals = 2 := hml0
  have hown : s.vm.findClass "java/util/ArrayList" = some m.cls := findClass_of_methodNamed Bd.named
  have hnm := (name_of_methodNamed Bd.named Bd.method).1
  have X0 : Stand p l e ({ frames := 0, cells := 0, slots := 0, locals := 0 } : Room) s m #[(.ref aa), (.int xi)] below meth c s₁ [] 0 0 := Stand.of_body Bd
  have e0 : s₁.heap = h0 := by rw [← hh, Bd.state]; rfl
  have N0 := Fr.nil n0
  obtain ⟨S0, hS0⟩ : ∃ z, z = s₁.setTop (entryFrame m #[(.ref aa), (.int xi)] 2) := ⟨_, rfl⟩
  rw [← hS0]
  have g0 : Goes p e below S0 (s₁.setTop (mkF m 0 #[rv aa, iv xi] [])) := fun t k => by rw [hS0]; exact castTop (ef_eld31 m aa xi) k
  obtain rfl : xi = (1 : Int32) := q1
  have g201 : Goes p e below S0 (s₁.setTop (mkF m 1 #[rv aa, iv (1 : Int32)] [(.ref aa)])) := fun t k => g0 t (by
    refine XS.aloadN X0.here hx rfl (hb hby d16_0) rfl rfl ?_
    show Go p e below t s₁ m 1 #[rv aa, iv (1 : Int32)] [(.ref aa)]
    exact k)
  obtain ⟨T202, X202, e202, st202⟩ := getF X0 hx hZ hown (host := "") (Or.inl (hw _ (List.mem_of_getElem? (i := 32) rfl))) Via.refl e0 P0 (g := (mkF m 1 #[rv aa, iv (1 : Int32)] [(.ref aa)])) rfl rfl (hb hby d16_1)
  have g203 : Goes p e below S0 (T202.setTop (mkF m 4 #[rv aa, iv (1 : Int32)] [(.ref ea)])) := fun t k => g201 t (st202 t k)
  have g204 : Goes p e below S0 (T202.setTop (mkF m 5 #[rv aa, iv (1 : Int32)] [(.int (1 : Int32)), (.ref ea)])) := fun t k => g203 t (by
    refine XS.iloadN X202.here hx rfl (hb hby d16_4) rfl ?_
    show Go p e below t T202 m 5 #[rv aa, iv (1 : Int32)] [(.int (1 : Int32)), (.ref ea)]
    exact k)
  obtain ⟨cl205, Ar205, q205, S205, M205, H205, G205⟩ := id P1
  have g206 : Goes p e below S0 (T202.setTop (mkF m 6 #[rv aa, iv (1 : Int32)] [(.ref x1)])) := fun t k => g204 t (by
    refine X202.aaload hx (j := (1 : Int32)) (v := (.ref x1)) (by rw [e202]; exact Ar205.1) (State.isArrayOf_alike hZ.alike Ar205.2.1) rfl Ar205.2.2 (inb_of S205 ⟨by decide, by decide⟩) (H205.at (inb_of S205 ⟨by decide, by decide⟩) rfl) (g := (mkF m 5 #[rv aa, iv (1 : Int32)] [(.int (1 : Int32)), (.ref ea)])) rfl rfl (hb hby d16_5) _ ?_
    show Go p e below t T202 m 6 #[rv aa, iv (1 : Int32)] [(.ref x1)]
    exact k)
  obtain ⟨fs, hr, hrun, hended, hW, hsame⟩ := X202.leave (v := some (.ref x1)) (fun h => by rw [Bd.returns] at h; cases h)
  refine ⟨_, _, g206 _ (retOut X202 hx Bd.returns rfl (Or.inr (Or.inr (Or.inr (Or.inr ⟨rfl, rfl, rfl⟩)))) (hb hby d16_6) hr), hrun, hended, _, _, rfl, ?_, ⟨_, rfl⟩, hW, hsame.mono (by decide) (by decide)⟩
  show Q_eld31 Z aa (1 : Int32) ea ek x0 x1 x2 h0 n0 _ T202.heap _
  rw [e202]
  exact ⟨rfl, N0, rfl⟩
theorem pf_get31 : plainFor (⟨"java/util/ArrayList", "get", "(I)Ljava/lang/Object;"⟩ : MethodName) = true := by first | exact plainFor_of_name (by first | (simp [plainName, overriddenIn, x]; done) | decide +kernel) | exact Jvm.Free.JP.mathPlain rfl (by decide +kernel) | decide +kernel
theorem ef_get31 (m : MethodId) (aa : Addr) (xi : Int32) : entryFrame m #[(.ref aa), (.int xi)] 2 = mkF m 0 #[rv aa, iv xi] [] := by first | (simp [entryFrame, mkF, argsToLocals, Value.category, maxLocals]; done) | rfl
def Q_get31 (Z : State) (aa : Addr) (xi : Int32) (ea : Addr) (ek : ClassId) (x0 : Addr) (x1 : Addr) (x2 : Addr) (h0 : Heap) (n0 : Nat) (v : Option Value) (h : Heap) (L : List Loc) : Prop := v = some (.ref x1) ∧ Fr n0 L ∧ h = h0
set_option maxRecDepth 65536 in
set_option maxHeartbeats 40000000 in
theorem rm_get31 (l : Launch) (Z : State) (a0 : Array Value) (hw : ∀ d ∈ tables_1, d.before a0 Z = true) (ws : List Jvm.Cond) (aa : Addr) (xi : Int32) (ea : Addr) (ek : ClassId) (x0 : Addr) (x1 : Addr) (x2 : Addr) (h0 : Heap) (n0 : Nat) (Z0 : n0 ≤ h0.size) (P0 : Exa Z h0 aa "java/util/ArrayList") (P1 : Fld Z h0 aa "java/util/ArrayList" "size" "I" (.int (3 : Int32))) (P2 : Fld Z h0 aa "java/util/ArrayList" "elementData" "[Ljava/lang/Object;" (.ref ea)) (P3 : Arv Z h0 ea ek (.object "java/lang/Object") (10 : Int32) [(.ref x0), (.ref x1), (.ref x2), .null, .null, .null, .null, .null, .null, .null] .null) (q1 : xi = (1 : Int32))  :
    MetFree l (⟨"java/util/ArrayList", "get", "(I)Ljava/lang/Object;"⟩ : MethodName) (head1 (Jvm.Cond.code (⟨"java/util/ArrayList", "get", "(I)Ljava/lang/Object;"⟩ : MethodName) jdk_38_method_20_code 2 (some (.object "java/lang/Object")) :: ws) ({ frames := 2, cells := 0, slots := 0, locals := 27 } : Room)) (fun a U => a = #[(.ref aa), (.int xi)] ∧ Z.Warmed39 U.vm ∧ U.heap = h0) (fun _ _ _ _ _ => True) (fun _ U o U' => ∃ v L, o = .returned v ∧ Q_get31 Z aa xi ea ek x0 x1 x2 h0 n0 v U'.heap L ∧ FrameEnd U o U' L ({ frames := 2, cells := 0, slots := 0, locals := 27 } : Room).cells ({ frames := 2, cells := 0, slots := 0, locals := 27 } : Room).slots) := by
  refine MetFree.of_bodySF pf_get31 hisR ?_
  intro p e s m args below meth c s₁ Bd hml0 hP hK
  obtain ⟨rfl, hZ, hh⟩ := hP
  have hx := Bd.exec
  have hby := Bd.bytes
  have hml : c.maxLocals = 2 := hml0
  have hown : s.vm.findClass "java/util/ArrayList" = some m.cls := findClass_of_methodNamed Bd.named
  have hnm := (name_of_methodNamed Bd.named Bd.method).1
  have X0 : Stand p l e ({ frames := 2, cells := 0, slots := 0, locals := 27 } : Room) s m #[(.ref aa), (.int xi)] below meth c s₁ [] 0 0 := Stand.of_body Bd
  have e0 : s₁.heap = h0 := by rw [← hh, Bd.state]; rfl
  have N0 := Fr.nil n0
  obtain ⟨S0, hS0⟩ : ∃ z, z = s₁.setTop (entryFrame m #[(.ref aa), (.int xi)] 2) := ⟨_, rfl⟩
  rw [← hS0]
  have g0 : Goes p e below S0 (s₁.setTop (mkF m 0 #[rv aa, iv xi] [])) := fun t k => by rw [hS0]; exact castTop (ef_get31 m aa xi) k
  obtain rfl : xi = (1 : Int32) := q1
  have g207 : Goes p e below S0 (s₁.setTop (mkF m 2 #[rv aa, iv (1 : Int32)] [(.ref aa), (.int (1 : Int32))])) := fun t k => g0 t (by
    refine XS.iloadN X0.here hx rfl (hb hby d13_0) rfl ?_
    show Go p e below t s₁ m 1 #[rv aa, iv (1 : Int32)] [(.int (1 : Int32))]
    refine XS.aloadN X0.here hx rfl (hb hby d13_1) rfl rfl ?_
    show Go p e below t s₁ m 2 #[rv aa, iv (1 : Int32)] [(.ref aa), (.int (1 : Int32))]
    exact k)
  obtain ⟨T208, X208, e208, st208⟩ := getF X0 hx hZ hown (host := "") (Or.inl (hw _ (List.mem_of_getElem? (i := 69) rfl))) Via.refl e0 P1 (g := (mkF m 2 #[rv aa, iv (1 : Int32)] [(.ref aa), (.int (1 : Int32))])) rfl rfl (hb hby d13_2)
  have g209 : Goes p e below S0 (T208.setTop (mkF m 5 #[rv aa, iv (1 : Int32)] [(.int (3 : Int32)), (.int (1 : Int32))])) := fun t k => g207 t (st208 t k)
  obtain ⟨_, _, ⟨T210, L210, k210, n210⟩, -, X210, ⟨Lc210, hQ210, l210, y210, z210⟩, st210⟩ := Jvm.LawKit.callS X208 hx (y := (⟨"java/util/Objects", "checkIndex", "(II)I"⟩ : MethodName)) hown (mvT hZ (hw _ (List.mem_of_getElem? (i := 103) rfl))) (mvT hZ (hw _ (List.mem_of_getElem? (i := 104) rfl))) (mvT hZ (hw _ (List.mem_of_getElem? (i := 105) rfl))) (mvT hZ (hw _ (List.mem_of_getElem? (i := 106) rfl))) (by decide) (backOf (W := 0) (rm_oci l Z a0 hw [] (1 : Int32) (3 : Int32)  h0 n0 Z0 (by decide) (by decide)) hZ (hw _ (List.mem_of_getElem? (i := 106) rfl)) (hw _ (List.mem_of_getElem? (i := 105) rfl)) (by decide) (by decide)) (g := (mkF m 5 #[rv aa, iv (1 : Int32)] [(.int (3 : Int32)), (.int (1 : Int32))])) rfl (by rw [hml]; rfl) (argsL := [(.int (1 : Int32)), (.int (3 : Int32))]) (rest := []) (lenOf pd2 rfl) rfl (by show 2 * 0 + _ ≤ _; exact Nat.le_of_eq rfl) (hb hby d13_5) (fun _ _ => ⟨rfl, e208, (by decide : 0 + 0 ≤ _), (by decide : 0 + 0 ≤ _)⟩)
  dsimp only [Pt.U, Pt.locs, Pt.cells, Pt.slots] at X210 l210 y210 z210 st210 hQ210
  subst l210 y210 z210
  obtain ⟨rfl, N210, R210_0⟩ := hQ210
  have M210 := Fr.app N0 N210
  have g211 : Goes p e below S0 (T210.setTop (mkF m 8 #[rv aa, iv (1 : Int32)] [(.int (1 : Int32))])) := fun t k => g209 t (st210 t k)
  have g212 : Goes p e below S0 (T210.setTop (mkF m 11 #[rv aa, iv (1 : Int32)] [(.int (1 : Int32)), (.ref aa)])) := fun t k => g211 t (by
    refine XS.pop X210.here hx rfl (hb hby d13_8) rfl rfl ?_
    show Go p e below t T210 m 9 #[rv aa, iv (1 : Int32)] []
    refine XS.aloadN X210.here hx rfl (hb hby d13_9) rfl rfl ?_
    show Go p e below t T210 m 10 #[rv aa, iv (1 : Int32)] [(.ref aa)]
    refine XS.iloadN X210.here hx rfl (hb hby d13_10) rfl ?_
    show Go p e below t T210 m 11 #[rv aa, iv (1 : Int32)] [(.int (1 : Int32)), (.ref aa)]
    exact k)
  obtain ⟨cq213, kq213, q213a, q213b, q213c⟩ := isOf hZ R210_0 P0
  obtain ⟨_, _, ⟨T213, L213, k213, n213⟩, -, X213, ⟨Lc213, hQ213, l213, y213, z213⟩, st213⟩ := X210.virtualBack hx (y := (⟨"java/util/ArrayList", "elementData", "(I)Ljava/lang/Object;"⟩ : MethodName)) (z := (⟨"java/util/ArrayList", "elementData", "(I)Ljava/lang/Object;"⟩ : MethodName)) hown (mvT hZ (hw _ (List.mem_of_getElem? (i := 111) rfl))) (mvT hZ (hw _ (List.mem_of_getElem? (i := 112) rfl))) (notFace_of_selects (args := #[]) (mvT hZ (hw _ (List.mem_of_getElem? (i := 114) rfl)))) (mvT hZ (hw _ (List.mem_of_getElem? (i := 114) rfl))) (mvT hZ (hw _ (List.mem_of_getElem? (i := 113) rfl))) (by decide) (backOf (W := 0) (rm_eld31 l Z a0 hw [] aa (1 : Int32) ea ek x0 x1 x2 h0 n0 Z0 P2 P3 rfl) hZ (hw _ (List.mem_of_getElem? (i := 115) rfl)) (hw _ (List.mem_of_getElem? (i := 10) rfl)) (by decide) (by decide)) q213a q213c (g := (mkF m 11 #[rv aa, iv (1 : Int32)] [(.int (1 : Int32)), (.ref aa)])) rfl (by rw [hml]; rfl) (Steps.refl _) (argsL := [(.int (1 : Int32))]) (rest := []) (lenOf pd9 rfl) rfl (by show 2 * 0 + _ ≤ _; exact Nat.le_of_eq rfl) (hb hby d13_11) (fun _ _ => ⟨rfl, R210_0, (by decide : 0 + 0 ≤ _), (by decide : 0 + 0 ≤ _)⟩)
  dsimp only [Pt.U, Pt.locs, Pt.cells, Pt.slots] at X213 l213 y213 z213 st213 hQ213
  subst l213 y213 z213
  obtain ⟨rfl, N213, R213_0⟩ := hQ213
  have M213 := Fr.app M210 N213
  have g214 : Goes p e below S0 (T213.setTop (mkF m 14 #[rv aa, iv (1 : Int32)] [(.ref x1)])) := fun t k => g212 t (st213.trans k)
  obtain ⟨fs, hr, hrun, hended, hW, hsame⟩ := X213.leave (v := some (.ref x1)) (fun h => by rw [Bd.returns] at h; cases h)
  refine ⟨_, _, g214 _ (retOut X213 hx Bd.returns rfl (Or.inr (Or.inr (Or.inr (Or.inr ⟨rfl, rfl, rfl⟩)))) (hb hby d13_14) hr), hrun, hended, _, _, rfl, ?_, ⟨_, rfl⟩, hW, hsame.mono (by decide) (by decide)⟩
  show Q_get31 Z aa (1 : Int32) ea ek x0 x1 x2 h0 n0 _ T213.heap _
  rw [R213_0]
  exact ⟨rfl, M213, rfl⟩
theorem pf_eld32 : plainFor (⟨"java/util/ArrayList", "elementData", "(I)Ljava/lang/Object;"⟩ : MethodName) = true := by first | exact plainFor_of_name (by first | (simp [plainName, overriddenIn, x]; done) | decide +kernel) | exact Jvm.Free.JP.mathPlain rfl (by decide +kernel) | decide +kernel
theorem ef_eld32 (m : MethodId) (aa : Addr) (xi : Int32) : entryFrame m #[(.ref aa), (.int xi)] 2 = mkF m 0 #[rv aa, iv xi] [] := by first | (simp [entryFrame, mkF, argsToLocals, Value.category, maxLocals]; done) | rfl
def Q_eld32 (Z : State) (aa : Addr) (xi : Int32) (ea : Addr) (ek : ClassId) (x0 : Addr) (x1 : Addr) (x2 : Addr) (h0 : Heap) (n0 : Nat) (v : Option Value) (h : Heap) (L : List Loc) : Prop := v = some (.ref x2) ∧ Fr n0 L ∧ h = h0
set_option maxRecDepth 65536 in
set_option maxHeartbeats 40000000 in
theorem rm_eld32 (l : Launch) (Z : State) (a0 : Array Value) (hw : ∀ d ∈ tables_1, d.before a0 Z = true) (ws : List Jvm.Cond) (aa : Addr) (xi : Int32) (ea : Addr) (ek : ClassId) (x0 : Addr) (x1 : Addr) (x2 : Addr) (h0 : Heap) (n0 : Nat) (Z0 : n0 ≤ h0.size) (P0 : Fld Z h0 aa "java/util/ArrayList" "elementData" "[Ljava/lang/Object;" (.ref ea)) (P1 : Arv Z h0 ea ek (.object "java/lang/Object") (10 : Int32) [(.ref x0), (.ref x1), (.ref x2), .null, .null, .null, .null, .null, .null, .null] .null) (q1 : xi = (2 : Int32))  :
    MetFree l (⟨"java/util/ArrayList", "elementData", "(I)Ljava/lang/Object;"⟩ : MethodName) (head1 (Jvm.Cond.code (⟨"java/util/ArrayList", "elementData", "(I)Ljava/lang/Object;"⟩ : MethodName) jdk_38_method_18_code 2 (some (.object "java/lang/Object")) :: ws) ({ frames := 0, cells := 0, slots := 0, locals := 0 } : Room)) (fun a U => a = #[(.ref aa), (.int xi)] ∧ Z.Warmed39 U.vm ∧ U.heap = h0) (fun _ _ _ _ _ => True) (fun _ U o U' => ∃ v L, o = .returned v ∧ Q_eld32 Z aa xi ea ek x0 x1 x2 h0 n0 v U'.heap L ∧ FrameEnd U o U' L ({ frames := 0, cells := 0, slots := 0, locals := 0 } : Room).cells ({ frames := 0, cells := 0, slots := 0, locals := 0 } : Room).slots) := by
  refine MetFree.of_bodySF pf_eld32 hisR ?_
  intro p e s m args below meth c s₁ Bd hml0 hP hK
  obtain ⟨rfl, hZ, hh⟩ := hP
  have hx := Bd.exec
  have hby := Bd.bytes
  have hml : c.maxLocals = 2 := hml0
  have hown : s.vm.findClass "java/util/ArrayList" = some m.cls := findClass_of_methodNamed Bd.named
  have hnm := (name_of_methodNamed Bd.named Bd.method).1
  have X0 : Stand p l e ({ frames := 0, cells := 0, slots := 0, locals := 0 } : Room) s m #[(.ref aa), (.int xi)] below meth c s₁ [] 0 0 := Stand.of_body Bd
  have e0 : s₁.heap = h0 := by rw [← hh, Bd.state]; rfl
  have N0 := Fr.nil n0
  obtain ⟨S0, hS0⟩ : ∃ z, z = s₁.setTop (entryFrame m #[(.ref aa), (.int xi)] 2) := ⟨_, rfl⟩
  rw [← hS0]
  have g0 : Goes p e below S0 (s₁.setTop (mkF m 0 #[rv aa, iv xi] [])) := fun t k => by rw [hS0]; exact castTop (ef_eld32 m aa xi) k
  obtain rfl : xi = (2 : Int32) := q1
  have g215 : Goes p e below S0 (s₁.setTop (mkF m 1 #[rv aa, iv (2 : Int32)] [(.ref aa)])) := fun t k => g0 t (by
    refine XS.aloadN X0.here hx rfl (hb hby d16_0) rfl rfl ?_
    show Go p e below t s₁ m 1 #[rv aa, iv (2 : Int32)] [(.ref aa)]
    exact k)
  obtain ⟨T216, X216, e216, st216⟩ := getF X0 hx hZ hown (host := "") (Or.inl (hw _ (List.mem_of_getElem? (i := 32) rfl))) Via.refl e0 P0 (g := (mkF m 1 #[rv aa, iv (2 : Int32)] [(.ref aa)])) rfl rfl (hb hby d16_1)
  have g217 : Goes p e below S0 (T216.setTop (mkF m 4 #[rv aa, iv (2 : Int32)] [(.ref ea)])) := fun t k => g215 t (st216 t k)
  have g218 : Goes p e below S0 (T216.setTop (mkF m 5 #[rv aa, iv (2 : Int32)] [(.int (2 : Int32)), (.ref ea)])) := fun t k => g217 t (by
    refine XS.iloadN X216.here hx rfl (hb hby d16_4) rfl ?_
    show Go p e below t T216 m 5 #[rv aa, iv (2 : Int32)] [(.int (2 : Int32)), (.ref ea)]
    exact k)
  obtain ⟨cl219, Ar219, q219, S219, M219, H219, G219⟩ := id P1
  have g220 : Goes p e below S0 (T216.setTop (mkF m 6 #[rv aa, iv (2 : Int32)] [(.ref x2)])) := fun t k => g218 t (by
    refine X216.aaload hx (j := (2 : Int32)) (v := (.ref x2)) (by rw [e216]; exact Ar219.1) (State.isArrayOf_alike hZ.alike Ar219.2.1) rfl Ar219.2.2 (inb_of S219 ⟨by decide, by decide⟩) (H219.at (inb_of S219 ⟨by decide, by decide⟩) rfl) (g := (mkF m 5 #[rv aa, iv (2 : Int32)] [(.int (2 : Int32)), (.ref ea)])) rfl rfl (hb hby d16_5) _ ?_
    show Go p e below t T216 m 6 #[rv aa, iv (2 : Int32)] [(.ref x2)]
    exact k)
  obtain ⟨fs, hr, hrun, hended, hW, hsame⟩ := X216.leave (v := some (.ref x2)) (fun h => by rw [Bd.returns] at h; cases h)
  refine ⟨_, _, g220 _ (retOut X216 hx Bd.returns rfl (Or.inr (Or.inr (Or.inr (Or.inr ⟨rfl, rfl, rfl⟩)))) (hb hby d16_6) hr), hrun, hended, _, _, rfl, ?_, ⟨_, rfl⟩, hW, hsame.mono (by decide) (by decide)⟩
  show Q_eld32 Z aa (2 : Int32) ea ek x0 x1 x2 h0 n0 _ T216.heap _
  rw [e216]
  exact ⟨rfl, N0, rfl⟩
theorem pf_get32 : plainFor (⟨"java/util/ArrayList", "get", "(I)Ljava/lang/Object;"⟩ : MethodName) = true := by first | exact plainFor_of_name (by first | (simp [plainName, overriddenIn, x]; done) | decide +kernel) | exact Jvm.Free.JP.mathPlain rfl (by decide +kernel) | decide +kernel
theorem ef_get32 (m : MethodId) (aa : Addr) (xi : Int32) : entryFrame m #[(.ref aa), (.int xi)] 2 = mkF m 0 #[rv aa, iv xi] [] := by first | (simp [entryFrame, mkF, argsToLocals, Value.category, maxLocals]; done) | rfl
def Q_get32 (Z : State) (aa : Addr) (xi : Int32) (ea : Addr) (ek : ClassId) (x0 : Addr) (x1 : Addr) (x2 : Addr) (h0 : Heap) (n0 : Nat) (v : Option Value) (h : Heap) (L : List Loc) : Prop := v = some (.ref x2) ∧ Fr n0 L ∧ h = h0
set_option maxRecDepth 65536 in
set_option maxHeartbeats 40000000 in
theorem rm_get32 (l : Launch) (Z : State) (a0 : Array Value) (hw : ∀ d ∈ tables_1, d.before a0 Z = true) (ws : List Jvm.Cond) (aa : Addr) (xi : Int32) (ea : Addr) (ek : ClassId) (x0 : Addr) (x1 : Addr) (x2 : Addr) (h0 : Heap) (n0 : Nat) (Z0 : n0 ≤ h0.size) (P0 : Exa Z h0 aa "java/util/ArrayList") (P1 : Fld Z h0 aa "java/util/ArrayList" "size" "I" (.int (3 : Int32))) (P2 : Fld Z h0 aa "java/util/ArrayList" "elementData" "[Ljava/lang/Object;" (.ref ea)) (P3 : Arv Z h0 ea ek (.object "java/lang/Object") (10 : Int32) [(.ref x0), (.ref x1), (.ref x2), .null, .null, .null, .null, .null, .null, .null] .null) (q1 : xi = (2 : Int32))  :
    MetFree l (⟨"java/util/ArrayList", "get", "(I)Ljava/lang/Object;"⟩ : MethodName) (head1 (Jvm.Cond.code (⟨"java/util/ArrayList", "get", "(I)Ljava/lang/Object;"⟩ : MethodName) jdk_38_method_20_code 2 (some (.object "java/lang/Object")) :: ws) ({ frames := 2, cells := 0, slots := 0, locals := 27 } : Room)) (fun a U => a = #[(.ref aa), (.int xi)] ∧ Z.Warmed39 U.vm ∧ U.heap = h0) (fun _ _ _ _ _ => True) (fun _ U o U' => ∃ v L, o = .returned v ∧ Q_get32 Z aa xi ea ek x0 x1 x2 h0 n0 v U'.heap L ∧ FrameEnd U o U' L ({ frames := 2, cells := 0, slots := 0, locals := 27 } : Room).cells ({ frames := 2, cells := 0, slots := 0, locals := 27 } : Room).slots) := by
  refine MetFree.of_bodySF pf_get32 hisR ?_
  intro p e s m args below meth c s₁ Bd hml0 hP hK
  obtain ⟨rfl, hZ, hh⟩ := hP
  have hx := Bd.exec
  have hby := Bd.bytes
  have hml : c.maxLocals = 2 := hml0
  have hown : s.vm.findClass "java/util/ArrayList" = some m.cls := findClass_of_methodNamed Bd.named
  have hnm := (name_of_methodNamed Bd.named Bd.method).1
  have X0 : Stand p l e ({ frames := 2, cells := 0, slots := 0, locals := 27 } : Room) s m #[(.ref aa), (.int xi)] below meth c s₁ [] 0 0 := Stand.of_body Bd
  have e0 : s₁.heap = h0 := by rw [← hh, Bd.state]; rfl
  have N0 := Fr.nil n0
  obtain ⟨S0, hS0⟩ : ∃ z, z = s₁.setTop (entryFrame m #[(.ref aa), (.int xi)] 2) := ⟨_, rfl⟩
  rw [← hS0]
  have g0 : Goes p e below S0 (s₁.setTop (mkF m 0 #[rv aa, iv xi] [])) := fun t k => by rw [hS0]; exact castTop (ef_get32 m aa xi) k
  obtain rfl : xi = (2 : Int32) := q1
  have g221 : Goes p e below S0 (s₁.setTop (mkF m 2 #[rv aa, iv (2 : Int32)] [(.ref aa), (.int (2 : Int32))])) := fun t k => g0 t (by
    refine XS.iloadN X0.here hx rfl (hb hby d13_0) rfl ?_
    show Go p e below t s₁ m 1 #[rv aa, iv (2 : Int32)] [(.int (2 : Int32))]
    refine XS.aloadN X0.here hx rfl (hb hby d13_1) rfl rfl ?_
    show Go p e below t s₁ m 2 #[rv aa, iv (2 : Int32)] [(.ref aa), (.int (2 : Int32))]
    exact k)
  obtain ⟨T222, X222, e222, st222⟩ := getF X0 hx hZ hown (host := "") (Or.inl (hw _ (List.mem_of_getElem? (i := 69) rfl))) Via.refl e0 P1 (g := (mkF m 2 #[rv aa, iv (2 : Int32)] [(.ref aa), (.int (2 : Int32))])) rfl rfl (hb hby d13_2)
  have g223 : Goes p e below S0 (T222.setTop (mkF m 5 #[rv aa, iv (2 : Int32)] [(.int (3 : Int32)), (.int (2 : Int32))])) := fun t k => g221 t (st222 t k)
  obtain ⟨_, _, ⟨T224, L224, k224, n224⟩, -, X224, ⟨Lc224, hQ224, l224, y224, z224⟩, st224⟩ := Jvm.LawKit.callS X222 hx (y := (⟨"java/util/Objects", "checkIndex", "(II)I"⟩ : MethodName)) hown (mvT hZ (hw _ (List.mem_of_getElem? (i := 103) rfl))) (mvT hZ (hw _ (List.mem_of_getElem? (i := 104) rfl))) (mvT hZ (hw _ (List.mem_of_getElem? (i := 105) rfl))) (mvT hZ (hw _ (List.mem_of_getElem? (i := 106) rfl))) (by decide) (backOf (W := 0) (rm_oci l Z a0 hw [] (2 : Int32) (3 : Int32)  h0 n0 Z0 (by decide) (by decide)) hZ (hw _ (List.mem_of_getElem? (i := 106) rfl)) (hw _ (List.mem_of_getElem? (i := 105) rfl)) (by decide) (by decide)) (g := (mkF m 5 #[rv aa, iv (2 : Int32)] [(.int (3 : Int32)), (.int (2 : Int32))])) rfl (by rw [hml]; rfl) (argsL := [(.int (2 : Int32)), (.int (3 : Int32))]) (rest := []) (lenOf pd2 rfl) rfl (by show 2 * 0 + _ ≤ _; exact Nat.le_of_eq rfl) (hb hby d13_5) (fun _ _ => ⟨rfl, e222, (by decide : 0 + 0 ≤ _), (by decide : 0 + 0 ≤ _)⟩)
  dsimp only [Pt.U, Pt.locs, Pt.cells, Pt.slots] at X224 l224 y224 z224 st224 hQ224
  subst l224 y224 z224
  obtain ⟨rfl, N224, R224_0⟩ := hQ224
  have M224 := Fr.app N0 N224
  have g225 : Goes p e below S0 (T224.setTop (mkF m 8 #[rv aa, iv (2 : Int32)] [(.int (2 : Int32))])) := fun t k => g223 t (st224 t k)
  have g226 : Goes p e below S0 (T224.setTop (mkF m 11 #[rv aa, iv (2 : Int32)] [(.int (2 : Int32)), (.ref aa)])) := fun t k => g225 t (by
    refine XS.pop X224.here hx rfl (hb hby d13_8) rfl rfl ?_
    show Go p e below t T224 m 9 #[rv aa, iv (2 : Int32)] []
    refine XS.aloadN X224.here hx rfl (hb hby d13_9) rfl rfl ?_
    show Go p e below t T224 m 10 #[rv aa, iv (2 : Int32)] [(.ref aa)]
    refine XS.iloadN X224.here hx rfl (hb hby d13_10) rfl ?_
    show Go p e below t T224 m 11 #[rv aa, iv (2 : Int32)] [(.int (2 : Int32)), (.ref aa)]
    exact k)
  obtain ⟨cq227, kq227, q227a, q227b, q227c⟩ := isOf hZ R224_0 P0
  obtain ⟨_, _, ⟨T227, L227, k227, n227⟩, -, X227, ⟨Lc227, hQ227, l227, y227, z227⟩, st227⟩ := X224.virtualBack hx (y := (⟨"java/util/ArrayList", "elementData", "(I)Ljava/lang/Object;"⟩ : MethodName)) (z := (⟨"java/util/ArrayList", "elementData", "(I)Ljava/lang/Object;"⟩ : MethodName)) hown (mvT hZ (hw _ (List.mem_of_getElem? (i := 111) rfl))) (mvT hZ (hw _ (List.mem_of_getElem? (i := 112) rfl))) (notFace_of_selects (args := #[]) (mvT hZ (hw _ (List.mem_of_getElem? (i := 114) rfl)))) (mvT hZ (hw _ (List.mem_of_getElem? (i := 114) rfl))) (mvT hZ (hw _ (List.mem_of_getElem? (i := 113) rfl))) (by decide) (backOf (W := 0) (rm_eld32 l Z a0 hw [] aa (2 : Int32) ea ek x0 x1 x2 h0 n0 Z0 P2 P3 rfl) hZ (hw _ (List.mem_of_getElem? (i := 115) rfl)) (hw _ (List.mem_of_getElem? (i := 10) rfl)) (by decide) (by decide)) q227a q227c (g := (mkF m 11 #[rv aa, iv (2 : Int32)] [(.int (2 : Int32)), (.ref aa)])) rfl (by rw [hml]; rfl) (Steps.refl _) (argsL := [(.int (2 : Int32))]) (rest := []) (lenOf pd9 rfl) rfl (by show 2 * 0 + _ ≤ _; exact Nat.le_of_eq rfl) (hb hby d13_11) (fun _ _ => ⟨rfl, R224_0, (by decide : 0 + 0 ≤ _), (by decide : 0 + 0 ≤ _)⟩)
  dsimp only [Pt.U, Pt.locs, Pt.cells, Pt.slots] at X227 l227 y227 z227 st227 hQ227
  subst l227 y227 z227
  obtain ⟨rfl, N227, R227_0⟩ := hQ227
  have M227 := Fr.app M224 N227
  have g228 : Goes p e below S0 (T227.setTop (mkF m 14 #[rv aa, iv (2 : Int32)] [(.ref x2)])) := fun t k => g226 t (st227.trans k)
  obtain ⟨fs, hr, hrun, hended, hW, hsame⟩ := X227.leave (v := some (.ref x2)) (fun h => by rw [Bd.returns] at h; cases h)
  refine ⟨_, _, g228 _ (retOut X227 hx Bd.returns rfl (Or.inr (Or.inr (Or.inr (Or.inr ⟨rfl, rfl, rfl⟩)))) (hb hby d13_14) hr), hrun, hended, _, _, rfl, ?_, ⟨_, rfl⟩, hW, hsame.mono (by decide) (by decide)⟩
  show Q_get32 Z aa (2 : Int32) ea ek x0 x1 x2 h0 n0 _ T227.heap _
  rw [R227_0]
  exact ⟨rfl, M227, rfl⟩
theorem d17_0 : decode prog_30_method_6_code 0 = .ok (.aload_n 0, 1) := by decide +kernel
theorem d17_1 : decode prog_30_method_6_code 1 = .ok (.getfield 13, 3) := by decide +kernel
theorem d17_4 : decode prog_30_method_6_code 4 = .ok (.dreturn, 1) := by decide +kernel
theorem pd10 : parseMethodDescriptor "()D" = some ⟨[], some .double⟩ := by decide +kernel
theorem pf_sco : plainFor (⟨"com/example/nimble_retrieval/nimbleretrieval/format/Run$Retrieved", "score", "()D"⟩ : MethodName) = true := by first | exact plainFor_of_name (by first | (simp [plainName, overriddenIn, x]; done) | decide +kernel) | exact Jvm.Free.JP.mathPlain rfl (by decide +kernel) | decide +kernel
theorem ef_sco (m : MethodId) (ra : Addr) : entryFrame m #[(.ref ra)] 1 = mkF m 0 #[rv ra] [] := by first | (simp [entryFrame, mkF, argsToLocals, Value.category, maxLocals]; done) | rfl
def f_sco (rd : UInt64) : UInt64 := rd
def Q_sco (Z : State) (ra : Addr) (rd : UInt64) (h0 : Heap) (n0 : Nat) (v : Option Value) (h : Heap) (L : List Loc) : Prop := v = some (.double (f_sco rd)) ∧ Fr n0 L ∧ h = h0
set_option maxRecDepth 65536 in
set_option maxHeartbeats 40000000 in
theorem rm_sco (l : Launch) (Z : State) (a0 : Array Value) (hw : ∀ d ∈ tables_1, d.before a0 Z = true) (ws : List Jvm.Cond) (ra : Addr) (rd : UInt64) (h0 : Heap) (n0 : Nat) (Z0 : n0 ≤ h0.size) (P0 : Fld Z h0 ra "com/example/nimble_retrieval/nimbleretrieval/format/Run$Retrieved" "score" "D" (.double rd))  :
    MetFree l (⟨"com/example/nimble_retrieval/nimbleretrieval/format/Run$Retrieved", "score", "()D"⟩ : MethodName) (head1 (Jvm.Cond.code (⟨"com/example/nimble_retrieval/nimbleretrieval/format/Run$Retrieved", "score", "()D"⟩ : MethodName) prog_30_method_6_code 1 (some .double) :: ws) ({ frames := 0, cells := 0, slots := 0, locals := 0 } : Room)) (fun a U => a = #[(.ref ra)] ∧ Z.Warmed39 U.vm ∧ U.heap = h0) (fun _ _ _ _ _ => True) (fun _ U o U' => ∃ v L, o = .returned v ∧ Q_sco Z ra rd h0 n0 v U'.heap L ∧ FrameEnd U o U' L ({ frames := 0, cells := 0, slots := 0, locals := 0 } : Room).cells ({ frames := 0, cells := 0, slots := 0, locals := 0 } : Room).slots) := by
  refine MetFree.of_bodySF pf_sco hisR ?_
  intro p e s m args below meth c s₁ Bd hml0 hP hK
  obtain ⟨rfl, hZ, hh⟩ := hP
  have hx := Bd.exec
  have hby := Bd.bytes
  have hml : c.maxLocals = 1 := hml0
  have hown : s.vm.findClass "com/example/nimble_retrieval/nimbleretrieval/format/Run$Retrieved" = some m.cls := findClass_of_methodNamed Bd.named
  have hnm := (name_of_methodNamed Bd.named Bd.method).1
  have X0 : Stand p l e ({ frames := 0, cells := 0, slots := 0, locals := 0 } : Room) s m #[(.ref ra)] below meth c s₁ [] 0 0 := Stand.of_body Bd
  have e0 : s₁.heap = h0 := by rw [← hh, Bd.state]; rfl
  have N0 := Fr.nil n0
  obtain ⟨S0, hS0⟩ : ∃ z, z = s₁.setTop (entryFrame m #[(.ref ra)] 1) := ⟨_, rfl⟩
  rw [← hS0]
  have g0 : Goes p e below S0 (s₁.setTop (mkF m 0 #[rv ra] [])) := fun t k => by rw [hS0]; exact castTop (ef_sco m ra) k
  have g229 : Goes p e below S0 (s₁.setTop (mkF m 1 #[rv ra] [(.ref ra)])) := fun t k => g0 t (by
    refine XS.aloadN X0.here hx rfl (hb hby d17_0) rfl rfl ?_
    show Go p e below t s₁ m 1 #[rv ra] [(.ref ra)]
    exact k)
  obtain ⟨T230, X230, e230, st230⟩ := getF X0 hx hZ hown (host := "") (Or.inl (hw _ (List.mem_of_getElem? (i := 56) rfl))) Via.refl e0 P0 (g := (mkF m 1 #[rv ra] [(.ref ra)])) rfl rfl (hb hby d17_1)
  have g231 : Goes p e below S0 (T230.setTop (mkF m 4 #[rv ra] [(.double rd)])) := fun t k => g229 t (st230 t k)
  obtain ⟨fs, hr, hrun, hended, hW, hsame⟩ := X230.leave (v := some (.double rd)) (fun h => by rw [Bd.returns] at h; cases h)
  refine ⟨_, _, g231 _ (retOut X230 hx Bd.returns rfl (Or.inr (Or.inr (Or.inl ⟨rfl, rfl, _, rfl⟩))) (hb hby d17_4) hr), hrun, hended, _, _, rfl, ?_, ⟨_, rfl⟩, hW, hsame.mono (by decide) (by decide)⟩
  show Q_sco Z ra rd h0 n0 _ T230.heap _
  rw [e230]
  exact ⟨rfl, N0, rfl⟩
theorem d1_0 : decode jdk_29_method_69_code 0 = .ok (.iload_n 0, 1) := by decide +kernel
theorem d1_1 : decode jdk_29_method_69_code 1 = .ok (.iload_n 1, 1) := by decide +kernel
theorem d1_2 : decode jdk_29_method_69_code 2 = .ok (.if_icmp .gt 7, 3) := by decide +kernel
theorem d1_5 : decode jdk_29_method_69_code 5 = .ok (.iload_n 0, 1) := by decide +kernel
theorem d1_6 : decode jdk_29_method_69_code 6 = .ok (.goto 4, 3) := by decide +kernel
theorem d1_9 : decode jdk_29_method_69_code 9 = .ok (.iload_n 1, 1) := by decide +kernel
theorem d1_10 : decode jdk_29_method_69_code 10 = .ok (.ireturn, 1) := by decide +kernel
theorem pf_mn : plainFor (⟨"java/lang/Math", "min", "(II)I"⟩ : MethodName) = true := by first | exact plainFor_of_name (by first | (simp [plainName, overriddenIn, x]; done) | decide +kernel) | exact Jvm.Free.JP.mathPlain rfl (by decide +kernel) | decide +kernel
theorem ef_mn (m : MethodId) (xa : Int32) (xb : Int32) : entryFrame m #[(.int xa), (.int xb)] 2 = mkF m 0 #[iv xa, iv xb] [] := by first | (simp [entryFrame, mkF, argsToLocals, Value.category, maxLocals]; done) | rfl
def f_mn (xa : Int32) (xb : Int32) : Int32 := (if xb < xa then xb else xa)
def Q_mn (Z : State) (xa : Int32) (xb : Int32)  (h0 : Heap) (n0 : Nat) (v : Option Value) (h : Heap) (L : List Loc) : Prop := v = some (.int (f_mn xa xb)) ∧ Fr n0 L ∧ h = h0
set_option maxRecDepth 65536 in
set_option maxHeartbeats 40000000 in
theorem rm_mn (l : Launch) (Z : State) (a0 : Array Value) (hw : ∀ d ∈ tables_1, d.before a0 Z = true) (ws : List Jvm.Cond) (xa : Int32) (xb : Int32)  (h0 : Heap) (n0 : Nat) (Z0 : n0 ≤ h0.size)   :
    MetFree l (⟨"java/lang/Math", "min", "(II)I"⟩ : MethodName) (head1 (Jvm.Cond.code (⟨"java/lang/Math", "min", "(II)I"⟩ : MethodName) jdk_29_method_69_code 2 (some .int) :: ws) ({ frames := 0, cells := 0, slots := 0, locals := 0 } : Room)) (fun a U => a = #[(.int xa), (.int xb)] ∧ Z.Warmed39 U.vm ∧ U.heap = h0) (fun _ _ _ _ _ => True) (fun _ U o U' => ∃ v L, o = .returned v ∧ Q_mn Z xa xb  h0 n0 v U'.heap L ∧ FrameEnd U o U' L ({ frames := 0, cells := 0, slots := 0, locals := 0 } : Room).cells ({ frames := 0, cells := 0, slots := 0, locals := 0 } : Room).slots) := by
  refine MetFree.of_bodySF pf_mn hisR ?_
  intro p e s m args below meth c s₁ Bd hml0 hP hK
  obtain ⟨rfl, hZ, hh⟩ := hP
  have hx := Bd.exec
  have hby := Bd.bytes
  have hml : c.maxLocals = 2 := hml0
  have hown : s.vm.findClass "java/lang/Math" = some m.cls := findClass_of_methodNamed Bd.named
  have hnm := (name_of_methodNamed Bd.named Bd.method).1
  have X0 : Stand p l e ({ frames := 0, cells := 0, slots := 0, locals := 0 } : Room) s m #[(.int xa), (.int xb)] below meth c s₁ [] 0 0 := Stand.of_body Bd
  have e0 : s₁.heap = h0 := by rw [← hh, Bd.state]; rfl
  have N0 := Fr.nil n0
  obtain ⟨S0, hS0⟩ : ∃ z, z = s₁.setTop (entryFrame m #[(.int xa), (.int xb)] 2) := ⟨_, rfl⟩
  rw [← hS0]
  have g0 : Goes p e below S0 (s₁.setTop (mkF m 0 #[iv xa, iv xb] [])) := fun t k => by rw [hS0]; exact castTop (ef_mn m xa xb) k
  have g232 : Goes p e below S0 (s₁.setTop (mkF m 2 #[iv xa, iv xb] [(.int xb), (.int xa)])) := fun t k => g0 t (by
    refine XS.iloadN X0.here hx rfl (hb hby d1_0) rfl ?_
    show Go p e below t s₁ m 1 #[iv xa, iv xb] [(.int xa)]
    refine XS.iloadN X0.here hx rfl (hb hby d1_1) rfl ?_
    show Go p e below t s₁ m 2 #[iv xa, iv xb] [(.int xb), (.int xa)]
    exact k)
  by_cases h233 : xb < xa
  · skip
    have g234 : Goes p e below S0 (s₁.setTop (mkF m 10 #[iv xa, iv xb] [(.int xb)])) := fun t k => g232 t (by
      refine XS.icmpYes X0.here hx rfl (pc0 := 2) (pc' := 9) rfl (hb hby d1_2) rfl (XT.ii_gt_t h233) (by decide) (by decide) ?_
      show Go p e below t s₁ m 9 #[iv xa, iv xb] []
      refine XS.iloadN X0.here hx rfl (hb hby d1_9) rfl ?_
      show Go p e below t s₁ m 10 #[iv xa, iv xb] [(.int xb)]
      exact k)
    obtain ⟨fs, hr, hrun, hended, hW, hsame⟩ := X0.leave (v := some (.int xb)) (fun h => by rw [Bd.returns] at h; cases h)
    refine ⟨_, _, g234 _ (retOut X0 hx Bd.returns rfl (Or.inl ⟨rfl, Or.inl rfl, _, rfl⟩) (hb hby d1_10) hr), hrun, hended, _, _, rfl, ?_, ⟨_, rfl⟩, hW, hsame.mono (by decide) (by decide)⟩
    show Q_mn Z xa xb  h0 n0 _ s₁.heap _
    rw [e0]
    exact ⟨by unfold f_mn; rw [if_pos h233], N0, rfl⟩
  · skip
    have g235 : Goes p e below S0 (s₁.setTop (mkF m 10 #[iv xa, iv xb] [(.int xa)])) := fun t k => g232 t (by
      refine XS.icmpNo X0.here hx rfl (hb hby d1_2) rfl (XT.ii_gt_f h233) ?_
      show Go p e below t s₁ m 5 #[iv xa, iv xb] []
      refine XS.iloadN X0.here hx rfl (hb hby d1_5) rfl ?_
      show Go p e below t s₁ m 6 #[iv xa, iv xb] [(.int xa)]
      refine XS.goto X0.here hx rfl (pc0 := 6) (pc' := 10) rfl (hb hby d1_6) (by decide) (by decide) ?_
      show Go p e below t s₁ m 10 #[iv xa, iv xb] [(.int xa)]
      exact k)
    obtain ⟨fs, hr, hrun, hended, hW, hsame⟩ := X0.leave (v := some (.int xa)) (fun h => by rw [Bd.returns] at h; cases h)
    refine ⟨_, _, g235 _ (retOut X0 hx Bd.returns rfl (Or.inl ⟨rfl, Or.inl rfl, _, rfl⟩) (hb hby d1_10) hr), hrun, hended, _, _, rfl, ?_, ⟨_, rfl⟩, hW, hsame.mono (by decide) (by decide)⟩
    show Q_mn Z xa xb  h0 n0 _ s₁.heap _
    rw [e0]
    exact ⟨by unfold f_mn; rw [if_neg h233], N0, rfl⟩
def own_sc (t s : UInt64) : UInt64 := if dLt (0 : UInt64) t then FP.ddiv (Native.java_lang_Math.nans.pick64 true s (0 : UInt64)) t else (0 : UInt64)
open Jvm.OwnFP in
theorem own_tpos {t : UInt64} (ft : Jvm.Free.Fl.Fin64 t) (h : dLt (0 : UInt64) t) : 0 < Zv t := by
  have f0 : FP.Core.DFin (0 : UInt64) := dfin_const (by decide)
  have z0 : Zv (0 : UInt64) = 0 := by decide +kernel
  have h1 := (lt_iff f0 (Jvm.Free.Fl.fin64_core.mp ft)).mp h
  omega
theorem own_pk {s : UInt64} : Native.java_lang_Math.nans.pick64 true s (0 : UInt64) = s ∨ Native.java_lang_Math.nans.pick64 true s (0 : UInt64) = 0 := by
  unfold Native.java_lang_Math.nans.pick64
  split
  · exact Or.inr rfl
  · exact Or.inl rfl
  · split
    · exact Or.inr rfl
    · exact Or.inl rfl
open Jvm.OwnFP in
theorem own_nnq {s t : UInt64} (fs : Jvm.Free.Fl.Fin64 s) (ft : Jvm.Free.Fl.Fin64 t) (h : dLt (0 : UInt64) t) : Jvm.Free.Fl.NoNaN64 (FP.ddiv s t) :=
  Jvm.Free.Fl.val64_no.mpr (div_ne (Jvm.Free.Fl.fin64_core.mp fs) (Jvm.Free.Fl.fin64_core.mp ft) (own_tpos ft h))
theorem own_nnd {s t : UInt64} (fs : Jvm.Free.Fl.Fin64 s) (ft : Jvm.Free.Fl.Fin64 t) (h : dLt (0 : UInt64) t) : Jvm.Free.Fl.NoNaN64 (FP.ddiv (Native.java_lang_Math.nans.pick64 true s (0 : UInt64)) t) := by
  rcases own_pk (s := s) with e | e
  · rw [e]; exact own_nnq fs ft h
  · rw [e]; exact own_nnq (by unfold Jvm.Free.Fl.Fin64; decide) ft h
theorem own_len0 {Z : State} {args : Array Value} {t : Term} {a : Addr} {c : Cell} {ty : FieldType} (ev : t.eval args Z none [] Z = some (.ref a)) (A : Arr Z Z.heap a c ty) (h : (Jvm.Cond.eq (.length t) (.int 0)).value args Z none Z [] = some true) : c.slots.size = 0 := by
  have ha := A.fin (U := Z) (Vm.Alike.refl _)
  have e2 : (Term.int 0).eval args Z none [] Z = some (.int 0) := rfl
  by_cases hl : c.slots.size < 2 ^ 31
  · have e1 := len_f ev ha hl
    simp only [Jvm.Cond.value, e1, e2] at h
    have h3 : c.slots.size.toInt32 = 0 := by simpa using h
    have h4 := len_toInt hl
    rw [h3] at h4
    have : (0 : Int32).toInt = 0 := by decide
    omega
  · have e1 : (Term.length t).eval args Z none [] Z = none := by simp [Term.eval, ev, ha, hl]
    simp only [Jvm.Cond.value, e1] at h
    simp at h

theorem d12_0 : decode prog_52_method_4_code 0 = .ok (.aload_n 0, 1) := by decide +kernel
theorem d12_1 : decode prog_52_method_4_code 1 = .ok (.iconst 0, 1) := by decide +kernel
theorem d12_2 : decode prog_52_method_4_code 2 = .ok (.invokeinterface 68 2, 5) := by decide +kernel
theorem d12_7 : decode prog_52_method_4_code 7 = .ok (.checkcast 75, 3) := by decide +kernel
theorem d12_10 : decode prog_52_method_4_code 10 = .ok (.invokevirtual 77, 3) := by decide +kernel
theorem d12_13 : decode prog_52_method_4_code 13 = .ok (.dstore_n 1, 1) := by decide +kernel
theorem d12_14 : decode prog_52_method_4_code 14 = .ok (.aload_n 0, 1) := by decide +kernel
theorem d12_15 : decode prog_52_method_4_code 15 = .ok (.invokeinterface 78 1, 5) := by decide +kernel
theorem d12_20 : decode prog_52_method_4_code 20 = .ok (.anewarray 81, 3) := by decide +kernel
theorem d12_23 : decode prog_52_method_4_code 23 = .ok (.astore_n 3, 1) := by decide +kernel
theorem d12_24 : decode prog_52_method_4_code 24 = .ok (.iconst 0, 1) := by decide +kernel
theorem d12_25 : decode prog_52_method_4_code 25 = .ok (.istore 4, 2) := by decide +kernel
theorem d12_27 : decode prog_52_method_4_code 27 = .ok (.iload 4, 2) := by decide +kernel
theorem d12_29 : decode prog_52_method_4_code 29 = .ok (.aload_n 3, 1) := by decide +kernel
theorem d12_30 : decode prog_52_method_4_code 30 = .ok (.arraylength, 1) := by decide +kernel
theorem d12_31 : decode prog_52_method_4_code 31 = .ok (.if_icmp .ge 69, 3) := by decide +kernel
theorem d12_34 : decode prog_52_method_4_code 34 = .ok (.dconst 1, 1) := by decide +kernel
theorem d12_35 : decode prog_52_method_4_code 35 = .ok (.dconst 1, 1) := by decide +kernel
theorem d12_36 : decode prog_52_method_4_code 36 = .ok (.iload 4, 2) := by decide +kernel
theorem d12_38 : decode prog_52_method_4_code 38 = .ok (.iconst 1, 1) := by decide +kernel
theorem d12_39 : decode prog_52_method_4_code 39 = .ok (.iadd, 1) := by decide +kernel
theorem d12_40 : decode prog_52_method_4_code 40 = .ok (.i2d, 1) := by decide +kernel
theorem d12_41 : decode prog_52_method_4_code 41 = .ok (.ddiv, 1) := by decide +kernel
theorem d12_42 : decode prog_52_method_4_code 42 = .ok (.dsub, 1) := by decide +kernel
theorem d12_43 : decode prog_52_method_4_code 43 = .ok (.dstore 5, 2) := by decide +kernel
theorem d12_45 : decode prog_52_method_4_code 45 = .ok (.dload_n 1, 1) := by decide +kernel
theorem d12_46 : decode prog_52_method_4_code 46 = .ok (.dconst 0, 1) := by decide +kernel
theorem d12_47 : decode prog_52_method_4_code 47 = .ok (.dcmp .l, 1) := by decide +kernel
theorem d12_48 : decode prog_52_method_4_code 48 = .ok (.ifCond .le 26, 3) := by decide +kernel
theorem d12_51 : decode prog_52_method_4_code 51 = .ok (.aload_n 0, 1) := by decide +kernel
theorem d12_52 : decode prog_52_method_4_code 52 = .ok (.iload 4, 2) := by decide +kernel
theorem d12_54 : decode prog_52_method_4_code 54 = .ok (.invokeinterface 68 2, 5) := by decide +kernel
theorem d12_59 : decode prog_52_method_4_code 59 = .ok (.checkcast 75, 3) := by decide +kernel
theorem d12_62 : decode prog_52_method_4_code 62 = .ok (.invokevirtual 77, 3) := by decide +kernel
theorem d12_65 : decode prog_52_method_4_code 65 = .ok (.dconst 0, 1) := by decide +kernel
theorem d12_66 : decode prog_52_method_4_code 66 = .ok (.invokestatic 83, 3) := by decide +kernel
theorem d12_69 : decode prog_52_method_4_code 69 = .ok (.dload_n 1, 1) := by decide +kernel
theorem d12_70 : decode prog_52_method_4_code 70 = .ok (.ddiv, 1) := by decide +kernel
theorem d12_71 : decode prog_52_method_4_code 71 = .ok (.goto 4, 3) := by decide +kernel
theorem d12_74 : decode prog_52_method_4_code 74 = .ok (.dconst 0, 1) := by decide +kernel
theorem d12_75 : decode prog_52_method_4_code 75 = .ok (.dstore 7, 2) := by decide +kernel
theorem d12_77 : decode prog_52_method_4_code 77 = .ok (.aload_n 3, 1) := by decide +kernel
theorem d12_78 : decode prog_52_method_4_code 78 = .ok (.iload 4, 2) := by decide +kernel
theorem d12_80 : decode prog_52_method_4_code 80 = .ok (.iconst 2, 1) := by decide +kernel
theorem d12_81 : decode prog_52_method_4_code 81 = .ok (.newarray .double, 2) := by decide +kernel
theorem d12_83 : decode prog_52_method_4_code 83 = .ok (.dup, 1) := by decide +kernel
theorem d12_84 : decode prog_52_method_4_code 84 = .ok (.iconst 0, 1) := by decide +kernel
theorem d12_85 : decode prog_52_method_4_code 85 = .ok (.dload 5, 2) := by decide +kernel
theorem d12_87 : decode prog_52_method_4_code 87 = .ok (.dastore, 1) := by decide +kernel
theorem d12_88 : decode prog_52_method_4_code 88 = .ok (.dup, 1) := by decide +kernel
theorem d12_89 : decode prog_52_method_4_code 89 = .ok (.iconst 1, 1) := by decide +kernel
theorem d12_90 : decode prog_52_method_4_code 90 = .ok (.dload 7, 2) := by decide +kernel
theorem d12_92 : decode prog_52_method_4_code 92 = .ok (.dastore, 1) := by decide +kernel
theorem d12_93 : decode prog_52_method_4_code 93 = .ok (.aastore, 1) := by decide +kernel
theorem d12_94 : decode prog_52_method_4_code 94 = .ok (.iinc 4 1, 3) := by decide +kernel
theorem d12_97 : decode prog_52_method_4_code 97 = .ok (.goto (-70), 3) := by decide +kernel
theorem d12_100 : decode prog_52_method_4_code 100 = .ok (.aload_n 3, 1) := by decide +kernel
theorem d12_101 : decode prog_52_method_4_code 101 = .ok (.areturn, 1) := by decide +kernel
theorem pd11 : parseMethodDescriptor "(Ljava/util/List;)[[D" = some ⟨[(.object "java/util/List")], some (.array (.array .double))⟩ := by decide +kernel
theorem pf_inp1 : plainFor (⟨"com/example/nimble_retrieval/nimbleretrieval/runs/TrainedMerge", "inputs", "(Ljava/util/List;)[[D"⟩ : MethodName) = true := by first | exact plainFor_of_name (by first | (simp [plainName, overriddenIn, x]; done) | decide +kernel) | exact Jvm.Free.JP.mathPlain rfl (by decide +kernel) | decide +kernel
theorem ef_inp1 (m : MethodId) (aa : Addr) : entryFrame m #[(.ref aa)] 9 = mkF m 0 #[rv aa, .unset, .unset, .unset, .unset, .unset, .unset, .unset, .unset] [] := by first | (simp [entryFrame, mkF, argsToLocals, Value.category, maxLocals]; done) | rfl
theorem pd12 : parseMethodDescriptor "(DD)D" = some ⟨[.double, .double], some .double⟩ := by decide +kernel
def Q_inp1 (Z : State) (aa : Addr) (ea : Addr) (ek : ClassId) (x0 : Addr) (s0 : UInt64) (h0 : Heap) (n0 : Nat) (v : Option Value) (h : Heap) (L : List Loc) : Prop := ∃ (ta : Addr) (tk : ClassId) (d0 : Addr) (dk0 : ClassId), v = some (.ref ta) ∧ Fr n0 L ∧ (Keep h0 h []) ∧ (h0.size ≤ ta) ∧ (h0.size ≤ d0) ∧ (Arv Z h ta tk (.array .double) (1 : Int32) [(.ref d0)] .null) ∧ (Arv Z h d0 dk0 .double (2 : Int32) [(.double (FP.dsub (4607182418800017408 : UInt64) (FP.ddiv (4607182418800017408 : UInt64) (FP.i2d (1 : Int32))))), (.double (own_sc s0 s0))] (.double (0 : UInt64)))
set_option maxRecDepth 65536 in
set_option maxHeartbeats 40000000 in
theorem rm_inp1 (l : Launch) (Z : State) (a0 : Array Value) (hw : ∀ d ∈ tables_1, d.before a0 Z = true) (ws : List Jvm.Cond) (aa : Addr) (ea : Addr) (ek : ClassId) (x0 : Addr) (s0 : UInt64) (h0 : Heap) (n0 : Nat) (Z0 : n0 ≤ h0.size) (P0 : Exa Z h0 aa "java/util/ArrayList") (P1 : Fld Z h0 aa "java/util/ArrayList" "size" "I" (.int (1 : Int32))) (P2 : Fld Z h0 aa "java/util/ArrayList" "elementData" "[Ljava/lang/Object;" (.ref ea)) (P3 : Arv Z h0 ea ek (.object "java/lang/Object") (10 : Int32) [(.ref x0), .null, .null, .null, .null, .null, .null, .null, .null, .null] .null) (P4 : Exa Z h0 x0 "com/example/nimble_retrieval/nimbleretrieval/format/Run$Retrieved") (P5 : Fld Z h0 x0 "com/example/nimble_retrieval/nimbleretrieval/format/Run$Retrieved" "score" "D" (.double s0)) (fs0 : Jvm.Free.Fl.Fin64 s0)  :
    MetFree l (⟨"com/example/nimble_retrieval/nimbleretrieval/runs/TrainedMerge", "inputs", "(Ljava/util/List;)[[D"⟩ : MethodName) (head1 (Jvm.Cond.code (⟨"com/example/nimble_retrieval/nimbleretrieval/runs/TrainedMerge", "inputs", "(Ljava/util/List;)[[D"⟩ : MethodName) prog_52_method_4_code 9 (some (.array (.array .double))) :: ws) ({ frames := 3, cells := 2, slots := 3, locals := 60 } : Room)) (fun a U => a = #[(.ref aa)] ∧ Z.Warmed39 U.vm ∧ U.heap = h0) (fun _ _ _ _ _ => True) (fun _ U o U' => ∃ v L, o = .returned v ∧ Q_inp1 Z aa ea ek x0 s0 h0 n0 v U'.heap L ∧ FrameEnd U o U' L ({ frames := 3, cells := 2, slots := 3, locals := 60 } : Room).cells ({ frames := 3, cells := 2, slots := 3, locals := 60 } : Room).slots) := by
  refine MetFree.of_bodySF pf_inp1 hisR ?_
  intro p e s m args below meth c s₁ Bd hml0 hP hK
  obtain ⟨rfl, hZ, hh⟩ := hP
  have hx := Bd.exec
  have hby := Bd.bytes
  have hml : c.maxLocals = 9 := hml0
  have hown : s.vm.findClass "com/example/nimble_retrieval/nimbleretrieval/runs/TrainedMerge" = some m.cls := findClass_of_methodNamed Bd.named
  have hnm := (name_of_methodNamed Bd.named Bd.method).1
  have X0 : Stand p l e ({ frames := 3, cells := 2, slots := 3, locals := 60 } : Room) s m #[(.ref aa)] below meth c s₁ [] 0 0 := Stand.of_body Bd
  have e0 : s₁.heap = h0 := by rw [← hh, Bd.state]; rfl
  have N0 := Fr.nil n0
  obtain ⟨S0, hS0⟩ : ∃ z, z = s₁.setTop (entryFrame m #[(.ref aa)] 9) := ⟨_, rfl⟩
  rw [← hS0]
  have g0 : Goes p e below S0 (s₁.setTop (mkF m 0 #[rv aa, .unset, .unset, .unset, .unset, .unset, .unset, .unset, .unset] [])) := fun t k => by rw [hS0]; exact castTop (ef_inp1 m aa) k
  have g236 : Goes p e below S0 (s₁.setTop (mkF m 2 #[rv aa, .unset, .unset, .unset, .unset, .unset, .unset, .unset, .unset] [(.int (0 : Int32)), (.ref aa)])) := fun t k => g0 t (by
    refine XS.aloadN X0.here hx rfl (hb hby d12_0) rfl rfl ?_
    show Go p e below t s₁ m 1 #[rv aa, .unset, .unset, .unset, .unset, .unset, .unset, .unset, .unset] [(.ref aa)]
    refine XT.iconstV X0.here hx rfl (0 : Int32) (hb hby d12_1) (by decide) ?_
    show Go p e below t s₁ m 2 #[rv aa, .unset, .unset, .unset, .unset, .unset, .unset, .unset, .unset] [(.int (0 : Int32)), (.ref aa)]
    exact k)
  obtain ⟨cq237, kq237, q237a, q237b, q237c⟩ := isOf hZ e0 P0
  obtain ⟨_, _, ⟨T237, L237, k237, n237⟩, -, X237, ⟨Lc237, hQ237, l237, y237, z237⟩, st237⟩ := X0.interfaceBack hx (xi := (⟨"java/util/List", "get", "(I)Ljava/lang/Object;"⟩ : MethodName)) (y := (⟨"java/util/ArrayList", "get", "(I)Ljava/lang/Object;"⟩ : MethodName)) hown (mvT hZ (hw _ (List.mem_of_getElem? (i := 95) rfl))) (mvT hZ (hw _ (List.mem_of_getElem? (i := 96) rfl))) (mvT hZ (hw _ (List.mem_of_getElem? (i := 97) rfl))) (mvT hZ (hw _ (List.mem_of_getElem? (i := 98) rfl))) (mvT hZ (hw _ (List.mem_of_getElem? (i := 99) rfl))) (mvT hZ (hw _ (List.mem_of_getElem? (i := 100) rfl))) (mvT hZ (hw _ (List.mem_of_getElem? (i := 101) rfl))) (mvT hZ (hw _ (List.mem_of_getElem? (i := 65) rfl))) (by decide) (backOf (W := 0) (rm_get10 l Z a0 hw [] aa (0 : Int32) ea ek x0 h0 n0 Z0 P0 P1 P2 P3 rfl) hZ (hw _ (List.mem_of_getElem? (i := 102) rfl)) (hw _ (List.mem_of_getElem? (i := 10) rfl)) (by decide) (by decide)) q237a q237b q237c (g := (mkF m 2 #[rv aa, .unset, .unset, .unset, .unset, .unset, .unset, .unset, .unset] [(.int (0 : Int32)), (.ref aa)])) rfl (by rw [hml]; rfl) (Steps.refl _) (argsL := [(.int (0 : Int32))]) (rest := []) (lenOf pd9 rfl) rfl (by show 2 * 0 + _ ≤ _; exact Nat.le_of_eq rfl) (hb hby d12_2) (fun _ _ => ⟨rfl, e0, (by decide : 0 + 0 ≤ _), (by decide : 0 + 0 ≤ _)⟩)
  dsimp only [Pt.U, Pt.locs, Pt.cells, Pt.slots] at X237 l237 y237 z237 st237 hQ237
  subst l237 y237 z237
  obtain ⟨rfl, N237, R237_0⟩ := hQ237
  have M237 := Fr.app N0 N237
  have g238 : Goes p e below S0 (T237.setTop (mkF m 7 #[rv aa, .unset, .unset, .unset, .unset, .unset, .unset, .unset, .unset] [(.ref x0)])) := fun t k => g236 t (st237.trans k)
  obtain ⟨T239, X239, e239, st239⟩ := castY X237 hx hZ hown (hw _ (List.mem_of_getElem? (i := 116) rfl)) R237_0 (Ins.of_exa P4 (hw _ (List.mem_of_getElem? (i := 117) rfl))) (g := (mkF m 7 #[rv aa, .unset, .unset, .unset, .unset, .unset, .unset, .unset, .unset] [(.ref x0)])) rfl rfl (hb hby d12_7)
  have g240 : Goes p e below S0 (T239.setTop (mkF m 10 #[rv aa, .unset, .unset, .unset, .unset, .unset, .unset, .unset, .unset] [(.ref x0)])) := fun t k => g238 t (st239 t k)
  obtain ⟨cq241, kq241, q241a, q241b, q241c⟩ := isOf hZ e239 P4
  obtain ⟨_, _, ⟨T241, L241, k241, n241⟩, -, X241, ⟨Lc241, hQ241, l241, y241, z241⟩, st241⟩ := X239.virtualBack hx (y := (⟨"com/example/nimble_retrieval/nimbleretrieval/format/Run$Retrieved", "score", "()D"⟩ : MethodName)) (z := (⟨"com/example/nimble_retrieval/nimbleretrieval/format/Run$Retrieved", "score", "()D"⟩ : MethodName)) hown (mvT hZ (hw _ (List.mem_of_getElem? (i := 118) rfl))) (mvT hZ (hw _ (List.mem_of_getElem? (i := 119) rfl))) (notFace_of_selects (args := #[]) (mvT hZ (hw _ (List.mem_of_getElem? (i := 121) rfl)))) (mvT hZ (hw _ (List.mem_of_getElem? (i := 121) rfl))) (mvT hZ (hw _ (List.mem_of_getElem? (i := 120) rfl))) (by decide) (backOf (W := 0) (rm_sco l Z a0 hw [] x0 s0 h0 n0 Z0 P5) hZ (hw _ (List.mem_of_getElem? (i := 122) rfl)) (hw _ (List.mem_of_getElem? (i := 36) rfl)) (by decide) (by decide)) q241a q241c (g := (mkF m 10 #[rv aa, .unset, .unset, .unset, .unset, .unset, .unset, .unset, .unset] [(.ref x0)])) rfl (by rw [hml]; rfl) (Steps.refl _) (argsL := []) (rest := []) (lenOf pd10 rfl) rfl (by show 2 * 0 + _ ≤ _; exact Nat.le_of_eq rfl) (hb hby d12_10) (fun _ _ => ⟨rfl, e239, (by decide : 0 + 0 ≤ _), (by decide : 0 + 0 ≤ _)⟩)
  dsimp only [Pt.U, Pt.locs, Pt.cells, Pt.slots] at X241 l241 y241 z241 st241 hQ241
  subst l241 y241 z241
  obtain ⟨rfl, N241, e241⟩ := hQ241
  have M241 := Fr.app M237 N241
  have g242 : Goes p e below S0 (T241.setTop (mkF m 13 #[rv aa, .unset, .unset, .unset, .unset, .unset, .unset, .unset, .unset] [(.double (f_sco  s0))])) := fun t k => g240 t (st241.trans k)
  have g243 : Goes p e below S0 (T241.setTop (mkF m 15 #[rv aa, .val (.double (f_sco  s0)), .second, .unset, .unset, .unset, .unset, .unset, .unset] [(.ref aa)])) := fun t k => g242 t (by
    refine XS.dstoreN X241.here hx rfl (hb hby d12_13) rfl (l' := #[rv aa, .val (.double (f_sco  s0)), .second, .unset, .unset, .unset, .unset, .unset, .unset]) rfl ?_
    show Go p e below t T241 m 14 #[rv aa, .val (.double (f_sco  s0)), .second, .unset, .unset, .unset, .unset, .unset, .unset] []
    refine XS.aloadN X241.here hx rfl (hb hby d12_14) rfl rfl ?_
    show Go p e below t T241 m 15 #[rv aa, .val (.double (f_sco  s0)), .second, .unset, .unset, .unset, .unset, .unset, .unset] [(.ref aa)]
    exact k)
  obtain ⟨cq244, kq244, q244a, q244b, q244c⟩ := isOf hZ e241 P0
  obtain ⟨_, _, ⟨T244, L244, k244, n244⟩, -, X244, ⟨Lc244, hQ244, l244, y244, z244⟩, st244⟩ := X241.interfaceBack hx (xi := (⟨"java/util/List", "size", "()I"⟩ : MethodName)) (y := (⟨"java/util/ArrayList", "size", "()I"⟩ : MethodName)) hown (mvT hZ (hw _ (List.mem_of_getElem? (i := 123) rfl))) (mvT hZ (hw _ (List.mem_of_getElem? (i := 124) rfl))) (mvT hZ (hw _ (List.mem_of_getElem? (i := 125) rfl))) (mvT hZ (hw _ (List.mem_of_getElem? (i := 126) rfl))) (mvT hZ (hw _ (List.mem_of_getElem? (i := 127) rfl))) (mvT hZ (hw _ (List.mem_of_getElem? (i := 128) rfl))) (mvT hZ (hw _ (List.mem_of_getElem? (i := 129) rfl))) (mvT hZ (hw _ (List.mem_of_getElem? (i := 65) rfl))) (by decide) (backOf (W := 0) (rm_siz1 l Z a0 hw [] aa  h0 n0 Z0 P1) hZ (hw _ (List.mem_of_getElem? (i := 130) rfl)) (hw _ (List.mem_of_getElem? (i := 10) rfl)) (by decide) (by decide)) q244a q244b q244c (g := (mkF m 15 #[rv aa, .val (.double (f_sco  s0)), .second, .unset, .unset, .unset, .unset, .unset, .unset] [(.ref aa)])) rfl (by rw [hml]; rfl) (Steps.refl _) (argsL := []) (rest := []) (lenOf pd8 rfl) rfl (by show 2 * 0 + _ ≤ _; exact Nat.le_of_eq rfl) (hb hby d12_15) (fun _ _ => ⟨rfl, e241, (by decide : 0 + 0 ≤ _), (by decide : 0 + 0 ≤ _)⟩)
  dsimp only [Pt.U, Pt.locs, Pt.cells, Pt.slots] at X244 l244 y244 z244 st244 hQ244
  subst l244 y244 z244
  obtain ⟨rfl, N244, R244_0⟩ := hQ244
  have M244 := Fr.app M241 N244
  have g245 : Goes p e below S0 (T244.setTop (mkF m 20 #[rv aa, .val (.double (f_sco  s0)), .second, .unset, .unset, .unset, .unset, .unset, .unset] [(.int (1 : Int32))])) := fun t k => g243 t (st244.trans k)
  obtain ⟨T246, h246, k246, X246, e246, E246, A246, Q246, O246, st246⟩ := newRA X244 hx hZ hown (ty := .double) (C := "[D") (by decide) (hw _ (List.mem_of_getElem? (i := 131) rfl)) (hw _ (List.mem_of_getElem? (i := 132) rfl)) R244_0 (g := (mkF m 20 #[rv aa, .val (.double (f_sco  s0)), .second, .unset, .unset, .unset, .unset, .unset, .unset] [(.int (1 : Int32))])) rfl (hb hby d12_20) rfl (by decide) (cap := 1) (by decide) (by decide) (by decide) (by decide) (ad := "[[D") (by decide)
  obtain ⟨b246, gb246⟩ : ∃ z, z = h0.size := ⟨_, rfl⟩
  have sz246 : h0.size ≤ b246 := Nat.le_trans (Nat.le_refl _) (Nat.le_of_eq gb246.symm)
  have ng246 : n0 ≤ b246 := Nat.le_trans Z0 sz246
  rw [← gb246] at A246 st246 Q246
  have V246 : Arv Z h246 b246 k246 (.array .double) (1 : Int32) [.null] .null := (Arv.new A246 (by decide)).pad (pad_rep [] .null 1)
  have g247 : Goes p e below S0 (T246.setTop (mkF m 23 #[rv aa, .val (.double (f_sco  s0)), .second, .unset, .unset, .unset, .unset, .unset, .unset] [(.ref b246)])) := fun t k => g245 t (st246 t k)
  have g248 : Goes p e below S0 (T246.setTop (mkF m 30 #[rv aa, .val (.double (f_sco  s0)), .second, rv b246, iv (0 : Int32), .unset, .unset, .unset, .unset] [(.ref b246), (.int (0 : Int32))])) := fun t k => g247 t (by
    refine XS.astoreN X246.here hx rfl (hb hby d12_23) rfl rfl (l' := #[rv aa, .val (.double (f_sco  s0)), .second, rv b246, .unset, .unset, .unset, .unset, .unset]) rfl ?_
    show Go p e below t T246 m 24 #[rv aa, .val (.double (f_sco  s0)), .second, rv b246, .unset, .unset, .unset, .unset, .unset] []
    refine XT.iconstV X246.here hx rfl (0 : Int32) (hb hby d12_24) (by decide) ?_
    show Go p e below t T246 m 25 #[rv aa, .val (.double (f_sco  s0)), .second, rv b246, .unset, .unset, .unset, .unset, .unset] [(.int (0 : Int32))]
    refine XS.istore X246.here hx rfl (hb hby d12_25) rfl (l' := #[rv aa, .val (.double (f_sco  s0)), .second, rv b246, iv (0 : Int32), .unset, .unset, .unset, .unset]) rfl ?_
    show Go p e below t T246 m 27 #[rv aa, .val (.double (f_sco  s0)), .second, rv b246, iv (0 : Int32), .unset, .unset, .unset, .unset] []
    refine XS.iload X246.here hx rfl (hb hby d12_27) rfl ?_
    show Go p e below t T246 m 29 #[rv aa, .val (.double (f_sco  s0)), .second, rv b246, iv (0 : Int32), .unset, .unset, .unset, .unset] [(.int (0 : Int32))]
    refine XS.aloadN X246.here hx rfl (hb hby d12_29) rfl rfl ?_
    show Go p e below t T246 m 30 #[rv aa, .val (.double (f_sco  s0)), .second, rv b246, iv (0 : Int32), .unset, .unset, .unset, .unset] [(.ref b246), (.int (0 : Int32))]
    exact k)
  obtain ⟨cl249, Ar249, q249, S249, M249, H249, G249⟩ := id V246
  have g250 : Goes p e below S0 (T246.setTop (mkF m 48 #[rv aa, .val (.double (f_sco  s0)), .second, rv b246, iv (0 : Int32), .val (.double (FP.dsub (4607182418800017408 : UInt64) (FP.ddiv (4607182418800017408 : UInt64) (FP.i2d (1 : Int32))))), .second, .unset, .unset] [(.int (cmpValue (FP.dcmp (f_sco  s0) (0 : UInt64)) .l))])) := fun t k => g248 t (by
    refine X246.arraylength hx (by rw [e246]; exact Ar249.1) (State.isArrayOf_alike hZ.alike Ar249.2.1) (g := (mkF m 30 #[rv aa, .val (.double (f_sco  s0)), .second, rv b246, iv (0 : Int32), .unset, .unset, .unset, .unset] [(.ref b246), (.int (0 : Int32))])) rfl rfl (hb hby d12_30) _ ?_
    rw [len_of S249 M249]
    show Go p e below t T246 m 31 #[rv aa, .val (.double (f_sco  s0)), .second, rv b246, iv (0 : Int32), .unset, .unset, .unset, .unset] [(.int (1 : Int32)), (.int (0 : Int32))]
    refine XS.icmpNo X246.here hx rfl (hb hby d12_31) rfl (XT.ii_ge_f (by decide)) ?_
    show Go p e below t T246 m 34 #[rv aa, .val (.double (f_sco  s0)), .second, rv b246, iv (0 : Int32), .unset, .unset, .unset, .unset] []
    refine XS.dconst1 X246.here hx rfl (hb hby d12_34) (v := (4607182418800017408 : UInt64)) rfl ?_
    show Go p e below t T246 m 35 #[rv aa, .val (.double (f_sco  s0)), .second, rv b246, iv (0 : Int32), .unset, .unset, .unset, .unset] [(.double (4607182418800017408 : UInt64))]
    refine XS.dconst1 X246.here hx rfl (hb hby d12_35) (v := (4607182418800017408 : UInt64)) rfl ?_
    show Go p e below t T246 m 36 #[rv aa, .val (.double (f_sco  s0)), .second, rv b246, iv (0 : Int32), .unset, .unset, .unset, .unset] [(.double (4607182418800017408 : UInt64)), (.double (4607182418800017408 : UInt64))]
    refine XS.iload X246.here hx rfl (hb hby d12_36) rfl ?_
    show Go p e below t T246 m 38 #[rv aa, .val (.double (f_sco  s0)), .second, rv b246, iv (0 : Int32), .unset, .unset, .unset, .unset] [(.int (0 : Int32)), (.double (4607182418800017408 : UInt64)), (.double (4607182418800017408 : UInt64))]
    refine XT.iconstV X246.here hx rfl (1 : Int32) (hb hby d12_38) (by decide) ?_
    show Go p e below t T246 m 39 #[rv aa, .val (.double (f_sco  s0)), .second, rv b246, iv (0 : Int32), .unset, .unset, .unset, .unset] [(.int (1 : Int32)), (.int (0 : Int32)), (.double (4607182418800017408 : UInt64)), (.double (4607182418800017408 : UInt64))]
    refine XS.iadd X246.here hx rfl (hb hby d12_39) rfl ?_
    rw [show ((0 : Int32) + (1 : Int32)) = (1 : Int32) by decide]
    show Go p e below t T246 m 40 #[rv aa, .val (.double (f_sco  s0)), .second, rv b246, iv (0 : Int32), .unset, .unset, .unset, .unset] [(.int (1 : Int32)), (.double (4607182418800017408 : UInt64)), (.double (4607182418800017408 : UInt64))]
    refine XS.i2dS X246.here hx rfl (hb hby d12_40) rfl rfl ?_
    show Go p e below t T246 m 41 #[rv aa, .val (.double (f_sco  s0)), .second, rv b246, iv (0 : Int32), .unset, .unset, .unset, .unset] [(.double (FP.i2d (1 : Int32))), (.double (4607182418800017408 : UInt64)), (.double (4607182418800017408 : UInt64))]
    refine XS.ddivS X246.here hx rfl (hb hby d12_41) rfl (by unfold Jvm.Free.Fl.NoNaN64; decide +kernel) rfl ?_
    show Go p e below t T246 m 42 #[rv aa, .val (.double (f_sco  s0)), .second, rv b246, iv (0 : Int32), .unset, .unset, .unset, .unset] [(.double (FP.ddiv (4607182418800017408 : UInt64) (FP.i2d (1 : Int32)))), (.double (4607182418800017408 : UInt64))]
    refine XS.dsubS X246.here hx rfl (hb hby d12_42) rfl (by unfold Jvm.Free.Fl.NoNaN64; decide +kernel) rfl ?_
    show Go p e below t T246 m 43 #[rv aa, .val (.double (f_sco  s0)), .second, rv b246, iv (0 : Int32), .unset, .unset, .unset, .unset] [(.double (FP.dsub (4607182418800017408 : UInt64) (FP.ddiv (4607182418800017408 : UInt64) (FP.i2d (1 : Int32)))))]
    refine XS.dstore X246.here hx rfl (hb hby d12_43) rfl (l' := #[rv aa, .val (.double (f_sco  s0)), .second, rv b246, iv (0 : Int32), .val (.double (FP.dsub (4607182418800017408 : UInt64) (FP.ddiv (4607182418800017408 : UInt64) (FP.i2d (1 : Int32))))), .second, .unset, .unset]) rfl ?_
    show Go p e below t T246 m 45 #[rv aa, .val (.double (f_sco  s0)), .second, rv b246, iv (0 : Int32), .val (.double (FP.dsub (4607182418800017408 : UInt64) (FP.ddiv (4607182418800017408 : UInt64) (FP.i2d (1 : Int32))))), .second, .unset, .unset] []
    refine XS.dloadN X246.here hx rfl (hb hby d12_45) rfl ?_
    show Go p e below t T246 m 46 #[rv aa, .val (.double (f_sco  s0)), .second, rv b246, iv (0 : Int32), .val (.double (FP.dsub (4607182418800017408 : UInt64) (FP.ddiv (4607182418800017408 : UInt64) (FP.i2d (1 : Int32))))), .second, .unset, .unset] [(.double (f_sco  s0))]
    refine XS.dconst0 X246.here hx rfl (hb hby d12_46) (v := (0 : UInt64)) rfl ?_
    show Go p e below t T246 m 47 #[rv aa, .val (.double (f_sco  s0)), .second, rv b246, iv (0 : Int32), .val (.double (FP.dsub (4607182418800017408 : UInt64) (FP.ddiv (4607182418800017408 : UInt64) (FP.i2d (1 : Int32))))), .second, .unset, .unset] [(.double (0 : UInt64)), (.double (f_sco  s0))]
    refine XS.dcmpS X246.here hx rfl (hb hby d12_47) rfl rfl ?_
    show Go p e below t T246 m 48 #[rv aa, .val (.double (f_sco  s0)), .second, rv b246, iv (0 : Int32), .val (.double (FP.dsub (4607182418800017408 : UInt64) (FP.ddiv (4607182418800017408 : UInt64) (FP.i2d (1 : Int32))))), .second, .unset, .unset] [(.int (cmpValue (FP.dcmp (f_sco  s0) (0 : UInt64)) .l))]
    exact k)
  by_cases h251 : dLt (0 : UInt64) (f_sco  s0)
  · skip
    have g252 : Goes p e below S0 (T246.setTop (mkF m 54 #[rv aa, .val (.double (f_sco  s0)), .second, rv b246, iv (0 : Int32), .val (.double (FP.dsub (4607182418800017408 : UInt64) (FP.ddiv (4607182418800017408 : UInt64) (FP.i2d (1 : Int32))))), .second, .unset, .unset] [(.int (0 : Int32)), (.ref aa)])) := fun t k => g250 t (by
      refine XS.ifNo X246.here hx rfl (hb hby d12_48) rfl (dc_l_le_f h251) ?_
      show Go p e below t T246 m 51 #[rv aa, .val (.double (f_sco  s0)), .second, rv b246, iv (0 : Int32), .val (.double (FP.dsub (4607182418800017408 : UInt64) (FP.ddiv (4607182418800017408 : UInt64) (FP.i2d (1 : Int32))))), .second, .unset, .unset] []
      refine XS.aloadN X246.here hx rfl (hb hby d12_51) rfl rfl ?_
      show Go p e below t T246 m 52 #[rv aa, .val (.double (f_sco  s0)), .second, rv b246, iv (0 : Int32), .val (.double (FP.dsub (4607182418800017408 : UInt64) (FP.ddiv (4607182418800017408 : UInt64) (FP.i2d (1 : Int32))))), .second, .unset, .unset] [(.ref aa)]
      refine XS.iload X246.here hx rfl (hb hby d12_52) rfl ?_
      show Go p e below t T246 m 54 #[rv aa, .val (.double (f_sco  s0)), .second, rv b246, iv (0 : Int32), .val (.double (FP.dsub (4607182418800017408 : UInt64) (FP.ddiv (4607182418800017408 : UInt64) (FP.i2d (1 : Int32))))), .second, .unset, .unset] [(.int (0 : Int32)), (.ref aa)]
      exact k)
    obtain ⟨cq253, kq253, q253a, q253b, q253c⟩ := isOf hZ e246 (P0.ext E246)
    obtain ⟨_, _, ⟨T253, L253, k253, n253⟩, -, X253, ⟨Lc253, hQ253, l253, y253, z253⟩, st253⟩ := X246.interfaceBack hx (xi := (⟨"java/util/List", "get", "(I)Ljava/lang/Object;"⟩ : MethodName)) (y := (⟨"java/util/ArrayList", "get", "(I)Ljava/lang/Object;"⟩ : MethodName)) hown (mvT hZ (hw _ (List.mem_of_getElem? (i := 95) rfl))) (mvT hZ (hw _ (List.mem_of_getElem? (i := 96) rfl))) (mvT hZ (hw _ (List.mem_of_getElem? (i := 97) rfl))) (mvT hZ (hw _ (List.mem_of_getElem? (i := 98) rfl))) (mvT hZ (hw _ (List.mem_of_getElem? (i := 99) rfl))) (mvT hZ (hw _ (List.mem_of_getElem? (i := 100) rfl))) (mvT hZ (hw _ (List.mem_of_getElem? (i := 101) rfl))) (mvT hZ (hw _ (List.mem_of_getElem? (i := 65) rfl))) (by decide) (backOf (W := 0) (rm_get10 l Z a0 hw [] aa (0 : Int32) ea ek x0 h246 n0 (Nat.le_trans Z0 (Nat.le_trans (Nat.le_refl _) E246.1)) (P0.ext E246) (P1.ext E246) (P2.ext E246) (P3.ext E246) rfl) hZ (hw _ (List.mem_of_getElem? (i := 102) rfl)) (hw _ (List.mem_of_getElem? (i := 10) rfl)) (by decide) (by decide)) q253a q253b q253c (g := (mkF m 54 #[rv aa, .val (.double (f_sco  s0)), .second, rv b246, iv (0 : Int32), .val (.double (FP.dsub (4607182418800017408 : UInt64) (FP.ddiv (4607182418800017408 : UInt64) (FP.i2d (1 : Int32))))), .second, .unset, .unset] [(.int (0 : Int32)), (.ref aa)])) rfl (by rw [hml]; rfl) (Steps.refl _) (argsL := [(.int (0 : Int32))]) (rest := []) (lenOf pd9 rfl) rfl (by show 2 * 0 + _ ≤ _; exact Nat.le_of_eq rfl) (hb hby d12_54) (fun _ _ => ⟨rfl, e246, (by decide : 1 + 0 ≤ _), (by decide : 1 + 0 ≤ _)⟩)
    dsimp only [Pt.U, Pt.locs, Pt.cells, Pt.slots] at X253 l253 y253 z253 st253 hQ253
    subst l253 y253 z253
    obtain ⟨rfl, N253, R253_0⟩ := hQ253
    have M253 := Fr.app M244 N253
    have g254 : Goes p e below S0 (T253.setTop (mkF m 59 #[rv aa, .val (.double (f_sco  s0)), .second, rv b246, iv (0 : Int32), .val (.double (FP.dsub (4607182418800017408 : UInt64) (FP.ddiv (4607182418800017408 : UInt64) (FP.i2d (1 : Int32))))), .second, .unset, .unset] [(.ref x0)])) := fun t k => g252 t (st253.trans k)
    obtain ⟨T255, X255, e255, st255⟩ := castY X253 hx hZ hown (hw _ (List.mem_of_getElem? (i := 116) rfl)) R253_0 (Ins.of_exa (P4.ext E246) (hw _ (List.mem_of_getElem? (i := 117) rfl))) (g := (mkF m 59 #[rv aa, .val (.double (f_sco  s0)), .second, rv b246, iv (0 : Int32), .val (.double (FP.dsub (4607182418800017408 : UInt64) (FP.ddiv (4607182418800017408 : UInt64) (FP.i2d (1 : Int32))))), .second, .unset, .unset] [(.ref x0)])) rfl rfl (hb hby d12_59)
    have g256 : Goes p e below S0 (T255.setTop (mkF m 62 #[rv aa, .val (.double (f_sco  s0)), .second, rv b246, iv (0 : Int32), .val (.double (FP.dsub (4607182418800017408 : UInt64) (FP.ddiv (4607182418800017408 : UInt64) (FP.i2d (1 : Int32))))), .second, .unset, .unset] [(.ref x0)])) := fun t k => g254 t (st255 t k)
    obtain ⟨cq257, kq257, q257a, q257b, q257c⟩ := isOf hZ e255 (P4.ext E246)
    obtain ⟨_, _, ⟨T257, L257, k257, n257⟩, -, X257, ⟨Lc257, hQ257, l257, y257, z257⟩, st257⟩ := X255.virtualBack hx (y := (⟨"com/example/nimble_retrieval/nimbleretrieval/format/Run$Retrieved", "score", "()D"⟩ : MethodName)) (z := (⟨"com/example/nimble_retrieval/nimbleretrieval/format/Run$Retrieved", "score", "()D"⟩ : MethodName)) hown (mvT hZ (hw _ (List.mem_of_getElem? (i := 118) rfl))) (mvT hZ (hw _ (List.mem_of_getElem? (i := 119) rfl))) (notFace_of_selects (args := #[]) (mvT hZ (hw _ (List.mem_of_getElem? (i := 121) rfl)))) (mvT hZ (hw _ (List.mem_of_getElem? (i := 121) rfl))) (mvT hZ (hw _ (List.mem_of_getElem? (i := 120) rfl))) (by decide) (backOf (W := 0) (rm_sco l Z a0 hw [] x0 s0 h246 n0 (Nat.le_trans Z0 (Nat.le_trans (Nat.le_refl _) E246.1)) (P5.ext E246)) hZ (hw _ (List.mem_of_getElem? (i := 122) rfl)) (hw _ (List.mem_of_getElem? (i := 36) rfl)) (by decide) (by decide)) q257a q257c (g := (mkF m 62 #[rv aa, .val (.double (f_sco  s0)), .second, rv b246, iv (0 : Int32), .val (.double (FP.dsub (4607182418800017408 : UInt64) (FP.ddiv (4607182418800017408 : UInt64) (FP.i2d (1 : Int32))))), .second, .unset, .unset] [(.ref x0)])) rfl (by rw [hml]; rfl) (Steps.refl _) (argsL := []) (rest := []) (lenOf pd10 rfl) rfl (by show 2 * 0 + _ ≤ _; exact Nat.le_of_eq rfl) (hb hby d12_62) (fun _ _ => ⟨rfl, e255, (by decide : 1 + 0 ≤ _), (by decide : 1 + 0 ≤ _)⟩)
    dsimp only [Pt.U, Pt.locs, Pt.cells, Pt.slots] at X257 l257 y257 z257 st257 hQ257
    subst l257 y257 z257
    obtain ⟨rfl, N257, e257⟩ := hQ257
    have M257 := Fr.app M253 N257
    have g258 : Goes p e below S0 (T257.setTop (mkF m 65 #[rv aa, .val (.double (f_sco  s0)), .second, rv b246, iv (0 : Int32), .val (.double (FP.dsub (4607182418800017408 : UInt64) (FP.ddiv (4607182418800017408 : UInt64) (FP.i2d (1 : Int32))))), .second, .unset, .unset] [(.double (f_sco  s0))])) := fun t k => g256 t (st257.trans k)
    have g259 : Goes p e below S0 (T257.setTop (mkF m 66 #[rv aa, .val (.double (f_sco  s0)), .second, rv b246, iv (0 : Int32), .val (.double (FP.dsub (4607182418800017408 : UInt64) (FP.ddiv (4607182418800017408 : UInt64) (FP.i2d (1 : Int32))))), .second, .unset, .unset] [(.double (0 : UInt64)), (.double (f_sco  s0))])) := fun t k => g258 t (by
      refine XS.dconst0 X257.here hx rfl (hb hby d12_65) (v := (0 : UInt64)) rfl ?_
      show Go p e below t T257 m 66 #[rv aa, .val (.double (f_sco  s0)), .second, rv b246, iv (0 : Int32), .val (.double (FP.dsub (4607182418800017408 : UInt64) (FP.ddiv (4607182418800017408 : UInt64) (FP.i2d (1 : Int32))))), .second, .unset, .unset] [(.double (0 : UInt64)), (.double (f_sco  s0))]
      exact k)
    obtain ⟨T260, X260, e260, st260⟩ := natS X257 hx hZ (y := (⟨"java/lang/Math", "max", "(DD)D"⟩ : MethodName)) hown (hw _ (List.mem_of_getElem? (i := 133) rfl)) (hw _ (List.mem_of_getElem? (i := 134) rfl)) (hw _ (List.mem_of_getElem? (i := 3) rfl)) (hw _ (List.mem_of_getElem? (i := 135) rfl)) (by decide) e257 (W := 0) (fun c4 => Jvm.Free.Fl.Abs.maxD_pays (f_sco  s0) (0 : UInt64) c4 (by decide) (by decide)) (g := (mkF m 66 #[rv aa, .val (.double (f_sco  s0)), .second, rv b246, iv (0 : Int32), .val (.double (FP.dsub (4607182418800017408 : UInt64) (FP.ddiv (4607182418800017408 : UInt64) (FP.i2d (1 : Int32))))), .second, .unset, .unset] [(.double (0 : UInt64)), (.double (f_sco  s0))])) rfl (by rw [hml]; rfl) (argsL := [(.double (f_sco  s0)), (.double (0 : UInt64))]) (rest := []) (lenOf pd12 rfl) rfl (by show 2 * 0 + _ ≤ _; exact Nat.le_of_eq rfl) (hb hby d12_66) (Nat.le_of_ble_eq_true rfl) (Nat.le_of_ble_eq_true rfl) ⟨rfl, fs0.noNaN, (by unfold Jvm.Free.Fl.NoNaN64; decide +kernel)⟩ (val' := (.double (Native.java_lang_Math.nans.pick64 true (f_sco  s0) (0 : UInt64)))) rfl
    have g261 : Goes p e below S0 (T260.setTop (mkF m 69 #[rv aa, .val (.double (f_sco  s0)), .second, rv b246, iv (0 : Int32), .val (.double (FP.dsub (4607182418800017408 : UInt64) (FP.ddiv (4607182418800017408 : UInt64) (FP.i2d (1 : Int32))))), .second, .unset, .unset] [(.double (Native.java_lang_Math.nans.pick64 true (f_sco  s0) (0 : UInt64)))])) := fun t k => g259 t (st260 t k)
    have g262 : Goes p e below S0 (T260.setTop (mkF m 77 #[rv aa, .val (.double (f_sco  s0)), .second, rv b246, iv (0 : Int32), .val (.double (FP.dsub (4607182418800017408 : UInt64) (FP.ddiv (4607182418800017408 : UInt64) (FP.i2d (1 : Int32))))), .second, .val (.double (FP.ddiv (Native.java_lang_Math.nans.pick64 true (f_sco  s0) (0 : UInt64)) (f_sco  s0))), .second] [])) := fun t k => g261 t (by
      refine XS.dloadN X260.here hx rfl (hb hby d12_69) rfl ?_
      show Go p e below t T260 m 70 #[rv aa, .val (.double (f_sco  s0)), .second, rv b246, iv (0 : Int32), .val (.double (FP.dsub (4607182418800017408 : UInt64) (FP.ddiv (4607182418800017408 : UInt64) (FP.i2d (1 : Int32))))), .second, .unset, .unset] [(.double (f_sco  s0)), (.double (Native.java_lang_Math.nans.pick64 true (f_sco  s0) (0 : UInt64)))]
      refine XS.ddivS X260.here hx rfl (hb hby d12_70) rfl (own_nnd fs0 fs0 h251) rfl ?_
      show Go p e below t T260 m 71 #[rv aa, .val (.double (f_sco  s0)), .second, rv b246, iv (0 : Int32), .val (.double (FP.dsub (4607182418800017408 : UInt64) (FP.ddiv (4607182418800017408 : UInt64) (FP.i2d (1 : Int32))))), .second, .unset, .unset] [(.double (FP.ddiv (Native.java_lang_Math.nans.pick64 true (f_sco  s0) (0 : UInt64)) (f_sco  s0)))]
      refine XS.goto X260.here hx rfl (pc0 := 71) (pc' := 75) rfl (hb hby d12_71) (by decide) (by decide) ?_
      show Go p e below t T260 m 75 #[rv aa, .val (.double (f_sco  s0)), .second, rv b246, iv (0 : Int32), .val (.double (FP.dsub (4607182418800017408 : UInt64) (FP.ddiv (4607182418800017408 : UInt64) (FP.i2d (1 : Int32))))), .second, .unset, .unset] [(.double (FP.ddiv (Native.java_lang_Math.nans.pick64 true (f_sco  s0) (0 : UInt64)) (f_sco  s0)))]
      refine XS.dstore X260.here hx rfl (hb hby d12_75) rfl (l' := #[rv aa, .val (.double (f_sco  s0)), .second, rv b246, iv (0 : Int32), .val (.double (FP.dsub (4607182418800017408 : UInt64) (FP.ddiv (4607182418800017408 : UInt64) (FP.i2d (1 : Int32))))), .second, .val (.double (FP.ddiv (Native.java_lang_Math.nans.pick64 true (f_sco  s0) (0 : UInt64)) (f_sco  s0))), .second]) rfl ?_
      show Go p e below t T260 m 77 #[rv aa, .val (.double (f_sco  s0)), .second, rv b246, iv (0 : Int32), .val (.double (FP.dsub (4607182418800017408 : UInt64) (FP.ddiv (4607182418800017408 : UInt64) (FP.i2d (1 : Int32))))), .second, .val (.double (FP.ddiv (Native.java_lang_Math.nans.pick64 true (f_sco  s0) (0 : UInt64)) (f_sco  s0))), .second] []
      exact k)
    rw [show (FP.ddiv (Native.java_lang_Math.nans.pick64 true (f_sco  s0) (0 : UInt64)) (f_sco  s0)) = (own_sc s0 s0) from (if_pos h251).symm] at g262
    have g263 : Goes p e below S0 (T260.setTop (mkF m 81 #[rv aa, .val (.double (f_sco  s0)), .second, rv b246, iv (0 : Int32), .val (.double (FP.dsub (4607182418800017408 : UInt64) (FP.ddiv (4607182418800017408 : UInt64) (FP.i2d (1 : Int32))))), .second, .val (.double (own_sc s0 s0)), .second] [(.int (2 : Int32)), (.int (0 : Int32)), (.ref b246)])) := fun t k => g262 t (by
      refine XS.aloadN X260.here hx rfl (hb hby d12_77) rfl rfl ?_
      show Go p e below t T260 m 78 #[rv aa, .val (.double (f_sco  s0)), .second, rv b246, iv (0 : Int32), .val (.double (FP.dsub (4607182418800017408 : UInt64) (FP.ddiv (4607182418800017408 : UInt64) (FP.i2d (1 : Int32))))), .second, .val (.double (own_sc s0 s0)), .second] [(.ref b246)]
      refine XS.iload X260.here hx rfl (hb hby d12_78) rfl ?_
      show Go p e below t T260 m 80 #[rv aa, .val (.double (f_sco  s0)), .second, rv b246, iv (0 : Int32), .val (.double (FP.dsub (4607182418800017408 : UInt64) (FP.ddiv (4607182418800017408 : UInt64) (FP.i2d (1 : Int32))))), .second, .val (.double (own_sc s0 s0)), .second] [(.int (0 : Int32)), (.ref b246)]
      refine XT.iconstV X260.here hx rfl (2 : Int32) (hb hby d12_80) (by decide) ?_
      show Go p e below t T260 m 81 #[rv aa, .val (.double (f_sco  s0)), .second, rv b246, iv (0 : Int32), .val (.double (FP.dsub (4607182418800017408 : UInt64) (FP.ddiv (4607182418800017408 : UInt64) (FP.i2d (1 : Int32))))), .second, .val (.double (own_sc s0 s0)), .second] [(.int (2 : Int32)), (.int (0 : Int32)), (.ref b246)]
      exact k)
    obtain ⟨T264, h264, k264, X264, e264, E264, A264, Q264, st264⟩ := newPE X260 hx hZ (hw _ (List.mem_of_getElem? (i := 136) rfl)) e260 (g := (mkF m 81 #[rv aa, .val (.double (f_sco  s0)), .second, rv b246, iv (0 : Int32), .val (.double (FP.dsub (4607182418800017408 : UInt64) (FP.ddiv (4607182418800017408 : UInt64) (FP.i2d (1 : Int32))))), .second, .val (.double (own_sc s0 s0)), .second] [(.int (2 : Int32)), (.int (0 : Int32)), (.ref b246)])) rfl (hb hby d12_81) rfl (by decide) (cap := 2) (by decide) (by decide) (by decide) (by decide) (ad := "[D") (by decide)
    obtain ⟨b264, gb264⟩ : ∃ z, z = h246.size := ⟨_, rfl⟩
    have sz264 : h0.size ≤ b264 := Nat.le_trans (Nat.le_trans (Nat.le_refl _) E246.1) (Nat.le_of_eq gb264.symm)
    have ng264 : n0 ≤ b264 := Nat.le_trans Z0 sz264
    rw [← gb264] at A264 st264 Q264
    have V264 : Arv Z h264 b264 k264 .double (2 : Int32) [(.double (0 : UInt64)), (.double (0 : UInt64))] (.double (0 : UInt64)) := (Arv.new A264 (by decide)).pad (pad_rep [] (.double (0 : UInt64)) 2)
    have g265 : Goes p e below S0 (T264.setTop (mkF m 83 #[rv aa, .val (.double (f_sco  s0)), .second, rv b246, iv (0 : Int32), .val (.double (FP.dsub (4607182418800017408 : UInt64) (FP.ddiv (4607182418800017408 : UInt64) (FP.i2d (1 : Int32))))), .second, .val (.double (own_sc s0 s0)), .second] [(.ref b264), (.int (0 : Int32)), (.ref b246)])) := fun t k => g263 t (st264 t k)
    have g266 : Goes p e below S0 (T264.setTop (mkF m 87 #[rv aa, .val (.double (f_sco  s0)), .second, rv b246, iv (0 : Int32), .val (.double (FP.dsub (4607182418800017408 : UInt64) (FP.ddiv (4607182418800017408 : UInt64) (FP.i2d (1 : Int32))))), .second, .val (.double (own_sc s0 s0)), .second] [(.double (FP.dsub (4607182418800017408 : UInt64) (FP.ddiv (4607182418800017408 : UInt64) (FP.i2d (1 : Int32))))), (.int (0 : Int32)), (.ref b264), (.ref b264), (.int (0 : Int32)), (.ref b246)])) := fun t k => g265 t (by
      refine XS.dup X264.here hx rfl (hb hby d12_83) rfl rfl ?_
      show Go p e below t T264 m 84 #[rv aa, .val (.double (f_sco  s0)), .second, rv b246, iv (0 : Int32), .val (.double (FP.dsub (4607182418800017408 : UInt64) (FP.ddiv (4607182418800017408 : UInt64) (FP.i2d (1 : Int32))))), .second, .val (.double (own_sc s0 s0)), .second] [(.ref b264), (.ref b264), (.int (0 : Int32)), (.ref b246)]
      refine XT.iconstV X264.here hx rfl (0 : Int32) (hb hby d12_84) (by decide) ?_
      show Go p e below t T264 m 85 #[rv aa, .val (.double (f_sco  s0)), .second, rv b246, iv (0 : Int32), .val (.double (FP.dsub (4607182418800017408 : UInt64) (FP.ddiv (4607182418800017408 : UInt64) (FP.i2d (1 : Int32))))), .second, .val (.double (own_sc s0 s0)), .second] [(.int (0 : Int32)), (.ref b264), (.ref b264), (.int (0 : Int32)), (.ref b246)]
      refine XS.dload X264.here hx rfl (hb hby d12_85) rfl ?_
      show Go p e below t T264 m 87 #[rv aa, .val (.double (f_sco  s0)), .second, rv b246, iv (0 : Int32), .val (.double (FP.dsub (4607182418800017408 : UInt64) (FP.ddiv (4607182418800017408 : UInt64) (FP.i2d (1 : Int32))))), .second, .val (.double (own_sc s0 s0)), .second] [(.double (FP.dsub (4607182418800017408 : UInt64) (FP.ddiv (4607182418800017408 : UInt64) (FP.i2d (1 : Int32))))), (.int (0 : Int32)), (.ref b264), (.ref b264), (.int (0 : Int32)), (.ref b246)]
      exact k)
    obtain ⟨cl267, Ar267, q267, S267, M267, H267, G267⟩ := id V264
    obtain ⟨T268, h268, X268, e268, W268, st268⟩ := stD X264 hx hZ e264 Ar267 (j := (0 : Int32)) (inb_of S267 ⟨by decide, by decide⟩) (g := (mkF m 87 #[rv aa, .val (.double (f_sco  s0)), .second, rv b246, iv (0 : Int32), .val (.double (FP.dsub (4607182418800017408 : UInt64) (FP.ddiv (4607182418800017408 : UInt64) (FP.i2d (1 : Int32))))), .second, .val (.double (own_sc s0 s0)), .second] [(.double (FP.dsub (4607182418800017408 : UInt64) (FP.ddiv (4607182418800017408 : UInt64) (FP.i2d (1 : Int32))))), (.int (0 : Int32)), (.ref b264), (.ref b264), (.int (0 : Int32)), (.ref b246)])) rfl rfl (hb hby d12_87)
    have N268 := Fr.snoc X268 M257 ng264
    have V268 : Arv Z h268 b264 k264 .double (2 : Int32) [(.double (FP.dsub (4607182418800017408 : UInt64) (FP.ddiv (4607182418800017408 : UInt64) (FP.i2d (1 : Int32))))), (.double (0 : UInt64))] (.double (0 : UInt64)) := Arv.set Ar267 q267 S267 M267 H267 G267 rfl W268 0 rfl (Nat.le_of_ble_eq_true rfl)
    have g269 : Goes p e below S0 (T268.setTop (mkF m 88 #[rv aa, .val (.double (f_sco  s0)), .second, rv b246, iv (0 : Int32), .val (.double (FP.dsub (4607182418800017408 : UInt64) (FP.ddiv (4607182418800017408 : UInt64) (FP.i2d (1 : Int32))))), .second, .val (.double (own_sc s0 s0)), .second] [(.ref b264), (.int (0 : Int32)), (.ref b246)])) := fun t k => g266 t (st268 t k)
    have g270 : Goes p e below S0 (T268.setTop (mkF m 92 #[rv aa, .val (.double (f_sco  s0)), .second, rv b246, iv (0 : Int32), .val (.double (FP.dsub (4607182418800017408 : UInt64) (FP.ddiv (4607182418800017408 : UInt64) (FP.i2d (1 : Int32))))), .second, .val (.double (own_sc s0 s0)), .second] [(.double (own_sc s0 s0)), (.int (1 : Int32)), (.ref b264), (.ref b264), (.int (0 : Int32)), (.ref b246)])) := fun t k => g269 t (by
      refine XS.dup X268.here hx rfl (hb hby d12_88) rfl rfl ?_
      show Go p e below t T268 m 89 #[rv aa, .val (.double (f_sco  s0)), .second, rv b246, iv (0 : Int32), .val (.double (FP.dsub (4607182418800017408 : UInt64) (FP.ddiv (4607182418800017408 : UInt64) (FP.i2d (1 : Int32))))), .second, .val (.double (own_sc s0 s0)), .second] [(.ref b264), (.ref b264), (.int (0 : Int32)), (.ref b246)]
      refine XT.iconstV X268.here hx rfl (1 : Int32) (hb hby d12_89) (by decide) ?_
      show Go p e below t T268 m 90 #[rv aa, .val (.double (f_sco  s0)), .second, rv b246, iv (0 : Int32), .val (.double (FP.dsub (4607182418800017408 : UInt64) (FP.ddiv (4607182418800017408 : UInt64) (FP.i2d (1 : Int32))))), .second, .val (.double (own_sc s0 s0)), .second] [(.int (1 : Int32)), (.ref b264), (.ref b264), (.int (0 : Int32)), (.ref b246)]
      refine XS.dload X268.here hx rfl (hb hby d12_90) rfl ?_
      show Go p e below t T268 m 92 #[rv aa, .val (.double (f_sco  s0)), .second, rv b246, iv (0 : Int32), .val (.double (FP.dsub (4607182418800017408 : UInt64) (FP.ddiv (4607182418800017408 : UInt64) (FP.i2d (1 : Int32))))), .second, .val (.double (own_sc s0 s0)), .second] [(.double (own_sc s0 s0)), (.int (1 : Int32)), (.ref b264), (.ref b264), (.int (0 : Int32)), (.ref b246)]
      exact k)
    obtain ⟨cl271, Ar271, q271, S271, M271, H271, G271⟩ := id V268
    obtain ⟨T272, h272, X272, e272, W272, st272⟩ := stD X268 hx hZ e268 Ar271 (j := (1 : Int32)) (inb_of S271 ⟨by decide, by decide⟩) (g := (mkF m 92 #[rv aa, .val (.double (f_sco  s0)), .second, rv b246, iv (0 : Int32), .val (.double (FP.dsub (4607182418800017408 : UInt64) (FP.ddiv (4607182418800017408 : UInt64) (FP.i2d (1 : Int32))))), .second, .val (.double (own_sc s0 s0)), .second] [(.double (own_sc s0 s0)), (.int (1 : Int32)), (.ref b264), (.ref b264), (.int (0 : Int32)), (.ref b246)])) rfl rfl (hb hby d12_92)
    have N272 := Fr.snoc X272 N268 ng264
    have V272 : Arv Z h272 b264 k264 .double (2 : Int32) [(.double (FP.dsub (4607182418800017408 : UInt64) (FP.ddiv (4607182418800017408 : UInt64) (FP.i2d (1 : Int32))))), (.double (own_sc s0 s0))] (.double (0 : UInt64)) := Arv.set Ar271 q271 S271 M271 H271 G271 rfl W272 1 rfl (Nat.le_of_ble_eq_true rfl)
    have g273 : Goes p e below S0 (T272.setTop (mkF m 93 #[rv aa, .val (.double (f_sco  s0)), .second, rv b246, iv (0 : Int32), .val (.double (FP.dsub (4607182418800017408 : UInt64) (FP.ddiv (4607182418800017408 : UInt64) (FP.i2d (1 : Int32))))), .second, .val (.double (own_sc s0 s0)), .second] [(.ref b264), (.int (0 : Int32)), (.ref b246)])) := fun t k => g270 t (st272 t k)
    obtain ⟨cl274, Ar274, q274, S274, M274, H274, G274⟩ := id (((V246.ext E264).other W268 (Nat.ne_of_lt (Nat.lt_of_lt_of_le V246.lt (Nat.le_of_eq gb264.symm)))).other W272 (Nat.ne_of_lt (Nat.lt_of_lt_of_le V246.lt (Nat.le_of_eq gb264.symm))))
    obtain ⟨T275, h275, X275, e275, W275, st275⟩ := stR X272 hx hZ e272 Ar274 (j := (0 : Int32)) (inb_of S274 ⟨by decide, by decide⟩) rfl (Sto.ofVA Ar274 q274 O246 (Ins.of_exa ((Q264.wr W268).wr W272) (hw _ (List.mem_of_getElem? (i := 137) rfl)))) (g := (mkF m 93 #[rv aa, .val (.double (f_sco  s0)), .second, rv b246, iv (0 : Int32), .val (.double (FP.dsub (4607182418800017408 : UInt64) (FP.ddiv (4607182418800017408 : UInt64) (FP.i2d (1 : Int32))))), .second, .val (.double (own_sc s0 s0)), .second] [(.ref b264), (.int (0 : Int32)), (.ref b246)])) rfl rfl (hb hby d12_93)
    have N275 := Fr.snoc X275 N272 ng246
    have V275 : Arv Z h275 b246 k246 (.array .double) (1 : Int32) [(.ref b264)] .null := Arv.set Ar274 q274 S274 M274 H274 G274 rfl W275 0 rfl (Nat.le_of_ble_eq_true rfl)
    have g276 : Goes p e below S0 (T275.setTop (mkF m 94 #[rv aa, .val (.double (f_sco  s0)), .second, rv b246, iv (0 : Int32), .val (.double (FP.dsub (4607182418800017408 : UInt64) (FP.ddiv (4607182418800017408 : UInt64) (FP.i2d (1 : Int32))))), .second, .val (.double (own_sc s0 s0)), .second] [])) := fun t k => g273 t (st275 t k)
    have g277 : Goes p e below S0 (T275.setTop (mkF m 30 #[rv aa, .val (.double (f_sco  s0)), .second, rv b246, iv (1 : Int32), .val (.double (FP.dsub (4607182418800017408 : UInt64) (FP.ddiv (4607182418800017408 : UInt64) (FP.i2d (1 : Int32))))), .second, .val (.double (own_sc s0 s0)), .second] [(.ref b246), (.int (1 : Int32))])) := fun t k => g276 t (by
      refine XT.iincV X275.here hx rfl (1 : Int32) (hb hby d12_94) (by decide) rfl (l' := #[rv aa, .val (.double (f_sco  s0)), .second, rv b246, iv (1 : Int32), .val (.double (FP.dsub (4607182418800017408 : UInt64) (FP.ddiv (4607182418800017408 : UInt64) (FP.i2d (1 : Int32))))), .second, .val (.double (own_sc s0 s0)), .second]) rfl ?_
      show Go p e below t T275 m 97 #[rv aa, .val (.double (f_sco  s0)), .second, rv b246, iv (1 : Int32), .val (.double (FP.dsub (4607182418800017408 : UInt64) (FP.ddiv (4607182418800017408 : UInt64) (FP.i2d (1 : Int32))))), .second, .val (.double (own_sc s0 s0)), .second] []
      refine XS.goto X275.here hx rfl (pc0 := 97) (pc' := 27) rfl (hb hby d12_97) (by decide) (by decide) ?_
      show Go p e below t T275 m 27 #[rv aa, .val (.double (f_sco  s0)), .second, rv b246, iv (1 : Int32), .val (.double (FP.dsub (4607182418800017408 : UInt64) (FP.ddiv (4607182418800017408 : UInt64) (FP.i2d (1 : Int32))))), .second, .val (.double (own_sc s0 s0)), .second] []
      refine XS.iload X275.here hx rfl (hb hby d12_27) rfl ?_
      show Go p e below t T275 m 29 #[rv aa, .val (.double (f_sco  s0)), .second, rv b246, iv (1 : Int32), .val (.double (FP.dsub (4607182418800017408 : UInt64) (FP.ddiv (4607182418800017408 : UInt64) (FP.i2d (1 : Int32))))), .second, .val (.double (own_sc s0 s0)), .second] [(.int (1 : Int32))]
      refine XS.aloadN X275.here hx rfl (hb hby d12_29) rfl rfl ?_
      show Go p e below t T275 m 30 #[rv aa, .val (.double (f_sco  s0)), .second, rv b246, iv (1 : Int32), .val (.double (FP.dsub (4607182418800017408 : UInt64) (FP.ddiv (4607182418800017408 : UInt64) (FP.i2d (1 : Int32))))), .second, .val (.double (own_sc s0 s0)), .second] [(.ref b246), (.int (1 : Int32))]
      exact k)
    obtain ⟨cl278, Ar278, q278, S278, M278, H278, G278⟩ := id V275
    have g279 : Goes p e below S0 (T275.setTop (mkF m 101 #[rv aa, .val (.double (f_sco  s0)), .second, rv b246, iv (1 : Int32), .val (.double (FP.dsub (4607182418800017408 : UInt64) (FP.ddiv (4607182418800017408 : UInt64) (FP.i2d (1 : Int32))))), .second, .val (.double (own_sc s0 s0)), .second] [(.ref b246)])) := fun t k => g277 t (by
      refine X275.arraylength hx (by rw [e275]; exact Ar278.1) (State.isArrayOf_alike hZ.alike Ar278.2.1) (g := (mkF m 30 #[rv aa, .val (.double (f_sco  s0)), .second, rv b246, iv (1 : Int32), .val (.double (FP.dsub (4607182418800017408 : UInt64) (FP.ddiv (4607182418800017408 : UInt64) (FP.i2d (1 : Int32))))), .second, .val (.double (own_sc s0 s0)), .second] [(.ref b246), (.int (1 : Int32))])) rfl rfl (hb hby d12_30) _ ?_
      rw [len_of S278 M278]
      show Go p e below t T275 m 31 #[rv aa, .val (.double (f_sco  s0)), .second, rv b246, iv (1 : Int32), .val (.double (FP.dsub (4607182418800017408 : UInt64) (FP.ddiv (4607182418800017408 : UInt64) (FP.i2d (1 : Int32))))), .second, .val (.double (own_sc s0 s0)), .second] [(.int (1 : Int32)), (.int (1 : Int32))]
      refine XS.icmpYes X275.here hx rfl (pc0 := 31) (pc' := 100) rfl (hb hby d12_31) rfl (XT.ii_ge_t (by decide)) (by decide) (by decide) ?_
      show Go p e below t T275 m 100 #[rv aa, .val (.double (f_sco  s0)), .second, rv b246, iv (1 : Int32), .val (.double (FP.dsub (4607182418800017408 : UInt64) (FP.ddiv (4607182418800017408 : UInt64) (FP.i2d (1 : Int32))))), .second, .val (.double (own_sc s0 s0)), .second] []
      refine XS.aloadN X275.here hx rfl (hb hby d12_100) rfl rfl ?_
      show Go p e below t T275 m 101 #[rv aa, .val (.double (f_sco  s0)), .second, rv b246, iv (1 : Int32), .val (.double (FP.dsub (4607182418800017408 : UInt64) (FP.ddiv (4607182418800017408 : UInt64) (FP.i2d (1 : Int32))))), .second, .val (.double (own_sc s0 s0)), .second] [(.ref b246)]
      exact k)
    obtain ⟨fs, hr, hrun, hended, hW, hsame⟩ := X275.leave (v := some (.ref b246)) (fun h => by rw [Bd.returns] at h; cases h)
    refine ⟨_, _, g279 _ (retOut X275 hx Bd.returns rfl (Or.inr (Or.inr (Or.inr (Or.inr ⟨rfl, rfl, rfl⟩)))) (hb hby d12_101) hr), hrun, hended, _, _, rfl, ?_, ⟨_, rfl⟩, hW, hsame.mono (by decide) (by decide)⟩
    show Q_inp1 Z aa ea ek x0 s0 h0 n0 _ T275.heap _
    rw [e275]
    exact ⟨b246, k246, b264, k264, rfl, N275, ((((((Keep.refl h0 []).ext E246).ext E264).wr W268 (Or.inr sz264)).wr W272 (Or.inr sz264)).wr W275 (Or.inr sz246)), sz246, sz264, V275, (V272.other W275 (Ne.symm (Nat.ne_of_lt (Nat.lt_of_lt_of_le Q246.lt (Nat.le_of_eq gb264.symm)))))⟩
  · skip
    have g280 : Goes p e below S0 (T246.setTop (mkF m 77 #[rv aa, .val (.double (f_sco  s0)), .second, rv b246, iv (0 : Int32), .val (.double (FP.dsub (4607182418800017408 : UInt64) (FP.ddiv (4607182418800017408 : UInt64) (FP.i2d (1 : Int32))))), .second, .val (.double (0 : UInt64)), .second] [])) := fun t k => g250 t (by
      refine XS.ifYes X246.here hx rfl (pc0 := 48) (pc' := 74) rfl (hb hby d12_48) rfl (dc_l_le_t h251) (by decide) (by decide) ?_
      show Go p e below t T246 m 74 #[rv aa, .val (.double (f_sco  s0)), .second, rv b246, iv (0 : Int32), .val (.double (FP.dsub (4607182418800017408 : UInt64) (FP.ddiv (4607182418800017408 : UInt64) (FP.i2d (1 : Int32))))), .second, .unset, .unset] []
      refine XS.dconst0 X246.here hx rfl (hb hby d12_74) (v := (0 : UInt64)) rfl ?_
      show Go p e below t T246 m 75 #[rv aa, .val (.double (f_sco  s0)), .second, rv b246, iv (0 : Int32), .val (.double (FP.dsub (4607182418800017408 : UInt64) (FP.ddiv (4607182418800017408 : UInt64) (FP.i2d (1 : Int32))))), .second, .unset, .unset] [(.double (0 : UInt64))]
      refine XS.dstore X246.here hx rfl (hb hby d12_75) rfl (l' := #[rv aa, .val (.double (f_sco  s0)), .second, rv b246, iv (0 : Int32), .val (.double (FP.dsub (4607182418800017408 : UInt64) (FP.ddiv (4607182418800017408 : UInt64) (FP.i2d (1 : Int32))))), .second, .val (.double (0 : UInt64)), .second]) rfl ?_
      show Go p e below t T246 m 77 #[rv aa, .val (.double (f_sco  s0)), .second, rv b246, iv (0 : Int32), .val (.double (FP.dsub (4607182418800017408 : UInt64) (FP.ddiv (4607182418800017408 : UInt64) (FP.i2d (1 : Int32))))), .second, .val (.double (0 : UInt64)), .second] []
      exact k)
    rw [show (0 : UInt64) = (own_sc s0 s0) from (if_neg h251).symm] at g280
    have g281 : Goes p e below S0 (T246.setTop (mkF m 81 #[rv aa, .val (.double (f_sco  s0)), .second, rv b246, iv (0 : Int32), .val (.double (FP.dsub (4607182418800017408 : UInt64) (FP.ddiv (4607182418800017408 : UInt64) (FP.i2d (1 : Int32))))), .second, .val (.double (own_sc s0 s0)), .second] [(.int (2 : Int32)), (.int (0 : Int32)), (.ref b246)])) := fun t k => g280 t (by
      refine XS.aloadN X246.here hx rfl (hb hby d12_77) rfl rfl ?_
      show Go p e below t T246 m 78 #[rv aa, .val (.double (f_sco  s0)), .second, rv b246, iv (0 : Int32), .val (.double (FP.dsub (4607182418800017408 : UInt64) (FP.ddiv (4607182418800017408 : UInt64) (FP.i2d (1 : Int32))))), .second, .val (.double (own_sc s0 s0)), .second] [(.ref b246)]
      refine XS.iload X246.here hx rfl (hb hby d12_78) rfl ?_
      show Go p e below t T246 m 80 #[rv aa, .val (.double (f_sco  s0)), .second, rv b246, iv (0 : Int32), .val (.double (FP.dsub (4607182418800017408 : UInt64) (FP.ddiv (4607182418800017408 : UInt64) (FP.i2d (1 : Int32))))), .second, .val (.double (own_sc s0 s0)), .second] [(.int (0 : Int32)), (.ref b246)]
      refine XT.iconstV X246.here hx rfl (2 : Int32) (hb hby d12_80) (by decide) ?_
      show Go p e below t T246 m 81 #[rv aa, .val (.double (f_sco  s0)), .second, rv b246, iv (0 : Int32), .val (.double (FP.dsub (4607182418800017408 : UInt64) (FP.ddiv (4607182418800017408 : UInt64) (FP.i2d (1 : Int32))))), .second, .val (.double (own_sc s0 s0)), .second] [(.int (2 : Int32)), (.int (0 : Int32)), (.ref b246)]
      exact k)
    obtain ⟨T282, h282, k282, X282, e282, E282, A282, Q282, st282⟩ := newPE X246 hx hZ (hw _ (List.mem_of_getElem? (i := 136) rfl)) e246 (g := (mkF m 81 #[rv aa, .val (.double (f_sco  s0)), .second, rv b246, iv (0 : Int32), .val (.double (FP.dsub (4607182418800017408 : UInt64) (FP.ddiv (4607182418800017408 : UInt64) (FP.i2d (1 : Int32))))), .second, .val (.double (own_sc s0 s0)), .second] [(.int (2 : Int32)), (.int (0 : Int32)), (.ref b246)])) rfl (hb hby d12_81) rfl (by decide) (cap := 2) (by decide) (by decide) (by decide) (by decide) (ad := "[D") (by decide)
    obtain ⟨b282, gb282⟩ : ∃ z, z = h246.size := ⟨_, rfl⟩
    have sz282 : h0.size ≤ b282 := Nat.le_trans (Nat.le_trans (Nat.le_refl _) E246.1) (Nat.le_of_eq gb282.symm)
    have ng282 : n0 ≤ b282 := Nat.le_trans Z0 sz282
    rw [← gb282] at A282 st282 Q282
    have V282 : Arv Z h282 b282 k282 .double (2 : Int32) [(.double (0 : UInt64)), (.double (0 : UInt64))] (.double (0 : UInt64)) := (Arv.new A282 (by decide)).pad (pad_rep [] (.double (0 : UInt64)) 2)
    have g283 : Goes p e below S0 (T282.setTop (mkF m 83 #[rv aa, .val (.double (f_sco  s0)), .second, rv b246, iv (0 : Int32), .val (.double (FP.dsub (4607182418800017408 : UInt64) (FP.ddiv (4607182418800017408 : UInt64) (FP.i2d (1 : Int32))))), .second, .val (.double (own_sc s0 s0)), .second] [(.ref b282), (.int (0 : Int32)), (.ref b246)])) := fun t k => g281 t (st282 t k)
    have g284 : Goes p e below S0 (T282.setTop (mkF m 87 #[rv aa, .val (.double (f_sco  s0)), .second, rv b246, iv (0 : Int32), .val (.double (FP.dsub (4607182418800017408 : UInt64) (FP.ddiv (4607182418800017408 : UInt64) (FP.i2d (1 : Int32))))), .second, .val (.double (own_sc s0 s0)), .second] [(.double (FP.dsub (4607182418800017408 : UInt64) (FP.ddiv (4607182418800017408 : UInt64) (FP.i2d (1 : Int32))))), (.int (0 : Int32)), (.ref b282), (.ref b282), (.int (0 : Int32)), (.ref b246)])) := fun t k => g283 t (by
      refine XS.dup X282.here hx rfl (hb hby d12_83) rfl rfl ?_
      show Go p e below t T282 m 84 #[rv aa, .val (.double (f_sco  s0)), .second, rv b246, iv (0 : Int32), .val (.double (FP.dsub (4607182418800017408 : UInt64) (FP.ddiv (4607182418800017408 : UInt64) (FP.i2d (1 : Int32))))), .second, .val (.double (own_sc s0 s0)), .second] [(.ref b282), (.ref b282), (.int (0 : Int32)), (.ref b246)]
      refine XT.iconstV X282.here hx rfl (0 : Int32) (hb hby d12_84) (by decide) ?_
      show Go p e below t T282 m 85 #[rv aa, .val (.double (f_sco  s0)), .second, rv b246, iv (0 : Int32), .val (.double (FP.dsub (4607182418800017408 : UInt64) (FP.ddiv (4607182418800017408 : UInt64) (FP.i2d (1 : Int32))))), .second, .val (.double (own_sc s0 s0)), .second] [(.int (0 : Int32)), (.ref b282), (.ref b282), (.int (0 : Int32)), (.ref b246)]
      refine XS.dload X282.here hx rfl (hb hby d12_85) rfl ?_
      show Go p e below t T282 m 87 #[rv aa, .val (.double (f_sco  s0)), .second, rv b246, iv (0 : Int32), .val (.double (FP.dsub (4607182418800017408 : UInt64) (FP.ddiv (4607182418800017408 : UInt64) (FP.i2d (1 : Int32))))), .second, .val (.double (own_sc s0 s0)), .second] [(.double (FP.dsub (4607182418800017408 : UInt64) (FP.ddiv (4607182418800017408 : UInt64) (FP.i2d (1 : Int32))))), (.int (0 : Int32)), (.ref b282), (.ref b282), (.int (0 : Int32)), (.ref b246)]
      exact k)
    obtain ⟨cl285, Ar285, q285, S285, M285, H285, G285⟩ := id V282
    obtain ⟨T286, h286, X286, e286, W286, st286⟩ := stD X282 hx hZ e282 Ar285 (j := (0 : Int32)) (inb_of S285 ⟨by decide, by decide⟩) (g := (mkF m 87 #[rv aa, .val (.double (f_sco  s0)), .second, rv b246, iv (0 : Int32), .val (.double (FP.dsub (4607182418800017408 : UInt64) (FP.ddiv (4607182418800017408 : UInt64) (FP.i2d (1 : Int32))))), .second, .val (.double (own_sc s0 s0)), .second] [(.double (FP.dsub (4607182418800017408 : UInt64) (FP.ddiv (4607182418800017408 : UInt64) (FP.i2d (1 : Int32))))), (.int (0 : Int32)), (.ref b282), (.ref b282), (.int (0 : Int32)), (.ref b246)])) rfl rfl (hb hby d12_87)
    have N286 := Fr.snoc X286 M244 ng282
    have V286 : Arv Z h286 b282 k282 .double (2 : Int32) [(.double (FP.dsub (4607182418800017408 : UInt64) (FP.ddiv (4607182418800017408 : UInt64) (FP.i2d (1 : Int32))))), (.double (0 : UInt64))] (.double (0 : UInt64)) := Arv.set Ar285 q285 S285 M285 H285 G285 rfl W286 0 rfl (Nat.le_of_ble_eq_true rfl)
    have g287 : Goes p e below S0 (T286.setTop (mkF m 88 #[rv aa, .val (.double (f_sco  s0)), .second, rv b246, iv (0 : Int32), .val (.double (FP.dsub (4607182418800017408 : UInt64) (FP.ddiv (4607182418800017408 : UInt64) (FP.i2d (1 : Int32))))), .second, .val (.double (own_sc s0 s0)), .second] [(.ref b282), (.int (0 : Int32)), (.ref b246)])) := fun t k => g284 t (st286 t k)
    have g288 : Goes p e below S0 (T286.setTop (mkF m 92 #[rv aa, .val (.double (f_sco  s0)), .second, rv b246, iv (0 : Int32), .val (.double (FP.dsub (4607182418800017408 : UInt64) (FP.ddiv (4607182418800017408 : UInt64) (FP.i2d (1 : Int32))))), .second, .val (.double (own_sc s0 s0)), .second] [(.double (own_sc s0 s0)), (.int (1 : Int32)), (.ref b282), (.ref b282), (.int (0 : Int32)), (.ref b246)])) := fun t k => g287 t (by
      refine XS.dup X286.here hx rfl (hb hby d12_88) rfl rfl ?_
      show Go p e below t T286 m 89 #[rv aa, .val (.double (f_sco  s0)), .second, rv b246, iv (0 : Int32), .val (.double (FP.dsub (4607182418800017408 : UInt64) (FP.ddiv (4607182418800017408 : UInt64) (FP.i2d (1 : Int32))))), .second, .val (.double (own_sc s0 s0)), .second] [(.ref b282), (.ref b282), (.int (0 : Int32)), (.ref b246)]
      refine XT.iconstV X286.here hx rfl (1 : Int32) (hb hby d12_89) (by decide) ?_
      show Go p e below t T286 m 90 #[rv aa, .val (.double (f_sco  s0)), .second, rv b246, iv (0 : Int32), .val (.double (FP.dsub (4607182418800017408 : UInt64) (FP.ddiv (4607182418800017408 : UInt64) (FP.i2d (1 : Int32))))), .second, .val (.double (own_sc s0 s0)), .second] [(.int (1 : Int32)), (.ref b282), (.ref b282), (.int (0 : Int32)), (.ref b246)]
      refine XS.dload X286.here hx rfl (hb hby d12_90) rfl ?_
      show Go p e below t T286 m 92 #[rv aa, .val (.double (f_sco  s0)), .second, rv b246, iv (0 : Int32), .val (.double (FP.dsub (4607182418800017408 : UInt64) (FP.ddiv (4607182418800017408 : UInt64) (FP.i2d (1 : Int32))))), .second, .val (.double (own_sc s0 s0)), .second] [(.double (own_sc s0 s0)), (.int (1 : Int32)), (.ref b282), (.ref b282), (.int (0 : Int32)), (.ref b246)]
      exact k)
    obtain ⟨cl289, Ar289, q289, S289, M289, H289, G289⟩ := id V286
    obtain ⟨T290, h290, X290, e290, W290, st290⟩ := stD X286 hx hZ e286 Ar289 (j := (1 : Int32)) (inb_of S289 ⟨by decide, by decide⟩) (g := (mkF m 92 #[rv aa, .val (.double (f_sco  s0)), .second, rv b246, iv (0 : Int32), .val (.double (FP.dsub (4607182418800017408 : UInt64) (FP.ddiv (4607182418800017408 : UInt64) (FP.i2d (1 : Int32))))), .second, .val (.double (own_sc s0 s0)), .second] [(.double (own_sc s0 s0)), (.int (1 : Int32)), (.ref b282), (.ref b282), (.int (0 : Int32)), (.ref b246)])) rfl rfl (hb hby d12_92)
    have N290 := Fr.snoc X290 N286 ng282
    have V290 : Arv Z h290 b282 k282 .double (2 : Int32) [(.double (FP.dsub (4607182418800017408 : UInt64) (FP.ddiv (4607182418800017408 : UInt64) (FP.i2d (1 : Int32))))), (.double (own_sc s0 s0))] (.double (0 : UInt64)) := Arv.set Ar289 q289 S289 M289 H289 G289 rfl W290 1 rfl (Nat.le_of_ble_eq_true rfl)
    have g291 : Goes p e below S0 (T290.setTop (mkF m 93 #[rv aa, .val (.double (f_sco  s0)), .second, rv b246, iv (0 : Int32), .val (.double (FP.dsub (4607182418800017408 : UInt64) (FP.ddiv (4607182418800017408 : UInt64) (FP.i2d (1 : Int32))))), .second, .val (.double (own_sc s0 s0)), .second] [(.ref b282), (.int (0 : Int32)), (.ref b246)])) := fun t k => g288 t (st290 t k)
    obtain ⟨cl292, Ar292, q292, S292, M292, H292, G292⟩ := id (((V246.ext E282).other W286 (Nat.ne_of_lt (Nat.lt_of_lt_of_le V246.lt (Nat.le_of_eq gb282.symm)))).other W290 (Nat.ne_of_lt (Nat.lt_of_lt_of_le V246.lt (Nat.le_of_eq gb282.symm))))
    obtain ⟨T293, h293, X293, e293, W293, st293⟩ := stR X290 hx hZ e290 Ar292 (j := (0 : Int32)) (inb_of S292 ⟨by decide, by decide⟩) rfl (Sto.ofVA Ar292 q292 O246 (Ins.of_exa ((Q282.wr W286).wr W290) (hw _ (List.mem_of_getElem? (i := 137) rfl)))) (g := (mkF m 93 #[rv aa, .val (.double (f_sco  s0)), .second, rv b246, iv (0 : Int32), .val (.double (FP.dsub (4607182418800017408 : UInt64) (FP.ddiv (4607182418800017408 : UInt64) (FP.i2d (1 : Int32))))), .second, .val (.double (own_sc s0 s0)), .second] [(.ref b282), (.int (0 : Int32)), (.ref b246)])) rfl rfl (hb hby d12_93)
    have N293 := Fr.snoc X293 N290 ng246
    have V293 : Arv Z h293 b246 k246 (.array .double) (1 : Int32) [(.ref b282)] .null := Arv.set Ar292 q292 S292 M292 H292 G292 rfl W293 0 rfl (Nat.le_of_ble_eq_true rfl)
    have g294 : Goes p e below S0 (T293.setTop (mkF m 94 #[rv aa, .val (.double (f_sco  s0)), .second, rv b246, iv (0 : Int32), .val (.double (FP.dsub (4607182418800017408 : UInt64) (FP.ddiv (4607182418800017408 : UInt64) (FP.i2d (1 : Int32))))), .second, .val (.double (own_sc s0 s0)), .second] [])) := fun t k => g291 t (st293 t k)
    have g295 : Goes p e below S0 (T293.setTop (mkF m 30 #[rv aa, .val (.double (f_sco  s0)), .second, rv b246, iv (1 : Int32), .val (.double (FP.dsub (4607182418800017408 : UInt64) (FP.ddiv (4607182418800017408 : UInt64) (FP.i2d (1 : Int32))))), .second, .val (.double (own_sc s0 s0)), .second] [(.ref b246), (.int (1 : Int32))])) := fun t k => g294 t (by
      refine XT.iincV X293.here hx rfl (1 : Int32) (hb hby d12_94) (by decide) rfl (l' := #[rv aa, .val (.double (f_sco  s0)), .second, rv b246, iv (1 : Int32), .val (.double (FP.dsub (4607182418800017408 : UInt64) (FP.ddiv (4607182418800017408 : UInt64) (FP.i2d (1 : Int32))))), .second, .val (.double (own_sc s0 s0)), .second]) rfl ?_
      show Go p e below t T293 m 97 #[rv aa, .val (.double (f_sco  s0)), .second, rv b246, iv (1 : Int32), .val (.double (FP.dsub (4607182418800017408 : UInt64) (FP.ddiv (4607182418800017408 : UInt64) (FP.i2d (1 : Int32))))), .second, .val (.double (own_sc s0 s0)), .second] []
      refine XS.goto X293.here hx rfl (pc0 := 97) (pc' := 27) rfl (hb hby d12_97) (by decide) (by decide) ?_
      show Go p e below t T293 m 27 #[rv aa, .val (.double (f_sco  s0)), .second, rv b246, iv (1 : Int32), .val (.double (FP.dsub (4607182418800017408 : UInt64) (FP.ddiv (4607182418800017408 : UInt64) (FP.i2d (1 : Int32))))), .second, .val (.double (own_sc s0 s0)), .second] []
      refine XS.iload X293.here hx rfl (hb hby d12_27) rfl ?_
      show Go p e below t T293 m 29 #[rv aa, .val (.double (f_sco  s0)), .second, rv b246, iv (1 : Int32), .val (.double (FP.dsub (4607182418800017408 : UInt64) (FP.ddiv (4607182418800017408 : UInt64) (FP.i2d (1 : Int32))))), .second, .val (.double (own_sc s0 s0)), .second] [(.int (1 : Int32))]
      refine XS.aloadN X293.here hx rfl (hb hby d12_29) rfl rfl ?_
      show Go p e below t T293 m 30 #[rv aa, .val (.double (f_sco  s0)), .second, rv b246, iv (1 : Int32), .val (.double (FP.dsub (4607182418800017408 : UInt64) (FP.ddiv (4607182418800017408 : UInt64) (FP.i2d (1 : Int32))))), .second, .val (.double (own_sc s0 s0)), .second] [(.ref b246), (.int (1 : Int32))]
      exact k)
    obtain ⟨cl296, Ar296, q296, S296, M296, H296, G296⟩ := id V293
    have g297 : Goes p e below S0 (T293.setTop (mkF m 101 #[rv aa, .val (.double (f_sco  s0)), .second, rv b246, iv (1 : Int32), .val (.double (FP.dsub (4607182418800017408 : UInt64) (FP.ddiv (4607182418800017408 : UInt64) (FP.i2d (1 : Int32))))), .second, .val (.double (own_sc s0 s0)), .second] [(.ref b246)])) := fun t k => g295 t (by
      refine X293.arraylength hx (by rw [e293]; exact Ar296.1) (State.isArrayOf_alike hZ.alike Ar296.2.1) (g := (mkF m 30 #[rv aa, .val (.double (f_sco  s0)), .second, rv b246, iv (1 : Int32), .val (.double (FP.dsub (4607182418800017408 : UInt64) (FP.ddiv (4607182418800017408 : UInt64) (FP.i2d (1 : Int32))))), .second, .val (.double (own_sc s0 s0)), .second] [(.ref b246), (.int (1 : Int32))])) rfl rfl (hb hby d12_30) _ ?_
      rw [len_of S296 M296]
      show Go p e below t T293 m 31 #[rv aa, .val (.double (f_sco  s0)), .second, rv b246, iv (1 : Int32), .val (.double (FP.dsub (4607182418800017408 : UInt64) (FP.ddiv (4607182418800017408 : UInt64) (FP.i2d (1 : Int32))))), .second, .val (.double (own_sc s0 s0)), .second] [(.int (1 : Int32)), (.int (1 : Int32))]
      refine XS.icmpYes X293.here hx rfl (pc0 := 31) (pc' := 100) rfl (hb hby d12_31) rfl (XT.ii_ge_t (by decide)) (by decide) (by decide) ?_
      show Go p e below t T293 m 100 #[rv aa, .val (.double (f_sco  s0)), .second, rv b246, iv (1 : Int32), .val (.double (FP.dsub (4607182418800017408 : UInt64) (FP.ddiv (4607182418800017408 : UInt64) (FP.i2d (1 : Int32))))), .second, .val (.double (own_sc s0 s0)), .second] []
      refine XS.aloadN X293.here hx rfl (hb hby d12_100) rfl rfl ?_
      show Go p e below t T293 m 101 #[rv aa, .val (.double (f_sco  s0)), .second, rv b246, iv (1 : Int32), .val (.double (FP.dsub (4607182418800017408 : UInt64) (FP.ddiv (4607182418800017408 : UInt64) (FP.i2d (1 : Int32))))), .second, .val (.double (own_sc s0 s0)), .second] [(.ref b246)]
      exact k)
    obtain ⟨fs, hr, hrun, hended, hW, hsame⟩ := X293.leave (v := some (.ref b246)) (fun h => by rw [Bd.returns] at h; cases h)
    refine ⟨_, _, g297 _ (retOut X293 hx Bd.returns rfl (Or.inr (Or.inr (Or.inr (Or.inr ⟨rfl, rfl, rfl⟩)))) (hb hby d12_101) hr), hrun, hended, _, _, rfl, ?_, ⟨_, rfl⟩, hW, hsame.mono (by decide) (by decide)⟩
    show Q_inp1 Z aa ea ek x0 s0 h0 n0 _ T293.heap _
    rw [e293]
    exact ⟨b246, k246, b282, k282, rfl, N293, ((((((Keep.refl h0 []).ext E246).ext E282).wr W286 (Or.inr sz282)).wr W290 (Or.inr sz282)).wr W293 (Or.inr sz246)), sz246, sz282, V293, (V290.other W293 (Ne.symm (Nat.ne_of_lt (Nat.lt_of_lt_of_le Q246.lt (Nat.le_of_eq gb282.symm)))))⟩
theorem pf_inp2 : plainFor (⟨"com/example/nimble_retrieval/nimbleretrieval/runs/TrainedMerge", "inputs", "(Ljava/util/List;)[[D"⟩ : MethodName) = true := by first | exact plainFor_of_name (by first | (simp [plainName, overriddenIn, x]; done) | decide +kernel) | exact Jvm.Free.JP.mathPlain rfl (by decide +kernel) | decide +kernel
theorem ef_inp2 (m : MethodId) (aa : Addr) : entryFrame m #[(.ref aa)] 9 = mkF m 0 #[rv aa, .unset, .unset, .unset, .unset, .unset, .unset, .unset, .unset] [] := by first | (simp [entryFrame, mkF, argsToLocals, Value.category, maxLocals]; done) | rfl
def Q_inp2 (Z : State) (aa : Addr) (ea : Addr) (ek : ClassId) (x0 : Addr) (x1 : Addr) (s0 : UInt64) (s1 : UInt64) (h0 : Heap) (n0 : Nat) (v : Option Value) (h : Heap) (L : List Loc) : Prop := ∃ (ta : Addr) (tk : ClassId) (d0 : Addr) (d1 : Addr) (dk0 : ClassId) (dk1 : ClassId), v = some (.ref ta) ∧ Fr n0 L ∧ (Keep h0 h []) ∧ (h0.size ≤ ta) ∧ (h0.size ≤ d0) ∧ (h0.size ≤ d1) ∧ (Arv Z h ta tk (.array .double) (2 : Int32) [(.ref d0), (.ref d1)] .null) ∧ (Arv Z h d0 dk0 .double (2 : Int32) [(.double (FP.dsub (4607182418800017408 : UInt64) (FP.ddiv (4607182418800017408 : UInt64) (FP.i2d (1 : Int32))))), (.double (own_sc s0 s0))] (.double (0 : UInt64))) ∧ (Arv Z h d1 dk1 .double (2 : Int32) [(.double (FP.dsub (4607182418800017408 : UInt64) (FP.ddiv (4607182418800017408 : UInt64) (FP.i2d (2 : Int32))))), (.double (own_sc s0 s1))] (.double (0 : UInt64)))
set_option maxRecDepth 65536 in
set_option maxHeartbeats 40000000 in
theorem rm_inp2 (l : Launch) (Z : State) (a0 : Array Value) (hw : ∀ d ∈ tables_1, d.before a0 Z = true) (ws : List Jvm.Cond) (aa : Addr) (ea : Addr) (ek : ClassId) (x0 : Addr) (x1 : Addr) (s0 : UInt64) (s1 : UInt64) (h0 : Heap) (n0 : Nat) (Z0 : n0 ≤ h0.size) (P0 : Exa Z h0 aa "java/util/ArrayList") (P1 : Fld Z h0 aa "java/util/ArrayList" "size" "I" (.int (2 : Int32))) (P2 : Fld Z h0 aa "java/util/ArrayList" "elementData" "[Ljava/lang/Object;" (.ref ea)) (P3 : Arv Z h0 ea ek (.object "java/lang/Object") (10 : Int32) [(.ref x0), (.ref x1), .null, .null, .null, .null, .null, .null, .null, .null] .null) (P4 : Exa Z h0 x0 "com/example/nimble_retrieval/nimbleretrieval/format/Run$Retrieved") (P5 : Fld Z h0 x0 "com/example/nimble_retrieval/nimbleretrieval/format/Run$Retrieved" "score" "D" (.double s0)) (P6 : Exa Z h0 x1 "com/example/nimble_retrieval/nimbleretrieval/format/Run$Retrieved") (P7 : Fld Z h0 x1 "com/example/nimble_retrieval/nimbleretrieval/format/Run$Retrieved" "score" "D" (.double s1)) (fs0 : Jvm.Free.Fl.Fin64 s0) (fs1 : Jvm.Free.Fl.Fin64 s1)  :
    MetFree l (⟨"com/example/nimble_retrieval/nimbleretrieval/runs/TrainedMerge", "inputs", "(Ljava/util/List;)[[D"⟩ : MethodName) (head1 (Jvm.Cond.code (⟨"com/example/nimble_retrieval/nimbleretrieval/runs/TrainedMerge", "inputs", "(Ljava/util/List;)[[D"⟩ : MethodName) prog_52_method_4_code 9 (some (.array (.array .double))) :: ws) ({ frames := 3, cells := 3, slots := 6, locals := 60 } : Room)) (fun a U => a = #[(.ref aa)] ∧ Z.Warmed39 U.vm ∧ U.heap = h0) (fun _ _ _ _ _ => True) (fun _ U o U' => ∃ v L, o = .returned v ∧ Q_inp2 Z aa ea ek x0 x1 s0 s1 h0 n0 v U'.heap L ∧ FrameEnd U o U' L ({ frames := 3, cells := 3, slots := 6, locals := 60 } : Room).cells ({ frames := 3, cells := 3, slots := 6, locals := 60 } : Room).slots) := by
  refine MetFree.of_bodySF pf_inp2 hisR ?_
  intro p e s m args below meth c s₁ Bd hml0 hP hK
  obtain ⟨rfl, hZ, hh⟩ := hP
  have hx := Bd.exec
  have hby := Bd.bytes
  have hml : c.maxLocals = 9 := hml0
  have hown : s.vm.findClass "com/example/nimble_retrieval/nimbleretrieval/runs/TrainedMerge" = some m.cls := findClass_of_methodNamed Bd.named
  have hnm := (name_of_methodNamed Bd.named Bd.method).1
  have X0 : Stand p l e ({ frames := 3, cells := 3, slots := 6, locals := 60 } : Room) s m #[(.ref aa)] below meth c s₁ [] 0 0 := Stand.of_body Bd
  have e0 : s₁.heap = h0 := by rw [← hh, Bd.state]; rfl
  have N0 := Fr.nil n0
  obtain ⟨S0, hS0⟩ : ∃ z, z = s₁.setTop (entryFrame m #[(.ref aa)] 9) := ⟨_, rfl⟩
  rw [← hS0]
  have g0 : Goes p e below S0 (s₁.setTop (mkF m 0 #[rv aa, .unset, .unset, .unset, .unset, .unset, .unset, .unset, .unset] [])) := fun t k => by rw [hS0]; exact castTop (ef_inp2 m aa) k
  have g298 : Goes p e below S0 (s₁.setTop (mkF m 2 #[rv aa, .unset, .unset, .unset, .unset, .unset, .unset, .unset, .unset] [(.int (0 : Int32)), (.ref aa)])) := fun t k => g0 t (by
    refine XS.aloadN X0.here hx rfl (hb hby d12_0) rfl rfl ?_
    show Go p e below t s₁ m 1 #[rv aa, .unset, .unset, .unset, .unset, .unset, .unset, .unset, .unset] [(.ref aa)]
    refine XT.iconstV X0.here hx rfl (0 : Int32) (hb hby d12_1) (by decide) ?_
    show Go p e below t s₁ m 2 #[rv aa, .unset, .unset, .unset, .unset, .unset, .unset, .unset, .unset] [(.int (0 : Int32)), (.ref aa)]
    exact k)
  obtain ⟨cq299, kq299, q299a, q299b, q299c⟩ := isOf hZ e0 P0
  obtain ⟨_, _, ⟨T299, L299, k299, n299⟩, -, X299, ⟨Lc299, hQ299, l299, y299, z299⟩, st299⟩ := X0.interfaceBack hx (xi := (⟨"java/util/List", "get", "(I)Ljava/lang/Object;"⟩ : MethodName)) (y := (⟨"java/util/ArrayList", "get", "(I)Ljava/lang/Object;"⟩ : MethodName)) hown (mvT hZ (hw _ (List.mem_of_getElem? (i := 95) rfl))) (mvT hZ (hw _ (List.mem_of_getElem? (i := 96) rfl))) (mvT hZ (hw _ (List.mem_of_getElem? (i := 97) rfl))) (mvT hZ (hw _ (List.mem_of_getElem? (i := 98) rfl))) (mvT hZ (hw _ (List.mem_of_getElem? (i := 99) rfl))) (mvT hZ (hw _ (List.mem_of_getElem? (i := 100) rfl))) (mvT hZ (hw _ (List.mem_of_getElem? (i := 101) rfl))) (mvT hZ (hw _ (List.mem_of_getElem? (i := 65) rfl))) (by decide) (backOf (W := 0) (rm_get20 l Z a0 hw [] aa (0 : Int32) ea ek x0 x1 h0 n0 Z0 P0 P1 P2 P3 rfl) hZ (hw _ (List.mem_of_getElem? (i := 102) rfl)) (hw _ (List.mem_of_getElem? (i := 10) rfl)) (by decide) (by decide)) q299a q299b q299c (g := (mkF m 2 #[rv aa, .unset, .unset, .unset, .unset, .unset, .unset, .unset, .unset] [(.int (0 : Int32)), (.ref aa)])) rfl (by rw [hml]; rfl) (Steps.refl _) (argsL := [(.int (0 : Int32))]) (rest := []) (lenOf pd9 rfl) rfl (by show 2 * 0 + _ ≤ _; exact Nat.le_of_eq rfl) (hb hby d12_2) (fun _ _ => ⟨rfl, e0, (by decide : 0 + 0 ≤ _), (by decide : 0 + 0 ≤ _)⟩)
  dsimp only [Pt.U, Pt.locs, Pt.cells, Pt.slots] at X299 l299 y299 z299 st299 hQ299
  subst l299 y299 z299
  obtain ⟨rfl, N299, R299_0⟩ := hQ299
  have M299 := Fr.app N0 N299
  have g300 : Goes p e below S0 (T299.setTop (mkF m 7 #[rv aa, .unset, .unset, .unset, .unset, .unset, .unset, .unset, .unset] [(.ref x0)])) := fun t k => g298 t (st299.trans k)
  obtain ⟨T301, X301, e301, st301⟩ := castY X299 hx hZ hown (hw _ (List.mem_of_getElem? (i := 116) rfl)) R299_0 (Ins.of_exa P4 (hw _ (List.mem_of_getElem? (i := 117) rfl))) (g := (mkF m 7 #[rv aa, .unset, .unset, .unset, .unset, .unset, .unset, .unset, .unset] [(.ref x0)])) rfl rfl (hb hby d12_7)
  have g302 : Goes p e below S0 (T301.setTop (mkF m 10 #[rv aa, .unset, .unset, .unset, .unset, .unset, .unset, .unset, .unset] [(.ref x0)])) := fun t k => g300 t (st301 t k)
  obtain ⟨cq303, kq303, q303a, q303b, q303c⟩ := isOf hZ e301 P4
  obtain ⟨_, _, ⟨T303, L303, k303, n303⟩, -, X303, ⟨Lc303, hQ303, l303, y303, z303⟩, st303⟩ := X301.virtualBack hx (y := (⟨"com/example/nimble_retrieval/nimbleretrieval/format/Run$Retrieved", "score", "()D"⟩ : MethodName)) (z := (⟨"com/example/nimble_retrieval/nimbleretrieval/format/Run$Retrieved", "score", "()D"⟩ : MethodName)) hown (mvT hZ (hw _ (List.mem_of_getElem? (i := 118) rfl))) (mvT hZ (hw _ (List.mem_of_getElem? (i := 119) rfl))) (notFace_of_selects (args := #[]) (mvT hZ (hw _ (List.mem_of_getElem? (i := 121) rfl)))) (mvT hZ (hw _ (List.mem_of_getElem? (i := 121) rfl))) (mvT hZ (hw _ (List.mem_of_getElem? (i := 120) rfl))) (by decide) (backOf (W := 0) (rm_sco l Z a0 hw [] x0 s0 h0 n0 Z0 P5) hZ (hw _ (List.mem_of_getElem? (i := 122) rfl)) (hw _ (List.mem_of_getElem? (i := 36) rfl)) (by decide) (by decide)) q303a q303c (g := (mkF m 10 #[rv aa, .unset, .unset, .unset, .unset, .unset, .unset, .unset, .unset] [(.ref x0)])) rfl (by rw [hml]; rfl) (Steps.refl _) (argsL := []) (rest := []) (lenOf pd10 rfl) rfl (by show 2 * 0 + _ ≤ _; exact Nat.le_of_eq rfl) (hb hby d12_10) (fun _ _ => ⟨rfl, e301, (by decide : 0 + 0 ≤ _), (by decide : 0 + 0 ≤ _)⟩)
  dsimp only [Pt.U, Pt.locs, Pt.cells, Pt.slots] at X303 l303 y303 z303 st303 hQ303
  subst l303 y303 z303
  obtain ⟨rfl, N303, e303⟩ := hQ303
  have M303 := Fr.app M299 N303
  have g304 : Goes p e below S0 (T303.setTop (mkF m 13 #[rv aa, .unset, .unset, .unset, .unset, .unset, .unset, .unset, .unset] [(.double (f_sco  s0))])) := fun t k => g302 t (st303.trans k)
  have g305 : Goes p e below S0 (T303.setTop (mkF m 15 #[rv aa, .val (.double (f_sco  s0)), .second, .unset, .unset, .unset, .unset, .unset, .unset] [(.ref aa)])) := fun t k => g304 t (by
    refine XS.dstoreN X303.here hx rfl (hb hby d12_13) rfl (l' := #[rv aa, .val (.double (f_sco  s0)), .second, .unset, .unset, .unset, .unset, .unset, .unset]) rfl ?_
    show Go p e below t T303 m 14 #[rv aa, .val (.double (f_sco  s0)), .second, .unset, .unset, .unset, .unset, .unset, .unset] []
    refine XS.aloadN X303.here hx rfl (hb hby d12_14) rfl rfl ?_
    show Go p e below t T303 m 15 #[rv aa, .val (.double (f_sco  s0)), .second, .unset, .unset, .unset, .unset, .unset, .unset] [(.ref aa)]
    exact k)
  obtain ⟨cq306, kq306, q306a, q306b, q306c⟩ := isOf hZ e303 P0
  obtain ⟨_, _, ⟨T306, L306, k306, n306⟩, -, X306, ⟨Lc306, hQ306, l306, y306, z306⟩, st306⟩ := X303.interfaceBack hx (xi := (⟨"java/util/List", "size", "()I"⟩ : MethodName)) (y := (⟨"java/util/ArrayList", "size", "()I"⟩ : MethodName)) hown (mvT hZ (hw _ (List.mem_of_getElem? (i := 123) rfl))) (mvT hZ (hw _ (List.mem_of_getElem? (i := 124) rfl))) (mvT hZ (hw _ (List.mem_of_getElem? (i := 125) rfl))) (mvT hZ (hw _ (List.mem_of_getElem? (i := 126) rfl))) (mvT hZ (hw _ (List.mem_of_getElem? (i := 127) rfl))) (mvT hZ (hw _ (List.mem_of_getElem? (i := 128) rfl))) (mvT hZ (hw _ (List.mem_of_getElem? (i := 129) rfl))) (mvT hZ (hw _ (List.mem_of_getElem? (i := 65) rfl))) (by decide) (backOf (W := 0) (rm_siz2 l Z a0 hw [] aa  h0 n0 Z0 P1) hZ (hw _ (List.mem_of_getElem? (i := 130) rfl)) (hw _ (List.mem_of_getElem? (i := 10) rfl)) (by decide) (by decide)) q306a q306b q306c (g := (mkF m 15 #[rv aa, .val (.double (f_sco  s0)), .second, .unset, .unset, .unset, .unset, .unset, .unset] [(.ref aa)])) rfl (by rw [hml]; rfl) (Steps.refl _) (argsL := []) (rest := []) (lenOf pd8 rfl) rfl (by show 2 * 0 + _ ≤ _; exact Nat.le_of_eq rfl) (hb hby d12_15) (fun _ _ => ⟨rfl, e303, (by decide : 0 + 0 ≤ _), (by decide : 0 + 0 ≤ _)⟩)
  dsimp only [Pt.U, Pt.locs, Pt.cells, Pt.slots] at X306 l306 y306 z306 st306 hQ306
  subst l306 y306 z306
  obtain ⟨rfl, N306, R306_0⟩ := hQ306
  have M306 := Fr.app M303 N306
  have g307 : Goes p e below S0 (T306.setTop (mkF m 20 #[rv aa, .val (.double (f_sco  s0)), .second, .unset, .unset, .unset, .unset, .unset, .unset] [(.int (2 : Int32))])) := fun t k => g305 t (st306.trans k)
  obtain ⟨T308, h308, k308, X308, e308, E308, A308, Q308, O308, st308⟩ := newRA X306 hx hZ hown (ty := .double) (C := "[D") (by decide) (hw _ (List.mem_of_getElem? (i := 131) rfl)) (hw _ (List.mem_of_getElem? (i := 132) rfl)) R306_0 (g := (mkF m 20 #[rv aa, .val (.double (f_sco  s0)), .second, .unset, .unset, .unset, .unset, .unset, .unset] [(.int (2 : Int32))])) rfl (hb hby d12_20) rfl (by decide) (cap := 2) (by decide) (by decide) (by decide) (by decide) (ad := "[[D") (by decide)
  obtain ⟨b308, gb308⟩ : ∃ z, z = h0.size := ⟨_, rfl⟩
  have sz308 : h0.size ≤ b308 := Nat.le_trans (Nat.le_refl _) (Nat.le_of_eq gb308.symm)
  have ng308 : n0 ≤ b308 := Nat.le_trans Z0 sz308
  rw [← gb308] at A308 st308 Q308
  have V308 : Arv Z h308 b308 k308 (.array .double) (2 : Int32) [.null, .null] .null := (Arv.new A308 (by decide)).pad (pad_rep [] .null 2)
  have g309 : Goes p e below S0 (T308.setTop (mkF m 23 #[rv aa, .val (.double (f_sco  s0)), .second, .unset, .unset, .unset, .unset, .unset, .unset] [(.ref b308)])) := fun t k => g307 t (st308 t k)
  have g310 : Goes p e below S0 (T308.setTop (mkF m 30 #[rv aa, .val (.double (f_sco  s0)), .second, rv b308, iv (0 : Int32), .unset, .unset, .unset, .unset] [(.ref b308), (.int (0 : Int32))])) := fun t k => g309 t (by
    refine XS.astoreN X308.here hx rfl (hb hby d12_23) rfl rfl (l' := #[rv aa, .val (.double (f_sco  s0)), .second, rv b308, .unset, .unset, .unset, .unset, .unset]) rfl ?_
    show Go p e below t T308 m 24 #[rv aa, .val (.double (f_sco  s0)), .second, rv b308, .unset, .unset, .unset, .unset, .unset] []
    refine XT.iconstV X308.here hx rfl (0 : Int32) (hb hby d12_24) (by decide) ?_
    show Go p e below t T308 m 25 #[rv aa, .val (.double (f_sco  s0)), .second, rv b308, .unset, .unset, .unset, .unset, .unset] [(.int (0 : Int32))]
    refine XS.istore X308.here hx rfl (hb hby d12_25) rfl (l' := #[rv aa, .val (.double (f_sco  s0)), .second, rv b308, iv (0 : Int32), .unset, .unset, .unset, .unset]) rfl ?_
    show Go p e below t T308 m 27 #[rv aa, .val (.double (f_sco  s0)), .second, rv b308, iv (0 : Int32), .unset, .unset, .unset, .unset] []
    refine XS.iload X308.here hx rfl (hb hby d12_27) rfl ?_
    show Go p e below t T308 m 29 #[rv aa, .val (.double (f_sco  s0)), .second, rv b308, iv (0 : Int32), .unset, .unset, .unset, .unset] [(.int (0 : Int32))]
    refine XS.aloadN X308.here hx rfl (hb hby d12_29) rfl rfl ?_
    show Go p e below t T308 m 30 #[rv aa, .val (.double (f_sco  s0)), .second, rv b308, iv (0 : Int32), .unset, .unset, .unset, .unset] [(.ref b308), (.int (0 : Int32))]
    exact k)
  obtain ⟨cl311, Ar311, q311, S311, M311, H311, G311⟩ := id V308
  have g312 : Goes p e below S0 (T308.setTop (mkF m 48 #[rv aa, .val (.double (f_sco  s0)), .second, rv b308, iv (0 : Int32), .val (.double (FP.dsub (4607182418800017408 : UInt64) (FP.ddiv (4607182418800017408 : UInt64) (FP.i2d (1 : Int32))))), .second, .unset, .unset] [(.int (cmpValue (FP.dcmp (f_sco  s0) (0 : UInt64)) .l))])) := fun t k => g310 t (by
    refine X308.arraylength hx (by rw [e308]; exact Ar311.1) (State.isArrayOf_alike hZ.alike Ar311.2.1) (g := (mkF m 30 #[rv aa, .val (.double (f_sco  s0)), .second, rv b308, iv (0 : Int32), .unset, .unset, .unset, .unset] [(.ref b308), (.int (0 : Int32))])) rfl rfl (hb hby d12_30) _ ?_
    rw [len_of S311 M311]
    show Go p e below t T308 m 31 #[rv aa, .val (.double (f_sco  s0)), .second, rv b308, iv (0 : Int32), .unset, .unset, .unset, .unset] [(.int (2 : Int32)), (.int (0 : Int32))]
    refine XS.icmpNo X308.here hx rfl (hb hby d12_31) rfl (XT.ii_ge_f (by decide)) ?_
    show Go p e below t T308 m 34 #[rv aa, .val (.double (f_sco  s0)), .second, rv b308, iv (0 : Int32), .unset, .unset, .unset, .unset] []
    refine XS.dconst1 X308.here hx rfl (hb hby d12_34) (v := (4607182418800017408 : UInt64)) rfl ?_
    show Go p e below t T308 m 35 #[rv aa, .val (.double (f_sco  s0)), .second, rv b308, iv (0 : Int32), .unset, .unset, .unset, .unset] [(.double (4607182418800017408 : UInt64))]
    refine XS.dconst1 X308.here hx rfl (hb hby d12_35) (v := (4607182418800017408 : UInt64)) rfl ?_
    show Go p e below t T308 m 36 #[rv aa, .val (.double (f_sco  s0)), .second, rv b308, iv (0 : Int32), .unset, .unset, .unset, .unset] [(.double (4607182418800017408 : UInt64)), (.double (4607182418800017408 : UInt64))]
    refine XS.iload X308.here hx rfl (hb hby d12_36) rfl ?_
    show Go p e below t T308 m 38 #[rv aa, .val (.double (f_sco  s0)), .second, rv b308, iv (0 : Int32), .unset, .unset, .unset, .unset] [(.int (0 : Int32)), (.double (4607182418800017408 : UInt64)), (.double (4607182418800017408 : UInt64))]
    refine XT.iconstV X308.here hx rfl (1 : Int32) (hb hby d12_38) (by decide) ?_
    show Go p e below t T308 m 39 #[rv aa, .val (.double (f_sco  s0)), .second, rv b308, iv (0 : Int32), .unset, .unset, .unset, .unset] [(.int (1 : Int32)), (.int (0 : Int32)), (.double (4607182418800017408 : UInt64)), (.double (4607182418800017408 : UInt64))]
    refine XS.iadd X308.here hx rfl (hb hby d12_39) rfl ?_
    rw [show ((0 : Int32) + (1 : Int32)) = (1 : Int32) by decide]
    show Go p e below t T308 m 40 #[rv aa, .val (.double (f_sco  s0)), .second, rv b308, iv (0 : Int32), .unset, .unset, .unset, .unset] [(.int (1 : Int32)), (.double (4607182418800017408 : UInt64)), (.double (4607182418800017408 : UInt64))]
    refine XS.i2dS X308.here hx rfl (hb hby d12_40) rfl rfl ?_
    show Go p e below t T308 m 41 #[rv aa, .val (.double (f_sco  s0)), .second, rv b308, iv (0 : Int32), .unset, .unset, .unset, .unset] [(.double (FP.i2d (1 : Int32))), (.double (4607182418800017408 : UInt64)), (.double (4607182418800017408 : UInt64))]
    refine XS.ddivS X308.here hx rfl (hb hby d12_41) rfl (by unfold Jvm.Free.Fl.NoNaN64; decide +kernel) rfl ?_
    show Go p e below t T308 m 42 #[rv aa, .val (.double (f_sco  s0)), .second, rv b308, iv (0 : Int32), .unset, .unset, .unset, .unset] [(.double (FP.ddiv (4607182418800017408 : UInt64) (FP.i2d (1 : Int32)))), (.double (4607182418800017408 : UInt64))]
    refine XS.dsubS X308.here hx rfl (hb hby d12_42) rfl (by unfold Jvm.Free.Fl.NoNaN64; decide +kernel) rfl ?_
    show Go p e below t T308 m 43 #[rv aa, .val (.double (f_sco  s0)), .second, rv b308, iv (0 : Int32), .unset, .unset, .unset, .unset] [(.double (FP.dsub (4607182418800017408 : UInt64) (FP.ddiv (4607182418800017408 : UInt64) (FP.i2d (1 : Int32)))))]
    refine XS.dstore X308.here hx rfl (hb hby d12_43) rfl (l' := #[rv aa, .val (.double (f_sco  s0)), .second, rv b308, iv (0 : Int32), .val (.double (FP.dsub (4607182418800017408 : UInt64) (FP.ddiv (4607182418800017408 : UInt64) (FP.i2d (1 : Int32))))), .second, .unset, .unset]) rfl ?_
    show Go p e below t T308 m 45 #[rv aa, .val (.double (f_sco  s0)), .second, rv b308, iv (0 : Int32), .val (.double (FP.dsub (4607182418800017408 : UInt64) (FP.ddiv (4607182418800017408 : UInt64) (FP.i2d (1 : Int32))))), .second, .unset, .unset] []
    refine XS.dloadN X308.here hx rfl (hb hby d12_45) rfl ?_
    show Go p e below t T308 m 46 #[rv aa, .val (.double (f_sco  s0)), .second, rv b308, iv (0 : Int32), .val (.double (FP.dsub (4607182418800017408 : UInt64) (FP.ddiv (4607182418800017408 : UInt64) (FP.i2d (1 : Int32))))), .second, .unset, .unset] [(.double (f_sco  s0))]
    refine XS.dconst0 X308.here hx rfl (hb hby d12_46) (v := (0 : UInt64)) rfl ?_
    show Go p e below t T308 m 47 #[rv aa, .val (.double (f_sco  s0)), .second, rv b308, iv (0 : Int32), .val (.double (FP.dsub (4607182418800017408 : UInt64) (FP.ddiv (4607182418800017408 : UInt64) (FP.i2d (1 : Int32))))), .second, .unset, .unset] [(.double (0 : UInt64)), (.double (f_sco  s0))]
    refine XS.dcmpS X308.here hx rfl (hb hby d12_47) rfl rfl ?_
    show Go p e below t T308 m 48 #[rv aa, .val (.double (f_sco  s0)), .second, rv b308, iv (0 : Int32), .val (.double (FP.dsub (4607182418800017408 : UInt64) (FP.ddiv (4607182418800017408 : UInt64) (FP.i2d (1 : Int32))))), .second, .unset, .unset] [(.int (cmpValue (FP.dcmp (f_sco  s0) (0 : UInt64)) .l))]
    exact k)
  by_cases h313 : dLt (0 : UInt64) (f_sco  s0)
  · skip
    have g314 : Goes p e below S0 (T308.setTop (mkF m 54 #[rv aa, .val (.double (f_sco  s0)), .second, rv b308, iv (0 : Int32), .val (.double (FP.dsub (4607182418800017408 : UInt64) (FP.ddiv (4607182418800017408 : UInt64) (FP.i2d (1 : Int32))))), .second, .unset, .unset] [(.int (0 : Int32)), (.ref aa)])) := fun t k => g312 t (by
      refine XS.ifNo X308.here hx rfl (hb hby d12_48) rfl (dc_l_le_f h313) ?_
      show Go p e below t T308 m 51 #[rv aa, .val (.double (f_sco  s0)), .second, rv b308, iv (0 : Int32), .val (.double (FP.dsub (4607182418800017408 : UInt64) (FP.ddiv (4607182418800017408 : UInt64) (FP.i2d (1 : Int32))))), .second, .unset, .unset] []
      refine XS.aloadN X308.here hx rfl (hb hby d12_51) rfl rfl ?_
      show Go p e below t T308 m 52 #[rv aa, .val (.double (f_sco  s0)), .second, rv b308, iv (0 : Int32), .val (.double (FP.dsub (4607182418800017408 : UInt64) (FP.ddiv (4607182418800017408 : UInt64) (FP.i2d (1 : Int32))))), .second, .unset, .unset] [(.ref aa)]
      refine XS.iload X308.here hx rfl (hb hby d12_52) rfl ?_
      show Go p e below t T308 m 54 #[rv aa, .val (.double (f_sco  s0)), .second, rv b308, iv (0 : Int32), .val (.double (FP.dsub (4607182418800017408 : UInt64) (FP.ddiv (4607182418800017408 : UInt64) (FP.i2d (1 : Int32))))), .second, .unset, .unset] [(.int (0 : Int32)), (.ref aa)]
      exact k)
    obtain ⟨cq315, kq315, q315a, q315b, q315c⟩ := isOf hZ e308 (P0.ext E308)
    obtain ⟨_, _, ⟨T315, L315, k315, n315⟩, -, X315, ⟨Lc315, hQ315, l315, y315, z315⟩, st315⟩ := X308.interfaceBack hx (xi := (⟨"java/util/List", "get", "(I)Ljava/lang/Object;"⟩ : MethodName)) (y := (⟨"java/util/ArrayList", "get", "(I)Ljava/lang/Object;"⟩ : MethodName)) hown (mvT hZ (hw _ (List.mem_of_getElem? (i := 95) rfl))) (mvT hZ (hw _ (List.mem_of_getElem? (i := 96) rfl))) (mvT hZ (hw _ (List.mem_of_getElem? (i := 97) rfl))) (mvT hZ (hw _ (List.mem_of_getElem? (i := 98) rfl))) (mvT hZ (hw _ (List.mem_of_getElem? (i := 99) rfl))) (mvT hZ (hw _ (List.mem_of_getElem? (i := 100) rfl))) (mvT hZ (hw _ (List.mem_of_getElem? (i := 101) rfl))) (mvT hZ (hw _ (List.mem_of_getElem? (i := 65) rfl))) (by decide) (backOf (W := 0) (rm_get20 l Z a0 hw [] aa (0 : Int32) ea ek x0 x1 h308 n0 (Nat.le_trans Z0 (Nat.le_trans (Nat.le_refl _) E308.1)) (P0.ext E308) (P1.ext E308) (P2.ext E308) (P3.ext E308) rfl) hZ (hw _ (List.mem_of_getElem? (i := 102) rfl)) (hw _ (List.mem_of_getElem? (i := 10) rfl)) (by decide) (by decide)) q315a q315b q315c (g := (mkF m 54 #[rv aa, .val (.double (f_sco  s0)), .second, rv b308, iv (0 : Int32), .val (.double (FP.dsub (4607182418800017408 : UInt64) (FP.ddiv (4607182418800017408 : UInt64) (FP.i2d (1 : Int32))))), .second, .unset, .unset] [(.int (0 : Int32)), (.ref aa)])) rfl (by rw [hml]; rfl) (Steps.refl _) (argsL := [(.int (0 : Int32))]) (rest := []) (lenOf pd9 rfl) rfl (by show 2 * 0 + _ ≤ _; exact Nat.le_of_eq rfl) (hb hby d12_54) (fun _ _ => ⟨rfl, e308, (by decide : 1 + 0 ≤ _), (by decide : 2 + 0 ≤ _)⟩)
    dsimp only [Pt.U, Pt.locs, Pt.cells, Pt.slots] at X315 l315 y315 z315 st315 hQ315
    subst l315 y315 z315
    obtain ⟨rfl, N315, R315_0⟩ := hQ315
    have M315 := Fr.app M306 N315
    have g316 : Goes p e below S0 (T315.setTop (mkF m 59 #[rv aa, .val (.double (f_sco  s0)), .second, rv b308, iv (0 : Int32), .val (.double (FP.dsub (4607182418800017408 : UInt64) (FP.ddiv (4607182418800017408 : UInt64) (FP.i2d (1 : Int32))))), .second, .unset, .unset] [(.ref x0)])) := fun t k => g314 t (st315.trans k)
    obtain ⟨T317, X317, e317, st317⟩ := castY X315 hx hZ hown (hw _ (List.mem_of_getElem? (i := 116) rfl)) R315_0 (Ins.of_exa (P4.ext E308) (hw _ (List.mem_of_getElem? (i := 117) rfl))) (g := (mkF m 59 #[rv aa, .val (.double (f_sco  s0)), .second, rv b308, iv (0 : Int32), .val (.double (FP.dsub (4607182418800017408 : UInt64) (FP.ddiv (4607182418800017408 : UInt64) (FP.i2d (1 : Int32))))), .second, .unset, .unset] [(.ref x0)])) rfl rfl (hb hby d12_59)
    have g318 : Goes p e below S0 (T317.setTop (mkF m 62 #[rv aa, .val (.double (f_sco  s0)), .second, rv b308, iv (0 : Int32), .val (.double (FP.dsub (4607182418800017408 : UInt64) (FP.ddiv (4607182418800017408 : UInt64) (FP.i2d (1 : Int32))))), .second, .unset, .unset] [(.ref x0)])) := fun t k => g316 t (st317 t k)
    obtain ⟨cq319, kq319, q319a, q319b, q319c⟩ := isOf hZ e317 (P4.ext E308)
    obtain ⟨_, _, ⟨T319, L319, k319, n319⟩, -, X319, ⟨Lc319, hQ319, l319, y319, z319⟩, st319⟩ := X317.virtualBack hx (y := (⟨"com/example/nimble_retrieval/nimbleretrieval/format/Run$Retrieved", "score", "()D"⟩ : MethodName)) (z := (⟨"com/example/nimble_retrieval/nimbleretrieval/format/Run$Retrieved", "score", "()D"⟩ : MethodName)) hown (mvT hZ (hw _ (List.mem_of_getElem? (i := 118) rfl))) (mvT hZ (hw _ (List.mem_of_getElem? (i := 119) rfl))) (notFace_of_selects (args := #[]) (mvT hZ (hw _ (List.mem_of_getElem? (i := 121) rfl)))) (mvT hZ (hw _ (List.mem_of_getElem? (i := 121) rfl))) (mvT hZ (hw _ (List.mem_of_getElem? (i := 120) rfl))) (by decide) (backOf (W := 0) (rm_sco l Z a0 hw [] x0 s0 h308 n0 (Nat.le_trans Z0 (Nat.le_trans (Nat.le_refl _) E308.1)) (P5.ext E308)) hZ (hw _ (List.mem_of_getElem? (i := 122) rfl)) (hw _ (List.mem_of_getElem? (i := 36) rfl)) (by decide) (by decide)) q319a q319c (g := (mkF m 62 #[rv aa, .val (.double (f_sco  s0)), .second, rv b308, iv (0 : Int32), .val (.double (FP.dsub (4607182418800017408 : UInt64) (FP.ddiv (4607182418800017408 : UInt64) (FP.i2d (1 : Int32))))), .second, .unset, .unset] [(.ref x0)])) rfl (by rw [hml]; rfl) (Steps.refl _) (argsL := []) (rest := []) (lenOf pd10 rfl) rfl (by show 2 * 0 + _ ≤ _; exact Nat.le_of_eq rfl) (hb hby d12_62) (fun _ _ => ⟨rfl, e317, (by decide : 1 + 0 ≤ _), (by decide : 2 + 0 ≤ _)⟩)
    dsimp only [Pt.U, Pt.locs, Pt.cells, Pt.slots] at X319 l319 y319 z319 st319 hQ319
    subst l319 y319 z319
    obtain ⟨rfl, N319, e319⟩ := hQ319
    have M319 := Fr.app M315 N319
    have g320 : Goes p e below S0 (T319.setTop (mkF m 65 #[rv aa, .val (.double (f_sco  s0)), .second, rv b308, iv (0 : Int32), .val (.double (FP.dsub (4607182418800017408 : UInt64) (FP.ddiv (4607182418800017408 : UInt64) (FP.i2d (1 : Int32))))), .second, .unset, .unset] [(.double (f_sco  s0))])) := fun t k => g318 t (st319.trans k)
    have g321 : Goes p e below S0 (T319.setTop (mkF m 66 #[rv aa, .val (.double (f_sco  s0)), .second, rv b308, iv (0 : Int32), .val (.double (FP.dsub (4607182418800017408 : UInt64) (FP.ddiv (4607182418800017408 : UInt64) (FP.i2d (1 : Int32))))), .second, .unset, .unset] [(.double (0 : UInt64)), (.double (f_sco  s0))])) := fun t k => g320 t (by
      refine XS.dconst0 X319.here hx rfl (hb hby d12_65) (v := (0 : UInt64)) rfl ?_
      show Go p e below t T319 m 66 #[rv aa, .val (.double (f_sco  s0)), .second, rv b308, iv (0 : Int32), .val (.double (FP.dsub (4607182418800017408 : UInt64) (FP.ddiv (4607182418800017408 : UInt64) (FP.i2d (1 : Int32))))), .second, .unset, .unset] [(.double (0 : UInt64)), (.double (f_sco  s0))]
      exact k)
    obtain ⟨T322, X322, e322, st322⟩ := natS X319 hx hZ (y := (⟨"java/lang/Math", "max", "(DD)D"⟩ : MethodName)) hown (hw _ (List.mem_of_getElem? (i := 133) rfl)) (hw _ (List.mem_of_getElem? (i := 134) rfl)) (hw _ (List.mem_of_getElem? (i := 3) rfl)) (hw _ (List.mem_of_getElem? (i := 135) rfl)) (by decide) e319 (W := 0) (fun c4 => Jvm.Free.Fl.Abs.maxD_pays (f_sco  s0) (0 : UInt64) c4 (by decide) (by decide)) (g := (mkF m 66 #[rv aa, .val (.double (f_sco  s0)), .second, rv b308, iv (0 : Int32), .val (.double (FP.dsub (4607182418800017408 : UInt64) (FP.ddiv (4607182418800017408 : UInt64) (FP.i2d (1 : Int32))))), .second, .unset, .unset] [(.double (0 : UInt64)), (.double (f_sco  s0))])) rfl (by rw [hml]; rfl) (argsL := [(.double (f_sco  s0)), (.double (0 : UInt64))]) (rest := []) (lenOf pd12 rfl) rfl (by show 2 * 0 + _ ≤ _; exact Nat.le_of_eq rfl) (hb hby d12_66) (Nat.le_of_ble_eq_true rfl) (Nat.le_of_ble_eq_true rfl) ⟨rfl, fs0.noNaN, (by unfold Jvm.Free.Fl.NoNaN64; decide +kernel)⟩ (val' := (.double (Native.java_lang_Math.nans.pick64 true (f_sco  s0) (0 : UInt64)))) rfl
    have g323 : Goes p e below S0 (T322.setTop (mkF m 69 #[rv aa, .val (.double (f_sco  s0)), .second, rv b308, iv (0 : Int32), .val (.double (FP.dsub (4607182418800017408 : UInt64) (FP.ddiv (4607182418800017408 : UInt64) (FP.i2d (1 : Int32))))), .second, .unset, .unset] [(.double (Native.java_lang_Math.nans.pick64 true (f_sco  s0) (0 : UInt64)))])) := fun t k => g321 t (st322 t k)
    have g324 : Goes p e below S0 (T322.setTop (mkF m 77 #[rv aa, .val (.double (f_sco  s0)), .second, rv b308, iv (0 : Int32), .val (.double (FP.dsub (4607182418800017408 : UInt64) (FP.ddiv (4607182418800017408 : UInt64) (FP.i2d (1 : Int32))))), .second, .val (.double (FP.ddiv (Native.java_lang_Math.nans.pick64 true (f_sco  s0) (0 : UInt64)) (f_sco  s0))), .second] [])) := fun t k => g323 t (by
      refine XS.dloadN X322.here hx rfl (hb hby d12_69) rfl ?_
      show Go p e below t T322 m 70 #[rv aa, .val (.double (f_sco  s0)), .second, rv b308, iv (0 : Int32), .val (.double (FP.dsub (4607182418800017408 : UInt64) (FP.ddiv (4607182418800017408 : UInt64) (FP.i2d (1 : Int32))))), .second, .unset, .unset] [(.double (f_sco  s0)), (.double (Native.java_lang_Math.nans.pick64 true (f_sco  s0) (0 : UInt64)))]
      refine XS.ddivS X322.here hx rfl (hb hby d12_70) rfl (own_nnd fs0 fs0 h313) rfl ?_
      show Go p e below t T322 m 71 #[rv aa, .val (.double (f_sco  s0)), .second, rv b308, iv (0 : Int32), .val (.double (FP.dsub (4607182418800017408 : UInt64) (FP.ddiv (4607182418800017408 : UInt64) (FP.i2d (1 : Int32))))), .second, .unset, .unset] [(.double (FP.ddiv (Native.java_lang_Math.nans.pick64 true (f_sco  s0) (0 : UInt64)) (f_sco  s0)))]
      refine XS.goto X322.here hx rfl (pc0 := 71) (pc' := 75) rfl (hb hby d12_71) (by decide) (by decide) ?_
      show Go p e below t T322 m 75 #[rv aa, .val (.double (f_sco  s0)), .second, rv b308, iv (0 : Int32), .val (.double (FP.dsub (4607182418800017408 : UInt64) (FP.ddiv (4607182418800017408 : UInt64) (FP.i2d (1 : Int32))))), .second, .unset, .unset] [(.double (FP.ddiv (Native.java_lang_Math.nans.pick64 true (f_sco  s0) (0 : UInt64)) (f_sco  s0)))]
      refine XS.dstore X322.here hx rfl (hb hby d12_75) rfl (l' := #[rv aa, .val (.double (f_sco  s0)), .second, rv b308, iv (0 : Int32), .val (.double (FP.dsub (4607182418800017408 : UInt64) (FP.ddiv (4607182418800017408 : UInt64) (FP.i2d (1 : Int32))))), .second, .val (.double (FP.ddiv (Native.java_lang_Math.nans.pick64 true (f_sco  s0) (0 : UInt64)) (f_sco  s0))), .second]) rfl ?_
      show Go p e below t T322 m 77 #[rv aa, .val (.double (f_sco  s0)), .second, rv b308, iv (0 : Int32), .val (.double (FP.dsub (4607182418800017408 : UInt64) (FP.ddiv (4607182418800017408 : UInt64) (FP.i2d (1 : Int32))))), .second, .val (.double (FP.ddiv (Native.java_lang_Math.nans.pick64 true (f_sco  s0) (0 : UInt64)) (f_sco  s0))), .second] []
      exact k)
    rw [show (FP.ddiv (Native.java_lang_Math.nans.pick64 true (f_sco  s0) (0 : UInt64)) (f_sco  s0)) = (own_sc s0 s0) from (if_pos h313).symm] at g324
    have g325 : Goes p e below S0 (T322.setTop (mkF m 81 #[rv aa, .val (.double (f_sco  s0)), .second, rv b308, iv (0 : Int32), .val (.double (FP.dsub (4607182418800017408 : UInt64) (FP.ddiv (4607182418800017408 : UInt64) (FP.i2d (1 : Int32))))), .second, .val (.double (own_sc s0 s0)), .second] [(.int (2 : Int32)), (.int (0 : Int32)), (.ref b308)])) := fun t k => g324 t (by
      refine XS.aloadN X322.here hx rfl (hb hby d12_77) rfl rfl ?_
      show Go p e below t T322 m 78 #[rv aa, .val (.double (f_sco  s0)), .second, rv b308, iv (0 : Int32), .val (.double (FP.dsub (4607182418800017408 : UInt64) (FP.ddiv (4607182418800017408 : UInt64) (FP.i2d (1 : Int32))))), .second, .val (.double (own_sc s0 s0)), .second] [(.ref b308)]
      refine XS.iload X322.here hx rfl (hb hby d12_78) rfl ?_
      show Go p e below t T322 m 80 #[rv aa, .val (.double (f_sco  s0)), .second, rv b308, iv (0 : Int32), .val (.double (FP.dsub (4607182418800017408 : UInt64) (FP.ddiv (4607182418800017408 : UInt64) (FP.i2d (1 : Int32))))), .second, .val (.double (own_sc s0 s0)), .second] [(.int (0 : Int32)), (.ref b308)]
      refine XT.iconstV X322.here hx rfl (2 : Int32) (hb hby d12_80) (by decide) ?_
      show Go p e below t T322 m 81 #[rv aa, .val (.double (f_sco  s0)), .second, rv b308, iv (0 : Int32), .val (.double (FP.dsub (4607182418800017408 : UInt64) (FP.ddiv (4607182418800017408 : UInt64) (FP.i2d (1 : Int32))))), .second, .val (.double (own_sc s0 s0)), .second] [(.int (2 : Int32)), (.int (0 : Int32)), (.ref b308)]
      exact k)
    obtain ⟨T326, h326, k326, X326, e326, E326, A326, Q326, st326⟩ := newPE X322 hx hZ (hw _ (List.mem_of_getElem? (i := 136) rfl)) e322 (g := (mkF m 81 #[rv aa, .val (.double (f_sco  s0)), .second, rv b308, iv (0 : Int32), .val (.double (FP.dsub (4607182418800017408 : UInt64) (FP.ddiv (4607182418800017408 : UInt64) (FP.i2d (1 : Int32))))), .second, .val (.double (own_sc s0 s0)), .second] [(.int (2 : Int32)), (.int (0 : Int32)), (.ref b308)])) rfl (hb hby d12_81) rfl (by decide) (cap := 2) (by decide) (by decide) (by decide) (by decide) (ad := "[D") (by decide)
    obtain ⟨b326, gb326⟩ : ∃ z, z = h308.size := ⟨_, rfl⟩
    have sz326 : h0.size ≤ b326 := Nat.le_trans (Nat.le_trans (Nat.le_refl _) E308.1) (Nat.le_of_eq gb326.symm)
    have ng326 : n0 ≤ b326 := Nat.le_trans Z0 sz326
    rw [← gb326] at A326 st326 Q326
    have V326 : Arv Z h326 b326 k326 .double (2 : Int32) [(.double (0 : UInt64)), (.double (0 : UInt64))] (.double (0 : UInt64)) := (Arv.new A326 (by decide)).pad (pad_rep [] (.double (0 : UInt64)) 2)
    have g327 : Goes p e below S0 (T326.setTop (mkF m 83 #[rv aa, .val (.double (f_sco  s0)), .second, rv b308, iv (0 : Int32), .val (.double (FP.dsub (4607182418800017408 : UInt64) (FP.ddiv (4607182418800017408 : UInt64) (FP.i2d (1 : Int32))))), .second, .val (.double (own_sc s0 s0)), .second] [(.ref b326), (.int (0 : Int32)), (.ref b308)])) := fun t k => g325 t (st326 t k)
    have g328 : Goes p e below S0 (T326.setTop (mkF m 87 #[rv aa, .val (.double (f_sco  s0)), .second, rv b308, iv (0 : Int32), .val (.double (FP.dsub (4607182418800017408 : UInt64) (FP.ddiv (4607182418800017408 : UInt64) (FP.i2d (1 : Int32))))), .second, .val (.double (own_sc s0 s0)), .second] [(.double (FP.dsub (4607182418800017408 : UInt64) (FP.ddiv (4607182418800017408 : UInt64) (FP.i2d (1 : Int32))))), (.int (0 : Int32)), (.ref b326), (.ref b326), (.int (0 : Int32)), (.ref b308)])) := fun t k => g327 t (by
      refine XS.dup X326.here hx rfl (hb hby d12_83) rfl rfl ?_
      show Go p e below t T326 m 84 #[rv aa, .val (.double (f_sco  s0)), .second, rv b308, iv (0 : Int32), .val (.double (FP.dsub (4607182418800017408 : UInt64) (FP.ddiv (4607182418800017408 : UInt64) (FP.i2d (1 : Int32))))), .second, .val (.double (own_sc s0 s0)), .second] [(.ref b326), (.ref b326), (.int (0 : Int32)), (.ref b308)]
      refine XT.iconstV X326.here hx rfl (0 : Int32) (hb hby d12_84) (by decide) ?_
      show Go p e below t T326 m 85 #[rv aa, .val (.double (f_sco  s0)), .second, rv b308, iv (0 : Int32), .val (.double (FP.dsub (4607182418800017408 : UInt64) (FP.ddiv (4607182418800017408 : UInt64) (FP.i2d (1 : Int32))))), .second, .val (.double (own_sc s0 s0)), .second] [(.int (0 : Int32)), (.ref b326), (.ref b326), (.int (0 : Int32)), (.ref b308)]
      refine XS.dload X326.here hx rfl (hb hby d12_85) rfl ?_
      show Go p e below t T326 m 87 #[rv aa, .val (.double (f_sco  s0)), .second, rv b308, iv (0 : Int32), .val (.double (FP.dsub (4607182418800017408 : UInt64) (FP.ddiv (4607182418800017408 : UInt64) (FP.i2d (1 : Int32))))), .second, .val (.double (own_sc s0 s0)), .second] [(.double (FP.dsub (4607182418800017408 : UInt64) (FP.ddiv (4607182418800017408 : UInt64) (FP.i2d (1 : Int32))))), (.int (0 : Int32)), (.ref b326), (.ref b326), (.int (0 : Int32)), (.ref b308)]
      exact k)
    obtain ⟨cl329, Ar329, q329, S329, M329, H329, G329⟩ := id V326
    obtain ⟨T330, h330, X330, e330, W330, st330⟩ := stD X326 hx hZ e326 Ar329 (j := (0 : Int32)) (inb_of S329 ⟨by decide, by decide⟩) (g := (mkF m 87 #[rv aa, .val (.double (f_sco  s0)), .second, rv b308, iv (0 : Int32), .val (.double (FP.dsub (4607182418800017408 : UInt64) (FP.ddiv (4607182418800017408 : UInt64) (FP.i2d (1 : Int32))))), .second, .val (.double (own_sc s0 s0)), .second] [(.double (FP.dsub (4607182418800017408 : UInt64) (FP.ddiv (4607182418800017408 : UInt64) (FP.i2d (1 : Int32))))), (.int (0 : Int32)), (.ref b326), (.ref b326), (.int (0 : Int32)), (.ref b308)])) rfl rfl (hb hby d12_87)
    have N330 := Fr.snoc X330 M319 ng326
    have V330 : Arv Z h330 b326 k326 .double (2 : Int32) [(.double (FP.dsub (4607182418800017408 : UInt64) (FP.ddiv (4607182418800017408 : UInt64) (FP.i2d (1 : Int32))))), (.double (0 : UInt64))] (.double (0 : UInt64)) := Arv.set Ar329 q329 S329 M329 H329 G329 rfl W330 0 rfl (Nat.le_of_ble_eq_true rfl)
    have g331 : Goes p e below S0 (T330.setTop (mkF m 88 #[rv aa, .val (.double (f_sco  s0)), .second, rv b308, iv (0 : Int32), .val (.double (FP.dsub (4607182418800017408 : UInt64) (FP.ddiv (4607182418800017408 : UInt64) (FP.i2d (1 : Int32))))), .second, .val (.double (own_sc s0 s0)), .second] [(.ref b326), (.int (0 : Int32)), (.ref b308)])) := fun t k => g328 t (st330 t k)
    have g332 : Goes p e below S0 (T330.setTop (mkF m 92 #[rv aa, .val (.double (f_sco  s0)), .second, rv b308, iv (0 : Int32), .val (.double (FP.dsub (4607182418800017408 : UInt64) (FP.ddiv (4607182418800017408 : UInt64) (FP.i2d (1 : Int32))))), .second, .val (.double (own_sc s0 s0)), .second] [(.double (own_sc s0 s0)), (.int (1 : Int32)), (.ref b326), (.ref b326), (.int (0 : Int32)), (.ref b308)])) := fun t k => g331 t (by
      refine XS.dup X330.here hx rfl (hb hby d12_88) rfl rfl ?_
      show Go p e below t T330 m 89 #[rv aa, .val (.double (f_sco  s0)), .second, rv b308, iv (0 : Int32), .val (.double (FP.dsub (4607182418800017408 : UInt64) (FP.ddiv (4607182418800017408 : UInt64) (FP.i2d (1 : Int32))))), .second, .val (.double (own_sc s0 s0)), .second] [(.ref b326), (.ref b326), (.int (0 : Int32)), (.ref b308)]
      refine XT.iconstV X330.here hx rfl (1 : Int32) (hb hby d12_89) (by decide) ?_
      show Go p e below t T330 m 90 #[rv aa, .val (.double (f_sco  s0)), .second, rv b308, iv (0 : Int32), .val (.double (FP.dsub (4607182418800017408 : UInt64) (FP.ddiv (4607182418800017408 : UInt64) (FP.i2d (1 : Int32))))), .second, .val (.double (own_sc s0 s0)), .second] [(.int (1 : Int32)), (.ref b326), (.ref b326), (.int (0 : Int32)), (.ref b308)]
      refine XS.dload X330.here hx rfl (hb hby d12_90) rfl ?_
      show Go p e below t T330 m 92 #[rv aa, .val (.double (f_sco  s0)), .second, rv b308, iv (0 : Int32), .val (.double (FP.dsub (4607182418800017408 : UInt64) (FP.ddiv (4607182418800017408 : UInt64) (FP.i2d (1 : Int32))))), .second, .val (.double (own_sc s0 s0)), .second] [(.double (own_sc s0 s0)), (.int (1 : Int32)), (.ref b326), (.ref b326), (.int (0 : Int32)), (.ref b308)]
      exact k)
    obtain ⟨cl333, Ar333, q333, S333, M333, H333, G333⟩ := id V330
    obtain ⟨T334, h334, X334, e334, W334, st334⟩ := stD X330 hx hZ e330 Ar333 (j := (1 : Int32)) (inb_of S333 ⟨by decide, by decide⟩) (g := (mkF m 92 #[rv aa, .val (.double (f_sco  s0)), .second, rv b308, iv (0 : Int32), .val (.double (FP.dsub (4607182418800017408 : UInt64) (FP.ddiv (4607182418800017408 : UInt64) (FP.i2d (1 : Int32))))), .second, .val (.double (own_sc s0 s0)), .second] [(.double (own_sc s0 s0)), (.int (1 : Int32)), (.ref b326), (.ref b326), (.int (0 : Int32)), (.ref b308)])) rfl rfl (hb hby d12_92)
    have N334 := Fr.snoc X334 N330 ng326
    have V334 : Arv Z h334 b326 k326 .double (2 : Int32) [(.double (FP.dsub (4607182418800017408 : UInt64) (FP.ddiv (4607182418800017408 : UInt64) (FP.i2d (1 : Int32))))), (.double (own_sc s0 s0))] (.double (0 : UInt64)) := Arv.set Ar333 q333 S333 M333 H333 G333 rfl W334 1 rfl (Nat.le_of_ble_eq_true rfl)
    have g335 : Goes p e below S0 (T334.setTop (mkF m 93 #[rv aa, .val (.double (f_sco  s0)), .second, rv b308, iv (0 : Int32), .val (.double (FP.dsub (4607182418800017408 : UInt64) (FP.ddiv (4607182418800017408 : UInt64) (FP.i2d (1 : Int32))))), .second, .val (.double (own_sc s0 s0)), .second] [(.ref b326), (.int (0 : Int32)), (.ref b308)])) := fun t k => g332 t (st334 t k)
    obtain ⟨cl336, Ar336, q336, S336, M336, H336, G336⟩ := id (((V308.ext E326).other W330 (Nat.ne_of_lt (Nat.lt_of_lt_of_le V308.lt (Nat.le_of_eq gb326.symm)))).other W334 (Nat.ne_of_lt (Nat.lt_of_lt_of_le V308.lt (Nat.le_of_eq gb326.symm))))
    obtain ⟨T337, h337, X337, e337, W337, st337⟩ := stR X334 hx hZ e334 Ar336 (j := (0 : Int32)) (inb_of S336 ⟨by decide, by decide⟩) rfl (Sto.ofVA Ar336 q336 O308 (Ins.of_exa ((Q326.wr W330).wr W334) (hw _ (List.mem_of_getElem? (i := 137) rfl)))) (g := (mkF m 93 #[rv aa, .val (.double (f_sco  s0)), .second, rv b308, iv (0 : Int32), .val (.double (FP.dsub (4607182418800017408 : UInt64) (FP.ddiv (4607182418800017408 : UInt64) (FP.i2d (1 : Int32))))), .second, .val (.double (own_sc s0 s0)), .second] [(.ref b326), (.int (0 : Int32)), (.ref b308)])) rfl rfl (hb hby d12_93)
    have N337 := Fr.snoc X337 N334 ng308
    have V337 : Arv Z h337 b308 k308 (.array .double) (2 : Int32) [(.ref b326), .null] .null := Arv.set Ar336 q336 S336 M336 H336 G336 rfl W337 0 rfl (Nat.le_of_ble_eq_true rfl)
    have g338 : Goes p e below S0 (T337.setTop (mkF m 94 #[rv aa, .val (.double (f_sco  s0)), .second, rv b308, iv (0 : Int32), .val (.double (FP.dsub (4607182418800017408 : UInt64) (FP.ddiv (4607182418800017408 : UInt64) (FP.i2d (1 : Int32))))), .second, .val (.double (own_sc s0 s0)), .second] [])) := fun t k => g335 t (st337 t k)
    have g339 : Goes p e below S0 (T337.setTop (mkF m 30 #[rv aa, .val (.double (f_sco  s0)), .second, rv b308, iv (1 : Int32), .val (.double (FP.dsub (4607182418800017408 : UInt64) (FP.ddiv (4607182418800017408 : UInt64) (FP.i2d (1 : Int32))))), .second, .val (.double (own_sc s0 s0)), .second] [(.ref b308), (.int (1 : Int32))])) := fun t k => g338 t (by
      refine XT.iincV X337.here hx rfl (1 : Int32) (hb hby d12_94) (by decide) rfl (l' := #[rv aa, .val (.double (f_sco  s0)), .second, rv b308, iv (1 : Int32), .val (.double (FP.dsub (4607182418800017408 : UInt64) (FP.ddiv (4607182418800017408 : UInt64) (FP.i2d (1 : Int32))))), .second, .val (.double (own_sc s0 s0)), .second]) rfl ?_
      show Go p e below t T337 m 97 #[rv aa, .val (.double (f_sco  s0)), .second, rv b308, iv (1 : Int32), .val (.double (FP.dsub (4607182418800017408 : UInt64) (FP.ddiv (4607182418800017408 : UInt64) (FP.i2d (1 : Int32))))), .second, .val (.double (own_sc s0 s0)), .second] []
      refine XS.goto X337.here hx rfl (pc0 := 97) (pc' := 27) rfl (hb hby d12_97) (by decide) (by decide) ?_
      show Go p e below t T337 m 27 #[rv aa, .val (.double (f_sco  s0)), .second, rv b308, iv (1 : Int32), .val (.double (FP.dsub (4607182418800017408 : UInt64) (FP.ddiv (4607182418800017408 : UInt64) (FP.i2d (1 : Int32))))), .second, .val (.double (own_sc s0 s0)), .second] []
      refine XS.iload X337.here hx rfl (hb hby d12_27) rfl ?_
      show Go p e below t T337 m 29 #[rv aa, .val (.double (f_sco  s0)), .second, rv b308, iv (1 : Int32), .val (.double (FP.dsub (4607182418800017408 : UInt64) (FP.ddiv (4607182418800017408 : UInt64) (FP.i2d (1 : Int32))))), .second, .val (.double (own_sc s0 s0)), .second] [(.int (1 : Int32))]
      refine XS.aloadN X337.here hx rfl (hb hby d12_29) rfl rfl ?_
      show Go p e below t T337 m 30 #[rv aa, .val (.double (f_sco  s0)), .second, rv b308, iv (1 : Int32), .val (.double (FP.dsub (4607182418800017408 : UInt64) (FP.ddiv (4607182418800017408 : UInt64) (FP.i2d (1 : Int32))))), .second, .val (.double (own_sc s0 s0)), .second] [(.ref b308), (.int (1 : Int32))]
      exact k)
    obtain ⟨cl340, Ar340, q340, S340, M340, H340, G340⟩ := id V337
    have g341 : Goes p e below S0 (T337.setTop (mkF m 54 #[rv aa, .val (.double (f_sco  s0)), .second, rv b308, iv (1 : Int32), .val (.double (FP.dsub (4607182418800017408 : UInt64) (FP.ddiv (4607182418800017408 : UInt64) (FP.i2d (2 : Int32))))), .second, .val (.double (own_sc s0 s0)), .second] [(.int (1 : Int32)), (.ref aa)])) := fun t k => g339 t (by
      refine X337.arraylength hx (by rw [e337]; exact Ar340.1) (State.isArrayOf_alike hZ.alike Ar340.2.1) (g := (mkF m 30 #[rv aa, .val (.double (f_sco  s0)), .second, rv b308, iv (1 : Int32), .val (.double (FP.dsub (4607182418800017408 : UInt64) (FP.ddiv (4607182418800017408 : UInt64) (FP.i2d (1 : Int32))))), .second, .val (.double (own_sc s0 s0)), .second] [(.ref b308), (.int (1 : Int32))])) rfl rfl (hb hby d12_30) _ ?_
      rw [len_of S340 M340]
      show Go p e below t T337 m 31 #[rv aa, .val (.double (f_sco  s0)), .second, rv b308, iv (1 : Int32), .val (.double (FP.dsub (4607182418800017408 : UInt64) (FP.ddiv (4607182418800017408 : UInt64) (FP.i2d (1 : Int32))))), .second, .val (.double (own_sc s0 s0)), .second] [(.int (2 : Int32)), (.int (1 : Int32))]
      refine XS.icmpNo X337.here hx rfl (hb hby d12_31) rfl (XT.ii_ge_f (by decide)) ?_
      show Go p e below t T337 m 34 #[rv aa, .val (.double (f_sco  s0)), .second, rv b308, iv (1 : Int32), .val (.double (FP.dsub (4607182418800017408 : UInt64) (FP.ddiv (4607182418800017408 : UInt64) (FP.i2d (1 : Int32))))), .second, .val (.double (own_sc s0 s0)), .second] []
      refine XS.dconst1 X337.here hx rfl (hb hby d12_34) (v := (4607182418800017408 : UInt64)) rfl ?_
      show Go p e below t T337 m 35 #[rv aa, .val (.double (f_sco  s0)), .second, rv b308, iv (1 : Int32), .val (.double (FP.dsub (4607182418800017408 : UInt64) (FP.ddiv (4607182418800017408 : UInt64) (FP.i2d (1 : Int32))))), .second, .val (.double (own_sc s0 s0)), .second] [(.double (4607182418800017408 : UInt64))]
      refine XS.dconst1 X337.here hx rfl (hb hby d12_35) (v := (4607182418800017408 : UInt64)) rfl ?_
      show Go p e below t T337 m 36 #[rv aa, .val (.double (f_sco  s0)), .second, rv b308, iv (1 : Int32), .val (.double (FP.dsub (4607182418800017408 : UInt64) (FP.ddiv (4607182418800017408 : UInt64) (FP.i2d (1 : Int32))))), .second, .val (.double (own_sc s0 s0)), .second] [(.double (4607182418800017408 : UInt64)), (.double (4607182418800017408 : UInt64))]
      refine XS.iload X337.here hx rfl (hb hby d12_36) rfl ?_
      show Go p e below t T337 m 38 #[rv aa, .val (.double (f_sco  s0)), .second, rv b308, iv (1 : Int32), .val (.double (FP.dsub (4607182418800017408 : UInt64) (FP.ddiv (4607182418800017408 : UInt64) (FP.i2d (1 : Int32))))), .second, .val (.double (own_sc s0 s0)), .second] [(.int (1 : Int32)), (.double (4607182418800017408 : UInt64)), (.double (4607182418800017408 : UInt64))]
      refine XT.iconstV X337.here hx rfl (1 : Int32) (hb hby d12_38) (by decide) ?_
      show Go p e below t T337 m 39 #[rv aa, .val (.double (f_sco  s0)), .second, rv b308, iv (1 : Int32), .val (.double (FP.dsub (4607182418800017408 : UInt64) (FP.ddiv (4607182418800017408 : UInt64) (FP.i2d (1 : Int32))))), .second, .val (.double (own_sc s0 s0)), .second] [(.int (1 : Int32)), (.int (1 : Int32)), (.double (4607182418800017408 : UInt64)), (.double (4607182418800017408 : UInt64))]
      refine XS.iadd X337.here hx rfl (hb hby d12_39) rfl ?_
      rw [show ((1 : Int32) + (1 : Int32)) = (2 : Int32) by decide]
      show Go p e below t T337 m 40 #[rv aa, .val (.double (f_sco  s0)), .second, rv b308, iv (1 : Int32), .val (.double (FP.dsub (4607182418800017408 : UInt64) (FP.ddiv (4607182418800017408 : UInt64) (FP.i2d (1 : Int32))))), .second, .val (.double (own_sc s0 s0)), .second] [(.int (2 : Int32)), (.double (4607182418800017408 : UInt64)), (.double (4607182418800017408 : UInt64))]
      refine XS.i2dS X337.here hx rfl (hb hby d12_40) rfl rfl ?_
      show Go p e below t T337 m 41 #[rv aa, .val (.double (f_sco  s0)), .second, rv b308, iv (1 : Int32), .val (.double (FP.dsub (4607182418800017408 : UInt64) (FP.ddiv (4607182418800017408 : UInt64) (FP.i2d (1 : Int32))))), .second, .val (.double (own_sc s0 s0)), .second] [(.double (FP.i2d (2 : Int32))), (.double (4607182418800017408 : UInt64)), (.double (4607182418800017408 : UInt64))]
      refine XS.ddivS X337.here hx rfl (hb hby d12_41) rfl (by unfold Jvm.Free.Fl.NoNaN64; decide +kernel) rfl ?_
      show Go p e below t T337 m 42 #[rv aa, .val (.double (f_sco  s0)), .second, rv b308, iv (1 : Int32), .val (.double (FP.dsub (4607182418800017408 : UInt64) (FP.ddiv (4607182418800017408 : UInt64) (FP.i2d (1 : Int32))))), .second, .val (.double (own_sc s0 s0)), .second] [(.double (FP.ddiv (4607182418800017408 : UInt64) (FP.i2d (2 : Int32)))), (.double (4607182418800017408 : UInt64))]
      refine XS.dsubS X337.here hx rfl (hb hby d12_42) rfl (by unfold Jvm.Free.Fl.NoNaN64; decide +kernel) rfl ?_
      show Go p e below t T337 m 43 #[rv aa, .val (.double (f_sco  s0)), .second, rv b308, iv (1 : Int32), .val (.double (FP.dsub (4607182418800017408 : UInt64) (FP.ddiv (4607182418800017408 : UInt64) (FP.i2d (1 : Int32))))), .second, .val (.double (own_sc s0 s0)), .second] [(.double (FP.dsub (4607182418800017408 : UInt64) (FP.ddiv (4607182418800017408 : UInt64) (FP.i2d (2 : Int32)))))]
      refine XS.dstore X337.here hx rfl (hb hby d12_43) rfl (l' := #[rv aa, .val (.double (f_sco  s0)), .second, rv b308, iv (1 : Int32), .val (.double (FP.dsub (4607182418800017408 : UInt64) (FP.ddiv (4607182418800017408 : UInt64) (FP.i2d (2 : Int32))))), .second, .val (.double (own_sc s0 s0)), .second]) rfl ?_
      show Go p e below t T337 m 45 #[rv aa, .val (.double (f_sco  s0)), .second, rv b308, iv (1 : Int32), .val (.double (FP.dsub (4607182418800017408 : UInt64) (FP.ddiv (4607182418800017408 : UInt64) (FP.i2d (2 : Int32))))), .second, .val (.double (own_sc s0 s0)), .second] []
      refine XS.dloadN X337.here hx rfl (hb hby d12_45) rfl ?_
      show Go p e below t T337 m 46 #[rv aa, .val (.double (f_sco  s0)), .second, rv b308, iv (1 : Int32), .val (.double (FP.dsub (4607182418800017408 : UInt64) (FP.ddiv (4607182418800017408 : UInt64) (FP.i2d (2 : Int32))))), .second, .val (.double (own_sc s0 s0)), .second] [(.double (f_sco  s0))]
      refine XS.dconst0 X337.here hx rfl (hb hby d12_46) (v := (0 : UInt64)) rfl ?_
      show Go p e below t T337 m 47 #[rv aa, .val (.double (f_sco  s0)), .second, rv b308, iv (1 : Int32), .val (.double (FP.dsub (4607182418800017408 : UInt64) (FP.ddiv (4607182418800017408 : UInt64) (FP.i2d (2 : Int32))))), .second, .val (.double (own_sc s0 s0)), .second] [(.double (0 : UInt64)), (.double (f_sco  s0))]
      refine XS.dcmpS X337.here hx rfl (hb hby d12_47) rfl rfl ?_
      show Go p e below t T337 m 48 #[rv aa, .val (.double (f_sco  s0)), .second, rv b308, iv (1 : Int32), .val (.double (FP.dsub (4607182418800017408 : UInt64) (FP.ddiv (4607182418800017408 : UInt64) (FP.i2d (2 : Int32))))), .second, .val (.double (own_sc s0 s0)), .second] [(.int (cmpValue (FP.dcmp (f_sco  s0) (0 : UInt64)) .l))]
      refine XS.ifNo X337.here hx rfl (hb hby d12_48) rfl (dc_l_le_f h313) ?_
      show Go p e below t T337 m 51 #[rv aa, .val (.double (f_sco  s0)), .second, rv b308, iv (1 : Int32), .val (.double (FP.dsub (4607182418800017408 : UInt64) (FP.ddiv (4607182418800017408 : UInt64) (FP.i2d (2 : Int32))))), .second, .val (.double (own_sc s0 s0)), .second] []
      refine XS.aloadN X337.here hx rfl (hb hby d12_51) rfl rfl ?_
      show Go p e below t T337 m 52 #[rv aa, .val (.double (f_sco  s0)), .second, rv b308, iv (1 : Int32), .val (.double (FP.dsub (4607182418800017408 : UInt64) (FP.ddiv (4607182418800017408 : UInt64) (FP.i2d (2 : Int32))))), .second, .val (.double (own_sc s0 s0)), .second] [(.ref aa)]
      refine XS.iload X337.here hx rfl (hb hby d12_52) rfl ?_
      show Go p e below t T337 m 54 #[rv aa, .val (.double (f_sco  s0)), .second, rv b308, iv (1 : Int32), .val (.double (FP.dsub (4607182418800017408 : UInt64) (FP.ddiv (4607182418800017408 : UInt64) (FP.i2d (2 : Int32))))), .second, .val (.double (own_sc s0 s0)), .second] [(.int (1 : Int32)), (.ref aa)]
      exact k)
    obtain ⟨cq342, kq342, q342a, q342b, q342c⟩ := isOf hZ e337 (((((P0.ext E308).ext E326).wr W330).wr W334).wr W337)
    obtain ⟨_, _, ⟨T342, L342, k342, n342⟩, -, X342, ⟨Lc342, hQ342, l342, y342, z342⟩, st342⟩ := X337.interfaceBack hx (xi := (⟨"java/util/List", "get", "(I)Ljava/lang/Object;"⟩ : MethodName)) (y := (⟨"java/util/ArrayList", "get", "(I)Ljava/lang/Object;"⟩ : MethodName)) hown (mvT hZ (hw _ (List.mem_of_getElem? (i := 95) rfl))) (mvT hZ (hw _ (List.mem_of_getElem? (i := 96) rfl))) (mvT hZ (hw _ (List.mem_of_getElem? (i := 97) rfl))) (mvT hZ (hw _ (List.mem_of_getElem? (i := 98) rfl))) (mvT hZ (hw _ (List.mem_of_getElem? (i := 99) rfl))) (mvT hZ (hw _ (List.mem_of_getElem? (i := 100) rfl))) (mvT hZ (hw _ (List.mem_of_getElem? (i := 101) rfl))) (mvT hZ (hw _ (List.mem_of_getElem? (i := 65) rfl))) (by decide) (backOf (W := 0) (rm_get21 l Z a0 hw [] aa (1 : Int32) ea ek x0 x1 h337 n0 (Nat.le_trans Z0 (Nat.le_trans (Nat.le_trans (Nat.le_trans (Nat.le_trans (Nat.le_trans (Nat.le_refl _) E308.1) E326.1) (Nat.le_of_eq W330.size.symm)) (Nat.le_of_eq W334.size.symm)) (Nat.le_of_eq W337.size.symm))) (((((P0.ext E308).ext E326).wr W330).wr W334).wr W337) (((((P1.ext E308).ext E326).other W330 (Or.inl (Nat.ne_of_lt (Nat.lt_of_lt_of_le (P0.ext E308).lt (Nat.le_of_eq gb326.symm))))).other W334 (Or.inl (Nat.ne_of_lt (Nat.lt_of_lt_of_le (P0.ext E308).lt (Nat.le_of_eq gb326.symm))))).other W337 (Or.inl (Nat.ne_of_lt (Nat.lt_of_lt_of_le P0.lt (Nat.le_of_eq gb308.symm))))) (((((P2.ext E308).ext E326).other W330 (Or.inl (Nat.ne_of_lt (Nat.lt_of_lt_of_le (P0.ext E308).lt (Nat.le_of_eq gb326.symm))))).other W334 (Or.inl (Nat.ne_of_lt (Nat.lt_of_lt_of_le (P0.ext E308).lt (Nat.le_of_eq gb326.symm))))).other W337 (Or.inl (Nat.ne_of_lt (Nat.lt_of_lt_of_le P0.lt (Nat.le_of_eq gb308.symm))))) (((((P3.ext E308).ext E326).other W330 (Nat.ne_of_lt (Nat.lt_of_lt_of_le (P3.ext E308).lt (Nat.le_of_eq gb326.symm)))).other W334 (Nat.ne_of_lt (Nat.lt_of_lt_of_le (P3.ext E308).lt (Nat.le_of_eq gb326.symm)))).other W337 (Nat.ne_of_lt (Nat.lt_of_lt_of_le P3.lt (Nat.le_of_eq gb308.symm)))) rfl) hZ (hw _ (List.mem_of_getElem? (i := 102) rfl)) (hw _ (List.mem_of_getElem? (i := 10) rfl)) (by decide) (by decide)) q342a q342b q342c (g := (mkF m 54 #[rv aa, .val (.double (f_sco  s0)), .second, rv b308, iv (1 : Int32), .val (.double (FP.dsub (4607182418800017408 : UInt64) (FP.ddiv (4607182418800017408 : UInt64) (FP.i2d (2 : Int32))))), .second, .val (.double (own_sc s0 s0)), .second] [(.int (1 : Int32)), (.ref aa)])) rfl (by rw [hml]; rfl) (Steps.refl _) (argsL := [(.int (1 : Int32))]) (rest := []) (lenOf pd9 rfl) rfl (by show 2 * 0 + _ ≤ _; exact Nat.le_of_eq rfl) (hb hby d12_54) (fun _ _ => ⟨rfl, e337, (by decide : 2 + 0 ≤ _), (by decide : 4 + 0 ≤ _)⟩)
    dsimp only [Pt.U, Pt.locs, Pt.cells, Pt.slots] at X342 l342 y342 z342 st342 hQ342
    subst l342 y342 z342
    obtain ⟨rfl, N342, R342_0⟩ := hQ342
    have M342 := Fr.app N337 N342
    have g343 : Goes p e below S0 (T342.setTop (mkF m 59 #[rv aa, .val (.double (f_sco  s0)), .second, rv b308, iv (1 : Int32), .val (.double (FP.dsub (4607182418800017408 : UInt64) (FP.ddiv (4607182418800017408 : UInt64) (FP.i2d (2 : Int32))))), .second, .val (.double (own_sc s0 s0)), .second] [(.ref x1)])) := fun t k => g341 t (st342.trans k)
    obtain ⟨T344, X344, e344, st344⟩ := castY X342 hx hZ hown (hw _ (List.mem_of_getElem? (i := 116) rfl)) R342_0 (Ins.of_exa (((((P6.ext E308).ext E326).wr W330).wr W334).wr W337) (hw _ (List.mem_of_getElem? (i := 117) rfl))) (g := (mkF m 59 #[rv aa, .val (.double (f_sco  s0)), .second, rv b308, iv (1 : Int32), .val (.double (FP.dsub (4607182418800017408 : UInt64) (FP.ddiv (4607182418800017408 : UInt64) (FP.i2d (2 : Int32))))), .second, .val (.double (own_sc s0 s0)), .second] [(.ref x1)])) rfl rfl (hb hby d12_59)
    have g345 : Goes p e below S0 (T344.setTop (mkF m 62 #[rv aa, .val (.double (f_sco  s0)), .second, rv b308, iv (1 : Int32), .val (.double (FP.dsub (4607182418800017408 : UInt64) (FP.ddiv (4607182418800017408 : UInt64) (FP.i2d (2 : Int32))))), .second, .val (.double (own_sc s0 s0)), .second] [(.ref x1)])) := fun t k => g343 t (st344 t k)
    obtain ⟨cq346, kq346, q346a, q346b, q346c⟩ := isOf hZ e344 (((((P6.ext E308).ext E326).wr W330).wr W334).wr W337)
    obtain ⟨_, _, ⟨T346, L346, k346, n346⟩, -, X346, ⟨Lc346, hQ346, l346, y346, z346⟩, st346⟩ := X344.virtualBack hx (y := (⟨"com/example/nimble_retrieval/nimbleretrieval/format/Run$Retrieved", "score", "()D"⟩ : MethodName)) (z := (⟨"com/example/nimble_retrieval/nimbleretrieval/format/Run$Retrieved", "score", "()D"⟩ : MethodName)) hown (mvT hZ (hw _ (List.mem_of_getElem? (i := 118) rfl))) (mvT hZ (hw _ (List.mem_of_getElem? (i := 119) rfl))) (notFace_of_selects (args := #[]) (mvT hZ (hw _ (List.mem_of_getElem? (i := 121) rfl)))) (mvT hZ (hw _ (List.mem_of_getElem? (i := 121) rfl))) (mvT hZ (hw _ (List.mem_of_getElem? (i := 120) rfl))) (by decide) (backOf (W := 0) (rm_sco l Z a0 hw [] x1 s1 h337 n0 (Nat.le_trans Z0 (Nat.le_trans (Nat.le_trans (Nat.le_trans (Nat.le_trans (Nat.le_trans (Nat.le_refl _) E308.1) E326.1) (Nat.le_of_eq W330.size.symm)) (Nat.le_of_eq W334.size.symm)) (Nat.le_of_eq W337.size.symm))) (((((P7.ext E308).ext E326).other W330 (Or.inl (Nat.ne_of_lt (Nat.lt_of_lt_of_le (P6.ext E308).lt (Nat.le_of_eq gb326.symm))))).other W334 (Or.inl (Nat.ne_of_lt (Nat.lt_of_lt_of_le (P6.ext E308).lt (Nat.le_of_eq gb326.symm))))).other W337 (Or.inl (Nat.ne_of_lt (Nat.lt_of_lt_of_le P6.lt (Nat.le_of_eq gb308.symm)))))) hZ (hw _ (List.mem_of_getElem? (i := 122) rfl)) (hw _ (List.mem_of_getElem? (i := 36) rfl)) (by decide) (by decide)) q346a q346c (g := (mkF m 62 #[rv aa, .val (.double (f_sco  s0)), .second, rv b308, iv (1 : Int32), .val (.double (FP.dsub (4607182418800017408 : UInt64) (FP.ddiv (4607182418800017408 : UInt64) (FP.i2d (2 : Int32))))), .second, .val (.double (own_sc s0 s0)), .second] [(.ref x1)])) rfl (by rw [hml]; rfl) (Steps.refl _) (argsL := []) (rest := []) (lenOf pd10 rfl) rfl (by show 2 * 0 + _ ≤ _; exact Nat.le_of_eq rfl) (hb hby d12_62) (fun _ _ => ⟨rfl, e344, (by decide : 2 + 0 ≤ _), (by decide : 4 + 0 ≤ _)⟩)
    dsimp only [Pt.U, Pt.locs, Pt.cells, Pt.slots] at X346 l346 y346 z346 st346 hQ346
    subst l346 y346 z346
    obtain ⟨rfl, N346, e346⟩ := hQ346
    have M346 := Fr.app M342 N346
    have g347 : Goes p e below S0 (T346.setTop (mkF m 65 #[rv aa, .val (.double (f_sco  s0)), .second, rv b308, iv (1 : Int32), .val (.double (FP.dsub (4607182418800017408 : UInt64) (FP.ddiv (4607182418800017408 : UInt64) (FP.i2d (2 : Int32))))), .second, .val (.double (own_sc s0 s0)), .second] [(.double (f_sco  s1))])) := fun t k => g345 t (st346.trans k)
    have g348 : Goes p e below S0 (T346.setTop (mkF m 66 #[rv aa, .val (.double (f_sco  s0)), .second, rv b308, iv (1 : Int32), .val (.double (FP.dsub (4607182418800017408 : UInt64) (FP.ddiv (4607182418800017408 : UInt64) (FP.i2d (2 : Int32))))), .second, .val (.double (own_sc s0 s0)), .second] [(.double (0 : UInt64)), (.double (f_sco  s1))])) := fun t k => g347 t (by
      refine XS.dconst0 X346.here hx rfl (hb hby d12_65) (v := (0 : UInt64)) rfl ?_
      show Go p e below t T346 m 66 #[rv aa, .val (.double (f_sco  s0)), .second, rv b308, iv (1 : Int32), .val (.double (FP.dsub (4607182418800017408 : UInt64) (FP.ddiv (4607182418800017408 : UInt64) (FP.i2d (2 : Int32))))), .second, .val (.double (own_sc s0 s0)), .second] [(.double (0 : UInt64)), (.double (f_sco  s1))]
      exact k)
    obtain ⟨T349, X349, e349, st349⟩ := natS X346 hx hZ (y := (⟨"java/lang/Math", "max", "(DD)D"⟩ : MethodName)) hown (hw _ (List.mem_of_getElem? (i := 133) rfl)) (hw _ (List.mem_of_getElem? (i := 134) rfl)) (hw _ (List.mem_of_getElem? (i := 3) rfl)) (hw _ (List.mem_of_getElem? (i := 135) rfl)) (by decide) e346 (W := 0) (fun c4 => Jvm.Free.Fl.Abs.maxD_pays (f_sco  s1) (0 : UInt64) c4 (by decide) (by decide)) (g := (mkF m 66 #[rv aa, .val (.double (f_sco  s0)), .second, rv b308, iv (1 : Int32), .val (.double (FP.dsub (4607182418800017408 : UInt64) (FP.ddiv (4607182418800017408 : UInt64) (FP.i2d (2 : Int32))))), .second, .val (.double (own_sc s0 s0)), .second] [(.double (0 : UInt64)), (.double (f_sco  s1))])) rfl (by rw [hml]; rfl) (argsL := [(.double (f_sco  s1)), (.double (0 : UInt64))]) (rest := []) (lenOf pd12 rfl) rfl (by show 2 * 0 + _ ≤ _; exact Nat.le_of_eq rfl) (hb hby d12_66) (Nat.le_of_ble_eq_true rfl) (Nat.le_of_ble_eq_true rfl) ⟨rfl, fs1.noNaN, (by unfold Jvm.Free.Fl.NoNaN64; decide +kernel)⟩ (val' := (.double (Native.java_lang_Math.nans.pick64 true (f_sco  s1) (0 : UInt64)))) rfl
    have g350 : Goes p e below S0 (T349.setTop (mkF m 69 #[rv aa, .val (.double (f_sco  s0)), .second, rv b308, iv (1 : Int32), .val (.double (FP.dsub (4607182418800017408 : UInt64) (FP.ddiv (4607182418800017408 : UInt64) (FP.i2d (2 : Int32))))), .second, .val (.double (own_sc s0 s0)), .second] [(.double (Native.java_lang_Math.nans.pick64 true (f_sco  s1) (0 : UInt64)))])) := fun t k => g348 t (st349 t k)
    have g351 : Goes p e below S0 (T349.setTop (mkF m 77 #[rv aa, .val (.double (f_sco  s0)), .second, rv b308, iv (1 : Int32), .val (.double (FP.dsub (4607182418800017408 : UInt64) (FP.ddiv (4607182418800017408 : UInt64) (FP.i2d (2 : Int32))))), .second, .val (.double (FP.ddiv (Native.java_lang_Math.nans.pick64 true (f_sco  s1) (0 : UInt64)) (f_sco  s0))), .second] [])) := fun t k => g350 t (by
      refine XS.dloadN X349.here hx rfl (hb hby d12_69) rfl ?_
      show Go p e below t T349 m 70 #[rv aa, .val (.double (f_sco  s0)), .second, rv b308, iv (1 : Int32), .val (.double (FP.dsub (4607182418800017408 : UInt64) (FP.ddiv (4607182418800017408 : UInt64) (FP.i2d (2 : Int32))))), .second, .val (.double (own_sc s0 s0)), .second] [(.double (f_sco  s0)), (.double (Native.java_lang_Math.nans.pick64 true (f_sco  s1) (0 : UInt64)))]
      refine XS.ddivS X349.here hx rfl (hb hby d12_70) rfl (own_nnd fs1 fs0 h313) rfl ?_
      show Go p e below t T349 m 71 #[rv aa, .val (.double (f_sco  s0)), .second, rv b308, iv (1 : Int32), .val (.double (FP.dsub (4607182418800017408 : UInt64) (FP.ddiv (4607182418800017408 : UInt64) (FP.i2d (2 : Int32))))), .second, .val (.double (own_sc s0 s0)), .second] [(.double (FP.ddiv (Native.java_lang_Math.nans.pick64 true (f_sco  s1) (0 : UInt64)) (f_sco  s0)))]
      refine XS.goto X349.here hx rfl (pc0 := 71) (pc' := 75) rfl (hb hby d12_71) (by decide) (by decide) ?_
      show Go p e below t T349 m 75 #[rv aa, .val (.double (f_sco  s0)), .second, rv b308, iv (1 : Int32), .val (.double (FP.dsub (4607182418800017408 : UInt64) (FP.ddiv (4607182418800017408 : UInt64) (FP.i2d (2 : Int32))))), .second, .val (.double (own_sc s0 s0)), .second] [(.double (FP.ddiv (Native.java_lang_Math.nans.pick64 true (f_sco  s1) (0 : UInt64)) (f_sco  s0)))]
      refine XS.dstore X349.here hx rfl (hb hby d12_75) rfl (l' := #[rv aa, .val (.double (f_sco  s0)), .second, rv b308, iv (1 : Int32), .val (.double (FP.dsub (4607182418800017408 : UInt64) (FP.ddiv (4607182418800017408 : UInt64) (FP.i2d (2 : Int32))))), .second, .val (.double (FP.ddiv (Native.java_lang_Math.nans.pick64 true (f_sco  s1) (0 : UInt64)) (f_sco  s0))), .second]) rfl ?_
      show Go p e below t T349 m 77 #[rv aa, .val (.double (f_sco  s0)), .second, rv b308, iv (1 : Int32), .val (.double (FP.dsub (4607182418800017408 : UInt64) (FP.ddiv (4607182418800017408 : UInt64) (FP.i2d (2 : Int32))))), .second, .val (.double (FP.ddiv (Native.java_lang_Math.nans.pick64 true (f_sco  s1) (0 : UInt64)) (f_sco  s0))), .second] []
      exact k)
    rw [show (FP.ddiv (Native.java_lang_Math.nans.pick64 true (f_sco  s1) (0 : UInt64)) (f_sco  s0)) = (own_sc s0 s1) from (if_pos h313).symm] at g351
    have g352 : Goes p e below S0 (T349.setTop (mkF m 81 #[rv aa, .val (.double (f_sco  s0)), .second, rv b308, iv (1 : Int32), .val (.double (FP.dsub (4607182418800017408 : UInt64) (FP.ddiv (4607182418800017408 : UInt64) (FP.i2d (2 : Int32))))), .second, .val (.double (own_sc s0 s1)), .second] [(.int (2 : Int32)), (.int (1 : Int32)), (.ref b308)])) := fun t k => g351 t (by
      refine XS.aloadN X349.here hx rfl (hb hby d12_77) rfl rfl ?_
      show Go p e below t T349 m 78 #[rv aa, .val (.double (f_sco  s0)), .second, rv b308, iv (1 : Int32), .val (.double (FP.dsub (4607182418800017408 : UInt64) (FP.ddiv (4607182418800017408 : UInt64) (FP.i2d (2 : Int32))))), .second, .val (.double (own_sc s0 s1)), .second] [(.ref b308)]
      refine XS.iload X349.here hx rfl (hb hby d12_78) rfl ?_
      show Go p e below t T349 m 80 #[rv aa, .val (.double (f_sco  s0)), .second, rv b308, iv (1 : Int32), .val (.double (FP.dsub (4607182418800017408 : UInt64) (FP.ddiv (4607182418800017408 : UInt64) (FP.i2d (2 : Int32))))), .second, .val (.double (own_sc s0 s1)), .second] [(.int (1 : Int32)), (.ref b308)]
      refine XT.iconstV X349.here hx rfl (2 : Int32) (hb hby d12_80) (by decide) ?_
      show Go p e below t T349 m 81 #[rv aa, .val (.double (f_sco  s0)), .second, rv b308, iv (1 : Int32), .val (.double (FP.dsub (4607182418800017408 : UInt64) (FP.ddiv (4607182418800017408 : UInt64) (FP.i2d (2 : Int32))))), .second, .val (.double (own_sc s0 s1)), .second] [(.int (2 : Int32)), (.int (1 : Int32)), (.ref b308)]
      exact k)
    obtain ⟨T353, h353, k353, X353, e353, E353, A353, Q353, st353⟩ := newPE X349 hx hZ (hw _ (List.mem_of_getElem? (i := 136) rfl)) e349 (g := (mkF m 81 #[rv aa, .val (.double (f_sco  s0)), .second, rv b308, iv (1 : Int32), .val (.double (FP.dsub (4607182418800017408 : UInt64) (FP.ddiv (4607182418800017408 : UInt64) (FP.i2d (2 : Int32))))), .second, .val (.double (own_sc s0 s1)), .second] [(.int (2 : Int32)), (.int (1 : Int32)), (.ref b308)])) rfl (hb hby d12_81) rfl (by decide) (cap := 2) (by decide) (by decide) (by decide) (by decide) (ad := "[D") (by decide)
    obtain ⟨b353, gb353⟩ : ∃ z, z = h337.size := ⟨_, rfl⟩
    have sz353 : h0.size ≤ b353 := Nat.le_trans (Nat.le_trans (Nat.le_trans (Nat.le_trans (Nat.le_trans (Nat.le_trans (Nat.le_refl _) E308.1) E326.1) (Nat.le_of_eq W330.size.symm)) (Nat.le_of_eq W334.size.symm)) (Nat.le_of_eq W337.size.symm)) (Nat.le_of_eq gb353.symm)
    have ng353 : n0 ≤ b353 := Nat.le_trans Z0 sz353
    rw [← gb353] at A353 st353 Q353
    have V353 : Arv Z h353 b353 k353 .double (2 : Int32) [(.double (0 : UInt64)), (.double (0 : UInt64))] (.double (0 : UInt64)) := (Arv.new A353 (by decide)).pad (pad_rep [] (.double (0 : UInt64)) 2)
    have g354 : Goes p e below S0 (T353.setTop (mkF m 83 #[rv aa, .val (.double (f_sco  s0)), .second, rv b308, iv (1 : Int32), .val (.double (FP.dsub (4607182418800017408 : UInt64) (FP.ddiv (4607182418800017408 : UInt64) (FP.i2d (2 : Int32))))), .second, .val (.double (own_sc s0 s1)), .second] [(.ref b353), (.int (1 : Int32)), (.ref b308)])) := fun t k => g352 t (st353 t k)
    have g355 : Goes p e below S0 (T353.setTop (mkF m 87 #[rv aa, .val (.double (f_sco  s0)), .second, rv b308, iv (1 : Int32), .val (.double (FP.dsub (4607182418800017408 : UInt64) (FP.ddiv (4607182418800017408 : UInt64) (FP.i2d (2 : Int32))))), .second, .val (.double (own_sc s0 s1)), .second] [(.double (FP.dsub (4607182418800017408 : UInt64) (FP.ddiv (4607182418800017408 : UInt64) (FP.i2d (2 : Int32))))), (.int (0 : Int32)), (.ref b353), (.ref b353), (.int (1 : Int32)), (.ref b308)])) := fun t k => g354 t (by
      refine XS.dup X353.here hx rfl (hb hby d12_83) rfl rfl ?_
      show Go p e below t T353 m 84 #[rv aa, .val (.double (f_sco  s0)), .second, rv b308, iv (1 : Int32), .val (.double (FP.dsub (4607182418800017408 : UInt64) (FP.ddiv (4607182418800017408 : UInt64) (FP.i2d (2 : Int32))))), .second, .val (.double (own_sc s0 s1)), .second] [(.ref b353), (.ref b353), (.int (1 : Int32)), (.ref b308)]
      refine XT.iconstV X353.here hx rfl (0 : Int32) (hb hby d12_84) (by decide) ?_
      show Go p e below t T353 m 85 #[rv aa, .val (.double (f_sco  s0)), .second, rv b308, iv (1 : Int32), .val (.double (FP.dsub (4607182418800017408 : UInt64) (FP.ddiv (4607182418800017408 : UInt64) (FP.i2d (2 : Int32))))), .second, .val (.double (own_sc s0 s1)), .second] [(.int (0 : Int32)), (.ref b353), (.ref b353), (.int (1 : Int32)), (.ref b308)]
      refine XS.dload X353.here hx rfl (hb hby d12_85) rfl ?_
      show Go p e below t T353 m 87 #[rv aa, .val (.double (f_sco  s0)), .second, rv b308, iv (1 : Int32), .val (.double (FP.dsub (4607182418800017408 : UInt64) (FP.ddiv (4607182418800017408 : UInt64) (FP.i2d (2 : Int32))))), .second, .val (.double (own_sc s0 s1)), .second] [(.double (FP.dsub (4607182418800017408 : UInt64) (FP.ddiv (4607182418800017408 : UInt64) (FP.i2d (2 : Int32))))), (.int (0 : Int32)), (.ref b353), (.ref b353), (.int (1 : Int32)), (.ref b308)]
      exact k)
    obtain ⟨cl356, Ar356, q356, S356, M356, H356, G356⟩ := id V353
    obtain ⟨T357, h357, X357, e357, W357, st357⟩ := stD X353 hx hZ e353 Ar356 (j := (0 : Int32)) (inb_of S356 ⟨by decide, by decide⟩) (g := (mkF m 87 #[rv aa, .val (.double (f_sco  s0)), .second, rv b308, iv (1 : Int32), .val (.double (FP.dsub (4607182418800017408 : UInt64) (FP.ddiv (4607182418800017408 : UInt64) (FP.i2d (2 : Int32))))), .second, .val (.double (own_sc s0 s1)), .second] [(.double (FP.dsub (4607182418800017408 : UInt64) (FP.ddiv (4607182418800017408 : UInt64) (FP.i2d (2 : Int32))))), (.int (0 : Int32)), (.ref b353), (.ref b353), (.int (1 : Int32)), (.ref b308)])) rfl rfl (hb hby d12_87)
    have N357 := Fr.snoc X357 M346 ng353
    have V357 : Arv Z h357 b353 k353 .double (2 : Int32) [(.double (FP.dsub (4607182418800017408 : UInt64) (FP.ddiv (4607182418800017408 : UInt64) (FP.i2d (2 : Int32))))), (.double (0 : UInt64))] (.double (0 : UInt64)) := Arv.set Ar356 q356 S356 M356 H356 G356 rfl W357 0 rfl (Nat.le_of_ble_eq_true rfl)
    have g358 : Goes p e below S0 (T357.setTop (mkF m 88 #[rv aa, .val (.double (f_sco  s0)), .second, rv b308, iv (1 : Int32), .val (.double (FP.dsub (4607182418800017408 : UInt64) (FP.ddiv (4607182418800017408 : UInt64) (FP.i2d (2 : Int32))))), .second, .val (.double (own_sc s0 s1)), .second] [(.ref b353), (.int (1 : Int32)), (.ref b308)])) := fun t k => g355 t (st357 t k)
    have g359 : Goes p e below S0 (T357.setTop (mkF m 92 #[rv aa, .val (.double (f_sco  s0)), .second, rv b308, iv (1 : Int32), .val (.double (FP.dsub (4607182418800017408 : UInt64) (FP.ddiv (4607182418800017408 : UInt64) (FP.i2d (2 : Int32))))), .second, .val (.double (own_sc s0 s1)), .second] [(.double (own_sc s0 s1)), (.int (1 : Int32)), (.ref b353), (.ref b353), (.int (1 : Int32)), (.ref b308)])) := fun t k => g358 t (by
      refine XS.dup X357.here hx rfl (hb hby d12_88) rfl rfl ?_
      show Go p e below t T357 m 89 #[rv aa, .val (.double (f_sco  s0)), .second, rv b308, iv (1 : Int32), .val (.double (FP.dsub (4607182418800017408 : UInt64) (FP.ddiv (4607182418800017408 : UInt64) (FP.i2d (2 : Int32))))), .second, .val (.double (own_sc s0 s1)), .second] [(.ref b353), (.ref b353), (.int (1 : Int32)), (.ref b308)]
      refine XT.iconstV X357.here hx rfl (1 : Int32) (hb hby d12_89) (by decide) ?_
      show Go p e below t T357 m 90 #[rv aa, .val (.double (f_sco  s0)), .second, rv b308, iv (1 : Int32), .val (.double (FP.dsub (4607182418800017408 : UInt64) (FP.ddiv (4607182418800017408 : UInt64) (FP.i2d (2 : Int32))))), .second, .val (.double (own_sc s0 s1)), .second] [(.int (1 : Int32)), (.ref b353), (.ref b353), (.int (1 : Int32)), (.ref b308)]
      refine XS.dload X357.here hx rfl (hb hby d12_90) rfl ?_
      show Go p e below t T357 m 92 #[rv aa, .val (.double (f_sco  s0)), .second, rv b308, iv (1 : Int32), .val (.double (FP.dsub (4607182418800017408 : UInt64) (FP.ddiv (4607182418800017408 : UInt64) (FP.i2d (2 : Int32))))), .second, .val (.double (own_sc s0 s1)), .second] [(.double (own_sc s0 s1)), (.int (1 : Int32)), (.ref b353), (.ref b353), (.int (1 : Int32)), (.ref b308)]
      exact k)
    obtain ⟨cl360, Ar360, q360, S360, M360, H360, G360⟩ := id V357
    obtain ⟨T361, h361, X361, e361, W361, st361⟩ := stD X357 hx hZ e357 Ar360 (j := (1 : Int32)) (inb_of S360 ⟨by decide, by decide⟩) (g := (mkF m 92 #[rv aa, .val (.double (f_sco  s0)), .second, rv b308, iv (1 : Int32), .val (.double (FP.dsub (4607182418800017408 : UInt64) (FP.ddiv (4607182418800017408 : UInt64) (FP.i2d (2 : Int32))))), .second, .val (.double (own_sc s0 s1)), .second] [(.double (own_sc s0 s1)), (.int (1 : Int32)), (.ref b353), (.ref b353), (.int (1 : Int32)), (.ref b308)])) rfl rfl (hb hby d12_92)
    have N361 := Fr.snoc X361 N357 ng353
    have V361 : Arv Z h361 b353 k353 .double (2 : Int32) [(.double (FP.dsub (4607182418800017408 : UInt64) (FP.ddiv (4607182418800017408 : UInt64) (FP.i2d (2 : Int32))))), (.double (own_sc s0 s1))] (.double (0 : UInt64)) := Arv.set Ar360 q360 S360 M360 H360 G360 rfl W361 1 rfl (Nat.le_of_ble_eq_true rfl)
    have g362 : Goes p e below S0 (T361.setTop (mkF m 93 #[rv aa, .val (.double (f_sco  s0)), .second, rv b308, iv (1 : Int32), .val (.double (FP.dsub (4607182418800017408 : UInt64) (FP.ddiv (4607182418800017408 : UInt64) (FP.i2d (2 : Int32))))), .second, .val (.double (own_sc s0 s1)), .second] [(.ref b353), (.int (1 : Int32)), (.ref b308)])) := fun t k => g359 t (st361 t k)
    obtain ⟨cl363, Ar363, q363, S363, M363, H363, G363⟩ := id (((V337.ext E353).other W357 (Nat.ne_of_lt (Nat.lt_of_lt_of_le V337.lt (Nat.le_of_eq gb353.symm)))).other W361 (Nat.ne_of_lt (Nat.lt_of_lt_of_le V337.lt (Nat.le_of_eq gb353.symm))))
    obtain ⟨T364, h364, X364, e364, W364, st364⟩ := stR X361 hx hZ e361 Ar363 (j := (1 : Int32)) (inb_of S363 ⟨by decide, by decide⟩) rfl (Sto.ofVA Ar363 q363 O308 (Ins.of_exa ((Q353.wr W357).wr W361) (hw _ (List.mem_of_getElem? (i := 137) rfl)))) (g := (mkF m 93 #[rv aa, .val (.double (f_sco  s0)), .second, rv b308, iv (1 : Int32), .val (.double (FP.dsub (4607182418800017408 : UInt64) (FP.ddiv (4607182418800017408 : UInt64) (FP.i2d (2 : Int32))))), .second, .val (.double (own_sc s0 s1)), .second] [(.ref b353), (.int (1 : Int32)), (.ref b308)])) rfl rfl (hb hby d12_93)
    have N364 := Fr.snoc X364 N361 ng308
    have V364 : Arv Z h364 b308 k308 (.array .double) (2 : Int32) [(.ref b326), (.ref b353)] .null := Arv.set Ar363 q363 S363 M363 H363 G363 rfl W364 1 rfl (Nat.le_of_ble_eq_true rfl)
    have g365 : Goes p e below S0 (T364.setTop (mkF m 94 #[rv aa, .val (.double (f_sco  s0)), .second, rv b308, iv (1 : Int32), .val (.double (FP.dsub (4607182418800017408 : UInt64) (FP.ddiv (4607182418800017408 : UInt64) (FP.i2d (2 : Int32))))), .second, .val (.double (own_sc s0 s1)), .second] [])) := fun t k => g362 t (st364 t k)
    have g366 : Goes p e below S0 (T364.setTop (mkF m 30 #[rv aa, .val (.double (f_sco  s0)), .second, rv b308, iv (2 : Int32), .val (.double (FP.dsub (4607182418800017408 : UInt64) (FP.ddiv (4607182418800017408 : UInt64) (FP.i2d (2 : Int32))))), .second, .val (.double (own_sc s0 s1)), .second] [(.ref b308), (.int (2 : Int32))])) := fun t k => g365 t (by
      refine XT.iincV X364.here hx rfl (1 : Int32) (hb hby d12_94) (by decide) rfl (l' := #[rv aa, .val (.double (f_sco  s0)), .second, rv b308, iv (2 : Int32), .val (.double (FP.dsub (4607182418800017408 : UInt64) (FP.ddiv (4607182418800017408 : UInt64) (FP.i2d (2 : Int32))))), .second, .val (.double (own_sc s0 s1)), .second]) rfl ?_
      show Go p e below t T364 m 97 #[rv aa, .val (.double (f_sco  s0)), .second, rv b308, iv (2 : Int32), .val (.double (FP.dsub (4607182418800017408 : UInt64) (FP.ddiv (4607182418800017408 : UInt64) (FP.i2d (2 : Int32))))), .second, .val (.double (own_sc s0 s1)), .second] []
      refine XS.goto X364.here hx rfl (pc0 := 97) (pc' := 27) rfl (hb hby d12_97) (by decide) (by decide) ?_
      show Go p e below t T364 m 27 #[rv aa, .val (.double (f_sco  s0)), .second, rv b308, iv (2 : Int32), .val (.double (FP.dsub (4607182418800017408 : UInt64) (FP.ddiv (4607182418800017408 : UInt64) (FP.i2d (2 : Int32))))), .second, .val (.double (own_sc s0 s1)), .second] []
      refine XS.iload X364.here hx rfl (hb hby d12_27) rfl ?_
      show Go p e below t T364 m 29 #[rv aa, .val (.double (f_sco  s0)), .second, rv b308, iv (2 : Int32), .val (.double (FP.dsub (4607182418800017408 : UInt64) (FP.ddiv (4607182418800017408 : UInt64) (FP.i2d (2 : Int32))))), .second, .val (.double (own_sc s0 s1)), .second] [(.int (2 : Int32))]
      refine XS.aloadN X364.here hx rfl (hb hby d12_29) rfl rfl ?_
      show Go p e below t T364 m 30 #[rv aa, .val (.double (f_sco  s0)), .second, rv b308, iv (2 : Int32), .val (.double (FP.dsub (4607182418800017408 : UInt64) (FP.ddiv (4607182418800017408 : UInt64) (FP.i2d (2 : Int32))))), .second, .val (.double (own_sc s0 s1)), .second] [(.ref b308), (.int (2 : Int32))]
      exact k)
    obtain ⟨cl367, Ar367, q367, S367, M367, H367, G367⟩ := id V364
    have g368 : Goes p e below S0 (T364.setTop (mkF m 101 #[rv aa, .val (.double (f_sco  s0)), .second, rv b308, iv (2 : Int32), .val (.double (FP.dsub (4607182418800017408 : UInt64) (FP.ddiv (4607182418800017408 : UInt64) (FP.i2d (2 : Int32))))), .second, .val (.double (own_sc s0 s1)), .second] [(.ref b308)])) := fun t k => g366 t (by
      refine X364.arraylength hx (by rw [e364]; exact Ar367.1) (State.isArrayOf_alike hZ.alike Ar367.2.1) (g := (mkF m 30 #[rv aa, .val (.double (f_sco  s0)), .second, rv b308, iv (2 : Int32), .val (.double (FP.dsub (4607182418800017408 : UInt64) (FP.ddiv (4607182418800017408 : UInt64) (FP.i2d (2 : Int32))))), .second, .val (.double (own_sc s0 s1)), .second] [(.ref b308), (.int (2 : Int32))])) rfl rfl (hb hby d12_30) _ ?_
      rw [len_of S367 M367]
      show Go p e below t T364 m 31 #[rv aa, .val (.double (f_sco  s0)), .second, rv b308, iv (2 : Int32), .val (.double (FP.dsub (4607182418800017408 : UInt64) (FP.ddiv (4607182418800017408 : UInt64) (FP.i2d (2 : Int32))))), .second, .val (.double (own_sc s0 s1)), .second] [(.int (2 : Int32)), (.int (2 : Int32))]
      refine XS.icmpYes X364.here hx rfl (pc0 := 31) (pc' := 100) rfl (hb hby d12_31) rfl (XT.ii_ge_t (by decide)) (by decide) (by decide) ?_
      show Go p e below t T364 m 100 #[rv aa, .val (.double (f_sco  s0)), .second, rv b308, iv (2 : Int32), .val (.double (FP.dsub (4607182418800017408 : UInt64) (FP.ddiv (4607182418800017408 : UInt64) (FP.i2d (2 : Int32))))), .second, .val (.double (own_sc s0 s1)), .second] []
      refine XS.aloadN X364.here hx rfl (hb hby d12_100) rfl rfl ?_
      show Go p e below t T364 m 101 #[rv aa, .val (.double (f_sco  s0)), .second, rv b308, iv (2 : Int32), .val (.double (FP.dsub (4607182418800017408 : UInt64) (FP.ddiv (4607182418800017408 : UInt64) (FP.i2d (2 : Int32))))), .second, .val (.double (own_sc s0 s1)), .second] [(.ref b308)]
      exact k)
    obtain ⟨fs, hr, hrun, hended, hW, hsame⟩ := X364.leave (v := some (.ref b308)) (fun h => by rw [Bd.returns] at h; cases h)
    refine ⟨_, _, g368 _ (retOut X364 hx Bd.returns rfl (Or.inr (Or.inr (Or.inr (Or.inr ⟨rfl, rfl, rfl⟩)))) (hb hby d12_101) hr), hrun, hended, _, _, rfl, ?_, ⟨_, rfl⟩, hW, hsame.mono (by decide) (by decide)⟩
    show Q_inp2 Z aa ea ek x0 x1 s0 s1 h0 n0 _ T364.heap _
    rw [e364]
    exact ⟨b308, k308, b326, b353, k326, k353, rfl, N364, ((((((((((Keep.refl h0 []).ext E308).ext E326).wr W330 (Or.inr sz326)).wr W334 (Or.inr sz326)).wr W337 (Or.inr sz308)).ext E353).wr W357 (Or.inr sz353)).wr W361 (Or.inr sz353)).wr W364 (Or.inr sz308)), sz308, sz326, sz353, V364, (((((V334.other W337 (Ne.symm (Nat.ne_of_lt (Nat.lt_of_lt_of_le Q308.lt (Nat.le_of_eq gb326.symm))))).ext E353).other W357 (Nat.ne_of_lt (Nat.lt_of_lt_of_le (((Q326.wr W330).wr W334).wr W337).lt (Nat.le_of_eq gb353.symm)))).other W361 (Nat.ne_of_lt (Nat.lt_of_lt_of_le (((Q326.wr W330).wr W334).wr W337).lt (Nat.le_of_eq gb353.symm)))).other W364 (Ne.symm (Nat.ne_of_lt (Nat.lt_of_lt_of_le Q308.lt (Nat.le_of_eq gb326.symm))))), (V361.other W364 (Ne.symm (Nat.ne_of_lt (Nat.lt_of_lt_of_le ((((Q308.ext E326).wr W330).wr W334).wr W337).lt (Nat.le_of_eq gb353.symm)))))⟩
  · skip
    have g369 : Goes p e below S0 (T308.setTop (mkF m 77 #[rv aa, .val (.double (f_sco  s0)), .second, rv b308, iv (0 : Int32), .val (.double (FP.dsub (4607182418800017408 : UInt64) (FP.ddiv (4607182418800017408 : UInt64) (FP.i2d (1 : Int32))))), .second, .val (.double (0 : UInt64)), .second] [])) := fun t k => g312 t (by
      refine XS.ifYes X308.here hx rfl (pc0 := 48) (pc' := 74) rfl (hb hby d12_48) rfl (dc_l_le_t h313) (by decide) (by decide) ?_
      show Go p e below t T308 m 74 #[rv aa, .val (.double (f_sco  s0)), .second, rv b308, iv (0 : Int32), .val (.double (FP.dsub (4607182418800017408 : UInt64) (FP.ddiv (4607182418800017408 : UInt64) (FP.i2d (1 : Int32))))), .second, .unset, .unset] []
      refine XS.dconst0 X308.here hx rfl (hb hby d12_74) (v := (0 : UInt64)) rfl ?_
      show Go p e below t T308 m 75 #[rv aa, .val (.double (f_sco  s0)), .second, rv b308, iv (0 : Int32), .val (.double (FP.dsub (4607182418800017408 : UInt64) (FP.ddiv (4607182418800017408 : UInt64) (FP.i2d (1 : Int32))))), .second, .unset, .unset] [(.double (0 : UInt64))]
      refine XS.dstore X308.here hx rfl (hb hby d12_75) rfl (l' := #[rv aa, .val (.double (f_sco  s0)), .second, rv b308, iv (0 : Int32), .val (.double (FP.dsub (4607182418800017408 : UInt64) (FP.ddiv (4607182418800017408 : UInt64) (FP.i2d (1 : Int32))))), .second, .val (.double (0 : UInt64)), .second]) rfl ?_
      show Go p e below t T308 m 77 #[rv aa, .val (.double (f_sco  s0)), .second, rv b308, iv (0 : Int32), .val (.double (FP.dsub (4607182418800017408 : UInt64) (FP.ddiv (4607182418800017408 : UInt64) (FP.i2d (1 : Int32))))), .second, .val (.double (0 : UInt64)), .second] []
      exact k)
    rw [show (0 : UInt64) = (own_sc s0 s0) from (if_neg h313).symm] at g369
    have g370 : Goes p e below S0 (T308.setTop (mkF m 81 #[rv aa, .val (.double (f_sco  s0)), .second, rv b308, iv (0 : Int32), .val (.double (FP.dsub (4607182418800017408 : UInt64) (FP.ddiv (4607182418800017408 : UInt64) (FP.i2d (1 : Int32))))), .second, .val (.double (own_sc s0 s0)), .second] [(.int (2 : Int32)), (.int (0 : Int32)), (.ref b308)])) := fun t k => g369 t (by
      refine XS.aloadN X308.here hx rfl (hb hby d12_77) rfl rfl ?_
      show Go p e below t T308 m 78 #[rv aa, .val (.double (f_sco  s0)), .second, rv b308, iv (0 : Int32), .val (.double (FP.dsub (4607182418800017408 : UInt64) (FP.ddiv (4607182418800017408 : UInt64) (FP.i2d (1 : Int32))))), .second, .val (.double (own_sc s0 s0)), .second] [(.ref b308)]
      refine XS.iload X308.here hx rfl (hb hby d12_78) rfl ?_
      show Go p e below t T308 m 80 #[rv aa, .val (.double (f_sco  s0)), .second, rv b308, iv (0 : Int32), .val (.double (FP.dsub (4607182418800017408 : UInt64) (FP.ddiv (4607182418800017408 : UInt64) (FP.i2d (1 : Int32))))), .second, .val (.double (own_sc s0 s0)), .second] [(.int (0 : Int32)), (.ref b308)]
      refine XT.iconstV X308.here hx rfl (2 : Int32) (hb hby d12_80) (by decide) ?_
      show Go p e below t T308 m 81 #[rv aa, .val (.double (f_sco  s0)), .second, rv b308, iv (0 : Int32), .val (.double (FP.dsub (4607182418800017408 : UInt64) (FP.ddiv (4607182418800017408 : UInt64) (FP.i2d (1 : Int32))))), .second, .val (.double (own_sc s0 s0)), .second] [(.int (2 : Int32)), (.int (0 : Int32)), (.ref b308)]
      exact k)
    obtain ⟨T371, h371, k371, X371, e371, E371, A371, Q371, st371⟩ := newPE X308 hx hZ (hw _ (List.mem_of_getElem? (i := 136) rfl)) e308 (g := (mkF m 81 #[rv aa, .val (.double (f_sco  s0)), .second, rv b308, iv (0 : Int32), .val (.double (FP.dsub (4607182418800017408 : UInt64) (FP.ddiv (4607182418800017408 : UInt64) (FP.i2d (1 : Int32))))), .second, .val (.double (own_sc s0 s0)), .second] [(.int (2 : Int32)), (.int (0 : Int32)), (.ref b308)])) rfl (hb hby d12_81) rfl (by decide) (cap := 2) (by decide) (by decide) (by decide) (by decide) (ad := "[D") (by decide)
    obtain ⟨b371, gb371⟩ : ∃ z, z = h308.size := ⟨_, rfl⟩
    have sz371 : h0.size ≤ b371 := Nat.le_trans (Nat.le_trans (Nat.le_refl _) E308.1) (Nat.le_of_eq gb371.symm)
    have ng371 : n0 ≤ b371 := Nat.le_trans Z0 sz371
    rw [← gb371] at A371 st371 Q371
    have V371 : Arv Z h371 b371 k371 .double (2 : Int32) [(.double (0 : UInt64)), (.double (0 : UInt64))] (.double (0 : UInt64)) := (Arv.new A371 (by decide)).pad (pad_rep [] (.double (0 : UInt64)) 2)
    have g372 : Goes p e below S0 (T371.setTop (mkF m 83 #[rv aa, .val (.double (f_sco  s0)), .second, rv b308, iv (0 : Int32), .val (.double (FP.dsub (4607182418800017408 : UInt64) (FP.ddiv (4607182418800017408 : UInt64) (FP.i2d (1 : Int32))))), .second, .val (.double (own_sc s0 s0)), .second] [(.ref b371), (.int (0 : Int32)), (.ref b308)])) := fun t k => g370 t (st371 t k)
    have g373 : Goes p e below S0 (T371.setTop (mkF m 87 #[rv aa, .val (.double (f_sco  s0)), .second, rv b308, iv (0 : Int32), .val (.double (FP.dsub (4607182418800017408 : UInt64) (FP.ddiv (4607182418800017408 : UInt64) (FP.i2d (1 : Int32))))), .second, .val (.double (own_sc s0 s0)), .second] [(.double (FP.dsub (4607182418800017408 : UInt64) (FP.ddiv (4607182418800017408 : UInt64) (FP.i2d (1 : Int32))))), (.int (0 : Int32)), (.ref b371), (.ref b371), (.int (0 : Int32)), (.ref b308)])) := fun t k => g372 t (by
      refine XS.dup X371.here hx rfl (hb hby d12_83) rfl rfl ?_
      show Go p e below t T371 m 84 #[rv aa, .val (.double (f_sco  s0)), .second, rv b308, iv (0 : Int32), .val (.double (FP.dsub (4607182418800017408 : UInt64) (FP.ddiv (4607182418800017408 : UInt64) (FP.i2d (1 : Int32))))), .second, .val (.double (own_sc s0 s0)), .second] [(.ref b371), (.ref b371), (.int (0 : Int32)), (.ref b308)]
      refine XT.iconstV X371.here hx rfl (0 : Int32) (hb hby d12_84) (by decide) ?_
      show Go p e below t T371 m 85 #[rv aa, .val (.double (f_sco  s0)), .second, rv b308, iv (0 : Int32), .val (.double (FP.dsub (4607182418800017408 : UInt64) (FP.ddiv (4607182418800017408 : UInt64) (FP.i2d (1 : Int32))))), .second, .val (.double (own_sc s0 s0)), .second] [(.int (0 : Int32)), (.ref b371), (.ref b371), (.int (0 : Int32)), (.ref b308)]
      refine XS.dload X371.here hx rfl (hb hby d12_85) rfl ?_
      show Go p e below t T371 m 87 #[rv aa, .val (.double (f_sco  s0)), .second, rv b308, iv (0 : Int32), .val (.double (FP.dsub (4607182418800017408 : UInt64) (FP.ddiv (4607182418800017408 : UInt64) (FP.i2d (1 : Int32))))), .second, .val (.double (own_sc s0 s0)), .second] [(.double (FP.dsub (4607182418800017408 : UInt64) (FP.ddiv (4607182418800017408 : UInt64) (FP.i2d (1 : Int32))))), (.int (0 : Int32)), (.ref b371), (.ref b371), (.int (0 : Int32)), (.ref b308)]
      exact k)
    obtain ⟨cl374, Ar374, q374, S374, M374, H374, G374⟩ := id V371
    obtain ⟨T375, h375, X375, e375, W375, st375⟩ := stD X371 hx hZ e371 Ar374 (j := (0 : Int32)) (inb_of S374 ⟨by decide, by decide⟩) (g := (mkF m 87 #[rv aa, .val (.double (f_sco  s0)), .second, rv b308, iv (0 : Int32), .val (.double (FP.dsub (4607182418800017408 : UInt64) (FP.ddiv (4607182418800017408 : UInt64) (FP.i2d (1 : Int32))))), .second, .val (.double (own_sc s0 s0)), .second] [(.double (FP.dsub (4607182418800017408 : UInt64) (FP.ddiv (4607182418800017408 : UInt64) (FP.i2d (1 : Int32))))), (.int (0 : Int32)), (.ref b371), (.ref b371), (.int (0 : Int32)), (.ref b308)])) rfl rfl (hb hby d12_87)
    have N375 := Fr.snoc X375 M306 ng371
    have V375 : Arv Z h375 b371 k371 .double (2 : Int32) [(.double (FP.dsub (4607182418800017408 : UInt64) (FP.ddiv (4607182418800017408 : UInt64) (FP.i2d (1 : Int32))))), (.double (0 : UInt64))] (.double (0 : UInt64)) := Arv.set Ar374 q374 S374 M374 H374 G374 rfl W375 0 rfl (Nat.le_of_ble_eq_true rfl)
    have g376 : Goes p e below S0 (T375.setTop (mkF m 88 #[rv aa, .val (.double (f_sco  s0)), .second, rv b308, iv (0 : Int32), .val (.double (FP.dsub (4607182418800017408 : UInt64) (FP.ddiv (4607182418800017408 : UInt64) (FP.i2d (1 : Int32))))), .second, .val (.double (own_sc s0 s0)), .second] [(.ref b371), (.int (0 : Int32)), (.ref b308)])) := fun t k => g373 t (st375 t k)
    have g377 : Goes p e below S0 (T375.setTop (mkF m 92 #[rv aa, .val (.double (f_sco  s0)), .second, rv b308, iv (0 : Int32), .val (.double (FP.dsub (4607182418800017408 : UInt64) (FP.ddiv (4607182418800017408 : UInt64) (FP.i2d (1 : Int32))))), .second, .val (.double (own_sc s0 s0)), .second] [(.double (own_sc s0 s0)), (.int (1 : Int32)), (.ref b371), (.ref b371), (.int (0 : Int32)), (.ref b308)])) := fun t k => g376 t (by
      refine XS.dup X375.here hx rfl (hb hby d12_88) rfl rfl ?_
      show Go p e below t T375 m 89 #[rv aa, .val (.double (f_sco  s0)), .second, rv b308, iv (0 : Int32), .val (.double (FP.dsub (4607182418800017408 : UInt64) (FP.ddiv (4607182418800017408 : UInt64) (FP.i2d (1 : Int32))))), .second, .val (.double (own_sc s0 s0)), .second] [(.ref b371), (.ref b371), (.int (0 : Int32)), (.ref b308)]
      refine XT.iconstV X375.here hx rfl (1 : Int32) (hb hby d12_89) (by decide) ?_
      show Go p e below t T375 m 90 #[rv aa, .val (.double (f_sco  s0)), .second, rv b308, iv (0 : Int32), .val (.double (FP.dsub (4607182418800017408 : UInt64) (FP.ddiv (4607182418800017408 : UInt64) (FP.i2d (1 : Int32))))), .second, .val (.double (own_sc s0 s0)), .second] [(.int (1 : Int32)), (.ref b371), (.ref b371), (.int (0 : Int32)), (.ref b308)]
      refine XS.dload X375.here hx rfl (hb hby d12_90) rfl ?_
      show Go p e below t T375 m 92 #[rv aa, .val (.double (f_sco  s0)), .second, rv b308, iv (0 : Int32), .val (.double (FP.dsub (4607182418800017408 : UInt64) (FP.ddiv (4607182418800017408 : UInt64) (FP.i2d (1 : Int32))))), .second, .val (.double (own_sc s0 s0)), .second] [(.double (own_sc s0 s0)), (.int (1 : Int32)), (.ref b371), (.ref b371), (.int (0 : Int32)), (.ref b308)]
      exact k)
    obtain ⟨cl378, Ar378, q378, S378, M378, H378, G378⟩ := id V375
    obtain ⟨T379, h379, X379, e379, W379, st379⟩ := stD X375 hx hZ e375 Ar378 (j := (1 : Int32)) (inb_of S378 ⟨by decide, by decide⟩) (g := (mkF m 92 #[rv aa, .val (.double (f_sco  s0)), .second, rv b308, iv (0 : Int32), .val (.double (FP.dsub (4607182418800017408 : UInt64) (FP.ddiv (4607182418800017408 : UInt64) (FP.i2d (1 : Int32))))), .second, .val (.double (own_sc s0 s0)), .second] [(.double (own_sc s0 s0)), (.int (1 : Int32)), (.ref b371), (.ref b371), (.int (0 : Int32)), (.ref b308)])) rfl rfl (hb hby d12_92)
    have N379 := Fr.snoc X379 N375 ng371
    have V379 : Arv Z h379 b371 k371 .double (2 : Int32) [(.double (FP.dsub (4607182418800017408 : UInt64) (FP.ddiv (4607182418800017408 : UInt64) (FP.i2d (1 : Int32))))), (.double (own_sc s0 s0))] (.double (0 : UInt64)) := Arv.set Ar378 q378 S378 M378 H378 G378 rfl W379 1 rfl (Nat.le_of_ble_eq_true rfl)
    have g380 : Goes p e below S0 (T379.setTop (mkF m 93 #[rv aa, .val (.double (f_sco  s0)), .second, rv b308, iv (0 : Int32), .val (.double (FP.dsub (4607182418800017408 : UInt64) (FP.ddiv (4607182418800017408 : UInt64) (FP.i2d (1 : Int32))))), .second, .val (.double (own_sc s0 s0)), .second] [(.ref b371), (.int (0 : Int32)), (.ref b308)])) := fun t k => g377 t (st379 t k)
    obtain ⟨cl381, Ar381, q381, S381, M381, H381, G381⟩ := id (((V308.ext E371).other W375 (Nat.ne_of_lt (Nat.lt_of_lt_of_le V308.lt (Nat.le_of_eq gb371.symm)))).other W379 (Nat.ne_of_lt (Nat.lt_of_lt_of_le V308.lt (Nat.le_of_eq gb371.symm))))
    obtain ⟨T382, h382, X382, e382, W382, st382⟩ := stR X379 hx hZ e379 Ar381 (j := (0 : Int32)) (inb_of S381 ⟨by decide, by decide⟩) rfl (Sto.ofVA Ar381 q381 O308 (Ins.of_exa ((Q371.wr W375).wr W379) (hw _ (List.mem_of_getElem? (i := 137) rfl)))) (g := (mkF m 93 #[rv aa, .val (.double (f_sco  s0)), .second, rv b308, iv (0 : Int32), .val (.double (FP.dsub (4607182418800017408 : UInt64) (FP.ddiv (4607182418800017408 : UInt64) (FP.i2d (1 : Int32))))), .second, .val (.double (own_sc s0 s0)), .second] [(.ref b371), (.int (0 : Int32)), (.ref b308)])) rfl rfl (hb hby d12_93)
    have N382 := Fr.snoc X382 N379 ng308
    have V382 : Arv Z h382 b308 k308 (.array .double) (2 : Int32) [(.ref b371), .null] .null := Arv.set Ar381 q381 S381 M381 H381 G381 rfl W382 0 rfl (Nat.le_of_ble_eq_true rfl)
    have g383 : Goes p e below S0 (T382.setTop (mkF m 94 #[rv aa, .val (.double (f_sco  s0)), .second, rv b308, iv (0 : Int32), .val (.double (FP.dsub (4607182418800017408 : UInt64) (FP.ddiv (4607182418800017408 : UInt64) (FP.i2d (1 : Int32))))), .second, .val (.double (own_sc s0 s0)), .second] [])) := fun t k => g380 t (st382 t k)
    have g384 : Goes p e below S0 (T382.setTop (mkF m 30 #[rv aa, .val (.double (f_sco  s0)), .second, rv b308, iv (1 : Int32), .val (.double (FP.dsub (4607182418800017408 : UInt64) (FP.ddiv (4607182418800017408 : UInt64) (FP.i2d (1 : Int32))))), .second, .val (.double (own_sc s0 s0)), .second] [(.ref b308), (.int (1 : Int32))])) := fun t k => g383 t (by
      refine XT.iincV X382.here hx rfl (1 : Int32) (hb hby d12_94) (by decide) rfl (l' := #[rv aa, .val (.double (f_sco  s0)), .second, rv b308, iv (1 : Int32), .val (.double (FP.dsub (4607182418800017408 : UInt64) (FP.ddiv (4607182418800017408 : UInt64) (FP.i2d (1 : Int32))))), .second, .val (.double (own_sc s0 s0)), .second]) rfl ?_
      show Go p e below t T382 m 97 #[rv aa, .val (.double (f_sco  s0)), .second, rv b308, iv (1 : Int32), .val (.double (FP.dsub (4607182418800017408 : UInt64) (FP.ddiv (4607182418800017408 : UInt64) (FP.i2d (1 : Int32))))), .second, .val (.double (own_sc s0 s0)), .second] []
      refine XS.goto X382.here hx rfl (pc0 := 97) (pc' := 27) rfl (hb hby d12_97) (by decide) (by decide) ?_
      show Go p e below t T382 m 27 #[rv aa, .val (.double (f_sco  s0)), .second, rv b308, iv (1 : Int32), .val (.double (FP.dsub (4607182418800017408 : UInt64) (FP.ddiv (4607182418800017408 : UInt64) (FP.i2d (1 : Int32))))), .second, .val (.double (own_sc s0 s0)), .second] []
      refine XS.iload X382.here hx rfl (hb hby d12_27) rfl ?_
      show Go p e below t T382 m 29 #[rv aa, .val (.double (f_sco  s0)), .second, rv b308, iv (1 : Int32), .val (.double (FP.dsub (4607182418800017408 : UInt64) (FP.ddiv (4607182418800017408 : UInt64) (FP.i2d (1 : Int32))))), .second, .val (.double (own_sc s0 s0)), .second] [(.int (1 : Int32))]
      refine XS.aloadN X382.here hx rfl (hb hby d12_29) rfl rfl ?_
      show Go p e below t T382 m 30 #[rv aa, .val (.double (f_sco  s0)), .second, rv b308, iv (1 : Int32), .val (.double (FP.dsub (4607182418800017408 : UInt64) (FP.ddiv (4607182418800017408 : UInt64) (FP.i2d (1 : Int32))))), .second, .val (.double (own_sc s0 s0)), .second] [(.ref b308), (.int (1 : Int32))]
      exact k)
    obtain ⟨cl385, Ar385, q385, S385, M385, H385, G385⟩ := id V382
    have g386 : Goes p e below S0 (T382.setTop (mkF m 77 #[rv aa, .val (.double (f_sco  s0)), .second, rv b308, iv (1 : Int32), .val (.double (FP.dsub (4607182418800017408 : UInt64) (FP.ddiv (4607182418800017408 : UInt64) (FP.i2d (2 : Int32))))), .second, .val (.double (0 : UInt64)), .second] [])) := fun t k => g384 t (by
      refine X382.arraylength hx (by rw [e382]; exact Ar385.1) (State.isArrayOf_alike hZ.alike Ar385.2.1) (g := (mkF m 30 #[rv aa, .val (.double (f_sco  s0)), .second, rv b308, iv (1 : Int32), .val (.double (FP.dsub (4607182418800017408 : UInt64) (FP.ddiv (4607182418800017408 : UInt64) (FP.i2d (1 : Int32))))), .second, .val (.double (own_sc s0 s0)), .second] [(.ref b308), (.int (1 : Int32))])) rfl rfl (hb hby d12_30) _ ?_
      rw [len_of S385 M385]
      show Go p e below t T382 m 31 #[rv aa, .val (.double (f_sco  s0)), .second, rv b308, iv (1 : Int32), .val (.double (FP.dsub (4607182418800017408 : UInt64) (FP.ddiv (4607182418800017408 : UInt64) (FP.i2d (1 : Int32))))), .second, .val (.double (own_sc s0 s0)), .second] [(.int (2 : Int32)), (.int (1 : Int32))]
      refine XS.icmpNo X382.here hx rfl (hb hby d12_31) rfl (XT.ii_ge_f (by decide)) ?_
      show Go p e below t T382 m 34 #[rv aa, .val (.double (f_sco  s0)), .second, rv b308, iv (1 : Int32), .val (.double (FP.dsub (4607182418800017408 : UInt64) (FP.ddiv (4607182418800017408 : UInt64) (FP.i2d (1 : Int32))))), .second, .val (.double (own_sc s0 s0)), .second] []
      refine XS.dconst1 X382.here hx rfl (hb hby d12_34) (v := (4607182418800017408 : UInt64)) rfl ?_
      show Go p e below t T382 m 35 #[rv aa, .val (.double (f_sco  s0)), .second, rv b308, iv (1 : Int32), .val (.double (FP.dsub (4607182418800017408 : UInt64) (FP.ddiv (4607182418800017408 : UInt64) (FP.i2d (1 : Int32))))), .second, .val (.double (own_sc s0 s0)), .second] [(.double (4607182418800017408 : UInt64))]
      refine XS.dconst1 X382.here hx rfl (hb hby d12_35) (v := (4607182418800017408 : UInt64)) rfl ?_
      show Go p e below t T382 m 36 #[rv aa, .val (.double (f_sco  s0)), .second, rv b308, iv (1 : Int32), .val (.double (FP.dsub (4607182418800017408 : UInt64) (FP.ddiv (4607182418800017408 : UInt64) (FP.i2d (1 : Int32))))), .second, .val (.double (own_sc s0 s0)), .second] [(.double (4607182418800017408 : UInt64)), (.double (4607182418800017408 : UInt64))]
      refine XS.iload X382.here hx rfl (hb hby d12_36) rfl ?_
      show Go p e below t T382 m 38 #[rv aa, .val (.double (f_sco  s0)), .second, rv b308, iv (1 : Int32), .val (.double (FP.dsub (4607182418800017408 : UInt64) (FP.ddiv (4607182418800017408 : UInt64) (FP.i2d (1 : Int32))))), .second, .val (.double (own_sc s0 s0)), .second] [(.int (1 : Int32)), (.double (4607182418800017408 : UInt64)), (.double (4607182418800017408 : UInt64))]
      refine XT.iconstV X382.here hx rfl (1 : Int32) (hb hby d12_38) (by decide) ?_
      show Go p e below t T382 m 39 #[rv aa, .val (.double (f_sco  s0)), .second, rv b308, iv (1 : Int32), .val (.double (FP.dsub (4607182418800017408 : UInt64) (FP.ddiv (4607182418800017408 : UInt64) (FP.i2d (1 : Int32))))), .second, .val (.double (own_sc s0 s0)), .second] [(.int (1 : Int32)), (.int (1 : Int32)), (.double (4607182418800017408 : UInt64)), (.double (4607182418800017408 : UInt64))]
      refine XS.iadd X382.here hx rfl (hb hby d12_39) rfl ?_
      rw [show ((1 : Int32) + (1 : Int32)) = (2 : Int32) by decide]
      show Go p e below t T382 m 40 #[rv aa, .val (.double (f_sco  s0)), .second, rv b308, iv (1 : Int32), .val (.double (FP.dsub (4607182418800017408 : UInt64) (FP.ddiv (4607182418800017408 : UInt64) (FP.i2d (1 : Int32))))), .second, .val (.double (own_sc s0 s0)), .second] [(.int (2 : Int32)), (.double (4607182418800017408 : UInt64)), (.double (4607182418800017408 : UInt64))]
      refine XS.i2dS X382.here hx rfl (hb hby d12_40) rfl rfl ?_
      show Go p e below t T382 m 41 #[rv aa, .val (.double (f_sco  s0)), .second, rv b308, iv (1 : Int32), .val (.double (FP.dsub (4607182418800017408 : UInt64) (FP.ddiv (4607182418800017408 : UInt64) (FP.i2d (1 : Int32))))), .second, .val (.double (own_sc s0 s0)), .second] [(.double (FP.i2d (2 : Int32))), (.double (4607182418800017408 : UInt64)), (.double (4607182418800017408 : UInt64))]
      refine XS.ddivS X382.here hx rfl (hb hby d12_41) rfl (by unfold Jvm.Free.Fl.NoNaN64; decide +kernel) rfl ?_
      show Go p e below t T382 m 42 #[rv aa, .val (.double (f_sco  s0)), .second, rv b308, iv (1 : Int32), .val (.double (FP.dsub (4607182418800017408 : UInt64) (FP.ddiv (4607182418800017408 : UInt64) (FP.i2d (1 : Int32))))), .second, .val (.double (own_sc s0 s0)), .second] [(.double (FP.ddiv (4607182418800017408 : UInt64) (FP.i2d (2 : Int32)))), (.double (4607182418800017408 : UInt64))]
      refine XS.dsubS X382.here hx rfl (hb hby d12_42) rfl (by unfold Jvm.Free.Fl.NoNaN64; decide +kernel) rfl ?_
      show Go p e below t T382 m 43 #[rv aa, .val (.double (f_sco  s0)), .second, rv b308, iv (1 : Int32), .val (.double (FP.dsub (4607182418800017408 : UInt64) (FP.ddiv (4607182418800017408 : UInt64) (FP.i2d (1 : Int32))))), .second, .val (.double (own_sc s0 s0)), .second] [(.double (FP.dsub (4607182418800017408 : UInt64) (FP.ddiv (4607182418800017408 : UInt64) (FP.i2d (2 : Int32)))))]
      refine XS.dstore X382.here hx rfl (hb hby d12_43) rfl (l' := #[rv aa, .val (.double (f_sco  s0)), .second, rv b308, iv (1 : Int32), .val (.double (FP.dsub (4607182418800017408 : UInt64) (FP.ddiv (4607182418800017408 : UInt64) (FP.i2d (2 : Int32))))), .second, .val (.double (own_sc s0 s0)), .second]) rfl ?_
      show Go p e below t T382 m 45 #[rv aa, .val (.double (f_sco  s0)), .second, rv b308, iv (1 : Int32), .val (.double (FP.dsub (4607182418800017408 : UInt64) (FP.ddiv (4607182418800017408 : UInt64) (FP.i2d (2 : Int32))))), .second, .val (.double (own_sc s0 s0)), .second] []
      refine XS.dloadN X382.here hx rfl (hb hby d12_45) rfl ?_
      show Go p e below t T382 m 46 #[rv aa, .val (.double (f_sco  s0)), .second, rv b308, iv (1 : Int32), .val (.double (FP.dsub (4607182418800017408 : UInt64) (FP.ddiv (4607182418800017408 : UInt64) (FP.i2d (2 : Int32))))), .second, .val (.double (own_sc s0 s0)), .second] [(.double (f_sco  s0))]
      refine XS.dconst0 X382.here hx rfl (hb hby d12_46) (v := (0 : UInt64)) rfl ?_
      show Go p e below t T382 m 47 #[rv aa, .val (.double (f_sco  s0)), .second, rv b308, iv (1 : Int32), .val (.double (FP.dsub (4607182418800017408 : UInt64) (FP.ddiv (4607182418800017408 : UInt64) (FP.i2d (2 : Int32))))), .second, .val (.double (own_sc s0 s0)), .second] [(.double (0 : UInt64)), (.double (f_sco  s0))]
      refine XS.dcmpS X382.here hx rfl (hb hby d12_47) rfl rfl ?_
      show Go p e below t T382 m 48 #[rv aa, .val (.double (f_sco  s0)), .second, rv b308, iv (1 : Int32), .val (.double (FP.dsub (4607182418800017408 : UInt64) (FP.ddiv (4607182418800017408 : UInt64) (FP.i2d (2 : Int32))))), .second, .val (.double (own_sc s0 s0)), .second] [(.int (cmpValue (FP.dcmp (f_sco  s0) (0 : UInt64)) .l))]
      refine XS.ifYes X382.here hx rfl (pc0 := 48) (pc' := 74) rfl (hb hby d12_48) rfl (dc_l_le_t h313) (by decide) (by decide) ?_
      show Go p e below t T382 m 74 #[rv aa, .val (.double (f_sco  s0)), .second, rv b308, iv (1 : Int32), .val (.double (FP.dsub (4607182418800017408 : UInt64) (FP.ddiv (4607182418800017408 : UInt64) (FP.i2d (2 : Int32))))), .second, .val (.double (own_sc s0 s0)), .second] []
      refine XS.dconst0 X382.here hx rfl (hb hby d12_74) (v := (0 : UInt64)) rfl ?_
      show Go p e below t T382 m 75 #[rv aa, .val (.double (f_sco  s0)), .second, rv b308, iv (1 : Int32), .val (.double (FP.dsub (4607182418800017408 : UInt64) (FP.ddiv (4607182418800017408 : UInt64) (FP.i2d (2 : Int32))))), .second, .val (.double (own_sc s0 s0)), .second] [(.double (0 : UInt64))]
      refine XS.dstore X382.here hx rfl (hb hby d12_75) rfl (l' := #[rv aa, .val (.double (f_sco  s0)), .second, rv b308, iv (1 : Int32), .val (.double (FP.dsub (4607182418800017408 : UInt64) (FP.ddiv (4607182418800017408 : UInt64) (FP.i2d (2 : Int32))))), .second, .val (.double (0 : UInt64)), .second]) rfl ?_
      show Go p e below t T382 m 77 #[rv aa, .val (.double (f_sco  s0)), .second, rv b308, iv (1 : Int32), .val (.double (FP.dsub (4607182418800017408 : UInt64) (FP.ddiv (4607182418800017408 : UInt64) (FP.i2d (2 : Int32))))), .second, .val (.double (0 : UInt64)), .second] []
      exact k)
    rw [show (0 : UInt64) = (own_sc s0 s1) from (if_neg h313).symm] at g386
    have g387 : Goes p e below S0 (T382.setTop (mkF m 81 #[rv aa, .val (.double (f_sco  s0)), .second, rv b308, iv (1 : Int32), .val (.double (FP.dsub (4607182418800017408 : UInt64) (FP.ddiv (4607182418800017408 : UInt64) (FP.i2d (2 : Int32))))), .second, .val (.double (own_sc s0 s1)), .second] [(.int (2 : Int32)), (.int (1 : Int32)), (.ref b308)])) := fun t k => g386 t (by
      refine XS.aloadN X382.here hx rfl (hb hby d12_77) rfl rfl ?_
      show Go p e below t T382 m 78 #[rv aa, .val (.double (f_sco  s0)), .second, rv b308, iv (1 : Int32), .val (.double (FP.dsub (4607182418800017408 : UInt64) (FP.ddiv (4607182418800017408 : UInt64) (FP.i2d (2 : Int32))))), .second, .val (.double (own_sc s0 s1)), .second] [(.ref b308)]
      refine XS.iload X382.here hx rfl (hb hby d12_78) rfl ?_
      show Go p e below t T382 m 80 #[rv aa, .val (.double (f_sco  s0)), .second, rv b308, iv (1 : Int32), .val (.double (FP.dsub (4607182418800017408 : UInt64) (FP.ddiv (4607182418800017408 : UInt64) (FP.i2d (2 : Int32))))), .second, .val (.double (own_sc s0 s1)), .second] [(.int (1 : Int32)), (.ref b308)]
      refine XT.iconstV X382.here hx rfl (2 : Int32) (hb hby d12_80) (by decide) ?_
      show Go p e below t T382 m 81 #[rv aa, .val (.double (f_sco  s0)), .second, rv b308, iv (1 : Int32), .val (.double (FP.dsub (4607182418800017408 : UInt64) (FP.ddiv (4607182418800017408 : UInt64) (FP.i2d (2 : Int32))))), .second, .val (.double (own_sc s0 s1)), .second] [(.int (2 : Int32)), (.int (1 : Int32)), (.ref b308)]
      exact k)
    obtain ⟨T388, h388, k388, X388, e388, E388, A388, Q388, st388⟩ := newPE X382 hx hZ (hw _ (List.mem_of_getElem? (i := 136) rfl)) e382 (g := (mkF m 81 #[rv aa, .val (.double (f_sco  s0)), .second, rv b308, iv (1 : Int32), .val (.double (FP.dsub (4607182418800017408 : UInt64) (FP.ddiv (4607182418800017408 : UInt64) (FP.i2d (2 : Int32))))), .second, .val (.double (own_sc s0 s1)), .second] [(.int (2 : Int32)), (.int (1 : Int32)), (.ref b308)])) rfl (hb hby d12_81) rfl (by decide) (cap := 2) (by decide) (by decide) (by decide) (by decide) (ad := "[D") (by decide)
    obtain ⟨b388, gb388⟩ : ∃ z, z = h382.size := ⟨_, rfl⟩
    have sz388 : h0.size ≤ b388 := Nat.le_trans (Nat.le_trans (Nat.le_trans (Nat.le_trans (Nat.le_trans (Nat.le_trans (Nat.le_refl _) E308.1) E371.1) (Nat.le_of_eq W375.size.symm)) (Nat.le_of_eq W379.size.symm)) (Nat.le_of_eq W382.size.symm)) (Nat.le_of_eq gb388.symm)
    have ng388 : n0 ≤ b388 := Nat.le_trans Z0 sz388
    rw [← gb388] at A388 st388 Q388
    have V388 : Arv Z h388 b388 k388 .double (2 : Int32) [(.double (0 : UInt64)), (.double (0 : UInt64))] (.double (0 : UInt64)) := (Arv.new A388 (by decide)).pad (pad_rep [] (.double (0 : UInt64)) 2)
    have g389 : Goes p e below S0 (T388.setTop (mkF m 83 #[rv aa, .val (.double (f_sco  s0)), .second, rv b308, iv (1 : Int32), .val (.double (FP.dsub (4607182418800017408 : UInt64) (FP.ddiv (4607182418800017408 : UInt64) (FP.i2d (2 : Int32))))), .second, .val (.double (own_sc s0 s1)), .second] [(.ref b388), (.int (1 : Int32)), (.ref b308)])) := fun t k => g387 t (st388 t k)
    have g390 : Goes p e below S0 (T388.setTop (mkF m 87 #[rv aa, .val (.double (f_sco  s0)), .second, rv b308, iv (1 : Int32), .val (.double (FP.dsub (4607182418800017408 : UInt64) (FP.ddiv (4607182418800017408 : UInt64) (FP.i2d (2 : Int32))))), .second, .val (.double (own_sc s0 s1)), .second] [(.double (FP.dsub (4607182418800017408 : UInt64) (FP.ddiv (4607182418800017408 : UInt64) (FP.i2d (2 : Int32))))), (.int (0 : Int32)), (.ref b388), (.ref b388), (.int (1 : Int32)), (.ref b308)])) := fun t k => g389 t (by
      refine XS.dup X388.here hx rfl (hb hby d12_83) rfl rfl ?_
      show Go p e below t T388 m 84 #[rv aa, .val (.double (f_sco  s0)), .second, rv b308, iv (1 : Int32), .val (.double (FP.dsub (4607182418800017408 : UInt64) (FP.ddiv (4607182418800017408 : UInt64) (FP.i2d (2 : Int32))))), .second, .val (.double (own_sc s0 s1)), .second] [(.ref b388), (.ref b388), (.int (1 : Int32)), (.ref b308)]
      refine XT.iconstV X388.here hx rfl (0 : Int32) (hb hby d12_84) (by decide) ?_
      show Go p e below t T388 m 85 #[rv aa, .val (.double (f_sco  s0)), .second, rv b308, iv (1 : Int32), .val (.double (FP.dsub (4607182418800017408 : UInt64) (FP.ddiv (4607182418800017408 : UInt64) (FP.i2d (2 : Int32))))), .second, .val (.double (own_sc s0 s1)), .second] [(.int (0 : Int32)), (.ref b388), (.ref b388), (.int (1 : Int32)), (.ref b308)]
      refine XS.dload X388.here hx rfl (hb hby d12_85) rfl ?_
      show Go p e below t T388 m 87 #[rv aa, .val (.double (f_sco  s0)), .second, rv b308, iv (1 : Int32), .val (.double (FP.dsub (4607182418800017408 : UInt64) (FP.ddiv (4607182418800017408 : UInt64) (FP.i2d (2 : Int32))))), .second, .val (.double (own_sc s0 s1)), .second] [(.double (FP.dsub (4607182418800017408 : UInt64) (FP.ddiv (4607182418800017408 : UInt64) (FP.i2d (2 : Int32))))), (.int (0 : Int32)), (.ref b388), (.ref b388), (.int (1 : Int32)), (.ref b308)]
      exact k)
    obtain ⟨cl391, Ar391, q391, S391, M391, H391, G391⟩ := id V388
    obtain ⟨T392, h392, X392, e392, W392, st392⟩ := stD X388 hx hZ e388 Ar391 (j := (0 : Int32)) (inb_of S391 ⟨by decide, by decide⟩) (g := (mkF m 87 #[rv aa, .val (.double (f_sco  s0)), .second, rv b308, iv (1 : Int32), .val (.double (FP.dsub (4607182418800017408 : UInt64) (FP.ddiv (4607182418800017408 : UInt64) (FP.i2d (2 : Int32))))), .second, .val (.double (own_sc s0 s1)), .second] [(.double (FP.dsub (4607182418800017408 : UInt64) (FP.ddiv (4607182418800017408 : UInt64) (FP.i2d (2 : Int32))))), (.int (0 : Int32)), (.ref b388), (.ref b388), (.int (1 : Int32)), (.ref b308)])) rfl rfl (hb hby d12_87)
    have N392 := Fr.snoc X392 N382 ng388
    have V392 : Arv Z h392 b388 k388 .double (2 : Int32) [(.double (FP.dsub (4607182418800017408 : UInt64) (FP.ddiv (4607182418800017408 : UInt64) (FP.i2d (2 : Int32))))), (.double (0 : UInt64))] (.double (0 : UInt64)) := Arv.set Ar391 q391 S391 M391 H391 G391 rfl W392 0 rfl (Nat.le_of_ble_eq_true rfl)
    have g393 : Goes p e below S0 (T392.setTop (mkF m 88 #[rv aa, .val (.double (f_sco  s0)), .second, rv b308, iv (1 : Int32), .val (.double (FP.dsub (4607182418800017408 : UInt64) (FP.ddiv (4607182418800017408 : UInt64) (FP.i2d (2 : Int32))))), .second, .val (.double (own_sc s0 s1)), .second] [(.ref b388), (.int (1 : Int32)), (.ref b308)])) := fun t k => g390 t (st392 t k)
    have g394 : Goes p e below S0 (T392.setTop (mkF m 92 #[rv aa, .val (.double (f_sco  s0)), .second, rv b308, iv (1 : Int32), .val (.double (FP.dsub (4607182418800017408 : UInt64) (FP.ddiv (4607182418800017408 : UInt64) (FP.i2d (2 : Int32))))), .second, .val (.double (own_sc s0 s1)), .second] [(.double (own_sc s0 s1)), (.int (1 : Int32)), (.ref b388), (.ref b388), (.int (1 : Int32)), (.ref b308)])) := fun t k => g393 t (by
      refine XS.dup X392.here hx rfl (hb hby d12_88) rfl rfl ?_
      show Go p e below t T392 m 89 #[rv aa, .val (.double (f_sco  s0)), .second, rv b308, iv (1 : Int32), .val (.double (FP.dsub (4607182418800017408 : UInt64) (FP.ddiv (4607182418800017408 : UInt64) (FP.i2d (2 : Int32))))), .second, .val (.double (own_sc s0 s1)), .second] [(.ref b388), (.ref b388), (.int (1 : Int32)), (.ref b308)]
      refine XT.iconstV X392.here hx rfl (1 : Int32) (hb hby d12_89) (by decide) ?_
      show Go p e below t T392 m 90 #[rv aa, .val (.double (f_sco  s0)), .second, rv b308, iv (1 : Int32), .val (.double (FP.dsub (4607182418800017408 : UInt64) (FP.ddiv (4607182418800017408 : UInt64) (FP.i2d (2 : Int32))))), .second, .val (.double (own_sc s0 s1)), .second] [(.int (1 : Int32)), (.ref b388), (.ref b388), (.int (1 : Int32)), (.ref b308)]
      refine XS.dload X392.here hx rfl (hb hby d12_90) rfl ?_
      show Go p e below t T392 m 92 #[rv aa, .val (.double (f_sco  s0)), .second, rv b308, iv (1 : Int32), .val (.double (FP.dsub (4607182418800017408 : UInt64) (FP.ddiv (4607182418800017408 : UInt64) (FP.i2d (2 : Int32))))), .second, .val (.double (own_sc s0 s1)), .second] [(.double (own_sc s0 s1)), (.int (1 : Int32)), (.ref b388), (.ref b388), (.int (1 : Int32)), (.ref b308)]
      exact k)
    obtain ⟨cl395, Ar395, q395, S395, M395, H395, G395⟩ := id V392
    obtain ⟨T396, h396, X396, e396, W396, st396⟩ := stD X392 hx hZ e392 Ar395 (j := (1 : Int32)) (inb_of S395 ⟨by decide, by decide⟩) (g := (mkF m 92 #[rv aa, .val (.double (f_sco  s0)), .second, rv b308, iv (1 : Int32), .val (.double (FP.dsub (4607182418800017408 : UInt64) (FP.ddiv (4607182418800017408 : UInt64) (FP.i2d (2 : Int32))))), .second, .val (.double (own_sc s0 s1)), .second] [(.double (own_sc s0 s1)), (.int (1 : Int32)), (.ref b388), (.ref b388), (.int (1 : Int32)), (.ref b308)])) rfl rfl (hb hby d12_92)
    have N396 := Fr.snoc X396 N392 ng388
    have V396 : Arv Z h396 b388 k388 .double (2 : Int32) [(.double (FP.dsub (4607182418800017408 : UInt64) (FP.ddiv (4607182418800017408 : UInt64) (FP.i2d (2 : Int32))))), (.double (own_sc s0 s1))] (.double (0 : UInt64)) := Arv.set Ar395 q395 S395 M395 H395 G395 rfl W396 1 rfl (Nat.le_of_ble_eq_true rfl)
    have g397 : Goes p e below S0 (T396.setTop (mkF m 93 #[rv aa, .val (.double (f_sco  s0)), .second, rv b308, iv (1 : Int32), .val (.double (FP.dsub (4607182418800017408 : UInt64) (FP.ddiv (4607182418800017408 : UInt64) (FP.i2d (2 : Int32))))), .second, .val (.double (own_sc s0 s1)), .second] [(.ref b388), (.int (1 : Int32)), (.ref b308)])) := fun t k => g394 t (st396 t k)
    obtain ⟨cl398, Ar398, q398, S398, M398, H398, G398⟩ := id (((V382.ext E388).other W392 (Nat.ne_of_lt (Nat.lt_of_lt_of_le V382.lt (Nat.le_of_eq gb388.symm)))).other W396 (Nat.ne_of_lt (Nat.lt_of_lt_of_le V382.lt (Nat.le_of_eq gb388.symm))))
    obtain ⟨T399, h399, X399, e399, W399, st399⟩ := stR X396 hx hZ e396 Ar398 (j := (1 : Int32)) (inb_of S398 ⟨by decide, by decide⟩) rfl (Sto.ofVA Ar398 q398 O308 (Ins.of_exa ((Q388.wr W392).wr W396) (hw _ (List.mem_of_getElem? (i := 137) rfl)))) (g := (mkF m 93 #[rv aa, .val (.double (f_sco  s0)), .second, rv b308, iv (1 : Int32), .val (.double (FP.dsub (4607182418800017408 : UInt64) (FP.ddiv (4607182418800017408 : UInt64) (FP.i2d (2 : Int32))))), .second, .val (.double (own_sc s0 s1)), .second] [(.ref b388), (.int (1 : Int32)), (.ref b308)])) rfl rfl (hb hby d12_93)
    have N399 := Fr.snoc X399 N396 ng308
    have V399 : Arv Z h399 b308 k308 (.array .double) (2 : Int32) [(.ref b371), (.ref b388)] .null := Arv.set Ar398 q398 S398 M398 H398 G398 rfl W399 1 rfl (Nat.le_of_ble_eq_true rfl)
    have g400 : Goes p e below S0 (T399.setTop (mkF m 94 #[rv aa, .val (.double (f_sco  s0)), .second, rv b308, iv (1 : Int32), .val (.double (FP.dsub (4607182418800017408 : UInt64) (FP.ddiv (4607182418800017408 : UInt64) (FP.i2d (2 : Int32))))), .second, .val (.double (own_sc s0 s1)), .second] [])) := fun t k => g397 t (st399 t k)
    have g401 : Goes p e below S0 (T399.setTop (mkF m 30 #[rv aa, .val (.double (f_sco  s0)), .second, rv b308, iv (2 : Int32), .val (.double (FP.dsub (4607182418800017408 : UInt64) (FP.ddiv (4607182418800017408 : UInt64) (FP.i2d (2 : Int32))))), .second, .val (.double (own_sc s0 s1)), .second] [(.ref b308), (.int (2 : Int32))])) := fun t k => g400 t (by
      refine XT.iincV X399.here hx rfl (1 : Int32) (hb hby d12_94) (by decide) rfl (l' := #[rv aa, .val (.double (f_sco  s0)), .second, rv b308, iv (2 : Int32), .val (.double (FP.dsub (4607182418800017408 : UInt64) (FP.ddiv (4607182418800017408 : UInt64) (FP.i2d (2 : Int32))))), .second, .val (.double (own_sc s0 s1)), .second]) rfl ?_
      show Go p e below t T399 m 97 #[rv aa, .val (.double (f_sco  s0)), .second, rv b308, iv (2 : Int32), .val (.double (FP.dsub (4607182418800017408 : UInt64) (FP.ddiv (4607182418800017408 : UInt64) (FP.i2d (2 : Int32))))), .second, .val (.double (own_sc s0 s1)), .second] []
      refine XS.goto X399.here hx rfl (pc0 := 97) (pc' := 27) rfl (hb hby d12_97) (by decide) (by decide) ?_
      show Go p e below t T399 m 27 #[rv aa, .val (.double (f_sco  s0)), .second, rv b308, iv (2 : Int32), .val (.double (FP.dsub (4607182418800017408 : UInt64) (FP.ddiv (4607182418800017408 : UInt64) (FP.i2d (2 : Int32))))), .second, .val (.double (own_sc s0 s1)), .second] []
      refine XS.iload X399.here hx rfl (hb hby d12_27) rfl ?_
      show Go p e below t T399 m 29 #[rv aa, .val (.double (f_sco  s0)), .second, rv b308, iv (2 : Int32), .val (.double (FP.dsub (4607182418800017408 : UInt64) (FP.ddiv (4607182418800017408 : UInt64) (FP.i2d (2 : Int32))))), .second, .val (.double (own_sc s0 s1)), .second] [(.int (2 : Int32))]
      refine XS.aloadN X399.here hx rfl (hb hby d12_29) rfl rfl ?_
      show Go p e below t T399 m 30 #[rv aa, .val (.double (f_sco  s0)), .second, rv b308, iv (2 : Int32), .val (.double (FP.dsub (4607182418800017408 : UInt64) (FP.ddiv (4607182418800017408 : UInt64) (FP.i2d (2 : Int32))))), .second, .val (.double (own_sc s0 s1)), .second] [(.ref b308), (.int (2 : Int32))]
      exact k)
    obtain ⟨cl402, Ar402, q402, S402, M402, H402, G402⟩ := id V399
    have g403 : Goes p e below S0 (T399.setTop (mkF m 101 #[rv aa, .val (.double (f_sco  s0)), .second, rv b308, iv (2 : Int32), .val (.double (FP.dsub (4607182418800017408 : UInt64) (FP.ddiv (4607182418800017408 : UInt64) (FP.i2d (2 : Int32))))), .second, .val (.double (own_sc s0 s1)), .second] [(.ref b308)])) := fun t k => g401 t (by
      refine X399.arraylength hx (by rw [e399]; exact Ar402.1) (State.isArrayOf_alike hZ.alike Ar402.2.1) (g := (mkF m 30 #[rv aa, .val (.double (f_sco  s0)), .second, rv b308, iv (2 : Int32), .val (.double (FP.dsub (4607182418800017408 : UInt64) (FP.ddiv (4607182418800017408 : UInt64) (FP.i2d (2 : Int32))))), .second, .val (.double (own_sc s0 s1)), .second] [(.ref b308), (.int (2 : Int32))])) rfl rfl (hb hby d12_30) _ ?_
      rw [len_of S402 M402]
      show Go p e below t T399 m 31 #[rv aa, .val (.double (f_sco  s0)), .second, rv b308, iv (2 : Int32), .val (.double (FP.dsub (4607182418800017408 : UInt64) (FP.ddiv (4607182418800017408 : UInt64) (FP.i2d (2 : Int32))))), .second, .val (.double (own_sc s0 s1)), .second] [(.int (2 : Int32)), (.int (2 : Int32))]
      refine XS.icmpYes X399.here hx rfl (pc0 := 31) (pc' := 100) rfl (hb hby d12_31) rfl (XT.ii_ge_t (by decide)) (by decide) (by decide) ?_
      show Go p e below t T399 m 100 #[rv aa, .val (.double (f_sco  s0)), .second, rv b308, iv (2 : Int32), .val (.double (FP.dsub (4607182418800017408 : UInt64) (FP.ddiv (4607182418800017408 : UInt64) (FP.i2d (2 : Int32))))), .second, .val (.double (own_sc s0 s1)), .second] []
      refine XS.aloadN X399.here hx rfl (hb hby d12_100) rfl rfl ?_
      show Go p e below t T399 m 101 #[rv aa, .val (.double (f_sco  s0)), .second, rv b308, iv (2 : Int32), .val (.double (FP.dsub (4607182418800017408 : UInt64) (FP.ddiv (4607182418800017408 : UInt64) (FP.i2d (2 : Int32))))), .second, .val (.double (own_sc s0 s1)), .second] [(.ref b308)]
      exact k)
    obtain ⟨fs, hr, hrun, hended, hW, hsame⟩ := X399.leave (v := some (.ref b308)) (fun h => by rw [Bd.returns] at h; cases h)
    refine ⟨_, _, g403 _ (retOut X399 hx Bd.returns rfl (Or.inr (Or.inr (Or.inr (Or.inr ⟨rfl, rfl, rfl⟩)))) (hb hby d12_101) hr), hrun, hended, _, _, rfl, ?_, ⟨_, rfl⟩, hW, hsame.mono (by decide) (by decide)⟩
    show Q_inp2 Z aa ea ek x0 x1 s0 s1 h0 n0 _ T399.heap _
    rw [e399]
    exact ⟨b308, k308, b371, b388, k371, k388, rfl, N399, ((((((((((Keep.refl h0 []).ext E308).ext E371).wr W375 (Or.inr sz371)).wr W379 (Or.inr sz371)).wr W382 (Or.inr sz308)).ext E388).wr W392 (Or.inr sz388)).wr W396 (Or.inr sz388)).wr W399 (Or.inr sz308)), sz308, sz371, sz388, V399, (((((V379.other W382 (Ne.symm (Nat.ne_of_lt (Nat.lt_of_lt_of_le Q308.lt (Nat.le_of_eq gb371.symm))))).ext E388).other W392 (Nat.ne_of_lt (Nat.lt_of_lt_of_le (((Q371.wr W375).wr W379).wr W382).lt (Nat.le_of_eq gb388.symm)))).other W396 (Nat.ne_of_lt (Nat.lt_of_lt_of_le (((Q371.wr W375).wr W379).wr W382).lt (Nat.le_of_eq gb388.symm)))).other W399 (Ne.symm (Nat.ne_of_lt (Nat.lt_of_lt_of_le Q308.lt (Nat.le_of_eq gb371.symm))))), (V396.other W399 (Ne.symm (Nat.ne_of_lt (Nat.lt_of_lt_of_le ((((Q308.ext E371).wr W375).wr W379).wr W382).lt (Nat.le_of_eq gb388.symm)))))⟩
theorem pf_inp3 : plainFor (⟨"com/example/nimble_retrieval/nimbleretrieval/runs/TrainedMerge", "inputs", "(Ljava/util/List;)[[D"⟩ : MethodName) = true := by first | exact plainFor_of_name (by first | (simp [plainName, overriddenIn, x]; done) | decide +kernel) | exact Jvm.Free.JP.mathPlain rfl (by decide +kernel) | decide +kernel
theorem ef_inp3 (m : MethodId) (aa : Addr) : entryFrame m #[(.ref aa)] 9 = mkF m 0 #[rv aa, .unset, .unset, .unset, .unset, .unset, .unset, .unset, .unset] [] := by first | (simp [entryFrame, mkF, argsToLocals, Value.category, maxLocals]; done) | rfl
def Q_inp3 (Z : State) (aa : Addr) (ea : Addr) (ek : ClassId) (x0 : Addr) (x1 : Addr) (x2 : Addr) (s0 : UInt64) (s1 : UInt64) (s2 : UInt64) (h0 : Heap) (n0 : Nat) (v : Option Value) (h : Heap) (L : List Loc) : Prop := ∃ (ta : Addr) (tk : ClassId) (d0 : Addr) (d1 : Addr) (d2 : Addr) (dk0 : ClassId) (dk1 : ClassId) (dk2 : ClassId), v = some (.ref ta) ∧ Fr n0 L ∧ (Keep h0 h []) ∧ (h0.size ≤ ta) ∧ (h0.size ≤ d0) ∧ (h0.size ≤ d1) ∧ (h0.size ≤ d2) ∧ (Arv Z h ta tk (.array .double) (3 : Int32) [(.ref d0), (.ref d1), (.ref d2)] .null) ∧ (Arv Z h d0 dk0 .double (2 : Int32) [(.double (FP.dsub (4607182418800017408 : UInt64) (FP.ddiv (4607182418800017408 : UInt64) (FP.i2d (1 : Int32))))), (.double (own_sc s0 s0))] (.double (0 : UInt64))) ∧ (Arv Z h d1 dk1 .double (2 : Int32) [(.double (FP.dsub (4607182418800017408 : UInt64) (FP.ddiv (4607182418800017408 : UInt64) (FP.i2d (2 : Int32))))), (.double (own_sc s0 s1))] (.double (0 : UInt64))) ∧ (Arv Z h d2 dk2 .double (2 : Int32) [(.double (FP.dsub (4607182418800017408 : UInt64) (FP.ddiv (4607182418800017408 : UInt64) (FP.i2d (3 : Int32))))), (.double (own_sc s0 s2))] (.double (0 : UInt64)))
set_option maxRecDepth 65536 in
set_option maxHeartbeats 40000000 in
theorem rm_inp3 (l : Launch) (Z : State) (a0 : Array Value) (hw : ∀ d ∈ tables_1, d.before a0 Z = true) (ws : List Jvm.Cond) (aa : Addr) (ea : Addr) (ek : ClassId) (x0 : Addr) (x1 : Addr) (x2 : Addr) (s0 : UInt64) (s1 : UInt64) (s2 : UInt64) (h0 : Heap) (n0 : Nat) (Z0 : n0 ≤ h0.size) (P0 : Exa Z h0 aa "java/util/ArrayList") (P1 : Fld Z h0 aa "java/util/ArrayList" "size" "I" (.int (3 : Int32))) (P2 : Fld Z h0 aa "java/util/ArrayList" "elementData" "[Ljava/lang/Object;" (.ref ea)) (P3 : Arv Z h0 ea ek (.object "java/lang/Object") (10 : Int32) [(.ref x0), (.ref x1), (.ref x2), .null, .null, .null, .null, .null, .null, .null] .null) (P4 : Exa Z h0 x0 "com/example/nimble_retrieval/nimbleretrieval/format/Run$Retrieved") (P5 : Fld Z h0 x0 "com/example/nimble_retrieval/nimbleretrieval/format/Run$Retrieved" "score" "D" (.double s0)) (P6 : Exa Z h0 x1 "com/example/nimble_retrieval/nimbleretrieval/format/Run$Retrieved") (P7 : Fld Z h0 x1 "com/example/nimble_retrieval/nimbleretrieval/format/Run$Retrieved" "score" "D" (.double s1)) (P8 : Exa Z h0 x2 "com/example/nimble_retrieval/nimbleretrieval/format/Run$Retrieved") (P9 : Fld Z h0 x2 "com/example/nimble_retrieval/nimbleretrieval/format/Run$Retrieved" "score" "D" (.double s2)) (fs0 : Jvm.Free.Fl.Fin64 s0) (fs1 : Jvm.Free.Fl.Fin64 s1) (fs2 : Jvm.Free.Fl.Fin64 s2)  :
    MetFree l (⟨"com/example/nimble_retrieval/nimbleretrieval/runs/TrainedMerge", "inputs", "(Ljava/util/List;)[[D"⟩ : MethodName) (head1 (Jvm.Cond.code (⟨"com/example/nimble_retrieval/nimbleretrieval/runs/TrainedMerge", "inputs", "(Ljava/util/List;)[[D"⟩ : MethodName) prog_52_method_4_code 9 (some (.array (.array .double))) :: ws) ({ frames := 3, cells := 4, slots := 9, locals := 60 } : Room)) (fun a U => a = #[(.ref aa)] ∧ Z.Warmed39 U.vm ∧ U.heap = h0) (fun _ _ _ _ _ => True) (fun _ U o U' => ∃ v L, o = .returned v ∧ Q_inp3 Z aa ea ek x0 x1 x2 s0 s1 s2 h0 n0 v U'.heap L ∧ FrameEnd U o U' L ({ frames := 3, cells := 4, slots := 9, locals := 60 } : Room).cells ({ frames := 3, cells := 4, slots := 9, locals := 60 } : Room).slots) := by
  refine MetFree.of_bodySF pf_inp3 hisR ?_
  intro p e s m args below meth c s₁ Bd hml0 hP hK
  obtain ⟨rfl, hZ, hh⟩ := hP
  have hx := Bd.exec
  have hby := Bd.bytes
  have hml : c.maxLocals = 9 := hml0
  have hown : s.vm.findClass "com/example/nimble_retrieval/nimbleretrieval/runs/TrainedMerge" = some m.cls := findClass_of_methodNamed Bd.named
  have hnm := (name_of_methodNamed Bd.named Bd.method).1
  have X0 : Stand p l e ({ frames := 3, cells := 4, slots := 9, locals := 60 } : Room) s m #[(.ref aa)] below meth c s₁ [] 0 0 := Stand.of_body Bd
  have e0 : s₁.heap = h0 := by rw [← hh, Bd.state]; rfl
  have N0 := Fr.nil n0
  obtain ⟨S0, hS0⟩ : ∃ z, z = s₁.setTop (entryFrame m #[(.ref aa)] 9) := ⟨_, rfl⟩
  rw [← hS0]
  have g0 : Goes p e below S0 (s₁.setTop (mkF m 0 #[rv aa, .unset, .unset, .unset, .unset, .unset, .unset, .unset, .unset] [])) := fun t k => by rw [hS0]; exact castTop (ef_inp3 m aa) k
  have g404 : Goes p e below S0 (s₁.setTop (mkF m 2 #[rv aa, .unset, .unset, .unset, .unset, .unset, .unset, .unset, .unset] [(.int (0 : Int32)), (.ref aa)])) := fun t k => g0 t (by
    refine XS.aloadN X0.here hx rfl (hb hby d12_0) rfl rfl ?_
    show Go p e below t s₁ m 1 #[rv aa, .unset, .unset, .unset, .unset, .unset, .unset, .unset, .unset] [(.ref aa)]
    refine XT.iconstV X0.here hx rfl (0 : Int32) (hb hby d12_1) (by decide) ?_
    show Go p e below t s₁ m 2 #[rv aa, .unset, .unset, .unset, .unset, .unset, .unset, .unset, .unset] [(.int (0 : Int32)), (.ref aa)]
    exact k)
  obtain ⟨cq405, kq405, q405a, q405b, q405c⟩ := isOf hZ e0 P0
  obtain ⟨_, _, ⟨T405, L405, k405, n405⟩, -, X405, ⟨Lc405, hQ405, l405, y405, z405⟩, st405⟩ := X0.interfaceBack hx (xi := (⟨"java/util/List", "get", "(I)Ljava/lang/Object;"⟩ : MethodName)) (y := (⟨"java/util/ArrayList", "get", "(I)Ljava/lang/Object;"⟩ : MethodName)) hown (mvT hZ (hw _ (List.mem_of_getElem? (i := 95) rfl))) (mvT hZ (hw _ (List.mem_of_getElem? (i := 96) rfl))) (mvT hZ (hw _ (List.mem_of_getElem? (i := 97) rfl))) (mvT hZ (hw _ (List.mem_of_getElem? (i := 98) rfl))) (mvT hZ (hw _ (List.mem_of_getElem? (i := 99) rfl))) (mvT hZ (hw _ (List.mem_of_getElem? (i := 100) rfl))) (mvT hZ (hw _ (List.mem_of_getElem? (i := 101) rfl))) (mvT hZ (hw _ (List.mem_of_getElem? (i := 65) rfl))) (by decide) (backOf (W := 0) (rm_get30 l Z a0 hw [] aa (0 : Int32) ea ek x0 x1 x2 h0 n0 Z0 P0 P1 P2 P3 rfl) hZ (hw _ (List.mem_of_getElem? (i := 102) rfl)) (hw _ (List.mem_of_getElem? (i := 10) rfl)) (by decide) (by decide)) q405a q405b q405c (g := (mkF m 2 #[rv aa, .unset, .unset, .unset, .unset, .unset, .unset, .unset, .unset] [(.int (0 : Int32)), (.ref aa)])) rfl (by rw [hml]; rfl) (Steps.refl _) (argsL := [(.int (0 : Int32))]) (rest := []) (lenOf pd9 rfl) rfl (by show 2 * 0 + _ ≤ _; exact Nat.le_of_eq rfl) (hb hby d12_2) (fun _ _ => ⟨rfl, e0, (by decide : 0 + 0 ≤ _), (by decide : 0 + 0 ≤ _)⟩)
  dsimp only [Pt.U, Pt.locs, Pt.cells, Pt.slots] at X405 l405 y405 z405 st405 hQ405
  subst l405 y405 z405
  obtain ⟨rfl, N405, R405_0⟩ := hQ405
  have M405 := Fr.app N0 N405
  have g406 : Goes p e below S0 (T405.setTop (mkF m 7 #[rv aa, .unset, .unset, .unset, .unset, .unset, .unset, .unset, .unset] [(.ref x0)])) := fun t k => g404 t (st405.trans k)
  obtain ⟨T407, X407, e407, st407⟩ := castY X405 hx hZ hown (hw _ (List.mem_of_getElem? (i := 116) rfl)) R405_0 (Ins.of_exa P4 (hw _ (List.mem_of_getElem? (i := 117) rfl))) (g := (mkF m 7 #[rv aa, .unset, .unset, .unset, .unset, .unset, .unset, .unset, .unset] [(.ref x0)])) rfl rfl (hb hby d12_7)
  have g408 : Goes p e below S0 (T407.setTop (mkF m 10 #[rv aa, .unset, .unset, .unset, .unset, .unset, .unset, .unset, .unset] [(.ref x0)])) := fun t k => g406 t (st407 t k)
  obtain ⟨cq409, kq409, q409a, q409b, q409c⟩ := isOf hZ e407 P4
  obtain ⟨_, _, ⟨T409, L409, k409, n409⟩, -, X409, ⟨Lc409, hQ409, l409, y409, z409⟩, st409⟩ := X407.virtualBack hx (y := (⟨"com/example/nimble_retrieval/nimbleretrieval/format/Run$Retrieved", "score", "()D"⟩ : MethodName)) (z := (⟨"com/example/nimble_retrieval/nimbleretrieval/format/Run$Retrieved", "score", "()D"⟩ : MethodName)) hown (mvT hZ (hw _ (List.mem_of_getElem? (i := 118) rfl))) (mvT hZ (hw _ (List.mem_of_getElem? (i := 119) rfl))) (notFace_of_selects (args := #[]) (mvT hZ (hw _ (List.mem_of_getElem? (i := 121) rfl)))) (mvT hZ (hw _ (List.mem_of_getElem? (i := 121) rfl))) (mvT hZ (hw _ (List.mem_of_getElem? (i := 120) rfl))) (by decide) (backOf (W := 0) (rm_sco l Z a0 hw [] x0 s0 h0 n0 Z0 P5) hZ (hw _ (List.mem_of_getElem? (i := 122) rfl)) (hw _ (List.mem_of_getElem? (i := 36) rfl)) (by decide) (by decide)) q409a q409c (g := (mkF m 10 #[rv aa, .unset, .unset, .unset, .unset, .unset, .unset, .unset, .unset] [(.ref x0)])) rfl (by rw [hml]; rfl) (Steps.refl _) (argsL := []) (rest := []) (lenOf pd10 rfl) rfl (by show 2 * 0 + _ ≤ _; exact Nat.le_of_eq rfl) (hb hby d12_10) (fun _ _ => ⟨rfl, e407, (by decide : 0 + 0 ≤ _), (by decide : 0 + 0 ≤ _)⟩)
  dsimp only [Pt.U, Pt.locs, Pt.cells, Pt.slots] at X409 l409 y409 z409 st409 hQ409
  subst l409 y409 z409
  obtain ⟨rfl, N409, e409⟩ := hQ409
  have M409 := Fr.app M405 N409
  have g410 : Goes p e below S0 (T409.setTop (mkF m 13 #[rv aa, .unset, .unset, .unset, .unset, .unset, .unset, .unset, .unset] [(.double (f_sco  s0))])) := fun t k => g408 t (st409.trans k)
  have g411 : Goes p e below S0 (T409.setTop (mkF m 15 #[rv aa, .val (.double (f_sco  s0)), .second, .unset, .unset, .unset, .unset, .unset, .unset] [(.ref aa)])) := fun t k => g410 t (by
    refine XS.dstoreN X409.here hx rfl (hb hby d12_13) rfl (l' := #[rv aa, .val (.double (f_sco  s0)), .second, .unset, .unset, .unset, .unset, .unset, .unset]) rfl ?_
    show Go p e below t T409 m 14 #[rv aa, .val (.double (f_sco  s0)), .second, .unset, .unset, .unset, .unset, .unset, .unset] []
    refine XS.aloadN X409.here hx rfl (hb hby d12_14) rfl rfl ?_
    show Go p e below t T409 m 15 #[rv aa, .val (.double (f_sco  s0)), .second, .unset, .unset, .unset, .unset, .unset, .unset] [(.ref aa)]
    exact k)
  obtain ⟨cq412, kq412, q412a, q412b, q412c⟩ := isOf hZ e409 P0
  obtain ⟨_, _, ⟨T412, L412, k412, n412⟩, -, X412, ⟨Lc412, hQ412, l412, y412, z412⟩, st412⟩ := X409.interfaceBack hx (xi := (⟨"java/util/List", "size", "()I"⟩ : MethodName)) (y := (⟨"java/util/ArrayList", "size", "()I"⟩ : MethodName)) hown (mvT hZ (hw _ (List.mem_of_getElem? (i := 123) rfl))) (mvT hZ (hw _ (List.mem_of_getElem? (i := 124) rfl))) (mvT hZ (hw _ (List.mem_of_getElem? (i := 125) rfl))) (mvT hZ (hw _ (List.mem_of_getElem? (i := 126) rfl))) (mvT hZ (hw _ (List.mem_of_getElem? (i := 127) rfl))) (mvT hZ (hw _ (List.mem_of_getElem? (i := 128) rfl))) (mvT hZ (hw _ (List.mem_of_getElem? (i := 129) rfl))) (mvT hZ (hw _ (List.mem_of_getElem? (i := 65) rfl))) (by decide) (backOf (W := 0) (rm_siz3 l Z a0 hw [] aa  h0 n0 Z0 P1) hZ (hw _ (List.mem_of_getElem? (i := 130) rfl)) (hw _ (List.mem_of_getElem? (i := 10) rfl)) (by decide) (by decide)) q412a q412b q412c (g := (mkF m 15 #[rv aa, .val (.double (f_sco  s0)), .second, .unset, .unset, .unset, .unset, .unset, .unset] [(.ref aa)])) rfl (by rw [hml]; rfl) (Steps.refl _) (argsL := []) (rest := []) (lenOf pd8 rfl) rfl (by show 2 * 0 + _ ≤ _; exact Nat.le_of_eq rfl) (hb hby d12_15) (fun _ _ => ⟨rfl, e409, (by decide : 0 + 0 ≤ _), (by decide : 0 + 0 ≤ _)⟩)
  dsimp only [Pt.U, Pt.locs, Pt.cells, Pt.slots] at X412 l412 y412 z412 st412 hQ412
  subst l412 y412 z412
  obtain ⟨rfl, N412, R412_0⟩ := hQ412
  have M412 := Fr.app M409 N412
  have g413 : Goes p e below S0 (T412.setTop (mkF m 20 #[rv aa, .val (.double (f_sco  s0)), .second, .unset, .unset, .unset, .unset, .unset, .unset] [(.int (3 : Int32))])) := fun t k => g411 t (st412.trans k)
  obtain ⟨T414, h414, k414, X414, e414, E414, A414, Q414, O414, st414⟩ := newRA X412 hx hZ hown (ty := .double) (C := "[D") (by decide) (hw _ (List.mem_of_getElem? (i := 131) rfl)) (hw _ (List.mem_of_getElem? (i := 132) rfl)) R412_0 (g := (mkF m 20 #[rv aa, .val (.double (f_sco  s0)), .second, .unset, .unset, .unset, .unset, .unset, .unset] [(.int (3 : Int32))])) rfl (hb hby d12_20) rfl (by decide) (cap := 3) (by decide) (by decide) (by decide) (by decide) (ad := "[[D") (by decide)
  obtain ⟨b414, gb414⟩ : ∃ z, z = h0.size := ⟨_, rfl⟩
  have sz414 : h0.size ≤ b414 := Nat.le_trans (Nat.le_refl _) (Nat.le_of_eq gb414.symm)
  have ng414 : n0 ≤ b414 := Nat.le_trans Z0 sz414
  rw [← gb414] at A414 st414 Q414
  have V414 : Arv Z h414 b414 k414 (.array .double) (3 : Int32) [.null, .null, .null] .null := (Arv.new A414 (by decide)).pad (pad_rep [] .null 3)
  have g415 : Goes p e below S0 (T414.setTop (mkF m 23 #[rv aa, .val (.double (f_sco  s0)), .second, .unset, .unset, .unset, .unset, .unset, .unset] [(.ref b414)])) := fun t k => g413 t (st414 t k)
  have g416 : Goes p e below S0 (T414.setTop (mkF m 30 #[rv aa, .val (.double (f_sco  s0)), .second, rv b414, iv (0 : Int32), .unset, .unset, .unset, .unset] [(.ref b414), (.int (0 : Int32))])) := fun t k => g415 t (by
    refine XS.astoreN X414.here hx rfl (hb hby d12_23) rfl rfl (l' := #[rv aa, .val (.double (f_sco  s0)), .second, rv b414, .unset, .unset, .unset, .unset, .unset]) rfl ?_
    show Go p e below t T414 m 24 #[rv aa, .val (.double (f_sco  s0)), .second, rv b414, .unset, .unset, .unset, .unset, .unset] []
    refine XT.iconstV X414.here hx rfl (0 : Int32) (hb hby d12_24) (by decide) ?_
    show Go p e below t T414 m 25 #[rv aa, .val (.double (f_sco  s0)), .second, rv b414, .unset, .unset, .unset, .unset, .unset] [(.int (0 : Int32))]
    refine XS.istore X414.here hx rfl (hb hby d12_25) rfl (l' := #[rv aa, .val (.double (f_sco  s0)), .second, rv b414, iv (0 : Int32), .unset, .unset, .unset, .unset]) rfl ?_
    show Go p e below t T414 m 27 #[rv aa, .val (.double (f_sco  s0)), .second, rv b414, iv (0 : Int32), .unset, .unset, .unset, .unset] []
    refine XS.iload X414.here hx rfl (hb hby d12_27) rfl ?_
    show Go p e below t T414 m 29 #[rv aa, .val (.double (f_sco  s0)), .second, rv b414, iv (0 : Int32), .unset, .unset, .unset, .unset] [(.int (0 : Int32))]
    refine XS.aloadN X414.here hx rfl (hb hby d12_29) rfl rfl ?_
    show Go p e below t T414 m 30 #[rv aa, .val (.double (f_sco  s0)), .second, rv b414, iv (0 : Int32), .unset, .unset, .unset, .unset] [(.ref b414), (.int (0 : Int32))]
    exact k)
  obtain ⟨cl417, Ar417, q417, S417, M417, H417, G417⟩ := id V414
  have g418 : Goes p e below S0 (T414.setTop (mkF m 48 #[rv aa, .val (.double (f_sco  s0)), .second, rv b414, iv (0 : Int32), .val (.double (FP.dsub (4607182418800017408 : UInt64) (FP.ddiv (4607182418800017408 : UInt64) (FP.i2d (1 : Int32))))), .second, .unset, .unset] [(.int (cmpValue (FP.dcmp (f_sco  s0) (0 : UInt64)) .l))])) := fun t k => g416 t (by
    refine X414.arraylength hx (by rw [e414]; exact Ar417.1) (State.isArrayOf_alike hZ.alike Ar417.2.1) (g := (mkF m 30 #[rv aa, .val (.double (f_sco  s0)), .second, rv b414, iv (0 : Int32), .unset, .unset, .unset, .unset] [(.ref b414), (.int (0 : Int32))])) rfl rfl (hb hby d12_30) _ ?_
    rw [len_of S417 M417]
    show Go p e below t T414 m 31 #[rv aa, .val (.double (f_sco  s0)), .second, rv b414, iv (0 : Int32), .unset, .unset, .unset, .unset] [(.int (3 : Int32)), (.int (0 : Int32))]
    refine XS.icmpNo X414.here hx rfl (hb hby d12_31) rfl (XT.ii_ge_f (by decide)) ?_
    show Go p e below t T414 m 34 #[rv aa, .val (.double (f_sco  s0)), .second, rv b414, iv (0 : Int32), .unset, .unset, .unset, .unset] []
    refine XS.dconst1 X414.here hx rfl (hb hby d12_34) (v := (4607182418800017408 : UInt64)) rfl ?_
    show Go p e below t T414 m 35 #[rv aa, .val (.double (f_sco  s0)), .second, rv b414, iv (0 : Int32), .unset, .unset, .unset, .unset] [(.double (4607182418800017408 : UInt64))]
    refine XS.dconst1 X414.here hx rfl (hb hby d12_35) (v := (4607182418800017408 : UInt64)) rfl ?_
    show Go p e below t T414 m 36 #[rv aa, .val (.double (f_sco  s0)), .second, rv b414, iv (0 : Int32), .unset, .unset, .unset, .unset] [(.double (4607182418800017408 : UInt64)), (.double (4607182418800017408 : UInt64))]
    refine XS.iload X414.here hx rfl (hb hby d12_36) rfl ?_
    show Go p e below t T414 m 38 #[rv aa, .val (.double (f_sco  s0)), .second, rv b414, iv (0 : Int32), .unset, .unset, .unset, .unset] [(.int (0 : Int32)), (.double (4607182418800017408 : UInt64)), (.double (4607182418800017408 : UInt64))]
    refine XT.iconstV X414.here hx rfl (1 : Int32) (hb hby d12_38) (by decide) ?_
    show Go p e below t T414 m 39 #[rv aa, .val (.double (f_sco  s0)), .second, rv b414, iv (0 : Int32), .unset, .unset, .unset, .unset] [(.int (1 : Int32)), (.int (0 : Int32)), (.double (4607182418800017408 : UInt64)), (.double (4607182418800017408 : UInt64))]
    refine XS.iadd X414.here hx rfl (hb hby d12_39) rfl ?_
    rw [show ((0 : Int32) + (1 : Int32)) = (1 : Int32) by decide]
    show Go p e below t T414 m 40 #[rv aa, .val (.double (f_sco  s0)), .second, rv b414, iv (0 : Int32), .unset, .unset, .unset, .unset] [(.int (1 : Int32)), (.double (4607182418800017408 : UInt64)), (.double (4607182418800017408 : UInt64))]
    refine XS.i2dS X414.here hx rfl (hb hby d12_40) rfl rfl ?_
    show Go p e below t T414 m 41 #[rv aa, .val (.double (f_sco  s0)), .second, rv b414, iv (0 : Int32), .unset, .unset, .unset, .unset] [(.double (FP.i2d (1 : Int32))), (.double (4607182418800017408 : UInt64)), (.double (4607182418800017408 : UInt64))]
    refine XS.ddivS X414.here hx rfl (hb hby d12_41) rfl (by unfold Jvm.Free.Fl.NoNaN64; decide +kernel) rfl ?_
    show Go p e below t T414 m 42 #[rv aa, .val (.double (f_sco  s0)), .second, rv b414, iv (0 : Int32), .unset, .unset, .unset, .unset] [(.double (FP.ddiv (4607182418800017408 : UInt64) (FP.i2d (1 : Int32)))), (.double (4607182418800017408 : UInt64))]
    refine XS.dsubS X414.here hx rfl (hb hby d12_42) rfl (by unfold Jvm.Free.Fl.NoNaN64; decide +kernel) rfl ?_
    show Go p e below t T414 m 43 #[rv aa, .val (.double (f_sco  s0)), .second, rv b414, iv (0 : Int32), .unset, .unset, .unset, .unset] [(.double (FP.dsub (4607182418800017408 : UInt64) (FP.ddiv (4607182418800017408 : UInt64) (FP.i2d (1 : Int32)))))]
    refine XS.dstore X414.here hx rfl (hb hby d12_43) rfl (l' := #[rv aa, .val (.double (f_sco  s0)), .second, rv b414, iv (0 : Int32), .val (.double (FP.dsub (4607182418800017408 : UInt64) (FP.ddiv (4607182418800017408 : UInt64) (FP.i2d (1 : Int32))))), .second, .unset, .unset]) rfl ?_
    show Go p e below t T414 m 45 #[rv aa, .val (.double (f_sco  s0)), .second, rv b414, iv (0 : Int32), .val (.double (FP.dsub (4607182418800017408 : UInt64) (FP.ddiv (4607182418800017408 : UInt64) (FP.i2d (1 : Int32))))), .second, .unset, .unset] []
    refine XS.dloadN X414.here hx rfl (hb hby d12_45) rfl ?_
    show Go p e below t T414 m 46 #[rv aa, .val (.double (f_sco  s0)), .second, rv b414, iv (0 : Int32), .val (.double (FP.dsub (4607182418800017408 : UInt64) (FP.ddiv (4607182418800017408 : UInt64) (FP.i2d (1 : Int32))))), .second, .unset, .unset] [(.double (f_sco  s0))]
    refine XS.dconst0 X414.here hx rfl (hb hby d12_46) (v := (0 : UInt64)) rfl ?_
    show Go p e below t T414 m 47 #[rv aa, .val (.double (f_sco  s0)), .second, rv b414, iv (0 : Int32), .val (.double (FP.dsub (4607182418800017408 : UInt64) (FP.ddiv (4607182418800017408 : UInt64) (FP.i2d (1 : Int32))))), .second, .unset, .unset] [(.double (0 : UInt64)), (.double (f_sco  s0))]
    refine XS.dcmpS X414.here hx rfl (hb hby d12_47) rfl rfl ?_
    show Go p e below t T414 m 48 #[rv aa, .val (.double (f_sco  s0)), .second, rv b414, iv (0 : Int32), .val (.double (FP.dsub (4607182418800017408 : UInt64) (FP.ddiv (4607182418800017408 : UInt64) (FP.i2d (1 : Int32))))), .second, .unset, .unset] [(.int (cmpValue (FP.dcmp (f_sco  s0) (0 : UInt64)) .l))]
    exact k)
  by_cases h419 : dLt (0 : UInt64) (f_sco  s0)
  · skip
    have g420 : Goes p e below S0 (T414.setTop (mkF m 54 #[rv aa, .val (.double (f_sco  s0)), .second, rv b414, iv (0 : Int32), .val (.double (FP.dsub (4607182418800017408 : UInt64) (FP.ddiv (4607182418800017408 : UInt64) (FP.i2d (1 : Int32))))), .second, .unset, .unset] [(.int (0 : Int32)), (.ref aa)])) := fun t k => g418 t (by
      refine XS.ifNo X414.here hx rfl (hb hby d12_48) rfl (dc_l_le_f h419) ?_
      show Go p e below t T414 m 51 #[rv aa, .val (.double (f_sco  s0)), .second, rv b414, iv (0 : Int32), .val (.double (FP.dsub (4607182418800017408 : UInt64) (FP.ddiv (4607182418800017408 : UInt64) (FP.i2d (1 : Int32))))), .second, .unset, .unset] []
      refine XS.aloadN X414.here hx rfl (hb hby d12_51) rfl rfl ?_
      show Go p e below t T414 m 52 #[rv aa, .val (.double (f_sco  s0)), .second, rv b414, iv (0 : Int32), .val (.double (FP.dsub (4607182418800017408 : UInt64) (FP.ddiv (4607182418800017408 : UInt64) (FP.i2d (1 : Int32))))), .second, .unset, .unset] [(.ref aa)]
      refine XS.iload X414.here hx rfl (hb hby d12_52) rfl ?_
      show Go p e below t T414 m 54 #[rv aa, .val (.double (f_sco  s0)), .second, rv b414, iv (0 : Int32), .val (.double (FP.dsub (4607182418800017408 : UInt64) (FP.ddiv (4607182418800017408 : UInt64) (FP.i2d (1 : Int32))))), .second, .unset, .unset] [(.int (0 : Int32)), (.ref aa)]
      exact k)
    obtain ⟨cq421, kq421, q421a, q421b, q421c⟩ := isOf hZ e414 (P0.ext E414)
    obtain ⟨_, _, ⟨T421, L421, k421, n421⟩, -, X421, ⟨Lc421, hQ421, l421, y421, z421⟩, st421⟩ := X414.interfaceBack hx (xi := (⟨"java/util/List", "get", "(I)Ljava/lang/Object;"⟩ : MethodName)) (y := (⟨"java/util/ArrayList", "get", "(I)Ljava/lang/Object;"⟩ : MethodName)) hown (mvT hZ (hw _ (List.mem_of_getElem? (i := 95) rfl))) (mvT hZ (hw _ (List.mem_of_getElem? (i := 96) rfl))) (mvT hZ (hw _ (List.mem_of_getElem? (i := 97) rfl))) (mvT hZ (hw _ (List.mem_of_getElem? (i := 98) rfl))) (mvT hZ (hw _ (List.mem_of_getElem? (i := 99) rfl))) (mvT hZ (hw _ (List.mem_of_getElem? (i := 100) rfl))) (mvT hZ (hw _ (List.mem_of_getElem? (i := 101) rfl))) (mvT hZ (hw _ (List.mem_of_getElem? (i := 65) rfl))) (by decide) (backOf (W := 0) (rm_get30 l Z a0 hw [] aa (0 : Int32) ea ek x0 x1 x2 h414 n0 (Nat.le_trans Z0 (Nat.le_trans (Nat.le_refl _) E414.1)) (P0.ext E414) (P1.ext E414) (P2.ext E414) (P3.ext E414) rfl) hZ (hw _ (List.mem_of_getElem? (i := 102) rfl)) (hw _ (List.mem_of_getElem? (i := 10) rfl)) (by decide) (by decide)) q421a q421b q421c (g := (mkF m 54 #[rv aa, .val (.double (f_sco  s0)), .second, rv b414, iv (0 : Int32), .val (.double (FP.dsub (4607182418800017408 : UInt64) (FP.ddiv (4607182418800017408 : UInt64) (FP.i2d (1 : Int32))))), .second, .unset, .unset] [(.int (0 : Int32)), (.ref aa)])) rfl (by rw [hml]; rfl) (Steps.refl _) (argsL := [(.int (0 : Int32))]) (rest := []) (lenOf pd9 rfl) rfl (by show 2 * 0 + _ ≤ _; exact Nat.le_of_eq rfl) (hb hby d12_54) (fun _ _ => ⟨rfl, e414, (by decide : 1 + 0 ≤ _), (by decide : 3 + 0 ≤ _)⟩)
    dsimp only [Pt.U, Pt.locs, Pt.cells, Pt.slots] at X421 l421 y421 z421 st421 hQ421
    subst l421 y421 z421
    obtain ⟨rfl, N421, R421_0⟩ := hQ421
    have M421 := Fr.app M412 N421
    have g422 : Goes p e below S0 (T421.setTop (mkF m 59 #[rv aa, .val (.double (f_sco  s0)), .second, rv b414, iv (0 : Int32), .val (.double (FP.dsub (4607182418800017408 : UInt64) (FP.ddiv (4607182418800017408 : UInt64) (FP.i2d (1 : Int32))))), .second, .unset, .unset] [(.ref x0)])) := fun t k => g420 t (st421.trans k)
    obtain ⟨T423, X423, e423, st423⟩ := castY X421 hx hZ hown (hw _ (List.mem_of_getElem? (i := 116) rfl)) R421_0 (Ins.of_exa (P4.ext E414) (hw _ (List.mem_of_getElem? (i := 117) rfl))) (g := (mkF m 59 #[rv aa, .val (.double (f_sco  s0)), .second, rv b414, iv (0 : Int32), .val (.double (FP.dsub (4607182418800017408 : UInt64) (FP.ddiv (4607182418800017408 : UInt64) (FP.i2d (1 : Int32))))), .second, .unset, .unset] [(.ref x0)])) rfl rfl (hb hby d12_59)
    have g424 : Goes p e below S0 (T423.setTop (mkF m 62 #[rv aa, .val (.double (f_sco  s0)), .second, rv b414, iv (0 : Int32), .val (.double (FP.dsub (4607182418800017408 : UInt64) (FP.ddiv (4607182418800017408 : UInt64) (FP.i2d (1 : Int32))))), .second, .unset, .unset] [(.ref x0)])) := fun t k => g422 t (st423 t k)
    obtain ⟨cq425, kq425, q425a, q425b, q425c⟩ := isOf hZ e423 (P4.ext E414)
    obtain ⟨_, _, ⟨T425, L425, k425, n425⟩, -, X425, ⟨Lc425, hQ425, l425, y425, z425⟩, st425⟩ := X423.virtualBack hx (y := (⟨"com/example/nimble_retrieval/nimbleretrieval/format/Run$Retrieved", "score", "()D"⟩ : MethodName)) (z := (⟨"com/example/nimble_retrieval/nimbleretrieval/format/Run$Retrieved", "score", "()D"⟩ : MethodName)) hown (mvT hZ (hw _ (List.mem_of_getElem? (i := 118) rfl))) (mvT hZ (hw _ (List.mem_of_getElem? (i := 119) rfl))) (notFace_of_selects (args := #[]) (mvT hZ (hw _ (List.mem_of_getElem? (i := 121) rfl)))) (mvT hZ (hw _ (List.mem_of_getElem? (i := 121) rfl))) (mvT hZ (hw _ (List.mem_of_getElem? (i := 120) rfl))) (by decide) (backOf (W := 0) (rm_sco l Z a0 hw [] x0 s0 h414 n0 (Nat.le_trans Z0 (Nat.le_trans (Nat.le_refl _) E414.1)) (P5.ext E414)) hZ (hw _ (List.mem_of_getElem? (i := 122) rfl)) (hw _ (List.mem_of_getElem? (i := 36) rfl)) (by decide) (by decide)) q425a q425c (g := (mkF m 62 #[rv aa, .val (.double (f_sco  s0)), .second, rv b414, iv (0 : Int32), .val (.double (FP.dsub (4607182418800017408 : UInt64) (FP.ddiv (4607182418800017408 : UInt64) (FP.i2d (1 : Int32))))), .second, .unset, .unset] [(.ref x0)])) rfl (by rw [hml]; rfl) (Steps.refl _) (argsL := []) (rest := []) (lenOf pd10 rfl) rfl (by show 2 * 0 + _ ≤ _; exact Nat.le_of_eq rfl) (hb hby d12_62) (fun _ _ => ⟨rfl, e423, (by decide : 1 + 0 ≤ _), (by decide : 3 + 0 ≤ _)⟩)
    dsimp only [Pt.U, Pt.locs, Pt.cells, Pt.slots] at X425 l425 y425 z425 st425 hQ425
    subst l425 y425 z425
    obtain ⟨rfl, N425, e425⟩ := hQ425
    have M425 := Fr.app M421 N425
    have g426 : Goes p e below S0 (T425.setTop (mkF m 65 #[rv aa, .val (.double (f_sco  s0)), .second, rv b414, iv (0 : Int32), .val (.double (FP.dsub (4607182418800017408 : UInt64) (FP.ddiv (4607182418800017408 : UInt64) (FP.i2d (1 : Int32))))), .second, .unset, .unset] [(.double (f_sco  s0))])) := fun t k => g424 t (st425.trans k)
    have g427 : Goes p e below S0 (T425.setTop (mkF m 66 #[rv aa, .val (.double (f_sco  s0)), .second, rv b414, iv (0 : Int32), .val (.double (FP.dsub (4607182418800017408 : UInt64) (FP.ddiv (4607182418800017408 : UInt64) (FP.i2d (1 : Int32))))), .second, .unset, .unset] [(.double (0 : UInt64)), (.double (f_sco  s0))])) := fun t k => g426 t (by
      refine XS.dconst0 X425.here hx rfl (hb hby d12_65) (v := (0 : UInt64)) rfl ?_
      show Go p e below t T425 m 66 #[rv aa, .val (.double (f_sco  s0)), .second, rv b414, iv (0 : Int32), .val (.double (FP.dsub (4607182418800017408 : UInt64) (FP.ddiv (4607182418800017408 : UInt64) (FP.i2d (1 : Int32))))), .second, .unset, .unset] [(.double (0 : UInt64)), (.double (f_sco  s0))]
      exact k)
    obtain ⟨T428, X428, e428, st428⟩ := natS X425 hx hZ (y := (⟨"java/lang/Math", "max", "(DD)D"⟩ : MethodName)) hown (hw _ (List.mem_of_getElem? (i := 133) rfl)) (hw _ (List.mem_of_getElem? (i := 134) rfl)) (hw _ (List.mem_of_getElem? (i := 3) rfl)) (hw _ (List.mem_of_getElem? (i := 135) rfl)) (by decide) e425 (W := 0) (fun c4 => Jvm.Free.Fl.Abs.maxD_pays (f_sco  s0) (0 : UInt64) c4 (by decide) (by decide)) (g := (mkF m 66 #[rv aa, .val (.double (f_sco  s0)), .second, rv b414, iv (0 : Int32), .val (.double (FP.dsub (4607182418800017408 : UInt64) (FP.ddiv (4607182418800017408 : UInt64) (FP.i2d (1 : Int32))))), .second, .unset, .unset] [(.double (0 : UInt64)), (.double (f_sco  s0))])) rfl (by rw [hml]; rfl) (argsL := [(.double (f_sco  s0)), (.double (0 : UInt64))]) (rest := []) (lenOf pd12 rfl) rfl (by show 2 * 0 + _ ≤ _; exact Nat.le_of_eq rfl) (hb hby d12_66) (Nat.le_of_ble_eq_true rfl) (Nat.le_of_ble_eq_true rfl) ⟨rfl, fs0.noNaN, (by unfold Jvm.Free.Fl.NoNaN64; decide +kernel)⟩ (val' := (.double (Native.java_lang_Math.nans.pick64 true (f_sco  s0) (0 : UInt64)))) rfl
    have g429 : Goes p e below S0 (T428.setTop (mkF m 69 #[rv aa, .val (.double (f_sco  s0)), .second, rv b414, iv (0 : Int32), .val (.double (FP.dsub (4607182418800017408 : UInt64) (FP.ddiv (4607182418800017408 : UInt64) (FP.i2d (1 : Int32))))), .second, .unset, .unset] [(.double (Native.java_lang_Math.nans.pick64 true (f_sco  s0) (0 : UInt64)))])) := fun t k => g427 t (st428 t k)
    have g430 : Goes p e below S0 (T428.setTop (mkF m 77 #[rv aa, .val (.double (f_sco  s0)), .second, rv b414, iv (0 : Int32), .val (.double (FP.dsub (4607182418800017408 : UInt64) (FP.ddiv (4607182418800017408 : UInt64) (FP.i2d (1 : Int32))))), .second, .val (.double (FP.ddiv (Native.java_lang_Math.nans.pick64 true (f_sco  s0) (0 : UInt64)) (f_sco  s0))), .second] [])) := fun t k => g429 t (by
      refine XS.dloadN X428.here hx rfl (hb hby d12_69) rfl ?_
      show Go p e below t T428 m 70 #[rv aa, .val (.double (f_sco  s0)), .second, rv b414, iv (0 : Int32), .val (.double (FP.dsub (4607182418800017408 : UInt64) (FP.ddiv (4607182418800017408 : UInt64) (FP.i2d (1 : Int32))))), .second, .unset, .unset] [(.double (f_sco  s0)), (.double (Native.java_lang_Math.nans.pick64 true (f_sco  s0) (0 : UInt64)))]
      refine XS.ddivS X428.here hx rfl (hb hby d12_70) rfl (own_nnd fs0 fs0 h419) rfl ?_
      show Go p e below t T428 m 71 #[rv aa, .val (.double (f_sco  s0)), .second, rv b414, iv (0 : Int32), .val (.double (FP.dsub (4607182418800017408 : UInt64) (FP.ddiv (4607182418800017408 : UInt64) (FP.i2d (1 : Int32))))), .second, .unset, .unset] [(.double (FP.ddiv (Native.java_lang_Math.nans.pick64 true (f_sco  s0) (0 : UInt64)) (f_sco  s0)))]
      refine XS.goto X428.here hx rfl (pc0 := 71) (pc' := 75) rfl (hb hby d12_71) (by decide) (by decide) ?_
      show Go p e below t T428 m 75 #[rv aa, .val (.double (f_sco  s0)), .second, rv b414, iv (0 : Int32), .val (.double (FP.dsub (4607182418800017408 : UInt64) (FP.ddiv (4607182418800017408 : UInt64) (FP.i2d (1 : Int32))))), .second, .unset, .unset] [(.double (FP.ddiv (Native.java_lang_Math.nans.pick64 true (f_sco  s0) (0 : UInt64)) (f_sco  s0)))]
      refine XS.dstore X428.here hx rfl (hb hby d12_75) rfl (l' := #[rv aa, .val (.double (f_sco  s0)), .second, rv b414, iv (0 : Int32), .val (.double (FP.dsub (4607182418800017408 : UInt64) (FP.ddiv (4607182418800017408 : UInt64) (FP.i2d (1 : Int32))))), .second, .val (.double (FP.ddiv (Native.java_lang_Math.nans.pick64 true (f_sco  s0) (0 : UInt64)) (f_sco  s0))), .second]) rfl ?_
      show Go p e below t T428 m 77 #[rv aa, .val (.double (f_sco  s0)), .second, rv b414, iv (0 : Int32), .val (.double (FP.dsub (4607182418800017408 : UInt64) (FP.ddiv (4607182418800017408 : UInt64) (FP.i2d (1 : Int32))))), .second, .val (.double (FP.ddiv (Native.java_lang_Math.nans.pick64 true (f_sco  s0) (0 : UInt64)) (f_sco  s0))), .second] []
      exact k)
    rw [show (FP.ddiv (Native.java_lang_Math.nans.pick64 true (f_sco  s0) (0 : UInt64)) (f_sco  s0)) = (own_sc s0 s0) from (if_pos h419).symm] at g430
    have g431 : Goes p e below S0 (T428.setTop (mkF m 81 #[rv aa, .val (.double (f_sco  s0)), .second, rv b414, iv (0 : Int32), .val (.double (FP.dsub (4607182418800017408 : UInt64) (FP.ddiv (4607182418800017408 : UInt64) (FP.i2d (1 : Int32))))), .second, .val (.double (own_sc s0 s0)), .second] [(.int (2 : Int32)), (.int (0 : Int32)), (.ref b414)])) := fun t k => g430 t (by
      refine XS.aloadN X428.here hx rfl (hb hby d12_77) rfl rfl ?_
      show Go p e below t T428 m 78 #[rv aa, .val (.double (f_sco  s0)), .second, rv b414, iv (0 : Int32), .val (.double (FP.dsub (4607182418800017408 : UInt64) (FP.ddiv (4607182418800017408 : UInt64) (FP.i2d (1 : Int32))))), .second, .val (.double (own_sc s0 s0)), .second] [(.ref b414)]
      refine XS.iload X428.here hx rfl (hb hby d12_78) rfl ?_
      show Go p e below t T428 m 80 #[rv aa, .val (.double (f_sco  s0)), .second, rv b414, iv (0 : Int32), .val (.double (FP.dsub (4607182418800017408 : UInt64) (FP.ddiv (4607182418800017408 : UInt64) (FP.i2d (1 : Int32))))), .second, .val (.double (own_sc s0 s0)), .second] [(.int (0 : Int32)), (.ref b414)]
      refine XT.iconstV X428.here hx rfl (2 : Int32) (hb hby d12_80) (by decide) ?_
      show Go p e below t T428 m 81 #[rv aa, .val (.double (f_sco  s0)), .second, rv b414, iv (0 : Int32), .val (.double (FP.dsub (4607182418800017408 : UInt64) (FP.ddiv (4607182418800017408 : UInt64) (FP.i2d (1 : Int32))))), .second, .val (.double (own_sc s0 s0)), .second] [(.int (2 : Int32)), (.int (0 : Int32)), (.ref b414)]
      exact k)
    obtain ⟨T432, h432, k432, X432, e432, E432, A432, Q432, st432⟩ := newPE X428 hx hZ (hw _ (List.mem_of_getElem? (i := 136) rfl)) e428 (g := (mkF m 81 #[rv aa, .val (.double (f_sco  s0)), .second, rv b414, iv (0 : Int32), .val (.double (FP.dsub (4607182418800017408 : UInt64) (FP.ddiv (4607182418800017408 : UInt64) (FP.i2d (1 : Int32))))), .second, .val (.double (own_sc s0 s0)), .second] [(.int (2 : Int32)), (.int (0 : Int32)), (.ref b414)])) rfl (hb hby d12_81) rfl (by decide) (cap := 2) (by decide) (by decide) (by decide) (by decide) (ad := "[D") (by decide)
    obtain ⟨b432, gb432⟩ : ∃ z, z = h414.size := ⟨_, rfl⟩
    have sz432 : h0.size ≤ b432 := Nat.le_trans (Nat.le_trans (Nat.le_refl _) E414.1) (Nat.le_of_eq gb432.symm)
    have ng432 : n0 ≤ b432 := Nat.le_trans Z0 sz432
    rw [← gb432] at A432 st432 Q432
    have V432 : Arv Z h432 b432 k432 .double (2 : Int32) [(.double (0 : UInt64)), (.double (0 : UInt64))] (.double (0 : UInt64)) := (Arv.new A432 (by decide)).pad (pad_rep [] (.double (0 : UInt64)) 2)
    have g433 : Goes p e below S0 (T432.setTop (mkF m 83 #[rv aa, .val (.double (f_sco  s0)), .second, rv b414, iv (0 : Int32), .val (.double (FP.dsub (4607182418800017408 : UInt64) (FP.ddiv (4607182418800017408 : UInt64) (FP.i2d (1 : Int32))))), .second, .val (.double (own_sc s0 s0)), .second] [(.ref b432), (.int (0 : Int32)), (.ref b414)])) := fun t k => g431 t (st432 t k)
    have g434 : Goes p e below S0 (T432.setTop (mkF m 87 #[rv aa, .val (.double (f_sco  s0)), .second, rv b414, iv (0 : Int32), .val (.double (FP.dsub (4607182418800017408 : UInt64) (FP.ddiv (4607182418800017408 : UInt64) (FP.i2d (1 : Int32))))), .second, .val (.double (own_sc s0 s0)), .second] [(.double (FP.dsub (4607182418800017408 : UInt64) (FP.ddiv (4607182418800017408 : UInt64) (FP.i2d (1 : Int32))))), (.int (0 : Int32)), (.ref b432), (.ref b432), (.int (0 : Int32)), (.ref b414)])) := fun t k => g433 t (by
      refine XS.dup X432.here hx rfl (hb hby d12_83) rfl rfl ?_
      show Go p e below t T432 m 84 #[rv aa, .val (.double (f_sco  s0)), .second, rv b414, iv (0 : Int32), .val (.double (FP.dsub (4607182418800017408 : UInt64) (FP.ddiv (4607182418800017408 : UInt64) (FP.i2d (1 : Int32))))), .second, .val (.double (own_sc s0 s0)), .second] [(.ref b432), (.ref b432), (.int (0 : Int32)), (.ref b414)]
      refine XT.iconstV X432.here hx rfl (0 : Int32) (hb hby d12_84) (by decide) ?_
      show Go p e below t T432 m 85 #[rv aa, .val (.double (f_sco  s0)), .second, rv b414, iv (0 : Int32), .val (.double (FP.dsub (4607182418800017408 : UInt64) (FP.ddiv (4607182418800017408 : UInt64) (FP.i2d (1 : Int32))))), .second, .val (.double (own_sc s0 s0)), .second] [(.int (0 : Int32)), (.ref b432), (.ref b432), (.int (0 : Int32)), (.ref b414)]
      refine XS.dload X432.here hx rfl (hb hby d12_85) rfl ?_
      show Go p e below t T432 m 87 #[rv aa, .val (.double (f_sco  s0)), .second, rv b414, iv (0 : Int32), .val (.double (FP.dsub (4607182418800017408 : UInt64) (FP.ddiv (4607182418800017408 : UInt64) (FP.i2d (1 : Int32))))), .second, .val (.double (own_sc s0 s0)), .second] [(.double (FP.dsub (4607182418800017408 : UInt64) (FP.ddiv (4607182418800017408 : UInt64) (FP.i2d (1 : Int32))))), (.int (0 : Int32)), (.ref b432), (.ref b432), (.int (0 : Int32)), (.ref b414)]
      exact k)
    obtain ⟨cl435, Ar435, q435, S435, M435, H435, G435⟩ := id V432
    obtain ⟨T436, h436, X436, e436, W436, st436⟩ := stD X432 hx hZ e432 Ar435 (j := (0 : Int32)) (inb_of S435 ⟨by decide, by decide⟩) (g := (mkF m 87 #[rv aa, .val (.double (f_sco  s0)), .second, rv b414, iv (0 : Int32), .val (.double (FP.dsub (4607182418800017408 : UInt64) (FP.ddiv (4607182418800017408 : UInt64) (FP.i2d (1 : Int32))))), .second, .val (.double (own_sc s0 s0)), .second] [(.double (FP.dsub (4607182418800017408 : UInt64) (FP.ddiv (4607182418800017408 : UInt64) (FP.i2d (1 : Int32))))), (.int (0 : Int32)), (.ref b432), (.ref b432), (.int (0 : Int32)), (.ref b414)])) rfl rfl (hb hby d12_87)
    have N436 := Fr.snoc X436 M425 ng432
    have V436 : Arv Z h436 b432 k432 .double (2 : Int32) [(.double (FP.dsub (4607182418800017408 : UInt64) (FP.ddiv (4607182418800017408 : UInt64) (FP.i2d (1 : Int32))))), (.double (0 : UInt64))] (.double (0 : UInt64)) := Arv.set Ar435 q435 S435 M435 H435 G435 rfl W436 0 rfl (Nat.le_of_ble_eq_true rfl)
    have g437 : Goes p e below S0 (T436.setTop (mkF m 88 #[rv aa, .val (.double (f_sco  s0)), .second, rv b414, iv (0 : Int32), .val (.double (FP.dsub (4607182418800017408 : UInt64) (FP.ddiv (4607182418800017408 : UInt64) (FP.i2d (1 : Int32))))), .second, .val (.double (own_sc s0 s0)), .second] [(.ref b432), (.int (0 : Int32)), (.ref b414)])) := fun t k => g434 t (st436 t k)
    have g438 : Goes p e below S0 (T436.setTop (mkF m 92 #[rv aa, .val (.double (f_sco  s0)), .second, rv b414, iv (0 : Int32), .val (.double (FP.dsub (4607182418800017408 : UInt64) (FP.ddiv (4607182418800017408 : UInt64) (FP.i2d (1 : Int32))))), .second, .val (.double (own_sc s0 s0)), .second] [(.double (own_sc s0 s0)), (.int (1 : Int32)), (.ref b432), (.ref b432), (.int (0 : Int32)), (.ref b414)])) := fun t k => g437 t (by
      refine XS.dup X436.here hx rfl (hb hby d12_88) rfl rfl ?_
      show Go p e below t T436 m 89 #[rv aa, .val (.double (f_sco  s0)), .second, rv b414, iv (0 : Int32), .val (.double (FP.dsub (4607182418800017408 : UInt64) (FP.ddiv (4607182418800017408 : UInt64) (FP.i2d (1 : Int32))))), .second, .val (.double (own_sc s0 s0)), .second] [(.ref b432), (.ref b432), (.int (0 : Int32)), (.ref b414)]
      refine XT.iconstV X436.here hx rfl (1 : Int32) (hb hby d12_89) (by decide) ?_
      show Go p e below t T436 m 90 #[rv aa, .val (.double (f_sco  s0)), .second, rv b414, iv (0 : Int32), .val (.double (FP.dsub (4607182418800017408 : UInt64) (FP.ddiv (4607182418800017408 : UInt64) (FP.i2d (1 : Int32))))), .second, .val (.double (own_sc s0 s0)), .second] [(.int (1 : Int32)), (.ref b432), (.ref b432), (.int (0 : Int32)), (.ref b414)]
      refine XS.dload X436.here hx rfl (hb hby d12_90) rfl ?_
      show Go p e below t T436 m 92 #[rv aa, .val (.double (f_sco  s0)), .second, rv b414, iv (0 : Int32), .val (.double (FP.dsub (4607182418800017408 : UInt64) (FP.ddiv (4607182418800017408 : UInt64) (FP.i2d (1 : Int32))))), .second, .val (.double (own_sc s0 s0)), .second] [(.double (own_sc s0 s0)), (.int (1 : Int32)), (.ref b432), (.ref b432), (.int (0 : Int32)), (.ref b414)]
      exact k)
    obtain ⟨cl439, Ar439, q439, S439, M439, H439, G439⟩ := id V436
    obtain ⟨T440, h440, X440, e440, W440, st440⟩ := stD X436 hx hZ e436 Ar439 (j := (1 : Int32)) (inb_of S439 ⟨by decide, by decide⟩) (g := (mkF m 92 #[rv aa, .val (.double (f_sco  s0)), .second, rv b414, iv (0 : Int32), .val (.double (FP.dsub (4607182418800017408 : UInt64) (FP.ddiv (4607182418800017408 : UInt64) (FP.i2d (1 : Int32))))), .second, .val (.double (own_sc s0 s0)), .second] [(.double (own_sc s0 s0)), (.int (1 : Int32)), (.ref b432), (.ref b432), (.int (0 : Int32)), (.ref b414)])) rfl rfl (hb hby d12_92)
    have N440 := Fr.snoc X440 N436 ng432
    have V440 : Arv Z h440 b432 k432 .double (2 : Int32) [(.double (FP.dsub (4607182418800017408 : UInt64) (FP.ddiv (4607182418800017408 : UInt64) (FP.i2d (1 : Int32))))), (.double (own_sc s0 s0))] (.double (0 : UInt64)) := Arv.set Ar439 q439 S439 M439 H439 G439 rfl W440 1 rfl (Nat.le_of_ble_eq_true rfl)
    have g441 : Goes p e below S0 (T440.setTop (mkF m 93 #[rv aa, .val (.double (f_sco  s0)), .second, rv b414, iv (0 : Int32), .val (.double (FP.dsub (4607182418800017408 : UInt64) (FP.ddiv (4607182418800017408 : UInt64) (FP.i2d (1 : Int32))))), .second, .val (.double (own_sc s0 s0)), .second] [(.ref b432), (.int (0 : Int32)), (.ref b414)])) := fun t k => g438 t (st440 t k)
    obtain ⟨cl442, Ar442, q442, S442, M442, H442, G442⟩ := id (((V414.ext E432).other W436 (Nat.ne_of_lt (Nat.lt_of_lt_of_le V414.lt (Nat.le_of_eq gb432.symm)))).other W440 (Nat.ne_of_lt (Nat.lt_of_lt_of_le V414.lt (Nat.le_of_eq gb432.symm))))
    obtain ⟨T443, h443, X443, e443, W443, st443⟩ := stR X440 hx hZ e440 Ar442 (j := (0 : Int32)) (inb_of S442 ⟨by decide, by decide⟩) rfl (Sto.ofVA Ar442 q442 O414 (Ins.of_exa ((Q432.wr W436).wr W440) (hw _ (List.mem_of_getElem? (i := 137) rfl)))) (g := (mkF m 93 #[rv aa, .val (.double (f_sco  s0)), .second, rv b414, iv (0 : Int32), .val (.double (FP.dsub (4607182418800017408 : UInt64) (FP.ddiv (4607182418800017408 : UInt64) (FP.i2d (1 : Int32))))), .second, .val (.double (own_sc s0 s0)), .second] [(.ref b432), (.int (0 : Int32)), (.ref b414)])) rfl rfl (hb hby d12_93)
    have N443 := Fr.snoc X443 N440 ng414
    have V443 : Arv Z h443 b414 k414 (.array .double) (3 : Int32) [(.ref b432), .null, .null] .null := Arv.set Ar442 q442 S442 M442 H442 G442 rfl W443 0 rfl (Nat.le_of_ble_eq_true rfl)
    have g444 : Goes p e below S0 (T443.setTop (mkF m 94 #[rv aa, .val (.double (f_sco  s0)), .second, rv b414, iv (0 : Int32), .val (.double (FP.dsub (4607182418800017408 : UInt64) (FP.ddiv (4607182418800017408 : UInt64) (FP.i2d (1 : Int32))))), .second, .val (.double (own_sc s0 s0)), .second] [])) := fun t k => g441 t (st443 t k)
    have g445 : Goes p e below S0 (T443.setTop (mkF m 30 #[rv aa, .val (.double (f_sco  s0)), .second, rv b414, iv (1 : Int32), .val (.double (FP.dsub (4607182418800017408 : UInt64) (FP.ddiv (4607182418800017408 : UInt64) (FP.i2d (1 : Int32))))), .second, .val (.double (own_sc s0 s0)), .second] [(.ref b414), (.int (1 : Int32))])) := fun t k => g444 t (by
      refine XT.iincV X443.here hx rfl (1 : Int32) (hb hby d12_94) (by decide) rfl (l' := #[rv aa, .val (.double (f_sco  s0)), .second, rv b414, iv (1 : Int32), .val (.double (FP.dsub (4607182418800017408 : UInt64) (FP.ddiv (4607182418800017408 : UInt64) (FP.i2d (1 : Int32))))), .second, .val (.double (own_sc s0 s0)), .second]) rfl ?_
      show Go p e below t T443 m 97 #[rv aa, .val (.double (f_sco  s0)), .second, rv b414, iv (1 : Int32), .val (.double (FP.dsub (4607182418800017408 : UInt64) (FP.ddiv (4607182418800017408 : UInt64) (FP.i2d (1 : Int32))))), .second, .val (.double (own_sc s0 s0)), .second] []
      refine XS.goto X443.here hx rfl (pc0 := 97) (pc' := 27) rfl (hb hby d12_97) (by decide) (by decide) ?_
      show Go p e below t T443 m 27 #[rv aa, .val (.double (f_sco  s0)), .second, rv b414, iv (1 : Int32), .val (.double (FP.dsub (4607182418800017408 : UInt64) (FP.ddiv (4607182418800017408 : UInt64) (FP.i2d (1 : Int32))))), .second, .val (.double (own_sc s0 s0)), .second] []
      refine XS.iload X443.here hx rfl (hb hby d12_27) rfl ?_
      show Go p e below t T443 m 29 #[rv aa, .val (.double (f_sco  s0)), .second, rv b414, iv (1 : Int32), .val (.double (FP.dsub (4607182418800017408 : UInt64) (FP.ddiv (4607182418800017408 : UInt64) (FP.i2d (1 : Int32))))), .second, .val (.double (own_sc s0 s0)), .second] [(.int (1 : Int32))]
      refine XS.aloadN X443.here hx rfl (hb hby d12_29) rfl rfl ?_
      show Go p e below t T443 m 30 #[rv aa, .val (.double (f_sco  s0)), .second, rv b414, iv (1 : Int32), .val (.double (FP.dsub (4607182418800017408 : UInt64) (FP.ddiv (4607182418800017408 : UInt64) (FP.i2d (1 : Int32))))), .second, .val (.double (own_sc s0 s0)), .second] [(.ref b414), (.int (1 : Int32))]
      exact k)
    obtain ⟨cl446, Ar446, q446, S446, M446, H446, G446⟩ := id V443
    have g447 : Goes p e below S0 (T443.setTop (mkF m 54 #[rv aa, .val (.double (f_sco  s0)), .second, rv b414, iv (1 : Int32), .val (.double (FP.dsub (4607182418800017408 : UInt64) (FP.ddiv (4607182418800017408 : UInt64) (FP.i2d (2 : Int32))))), .second, .val (.double (own_sc s0 s0)), .second] [(.int (1 : Int32)), (.ref aa)])) := fun t k => g445 t (by
      refine X443.arraylength hx (by rw [e443]; exact Ar446.1) (State.isArrayOf_alike hZ.alike Ar446.2.1) (g := (mkF m 30 #[rv aa, .val (.double (f_sco  s0)), .second, rv b414, iv (1 : Int32), .val (.double (FP.dsub (4607182418800017408 : UInt64) (FP.ddiv (4607182418800017408 : UInt64) (FP.i2d (1 : Int32))))), .second, .val (.double (own_sc s0 s0)), .second] [(.ref b414), (.int (1 : Int32))])) rfl rfl (hb hby d12_30) _ ?_
      rw [len_of S446 M446]
      show Go p e below t T443 m 31 #[rv aa, .val (.double (f_sco  s0)), .second, rv b414, iv (1 : Int32), .val (.double (FP.dsub (4607182418800017408 : UInt64) (FP.ddiv (4607182418800017408 : UInt64) (FP.i2d (1 : Int32))))), .second, .val (.double (own_sc s0 s0)), .second] [(.int (3 : Int32)), (.int (1 : Int32))]
      refine XS.icmpNo X443.here hx rfl (hb hby d12_31) rfl (XT.ii_ge_f (by decide)) ?_
      show Go p e below t T443 m 34 #[rv aa, .val (.double (f_sco  s0)), .second, rv b414, iv (1 : Int32), .val (.double (FP.dsub (4607182418800017408 : UInt64) (FP.ddiv (4607182418800017408 : UInt64) (FP.i2d (1 : Int32))))), .second, .val (.double (own_sc s0 s0)), .second] []
      refine XS.dconst1 X443.here hx rfl (hb hby d12_34) (v := (4607182418800017408 : UInt64)) rfl ?_
      show Go p e below t T443 m 35 #[rv aa, .val (.double (f_sco  s0)), .second, rv b414, iv (1 : Int32), .val (.double (FP.dsub (4607182418800017408 : UInt64) (FP.ddiv (4607182418800017408 : UInt64) (FP.i2d (1 : Int32))))), .second, .val (.double (own_sc s0 s0)), .second] [(.double (4607182418800017408 : UInt64))]
      refine XS.dconst1 X443.here hx rfl (hb hby d12_35) (v := (4607182418800017408 : UInt64)) rfl ?_
      show Go p e below t T443 m 36 #[rv aa, .val (.double (f_sco  s0)), .second, rv b414, iv (1 : Int32), .val (.double (FP.dsub (4607182418800017408 : UInt64) (FP.ddiv (4607182418800017408 : UInt64) (FP.i2d (1 : Int32))))), .second, .val (.double (own_sc s0 s0)), .second] [(.double (4607182418800017408 : UInt64)), (.double (4607182418800017408 : UInt64))]
      refine XS.iload X443.here hx rfl (hb hby d12_36) rfl ?_
      show Go p e below t T443 m 38 #[rv aa, .val (.double (f_sco  s0)), .second, rv b414, iv (1 : Int32), .val (.double (FP.dsub (4607182418800017408 : UInt64) (FP.ddiv (4607182418800017408 : UInt64) (FP.i2d (1 : Int32))))), .second, .val (.double (own_sc s0 s0)), .second] [(.int (1 : Int32)), (.double (4607182418800017408 : UInt64)), (.double (4607182418800017408 : UInt64))]
      refine XT.iconstV X443.here hx rfl (1 : Int32) (hb hby d12_38) (by decide) ?_
      show Go p e below t T443 m 39 #[rv aa, .val (.double (f_sco  s0)), .second, rv b414, iv (1 : Int32), .val (.double (FP.dsub (4607182418800017408 : UInt64) (FP.ddiv (4607182418800017408 : UInt64) (FP.i2d (1 : Int32))))), .second, .val (.double (own_sc s0 s0)), .second] [(.int (1 : Int32)), (.int (1 : Int32)), (.double (4607182418800017408 : UInt64)), (.double (4607182418800017408 : UInt64))]
      refine XS.iadd X443.here hx rfl (hb hby d12_39) rfl ?_
      rw [show ((1 : Int32) + (1 : Int32)) = (2 : Int32) by decide]
      show Go p e below t T443 m 40 #[rv aa, .val (.double (f_sco  s0)), .second, rv b414, iv (1 : Int32), .val (.double (FP.dsub (4607182418800017408 : UInt64) (FP.ddiv (4607182418800017408 : UInt64) (FP.i2d (1 : Int32))))), .second, .val (.double (own_sc s0 s0)), .second] [(.int (2 : Int32)), (.double (4607182418800017408 : UInt64)), (.double (4607182418800017408 : UInt64))]
      refine XS.i2dS X443.here hx rfl (hb hby d12_40) rfl rfl ?_
      show Go p e below t T443 m 41 #[rv aa, .val (.double (f_sco  s0)), .second, rv b414, iv (1 : Int32), .val (.double (FP.dsub (4607182418800017408 : UInt64) (FP.ddiv (4607182418800017408 : UInt64) (FP.i2d (1 : Int32))))), .second, .val (.double (own_sc s0 s0)), .second] [(.double (FP.i2d (2 : Int32))), (.double (4607182418800017408 : UInt64)), (.double (4607182418800017408 : UInt64))]
      refine XS.ddivS X443.here hx rfl (hb hby d12_41) rfl (by unfold Jvm.Free.Fl.NoNaN64; decide +kernel) rfl ?_
      show Go p e below t T443 m 42 #[rv aa, .val (.double (f_sco  s0)), .second, rv b414, iv (1 : Int32), .val (.double (FP.dsub (4607182418800017408 : UInt64) (FP.ddiv (4607182418800017408 : UInt64) (FP.i2d (1 : Int32))))), .second, .val (.double (own_sc s0 s0)), .second] [(.double (FP.ddiv (4607182418800017408 : UInt64) (FP.i2d (2 : Int32)))), (.double (4607182418800017408 : UInt64))]
      refine XS.dsubS X443.here hx rfl (hb hby d12_42) rfl (by unfold Jvm.Free.Fl.NoNaN64; decide +kernel) rfl ?_
      show Go p e below t T443 m 43 #[rv aa, .val (.double (f_sco  s0)), .second, rv b414, iv (1 : Int32), .val (.double (FP.dsub (4607182418800017408 : UInt64) (FP.ddiv (4607182418800017408 : UInt64) (FP.i2d (1 : Int32))))), .second, .val (.double (own_sc s0 s0)), .second] [(.double (FP.dsub (4607182418800017408 : UInt64) (FP.ddiv (4607182418800017408 : UInt64) (FP.i2d (2 : Int32)))))]
      refine XS.dstore X443.here hx rfl (hb hby d12_43) rfl (l' := #[rv aa, .val (.double (f_sco  s0)), .second, rv b414, iv (1 : Int32), .val (.double (FP.dsub (4607182418800017408 : UInt64) (FP.ddiv (4607182418800017408 : UInt64) (FP.i2d (2 : Int32))))), .second, .val (.double (own_sc s0 s0)), .second]) rfl ?_
      show Go p e below t T443 m 45 #[rv aa, .val (.double (f_sco  s0)), .second, rv b414, iv (1 : Int32), .val (.double (FP.dsub (4607182418800017408 : UInt64) (FP.ddiv (4607182418800017408 : UInt64) (FP.i2d (2 : Int32))))), .second, .val (.double (own_sc s0 s0)), .second] []
      refine XS.dloadN X443.here hx rfl (hb hby d12_45) rfl ?_
      show Go p e below t T443 m 46 #[rv aa, .val (.double (f_sco  s0)), .second, rv b414, iv (1 : Int32), .val (.double (FP.dsub (4607182418800017408 : UInt64) (FP.ddiv (4607182418800017408 : UInt64) (FP.i2d (2 : Int32))))), .second, .val (.double (own_sc s0 s0)), .second] [(.double (f_sco  s0))]
      refine XS.dconst0 X443.here hx rfl (hb hby d12_46) (v := (0 : UInt64)) rfl ?_
      show Go p e below t T443 m 47 #[rv aa, .val (.double (f_sco  s0)), .second, rv b414, iv (1 : Int32), .val (.double (FP.dsub (4607182418800017408 : UInt64) (FP.ddiv (4607182418800017408 : UInt64) (FP.i2d (2 : Int32))))), .second, .val (.double (own_sc s0 s0)), .second] [(.double (0 : UInt64)), (.double (f_sco  s0))]
      refine XS.dcmpS X443.here hx rfl (hb hby d12_47) rfl rfl ?_
      show Go p e below t T443 m 48 #[rv aa, .val (.double (f_sco  s0)), .second, rv b414, iv (1 : Int32), .val (.double (FP.dsub (4607182418800017408 : UInt64) (FP.ddiv (4607182418800017408 : UInt64) (FP.i2d (2 : Int32))))), .second, .val (.double (own_sc s0 s0)), .second] [(.int (cmpValue (FP.dcmp (f_sco  s0) (0 : UInt64)) .l))]
      refine XS.ifNo X443.here hx rfl (hb hby d12_48) rfl (dc_l_le_f h419) ?_
      show Go p e below t T443 m 51 #[rv aa, .val (.double (f_sco  s0)), .second, rv b414, iv (1 : Int32), .val (.double (FP.dsub (4607182418800017408 : UInt64) (FP.ddiv (4607182418800017408 : UInt64) (FP.i2d (2 : Int32))))), .second, .val (.double (own_sc s0 s0)), .second] []
      refine XS.aloadN X443.here hx rfl (hb hby d12_51) rfl rfl ?_
      show Go p e below t T443 m 52 #[rv aa, .val (.double (f_sco  s0)), .second, rv b414, iv (1 : Int32), .val (.double (FP.dsub (4607182418800017408 : UInt64) (FP.ddiv (4607182418800017408 : UInt64) (FP.i2d (2 : Int32))))), .second, .val (.double (own_sc s0 s0)), .second] [(.ref aa)]
      refine XS.iload X443.here hx rfl (hb hby d12_52) rfl ?_
      show Go p e below t T443 m 54 #[rv aa, .val (.double (f_sco  s0)), .second, rv b414, iv (1 : Int32), .val (.double (FP.dsub (4607182418800017408 : UInt64) (FP.ddiv (4607182418800017408 : UInt64) (FP.i2d (2 : Int32))))), .second, .val (.double (own_sc s0 s0)), .second] [(.int (1 : Int32)), (.ref aa)]
      exact k)
    obtain ⟨cq448, kq448, q448a, q448b, q448c⟩ := isOf hZ e443 (((((P0.ext E414).ext E432).wr W436).wr W440).wr W443)
    obtain ⟨_, _, ⟨T448, L448, k448, n448⟩, -, X448, ⟨Lc448, hQ448, l448, y448, z448⟩, st448⟩ := X443.interfaceBack hx (xi := (⟨"java/util/List", "get", "(I)Ljava/lang/Object;"⟩ : MethodName)) (y := (⟨"java/util/ArrayList", "get", "(I)Ljava/lang/Object;"⟩ : MethodName)) hown (mvT hZ (hw _ (List.mem_of_getElem? (i := 95) rfl))) (mvT hZ (hw _ (List.mem_of_getElem? (i := 96) rfl))) (mvT hZ (hw _ (List.mem_of_getElem? (i := 97) rfl))) (mvT hZ (hw _ (List.mem_of_getElem? (i := 98) rfl))) (mvT hZ (hw _ (List.mem_of_getElem? (i := 99) rfl))) (mvT hZ (hw _ (List.mem_of_getElem? (i := 100) rfl))) (mvT hZ (hw _ (List.mem_of_getElem? (i := 101) rfl))) (mvT hZ (hw _ (List.mem_of_getElem? (i := 65) rfl))) (by decide) (backOf (W := 0) (rm_get31 l Z a0 hw [] aa (1 : Int32) ea ek x0 x1 x2 h443 n0 (Nat.le_trans Z0 (Nat.le_trans (Nat.le_trans (Nat.le_trans (Nat.le_trans (Nat.le_trans (Nat.le_refl _) E414.1) E432.1) (Nat.le_of_eq W436.size.symm)) (Nat.le_of_eq W440.size.symm)) (Nat.le_of_eq W443.size.symm))) (((((P0.ext E414).ext E432).wr W436).wr W440).wr W443) (((((P1.ext E414).ext E432).other W436 (Or.inl (Nat.ne_of_lt (Nat.lt_of_lt_of_le (P0.ext E414).lt (Nat.le_of_eq gb432.symm))))).other W440 (Or.inl (Nat.ne_of_lt (Nat.lt_of_lt_of_le (P0.ext E414).lt (Nat.le_of_eq gb432.symm))))).other W443 (Or.inl (Nat.ne_of_lt (Nat.lt_of_lt_of_le P0.lt (Nat.le_of_eq gb414.symm))))) (((((P2.ext E414).ext E432).other W436 (Or.inl (Nat.ne_of_lt (Nat.lt_of_lt_of_le (P0.ext E414).lt (Nat.le_of_eq gb432.symm))))).other W440 (Or.inl (Nat.ne_of_lt (Nat.lt_of_lt_of_le (P0.ext E414).lt (Nat.le_of_eq gb432.symm))))).other W443 (Or.inl (Nat.ne_of_lt (Nat.lt_of_lt_of_le P0.lt (Nat.le_of_eq gb414.symm))))) (((((P3.ext E414).ext E432).other W436 (Nat.ne_of_lt (Nat.lt_of_lt_of_le (P3.ext E414).lt (Nat.le_of_eq gb432.symm)))).other W440 (Nat.ne_of_lt (Nat.lt_of_lt_of_le (P3.ext E414).lt (Nat.le_of_eq gb432.symm)))).other W443 (Nat.ne_of_lt (Nat.lt_of_lt_of_le P3.lt (Nat.le_of_eq gb414.symm)))) rfl) hZ (hw _ (List.mem_of_getElem? (i := 102) rfl)) (hw _ (List.mem_of_getElem? (i := 10) rfl)) (by decide) (by decide)) q448a q448b q448c (g := (mkF m 54 #[rv aa, .val (.double (f_sco  s0)), .second, rv b414, iv (1 : Int32), .val (.double (FP.dsub (4607182418800017408 : UInt64) (FP.ddiv (4607182418800017408 : UInt64) (FP.i2d (2 : Int32))))), .second, .val (.double (own_sc s0 s0)), .second] [(.int (1 : Int32)), (.ref aa)])) rfl (by rw [hml]; rfl) (Steps.refl _) (argsL := [(.int (1 : Int32))]) (rest := []) (lenOf pd9 rfl) rfl (by show 2 * 0 + _ ≤ _; exact Nat.le_of_eq rfl) (hb hby d12_54) (fun _ _ => ⟨rfl, e443, (by decide : 2 + 0 ≤ _), (by decide : 5 + 0 ≤ _)⟩)
    dsimp only [Pt.U, Pt.locs, Pt.cells, Pt.slots] at X448 l448 y448 z448 st448 hQ448
    subst l448 y448 z448
    obtain ⟨rfl, N448, R448_0⟩ := hQ448
    have M448 := Fr.app N443 N448
    have g449 : Goes p e below S0 (T448.setTop (mkF m 59 #[rv aa, .val (.double (f_sco  s0)), .second, rv b414, iv (1 : Int32), .val (.double (FP.dsub (4607182418800017408 : UInt64) (FP.ddiv (4607182418800017408 : UInt64) (FP.i2d (2 : Int32))))), .second, .val (.double (own_sc s0 s0)), .second] [(.ref x1)])) := fun t k => g447 t (st448.trans k)
    obtain ⟨T450, X450, e450, st450⟩ := castY X448 hx hZ hown (hw _ (List.mem_of_getElem? (i := 116) rfl)) R448_0 (Ins.of_exa (((((P6.ext E414).ext E432).wr W436).wr W440).wr W443) (hw _ (List.mem_of_getElem? (i := 117) rfl))) (g := (mkF m 59 #[rv aa, .val (.double (f_sco  s0)), .second, rv b414, iv (1 : Int32), .val (.double (FP.dsub (4607182418800017408 : UInt64) (FP.ddiv (4607182418800017408 : UInt64) (FP.i2d (2 : Int32))))), .second, .val (.double (own_sc s0 s0)), .second] [(.ref x1)])) rfl rfl (hb hby d12_59)
    have g451 : Goes p e below S0 (T450.setTop (mkF m 62 #[rv aa, .val (.double (f_sco  s0)), .second, rv b414, iv (1 : Int32), .val (.double (FP.dsub (4607182418800017408 : UInt64) (FP.ddiv (4607182418800017408 : UInt64) (FP.i2d (2 : Int32))))), .second, .val (.double (own_sc s0 s0)), .second] [(.ref x1)])) := fun t k => g449 t (st450 t k)
    obtain ⟨cq452, kq452, q452a, q452b, q452c⟩ := isOf hZ e450 (((((P6.ext E414).ext E432).wr W436).wr W440).wr W443)
    obtain ⟨_, _, ⟨T452, L452, k452, n452⟩, -, X452, ⟨Lc452, hQ452, l452, y452, z452⟩, st452⟩ := X450.virtualBack hx (y := (⟨"com/example/nimble_retrieval/nimbleretrieval/format/Run$Retrieved", "score", "()D"⟩ : MethodName)) (z := (⟨"com/example/nimble_retrieval/nimbleretrieval/format/Run$Retrieved", "score", "()D"⟩ : MethodName)) hown (mvT hZ (hw _ (List.mem_of_getElem? (i := 118) rfl))) (mvT hZ (hw _ (List.mem_of_getElem? (i := 119) rfl))) (notFace_of_selects (args := #[]) (mvT hZ (hw _ (List.mem_of_getElem? (i := 121) rfl)))) (mvT hZ (hw _ (List.mem_of_getElem? (i := 121) rfl))) (mvT hZ (hw _ (List.mem_of_getElem? (i := 120) rfl))) (by decide) (backOf (W := 0) (rm_sco l Z a0 hw [] x1 s1 h443 n0 (Nat.le_trans Z0 (Nat.le_trans (Nat.le_trans (Nat.le_trans (Nat.le_trans (Nat.le_trans (Nat.le_refl _) E414.1) E432.1) (Nat.le_of_eq W436.size.symm)) (Nat.le_of_eq W440.size.symm)) (Nat.le_of_eq W443.size.symm))) (((((P7.ext E414).ext E432).other W436 (Or.inl (Nat.ne_of_lt (Nat.lt_of_lt_of_le (P6.ext E414).lt (Nat.le_of_eq gb432.symm))))).other W440 (Or.inl (Nat.ne_of_lt (Nat.lt_of_lt_of_le (P6.ext E414).lt (Nat.le_of_eq gb432.symm))))).other W443 (Or.inl (Nat.ne_of_lt (Nat.lt_of_lt_of_le P6.lt (Nat.le_of_eq gb414.symm)))))) hZ (hw _ (List.mem_of_getElem? (i := 122) rfl)) (hw _ (List.mem_of_getElem? (i := 36) rfl)) (by decide) (by decide)) q452a q452c (g := (mkF m 62 #[rv aa, .val (.double (f_sco  s0)), .second, rv b414, iv (1 : Int32), .val (.double (FP.dsub (4607182418800017408 : UInt64) (FP.ddiv (4607182418800017408 : UInt64) (FP.i2d (2 : Int32))))), .second, .val (.double (own_sc s0 s0)), .second] [(.ref x1)])) rfl (by rw [hml]; rfl) (Steps.refl _) (argsL := []) (rest := []) (lenOf pd10 rfl) rfl (by show 2 * 0 + _ ≤ _; exact Nat.le_of_eq rfl) (hb hby d12_62) (fun _ _ => ⟨rfl, e450, (by decide : 2 + 0 ≤ _), (by decide : 5 + 0 ≤ _)⟩)
    dsimp only [Pt.U, Pt.locs, Pt.cells, Pt.slots] at X452 l452 y452 z452 st452 hQ452
    subst l452 y452 z452
    obtain ⟨rfl, N452, e452⟩ := hQ452
    have M452 := Fr.app M448 N452
    have g453 : Goes p e below S0 (T452.setTop (mkF m 65 #[rv aa, .val (.double (f_sco  s0)), .second, rv b414, iv (1 : Int32), .val (.double (FP.dsub (4607182418800017408 : UInt64) (FP.ddiv (4607182418800017408 : UInt64) (FP.i2d (2 : Int32))))), .second, .val (.double (own_sc s0 s0)), .second] [(.double (f_sco  s1))])) := fun t k => g451 t (st452.trans k)
    have g454 : Goes p e below S0 (T452.setTop (mkF m 66 #[rv aa, .val (.double (f_sco  s0)), .second, rv b414, iv (1 : Int32), .val (.double (FP.dsub (4607182418800017408 : UInt64) (FP.ddiv (4607182418800017408 : UInt64) (FP.i2d (2 : Int32))))), .second, .val (.double (own_sc s0 s0)), .second] [(.double (0 : UInt64)), (.double (f_sco  s1))])) := fun t k => g453 t (by
      refine XS.dconst0 X452.here hx rfl (hb hby d12_65) (v := (0 : UInt64)) rfl ?_
      show Go p e below t T452 m 66 #[rv aa, .val (.double (f_sco  s0)), .second, rv b414, iv (1 : Int32), .val (.double (FP.dsub (4607182418800017408 : UInt64) (FP.ddiv (4607182418800017408 : UInt64) (FP.i2d (2 : Int32))))), .second, .val (.double (own_sc s0 s0)), .second] [(.double (0 : UInt64)), (.double (f_sco  s1))]
      exact k)
    obtain ⟨T455, X455, e455, st455⟩ := natS X452 hx hZ (y := (⟨"java/lang/Math", "max", "(DD)D"⟩ : MethodName)) hown (hw _ (List.mem_of_getElem? (i := 133) rfl)) (hw _ (List.mem_of_getElem? (i := 134) rfl)) (hw _ (List.mem_of_getElem? (i := 3) rfl)) (hw _ (List.mem_of_getElem? (i := 135) rfl)) (by decide) e452 (W := 0) (fun c4 => Jvm.Free.Fl.Abs.maxD_pays (f_sco  s1) (0 : UInt64) c4 (by decide) (by decide)) (g := (mkF m 66 #[rv aa, .val (.double (f_sco  s0)), .second, rv b414, iv (1 : Int32), .val (.double (FP.dsub (4607182418800017408 : UInt64) (FP.ddiv (4607182418800017408 : UInt64) (FP.i2d (2 : Int32))))), .second, .val (.double (own_sc s0 s0)), .second] [(.double (0 : UInt64)), (.double (f_sco  s1))])) rfl (by rw [hml]; rfl) (argsL := [(.double (f_sco  s1)), (.double (0 : UInt64))]) (rest := []) (lenOf pd12 rfl) rfl (by show 2 * 0 + _ ≤ _; exact Nat.le_of_eq rfl) (hb hby d12_66) (Nat.le_of_ble_eq_true rfl) (Nat.le_of_ble_eq_true rfl) ⟨rfl, fs1.noNaN, (by unfold Jvm.Free.Fl.NoNaN64; decide +kernel)⟩ (val' := (.double (Native.java_lang_Math.nans.pick64 true (f_sco  s1) (0 : UInt64)))) rfl
    have g456 : Goes p e below S0 (T455.setTop (mkF m 69 #[rv aa, .val (.double (f_sco  s0)), .second, rv b414, iv (1 : Int32), .val (.double (FP.dsub (4607182418800017408 : UInt64) (FP.ddiv (4607182418800017408 : UInt64) (FP.i2d (2 : Int32))))), .second, .val (.double (own_sc s0 s0)), .second] [(.double (Native.java_lang_Math.nans.pick64 true (f_sco  s1) (0 : UInt64)))])) := fun t k => g454 t (st455 t k)
    have g457 : Goes p e below S0 (T455.setTop (mkF m 77 #[rv aa, .val (.double (f_sco  s0)), .second, rv b414, iv (1 : Int32), .val (.double (FP.dsub (4607182418800017408 : UInt64) (FP.ddiv (4607182418800017408 : UInt64) (FP.i2d (2 : Int32))))), .second, .val (.double (FP.ddiv (Native.java_lang_Math.nans.pick64 true (f_sco  s1) (0 : UInt64)) (f_sco  s0))), .second] [])) := fun t k => g456 t (by
      refine XS.dloadN X455.here hx rfl (hb hby d12_69) rfl ?_
      show Go p e below t T455 m 70 #[rv aa, .val (.double (f_sco  s0)), .second, rv b414, iv (1 : Int32), .val (.double (FP.dsub (4607182418800017408 : UInt64) (FP.ddiv (4607182418800017408 : UInt64) (FP.i2d (2 : Int32))))), .second, .val (.double (own_sc s0 s0)), .second] [(.double (f_sco  s0)), (.double (Native.java_lang_Math.nans.pick64 true (f_sco  s1) (0 : UInt64)))]
      refine XS.ddivS X455.here hx rfl (hb hby d12_70) rfl (own_nnd fs1 fs0 h419) rfl ?_
      show Go p e below t T455 m 71 #[rv aa, .val (.double (f_sco  s0)), .second, rv b414, iv (1 : Int32), .val (.double (FP.dsub (4607182418800017408 : UInt64) (FP.ddiv (4607182418800017408 : UInt64) (FP.i2d (2 : Int32))))), .second, .val (.double (own_sc s0 s0)), .second] [(.double (FP.ddiv (Native.java_lang_Math.nans.pick64 true (f_sco  s1) (0 : UInt64)) (f_sco  s0)))]
      refine XS.goto X455.here hx rfl (pc0 := 71) (pc' := 75) rfl (hb hby d12_71) (by decide) (by decide) ?_
      show Go p e below t T455 m 75 #[rv aa, .val (.double (f_sco  s0)), .second, rv b414, iv (1 : Int32), .val (.double (FP.dsub (4607182418800017408 : UInt64) (FP.ddiv (4607182418800017408 : UInt64) (FP.i2d (2 : Int32))))), .second, .val (.double (own_sc s0 s0)), .second] [(.double (FP.ddiv (Native.java_lang_Math.nans.pick64 true (f_sco  s1) (0 : UInt64)) (f_sco  s0)))]
      refine XS.dstore X455.here hx rfl (hb hby d12_75) rfl (l' := #[rv aa, .val (.double (f_sco  s0)), .second, rv b414, iv (1 : Int32), .val (.double (FP.dsub (4607182418800017408 : UInt64) (FP.ddiv (4607182418800017408 : UInt64) (FP.i2d (2 : Int32))))), .second, .val (.double (FP.ddiv (Native.java_lang_Math.nans.pick64 true (f_sco  s1) (0 : UInt64)) (f_sco  s0))), .second]) rfl ?_
      show Go p e below t T455 m 77 #[rv aa, .val (.double (f_sco  s0)), .second, rv b414, iv (1 : Int32), .val (.double (FP.dsub (4607182418800017408 : UInt64) (FP.ddiv (4607182418800017408 : UInt64) (FP.i2d (2 : Int32))))), .second, .val (.double (FP.ddiv (Native.java_lang_Math.nans.pick64 true (f_sco  s1) (0 : UInt64)) (f_sco  s0))), .second] []
      exact k)
    rw [show (FP.ddiv (Native.java_lang_Math.nans.pick64 true (f_sco  s1) (0 : UInt64)) (f_sco  s0)) = (own_sc s0 s1) from (if_pos h419).symm] at g457
    have g458 : Goes p e below S0 (T455.setTop (mkF m 81 #[rv aa, .val (.double (f_sco  s0)), .second, rv b414, iv (1 : Int32), .val (.double (FP.dsub (4607182418800017408 : UInt64) (FP.ddiv (4607182418800017408 : UInt64) (FP.i2d (2 : Int32))))), .second, .val (.double (own_sc s0 s1)), .second] [(.int (2 : Int32)), (.int (1 : Int32)), (.ref b414)])) := fun t k => g457 t (by
      refine XS.aloadN X455.here hx rfl (hb hby d12_77) rfl rfl ?_
      show Go p e below t T455 m 78 #[rv aa, .val (.double (f_sco  s0)), .second, rv b414, iv (1 : Int32), .val (.double (FP.dsub (4607182418800017408 : UInt64) (FP.ddiv (4607182418800017408 : UInt64) (FP.i2d (2 : Int32))))), .second, .val (.double (own_sc s0 s1)), .second] [(.ref b414)]
      refine XS.iload X455.here hx rfl (hb hby d12_78) rfl ?_
      show Go p e below t T455 m 80 #[rv aa, .val (.double (f_sco  s0)), .second, rv b414, iv (1 : Int32), .val (.double (FP.dsub (4607182418800017408 : UInt64) (FP.ddiv (4607182418800017408 : UInt64) (FP.i2d (2 : Int32))))), .second, .val (.double (own_sc s0 s1)), .second] [(.int (1 : Int32)), (.ref b414)]
      refine XT.iconstV X455.here hx rfl (2 : Int32) (hb hby d12_80) (by decide) ?_
      show Go p e below t T455 m 81 #[rv aa, .val (.double (f_sco  s0)), .second, rv b414, iv (1 : Int32), .val (.double (FP.dsub (4607182418800017408 : UInt64) (FP.ddiv (4607182418800017408 : UInt64) (FP.i2d (2 : Int32))))), .second, .val (.double (own_sc s0 s1)), .second] [(.int (2 : Int32)), (.int (1 : Int32)), (.ref b414)]
      exact k)
    obtain ⟨T459, h459, k459, X459, e459, E459, A459, Q459, st459⟩ := newPE X455 hx hZ (hw _ (List.mem_of_getElem? (i := 136) rfl)) e455 (g := (mkF m 81 #[rv aa, .val (.double (f_sco  s0)), .second, rv b414, iv (1 : Int32), .val (.double (FP.dsub (4607182418800017408 : UInt64) (FP.ddiv (4607182418800017408 : UInt64) (FP.i2d (2 : Int32))))), .second, .val (.double (own_sc s0 s1)), .second] [(.int (2 : Int32)), (.int (1 : Int32)), (.ref b414)])) rfl (hb hby d12_81) rfl (by decide) (cap := 2) (by decide) (by decide) (by decide) (by decide) (ad := "[D") (by decide)
    obtain ⟨b459, gb459⟩ : ∃ z, z = h443.size := ⟨_, rfl⟩
    have sz459 : h0.size ≤ b459 := Nat.le_trans (Nat.le_trans (Nat.le_trans (Nat.le_trans (Nat.le_trans (Nat.le_trans (Nat.le_refl _) E414.1) E432.1) (Nat.le_of_eq W436.size.symm)) (Nat.le_of_eq W440.size.symm)) (Nat.le_of_eq W443.size.symm)) (Nat.le_of_eq gb459.symm)
    have ng459 : n0 ≤ b459 := Nat.le_trans Z0 sz459
    rw [← gb459] at A459 st459 Q459
    have V459 : Arv Z h459 b459 k459 .double (2 : Int32) [(.double (0 : UInt64)), (.double (0 : UInt64))] (.double (0 : UInt64)) := (Arv.new A459 (by decide)).pad (pad_rep [] (.double (0 : UInt64)) 2)
    have g460 : Goes p e below S0 (T459.setTop (mkF m 83 #[rv aa, .val (.double (f_sco  s0)), .second, rv b414, iv (1 : Int32), .val (.double (FP.dsub (4607182418800017408 : UInt64) (FP.ddiv (4607182418800017408 : UInt64) (FP.i2d (2 : Int32))))), .second, .val (.double (own_sc s0 s1)), .second] [(.ref b459), (.int (1 : Int32)), (.ref b414)])) := fun t k => g458 t (st459 t k)
    have g461 : Goes p e below S0 (T459.setTop (mkF m 87 #[rv aa, .val (.double (f_sco  s0)), .second, rv b414, iv (1 : Int32), .val (.double (FP.dsub (4607182418800017408 : UInt64) (FP.ddiv (4607182418800017408 : UInt64) (FP.i2d (2 : Int32))))), .second, .val (.double (own_sc s0 s1)), .second] [(.double (FP.dsub (4607182418800017408 : UInt64) (FP.ddiv (4607182418800017408 : UInt64) (FP.i2d (2 : Int32))))), (.int (0 : Int32)), (.ref b459), (.ref b459), (.int (1 : Int32)), (.ref b414)])) := fun t k => g460 t (by
      refine XS.dup X459.here hx rfl (hb hby d12_83) rfl rfl ?_
      show Go p e below t T459 m 84 #[rv aa, .val (.double (f_sco  s0)), .second, rv b414, iv (1 : Int32), .val (.double (FP.dsub (4607182418800017408 : UInt64) (FP.ddiv (4607182418800017408 : UInt64) (FP.i2d (2 : Int32))))), .second, .val (.double (own_sc s0 s1)), .second] [(.ref b459), (.ref b459), (.int (1 : Int32)), (.ref b414)]
      refine XT.iconstV X459.here hx rfl (0 : Int32) (hb hby d12_84) (by decide) ?_
      show Go p e below t T459 m 85 #[rv aa, .val (.double (f_sco  s0)), .second, rv b414, iv (1 : Int32), .val (.double (FP.dsub (4607182418800017408 : UInt64) (FP.ddiv (4607182418800017408 : UInt64) (FP.i2d (2 : Int32))))), .second, .val (.double (own_sc s0 s1)), .second] [(.int (0 : Int32)), (.ref b459), (.ref b459), (.int (1 : Int32)), (.ref b414)]
      refine XS.dload X459.here hx rfl (hb hby d12_85) rfl ?_
      show Go p e below t T459 m 87 #[rv aa, .val (.double (f_sco  s0)), .second, rv b414, iv (1 : Int32), .val (.double (FP.dsub (4607182418800017408 : UInt64) (FP.ddiv (4607182418800017408 : UInt64) (FP.i2d (2 : Int32))))), .second, .val (.double (own_sc s0 s1)), .second] [(.double (FP.dsub (4607182418800017408 : UInt64) (FP.ddiv (4607182418800017408 : UInt64) (FP.i2d (2 : Int32))))), (.int (0 : Int32)), (.ref b459), (.ref b459), (.int (1 : Int32)), (.ref b414)]
      exact k)
    obtain ⟨cl462, Ar462, q462, S462, M462, H462, G462⟩ := id V459
    obtain ⟨T463, h463, X463, e463, W463, st463⟩ := stD X459 hx hZ e459 Ar462 (j := (0 : Int32)) (inb_of S462 ⟨by decide, by decide⟩) (g := (mkF m 87 #[rv aa, .val (.double (f_sco  s0)), .second, rv b414, iv (1 : Int32), .val (.double (FP.dsub (4607182418800017408 : UInt64) (FP.ddiv (4607182418800017408 : UInt64) (FP.i2d (2 : Int32))))), .second, .val (.double (own_sc s0 s1)), .second] [(.double (FP.dsub (4607182418800017408 : UInt64) (FP.ddiv (4607182418800017408 : UInt64) (FP.i2d (2 : Int32))))), (.int (0 : Int32)), (.ref b459), (.ref b459), (.int (1 : Int32)), (.ref b414)])) rfl rfl (hb hby d12_87)
    have N463 := Fr.snoc X463 M452 ng459
    have V463 : Arv Z h463 b459 k459 .double (2 : Int32) [(.double (FP.dsub (4607182418800017408 : UInt64) (FP.ddiv (4607182418800017408 : UInt64) (FP.i2d (2 : Int32))))), (.double (0 : UInt64))] (.double (0 : UInt64)) := Arv.set Ar462 q462 S462 M462 H462 G462 rfl W463 0 rfl (Nat.le_of_ble_eq_true rfl)
    have g464 : Goes p e below S0 (T463.setTop (mkF m 88 #[rv aa, .val (.double (f_sco  s0)), .second, rv b414, iv (1 : Int32), .val (.double (FP.dsub (4607182418800017408 : UInt64) (FP.ddiv (4607182418800017408 : UInt64) (FP.i2d (2 : Int32))))), .second, .val (.double (own_sc s0 s1)), .second] [(.ref b459), (.int (1 : Int32)), (.ref b414)])) := fun t k => g461 t (st463 t k)
    have g465 : Goes p e below S0 (T463.setTop (mkF m 92 #[rv aa, .val (.double (f_sco  s0)), .second, rv b414, iv (1 : Int32), .val (.double (FP.dsub (4607182418800017408 : UInt64) (FP.ddiv (4607182418800017408 : UInt64) (FP.i2d (2 : Int32))))), .second, .val (.double (own_sc s0 s1)), .second] [(.double (own_sc s0 s1)), (.int (1 : Int32)), (.ref b459), (.ref b459), (.int (1 : Int32)), (.ref b414)])) := fun t k => g464 t (by
      refine XS.dup X463.here hx rfl (hb hby d12_88) rfl rfl ?_
      show Go p e below t T463 m 89 #[rv aa, .val (.double (f_sco  s0)), .second, rv b414, iv (1 : Int32), .val (.double (FP.dsub (4607182418800017408 : UInt64) (FP.ddiv (4607182418800017408 : UInt64) (FP.i2d (2 : Int32))))), .second, .val (.double (own_sc s0 s1)), .second] [(.ref b459), (.ref b459), (.int (1 : Int32)), (.ref b414)]
      refine XT.iconstV X463.here hx rfl (1 : Int32) (hb hby d12_89) (by decide) ?_
      show Go p e below t T463 m 90 #[rv aa, .val (.double (f_sco  s0)), .second, rv b414, iv (1 : Int32), .val (.double (FP.dsub (4607182418800017408 : UInt64) (FP.ddiv (4607182418800017408 : UInt64) (FP.i2d (2 : Int32))))), .second, .val (.double (own_sc s0 s1)), .second] [(.int (1 : Int32)), (.ref b459), (.ref b459), (.int (1 : Int32)), (.ref b414)]
      refine XS.dload X463.here hx rfl (hb hby d12_90) rfl ?_
      show Go p e below t T463 m 92 #[rv aa, .val (.double (f_sco  s0)), .second, rv b414, iv (1 : Int32), .val (.double (FP.dsub (4607182418800017408 : UInt64) (FP.ddiv (4607182418800017408 : UInt64) (FP.i2d (2 : Int32))))), .second, .val (.double (own_sc s0 s1)), .second] [(.double (own_sc s0 s1)), (.int (1 : Int32)), (.ref b459), (.ref b459), (.int (1 : Int32)), (.ref b414)]
      exact k)
    obtain ⟨cl466, Ar466, q466, S466, M466, H466, G466⟩ := id V463
    obtain ⟨T467, h467, X467, e467, W467, st467⟩ := stD X463 hx hZ e463 Ar466 (j := (1 : Int32)) (inb_of S466 ⟨by decide, by decide⟩) (g := (mkF m 92 #[rv aa, .val (.double (f_sco  s0)), .second, rv b414, iv (1 : Int32), .val (.double (FP.dsub (4607182418800017408 : UInt64) (FP.ddiv (4607182418800017408 : UInt64) (FP.i2d (2 : Int32))))), .second, .val (.double (own_sc s0 s1)), .second] [(.double (own_sc s0 s1)), (.int (1 : Int32)), (.ref b459), (.ref b459), (.int (1 : Int32)), (.ref b414)])) rfl rfl (hb hby d12_92)
    have N467 := Fr.snoc X467 N463 ng459
    have V467 : Arv Z h467 b459 k459 .double (2 : Int32) [(.double (FP.dsub (4607182418800017408 : UInt64) (FP.ddiv (4607182418800017408 : UInt64) (FP.i2d (2 : Int32))))), (.double (own_sc s0 s1))] (.double (0 : UInt64)) := Arv.set Ar466 q466 S466 M466 H466 G466 rfl W467 1 rfl (Nat.le_of_ble_eq_true rfl)
    have g468 : Goes p e below S0 (T467.setTop (mkF m 93 #[rv aa, .val (.double (f_sco  s0)), .second, rv b414, iv (1 : Int32), .val (.double (FP.dsub (4607182418800017408 : UInt64) (FP.ddiv (4607182418800017408 : UInt64) (FP.i2d (2 : Int32))))), .second, .val (.double (own_sc s0 s1)), .second] [(.ref b459), (.int (1 : Int32)), (.ref b414)])) := fun t k => g465 t (st467 t k)
    obtain ⟨cl469, Ar469, q469, S469, M469, H469, G469⟩ := id (((V443.ext E459).other W463 (Nat.ne_of_lt (Nat.lt_of_lt_of_le V443.lt (Nat.le_of_eq gb459.symm)))).other W467 (Nat.ne_of_lt (Nat.lt_of_lt_of_le V443.lt (Nat.le_of_eq gb459.symm))))
    obtain ⟨T470, h470, X470, e470, W470, st470⟩ := stR X467 hx hZ e467 Ar469 (j := (1 : Int32)) (inb_of S469 ⟨by decide, by decide⟩) rfl (Sto.ofVA Ar469 q469 O414 (Ins.of_exa ((Q459.wr W463).wr W467) (hw _ (List.mem_of_getElem? (i := 137) rfl)))) (g := (mkF m 93 #[rv aa, .val (.double (f_sco  s0)), .second, rv b414, iv (1 : Int32), .val (.double (FP.dsub (4607182418800017408 : UInt64) (FP.ddiv (4607182418800017408 : UInt64) (FP.i2d (2 : Int32))))), .second, .val (.double (own_sc s0 s1)), .second] [(.ref b459), (.int (1 : Int32)), (.ref b414)])) rfl rfl (hb hby d12_93)
    have N470 := Fr.snoc X470 N467 ng414
    have V470 : Arv Z h470 b414 k414 (.array .double) (3 : Int32) [(.ref b432), (.ref b459), .null] .null := Arv.set Ar469 q469 S469 M469 H469 G469 rfl W470 1 rfl (Nat.le_of_ble_eq_true rfl)
    have g471 : Goes p e below S0 (T470.setTop (mkF m 94 #[rv aa, .val (.double (f_sco  s0)), .second, rv b414, iv (1 : Int32), .val (.double (FP.dsub (4607182418800017408 : UInt64) (FP.ddiv (4607182418800017408 : UInt64) (FP.i2d (2 : Int32))))), .second, .val (.double (own_sc s0 s1)), .second] [])) := fun t k => g468 t (st470 t k)
    have g472 : Goes p e below S0 (T470.setTop (mkF m 30 #[rv aa, .val (.double (f_sco  s0)), .second, rv b414, iv (2 : Int32), .val (.double (FP.dsub (4607182418800017408 : UInt64) (FP.ddiv (4607182418800017408 : UInt64) (FP.i2d (2 : Int32))))), .second, .val (.double (own_sc s0 s1)), .second] [(.ref b414), (.int (2 : Int32))])) := fun t k => g471 t (by
      refine XT.iincV X470.here hx rfl (1 : Int32) (hb hby d12_94) (by decide) rfl (l' := #[rv aa, .val (.double (f_sco  s0)), .second, rv b414, iv (2 : Int32), .val (.double (FP.dsub (4607182418800017408 : UInt64) (FP.ddiv (4607182418800017408 : UInt64) (FP.i2d (2 : Int32))))), .second, .val (.double (own_sc s0 s1)), .second]) rfl ?_
      show Go p e below t T470 m 97 #[rv aa, .val (.double (f_sco  s0)), .second, rv b414, iv (2 : Int32), .val (.double (FP.dsub (4607182418800017408 : UInt64) (FP.ddiv (4607182418800017408 : UInt64) (FP.i2d (2 : Int32))))), .second, .val (.double (own_sc s0 s1)), .second] []
      refine XS.goto X470.here hx rfl (pc0 := 97) (pc' := 27) rfl (hb hby d12_97) (by decide) (by decide) ?_
      show Go p e below t T470 m 27 #[rv aa, .val (.double (f_sco  s0)), .second, rv b414, iv (2 : Int32), .val (.double (FP.dsub (4607182418800017408 : UInt64) (FP.ddiv (4607182418800017408 : UInt64) (FP.i2d (2 : Int32))))), .second, .val (.double (own_sc s0 s1)), .second] []
      refine XS.iload X470.here hx rfl (hb hby d12_27) rfl ?_
      show Go p e below t T470 m 29 #[rv aa, .val (.double (f_sco  s0)), .second, rv b414, iv (2 : Int32), .val (.double (FP.dsub (4607182418800017408 : UInt64) (FP.ddiv (4607182418800017408 : UInt64) (FP.i2d (2 : Int32))))), .second, .val (.double (own_sc s0 s1)), .second] [(.int (2 : Int32))]
      refine XS.aloadN X470.here hx rfl (hb hby d12_29) rfl rfl ?_
      show Go p e below t T470 m 30 #[rv aa, .val (.double (f_sco  s0)), .second, rv b414, iv (2 : Int32), .val (.double (FP.dsub (4607182418800017408 : UInt64) (FP.ddiv (4607182418800017408 : UInt64) (FP.i2d (2 : Int32))))), .second, .val (.double (own_sc s0 s1)), .second] [(.ref b414), (.int (2 : Int32))]
      exact k)
    obtain ⟨cl473, Ar473, q473, S473, M473, H473, G473⟩ := id V470
    have g474 : Goes p e below S0 (T470.setTop (mkF m 54 #[rv aa, .val (.double (f_sco  s0)), .second, rv b414, iv (2 : Int32), .val (.double (FP.dsub (4607182418800017408 : UInt64) (FP.ddiv (4607182418800017408 : UInt64) (FP.i2d (3 : Int32))))), .second, .val (.double (own_sc s0 s1)), .second] [(.int (2 : Int32)), (.ref aa)])) := fun t k => g472 t (by
      refine X470.arraylength hx (by rw [e470]; exact Ar473.1) (State.isArrayOf_alike hZ.alike Ar473.2.1) (g := (mkF m 30 #[rv aa, .val (.double (f_sco  s0)), .second, rv b414, iv (2 : Int32), .val (.double (FP.dsub (4607182418800017408 : UInt64) (FP.ddiv (4607182418800017408 : UInt64) (FP.i2d (2 : Int32))))), .second, .val (.double (own_sc s0 s1)), .second] [(.ref b414), (.int (2 : Int32))])) rfl rfl (hb hby d12_30) _ ?_
      rw [len_of S473 M473]
      show Go p e below t T470 m 31 #[rv aa, .val (.double (f_sco  s0)), .second, rv b414, iv (2 : Int32), .val (.double (FP.dsub (4607182418800017408 : UInt64) (FP.ddiv (4607182418800017408 : UInt64) (FP.i2d (2 : Int32))))), .second, .val (.double (own_sc s0 s1)), .second] [(.int (3 : Int32)), (.int (2 : Int32))]
      refine XS.icmpNo X470.here hx rfl (hb hby d12_31) rfl (XT.ii_ge_f (by decide)) ?_
      show Go p e below t T470 m 34 #[rv aa, .val (.double (f_sco  s0)), .second, rv b414, iv (2 : Int32), .val (.double (FP.dsub (4607182418800017408 : UInt64) (FP.ddiv (4607182418800017408 : UInt64) (FP.i2d (2 : Int32))))), .second, .val (.double (own_sc s0 s1)), .second] []
      refine XS.dconst1 X470.here hx rfl (hb hby d12_34) (v := (4607182418800017408 : UInt64)) rfl ?_
      show Go p e below t T470 m 35 #[rv aa, .val (.double (f_sco  s0)), .second, rv b414, iv (2 : Int32), .val (.double (FP.dsub (4607182418800017408 : UInt64) (FP.ddiv (4607182418800017408 : UInt64) (FP.i2d (2 : Int32))))), .second, .val (.double (own_sc s0 s1)), .second] [(.double (4607182418800017408 : UInt64))]
      refine XS.dconst1 X470.here hx rfl (hb hby d12_35) (v := (4607182418800017408 : UInt64)) rfl ?_
      show Go p e below t T470 m 36 #[rv aa, .val (.double (f_sco  s0)), .second, rv b414, iv (2 : Int32), .val (.double (FP.dsub (4607182418800017408 : UInt64) (FP.ddiv (4607182418800017408 : UInt64) (FP.i2d (2 : Int32))))), .second, .val (.double (own_sc s0 s1)), .second] [(.double (4607182418800017408 : UInt64)), (.double (4607182418800017408 : UInt64))]
      refine XS.iload X470.here hx rfl (hb hby d12_36) rfl ?_
      show Go p e below t T470 m 38 #[rv aa, .val (.double (f_sco  s0)), .second, rv b414, iv (2 : Int32), .val (.double (FP.dsub (4607182418800017408 : UInt64) (FP.ddiv (4607182418800017408 : UInt64) (FP.i2d (2 : Int32))))), .second, .val (.double (own_sc s0 s1)), .second] [(.int (2 : Int32)), (.double (4607182418800017408 : UInt64)), (.double (4607182418800017408 : UInt64))]
      refine XT.iconstV X470.here hx rfl (1 : Int32) (hb hby d12_38) (by decide) ?_
      show Go p e below t T470 m 39 #[rv aa, .val (.double (f_sco  s0)), .second, rv b414, iv (2 : Int32), .val (.double (FP.dsub (4607182418800017408 : UInt64) (FP.ddiv (4607182418800017408 : UInt64) (FP.i2d (2 : Int32))))), .second, .val (.double (own_sc s0 s1)), .second] [(.int (1 : Int32)), (.int (2 : Int32)), (.double (4607182418800017408 : UInt64)), (.double (4607182418800017408 : UInt64))]
      refine XS.iadd X470.here hx rfl (hb hby d12_39) rfl ?_
      rw [show ((2 : Int32) + (1 : Int32)) = (3 : Int32) by decide]
      show Go p e below t T470 m 40 #[rv aa, .val (.double (f_sco  s0)), .second, rv b414, iv (2 : Int32), .val (.double (FP.dsub (4607182418800017408 : UInt64) (FP.ddiv (4607182418800017408 : UInt64) (FP.i2d (2 : Int32))))), .second, .val (.double (own_sc s0 s1)), .second] [(.int (3 : Int32)), (.double (4607182418800017408 : UInt64)), (.double (4607182418800017408 : UInt64))]
      refine XS.i2dS X470.here hx rfl (hb hby d12_40) rfl rfl ?_
      show Go p e below t T470 m 41 #[rv aa, .val (.double (f_sco  s0)), .second, rv b414, iv (2 : Int32), .val (.double (FP.dsub (4607182418800017408 : UInt64) (FP.ddiv (4607182418800017408 : UInt64) (FP.i2d (2 : Int32))))), .second, .val (.double (own_sc s0 s1)), .second] [(.double (FP.i2d (3 : Int32))), (.double (4607182418800017408 : UInt64)), (.double (4607182418800017408 : UInt64))]
      refine XS.ddivS X470.here hx rfl (hb hby d12_41) rfl (by unfold Jvm.Free.Fl.NoNaN64; decide +kernel) rfl ?_
      show Go p e below t T470 m 42 #[rv aa, .val (.double (f_sco  s0)), .second, rv b414, iv (2 : Int32), .val (.double (FP.dsub (4607182418800017408 : UInt64) (FP.ddiv (4607182418800017408 : UInt64) (FP.i2d (2 : Int32))))), .second, .val (.double (own_sc s0 s1)), .second] [(.double (FP.ddiv (4607182418800017408 : UInt64) (FP.i2d (3 : Int32)))), (.double (4607182418800017408 : UInt64))]
      refine XS.dsubS X470.here hx rfl (hb hby d12_42) rfl (by unfold Jvm.Free.Fl.NoNaN64; decide +kernel) rfl ?_
      show Go p e below t T470 m 43 #[rv aa, .val (.double (f_sco  s0)), .second, rv b414, iv (2 : Int32), .val (.double (FP.dsub (4607182418800017408 : UInt64) (FP.ddiv (4607182418800017408 : UInt64) (FP.i2d (2 : Int32))))), .second, .val (.double (own_sc s0 s1)), .second] [(.double (FP.dsub (4607182418800017408 : UInt64) (FP.ddiv (4607182418800017408 : UInt64) (FP.i2d (3 : Int32)))))]
      refine XS.dstore X470.here hx rfl (hb hby d12_43) rfl (l' := #[rv aa, .val (.double (f_sco  s0)), .second, rv b414, iv (2 : Int32), .val (.double (FP.dsub (4607182418800017408 : UInt64) (FP.ddiv (4607182418800017408 : UInt64) (FP.i2d (3 : Int32))))), .second, .val (.double (own_sc s0 s1)), .second]) rfl ?_
      show Go p e below t T470 m 45 #[rv aa, .val (.double (f_sco  s0)), .second, rv b414, iv (2 : Int32), .val (.double (FP.dsub (4607182418800017408 : UInt64) (FP.ddiv (4607182418800017408 : UInt64) (FP.i2d (3 : Int32))))), .second, .val (.double (own_sc s0 s1)), .second] []
      refine XS.dloadN X470.here hx rfl (hb hby d12_45) rfl ?_
      show Go p e below t T470 m 46 #[rv aa, .val (.double (f_sco  s0)), .second, rv b414, iv (2 : Int32), .val (.double (FP.dsub (4607182418800017408 : UInt64) (FP.ddiv (4607182418800017408 : UInt64) (FP.i2d (3 : Int32))))), .second, .val (.double (own_sc s0 s1)), .second] [(.double (f_sco  s0))]
      refine XS.dconst0 X470.here hx rfl (hb hby d12_46) (v := (0 : UInt64)) rfl ?_
      show Go p e below t T470 m 47 #[rv aa, .val (.double (f_sco  s0)), .second, rv b414, iv (2 : Int32), .val (.double (FP.dsub (4607182418800017408 : UInt64) (FP.ddiv (4607182418800017408 : UInt64) (FP.i2d (3 : Int32))))), .second, .val (.double (own_sc s0 s1)), .second] [(.double (0 : UInt64)), (.double (f_sco  s0))]
      refine XS.dcmpS X470.here hx rfl (hb hby d12_47) rfl rfl ?_
      show Go p e below t T470 m 48 #[rv aa, .val (.double (f_sco  s0)), .second, rv b414, iv (2 : Int32), .val (.double (FP.dsub (4607182418800017408 : UInt64) (FP.ddiv (4607182418800017408 : UInt64) (FP.i2d (3 : Int32))))), .second, .val (.double (own_sc s0 s1)), .second] [(.int (cmpValue (FP.dcmp (f_sco  s0) (0 : UInt64)) .l))]
      refine XS.ifNo X470.here hx rfl (hb hby d12_48) rfl (dc_l_le_f h419) ?_
      show Go p e below t T470 m 51 #[rv aa, .val (.double (f_sco  s0)), .second, rv b414, iv (2 : Int32), .val (.double (FP.dsub (4607182418800017408 : UInt64) (FP.ddiv (4607182418800017408 : UInt64) (FP.i2d (3 : Int32))))), .second, .val (.double (own_sc s0 s1)), .second] []
      refine XS.aloadN X470.here hx rfl (hb hby d12_51) rfl rfl ?_
      show Go p e below t T470 m 52 #[rv aa, .val (.double (f_sco  s0)), .second, rv b414, iv (2 : Int32), .val (.double (FP.dsub (4607182418800017408 : UInt64) (FP.ddiv (4607182418800017408 : UInt64) (FP.i2d (3 : Int32))))), .second, .val (.double (own_sc s0 s1)), .second] [(.ref aa)]
      refine XS.iload X470.here hx rfl (hb hby d12_52) rfl ?_
      show Go p e below t T470 m 54 #[rv aa, .val (.double (f_sco  s0)), .second, rv b414, iv (2 : Int32), .val (.double (FP.dsub (4607182418800017408 : UInt64) (FP.ddiv (4607182418800017408 : UInt64) (FP.i2d (3 : Int32))))), .second, .val (.double (own_sc s0 s1)), .second] [(.int (2 : Int32)), (.ref aa)]
      exact k)
    obtain ⟨cq475, kq475, q475a, q475b, q475c⟩ := isOf hZ e470 (((((((((P0.ext E414).ext E432).wr W436).wr W440).wr W443).ext E459).wr W463).wr W467).wr W470)
    obtain ⟨_, _, ⟨T475, L475, k475, n475⟩, -, X475, ⟨Lc475, hQ475, l475, y475, z475⟩, st475⟩ := X470.interfaceBack hx (xi := (⟨"java/util/List", "get", "(I)Ljava/lang/Object;"⟩ : MethodName)) (y := (⟨"java/util/ArrayList", "get", "(I)Ljava/lang/Object;"⟩ : MethodName)) hown (mvT hZ (hw _ (List.mem_of_getElem? (i := 95) rfl))) (mvT hZ (hw _ (List.mem_of_getElem? (i := 96) rfl))) (mvT hZ (hw _ (List.mem_of_getElem? (i := 97) rfl))) (mvT hZ (hw _ (List.mem_of_getElem? (i := 98) rfl))) (mvT hZ (hw _ (List.mem_of_getElem? (i := 99) rfl))) (mvT hZ (hw _ (List.mem_of_getElem? (i := 100) rfl))) (mvT hZ (hw _ (List.mem_of_getElem? (i := 101) rfl))) (mvT hZ (hw _ (List.mem_of_getElem? (i := 65) rfl))) (by decide) (backOf (W := 0) (rm_get32 l Z a0 hw [] aa (2 : Int32) ea ek x0 x1 x2 h470 n0 (Nat.le_trans Z0 (Nat.le_trans (Nat.le_trans (Nat.le_trans (Nat.le_trans (Nat.le_trans (Nat.le_trans (Nat.le_trans (Nat.le_trans (Nat.le_trans (Nat.le_refl _) E414.1) E432.1) (Nat.le_of_eq W436.size.symm)) (Nat.le_of_eq W440.size.symm)) (Nat.le_of_eq W443.size.symm)) E459.1) (Nat.le_of_eq W463.size.symm)) (Nat.le_of_eq W467.size.symm)) (Nat.le_of_eq W470.size.symm))) (((((((((P0.ext E414).ext E432).wr W436).wr W440).wr W443).ext E459).wr W463).wr W467).wr W470) (((((((((P1.ext E414).ext E432).other W436 (Or.inl (Nat.ne_of_lt (Nat.lt_of_lt_of_le (P0.ext E414).lt (Nat.le_of_eq gb432.symm))))).other W440 (Or.inl (Nat.ne_of_lt (Nat.lt_of_lt_of_le (P0.ext E414).lt (Nat.le_of_eq gb432.symm))))).other W443 (Or.inl (Nat.ne_of_lt (Nat.lt_of_lt_of_le P0.lt (Nat.le_of_eq gb414.symm))))).ext E459).other W463 (Or.inl (Nat.ne_of_lt (Nat.lt_of_lt_of_le (((((P0.ext E414).ext E432).wr W436).wr W440).wr W443).lt (Nat.le_of_eq gb459.symm))))).other W467 (Or.inl (Nat.ne_of_lt (Nat.lt_of_lt_of_le (((((P0.ext E414).ext E432).wr W436).wr W440).wr W443).lt (Nat.le_of_eq gb459.symm))))).other W470 (Or.inl (Nat.ne_of_lt (Nat.lt_of_lt_of_le P0.lt (Nat.le_of_eq gb414.symm))))) (((((((((P2.ext E414).ext E432).other W436 (Or.inl (Nat.ne_of_lt (Nat.lt_of_lt_of_le (P0.ext E414).lt (Nat.le_of_eq gb432.symm))))).other W440 (Or.inl (Nat.ne_of_lt (Nat.lt_of_lt_of_le (P0.ext E414).lt (Nat.le_of_eq gb432.symm))))).other W443 (Or.inl (Nat.ne_of_lt (Nat.lt_of_lt_of_le P0.lt (Nat.le_of_eq gb414.symm))))).ext E459).other W463 (Or.inl (Nat.ne_of_lt (Nat.lt_of_lt_of_le (((((P0.ext E414).ext E432).wr W436).wr W440).wr W443).lt (Nat.le_of_eq gb459.symm))))).other W467 (Or.inl (Nat.ne_of_lt (Nat.lt_of_lt_of_le (((((P0.ext E414).ext E432).wr W436).wr W440).wr W443).lt (Nat.le_of_eq gb459.symm))))).other W470 (Or.inl (Nat.ne_of_lt (Nat.lt_of_lt_of_le P0.lt (Nat.le_of_eq gb414.symm))))) (((((((((P3.ext E414).ext E432).other W436 (Nat.ne_of_lt (Nat.lt_of_lt_of_le (P3.ext E414).lt (Nat.le_of_eq gb432.symm)))).other W440 (Nat.ne_of_lt (Nat.lt_of_lt_of_le (P3.ext E414).lt (Nat.le_of_eq gb432.symm)))).other W443 (Nat.ne_of_lt (Nat.lt_of_lt_of_le P3.lt (Nat.le_of_eq gb414.symm)))).ext E459).other W463 (Nat.ne_of_lt (Nat.lt_of_lt_of_le (((((P3.ext E414).ext E432).other W436 (Nat.ne_of_lt (Nat.lt_of_lt_of_le (P3.ext E414).lt (Nat.le_of_eq gb432.symm)))).other W440 (Nat.ne_of_lt (Nat.lt_of_lt_of_le (P3.ext E414).lt (Nat.le_of_eq gb432.symm)))).other W443 (Nat.ne_of_lt (Nat.lt_of_lt_of_le P3.lt (Nat.le_of_eq gb414.symm)))).lt (Nat.le_of_eq gb459.symm)))).other W467 (Nat.ne_of_lt (Nat.lt_of_lt_of_le (((((P3.ext E414).ext E432).other W436 (Nat.ne_of_lt (Nat.lt_of_lt_of_le (P3.ext E414).lt (Nat.le_of_eq gb432.symm)))).other W440 (Nat.ne_of_lt (Nat.lt_of_lt_of_le (P3.ext E414).lt (Nat.le_of_eq gb432.symm)))).other W443 (Nat.ne_of_lt (Nat.lt_of_lt_of_le P3.lt (Nat.le_of_eq gb414.symm)))).lt (Nat.le_of_eq gb459.symm)))).other W470 (Nat.ne_of_lt (Nat.lt_of_lt_of_le P3.lt (Nat.le_of_eq gb414.symm)))) rfl) hZ (hw _ (List.mem_of_getElem? (i := 102) rfl)) (hw _ (List.mem_of_getElem? (i := 10) rfl)) (by decide) (by decide)) q475a q475b q475c (g := (mkF m 54 #[rv aa, .val (.double (f_sco  s0)), .second, rv b414, iv (2 : Int32), .val (.double (FP.dsub (4607182418800017408 : UInt64) (FP.ddiv (4607182418800017408 : UInt64) (FP.i2d (3 : Int32))))), .second, .val (.double (own_sc s0 s1)), .second] [(.int (2 : Int32)), (.ref aa)])) rfl (by rw [hml]; rfl) (Steps.refl _) (argsL := [(.int (2 : Int32))]) (rest := []) (lenOf pd9 rfl) rfl (by show 2 * 0 + _ ≤ _; exact Nat.le_of_eq rfl) (hb hby d12_54) (fun _ _ => ⟨rfl, e470, (by decide : 3 + 0 ≤ _), (by decide : 7 + 0 ≤ _)⟩)
    dsimp only [Pt.U, Pt.locs, Pt.cells, Pt.slots] at X475 l475 y475 z475 st475 hQ475
    subst l475 y475 z475
    obtain ⟨rfl, N475, R475_0⟩ := hQ475
    have M475 := Fr.app N470 N475
    have g476 : Goes p e below S0 (T475.setTop (mkF m 59 #[rv aa, .val (.double (f_sco  s0)), .second, rv b414, iv (2 : Int32), .val (.double (FP.dsub (4607182418800017408 : UInt64) (FP.ddiv (4607182418800017408 : UInt64) (FP.i2d (3 : Int32))))), .second, .val (.double (own_sc s0 s1)), .second] [(.ref x2)])) := fun t k => g474 t (st475.trans k)
    obtain ⟨T477, X477, e477, st477⟩ := castY X475 hx hZ hown (hw _ (List.mem_of_getElem? (i := 116) rfl)) R475_0 (Ins.of_exa (((((((((P8.ext E414).ext E432).wr W436).wr W440).wr W443).ext E459).wr W463).wr W467).wr W470) (hw _ (List.mem_of_getElem? (i := 117) rfl))) (g := (mkF m 59 #[rv aa, .val (.double (f_sco  s0)), .second, rv b414, iv (2 : Int32), .val (.double (FP.dsub (4607182418800017408 : UInt64) (FP.ddiv (4607182418800017408 : UInt64) (FP.i2d (3 : Int32))))), .second, .val (.double (own_sc s0 s1)), .second] [(.ref x2)])) rfl rfl (hb hby d12_59)
    have g478 : Goes p e below S0 (T477.setTop (mkF m 62 #[rv aa, .val (.double (f_sco  s0)), .second, rv b414, iv (2 : Int32), .val (.double (FP.dsub (4607182418800017408 : UInt64) (FP.ddiv (4607182418800017408 : UInt64) (FP.i2d (3 : Int32))))), .second, .val (.double (own_sc s0 s1)), .second] [(.ref x2)])) := fun t k => g476 t (st477 t k)
    obtain ⟨cq479, kq479, q479a, q479b, q479c⟩ := isOf hZ e477 (((((((((P8.ext E414).ext E432).wr W436).wr W440).wr W443).ext E459).wr W463).wr W467).wr W470)
    obtain ⟨_, _, ⟨T479, L479, k479, n479⟩, -, X479, ⟨Lc479, hQ479, l479, y479, z479⟩, st479⟩ := X477.virtualBack hx (y := (⟨"com/example/nimble_retrieval/nimbleretrieval/format/Run$Retrieved", "score", "()D"⟩ : MethodName)) (z := (⟨"com/example/nimble_retrieval/nimbleretrieval/format/Run$Retrieved", "score", "()D"⟩ : MethodName)) hown (mvT hZ (hw _ (List.mem_of_getElem? (i := 118) rfl))) (mvT hZ (hw _ (List.mem_of_getElem? (i := 119) rfl))) (notFace_of_selects (args := #[]) (mvT hZ (hw _ (List.mem_of_getElem? (i := 121) rfl)))) (mvT hZ (hw _ (List.mem_of_getElem? (i := 121) rfl))) (mvT hZ (hw _ (List.mem_of_getElem? (i := 120) rfl))) (by decide) (backOf (W := 0) (rm_sco l Z a0 hw [] x2 s2 h470 n0 (Nat.le_trans Z0 (Nat.le_trans (Nat.le_trans (Nat.le_trans (Nat.le_trans (Nat.le_trans (Nat.le_trans (Nat.le_trans (Nat.le_trans (Nat.le_trans (Nat.le_refl _) E414.1) E432.1) (Nat.le_of_eq W436.size.symm)) (Nat.le_of_eq W440.size.symm)) (Nat.le_of_eq W443.size.symm)) E459.1) (Nat.le_of_eq W463.size.symm)) (Nat.le_of_eq W467.size.symm)) (Nat.le_of_eq W470.size.symm))) (((((((((P9.ext E414).ext E432).other W436 (Or.inl (Nat.ne_of_lt (Nat.lt_of_lt_of_le (P8.ext E414).lt (Nat.le_of_eq gb432.symm))))).other W440 (Or.inl (Nat.ne_of_lt (Nat.lt_of_lt_of_le (P8.ext E414).lt (Nat.le_of_eq gb432.symm))))).other W443 (Or.inl (Nat.ne_of_lt (Nat.lt_of_lt_of_le P8.lt (Nat.le_of_eq gb414.symm))))).ext E459).other W463 (Or.inl (Nat.ne_of_lt (Nat.lt_of_lt_of_le (((((P8.ext E414).ext E432).wr W436).wr W440).wr W443).lt (Nat.le_of_eq gb459.symm))))).other W467 (Or.inl (Nat.ne_of_lt (Nat.lt_of_lt_of_le (((((P8.ext E414).ext E432).wr W436).wr W440).wr W443).lt (Nat.le_of_eq gb459.symm))))).other W470 (Or.inl (Nat.ne_of_lt (Nat.lt_of_lt_of_le P8.lt (Nat.le_of_eq gb414.symm)))))) hZ (hw _ (List.mem_of_getElem? (i := 122) rfl)) (hw _ (List.mem_of_getElem? (i := 36) rfl)) (by decide) (by decide)) q479a q479c (g := (mkF m 62 #[rv aa, .val (.double (f_sco  s0)), .second, rv b414, iv (2 : Int32), .val (.double (FP.dsub (4607182418800017408 : UInt64) (FP.ddiv (4607182418800017408 : UInt64) (FP.i2d (3 : Int32))))), .second, .val (.double (own_sc s0 s1)), .second] [(.ref x2)])) rfl (by rw [hml]; rfl) (Steps.refl _) (argsL := []) (rest := []) (lenOf pd10 rfl) rfl (by show 2 * 0 + _ ≤ _; exact Nat.le_of_eq rfl) (hb hby d12_62) (fun _ _ => ⟨rfl, e477, (by decide : 3 + 0 ≤ _), (by decide : 7 + 0 ≤ _)⟩)
    dsimp only [Pt.U, Pt.locs, Pt.cells, Pt.slots] at X479 l479 y479 z479 st479 hQ479
    subst l479 y479 z479
    obtain ⟨rfl, N479, e479⟩ := hQ479
    have M479 := Fr.app M475 N479
    have g480 : Goes p e below S0 (T479.setTop (mkF m 65 #[rv aa, .val (.double (f_sco  s0)), .second, rv b414, iv (2 : Int32), .val (.double (FP.dsub (4607182418800017408 : UInt64) (FP.ddiv (4607182418800017408 : UInt64) (FP.i2d (3 : Int32))))), .second, .val (.double (own_sc s0 s1)), .second] [(.double (f_sco  s2))])) := fun t k => g478 t (st479.trans k)
    have g481 : Goes p e below S0 (T479.setTop (mkF m 66 #[rv aa, .val (.double (f_sco  s0)), .second, rv b414, iv (2 : Int32), .val (.double (FP.dsub (4607182418800017408 : UInt64) (FP.ddiv (4607182418800017408 : UInt64) (FP.i2d (3 : Int32))))), .second, .val (.double (own_sc s0 s1)), .second] [(.double (0 : UInt64)), (.double (f_sco  s2))])) := fun t k => g480 t (by
      refine XS.dconst0 X479.here hx rfl (hb hby d12_65) (v := (0 : UInt64)) rfl ?_
      show Go p e below t T479 m 66 #[rv aa, .val (.double (f_sco  s0)), .second, rv b414, iv (2 : Int32), .val (.double (FP.dsub (4607182418800017408 : UInt64) (FP.ddiv (4607182418800017408 : UInt64) (FP.i2d (3 : Int32))))), .second, .val (.double (own_sc s0 s1)), .second] [(.double (0 : UInt64)), (.double (f_sco  s2))]
      exact k)
    obtain ⟨T482, X482, e482, st482⟩ := natS X479 hx hZ (y := (⟨"java/lang/Math", "max", "(DD)D"⟩ : MethodName)) hown (hw _ (List.mem_of_getElem? (i := 133) rfl)) (hw _ (List.mem_of_getElem? (i := 134) rfl)) (hw _ (List.mem_of_getElem? (i := 3) rfl)) (hw _ (List.mem_of_getElem? (i := 135) rfl)) (by decide) e479 (W := 0) (fun c4 => Jvm.Free.Fl.Abs.maxD_pays (f_sco  s2) (0 : UInt64) c4 (by decide) (by decide)) (g := (mkF m 66 #[rv aa, .val (.double (f_sco  s0)), .second, rv b414, iv (2 : Int32), .val (.double (FP.dsub (4607182418800017408 : UInt64) (FP.ddiv (4607182418800017408 : UInt64) (FP.i2d (3 : Int32))))), .second, .val (.double (own_sc s0 s1)), .second] [(.double (0 : UInt64)), (.double (f_sco  s2))])) rfl (by rw [hml]; rfl) (argsL := [(.double (f_sco  s2)), (.double (0 : UInt64))]) (rest := []) (lenOf pd12 rfl) rfl (by show 2 * 0 + _ ≤ _; exact Nat.le_of_eq rfl) (hb hby d12_66) (Nat.le_of_ble_eq_true rfl) (Nat.le_of_ble_eq_true rfl) ⟨rfl, fs2.noNaN, (by unfold Jvm.Free.Fl.NoNaN64; decide +kernel)⟩ (val' := (.double (Native.java_lang_Math.nans.pick64 true (f_sco  s2) (0 : UInt64)))) rfl
    have g483 : Goes p e below S0 (T482.setTop (mkF m 69 #[rv aa, .val (.double (f_sco  s0)), .second, rv b414, iv (2 : Int32), .val (.double (FP.dsub (4607182418800017408 : UInt64) (FP.ddiv (4607182418800017408 : UInt64) (FP.i2d (3 : Int32))))), .second, .val (.double (own_sc s0 s1)), .second] [(.double (Native.java_lang_Math.nans.pick64 true (f_sco  s2) (0 : UInt64)))])) := fun t k => g481 t (st482 t k)
    have g484 : Goes p e below S0 (T482.setTop (mkF m 77 #[rv aa, .val (.double (f_sco  s0)), .second, rv b414, iv (2 : Int32), .val (.double (FP.dsub (4607182418800017408 : UInt64) (FP.ddiv (4607182418800017408 : UInt64) (FP.i2d (3 : Int32))))), .second, .val (.double (FP.ddiv (Native.java_lang_Math.nans.pick64 true (f_sco  s2) (0 : UInt64)) (f_sco  s0))), .second] [])) := fun t k => g483 t (by
      refine XS.dloadN X482.here hx rfl (hb hby d12_69) rfl ?_
      show Go p e below t T482 m 70 #[rv aa, .val (.double (f_sco  s0)), .second, rv b414, iv (2 : Int32), .val (.double (FP.dsub (4607182418800017408 : UInt64) (FP.ddiv (4607182418800017408 : UInt64) (FP.i2d (3 : Int32))))), .second, .val (.double (own_sc s0 s1)), .second] [(.double (f_sco  s0)), (.double (Native.java_lang_Math.nans.pick64 true (f_sco  s2) (0 : UInt64)))]
      refine XS.ddivS X482.here hx rfl (hb hby d12_70) rfl (own_nnd fs2 fs0 h419) rfl ?_
      show Go p e below t T482 m 71 #[rv aa, .val (.double (f_sco  s0)), .second, rv b414, iv (2 : Int32), .val (.double (FP.dsub (4607182418800017408 : UInt64) (FP.ddiv (4607182418800017408 : UInt64) (FP.i2d (3 : Int32))))), .second, .val (.double (own_sc s0 s1)), .second] [(.double (FP.ddiv (Native.java_lang_Math.nans.pick64 true (f_sco  s2) (0 : UInt64)) (f_sco  s0)))]
      refine XS.goto X482.here hx rfl (pc0 := 71) (pc' := 75) rfl (hb hby d12_71) (by decide) (by decide) ?_
      show Go p e below t T482 m 75 #[rv aa, .val (.double (f_sco  s0)), .second, rv b414, iv (2 : Int32), .val (.double (FP.dsub (4607182418800017408 : UInt64) (FP.ddiv (4607182418800017408 : UInt64) (FP.i2d (3 : Int32))))), .second, .val (.double (own_sc s0 s1)), .second] [(.double (FP.ddiv (Native.java_lang_Math.nans.pick64 true (f_sco  s2) (0 : UInt64)) (f_sco  s0)))]
      refine XS.dstore X482.here hx rfl (hb hby d12_75) rfl (l' := #[rv aa, .val (.double (f_sco  s0)), .second, rv b414, iv (2 : Int32), .val (.double (FP.dsub (4607182418800017408 : UInt64) (FP.ddiv (4607182418800017408 : UInt64) (FP.i2d (3 : Int32))))), .second, .val (.double (FP.ddiv (Native.java_lang_Math.nans.pick64 true (f_sco  s2) (0 : UInt64)) (f_sco  s0))), .second]) rfl ?_
      show Go p e below t T482 m 77 #[rv aa, .val (.double (f_sco  s0)), .second, rv b414, iv (2 : Int32), .val (.double (FP.dsub (4607182418800017408 : UInt64) (FP.ddiv (4607182418800017408 : UInt64) (FP.i2d (3 : Int32))))), .second, .val (.double (FP.ddiv (Native.java_lang_Math.nans.pick64 true (f_sco  s2) (0 : UInt64)) (f_sco  s0))), .second] []
      exact k)
    rw [show (FP.ddiv (Native.java_lang_Math.nans.pick64 true (f_sco  s2) (0 : UInt64)) (f_sco  s0)) = (own_sc s0 s2) from (if_pos h419).symm] at g484
    have g485 : Goes p e below S0 (T482.setTop (mkF m 81 #[rv aa, .val (.double (f_sco  s0)), .second, rv b414, iv (2 : Int32), .val (.double (FP.dsub (4607182418800017408 : UInt64) (FP.ddiv (4607182418800017408 : UInt64) (FP.i2d (3 : Int32))))), .second, .val (.double (own_sc s0 s2)), .second] [(.int (2 : Int32)), (.int (2 : Int32)), (.ref b414)])) := fun t k => g484 t (by
      refine XS.aloadN X482.here hx rfl (hb hby d12_77) rfl rfl ?_
      show Go p e below t T482 m 78 #[rv aa, .val (.double (f_sco  s0)), .second, rv b414, iv (2 : Int32), .val (.double (FP.dsub (4607182418800017408 : UInt64) (FP.ddiv (4607182418800017408 : UInt64) (FP.i2d (3 : Int32))))), .second, .val (.double (own_sc s0 s2)), .second] [(.ref b414)]
      refine XS.iload X482.here hx rfl (hb hby d12_78) rfl ?_
      show Go p e below t T482 m 80 #[rv aa, .val (.double (f_sco  s0)), .second, rv b414, iv (2 : Int32), .val (.double (FP.dsub (4607182418800017408 : UInt64) (FP.ddiv (4607182418800017408 : UInt64) (FP.i2d (3 : Int32))))), .second, .val (.double (own_sc s0 s2)), .second] [(.int (2 : Int32)), (.ref b414)]
      refine XT.iconstV X482.here hx rfl (2 : Int32) (hb hby d12_80) (by decide) ?_
      show Go p e below t T482 m 81 #[rv aa, .val (.double (f_sco  s0)), .second, rv b414, iv (2 : Int32), .val (.double (FP.dsub (4607182418800017408 : UInt64) (FP.ddiv (4607182418800017408 : UInt64) (FP.i2d (3 : Int32))))), .second, .val (.double (own_sc s0 s2)), .second] [(.int (2 : Int32)), (.int (2 : Int32)), (.ref b414)]
      exact k)
    obtain ⟨T486, h486, k486, X486, e486, E486, A486, Q486, st486⟩ := newPE X482 hx hZ (hw _ (List.mem_of_getElem? (i := 136) rfl)) e482 (g := (mkF m 81 #[rv aa, .val (.double (f_sco  s0)), .second, rv b414, iv (2 : Int32), .val (.double (FP.dsub (4607182418800017408 : UInt64) (FP.ddiv (4607182418800017408 : UInt64) (FP.i2d (3 : Int32))))), .second, .val (.double (own_sc s0 s2)), .second] [(.int (2 : Int32)), (.int (2 : Int32)), (.ref b414)])) rfl (hb hby d12_81) rfl (by decide) (cap := 2) (by decide) (by decide) (by decide) (by decide) (ad := "[D") (by decide)
    obtain ⟨b486, gb486⟩ : ∃ z, z = h470.size := ⟨_, rfl⟩
    have sz486 : h0.size ≤ b486 := Nat.le_trans (Nat.le_trans (Nat.le_trans (Nat.le_trans (Nat.le_trans (Nat.le_trans (Nat.le_trans (Nat.le_trans (Nat.le_trans (Nat.le_trans (Nat.le_refl _) E414.1) E432.1) (Nat.le_of_eq W436.size.symm)) (Nat.le_of_eq W440.size.symm)) (Nat.le_of_eq W443.size.symm)) E459.1) (Nat.le_of_eq W463.size.symm)) (Nat.le_of_eq W467.size.symm)) (Nat.le_of_eq W470.size.symm)) (Nat.le_of_eq gb486.symm)
    have ng486 : n0 ≤ b486 := Nat.le_trans Z0 sz486
    rw [← gb486] at A486 st486 Q486
    have V486 : Arv Z h486 b486 k486 .double (2 : Int32) [(.double (0 : UInt64)), (.double (0 : UInt64))] (.double (0 : UInt64)) := (Arv.new A486 (by decide)).pad (pad_rep [] (.double (0 : UInt64)) 2)
    have g487 : Goes p e below S0 (T486.setTop (mkF m 83 #[rv aa, .val (.double (f_sco  s0)), .second, rv b414, iv (2 : Int32), .val (.double (FP.dsub (4607182418800017408 : UInt64) (FP.ddiv (4607182418800017408 : UInt64) (FP.i2d (3 : Int32))))), .second, .val (.double (own_sc s0 s2)), .second] [(.ref b486), (.int (2 : Int32)), (.ref b414)])) := fun t k => g485 t (st486 t k)
    have g488 : Goes p e below S0 (T486.setTop (mkF m 87 #[rv aa, .val (.double (f_sco  s0)), .second, rv b414, iv (2 : Int32), .val (.double (FP.dsub (4607182418800017408 : UInt64) (FP.ddiv (4607182418800017408 : UInt64) (FP.i2d (3 : Int32))))), .second, .val (.double (own_sc s0 s2)), .second] [(.double (FP.dsub (4607182418800017408 : UInt64) (FP.ddiv (4607182418800017408 : UInt64) (FP.i2d (3 : Int32))))), (.int (0 : Int32)), (.ref b486), (.ref b486), (.int (2 : Int32)), (.ref b414)])) := fun t k => g487 t (by
      refine XS.dup X486.here hx rfl (hb hby d12_83) rfl rfl ?_
      show Go p e below t T486 m 84 #[rv aa, .val (.double (f_sco  s0)), .second, rv b414, iv (2 : Int32), .val (.double (FP.dsub (4607182418800017408 : UInt64) (FP.ddiv (4607182418800017408 : UInt64) (FP.i2d (3 : Int32))))), .second, .val (.double (own_sc s0 s2)), .second] [(.ref b486), (.ref b486), (.int (2 : Int32)), (.ref b414)]
      refine XT.iconstV X486.here hx rfl (0 : Int32) (hb hby d12_84) (by decide) ?_
      show Go p e below t T486 m 85 #[rv aa, .val (.double (f_sco  s0)), .second, rv b414, iv (2 : Int32), .val (.double (FP.dsub (4607182418800017408 : UInt64) (FP.ddiv (4607182418800017408 : UInt64) (FP.i2d (3 : Int32))))), .second, .val (.double (own_sc s0 s2)), .second] [(.int (0 : Int32)), (.ref b486), (.ref b486), (.int (2 : Int32)), (.ref b414)]
      refine XS.dload X486.here hx rfl (hb hby d12_85) rfl ?_
      show Go p e below t T486 m 87 #[rv aa, .val (.double (f_sco  s0)), .second, rv b414, iv (2 : Int32), .val (.double (FP.dsub (4607182418800017408 : UInt64) (FP.ddiv (4607182418800017408 : UInt64) (FP.i2d (3 : Int32))))), .second, .val (.double (own_sc s0 s2)), .second] [(.double (FP.dsub (4607182418800017408 : UInt64) (FP.ddiv (4607182418800017408 : UInt64) (FP.i2d (3 : Int32))))), (.int (0 : Int32)), (.ref b486), (.ref b486), (.int (2 : Int32)), (.ref b414)]
      exact k)
    obtain ⟨cl489, Ar489, q489, S489, M489, H489, G489⟩ := id V486
    obtain ⟨T490, h490, X490, e490, W490, st490⟩ := stD X486 hx hZ e486 Ar489 (j := (0 : Int32)) (inb_of S489 ⟨by decide, by decide⟩) (g := (mkF m 87 #[rv aa, .val (.double (f_sco  s0)), .second, rv b414, iv (2 : Int32), .val (.double (FP.dsub (4607182418800017408 : UInt64) (FP.ddiv (4607182418800017408 : UInt64) (FP.i2d (3 : Int32))))), .second, .val (.double (own_sc s0 s2)), .second] [(.double (FP.dsub (4607182418800017408 : UInt64) (FP.ddiv (4607182418800017408 : UInt64) (FP.i2d (3 : Int32))))), (.int (0 : Int32)), (.ref b486), (.ref b486), (.int (2 : Int32)), (.ref b414)])) rfl rfl (hb hby d12_87)
    have N490 := Fr.snoc X490 M479 ng486
    have V490 : Arv Z h490 b486 k486 .double (2 : Int32) [(.double (FP.dsub (4607182418800017408 : UInt64) (FP.ddiv (4607182418800017408 : UInt64) (FP.i2d (3 : Int32))))), (.double (0 : UInt64))] (.double (0 : UInt64)) := Arv.set Ar489 q489 S489 M489 H489 G489 rfl W490 0 rfl (Nat.le_of_ble_eq_true rfl)
    have g491 : Goes p e below S0 (T490.setTop (mkF m 88 #[rv aa, .val (.double (f_sco  s0)), .second, rv b414, iv (2 : Int32), .val (.double (FP.dsub (4607182418800017408 : UInt64) (FP.ddiv (4607182418800017408 : UInt64) (FP.i2d (3 : Int32))))), .second, .val (.double (own_sc s0 s2)), .second] [(.ref b486), (.int (2 : Int32)), (.ref b414)])) := fun t k => g488 t (st490 t k)
    have g492 : Goes p e below S0 (T490.setTop (mkF m 92 #[rv aa, .val (.double (f_sco  s0)), .second, rv b414, iv (2 : Int32), .val (.double (FP.dsub (4607182418800017408 : UInt64) (FP.ddiv (4607182418800017408 : UInt64) (FP.i2d (3 : Int32))))), .second, .val (.double (own_sc s0 s2)), .second] [(.double (own_sc s0 s2)), (.int (1 : Int32)), (.ref b486), (.ref b486), (.int (2 : Int32)), (.ref b414)])) := fun t k => g491 t (by
      refine XS.dup X490.here hx rfl (hb hby d12_88) rfl rfl ?_
      show Go p e below t T490 m 89 #[rv aa, .val (.double (f_sco  s0)), .second, rv b414, iv (2 : Int32), .val (.double (FP.dsub (4607182418800017408 : UInt64) (FP.ddiv (4607182418800017408 : UInt64) (FP.i2d (3 : Int32))))), .second, .val (.double (own_sc s0 s2)), .second] [(.ref b486), (.ref b486), (.int (2 : Int32)), (.ref b414)]
      refine XT.iconstV X490.here hx rfl (1 : Int32) (hb hby d12_89) (by decide) ?_
      show Go p e below t T490 m 90 #[rv aa, .val (.double (f_sco  s0)), .second, rv b414, iv (2 : Int32), .val (.double (FP.dsub (4607182418800017408 : UInt64) (FP.ddiv (4607182418800017408 : UInt64) (FP.i2d (3 : Int32))))), .second, .val (.double (own_sc s0 s2)), .second] [(.int (1 : Int32)), (.ref b486), (.ref b486), (.int (2 : Int32)), (.ref b414)]
      refine XS.dload X490.here hx rfl (hb hby d12_90) rfl ?_
      show Go p e below t T490 m 92 #[rv aa, .val (.double (f_sco  s0)), .second, rv b414, iv (2 : Int32), .val (.double (FP.dsub (4607182418800017408 : UInt64) (FP.ddiv (4607182418800017408 : UInt64) (FP.i2d (3 : Int32))))), .second, .val (.double (own_sc s0 s2)), .second] [(.double (own_sc s0 s2)), (.int (1 : Int32)), (.ref b486), (.ref b486), (.int (2 : Int32)), (.ref b414)]
      exact k)
    obtain ⟨cl493, Ar493, q493, S493, M493, H493, G493⟩ := id V490
    obtain ⟨T494, h494, X494, e494, W494, st494⟩ := stD X490 hx hZ e490 Ar493 (j := (1 : Int32)) (inb_of S493 ⟨by decide, by decide⟩) (g := (mkF m 92 #[rv aa, .val (.double (f_sco  s0)), .second, rv b414, iv (2 : Int32), .val (.double (FP.dsub (4607182418800017408 : UInt64) (FP.ddiv (4607182418800017408 : UInt64) (FP.i2d (3 : Int32))))), .second, .val (.double (own_sc s0 s2)), .second] [(.double (own_sc s0 s2)), (.int (1 : Int32)), (.ref b486), (.ref b486), (.int (2 : Int32)), (.ref b414)])) rfl rfl (hb hby d12_92)
    have N494 := Fr.snoc X494 N490 ng486
    have V494 : Arv Z h494 b486 k486 .double (2 : Int32) [(.double (FP.dsub (4607182418800017408 : UInt64) (FP.ddiv (4607182418800017408 : UInt64) (FP.i2d (3 : Int32))))), (.double (own_sc s0 s2))] (.double (0 : UInt64)) := Arv.set Ar493 q493 S493 M493 H493 G493 rfl W494 1 rfl (Nat.le_of_ble_eq_true rfl)
    have g495 : Goes p e below S0 (T494.setTop (mkF m 93 #[rv aa, .val (.double (f_sco  s0)), .second, rv b414, iv (2 : Int32), .val (.double (FP.dsub (4607182418800017408 : UInt64) (FP.ddiv (4607182418800017408 : UInt64) (FP.i2d (3 : Int32))))), .second, .val (.double (own_sc s0 s2)), .second] [(.ref b486), (.int (2 : Int32)), (.ref b414)])) := fun t k => g492 t (st494 t k)
    obtain ⟨cl496, Ar496, q496, S496, M496, H496, G496⟩ := id (((V470.ext E486).other W490 (Nat.ne_of_lt (Nat.lt_of_lt_of_le V470.lt (Nat.le_of_eq gb486.symm)))).other W494 (Nat.ne_of_lt (Nat.lt_of_lt_of_le V470.lt (Nat.le_of_eq gb486.symm))))
    obtain ⟨T497, h497, X497, e497, W497, st497⟩ := stR X494 hx hZ e494 Ar496 (j := (2 : Int32)) (inb_of S496 ⟨by decide, by decide⟩) rfl (Sto.ofVA Ar496 q496 O414 (Ins.of_exa ((Q486.wr W490).wr W494) (hw _ (List.mem_of_getElem? (i := 137) rfl)))) (g := (mkF m 93 #[rv aa, .val (.double (f_sco  s0)), .second, rv b414, iv (2 : Int32), .val (.double (FP.dsub (4607182418800017408 : UInt64) (FP.ddiv (4607182418800017408 : UInt64) (FP.i2d (3 : Int32))))), .second, .val (.double (own_sc s0 s2)), .second] [(.ref b486), (.int (2 : Int32)), (.ref b414)])) rfl rfl (hb hby d12_93)
    have N497 := Fr.snoc X497 N494 ng414
    have V497 : Arv Z h497 b414 k414 (.array .double) (3 : Int32) [(.ref b432), (.ref b459), (.ref b486)] .null := Arv.set Ar496 q496 S496 M496 H496 G496 rfl W497 2 rfl (Nat.le_of_ble_eq_true rfl)
    have g498 : Goes p e below S0 (T497.setTop (mkF m 94 #[rv aa, .val (.double (f_sco  s0)), .second, rv b414, iv (2 : Int32), .val (.double (FP.dsub (4607182418800017408 : UInt64) (FP.ddiv (4607182418800017408 : UInt64) (FP.i2d (3 : Int32))))), .second, .val (.double (own_sc s0 s2)), .second] [])) := fun t k => g495 t (st497 t k)
    have g499 : Goes p e below S0 (T497.setTop (mkF m 30 #[rv aa, .val (.double (f_sco  s0)), .second, rv b414, iv (3 : Int32), .val (.double (FP.dsub (4607182418800017408 : UInt64) (FP.ddiv (4607182418800017408 : UInt64) (FP.i2d (3 : Int32))))), .second, .val (.double (own_sc s0 s2)), .second] [(.ref b414), (.int (3 : Int32))])) := fun t k => g498 t (by
      refine XT.iincV X497.here hx rfl (1 : Int32) (hb hby d12_94) (by decide) rfl (l' := #[rv aa, .val (.double (f_sco  s0)), .second, rv b414, iv (3 : Int32), .val (.double (FP.dsub (4607182418800017408 : UInt64) (FP.ddiv (4607182418800017408 : UInt64) (FP.i2d (3 : Int32))))), .second, .val (.double (own_sc s0 s2)), .second]) rfl ?_
      show Go p e below t T497 m 97 #[rv aa, .val (.double (f_sco  s0)), .second, rv b414, iv (3 : Int32), .val (.double (FP.dsub (4607182418800017408 : UInt64) (FP.ddiv (4607182418800017408 : UInt64) (FP.i2d (3 : Int32))))), .second, .val (.double (own_sc s0 s2)), .second] []
      refine XS.goto X497.here hx rfl (pc0 := 97) (pc' := 27) rfl (hb hby d12_97) (by decide) (by decide) ?_
      show Go p e below t T497 m 27 #[rv aa, .val (.double (f_sco  s0)), .second, rv b414, iv (3 : Int32), .val (.double (FP.dsub (4607182418800017408 : UInt64) (FP.ddiv (4607182418800017408 : UInt64) (FP.i2d (3 : Int32))))), .second, .val (.double (own_sc s0 s2)), .second] []
      refine XS.iload X497.here hx rfl (hb hby d12_27) rfl ?_
      show Go p e below t T497 m 29 #[rv aa, .val (.double (f_sco  s0)), .second, rv b414, iv (3 : Int32), .val (.double (FP.dsub (4607182418800017408 : UInt64) (FP.ddiv (4607182418800017408 : UInt64) (FP.i2d (3 : Int32))))), .second, .val (.double (own_sc s0 s2)), .second] [(.int (3 : Int32))]
      refine XS.aloadN X497.here hx rfl (hb hby d12_29) rfl rfl ?_
      show Go p e below t T497 m 30 #[rv aa, .val (.double (f_sco  s0)), .second, rv b414, iv (3 : Int32), .val (.double (FP.dsub (4607182418800017408 : UInt64) (FP.ddiv (4607182418800017408 : UInt64) (FP.i2d (3 : Int32))))), .second, .val (.double (own_sc s0 s2)), .second] [(.ref b414), (.int (3 : Int32))]
      exact k)
    obtain ⟨cl500, Ar500, q500, S500, M500, H500, G500⟩ := id V497
    have g501 : Goes p e below S0 (T497.setTop (mkF m 101 #[rv aa, .val (.double (f_sco  s0)), .second, rv b414, iv (3 : Int32), .val (.double (FP.dsub (4607182418800017408 : UInt64) (FP.ddiv (4607182418800017408 : UInt64) (FP.i2d (3 : Int32))))), .second, .val (.double (own_sc s0 s2)), .second] [(.ref b414)])) := fun t k => g499 t (by
      refine X497.arraylength hx (by rw [e497]; exact Ar500.1) (State.isArrayOf_alike hZ.alike Ar500.2.1) (g := (mkF m 30 #[rv aa, .val (.double (f_sco  s0)), .second, rv b414, iv (3 : Int32), .val (.double (FP.dsub (4607182418800017408 : UInt64) (FP.ddiv (4607182418800017408 : UInt64) (FP.i2d (3 : Int32))))), .second, .val (.double (own_sc s0 s2)), .second] [(.ref b414), (.int (3 : Int32))])) rfl rfl (hb hby d12_30) _ ?_
      rw [len_of S500 M500]
      show Go p e below t T497 m 31 #[rv aa, .val (.double (f_sco  s0)), .second, rv b414, iv (3 : Int32), .val (.double (FP.dsub (4607182418800017408 : UInt64) (FP.ddiv (4607182418800017408 : UInt64) (FP.i2d (3 : Int32))))), .second, .val (.double (own_sc s0 s2)), .second] [(.int (3 : Int32)), (.int (3 : Int32))]
      refine XS.icmpYes X497.here hx rfl (pc0 := 31) (pc' := 100) rfl (hb hby d12_31) rfl (XT.ii_ge_t (by decide)) (by decide) (by decide) ?_
      show Go p e below t T497 m 100 #[rv aa, .val (.double (f_sco  s0)), .second, rv b414, iv (3 : Int32), .val (.double (FP.dsub (4607182418800017408 : UInt64) (FP.ddiv (4607182418800017408 : UInt64) (FP.i2d (3 : Int32))))), .second, .val (.double (own_sc s0 s2)), .second] []
      refine XS.aloadN X497.here hx rfl (hb hby d12_100) rfl rfl ?_
      show Go p e below t T497 m 101 #[rv aa, .val (.double (f_sco  s0)), .second, rv b414, iv (3 : Int32), .val (.double (FP.dsub (4607182418800017408 : UInt64) (FP.ddiv (4607182418800017408 : UInt64) (FP.i2d (3 : Int32))))), .second, .val (.double (own_sc s0 s2)), .second] [(.ref b414)]
      exact k)
    obtain ⟨fs, hr, hrun, hended, hW, hsame⟩ := X497.leave (v := some (.ref b414)) (fun h => by rw [Bd.returns] at h; cases h)
    refine ⟨_, _, g501 _ (retOut X497 hx Bd.returns rfl (Or.inr (Or.inr (Or.inr (Or.inr ⟨rfl, rfl, rfl⟩)))) (hb hby d12_101) hr), hrun, hended, _, _, rfl, ?_, ⟨_, rfl⟩, hW, hsame.mono (by decide) (by decide)⟩
    show Q_inp3 Z aa ea ek x0 x1 x2 s0 s1 s2 h0 n0 _ T497.heap _
    rw [e497]
    exact ⟨b414, k414, b432, b459, b486, k432, k459, k486, rfl, N497, ((((((((((((((Keep.refl h0 []).ext E414).ext E432).wr W436 (Or.inr sz432)).wr W440 (Or.inr sz432)).wr W443 (Or.inr sz414)).ext E459).wr W463 (Or.inr sz459)).wr W467 (Or.inr sz459)).wr W470 (Or.inr sz414)).ext E486).wr W490 (Or.inr sz486)).wr W494 (Or.inr sz486)).wr W497 (Or.inr sz414)), sz414, sz432, sz459, sz486, V497, (((((((((V440.other W443 (Ne.symm (Nat.ne_of_lt (Nat.lt_of_lt_of_le Q414.lt (Nat.le_of_eq gb432.symm))))).ext E459).other W463 (Nat.ne_of_lt (Nat.lt_of_lt_of_le (((Q432.wr W436).wr W440).wr W443).lt (Nat.le_of_eq gb459.symm)))).other W467 (Nat.ne_of_lt (Nat.lt_of_lt_of_le (((Q432.wr W436).wr W440).wr W443).lt (Nat.le_of_eq gb459.symm)))).other W470 (Ne.symm (Nat.ne_of_lt (Nat.lt_of_lt_of_le Q414.lt (Nat.le_of_eq gb432.symm))))).ext E486).other W490 (Nat.ne_of_lt (Nat.lt_of_lt_of_le (((((((Q432.wr W436).wr W440).wr W443).ext E459).wr W463).wr W467).wr W470).lt (Nat.le_of_eq gb486.symm)))).other W494 (Nat.ne_of_lt (Nat.lt_of_lt_of_le (((((((Q432.wr W436).wr W440).wr W443).ext E459).wr W463).wr W467).wr W470).lt (Nat.le_of_eq gb486.symm)))).other W497 (Ne.symm (Nat.ne_of_lt (Nat.lt_of_lt_of_le Q414.lt (Nat.le_of_eq gb432.symm))))), (((((V467.other W470 (Ne.symm (Nat.ne_of_lt (Nat.lt_of_lt_of_le ((((Q414.ext E432).wr W436).wr W440).wr W443).lt (Nat.le_of_eq gb459.symm))))).ext E486).other W490 (Nat.ne_of_lt (Nat.lt_of_lt_of_le (((Q459.wr W463).wr W467).wr W470).lt (Nat.le_of_eq gb486.symm)))).other W494 (Nat.ne_of_lt (Nat.lt_of_lt_of_le (((Q459.wr W463).wr W467).wr W470).lt (Nat.le_of_eq gb486.symm)))).other W497 (Ne.symm (Nat.ne_of_lt (Nat.lt_of_lt_of_le ((((Q414.ext E432).wr W436).wr W440).wr W443).lt (Nat.le_of_eq gb459.symm))))), (V494.other W497 (Ne.symm (Nat.ne_of_lt (Nat.lt_of_lt_of_le ((((((((Q414.ext E432).wr W436).wr W440).wr W443).ext E459).wr W463).wr W467).wr W470).lt (Nat.le_of_eq gb486.symm)))))⟩
  · skip
    have g502 : Goes p e below S0 (T414.setTop (mkF m 77 #[rv aa, .val (.double (f_sco  s0)), .second, rv b414, iv (0 : Int32), .val (.double (FP.dsub (4607182418800017408 : UInt64) (FP.ddiv (4607182418800017408 : UInt64) (FP.i2d (1 : Int32))))), .second, .val (.double (0 : UInt64)), .second] [])) := fun t k => g418 t (by
      refine XS.ifYes X414.here hx rfl (pc0 := 48) (pc' := 74) rfl (hb hby d12_48) rfl (dc_l_le_t h419) (by decide) (by decide) ?_
      show Go p e below t T414 m 74 #[rv aa, .val (.double (f_sco  s0)), .second, rv b414, iv (0 : Int32), .val (.double (FP.dsub (4607182418800017408 : UInt64) (FP.ddiv (4607182418800017408 : UInt64) (FP.i2d (1 : Int32))))), .second, .unset, .unset] []
      refine XS.dconst0 X414.here hx rfl (hb hby d12_74) (v := (0 : UInt64)) rfl ?_
      show Go p e below t T414 m 75 #[rv aa, .val (.double (f_sco  s0)), .second, rv b414, iv (0 : Int32), .val (.double (FP.dsub (4607182418800017408 : UInt64) (FP.ddiv (4607182418800017408 : UInt64) (FP.i2d (1 : Int32))))), .second, .unset, .unset] [(.double (0 : UInt64))]
      refine XS.dstore X414.here hx rfl (hb hby d12_75) rfl (l' := #[rv aa, .val (.double (f_sco  s0)), .second, rv b414, iv (0 : Int32), .val (.double (FP.dsub (4607182418800017408 : UInt64) (FP.ddiv (4607182418800017408 : UInt64) (FP.i2d (1 : Int32))))), .second, .val (.double (0 : UInt64)), .second]) rfl ?_
      show Go p e below t T414 m 77 #[rv aa, .val (.double (f_sco  s0)), .second, rv b414, iv (0 : Int32), .val (.double (FP.dsub (4607182418800017408 : UInt64) (FP.ddiv (4607182418800017408 : UInt64) (FP.i2d (1 : Int32))))), .second, .val (.double (0 : UInt64)), .second] []
      exact k)
    rw [show (0 : UInt64) = (own_sc s0 s0) from (if_neg h419).symm] at g502
    have g503 : Goes p e below S0 (T414.setTop (mkF m 81 #[rv aa, .val (.double (f_sco  s0)), .second, rv b414, iv (0 : Int32), .val (.double (FP.dsub (4607182418800017408 : UInt64) (FP.ddiv (4607182418800017408 : UInt64) (FP.i2d (1 : Int32))))), .second, .val (.double (own_sc s0 s0)), .second] [(.int (2 : Int32)), (.int (0 : Int32)), (.ref b414)])) := fun t k => g502 t (by
      refine XS.aloadN X414.here hx rfl (hb hby d12_77) rfl rfl ?_
      show Go p e below t T414 m 78 #[rv aa, .val (.double (f_sco  s0)), .second, rv b414, iv (0 : Int32), .val (.double (FP.dsub (4607182418800017408 : UInt64) (FP.ddiv (4607182418800017408 : UInt64) (FP.i2d (1 : Int32))))), .second, .val (.double (own_sc s0 s0)), .second] [(.ref b414)]
      refine XS.iload X414.here hx rfl (hb hby d12_78) rfl ?_
      show Go p e below t T414 m 80 #[rv aa, .val (.double (f_sco  s0)), .second, rv b414, iv (0 : Int32), .val (.double (FP.dsub (4607182418800017408 : UInt64) (FP.ddiv (4607182418800017408 : UInt64) (FP.i2d (1 : Int32))))), .second, .val (.double (own_sc s0 s0)), .second] [(.int (0 : Int32)), (.ref b414)]
      refine XT.iconstV X414.here hx rfl (2 : Int32) (hb hby d12_80) (by decide) ?_
      show Go p e below t T414 m 81 #[rv aa, .val (.double (f_sco  s0)), .second, rv b414, iv (0 : Int32), .val (.double (FP.dsub (4607182418800017408 : UInt64) (FP.ddiv (4607182418800017408 : UInt64) (FP.i2d (1 : Int32))))), .second, .val (.double (own_sc s0 s0)), .second] [(.int (2 : Int32)), (.int (0 : Int32)), (.ref b414)]
      exact k)
    obtain ⟨T504, h504, k504, X504, e504, E504, A504, Q504, st504⟩ := newPE X414 hx hZ (hw _ (List.mem_of_getElem? (i := 136) rfl)) e414 (g := (mkF m 81 #[rv aa, .val (.double (f_sco  s0)), .second, rv b414, iv (0 : Int32), .val (.double (FP.dsub (4607182418800017408 : UInt64) (FP.ddiv (4607182418800017408 : UInt64) (FP.i2d (1 : Int32))))), .second, .val (.double (own_sc s0 s0)), .second] [(.int (2 : Int32)), (.int (0 : Int32)), (.ref b414)])) rfl (hb hby d12_81) rfl (by decide) (cap := 2) (by decide) (by decide) (by decide) (by decide) (ad := "[D") (by decide)
    obtain ⟨b504, gb504⟩ : ∃ z, z = h414.size := ⟨_, rfl⟩
    have sz504 : h0.size ≤ b504 := Nat.le_trans (Nat.le_trans (Nat.le_refl _) E414.1) (Nat.le_of_eq gb504.symm)
    have ng504 : n0 ≤ b504 := Nat.le_trans Z0 sz504
    rw [← gb504] at A504 st504 Q504
    have V504 : Arv Z h504 b504 k504 .double (2 : Int32) [(.double (0 : UInt64)), (.double (0 : UInt64))] (.double (0 : UInt64)) := (Arv.new A504 (by decide)).pad (pad_rep [] (.double (0 : UInt64)) 2)
    have g505 : Goes p e below S0 (T504.setTop (mkF m 83 #[rv aa, .val (.double (f_sco  s0)), .second, rv b414, iv (0 : Int32), .val (.double (FP.dsub (4607182418800017408 : UInt64) (FP.ddiv (4607182418800017408 : UInt64) (FP.i2d (1 : Int32))))), .second, .val (.double (own_sc s0 s0)), .second] [(.ref b504), (.int (0 : Int32)), (.ref b414)])) := fun t k => g503 t (st504 t k)
    have g506 : Goes p e below S0 (T504.setTop (mkF m 87 #[rv aa, .val (.double (f_sco  s0)), .second, rv b414, iv (0 : Int32), .val (.double (FP.dsub (4607182418800017408 : UInt64) (FP.ddiv (4607182418800017408 : UInt64) (FP.i2d (1 : Int32))))), .second, .val (.double (own_sc s0 s0)), .second] [(.double (FP.dsub (4607182418800017408 : UInt64) (FP.ddiv (4607182418800017408 : UInt64) (FP.i2d (1 : Int32))))), (.int (0 : Int32)), (.ref b504), (.ref b504), (.int (0 : Int32)), (.ref b414)])) := fun t k => g505 t (by
      refine XS.dup X504.here hx rfl (hb hby d12_83) rfl rfl ?_
      show Go p e below t T504 m 84 #[rv aa, .val (.double (f_sco  s0)), .second, rv b414, iv (0 : Int32), .val (.double (FP.dsub (4607182418800017408 : UInt64) (FP.ddiv (4607182418800017408 : UInt64) (FP.i2d (1 : Int32))))), .second, .val (.double (own_sc s0 s0)), .second] [(.ref b504), (.ref b504), (.int (0 : Int32)), (.ref b414)]
      refine XT.iconstV X504.here hx rfl (0 : Int32) (hb hby d12_84) (by decide) ?_
      show Go p e below t T504 m 85 #[rv aa, .val (.double (f_sco  s0)), .second, rv b414, iv (0 : Int32), .val (.double (FP.dsub (4607182418800017408 : UInt64) (FP.ddiv (4607182418800017408 : UInt64) (FP.i2d (1 : Int32))))), .second, .val (.double (own_sc s0 s0)), .second] [(.int (0 : Int32)), (.ref b504), (.ref b504), (.int (0 : Int32)), (.ref b414)]
      refine XS.dload X504.here hx rfl (hb hby d12_85) rfl ?_
      show Go p e below t T504 m 87 #[rv aa, .val (.double (f_sco  s0)), .second, rv b414, iv (0 : Int32), .val (.double (FP.dsub (4607182418800017408 : UInt64) (FP.ddiv (4607182418800017408 : UInt64) (FP.i2d (1 : Int32))))), .second, .val (.double (own_sc s0 s0)), .second] [(.double (FP.dsub (4607182418800017408 : UInt64) (FP.ddiv (4607182418800017408 : UInt64) (FP.i2d (1 : Int32))))), (.int (0 : Int32)), (.ref b504), (.ref b504), (.int (0 : Int32)), (.ref b414)]
      exact k)
    obtain ⟨cl507, Ar507, q507, S507, M507, H507, G507⟩ := id V504
    obtain ⟨T508, h508, X508, e508, W508, st508⟩ := stD X504 hx hZ e504 Ar507 (j := (0 : Int32)) (inb_of S507 ⟨by decide, by decide⟩) (g := (mkF m 87 #[rv aa, .val (.double (f_sco  s0)), .second, rv b414, iv (0 : Int32), .val (.double (FP.dsub (4607182418800017408 : UInt64) (FP.ddiv (4607182418800017408 : UInt64) (FP.i2d (1 : Int32))))), .second, .val (.double (own_sc s0 s0)), .second] [(.double (FP.dsub (4607182418800017408 : UInt64) (FP.ddiv (4607182418800017408 : UInt64) (FP.i2d (1 : Int32))))), (.int (0 : Int32)), (.ref b504), (.ref b504), (.int (0 : Int32)), (.ref b414)])) rfl rfl (hb hby d12_87)
    have N508 := Fr.snoc X508 M412 ng504
    have V508 : Arv Z h508 b504 k504 .double (2 : Int32) [(.double (FP.dsub (4607182418800017408 : UInt64) (FP.ddiv (4607182418800017408 : UInt64) (FP.i2d (1 : Int32))))), (.double (0 : UInt64))] (.double (0 : UInt64)) := Arv.set Ar507 q507 S507 M507 H507 G507 rfl W508 0 rfl (Nat.le_of_ble_eq_true rfl)
    have g509 : Goes p e below S0 (T508.setTop (mkF m 88 #[rv aa, .val (.double (f_sco  s0)), .second, rv b414, iv (0 : Int32), .val (.double (FP.dsub (4607182418800017408 : UInt64) (FP.ddiv (4607182418800017408 : UInt64) (FP.i2d (1 : Int32))))), .second, .val (.double (own_sc s0 s0)), .second] [(.ref b504), (.int (0 : Int32)), (.ref b414)])) := fun t k => g506 t (st508 t k)
    have g510 : Goes p e below S0 (T508.setTop (mkF m 92 #[rv aa, .val (.double (f_sco  s0)), .second, rv b414, iv (0 : Int32), .val (.double (FP.dsub (4607182418800017408 : UInt64) (FP.ddiv (4607182418800017408 : UInt64) (FP.i2d (1 : Int32))))), .second, .val (.double (own_sc s0 s0)), .second] [(.double (own_sc s0 s0)), (.int (1 : Int32)), (.ref b504), (.ref b504), (.int (0 : Int32)), (.ref b414)])) := fun t k => g509 t (by
      refine XS.dup X508.here hx rfl (hb hby d12_88) rfl rfl ?_
      show Go p e below t T508 m 89 #[rv aa, .val (.double (f_sco  s0)), .second, rv b414, iv (0 : Int32), .val (.double (FP.dsub (4607182418800017408 : UInt64) (FP.ddiv (4607182418800017408 : UInt64) (FP.i2d (1 : Int32))))), .second, .val (.double (own_sc s0 s0)), .second] [(.ref b504), (.ref b504), (.int (0 : Int32)), (.ref b414)]
      refine XT.iconstV X508.here hx rfl (1 : Int32) (hb hby d12_89) (by decide) ?_
      show Go p e below t T508 m 90 #[rv aa, .val (.double (f_sco  s0)), .second, rv b414, iv (0 : Int32), .val (.double (FP.dsub (4607182418800017408 : UInt64) (FP.ddiv (4607182418800017408 : UInt64) (FP.i2d (1 : Int32))))), .second, .val (.double (own_sc s0 s0)), .second] [(.int (1 : Int32)), (.ref b504), (.ref b504), (.int (0 : Int32)), (.ref b414)]
      refine XS.dload X508.here hx rfl (hb hby d12_90) rfl ?_
      show Go p e below t T508 m 92 #[rv aa, .val (.double (f_sco  s0)), .second, rv b414, iv (0 : Int32), .val (.double (FP.dsub (4607182418800017408 : UInt64) (FP.ddiv (4607182418800017408 : UInt64) (FP.i2d (1 : Int32))))), .second, .val (.double (own_sc s0 s0)), .second] [(.double (own_sc s0 s0)), (.int (1 : Int32)), (.ref b504), (.ref b504), (.int (0 : Int32)), (.ref b414)]
      exact k)
    obtain ⟨cl511, Ar511, q511, S511, M511, H511, G511⟩ := id V508
    obtain ⟨T512, h512, X512, e512, W512, st512⟩ := stD X508 hx hZ e508 Ar511 (j := (1 : Int32)) (inb_of S511 ⟨by decide, by decide⟩) (g := (mkF m 92 #[rv aa, .val (.double (f_sco  s0)), .second, rv b414, iv (0 : Int32), .val (.double (FP.dsub (4607182418800017408 : UInt64) (FP.ddiv (4607182418800017408 : UInt64) (FP.i2d (1 : Int32))))), .second, .val (.double (own_sc s0 s0)), .second] [(.double (own_sc s0 s0)), (.int (1 : Int32)), (.ref b504), (.ref b504), (.int (0 : Int32)), (.ref b414)])) rfl rfl (hb hby d12_92)
    have N512 := Fr.snoc X512 N508 ng504
    have V512 : Arv Z h512 b504 k504 .double (2 : Int32) [(.double (FP.dsub (4607182418800017408 : UInt64) (FP.ddiv (4607182418800017408 : UInt64) (FP.i2d (1 : Int32))))), (.double (own_sc s0 s0))] (.double (0 : UInt64)) := Arv.set Ar511 q511 S511 M511 H511 G511 rfl W512 1 rfl (Nat.le_of_ble_eq_true rfl)
    have g513 : Goes p e below S0 (T512.setTop (mkF m 93 #[rv aa, .val (.double (f_sco  s0)), .second, rv b414, iv (0 : Int32), .val (.double (FP.dsub (4607182418800017408 : UInt64) (FP.ddiv (4607182418800017408 : UInt64) (FP.i2d (1 : Int32))))), .second, .val (.double (own_sc s0 s0)), .second] [(.ref b504), (.int (0 : Int32)), (.ref b414)])) := fun t k => g510 t (st512 t k)
    obtain ⟨cl514, Ar514, q514, S514, M514, H514, G514⟩ := id (((V414.ext E504).other W508 (Nat.ne_of_lt (Nat.lt_of_lt_of_le V414.lt (Nat.le_of_eq gb504.symm)))).other W512 (Nat.ne_of_lt (Nat.lt_of_lt_of_le V414.lt (Nat.le_of_eq gb504.symm))))
    obtain ⟨T515, h515, X515, e515, W515, st515⟩ := stR X512 hx hZ e512 Ar514 (j := (0 : Int32)) (inb_of S514 ⟨by decide, by decide⟩) rfl (Sto.ofVA Ar514 q514 O414 (Ins.of_exa ((Q504.wr W508).wr W512) (hw _ (List.mem_of_getElem? (i := 137) rfl)))) (g := (mkF m 93 #[rv aa, .val (.double (f_sco  s0)), .second, rv b414, iv (0 : Int32), .val (.double (FP.dsub (4607182418800017408 : UInt64) (FP.ddiv (4607182418800017408 : UInt64) (FP.i2d (1 : Int32))))), .second, .val (.double (own_sc s0 s0)), .second] [(.ref b504), (.int (0 : Int32)), (.ref b414)])) rfl rfl (hb hby d12_93)
    have N515 := Fr.snoc X515 N512 ng414
    have V515 : Arv Z h515 b414 k414 (.array .double) (3 : Int32) [(.ref b504), .null, .null] .null := Arv.set Ar514 q514 S514 M514 H514 G514 rfl W515 0 rfl (Nat.le_of_ble_eq_true rfl)
    have g516 : Goes p e below S0 (T515.setTop (mkF m 94 #[rv aa, .val (.double (f_sco  s0)), .second, rv b414, iv (0 : Int32), .val (.double (FP.dsub (4607182418800017408 : UInt64) (FP.ddiv (4607182418800017408 : UInt64) (FP.i2d (1 : Int32))))), .second, .val (.double (own_sc s0 s0)), .second] [])) := fun t k => g513 t (st515 t k)
    have g517 : Goes p e below S0 (T515.setTop (mkF m 30 #[rv aa, .val (.double (f_sco  s0)), .second, rv b414, iv (1 : Int32), .val (.double (FP.dsub (4607182418800017408 : UInt64) (FP.ddiv (4607182418800017408 : UInt64) (FP.i2d (1 : Int32))))), .second, .val (.double (own_sc s0 s0)), .second] [(.ref b414), (.int (1 : Int32))])) := fun t k => g516 t (by
      refine XT.iincV X515.here hx rfl (1 : Int32) (hb hby d12_94) (by decide) rfl (l' := #[rv aa, .val (.double (f_sco  s0)), .second, rv b414, iv (1 : Int32), .val (.double (FP.dsub (4607182418800017408 : UInt64) (FP.ddiv (4607182418800017408 : UInt64) (FP.i2d (1 : Int32))))), .second, .val (.double (own_sc s0 s0)), .second]) rfl ?_
      show Go p e below t T515 m 97 #[rv aa, .val (.double (f_sco  s0)), .second, rv b414, iv (1 : Int32), .val (.double (FP.dsub (4607182418800017408 : UInt64) (FP.ddiv (4607182418800017408 : UInt64) (FP.i2d (1 : Int32))))), .second, .val (.double (own_sc s0 s0)), .second] []
      refine XS.goto X515.here hx rfl (pc0 := 97) (pc' := 27) rfl (hb hby d12_97) (by decide) (by decide) ?_
      show Go p e below t T515 m 27 #[rv aa, .val (.double (f_sco  s0)), .second, rv b414, iv (1 : Int32), .val (.double (FP.dsub (4607182418800017408 : UInt64) (FP.ddiv (4607182418800017408 : UInt64) (FP.i2d (1 : Int32))))), .second, .val (.double (own_sc s0 s0)), .second] []
      refine XS.iload X515.here hx rfl (hb hby d12_27) rfl ?_
      show Go p e below t T515 m 29 #[rv aa, .val (.double (f_sco  s0)), .second, rv b414, iv (1 : Int32), .val (.double (FP.dsub (4607182418800017408 : UInt64) (FP.ddiv (4607182418800017408 : UInt64) (FP.i2d (1 : Int32))))), .second, .val (.double (own_sc s0 s0)), .second] [(.int (1 : Int32))]
      refine XS.aloadN X515.here hx rfl (hb hby d12_29) rfl rfl ?_
      show Go p e below t T515 m 30 #[rv aa, .val (.double (f_sco  s0)), .second, rv b414, iv (1 : Int32), .val (.double (FP.dsub (4607182418800017408 : UInt64) (FP.ddiv (4607182418800017408 : UInt64) (FP.i2d (1 : Int32))))), .second, .val (.double (own_sc s0 s0)), .second] [(.ref b414), (.int (1 : Int32))]
      exact k)
    obtain ⟨cl518, Ar518, q518, S518, M518, H518, G518⟩ := id V515
    have g519 : Goes p e below S0 (T515.setTop (mkF m 77 #[rv aa, .val (.double (f_sco  s0)), .second, rv b414, iv (1 : Int32), .val (.double (FP.dsub (4607182418800017408 : UInt64) (FP.ddiv (4607182418800017408 : UInt64) (FP.i2d (2 : Int32))))), .second, .val (.double (0 : UInt64)), .second] [])) := fun t k => g517 t (by
      refine X515.arraylength hx (by rw [e515]; exact Ar518.1) (State.isArrayOf_alike hZ.alike Ar518.2.1) (g := (mkF m 30 #[rv aa, .val (.double (f_sco  s0)), .second, rv b414, iv (1 : Int32), .val (.double (FP.dsub (4607182418800017408 : UInt64) (FP.ddiv (4607182418800017408 : UInt64) (FP.i2d (1 : Int32))))), .second, .val (.double (own_sc s0 s0)), .second] [(.ref b414), (.int (1 : Int32))])) rfl rfl (hb hby d12_30) _ ?_
      rw [len_of S518 M518]
      show Go p e below t T515 m 31 #[rv aa, .val (.double (f_sco  s0)), .second, rv b414, iv (1 : Int32), .val (.double (FP.dsub (4607182418800017408 : UInt64) (FP.ddiv (4607182418800017408 : UInt64) (FP.i2d (1 : Int32))))), .second, .val (.double (own_sc s0 s0)), .second] [(.int (3 : Int32)), (.int (1 : Int32))]
      refine XS.icmpNo X515.here hx rfl (hb hby d12_31) rfl (XT.ii_ge_f (by decide)) ?_
      show Go p e below t T515 m 34 #[rv aa, .val (.double (f_sco  s0)), .second, rv b414, iv (1 : Int32), .val (.double (FP.dsub (4607182418800017408 : UInt64) (FP.ddiv (4607182418800017408 : UInt64) (FP.i2d (1 : Int32))))), .second, .val (.double (own_sc s0 s0)), .second] []
      refine XS.dconst1 X515.here hx rfl (hb hby d12_34) (v := (4607182418800017408 : UInt64)) rfl ?_
      show Go p e below t T515 m 35 #[rv aa, .val (.double (f_sco  s0)), .second, rv b414, iv (1 : Int32), .val (.double (FP.dsub (4607182418800017408 : UInt64) (FP.ddiv (4607182418800017408 : UInt64) (FP.i2d (1 : Int32))))), .second, .val (.double (own_sc s0 s0)), .second] [(.double (4607182418800017408 : UInt64))]
      refine XS.dconst1 X515.here hx rfl (hb hby d12_35) (v := (4607182418800017408 : UInt64)) rfl ?_
      show Go p e below t T515 m 36 #[rv aa, .val (.double (f_sco  s0)), .second, rv b414, iv (1 : Int32), .val (.double (FP.dsub (4607182418800017408 : UInt64) (FP.ddiv (4607182418800017408 : UInt64) (FP.i2d (1 : Int32))))), .second, .val (.double (own_sc s0 s0)), .second] [(.double (4607182418800017408 : UInt64)), (.double (4607182418800017408 : UInt64))]
      refine XS.iload X515.here hx rfl (hb hby d12_36) rfl ?_
      show Go p e below t T515 m 38 #[rv aa, .val (.double (f_sco  s0)), .second, rv b414, iv (1 : Int32), .val (.double (FP.dsub (4607182418800017408 : UInt64) (FP.ddiv (4607182418800017408 : UInt64) (FP.i2d (1 : Int32))))), .second, .val (.double (own_sc s0 s0)), .second] [(.int (1 : Int32)), (.double (4607182418800017408 : UInt64)), (.double (4607182418800017408 : UInt64))]
      refine XT.iconstV X515.here hx rfl (1 : Int32) (hb hby d12_38) (by decide) ?_
      show Go p e below t T515 m 39 #[rv aa, .val (.double (f_sco  s0)), .second, rv b414, iv (1 : Int32), .val (.double (FP.dsub (4607182418800017408 : UInt64) (FP.ddiv (4607182418800017408 : UInt64) (FP.i2d (1 : Int32))))), .second, .val (.double (own_sc s0 s0)), .second] [(.int (1 : Int32)), (.int (1 : Int32)), (.double (4607182418800017408 : UInt64)), (.double (4607182418800017408 : UInt64))]
      refine XS.iadd X515.here hx rfl (hb hby d12_39) rfl ?_
      rw [show ((1 : Int32) + (1 : Int32)) = (2 : Int32) by decide]
      show Go p e below t T515 m 40 #[rv aa, .val (.double (f_sco  s0)), .second, rv b414, iv (1 : Int32), .val (.double (FP.dsub (4607182418800017408 : UInt64) (FP.ddiv (4607182418800017408 : UInt64) (FP.i2d (1 : Int32))))), .second, .val (.double (own_sc s0 s0)), .second] [(.int (2 : Int32)), (.double (4607182418800017408 : UInt64)), (.double (4607182418800017408 : UInt64))]
      refine XS.i2dS X515.here hx rfl (hb hby d12_40) rfl rfl ?_
      show Go p e below t T515 m 41 #[rv aa, .val (.double (f_sco  s0)), .second, rv b414, iv (1 : Int32), .val (.double (FP.dsub (4607182418800017408 : UInt64) (FP.ddiv (4607182418800017408 : UInt64) (FP.i2d (1 : Int32))))), .second, .val (.double (own_sc s0 s0)), .second] [(.double (FP.i2d (2 : Int32))), (.double (4607182418800017408 : UInt64)), (.double (4607182418800017408 : UInt64))]
      refine XS.ddivS X515.here hx rfl (hb hby d12_41) rfl (by unfold Jvm.Free.Fl.NoNaN64; decide +kernel) rfl ?_
      show Go p e below t T515 m 42 #[rv aa, .val (.double (f_sco  s0)), .second, rv b414, iv (1 : Int32), .val (.double (FP.dsub (4607182418800017408 : UInt64) (FP.ddiv (4607182418800017408 : UInt64) (FP.i2d (1 : Int32))))), .second, .val (.double (own_sc s0 s0)), .second] [(.double (FP.ddiv (4607182418800017408 : UInt64) (FP.i2d (2 : Int32)))), (.double (4607182418800017408 : UInt64))]
      refine XS.dsubS X515.here hx rfl (hb hby d12_42) rfl (by unfold Jvm.Free.Fl.NoNaN64; decide +kernel) rfl ?_
      show Go p e below t T515 m 43 #[rv aa, .val (.double (f_sco  s0)), .second, rv b414, iv (1 : Int32), .val (.double (FP.dsub (4607182418800017408 : UInt64) (FP.ddiv (4607182418800017408 : UInt64) (FP.i2d (1 : Int32))))), .second, .val (.double (own_sc s0 s0)), .second] [(.double (FP.dsub (4607182418800017408 : UInt64) (FP.ddiv (4607182418800017408 : UInt64) (FP.i2d (2 : Int32)))))]
      refine XS.dstore X515.here hx rfl (hb hby d12_43) rfl (l' := #[rv aa, .val (.double (f_sco  s0)), .second, rv b414, iv (1 : Int32), .val (.double (FP.dsub (4607182418800017408 : UInt64) (FP.ddiv (4607182418800017408 : UInt64) (FP.i2d (2 : Int32))))), .second, .val (.double (own_sc s0 s0)), .second]) rfl ?_
      show Go p e below t T515 m 45 #[rv aa, .val (.double (f_sco  s0)), .second, rv b414, iv (1 : Int32), .val (.double (FP.dsub (4607182418800017408 : UInt64) (FP.ddiv (4607182418800017408 : UInt64) (FP.i2d (2 : Int32))))), .second, .val (.double (own_sc s0 s0)), .second] []
      refine XS.dloadN X515.here hx rfl (hb hby d12_45) rfl ?_
      show Go p e below t T515 m 46 #[rv aa, .val (.double (f_sco  s0)), .second, rv b414, iv (1 : Int32), .val (.double (FP.dsub (4607182418800017408 : UInt64) (FP.ddiv (4607182418800017408 : UInt64) (FP.i2d (2 : Int32))))), .second, .val (.double (own_sc s0 s0)), .second] [(.double (f_sco  s0))]
      refine XS.dconst0 X515.here hx rfl (hb hby d12_46) (v := (0 : UInt64)) rfl ?_
      show Go p e below t T515 m 47 #[rv aa, .val (.double (f_sco  s0)), .second, rv b414, iv (1 : Int32), .val (.double (FP.dsub (4607182418800017408 : UInt64) (FP.ddiv (4607182418800017408 : UInt64) (FP.i2d (2 : Int32))))), .second, .val (.double (own_sc s0 s0)), .second] [(.double (0 : UInt64)), (.double (f_sco  s0))]
      refine XS.dcmpS X515.here hx rfl (hb hby d12_47) rfl rfl ?_
      show Go p e below t T515 m 48 #[rv aa, .val (.double (f_sco  s0)), .second, rv b414, iv (1 : Int32), .val (.double (FP.dsub (4607182418800017408 : UInt64) (FP.ddiv (4607182418800017408 : UInt64) (FP.i2d (2 : Int32))))), .second, .val (.double (own_sc s0 s0)), .second] [(.int (cmpValue (FP.dcmp (f_sco  s0) (0 : UInt64)) .l))]
      refine XS.ifYes X515.here hx rfl (pc0 := 48) (pc' := 74) rfl (hb hby d12_48) rfl (dc_l_le_t h419) (by decide) (by decide) ?_
      show Go p e below t T515 m 74 #[rv aa, .val (.double (f_sco  s0)), .second, rv b414, iv (1 : Int32), .val (.double (FP.dsub (4607182418800017408 : UInt64) (FP.ddiv (4607182418800017408 : UInt64) (FP.i2d (2 : Int32))))), .second, .val (.double (own_sc s0 s0)), .second] []
      refine XS.dconst0 X515.here hx rfl (hb hby d12_74) (v := (0 : UInt64)) rfl ?_
      show Go p e below t T515 m 75 #[rv aa, .val (.double (f_sco  s0)), .second, rv b414, iv (1 : Int32), .val (.double (FP.dsub (4607182418800017408 : UInt64) (FP.ddiv (4607182418800017408 : UInt64) (FP.i2d (2 : Int32))))), .second, .val (.double (own_sc s0 s0)), .second] [(.double (0 : UInt64))]
      refine XS.dstore X515.here hx rfl (hb hby d12_75) rfl (l' := #[rv aa, .val (.double (f_sco  s0)), .second, rv b414, iv (1 : Int32), .val (.double (FP.dsub (4607182418800017408 : UInt64) (FP.ddiv (4607182418800017408 : UInt64) (FP.i2d (2 : Int32))))), .second, .val (.double (0 : UInt64)), .second]) rfl ?_
      show Go p e below t T515 m 77 #[rv aa, .val (.double (f_sco  s0)), .second, rv b414, iv (1 : Int32), .val (.double (FP.dsub (4607182418800017408 : UInt64) (FP.ddiv (4607182418800017408 : UInt64) (FP.i2d (2 : Int32))))), .second, .val (.double (0 : UInt64)), .second] []
      exact k)
    rw [show (0 : UInt64) = (own_sc s0 s1) from (if_neg h419).symm] at g519
    have g520 : Goes p e below S0 (T515.setTop (mkF m 81 #[rv aa, .val (.double (f_sco  s0)), .second, rv b414, iv (1 : Int32), .val (.double (FP.dsub (4607182418800017408 : UInt64) (FP.ddiv (4607182418800017408 : UInt64) (FP.i2d (2 : Int32))))), .second, .val (.double (own_sc s0 s1)), .second] [(.int (2 : Int32)), (.int (1 : Int32)), (.ref b414)])) := fun t k => g519 t (by
      refine XS.aloadN X515.here hx rfl (hb hby d12_77) rfl rfl ?_
      show Go p e below t T515 m 78 #[rv aa, .val (.double (f_sco  s0)), .second, rv b414, iv (1 : Int32), .val (.double (FP.dsub (4607182418800017408 : UInt64) (FP.ddiv (4607182418800017408 : UInt64) (FP.i2d (2 : Int32))))), .second, .val (.double (own_sc s0 s1)), .second] [(.ref b414)]
      refine XS.iload X515.here hx rfl (hb hby d12_78) rfl ?_
      show Go p e below t T515 m 80 #[rv aa, .val (.double (f_sco  s0)), .second, rv b414, iv (1 : Int32), .val (.double (FP.dsub (4607182418800017408 : UInt64) (FP.ddiv (4607182418800017408 : UInt64) (FP.i2d (2 : Int32))))), .second, .val (.double (own_sc s0 s1)), .second] [(.int (1 : Int32)), (.ref b414)]
      refine XT.iconstV X515.here hx rfl (2 : Int32) (hb hby d12_80) (by decide) ?_
      show Go p e below t T515 m 81 #[rv aa, .val (.double (f_sco  s0)), .second, rv b414, iv (1 : Int32), .val (.double (FP.dsub (4607182418800017408 : UInt64) (FP.ddiv (4607182418800017408 : UInt64) (FP.i2d (2 : Int32))))), .second, .val (.double (own_sc s0 s1)), .second] [(.int (2 : Int32)), (.int (1 : Int32)), (.ref b414)]
      exact k)
    obtain ⟨T521, h521, k521, X521, e521, E521, A521, Q521, st521⟩ := newPE X515 hx hZ (hw _ (List.mem_of_getElem? (i := 136) rfl)) e515 (g := (mkF m 81 #[rv aa, .val (.double (f_sco  s0)), .second, rv b414, iv (1 : Int32), .val (.double (FP.dsub (4607182418800017408 : UInt64) (FP.ddiv (4607182418800017408 : UInt64) (FP.i2d (2 : Int32))))), .second, .val (.double (own_sc s0 s1)), .second] [(.int (2 : Int32)), (.int (1 : Int32)), (.ref b414)])) rfl (hb hby d12_81) rfl (by decide) (cap := 2) (by decide) (by decide) (by decide) (by decide) (ad := "[D") (by decide)
    obtain ⟨b521, gb521⟩ : ∃ z, z = h515.size := ⟨_, rfl⟩
    have sz521 : h0.size ≤ b521 := Nat.le_trans (Nat.le_trans (Nat.le_trans (Nat.le_trans (Nat.le_trans (Nat.le_trans (Nat.le_refl _) E414.1) E504.1) (Nat.le_of_eq W508.size.symm)) (Nat.le_of_eq W512.size.symm)) (Nat.le_of_eq W515.size.symm)) (Nat.le_of_eq gb521.symm)
    have ng521 : n0 ≤ b521 := Nat.le_trans Z0 sz521
    rw [← gb521] at A521 st521 Q521
    have V521 : Arv Z h521 b521 k521 .double (2 : Int32) [(.double (0 : UInt64)), (.double (0 : UInt64))] (.double (0 : UInt64)) := (Arv.new A521 (by decide)).pad (pad_rep [] (.double (0 : UInt64)) 2)
    have g522 : Goes p e below S0 (T521.setTop (mkF m 83 #[rv aa, .val (.double (f_sco  s0)), .second, rv b414, iv (1 : Int32), .val (.double (FP.dsub (4607182418800017408 : UInt64) (FP.ddiv (4607182418800017408 : UInt64) (FP.i2d (2 : Int32))))), .second, .val (.double (own_sc s0 s1)), .second] [(.ref b521), (.int (1 : Int32)), (.ref b414)])) := fun t k => g520 t (st521 t k)
    have g523 : Goes p e below S0 (T521.setTop (mkF m 87 #[rv aa, .val (.double (f_sco  s0)), .second, rv b414, iv (1 : Int32), .val (.double (FP.dsub (4607182418800017408 : UInt64) (FP.ddiv (4607182418800017408 : UInt64) (FP.i2d (2 : Int32))))), .second, .val (.double (own_sc s0 s1)), .second] [(.double (FP.dsub (4607182418800017408 : UInt64) (FP.ddiv (4607182418800017408 : UInt64) (FP.i2d (2 : Int32))))), (.int (0 : Int32)), (.ref b521), (.ref b521), (.int (1 : Int32)), (.ref b414)])) := fun t k => g522 t (by
      refine XS.dup X521.here hx rfl (hb hby d12_83) rfl rfl ?_
      show Go p e below t T521 m 84 #[rv aa, .val (.double (f_sco  s0)), .second, rv b414, iv (1 : Int32), .val (.double (FP.dsub (4607182418800017408 : UInt64) (FP.ddiv (4607182418800017408 : UInt64) (FP.i2d (2 : Int32))))), .second, .val (.double (own_sc s0 s1)), .second] [(.ref b521), (.ref b521), (.int (1 : Int32)), (.ref b414)]
      refine XT.iconstV X521.here hx rfl (0 : Int32) (hb hby d12_84) (by decide) ?_
      show Go p e below t T521 m 85 #[rv aa, .val (.double (f_sco  s0)), .second, rv b414, iv (1 : Int32), .val (.double (FP.dsub (4607182418800017408 : UInt64) (FP.ddiv (4607182418800017408 : UInt64) (FP.i2d (2 : Int32))))), .second, .val (.double (own_sc s0 s1)), .second] [(.int (0 : Int32)), (.ref b521), (.ref b521), (.int (1 : Int32)), (.ref b414)]
      refine XS.dload X521.here hx rfl (hb hby d12_85) rfl ?_
      show Go p e below t T521 m 87 #[rv aa, .val (.double (f_sco  s0)), .second, rv b414, iv (1 : Int32), .val (.double (FP.dsub (4607182418800017408 : UInt64) (FP.ddiv (4607182418800017408 : UInt64) (FP.i2d (2 : Int32))))), .second, .val (.double (own_sc s0 s1)), .second] [(.double (FP.dsub (4607182418800017408 : UInt64) (FP.ddiv (4607182418800017408 : UInt64) (FP.i2d (2 : Int32))))), (.int (0 : Int32)), (.ref b521), (.ref b521), (.int (1 : Int32)), (.ref b414)]
      exact k)
    obtain ⟨cl524, Ar524, q524, S524, M524, H524, G524⟩ := id V521
    obtain ⟨T525, h525, X525, e525, W525, st525⟩ := stD X521 hx hZ e521 Ar524 (j := (0 : Int32)) (inb_of S524 ⟨by decide, by decide⟩) (g := (mkF m 87 #[rv aa, .val (.double (f_sco  s0)), .second, rv b414, iv (1 : Int32), .val (.double (FP.dsub (4607182418800017408 : UInt64) (FP.ddiv (4607182418800017408 : UInt64) (FP.i2d (2 : Int32))))), .second, .val (.double (own_sc s0 s1)), .second] [(.double (FP.dsub (4607182418800017408 : UInt64) (FP.ddiv (4607182418800017408 : UInt64) (FP.i2d (2 : Int32))))), (.int (0 : Int32)), (.ref b521), (.ref b521), (.int (1 : Int32)), (.ref b414)])) rfl rfl (hb hby d12_87)
    have N525 := Fr.snoc X525 N515 ng521
    have V525 : Arv Z h525 b521 k521 .double (2 : Int32) [(.double (FP.dsub (4607182418800017408 : UInt64) (FP.ddiv (4607182418800017408 : UInt64) (FP.i2d (2 : Int32))))), (.double (0 : UInt64))] (.double (0 : UInt64)) := Arv.set Ar524 q524 S524 M524 H524 G524 rfl W525 0 rfl (Nat.le_of_ble_eq_true rfl)
    have g526 : Goes p e below S0 (T525.setTop (mkF m 88 #[rv aa, .val (.double (f_sco  s0)), .second, rv b414, iv (1 : Int32), .val (.double (FP.dsub (4607182418800017408 : UInt64) (FP.ddiv (4607182418800017408 : UInt64) (FP.i2d (2 : Int32))))), .second, .val (.double (own_sc s0 s1)), .second] [(.ref b521), (.int (1 : Int32)), (.ref b414)])) := fun t k => g523 t (st525 t k)
    have g527 : Goes p e below S0 (T525.setTop (mkF m 92 #[rv aa, .val (.double (f_sco  s0)), .second, rv b414, iv (1 : Int32), .val (.double (FP.dsub (4607182418800017408 : UInt64) (FP.ddiv (4607182418800017408 : UInt64) (FP.i2d (2 : Int32))))), .second, .val (.double (own_sc s0 s1)), .second] [(.double (own_sc s0 s1)), (.int (1 : Int32)), (.ref b521), (.ref b521), (.int (1 : Int32)), (.ref b414)])) := fun t k => g526 t (by
      refine XS.dup X525.here hx rfl (hb hby d12_88) rfl rfl ?_
      show Go p e below t T525 m 89 #[rv aa, .val (.double (f_sco  s0)), .second, rv b414, iv (1 : Int32), .val (.double (FP.dsub (4607182418800017408 : UInt64) (FP.ddiv (4607182418800017408 : UInt64) (FP.i2d (2 : Int32))))), .second, .val (.double (own_sc s0 s1)), .second] [(.ref b521), (.ref b521), (.int (1 : Int32)), (.ref b414)]
      refine XT.iconstV X525.here hx rfl (1 : Int32) (hb hby d12_89) (by decide) ?_
      show Go p e below t T525 m 90 #[rv aa, .val (.double (f_sco  s0)), .second, rv b414, iv (1 : Int32), .val (.double (FP.dsub (4607182418800017408 : UInt64) (FP.ddiv (4607182418800017408 : UInt64) (FP.i2d (2 : Int32))))), .second, .val (.double (own_sc s0 s1)), .second] [(.int (1 : Int32)), (.ref b521), (.ref b521), (.int (1 : Int32)), (.ref b414)]
      refine XS.dload X525.here hx rfl (hb hby d12_90) rfl ?_
      show Go p e below t T525 m 92 #[rv aa, .val (.double (f_sco  s0)), .second, rv b414, iv (1 : Int32), .val (.double (FP.dsub (4607182418800017408 : UInt64) (FP.ddiv (4607182418800017408 : UInt64) (FP.i2d (2 : Int32))))), .second, .val (.double (own_sc s0 s1)), .second] [(.double (own_sc s0 s1)), (.int (1 : Int32)), (.ref b521), (.ref b521), (.int (1 : Int32)), (.ref b414)]
      exact k)
    obtain ⟨cl528, Ar528, q528, S528, M528, H528, G528⟩ := id V525
    obtain ⟨T529, h529, X529, e529, W529, st529⟩ := stD X525 hx hZ e525 Ar528 (j := (1 : Int32)) (inb_of S528 ⟨by decide, by decide⟩) (g := (mkF m 92 #[rv aa, .val (.double (f_sco  s0)), .second, rv b414, iv (1 : Int32), .val (.double (FP.dsub (4607182418800017408 : UInt64) (FP.ddiv (4607182418800017408 : UInt64) (FP.i2d (2 : Int32))))), .second, .val (.double (own_sc s0 s1)), .second] [(.double (own_sc s0 s1)), (.int (1 : Int32)), (.ref b521), (.ref b521), (.int (1 : Int32)), (.ref b414)])) rfl rfl (hb hby d12_92)
    have N529 := Fr.snoc X529 N525 ng521
    have V529 : Arv Z h529 b521 k521 .double (2 : Int32) [(.double (FP.dsub (4607182418800017408 : UInt64) (FP.ddiv (4607182418800017408 : UInt64) (FP.i2d (2 : Int32))))), (.double (own_sc s0 s1))] (.double (0 : UInt64)) := Arv.set Ar528 q528 S528 M528 H528 G528 rfl W529 1 rfl (Nat.le_of_ble_eq_true rfl)
    have g530 : Goes p e below S0 (T529.setTop (mkF m 93 #[rv aa, .val (.double (f_sco  s0)), .second, rv b414, iv (1 : Int32), .val (.double (FP.dsub (4607182418800017408 : UInt64) (FP.ddiv (4607182418800017408 : UInt64) (FP.i2d (2 : Int32))))), .second, .val (.double (own_sc s0 s1)), .second] [(.ref b521), (.int (1 : Int32)), (.ref b414)])) := fun t k => g527 t (st529 t k)
    obtain ⟨cl531, Ar531, q531, S531, M531, H531, G531⟩ := id (((V515.ext E521).other W525 (Nat.ne_of_lt (Nat.lt_of_lt_of_le V515.lt (Nat.le_of_eq gb521.symm)))).other W529 (Nat.ne_of_lt (Nat.lt_of_lt_of_le V515.lt (Nat.le_of_eq gb521.symm))))
    obtain ⟨T532, h532, X532, e532, W532, st532⟩ := stR X529 hx hZ e529 Ar531 (j := (1 : Int32)) (inb_of S531 ⟨by decide, by decide⟩) rfl (Sto.ofVA Ar531 q531 O414 (Ins.of_exa ((Q521.wr W525).wr W529) (hw _ (List.mem_of_getElem? (i := 137) rfl)))) (g := (mkF m 93 #[rv aa, .val (.double (f_sco  s0)), .second, rv b414, iv (1 : Int32), .val (.double (FP.dsub (4607182418800017408 : UInt64) (FP.ddiv (4607182418800017408 : UInt64) (FP.i2d (2 : Int32))))), .second, .val (.double (own_sc s0 s1)), .second] [(.ref b521), (.int (1 : Int32)), (.ref b414)])) rfl rfl (hb hby d12_93)
    have N532 := Fr.snoc X532 N529 ng414
    have V532 : Arv Z h532 b414 k414 (.array .double) (3 : Int32) [(.ref b504), (.ref b521), .null] .null := Arv.set Ar531 q531 S531 M531 H531 G531 rfl W532 1 rfl (Nat.le_of_ble_eq_true rfl)
    have g533 : Goes p e below S0 (T532.setTop (mkF m 94 #[rv aa, .val (.double (f_sco  s0)), .second, rv b414, iv (1 : Int32), .val (.double (FP.dsub (4607182418800017408 : UInt64) (FP.ddiv (4607182418800017408 : UInt64) (FP.i2d (2 : Int32))))), .second, .val (.double (own_sc s0 s1)), .second] [])) := fun t k => g530 t (st532 t k)
    have g534 : Goes p e below S0 (T532.setTop (mkF m 30 #[rv aa, .val (.double (f_sco  s0)), .second, rv b414, iv (2 : Int32), .val (.double (FP.dsub (4607182418800017408 : UInt64) (FP.ddiv (4607182418800017408 : UInt64) (FP.i2d (2 : Int32))))), .second, .val (.double (own_sc s0 s1)), .second] [(.ref b414), (.int (2 : Int32))])) := fun t k => g533 t (by
      refine XT.iincV X532.here hx rfl (1 : Int32) (hb hby d12_94) (by decide) rfl (l' := #[rv aa, .val (.double (f_sco  s0)), .second, rv b414, iv (2 : Int32), .val (.double (FP.dsub (4607182418800017408 : UInt64) (FP.ddiv (4607182418800017408 : UInt64) (FP.i2d (2 : Int32))))), .second, .val (.double (own_sc s0 s1)), .second]) rfl ?_
      show Go p e below t T532 m 97 #[rv aa, .val (.double (f_sco  s0)), .second, rv b414, iv (2 : Int32), .val (.double (FP.dsub (4607182418800017408 : UInt64) (FP.ddiv (4607182418800017408 : UInt64) (FP.i2d (2 : Int32))))), .second, .val (.double (own_sc s0 s1)), .second] []
      refine XS.goto X532.here hx rfl (pc0 := 97) (pc' := 27) rfl (hb hby d12_97) (by decide) (by decide) ?_
      show Go p e below t T532 m 27 #[rv aa, .val (.double (f_sco  s0)), .second, rv b414, iv (2 : Int32), .val (.double (FP.dsub (4607182418800017408 : UInt64) (FP.ddiv (4607182418800017408 : UInt64) (FP.i2d (2 : Int32))))), .second, .val (.double (own_sc s0 s1)), .second] []
      refine XS.iload X532.here hx rfl (hb hby d12_27) rfl ?_
      show Go p e below t T532 m 29 #[rv aa, .val (.double (f_sco  s0)), .second, rv b414, iv (2 : Int32), .val (.double (FP.dsub (4607182418800017408 : UInt64) (FP.ddiv (4607182418800017408 : UInt64) (FP.i2d (2 : Int32))))), .second, .val (.double (own_sc s0 s1)), .second] [(.int (2 : Int32))]
      refine XS.aloadN X532.here hx rfl (hb hby d12_29) rfl rfl ?_
      show Go p e below t T532 m 30 #[rv aa, .val (.double (f_sco  s0)), .second, rv b414, iv (2 : Int32), .val (.double (FP.dsub (4607182418800017408 : UInt64) (FP.ddiv (4607182418800017408 : UInt64) (FP.i2d (2 : Int32))))), .second, .val (.double (own_sc s0 s1)), .second] [(.ref b414), (.int (2 : Int32))]
      exact k)
    obtain ⟨cl535, Ar535, q535, S535, M535, H535, G535⟩ := id V532
    have g536 : Goes p e below S0 (T532.setTop (mkF m 77 #[rv aa, .val (.double (f_sco  s0)), .second, rv b414, iv (2 : Int32), .val (.double (FP.dsub (4607182418800017408 : UInt64) (FP.ddiv (4607182418800017408 : UInt64) (FP.i2d (3 : Int32))))), .second, .val (.double (0 : UInt64)), .second] [])) := fun t k => g534 t (by
      refine X532.arraylength hx (by rw [e532]; exact Ar535.1) (State.isArrayOf_alike hZ.alike Ar535.2.1) (g := (mkF m 30 #[rv aa, .val (.double (f_sco  s0)), .second, rv b414, iv (2 : Int32), .val (.double (FP.dsub (4607182418800017408 : UInt64) (FP.ddiv (4607182418800017408 : UInt64) (FP.i2d (2 : Int32))))), .second, .val (.double (own_sc s0 s1)), .second] [(.ref b414), (.int (2 : Int32))])) rfl rfl (hb hby d12_30) _ ?_
      rw [len_of S535 M535]
      show Go p e below t T532 m 31 #[rv aa, .val (.double (f_sco  s0)), .second, rv b414, iv (2 : Int32), .val (.double (FP.dsub (4607182418800017408 : UInt64) (FP.ddiv (4607182418800017408 : UInt64) (FP.i2d (2 : Int32))))), .second, .val (.double (own_sc s0 s1)), .second] [(.int (3 : Int32)), (.int (2 : Int32))]
      refine XS.icmpNo X532.here hx rfl (hb hby d12_31) rfl (XT.ii_ge_f (by decide)) ?_
      show Go p e below t T532 m 34 #[rv aa, .val (.double (f_sco  s0)), .second, rv b414, iv (2 : Int32), .val (.double (FP.dsub (4607182418800017408 : UInt64) (FP.ddiv (4607182418800017408 : UInt64) (FP.i2d (2 : Int32))))), .second, .val (.double (own_sc s0 s1)), .second] []
      refine XS.dconst1 X532.here hx rfl (hb hby d12_34) (v := (4607182418800017408 : UInt64)) rfl ?_
      show Go p e below t T532 m 35 #[rv aa, .val (.double (f_sco  s0)), .second, rv b414, iv (2 : Int32), .val (.double (FP.dsub (4607182418800017408 : UInt64) (FP.ddiv (4607182418800017408 : UInt64) (FP.i2d (2 : Int32))))), .second, .val (.double (own_sc s0 s1)), .second] [(.double (4607182418800017408 : UInt64))]
      refine XS.dconst1 X532.here hx rfl (hb hby d12_35) (v := (4607182418800017408 : UInt64)) rfl ?_
      show Go p e below t T532 m 36 #[rv aa, .val (.double (f_sco  s0)), .second, rv b414, iv (2 : Int32), .val (.double (FP.dsub (4607182418800017408 : UInt64) (FP.ddiv (4607182418800017408 : UInt64) (FP.i2d (2 : Int32))))), .second, .val (.double (own_sc s0 s1)), .second] [(.double (4607182418800017408 : UInt64)), (.double (4607182418800017408 : UInt64))]
      refine XS.iload X532.here hx rfl (hb hby d12_36) rfl ?_
      show Go p e below t T532 m 38 #[rv aa, .val (.double (f_sco  s0)), .second, rv b414, iv (2 : Int32), .val (.double (FP.dsub (4607182418800017408 : UInt64) (FP.ddiv (4607182418800017408 : UInt64) (FP.i2d (2 : Int32))))), .second, .val (.double (own_sc s0 s1)), .second] [(.int (2 : Int32)), (.double (4607182418800017408 : UInt64)), (.double (4607182418800017408 : UInt64))]
      refine XT.iconstV X532.here hx rfl (1 : Int32) (hb hby d12_38) (by decide) ?_
      show Go p e below t T532 m 39 #[rv aa, .val (.double (f_sco  s0)), .second, rv b414, iv (2 : Int32), .val (.double (FP.dsub (4607182418800017408 : UInt64) (FP.ddiv (4607182418800017408 : UInt64) (FP.i2d (2 : Int32))))), .second, .val (.double (own_sc s0 s1)), .second] [(.int (1 : Int32)), (.int (2 : Int32)), (.double (4607182418800017408 : UInt64)), (.double (4607182418800017408 : UInt64))]
      refine XS.iadd X532.here hx rfl (hb hby d12_39) rfl ?_
      rw [show ((2 : Int32) + (1 : Int32)) = (3 : Int32) by decide]
      show Go p e below t T532 m 40 #[rv aa, .val (.double (f_sco  s0)), .second, rv b414, iv (2 : Int32), .val (.double (FP.dsub (4607182418800017408 : UInt64) (FP.ddiv (4607182418800017408 : UInt64) (FP.i2d (2 : Int32))))), .second, .val (.double (own_sc s0 s1)), .second] [(.int (3 : Int32)), (.double (4607182418800017408 : UInt64)), (.double (4607182418800017408 : UInt64))]
      refine XS.i2dS X532.here hx rfl (hb hby d12_40) rfl rfl ?_
      show Go p e below t T532 m 41 #[rv aa, .val (.double (f_sco  s0)), .second, rv b414, iv (2 : Int32), .val (.double (FP.dsub (4607182418800017408 : UInt64) (FP.ddiv (4607182418800017408 : UInt64) (FP.i2d (2 : Int32))))), .second, .val (.double (own_sc s0 s1)), .second] [(.double (FP.i2d (3 : Int32))), (.double (4607182418800017408 : UInt64)), (.double (4607182418800017408 : UInt64))]
      refine XS.ddivS X532.here hx rfl (hb hby d12_41) rfl (by unfold Jvm.Free.Fl.NoNaN64; decide +kernel) rfl ?_
      show Go p e below t T532 m 42 #[rv aa, .val (.double (f_sco  s0)), .second, rv b414, iv (2 : Int32), .val (.double (FP.dsub (4607182418800017408 : UInt64) (FP.ddiv (4607182418800017408 : UInt64) (FP.i2d (2 : Int32))))), .second, .val (.double (own_sc s0 s1)), .second] [(.double (FP.ddiv (4607182418800017408 : UInt64) (FP.i2d (3 : Int32)))), (.double (4607182418800017408 : UInt64))]
      refine XS.dsubS X532.here hx rfl (hb hby d12_42) rfl (by unfold Jvm.Free.Fl.NoNaN64; decide +kernel) rfl ?_
      show Go p e below t T532 m 43 #[rv aa, .val (.double (f_sco  s0)), .second, rv b414, iv (2 : Int32), .val (.double (FP.dsub (4607182418800017408 : UInt64) (FP.ddiv (4607182418800017408 : UInt64) (FP.i2d (2 : Int32))))), .second, .val (.double (own_sc s0 s1)), .second] [(.double (FP.dsub (4607182418800017408 : UInt64) (FP.ddiv (4607182418800017408 : UInt64) (FP.i2d (3 : Int32)))))]
      refine XS.dstore X532.here hx rfl (hb hby d12_43) rfl (l' := #[rv aa, .val (.double (f_sco  s0)), .second, rv b414, iv (2 : Int32), .val (.double (FP.dsub (4607182418800017408 : UInt64) (FP.ddiv (4607182418800017408 : UInt64) (FP.i2d (3 : Int32))))), .second, .val (.double (own_sc s0 s1)), .second]) rfl ?_
      show Go p e below t T532 m 45 #[rv aa, .val (.double (f_sco  s0)), .second, rv b414, iv (2 : Int32), .val (.double (FP.dsub (4607182418800017408 : UInt64) (FP.ddiv (4607182418800017408 : UInt64) (FP.i2d (3 : Int32))))), .second, .val (.double (own_sc s0 s1)), .second] []
      refine XS.dloadN X532.here hx rfl (hb hby d12_45) rfl ?_
      show Go p e below t T532 m 46 #[rv aa, .val (.double (f_sco  s0)), .second, rv b414, iv (2 : Int32), .val (.double (FP.dsub (4607182418800017408 : UInt64) (FP.ddiv (4607182418800017408 : UInt64) (FP.i2d (3 : Int32))))), .second, .val (.double (own_sc s0 s1)), .second] [(.double (f_sco  s0))]
      refine XS.dconst0 X532.here hx rfl (hb hby d12_46) (v := (0 : UInt64)) rfl ?_
      show Go p e below t T532 m 47 #[rv aa, .val (.double (f_sco  s0)), .second, rv b414, iv (2 : Int32), .val (.double (FP.dsub (4607182418800017408 : UInt64) (FP.ddiv (4607182418800017408 : UInt64) (FP.i2d (3 : Int32))))), .second, .val (.double (own_sc s0 s1)), .second] [(.double (0 : UInt64)), (.double (f_sco  s0))]
      refine XS.dcmpS X532.here hx rfl (hb hby d12_47) rfl rfl ?_
      show Go p e below t T532 m 48 #[rv aa, .val (.double (f_sco  s0)), .second, rv b414, iv (2 : Int32), .val (.double (FP.dsub (4607182418800017408 : UInt64) (FP.ddiv (4607182418800017408 : UInt64) (FP.i2d (3 : Int32))))), .second, .val (.double (own_sc s0 s1)), .second] [(.int (cmpValue (FP.dcmp (f_sco  s0) (0 : UInt64)) .l))]
      refine XS.ifYes X532.here hx rfl (pc0 := 48) (pc' := 74) rfl (hb hby d12_48) rfl (dc_l_le_t h419) (by decide) (by decide) ?_
      show Go p e below t T532 m 74 #[rv aa, .val (.double (f_sco  s0)), .second, rv b414, iv (2 : Int32), .val (.double (FP.dsub (4607182418800017408 : UInt64) (FP.ddiv (4607182418800017408 : UInt64) (FP.i2d (3 : Int32))))), .second, .val (.double (own_sc s0 s1)), .second] []
      refine XS.dconst0 X532.here hx rfl (hb hby d12_74) (v := (0 : UInt64)) rfl ?_
      show Go p e below t T532 m 75 #[rv aa, .val (.double (f_sco  s0)), .second, rv b414, iv (2 : Int32), .val (.double (FP.dsub (4607182418800017408 : UInt64) (FP.ddiv (4607182418800017408 : UInt64) (FP.i2d (3 : Int32))))), .second, .val (.double (own_sc s0 s1)), .second] [(.double (0 : UInt64))]
      refine XS.dstore X532.here hx rfl (hb hby d12_75) rfl (l' := #[rv aa, .val (.double (f_sco  s0)), .second, rv b414, iv (2 : Int32), .val (.double (FP.dsub (4607182418800017408 : UInt64) (FP.ddiv (4607182418800017408 : UInt64) (FP.i2d (3 : Int32))))), .second, .val (.double (0 : UInt64)), .second]) rfl ?_
      show Go p e below t T532 m 77 #[rv aa, .val (.double (f_sco  s0)), .second, rv b414, iv (2 : Int32), .val (.double (FP.dsub (4607182418800017408 : UInt64) (FP.ddiv (4607182418800017408 : UInt64) (FP.i2d (3 : Int32))))), .second, .val (.double (0 : UInt64)), .second] []
      exact k)
    rw [show (0 : UInt64) = (own_sc s0 s2) from (if_neg h419).symm] at g536
    have g537 : Goes p e below S0 (T532.setTop (mkF m 81 #[rv aa, .val (.double (f_sco  s0)), .second, rv b414, iv (2 : Int32), .val (.double (FP.dsub (4607182418800017408 : UInt64) (FP.ddiv (4607182418800017408 : UInt64) (FP.i2d (3 : Int32))))), .second, .val (.double (own_sc s0 s2)), .second] [(.int (2 : Int32)), (.int (2 : Int32)), (.ref b414)])) := fun t k => g536 t (by
      refine XS.aloadN X532.here hx rfl (hb hby d12_77) rfl rfl ?_
      show Go p e below t T532 m 78 #[rv aa, .val (.double (f_sco  s0)), .second, rv b414, iv (2 : Int32), .val (.double (FP.dsub (4607182418800017408 : UInt64) (FP.ddiv (4607182418800017408 : UInt64) (FP.i2d (3 : Int32))))), .second, .val (.double (own_sc s0 s2)), .second] [(.ref b414)]
      refine XS.iload X532.here hx rfl (hb hby d12_78) rfl ?_
      show Go p e below t T532 m 80 #[rv aa, .val (.double (f_sco  s0)), .second, rv b414, iv (2 : Int32), .val (.double (FP.dsub (4607182418800017408 : UInt64) (FP.ddiv (4607182418800017408 : UInt64) (FP.i2d (3 : Int32))))), .second, .val (.double (own_sc s0 s2)), .second] [(.int (2 : Int32)), (.ref b414)]
      refine XT.iconstV X532.here hx rfl (2 : Int32) (hb hby d12_80) (by decide) ?_
      show Go p e below t T532 m 81 #[rv aa, .val (.double (f_sco  s0)), .second, rv b414, iv (2 : Int32), .val (.double (FP.dsub (4607182418800017408 : UInt64) (FP.ddiv (4607182418800017408 : UInt64) (FP.i2d (3 : Int32))))), .second, .val (.double (own_sc s0 s2)), .second] [(.int (2 : Int32)), (.int (2 : Int32)), (.ref b414)]
      exact k)
    obtain ⟨T538, h538, k538, X538, e538, E538, A538, Q538, st538⟩ := newPE X532 hx hZ (hw _ (List.mem_of_getElem? (i := 136) rfl)) e532 (g := (mkF m 81 #[rv aa, .val (.double (f_sco  s0)), .second, rv b414, iv (2 : Int32), .val (.double (FP.dsub (4607182418800017408 : UInt64) (FP.ddiv (4607182418800017408 : UInt64) (FP.i2d (3 : Int32))))), .second, .val (.double (own_sc s0 s2)), .second] [(.int (2 : Int32)), (.int (2 : Int32)), (.ref b414)])) rfl (hb hby d12_81) rfl (by decide) (cap := 2) (by decide) (by decide) (by decide) (by decide) (ad := "[D") (by decide)
    obtain ⟨b538, gb538⟩ : ∃ z, z = h532.size := ⟨_, rfl⟩
    have sz538 : h0.size ≤ b538 := Nat.le_trans (Nat.le_trans (Nat.le_trans (Nat.le_trans (Nat.le_trans (Nat.le_trans (Nat.le_trans (Nat.le_trans (Nat.le_trans (Nat.le_trans (Nat.le_refl _) E414.1) E504.1) (Nat.le_of_eq W508.size.symm)) (Nat.le_of_eq W512.size.symm)) (Nat.le_of_eq W515.size.symm)) E521.1) (Nat.le_of_eq W525.size.symm)) (Nat.le_of_eq W529.size.symm)) (Nat.le_of_eq W532.size.symm)) (Nat.le_of_eq gb538.symm)
    have ng538 : n0 ≤ b538 := Nat.le_trans Z0 sz538
    rw [← gb538] at A538 st538 Q538
    have V538 : Arv Z h538 b538 k538 .double (2 : Int32) [(.double (0 : UInt64)), (.double (0 : UInt64))] (.double (0 : UInt64)) := (Arv.new A538 (by decide)).pad (pad_rep [] (.double (0 : UInt64)) 2)
    have g539 : Goes p e below S0 (T538.setTop (mkF m 83 #[rv aa, .val (.double (f_sco  s0)), .second, rv b414, iv (2 : Int32), .val (.double (FP.dsub (4607182418800017408 : UInt64) (FP.ddiv (4607182418800017408 : UInt64) (FP.i2d (3 : Int32))))), .second, .val (.double (own_sc s0 s2)), .second] [(.ref b538), (.int (2 : Int32)), (.ref b414)])) := fun t k => g537 t (st538 t k)
    have g540 : Goes p e below S0 (T538.setTop (mkF m 87 #[rv aa, .val (.double (f_sco  s0)), .second, rv b414, iv (2 : Int32), .val (.double (FP.dsub (4607182418800017408 : UInt64) (FP.ddiv (4607182418800017408 : UInt64) (FP.i2d (3 : Int32))))), .second, .val (.double (own_sc s0 s2)), .second] [(.double (FP.dsub (4607182418800017408 : UInt64) (FP.ddiv (4607182418800017408 : UInt64) (FP.i2d (3 : Int32))))), (.int (0 : Int32)), (.ref b538), (.ref b538), (.int (2 : Int32)), (.ref b414)])) := fun t k => g539 t (by
      refine XS.dup X538.here hx rfl (hb hby d12_83) rfl rfl ?_
      show Go p e below t T538 m 84 #[rv aa, .val (.double (f_sco  s0)), .second, rv b414, iv (2 : Int32), .val (.double (FP.dsub (4607182418800017408 : UInt64) (FP.ddiv (4607182418800017408 : UInt64) (FP.i2d (3 : Int32))))), .second, .val (.double (own_sc s0 s2)), .second] [(.ref b538), (.ref b538), (.int (2 : Int32)), (.ref b414)]
      refine XT.iconstV X538.here hx rfl (0 : Int32) (hb hby d12_84) (by decide) ?_
      show Go p e below t T538 m 85 #[rv aa, .val (.double (f_sco  s0)), .second, rv b414, iv (2 : Int32), .val (.double (FP.dsub (4607182418800017408 : UInt64) (FP.ddiv (4607182418800017408 : UInt64) (FP.i2d (3 : Int32))))), .second, .val (.double (own_sc s0 s2)), .second] [(.int (0 : Int32)), (.ref b538), (.ref b538), (.int (2 : Int32)), (.ref b414)]
      refine XS.dload X538.here hx rfl (hb hby d12_85) rfl ?_
      show Go p e below t T538 m 87 #[rv aa, .val (.double (f_sco  s0)), .second, rv b414, iv (2 : Int32), .val (.double (FP.dsub (4607182418800017408 : UInt64) (FP.ddiv (4607182418800017408 : UInt64) (FP.i2d (3 : Int32))))), .second, .val (.double (own_sc s0 s2)), .second] [(.double (FP.dsub (4607182418800017408 : UInt64) (FP.ddiv (4607182418800017408 : UInt64) (FP.i2d (3 : Int32))))), (.int (0 : Int32)), (.ref b538), (.ref b538), (.int (2 : Int32)), (.ref b414)]
      exact k)
    obtain ⟨cl541, Ar541, q541, S541, M541, H541, G541⟩ := id V538
    obtain ⟨T542, h542, X542, e542, W542, st542⟩ := stD X538 hx hZ e538 Ar541 (j := (0 : Int32)) (inb_of S541 ⟨by decide, by decide⟩) (g := (mkF m 87 #[rv aa, .val (.double (f_sco  s0)), .second, rv b414, iv (2 : Int32), .val (.double (FP.dsub (4607182418800017408 : UInt64) (FP.ddiv (4607182418800017408 : UInt64) (FP.i2d (3 : Int32))))), .second, .val (.double (own_sc s0 s2)), .second] [(.double (FP.dsub (4607182418800017408 : UInt64) (FP.ddiv (4607182418800017408 : UInt64) (FP.i2d (3 : Int32))))), (.int (0 : Int32)), (.ref b538), (.ref b538), (.int (2 : Int32)), (.ref b414)])) rfl rfl (hb hby d12_87)
    have N542 := Fr.snoc X542 N532 ng538
    have V542 : Arv Z h542 b538 k538 .double (2 : Int32) [(.double (FP.dsub (4607182418800017408 : UInt64) (FP.ddiv (4607182418800017408 : UInt64) (FP.i2d (3 : Int32))))), (.double (0 : UInt64))] (.double (0 : UInt64)) := Arv.set Ar541 q541 S541 M541 H541 G541 rfl W542 0 rfl (Nat.le_of_ble_eq_true rfl)
    have g543 : Goes p e below S0 (T542.setTop (mkF m 88 #[rv aa, .val (.double (f_sco  s0)), .second, rv b414, iv (2 : Int32), .val (.double (FP.dsub (4607182418800017408 : UInt64) (FP.ddiv (4607182418800017408 : UInt64) (FP.i2d (3 : Int32))))), .second, .val (.double (own_sc s0 s2)), .second] [(.ref b538), (.int (2 : Int32)), (.ref b414)])) := fun t k => g540 t (st542 t k)
    have g544 : Goes p e below S0 (T542.setTop (mkF m 92 #[rv aa, .val (.double (f_sco  s0)), .second, rv b414, iv (2 : Int32), .val (.double (FP.dsub (4607182418800017408 : UInt64) (FP.ddiv (4607182418800017408 : UInt64) (FP.i2d (3 : Int32))))), .second, .val (.double (own_sc s0 s2)), .second] [(.double (own_sc s0 s2)), (.int (1 : Int32)), (.ref b538), (.ref b538), (.int (2 : Int32)), (.ref b414)])) := fun t k => g543 t (by
      refine XS.dup X542.here hx rfl (hb hby d12_88) rfl rfl ?_
      show Go p e below t T542 m 89 #[rv aa, .val (.double (f_sco  s0)), .second, rv b414, iv (2 : Int32), .val (.double (FP.dsub (4607182418800017408 : UInt64) (FP.ddiv (4607182418800017408 : UInt64) (FP.i2d (3 : Int32))))), .second, .val (.double (own_sc s0 s2)), .second] [(.ref b538), (.ref b538), (.int (2 : Int32)), (.ref b414)]
      refine XT.iconstV X542.here hx rfl (1 : Int32) (hb hby d12_89) (by decide) ?_
      show Go p e below t T542 m 90 #[rv aa, .val (.double (f_sco  s0)), .second, rv b414, iv (2 : Int32), .val (.double (FP.dsub (4607182418800017408 : UInt64) (FP.ddiv (4607182418800017408 : UInt64) (FP.i2d (3 : Int32))))), .second, .val (.double (own_sc s0 s2)), .second] [(.int (1 : Int32)), (.ref b538), (.ref b538), (.int (2 : Int32)), (.ref b414)]
      refine XS.dload X542.here hx rfl (hb hby d12_90) rfl ?_
      show Go p e below t T542 m 92 #[rv aa, .val (.double (f_sco  s0)), .second, rv b414, iv (2 : Int32), .val (.double (FP.dsub (4607182418800017408 : UInt64) (FP.ddiv (4607182418800017408 : UInt64) (FP.i2d (3 : Int32))))), .second, .val (.double (own_sc s0 s2)), .second] [(.double (own_sc s0 s2)), (.int (1 : Int32)), (.ref b538), (.ref b538), (.int (2 : Int32)), (.ref b414)]
      exact k)
    obtain ⟨cl545, Ar545, q545, S545, M545, H545, G545⟩ := id V542
    obtain ⟨T546, h546, X546, e546, W546, st546⟩ := stD X542 hx hZ e542 Ar545 (j := (1 : Int32)) (inb_of S545 ⟨by decide, by decide⟩) (g := (mkF m 92 #[rv aa, .val (.double (f_sco  s0)), .second, rv b414, iv (2 : Int32), .val (.double (FP.dsub (4607182418800017408 : UInt64) (FP.ddiv (4607182418800017408 : UInt64) (FP.i2d (3 : Int32))))), .second, .val (.double (own_sc s0 s2)), .second] [(.double (own_sc s0 s2)), (.int (1 : Int32)), (.ref b538), (.ref b538), (.int (2 : Int32)), (.ref b414)])) rfl rfl (hb hby d12_92)
    have N546 := Fr.snoc X546 N542 ng538
    have V546 : Arv Z h546 b538 k538 .double (2 : Int32) [(.double (FP.dsub (4607182418800017408 : UInt64) (FP.ddiv (4607182418800017408 : UInt64) (FP.i2d (3 : Int32))))), (.double (own_sc s0 s2))] (.double (0 : UInt64)) := Arv.set Ar545 q545 S545 M545 H545 G545 rfl W546 1 rfl (Nat.le_of_ble_eq_true rfl)
    have g547 : Goes p e below S0 (T546.setTop (mkF m 93 #[rv aa, .val (.double (f_sco  s0)), .second, rv b414, iv (2 : Int32), .val (.double (FP.dsub (4607182418800017408 : UInt64) (FP.ddiv (4607182418800017408 : UInt64) (FP.i2d (3 : Int32))))), .second, .val (.double (own_sc s0 s2)), .second] [(.ref b538), (.int (2 : Int32)), (.ref b414)])) := fun t k => g544 t (st546 t k)
    obtain ⟨cl548, Ar548, q548, S548, M548, H548, G548⟩ := id (((V532.ext E538).other W542 (Nat.ne_of_lt (Nat.lt_of_lt_of_le V532.lt (Nat.le_of_eq gb538.symm)))).other W546 (Nat.ne_of_lt (Nat.lt_of_lt_of_le V532.lt (Nat.le_of_eq gb538.symm))))
    obtain ⟨T549, h549, X549, e549, W549, st549⟩ := stR X546 hx hZ e546 Ar548 (j := (2 : Int32)) (inb_of S548 ⟨by decide, by decide⟩) rfl (Sto.ofVA Ar548 q548 O414 (Ins.of_exa ((Q538.wr W542).wr W546) (hw _ (List.mem_of_getElem? (i := 137) rfl)))) (g := (mkF m 93 #[rv aa, .val (.double (f_sco  s0)), .second, rv b414, iv (2 : Int32), .val (.double (FP.dsub (4607182418800017408 : UInt64) (FP.ddiv (4607182418800017408 : UInt64) (FP.i2d (3 : Int32))))), .second, .val (.double (own_sc s0 s2)), .second] [(.ref b538), (.int (2 : Int32)), (.ref b414)])) rfl rfl (hb hby d12_93)
    have N549 := Fr.snoc X549 N546 ng414
    have V549 : Arv Z h549 b414 k414 (.array .double) (3 : Int32) [(.ref b504), (.ref b521), (.ref b538)] .null := Arv.set Ar548 q548 S548 M548 H548 G548 rfl W549 2 rfl (Nat.le_of_ble_eq_true rfl)
    have g550 : Goes p e below S0 (T549.setTop (mkF m 94 #[rv aa, .val (.double (f_sco  s0)), .second, rv b414, iv (2 : Int32), .val (.double (FP.dsub (4607182418800017408 : UInt64) (FP.ddiv (4607182418800017408 : UInt64) (FP.i2d (3 : Int32))))), .second, .val (.double (own_sc s0 s2)), .second] [])) := fun t k => g547 t (st549 t k)
    have g551 : Goes p e below S0 (T549.setTop (mkF m 30 #[rv aa, .val (.double (f_sco  s0)), .second, rv b414, iv (3 : Int32), .val (.double (FP.dsub (4607182418800017408 : UInt64) (FP.ddiv (4607182418800017408 : UInt64) (FP.i2d (3 : Int32))))), .second, .val (.double (own_sc s0 s2)), .second] [(.ref b414), (.int (3 : Int32))])) := fun t k => g550 t (by
      refine XT.iincV X549.here hx rfl (1 : Int32) (hb hby d12_94) (by decide) rfl (l' := #[rv aa, .val (.double (f_sco  s0)), .second, rv b414, iv (3 : Int32), .val (.double (FP.dsub (4607182418800017408 : UInt64) (FP.ddiv (4607182418800017408 : UInt64) (FP.i2d (3 : Int32))))), .second, .val (.double (own_sc s0 s2)), .second]) rfl ?_
      show Go p e below t T549 m 97 #[rv aa, .val (.double (f_sco  s0)), .second, rv b414, iv (3 : Int32), .val (.double (FP.dsub (4607182418800017408 : UInt64) (FP.ddiv (4607182418800017408 : UInt64) (FP.i2d (3 : Int32))))), .second, .val (.double (own_sc s0 s2)), .second] []
      refine XS.goto X549.here hx rfl (pc0 := 97) (pc' := 27) rfl (hb hby d12_97) (by decide) (by decide) ?_
      show Go p e below t T549 m 27 #[rv aa, .val (.double (f_sco  s0)), .second, rv b414, iv (3 : Int32), .val (.double (FP.dsub (4607182418800017408 : UInt64) (FP.ddiv (4607182418800017408 : UInt64) (FP.i2d (3 : Int32))))), .second, .val (.double (own_sc s0 s2)), .second] []
      refine XS.iload X549.here hx rfl (hb hby d12_27) rfl ?_
      show Go p e below t T549 m 29 #[rv aa, .val (.double (f_sco  s0)), .second, rv b414, iv (3 : Int32), .val (.double (FP.dsub (4607182418800017408 : UInt64) (FP.ddiv (4607182418800017408 : UInt64) (FP.i2d (3 : Int32))))), .second, .val (.double (own_sc s0 s2)), .second] [(.int (3 : Int32))]
      refine XS.aloadN X549.here hx rfl (hb hby d12_29) rfl rfl ?_
      show Go p e below t T549 m 30 #[rv aa, .val (.double (f_sco  s0)), .second, rv b414, iv (3 : Int32), .val (.double (FP.dsub (4607182418800017408 : UInt64) (FP.ddiv (4607182418800017408 : UInt64) (FP.i2d (3 : Int32))))), .second, .val (.double (own_sc s0 s2)), .second] [(.ref b414), (.int (3 : Int32))]
      exact k)
    obtain ⟨cl552, Ar552, q552, S552, M552, H552, G552⟩ := id V549
    have g553 : Goes p e below S0 (T549.setTop (mkF m 101 #[rv aa, .val (.double (f_sco  s0)), .second, rv b414, iv (3 : Int32), .val (.double (FP.dsub (4607182418800017408 : UInt64) (FP.ddiv (4607182418800017408 : UInt64) (FP.i2d (3 : Int32))))), .second, .val (.double (own_sc s0 s2)), .second] [(.ref b414)])) := fun t k => g551 t (by
      refine X549.arraylength hx (by rw [e549]; exact Ar552.1) (State.isArrayOf_alike hZ.alike Ar552.2.1) (g := (mkF m 30 #[rv aa, .val (.double (f_sco  s0)), .second, rv b414, iv (3 : Int32), .val (.double (FP.dsub (4607182418800017408 : UInt64) (FP.ddiv (4607182418800017408 : UInt64) (FP.i2d (3 : Int32))))), .second, .val (.double (own_sc s0 s2)), .second] [(.ref b414), (.int (3 : Int32))])) rfl rfl (hb hby d12_30) _ ?_
      rw [len_of S552 M552]
      show Go p e below t T549 m 31 #[rv aa, .val (.double (f_sco  s0)), .second, rv b414, iv (3 : Int32), .val (.double (FP.dsub (4607182418800017408 : UInt64) (FP.ddiv (4607182418800017408 : UInt64) (FP.i2d (3 : Int32))))), .second, .val (.double (own_sc s0 s2)), .second] [(.int (3 : Int32)), (.int (3 : Int32))]
      refine XS.icmpYes X549.here hx rfl (pc0 := 31) (pc' := 100) rfl (hb hby d12_31) rfl (XT.ii_ge_t (by decide)) (by decide) (by decide) ?_
      show Go p e below t T549 m 100 #[rv aa, .val (.double (f_sco  s0)), .second, rv b414, iv (3 : Int32), .val (.double (FP.dsub (4607182418800017408 : UInt64) (FP.ddiv (4607182418800017408 : UInt64) (FP.i2d (3 : Int32))))), .second, .val (.double (own_sc s0 s2)), .second] []
      refine XS.aloadN X549.here hx rfl (hb hby d12_100) rfl rfl ?_
      show Go p e below t T549 m 101 #[rv aa, .val (.double (f_sco  s0)), .second, rv b414, iv (3 : Int32), .val (.double (FP.dsub (4607182418800017408 : UInt64) (FP.ddiv (4607182418800017408 : UInt64) (FP.i2d (3 : Int32))))), .second, .val (.double (own_sc s0 s2)), .second] [(.ref b414)]
      exact k)
    obtain ⟨fs, hr, hrun, hended, hW, hsame⟩ := X549.leave (v := some (.ref b414)) (fun h => by rw [Bd.returns] at h; cases h)
    refine ⟨_, _, g553 _ (retOut X549 hx Bd.returns rfl (Or.inr (Or.inr (Or.inr (Or.inr ⟨rfl, rfl, rfl⟩)))) (hb hby d12_101) hr), hrun, hended, _, _, rfl, ?_, ⟨_, rfl⟩, hW, hsame.mono (by decide) (by decide)⟩
    show Q_inp3 Z aa ea ek x0 x1 x2 s0 s1 s2 h0 n0 _ T549.heap _
    rw [e549]
    exact ⟨b414, k414, b504, b521, b538, k504, k521, k538, rfl, N549, ((((((((((((((Keep.refl h0 []).ext E414).ext E504).wr W508 (Or.inr sz504)).wr W512 (Or.inr sz504)).wr W515 (Or.inr sz414)).ext E521).wr W525 (Or.inr sz521)).wr W529 (Or.inr sz521)).wr W532 (Or.inr sz414)).ext E538).wr W542 (Or.inr sz538)).wr W546 (Or.inr sz538)).wr W549 (Or.inr sz414)), sz414, sz504, sz521, sz538, V549, (((((((((V512.other W515 (Ne.symm (Nat.ne_of_lt (Nat.lt_of_lt_of_le Q414.lt (Nat.le_of_eq gb504.symm))))).ext E521).other W525 (Nat.ne_of_lt (Nat.lt_of_lt_of_le (((Q504.wr W508).wr W512).wr W515).lt (Nat.le_of_eq gb521.symm)))).other W529 (Nat.ne_of_lt (Nat.lt_of_lt_of_le (((Q504.wr W508).wr W512).wr W515).lt (Nat.le_of_eq gb521.symm)))).other W532 (Ne.symm (Nat.ne_of_lt (Nat.lt_of_lt_of_le Q414.lt (Nat.le_of_eq gb504.symm))))).ext E538).other W542 (Nat.ne_of_lt (Nat.lt_of_lt_of_le (((((((Q504.wr W508).wr W512).wr W515).ext E521).wr W525).wr W529).wr W532).lt (Nat.le_of_eq gb538.symm)))).other W546 (Nat.ne_of_lt (Nat.lt_of_lt_of_le (((((((Q504.wr W508).wr W512).wr W515).ext E521).wr W525).wr W529).wr W532).lt (Nat.le_of_eq gb538.symm)))).other W549 (Ne.symm (Nat.ne_of_lt (Nat.lt_of_lt_of_le Q414.lt (Nat.le_of_eq gb504.symm))))), (((((V529.other W532 (Ne.symm (Nat.ne_of_lt (Nat.lt_of_lt_of_le ((((Q414.ext E504).wr W508).wr W512).wr W515).lt (Nat.le_of_eq gb521.symm))))).ext E538).other W542 (Nat.ne_of_lt (Nat.lt_of_lt_of_le (((Q521.wr W525).wr W529).wr W532).lt (Nat.le_of_eq gb538.symm)))).other W546 (Nat.ne_of_lt (Nat.lt_of_lt_of_le (((Q521.wr W525).wr W529).wr W532).lt (Nat.le_of_eq gb538.symm)))).other W549 (Ne.symm (Nat.ne_of_lt (Nat.lt_of_lt_of_le ((((Q414.ext E504).wr W508).wr W512).wr W515).lt (Nat.le_of_eq gb521.symm))))), (V546.other W549 (Ne.symm (Nat.ne_of_lt (Nat.lt_of_lt_of_le ((((((((Q414.ext E504).wr W508).wr W512).wr W515).ext E521).wr W525).wr W529).wr W532).lt (Nat.le_of_eq gb538.symm)))))⟩
theorem d20_0 : decode method_3_code 0 = .ok (.dload_n 2, 1) := by decide +kernel
theorem d20_1 : decode method_3_code 1 = .ok (.dconst 0, 1) := by decide +kernel
theorem d20_2 : decode method_3_code 2 = .ok (.dcmp .l, 1) := by decide +kernel
theorem d20_3 : decode method_3_code 3 = .ok (.ifCond .le 15, 3) := by decide +kernel
theorem d20_6 : decode method_3_code 6 = .ok (.dload_n 0, 1) := by decide +kernel
theorem d20_7 : decode method_3_code 7 = .ok (.dconst 0, 1) := by decide +kernel
theorem d20_8 : decode method_3_code 8 = .ok (.dcmp .l, 1) := by decide +kernel
theorem d20_9 : decode method_3_code 9 = .ok (.ifCond .le 7, 3) := by decide +kernel
theorem d20_12 : decode method_3_code 12 = .ok (.dload_n 0, 1) := by decide +kernel
theorem d20_13 : decode method_3_code 13 = .ok (.dload_n 2, 1) := by decide +kernel
theorem d20_14 : decode method_3_code 14 = .ok (.ddiv, 1) := by decide +kernel
theorem d20_15 : decode method_3_code 15 = .ok (.dreturn, 1) := by decide +kernel
theorem d20_16 : decode method_3_code 16 = .ok (.dconst 0, 1) := by decide +kernel
theorem d20_17 : decode method_3_code 17 = .ok (.dreturn, 1) := by decide +kernel
theorem d20_18 : decode method_3_code 18 = .ok (.dconst 0, 1) := by decide +kernel
theorem d20_19 : decode method_3_code 19 = .ok (.dreturn, 1) := by decide +kernel
theorem pf_exp : plainFor (⟨"com/example/nimble_retrieval/nimbleretrieval/runs/TrainedMergeInputsPinLaw", "expected", "(DD)D"⟩ : MethodName) = true := by first | exact plainFor_of_name (by first | (simp [plainName, overriddenIn, x]; done) | decide +kernel) | exact Jvm.Free.JP.mathPlain rfl (by decide +kernel) | decide +kernel
theorem ef_exp (m : MethodId) (xs : UInt64) (xt : UInt64) : entryFrame m #[(.double xs), (.double xt)] 4 = mkF m 0 #[.val (.double xs), .second, .val (.double xt), .second] [] := by first | (simp [entryFrame, mkF, argsToLocals, Value.category, maxLocals]; done) | rfl
def f_exp (xs : UInt64) (xt : UInt64) : UInt64 := (if dLt (0 : UInt64) xt then (if dLt (0 : UInt64) xs then (FP.ddiv xs xt) else (0 : UInt64)) else (0 : UInt64))
def Q_exp (Z : State) (xs : UInt64) (xt : UInt64)  (h0 : Heap) (n0 : Nat) (v : Option Value) (h : Heap) (L : List Loc) : Prop := v = some (.double (f_exp xs xt)) ∧ Fr n0 L ∧ h = h0
set_option maxRecDepth 65536 in
set_option maxHeartbeats 40000000 in
theorem rm_exp (l : Launch) (Z : State) (a0 : Array Value) (hw : ∀ d ∈ tables_1, d.before a0 Z = true) (ws : List Jvm.Cond) (xs : UInt64) (xt : UInt64)  (h0 : Heap) (n0 : Nat) (Z0 : n0 ≤ h0.size) (fxs : Jvm.Free.Fl.Fin64 xs) (fxt : Jvm.Free.Fl.Fin64 xt)  :
    MetFree l (⟨"com/example/nimble_retrieval/nimbleretrieval/runs/TrainedMergeInputsPinLaw", "expected", "(DD)D"⟩ : MethodName) (head1 (Jvm.Cond.code (⟨"com/example/nimble_retrieval/nimbleretrieval/runs/TrainedMergeInputsPinLaw", "expected", "(DD)D"⟩ : MethodName) method_3_code 4 (some .double) :: ws) ({ frames := 0, cells := 0, slots := 0, locals := 0 } : Room)) (fun a U => a = #[(.double xs), (.double xt)] ∧ Z.Warmed39 U.vm ∧ U.heap = h0) (fun _ _ _ _ _ => True) (fun _ U o U' => ∃ v L, o = .returned v ∧ Q_exp Z xs xt  h0 n0 v U'.heap L ∧ FrameEnd U o U' L ({ frames := 0, cells := 0, slots := 0, locals := 0 } : Room).cells ({ frames := 0, cells := 0, slots := 0, locals := 0 } : Room).slots) := by
  refine MetFree.of_bodySF pf_exp hisR ?_
  intro p e s m args below meth c s₁ Bd hml0 hP hK
  obtain ⟨rfl, hZ, hh⟩ := hP
  have hx := Bd.exec
  have hby := Bd.bytes
  have hml : c.maxLocals = 4 := hml0
  have hown : s.vm.findClass "com/example/nimble_retrieval/nimbleretrieval/runs/TrainedMergeInputsPinLaw" = some m.cls := findClass_of_methodNamed Bd.named
  have hnm := (name_of_methodNamed Bd.named Bd.method).1
  have X0 : Stand p l e ({ frames := 0, cells := 0, slots := 0, locals := 0 } : Room) s m #[(.double xs), (.double xt)] below meth c s₁ [] 0 0 := Stand.of_body Bd
  have e0 : s₁.heap = h0 := by rw [← hh, Bd.state]; rfl
  have N0 := Fr.nil n0
  obtain ⟨S0, hS0⟩ : ∃ z, z = s₁.setTop (entryFrame m #[(.double xs), (.double xt)] 4) := ⟨_, rfl⟩
  rw [← hS0]
  have g0 : Goes p e below S0 (s₁.setTop (mkF m 0 #[.val (.double xs), .second, .val (.double xt), .second] [])) := fun t k => by rw [hS0]; exact castTop (ef_exp m xs xt) k
  have g554 : Goes p e below S0 (s₁.setTop (mkF m 3 #[.val (.double xs), .second, .val (.double xt), .second] [(.int (cmpValue (FP.dcmp xt (0 : UInt64)) .l))])) := fun t k => g0 t (by
    refine XS.dloadN X0.here hx rfl (hb hby d20_0) rfl ?_
    show Go p e below t s₁ m 1 #[.val (.double xs), .second, .val (.double xt), .second] [(.double xt)]
    refine XS.dconst0 X0.here hx rfl (hb hby d20_1) (v := (0 : UInt64)) rfl ?_
    show Go p e below t s₁ m 2 #[.val (.double xs), .second, .val (.double xt), .second] [(.double (0 : UInt64)), (.double xt)]
    refine XS.dcmpS X0.here hx rfl (hb hby d20_2) rfl rfl ?_
    show Go p e below t s₁ m 3 #[.val (.double xs), .second, .val (.double xt), .second] [(.int (cmpValue (FP.dcmp xt (0 : UInt64)) .l))]
    exact k)
  by_cases h555 : dLt (0 : UInt64) xt
  · skip
    have g556 : Goes p e below S0 (s₁.setTop (mkF m 9 #[.val (.double xs), .second, .val (.double xt), .second] [(.int (cmpValue (FP.dcmp xs (0 : UInt64)) .l))])) := fun t k => g554 t (by
      refine XS.ifNo X0.here hx rfl (hb hby d20_3) rfl (dc_l_le_f h555) ?_
      show Go p e below t s₁ m 6 #[.val (.double xs), .second, .val (.double xt), .second] []
      refine XS.dloadN X0.here hx rfl (hb hby d20_6) rfl ?_
      show Go p e below t s₁ m 7 #[.val (.double xs), .second, .val (.double xt), .second] [(.double xs)]
      refine XS.dconst0 X0.here hx rfl (hb hby d20_7) (v := (0 : UInt64)) rfl ?_
      show Go p e below t s₁ m 8 #[.val (.double xs), .second, .val (.double xt), .second] [(.double (0 : UInt64)), (.double xs)]
      refine XS.dcmpS X0.here hx rfl (hb hby d20_8) rfl rfl ?_
      show Go p e below t s₁ m 9 #[.val (.double xs), .second, .val (.double xt), .second] [(.int (cmpValue (FP.dcmp xs (0 : UInt64)) .l))]
      exact k)
    by_cases h557 : dLt (0 : UInt64) xs
    · skip
      have g558 : Goes p e below S0 (s₁.setTop (mkF m 15 #[.val (.double xs), .second, .val (.double xt), .second] [(.double (FP.ddiv xs xt))])) := fun t k => g556 t (by
        refine XS.ifNo X0.here hx rfl (hb hby d20_9) rfl (dc_l_le_f h557) ?_
        show Go p e below t s₁ m 12 #[.val (.double xs), .second, .val (.double xt), .second] []
        refine XS.dloadN X0.here hx rfl (hb hby d20_12) rfl ?_
        show Go p e below t s₁ m 13 #[.val (.double xs), .second, .val (.double xt), .second] [(.double xs)]
        refine XS.dloadN X0.here hx rfl (hb hby d20_13) rfl ?_
        show Go p e below t s₁ m 14 #[.val (.double xs), .second, .val (.double xt), .second] [(.double xt), (.double xs)]
        refine XS.ddivS X0.here hx rfl (hb hby d20_14) rfl (own_nnq fxs fxt h555) rfl ?_
        show Go p e below t s₁ m 15 #[.val (.double xs), .second, .val (.double xt), .second] [(.double (FP.ddiv xs xt))]
        exact k)
      obtain ⟨fs, hr, hrun, hended, hW, hsame⟩ := X0.leave (v := some (.double (FP.ddiv xs xt))) (fun h => by rw [Bd.returns] at h; cases h)
      refine ⟨_, _, g558 _ (retOut X0 hx Bd.returns rfl (Or.inr (Or.inr (Or.inl ⟨rfl, rfl, _, rfl⟩))) (hb hby d20_15) hr), hrun, hended, _, _, rfl, ?_, ⟨_, rfl⟩, hW, hsame.mono (by decide) (by decide)⟩
      show Q_exp Z xs xt  h0 n0 _ s₁.heap _
      rw [e0]
      exact ⟨by unfold f_exp; rw [if_pos h555, if_pos h557], N0, rfl⟩
    · skip
      have g559 : Goes p e below S0 (s₁.setTop (mkF m 17 #[.val (.double xs), .second, .val (.double xt), .second] [(.double (0 : UInt64))])) := fun t k => g556 t (by
        refine XS.ifYes X0.here hx rfl (pc0 := 9) (pc' := 16) rfl (hb hby d20_9) rfl (dc_l_le_t h557) (by decide) (by decide) ?_
        show Go p e below t s₁ m 16 #[.val (.double xs), .second, .val (.double xt), .second] []
        refine XS.dconst0 X0.here hx rfl (hb hby d20_16) (v := (0 : UInt64)) rfl ?_
        show Go p e below t s₁ m 17 #[.val (.double xs), .second, .val (.double xt), .second] [(.double (0 : UInt64))]
        exact k)
      obtain ⟨fs, hr, hrun, hended, hW, hsame⟩ := X0.leave (v := some (.double (0 : UInt64))) (fun h => by rw [Bd.returns] at h; cases h)
      refine ⟨_, _, g559 _ (retOut X0 hx Bd.returns rfl (Or.inr (Or.inr (Or.inl ⟨rfl, rfl, _, rfl⟩))) (hb hby d20_17) hr), hrun, hended, _, _, rfl, ?_, ⟨_, rfl⟩, hW, hsame.mono (by decide) (by decide)⟩
      show Q_exp Z xs xt  h0 n0 _ s₁.heap _
      rw [e0]
      exact ⟨by unfold f_exp; rw [if_pos h555, if_neg h557], N0, rfl⟩
  · skip
    have g560 : Goes p e below S0 (s₁.setTop (mkF m 19 #[.val (.double xs), .second, .val (.double xt), .second] [(.double (0 : UInt64))])) := fun t k => g554 t (by
      refine XS.ifYes X0.here hx rfl (pc0 := 3) (pc' := 18) rfl (hb hby d20_3) rfl (dc_l_le_t h555) (by decide) (by decide) ?_
      show Go p e below t s₁ m 18 #[.val (.double xs), .second, .val (.double xt), .second] []
      refine XS.dconst0 X0.here hx rfl (hb hby d20_18) (v := (0 : UInt64)) rfl ?_
      show Go p e below t s₁ m 19 #[.val (.double xs), .second, .val (.double xt), .second] [(.double (0 : UInt64))]
      exact k)
    obtain ⟨fs, hr, hrun, hended, hW, hsame⟩ := X0.leave (v := some (.double (0 : UInt64))) (fun h => by rw [Bd.returns] at h; cases h)
    refine ⟨_, _, g560 _ (retOut X0 hx Bd.returns rfl (Or.inr (Or.inr (Or.inl ⟨rfl, rfl, _, rfl⟩))) (hb hby d20_19) hr), hrun, hended, _, _, rfl, ?_, ⟨_, rfl⟩, hW, hsame.mono (by decide) (by decide)⟩
    show Q_exp Z xs xt  h0 n0 _ s₁.heap _
    rw [e0]
    exact ⟨by unfold f_exp; rw [if_neg h555], N0, rfl⟩
theorem d21_0 : decode method_4_code 0 = .ok (.aload_n 0, 1) := by decide +kernel
theorem d21_1 : decode method_4_code 1 = .ok (.ifnull 9, 3) := by decide +kernel
theorem d21_4 : decode method_4_code 4 = .ok (.aload_n 0, 1) := by decide +kernel
theorem d21_5 : decode method_4_code 5 = .ok (.arraylength, 1) := by decide +kernel
theorem d21_6 : decode method_4_code 6 = .ok (.iconst 2, 1) := by decide +kernel
theorem d21_7 : decode method_4_code 7 = .ok (.if_icmp .eq 5, 3) := by decide +kernel
theorem d21_10 : decode method_4_code 10 = .ok (.iconst 0, 1) := by decide +kernel
theorem d21_11 : decode method_4_code 11 = .ok (.ireturn, 1) := by decide +kernel
theorem d21_12 : decode method_4_code 12 = .ok (.aload_n 0, 1) := by decide +kernel
theorem d21_13 : decode method_4_code 13 = .ok (.iconst 0, 1) := by decide +kernel
theorem d21_14 : decode method_4_code 14 = .ok (.daload, 1) := by decide +kernel
theorem d21_15 : decode method_4_code 15 = .ok (.dload_n 1, 1) := by decide +kernel
theorem d21_16 : decode method_4_code 16 = .ok (.dcmp .l, 1) := by decide +kernel
theorem d21_17 : decode method_4_code 17 = .ok (.ifCond .ne 15, 3) := by decide +kernel
theorem d21_20 : decode method_4_code 20 = .ok (.aload_n 0, 1) := by decide +kernel
theorem d21_21 : decode method_4_code 21 = .ok (.iconst 1, 1) := by decide +kernel
theorem d21_22 : decode method_4_code 22 = .ok (.daload, 1) := by decide +kernel
theorem d21_23 : decode method_4_code 23 = .ok (.dload_n 3, 1) := by decide +kernel
theorem d21_24 : decode method_4_code 24 = .ok (.dcmp .l, 1) := by decide +kernel
theorem d21_25 : decode method_4_code 25 = .ok (.ifCond .ne 7, 3) := by decide +kernel
theorem d21_28 : decode method_4_code 28 = .ok (.iconst 1, 1) := by decide +kernel
theorem d21_29 : decode method_4_code 29 = .ok (.goto 4, 3) := by decide +kernel
theorem d21_32 : decode method_4_code 32 = .ok (.iconst 0, 1) := by decide +kernel
theorem d21_33 : decode method_4_code 33 = .ok (.ireturn, 1) := by decide +kernel
theorem pd13 : parseMethodDescriptor "([DDD)Z" = some ⟨[(.array .double), .double, .double], some .boolean⟩ := by decide +kernel
theorem pf_row : plainFor (⟨"com/example/nimble_retrieval/nimbleretrieval/runs/TrainedMergeInputsPinLaw", "row", "([DDD)Z"⟩ : MethodName) = true := by first | exact plainFor_of_name (by first | (simp [plainName, overriddenIn, x]; done) | decide +kernel) | exact Jvm.Free.JP.mathPlain rfl (by decide +kernel) | decide +kernel
theorem ef_row (m : MethodId) (za : Addr) (xr : UInt64) (xs : UInt64) : entryFrame m #[(.ref za), (.double xr), (.double xs)] 5 = mkF m 0 #[rv za, .val (.double xr), .second, .val (.double xs), .second] [] := by first | (simp [entryFrame, mkF, argsToLocals, Value.category, maxLocals]; done) | rfl
def f_row (xr : UInt64) (xs : UInt64) (w0 : UInt64) (w1 : UInt64) : Int32 := (if dEq w0 xr then (if dEq w1 xs then (1 : Int32) else (0 : Int32)) else (0 : Int32))
def Q_row (Z : State) (za : Addr) (xr : UInt64) (xs : UInt64) (w0 : UInt64) (w1 : UInt64) (zk : ClassId) (h0 : Heap) (n0 : Nat) (v : Option Value) (h : Heap) (L : List Loc) : Prop := v = some (.int (f_row xr xs w0 w1)) ∧ Fr n0 L ∧ h = h0
set_option maxRecDepth 65536 in
set_option maxHeartbeats 40000000 in
theorem rm_row (l : Launch) (Z : State) (a0 : Array Value) (hw : ∀ d ∈ tables_1, d.before a0 Z = true) (ws : List Jvm.Cond) (za : Addr) (xr : UInt64) (xs : UInt64) (w0 : UInt64) (w1 : UInt64) (zk : ClassId) (h0 : Heap) (n0 : Nat) (Z0 : n0 ≤ h0.size) (P0 : Arv Z h0 za zk .double (2 : Int32) [(.double w0), (.double w1)] (.double (0 : UInt64)))  :
    MetFree l (⟨"com/example/nimble_retrieval/nimbleretrieval/runs/TrainedMergeInputsPinLaw", "row", "([DDD)Z"⟩ : MethodName) (head1 (Jvm.Cond.code (⟨"com/example/nimble_retrieval/nimbleretrieval/runs/TrainedMergeInputsPinLaw", "row", "([DDD)Z"⟩ : MethodName) method_4_code 5 (some .boolean) :: ws) ({ frames := 0, cells := 0, slots := 0, locals := 0 } : Room)) (fun a U => a = #[(.ref za), (.double xr), (.double xs)] ∧ Z.Warmed39 U.vm ∧ U.heap = h0) (fun _ _ _ _ _ => True) (fun _ U o U' => ∃ v L, o = .returned v ∧ Q_row Z za xr xs w0 w1 zk h0 n0 v U'.heap L ∧ FrameEnd U o U' L ({ frames := 0, cells := 0, slots := 0, locals := 0 } : Room).cells ({ frames := 0, cells := 0, slots := 0, locals := 0 } : Room).slots) := by
  refine MetFree.of_bodySF pf_row hisR ?_
  intro p e s m args below meth c s₁ Bd hml0 hP hK
  obtain ⟨rfl, hZ, hh⟩ := hP
  have hx := Bd.exec
  have hby := Bd.bytes
  have hml : c.maxLocals = 5 := hml0
  have hown : s.vm.findClass "com/example/nimble_retrieval/nimbleretrieval/runs/TrainedMergeInputsPinLaw" = some m.cls := findClass_of_methodNamed Bd.named
  have hnm := (name_of_methodNamed Bd.named Bd.method).1
  have X0 : Stand p l e ({ frames := 0, cells := 0, slots := 0, locals := 0 } : Room) s m #[(.ref za), (.double xr), (.double xs)] below meth c s₁ [] 0 0 := Stand.of_body Bd
  have e0 : s₁.heap = h0 := by rw [← hh, Bd.state]; rfl
  have N0 := Fr.nil n0
  obtain ⟨S0, hS0⟩ : ∃ z, z = s₁.setTop (entryFrame m #[(.ref za), (.double xr), (.double xs)] 5) := ⟨_, rfl⟩
  rw [← hS0]
  have g0 : Goes p e below S0 (s₁.setTop (mkF m 0 #[rv za, .val (.double xr), .second, .val (.double xs), .second] [])) := fun t k => by rw [hS0]; exact castTop (ef_row m za xr xs) k
  have g561 : Goes p e below S0 (s₁.setTop (mkF m 5 #[rv za, .val (.double xr), .second, .val (.double xs), .second] [(.ref za)])) := fun t k => g0 t (by
    refine XS.aloadN X0.here hx rfl (hb hby d21_0) rfl rfl ?_
    show Go p e below t s₁ m 1 #[rv za, .val (.double xr), .second, .val (.double xs), .second] [(.ref za)]
    refine XS.ifnullNo X0.here hx rfl (hb hby d21_1) rfl ?_
    show Go p e below t s₁ m 4 #[rv za, .val (.double xr), .second, .val (.double xs), .second] []
    refine XS.aloadN X0.here hx rfl (hb hby d21_4) rfl rfl ?_
    show Go p e below t s₁ m 5 #[rv za, .val (.double xr), .second, .val (.double xs), .second] [(.ref za)]
    exact k)
  obtain ⟨cl562, Ar562, q562, S562, M562, H562, G562⟩ := id P0
  have g563 : Goes p e below S0 (s₁.setTop (mkF m 14 #[rv za, .val (.double xr), .second, .val (.double xs), .second] [(.int (0 : Int32)), (.ref za)])) := fun t k => g561 t (by
    refine X0.arraylength hx (by rw [e0]; exact Ar562.1) (State.isArrayOf_alike hZ.alike Ar562.2.1) (g := (mkF m 5 #[rv za, .val (.double xr), .second, .val (.double xs), .second] [(.ref za)])) rfl rfl (hb hby d21_5) _ ?_
    rw [len_of S562 M562]
    show Go p e below t s₁ m 6 #[rv za, .val (.double xr), .second, .val (.double xs), .second] [(.int (2 : Int32))]
    refine XT.iconstV X0.here hx rfl (2 : Int32) (hb hby d21_6) (by decide) ?_
    show Go p e below t s₁ m 7 #[rv za, .val (.double xr), .second, .val (.double xs), .second] [(.int (2 : Int32)), (.int (2 : Int32))]
    refine XS.icmpYes X0.here hx rfl (pc0 := 7) (pc' := 12) rfl (hb hby d21_7) rfl (XT.ii_eq_t (by decide)) (by decide) (by decide) ?_
    show Go p e below t s₁ m 12 #[rv za, .val (.double xr), .second, .val (.double xs), .second] []
    refine XS.aloadN X0.here hx rfl (hb hby d21_12) rfl rfl ?_
    show Go p e below t s₁ m 13 #[rv za, .val (.double xr), .second, .val (.double xs), .second] [(.ref za)]
    refine XT.iconstV X0.here hx rfl (0 : Int32) (hb hby d21_13) (by decide) ?_
    show Go p e below t s₁ m 14 #[rv za, .val (.double xr), .second, .val (.double xs), .second] [(.int (0 : Int32)), (.ref za)]
    exact k)
  obtain ⟨cl564, Ar564, q564, S564, M564, H564, G564⟩ := id P0
  have g565 : Goes p e below S0 (s₁.setTop (mkF m 17 #[rv za, .val (.double xr), .second, .val (.double xs), .second] [(.int (cmpValue (FP.dcmp w0 xr) .l))])) := fun t k => g563 t (by
    refine X0.daload hx (j := (0 : Int32)) (v := (.double w0)) (by rw [e0]; exact Ar564.1) (State.isArrayOf_alike hZ.alike Ar564.2.1) Ar564.2.2 (inb_of S564 ⟨by decide, by decide⟩) (H564.at (inb_of S564 ⟨by decide, by decide⟩) rfl) (g := (mkF m 14 #[rv za, .val (.double xr), .second, .val (.double xs), .second] [(.int (0 : Int32)), (.ref za)])) rfl rfl (hb hby d21_14) _ ?_
    show Go p e below t s₁ m 15 #[rv za, .val (.double xr), .second, .val (.double xs), .second] [(.double w0)]
    refine XS.dloadN X0.here hx rfl (hb hby d21_15) rfl ?_
    show Go p e below t s₁ m 16 #[rv za, .val (.double xr), .second, .val (.double xs), .second] [(.double xr), (.double w0)]
    refine XS.dcmpS X0.here hx rfl (hb hby d21_16) rfl rfl ?_
    show Go p e below t s₁ m 17 #[rv za, .val (.double xr), .second, .val (.double xs), .second] [(.int (cmpValue (FP.dcmp w0 xr) .l))]
    exact k)
  by_cases h566 : dEq w0 xr
  · skip
    have g567 : Goes p e below S0 (s₁.setTop (mkF m 22 #[rv za, .val (.double xr), .second, .val (.double xs), .second] [(.int (1 : Int32)), (.ref za)])) := fun t k => g565 t (by
      refine XS.ifNo X0.here hx rfl (hb hby d21_17) rfl (dc_l_ne_f h566) ?_
      show Go p e below t s₁ m 20 #[rv za, .val (.double xr), .second, .val (.double xs), .second] []
      refine XS.aloadN X0.here hx rfl (hb hby d21_20) rfl rfl ?_
      show Go p e below t s₁ m 21 #[rv za, .val (.double xr), .second, .val (.double xs), .second] [(.ref za)]
      refine XT.iconstV X0.here hx rfl (1 : Int32) (hb hby d21_21) (by decide) ?_
      show Go p e below t s₁ m 22 #[rv za, .val (.double xr), .second, .val (.double xs), .second] [(.int (1 : Int32)), (.ref za)]
      exact k)
    obtain ⟨cl568, Ar568, q568, S568, M568, H568, G568⟩ := id P0
    have g569 : Goes p e below S0 (s₁.setTop (mkF m 25 #[rv za, .val (.double xr), .second, .val (.double xs), .second] [(.int (cmpValue (FP.dcmp w1 xs) .l))])) := fun t k => g567 t (by
      refine X0.daload hx (j := (1 : Int32)) (v := (.double w1)) (by rw [e0]; exact Ar568.1) (State.isArrayOf_alike hZ.alike Ar568.2.1) Ar568.2.2 (inb_of S568 ⟨by decide, by decide⟩) (H568.at (inb_of S568 ⟨by decide, by decide⟩) rfl) (g := (mkF m 22 #[rv za, .val (.double xr), .second, .val (.double xs), .second] [(.int (1 : Int32)), (.ref za)])) rfl rfl (hb hby d21_22) _ ?_
      show Go p e below t s₁ m 23 #[rv za, .val (.double xr), .second, .val (.double xs), .second] [(.double w1)]
      refine XS.dloadN X0.here hx rfl (hb hby d21_23) rfl ?_
      show Go p e below t s₁ m 24 #[rv za, .val (.double xr), .second, .val (.double xs), .second] [(.double xs), (.double w1)]
      refine XS.dcmpS X0.here hx rfl (hb hby d21_24) rfl rfl ?_
      show Go p e below t s₁ m 25 #[rv za, .val (.double xr), .second, .val (.double xs), .second] [(.int (cmpValue (FP.dcmp w1 xs) .l))]
      exact k)
    by_cases h570 : dEq w1 xs
    · skip
      have g571 : Goes p e below S0 (s₁.setTop (mkF m 33 #[rv za, .val (.double xr), .second, .val (.double xs), .second] [(.int (1 : Int32))])) := fun t k => g569 t (by
        refine XS.ifNo X0.here hx rfl (hb hby d21_25) rfl (dc_l_ne_f h570) ?_
        show Go p e below t s₁ m 28 #[rv za, .val (.double xr), .second, .val (.double xs), .second] []
        refine XT.iconstV X0.here hx rfl (1 : Int32) (hb hby d21_28) (by decide) ?_
        show Go p e below t s₁ m 29 #[rv za, .val (.double xr), .second, .val (.double xs), .second] [(.int (1 : Int32))]
        refine XS.goto X0.here hx rfl (pc0 := 29) (pc' := 33) rfl (hb hby d21_29) (by decide) (by decide) ?_
        show Go p e below t s₁ m 33 #[rv za, .val (.double xr), .second, .val (.double xs), .second] [(.int (1 : Int32))]
        exact k)
      obtain ⟨fs, hr, hrun, hended, hW, hsame⟩ := X0.leave (v := some (.int (1 : Int32))) (fun h => by rw [Bd.returns] at h; cases h)
      refine ⟨_, _, g571 _ (retN X0 hx (t := .boolean) Bd.returns (by simp) (hb hby d21_33) hr), hrun, hended, _, _, rfl, ?_, ⟨_, rfl⟩, hW, hsame.mono (by decide) (by decide)⟩
      show Q_row Z za xr xs w0 w1 zk h0 n0 _ s₁.heap _
      rw [e0]
      exact ⟨by unfold f_row; rw [if_pos h566, if_pos h570], N0, rfl⟩
    · skip
      have g572 : Goes p e below S0 (s₁.setTop (mkF m 33 #[rv za, .val (.double xr), .second, .val (.double xs), .second] [(.int (0 : Int32))])) := fun t k => g569 t (by
        refine XS.ifYes X0.here hx rfl (pc0 := 25) (pc' := 32) rfl (hb hby d21_25) rfl (dc_l_ne_t h570) (by decide) (by decide) ?_
        show Go p e below t s₁ m 32 #[rv za, .val (.double xr), .second, .val (.double xs), .second] []
        refine XT.iconstV X0.here hx rfl (0 : Int32) (hb hby d21_32) (by decide) ?_
        show Go p e below t s₁ m 33 #[rv za, .val (.double xr), .second, .val (.double xs), .second] [(.int (0 : Int32))]
        exact k)
      obtain ⟨fs, hr, hrun, hended, hW, hsame⟩ := X0.leave (v := some (.int (0 : Int32))) (fun h => by rw [Bd.returns] at h; cases h)
      refine ⟨_, _, g572 _ (retN X0 hx (t := .boolean) Bd.returns (by simp) (hb hby d21_33) hr), hrun, hended, _, _, rfl, ?_, ⟨_, rfl⟩, hW, hsame.mono (by decide) (by decide)⟩
      show Q_row Z za xr xs w0 w1 zk h0 n0 _ s₁.heap _
      rw [e0]
      exact ⟨by unfold f_row; rw [if_pos h566, if_neg h570], N0, rfl⟩
  · skip
    have g573 : Goes p e below S0 (s₁.setTop (mkF m 33 #[rv za, .val (.double xr), .second, .val (.double xs), .second] [(.int (0 : Int32))])) := fun t k => g565 t (by
      refine XS.ifYes X0.here hx rfl (pc0 := 17) (pc' := 32) rfl (hb hby d21_17) rfl (dc_l_ne_t h566) (by decide) (by decide) ?_
      show Go p e below t s₁ m 32 #[rv za, .val (.double xr), .second, .val (.double xs), .second] []
      refine XT.iconstV X0.here hx rfl (0 : Int32) (hb hby d21_32) (by decide) ?_
      show Go p e below t s₁ m 33 #[rv za, .val (.double xr), .second, .val (.double xs), .second] [(.int (0 : Int32))]
      exact k)
    obtain ⟨fs, hr, hrun, hended, hW, hsame⟩ := X0.leave (v := some (.int (0 : Int32))) (fun h => by rw [Bd.returns] at h; cases h)
    refine ⟨_, _, g573 _ (retN X0 hx (t := .boolean) Bd.returns (by simp) (hb hby d21_33) hr), hrun, hended, _, _, rfl, ?_, ⟨_, rfl⟩, hW, hsame.mono (by decide) (by decide)⟩
    show Q_row Z za xr xs w0 w1 zk h0 n0 _ s₁.heap _
    rw [e0]
    exact ⟨by unfold f_row; rw [if_neg h566], N0, rfl⟩
def own_n (x : Int32) : Int32 := ((x &&& (2147483647 : Int32)) % (3 : Int32)) + (1 : Int32)
def own_a (x y z : Int32) : Int32 := f_mx x (f_mx y z)
def own_cc (x y z : Int32) : Int32 := f_mn x (f_mn y z)
def own_b (x y z : Int32) : Int32 := ((((x.toInt64 + y.toInt64) + z.toInt64) - (own_a x y z).toInt64) - (own_cc x y z).toInt64).toInt32
theorem own_n3 (x : Int32) : own_n x = 1 ∨ own_n x = 2 ∨ own_n x = 3 := by
  have h := c_and x 2147483647 (by decide)
  have h1 := (c_irem (x &&& 2147483647) 3 3 (by decide)).1 h.1
  have h2 := c_iadd ((x &&& 2147483647) % 3) 1
  have h3 := rng32 (((x &&& 2147483647) % 3) + 1)
  have h4 : (1 : Int32).toInt = 1 := by decide
  have e : (own_n x).toInt = 1 ∨ (own_n x).toInt = 2 ∨ (own_n x).toInt = 3 := by unfold own_n; omega
  rcases e with e | e | e
  · exact Or.inl (Int32.toInt_inj.mp e)
  · exact Or.inr (Or.inl (Int32.toInt_inj.mp e))
  · exact Or.inr (Or.inr (Int32.toInt_inj.mp e))
open Jvm.OwnFP in
theorem own_ltz (a : Int32) : dLt (0 : UInt64) (FP.i2d a) ↔ 0 < a.toInt := by
  have v0 : Val (0 : UInt64) 0 1074 := by
    have h := Val.i2d 0
    rw [show FP.i2d 0 = (0 : UInt64) by decide +kernel] at h
    exact h
  unfold dLt
  rw [v0.cmp (Val.i2d a), Option.some.injEq, FP.Core.compare_lt_iff]
open Jvm.OwnFP in
theorem own_eqz (a b : Int32) : dEq (own_sc (FP.i2d a) (FP.i2d b)) (f_exp (FP.i2d b) (FP.i2d a)) := by
  unfold own_sc f_exp
  by_cases h : dLt (0 : UInt64) (FP.i2d a)
  · rw [if_pos h, if_pos h]
    have ft := Jvm.Free.Fl.i2d_fin a
    have fs := Jvm.Free.Fl.i2d_fin b
    by_cases hs : dLt (0 : UInt64) (FP.i2d b)
    · rw [if_pos hs]
      have e : Native.java_lang_Math.nans.pick64 true (FP.i2d b) (0 : UInt64) = FP.i2d b := by
        unfold Native.java_lang_Math.nans.pick64
        rw [(own_dgt (FP.i2d b) 0).mp hs]; rfl
      rw [e]
      have hn := Jvm.Free.Fl.val64_no.mp (own_nnq fs ft h)
      exact FP.Core.dcmp_self hn
    · rw [if_neg hs]
      have e : Native.java_lang_Math.nans.pick64 true (FP.i2d b) (0 : UInt64) = 0 := by
        have hb : ¬ 0 < b.toInt := fun q => hs ((own_ltz b).mpr q)
        by_cases q : b.toInt = 0
        · have e0 : b = 0 := Int32.toInt_inj.mp q
          rw [e0]; decide +kernel
        · have h1 : dLt (FP.i2d b) (0 : UInt64) := by
            have v0 : Val (0 : UInt64) 0 1074 := by
              have h := Val.i2d 0
              rw [show FP.i2d 0 = (0 : UInt64) by decide +kernel] at h
              exact h
            unfold dLt
            rw [(Val.i2d b).cmp v0, Option.some.injEq, FP.Core.compare_lt_iff]; omega
          unfold Native.java_lang_Math.nans.pick64
          rw [h1]; rfl
      rw [e]
      have f0 : FP.Core.DFin (0 : UInt64) := dfin_const (by decide)
      have z0 : Zv (0 : UInt64) = 0 := by decide +kernel
      obtain ⟨h1, h2⟩ := ddiv_eq f0 (Jvm.Free.Fl.fin64_core.mp ft) (own_tpos ft h) f0 (by rw [z0, Int.zero_mul, Int.zero_mul])
      exact (eq_iff h1 f0).mpr h2
  · rw [if_neg h, if_neg h]; decide +kernel
theorem own_r0 (a : Int32) : f_row (0 : UInt64) (f_exp (FP.i2d a) (FP.i2d a)) (FP.dsub (4607182418800017408 : UInt64) (FP.ddiv (4607182418800017408 : UInt64) (FP.i2d (1 : Int32)))) (own_sc (FP.i2d a) (FP.i2d a)) = (1 : Int32) := by
  unfold f_row
  rw [if_pos (by decide +kernel), if_pos (own_eqz a a)]
theorem own_r1 (a b : Int32) : f_row (4602678819172646912 : UInt64) (f_exp (FP.i2d b) (FP.i2d a)) (FP.dsub (4607182418800017408 : UInt64) (FP.ddiv (4607182418800017408 : UInt64) (FP.i2d (2 : Int32)))) (own_sc (FP.i2d a) (FP.i2d b)) = (1 : Int32) := by
  unfold f_row
  rw [if_pos (by decide +kernel), if_pos (own_eqz a b)]
theorem own_r2 (a b : Int32) : f_row (4604180019048437078 : UInt64) (f_exp (FP.i2d b) (FP.i2d a)) (FP.dsub (4607182418800017408 : UInt64) (FP.ddiv (4607182418800017408 : UInt64) (FP.i2d (3 : Int32)))) (own_sc (FP.i2d a) (FP.i2d b)) = (1 : Int32) := by
  unfold f_row
  rw [if_pos (by decide +kernel), if_pos (own_eqz a b)]

theorem pd14 : parseMethodDescriptor "(IIII)Z" = some ⟨[.int, .int, .int, .int], some .boolean⟩ := by decide +kernel
theorem pf_law : plainFor x = true := by first | exact plainFor_of_name (by first | (simp [plainName, overriddenIn, x]; done) | decide +kernel) | exact Jvm.Free.JP.mathPlain rfl (by decide +kernel) | decide +kernel
theorem ef_law (m : MethodId) (i0 : Int32) (i1 : Int32) (i2 : Int32) (i3 : Int32) : entryFrame m #[(.int i0), (.int i1), (.int i2), (.int i3)] maxLocals = mkF m 0 #[iv i0, iv i1, iv i2, iv i3, .unset, .unset, .unset, .unset, .unset, .unset, .unset, .unset, .unset] [] := by first | (simp [entryFrame, mkF, argsToLocals, Value.category, maxLocals]; done) | rfl
def f_law (i0 : Int32) (i1 : Int32) (i2 : Int32) (i3 : Int32) : Int32 := 1
def Q_law (Z : State) (i0 : Int32) (i1 : Int32) (i2 : Int32) (i3 : Int32) (da : Addr) (dk : ClassId) (h0 : Heap) (n0 : Nat) (v : Option Value) (h : Heap) (L : List Loc) : Prop := v = some (.int (f_law i0 i1 i2 i3)) ∧ Fr n0 L
set_option maxRecDepth 65536 in
set_option maxHeartbeats 40000000 in
theorem rm_law (l : Launch) (Z : State) (a0 : Array Value) (hw : ∀ d ∈ tables_1, d.before a0 Z = true) (ws : List Jvm.Cond) (i0 : Int32) (i1 : Int32) (i2 : Int32) (i3 : Int32) (da : Addr) (dk : ClassId) (h0 : Heap) (n0 : Nat) (Z0 : n0 ≤ h0.size) (P0 : Sta Z h0 "java/util/ArrayList" "DEFAULTCAPACITY_EMPTY_ELEMENTDATA" "[Ljava/lang/Object;" (.ref da)) (P1 : Arv Z h0 da dk (.object "java/lang/Object") (0 : Int32) [] .null)  :
    MetFree l x (head1 (Jvm.Cond.code x code maxLocals ret :: ws) room_1) (fun a U => a = #[(.int i0), (.int i1), (.int i2), (.int i3)] ∧ Z.Warmed39 U.vm ∧ U.heap = h0) (fun _ _ _ _ _ => True) (fun _ U o U' => ∃ v L, o = .returned v ∧ Q_law Z i0 i1 i2 i3 da dk h0 n0 v U'.heap L ∧ ReturnedEndW U o U' L 32 3264) := by
  refine MetFree.of_bodySF pf_law hisR ?_
  intro p e s m args below meth c s₁ Bd hml0 hP hK
  obtain ⟨rfl, hZ, hh⟩ := hP
  have hx := Bd.exec
  have hby := Bd.bytes
  have hml : c.maxLocals = 13 := hml0
  have hown : s.vm.findClass "com/example/nimble_retrieval/nimbleretrieval/runs/TrainedMergeInputsPinLaw" = some m.cls := findClass_of_methodNamed Bd.named
  have hnm := (name_of_methodNamed Bd.named Bd.method).1
  have X0 : Stand p l e room_1 s m #[(.int i0), (.int i1), (.int i2), (.int i3)] below meth c s₁ [] 0 0 := Stand.of_body Bd
  have e0 : s₁.heap = h0 := by rw [← hh, Bd.state]; rfl
  have N0 := Fr.nil n0
  obtain ⟨S0, hS0⟩ : ∃ z, z = s₁.setTop (entryFrame m #[(.int i0), (.int i1), (.int i2), (.int i3)] maxLocals) := ⟨_, rfl⟩
  rw [← hS0]
  have g0 : Goes p e below S0 (s₁.setTop (mkF m 0 #[iv i0, iv i1, iv i2, iv i3, .unset, .unset, .unset, .unset, .unset, .unset, .unset, .unset, .unset] [])) := fun t k => by rw [hS0]; exact castTop (ef_law m i0 i1 i2 i3) k
  have g574 : Goes p e below S0 (s₁.setTop (mkF m 10 #[iv i0, iv i1, iv i2, iv i3, iv (own_n i3), .unset, .unset, .unset, .unset, .unset, .unset, .unset, .unset] [])) := fun t k => g0 t (by
    refine XS.iloadN X0.here hx rfl (hb hby at_0) rfl ?_
    show Go p e below t s₁ m 1 #[iv i0, iv i1, iv i2, iv i3, .unset, .unset, .unset, .unset, .unset, .unset, .unset, .unset, .unset] [(.int i3)]
    refine Jvm.Stand.ldcI X0 hx hown (mvT hZ (hw _ (List.mem_of_getElem? (i := 0) rfl))) (g := (mkF m 1 #[iv i0, iv i1, iv i2, iv i3, .unset, .unset, .unset, .unset, .unset, .unset, .unset, .unset, .unset] [(.int i3)])) rfl (hb hby at_1) ?_
    show Go p e below t s₁ m 3 #[iv i0, iv i1, iv i2, iv i3, .unset, .unset, .unset, .unset, .unset, .unset, .unset, .unset, .unset] [(.int (2147483647 : Int32)), (.int i3)]
    refine XS.iand X0.here hx rfl (hb hby at_3) rfl ?_
    show Go p e below t s₁ m 4 #[iv i0, iv i1, iv i2, iv i3, .unset, .unset, .unset, .unset, .unset, .unset, .unset, .unset, .unset] [(.int (i3 &&& (2147483647 : Int32)))]
    refine XT.iconstV X0.here hx rfl (3 : Int32) (hb hby at_4) (by decide) ?_
    show Go p e below t s₁ m 5 #[iv i0, iv i1, iv i2, iv i3, .unset, .unset, .unset, .unset, .unset, .unset, .unset, .unset, .unset] [(.int (3 : Int32)), (.int (i3 &&& (2147483647 : Int32)))]
    refine iremM X0 hx rfl (hb hby at_5) rfl (by decide) ?_
    show Go p e below t s₁ m 6 #[iv i0, iv i1, iv i2, iv i3, .unset, .unset, .unset, .unset, .unset, .unset, .unset, .unset, .unset] [(.int ((i3 &&& (2147483647 : Int32)) % (3 : Int32)))]
    refine XT.iconstV X0.here hx rfl (1 : Int32) (hb hby at_6) (by decide) ?_
    show Go p e below t s₁ m 7 #[iv i0, iv i1, iv i2, iv i3, .unset, .unset, .unset, .unset, .unset, .unset, .unset, .unset, .unset] [(.int (1 : Int32)), (.int ((i3 &&& (2147483647 : Int32)) % (3 : Int32)))]
    refine XS.iadd X0.here hx rfl (hb hby at_7) rfl ?_
    show Go p e below t s₁ m 8 #[iv i0, iv i1, iv i2, iv i3, .unset, .unset, .unset, .unset, .unset, .unset, .unset, .unset, .unset] [(.int (((i3 &&& (2147483647 : Int32)) % (3 : Int32)) + (1 : Int32)))]
    refine XS.istore X0.here hx rfl (hb hby at_8) rfl (l' := #[iv i0, iv i1, iv i2, iv i3, iv (own_n i3), .unset, .unset, .unset, .unset, .unset, .unset, .unset, .unset]) rfl ?_
    show Go p e below t s₁ m 10 #[iv i0, iv i1, iv i2, iv i3, iv (own_n i3), .unset, .unset, .unset, .unset, .unset, .unset, .unset, .unset] []
    exact k)
  obtain ⟨nn, hnn⟩ : ∃ z, z = (own_n i3) := ⟨_, rfl⟩
  rw [← hnn] at g574
  have g575 : Goes p e below S0 (s₁.setTop (mkF m 13 #[iv i0, iv i1, iv i2, iv i3, iv nn, .unset, .unset, .unset, .unset, .unset, .unset, .unset, .unset] [(.int i2), (.int i1), (.int i0)])) := fun t k => g574 t (by
    refine XS.iloadN X0.here hx rfl (hb hby at_10) rfl ?_
    show Go p e below t s₁ m 11 #[iv i0, iv i1, iv i2, iv i3, iv nn, .unset, .unset, .unset, .unset, .unset, .unset, .unset, .unset] [(.int i0)]
    refine XS.iloadN X0.here hx rfl (hb hby at_11) rfl ?_
    show Go p e below t s₁ m 12 #[iv i0, iv i1, iv i2, iv i3, iv nn, .unset, .unset, .unset, .unset, .unset, .unset, .unset, .unset] [(.int i1), (.int i0)]
    refine XS.iloadN X0.here hx rfl (hb hby at_12) rfl ?_
    show Go p e below t s₁ m 13 #[iv i0, iv i1, iv i2, iv i3, iv nn, .unset, .unset, .unset, .unset, .unset, .unset, .unset, .unset] [(.int i2), (.int i1), (.int i0)]
    exact k)
  obtain ⟨_, _, ⟨T576, L576, k576, n576⟩, -, X576, ⟨Lc576, hQ576, l576, y576, z576⟩, st576⟩ := Jvm.LawKit.callS X0 hx (y := (⟨"java/lang/Math", "max", "(II)I"⟩ : MethodName)) hown (mvT hZ (hw _ (List.mem_of_getElem? (i := 1) rfl))) (mvT hZ (hw _ (List.mem_of_getElem? (i := 2) rfl))) (mvT hZ (hw _ (List.mem_of_getElem? (i := 3) rfl))) (mvT hZ (hw _ (List.mem_of_getElem? (i := 4) rfl))) (by decide) (backOf (W := 1) (rm_mx l Z a0 hw [] i1 i2  h0 n0 Z0 ) hZ (hw _ (List.mem_of_getElem? (i := 4) rfl)) (hw _ (List.mem_of_getElem? (i := 3) rfl)) (by decide) (by decide)) (g := (mkF m 13 #[iv i0, iv i1, iv i2, iv i3, iv nn, .unset, .unset, .unset, .unset, .unset, .unset, .unset, .unset] [(.int i2), (.int i1), (.int i0)])) rfl (by rw [hml]; rfl) (argsL := [(.int i1), (.int i2)]) (rest := [(.int i0)]) (lenOf pd2 rfl) rfl (by show 2 * 0 + _ ≤ _; exact Nat.le_of_eq rfl) (hb hby at_13) (fun _ _ => ⟨rfl, e0, (by decide : 0 + 0 ≤ _), (by decide : 0 + 0 ≤ _)⟩)
  dsimp only [Pt.U, Pt.locs, Pt.cells, Pt.slots] at X576 l576 y576 z576 st576 hQ576
  subst l576 y576 z576
  obtain ⟨rfl, N576, e576⟩ := hQ576
  have M576 := Fr.app N0 N576
  have g577 : Goes p e below S0 (T576.setTop (mkF m 16 #[iv i0, iv i1, iv i2, iv i3, iv nn, .unset, .unset, .unset, .unset, .unset, .unset, .unset, .unset] [(.int (f_mx i1 i2)), (.int i0)])) := fun t k => g575 t (st576 t k)
  obtain ⟨_, _, ⟨T578, L578, k578, n578⟩, -, X578, ⟨Lc578, hQ578, l578, y578, z578⟩, st578⟩ := Jvm.LawKit.callS X576 hx (y := (⟨"java/lang/Math", "max", "(II)I"⟩ : MethodName)) hown (mvT hZ (hw _ (List.mem_of_getElem? (i := 1) rfl))) (mvT hZ (hw _ (List.mem_of_getElem? (i := 2) rfl))) (mvT hZ (hw _ (List.mem_of_getElem? (i := 3) rfl))) (mvT hZ (hw _ (List.mem_of_getElem? (i := 4) rfl))) (by decide) (backOf (W := 0) (rm_mx l Z a0 hw [] i0 (f_mx i1 i2)  h0 n0 Z0 ) hZ (hw _ (List.mem_of_getElem? (i := 4) rfl)) (hw _ (List.mem_of_getElem? (i := 3) rfl)) (by decide) (by decide)) (g := (mkF m 16 #[iv i0, iv i1, iv i2, iv i3, iv nn, .unset, .unset, .unset, .unset, .unset, .unset, .unset, .unset] [(.int (f_mx i1 i2)), (.int i0)])) rfl (by rw [hml]; rfl) (argsL := [(.int i0), (.int (f_mx i1 i2))]) (rest := []) (lenOf pd2 rfl) rfl (by show 2 * 0 + _ ≤ _; exact Nat.le_of_eq rfl) (hb hby at_16) (fun _ _ => ⟨rfl, e576, (by decide : 0 + 0 ≤ _), (by decide : 0 + 0 ≤ _)⟩)
  dsimp only [Pt.U, Pt.locs, Pt.cells, Pt.slots] at X578 l578 y578 z578 st578 hQ578
  subst l578 y578 z578
  obtain ⟨rfl, N578, e578⟩ := hQ578
  have M578 := Fr.app M576 N578
  have g579 : Goes p e below S0 (T578.setTop (mkF m 19 #[iv i0, iv i1, iv i2, iv i3, iv nn, .unset, .unset, .unset, .unset, .unset, .unset, .unset, .unset] [(.int (f_mx i0 (f_mx i1 i2)))])) := fun t k => g577 t (st578 t k)
  have g580 : Goes p e below S0 (T578.setTop (mkF m 24 #[iv i0, iv i1, iv i2, iv i3, iv nn, iv (own_a i0 i1 i2), .unset, .unset, .unset, .unset, .unset, .unset, .unset] [(.int i2), (.int i1), (.int i0)])) := fun t k => g579 t (by
    refine XS.istore X578.here hx rfl (hb hby at_19) rfl (l' := #[iv i0, iv i1, iv i2, iv i3, iv nn, iv (own_a i0 i1 i2), .unset, .unset, .unset, .unset, .unset, .unset, .unset]) rfl ?_
    show Go p e below t T578 m 21 #[iv i0, iv i1, iv i2, iv i3, iv nn, iv (own_a i0 i1 i2), .unset, .unset, .unset, .unset, .unset, .unset, .unset] []
    refine XS.iloadN X578.here hx rfl (hb hby at_21) rfl ?_
    show Go p e below t T578 m 22 #[iv i0, iv i1, iv i2, iv i3, iv nn, iv (own_a i0 i1 i2), .unset, .unset, .unset, .unset, .unset, .unset, .unset] [(.int i0)]
    refine XS.iloadN X578.here hx rfl (hb hby at_22) rfl ?_
    show Go p e below t T578 m 23 #[iv i0, iv i1, iv i2, iv i3, iv nn, iv (own_a i0 i1 i2), .unset, .unset, .unset, .unset, .unset, .unset, .unset] [(.int i1), (.int i0)]
    refine XS.iloadN X578.here hx rfl (hb hby at_23) rfl ?_
    show Go p e below t T578 m 24 #[iv i0, iv i1, iv i2, iv i3, iv nn, iv (own_a i0 i1 i2), .unset, .unset, .unset, .unset, .unset, .unset, .unset] [(.int i2), (.int i1), (.int i0)]
    exact k)
  obtain ⟨_, _, ⟨T581, L581, k581, n581⟩, -, X581, ⟨Lc581, hQ581, l581, y581, z581⟩, st581⟩ := Jvm.LawKit.callS X578 hx (y := (⟨"java/lang/Math", "min", "(II)I"⟩ : MethodName)) hown (mvT hZ (hw _ (List.mem_of_getElem? (i := 5) rfl))) (mvT hZ (hw _ (List.mem_of_getElem? (i := 6) rfl))) (mvT hZ (hw _ (List.mem_of_getElem? (i := 3) rfl))) (mvT hZ (hw _ (List.mem_of_getElem? (i := 7) rfl))) (by decide) (backOf (W := 1) (rm_mn l Z a0 hw [] i1 i2  h0 n0 Z0 ) hZ (hw _ (List.mem_of_getElem? (i := 7) rfl)) (hw _ (List.mem_of_getElem? (i := 3) rfl)) (by decide) (by decide)) (g := (mkF m 24 #[iv i0, iv i1, iv i2, iv i3, iv nn, iv (own_a i0 i1 i2), .unset, .unset, .unset, .unset, .unset, .unset, .unset] [(.int i2), (.int i1), (.int i0)])) rfl (by rw [hml]; rfl) (argsL := [(.int i1), (.int i2)]) (rest := [(.int i0)]) (lenOf pd2 rfl) rfl (by show 2 * 0 + _ ≤ _; exact Nat.le_of_eq rfl) (hb hby at_24) (fun _ _ => ⟨rfl, e578, (by decide : 0 + 0 ≤ _), (by decide : 0 + 0 ≤ _)⟩)
  dsimp only [Pt.U, Pt.locs, Pt.cells, Pt.slots] at X581 l581 y581 z581 st581 hQ581
  subst l581 y581 z581
  obtain ⟨rfl, N581, e581⟩ := hQ581
  have M581 := Fr.app M578 N581
  have g582 : Goes p e below S0 (T581.setTop (mkF m 27 #[iv i0, iv i1, iv i2, iv i3, iv nn, iv (own_a i0 i1 i2), .unset, .unset, .unset, .unset, .unset, .unset, .unset] [(.int (f_mn i1 i2)), (.int i0)])) := fun t k => g580 t (st581 t k)
  obtain ⟨_, _, ⟨T583, L583, k583, n583⟩, -, X583, ⟨Lc583, hQ583, l583, y583, z583⟩, st583⟩ := Jvm.LawKit.callS X581 hx (y := (⟨"java/lang/Math", "min", "(II)I"⟩ : MethodName)) hown (mvT hZ (hw _ (List.mem_of_getElem? (i := 5) rfl))) (mvT hZ (hw _ (List.mem_of_getElem? (i := 6) rfl))) (mvT hZ (hw _ (List.mem_of_getElem? (i := 3) rfl))) (mvT hZ (hw _ (List.mem_of_getElem? (i := 7) rfl))) (by decide) (backOf (W := 0) (rm_mn l Z a0 hw [] i0 (f_mn i1 i2)  h0 n0 Z0 ) hZ (hw _ (List.mem_of_getElem? (i := 7) rfl)) (hw _ (List.mem_of_getElem? (i := 3) rfl)) (by decide) (by decide)) (g := (mkF m 27 #[iv i0, iv i1, iv i2, iv i3, iv nn, iv (own_a i0 i1 i2), .unset, .unset, .unset, .unset, .unset, .unset, .unset] [(.int (f_mn i1 i2)), (.int i0)])) rfl (by rw [hml]; rfl) (argsL := [(.int i0), (.int (f_mn i1 i2))]) (rest := []) (lenOf pd2 rfl) rfl (by show 2 * 0 + _ ≤ _; exact Nat.le_of_eq rfl) (hb hby at_27) (fun _ _ => ⟨rfl, e581, (by decide : 0 + 0 ≤ _), (by decide : 0 + 0 ≤ _)⟩)
  dsimp only [Pt.U, Pt.locs, Pt.cells, Pt.slots] at X583 l583 y583 z583 st583 hQ583
  subst l583 y583 z583
  obtain ⟨rfl, N583, e583⟩ := hQ583
  have M583 := Fr.app M581 N583
  have g584 : Goes p e below S0 (T583.setTop (mkF m 30 #[iv i0, iv i1, iv i2, iv i3, iv nn, iv (own_a i0 i1 i2), .unset, .unset, .unset, .unset, .unset, .unset, .unset] [(.int (f_mn i0 (f_mn i1 i2)))])) := fun t k => g582 t (st583 t k)
  have g585 : Goes p e below S0 (T583.setTop (mkF m 51 #[iv i0, iv i1, iv i2, iv i3, iv nn, iv (own_a i0 i1 i2), iv (own_cc i0 i1 i2), iv (own_b i0 i1 i2), .unset, .unset, .unset, .unset, .unset] [])) := fun t k => g584 t (by
    refine XS.istore X583.here hx rfl (hb hby at_30) rfl (l' := #[iv i0, iv i1, iv i2, iv i3, iv nn, iv (own_a i0 i1 i2), iv (own_cc i0 i1 i2), .unset, .unset, .unset, .unset, .unset, .unset]) rfl ?_
    show Go p e below t T583 m 32 #[iv i0, iv i1, iv i2, iv i3, iv nn, iv (own_a i0 i1 i2), iv (own_cc i0 i1 i2), .unset, .unset, .unset, .unset, .unset, .unset] []
    refine XS.iloadN X583.here hx rfl (hb hby at_32) rfl ?_
    show Go p e below t T583 m 33 #[iv i0, iv i1, iv i2, iv i3, iv nn, iv (own_a i0 i1 i2), iv (own_cc i0 i1 i2), .unset, .unset, .unset, .unset, .unset, .unset] [(.int i0)]
    refine XS.i2l X583.here hx rfl (hb hby at_33) rfl ?_
    show Go p e below t T583 m 34 #[iv i0, iv i1, iv i2, iv i3, iv nn, iv (own_a i0 i1 i2), iv (own_cc i0 i1 i2), .unset, .unset, .unset, .unset, .unset, .unset] [(.long ((i0).toInt64))]
    refine XS.iloadN X583.here hx rfl (hb hby at_34) rfl ?_
    show Go p e below t T583 m 35 #[iv i0, iv i1, iv i2, iv i3, iv nn, iv (own_a i0 i1 i2), iv (own_cc i0 i1 i2), .unset, .unset, .unset, .unset, .unset, .unset] [(.int i1), (.long ((i0).toInt64))]
    refine XS.i2l X583.here hx rfl (hb hby at_35) rfl ?_
    show Go p e below t T583 m 36 #[iv i0, iv i1, iv i2, iv i3, iv nn, iv (own_a i0 i1 i2), iv (own_cc i0 i1 i2), .unset, .unset, .unset, .unset, .unset, .unset] [(.long ((i1).toInt64)), (.long ((i0).toInt64))]
    refine XS.ladd X583.here hx rfl (hb hby at_36) rfl ?_
    show Go p e below t T583 m 37 #[iv i0, iv i1, iv i2, iv i3, iv nn, iv (own_a i0 i1 i2), iv (own_cc i0 i1 i2), .unset, .unset, .unset, .unset, .unset, .unset] [(.long (((i0).toInt64) + ((i1).toInt64)))]
    refine XS.iloadN X583.here hx rfl (hb hby at_37) rfl ?_
    show Go p e below t T583 m 38 #[iv i0, iv i1, iv i2, iv i3, iv nn, iv (own_a i0 i1 i2), iv (own_cc i0 i1 i2), .unset, .unset, .unset, .unset, .unset, .unset] [(.int i2), (.long (((i0).toInt64) + ((i1).toInt64)))]
    refine XS.i2l X583.here hx rfl (hb hby at_38) rfl ?_
    show Go p e below t T583 m 39 #[iv i0, iv i1, iv i2, iv i3, iv nn, iv (own_a i0 i1 i2), iv (own_cc i0 i1 i2), .unset, .unset, .unset, .unset, .unset, .unset] [(.long ((i2).toInt64)), (.long (((i0).toInt64) + ((i1).toInt64)))]
    refine XS.ladd X583.here hx rfl (hb hby at_39) rfl ?_
    show Go p e below t T583 m 40 #[iv i0, iv i1, iv i2, iv i3, iv nn, iv (own_a i0 i1 i2), iv (own_cc i0 i1 i2), .unset, .unset, .unset, .unset, .unset, .unset] [(.long ((((i0).toInt64) + ((i1).toInt64)) + ((i2).toInt64)))]
    refine XS.iload X583.here hx rfl (hb hby at_40) rfl ?_
    show Go p e below t T583 m 42 #[iv i0, iv i1, iv i2, iv i3, iv nn, iv (own_a i0 i1 i2), iv (own_cc i0 i1 i2), .unset, .unset, .unset, .unset, .unset, .unset] [(.int (own_a i0 i1 i2)), (.long ((((i0).toInt64) + ((i1).toInt64)) + ((i2).toInt64)))]
    refine XS.i2l X583.here hx rfl (hb hby at_42) rfl ?_
    show Go p e below t T583 m 43 #[iv i0, iv i1, iv i2, iv i3, iv nn, iv (own_a i0 i1 i2), iv (own_cc i0 i1 i2), .unset, .unset, .unset, .unset, .unset, .unset] [(.long ((own_a i0 i1 i2).toInt64)), (.long ((((i0).toInt64) + ((i1).toInt64)) + ((i2).toInt64)))]
    refine XS.lsub X583.here hx rfl (hb hby at_43) rfl ?_
    show Go p e below t T583 m 44 #[iv i0, iv i1, iv i2, iv i3, iv nn, iv (own_a i0 i1 i2), iv (own_cc i0 i1 i2), .unset, .unset, .unset, .unset, .unset, .unset] [(.long (((((i0).toInt64) + ((i1).toInt64)) + ((i2).toInt64)) - ((own_a i0 i1 i2).toInt64)))]
    refine XS.iload X583.here hx rfl (hb hby at_44) rfl ?_
    show Go p e below t T583 m 46 #[iv i0, iv i1, iv i2, iv i3, iv nn, iv (own_a i0 i1 i2), iv (own_cc i0 i1 i2), .unset, .unset, .unset, .unset, .unset, .unset] [(.int (own_cc i0 i1 i2)), (.long (((((i0).toInt64) + ((i1).toInt64)) + ((i2).toInt64)) - ((own_a i0 i1 i2).toInt64)))]
    refine XS.i2l X583.here hx rfl (hb hby at_46) rfl ?_
    show Go p e below t T583 m 47 #[iv i0, iv i1, iv i2, iv i3, iv nn, iv (own_a i0 i1 i2), iv (own_cc i0 i1 i2), .unset, .unset, .unset, .unset, .unset, .unset] [(.long ((own_cc i0 i1 i2).toInt64)), (.long (((((i0).toInt64) + ((i1).toInt64)) + ((i2).toInt64)) - ((own_a i0 i1 i2).toInt64)))]
    refine XS.lsub X583.here hx rfl (hb hby at_47) rfl ?_
    show Go p e below t T583 m 48 #[iv i0, iv i1, iv i2, iv i3, iv nn, iv (own_a i0 i1 i2), iv (own_cc i0 i1 i2), .unset, .unset, .unset, .unset, .unset, .unset] [(.long ((((((i0).toInt64) + ((i1).toInt64)) + ((i2).toInt64)) - ((own_a i0 i1 i2).toInt64)) - ((own_cc i0 i1 i2).toInt64)))]
    refine XS.l2i X583.here hx rfl (hb hby at_48) rfl ?_
    show Go p e below t T583 m 49 #[iv i0, iv i1, iv i2, iv i3, iv nn, iv (own_a i0 i1 i2), iv (own_cc i0 i1 i2), .unset, .unset, .unset, .unset, .unset, .unset] [(.int (((((((i0).toInt64) + ((i1).toInt64)) + ((i2).toInt64)) - ((own_a i0 i1 i2).toInt64)) - ((own_cc i0 i1 i2).toInt64)).toInt32))]
    refine XS.istore X583.here hx rfl (hb hby at_49) rfl (l' := #[iv i0, iv i1, iv i2, iv i3, iv nn, iv (own_a i0 i1 i2), iv (own_cc i0 i1 i2), iv (own_b i0 i1 i2), .unset, .unset, .unset, .unset, .unset]) rfl ?_
    show Go p e below t T583 m 51 #[iv i0, iv i1, iv i2, iv i3, iv nn, iv (own_a i0 i1 i2), iv (own_cc i0 i1 i2), iv (own_b i0 i1 i2), .unset, .unset, .unset, .unset, .unset] []
    exact k)
  obtain ⟨T586, h586, X586, e586, E586, A586, D586, -, st586⟩ := newO X583 hx hZ hown (hw _ (List.mem_of_getElem? (i := 8) rfl)) (hw _ (List.mem_of_getElem? (i := 9) rfl)) (hw _ (List.mem_of_getElem? (i := 10) rfl)) e583 (g := (mkF m 51 #[iv i0, iv i1, iv i2, iv i3, iv nn, iv (own_a i0 i1 i2), iv (own_cc i0 i1 i2), iv (own_b i0 i1 i2), .unset, .unset, .unset, .unset, .unset] [])) rfl (hb hby at_51) (by decide) (by decide)
  obtain ⟨b586, gb586⟩ : ∃ z, z = h0.size := ⟨_, rfl⟩
  have sz586 : h0.size ≤ b586 := Nat.le_trans (Nat.le_refl _) (Nat.le_of_eq gb586.symm)
  have ng586 : n0 ≤ b586 := Nat.le_trans Z0 sz586
  rw [← gb586] at A586 D586 st586
  have F586_587 : Fld Z h586 b586 "java/util/AbstractList" "modCount" "I" (.int (0 : Int32)) := D586 (Or.inl (hw _ (List.mem_of_getElem? (i := 30) rfl))) (ty := .int) (by decide)
  have F586_588 : Fld Z h586 b586 "java/util/ArrayList" "elementData" "[Ljava/lang/Object;" .null := D586 (Or.inl (hw _ (List.mem_of_getElem? (i := 33) rfl))) (ty := (.array (.object "java/lang/Object"))) (by decide)
  have F586_589 : Fld Z h586 b586 "java/util/ArrayList" "size" "I" (.int (0 : Int32)) := D586 (Or.inl (hw _ (List.mem_of_getElem? (i := 70) rfl))) (ty := .int) (by decide)
  have g590 : Goes p e below S0 (T586.setTop (mkF m 54 #[iv i0, iv i1, iv i2, iv i3, iv nn, iv (own_a i0 i1 i2), iv (own_cc i0 i1 i2), iv (own_b i0 i1 i2), .unset, .unset, .unset, .unset, .unset] [(.ref b586)])) := fun t k => g585 t (st586 t k)
  have g591 : Goes p e below S0 (T586.setTop (mkF m 55 #[iv i0, iv i1, iv i2, iv i3, iv nn, iv (own_a i0 i1 i2), iv (own_cc i0 i1 i2), iv (own_b i0 i1 i2), .unset, .unset, .unset, .unset, .unset] [(.ref b586), (.ref b586)])) := fun t k => g590 t (by
    refine XS.dup X586.here hx rfl (hb hby at_54) rfl rfl ?_
    show Go p e below t T586 m 55 #[iv i0, iv i1, iv i2, iv i3, iv nn, iv (own_a i0 i1 i2), iv (own_cc i0 i1 i2), iv (own_b i0 i1 i2), .unset, .unset, .unset, .unset, .unset] [(.ref b586), (.ref b586)]
    exact k)
  obtain ⟨_, _, ⟨T592, L592, k592, n592⟩, -, X592, ⟨Lc592, hQ592, l592, y592, z592⟩, st592⟩ := X586.specialBack hx (y := (⟨"java/util/ArrayList", "<init>", "()V"⟩ : MethodName)) rfl hown (mvT hZ (hw _ (List.mem_of_getElem? (i := 11) rfl))) (mvT hZ (hw _ (List.mem_of_getElem? (i := 12) rfl))) (mvT hZ (hw _ (List.mem_of_getElem? (i := 13) rfl))) (by decide) (backOf (W := 1) (rm_ali l Z a0 hw [] b586 da h586 n0 (Nat.le_trans Z0 (Nat.le_trans (Nat.le_refl _) E586.1)) A586 F586_587 F586_589 F586_588 ng586 (P0.ext E586)) hZ (hw _ (List.mem_of_getElem? (i := 13) rfl)) (hw _ (List.mem_of_getElem? (i := 10) rfl)) (by decide) (by decide)) (g := (mkF m 55 #[iv i0, iv i1, iv i2, iv i3, iv nn, iv (own_a i0 i1 i2), iv (own_cc i0 i1 i2), iv (own_b i0 i1 i2), .unset, .unset, .unset, .unset, .unset] [(.ref b586), (.ref b586)])) rfl (by rw [hml]; rfl) (Steps.refl _) (a := b586) (argsL := []) (rest := [(.ref b586)]) (lenOf pd0 rfl) rfl (by show 2 * 0 + _ ≤ _; exact Nat.le_of_eq rfl) (hb hby at_55) (fun _ _ => ⟨rfl, e586, (by decide : 1 + 0 ≤ _), (by decide : 3 + 0 ≤ _)⟩)
  dsimp only [Pt.U, Pt.locs, Pt.cells, Pt.slots] at X592 l592 y592 z592 st592 hQ592
  subst l592 y592 z592
  obtain ⟨rfl, N592, R592_0, R592_1, R592_2, R592_3, R592_4⟩ := hQ592
  have M592 := Fr.app M583 N592
  have g593 : Goes p e below S0 (T592.setTop (mkF m 58 #[iv i0, iv i1, iv i2, iv i3, iv nn, iv (own_a i0 i1 i2), iv (own_cc i0 i1 i2), iv (own_b i0 i1 i2), .unset, .unset, .unset, .unset, .unset] [(.ref b586)])) := fun t k => g591 t (st592.trans k)
  have g594 : Goes p e below S0 (T592.setTop (mkF m 62 #[iv i0, iv i1, iv i2, iv i3, iv nn, iv (own_a i0 i1 i2), iv (own_cc i0 i1 i2), iv (own_b i0 i1 i2), rv b586, .unset, .unset, .unset, .unset] [(.ref b586)])) := fun t k => g593 t (by
    refine XS.astore X592.here hx rfl (hb hby at_58) rfl rfl (l' := #[iv i0, iv i1, iv i2, iv i3, iv nn, iv (own_a i0 i1 i2), iv (own_cc i0 i1 i2), iv (own_b i0 i1 i2), rv b586, .unset, .unset, .unset, .unset]) rfl ?_
    show Go p e below t T592 m 60 #[iv i0, iv i1, iv i2, iv i3, iv nn, iv (own_a i0 i1 i2), iv (own_cc i0 i1 i2), iv (own_b i0 i1 i2), rv b586, .unset, .unset, .unset, .unset] []
    refine XS.aload X592.here hx rfl (hb hby at_60) rfl rfl ?_
    show Go p e below t T592 m 62 #[iv i0, iv i1, iv i2, iv i3, iv nn, iv (own_a i0 i1 i2), iv (own_cc i0 i1 i2), iv (own_b i0 i1 i2), rv b586, .unset, .unset, .unset, .unset] [(.ref b586)]
    exact k)
  obtain ⟨T595, h595, X595, e595, E595, A595, D595, -, st595⟩ := newO X592 hx hZ hown (hw _ (List.mem_of_getElem? (i := 34) rfl)) (hw _ (List.mem_of_getElem? (i := 35) rfl)) (hw _ (List.mem_of_getElem? (i := 36) rfl)) rfl (g := (mkF m 62 #[iv i0, iv i1, iv i2, iv i3, iv nn, iv (own_a i0 i1 i2), iv (own_cc i0 i1 i2), iv (own_b i0 i1 i2), rv b586, .unset, .unset, .unset, .unset] [(.ref b586)])) rfl (hb hby at_62) (by decide) (by decide)
  obtain ⟨b595, gb595⟩ : ∃ z, z = T592.heap.size := ⟨_, rfl⟩
  have sz595 : h0.size ≤ b595 := Nat.le_trans (Nat.le_trans (Nat.le_trans (Nat.le_refl _) E586.1) R592_0.1) (Nat.le_of_eq gb595.symm)
  have ng595 : n0 ≤ b595 := Nat.le_trans Z0 sz595
  rw [← gb595] at A595 D595 st595
  have F595_596 : Fld Z h595 b595 "com/example/nimble_retrieval/nimbleretrieval/format/Run$Retrieved" "docno" "Ljava/lang/String;" .null := D595 (Or.inr (hw _ (List.mem_of_getElem? (i := 55) rfl))) (ty := (.object "java/lang/String")) (by decide)
  have F595_597 : Fld Z h595 b595 "com/example/nimble_retrieval/nimbleretrieval/format/Run$Retrieved" "score" "D" (.double (0 : UInt64)) := D595 (Or.inr (hw _ (List.mem_of_getElem? (i := 57) rfl))) (ty := .double) (by decide)
  have g598 : Goes p e below S0 (T595.setTop (mkF m 65 #[iv i0, iv i1, iv i2, iv i3, iv nn, iv (own_a i0 i1 i2), iv (own_cc i0 i1 i2), iv (own_b i0 i1 i2), rv b586, .unset, .unset, .unset, .unset] [(.ref b595), (.ref b586)])) := fun t k => g594 t (st595 t k)
  have g599 : Goes p e below S0 (T595.setTop (mkF m 66 #[iv i0, iv i1, iv i2, iv i3, iv nn, iv (own_a i0 i1 i2), iv (own_cc i0 i1 i2), iv (own_b i0 i1 i2), rv b586, .unset, .unset, .unset, .unset] [(.ref b595), (.ref b595), (.ref b586)])) := fun t k => g598 t (by
    refine XS.dup X595.here hx rfl (hb hby at_65) rfl rfl ?_
    show Go p e below t T595 m 66 #[iv i0, iv i1, iv i2, iv i3, iv nn, iv (own_a i0 i1 i2), iv (own_cc i0 i1 i2), iv (own_b i0 i1 i2), rv b586, .unset, .unset, .unset, .unset] [(.ref b595), (.ref b595), (.ref b586)]
    exact k)
  have wS : ∀ a ∈ Bundle.stringAtoms, a.before a0 Z = true := fun d hd => by
    simp only [Bundle.stringAtoms, List.mem_cons, List.not_mem_nil, or_false] at hd
    rcases hd with rfl | rfl | rfl | rfl | rfl | rfl | rfl
    · exact hw _ (List.mem_of_getElem? (i := 38) rfl)
    · exact hw _ (List.mem_of_getElem? (i := 39) rfl)
    · exact hw _ (List.mem_of_getElem? (i := 40) rfl)
    · exact hw _ (List.mem_of_getElem? (i := 41) rfl)
    · exact hw _ (List.mem_of_getElem? (i := 42) rfl)
    · exact hw _ (List.mem_of_getElem? (i := 43) rfl)
    · exact hw _ (List.mem_of_getElem? (i := 44) rfl)
  obtain ⟨a600, T600, h600, kk600, X600, e600, E600, sn600, ks600, hZ, hown, st600⟩ := ldcS (s := s) (vm0 := s.vm) X595 hx hZ hown (hw _ (List.mem_of_getElem? (i := 37) rfl)) wS e595 ((State.WarmedH.refl s).since 0) (Nat.zero_le _) (g := (mkF m 66 #[iv i0, iv i1, iv i2, iv i3, iv nn, iv (own_a i0 i1 i2), iv (own_cc i0 i1 i2), iv (own_b i0 i1 i2), rv b586, .unset, .unset, .unset, .unset] [(.ref b595), (.ref b595), (.ref b586)])) rfl (hb hby at_66) (n := 4) (by decide) (by decide) (by decide) (by decide)
  have g601 : Goes p e below S0 (T600.setTop (mkF m 68 #[iv i0, iv i1, iv i2, iv i3, iv nn, iv (own_a i0 i1 i2), iv (own_cc i0 i1 i2), iv (own_b i0 i1 i2), rv b586, .unset, .unset, .unset, .unset] [(.ref a600), (.ref b595), (.ref b595), (.ref b586)])) := fun t k => g599 t (st600 t k)
  have g602 : Goes p e below S0 (T600.setTop (mkF m 71 #[iv i0, iv i1, iv i2, iv i3, iv nn, iv (own_a i0 i1 i2), iv (own_cc i0 i1 i2), iv (own_b i0 i1 i2), rv b586, .unset, .unset, .unset, .unset] [(.double (FP.i2d (own_a i0 i1 i2))), (.ref a600), (.ref b595), (.ref b595), (.ref b586)])) := fun t k => g601 t (by
    refine XS.iload X600.here hx rfl (hb hby at_68) rfl ?_
    show Go p e below t T600 m 70 #[iv i0, iv i1, iv i2, iv i3, iv nn, iv (own_a i0 i1 i2), iv (own_cc i0 i1 i2), iv (own_b i0 i1 i2), rv b586, .unset, .unset, .unset, .unset] [(.int (own_a i0 i1 i2)), (.ref a600), (.ref b595), (.ref b595), (.ref b586)]
    refine XS.i2dS X600.here hx rfl (hb hby at_70) rfl rfl ?_
    show Go p e below t T600 m 71 #[iv i0, iv i1, iv i2, iv i3, iv nn, iv (own_a i0 i1 i2), iv (own_cc i0 i1 i2), iv (own_b i0 i1 i2), rv b586, .unset, .unset, .unset, .unset] [(.double (FP.i2d (own_a i0 i1 i2))), (.ref a600), (.ref b595), (.ref b595), (.ref b586)]
    exact k)
  obtain ⟨_, _, ⟨T603, L603, k603, n603⟩, -, X603, ⟨Lc603, hQ603, l603, y603, z603⟩, st603⟩ := X600.specialBack hx (y := (⟨"com/example/nimble_retrieval/nimbleretrieval/format/Run$Retrieved", "<init>", "(Ljava/lang/String;D)V"⟩ : MethodName)) rfl hown (mvT hZ (hw _ (List.mem_of_getElem? (i := 45) rfl))) (mvT hZ (hw _ (List.mem_of_getElem? (i := 46) rfl))) (mvT hZ (hw _ (List.mem_of_getElem? (i := 47) rfl))) (by decide) (backOf (W := 2) (rm_ri l Z a0 hw [] b595 a600 (FP.i2d (own_a i0 i1 i2))  h600 n0 (Nat.le_trans Z0 (Nat.le_trans (Nat.le_trans (Nat.le_trans (Nat.le_trans (Nat.le_refl _) E586.1) R592_0.1) E595.1) E600.1)) (A595.ext E600) (F595_596.ext E600) (F595_597.ext E600) ng595) hZ (hw _ (List.mem_of_getElem? (i := 47) rfl)) (hw _ (List.mem_of_getElem? (i := 36) rfl)) (by decide) (by decide)) (g := (mkF m 71 #[iv i0, iv i1, iv i2, iv i3, iv nn, iv (own_a i0 i1 i2), iv (own_cc i0 i1 i2), iv (own_b i0 i1 i2), rv b586, .unset, .unset, .unset, .unset] [(.double (FP.i2d (own_a i0 i1 i2))), (.ref a600), (.ref b595), (.ref b595), (.ref b586)])) rfl (by rw [hml]; rfl) (Steps.refl _) (a := b595) (argsL := [(.ref a600), (.double (FP.i2d (own_a i0 i1 i2)))]) (rest := [(.ref b595), (.ref b586)]) (lenOf pd1 rfl) rfl (by show 2 * 0 + _ ≤ _; exact Nat.le_of_eq rfl) (hb hby at_71) (fun _ _ => ⟨rfl, e600, (by decide : 4 + 0 ≤ _), (by decide : 13 + 0 ≤ _)⟩)
  dsimp only [Pt.U, Pt.locs, Pt.cells, Pt.slots] at X603 l603 y603 z603 st603 hQ603
  subst l603 y603 z603
  obtain ⟨rfl, N603, R603_0, R603_1, R603_2⟩ := hQ603
  have M603 := Fr.app M592 N603
  have g604 : Goes p e below S0 (T603.setTop (mkF m 74 #[iv i0, iv i1, iv i2, iv i3, iv nn, iv (own_a i0 i1 i2), iv (own_cc i0 i1 i2), iv (own_b i0 i1 i2), rv b586, .unset, .unset, .unset, .unset] [(.ref b595), (.ref b586)])) := fun t k => g602 t (st603.trans k)
  obtain ⟨cq605, kq605, q605a, q605b, q605c⟩ := isOf hZ rfl (((R592_1.ext E595).ext E600).keep R603_0)
  obtain ⟨_, _, ⟨T605, L605, k605, n605⟩, -, X605, ⟨Lc605, hQ605, l605, y605, z605⟩, st605⟩ := X603.interfaceBack hx (xi := (⟨"java/util/List", "add", "(Ljava/lang/Object;)Z"⟩ : MethodName)) (y := (⟨"java/util/ArrayList", "add", "(Ljava/lang/Object;)Z"⟩ : MethodName)) hown (mvT hZ (hw _ (List.mem_of_getElem? (i := 58) rfl))) (mvT hZ (hw _ (List.mem_of_getElem? (i := 59) rfl))) (mvT hZ (hw _ (List.mem_of_getElem? (i := 60) rfl))) (mvT hZ (hw _ (List.mem_of_getElem? (i := 61) rfl))) (mvT hZ (hw _ (List.mem_of_getElem? (i := 62) rfl))) (mvT hZ (hw _ (List.mem_of_getElem? (i := 63) rfl))) (mvT hZ (hw _ (List.mem_of_getElem? (i := 64) rfl))) (mvT hZ (hw _ (List.mem_of_getElem? (i := 65) rfl))) (by decide) (backOf (W := 0) (rm_add0 l Z a0 hw [] b586 b595 da dk T603.heap n0 (Nat.le_trans Z0 (Nat.le_trans (Nat.le_trans (Nat.le_trans (Nat.le_trans (Nat.le_trans (Nat.le_refl _) E586.1) R592_0.1) E595.1) E600.1) R603_0.1)) (((R592_1.ext E595).ext E600).keep R603_0) (((R592_2.ext E595).ext E600).keep R603_0 (ninS (Nat.ne_of_lt (Nat.lt_of_lt_of_le R592_1.lt (Nat.le_of_eq gb595.symm))) nin0)) (((R592_3.ext E595).ext E600).keep R603_0 (ninS (Nat.ne_of_lt (Nat.lt_of_lt_of_le R592_1.lt (Nat.le_of_eq gb595.symm))) nin0)) (((R592_4.ext E595).ext E600).keep R603_0 (ninS (Nat.ne_of_lt (Nat.lt_of_lt_of_le R592_1.lt (Nat.le_of_eq gb595.symm))) nin0)) ng586 (Ne.symm (Nat.ne_of_lt (Nat.lt_of_lt_of_le P1.lt (Nat.le_of_eq gb586.symm)))) (((((P1.ext E586).keep R592_0 (ninS (Nat.ne_of_lt (Nat.lt_of_lt_of_le P1.lt (Nat.le_of_eq gb586.symm))) nin0)).ext E595).ext E600).keep R603_0 (ninS (Nat.ne_of_lt (Nat.lt_of_lt_of_le ((P1.ext E586).keep R592_0 (ninS (Nat.ne_of_lt (Nat.lt_of_lt_of_le P1.lt (Nat.le_of_eq gb586.symm))) nin0)).lt (Nat.le_of_eq gb595.symm))) nin0)) (Sta.keepO (((Sta.keepO (P0.ext E586) R592_0 (nsS (Exa.nostat A586) ns0)).ext E595).ext E600) R603_0 (nsS (Exa.nostat (A595.ext E600)) ns0)) R603_1) hZ (hw _ (List.mem_of_getElem? (i := 66) rfl)) (hw _ (List.mem_of_getElem? (i := 10) rfl)) (by decide) (by decide)) q605a q605b q605c (g := (mkF m 74 #[iv i0, iv i1, iv i2, iv i3, iv nn, iv (own_a i0 i1 i2), iv (own_cc i0 i1 i2), iv (own_b i0 i1 i2), rv b586, .unset, .unset, .unset, .unset] [(.ref b595), (.ref b586)])) rfl (by rw [hml]; rfl) (Steps.refl _) (argsL := [(.ref b595)]) (rest := []) (lenOf pd6 rfl) rfl (by show 2 * 0 + _ ≤ _; exact Nat.le_of_eq rfl) (hb hby at_74) (fun _ _ => ⟨rfl, rfl, (by decide : 4 + 1 ≤ _), (by decide : 13 + 10 ≤ _)⟩)
  dsimp only [Pt.U, Pt.locs, Pt.cells, Pt.slots] at X605 l605 y605 z605 st605 hQ605
  subst l605 y605 z605
  obtain ⟨tb_605, tk_605, rfl, N605, R605_0, R605_1, R605_2, R605_3, R605_4, R605_5, R605_6, R605_7⟩ := hQ605
  have M605 := Fr.app M603 N605
  have sz605_1 : h0.size ≤ tb_605 := Nat.le_trans (Nat.le_trans (Nat.le_trans (Nat.le_trans (Nat.le_trans (Nat.le_trans (Nat.le_refl _) E586.1) R592_0.1) E595.1) E600.1) R603_0.1) R605_1
  have ng605_1 : n0 ≤ tb_605 := Nat.le_trans Z0 sz605_1
  have ov_605 := R605_7
  have g606 : Goes p e below S0 (T605.setTop (mkF m 79 #[iv i0, iv i1, iv i2, iv i3, iv nn, iv (own_a i0 i1 i2), iv (own_cc i0 i1 i2), iv (own_b i0 i1 i2), rv b586, .unset, .unset, .unset, .unset] [(.int (1 : Int32))])) := fun t k => g604 t (st605.trans k)
  have g607 : Goes p e below S0 (T605.setTop (mkF m 80 #[iv i0, iv i1, iv i2, iv i3, iv nn, iv (own_a i0 i1 i2), iv (own_cc i0 i1 i2), iv (own_b i0 i1 i2), rv b586, .unset, .unset, .unset, .unset] [])) := fun t k => g606 t (by
    refine XS.pop X605.here hx rfl (hb hby at_79) rfl rfl ?_
    show Go p e below t T605 m 80 #[iv i0, iv i1, iv i2, iv i3, iv nn, iv (own_a i0 i1 i2), iv (own_cc i0 i1 i2), iv (own_b i0 i1 i2), rv b586, .unset, .unset, .unset, .unset] []
    exact k)
  rcases (hnn ▸ own_n3 i3 : nn = 1 ∨ nn = 2 ∨ nn = 3) with rfl | rfl | rfl
  · skip
    have g608 : Goes p e below S0 (T605.setTop (mkF m 134 #[iv i0, iv i1, iv i2, iv i3, iv (1 : Int32), iv (own_a i0 i1 i2), iv (own_cc i0 i1 i2), iv (own_b i0 i1 i2), rv b586, .unset, .unset, .unset, .unset] [(.ref b586)])) := fun t k => g607 t (by
      refine XS.iload X605.here hx rfl (hb hby at_80) rfl ?_
      show Go p e below t T605 m 82 #[iv i0, iv i1, iv i2, iv i3, iv (1 : Int32), iv (own_a i0 i1 i2), iv (own_cc i0 i1 i2), iv (own_b i0 i1 i2), rv b586, .unset, .unset, .unset, .unset] [(.int (1 : Int32))]
      refine XT.iconstV X605.here hx rfl (2 : Int32) (hb hby at_82) (by decide) ?_
      show Go p e below t T605 m 83 #[iv i0, iv i1, iv i2, iv i3, iv (1 : Int32), iv (own_a i0 i1 i2), iv (own_cc i0 i1 i2), iv (own_b i0 i1 i2), rv b586, .unset, .unset, .unset, .unset] [(.int (2 : Int32)), (.int (1 : Int32))]
      refine XS.icmpYes X605.here hx rfl (pc0 := 83) (pc' := 106) rfl (hb hby at_83) rfl (XT.ii_lt_t (by decide)) (by decide) (by decide) ?_
      show Go p e below t T605 m 106 #[iv i0, iv i1, iv i2, iv i3, iv (1 : Int32), iv (own_a i0 i1 i2), iv (own_cc i0 i1 i2), iv (own_b i0 i1 i2), rv b586, .unset, .unset, .unset, .unset] []
      refine XS.iload X605.here hx rfl (hb hby at_106) rfl ?_
      show Go p e below t T605 m 108 #[iv i0, iv i1, iv i2, iv i3, iv (1 : Int32), iv (own_a i0 i1 i2), iv (own_cc i0 i1 i2), iv (own_b i0 i1 i2), rv b586, .unset, .unset, .unset, .unset] [(.int (1 : Int32))]
      refine XT.iconstV X605.here hx rfl (3 : Int32) (hb hby at_108) (by decide) ?_
      show Go p e below t T605 m 109 #[iv i0, iv i1, iv i2, iv i3, iv (1 : Int32), iv (own_a i0 i1 i2), iv (own_cc i0 i1 i2), iv (own_b i0 i1 i2), rv b586, .unset, .unset, .unset, .unset] [(.int (3 : Int32)), (.int (1 : Int32))]
      refine XS.icmpYes X605.here hx rfl (pc0 := 109) (pc' := 132) rfl (hb hby at_109) rfl (XT.ii_lt_t (by decide)) (by decide) (by decide) ?_
      show Go p e below t T605 m 132 #[iv i0, iv i1, iv i2, iv i3, iv (1 : Int32), iv (own_a i0 i1 i2), iv (own_cc i0 i1 i2), iv (own_b i0 i1 i2), rv b586, .unset, .unset, .unset, .unset] []
      refine XS.aload X605.here hx rfl (hb hby at_132) rfl rfl ?_
      show Go p e below t T605 m 134 #[iv i0, iv i1, iv i2, iv i3, iv (1 : Int32), iv (own_a i0 i1 i2), iv (own_cc i0 i1 i2), iv (own_b i0 i1 i2), rv b586, .unset, .unset, .unset, .unset] [(.ref b586)]
      exact k)
    obtain ⟨_, _, ⟨T609, L609, k609, n609⟩, -, X609, ⟨Lc609, hQ609, l609, y609, z609⟩, st609⟩ := Jvm.LawKit.callS X605 hx (y := (⟨"com/example/nimble_retrieval/nimbleretrieval/runs/TrainedMerge", "inputs", "(Ljava/util/List;)[[D"⟩ : MethodName)) hown (mvT hZ (hw _ (List.mem_of_getElem? (i := 91) rfl))) (mvT hZ (hw _ (List.mem_of_getElem? (i := 92) rfl))) (mvT hZ (hw _ (List.mem_of_getElem? (i := 93) rfl))) (mvT hZ (hw _ (List.mem_of_getElem? (i := 94) rfl))) (by decide) (backOf (W := 0) (rm_inp1 l Z a0 hw [] b586 tb_605 tk_605 b595 (FP.i2d (own_a i0 i1 i2)) T605.heap n0 (Nat.le_trans Z0 (Nat.le_trans (Nat.le_trans (Nat.le_trans (Nat.le_trans (Nat.le_trans (Nat.le_trans (Nat.le_refl _) E586.1) R592_0.1) E595.1) E600.1) R603_0.1) R605_0.1)) R605_2 R605_4 R605_5 R605_6 (R603_1.keep R605_0) (R603_2.keep R605_0 (ninS (Ne.symm (Nat.ne_of_lt (Nat.lt_of_lt_of_le R592_1.lt (Nat.le_of_eq gb595.symm)))) nin0)) (Jvm.Free.Fl.i2d_fin _)) hZ (hw _ (List.mem_of_getElem? (i := 94) rfl)) (hw _ (List.mem_of_getElem? (i := 93) rfl)) (by decide) (by decide)) (g := (mkF m 134 #[iv i0, iv i1, iv i2, iv i3, iv (1 : Int32), iv (own_a i0 i1 i2), iv (own_cc i0 i1 i2), iv (own_b i0 i1 i2), rv b586, .unset, .unset, .unset, .unset] [(.ref b586)])) rfl (by rw [hml]; rfl) (argsL := [(.ref b586)]) (rest := []) (lenOf pd11 rfl) rfl (by show 2 * 0 + _ ≤ _; exact Nat.le_of_eq rfl) (hb hby at_134) (fun _ _ => ⟨rfl, rfl, (by decide : 5 + 2 ≤ _), (by decide : 23 + 3 ≤ _)⟩)
    dsimp only [Pt.U, Pt.locs, Pt.cells, Pt.slots] at X609 l609 y609 z609 st609 hQ609
    subst l609 y609 z609
    obtain ⟨ta_609, tk_609, d0_609, dk0_609, rfl, N609, R609_0, R609_1, R609_2, R609_3, R609_4⟩ := hQ609
    have M609 := Fr.app M605 N609
    have sz609_1 : h0.size ≤ ta_609 := Nat.le_trans (Nat.le_trans (Nat.le_trans (Nat.le_trans (Nat.le_trans (Nat.le_trans (Nat.le_trans (Nat.le_refl _) E586.1) R592_0.1) E595.1) E600.1) R603_0.1) R605_0.1) R609_1
    have ng609_1 : n0 ≤ ta_609 := Nat.le_trans Z0 sz609_1
    have sz609_2 : h0.size ≤ d0_609 := Nat.le_trans (Nat.le_trans (Nat.le_trans (Nat.le_trans (Nat.le_trans (Nat.le_trans (Nat.le_trans (Nat.le_refl _) E586.1) R592_0.1) E595.1) E600.1) R603_0.1) R605_0.1) R609_2
    have ng609_2 : n0 ≤ d0_609 := Nat.le_trans Z0 sz609_2
    have g610 : Goes p e below S0 (T609.setTop (mkF m 137 #[iv i0, iv i1, iv i2, iv i3, iv (1 : Int32), iv (own_a i0 i1 i2), iv (own_cc i0 i1 i2), iv (own_b i0 i1 i2), rv b586, .unset, .unset, .unset, .unset] [(.ref ta_609)])) := fun t k => g608 t (st609 t k)
    have g611 : Goes p e below S0 (T609.setTop (mkF m 141 #[iv i0, iv i1, iv i2, iv i3, iv (1 : Int32), iv (own_a i0 i1 i2), iv (own_cc i0 i1 i2), iv (own_b i0 i1 i2), rv b586, rv ta_609, .unset, .unset, .unset] [(.ref ta_609)])) := fun t k => g610 t (by
      refine XS.astore X609.here hx rfl (hb hby at_137) rfl rfl (l' := #[iv i0, iv i1, iv i2, iv i3, iv (1 : Int32), iv (own_a i0 i1 i2), iv (own_cc i0 i1 i2), iv (own_b i0 i1 i2), rv b586, rv ta_609, .unset, .unset, .unset]) rfl ?_
      show Go p e below t T609 m 139 #[iv i0, iv i1, iv i2, iv i3, iv (1 : Int32), iv (own_a i0 i1 i2), iv (own_cc i0 i1 i2), iv (own_b i0 i1 i2), rv b586, rv ta_609, .unset, .unset, .unset] []
      refine XS.aload X609.here hx rfl (hb hby at_139) rfl rfl ?_
      show Go p e below t T609 m 141 #[iv i0, iv i1, iv i2, iv i3, iv (1 : Int32), iv (own_a i0 i1 i2), iv (own_cc i0 i1 i2), iv (own_b i0 i1 i2), rv b586, rv ta_609, .unset, .unset, .unset] [(.ref ta_609)]
      exact k)
    obtain ⟨cl612, Ar612, q612, S612, M612, H612, G612⟩ := id R609_3
    have g613 : Goes p e below S0 (T609.setTop (mkF m 157 #[iv i0, iv i1, iv i2, iv i3, iv (1 : Int32), iv (own_a i0 i1 i2), iv (own_cc i0 i1 i2), iv (own_b i0 i1 i2), rv b586, rv ta_609, .val (.double (FP.i2d (own_a i0 i1 i2))), .second, .unset] [(.int (0 : Int32)), (.ref ta_609)])) := fun t k => g611 t (by
      refine X609.arraylength hx Ar612.1 (State.isArrayOf_alike hZ.alike Ar612.2.1) (g := (mkF m 141 #[iv i0, iv i1, iv i2, iv i3, iv (1 : Int32), iv (own_a i0 i1 i2), iv (own_cc i0 i1 i2), iv (own_b i0 i1 i2), rv b586, rv ta_609, .unset, .unset, .unset] [(.ref ta_609)])) rfl rfl (hb hby at_141) _ ?_
      rw [len_of S612 M612]
      show Go p e below t T609 m 142 #[iv i0, iv i1, iv i2, iv i3, iv (1 : Int32), iv (own_a i0 i1 i2), iv (own_cc i0 i1 i2), iv (own_b i0 i1 i2), rv b586, rv ta_609, .unset, .unset, .unset] [(.int (1 : Int32))]
      refine XS.iload X609.here hx rfl (hb hby at_142) rfl ?_
      show Go p e below t T609 m 144 #[iv i0, iv i1, iv i2, iv i3, iv (1 : Int32), iv (own_a i0 i1 i2), iv (own_cc i0 i1 i2), iv (own_b i0 i1 i2), rv b586, rv ta_609, .unset, .unset, .unset] [(.int (1 : Int32)), (.int (1 : Int32))]
      refine XS.icmpYes X609.here hx rfl (pc0 := 144) (pc' := 149) rfl (hb hby at_144) rfl (XT.ii_eq_t (by decide)) (by decide) (by decide) ?_
      show Go p e below t T609 m 149 #[iv i0, iv i1, iv i2, iv i3, iv (1 : Int32), iv (own_a i0 i1 i2), iv (own_cc i0 i1 i2), iv (own_b i0 i1 i2), rv b586, rv ta_609, .unset, .unset, .unset] []
      refine XS.iload X609.here hx rfl (hb hby at_149) rfl ?_
      show Go p e below t T609 m 151 #[iv i0, iv i1, iv i2, iv i3, iv (1 : Int32), iv (own_a i0 i1 i2), iv (own_cc i0 i1 i2), iv (own_b i0 i1 i2), rv b586, rv ta_609, .unset, .unset, .unset] [(.int (own_a i0 i1 i2))]
      refine XS.i2dS X609.here hx rfl (hb hby at_151) rfl rfl ?_
      show Go p e below t T609 m 152 #[iv i0, iv i1, iv i2, iv i3, iv (1 : Int32), iv (own_a i0 i1 i2), iv (own_cc i0 i1 i2), iv (own_b i0 i1 i2), rv b586, rv ta_609, .unset, .unset, .unset] [(.double (FP.i2d (own_a i0 i1 i2)))]
      refine XS.dstore X609.here hx rfl (hb hby at_152) rfl (l' := #[iv i0, iv i1, iv i2, iv i3, iv (1 : Int32), iv (own_a i0 i1 i2), iv (own_cc i0 i1 i2), iv (own_b i0 i1 i2), rv b586, rv ta_609, .val (.double (FP.i2d (own_a i0 i1 i2))), .second, .unset]) rfl ?_
      show Go p e below t T609 m 154 #[iv i0, iv i1, iv i2, iv i3, iv (1 : Int32), iv (own_a i0 i1 i2), iv (own_cc i0 i1 i2), iv (own_b i0 i1 i2), rv b586, rv ta_609, .val (.double (FP.i2d (own_a i0 i1 i2))), .second, .unset] []
      refine XS.aload X609.here hx rfl (hb hby at_154) rfl rfl ?_
      show Go p e below t T609 m 156 #[iv i0, iv i1, iv i2, iv i3, iv (1 : Int32), iv (own_a i0 i1 i2), iv (own_cc i0 i1 i2), iv (own_b i0 i1 i2), rv b586, rv ta_609, .val (.double (FP.i2d (own_a i0 i1 i2))), .second, .unset] [(.ref ta_609)]
      refine XT.iconstV X609.here hx rfl (0 : Int32) (hb hby at_156) (by decide) ?_
      show Go p e below t T609 m 157 #[iv i0, iv i1, iv i2, iv i3, iv (1 : Int32), iv (own_a i0 i1 i2), iv (own_cc i0 i1 i2), iv (own_b i0 i1 i2), rv b586, rv ta_609, .val (.double (FP.i2d (own_a i0 i1 i2))), .second, .unset] [(.int (0 : Int32)), (.ref ta_609)]
      exact k)
    obtain ⟨cl614, Ar614, q614, S614, M614, H614, G614⟩ := id R609_3
    have g615 : Goes p e below S0 (T609.setTop (mkF m 164 #[iv i0, iv i1, iv i2, iv i3, iv (1 : Int32), iv (own_a i0 i1 i2), iv (own_cc i0 i1 i2), iv (own_b i0 i1 i2), rv b586, rv ta_609, .val (.double (FP.i2d (own_a i0 i1 i2))), .second, .unset] [(.double (FP.i2d (own_a i0 i1 i2))), (.double (FP.i2d (own_a i0 i1 i2))), (.double (0 : UInt64)), (.ref d0_609)])) := fun t k => g613 t (by
      refine X609.aaload hx (j := (0 : Int32)) (v := (.ref d0_609)) Ar614.1 (State.isArrayOf_alike hZ.alike Ar614.2.1) rfl Ar614.2.2 (inb_of S614 ⟨by decide, by decide⟩) (H614.at (inb_of S614 ⟨by decide, by decide⟩) rfl) (g := (mkF m 157 #[iv i0, iv i1, iv i2, iv i3, iv (1 : Int32), iv (own_a i0 i1 i2), iv (own_cc i0 i1 i2), iv (own_b i0 i1 i2), rv b586, rv ta_609, .val (.double (FP.i2d (own_a i0 i1 i2))), .second, .unset] [(.int (0 : Int32)), (.ref ta_609)])) rfl rfl (hb hby at_157) _ ?_
      show Go p e below t T609 m 158 #[iv i0, iv i1, iv i2, iv i3, iv (1 : Int32), iv (own_a i0 i1 i2), iv (own_cc i0 i1 i2), iv (own_b i0 i1 i2), rv b586, rv ta_609, .val (.double (FP.i2d (own_a i0 i1 i2))), .second, .unset] [(.ref d0_609)]
      refine XS.dconst0 X609.here hx rfl (hb hby at_158) (v := (0 : UInt64)) rfl ?_
      show Go p e below t T609 m 159 #[iv i0, iv i1, iv i2, iv i3, iv (1 : Int32), iv (own_a i0 i1 i2), iv (own_cc i0 i1 i2), iv (own_b i0 i1 i2), rv b586, rv ta_609, .val (.double (FP.i2d (own_a i0 i1 i2))), .second, .unset] [(.double (0 : UInt64)), (.ref d0_609)]
      refine XS.iload X609.here hx rfl (hb hby at_159) rfl ?_
      show Go p e below t T609 m 161 #[iv i0, iv i1, iv i2, iv i3, iv (1 : Int32), iv (own_a i0 i1 i2), iv (own_cc i0 i1 i2), iv (own_b i0 i1 i2), rv b586, rv ta_609, .val (.double (FP.i2d (own_a i0 i1 i2))), .second, .unset] [(.int (own_a i0 i1 i2)), (.double (0 : UInt64)), (.ref d0_609)]
      refine XS.i2dS X609.here hx rfl (hb hby at_161) rfl rfl ?_
      show Go p e below t T609 m 162 #[iv i0, iv i1, iv i2, iv i3, iv (1 : Int32), iv (own_a i0 i1 i2), iv (own_cc i0 i1 i2), iv (own_b i0 i1 i2), rv b586, rv ta_609, .val (.double (FP.i2d (own_a i0 i1 i2))), .second, .unset] [(.double (FP.i2d (own_a i0 i1 i2))), (.double (0 : UInt64)), (.ref d0_609)]
      refine XS.dload X609.here hx rfl (hb hby at_162) rfl ?_
      show Go p e below t T609 m 164 #[iv i0, iv i1, iv i2, iv i3, iv (1 : Int32), iv (own_a i0 i1 i2), iv (own_cc i0 i1 i2), iv (own_b i0 i1 i2), rv b586, rv ta_609, .val (.double (FP.i2d (own_a i0 i1 i2))), .second, .unset] [(.double (FP.i2d (own_a i0 i1 i2))), (.double (FP.i2d (own_a i0 i1 i2))), (.double (0 : UInt64)), (.ref d0_609)]
      exact k)
    obtain ⟨_, _, ⟨T616, L616, k616, n616⟩, -, X616, ⟨Lc616, hQ616, l616, y616, z616⟩, st616⟩ := Jvm.LawKit.callS X609 hx (y := (⟨"com/example/nimble_retrieval/nimbleretrieval/runs/TrainedMergeInputsPinLaw", "expected", "(DD)D"⟩ : MethodName)) hown (mvT hZ (hw _ (List.mem_of_getElem? (i := 138) rfl))) (mvT hZ (hw _ (List.mem_of_getElem? (i := 139) rfl))) (mvT hZ (hw _ (List.mem_of_getElem? (i := 140) rfl))) (mvT hZ (hw _ (List.mem_of_getElem? (i := 141) rfl))) (by decide) (backOf (W := 3) (rm_exp l Z a0 hw [] (FP.i2d (own_a i0 i1 i2)) (FP.i2d (own_a i0 i1 i2))  T609.heap n0 (Nat.le_trans Z0 (Nat.le_trans (Nat.le_trans (Nat.le_trans (Nat.le_trans (Nat.le_trans (Nat.le_trans (Nat.le_trans (Nat.le_refl _) E586.1) R592_0.1) E595.1) E600.1) R603_0.1) R605_0.1) R609_0.1)) (Jvm.Free.Fl.i2d_fin _) (Jvm.Free.Fl.i2d_fin _)) hZ (hw _ (List.mem_of_getElem? (i := 141) rfl)) (hw _ (List.mem_of_getElem? (i := 140) rfl)) (by decide) (by decide)) (g := (mkF m 164 #[iv i0, iv i1, iv i2, iv i3, iv (1 : Int32), iv (own_a i0 i1 i2), iv (own_cc i0 i1 i2), iv (own_b i0 i1 i2), rv b586, rv ta_609, .val (.double (FP.i2d (own_a i0 i1 i2))), .second, .unset] [(.double (FP.i2d (own_a i0 i1 i2))), (.double (FP.i2d (own_a i0 i1 i2))), (.double (0 : UInt64)), (.ref d0_609)])) rfl (by rw [hml]; rfl) (argsL := [(.double (FP.i2d (own_a i0 i1 i2))), (.double (FP.i2d (own_a i0 i1 i2)))]) (rest := [(.double (0 : UInt64)), (.ref d0_609)]) (lenOf pd12 rfl) rfl (by show 2 * 0 + _ ≤ _; exact Nat.le_of_eq rfl) (hb hby at_164) (fun _ _ => ⟨rfl, rfl, (by decide : 7 + 0 ≤ _), (by decide : 26 + 0 ≤ _)⟩)
    dsimp only [Pt.U, Pt.locs, Pt.cells, Pt.slots] at X616 l616 y616 z616 st616 hQ616
    subst l616 y616 z616
    obtain ⟨rfl, N616, e616⟩ := hQ616
    have M616 := Fr.app M609 N616
    have g617 : Goes p e below S0 (T616.setTop (mkF m 167 #[iv i0, iv i1, iv i2, iv i3, iv (1 : Int32), iv (own_a i0 i1 i2), iv (own_cc i0 i1 i2), iv (own_b i0 i1 i2), rv b586, rv ta_609, .val (.double (FP.i2d (own_a i0 i1 i2))), .second, .unset] [(.double (f_exp (FP.i2d (own_a i0 i1 i2)) (FP.i2d (own_a i0 i1 i2)))), (.double (0 : UInt64)), (.ref d0_609)])) := fun t k => g615 t (st616 t k)
    obtain ⟨_, _, ⟨T618, L618, k618, n618⟩, -, X618, ⟨Lc618, hQ618, l618, y618, z618⟩, st618⟩ := Jvm.LawKit.callS X616 hx (y := (⟨"com/example/nimble_retrieval/nimbleretrieval/runs/TrainedMergeInputsPinLaw", "row", "([DDD)Z"⟩ : MethodName)) hown (mvT hZ (hw _ (List.mem_of_getElem? (i := 142) rfl))) (mvT hZ (hw _ (List.mem_of_getElem? (i := 143) rfl))) (mvT hZ (hw _ (List.mem_of_getElem? (i := 140) rfl))) (mvT hZ (hw _ (List.mem_of_getElem? (i := 144) rfl))) (by decide) (backOf (W := 0) (rm_row l Z a0 hw [] d0_609 (0 : UInt64) (f_exp (FP.i2d (own_a i0 i1 i2)) (FP.i2d (own_a i0 i1 i2))) (FP.dsub (4607182418800017408 : UInt64) (FP.ddiv (4607182418800017408 : UInt64) (FP.i2d (1 : Int32)))) (own_sc (FP.i2d (own_a i0 i1 i2)) (FP.i2d (own_a i0 i1 i2))) dk0_609 T609.heap n0 (Nat.le_trans Z0 (Nat.le_trans (Nat.le_trans (Nat.le_trans (Nat.le_trans (Nat.le_trans (Nat.le_trans (Nat.le_trans (Nat.le_refl _) E586.1) R592_0.1) E595.1) E600.1) R603_0.1) R605_0.1) R609_0.1)) R609_4) hZ (hw _ (List.mem_of_getElem? (i := 144) rfl)) (hw _ (List.mem_of_getElem? (i := 140) rfl)) (by decide) (by decide)) (g := (mkF m 167 #[iv i0, iv i1, iv i2, iv i3, iv (1 : Int32), iv (own_a i0 i1 i2), iv (own_cc i0 i1 i2), iv (own_b i0 i1 i2), rv b586, rv ta_609, .val (.double (FP.i2d (own_a i0 i1 i2))), .second, .unset] [(.double (f_exp (FP.i2d (own_a i0 i1 i2)) (FP.i2d (own_a i0 i1 i2)))), (.double (0 : UInt64)), (.ref d0_609)])) rfl (by rw [hml]; rfl) (argsL := [(.ref d0_609), (.double (0 : UInt64)), (.double (f_exp (FP.i2d (own_a i0 i1 i2)) (FP.i2d (own_a i0 i1 i2))))]) (rest := []) (lenOf pd13 rfl) rfl (by show 2 * 0 + _ ≤ _; exact Nat.le_of_eq rfl) (hb hby at_167) (fun _ _ => ⟨rfl, e616, (by decide : 7 + 0 ≤ _), (by decide : 26 + 0 ≤ _)⟩)
    dsimp only [Pt.U, Pt.locs, Pt.cells, Pt.slots] at X618 l618 y618 z618 st618 hQ618
    subst l618 y618 z618
    obtain ⟨rfl, N618, e618⟩ := hQ618
    have M618 := Fr.app M616 N618
    have g619 : Goes p e below S0 (T618.setTop (mkF m 170 #[iv i0, iv i1, iv i2, iv i3, iv (1 : Int32), iv (own_a i0 i1 i2), iv (own_cc i0 i1 i2), iv (own_b i0 i1 i2), rv b586, rv ta_609, .val (.double (FP.i2d (own_a i0 i1 i2))), .second, .unset] [(.int (f_row (0 : UInt64) (f_exp (FP.i2d (own_a i0 i1 i2)) (FP.i2d (own_a i0 i1 i2))) (FP.dsub (4607182418800017408 : UInt64) (FP.ddiv (4607182418800017408 : UInt64) (FP.i2d (1 : Int32)))) (own_sc (FP.i2d (own_a i0 i1 i2)) (FP.i2d (own_a i0 i1 i2)))))])) := fun t k => g617 t (st618 t k)
    rw [show (f_row (0 : UInt64) (f_exp (FP.i2d (own_a i0 i1 i2)) (FP.i2d (own_a i0 i1 i2))) (FP.dsub (4607182418800017408 : UInt64) (FP.ddiv (4607182418800017408 : UInt64) (FP.i2d (1 : Int32)))) (own_sc (FP.i2d (own_a i0 i1 i2)) (FP.i2d (own_a i0 i1 i2)))) = (1 : Int32) from own_r0 (own_a i0 i1 i2)] at g619
    have g620 : Goes p e below S0 (T618.setTop (mkF m 252 #[iv i0, iv i1, iv i2, iv i3, iv (1 : Int32), iv (own_a i0 i1 i2), iv (own_cc i0 i1 i2), iv (own_b i0 i1 i2), rv b586, rv ta_609, .val (.double (FP.i2d (own_a i0 i1 i2))), .second, iv (1 : Int32)] [(.int (1 : Int32))])) := fun t k => g619 t (by
      refine XS.istore X618.here hx rfl (hb hby at_170) rfl (l' := #[iv i0, iv i1, iv i2, iv i3, iv (1 : Int32), iv (own_a i0 i1 i2), iv (own_cc i0 i1 i2), iv (own_b i0 i1 i2), rv b586, rv ta_609, .val (.double (FP.i2d (own_a i0 i1 i2))), .second, iv (1 : Int32)]) rfl ?_
      show Go p e below t T618 m 172 #[iv i0, iv i1, iv i2, iv i3, iv (1 : Int32), iv (own_a i0 i1 i2), iv (own_cc i0 i1 i2), iv (own_b i0 i1 i2), rv b586, rv ta_609, .val (.double (FP.i2d (own_a i0 i1 i2))), .second, iv (1 : Int32)] []
      refine XS.iload X618.here hx rfl (hb hby at_172) rfl ?_
      show Go p e below t T618 m 174 #[iv i0, iv i1, iv i2, iv i3, iv (1 : Int32), iv (own_a i0 i1 i2), iv (own_cc i0 i1 i2), iv (own_b i0 i1 i2), rv b586, rv ta_609, .val (.double (FP.i2d (own_a i0 i1 i2))), .second, iv (1 : Int32)] [(.int (1 : Int32))]
      refine XT.iconstV X618.here hx rfl (2 : Int32) (hb hby at_174) (by decide) ?_
      show Go p e below t T618 m 175 #[iv i0, iv i1, iv i2, iv i3, iv (1 : Int32), iv (own_a i0 i1 i2), iv (own_cc i0 i1 i2), iv (own_b i0 i1 i2), rv b586, rv ta_609, .val (.double (FP.i2d (own_a i0 i1 i2))), .second, iv (1 : Int32)] [(.int (2 : Int32)), (.int (1 : Int32))]
      refine XS.icmpYes X618.here hx rfl (pc0 := 175) (pc' := 211) rfl (hb hby at_175) rfl (XT.ii_lt_t (by decide)) (by decide) (by decide) ?_
      show Go p e below t T618 m 211 #[iv i0, iv i1, iv i2, iv i3, iv (1 : Int32), iv (own_a i0 i1 i2), iv (own_cc i0 i1 i2), iv (own_b i0 i1 i2), rv b586, rv ta_609, .val (.double (FP.i2d (own_a i0 i1 i2))), .second, iv (1 : Int32)] []
      refine XS.iload X618.here hx rfl (hb hby at_211) rfl ?_
      show Go p e below t T618 m 213 #[iv i0, iv i1, iv i2, iv i3, iv (1 : Int32), iv (own_a i0 i1 i2), iv (own_cc i0 i1 i2), iv (own_b i0 i1 i2), rv b586, rv ta_609, .val (.double (FP.i2d (own_a i0 i1 i2))), .second, iv (1 : Int32)] [(.int (1 : Int32))]
      refine XT.iconstV X618.here hx rfl (3 : Int32) (hb hby at_213) (by decide) ?_
      show Go p e below t T618 m 214 #[iv i0, iv i1, iv i2, iv i3, iv (1 : Int32), iv (own_a i0 i1 i2), iv (own_cc i0 i1 i2), iv (own_b i0 i1 i2), rv b586, rv ta_609, .val (.double (FP.i2d (own_a i0 i1 i2))), .second, iv (1 : Int32)] [(.int (3 : Int32)), (.int (1 : Int32))]
      refine XS.icmpYes X618.here hx rfl (pc0 := 214) (pc' := 250) rfl (hb hby at_214) rfl (XT.ii_lt_t (by decide)) (by decide) (by decide) ?_
      show Go p e below t T618 m 250 #[iv i0, iv i1, iv i2, iv i3, iv (1 : Int32), iv (own_a i0 i1 i2), iv (own_cc i0 i1 i2), iv (own_b i0 i1 i2), rv b586, rv ta_609, .val (.double (FP.i2d (own_a i0 i1 i2))), .second, iv (1 : Int32)] []
      refine XS.iload X618.here hx rfl (hb hby at_250) rfl ?_
      show Go p e below t T618 m 252 #[iv i0, iv i1, iv i2, iv i3, iv (1 : Int32), iv (own_a i0 i1 i2), iv (own_cc i0 i1 i2), iv (own_b i0 i1 i2), rv b586, rv ta_609, .val (.double (FP.i2d (own_a i0 i1 i2))), .second, iv (1 : Int32)] [(.int (1 : Int32))]
      exact k)
    obtain ⟨fs, hr, hrun, hended, hE1, hE2, hE3, hE4⟩ := Stand.leaveW (s := s) (vm₁ := T600.vm) X618 sn600 (by rw [e618]; exact (Nat.le_trans (Nat.le_trans (Nat.le_trans ks600 R603_0.1) R605_0.1) R609_0.1)) (v := some (.int (1 : Int32))) (fun h => by rw [Bd.returns] at h; cases h)
    refine ⟨_, _, g620 _ (retN X618 hx (t := .boolean) Bd.returns (by simp) (hb hby at_252) hr), hrun, hended, _, _, rfl, ?_, hE1, hE2, hE3, hE4.mono (by decide) (by decide)⟩
    show Q_law Z i0 i1 i2 i3 da dk h0 n0 _ T618.heap _
    rw [e618]
    exact ⟨rfl, M618⟩
  · skip
    have g621 : Goes p e below S0 (T605.setTop (mkF m 88 #[iv i0, iv i1, iv i2, iv i3, iv (2 : Int32), iv (own_a i0 i1 i2), iv (own_cc i0 i1 i2), iv (own_b i0 i1 i2), rv b586, .unset, .unset, .unset, .unset] [(.ref b586)])) := fun t k => g607 t (by
      refine XS.iload X605.here hx rfl (hb hby at_80) rfl ?_
      show Go p e below t T605 m 82 #[iv i0, iv i1, iv i2, iv i3, iv (2 : Int32), iv (own_a i0 i1 i2), iv (own_cc i0 i1 i2), iv (own_b i0 i1 i2), rv b586, .unset, .unset, .unset, .unset] [(.int (2 : Int32))]
      refine XT.iconstV X605.here hx rfl (2 : Int32) (hb hby at_82) (by decide) ?_
      show Go p e below t T605 m 83 #[iv i0, iv i1, iv i2, iv i3, iv (2 : Int32), iv (own_a i0 i1 i2), iv (own_cc i0 i1 i2), iv (own_b i0 i1 i2), rv b586, .unset, .unset, .unset, .unset] [(.int (2 : Int32)), (.int (2 : Int32))]
      refine XS.icmpNo X605.here hx rfl (hb hby at_83) rfl (XT.ii_lt_f (by decide)) ?_
      show Go p e below t T605 m 86 #[iv i0, iv i1, iv i2, iv i3, iv (2 : Int32), iv (own_a i0 i1 i2), iv (own_cc i0 i1 i2), iv (own_b i0 i1 i2), rv b586, .unset, .unset, .unset, .unset] []
      refine XS.aload X605.here hx rfl (hb hby at_86) rfl rfl ?_
      show Go p e below t T605 m 88 #[iv i0, iv i1, iv i2, iv i3, iv (2 : Int32), iv (own_a i0 i1 i2), iv (own_cc i0 i1 i2), iv (own_b i0 i1 i2), rv b586, .unset, .unset, .unset, .unset] [(.ref b586)]
      exact k)
    obtain ⟨T622, h622, X622, e622, E622, A622, D622, -, st622⟩ := newO X605 hx hZ hown (hw _ (List.mem_of_getElem? (i := 34) rfl)) (hw _ (List.mem_of_getElem? (i := 35) rfl)) (hw _ (List.mem_of_getElem? (i := 36) rfl)) rfl (g := (mkF m 88 #[iv i0, iv i1, iv i2, iv i3, iv (2 : Int32), iv (own_a i0 i1 i2), iv (own_cc i0 i1 i2), iv (own_b i0 i1 i2), rv b586, .unset, .unset, .unset, .unset] [(.ref b586)])) rfl (hb hby at_88) (by decide) (by decide)
    obtain ⟨b622, gb622⟩ : ∃ z, z = T605.heap.size := ⟨_, rfl⟩
    have sz622 : h0.size ≤ b622 := Nat.le_trans (Nat.le_trans (Nat.le_trans (Nat.le_trans (Nat.le_trans (Nat.le_trans (Nat.le_trans (Nat.le_refl _) E586.1) R592_0.1) E595.1) E600.1) R603_0.1) R605_0.1) (Nat.le_of_eq gb622.symm)
    have ng622 : n0 ≤ b622 := Nat.le_trans Z0 sz622
    rw [← gb622] at A622 D622 st622
    have F622_623 : Fld Z h622 b622 "com/example/nimble_retrieval/nimbleretrieval/format/Run$Retrieved" "docno" "Ljava/lang/String;" .null := D622 (Or.inr (hw _ (List.mem_of_getElem? (i := 55) rfl))) (ty := (.object "java/lang/String")) (by decide)
    have F622_624 : Fld Z h622 b622 "com/example/nimble_retrieval/nimbleretrieval/format/Run$Retrieved" "score" "D" (.double (0 : UInt64)) := D622 (Or.inr (hw _ (List.mem_of_getElem? (i := 57) rfl))) (ty := .double) (by decide)
    have g625 : Goes p e below S0 (T622.setTop (mkF m 91 #[iv i0, iv i1, iv i2, iv i3, iv (2 : Int32), iv (own_a i0 i1 i2), iv (own_cc i0 i1 i2), iv (own_b i0 i1 i2), rv b586, .unset, .unset, .unset, .unset] [(.ref b622), (.ref b586)])) := fun t k => g621 t (st622 t k)
    have g626 : Goes p e below S0 (T622.setTop (mkF m 92 #[iv i0, iv i1, iv i2, iv i3, iv (2 : Int32), iv (own_a i0 i1 i2), iv (own_cc i0 i1 i2), iv (own_b i0 i1 i2), rv b586, .unset, .unset, .unset, .unset] [(.ref b622), (.ref b622), (.ref b586)])) := fun t k => g625 t (by
      refine XS.dup X622.here hx rfl (hb hby at_91) rfl rfl ?_
      show Go p e below t T622 m 92 #[iv i0, iv i1, iv i2, iv i3, iv (2 : Int32), iv (own_a i0 i1 i2), iv (own_cc i0 i1 i2), iv (own_b i0 i1 i2), rv b586, .unset, .unset, .unset, .unset] [(.ref b622), (.ref b622), (.ref b586)]
      exact k)
    obtain ⟨a627, T627, h627, kk627, X627, e627, E627, sn627, ks627, hZ, hown, st627⟩ := ldcS (s := s) (vm0 := T600.vm) X622 hx hZ hown (hw _ (List.mem_of_getElem? (i := 90) rfl)) wS e622 sn600 (Nat.le_trans (Nat.le_trans (Nat.le_trans ks600 R603_0.1) R605_0.1) E622.1) (g := (mkF m 92 #[iv i0, iv i1, iv i2, iv i3, iv (2 : Int32), iv (own_a i0 i1 i2), iv (own_cc i0 i1 i2), iv (own_b i0 i1 i2), rv b586, .unset, .unset, .unset, .unset] [(.ref b622), (.ref b622), (.ref b586)])) rfl (hb hby at_92) (n := 4) (by decide) (by decide) (by decide) (by decide)
    have g628 : Goes p e below S0 (T627.setTop (mkF m 94 #[iv i0, iv i1, iv i2, iv i3, iv (2 : Int32), iv (own_a i0 i1 i2), iv (own_cc i0 i1 i2), iv (own_b i0 i1 i2), rv b586, .unset, .unset, .unset, .unset] [(.ref a627), (.ref b622), (.ref b622), (.ref b586)])) := fun t k => g626 t (st627 t k)
    have g629 : Goes p e below S0 (T627.setTop (mkF m 97 #[iv i0, iv i1, iv i2, iv i3, iv (2 : Int32), iv (own_a i0 i1 i2), iv (own_cc i0 i1 i2), iv (own_b i0 i1 i2), rv b586, .unset, .unset, .unset, .unset] [(.double (FP.i2d (own_b i0 i1 i2))), (.ref a627), (.ref b622), (.ref b622), (.ref b586)])) := fun t k => g628 t (by
      refine XS.iload X627.here hx rfl (hb hby at_94) rfl ?_
      show Go p e below t T627 m 96 #[iv i0, iv i1, iv i2, iv i3, iv (2 : Int32), iv (own_a i0 i1 i2), iv (own_cc i0 i1 i2), iv (own_b i0 i1 i2), rv b586, .unset, .unset, .unset, .unset] [(.int (own_b i0 i1 i2)), (.ref a627), (.ref b622), (.ref b622), (.ref b586)]
      refine XS.i2dS X627.here hx rfl (hb hby at_96) rfl rfl ?_
      show Go p e below t T627 m 97 #[iv i0, iv i1, iv i2, iv i3, iv (2 : Int32), iv (own_a i0 i1 i2), iv (own_cc i0 i1 i2), iv (own_b i0 i1 i2), rv b586, .unset, .unset, .unset, .unset] [(.double (FP.i2d (own_b i0 i1 i2))), (.ref a627), (.ref b622), (.ref b622), (.ref b586)]
      exact k)
    obtain ⟨_, _, ⟨T630, L630, k630, n630⟩, -, X630, ⟨Lc630, hQ630, l630, y630, z630⟩, st630⟩ := X627.specialBack hx (y := (⟨"com/example/nimble_retrieval/nimbleretrieval/format/Run$Retrieved", "<init>", "(Ljava/lang/String;D)V"⟩ : MethodName)) rfl hown (mvT hZ (hw _ (List.mem_of_getElem? (i := 45) rfl))) (mvT hZ (hw _ (List.mem_of_getElem? (i := 46) rfl))) (mvT hZ (hw _ (List.mem_of_getElem? (i := 47) rfl))) (by decide) (backOf (W := 2) (rm_ri l Z a0 hw [] b622 a627 (FP.i2d (own_b i0 i1 i2))  h627 n0 (Nat.le_trans Z0 (Nat.le_trans (Nat.le_trans (Nat.le_trans (Nat.le_trans (Nat.le_trans (Nat.le_trans (Nat.le_trans (Nat.le_trans (Nat.le_refl _) E586.1) R592_0.1) E595.1) E600.1) R603_0.1) R605_0.1) E622.1) E627.1)) (A622.ext E627) (F622_623.ext E627) (F622_624.ext E627) ng622) hZ (hw _ (List.mem_of_getElem? (i := 47) rfl)) (hw _ (List.mem_of_getElem? (i := 36) rfl)) (by decide) (by decide)) (g := (mkF m 97 #[iv i0, iv i1, iv i2, iv i3, iv (2 : Int32), iv (own_a i0 i1 i2), iv (own_cc i0 i1 i2), iv (own_b i0 i1 i2), rv b586, .unset, .unset, .unset, .unset] [(.double (FP.i2d (own_b i0 i1 i2))), (.ref a627), (.ref b622), (.ref b622), (.ref b586)])) rfl (by rw [hml]; rfl) (Steps.refl _) (a := b622) (argsL := [(.ref a627), (.double (FP.i2d (own_b i0 i1 i2)))]) (rest := [(.ref b622), (.ref b586)]) (lenOf pd1 rfl) rfl (by show 2 * 0 + _ ≤ _; exact Nat.le_of_eq rfl) (hb hby at_97) (fun _ _ => ⟨rfl, e627, (by decide : 8 + 0 ≤ _), (by decide : 33 + 0 ≤ _)⟩)
    dsimp only [Pt.U, Pt.locs, Pt.cells, Pt.slots] at X630 l630 y630 z630 st630 hQ630
    subst l630 y630 z630
    obtain ⟨rfl, N630, R630_0, R630_1, R630_2⟩ := hQ630
    have M630 := Fr.app M605 N630
    have g631 : Goes p e below S0 (T630.setTop (mkF m 100 #[iv i0, iv i1, iv i2, iv i3, iv (2 : Int32), iv (own_a i0 i1 i2), iv (own_cc i0 i1 i2), iv (own_b i0 i1 i2), rv b586, .unset, .unset, .unset, .unset] [(.ref b622), (.ref b586)])) := fun t k => g629 t (st630.trans k)
    obtain ⟨cq632, kq632, q632a, q632b, q632c⟩ := isOf hZ rfl (((R605_2.ext E622).ext E627).keep R630_0)
    obtain ⟨_, _, ⟨T632, L632, k632, n632⟩, -, X632, ⟨Lc632, hQ632, l632, y632, z632⟩, st632⟩ := X630.interfaceBack hx (xi := (⟨"java/util/List", "add", "(Ljava/lang/Object;)Z"⟩ : MethodName)) (y := (⟨"java/util/ArrayList", "add", "(Ljava/lang/Object;)Z"⟩ : MethodName)) hown (mvT hZ (hw _ (List.mem_of_getElem? (i := 58) rfl))) (mvT hZ (hw _ (List.mem_of_getElem? (i := 59) rfl))) (mvT hZ (hw _ (List.mem_of_getElem? (i := 60) rfl))) (mvT hZ (hw _ (List.mem_of_getElem? (i := 61) rfl))) (mvT hZ (hw _ (List.mem_of_getElem? (i := 62) rfl))) (mvT hZ (hw _ (List.mem_of_getElem? (i := 63) rfl))) (mvT hZ (hw _ (List.mem_of_getElem? (i := 64) rfl))) (mvT hZ (hw _ (List.mem_of_getElem? (i := 65) rfl))) (by decide) (backOf (W := 0) (rm_add1 l Z a0 hw [] b586 b622 tb_605 tk_605 b595 T630.heap n0 (Nat.le_trans Z0 (Nat.le_trans (Nat.le_trans (Nat.le_trans (Nat.le_trans (Nat.le_trans (Nat.le_trans (Nat.le_trans (Nat.le_trans (Nat.le_trans (Nat.le_refl _) E586.1) R592_0.1) E595.1) E600.1) R603_0.1) R605_0.1) E622.1) E627.1) R630_0.1)) (((R605_2.ext E622).ext E627).keep R630_0) (((R605_3.ext E622).ext E627).keep R630_0 (ninS (Nat.ne_of_lt (Nat.lt_of_lt_of_le R605_2.lt (Nat.le_of_eq gb622.symm))) nin0)) (((R605_4.ext E622).ext E627).keep R630_0 (ninS (Nat.ne_of_lt (Nat.lt_of_lt_of_le R605_2.lt (Nat.le_of_eq gb622.symm))) nin0)) (((R605_5.ext E622).ext E627).keep R630_0 (ninS (Nat.ne_of_lt (Nat.lt_of_lt_of_le R605_2.lt (Nat.le_of_eq gb622.symm))) nin0)) ng586 ng605_1 (Nat.ne_of_lt (Nat.lt_of_lt_of_le (((R592_1.ext E595).ext E600).keep R603_0).lt R605_1)) (((R605_6.ext E622).ext E627).keep R630_0 (ninS (Nat.ne_of_lt (Nat.lt_of_lt_of_le R605_6.lt (Nat.le_of_eq gb622.symm))) nin0)) ov_605 R630_1) hZ (hw _ (List.mem_of_getElem? (i := 66) rfl)) (hw _ (List.mem_of_getElem? (i := 10) rfl)) (by decide) (by decide)) q632a q632b q632c (g := (mkF m 100 #[iv i0, iv i1, iv i2, iv i3, iv (2 : Int32), iv (own_a i0 i1 i2), iv (own_cc i0 i1 i2), iv (own_b i0 i1 i2), rv b586, .unset, .unset, .unset, .unset] [(.ref b622), (.ref b586)])) rfl (by rw [hml]; rfl) (Steps.refl _) (argsL := [(.ref b622)]) (rest := []) (lenOf pd6 rfl) rfl (by show 2 * 0 + _ ≤ _; exact Nat.le_of_eq rfl) (hb hby at_100) (fun _ _ => ⟨rfl, rfl, (by decide : 8 + 0 ≤ _), (by decide : 33 + 0 ≤ _)⟩)
    dsimp only [Pt.U, Pt.locs, Pt.cells, Pt.slots] at X632 l632 y632 z632 st632 hQ632
    subst l632 y632 z632
    obtain ⟨rfl, N632, R632_0, R632_1, R632_2, R632_3, R632_4, R632_5⟩ := hQ632
    have M632 := Fr.app M630 N632
    have g633 : Goes p e below S0 (T632.setTop (mkF m 105 #[iv i0, iv i1, iv i2, iv i3, iv (2 : Int32), iv (own_a i0 i1 i2), iv (own_cc i0 i1 i2), iv (own_b i0 i1 i2), rv b586, .unset, .unset, .unset, .unset] [(.int (1 : Int32))])) := fun t k => g631 t (st632.trans k)
    have g634 : Goes p e below S0 (T632.setTop (mkF m 134 #[iv i0, iv i1, iv i2, iv i3, iv (2 : Int32), iv (own_a i0 i1 i2), iv (own_cc i0 i1 i2), iv (own_b i0 i1 i2), rv b586, .unset, .unset, .unset, .unset] [(.ref b586)])) := fun t k => g633 t (by
      refine XS.pop X632.here hx rfl (hb hby at_105) rfl rfl ?_
      show Go p e below t T632 m 106 #[iv i0, iv i1, iv i2, iv i3, iv (2 : Int32), iv (own_a i0 i1 i2), iv (own_cc i0 i1 i2), iv (own_b i0 i1 i2), rv b586, .unset, .unset, .unset, .unset] []
      refine XS.iload X632.here hx rfl (hb hby at_106) rfl ?_
      show Go p e below t T632 m 108 #[iv i0, iv i1, iv i2, iv i3, iv (2 : Int32), iv (own_a i0 i1 i2), iv (own_cc i0 i1 i2), iv (own_b i0 i1 i2), rv b586, .unset, .unset, .unset, .unset] [(.int (2 : Int32))]
      refine XT.iconstV X632.here hx rfl (3 : Int32) (hb hby at_108) (by decide) ?_
      show Go p e below t T632 m 109 #[iv i0, iv i1, iv i2, iv i3, iv (2 : Int32), iv (own_a i0 i1 i2), iv (own_cc i0 i1 i2), iv (own_b i0 i1 i2), rv b586, .unset, .unset, .unset, .unset] [(.int (3 : Int32)), (.int (2 : Int32))]
      refine XS.icmpYes X632.here hx rfl (pc0 := 109) (pc' := 132) rfl (hb hby at_109) rfl (XT.ii_lt_t (by decide)) (by decide) (by decide) ?_
      show Go p e below t T632 m 132 #[iv i0, iv i1, iv i2, iv i3, iv (2 : Int32), iv (own_a i0 i1 i2), iv (own_cc i0 i1 i2), iv (own_b i0 i1 i2), rv b586, .unset, .unset, .unset, .unset] []
      refine XS.aload X632.here hx rfl (hb hby at_132) rfl rfl ?_
      show Go p e below t T632 m 134 #[iv i0, iv i1, iv i2, iv i3, iv (2 : Int32), iv (own_a i0 i1 i2), iv (own_cc i0 i1 i2), iv (own_b i0 i1 i2), rv b586, .unset, .unset, .unset, .unset] [(.ref b586)]
      exact k)
    obtain ⟨_, _, ⟨T635, L635, k635, n635⟩, -, X635, ⟨Lc635, hQ635, l635, y635, z635⟩, st635⟩ := Jvm.LawKit.callS X632 hx (y := (⟨"com/example/nimble_retrieval/nimbleretrieval/runs/TrainedMerge", "inputs", "(Ljava/util/List;)[[D"⟩ : MethodName)) hown (mvT hZ (hw _ (List.mem_of_getElem? (i := 91) rfl))) (mvT hZ (hw _ (List.mem_of_getElem? (i := 92) rfl))) (mvT hZ (hw _ (List.mem_of_getElem? (i := 93) rfl))) (mvT hZ (hw _ (List.mem_of_getElem? (i := 94) rfl))) (by decide) (backOf (W := 0) (rm_inp2 l Z a0 hw [] b586 tb_605 tk_605 b595 b622 (FP.i2d (own_a i0 i1 i2)) (FP.i2d (own_b i0 i1 i2)) T632.heap n0 (Nat.le_trans Z0 (Nat.le_trans (Nat.le_trans (Nat.le_trans (Nat.le_trans (Nat.le_trans (Nat.le_trans (Nat.le_trans (Nat.le_trans (Nat.le_trans (Nat.le_trans (Nat.le_refl _) E586.1) R592_0.1) E595.1) E600.1) R603_0.1) R605_0.1) E622.1) E627.1) R630_0.1) R632_0.1)) R632_1 R632_3 R632_4 R632_5 (((((R603_1.keep R605_0).ext E622).ext E627).keep R630_0).keep R632_0) (((((R603_2.keep R605_0 (ninS (Ne.symm (Nat.ne_of_lt (Nat.lt_of_lt_of_le R592_1.lt (Nat.le_of_eq gb595.symm)))) nin0)).ext E622).ext E627).keep R630_0 (ninS (Nat.ne_of_lt (Nat.lt_of_lt_of_le (R603_1.keep R605_0).lt (Nat.le_of_eq gb622.symm))) nin0)).keep R632_0 (ninS (Ne.symm (Nat.ne_of_lt (Nat.lt_of_lt_of_le R592_1.lt (Nat.le_of_eq gb595.symm)))) (ninS (Nat.ne_of_lt (Nat.lt_of_lt_of_le R603_1.lt R605_1)) nin0))) (R630_1.keep R632_0) (R630_2.keep R632_0 (ninS (Ne.symm (Nat.ne_of_lt (Nat.lt_of_lt_of_le R605_2.lt (Nat.le_of_eq gb622.symm)))) (ninS (Ne.symm (Nat.ne_of_lt (Nat.lt_of_lt_of_le R605_6.lt (Nat.le_of_eq gb622.symm)))) nin0))) (Jvm.Free.Fl.i2d_fin _) (Jvm.Free.Fl.i2d_fin _)) hZ (hw _ (List.mem_of_getElem? (i := 94) rfl)) (hw _ (List.mem_of_getElem? (i := 93) rfl)) (by decide) (by decide)) (g := (mkF m 134 #[iv i0, iv i1, iv i2, iv i3, iv (2 : Int32), iv (own_a i0 i1 i2), iv (own_cc i0 i1 i2), iv (own_b i0 i1 i2), rv b586, .unset, .unset, .unset, .unset] [(.ref b586)])) rfl (by rw [hml]; rfl) (argsL := [(.ref b586)]) (rest := []) (lenOf pd11 rfl) rfl (by show 2 * 0 + _ ≤ _; exact Nat.le_of_eq rfl) (hb hby at_134) (fun _ _ => ⟨rfl, rfl, (by decide : 8 + 3 ≤ _), (by decide : 33 + 6 ≤ _)⟩)
    dsimp only [Pt.U, Pt.locs, Pt.cells, Pt.slots] at X635 l635 y635 z635 st635 hQ635
    subst l635 y635 z635
    obtain ⟨ta_635, tk_635, d0_635, d1_635, dk0_635, dk1_635, rfl, N635, R635_0, R635_1, R635_2, R635_3, R635_4, R635_5, R635_6⟩ := hQ635
    have M635 := Fr.app M632 N635
    have sz635_1 : h0.size ≤ ta_635 := Nat.le_trans (Nat.le_trans (Nat.le_trans (Nat.le_trans (Nat.le_trans (Nat.le_trans (Nat.le_trans (Nat.le_trans (Nat.le_trans (Nat.le_trans (Nat.le_trans (Nat.le_refl _) E586.1) R592_0.1) E595.1) E600.1) R603_0.1) R605_0.1) E622.1) E627.1) R630_0.1) R632_0.1) R635_1
    have ng635_1 : n0 ≤ ta_635 := Nat.le_trans Z0 sz635_1
    have sz635_2 : h0.size ≤ d0_635 := Nat.le_trans (Nat.le_trans (Nat.le_trans (Nat.le_trans (Nat.le_trans (Nat.le_trans (Nat.le_trans (Nat.le_trans (Nat.le_trans (Nat.le_trans (Nat.le_trans (Nat.le_refl _) E586.1) R592_0.1) E595.1) E600.1) R603_0.1) R605_0.1) E622.1) E627.1) R630_0.1) R632_0.1) R635_2
    have ng635_2 : n0 ≤ d0_635 := Nat.le_trans Z0 sz635_2
    have sz635_3 : h0.size ≤ d1_635 := Nat.le_trans (Nat.le_trans (Nat.le_trans (Nat.le_trans (Nat.le_trans (Nat.le_trans (Nat.le_trans (Nat.le_trans (Nat.le_trans (Nat.le_trans (Nat.le_trans (Nat.le_refl _) E586.1) R592_0.1) E595.1) E600.1) R603_0.1) R605_0.1) E622.1) E627.1) R630_0.1) R632_0.1) R635_3
    have ng635_3 : n0 ≤ d1_635 := Nat.le_trans Z0 sz635_3
    have g636 : Goes p e below S0 (T635.setTop (mkF m 137 #[iv i0, iv i1, iv i2, iv i3, iv (2 : Int32), iv (own_a i0 i1 i2), iv (own_cc i0 i1 i2), iv (own_b i0 i1 i2), rv b586, .unset, .unset, .unset, .unset] [(.ref ta_635)])) := fun t k => g634 t (st635 t k)
    have g637 : Goes p e below S0 (T635.setTop (mkF m 141 #[iv i0, iv i1, iv i2, iv i3, iv (2 : Int32), iv (own_a i0 i1 i2), iv (own_cc i0 i1 i2), iv (own_b i0 i1 i2), rv b586, rv ta_635, .unset, .unset, .unset] [(.ref ta_635)])) := fun t k => g636 t (by
      refine XS.astore X635.here hx rfl (hb hby at_137) rfl rfl (l' := #[iv i0, iv i1, iv i2, iv i3, iv (2 : Int32), iv (own_a i0 i1 i2), iv (own_cc i0 i1 i2), iv (own_b i0 i1 i2), rv b586, rv ta_635, .unset, .unset, .unset]) rfl ?_
      show Go p e below t T635 m 139 #[iv i0, iv i1, iv i2, iv i3, iv (2 : Int32), iv (own_a i0 i1 i2), iv (own_cc i0 i1 i2), iv (own_b i0 i1 i2), rv b586, rv ta_635, .unset, .unset, .unset] []
      refine XS.aload X635.here hx rfl (hb hby at_139) rfl rfl ?_
      show Go p e below t T635 m 141 #[iv i0, iv i1, iv i2, iv i3, iv (2 : Int32), iv (own_a i0 i1 i2), iv (own_cc i0 i1 i2), iv (own_b i0 i1 i2), rv b586, rv ta_635, .unset, .unset, .unset] [(.ref ta_635)]
      exact k)
    obtain ⟨cl638, Ar638, q638, S638, M638, H638, G638⟩ := id R635_4
    have g639 : Goes p e below S0 (T635.setTop (mkF m 157 #[iv i0, iv i1, iv i2, iv i3, iv (2 : Int32), iv (own_a i0 i1 i2), iv (own_cc i0 i1 i2), iv (own_b i0 i1 i2), rv b586, rv ta_635, .val (.double (FP.i2d (own_a i0 i1 i2))), .second, .unset] [(.int (0 : Int32)), (.ref ta_635)])) := fun t k => g637 t (by
      refine X635.arraylength hx Ar638.1 (State.isArrayOf_alike hZ.alike Ar638.2.1) (g := (mkF m 141 #[iv i0, iv i1, iv i2, iv i3, iv (2 : Int32), iv (own_a i0 i1 i2), iv (own_cc i0 i1 i2), iv (own_b i0 i1 i2), rv b586, rv ta_635, .unset, .unset, .unset] [(.ref ta_635)])) rfl rfl (hb hby at_141) _ ?_
      rw [len_of S638 M638]
      show Go p e below t T635 m 142 #[iv i0, iv i1, iv i2, iv i3, iv (2 : Int32), iv (own_a i0 i1 i2), iv (own_cc i0 i1 i2), iv (own_b i0 i1 i2), rv b586, rv ta_635, .unset, .unset, .unset] [(.int (2 : Int32))]
      refine XS.iload X635.here hx rfl (hb hby at_142) rfl ?_
      show Go p e below t T635 m 144 #[iv i0, iv i1, iv i2, iv i3, iv (2 : Int32), iv (own_a i0 i1 i2), iv (own_cc i0 i1 i2), iv (own_b i0 i1 i2), rv b586, rv ta_635, .unset, .unset, .unset] [(.int (2 : Int32)), (.int (2 : Int32))]
      refine XS.icmpYes X635.here hx rfl (pc0 := 144) (pc' := 149) rfl (hb hby at_144) rfl (XT.ii_eq_t (by decide)) (by decide) (by decide) ?_
      show Go p e below t T635 m 149 #[iv i0, iv i1, iv i2, iv i3, iv (2 : Int32), iv (own_a i0 i1 i2), iv (own_cc i0 i1 i2), iv (own_b i0 i1 i2), rv b586, rv ta_635, .unset, .unset, .unset] []
      refine XS.iload X635.here hx rfl (hb hby at_149) rfl ?_
      show Go p e below t T635 m 151 #[iv i0, iv i1, iv i2, iv i3, iv (2 : Int32), iv (own_a i0 i1 i2), iv (own_cc i0 i1 i2), iv (own_b i0 i1 i2), rv b586, rv ta_635, .unset, .unset, .unset] [(.int (own_a i0 i1 i2))]
      refine XS.i2dS X635.here hx rfl (hb hby at_151) rfl rfl ?_
      show Go p e below t T635 m 152 #[iv i0, iv i1, iv i2, iv i3, iv (2 : Int32), iv (own_a i0 i1 i2), iv (own_cc i0 i1 i2), iv (own_b i0 i1 i2), rv b586, rv ta_635, .unset, .unset, .unset] [(.double (FP.i2d (own_a i0 i1 i2)))]
      refine XS.dstore X635.here hx rfl (hb hby at_152) rfl (l' := #[iv i0, iv i1, iv i2, iv i3, iv (2 : Int32), iv (own_a i0 i1 i2), iv (own_cc i0 i1 i2), iv (own_b i0 i1 i2), rv b586, rv ta_635, .val (.double (FP.i2d (own_a i0 i1 i2))), .second, .unset]) rfl ?_
      show Go p e below t T635 m 154 #[iv i0, iv i1, iv i2, iv i3, iv (2 : Int32), iv (own_a i0 i1 i2), iv (own_cc i0 i1 i2), iv (own_b i0 i1 i2), rv b586, rv ta_635, .val (.double (FP.i2d (own_a i0 i1 i2))), .second, .unset] []
      refine XS.aload X635.here hx rfl (hb hby at_154) rfl rfl ?_
      show Go p e below t T635 m 156 #[iv i0, iv i1, iv i2, iv i3, iv (2 : Int32), iv (own_a i0 i1 i2), iv (own_cc i0 i1 i2), iv (own_b i0 i1 i2), rv b586, rv ta_635, .val (.double (FP.i2d (own_a i0 i1 i2))), .second, .unset] [(.ref ta_635)]
      refine XT.iconstV X635.here hx rfl (0 : Int32) (hb hby at_156) (by decide) ?_
      show Go p e below t T635 m 157 #[iv i0, iv i1, iv i2, iv i3, iv (2 : Int32), iv (own_a i0 i1 i2), iv (own_cc i0 i1 i2), iv (own_b i0 i1 i2), rv b586, rv ta_635, .val (.double (FP.i2d (own_a i0 i1 i2))), .second, .unset] [(.int (0 : Int32)), (.ref ta_635)]
      exact k)
    obtain ⟨cl640, Ar640, q640, S640, M640, H640, G640⟩ := id R635_4
    have g641 : Goes p e below S0 (T635.setTop (mkF m 164 #[iv i0, iv i1, iv i2, iv i3, iv (2 : Int32), iv (own_a i0 i1 i2), iv (own_cc i0 i1 i2), iv (own_b i0 i1 i2), rv b586, rv ta_635, .val (.double (FP.i2d (own_a i0 i1 i2))), .second, .unset] [(.double (FP.i2d (own_a i0 i1 i2))), (.double (FP.i2d (own_a i0 i1 i2))), (.double (0 : UInt64)), (.ref d0_635)])) := fun t k => g639 t (by
      refine X635.aaload hx (j := (0 : Int32)) (v := (.ref d0_635)) Ar640.1 (State.isArrayOf_alike hZ.alike Ar640.2.1) rfl Ar640.2.2 (inb_of S640 ⟨by decide, by decide⟩) (H640.at (inb_of S640 ⟨by decide, by decide⟩) rfl) (g := (mkF m 157 #[iv i0, iv i1, iv i2, iv i3, iv (2 : Int32), iv (own_a i0 i1 i2), iv (own_cc i0 i1 i2), iv (own_b i0 i1 i2), rv b586, rv ta_635, .val (.double (FP.i2d (own_a i0 i1 i2))), .second, .unset] [(.int (0 : Int32)), (.ref ta_635)])) rfl rfl (hb hby at_157) _ ?_
      show Go p e below t T635 m 158 #[iv i0, iv i1, iv i2, iv i3, iv (2 : Int32), iv (own_a i0 i1 i2), iv (own_cc i0 i1 i2), iv (own_b i0 i1 i2), rv b586, rv ta_635, .val (.double (FP.i2d (own_a i0 i1 i2))), .second, .unset] [(.ref d0_635)]
      refine XS.dconst0 X635.here hx rfl (hb hby at_158) (v := (0 : UInt64)) rfl ?_
      show Go p e below t T635 m 159 #[iv i0, iv i1, iv i2, iv i3, iv (2 : Int32), iv (own_a i0 i1 i2), iv (own_cc i0 i1 i2), iv (own_b i0 i1 i2), rv b586, rv ta_635, .val (.double (FP.i2d (own_a i0 i1 i2))), .second, .unset] [(.double (0 : UInt64)), (.ref d0_635)]
      refine XS.iload X635.here hx rfl (hb hby at_159) rfl ?_
      show Go p e below t T635 m 161 #[iv i0, iv i1, iv i2, iv i3, iv (2 : Int32), iv (own_a i0 i1 i2), iv (own_cc i0 i1 i2), iv (own_b i0 i1 i2), rv b586, rv ta_635, .val (.double (FP.i2d (own_a i0 i1 i2))), .second, .unset] [(.int (own_a i0 i1 i2)), (.double (0 : UInt64)), (.ref d0_635)]
      refine XS.i2dS X635.here hx rfl (hb hby at_161) rfl rfl ?_
      show Go p e below t T635 m 162 #[iv i0, iv i1, iv i2, iv i3, iv (2 : Int32), iv (own_a i0 i1 i2), iv (own_cc i0 i1 i2), iv (own_b i0 i1 i2), rv b586, rv ta_635, .val (.double (FP.i2d (own_a i0 i1 i2))), .second, .unset] [(.double (FP.i2d (own_a i0 i1 i2))), (.double (0 : UInt64)), (.ref d0_635)]
      refine XS.dload X635.here hx rfl (hb hby at_162) rfl ?_
      show Go p e below t T635 m 164 #[iv i0, iv i1, iv i2, iv i3, iv (2 : Int32), iv (own_a i0 i1 i2), iv (own_cc i0 i1 i2), iv (own_b i0 i1 i2), rv b586, rv ta_635, .val (.double (FP.i2d (own_a i0 i1 i2))), .second, .unset] [(.double (FP.i2d (own_a i0 i1 i2))), (.double (FP.i2d (own_a i0 i1 i2))), (.double (0 : UInt64)), (.ref d0_635)]
      exact k)
    obtain ⟨_, _, ⟨T642, L642, k642, n642⟩, -, X642, ⟨Lc642, hQ642, l642, y642, z642⟩, st642⟩ := Jvm.LawKit.callS X635 hx (y := (⟨"com/example/nimble_retrieval/nimbleretrieval/runs/TrainedMergeInputsPinLaw", "expected", "(DD)D"⟩ : MethodName)) hown (mvT hZ (hw _ (List.mem_of_getElem? (i := 138) rfl))) (mvT hZ (hw _ (List.mem_of_getElem? (i := 139) rfl))) (mvT hZ (hw _ (List.mem_of_getElem? (i := 140) rfl))) (mvT hZ (hw _ (List.mem_of_getElem? (i := 141) rfl))) (by decide) (backOf (W := 3) (rm_exp l Z a0 hw [] (FP.i2d (own_a i0 i1 i2)) (FP.i2d (own_a i0 i1 i2))  T635.heap n0 (Nat.le_trans Z0 (Nat.le_trans (Nat.le_trans (Nat.le_trans (Nat.le_trans (Nat.le_trans (Nat.le_trans (Nat.le_trans (Nat.le_trans (Nat.le_trans (Nat.le_trans (Nat.le_trans (Nat.le_refl _) E586.1) R592_0.1) E595.1) E600.1) R603_0.1) R605_0.1) E622.1) E627.1) R630_0.1) R632_0.1) R635_0.1)) (Jvm.Free.Fl.i2d_fin _) (Jvm.Free.Fl.i2d_fin _)) hZ (hw _ (List.mem_of_getElem? (i := 141) rfl)) (hw _ (List.mem_of_getElem? (i := 140) rfl)) (by decide) (by decide)) (g := (mkF m 164 #[iv i0, iv i1, iv i2, iv i3, iv (2 : Int32), iv (own_a i0 i1 i2), iv (own_cc i0 i1 i2), iv (own_b i0 i1 i2), rv b586, rv ta_635, .val (.double (FP.i2d (own_a i0 i1 i2))), .second, .unset] [(.double (FP.i2d (own_a i0 i1 i2))), (.double (FP.i2d (own_a i0 i1 i2))), (.double (0 : UInt64)), (.ref d0_635)])) rfl (by rw [hml]; rfl) (argsL := [(.double (FP.i2d (own_a i0 i1 i2))), (.double (FP.i2d (own_a i0 i1 i2)))]) (rest := [(.double (0 : UInt64)), (.ref d0_635)]) (lenOf pd12 rfl) rfl (by show 2 * 0 + _ ≤ _; exact Nat.le_of_eq rfl) (hb hby at_164) (fun _ _ => ⟨rfl, rfl, (by decide : 11 + 0 ≤ _), (by decide : 39 + 0 ≤ _)⟩)
    dsimp only [Pt.U, Pt.locs, Pt.cells, Pt.slots] at X642 l642 y642 z642 st642 hQ642
    subst l642 y642 z642
    obtain ⟨rfl, N642, e642⟩ := hQ642
    have M642 := Fr.app M635 N642
    have g643 : Goes p e below S0 (T642.setTop (mkF m 167 #[iv i0, iv i1, iv i2, iv i3, iv (2 : Int32), iv (own_a i0 i1 i2), iv (own_cc i0 i1 i2), iv (own_b i0 i1 i2), rv b586, rv ta_635, .val (.double (FP.i2d (own_a i0 i1 i2))), .second, .unset] [(.double (f_exp (FP.i2d (own_a i0 i1 i2)) (FP.i2d (own_a i0 i1 i2)))), (.double (0 : UInt64)), (.ref d0_635)])) := fun t k => g641 t (st642 t k)
    obtain ⟨_, _, ⟨T644, L644, k644, n644⟩, -, X644, ⟨Lc644, hQ644, l644, y644, z644⟩, st644⟩ := Jvm.LawKit.callS X642 hx (y := (⟨"com/example/nimble_retrieval/nimbleretrieval/runs/TrainedMergeInputsPinLaw", "row", "([DDD)Z"⟩ : MethodName)) hown (mvT hZ (hw _ (List.mem_of_getElem? (i := 142) rfl))) (mvT hZ (hw _ (List.mem_of_getElem? (i := 143) rfl))) (mvT hZ (hw _ (List.mem_of_getElem? (i := 140) rfl))) (mvT hZ (hw _ (List.mem_of_getElem? (i := 144) rfl))) (by decide) (backOf (W := 0) (rm_row l Z a0 hw [] d0_635 (0 : UInt64) (f_exp (FP.i2d (own_a i0 i1 i2)) (FP.i2d (own_a i0 i1 i2))) (FP.dsub (4607182418800017408 : UInt64) (FP.ddiv (4607182418800017408 : UInt64) (FP.i2d (1 : Int32)))) (own_sc (FP.i2d (own_a i0 i1 i2)) (FP.i2d (own_a i0 i1 i2))) dk0_635 T635.heap n0 (Nat.le_trans Z0 (Nat.le_trans (Nat.le_trans (Nat.le_trans (Nat.le_trans (Nat.le_trans (Nat.le_trans (Nat.le_trans (Nat.le_trans (Nat.le_trans (Nat.le_trans (Nat.le_trans (Nat.le_refl _) E586.1) R592_0.1) E595.1) E600.1) R603_0.1) R605_0.1) E622.1) E627.1) R630_0.1) R632_0.1) R635_0.1)) R635_5) hZ (hw _ (List.mem_of_getElem? (i := 144) rfl)) (hw _ (List.mem_of_getElem? (i := 140) rfl)) (by decide) (by decide)) (g := (mkF m 167 #[iv i0, iv i1, iv i2, iv i3, iv (2 : Int32), iv (own_a i0 i1 i2), iv (own_cc i0 i1 i2), iv (own_b i0 i1 i2), rv b586, rv ta_635, .val (.double (FP.i2d (own_a i0 i1 i2))), .second, .unset] [(.double (f_exp (FP.i2d (own_a i0 i1 i2)) (FP.i2d (own_a i0 i1 i2)))), (.double (0 : UInt64)), (.ref d0_635)])) rfl (by rw [hml]; rfl) (argsL := [(.ref d0_635), (.double (0 : UInt64)), (.double (f_exp (FP.i2d (own_a i0 i1 i2)) (FP.i2d (own_a i0 i1 i2))))]) (rest := []) (lenOf pd13 rfl) rfl (by show 2 * 0 + _ ≤ _; exact Nat.le_of_eq rfl) (hb hby at_167) (fun _ _ => ⟨rfl, e642, (by decide : 11 + 0 ≤ _), (by decide : 39 + 0 ≤ _)⟩)
    dsimp only [Pt.U, Pt.locs, Pt.cells, Pt.slots] at X644 l644 y644 z644 st644 hQ644
    subst l644 y644 z644
    obtain ⟨rfl, N644, e644⟩ := hQ644
    have M644 := Fr.app M642 N644
    have g645 : Goes p e below S0 (T644.setTop (mkF m 170 #[iv i0, iv i1, iv i2, iv i3, iv (2 : Int32), iv (own_a i0 i1 i2), iv (own_cc i0 i1 i2), iv (own_b i0 i1 i2), rv b586, rv ta_635, .val (.double (FP.i2d (own_a i0 i1 i2))), .second, .unset] [(.int (f_row (0 : UInt64) (f_exp (FP.i2d (own_a i0 i1 i2)) (FP.i2d (own_a i0 i1 i2))) (FP.dsub (4607182418800017408 : UInt64) (FP.ddiv (4607182418800017408 : UInt64) (FP.i2d (1 : Int32)))) (own_sc (FP.i2d (own_a i0 i1 i2)) (FP.i2d (own_a i0 i1 i2)))))])) := fun t k => g643 t (st644 t k)
    rw [show (f_row (0 : UInt64) (f_exp (FP.i2d (own_a i0 i1 i2)) (FP.i2d (own_a i0 i1 i2))) (FP.dsub (4607182418800017408 : UInt64) (FP.ddiv (4607182418800017408 : UInt64) (FP.i2d (1 : Int32)))) (own_sc (FP.i2d (own_a i0 i1 i2)) (FP.i2d (own_a i0 i1 i2)))) = (1 : Int32) from own_r0 (own_a i0 i1 i2)] at g645
    have g646 : Goes p e below S0 (T644.setTop (mkF m 186 #[iv i0, iv i1, iv i2, iv i3, iv (2 : Int32), iv (own_a i0 i1 i2), iv (own_cc i0 i1 i2), iv (own_b i0 i1 i2), rv b586, rv ta_635, .val (.double (FP.i2d (own_a i0 i1 i2))), .second, iv (1 : Int32)] [(.int (1 : Int32)), (.ref ta_635)])) := fun t k => g645 t (by
      refine XS.istore X644.here hx rfl (hb hby at_170) rfl (l' := #[iv i0, iv i1, iv i2, iv i3, iv (2 : Int32), iv (own_a i0 i1 i2), iv (own_cc i0 i1 i2), iv (own_b i0 i1 i2), rv b586, rv ta_635, .val (.double (FP.i2d (own_a i0 i1 i2))), .second, iv (1 : Int32)]) rfl ?_
      show Go p e below t T644 m 172 #[iv i0, iv i1, iv i2, iv i3, iv (2 : Int32), iv (own_a i0 i1 i2), iv (own_cc i0 i1 i2), iv (own_b i0 i1 i2), rv b586, rv ta_635, .val (.double (FP.i2d (own_a i0 i1 i2))), .second, iv (1 : Int32)] []
      refine XS.iload X644.here hx rfl (hb hby at_172) rfl ?_
      show Go p e below t T644 m 174 #[iv i0, iv i1, iv i2, iv i3, iv (2 : Int32), iv (own_a i0 i1 i2), iv (own_cc i0 i1 i2), iv (own_b i0 i1 i2), rv b586, rv ta_635, .val (.double (FP.i2d (own_a i0 i1 i2))), .second, iv (1 : Int32)] [(.int (2 : Int32))]
      refine XT.iconstV X644.here hx rfl (2 : Int32) (hb hby at_174) (by decide) ?_
      show Go p e below t T644 m 175 #[iv i0, iv i1, iv i2, iv i3, iv (2 : Int32), iv (own_a i0 i1 i2), iv (own_cc i0 i1 i2), iv (own_b i0 i1 i2), rv b586, rv ta_635, .val (.double (FP.i2d (own_a i0 i1 i2))), .second, iv (1 : Int32)] [(.int (2 : Int32)), (.int (2 : Int32))]
      refine XS.icmpNo X644.here hx rfl (hb hby at_175) rfl (XT.ii_lt_f (by decide)) ?_
      show Go p e below t T644 m 178 #[iv i0, iv i1, iv i2, iv i3, iv (2 : Int32), iv (own_a i0 i1 i2), iv (own_cc i0 i1 i2), iv (own_b i0 i1 i2), rv b586, rv ta_635, .val (.double (FP.i2d (own_a i0 i1 i2))), .second, iv (1 : Int32)] []
      refine XS.iload X644.here hx rfl (hb hby at_178) rfl ?_
      show Go p e below t T644 m 180 #[iv i0, iv i1, iv i2, iv i3, iv (2 : Int32), iv (own_a i0 i1 i2), iv (own_cc i0 i1 i2), iv (own_b i0 i1 i2), rv b586, rv ta_635, .val (.double (FP.i2d (own_a i0 i1 i2))), .second, iv (1 : Int32)] [(.int (1 : Int32))]
      refine XS.ifNo X644.here hx rfl (hb hby at_180) rfl (XT.i0_eq_f (by decide)) ?_
      show Go p e below t T644 m 183 #[iv i0, iv i1, iv i2, iv i3, iv (2 : Int32), iv (own_a i0 i1 i2), iv (own_cc i0 i1 i2), iv (own_b i0 i1 i2), rv b586, rv ta_635, .val (.double (FP.i2d (own_a i0 i1 i2))), .second, iv (1 : Int32)] []
      refine XS.aload X644.here hx rfl (hb hby at_183) rfl rfl ?_
      show Go p e below t T644 m 185 #[iv i0, iv i1, iv i2, iv i3, iv (2 : Int32), iv (own_a i0 i1 i2), iv (own_cc i0 i1 i2), iv (own_b i0 i1 i2), rv b586, rv ta_635, .val (.double (FP.i2d (own_a i0 i1 i2))), .second, iv (1 : Int32)] [(.ref ta_635)]
      refine XT.iconstV X644.here hx rfl (1 : Int32) (hb hby at_185) (by decide) ?_
      show Go p e below t T644 m 186 #[iv i0, iv i1, iv i2, iv i3, iv (2 : Int32), iv (own_a i0 i1 i2), iv (own_cc i0 i1 i2), iv (own_b i0 i1 i2), rv b586, rv ta_635, .val (.double (FP.i2d (own_a i0 i1 i2))), .second, iv (1 : Int32)] [(.int (1 : Int32)), (.ref ta_635)]
      exact k)
    obtain ⟨cl647, Ar647, q647, S647, M647, H647, G647⟩ := id R635_4
    have g648 : Goes p e below S0 (T644.setTop (mkF m 195 #[iv i0, iv i1, iv i2, iv i3, iv (2 : Int32), iv (own_a i0 i1 i2), iv (own_cc i0 i1 i2), iv (own_b i0 i1 i2), rv b586, rv ta_635, .val (.double (FP.i2d (own_a i0 i1 i2))), .second, iv (1 : Int32)] [(.double (FP.i2d (own_a i0 i1 i2))), (.double (FP.i2d (own_b i0 i1 i2))), (.double (4602678819172646912 : UInt64)), (.ref d1_635)])) := fun t k => g646 t (by
      refine X644.aaload hx (j := (1 : Int32)) (v := (.ref d1_635)) (by rw [e644]; exact Ar647.1) (State.isArrayOf_alike hZ.alike Ar647.2.1) rfl Ar647.2.2 (inb_of S647 ⟨by decide, by decide⟩) (H647.at (inb_of S647 ⟨by decide, by decide⟩) rfl) (g := (mkF m 186 #[iv i0, iv i1, iv i2, iv i3, iv (2 : Int32), iv (own_a i0 i1 i2), iv (own_cc i0 i1 i2), iv (own_b i0 i1 i2), rv b586, rv ta_635, .val (.double (FP.i2d (own_a i0 i1 i2))), .second, iv (1 : Int32)] [(.int (1 : Int32)), (.ref ta_635)])) rfl rfl (hb hby at_186) _ ?_
      show Go p e below t T644 m 187 #[iv i0, iv i1, iv i2, iv i3, iv (2 : Int32), iv (own_a i0 i1 i2), iv (own_cc i0 i1 i2), iv (own_b i0 i1 i2), rv b586, rv ta_635, .val (.double (FP.i2d (own_a i0 i1 i2))), .second, iv (1 : Int32)] [(.ref d1_635)]
      refine X644.ldc2DoubleC hx hown (mvT hZ (hw _ (List.mem_of_getElem? (i := 145) rfl))) (g := (mkF m 187 #[iv i0, iv i1, iv i2, iv i3, iv (2 : Int32), iv (own_a i0 i1 i2), iv (own_cc i0 i1 i2), iv (own_b i0 i1 i2), rv b586, rv ta_635, .val (.double (FP.i2d (own_a i0 i1 i2))), .second, iv (1 : Int32)] [(.ref d1_635)])) rfl (hb hby at_187) _ ?_
      show Go p e below t T644 m 190 #[iv i0, iv i1, iv i2, iv i3, iv (2 : Int32), iv (own_a i0 i1 i2), iv (own_cc i0 i1 i2), iv (own_b i0 i1 i2), rv b586, rv ta_635, .val (.double (FP.i2d (own_a i0 i1 i2))), .second, iv (1 : Int32)] [(.double (4602678819172646912 : UInt64)), (.ref d1_635)]
      refine XS.iload X644.here hx rfl (hb hby at_190) rfl ?_
      show Go p e below t T644 m 192 #[iv i0, iv i1, iv i2, iv i3, iv (2 : Int32), iv (own_a i0 i1 i2), iv (own_cc i0 i1 i2), iv (own_b i0 i1 i2), rv b586, rv ta_635, .val (.double (FP.i2d (own_a i0 i1 i2))), .second, iv (1 : Int32)] [(.int (own_b i0 i1 i2)), (.double (4602678819172646912 : UInt64)), (.ref d1_635)]
      refine XS.i2dS X644.here hx rfl (hb hby at_192) rfl rfl ?_
      show Go p e below t T644 m 193 #[iv i0, iv i1, iv i2, iv i3, iv (2 : Int32), iv (own_a i0 i1 i2), iv (own_cc i0 i1 i2), iv (own_b i0 i1 i2), rv b586, rv ta_635, .val (.double (FP.i2d (own_a i0 i1 i2))), .second, iv (1 : Int32)] [(.double (FP.i2d (own_b i0 i1 i2))), (.double (4602678819172646912 : UInt64)), (.ref d1_635)]
      refine XS.dload X644.here hx rfl (hb hby at_193) rfl ?_
      show Go p e below t T644 m 195 #[iv i0, iv i1, iv i2, iv i3, iv (2 : Int32), iv (own_a i0 i1 i2), iv (own_cc i0 i1 i2), iv (own_b i0 i1 i2), rv b586, rv ta_635, .val (.double (FP.i2d (own_a i0 i1 i2))), .second, iv (1 : Int32)] [(.double (FP.i2d (own_a i0 i1 i2))), (.double (FP.i2d (own_b i0 i1 i2))), (.double (4602678819172646912 : UInt64)), (.ref d1_635)]
      exact k)
    obtain ⟨_, _, ⟨T649, L649, k649, n649⟩, -, X649, ⟨Lc649, hQ649, l649, y649, z649⟩, st649⟩ := Jvm.LawKit.callS X644 hx (y := (⟨"com/example/nimble_retrieval/nimbleretrieval/runs/TrainedMergeInputsPinLaw", "expected", "(DD)D"⟩ : MethodName)) hown (mvT hZ (hw _ (List.mem_of_getElem? (i := 138) rfl))) (mvT hZ (hw _ (List.mem_of_getElem? (i := 139) rfl))) (mvT hZ (hw _ (List.mem_of_getElem? (i := 140) rfl))) (mvT hZ (hw _ (List.mem_of_getElem? (i := 141) rfl))) (by decide) (backOf (W := 3) (rm_exp l Z a0 hw [] (FP.i2d (own_b i0 i1 i2)) (FP.i2d (own_a i0 i1 i2))  T635.heap n0 (Nat.le_trans Z0 (Nat.le_trans (Nat.le_trans (Nat.le_trans (Nat.le_trans (Nat.le_trans (Nat.le_trans (Nat.le_trans (Nat.le_trans (Nat.le_trans (Nat.le_trans (Nat.le_trans (Nat.le_refl _) E586.1) R592_0.1) E595.1) E600.1) R603_0.1) R605_0.1) E622.1) E627.1) R630_0.1) R632_0.1) R635_0.1)) (Jvm.Free.Fl.i2d_fin _) (Jvm.Free.Fl.i2d_fin _)) hZ (hw _ (List.mem_of_getElem? (i := 141) rfl)) (hw _ (List.mem_of_getElem? (i := 140) rfl)) (by decide) (by decide)) (g := (mkF m 195 #[iv i0, iv i1, iv i2, iv i3, iv (2 : Int32), iv (own_a i0 i1 i2), iv (own_cc i0 i1 i2), iv (own_b i0 i1 i2), rv b586, rv ta_635, .val (.double (FP.i2d (own_a i0 i1 i2))), .second, iv (1 : Int32)] [(.double (FP.i2d (own_a i0 i1 i2))), (.double (FP.i2d (own_b i0 i1 i2))), (.double (4602678819172646912 : UInt64)), (.ref d1_635)])) rfl (by rw [hml]; rfl) (argsL := [(.double (FP.i2d (own_b i0 i1 i2))), (.double (FP.i2d (own_a i0 i1 i2)))]) (rest := [(.double (4602678819172646912 : UInt64)), (.ref d1_635)]) (lenOf pd12 rfl) rfl (by show 2 * 0 + _ ≤ _; exact Nat.le_of_eq rfl) (hb hby at_195) (fun _ _ => ⟨rfl, e644, (by decide : 11 + 0 ≤ _), (by decide : 39 + 0 ≤ _)⟩)
    dsimp only [Pt.U, Pt.locs, Pt.cells, Pt.slots] at X649 l649 y649 z649 st649 hQ649
    subst l649 y649 z649
    obtain ⟨rfl, N649, e649⟩ := hQ649
    have M649 := Fr.app M644 N649
    have g650 : Goes p e below S0 (T649.setTop (mkF m 198 #[iv i0, iv i1, iv i2, iv i3, iv (2 : Int32), iv (own_a i0 i1 i2), iv (own_cc i0 i1 i2), iv (own_b i0 i1 i2), rv b586, rv ta_635, .val (.double (FP.i2d (own_a i0 i1 i2))), .second, iv (1 : Int32)] [(.double (f_exp (FP.i2d (own_b i0 i1 i2)) (FP.i2d (own_a i0 i1 i2)))), (.double (4602678819172646912 : UInt64)), (.ref d1_635)])) := fun t k => g648 t (st649 t k)
    obtain ⟨_, _, ⟨T651, L651, k651, n651⟩, -, X651, ⟨Lc651, hQ651, l651, y651, z651⟩, st651⟩ := Jvm.LawKit.callS X649 hx (y := (⟨"com/example/nimble_retrieval/nimbleretrieval/runs/TrainedMergeInputsPinLaw", "row", "([DDD)Z"⟩ : MethodName)) hown (mvT hZ (hw _ (List.mem_of_getElem? (i := 142) rfl))) (mvT hZ (hw _ (List.mem_of_getElem? (i := 143) rfl))) (mvT hZ (hw _ (List.mem_of_getElem? (i := 140) rfl))) (mvT hZ (hw _ (List.mem_of_getElem? (i := 144) rfl))) (by decide) (backOf (W := 0) (rm_row l Z a0 hw [] d1_635 (4602678819172646912 : UInt64) (f_exp (FP.i2d (own_b i0 i1 i2)) (FP.i2d (own_a i0 i1 i2))) (FP.dsub (4607182418800017408 : UInt64) (FP.ddiv (4607182418800017408 : UInt64) (FP.i2d (2 : Int32)))) (own_sc (FP.i2d (own_a i0 i1 i2)) (FP.i2d (own_b i0 i1 i2))) dk1_635 T635.heap n0 (Nat.le_trans Z0 (Nat.le_trans (Nat.le_trans (Nat.le_trans (Nat.le_trans (Nat.le_trans (Nat.le_trans (Nat.le_trans (Nat.le_trans (Nat.le_trans (Nat.le_trans (Nat.le_trans (Nat.le_refl _) E586.1) R592_0.1) E595.1) E600.1) R603_0.1) R605_0.1) E622.1) E627.1) R630_0.1) R632_0.1) R635_0.1)) R635_6) hZ (hw _ (List.mem_of_getElem? (i := 144) rfl)) (hw _ (List.mem_of_getElem? (i := 140) rfl)) (by decide) (by decide)) (g := (mkF m 198 #[iv i0, iv i1, iv i2, iv i3, iv (2 : Int32), iv (own_a i0 i1 i2), iv (own_cc i0 i1 i2), iv (own_b i0 i1 i2), rv b586, rv ta_635, .val (.double (FP.i2d (own_a i0 i1 i2))), .second, iv (1 : Int32)] [(.double (f_exp (FP.i2d (own_b i0 i1 i2)) (FP.i2d (own_a i0 i1 i2)))), (.double (4602678819172646912 : UInt64)), (.ref d1_635)])) rfl (by rw [hml]; rfl) (argsL := [(.ref d1_635), (.double (4602678819172646912 : UInt64)), (.double (f_exp (FP.i2d (own_b i0 i1 i2)) (FP.i2d (own_a i0 i1 i2))))]) (rest := []) (lenOf pd13 rfl) rfl (by show 2 * 0 + _ ≤ _; exact Nat.le_of_eq rfl) (hb hby at_198) (fun _ _ => ⟨rfl, e649, (by decide : 11 + 0 ≤ _), (by decide : 39 + 0 ≤ _)⟩)
    dsimp only [Pt.U, Pt.locs, Pt.cells, Pt.slots] at X651 l651 y651 z651 st651 hQ651
    subst l651 y651 z651
    obtain ⟨rfl, N651, e651⟩ := hQ651
    have M651 := Fr.app M649 N651
    have g652 : Goes p e below S0 (T651.setTop (mkF m 201 #[iv i0, iv i1, iv i2, iv i3, iv (2 : Int32), iv (own_a i0 i1 i2), iv (own_cc i0 i1 i2), iv (own_b i0 i1 i2), rv b586, rv ta_635, .val (.double (FP.i2d (own_a i0 i1 i2))), .second, iv (1 : Int32)] [(.int (f_row (4602678819172646912 : UInt64) (f_exp (FP.i2d (own_b i0 i1 i2)) (FP.i2d (own_a i0 i1 i2))) (FP.dsub (4607182418800017408 : UInt64) (FP.ddiv (4607182418800017408 : UInt64) (FP.i2d (2 : Int32)))) (own_sc (FP.i2d (own_a i0 i1 i2)) (FP.i2d (own_b i0 i1 i2)))))])) := fun t k => g650 t (st651 t k)
    rw [show (f_row (4602678819172646912 : UInt64) (f_exp (FP.i2d (own_b i0 i1 i2)) (FP.i2d (own_a i0 i1 i2))) (FP.dsub (4607182418800017408 : UInt64) (FP.ddiv (4607182418800017408 : UInt64) (FP.i2d (2 : Int32)))) (own_sc (FP.i2d (own_a i0 i1 i2)) (FP.i2d (own_b i0 i1 i2)))) = (1 : Int32) from own_r1 (own_a i0 i1 i2) (own_b i0 i1 i2)] at g652
    have g653 : Goes p e below S0 (T651.setTop (mkF m 252 #[iv i0, iv i1, iv i2, iv i3, iv (2 : Int32), iv (own_a i0 i1 i2), iv (own_cc i0 i1 i2), iv (own_b i0 i1 i2), rv b586, rv ta_635, .val (.double (FP.i2d (own_a i0 i1 i2))), .second, iv (1 : Int32)] [(.int (1 : Int32))])) := fun t k => g652 t (by
      refine XS.ifNo X651.here hx rfl (hb hby at_201) rfl (XT.i0_eq_f (by decide)) ?_
      show Go p e below t T651 m 204 #[iv i0, iv i1, iv i2, iv i3, iv (2 : Int32), iv (own_a i0 i1 i2), iv (own_cc i0 i1 i2), iv (own_b i0 i1 i2), rv b586, rv ta_635, .val (.double (FP.i2d (own_a i0 i1 i2))), .second, iv (1 : Int32)] []
      refine XT.iconstV X651.here hx rfl (1 : Int32) (hb hby at_204) (by decide) ?_
      show Go p e below t T651 m 205 #[iv i0, iv i1, iv i2, iv i3, iv (2 : Int32), iv (own_a i0 i1 i2), iv (own_cc i0 i1 i2), iv (own_b i0 i1 i2), rv b586, rv ta_635, .val (.double (FP.i2d (own_a i0 i1 i2))), .second, iv (1 : Int32)] [(.int (1 : Int32))]
      refine XS.goto X651.here hx rfl (pc0 := 205) (pc' := 209) rfl (hb hby at_205) (by decide) (by decide) ?_
      show Go p e below t T651 m 209 #[iv i0, iv i1, iv i2, iv i3, iv (2 : Int32), iv (own_a i0 i1 i2), iv (own_cc i0 i1 i2), iv (own_b i0 i1 i2), rv b586, rv ta_635, .val (.double (FP.i2d (own_a i0 i1 i2))), .second, iv (1 : Int32)] [(.int (1 : Int32))]
      refine XS.istore X651.here hx rfl (hb hby at_209) rfl (l' := #[iv i0, iv i1, iv i2, iv i3, iv (2 : Int32), iv (own_a i0 i1 i2), iv (own_cc i0 i1 i2), iv (own_b i0 i1 i2), rv b586, rv ta_635, .val (.double (FP.i2d (own_a i0 i1 i2))), .second, iv (1 : Int32)]) rfl ?_
      show Go p e below t T651 m 211 #[iv i0, iv i1, iv i2, iv i3, iv (2 : Int32), iv (own_a i0 i1 i2), iv (own_cc i0 i1 i2), iv (own_b i0 i1 i2), rv b586, rv ta_635, .val (.double (FP.i2d (own_a i0 i1 i2))), .second, iv (1 : Int32)] []
      refine XS.iload X651.here hx rfl (hb hby at_211) rfl ?_
      show Go p e below t T651 m 213 #[iv i0, iv i1, iv i2, iv i3, iv (2 : Int32), iv (own_a i0 i1 i2), iv (own_cc i0 i1 i2), iv (own_b i0 i1 i2), rv b586, rv ta_635, .val (.double (FP.i2d (own_a i0 i1 i2))), .second, iv (1 : Int32)] [(.int (2 : Int32))]
      refine XT.iconstV X651.here hx rfl (3 : Int32) (hb hby at_213) (by decide) ?_
      show Go p e below t T651 m 214 #[iv i0, iv i1, iv i2, iv i3, iv (2 : Int32), iv (own_a i0 i1 i2), iv (own_cc i0 i1 i2), iv (own_b i0 i1 i2), rv b586, rv ta_635, .val (.double (FP.i2d (own_a i0 i1 i2))), .second, iv (1 : Int32)] [(.int (3 : Int32)), (.int (2 : Int32))]
      refine XS.icmpYes X651.here hx rfl (pc0 := 214) (pc' := 250) rfl (hb hby at_214) rfl (XT.ii_lt_t (by decide)) (by decide) (by decide) ?_
      show Go p e below t T651 m 250 #[iv i0, iv i1, iv i2, iv i3, iv (2 : Int32), iv (own_a i0 i1 i2), iv (own_cc i0 i1 i2), iv (own_b i0 i1 i2), rv b586, rv ta_635, .val (.double (FP.i2d (own_a i0 i1 i2))), .second, iv (1 : Int32)] []
      refine XS.iload X651.here hx rfl (hb hby at_250) rfl ?_
      show Go p e below t T651 m 252 #[iv i0, iv i1, iv i2, iv i3, iv (2 : Int32), iv (own_a i0 i1 i2), iv (own_cc i0 i1 i2), iv (own_b i0 i1 i2), rv b586, rv ta_635, .val (.double (FP.i2d (own_a i0 i1 i2))), .second, iv (1 : Int32)] [(.int (1 : Int32))]
      exact k)
    obtain ⟨fs, hr, hrun, hended, hE1, hE2, hE3, hE4⟩ := Stand.leaveW (s := s) (vm₁ := T627.vm) X651 sn627 (by rw [e651]; exact (Nat.le_trans (Nat.le_trans (Nat.le_trans ks627 R630_0.1) R632_0.1) R635_0.1)) (v := some (.int (1 : Int32))) (fun h => by rw [Bd.returns] at h; cases h)
    refine ⟨_, _, g653 _ (retN X651 hx (t := .boolean) Bd.returns (by simp) (hb hby at_252) hr), hrun, hended, _, _, rfl, ?_, hE1, hE2, hE3, hE4.mono (by decide) (by decide)⟩
    show Q_law Z i0 i1 i2 i3 da dk h0 n0 _ T651.heap _
    rw [e651]
    exact ⟨rfl, M651⟩
  · skip
    have g654 : Goes p e below S0 (T605.setTop (mkF m 88 #[iv i0, iv i1, iv i2, iv i3, iv (3 : Int32), iv (own_a i0 i1 i2), iv (own_cc i0 i1 i2), iv (own_b i0 i1 i2), rv b586, .unset, .unset, .unset, .unset] [(.ref b586)])) := fun t k => g607 t (by
      refine XS.iload X605.here hx rfl (hb hby at_80) rfl ?_
      show Go p e below t T605 m 82 #[iv i0, iv i1, iv i2, iv i3, iv (3 : Int32), iv (own_a i0 i1 i2), iv (own_cc i0 i1 i2), iv (own_b i0 i1 i2), rv b586, .unset, .unset, .unset, .unset] [(.int (3 : Int32))]
      refine XT.iconstV X605.here hx rfl (2 : Int32) (hb hby at_82) (by decide) ?_
      show Go p e below t T605 m 83 #[iv i0, iv i1, iv i2, iv i3, iv (3 : Int32), iv (own_a i0 i1 i2), iv (own_cc i0 i1 i2), iv (own_b i0 i1 i2), rv b586, .unset, .unset, .unset, .unset] [(.int (2 : Int32)), (.int (3 : Int32))]
      refine XS.icmpNo X605.here hx rfl (hb hby at_83) rfl (XT.ii_lt_f (by decide)) ?_
      show Go p e below t T605 m 86 #[iv i0, iv i1, iv i2, iv i3, iv (3 : Int32), iv (own_a i0 i1 i2), iv (own_cc i0 i1 i2), iv (own_b i0 i1 i2), rv b586, .unset, .unset, .unset, .unset] []
      refine XS.aload X605.here hx rfl (hb hby at_86) rfl rfl ?_
      show Go p e below t T605 m 88 #[iv i0, iv i1, iv i2, iv i3, iv (3 : Int32), iv (own_a i0 i1 i2), iv (own_cc i0 i1 i2), iv (own_b i0 i1 i2), rv b586, .unset, .unset, .unset, .unset] [(.ref b586)]
      exact k)
    obtain ⟨T655, h655, X655, e655, E655, A655, D655, -, st655⟩ := newO X605 hx hZ hown (hw _ (List.mem_of_getElem? (i := 34) rfl)) (hw _ (List.mem_of_getElem? (i := 35) rfl)) (hw _ (List.mem_of_getElem? (i := 36) rfl)) rfl (g := (mkF m 88 #[iv i0, iv i1, iv i2, iv i3, iv (3 : Int32), iv (own_a i0 i1 i2), iv (own_cc i0 i1 i2), iv (own_b i0 i1 i2), rv b586, .unset, .unset, .unset, .unset] [(.ref b586)])) rfl (hb hby at_88) (by decide) (by decide)
    obtain ⟨b655, gb655⟩ : ∃ z, z = T605.heap.size := ⟨_, rfl⟩
    have sz655 : h0.size ≤ b655 := Nat.le_trans (Nat.le_trans (Nat.le_trans (Nat.le_trans (Nat.le_trans (Nat.le_trans (Nat.le_trans (Nat.le_refl _) E586.1) R592_0.1) E595.1) E600.1) R603_0.1) R605_0.1) (Nat.le_of_eq gb655.symm)
    have ng655 : n0 ≤ b655 := Nat.le_trans Z0 sz655
    rw [← gb655] at A655 D655 st655
    have F655_656 : Fld Z h655 b655 "com/example/nimble_retrieval/nimbleretrieval/format/Run$Retrieved" "docno" "Ljava/lang/String;" .null := D655 (Or.inr (hw _ (List.mem_of_getElem? (i := 55) rfl))) (ty := (.object "java/lang/String")) (by decide)
    have F655_657 : Fld Z h655 b655 "com/example/nimble_retrieval/nimbleretrieval/format/Run$Retrieved" "score" "D" (.double (0 : UInt64)) := D655 (Or.inr (hw _ (List.mem_of_getElem? (i := 57) rfl))) (ty := .double) (by decide)
    have g658 : Goes p e below S0 (T655.setTop (mkF m 91 #[iv i0, iv i1, iv i2, iv i3, iv (3 : Int32), iv (own_a i0 i1 i2), iv (own_cc i0 i1 i2), iv (own_b i0 i1 i2), rv b586, .unset, .unset, .unset, .unset] [(.ref b655), (.ref b586)])) := fun t k => g654 t (st655 t k)
    have g659 : Goes p e below S0 (T655.setTop (mkF m 92 #[iv i0, iv i1, iv i2, iv i3, iv (3 : Int32), iv (own_a i0 i1 i2), iv (own_cc i0 i1 i2), iv (own_b i0 i1 i2), rv b586, .unset, .unset, .unset, .unset] [(.ref b655), (.ref b655), (.ref b586)])) := fun t k => g658 t (by
      refine XS.dup X655.here hx rfl (hb hby at_91) rfl rfl ?_
      show Go p e below t T655 m 92 #[iv i0, iv i1, iv i2, iv i3, iv (3 : Int32), iv (own_a i0 i1 i2), iv (own_cc i0 i1 i2), iv (own_b i0 i1 i2), rv b586, .unset, .unset, .unset, .unset] [(.ref b655), (.ref b655), (.ref b586)]
      exact k)
    obtain ⟨a660, T660, h660, kk660, X660, e660, E660, sn660, ks660, hZ, hown, st660⟩ := ldcS (s := s) (vm0 := T600.vm) X655 hx hZ hown (hw _ (List.mem_of_getElem? (i := 90) rfl)) wS e655 sn600 (Nat.le_trans (Nat.le_trans (Nat.le_trans ks600 R603_0.1) R605_0.1) E655.1) (g := (mkF m 92 #[iv i0, iv i1, iv i2, iv i3, iv (3 : Int32), iv (own_a i0 i1 i2), iv (own_cc i0 i1 i2), iv (own_b i0 i1 i2), rv b586, .unset, .unset, .unset, .unset] [(.ref b655), (.ref b655), (.ref b586)])) rfl (hb hby at_92) (n := 4) (by decide) (by decide) (by decide) (by decide)
    have g661 : Goes p e below S0 (T660.setTop (mkF m 94 #[iv i0, iv i1, iv i2, iv i3, iv (3 : Int32), iv (own_a i0 i1 i2), iv (own_cc i0 i1 i2), iv (own_b i0 i1 i2), rv b586, .unset, .unset, .unset, .unset] [(.ref a660), (.ref b655), (.ref b655), (.ref b586)])) := fun t k => g659 t (st660 t k)
    have g662 : Goes p e below S0 (T660.setTop (mkF m 97 #[iv i0, iv i1, iv i2, iv i3, iv (3 : Int32), iv (own_a i0 i1 i2), iv (own_cc i0 i1 i2), iv (own_b i0 i1 i2), rv b586, .unset, .unset, .unset, .unset] [(.double (FP.i2d (own_b i0 i1 i2))), (.ref a660), (.ref b655), (.ref b655), (.ref b586)])) := fun t k => g661 t (by
      refine XS.iload X660.here hx rfl (hb hby at_94) rfl ?_
      show Go p e below t T660 m 96 #[iv i0, iv i1, iv i2, iv i3, iv (3 : Int32), iv (own_a i0 i1 i2), iv (own_cc i0 i1 i2), iv (own_b i0 i1 i2), rv b586, .unset, .unset, .unset, .unset] [(.int (own_b i0 i1 i2)), (.ref a660), (.ref b655), (.ref b655), (.ref b586)]
      refine XS.i2dS X660.here hx rfl (hb hby at_96) rfl rfl ?_
      show Go p e below t T660 m 97 #[iv i0, iv i1, iv i2, iv i3, iv (3 : Int32), iv (own_a i0 i1 i2), iv (own_cc i0 i1 i2), iv (own_b i0 i1 i2), rv b586, .unset, .unset, .unset, .unset] [(.double (FP.i2d (own_b i0 i1 i2))), (.ref a660), (.ref b655), (.ref b655), (.ref b586)]
      exact k)
    obtain ⟨_, _, ⟨T663, L663, k663, n663⟩, -, X663, ⟨Lc663, hQ663, l663, y663, z663⟩, st663⟩ := X660.specialBack hx (y := (⟨"com/example/nimble_retrieval/nimbleretrieval/format/Run$Retrieved", "<init>", "(Ljava/lang/String;D)V"⟩ : MethodName)) rfl hown (mvT hZ (hw _ (List.mem_of_getElem? (i := 45) rfl))) (mvT hZ (hw _ (List.mem_of_getElem? (i := 46) rfl))) (mvT hZ (hw _ (List.mem_of_getElem? (i := 47) rfl))) (by decide) (backOf (W := 2) (rm_ri l Z a0 hw [] b655 a660 (FP.i2d (own_b i0 i1 i2))  h660 n0 (Nat.le_trans Z0 (Nat.le_trans (Nat.le_trans (Nat.le_trans (Nat.le_trans (Nat.le_trans (Nat.le_trans (Nat.le_trans (Nat.le_trans (Nat.le_refl _) E586.1) R592_0.1) E595.1) E600.1) R603_0.1) R605_0.1) E655.1) E660.1)) (A655.ext E660) (F655_656.ext E660) (F655_657.ext E660) ng655) hZ (hw _ (List.mem_of_getElem? (i := 47) rfl)) (hw _ (List.mem_of_getElem? (i := 36) rfl)) (by decide) (by decide)) (g := (mkF m 97 #[iv i0, iv i1, iv i2, iv i3, iv (3 : Int32), iv (own_a i0 i1 i2), iv (own_cc i0 i1 i2), iv (own_b i0 i1 i2), rv b586, .unset, .unset, .unset, .unset] [(.double (FP.i2d (own_b i0 i1 i2))), (.ref a660), (.ref b655), (.ref b655), (.ref b586)])) rfl (by rw [hml]; rfl) (Steps.refl _) (a := b655) (argsL := [(.ref a660), (.double (FP.i2d (own_b i0 i1 i2)))]) (rest := [(.ref b655), (.ref b586)]) (lenOf pd1 rfl) rfl (by show 2 * 0 + _ ≤ _; exact Nat.le_of_eq rfl) (hb hby at_97) (fun _ _ => ⟨rfl, e660, (by decide : 8 + 0 ≤ _), (by decide : 33 + 0 ≤ _)⟩)
    dsimp only [Pt.U, Pt.locs, Pt.cells, Pt.slots] at X663 l663 y663 z663 st663 hQ663
    subst l663 y663 z663
    obtain ⟨rfl, N663, R663_0, R663_1, R663_2⟩ := hQ663
    have M663 := Fr.app M605 N663
    have g664 : Goes p e below S0 (T663.setTop (mkF m 100 #[iv i0, iv i1, iv i2, iv i3, iv (3 : Int32), iv (own_a i0 i1 i2), iv (own_cc i0 i1 i2), iv (own_b i0 i1 i2), rv b586, .unset, .unset, .unset, .unset] [(.ref b655), (.ref b586)])) := fun t k => g662 t (st663.trans k)
    obtain ⟨cq665, kq665, q665a, q665b, q665c⟩ := isOf hZ rfl (((R605_2.ext E655).ext E660).keep R663_0)
    obtain ⟨_, _, ⟨T665, L665, k665, n665⟩, -, X665, ⟨Lc665, hQ665, l665, y665, z665⟩, st665⟩ := X663.interfaceBack hx (xi := (⟨"java/util/List", "add", "(Ljava/lang/Object;)Z"⟩ : MethodName)) (y := (⟨"java/util/ArrayList", "add", "(Ljava/lang/Object;)Z"⟩ : MethodName)) hown (mvT hZ (hw _ (List.mem_of_getElem? (i := 58) rfl))) (mvT hZ (hw _ (List.mem_of_getElem? (i := 59) rfl))) (mvT hZ (hw _ (List.mem_of_getElem? (i := 60) rfl))) (mvT hZ (hw _ (List.mem_of_getElem? (i := 61) rfl))) (mvT hZ (hw _ (List.mem_of_getElem? (i := 62) rfl))) (mvT hZ (hw _ (List.mem_of_getElem? (i := 63) rfl))) (mvT hZ (hw _ (List.mem_of_getElem? (i := 64) rfl))) (mvT hZ (hw _ (List.mem_of_getElem? (i := 65) rfl))) (by decide) (backOf (W := 0) (rm_add1 l Z a0 hw [] b586 b655 tb_605 tk_605 b595 T663.heap n0 (Nat.le_trans Z0 (Nat.le_trans (Nat.le_trans (Nat.le_trans (Nat.le_trans (Nat.le_trans (Nat.le_trans (Nat.le_trans (Nat.le_trans (Nat.le_trans (Nat.le_refl _) E586.1) R592_0.1) E595.1) E600.1) R603_0.1) R605_0.1) E655.1) E660.1) R663_0.1)) (((R605_2.ext E655).ext E660).keep R663_0) (((R605_3.ext E655).ext E660).keep R663_0 (ninS (Nat.ne_of_lt (Nat.lt_of_lt_of_le R605_2.lt (Nat.le_of_eq gb655.symm))) nin0)) (((R605_4.ext E655).ext E660).keep R663_0 (ninS (Nat.ne_of_lt (Nat.lt_of_lt_of_le R605_2.lt (Nat.le_of_eq gb655.symm))) nin0)) (((R605_5.ext E655).ext E660).keep R663_0 (ninS (Nat.ne_of_lt (Nat.lt_of_lt_of_le R605_2.lt (Nat.le_of_eq gb655.symm))) nin0)) ng586 ng605_1 (Nat.ne_of_lt (Nat.lt_of_lt_of_le (((R592_1.ext E595).ext E600).keep R603_0).lt R605_1)) (((R605_6.ext E655).ext E660).keep R663_0 (ninS (Nat.ne_of_lt (Nat.lt_of_lt_of_le R605_6.lt (Nat.le_of_eq gb655.symm))) nin0)) ov_605 R663_1) hZ (hw _ (List.mem_of_getElem? (i := 66) rfl)) (hw _ (List.mem_of_getElem? (i := 10) rfl)) (by decide) (by decide)) q665a q665b q665c (g := (mkF m 100 #[iv i0, iv i1, iv i2, iv i3, iv (3 : Int32), iv (own_a i0 i1 i2), iv (own_cc i0 i1 i2), iv (own_b i0 i1 i2), rv b586, .unset, .unset, .unset, .unset] [(.ref b655), (.ref b586)])) rfl (by rw [hml]; rfl) (Steps.refl _) (argsL := [(.ref b655)]) (rest := []) (lenOf pd6 rfl) rfl (by show 2 * 0 + _ ≤ _; exact Nat.le_of_eq rfl) (hb hby at_100) (fun _ _ => ⟨rfl, rfl, (by decide : 8 + 0 ≤ _), (by decide : 33 + 0 ≤ _)⟩)
    dsimp only [Pt.U, Pt.locs, Pt.cells, Pt.slots] at X665 l665 y665 z665 st665 hQ665
    subst l665 y665 z665
    obtain ⟨rfl, N665, R665_0, R665_1, R665_2, R665_3, R665_4, R665_5⟩ := hQ665
    have M665 := Fr.app M663 N665
    have g666 : Goes p e below S0 (T665.setTop (mkF m 105 #[iv i0, iv i1, iv i2, iv i3, iv (3 : Int32), iv (own_a i0 i1 i2), iv (own_cc i0 i1 i2), iv (own_b i0 i1 i2), rv b586, .unset, .unset, .unset, .unset] [(.int (1 : Int32))])) := fun t k => g664 t (st665.trans k)
    have g667 : Goes p e below S0 (T665.setTop (mkF m 114 #[iv i0, iv i1, iv i2, iv i3, iv (3 : Int32), iv (own_a i0 i1 i2), iv (own_cc i0 i1 i2), iv (own_b i0 i1 i2), rv b586, .unset, .unset, .unset, .unset] [(.ref b586)])) := fun t k => g666 t (by
      refine XS.pop X665.here hx rfl (hb hby at_105) rfl rfl ?_
      show Go p e below t T665 m 106 #[iv i0, iv i1, iv i2, iv i3, iv (3 : Int32), iv (own_a i0 i1 i2), iv (own_cc i0 i1 i2), iv (own_b i0 i1 i2), rv b586, .unset, .unset, .unset, .unset] []
      refine XS.iload X665.here hx rfl (hb hby at_106) rfl ?_
      show Go p e below t T665 m 108 #[iv i0, iv i1, iv i2, iv i3, iv (3 : Int32), iv (own_a i0 i1 i2), iv (own_cc i0 i1 i2), iv (own_b i0 i1 i2), rv b586, .unset, .unset, .unset, .unset] [(.int (3 : Int32))]
      refine XT.iconstV X665.here hx rfl (3 : Int32) (hb hby at_108) (by decide) ?_
      show Go p e below t T665 m 109 #[iv i0, iv i1, iv i2, iv i3, iv (3 : Int32), iv (own_a i0 i1 i2), iv (own_cc i0 i1 i2), iv (own_b i0 i1 i2), rv b586, .unset, .unset, .unset, .unset] [(.int (3 : Int32)), (.int (3 : Int32))]
      refine XS.icmpNo X665.here hx rfl (hb hby at_109) rfl (XT.ii_lt_f (by decide)) ?_
      show Go p e below t T665 m 112 #[iv i0, iv i1, iv i2, iv i3, iv (3 : Int32), iv (own_a i0 i1 i2), iv (own_cc i0 i1 i2), iv (own_b i0 i1 i2), rv b586, .unset, .unset, .unset, .unset] []
      refine XS.aload X665.here hx rfl (hb hby at_112) rfl rfl ?_
      show Go p e below t T665 m 114 #[iv i0, iv i1, iv i2, iv i3, iv (3 : Int32), iv (own_a i0 i1 i2), iv (own_cc i0 i1 i2), iv (own_b i0 i1 i2), rv b586, .unset, .unset, .unset, .unset] [(.ref b586)]
      exact k)
    obtain ⟨T668, h668, X668, e668, E668, A668, D668, -, st668⟩ := newO X665 hx hZ hown (hw _ (List.mem_of_getElem? (i := 34) rfl)) (hw _ (List.mem_of_getElem? (i := 35) rfl)) (hw _ (List.mem_of_getElem? (i := 36) rfl)) rfl (g := (mkF m 114 #[iv i0, iv i1, iv i2, iv i3, iv (3 : Int32), iv (own_a i0 i1 i2), iv (own_cc i0 i1 i2), iv (own_b i0 i1 i2), rv b586, .unset, .unset, .unset, .unset] [(.ref b586)])) rfl (hb hby at_114) (by decide) (by decide)
    obtain ⟨b668, gb668⟩ : ∃ z, z = T665.heap.size := ⟨_, rfl⟩
    have sz668 : h0.size ≤ b668 := Nat.le_trans (Nat.le_trans (Nat.le_trans (Nat.le_trans (Nat.le_trans (Nat.le_trans (Nat.le_trans (Nat.le_trans (Nat.le_trans (Nat.le_trans (Nat.le_trans (Nat.le_refl _) E586.1) R592_0.1) E595.1) E600.1) R603_0.1) R605_0.1) E655.1) E660.1) R663_0.1) R665_0.1) (Nat.le_of_eq gb668.symm)
    have ng668 : n0 ≤ b668 := Nat.le_trans Z0 sz668
    rw [← gb668] at A668 D668 st668
    have F668_669 : Fld Z h668 b668 "com/example/nimble_retrieval/nimbleretrieval/format/Run$Retrieved" "docno" "Ljava/lang/String;" .null := D668 (Or.inr (hw _ (List.mem_of_getElem? (i := 55) rfl))) (ty := (.object "java/lang/String")) (by decide)
    have F668_670 : Fld Z h668 b668 "com/example/nimble_retrieval/nimbleretrieval/format/Run$Retrieved" "score" "D" (.double (0 : UInt64)) := D668 (Or.inr (hw _ (List.mem_of_getElem? (i := 57) rfl))) (ty := .double) (by decide)
    have g671 : Goes p e below S0 (T668.setTop (mkF m 117 #[iv i0, iv i1, iv i2, iv i3, iv (3 : Int32), iv (own_a i0 i1 i2), iv (own_cc i0 i1 i2), iv (own_b i0 i1 i2), rv b586, .unset, .unset, .unset, .unset] [(.ref b668), (.ref b586)])) := fun t k => g667 t (st668 t k)
    have g672 : Goes p e below S0 (T668.setTop (mkF m 118 #[iv i0, iv i1, iv i2, iv i3, iv (3 : Int32), iv (own_a i0 i1 i2), iv (own_cc i0 i1 i2), iv (own_b i0 i1 i2), rv b586, .unset, .unset, .unset, .unset] [(.ref b668), (.ref b668), (.ref b586)])) := fun t k => g671 t (by
      refine XS.dup X668.here hx rfl (hb hby at_117) rfl rfl ?_
      show Go p e below t T668 m 118 #[iv i0, iv i1, iv i2, iv i3, iv (3 : Int32), iv (own_a i0 i1 i2), iv (own_cc i0 i1 i2), iv (own_b i0 i1 i2), rv b586, .unset, .unset, .unset, .unset] [(.ref b668), (.ref b668), (.ref b586)]
      exact k)
    obtain ⟨a673, T673, h673, kk673, X673, e673, E673, sn673, ks673, hZ, hown, st673⟩ := ldcS (s := s) (vm0 := T660.vm) X668 hx hZ hown (hw _ (List.mem_of_getElem? (i := 146) rfl)) wS e668 sn660 (Nat.le_trans (Nat.le_trans (Nat.le_trans ks660 R663_0.1) R665_0.1) E668.1) (g := (mkF m 118 #[iv i0, iv i1, iv i2, iv i3, iv (3 : Int32), iv (own_a i0 i1 i2), iv (own_cc i0 i1 i2), iv (own_b i0 i1 i2), rv b586, .unset, .unset, .unset, .unset] [(.ref b668), (.ref b668), (.ref b586)])) rfl (hb hby at_118) (n := 4) (by decide) (by decide) (by decide) (by decide)
    have g674 : Goes p e below S0 (T673.setTop (mkF m 120 #[iv i0, iv i1, iv i2, iv i3, iv (3 : Int32), iv (own_a i0 i1 i2), iv (own_cc i0 i1 i2), iv (own_b i0 i1 i2), rv b586, .unset, .unset, .unset, .unset] [(.ref a673), (.ref b668), (.ref b668), (.ref b586)])) := fun t k => g672 t (st673 t k)
    have g675 : Goes p e below S0 (T673.setTop (mkF m 123 #[iv i0, iv i1, iv i2, iv i3, iv (3 : Int32), iv (own_a i0 i1 i2), iv (own_cc i0 i1 i2), iv (own_b i0 i1 i2), rv b586, .unset, .unset, .unset, .unset] [(.double (FP.i2d (own_cc i0 i1 i2))), (.ref a673), (.ref b668), (.ref b668), (.ref b586)])) := fun t k => g674 t (by
      refine XS.iload X673.here hx rfl (hb hby at_120) rfl ?_
      show Go p e below t T673 m 122 #[iv i0, iv i1, iv i2, iv i3, iv (3 : Int32), iv (own_a i0 i1 i2), iv (own_cc i0 i1 i2), iv (own_b i0 i1 i2), rv b586, .unset, .unset, .unset, .unset] [(.int (own_cc i0 i1 i2)), (.ref a673), (.ref b668), (.ref b668), (.ref b586)]
      refine XS.i2dS X673.here hx rfl (hb hby at_122) rfl rfl ?_
      show Go p e below t T673 m 123 #[iv i0, iv i1, iv i2, iv i3, iv (3 : Int32), iv (own_a i0 i1 i2), iv (own_cc i0 i1 i2), iv (own_b i0 i1 i2), rv b586, .unset, .unset, .unset, .unset] [(.double (FP.i2d (own_cc i0 i1 i2))), (.ref a673), (.ref b668), (.ref b668), (.ref b586)]
      exact k)
    obtain ⟨_, _, ⟨T676, L676, k676, n676⟩, -, X676, ⟨Lc676, hQ676, l676, y676, z676⟩, st676⟩ := X673.specialBack hx (y := (⟨"com/example/nimble_retrieval/nimbleretrieval/format/Run$Retrieved", "<init>", "(Ljava/lang/String;D)V"⟩ : MethodName)) rfl hown (mvT hZ (hw _ (List.mem_of_getElem? (i := 45) rfl))) (mvT hZ (hw _ (List.mem_of_getElem? (i := 46) rfl))) (mvT hZ (hw _ (List.mem_of_getElem? (i := 47) rfl))) (by decide) (backOf (W := 2) (rm_ri l Z a0 hw [] b668 a673 (FP.i2d (own_cc i0 i1 i2))  h673 n0 (Nat.le_trans Z0 (Nat.le_trans (Nat.le_trans (Nat.le_trans (Nat.le_trans (Nat.le_trans (Nat.le_trans (Nat.le_trans (Nat.le_trans (Nat.le_trans (Nat.le_trans (Nat.le_trans (Nat.le_trans (Nat.le_refl _) E586.1) R592_0.1) E595.1) E600.1) R603_0.1) R605_0.1) E655.1) E660.1) R663_0.1) R665_0.1) E668.1) E673.1)) (A668.ext E673) (F668_669.ext E673) (F668_670.ext E673) ng668) hZ (hw _ (List.mem_of_getElem? (i := 47) rfl)) (hw _ (List.mem_of_getElem? (i := 36) rfl)) (by decide) (by decide)) (g := (mkF m 123 #[iv i0, iv i1, iv i2, iv i3, iv (3 : Int32), iv (own_a i0 i1 i2), iv (own_cc i0 i1 i2), iv (own_b i0 i1 i2), rv b586, .unset, .unset, .unset, .unset] [(.double (FP.i2d (own_cc i0 i1 i2))), (.ref a673), (.ref b668), (.ref b668), (.ref b586)])) rfl (by rw [hml]; rfl) (Steps.refl _) (a := b668) (argsL := [(.ref a673), (.double (FP.i2d (own_cc i0 i1 i2)))]) (rest := [(.ref b668), (.ref b586)]) (lenOf pd1 rfl) rfl (by show 2 * 0 + _ ≤ _; exact Nat.le_of_eq rfl) (hb hby at_123) (fun _ _ => ⟨rfl, e673, (by decide : 11 + 0 ≤ _), (by decide : 43 + 0 ≤ _)⟩)
    dsimp only [Pt.U, Pt.locs, Pt.cells, Pt.slots] at X676 l676 y676 z676 st676 hQ676
    subst l676 y676 z676
    obtain ⟨rfl, N676, R676_0, R676_1, R676_2⟩ := hQ676
    have M676 := Fr.app M665 N676
    have g677 : Goes p e below S0 (T676.setTop (mkF m 126 #[iv i0, iv i1, iv i2, iv i3, iv (3 : Int32), iv (own_a i0 i1 i2), iv (own_cc i0 i1 i2), iv (own_b i0 i1 i2), rv b586, .unset, .unset, .unset, .unset] [(.ref b668), (.ref b586)])) := fun t k => g675 t (st676.trans k)
    obtain ⟨cq678, kq678, q678a, q678b, q678c⟩ := isOf hZ rfl (((R665_1.ext E668).ext E673).keep R676_0)
    obtain ⟨_, _, ⟨T678, L678, k678, n678⟩, -, X678, ⟨Lc678, hQ678, l678, y678, z678⟩, st678⟩ := X676.interfaceBack hx (xi := (⟨"java/util/List", "add", "(Ljava/lang/Object;)Z"⟩ : MethodName)) (y := (⟨"java/util/ArrayList", "add", "(Ljava/lang/Object;)Z"⟩ : MethodName)) hown (mvT hZ (hw _ (List.mem_of_getElem? (i := 58) rfl))) (mvT hZ (hw _ (List.mem_of_getElem? (i := 59) rfl))) (mvT hZ (hw _ (List.mem_of_getElem? (i := 60) rfl))) (mvT hZ (hw _ (List.mem_of_getElem? (i := 61) rfl))) (mvT hZ (hw _ (List.mem_of_getElem? (i := 62) rfl))) (mvT hZ (hw _ (List.mem_of_getElem? (i := 63) rfl))) (mvT hZ (hw _ (List.mem_of_getElem? (i := 64) rfl))) (mvT hZ (hw _ (List.mem_of_getElem? (i := 65) rfl))) (by decide) (backOf (W := 0) (rm_add2 l Z a0 hw [] b586 b668 tb_605 tk_605 b595 b655 T676.heap n0 (Nat.le_trans Z0 (Nat.le_trans (Nat.le_trans (Nat.le_trans (Nat.le_trans (Nat.le_trans (Nat.le_trans (Nat.le_trans (Nat.le_trans (Nat.le_trans (Nat.le_trans (Nat.le_trans (Nat.le_trans (Nat.le_trans (Nat.le_refl _) E586.1) R592_0.1) E595.1) E600.1) R603_0.1) R605_0.1) E655.1) E660.1) R663_0.1) R665_0.1) E668.1) E673.1) R676_0.1)) (((R665_1.ext E668).ext E673).keep R676_0) (((R665_2.ext E668).ext E673).keep R676_0 (ninS (Nat.ne_of_lt (Nat.lt_of_lt_of_le R665_1.lt (Nat.le_of_eq gb668.symm))) nin0)) (((R665_3.ext E668).ext E673).keep R676_0 (ninS (Nat.ne_of_lt (Nat.lt_of_lt_of_le R665_1.lt (Nat.le_of_eq gb668.symm))) nin0)) (((R665_4.ext E668).ext E673).keep R676_0 (ninS (Nat.ne_of_lt (Nat.lt_of_lt_of_le R665_1.lt (Nat.le_of_eq gb668.symm))) nin0)) ng586 ng605_1 (Nat.ne_of_lt (Nat.lt_of_lt_of_le (((R592_1.ext E595).ext E600).keep R603_0).lt R605_1)) (((R665_5.ext E668).ext E673).keep R676_0 (ninS (Nat.ne_of_lt (Nat.lt_of_lt_of_le R665_5.lt (Nat.le_of_eq gb668.symm))) nin0)) ov_605 R676_1) hZ (hw _ (List.mem_of_getElem? (i := 66) rfl)) (hw _ (List.mem_of_getElem? (i := 10) rfl)) (by decide) (by decide)) q678a q678b q678c (g := (mkF m 126 #[iv i0, iv i1, iv i2, iv i3, iv (3 : Int32), iv (own_a i0 i1 i2), iv (own_cc i0 i1 i2), iv (own_b i0 i1 i2), rv b586, .unset, .unset, .unset, .unset] [(.ref b668), (.ref b586)])) rfl (by rw [hml]; rfl) (Steps.refl _) (argsL := [(.ref b668)]) (rest := []) (lenOf pd6 rfl) rfl (by show 2 * 0 + _ ≤ _; exact Nat.le_of_eq rfl) (hb hby at_126) (fun _ _ => ⟨rfl, rfl, (by decide : 11 + 0 ≤ _), (by decide : 43 + 0 ≤ _)⟩)
    dsimp only [Pt.U, Pt.locs, Pt.cells, Pt.slots] at X678 l678 y678 z678 st678 hQ678
    subst l678 y678 z678
    obtain ⟨rfl, N678, R678_0, R678_1, R678_2, R678_3, R678_4, R678_5⟩ := hQ678
    have M678 := Fr.app M676 N678
    have g679 : Goes p e below S0 (T678.setTop (mkF m 131 #[iv i0, iv i1, iv i2, iv i3, iv (3 : Int32), iv (own_a i0 i1 i2), iv (own_cc i0 i1 i2), iv (own_b i0 i1 i2), rv b586, .unset, .unset, .unset, .unset] [(.int (1 : Int32))])) := fun t k => g677 t (st678.trans k)
    have g680 : Goes p e below S0 (T678.setTop (mkF m 134 #[iv i0, iv i1, iv i2, iv i3, iv (3 : Int32), iv (own_a i0 i1 i2), iv (own_cc i0 i1 i2), iv (own_b i0 i1 i2), rv b586, .unset, .unset, .unset, .unset] [(.ref b586)])) := fun t k => g679 t (by
      refine XS.pop X678.here hx rfl (hb hby at_131) rfl rfl ?_
      show Go p e below t T678 m 132 #[iv i0, iv i1, iv i2, iv i3, iv (3 : Int32), iv (own_a i0 i1 i2), iv (own_cc i0 i1 i2), iv (own_b i0 i1 i2), rv b586, .unset, .unset, .unset, .unset] []
      refine XS.aload X678.here hx rfl (hb hby at_132) rfl rfl ?_
      show Go p e below t T678 m 134 #[iv i0, iv i1, iv i2, iv i3, iv (3 : Int32), iv (own_a i0 i1 i2), iv (own_cc i0 i1 i2), iv (own_b i0 i1 i2), rv b586, .unset, .unset, .unset, .unset] [(.ref b586)]
      exact k)
    obtain ⟨_, _, ⟨T681, L681, k681, n681⟩, -, X681, ⟨Lc681, hQ681, l681, y681, z681⟩, st681⟩ := Jvm.LawKit.callS X678 hx (y := (⟨"com/example/nimble_retrieval/nimbleretrieval/runs/TrainedMerge", "inputs", "(Ljava/util/List;)[[D"⟩ : MethodName)) hown (mvT hZ (hw _ (List.mem_of_getElem? (i := 91) rfl))) (mvT hZ (hw _ (List.mem_of_getElem? (i := 92) rfl))) (mvT hZ (hw _ (List.mem_of_getElem? (i := 93) rfl))) (mvT hZ (hw _ (List.mem_of_getElem? (i := 94) rfl))) (by decide) (backOf (W := 0) (rm_inp3 l Z a0 hw [] b586 tb_605 tk_605 b595 b655 b668 (FP.i2d (own_a i0 i1 i2)) (FP.i2d (own_b i0 i1 i2)) (FP.i2d (own_cc i0 i1 i2)) T678.heap n0 (Nat.le_trans Z0 (Nat.le_trans (Nat.le_trans (Nat.le_trans (Nat.le_trans (Nat.le_trans (Nat.le_trans (Nat.le_trans (Nat.le_trans (Nat.le_trans (Nat.le_trans (Nat.le_trans (Nat.le_trans (Nat.le_trans (Nat.le_trans (Nat.le_refl _) E586.1) R592_0.1) E595.1) E600.1) R603_0.1) R605_0.1) E655.1) E660.1) R663_0.1) R665_0.1) E668.1) E673.1) R676_0.1) R678_0.1)) R678_1 R678_3 R678_4 R678_5 (((((((((R603_1.keep R605_0).ext E655).ext E660).keep R663_0).keep R665_0).ext E668).ext E673).keep R676_0).keep R678_0) (((((((((R603_2.keep R605_0 (ninS (Ne.symm (Nat.ne_of_lt (Nat.lt_of_lt_of_le R592_1.lt (Nat.le_of_eq gb595.symm)))) nin0)).ext E655).ext E660).keep R663_0 (ninS (Nat.ne_of_lt (Nat.lt_of_lt_of_le (R603_1.keep R605_0).lt (Nat.le_of_eq gb655.symm))) nin0)).keep R665_0 (ninS (Ne.symm (Nat.ne_of_lt (Nat.lt_of_lt_of_le R592_1.lt (Nat.le_of_eq gb595.symm)))) (ninS (Nat.ne_of_lt (Nat.lt_of_lt_of_le R603_1.lt R605_1)) nin0))).ext E668).ext E673).keep R676_0 (ninS (Nat.ne_of_lt (Nat.lt_of_lt_of_le (((((R603_1.keep R605_0).ext E655).ext E660).keep R663_0).keep R665_0).lt (Nat.le_of_eq gb668.symm))) nin0)).keep R678_0 (ninS (Ne.symm (Nat.ne_of_lt (Nat.lt_of_lt_of_le R592_1.lt (Nat.le_of_eq gb595.symm)))) (ninS (Nat.ne_of_lt (Nat.lt_of_lt_of_le R603_1.lt R605_1)) nin0))) (((((R663_1.keep R665_0).ext E668).ext E673).keep R676_0).keep R678_0) (((((R663_2.keep R665_0 (ninS (Ne.symm (Nat.ne_of_lt (Nat.lt_of_lt_of_le R605_2.lt (Nat.le_of_eq gb655.symm)))) (ninS (Ne.symm (Nat.ne_of_lt (Nat.lt_of_lt_of_le R605_6.lt (Nat.le_of_eq gb655.symm)))) nin0))).ext E668).ext E673).keep R676_0 (ninS (Nat.ne_of_lt (Nat.lt_of_lt_of_le (R663_1.keep R665_0).lt (Nat.le_of_eq gb668.symm))) nin0)).keep R678_0 (ninS (Ne.symm (Nat.ne_of_lt (Nat.lt_of_lt_of_le R605_2.lt (Nat.le_of_eq gb655.symm)))) (ninS (Ne.symm (Nat.ne_of_lt (Nat.lt_of_lt_of_le R605_6.lt (Nat.le_of_eq gb655.symm)))) nin0))) (R676_1.keep R678_0) (R676_2.keep R678_0 (ninS (Ne.symm (Nat.ne_of_lt (Nat.lt_of_lt_of_le R665_1.lt (Nat.le_of_eq gb668.symm)))) (ninS (Ne.symm (Nat.ne_of_lt (Nat.lt_of_lt_of_le R665_5.lt (Nat.le_of_eq gb668.symm)))) nin0))) (Jvm.Free.Fl.i2d_fin _) (Jvm.Free.Fl.i2d_fin _) (Jvm.Free.Fl.i2d_fin _)) hZ (hw _ (List.mem_of_getElem? (i := 94) rfl)) (hw _ (List.mem_of_getElem? (i := 93) rfl)) (by decide) (by decide)) (g := (mkF m 134 #[iv i0, iv i1, iv i2, iv i3, iv (3 : Int32), iv (own_a i0 i1 i2), iv (own_cc i0 i1 i2), iv (own_b i0 i1 i2), rv b586, .unset, .unset, .unset, .unset] [(.ref b586)])) rfl (by rw [hml]; rfl) (argsL := [(.ref b586)]) (rest := []) (lenOf pd11 rfl) rfl (by show 2 * 0 + _ ≤ _; exact Nat.le_of_eq rfl) (hb hby at_134) (fun _ _ => ⟨rfl, rfl, (by decide : 11 + 4 ≤ _), (by decide : 43 + 9 ≤ _)⟩)
    dsimp only [Pt.U, Pt.locs, Pt.cells, Pt.slots] at X681 l681 y681 z681 st681 hQ681
    subst l681 y681 z681
    obtain ⟨ta_681, tk_681, d0_681, d1_681, d2_681, dk0_681, dk1_681, dk2_681, rfl, N681, R681_0, R681_1, R681_2, R681_3, R681_4, R681_5, R681_6, R681_7, R681_8⟩ := hQ681
    have M681 := Fr.app M678 N681
    have sz681_1 : h0.size ≤ ta_681 := Nat.le_trans (Nat.le_trans (Nat.le_trans (Nat.le_trans (Nat.le_trans (Nat.le_trans (Nat.le_trans (Nat.le_trans (Nat.le_trans (Nat.le_trans (Nat.le_trans (Nat.le_trans (Nat.le_trans (Nat.le_trans (Nat.le_trans (Nat.le_refl _) E586.1) R592_0.1) E595.1) E600.1) R603_0.1) R605_0.1) E655.1) E660.1) R663_0.1) R665_0.1) E668.1) E673.1) R676_0.1) R678_0.1) R681_1
    have ng681_1 : n0 ≤ ta_681 := Nat.le_trans Z0 sz681_1
    have sz681_2 : h0.size ≤ d0_681 := Nat.le_trans (Nat.le_trans (Nat.le_trans (Nat.le_trans (Nat.le_trans (Nat.le_trans (Nat.le_trans (Nat.le_trans (Nat.le_trans (Nat.le_trans (Nat.le_trans (Nat.le_trans (Nat.le_trans (Nat.le_trans (Nat.le_trans (Nat.le_refl _) E586.1) R592_0.1) E595.1) E600.1) R603_0.1) R605_0.1) E655.1) E660.1) R663_0.1) R665_0.1) E668.1) E673.1) R676_0.1) R678_0.1) R681_2
    have ng681_2 : n0 ≤ d0_681 := Nat.le_trans Z0 sz681_2
    have sz681_3 : h0.size ≤ d1_681 := Nat.le_trans (Nat.le_trans (Nat.le_trans (Nat.le_trans (Nat.le_trans (Nat.le_trans (Nat.le_trans (Nat.le_trans (Nat.le_trans (Nat.le_trans (Nat.le_trans (Nat.le_trans (Nat.le_trans (Nat.le_trans (Nat.le_trans (Nat.le_refl _) E586.1) R592_0.1) E595.1) E600.1) R603_0.1) R605_0.1) E655.1) E660.1) R663_0.1) R665_0.1) E668.1) E673.1) R676_0.1) R678_0.1) R681_3
    have ng681_3 : n0 ≤ d1_681 := Nat.le_trans Z0 sz681_3
    have sz681_4 : h0.size ≤ d2_681 := Nat.le_trans (Nat.le_trans (Nat.le_trans (Nat.le_trans (Nat.le_trans (Nat.le_trans (Nat.le_trans (Nat.le_trans (Nat.le_trans (Nat.le_trans (Nat.le_trans (Nat.le_trans (Nat.le_trans (Nat.le_trans (Nat.le_trans (Nat.le_refl _) E586.1) R592_0.1) E595.1) E600.1) R603_0.1) R605_0.1) E655.1) E660.1) R663_0.1) R665_0.1) E668.1) E673.1) R676_0.1) R678_0.1) R681_4
    have ng681_4 : n0 ≤ d2_681 := Nat.le_trans Z0 sz681_4
    have g682 : Goes p e below S0 (T681.setTop (mkF m 137 #[iv i0, iv i1, iv i2, iv i3, iv (3 : Int32), iv (own_a i0 i1 i2), iv (own_cc i0 i1 i2), iv (own_b i0 i1 i2), rv b586, .unset, .unset, .unset, .unset] [(.ref ta_681)])) := fun t k => g680 t (st681 t k)
    have g683 : Goes p e below S0 (T681.setTop (mkF m 141 #[iv i0, iv i1, iv i2, iv i3, iv (3 : Int32), iv (own_a i0 i1 i2), iv (own_cc i0 i1 i2), iv (own_b i0 i1 i2), rv b586, rv ta_681, .unset, .unset, .unset] [(.ref ta_681)])) := fun t k => g682 t (by
      refine XS.astore X681.here hx rfl (hb hby at_137) rfl rfl (l' := #[iv i0, iv i1, iv i2, iv i3, iv (3 : Int32), iv (own_a i0 i1 i2), iv (own_cc i0 i1 i2), iv (own_b i0 i1 i2), rv b586, rv ta_681, .unset, .unset, .unset]) rfl ?_
      show Go p e below t T681 m 139 #[iv i0, iv i1, iv i2, iv i3, iv (3 : Int32), iv (own_a i0 i1 i2), iv (own_cc i0 i1 i2), iv (own_b i0 i1 i2), rv b586, rv ta_681, .unset, .unset, .unset] []
      refine XS.aload X681.here hx rfl (hb hby at_139) rfl rfl ?_
      show Go p e below t T681 m 141 #[iv i0, iv i1, iv i2, iv i3, iv (3 : Int32), iv (own_a i0 i1 i2), iv (own_cc i0 i1 i2), iv (own_b i0 i1 i2), rv b586, rv ta_681, .unset, .unset, .unset] [(.ref ta_681)]
      exact k)
    obtain ⟨cl684, Ar684, q684, S684, M684, H684, G684⟩ := id R681_5
    have g685 : Goes p e below S0 (T681.setTop (mkF m 157 #[iv i0, iv i1, iv i2, iv i3, iv (3 : Int32), iv (own_a i0 i1 i2), iv (own_cc i0 i1 i2), iv (own_b i0 i1 i2), rv b586, rv ta_681, .val (.double (FP.i2d (own_a i0 i1 i2))), .second, .unset] [(.int (0 : Int32)), (.ref ta_681)])) := fun t k => g683 t (by
      refine X681.arraylength hx Ar684.1 (State.isArrayOf_alike hZ.alike Ar684.2.1) (g := (mkF m 141 #[iv i0, iv i1, iv i2, iv i3, iv (3 : Int32), iv (own_a i0 i1 i2), iv (own_cc i0 i1 i2), iv (own_b i0 i1 i2), rv b586, rv ta_681, .unset, .unset, .unset] [(.ref ta_681)])) rfl rfl (hb hby at_141) _ ?_
      rw [len_of S684 M684]
      show Go p e below t T681 m 142 #[iv i0, iv i1, iv i2, iv i3, iv (3 : Int32), iv (own_a i0 i1 i2), iv (own_cc i0 i1 i2), iv (own_b i0 i1 i2), rv b586, rv ta_681, .unset, .unset, .unset] [(.int (3 : Int32))]
      refine XS.iload X681.here hx rfl (hb hby at_142) rfl ?_
      show Go p e below t T681 m 144 #[iv i0, iv i1, iv i2, iv i3, iv (3 : Int32), iv (own_a i0 i1 i2), iv (own_cc i0 i1 i2), iv (own_b i0 i1 i2), rv b586, rv ta_681, .unset, .unset, .unset] [(.int (3 : Int32)), (.int (3 : Int32))]
      refine XS.icmpYes X681.here hx rfl (pc0 := 144) (pc' := 149) rfl (hb hby at_144) rfl (XT.ii_eq_t (by decide)) (by decide) (by decide) ?_
      show Go p e below t T681 m 149 #[iv i0, iv i1, iv i2, iv i3, iv (3 : Int32), iv (own_a i0 i1 i2), iv (own_cc i0 i1 i2), iv (own_b i0 i1 i2), rv b586, rv ta_681, .unset, .unset, .unset] []
      refine XS.iload X681.here hx rfl (hb hby at_149) rfl ?_
      show Go p e below t T681 m 151 #[iv i0, iv i1, iv i2, iv i3, iv (3 : Int32), iv (own_a i0 i1 i2), iv (own_cc i0 i1 i2), iv (own_b i0 i1 i2), rv b586, rv ta_681, .unset, .unset, .unset] [(.int (own_a i0 i1 i2))]
      refine XS.i2dS X681.here hx rfl (hb hby at_151) rfl rfl ?_
      show Go p e below t T681 m 152 #[iv i0, iv i1, iv i2, iv i3, iv (3 : Int32), iv (own_a i0 i1 i2), iv (own_cc i0 i1 i2), iv (own_b i0 i1 i2), rv b586, rv ta_681, .unset, .unset, .unset] [(.double (FP.i2d (own_a i0 i1 i2)))]
      refine XS.dstore X681.here hx rfl (hb hby at_152) rfl (l' := #[iv i0, iv i1, iv i2, iv i3, iv (3 : Int32), iv (own_a i0 i1 i2), iv (own_cc i0 i1 i2), iv (own_b i0 i1 i2), rv b586, rv ta_681, .val (.double (FP.i2d (own_a i0 i1 i2))), .second, .unset]) rfl ?_
      show Go p e below t T681 m 154 #[iv i0, iv i1, iv i2, iv i3, iv (3 : Int32), iv (own_a i0 i1 i2), iv (own_cc i0 i1 i2), iv (own_b i0 i1 i2), rv b586, rv ta_681, .val (.double (FP.i2d (own_a i0 i1 i2))), .second, .unset] []
      refine XS.aload X681.here hx rfl (hb hby at_154) rfl rfl ?_
      show Go p e below t T681 m 156 #[iv i0, iv i1, iv i2, iv i3, iv (3 : Int32), iv (own_a i0 i1 i2), iv (own_cc i0 i1 i2), iv (own_b i0 i1 i2), rv b586, rv ta_681, .val (.double (FP.i2d (own_a i0 i1 i2))), .second, .unset] [(.ref ta_681)]
      refine XT.iconstV X681.here hx rfl (0 : Int32) (hb hby at_156) (by decide) ?_
      show Go p e below t T681 m 157 #[iv i0, iv i1, iv i2, iv i3, iv (3 : Int32), iv (own_a i0 i1 i2), iv (own_cc i0 i1 i2), iv (own_b i0 i1 i2), rv b586, rv ta_681, .val (.double (FP.i2d (own_a i0 i1 i2))), .second, .unset] [(.int (0 : Int32)), (.ref ta_681)]
      exact k)
    obtain ⟨cl686, Ar686, q686, S686, M686, H686, G686⟩ := id R681_5
    have g687 : Goes p e below S0 (T681.setTop (mkF m 164 #[iv i0, iv i1, iv i2, iv i3, iv (3 : Int32), iv (own_a i0 i1 i2), iv (own_cc i0 i1 i2), iv (own_b i0 i1 i2), rv b586, rv ta_681, .val (.double (FP.i2d (own_a i0 i1 i2))), .second, .unset] [(.double (FP.i2d (own_a i0 i1 i2))), (.double (FP.i2d (own_a i0 i1 i2))), (.double (0 : UInt64)), (.ref d0_681)])) := fun t k => g685 t (by
      refine X681.aaload hx (j := (0 : Int32)) (v := (.ref d0_681)) Ar686.1 (State.isArrayOf_alike hZ.alike Ar686.2.1) rfl Ar686.2.2 (inb_of S686 ⟨by decide, by decide⟩) (H686.at (inb_of S686 ⟨by decide, by decide⟩) rfl) (g := (mkF m 157 #[iv i0, iv i1, iv i2, iv i3, iv (3 : Int32), iv (own_a i0 i1 i2), iv (own_cc i0 i1 i2), iv (own_b i0 i1 i2), rv b586, rv ta_681, .val (.double (FP.i2d (own_a i0 i1 i2))), .second, .unset] [(.int (0 : Int32)), (.ref ta_681)])) rfl rfl (hb hby at_157) _ ?_
      show Go p e below t T681 m 158 #[iv i0, iv i1, iv i2, iv i3, iv (3 : Int32), iv (own_a i0 i1 i2), iv (own_cc i0 i1 i2), iv (own_b i0 i1 i2), rv b586, rv ta_681, .val (.double (FP.i2d (own_a i0 i1 i2))), .second, .unset] [(.ref d0_681)]
      refine XS.dconst0 X681.here hx rfl (hb hby at_158) (v := (0 : UInt64)) rfl ?_
      show Go p e below t T681 m 159 #[iv i0, iv i1, iv i2, iv i3, iv (3 : Int32), iv (own_a i0 i1 i2), iv (own_cc i0 i1 i2), iv (own_b i0 i1 i2), rv b586, rv ta_681, .val (.double (FP.i2d (own_a i0 i1 i2))), .second, .unset] [(.double (0 : UInt64)), (.ref d0_681)]
      refine XS.iload X681.here hx rfl (hb hby at_159) rfl ?_
      show Go p e below t T681 m 161 #[iv i0, iv i1, iv i2, iv i3, iv (3 : Int32), iv (own_a i0 i1 i2), iv (own_cc i0 i1 i2), iv (own_b i0 i1 i2), rv b586, rv ta_681, .val (.double (FP.i2d (own_a i0 i1 i2))), .second, .unset] [(.int (own_a i0 i1 i2)), (.double (0 : UInt64)), (.ref d0_681)]
      refine XS.i2dS X681.here hx rfl (hb hby at_161) rfl rfl ?_
      show Go p e below t T681 m 162 #[iv i0, iv i1, iv i2, iv i3, iv (3 : Int32), iv (own_a i0 i1 i2), iv (own_cc i0 i1 i2), iv (own_b i0 i1 i2), rv b586, rv ta_681, .val (.double (FP.i2d (own_a i0 i1 i2))), .second, .unset] [(.double (FP.i2d (own_a i0 i1 i2))), (.double (0 : UInt64)), (.ref d0_681)]
      refine XS.dload X681.here hx rfl (hb hby at_162) rfl ?_
      show Go p e below t T681 m 164 #[iv i0, iv i1, iv i2, iv i3, iv (3 : Int32), iv (own_a i0 i1 i2), iv (own_cc i0 i1 i2), iv (own_b i0 i1 i2), rv b586, rv ta_681, .val (.double (FP.i2d (own_a i0 i1 i2))), .second, .unset] [(.double (FP.i2d (own_a i0 i1 i2))), (.double (FP.i2d (own_a i0 i1 i2))), (.double (0 : UInt64)), (.ref d0_681)]
      exact k)
    obtain ⟨_, _, ⟨T688, L688, k688, n688⟩, -, X688, ⟨Lc688, hQ688, l688, y688, z688⟩, st688⟩ := Jvm.LawKit.callS X681 hx (y := (⟨"com/example/nimble_retrieval/nimbleretrieval/runs/TrainedMergeInputsPinLaw", "expected", "(DD)D"⟩ : MethodName)) hown (mvT hZ (hw _ (List.mem_of_getElem? (i := 138) rfl))) (mvT hZ (hw _ (List.mem_of_getElem? (i := 139) rfl))) (mvT hZ (hw _ (List.mem_of_getElem? (i := 140) rfl))) (mvT hZ (hw _ (List.mem_of_getElem? (i := 141) rfl))) (by decide) (backOf (W := 3) (rm_exp l Z a0 hw [] (FP.i2d (own_a i0 i1 i2)) (FP.i2d (own_a i0 i1 i2))  T681.heap n0 (Nat.le_trans Z0 (Nat.le_trans (Nat.le_trans (Nat.le_trans (Nat.le_trans (Nat.le_trans (Nat.le_trans (Nat.le_trans (Nat.le_trans (Nat.le_trans (Nat.le_trans (Nat.le_trans (Nat.le_trans (Nat.le_trans (Nat.le_trans (Nat.le_trans (Nat.le_refl _) E586.1) R592_0.1) E595.1) E600.1) R603_0.1) R605_0.1) E655.1) E660.1) R663_0.1) R665_0.1) E668.1) E673.1) R676_0.1) R678_0.1) R681_0.1)) (Jvm.Free.Fl.i2d_fin _) (Jvm.Free.Fl.i2d_fin _)) hZ (hw _ (List.mem_of_getElem? (i := 141) rfl)) (hw _ (List.mem_of_getElem? (i := 140) rfl)) (by decide) (by decide)) (g := (mkF m 164 #[iv i0, iv i1, iv i2, iv i3, iv (3 : Int32), iv (own_a i0 i1 i2), iv (own_cc i0 i1 i2), iv (own_b i0 i1 i2), rv b586, rv ta_681, .val (.double (FP.i2d (own_a i0 i1 i2))), .second, .unset] [(.double (FP.i2d (own_a i0 i1 i2))), (.double (FP.i2d (own_a i0 i1 i2))), (.double (0 : UInt64)), (.ref d0_681)])) rfl (by rw [hml]; rfl) (argsL := [(.double (FP.i2d (own_a i0 i1 i2))), (.double (FP.i2d (own_a i0 i1 i2)))]) (rest := [(.double (0 : UInt64)), (.ref d0_681)]) (lenOf pd12 rfl) rfl (by show 2 * 0 + _ ≤ _; exact Nat.le_of_eq rfl) (hb hby at_164) (fun _ _ => ⟨rfl, rfl, (by decide : 15 + 0 ≤ _), (by decide : 52 + 0 ≤ _)⟩)
    dsimp only [Pt.U, Pt.locs, Pt.cells, Pt.slots] at X688 l688 y688 z688 st688 hQ688
    subst l688 y688 z688
    obtain ⟨rfl, N688, e688⟩ := hQ688
    have M688 := Fr.app M681 N688
    have g689 : Goes p e below S0 (T688.setTop (mkF m 167 #[iv i0, iv i1, iv i2, iv i3, iv (3 : Int32), iv (own_a i0 i1 i2), iv (own_cc i0 i1 i2), iv (own_b i0 i1 i2), rv b586, rv ta_681, .val (.double (FP.i2d (own_a i0 i1 i2))), .second, .unset] [(.double (f_exp (FP.i2d (own_a i0 i1 i2)) (FP.i2d (own_a i0 i1 i2)))), (.double (0 : UInt64)), (.ref d0_681)])) := fun t k => g687 t (st688 t k)
    obtain ⟨_, _, ⟨T690, L690, k690, n690⟩, -, X690, ⟨Lc690, hQ690, l690, y690, z690⟩, st690⟩ := Jvm.LawKit.callS X688 hx (y := (⟨"com/example/nimble_retrieval/nimbleretrieval/runs/TrainedMergeInputsPinLaw", "row", "([DDD)Z"⟩ : MethodName)) hown (mvT hZ (hw _ (List.mem_of_getElem? (i := 142) rfl))) (mvT hZ (hw _ (List.mem_of_getElem? (i := 143) rfl))) (mvT hZ (hw _ (List.mem_of_getElem? (i := 140) rfl))) (mvT hZ (hw _ (List.mem_of_getElem? (i := 144) rfl))) (by decide) (backOf (W := 0) (rm_row l Z a0 hw [] d0_681 (0 : UInt64) (f_exp (FP.i2d (own_a i0 i1 i2)) (FP.i2d (own_a i0 i1 i2))) (FP.dsub (4607182418800017408 : UInt64) (FP.ddiv (4607182418800017408 : UInt64) (FP.i2d (1 : Int32)))) (own_sc (FP.i2d (own_a i0 i1 i2)) (FP.i2d (own_a i0 i1 i2))) dk0_681 T681.heap n0 (Nat.le_trans Z0 (Nat.le_trans (Nat.le_trans (Nat.le_trans (Nat.le_trans (Nat.le_trans (Nat.le_trans (Nat.le_trans (Nat.le_trans (Nat.le_trans (Nat.le_trans (Nat.le_trans (Nat.le_trans (Nat.le_trans (Nat.le_trans (Nat.le_trans (Nat.le_refl _) E586.1) R592_0.1) E595.1) E600.1) R603_0.1) R605_0.1) E655.1) E660.1) R663_0.1) R665_0.1) E668.1) E673.1) R676_0.1) R678_0.1) R681_0.1)) R681_6) hZ (hw _ (List.mem_of_getElem? (i := 144) rfl)) (hw _ (List.mem_of_getElem? (i := 140) rfl)) (by decide) (by decide)) (g := (mkF m 167 #[iv i0, iv i1, iv i2, iv i3, iv (3 : Int32), iv (own_a i0 i1 i2), iv (own_cc i0 i1 i2), iv (own_b i0 i1 i2), rv b586, rv ta_681, .val (.double (FP.i2d (own_a i0 i1 i2))), .second, .unset] [(.double (f_exp (FP.i2d (own_a i0 i1 i2)) (FP.i2d (own_a i0 i1 i2)))), (.double (0 : UInt64)), (.ref d0_681)])) rfl (by rw [hml]; rfl) (argsL := [(.ref d0_681), (.double (0 : UInt64)), (.double (f_exp (FP.i2d (own_a i0 i1 i2)) (FP.i2d (own_a i0 i1 i2))))]) (rest := []) (lenOf pd13 rfl) rfl (by show 2 * 0 + _ ≤ _; exact Nat.le_of_eq rfl) (hb hby at_167) (fun _ _ => ⟨rfl, e688, (by decide : 15 + 0 ≤ _), (by decide : 52 + 0 ≤ _)⟩)
    dsimp only [Pt.U, Pt.locs, Pt.cells, Pt.slots] at X690 l690 y690 z690 st690 hQ690
    subst l690 y690 z690
    obtain ⟨rfl, N690, e690⟩ := hQ690
    have M690 := Fr.app M688 N690
    have g691 : Goes p e below S0 (T690.setTop (mkF m 170 #[iv i0, iv i1, iv i2, iv i3, iv (3 : Int32), iv (own_a i0 i1 i2), iv (own_cc i0 i1 i2), iv (own_b i0 i1 i2), rv b586, rv ta_681, .val (.double (FP.i2d (own_a i0 i1 i2))), .second, .unset] [(.int (f_row (0 : UInt64) (f_exp (FP.i2d (own_a i0 i1 i2)) (FP.i2d (own_a i0 i1 i2))) (FP.dsub (4607182418800017408 : UInt64) (FP.ddiv (4607182418800017408 : UInt64) (FP.i2d (1 : Int32)))) (own_sc (FP.i2d (own_a i0 i1 i2)) (FP.i2d (own_a i0 i1 i2)))))])) := fun t k => g689 t (st690 t k)
    rw [show (f_row (0 : UInt64) (f_exp (FP.i2d (own_a i0 i1 i2)) (FP.i2d (own_a i0 i1 i2))) (FP.dsub (4607182418800017408 : UInt64) (FP.ddiv (4607182418800017408 : UInt64) (FP.i2d (1 : Int32)))) (own_sc (FP.i2d (own_a i0 i1 i2)) (FP.i2d (own_a i0 i1 i2)))) = (1 : Int32) from own_r0 (own_a i0 i1 i2)] at g691
    have g692 : Goes p e below S0 (T690.setTop (mkF m 186 #[iv i0, iv i1, iv i2, iv i3, iv (3 : Int32), iv (own_a i0 i1 i2), iv (own_cc i0 i1 i2), iv (own_b i0 i1 i2), rv b586, rv ta_681, .val (.double (FP.i2d (own_a i0 i1 i2))), .second, iv (1 : Int32)] [(.int (1 : Int32)), (.ref ta_681)])) := fun t k => g691 t (by
      refine XS.istore X690.here hx rfl (hb hby at_170) rfl (l' := #[iv i0, iv i1, iv i2, iv i3, iv (3 : Int32), iv (own_a i0 i1 i2), iv (own_cc i0 i1 i2), iv (own_b i0 i1 i2), rv b586, rv ta_681, .val (.double (FP.i2d (own_a i0 i1 i2))), .second, iv (1 : Int32)]) rfl ?_
      show Go p e below t T690 m 172 #[iv i0, iv i1, iv i2, iv i3, iv (3 : Int32), iv (own_a i0 i1 i2), iv (own_cc i0 i1 i2), iv (own_b i0 i1 i2), rv b586, rv ta_681, .val (.double (FP.i2d (own_a i0 i1 i2))), .second, iv (1 : Int32)] []
      refine XS.iload X690.here hx rfl (hb hby at_172) rfl ?_
      show Go p e below t T690 m 174 #[iv i0, iv i1, iv i2, iv i3, iv (3 : Int32), iv (own_a i0 i1 i2), iv (own_cc i0 i1 i2), iv (own_b i0 i1 i2), rv b586, rv ta_681, .val (.double (FP.i2d (own_a i0 i1 i2))), .second, iv (1 : Int32)] [(.int (3 : Int32))]
      refine XT.iconstV X690.here hx rfl (2 : Int32) (hb hby at_174) (by decide) ?_
      show Go p e below t T690 m 175 #[iv i0, iv i1, iv i2, iv i3, iv (3 : Int32), iv (own_a i0 i1 i2), iv (own_cc i0 i1 i2), iv (own_b i0 i1 i2), rv b586, rv ta_681, .val (.double (FP.i2d (own_a i0 i1 i2))), .second, iv (1 : Int32)] [(.int (2 : Int32)), (.int (3 : Int32))]
      refine XS.icmpNo X690.here hx rfl (hb hby at_175) rfl (XT.ii_lt_f (by decide)) ?_
      show Go p e below t T690 m 178 #[iv i0, iv i1, iv i2, iv i3, iv (3 : Int32), iv (own_a i0 i1 i2), iv (own_cc i0 i1 i2), iv (own_b i0 i1 i2), rv b586, rv ta_681, .val (.double (FP.i2d (own_a i0 i1 i2))), .second, iv (1 : Int32)] []
      refine XS.iload X690.here hx rfl (hb hby at_178) rfl ?_
      show Go p e below t T690 m 180 #[iv i0, iv i1, iv i2, iv i3, iv (3 : Int32), iv (own_a i0 i1 i2), iv (own_cc i0 i1 i2), iv (own_b i0 i1 i2), rv b586, rv ta_681, .val (.double (FP.i2d (own_a i0 i1 i2))), .second, iv (1 : Int32)] [(.int (1 : Int32))]
      refine XS.ifNo X690.here hx rfl (hb hby at_180) rfl (XT.i0_eq_f (by decide)) ?_
      show Go p e below t T690 m 183 #[iv i0, iv i1, iv i2, iv i3, iv (3 : Int32), iv (own_a i0 i1 i2), iv (own_cc i0 i1 i2), iv (own_b i0 i1 i2), rv b586, rv ta_681, .val (.double (FP.i2d (own_a i0 i1 i2))), .second, iv (1 : Int32)] []
      refine XS.aload X690.here hx rfl (hb hby at_183) rfl rfl ?_
      show Go p e below t T690 m 185 #[iv i0, iv i1, iv i2, iv i3, iv (3 : Int32), iv (own_a i0 i1 i2), iv (own_cc i0 i1 i2), iv (own_b i0 i1 i2), rv b586, rv ta_681, .val (.double (FP.i2d (own_a i0 i1 i2))), .second, iv (1 : Int32)] [(.ref ta_681)]
      refine XT.iconstV X690.here hx rfl (1 : Int32) (hb hby at_185) (by decide) ?_
      show Go p e below t T690 m 186 #[iv i0, iv i1, iv i2, iv i3, iv (3 : Int32), iv (own_a i0 i1 i2), iv (own_cc i0 i1 i2), iv (own_b i0 i1 i2), rv b586, rv ta_681, .val (.double (FP.i2d (own_a i0 i1 i2))), .second, iv (1 : Int32)] [(.int (1 : Int32)), (.ref ta_681)]
      exact k)
    obtain ⟨cl693, Ar693, q693, S693, M693, H693, G693⟩ := id R681_5
    have g694 : Goes p e below S0 (T690.setTop (mkF m 195 #[iv i0, iv i1, iv i2, iv i3, iv (3 : Int32), iv (own_a i0 i1 i2), iv (own_cc i0 i1 i2), iv (own_b i0 i1 i2), rv b586, rv ta_681, .val (.double (FP.i2d (own_a i0 i1 i2))), .second, iv (1 : Int32)] [(.double (FP.i2d (own_a i0 i1 i2))), (.double (FP.i2d (own_b i0 i1 i2))), (.double (4602678819172646912 : UInt64)), (.ref d1_681)])) := fun t k => g692 t (by
      refine X690.aaload hx (j := (1 : Int32)) (v := (.ref d1_681)) (by rw [e690]; exact Ar693.1) (State.isArrayOf_alike hZ.alike Ar693.2.1) rfl Ar693.2.2 (inb_of S693 ⟨by decide, by decide⟩) (H693.at (inb_of S693 ⟨by decide, by decide⟩) rfl) (g := (mkF m 186 #[iv i0, iv i1, iv i2, iv i3, iv (3 : Int32), iv (own_a i0 i1 i2), iv (own_cc i0 i1 i2), iv (own_b i0 i1 i2), rv b586, rv ta_681, .val (.double (FP.i2d (own_a i0 i1 i2))), .second, iv (1 : Int32)] [(.int (1 : Int32)), (.ref ta_681)])) rfl rfl (hb hby at_186) _ ?_
      show Go p e below t T690 m 187 #[iv i0, iv i1, iv i2, iv i3, iv (3 : Int32), iv (own_a i0 i1 i2), iv (own_cc i0 i1 i2), iv (own_b i0 i1 i2), rv b586, rv ta_681, .val (.double (FP.i2d (own_a i0 i1 i2))), .second, iv (1 : Int32)] [(.ref d1_681)]
      refine X690.ldc2DoubleC hx hown (mvT hZ (hw _ (List.mem_of_getElem? (i := 145) rfl))) (g := (mkF m 187 #[iv i0, iv i1, iv i2, iv i3, iv (3 : Int32), iv (own_a i0 i1 i2), iv (own_cc i0 i1 i2), iv (own_b i0 i1 i2), rv b586, rv ta_681, .val (.double (FP.i2d (own_a i0 i1 i2))), .second, iv (1 : Int32)] [(.ref d1_681)])) rfl (hb hby at_187) _ ?_
      show Go p e below t T690 m 190 #[iv i0, iv i1, iv i2, iv i3, iv (3 : Int32), iv (own_a i0 i1 i2), iv (own_cc i0 i1 i2), iv (own_b i0 i1 i2), rv b586, rv ta_681, .val (.double (FP.i2d (own_a i0 i1 i2))), .second, iv (1 : Int32)] [(.double (4602678819172646912 : UInt64)), (.ref d1_681)]
      refine XS.iload X690.here hx rfl (hb hby at_190) rfl ?_
      show Go p e below t T690 m 192 #[iv i0, iv i1, iv i2, iv i3, iv (3 : Int32), iv (own_a i0 i1 i2), iv (own_cc i0 i1 i2), iv (own_b i0 i1 i2), rv b586, rv ta_681, .val (.double (FP.i2d (own_a i0 i1 i2))), .second, iv (1 : Int32)] [(.int (own_b i0 i1 i2)), (.double (4602678819172646912 : UInt64)), (.ref d1_681)]
      refine XS.i2dS X690.here hx rfl (hb hby at_192) rfl rfl ?_
      show Go p e below t T690 m 193 #[iv i0, iv i1, iv i2, iv i3, iv (3 : Int32), iv (own_a i0 i1 i2), iv (own_cc i0 i1 i2), iv (own_b i0 i1 i2), rv b586, rv ta_681, .val (.double (FP.i2d (own_a i0 i1 i2))), .second, iv (1 : Int32)] [(.double (FP.i2d (own_b i0 i1 i2))), (.double (4602678819172646912 : UInt64)), (.ref d1_681)]
      refine XS.dload X690.here hx rfl (hb hby at_193) rfl ?_
      show Go p e below t T690 m 195 #[iv i0, iv i1, iv i2, iv i3, iv (3 : Int32), iv (own_a i0 i1 i2), iv (own_cc i0 i1 i2), iv (own_b i0 i1 i2), rv b586, rv ta_681, .val (.double (FP.i2d (own_a i0 i1 i2))), .second, iv (1 : Int32)] [(.double (FP.i2d (own_a i0 i1 i2))), (.double (FP.i2d (own_b i0 i1 i2))), (.double (4602678819172646912 : UInt64)), (.ref d1_681)]
      exact k)
    obtain ⟨_, _, ⟨T695, L695, k695, n695⟩, -, X695, ⟨Lc695, hQ695, l695, y695, z695⟩, st695⟩ := Jvm.LawKit.callS X690 hx (y := (⟨"com/example/nimble_retrieval/nimbleretrieval/runs/TrainedMergeInputsPinLaw", "expected", "(DD)D"⟩ : MethodName)) hown (mvT hZ (hw _ (List.mem_of_getElem? (i := 138) rfl))) (mvT hZ (hw _ (List.mem_of_getElem? (i := 139) rfl))) (mvT hZ (hw _ (List.mem_of_getElem? (i := 140) rfl))) (mvT hZ (hw _ (List.mem_of_getElem? (i := 141) rfl))) (by decide) (backOf (W := 3) (rm_exp l Z a0 hw [] (FP.i2d (own_b i0 i1 i2)) (FP.i2d (own_a i0 i1 i2))  T681.heap n0 (Nat.le_trans Z0 (Nat.le_trans (Nat.le_trans (Nat.le_trans (Nat.le_trans (Nat.le_trans (Nat.le_trans (Nat.le_trans (Nat.le_trans (Nat.le_trans (Nat.le_trans (Nat.le_trans (Nat.le_trans (Nat.le_trans (Nat.le_trans (Nat.le_trans (Nat.le_refl _) E586.1) R592_0.1) E595.1) E600.1) R603_0.1) R605_0.1) E655.1) E660.1) R663_0.1) R665_0.1) E668.1) E673.1) R676_0.1) R678_0.1) R681_0.1)) (Jvm.Free.Fl.i2d_fin _) (Jvm.Free.Fl.i2d_fin _)) hZ (hw _ (List.mem_of_getElem? (i := 141) rfl)) (hw _ (List.mem_of_getElem? (i := 140) rfl)) (by decide) (by decide)) (g := (mkF m 195 #[iv i0, iv i1, iv i2, iv i3, iv (3 : Int32), iv (own_a i0 i1 i2), iv (own_cc i0 i1 i2), iv (own_b i0 i1 i2), rv b586, rv ta_681, .val (.double (FP.i2d (own_a i0 i1 i2))), .second, iv (1 : Int32)] [(.double (FP.i2d (own_a i0 i1 i2))), (.double (FP.i2d (own_b i0 i1 i2))), (.double (4602678819172646912 : UInt64)), (.ref d1_681)])) rfl (by rw [hml]; rfl) (argsL := [(.double (FP.i2d (own_b i0 i1 i2))), (.double (FP.i2d (own_a i0 i1 i2)))]) (rest := [(.double (4602678819172646912 : UInt64)), (.ref d1_681)]) (lenOf pd12 rfl) rfl (by show 2 * 0 + _ ≤ _; exact Nat.le_of_eq rfl) (hb hby at_195) (fun _ _ => ⟨rfl, e690, (by decide : 15 + 0 ≤ _), (by decide : 52 + 0 ≤ _)⟩)
    dsimp only [Pt.U, Pt.locs, Pt.cells, Pt.slots] at X695 l695 y695 z695 st695 hQ695
    subst l695 y695 z695
    obtain ⟨rfl, N695, e695⟩ := hQ695
    have M695 := Fr.app M690 N695
    have g696 : Goes p e below S0 (T695.setTop (mkF m 198 #[iv i0, iv i1, iv i2, iv i3, iv (3 : Int32), iv (own_a i0 i1 i2), iv (own_cc i0 i1 i2), iv (own_b i0 i1 i2), rv b586, rv ta_681, .val (.double (FP.i2d (own_a i0 i1 i2))), .second, iv (1 : Int32)] [(.double (f_exp (FP.i2d (own_b i0 i1 i2)) (FP.i2d (own_a i0 i1 i2)))), (.double (4602678819172646912 : UInt64)), (.ref d1_681)])) := fun t k => g694 t (st695 t k)
    obtain ⟨_, _, ⟨T697, L697, k697, n697⟩, -, X697, ⟨Lc697, hQ697, l697, y697, z697⟩, st697⟩ := Jvm.LawKit.callS X695 hx (y := (⟨"com/example/nimble_retrieval/nimbleretrieval/runs/TrainedMergeInputsPinLaw", "row", "([DDD)Z"⟩ : MethodName)) hown (mvT hZ (hw _ (List.mem_of_getElem? (i := 142) rfl))) (mvT hZ (hw _ (List.mem_of_getElem? (i := 143) rfl))) (mvT hZ (hw _ (List.mem_of_getElem? (i := 140) rfl))) (mvT hZ (hw _ (List.mem_of_getElem? (i := 144) rfl))) (by decide) (backOf (W := 0) (rm_row l Z a0 hw [] d1_681 (4602678819172646912 : UInt64) (f_exp (FP.i2d (own_b i0 i1 i2)) (FP.i2d (own_a i0 i1 i2))) (FP.dsub (4607182418800017408 : UInt64) (FP.ddiv (4607182418800017408 : UInt64) (FP.i2d (2 : Int32)))) (own_sc (FP.i2d (own_a i0 i1 i2)) (FP.i2d (own_b i0 i1 i2))) dk1_681 T681.heap n0 (Nat.le_trans Z0 (Nat.le_trans (Nat.le_trans (Nat.le_trans (Nat.le_trans (Nat.le_trans (Nat.le_trans (Nat.le_trans (Nat.le_trans (Nat.le_trans (Nat.le_trans (Nat.le_trans (Nat.le_trans (Nat.le_trans (Nat.le_trans (Nat.le_trans (Nat.le_refl _) E586.1) R592_0.1) E595.1) E600.1) R603_0.1) R605_0.1) E655.1) E660.1) R663_0.1) R665_0.1) E668.1) E673.1) R676_0.1) R678_0.1) R681_0.1)) R681_7) hZ (hw _ (List.mem_of_getElem? (i := 144) rfl)) (hw _ (List.mem_of_getElem? (i := 140) rfl)) (by decide) (by decide)) (g := (mkF m 198 #[iv i0, iv i1, iv i2, iv i3, iv (3 : Int32), iv (own_a i0 i1 i2), iv (own_cc i0 i1 i2), iv (own_b i0 i1 i2), rv b586, rv ta_681, .val (.double (FP.i2d (own_a i0 i1 i2))), .second, iv (1 : Int32)] [(.double (f_exp (FP.i2d (own_b i0 i1 i2)) (FP.i2d (own_a i0 i1 i2)))), (.double (4602678819172646912 : UInt64)), (.ref d1_681)])) rfl (by rw [hml]; rfl) (argsL := [(.ref d1_681), (.double (4602678819172646912 : UInt64)), (.double (f_exp (FP.i2d (own_b i0 i1 i2)) (FP.i2d (own_a i0 i1 i2))))]) (rest := []) (lenOf pd13 rfl) rfl (by show 2 * 0 + _ ≤ _; exact Nat.le_of_eq rfl) (hb hby at_198) (fun _ _ => ⟨rfl, e695, (by decide : 15 + 0 ≤ _), (by decide : 52 + 0 ≤ _)⟩)
    dsimp only [Pt.U, Pt.locs, Pt.cells, Pt.slots] at X697 l697 y697 z697 st697 hQ697
    subst l697 y697 z697
    obtain ⟨rfl, N697, e697⟩ := hQ697
    have M697 := Fr.app M695 N697
    have g698 : Goes p e below S0 (T697.setTop (mkF m 201 #[iv i0, iv i1, iv i2, iv i3, iv (3 : Int32), iv (own_a i0 i1 i2), iv (own_cc i0 i1 i2), iv (own_b i0 i1 i2), rv b586, rv ta_681, .val (.double (FP.i2d (own_a i0 i1 i2))), .second, iv (1 : Int32)] [(.int (f_row (4602678819172646912 : UInt64) (f_exp (FP.i2d (own_b i0 i1 i2)) (FP.i2d (own_a i0 i1 i2))) (FP.dsub (4607182418800017408 : UInt64) (FP.ddiv (4607182418800017408 : UInt64) (FP.i2d (2 : Int32)))) (own_sc (FP.i2d (own_a i0 i1 i2)) (FP.i2d (own_b i0 i1 i2)))))])) := fun t k => g696 t (st697 t k)
    rw [show (f_row (4602678819172646912 : UInt64) (f_exp (FP.i2d (own_b i0 i1 i2)) (FP.i2d (own_a i0 i1 i2))) (FP.dsub (4607182418800017408 : UInt64) (FP.ddiv (4607182418800017408 : UInt64) (FP.i2d (2 : Int32)))) (own_sc (FP.i2d (own_a i0 i1 i2)) (FP.i2d (own_b i0 i1 i2)))) = (1 : Int32) from own_r1 (own_a i0 i1 i2) (own_b i0 i1 i2)] at g698
    have g699 : Goes p e below S0 (T697.setTop (mkF m 225 #[iv i0, iv i1, iv i2, iv i3, iv (3 : Int32), iv (own_a i0 i1 i2), iv (own_cc i0 i1 i2), iv (own_b i0 i1 i2), rv b586, rv ta_681, .val (.double (FP.i2d (own_a i0 i1 i2))), .second, iv (1 : Int32)] [(.int (2 : Int32)), (.ref ta_681)])) := fun t k => g698 t (by
      refine XS.ifNo X697.here hx rfl (hb hby at_201) rfl (XT.i0_eq_f (by decide)) ?_
      show Go p e below t T697 m 204 #[iv i0, iv i1, iv i2, iv i3, iv (3 : Int32), iv (own_a i0 i1 i2), iv (own_cc i0 i1 i2), iv (own_b i0 i1 i2), rv b586, rv ta_681, .val (.double (FP.i2d (own_a i0 i1 i2))), .second, iv (1 : Int32)] []
      refine XT.iconstV X697.here hx rfl (1 : Int32) (hb hby at_204) (by decide) ?_
      show Go p e below t T697 m 205 #[iv i0, iv i1, iv i2, iv i3, iv (3 : Int32), iv (own_a i0 i1 i2), iv (own_cc i0 i1 i2), iv (own_b i0 i1 i2), rv b586, rv ta_681, .val (.double (FP.i2d (own_a i0 i1 i2))), .second, iv (1 : Int32)] [(.int (1 : Int32))]
      refine XS.goto X697.here hx rfl (pc0 := 205) (pc' := 209) rfl (hb hby at_205) (by decide) (by decide) ?_
      show Go p e below t T697 m 209 #[iv i0, iv i1, iv i2, iv i3, iv (3 : Int32), iv (own_a i0 i1 i2), iv (own_cc i0 i1 i2), iv (own_b i0 i1 i2), rv b586, rv ta_681, .val (.double (FP.i2d (own_a i0 i1 i2))), .second, iv (1 : Int32)] [(.int (1 : Int32))]
      refine XS.istore X697.here hx rfl (hb hby at_209) rfl (l' := #[iv i0, iv i1, iv i2, iv i3, iv (3 : Int32), iv (own_a i0 i1 i2), iv (own_cc i0 i1 i2), iv (own_b i0 i1 i2), rv b586, rv ta_681, .val (.double (FP.i2d (own_a i0 i1 i2))), .second, iv (1 : Int32)]) rfl ?_
      show Go p e below t T697 m 211 #[iv i0, iv i1, iv i2, iv i3, iv (3 : Int32), iv (own_a i0 i1 i2), iv (own_cc i0 i1 i2), iv (own_b i0 i1 i2), rv b586, rv ta_681, .val (.double (FP.i2d (own_a i0 i1 i2))), .second, iv (1 : Int32)] []
      refine XS.iload X697.here hx rfl (hb hby at_211) rfl ?_
      show Go p e below t T697 m 213 #[iv i0, iv i1, iv i2, iv i3, iv (3 : Int32), iv (own_a i0 i1 i2), iv (own_cc i0 i1 i2), iv (own_b i0 i1 i2), rv b586, rv ta_681, .val (.double (FP.i2d (own_a i0 i1 i2))), .second, iv (1 : Int32)] [(.int (3 : Int32))]
      refine XT.iconstV X697.here hx rfl (3 : Int32) (hb hby at_213) (by decide) ?_
      show Go p e below t T697 m 214 #[iv i0, iv i1, iv i2, iv i3, iv (3 : Int32), iv (own_a i0 i1 i2), iv (own_cc i0 i1 i2), iv (own_b i0 i1 i2), rv b586, rv ta_681, .val (.double (FP.i2d (own_a i0 i1 i2))), .second, iv (1 : Int32)] [(.int (3 : Int32)), (.int (3 : Int32))]
      refine XS.icmpNo X697.here hx rfl (hb hby at_214) rfl (XT.ii_lt_f (by decide)) ?_
      show Go p e below t T697 m 217 #[iv i0, iv i1, iv i2, iv i3, iv (3 : Int32), iv (own_a i0 i1 i2), iv (own_cc i0 i1 i2), iv (own_b i0 i1 i2), rv b586, rv ta_681, .val (.double (FP.i2d (own_a i0 i1 i2))), .second, iv (1 : Int32)] []
      refine XS.iload X697.here hx rfl (hb hby at_217) rfl ?_
      show Go p e below t T697 m 219 #[iv i0, iv i1, iv i2, iv i3, iv (3 : Int32), iv (own_a i0 i1 i2), iv (own_cc i0 i1 i2), iv (own_b i0 i1 i2), rv b586, rv ta_681, .val (.double (FP.i2d (own_a i0 i1 i2))), .second, iv (1 : Int32)] [(.int (1 : Int32))]
      refine XS.ifNo X697.here hx rfl (hb hby at_219) rfl (XT.i0_eq_f (by decide)) ?_
      show Go p e below t T697 m 222 #[iv i0, iv i1, iv i2, iv i3, iv (3 : Int32), iv (own_a i0 i1 i2), iv (own_cc i0 i1 i2), iv (own_b i0 i1 i2), rv b586, rv ta_681, .val (.double (FP.i2d (own_a i0 i1 i2))), .second, iv (1 : Int32)] []
      refine XS.aload X697.here hx rfl (hb hby at_222) rfl rfl ?_
      show Go p e below t T697 m 224 #[iv i0, iv i1, iv i2, iv i3, iv (3 : Int32), iv (own_a i0 i1 i2), iv (own_cc i0 i1 i2), iv (own_b i0 i1 i2), rv b586, rv ta_681, .val (.double (FP.i2d (own_a i0 i1 i2))), .second, iv (1 : Int32)] [(.ref ta_681)]
      refine XT.iconstV X697.here hx rfl (2 : Int32) (hb hby at_224) (by decide) ?_
      show Go p e below t T697 m 225 #[iv i0, iv i1, iv i2, iv i3, iv (3 : Int32), iv (own_a i0 i1 i2), iv (own_cc i0 i1 i2), iv (own_b i0 i1 i2), rv b586, rv ta_681, .val (.double (FP.i2d (own_a i0 i1 i2))), .second, iv (1 : Int32)] [(.int (2 : Int32)), (.ref ta_681)]
      exact k)
    obtain ⟨cl700, Ar700, q700, S700, M700, H700, G700⟩ := id R681_5
    have g701 : Goes p e below S0 (T697.setTop (mkF m 234 #[iv i0, iv i1, iv i2, iv i3, iv (3 : Int32), iv (own_a i0 i1 i2), iv (own_cc i0 i1 i2), iv (own_b i0 i1 i2), rv b586, rv ta_681, .val (.double (FP.i2d (own_a i0 i1 i2))), .second, iv (1 : Int32)] [(.double (FP.i2d (own_a i0 i1 i2))), (.double (FP.i2d (own_cc i0 i1 i2))), (.double (4604180019048437078 : UInt64)), (.ref d2_681)])) := fun t k => g699 t (by
      refine X697.aaload hx (j := (2 : Int32)) (v := (.ref d2_681)) (by rw [e697]; exact Ar700.1) (State.isArrayOf_alike hZ.alike Ar700.2.1) rfl Ar700.2.2 (inb_of S700 ⟨by decide, by decide⟩) (H700.at (inb_of S700 ⟨by decide, by decide⟩) rfl) (g := (mkF m 225 #[iv i0, iv i1, iv i2, iv i3, iv (3 : Int32), iv (own_a i0 i1 i2), iv (own_cc i0 i1 i2), iv (own_b i0 i1 i2), rv b586, rv ta_681, .val (.double (FP.i2d (own_a i0 i1 i2))), .second, iv (1 : Int32)] [(.int (2 : Int32)), (.ref ta_681)])) rfl rfl (hb hby at_225) _ ?_
      show Go p e below t T697 m 226 #[iv i0, iv i1, iv i2, iv i3, iv (3 : Int32), iv (own_a i0 i1 i2), iv (own_cc i0 i1 i2), iv (own_b i0 i1 i2), rv b586, rv ta_681, .val (.double (FP.i2d (own_a i0 i1 i2))), .second, iv (1 : Int32)] [(.ref d2_681)]
      refine X697.ldc2DoubleC hx hown (mvT hZ (hw _ (List.mem_of_getElem? (i := 147) rfl))) (g := (mkF m 226 #[iv i0, iv i1, iv i2, iv i3, iv (3 : Int32), iv (own_a i0 i1 i2), iv (own_cc i0 i1 i2), iv (own_b i0 i1 i2), rv b586, rv ta_681, .val (.double (FP.i2d (own_a i0 i1 i2))), .second, iv (1 : Int32)] [(.ref d2_681)])) rfl (hb hby at_226) _ ?_
      show Go p e below t T697 m 229 #[iv i0, iv i1, iv i2, iv i3, iv (3 : Int32), iv (own_a i0 i1 i2), iv (own_cc i0 i1 i2), iv (own_b i0 i1 i2), rv b586, rv ta_681, .val (.double (FP.i2d (own_a i0 i1 i2))), .second, iv (1 : Int32)] [(.double (4604180019048437078 : UInt64)), (.ref d2_681)]
      refine XS.iload X697.here hx rfl (hb hby at_229) rfl ?_
      show Go p e below t T697 m 231 #[iv i0, iv i1, iv i2, iv i3, iv (3 : Int32), iv (own_a i0 i1 i2), iv (own_cc i0 i1 i2), iv (own_b i0 i1 i2), rv b586, rv ta_681, .val (.double (FP.i2d (own_a i0 i1 i2))), .second, iv (1 : Int32)] [(.int (own_cc i0 i1 i2)), (.double (4604180019048437078 : UInt64)), (.ref d2_681)]
      refine XS.i2dS X697.here hx rfl (hb hby at_231) rfl rfl ?_
      show Go p e below t T697 m 232 #[iv i0, iv i1, iv i2, iv i3, iv (3 : Int32), iv (own_a i0 i1 i2), iv (own_cc i0 i1 i2), iv (own_b i0 i1 i2), rv b586, rv ta_681, .val (.double (FP.i2d (own_a i0 i1 i2))), .second, iv (1 : Int32)] [(.double (FP.i2d (own_cc i0 i1 i2))), (.double (4604180019048437078 : UInt64)), (.ref d2_681)]
      refine XS.dload X697.here hx rfl (hb hby at_232) rfl ?_
      show Go p e below t T697 m 234 #[iv i0, iv i1, iv i2, iv i3, iv (3 : Int32), iv (own_a i0 i1 i2), iv (own_cc i0 i1 i2), iv (own_b i0 i1 i2), rv b586, rv ta_681, .val (.double (FP.i2d (own_a i0 i1 i2))), .second, iv (1 : Int32)] [(.double (FP.i2d (own_a i0 i1 i2))), (.double (FP.i2d (own_cc i0 i1 i2))), (.double (4604180019048437078 : UInt64)), (.ref d2_681)]
      exact k)
    obtain ⟨_, _, ⟨T702, L702, k702, n702⟩, -, X702, ⟨Lc702, hQ702, l702, y702, z702⟩, st702⟩ := Jvm.LawKit.callS X697 hx (y := (⟨"com/example/nimble_retrieval/nimbleretrieval/runs/TrainedMergeInputsPinLaw", "expected", "(DD)D"⟩ : MethodName)) hown (mvT hZ (hw _ (List.mem_of_getElem? (i := 138) rfl))) (mvT hZ (hw _ (List.mem_of_getElem? (i := 139) rfl))) (mvT hZ (hw _ (List.mem_of_getElem? (i := 140) rfl))) (mvT hZ (hw _ (List.mem_of_getElem? (i := 141) rfl))) (by decide) (backOf (W := 3) (rm_exp l Z a0 hw [] (FP.i2d (own_cc i0 i1 i2)) (FP.i2d (own_a i0 i1 i2))  T681.heap n0 (Nat.le_trans Z0 (Nat.le_trans (Nat.le_trans (Nat.le_trans (Nat.le_trans (Nat.le_trans (Nat.le_trans (Nat.le_trans (Nat.le_trans (Nat.le_trans (Nat.le_trans (Nat.le_trans (Nat.le_trans (Nat.le_trans (Nat.le_trans (Nat.le_trans (Nat.le_refl _) E586.1) R592_0.1) E595.1) E600.1) R603_0.1) R605_0.1) E655.1) E660.1) R663_0.1) R665_0.1) E668.1) E673.1) R676_0.1) R678_0.1) R681_0.1)) (Jvm.Free.Fl.i2d_fin _) (Jvm.Free.Fl.i2d_fin _)) hZ (hw _ (List.mem_of_getElem? (i := 141) rfl)) (hw _ (List.mem_of_getElem? (i := 140) rfl)) (by decide) (by decide)) (g := (mkF m 234 #[iv i0, iv i1, iv i2, iv i3, iv (3 : Int32), iv (own_a i0 i1 i2), iv (own_cc i0 i1 i2), iv (own_b i0 i1 i2), rv b586, rv ta_681, .val (.double (FP.i2d (own_a i0 i1 i2))), .second, iv (1 : Int32)] [(.double (FP.i2d (own_a i0 i1 i2))), (.double (FP.i2d (own_cc i0 i1 i2))), (.double (4604180019048437078 : UInt64)), (.ref d2_681)])) rfl (by rw [hml]; rfl) (argsL := [(.double (FP.i2d (own_cc i0 i1 i2))), (.double (FP.i2d (own_a i0 i1 i2)))]) (rest := [(.double (4604180019048437078 : UInt64)), (.ref d2_681)]) (lenOf pd12 rfl) rfl (by show 2 * 0 + _ ≤ _; exact Nat.le_of_eq rfl) (hb hby at_234) (fun _ _ => ⟨rfl, e697, (by decide : 15 + 0 ≤ _), (by decide : 52 + 0 ≤ _)⟩)
    dsimp only [Pt.U, Pt.locs, Pt.cells, Pt.slots] at X702 l702 y702 z702 st702 hQ702
    subst l702 y702 z702
    obtain ⟨rfl, N702, e702⟩ := hQ702
    have M702 := Fr.app M697 N702
    have g703 : Goes p e below S0 (T702.setTop (mkF m 237 #[iv i0, iv i1, iv i2, iv i3, iv (3 : Int32), iv (own_a i0 i1 i2), iv (own_cc i0 i1 i2), iv (own_b i0 i1 i2), rv b586, rv ta_681, .val (.double (FP.i2d (own_a i0 i1 i2))), .second, iv (1 : Int32)] [(.double (f_exp (FP.i2d (own_cc i0 i1 i2)) (FP.i2d (own_a i0 i1 i2)))), (.double (4604180019048437078 : UInt64)), (.ref d2_681)])) := fun t k => g701 t (st702 t k)
    obtain ⟨_, _, ⟨T704, L704, k704, n704⟩, -, X704, ⟨Lc704, hQ704, l704, y704, z704⟩, st704⟩ := Jvm.LawKit.callS X702 hx (y := (⟨"com/example/nimble_retrieval/nimbleretrieval/runs/TrainedMergeInputsPinLaw", "row", "([DDD)Z"⟩ : MethodName)) hown (mvT hZ (hw _ (List.mem_of_getElem? (i := 142) rfl))) (mvT hZ (hw _ (List.mem_of_getElem? (i := 143) rfl))) (mvT hZ (hw _ (List.mem_of_getElem? (i := 140) rfl))) (mvT hZ (hw _ (List.mem_of_getElem? (i := 144) rfl))) (by decide) (backOf (W := 0) (rm_row l Z a0 hw [] d2_681 (4604180019048437078 : UInt64) (f_exp (FP.i2d (own_cc i0 i1 i2)) (FP.i2d (own_a i0 i1 i2))) (FP.dsub (4607182418800017408 : UInt64) (FP.ddiv (4607182418800017408 : UInt64) (FP.i2d (3 : Int32)))) (own_sc (FP.i2d (own_a i0 i1 i2)) (FP.i2d (own_cc i0 i1 i2))) dk2_681 T681.heap n0 (Nat.le_trans Z0 (Nat.le_trans (Nat.le_trans (Nat.le_trans (Nat.le_trans (Nat.le_trans (Nat.le_trans (Nat.le_trans (Nat.le_trans (Nat.le_trans (Nat.le_trans (Nat.le_trans (Nat.le_trans (Nat.le_trans (Nat.le_trans (Nat.le_trans (Nat.le_refl _) E586.1) R592_0.1) E595.1) E600.1) R603_0.1) R605_0.1) E655.1) E660.1) R663_0.1) R665_0.1) E668.1) E673.1) R676_0.1) R678_0.1) R681_0.1)) R681_8) hZ (hw _ (List.mem_of_getElem? (i := 144) rfl)) (hw _ (List.mem_of_getElem? (i := 140) rfl)) (by decide) (by decide)) (g := (mkF m 237 #[iv i0, iv i1, iv i2, iv i3, iv (3 : Int32), iv (own_a i0 i1 i2), iv (own_cc i0 i1 i2), iv (own_b i0 i1 i2), rv b586, rv ta_681, .val (.double (FP.i2d (own_a i0 i1 i2))), .second, iv (1 : Int32)] [(.double (f_exp (FP.i2d (own_cc i0 i1 i2)) (FP.i2d (own_a i0 i1 i2)))), (.double (4604180019048437078 : UInt64)), (.ref d2_681)])) rfl (by rw [hml]; rfl) (argsL := [(.ref d2_681), (.double (4604180019048437078 : UInt64)), (.double (f_exp (FP.i2d (own_cc i0 i1 i2)) (FP.i2d (own_a i0 i1 i2))))]) (rest := []) (lenOf pd13 rfl) rfl (by show 2 * 0 + _ ≤ _; exact Nat.le_of_eq rfl) (hb hby at_237) (fun _ _ => ⟨rfl, e702, (by decide : 15 + 0 ≤ _), (by decide : 52 + 0 ≤ _)⟩)
    dsimp only [Pt.U, Pt.locs, Pt.cells, Pt.slots] at X704 l704 y704 z704 st704 hQ704
    subst l704 y704 z704
    obtain ⟨rfl, N704, e704⟩ := hQ704
    have M704 := Fr.app M702 N704
    have g705 : Goes p e below S0 (T704.setTop (mkF m 240 #[iv i0, iv i1, iv i2, iv i3, iv (3 : Int32), iv (own_a i0 i1 i2), iv (own_cc i0 i1 i2), iv (own_b i0 i1 i2), rv b586, rv ta_681, .val (.double (FP.i2d (own_a i0 i1 i2))), .second, iv (1 : Int32)] [(.int (f_row (4604180019048437078 : UInt64) (f_exp (FP.i2d (own_cc i0 i1 i2)) (FP.i2d (own_a i0 i1 i2))) (FP.dsub (4607182418800017408 : UInt64) (FP.ddiv (4607182418800017408 : UInt64) (FP.i2d (3 : Int32)))) (own_sc (FP.i2d (own_a i0 i1 i2)) (FP.i2d (own_cc i0 i1 i2)))))])) := fun t k => g703 t (st704 t k)
    rw [show (f_row (4604180019048437078 : UInt64) (f_exp (FP.i2d (own_cc i0 i1 i2)) (FP.i2d (own_a i0 i1 i2))) (FP.dsub (4607182418800017408 : UInt64) (FP.ddiv (4607182418800017408 : UInt64) (FP.i2d (3 : Int32)))) (own_sc (FP.i2d (own_a i0 i1 i2)) (FP.i2d (own_cc i0 i1 i2)))) = (1 : Int32) from own_r2 (own_a i0 i1 i2) (own_cc i0 i1 i2)] at g705
    have g706 : Goes p e below S0 (T704.setTop (mkF m 252 #[iv i0, iv i1, iv i2, iv i3, iv (3 : Int32), iv (own_a i0 i1 i2), iv (own_cc i0 i1 i2), iv (own_b i0 i1 i2), rv b586, rv ta_681, .val (.double (FP.i2d (own_a i0 i1 i2))), .second, iv (1 : Int32)] [(.int (1 : Int32))])) := fun t k => g705 t (by
      refine XS.ifNo X704.here hx rfl (hb hby at_240) rfl (XT.i0_eq_f (by decide)) ?_
      show Go p e below t T704 m 243 #[iv i0, iv i1, iv i2, iv i3, iv (3 : Int32), iv (own_a i0 i1 i2), iv (own_cc i0 i1 i2), iv (own_b i0 i1 i2), rv b586, rv ta_681, .val (.double (FP.i2d (own_a i0 i1 i2))), .second, iv (1 : Int32)] []
      refine XT.iconstV X704.here hx rfl (1 : Int32) (hb hby at_243) (by decide) ?_
      show Go p e below t T704 m 244 #[iv i0, iv i1, iv i2, iv i3, iv (3 : Int32), iv (own_a i0 i1 i2), iv (own_cc i0 i1 i2), iv (own_b i0 i1 i2), rv b586, rv ta_681, .val (.double (FP.i2d (own_a i0 i1 i2))), .second, iv (1 : Int32)] [(.int (1 : Int32))]
      refine XS.goto X704.here hx rfl (pc0 := 244) (pc' := 248) rfl (hb hby at_244) (by decide) (by decide) ?_
      show Go p e below t T704 m 248 #[iv i0, iv i1, iv i2, iv i3, iv (3 : Int32), iv (own_a i0 i1 i2), iv (own_cc i0 i1 i2), iv (own_b i0 i1 i2), rv b586, rv ta_681, .val (.double (FP.i2d (own_a i0 i1 i2))), .second, iv (1 : Int32)] [(.int (1 : Int32))]
      refine XS.istore X704.here hx rfl (hb hby at_248) rfl (l' := #[iv i0, iv i1, iv i2, iv i3, iv (3 : Int32), iv (own_a i0 i1 i2), iv (own_cc i0 i1 i2), iv (own_b i0 i1 i2), rv b586, rv ta_681, .val (.double (FP.i2d (own_a i0 i1 i2))), .second, iv (1 : Int32)]) rfl ?_
      show Go p e below t T704 m 250 #[iv i0, iv i1, iv i2, iv i3, iv (3 : Int32), iv (own_a i0 i1 i2), iv (own_cc i0 i1 i2), iv (own_b i0 i1 i2), rv b586, rv ta_681, .val (.double (FP.i2d (own_a i0 i1 i2))), .second, iv (1 : Int32)] []
      refine XS.iload X704.here hx rfl (hb hby at_250) rfl ?_
      show Go p e below t T704 m 252 #[iv i0, iv i1, iv i2, iv i3, iv (3 : Int32), iv (own_a i0 i1 i2), iv (own_cc i0 i1 i2), iv (own_b i0 i1 i2), rv b586, rv ta_681, .val (.double (FP.i2d (own_a i0 i1 i2))), .second, iv (1 : Int32)] [(.int (1 : Int32))]
      exact k)
    obtain ⟨fs, hr, hrun, hended, hE1, hE2, hE3, hE4⟩ := Stand.leaveW (s := s) (vm₁ := T673.vm) X704 sn673 (by rw [e704]; exact (Nat.le_trans (Nat.le_trans (Nat.le_trans ks673 R676_0.1) R678_0.1) R681_0.1)) (v := some (.int (1 : Int32))) (fun h => by rw [Bd.returns] at h; cases h)
    refine ⟨_, _, g706 _ (retN X704 hx (t := .boolean) Bd.returns (by simp) (hb hby at_252) hr), hrun, hended, _, _, rfl, ?_, hE1, hE2, hE3, hE4.mono (by decide) (by decide)⟩
    show Q_law Z i0 i1 i2 i3 da dk h0 n0 _ T704.heap _
    rw [e704]
    exact ⟨rfl, M704⟩
theorem own_one (a b c d : Int32) : f_law a b c d = 1 := rfl
set_option maxRecDepth 65536 in
set_option maxHeartbeats 40000000 in
theorem comes_1 {Post : Tables → Env → Array Value → State → Outcome → State → Prop} (hpost : ∀ tb e args s v u, (limb_1_1.after args s (.returned v) u = true ∧ limb_1_2.after args s (.returned v) u = true ∧ True) → ReturnedEndW s (.returned v) u (Jvm.fieldLocs frame_1_writes args s ++ Jvm.arrayLocs frame_1_arrays args s ++ Jvm.staticLocs frame_1_statics s) 32 3264 → Post tb e args s (.returned v) u) :
    ArmFor flags0 classFile x code maxLocals ret World_1 tables_1 room_1 Calls_1 rest_1 Pre_1 Post := by
  intro l hfl _ _ p e ha hc hk s m args below hf hA hF happ hP
  obtain ⟨hcalls, hrest, hpre⟩ := hP
  obtain ⟨-, -, -, hnamed, -, -, -, hat⟩ := (Spec.applies_iff hf).mp happ
  obtain ⟨hg, hn⟩ := and_e (Cond.before_iff.mp (show (Jvm.Cond.and given_1 narrow_1).before args s = true from hpre))
  obtain ⟨hcount, q0⟩ := and_e hg
  obtain ⟨b0, q1⟩ := and_e q0
  obtain ⟨b1, q2⟩ := and_e q1
  obtain ⟨b2, q3⟩ := and_e q2
  have b3 := q3
  obtain ⟨w0, w1, w2, w3, rfl⟩ : ∃ w0 w1 w2 w3 : Value, args = #[w0, w1, w2, w3] := by
    have hs : args.size = 4 := by simpa [Cond.value, given_1] using hcount
    obtain ⟨L⟩ := args
    match L, hs with
    | [w0, w1, w2, w3], _ => exact ⟨w0, w1, w2, w3, rfl⟩
  have hw := fun d (hd : d ∈ tables_1) => atoms_spec (ws := Jvm.Cond.code x code maxLocals ret :: tables_1) hat d (List.mem_cons_of_mem _ hd)
  have hfit : Fit s := fun {y c} hc i hi => by
    obtain ⟨ha, rfl⟩ := Array.getElem?_eq_some_iff.mp hc
    have q := List.all_eq_true.mp ((Array.all_eq_true_iff_forall_mem.mp hF) _ (Array.getElem_mem ha)) i (List.mem_range.mpr hi)
    simpa [Array.getElem?_eq_getElem hi] using q
  obtain ⟨i0, r0⟩ := is_v b0
  obtain rfl : w0 = (.int i0) := Option.some.inj r0
  obtain ⟨i1, r1⟩ := is_v b1
  obtain rfl : w1 = (.int i1) := Option.some.inj r1
  obtain ⟨i2, r2⟩ := is_v b2
  obtain rfl : w2 = (.int i2) := Option.some.inj r2
  obtain ⟨i3, r3⟩ := is_v b3
  obtain rfl : w3 = (.int i3) := Option.some.inj r3
  obtain ⟨nn0, rr0⟩ := and_e (Cond.before_iff.mp (show rest_1_c.before _ s = true from hrest))
  obtain ⟨nn1, rr1⟩ := and_e rr0
  obtain ⟨nn2, rr2⟩ := and_e rr1
  obtain ⟨nn3, rr3⟩ := and_e rr2
  obtain ⟨nn4, rr4⟩ := and_e rr3
  obtain ⟨nn5, rr5⟩ := and_e rr4
  obtain ⟨nn6, rr6⟩ := and_e rr5
  obtain ⟨nn7, rr7⟩ := and_e rr6
  obtain ⟨nn8, rr8⟩ := and_e rr7
  obtain ⟨da, ev⟩ := arr_v nn6
  obtain ⟨dc, dA⟩ := Arr.start ev nn6
  have hd0 := own_len0 ev dA nn8
  have S1 := Sta.start (args := _) ev (Or.inr ⟨hw _ (List.mem_of_getElem? (i := 10) rfl), Cond.before_iff.mpr nn2⟩)
  have V1 : Arv s s.heap da dc.cls (.object "java/lang/Object") (0 : Int32) [] .null := Arv.start hfit dA (by omega) (by rw [hd0]; rfl) (by decide) rfl trivial
  obtain ⟨n, o, h1, h2, h3, v, L, rfl, ⟨hv, N⟩, hq⟩ := rm_law l s _ hw tables_1 i0 i1 i2 i3 da dc.cls s.heap s.heap.size (Nat.le_refl _) S1 V1 p e ha hc hk s m _ below hf ((Spec.applies_iff_loose hf).mp happ).1 ⟨rfl, State.Warmed39.refl s, rfl⟩ trivial
  obtain rfl : v = some (.int 1) := by rw [hv, own_one]
  refine ⟨n, _, h1, h2, h3, hpost _ _ _ _ _ _ ⟨Cond.after_iff.mpr rfl, Cond.after_iff.mpr (eq_i res_at (Term.int_eval (1)) rfl), trivial⟩ ⟨hq.1, hq.2.1, hq.2.2.1, (hq.2.2.2.sift fun y hy => Or.inr (N y hy)).mono (by decide) (by decide)⟩⟩
theorem main_1_1 : Claimed_1_1 := comes_1 fun _ _ _ _ _ _ h hF => ⟨h.1, hF⟩
theorem main_1_2 : Claimed_1_2 := comes_1 fun _ _ _ _ _ _ h hF => ⟨h.2.1, hF⟩
end Jvm.Pilot.@@N@@
namespace Jvm.Pilot.@@N@@
open Jvm Jvm.ClassFile Sem Op Lib Jvm.Free Jvm.Stand Jvm.Pilot.@@N@@.Jvm.D
/-! MADE BY PROGRAM (witnessworld.py) out of the Statement's table words and the real class files: 31 classes; the members and pool entries that the words name. The judged class is class 1, her method 1. -/
namespace start1
open Jvm.ClassFile
def u (s : String) : CpInfo := .utf8 (stringToUtf16 s)
/-- a pool by its gaps: so many unusable entries, then the entry; so many at the end -/
def gap : Nat → List CpInfo → List CpInfo
  | 0, r => r
  | n + 1, r => .unusable :: gap n r
def poolList (es : List (Nat × CpInfo)) (last : Nat) : List CpInfo := es.foldr (fun e r => gap e.1 (e.2 :: r)) (gap last [])
def pool (es : List (Nat × CpInfo)) (last : Nat) : Array CpInfo := ⟨poolList es last⟩
def fileOf (pool : Array CpInfo) (this : Nat) (attrs : Array Attribute := #[]) (ms : Array MethodInfo := #[]) (fl : Nat := 33) (sup : Nat := 0) (ifs : Array Nat := #[]) (fds : Array FieldInfo := #[]) : ClassFile where
  minorVersion := 0
  majorVersion := 65
  constantPool := pool
  accessFlags := fl
  thisClass := this
  superClass := sup
  interfaces := ifs
  fields := fds
  methods := ms
  attributes := attrs
def plain (name : String) (sup : Option ClassId) : Class where
  name := name
  kind := .ordinary
  loader := none
  accessFlags := 33
  super := sup
  interfaces := #[]
  cf := none
  fields := #[]
  methods := #[]
  instanceTypes := #[]
  staticTypes := #[]
  resolved := #[]
  callSites := []
  init := .initialized
  statics := none
  mirror := none

def pool0 : Array CpInfo := pool [(5, u "<init>"), (0, u "()V"), (1, .class_ 10), (1, u "java/lang/Object")] 113

def k0c0 : Code := { maxStack := 0, maxLocals := 1, code := object_method_1_code, exceptionTable := #[], attributes := #[] }
def k0m0 : Method := { name := "<init>", desc := "()V", sig := { parameters := [], returnType := none }, accessFlags := 1, code := some k0c0 }
/-- java/lang/Object -/
def k0 : Class := { plain "java/lang/Object" none with
  accessFlags := 33
  interfaces := #[]
  cf := some (fileOf pool0 8 #[] #[{ accessFlags := 1, nameIndex := 5, descriptorIndex := 6, attributes := #[] }] 33 0 #[] #[])
  fields := #[]
  methods := #[k0m0]
  instanceTypes := #[]
  staticTypes := #[]
  resolved := Array.replicate 124 none
  statics := none }

def pool1 : Array CpInfo := pool [(2, .class_ 4), (0, .nameAndType 5 6), (0, u "java/lang/Object"), (0, u "<init>"), (0, u "()V"), (0, .integer 2147483647), (0, .methodref 9 10), (0, .class_ 11), (0, .nameAndType 12 13), (0, u "java/lang/Math"), (0, u "max"), (0, u "(II)I"), (0, .methodref 9 15), (0, .nameAndType 16 13), (0, u "min"), (0, .class_ 18), (0, u "java/util/ArrayList"), (0, .methodref 17 3), (0, .class_ 21), (0, u "com/example/nimble_retrieval/nimbleretrieval/format/Run$Retrieved"), (0, .string 23), (0, u "a"), (0, .methodref 20 25), (0, .nameAndType 5 26), (0, u "(Ljava/lang/String;D)V"), (0, .interfaceMethodref 28 29), (0, .class_ 30), (0, .nameAndType 31 32), (0, u "java/util/List"), (0, u "add"), (0, u "(Ljava/lang/Object;)Z"), (0, .string 34), (0, u "b"), (0, .string 36), (0, u "c"), (0, .methodref 38 39), (0, .class_ 40), (0, .nameAndType 41 42), (0, u "com/example/nimble_retrieval/nimbleretrieval/runs/TrainedMerge"), (0, u "inputs"), (0, u "(Ljava/util/List;)[[D"), (0, .methodref 44 45), (0, .class_ 46), (0, .nameAndType 47 48), (0, u "com/example/nimble_retrieval/nimbleretrieval/runs/TrainedMergeInputsPinLaw"), (0, u "expected"), (0, u "(DD)D"), (0, .methodref 44 50), (0, .nameAndType 51 52), (0, u "row"), (0, u "([DDD)Z"), (0, .double 4602678819172646912), (1, .double 4604180019048437078), (3, u "law"), (0, u "(IIII)Z")] 9

def k1m0 : Method := { name := "<init>", desc := "()V", sig := { parameters := [], returnType := none }, accessFlags := 2, code := none }
def k1c1 : Code := { maxStack := 7, maxLocals := 13, code := code, exceptionTable := #[], attributes := #[] }
def k1m1 : Method := { name := "law", desc := "(IIII)Z", sig := { parameters := [.int, .int, .int, .int], returnType := some .boolean }, accessFlags := 9, code := some k1c1 }
def k1c2 : Code := { maxStack := 4, maxLocals := 4, code := method_3_code, exceptionTable := #[], attributes := #[] }
def k1m2 : Method := { name := "expected", desc := "(DD)D", sig := { parameters := [.double, .double], returnType := some .double }, accessFlags := 10, code := some k1c2 }
def k1c3 : Code := { maxStack := 4, maxLocals := 5, code := method_4_code, exceptionTable := #[], attributes := #[] }
def k1m3 : Method := { name := "row", desc := "([DDD)Z", sig := { parameters := [(.array .double), .double, .double], returnType := some .boolean }, accessFlags := 10, code := some k1c3 }
/-- com/example/nimble_retrieval/nimbleretrieval/runs/TrainedMergeInputsPinLaw -/
def k1 : Class := { plain "com/example/nimble_retrieval/nimbleretrieval/runs/TrainedMergeInputsPinLaw" (some 0) with
  accessFlags := 49
  interfaces := #[]
  cf := some (fileOf pool1 44 #[] #[{ accessFlags := 2, nameIndex := 5, descriptorIndex := 6, attributes := #[] }, { accessFlags := 9, nameIndex := 59, descriptorIndex := 60, attributes := #[] }, { accessFlags := 10, nameIndex := 47, descriptorIndex := 48, attributes := #[] }, { accessFlags := 10, nameIndex := 51, descriptorIndex := 52, attributes := #[] }] 49 2 #[] #[])
  fields := #[]
  methods := #[k1m0, k1m1, k1m2, k1m3]
  instanceTypes := #[]
  staticTypes := #[]
  resolved := Array.replicate 70 none
  statics := none }

def pool2 : Array CpInfo := pool [(1, .class_ 2), (0, u "java/lang/Math"), (1, .class_ 6), (1, u "java/lang/Object"), (0, u "<init>"), (0, u "()V"), (43, u "(DD)D"), (45, .class_ 100), (1, u "java/lang/Math$RandomNumberGeneratorHolder"), (71, u "negativeZeroFloatBits"), (0, u "J"), (2, u "negativeZeroDoubleBits"), (21, u "max"), (2, u "min"), (43, u "$assertionsDisabled"), (0, u "Z"), (88, u "(II)I"), (2, u "twoToTheDoubleScaleDown"), (0, u "D"), (4, u "twoToTheDoubleScaleUp"), (9, u "E"), (3, u "PI"), (2, u "TAU"), (2, u "DEGREES_TO_RADIANS"), (0, u "RADIANS_TO_DEGREES")] 94

def k2m0 : Method := { name := "<init>", desc := "()V", sig := { parameters := [], returnType := none }, accessFlags := 2, code := none }
def k2c1 : Code := { maxStack := 2, maxLocals := 2, code := jdk_29_method_65_code, exceptionTable := #[], attributes := #[] }
def k2m1 : Method := { name := "max", desc := "(II)I", sig := { parameters := [.int, .int], returnType := some .int }, accessFlags := 9, code := some k2c1 }
def k2c2 : Code := { maxStack := 4, maxLocals := 4, code := jdk_29_method_68_code, exceptionTable := #[], attributes := #[] }
def k2m2 : Method := { name := "max", desc := "(DD)D", sig := { parameters := [.double, .double], returnType := some .double }, accessFlags := 9, code := some k2c2 }
def k2c3 : Code := { maxStack := 2, maxLocals := 2, code := jdk_29_method_69_code, exceptionTable := #[], attributes := #[] }
def k2m3 : Method := { name := "min", desc := "(II)I", sig := { parameters := [.int, .int], returnType := some .int }, accessFlags := 9, code := some k2c3 }
/-- java/lang/Math -/
def k2 : Class := { plain "java/lang/Math" (some 0) with
  accessFlags := 49
  interfaces := #[]
  cf := some (fileOf pool2 1 #[.nestMembers #[98]] #[{ accessFlags := 2, nameIndex := 7, descriptorIndex := 8, attributes := #[] }, { accessFlags := 9, nameIndex := 198, descriptorIndex := 335, attributes := #[] }, { accessFlags := 9, nameIndex := 198, descriptorIndex := 52, attributes := #[] }, { accessFlags := 9, nameIndex := 201, descriptorIndex := 335, attributes := #[] }] 49 4 #[] #[{ accessFlags := 25, nameIndex := 354, descriptorIndex := 339, attributes := #[] }, { accessFlags := 25, nameIndex := 358, descriptorIndex := 339, attributes := #[] }, { accessFlags := 25, nameIndex := 361, descriptorIndex := 339, attributes := #[] }, { accessFlags := 26, nameIndex := 364, descriptorIndex := 339, attributes := #[] }, { accessFlags := 26, nameIndex := 365, descriptorIndex := 339, attributes := #[] }, { accessFlags := 26, nameIndex := 172, descriptorIndex := 173, attributes := #[] }, { accessFlags := 26, nameIndex := 176, descriptorIndex := 173, attributes := #[] }, { accessFlags := 8, nameIndex := 344, descriptorIndex := 339, attributes := #[] }, { accessFlags := 8, nameIndex := 338, descriptorIndex := 339, attributes := #[] }, { accessFlags := 4120, nameIndex := 245, descriptorIndex := 246, attributes := #[] }])
  fields := #[{ name := "E", type := .double, accessFlags := 25, slot := 0, constantValue := 0 }, { name := "PI", type := .double, accessFlags := 25, slot := 1, constantValue := 0 }, { name := "TAU", type := .double, accessFlags := 25, slot := 2, constantValue := 0 }, { name := "DEGREES_TO_RADIANS", type := .double, accessFlags := 26, slot := 3, constantValue := 0 }, { name := "RADIANS_TO_DEGREES", type := .double, accessFlags := 26, slot := 4, constantValue := 0 }, { name := "negativeZeroFloatBits", type := .long, accessFlags := 26, slot := 5, constantValue := 0 }, { name := "negativeZeroDoubleBits", type := .long, accessFlags := 26, slot := 6, constantValue := 0 }, { name := "twoToTheDoubleScaleUp", type := .double, accessFlags := 8, slot := 7, constantValue := 0 }, { name := "twoToTheDoubleScaleDown", type := .double, accessFlags := 8, slot := 8, constantValue := 0 }, { name := "$assertionsDisabled", type := .boolean, accessFlags := 4120, slot := 9, constantValue := 0 }]
  methods := #[k2m0, k2m1, k2m2, k2m3]
  instanceTypes := #[]
  staticTypes := #[.double, .double, .double, .double, .double, .long, .long, .double, .double, .boolean]
  resolved := Array.replicate 460 none
  statics := none }

def pool3 : Array CpInfo := pool [(8, .class_ 10), (1, u "java/lang/Iterable"), (24, .class_ 36), (0, u "java/lang/Object")] 25

/-- java/lang/Iterable -/
def k3 : Class := { plain "java/lang/Iterable" (some 0) with
  accessFlags := 1537
  interfaces := #[]
  cf := some (fileOf pool3 8 #[] #[] 1537 35 #[] #[])
  fields := #[]
  methods := #[]
  instanceTypes := #[]
  staticTypes := #[]
  resolved := Array.replicate 62 none
  statics := none }

def pool4 : Array CpInfo := pool [(10, .class_ 12), (1, u "java/util/Collection"), (47, .class_ 61), (0, u "java/lang/Object"), (0, .class_ 63), (0, u "java/lang/Iterable")] 51

/-- java/util/Collection -/
def k4 : Class := { plain "java/util/Collection" (some 0) with
  accessFlags := 1537
  interfaces := #[3]
  cf := some (fileOf pool4 10 #[] #[] 1537 60 #[62] #[])
  fields := #[]
  methods := #[]
  instanceTypes := #[]
  staticTypes := #[]
  resolved := Array.replicate 115 none
  statics := none }

def pool5 : Array CpInfo := pool [(1, .methodref 2 3), (0, .class_ 4), (0, .nameAndType 5 6), (0, u "java/lang/Object"), (0, u "<init>"), (0, u "()V"), (1, .class_ 10), (1, u "java/util/AbstractCollection"), (66, .class_ 78), (0, u "java/util/Collection")] 81

def k5c0 : Code := { maxStack := 1, maxLocals := 1, code := jdk_22_method_1_code, exceptionTable := #[], attributes := #[] }
def k5m0 : Method := { name := "<init>", desc := "()V", sig := { parameters := [], returnType := none }, accessFlags := 4, code := some k5c0 }
/-- java/util/AbstractCollection -/
def k5 : Class := { plain "java/util/AbstractCollection" (some 0) with
  accessFlags := 1057
  interfaces := #[4]
  cf := some (fileOf pool5 8 #[] #[{ accessFlags := 4, nameIndex := 5, descriptorIndex := 6, attributes := #[] }] 1057 2 #[77] #[])
  fields := #[]
  methods := #[k5m0]
  instanceTypes := #[]
  staticTypes := #[]
  resolved := Array.replicate 160 none
  statics := none }

def pool6 : Array CpInfo := pool [(8, .class_ 10), (1, u "java/util/SequencedCollection"), (15, .class_ 27), (0, u "java/lang/Object"), (0, .class_ 29), (0, u "java/util/Collection")] 27

/-- java/util/SequencedCollection -/
def k6 : Class := { plain "java/util/SequencedCollection" (some 0) with
  accessFlags := 1537
  interfaces := #[4]
  cf := some (fileOf pool6 8 #[] #[] 1537 26 #[28] #[])
  fields := #[]
  methods := #[]
  instanceTypes := #[]
  staticTypes := #[]
  resolved := Array.replicate 57 none
  statics := none }

def pool7 : Array CpInfo := pool [(8, .class_ 10), (1, u "java/util/List"), (49, u "add"), (3, u "(Ljava/lang/Object;)Z"), (10, u "get"), (0, u "(I)Ljava/lang/Object;"), (2, u "size"), (0, u "()I"), (22, .class_ 104), (0, u "java/lang/Object"), (15, .class_ 121), (0, u "java/util/SequencedCollection")] 129

def k7m0 : Method := { name := "size", desc := "()I", sig := { parameters := [], returnType := some .int }, accessFlags := 1025, code := none }
def k7m1 : Method := { name := "add", desc := "(Ljava/lang/Object;)Z", sig := { parameters := [(.object "java/lang/Object")], returnType := some .boolean }, accessFlags := 1025, code := none }
def k7m2 : Method := { name := "get", desc := "(I)Ljava/lang/Object;", sig := { parameters := [.int], returnType := some (.object "java/lang/Object") }, accessFlags := 1025, code := none }
/-- java/util/List -/
def k7 : Class := { plain "java/util/List" (some 0) with
  accessFlags := 1537
  interfaces := #[6]
  cf := some (fileOf pool7 8 #[] #[{ accessFlags := 1025, nameIndex := 79, descriptorIndex := 80, attributes := #[] }, { accessFlags := 1025, nameIndex := 60, descriptorIndex := 64, attributes := #[] }, { accessFlags := 1025, nameIndex := 75, descriptorIndex := 76, attributes := #[] }] 1537 103 #[120] #[])
  fields := #[]
  methods := #[k7m0, k7m1, k7m2]
  instanceTypes := #[]
  staticTypes := #[]
  resolved := Array.replicate 251 none
  statics := none }

def pool8 : Array CpInfo := pool [(1, .methodref 2 3), (0, .class_ 4), (0, .nameAndType 5 6), (0, u "java/util/AbstractCollection"), (0, u "<init>"), (0, u "()V"), (0, .fieldref 8 9), (0, .class_ 10), (0, .nameAndType 11 12), (0, u "java/util/AbstractList"), (0, u "modCount"), (0, u "I"), (64, .class_ 78), (0, u "java/util/AbstractList$Itr"), (3, .class_ 83), (0, u "java/util/AbstractList$ListItr"), (9, .class_ 94), (0, u "java/util/AbstractList$RandomAccessSubList"), (3, .class_ 99), (0, u "java/util/AbstractList$SubList"), (33, .class_ 134), (0, u "java/util/List"), (73, .class_ 209), (0, u "java/util/AbstractList$SubList$1"), (0, .class_ 211), (0, u "java/util/AbstractList$RandomAccessSpliterator")] 6

def k8c0 : Code := { maxStack := 2, maxLocals := 1, code := jdk_39_method_1_code, exceptionTable := #[], attributes := #[] }
def k8m0 : Method := { name := "<init>", desc := "()V", sig := { parameters := [], returnType := none }, accessFlags := 4, code := some k8c0 }
/-- java/util/AbstractList -/
def k8 : Class := { plain "java/util/AbstractList" (some 5) with
  accessFlags := 1057
  interfaces := #[7]
  cf := some (fileOf pool8 8 #[.nestMembers #[93, 98, 208, 210, 82, 77]] #[{ accessFlags := 4, nameIndex := 5, descriptorIndex := 6, attributes := #[] }] 1057 2 #[133] #[{ accessFlags := 132, nameIndex := 11, descriptorIndex := 12, attributes := #[] }])
  fields := #[{ name := "modCount", type := .int, accessFlags := 132, slot := 0, constantValue := 0 }]
  methods := #[k8m0]
  instanceTypes := #[.int]
  staticTypes := #[]
  resolved := Array.replicate 218 none
  statics := none }

def pool9 : Array CpInfo := pool [(1, .class_ 2), (0, u "java/util/RandomAccess"), (0, .class_ 4), (0, u "java/lang/Object")] 2

/-- java/util/RandomAccess -/
def k9 : Class := { plain "java/util/RandomAccess" (some 0) with
  accessFlags := 1537
  interfaces := #[]
  cf := some (fileOf pool9 1 #[] #[] 1537 3 #[] #[])
  fields := #[]
  methods := #[]
  instanceTypes := #[]
  staticTypes := #[]
  resolved := Array.replicate 7 none
  statics := none }

def pool10 : Array CpInfo := pool [(1, .class_ 2), (0, u "java/lang/Cloneable"), (0, .class_ 4), (0, u "java/lang/Object")] 2

/-- java/lang/Cloneable -/
def k10 : Class := { plain "java/lang/Cloneable" (some 0) with
  accessFlags := 1537
  interfaces := #[]
  cf := some (fileOf pool10 1 #[] #[] 1537 3 #[] #[])
  fields := #[]
  methods := #[]
  instanceTypes := #[]
  staticTypes := #[]
  resolved := Array.replicate 7 none
  statics := none }

def pool11 : Array CpInfo := pool [(1, .class_ 2), (0, u "java/io/Serializable"), (0, .class_ 4), (0, u "java/lang/Object")] 2

/-- java/io/Serializable -/
def k11 : Class := { plain "java/io/Serializable" (some 0) with
  accessFlags := 1537
  interfaces := #[]
  cf := some (fileOf pool11 1 #[] #[] 1537 3 #[] #[])
  fields := #[]
  methods := #[]
  instanceTypes := #[]
  staticTypes := #[]
  resolved := Array.replicate 7 none
  statics := none }

def pool12 : Array CpInfo := pool [(1, .methodref 2 3), (0, .class_ 4), (0, .nameAndType 5 6), (0, u "java/util/AbstractList"), (0, u "<init>"), (0, u "()V"), (0, .class_ 8), (0, u "java/lang/Object"), (0, .fieldref 10 11), (0, .class_ 12), (0, .nameAndType 13 14), (0, u "java/util/ArrayList"), (0, u "elementData"), (0, u "[Ljava/lang/Object;"), (2, u "EMPTY_ELEMENTDATA"), (21, .fieldref 10 40), (0, .nameAndType 41 14), (0, u "DEFAULTCAPACITY_EMPTY_ELEMENTDATA"), (5, u "()[Ljava/lang/Object;"), (0, .fieldref 10 49), (0, .nameAndType 50 51), (0, u "size"), (0, u "I"), (11, .fieldref 10 64), (0, .nameAndType 65 51), (0, u "modCount"), (3, .methodref 10 70), (0, .nameAndType 71 72), (0, u "grow"), (0, u "(I)[Ljava/lang/Object;"), (6, .methodref 80 81), (0, .class_ 82), (0, .nameAndType 83 84), (0, u "java/lang/Math"), (0, u "max"), (0, u "(II)I"), (11, u "(Ljava/lang/Object;)Z"), (21, .methodref 119 120), (0, .class_ 121), (0, .nameAndType 122 84), (0, u "java/util/Objects"), (0, u "checkIndex"), (0, .methodref 10 124), (0, .nameAndType 13 125), (0, u "(I)Ljava/lang/Object;"), (3, .methodref 10 130), (0, .nameAndType 71 47), (0, .methodref 10 132), (0, .nameAndType 133 134), (0, u "add"), (0, u "(Ljava/lang/Object;[Ljava/lang/Object;I)V"), (13, .class_ 149), (0, u "java/util/List"), (36, u "()I"), (75, .class_ 263), (0, u "java/util/ArrayList$ListItr"), (3, .class_ 268), (0, u "java/util/ArrayList$Itr"), (7, .class_ 277), (0, u "java/util/ArrayList$SubList"), (12, .class_ 291), (0, u "java/util/ArrayList$ArrayListSpliterator"), (37, .class_ 330), (0, u "java/util/RandomAccess"), (0, .class_ 332), (0, u "java/lang/Cloneable"), (0, .class_ 334), (0, u "java/io/Serializable"), (0, u "serialVersionUID"), (0, u "J"), (3, u "DEFAULT_CAPACITY"), (40, u "get"), (118, .class_ 501), (0, u "java/util/ArrayList$SubList$2"), (0, .class_ 503), (0, u "java/util/ArrayList$SubList$1")] 5

def k12c0 : Code := { maxStack := 2, maxLocals := 1, code := jdk_38_method_2_code, exceptionTable := #[], attributes := #[] }
def k12m0 : Method := { name := "<init>", desc := "()V", sig := { parameters := [], returnType := none }, accessFlags := 1, code := some k12c0 }
def k12c1 : Code := { maxStack := 4, maxLocals := 4, code := jdk_38_method_6_code, exceptionTable := #[], attributes := #[] }
def k12m1 : Method := { name := "grow", desc := "(I)[Ljava/lang/Object;", sig := { parameters := [.int], returnType := some (.array (.object "java/lang/Object")) }, accessFlags := 2, code := some k12c1 }
def k12c2 : Code := { maxStack := 3, maxLocals := 1, code := jdk_38_method_7_code, exceptionTable := #[], attributes := #[] }
def k12m2 : Method := { name := "grow", desc := "()[Ljava/lang/Object;", sig := { parameters := [], returnType := some (.array (.object "java/lang/Object")) }, accessFlags := 2, code := some k12c2 }
def k12c3 : Code := { maxStack := 1, maxLocals := 1, code := jdk_38_method_8_code, exceptionTable := #[], attributes := #[] }
def k12m3 : Method := { name := "size", desc := "()I", sig := { parameters := [], returnType := some .int }, accessFlags := 1, code := some k12c3 }
def k12c4 : Code := { maxStack := 2, maxLocals := 2, code := jdk_38_method_18_code, exceptionTable := #[], attributes := #[] }
def k12m4 : Method := { name := "elementData", desc := "(I)Ljava/lang/Object;", sig := { parameters := [.int], returnType := some (.object "java/lang/Object") }, accessFlags := 0, code := some k12c4 }
def k12c5 : Code := { maxStack := 2, maxLocals := 2, code := jdk_38_method_20_code, exceptionTable := #[], attributes := #[] }
def k12m5 : Method := { name := "get", desc := "(I)Ljava/lang/Object;", sig := { parameters := [.int], returnType := some (.object "java/lang/Object") }, accessFlags := 1, code := some k12c5 }
def k12c6 : Code := { maxStack := 3, maxLocals := 4, code := jdk_38_method_24_code, exceptionTable := #[], attributes := #[] }
def k12m6 : Method := { name := "add", desc := "(Ljava/lang/Object;[Ljava/lang/Object;I)V", sig := { parameters := [(.object "java/lang/Object"), (.array (.object "java/lang/Object")), .int], returnType := none }, accessFlags := 2, code := some k12c6 }
def k12c7 : Code := { maxStack := 4, maxLocals := 2, code := jdk_38_method_25_code, exceptionTable := #[], attributes := #[] }
def k12m7 : Method := { name := "add", desc := "(Ljava/lang/Object;)Z", sig := { parameters := [(.object "java/lang/Object")], returnType := some .boolean }, accessFlags := 1, code := some k12c7 }
/-- java/util/ArrayList -/
def k12 : Class := { plain "java/util/ArrayList" (some 8) with
  accessFlags := 33
  interfaces := #[7, 9, 10, 11]
  cf := some (fileOf pool12 10 #[.nestMembers #[290, 276, 500, 502, 262, 267]] #[{ accessFlags := 1, nameIndex := 5, descriptorIndex := 6, attributes := #[] }, { accessFlags := 2, nameIndex := 71, descriptorIndex := 72, attributes := #[] }, { accessFlags := 2, nameIndex := 71, descriptorIndex := 47, attributes := #[] }, { accessFlags := 1, nameIndex := 50, descriptorIndex := 186, attributes := #[] }, { accessFlags := 0, nameIndex := 13, descriptorIndex := 125, attributes := #[] }, { accessFlags := 1, nameIndex := 381, descriptorIndex := 125, attributes := #[] }, { accessFlags := 2, nameIndex := 133, descriptorIndex := 134, attributes := #[] }, { accessFlags := 1, nameIndex := 133, descriptorIndex := 96, attributes := #[] }] 33 2 #[148, 329, 331, 333] #[{ accessFlags := 26, nameIndex := 335, descriptorIndex := 336, attributes := #[] }, { accessFlags := 26, nameIndex := 340, descriptorIndex := 51, attributes := #[] }, { accessFlags := 26, nameIndex := 17, descriptorIndex := 14, attributes := #[] }, { accessFlags := 26, nameIndex := 41, descriptorIndex := 14, attributes := #[] }, { accessFlags := 128, nameIndex := 13, descriptorIndex := 14, attributes := #[] }, { accessFlags := 2, nameIndex := 50, descriptorIndex := 51, attributes := #[] }])
  fields := #[{ name := "serialVersionUID", type := .long, accessFlags := 26, slot := 0, constantValue := 0 }, { name := "DEFAULT_CAPACITY", type := .int, accessFlags := 26, slot := 1, constantValue := 0 }, { name := "EMPTY_ELEMENTDATA", type := (.array (.object "java/lang/Object")), accessFlags := 26, slot := 2, constantValue := 0 }, { name := "DEFAULTCAPACITY_EMPTY_ELEMENTDATA", type := (.array (.object "java/lang/Object")), accessFlags := 26, slot := 3, constantValue := 0 }, { name := "elementData", type := (.array (.object "java/lang/Object")), accessFlags := 128, slot := 1, constantValue := 0 }, { name := "size", type := .int, accessFlags := 2, slot := 2, constantValue := 0 }]
  methods := #[k12m0, k12m1, k12m2, k12m3, k12m4, k12m5, k12m6, k12m7]
  instanceTypes := #[.int, (.array (.object "java/lang/Object")), .int]
  staticTypes := #[.long, .int, (.array (.object "java/lang/Object")), (.array (.object "java/lang/Object"))]
  resolved := Array.replicate 509 none
  statics := some 0 }

def pool13 : Array CpInfo := pool [(1, .methodref 2 3), (0, .class_ 4), (0, .nameAndType 5 6), (0, u "java/lang/Object"), (0, u "<init>"), (0, u "()V"), (0, .class_ 8), (0, u "java/lang/Record")] 13

def k13c0 : Code := { maxStack := 1, maxLocals := 1, code := jdk_30_method_1_code, exceptionTable := #[], attributes := #[] }
def k13m0 : Method := { name := "<init>", desc := "()V", sig := { parameters := [], returnType := none }, accessFlags := 4, code := some k13c0 }
/-- java/lang/Record -/
def k13 : Class := { plain "java/lang/Record" (some 0) with
  accessFlags := 1057
  interfaces := #[]
  cf := some (fileOf pool13 7 #[] #[{ accessFlags := 4, nameIndex := 5, descriptorIndex := 6, attributes := #[] }] 1057 2 #[] #[])
  fields := #[]
  methods := #[k13m0]
  instanceTypes := #[]
  staticTypes := #[]
  resolved := Array.replicate 22 none
  statics := none }

def pool14 : Array CpInfo := pool [(1, .methodref 2 3), (0, .class_ 4), (0, .nameAndType 5 6), (0, u "java/lang/Record"), (0, u "<init>"), (0, u "()V"), (0, .fieldref 8 9), (0, .class_ 10), (0, .nameAndType 11 12), (0, u "com/example/nimble_retrieval/nimbleretrieval/format/Run$Retrieved"), (0, u "docno"), (0, u "Ljava/lang/String;"), (0, .fieldref 8 14), (0, .nameAndType 15 16), (0, u "score"), (0, u "D"), (12, u "(Ljava/lang/String;D)V"), (6, u "()D"), (3, .class_ 41), (0, u "com/example/nimble_retrieval/nimbleretrieval/format/Run")] 20

def k14c0 : Code := { maxStack := 3, maxLocals := 4, code := prog_30_method_1_code, exceptionTable := #[], attributes := #[] }
def k14m0 : Method := { name := "<init>", desc := "(Ljava/lang/String;D)V", sig := { parameters := [(.object "java/lang/String"), .double], returnType := none }, accessFlags := 1, code := some k14c0 }
def k14c1 : Code := { maxStack := 2, maxLocals := 1, code := prog_30_method_6_code, exceptionTable := #[], attributes := #[] }
def k14m1 : Method := { name := "score", desc := "()D", sig := { parameters := [], returnType := some .double }, accessFlags := 1, code := some k14c1 }
/-- com/example/nimble_retrieval/nimbleretrieval/format/Run$Retrieved -/
def k14 : Class := { plain "com/example/nimble_retrieval/nimbleretrieval/format/Run$Retrieved" (some 13) with
  accessFlags := 49
  interfaces := #[]
  cf := some (fileOf pool14 8 #[.nestHost 40] #[{ accessFlags := 1, nameIndex := 5, descriptorIndex := 29, attributes := #[] }, { accessFlags := 1, nameIndex := 15, descriptorIndex := 36, attributes := #[] }] 49 2 #[] #[{ accessFlags := 18, nameIndex := 11, descriptorIndex := 12, attributes := #[] }, { accessFlags := 18, nameIndex := 15, descriptorIndex := 16, attributes := #[] }])
  fields := #[{ name := "docno", type := (.object "java/lang/String"), accessFlags := 18, slot := 0, constantValue := 0 }, { name := "score", type := .double, accessFlags := 18, slot := 1, constantValue := 0 }]
  methods := #[k14m0, k14m1]
  instanceTypes := #[(.object "java/lang/String"), .double]
  staticTypes := #[]
  resolved := Array.replicate 62 none
  statics := none }

def pool15 : Array CpInfo := pool [(1, .class_ 2), (0, u "java/lang/Comparable"), (0, .class_ 4), (0, u "java/lang/Object")] 7

/-- java/lang/Comparable -/
def k15 : Class := { plain "java/lang/Comparable" (some 0) with
  accessFlags := 1537
  interfaces := #[]
  cf := some (fileOf pool15 1 #[] #[] 1537 3 #[] #[])
  fields := #[]
  methods := #[]
  instanceTypes := #[]
  staticTypes := #[]
  resolved := Array.replicate 12 none
  statics := none }

def pool16 : Array CpInfo := pool [(2, .class_ 4), (1, u "java/lang/CharSequence"), (42, .class_ 48), (0, u "java/lang/CharSequence$1CodePointIterator"), (10, .class_ 60), (0, u "java/lang/CharSequence$1CharIterator"), (5, .class_ 67), (0, u "java/lang/Object")] 63

/-- java/lang/CharSequence -/
def k16 : Class := { plain "java/lang/CharSequence" (some 0) with
  accessFlags := 1537
  interfaces := #[]
  cf := some (fileOf pool16 2 #[.nestMembers #[47, 59]] #[] 1537 66 #[] #[])
  fields := #[]
  methods := #[]
  instanceTypes := #[]
  staticTypes := #[]
  resolved := Array.replicate 131 none
  statics := none }

def pool17 : Array CpInfo := pool [(1, .class_ 2), (0, u "java/lang/constant/Constable"), (0, .class_ 4), (0, u "java/lang/Object")] 6

/-- java/lang/constant/Constable -/
def k17 : Class := { plain "java/lang/constant/Constable" (some 0) with
  accessFlags := 1537
  interfaces := #[]
  cf := some (fileOf pool17 1 #[] #[] 1537 3 #[] #[])
  fields := #[]
  methods := #[]
  instanceTypes := #[]
  staticTypes := #[]
  resolved := Array.replicate 11 none
  statics := none }

def pool18 : Array CpInfo := pool [(1, .class_ 2), (0, u "java/lang/constant/ConstantDesc"), (0, .class_ 4), (0, u "java/lang/Object")] 32

/-- java/lang/constant/ConstantDesc -/
def k18 : Class := { plain "java/lang/constant/ConstantDesc" (some 0) with
  accessFlags := 1537
  interfaces := #[]
  cf := some (fileOf pool18 1 #[] #[] 1537 3 #[] #[])
  fields := #[]
  methods := #[]
  instanceTypes := #[]
  staticTypes := #[]
  resolved := Array.replicate 37 none
  statics := none }

def pool19 : Array CpInfo := pool [(2, .class_ 4), (1, u "java/lang/Object"), (0, u "<init>"), (0, u "()V"), (3, .class_ 12), (1, u "java/lang/String"), (0, u "value"), (0, u "[B"), (2, u "coder"), (0, u "B"), (2, u "hash"), (0, u "I"), (2, u "hashIsZero"), (0, u "Z"), (13, u "COMPACT_STRINGS"), (534, .class_ 576), (0, u "java/lang/CharSequence"), (22, u "CASE_INSENSITIVE_ORDER"), (0, u "Ljava/util/Comparator;"), (500, u "serialPersistentFields"), (0, u "[Ljava/io/ObjectStreamField;"), (0, .class_ 1104), (0, u "java/lang/String$CaseInsensitiveComparator"), (1, .class_ 1107), (0, u "java/io/Serializable"), (0, .class_ 1109), (0, u "java/lang/Comparable"), (0, .class_ 1111), (0, u "java/lang/constant/Constable"), (0, .class_ 1113), (0, u "java/lang/constant/ConstantDesc"), (2, u "serialVersionUID"), (0, u "J"), (3, u "REPL"), (0, u "C"), (2, u "LATIN1"), (1, u "UTF16")] 323

def k19m0 : Method := { name := "<init>", desc := "()V", sig := { parameters := [], returnType := none }, accessFlags := 1, code := none }
/-- java/lang/String -/
def k19 : Class := { plain "java/lang/String" (some 0) with
  accessFlags := 49
  interfaces := #[11, 15, 16, 17, 18]
  cf := some (fileOf pool19 10 #[.nestMembers #[1103]] #[{ accessFlags := 1, nameIndex := 5, descriptorIndex := 6, attributes := #[] }] 49 2 #[1106, 1108, 575, 1110, 1112] #[{ accessFlags := 18, nameIndex := 13, descriptorIndex := 14, attributes := #[] }, { accessFlags := 18, nameIndex := 17, descriptorIndex := 18, attributes := #[] }, { accessFlags := 2, nameIndex := 21, descriptorIndex := 22, attributes := #[] }, { accessFlags := 2, nameIndex := 25, descriptorIndex := 26, attributes := #[] }, { accessFlags := 26, nameIndex := 1116, descriptorIndex := 1117, attributes := #[] }, { accessFlags := 24, nameIndex := 40, descriptorIndex := 26, attributes := #[] }, { accessFlags := 26, nameIndex := 1101, descriptorIndex := 1102, attributes := #[] }, { accessFlags := 26, nameIndex := 1121, descriptorIndex := 1122, attributes := #[] }, { accessFlags := 25, nameIndex := 599, descriptorIndex := 600, attributes := #[] }, { accessFlags := 24, nameIndex := 1125, descriptorIndex := 18, attributes := #[] }, { accessFlags := 24, nameIndex := 1127, descriptorIndex := 18, attributes := #[] }])
  fields := #[{ name := "value", type := (.array .byte), accessFlags := 18, slot := 0, constantValue := 0 }, { name := "coder", type := .byte, accessFlags := 18, slot := 1, constantValue := 0 }, { name := "hash", type := .int, accessFlags := 2, slot := 2, constantValue := 0 }, { name := "hashIsZero", type := .boolean, accessFlags := 2, slot := 3, constantValue := 0 }, { name := "serialVersionUID", type := .long, accessFlags := 26, slot := 0, constantValue := 0 }, { name := "COMPACT_STRINGS", type := .boolean, accessFlags := 24, slot := 1, constantValue := 0 }, { name := "serialPersistentFields", type := (.array (.object "java/io/ObjectStreamField")), accessFlags := 26, slot := 2, constantValue := 0 }, { name := "REPL", type := .char, accessFlags := 26, slot := 3, constantValue := 0 }, { name := "CASE_INSENSITIVE_ORDER", type := (.object "java/util/Comparator"), accessFlags := 25, slot := 4, constantValue := 0 }, { name := "LATIN1", type := .byte, accessFlags := 24, slot := 5, constantValue := 0 }, { name := "UTF16", type := .byte, accessFlags := 24, slot := 6, constantValue := 0 }]
  methods := #[k19m0]
  instanceTypes := #[(.array .byte), .byte, .int, .boolean]
  staticTypes := #[.long, .boolean, (.array (.object "java/io/ObjectStreamField")), .char, (.object "java/util/Comparator"), .byte, .byte]
  resolved := Array.replicate 1451 none
  statics := none }

def pool20 : Array CpInfo := pool [(2, .class_ 4), (1, u "java/lang/Object"), (0, u "<init>"), (0, u "()V"), (8, u "()I"), (5, .class_ 23), (1, u "java/util/List"), (17, u "()D"), (1, .nameAndType 44 41), (0, u "score"), (14, .class_ 61), (1, u "com/example/nimble_retrieval/nimbleretrieval/runs/TrainedMerge"), (0, u "inputs"), (0, u "(Ljava/util/List;)[[D"), (4, .interfaceMethodref 21 69), (0, .nameAndType 70 71), (0, u "get"), (0, u "(I)Ljava/lang/Object;"), (3, .class_ 76), (0, u "com/example/nimble_retrieval/nimbleretrieval/format/Run$Retrieved"), (0, .methodref 75 43), (0, .interfaceMethodref 21 79), (0, .nameAndType 80 15), (0, u "size"), (0, .class_ 82), (0, u "[D"), (0, .methodref 84 85), (0, .class_ 86), (0, .nameAndType 87 88), (0, u "java/lang/Math"), (0, u "max"), (0, u "(DD)D")] 50

def k20m0 : Method := { name := "<init>", desc := "()V", sig := { parameters := [], returnType := none }, accessFlags := 2, code := none }
def k20c1 : Code := { maxStack := 7, maxLocals := 9, code := prog_52_method_4_code, exceptionTable := #[], attributes := #[] }
def k20m1 : Method := { name := "inputs", desc := "(Ljava/util/List;)[[D", sig := { parameters := [(.object "java/util/List")], returnType := some (.array (.array .double)) }, accessFlags := 8, code := some k20c1 }
/-- com/example/nimble_retrieval/nimbleretrieval/runs/TrainedMerge -/
def k20 : Class := { plain "com/example/nimble_retrieval/nimbleretrieval/runs/TrainedMerge" (some 0) with
  accessFlags := 33
  interfaces := #[]
  cf := some (fileOf pool20 59 #[] #[{ accessFlags := 2, nameIndex := 5, descriptorIndex := 6, attributes := #[] }, { accessFlags := 8, nameIndex := 62, descriptorIndex := 63, attributes := #[] }] 33 2 #[] #[])
  fields := #[]
  methods := #[k20m0, k20m1]
  instanceTypes := #[]
  staticTypes := #[]
  resolved := Array.replicate 139 none
  statics := none }

def pool21 : Array CpInfo := pool [(2, .class_ 4), (1, u "java/lang/Object"), (0, u "<init>"), (0, u "()V"), (35, .class_ 44), (1, u "java/util/Objects"), (60, .methodref 106 107), (0, .class_ 108), (0, .nameAndType 109 110), (0, u "jdk/internal/util/Preconditions"), (0, u "checkIndex"), (0, u "(IILjava/util/function/BiFunction;)I"), (60, u "(II)I")] 12

def k21m0 : Method := { name := "<init>", desc := "()V", sig := { parameters := [], returnType := none }, accessFlags := 2, code := none }
def k21c1 : Code := { maxStack := 3, maxLocals := 2, code := jdk_31_method_17_code, exceptionTable := #[], attributes := #[] }
def k21m1 : Method := { name := "checkIndex", desc := "(II)I", sig := { parameters := [.int, .int], returnType := some .int }, accessFlags := 9, code := some k21c1 }
/-- java/util/Objects -/
def k21 : Class := { plain "java/util/Objects" (some 0) with
  accessFlags := 49
  interfaces := #[]
  cf := some (fileOf pool21 42 #[] #[{ accessFlags := 2, nameIndex := 5, descriptorIndex := 6, attributes := #[] }, { accessFlags := 9, nameIndex := 109, descriptorIndex := 171, attributes := #[] }] 49 2 #[] #[])
  fields := #[]
  methods := #[k21m0, k21m1]
  instanceTypes := #[]
  staticTypes := #[]
  resolved := Array.replicate 184 none
  statics := none }

def pool22 : Array CpInfo := pool [(2, .class_ 4), (1, u "java/lang/Object"), (0, u "<init>"), (0, u "()V"), (17, .class_ 26), (1, u "jdk/internal/util/Preconditions"), (6, u "checkIndex"), (21, .class_ 56), (0, u "jdk/internal/util/Preconditions$4"), (57, .class_ 115), (0, u "jdk/internal/util/Preconditions$1"), (7, u "SIOOBE_FORMATTER"), (0, u "Ljava/util/function/BiFunction;"), (0, .class_ 126), (0, u "jdk/internal/util/Preconditions$2"), (3, u "AIOOBE_FORMATTER"), (0, .class_ 132), (0, u "jdk/internal/util/Preconditions$3"), (3, u "IOOBE_FORMATTER"), (41, u "(IILjava/util/function/BiFunction;)I")] 15

def k22m0 : Method := { name := "<init>", desc := "()V", sig := { parameters := [], returnType := none }, accessFlags := 1, code := none }
def k22c1 : Code := { maxStack := 3, maxLocals := 3, code := jdk_41_method_11_code, exceptionTable := #[], attributes := #[] }
def k22m1 : Method := { name := "checkIndex", desc := "(IILjava/util/function/BiFunction;)I", sig := { parameters := [.int, .int, (.object "java/util/function/BiFunction")], returnType := some .int }, accessFlags := 9, code := some k22c1 }
/-- jdk/internal/util/Preconditions -/
def k22 : Class := { plain "jdk/internal/util/Preconditions" (some 0) with
  accessFlags := 33
  interfaces := #[]
  cf := some (fileOf pool22 24 #[.nestMembers #[55, 131, 125, 114]] #[{ accessFlags := 1, nameIndex := 5, descriptorIndex := 6, attributes := #[] }, { accessFlags := 9, nameIndex := 33, descriptorIndex := 178, attributes := #[] }] 33 2 #[] #[{ accessFlags := 25, nameIndex := 123, descriptorIndex := 124, attributes := #[] }, { accessFlags := 25, nameIndex := 130, descriptorIndex := 124, attributes := #[] }, { accessFlags := 25, nameIndex := 136, descriptorIndex := 124, attributes := #[] }])
  fields := #[{ name := "SIOOBE_FORMATTER", type := (.object "java/util/function/BiFunction"), accessFlags := 25, slot := 0, constantValue := 0 }, { name := "AIOOBE_FORMATTER", type := (.object "java/util/function/BiFunction"), accessFlags := 25, slot := 1, constantValue := 0 }, { name := "IOOBE_FORMATTER", type := (.object "java/util/function/BiFunction"), accessFlags := 25, slot := 2, constantValue := 0 }]
  methods := #[k22m0, k22m1]
  instanceTypes := #[]
  staticTypes := #[(.object "java/util/function/BiFunction"), (.object "java/util/function/BiFunction"), (.object "java/util/function/BiFunction")]
  resolved := Array.replicate 194 none
  statics := none }

/-- the primitive byte -/
def k23 : Class := { plain "byte" none with kind := .primitive 'B', accessFlags := 0x411 }
/-- [B -/
def k24 : Class := { plain "[B" (some 0) with kind := .array 23 .byte, interfaces := #[10, 11], accessFlags := 1041 }

/-- the primitive double -/
def k25 : Class := { plain "double" none with kind := .primitive 'D', accessFlags := 0x411 }
/-- [D -/
def k26 : Class := { plain "[D" (some 0) with kind := .array 25 .double, interfaces := #[10, 11], accessFlags := 1041 }

/-- the primitive int -/
def k27 : Class := { plain "int" none with kind := .primitive 'I', accessFlags := 0x411 }
/-- [I -/
def k28 : Class := { plain "[I" (some 0) with kind := .array 27 .int, interfaces := #[10, 11], accessFlags := 1041 }

/-- [L[D; -/
def k29 : Class := { plain "[[D" (some 0) with kind := .array 26 (.array .double), interfaces := #[10, 11], accessFlags := 1041 }

/-- [Ljava/lang/Object; -/
def k30 : Class := { plain "[Ljava/lang/Object;" (some 0) with kind := .array 0 (.object "java/lang/Object"), interfaces := #[10, 11], accessFlags := 1041 }

def heap : Heap := #[{ cls := 12, slots := #[.long 0, .int 0, .ref 2, .ref 3], vm := .statics 12 },
  { cls := 29, slots := #[.null], vm := .none },
  { cls := 30, slots := #[], vm := .none },
  { cls := 30, slots := #[], vm := .none }]
def classes : Array Class := #[k0, k1, k2, k3, k4, k5, k6, k7, k8, k9, k10, k11, k12, k13, k14, k15, k16, k17, k18, k19, k20, k21, k22, k23, k24, k25, k26, k27, k28, k29, k30]
def interned : List (Array UInt16 × Addr) := []
def slotsUsed : Nat := 5
def theMethod : MethodId := ⟨1, 1⟩
def args0 : Array Value := #[.int 5, .int 7, .int 9, .int 11]
def aboutOver (below : List Frame) : State where
  vm := { classes := classes, interned := interned.toArray }
  heap := heap
  slotsUsed := slotsUsed
  threads := #[{ frames := .invoking theMethod args0 :: below }]
def below0 : List Frame := [.native { method := ⟨0, 0⟩, args := #[] }]
def about1 : State := aboutOver below0
def p0 : Program := .bare "" "" ""
def e0 : Env := launch0.env 0 0 0
theorem w_frames : about1.frames = Frame.invoking theMethod args0 :: below0 := rfl
set_option maxRecDepth 65536 in
theorem w_args : argsFit about1.vm theMethod args0 = true := by decide +kernel
set_option maxRecDepth 65536 in
theorem w_heap : heapFits about1 = true := by decide +kernel
set_option maxRecDepth 65536 in
theorem w_runnable : about1.curStatus? = some .runnable := by decide +kernel
set_option maxRecDepth 65536 in
theorem w_alone : about1.alone = true := by decide +kernel
set_option maxRecDepth 65536 in
theorem w_named : about1.methodNamed? x = some theMethod := by decide +kernel
set_option maxRecDepth 65536 in
theorem w_hears : about1.hears theMethod below0 = true := by decide +kernel
set_option maxRecDepth 65536 in
theorem w_ripe : about1.ripe theMethod args0 below0 = true := by decide +kernel
theorem w_running : about1.status = .running := rfl
set_option maxRecDepth 65536 in
theorem w_room : about1.hasRoom e0.platform room_1 = true :=
  launch0.hasRoom_least _ room_1 (by decide +kernel) (by decide +kernel) (by decide +kernel) (by decide +kernel) (by decide +kernel) (by decide +kernel)
theorem allAtoms_all (ts : List Jvm.Cond) (a : Array Jvm.Value) (st : Jvm.State) : (allAtoms ts).before a st = ts.all (fun c => c.before a st) := by
  induction ts with
  | nil => rfl
  | cons c t ih =>
    show (Jvm.Cond.and c (allAtoms t)).before a st = _
    rw [Jvm.Cond.before_and, ih, List.all_cons]
def words1 : List Jvm.Cond := Jvm.Cond.code x code maxLocals ret :: tables_1
/-- a 'code' word, met by the world's own term for the bytes: nothing is compared byte by byte -/
theorem code_word {y : MethodName} {bytes : ByteArray} {mx : Nat} {rt : Option FieldType} {a : Array Value} {s : State} {m : MethodId} {meth : Method} {c : Code} (h1 : s.methodNamed? y = some m) (h2 : s.vm.method? m = some meth) (h3 : meth.code = some c) (h4 : c.code = bytes)
    (h5 : (c.maxLocals == mx && c.exceptionTable.isEmpty && decide (c.maxStack ≤ mostOperands) && decide (meth.sig.returnType = rt) && !meth.locks && decide (parseMethodDescriptor y.desc = some meth.sig)) = true) : (Jvm.Cond.code y bytes mx rt).before a s = true := by
  simp only [Bool.and_eq_true, beq_iff_eq, Bool.not_eq_true', decide_eq_true_eq] at h5
  obtain ⟨⟨⟨⟨⟨g1, g2⟩, g3⟩, g4⟩, g5⟩, g6⟩ := h5
  simp [Cond.before, Cond.holds, Cond.value, h1, h2, h3, h4, g1, g2, g3, g4, g5, g6]
def isCode : Jvm.Cond → Bool
  | .code _ _ _ _ => true
  | _ => false
theorem all_split {L : List Jvm.Cond} {P : Jvm.Cond → Bool} (h1 : L.all (fun c => isCode c || P c) = true) (h2 : ∀ c ∈ L.filter isCode, P c = true) : L.all P = true := by
  refine List.all_eq_true.mpr fun c hc => ?_
  have h := List.all_eq_true.mp h1 c hc
  rcases Bool.eq_false_or_eq_true (isCode c) with hi | hi
  · exact h2 c (List.mem_filter.mpr ⟨hc, hi⟩)
  · simpa [hi] using h
set_option maxRecDepth 65536 in
theorem w_c0 : (Jvm.Cond.code x code maxLocals ret).before args0 about1 = true := code_word (m := ⟨1, 1⟩) (meth := k1m1) (c := k1c1) (by decide +kernel) rfl rfl rfl (by decide +kernel)
set_option maxRecDepth 65536 in
theorem w_c1 : (Jvm.Cond.code ({ cls := "java/lang/Math", name := "max", desc := "(II)I" } : Jvm.MethodName) jdk_29_method_65_code (2 : Nat) (Option.some Jvm.ClassFile.FieldType.int)).before args0 about1 = true := code_word (m := ⟨2, 1⟩) (meth := k2m1) (c := k2c1) (by decide +kernel) rfl rfl rfl (by decide +kernel)
set_option maxRecDepth 65536 in
theorem w_c2 : (Jvm.Cond.code ({ cls := "java/lang/Math", name := "min", desc := "(II)I" } : Jvm.MethodName) jdk_29_method_69_code (2 : Nat) (Option.some Jvm.ClassFile.FieldType.int)).before args0 about1 = true := code_word (m := ⟨2, 3⟩) (meth := k2m3) (c := k2c3) (by decide +kernel) rfl rfl rfl (by decide +kernel)
set_option maxRecDepth 65536 in
theorem w_c3 : (Jvm.Cond.code ({ cls := "java/util/ArrayList", name := "<init>", desc := "()V" } : Jvm.MethodName) jdk_38_method_2_code (1 : Nat) (Option.none : Option Jvm.ClassFile.FieldType)).before args0 about1 = true := code_word (m := ⟨12, 0⟩) (meth := k12m0) (c := k12c0) (by decide +kernel) rfl rfl rfl (by decide +kernel)
set_option maxRecDepth 65536 in
theorem w_c4 : (Jvm.Cond.code ({ cls := "java/util/AbstractList", name := "<init>", desc := "()V" } : Jvm.MethodName) jdk_39_method_1_code (1 : Nat) (Option.none : Option Jvm.ClassFile.FieldType)).before args0 about1 = true := code_word (m := ⟨8, 0⟩) (meth := k8m0) (c := k8c0) (by decide +kernel) rfl rfl rfl (by decide +kernel)
set_option maxRecDepth 65536 in
theorem w_c5 : (Jvm.Cond.code ({ cls := "java/util/AbstractCollection", name := "<init>", desc := "()V" } : Jvm.MethodName) jdk_22_method_1_code (1 : Nat) (Option.none : Option Jvm.ClassFile.FieldType)).before args0 about1 = true := code_word (m := ⟨5, 0⟩) (meth := k5m0) (c := k5c0) (by decide +kernel) rfl rfl rfl (by decide +kernel)
set_option maxRecDepth 65536 in
theorem w_c6 : (Jvm.Cond.code ({ cls := "java/lang/Object", name := "<init>", desc := "()V" } : Jvm.MethodName) object_method_1_code (1 : Nat) (Option.none : Option Jvm.ClassFile.FieldType)).before args0 about1 = true := code_word (m := ⟨0, 0⟩) (meth := k0m0) (c := k0c0) (by decide +kernel) rfl rfl rfl (by decide +kernel)
set_option maxRecDepth 65536 in
theorem w_c7 : (Jvm.Cond.code ({ cls := "com/example/nimble_retrieval/nimbleretrieval/format/Run$Retrieved", name := "<init>", desc := "(Ljava/lang/String;D)V" } : Jvm.MethodName) prog_30_method_1_code (4 : Nat) (Option.none : Option Jvm.ClassFile.FieldType)).before args0 about1 = true := code_word (m := ⟨14, 0⟩) (meth := k14m0) (c := k14c0) (by decide +kernel) rfl rfl rfl (by decide +kernel)
set_option maxRecDepth 65536 in
theorem w_c8 : (Jvm.Cond.code ({ cls := "java/lang/Record", name := "<init>", desc := "()V" } : Jvm.MethodName) jdk_30_method_1_code (1 : Nat) (Option.none : Option Jvm.ClassFile.FieldType)).before args0 about1 = true := code_word (m := ⟨13, 0⟩) (meth := k13m0) (c := k13c0) (by decide +kernel) rfl rfl rfl (by decide +kernel)
set_option maxRecDepth 65536 in
theorem w_c9 : (Jvm.Cond.code ({ cls := "java/util/ArrayList", name := "add", desc := "(Ljava/lang/Object;)Z" } : Jvm.MethodName) jdk_38_method_25_code (2 : Nat) (Option.some Jvm.ClassFile.FieldType.boolean)).before args0 about1 = true := code_word (m := ⟨12, 7⟩) (meth := k12m7) (c := k12c7) (by decide +kernel) rfl rfl rfl (by decide +kernel)
set_option maxRecDepth 65536 in
theorem w_c10 : (Jvm.Cond.code ({ cls := "java/util/ArrayList", name := "add", desc := "(Ljava/lang/Object;[Ljava/lang/Object;I)V" } : Jvm.MethodName) jdk_38_method_24_code (4 : Nat) (Option.none : Option Jvm.ClassFile.FieldType)).before args0 about1 = true := code_word (m := ⟨12, 6⟩) (meth := k12m6) (c := k12c6) (by decide +kernel) rfl rfl rfl (by decide +kernel)
set_option maxRecDepth 65536 in
theorem w_c11 : (Jvm.Cond.code ({ cls := "java/util/ArrayList", name := "grow", desc := "()[Ljava/lang/Object;" } : Jvm.MethodName) jdk_38_method_7_code (1 : Nat) (Option.some (Jvm.ClassFile.FieldType.array (Jvm.ClassFile.FieldType.object "java/lang/Object")))).before args0 about1 = true := code_word (m := ⟨12, 2⟩) (meth := k12m2) (c := k12c2) (by decide +kernel) rfl rfl rfl (by decide +kernel)
set_option maxRecDepth 65536 in
theorem w_c12 : (Jvm.Cond.code ({ cls := "java/util/ArrayList", name := "grow", desc := "(I)[Ljava/lang/Object;" } : Jvm.MethodName) jdk_38_method_6_code (4 : Nat) (Option.some (Jvm.ClassFile.FieldType.array (Jvm.ClassFile.FieldType.object "java/lang/Object")))).before args0 about1 = true := code_word (m := ⟨12, 1⟩) (meth := k12m1) (c := k12c1) (by decide +kernel) rfl rfl rfl (by decide +kernel)
set_option maxRecDepth 65536 in
theorem w_c13 : (Jvm.Cond.code ({ cls := "com/example/nimble_retrieval/nimbleretrieval/runs/TrainedMerge", name := "inputs", desc := "(Ljava/util/List;)[[D" } : Jvm.MethodName) prog_52_method_4_code (9 : Nat) (Option.some (Jvm.ClassFile.FieldType.array (Jvm.ClassFile.FieldType.array Jvm.ClassFile.FieldType.double)))).before args0 about1 = true := code_word (m := ⟨20, 1⟩) (meth := k20m1) (c := k20c1) (by decide +kernel) rfl rfl rfl (by decide +kernel)
set_option maxRecDepth 65536 in
theorem w_c14 : (Jvm.Cond.code ({ cls := "java/util/ArrayList", name := "get", desc := "(I)Ljava/lang/Object;" } : Jvm.MethodName) jdk_38_method_20_code (2 : Nat) (Option.some (Jvm.ClassFile.FieldType.object "java/lang/Object"))).before args0 about1 = true := code_word (m := ⟨12, 5⟩) (meth := k12m5) (c := k12c5) (by decide +kernel) rfl rfl rfl (by decide +kernel)
set_option maxRecDepth 65536 in
theorem w_c15 : (Jvm.Cond.code ({ cls := "java/util/Objects", name := "checkIndex", desc := "(II)I" } : Jvm.MethodName) jdk_31_method_17_code (2 : Nat) (Option.some Jvm.ClassFile.FieldType.int)).before args0 about1 = true := code_word (m := ⟨21, 1⟩) (meth := k21m1) (c := k21c1) (by decide +kernel) rfl rfl rfl (by decide +kernel)
set_option maxRecDepth 65536 in
theorem w_c16 : (Jvm.Cond.code ({ cls := "jdk/internal/util/Preconditions", name := "checkIndex", desc := "(IILjava/util/function/BiFunction;)I" } : Jvm.MethodName) jdk_41_method_11_code (3 : Nat) (Option.some Jvm.ClassFile.FieldType.int)).before args0 about1 = true := code_word (m := ⟨22, 1⟩) (meth := k22m1) (c := k22c1) (by decide +kernel) rfl rfl rfl (by decide +kernel)
set_option maxRecDepth 65536 in
theorem w_c17 : (Jvm.Cond.code ({ cls := "java/util/ArrayList", name := "elementData", desc := "(I)Ljava/lang/Object;" } : Jvm.MethodName) jdk_38_method_18_code (2 : Nat) (Option.some (Jvm.ClassFile.FieldType.object "java/lang/Object"))).before args0 about1 = true := code_word (m := ⟨12, 4⟩) (meth := k12m4) (c := k12c4) (by decide +kernel) rfl rfl rfl (by decide +kernel)
set_option maxRecDepth 65536 in
theorem w_c18 : (Jvm.Cond.code ({ cls := "com/example/nimble_retrieval/nimbleretrieval/format/Run$Retrieved", name := "score", desc := "()D" } : Jvm.MethodName) prog_30_method_6_code (1 : Nat) (Option.some Jvm.ClassFile.FieldType.double)).before args0 about1 = true := code_word (m := ⟨14, 1⟩) (meth := k14m1) (c := k14c1) (by decide +kernel) rfl rfl rfl (by decide +kernel)
set_option maxRecDepth 65536 in
theorem w_c19 : (Jvm.Cond.code ({ cls := "java/util/ArrayList", name := "size", desc := "()I" } : Jvm.MethodName) jdk_38_method_8_code (1 : Nat) (Option.some Jvm.ClassFile.FieldType.int)).before args0 about1 = true := code_word (m := ⟨12, 3⟩) (meth := k12m3) (c := k12c3) (by decide +kernel) rfl rfl rfl (by decide +kernel)
set_option maxRecDepth 65536 in
theorem w_c20 : (Jvm.Cond.code ({ cls := "java/lang/Math", name := "max", desc := "(DD)D" } : Jvm.MethodName) jdk_29_method_68_code (4 : Nat) (Option.some Jvm.ClassFile.FieldType.double)).before args0 about1 = true := code_word (m := ⟨2, 2⟩) (meth := k2m2) (c := k2c2) (by decide +kernel) rfl rfl rfl (by decide +kernel)
set_option maxRecDepth 65536 in
theorem w_c21 : (Jvm.Cond.code ({ cls := "com/example/nimble_retrieval/nimbleretrieval/runs/TrainedMergeInputsPinLaw", name := "expected", desc := "(DD)D" } : Jvm.MethodName) method_3_code (4 : Nat) (Option.some Jvm.ClassFile.FieldType.double)).before args0 about1 = true := code_word (m := ⟨1, 2⟩) (meth := k1m2) (c := k1c2) (by decide +kernel) rfl rfl rfl (by decide +kernel)
set_option maxRecDepth 65536 in
theorem w_c22 : (Jvm.Cond.code ({ cls := "com/example/nimble_retrieval/nimbleretrieval/runs/TrainedMergeInputsPinLaw", name := "row", desc := "([DDD)Z" } : Jvm.MethodName) method_4_code (5 : Nat) (Option.some Jvm.ClassFile.FieldType.boolean)).before args0 about1 = true := code_word (m := ⟨1, 3⟩) (meth := k1m3) (c := k1c3) (by decide +kernel) rfl rfl rfl (by decide +kernel)
def codes1 : List Jvm.Cond := [Jvm.Cond.code x code maxLocals ret, Jvm.Cond.code ({ cls := "java/lang/Math", name := "max", desc := "(II)I" } : Jvm.MethodName) jdk_29_method_65_code (2 : Nat) (Option.some Jvm.ClassFile.FieldType.int), Jvm.Cond.code ({ cls := "java/lang/Math", name := "min", desc := "(II)I" } : Jvm.MethodName) jdk_29_method_69_code (2 : Nat) (Option.some Jvm.ClassFile.FieldType.int), Jvm.Cond.code ({ cls := "java/util/ArrayList", name := "<init>", desc := "()V" } : Jvm.MethodName) jdk_38_method_2_code (1 : Nat) (Option.none : Option Jvm.ClassFile.FieldType), Jvm.Cond.code ({ cls := "java/util/AbstractList", name := "<init>", desc := "()V" } : Jvm.MethodName) jdk_39_method_1_code (1 : Nat) (Option.none : Option Jvm.ClassFile.FieldType), Jvm.Cond.code ({ cls := "java/util/AbstractCollection", name := "<init>", desc := "()V" } : Jvm.MethodName) jdk_22_method_1_code (1 : Nat) (Option.none : Option Jvm.ClassFile.FieldType), Jvm.Cond.code ({ cls := "java/lang/Object", name := "<init>", desc := "()V" } : Jvm.MethodName) object_method_1_code (1 : Nat) (Option.none : Option Jvm.ClassFile.FieldType), Jvm.Cond.code ({ cls := "com/example/nimble_retrieval/nimbleretrieval/format/Run$Retrieved", name := "<init>", desc := "(Ljava/lang/String;D)V" } : Jvm.MethodName) prog_30_method_1_code (4 : Nat) (Option.none : Option Jvm.ClassFile.FieldType), Jvm.Cond.code ({ cls := "java/lang/Record", name := "<init>", desc := "()V" } : Jvm.MethodName) jdk_30_method_1_code (1 : Nat) (Option.none : Option Jvm.ClassFile.FieldType), Jvm.Cond.code ({ cls := "java/util/ArrayList", name := "add", desc := "(Ljava/lang/Object;)Z" } : Jvm.MethodName) jdk_38_method_25_code (2 : Nat) (Option.some Jvm.ClassFile.FieldType.boolean), Jvm.Cond.code ({ cls := "java/util/ArrayList", name := "add", desc := "(Ljava/lang/Object;[Ljava/lang/Object;I)V" } : Jvm.MethodName) jdk_38_method_24_code (4 : Nat) (Option.none : Option Jvm.ClassFile.FieldType), Jvm.Cond.code ({ cls := "java/util/ArrayList", name := "grow", desc := "()[Ljava/lang/Object;" } : Jvm.MethodName) jdk_38_method_7_code (1 : Nat) (Option.some (Jvm.ClassFile.FieldType.array (Jvm.ClassFile.FieldType.object "java/lang/Object"))), Jvm.Cond.code ({ cls := "java/util/ArrayList", name := "grow", desc := "(I)[Ljava/lang/Object;" } : Jvm.MethodName) jdk_38_method_6_code (4 : Nat) (Option.some (Jvm.ClassFile.FieldType.array (Jvm.ClassFile.FieldType.object "java/lang/Object"))), Jvm.Cond.code ({ cls := "com/example/nimble_retrieval/nimbleretrieval/runs/TrainedMerge", name := "inputs", desc := "(Ljava/util/List;)[[D" } : Jvm.MethodName) prog_52_method_4_code (9 : Nat) (Option.some (Jvm.ClassFile.FieldType.array (Jvm.ClassFile.FieldType.array Jvm.ClassFile.FieldType.double))), Jvm.Cond.code ({ cls := "java/util/ArrayList", name := "get", desc := "(I)Ljava/lang/Object;" } : Jvm.MethodName) jdk_38_method_20_code (2 : Nat) (Option.some (Jvm.ClassFile.FieldType.object "java/lang/Object")), Jvm.Cond.code ({ cls := "java/util/Objects", name := "checkIndex", desc := "(II)I" } : Jvm.MethodName) jdk_31_method_17_code (2 : Nat) (Option.some Jvm.ClassFile.FieldType.int), Jvm.Cond.code ({ cls := "jdk/internal/util/Preconditions", name := "checkIndex", desc := "(IILjava/util/function/BiFunction;)I" } : Jvm.MethodName) jdk_41_method_11_code (3 : Nat) (Option.some Jvm.ClassFile.FieldType.int), Jvm.Cond.code ({ cls := "java/util/ArrayList", name := "elementData", desc := "(I)Ljava/lang/Object;" } : Jvm.MethodName) jdk_38_method_18_code (2 : Nat) (Option.some (Jvm.ClassFile.FieldType.object "java/lang/Object")), Jvm.Cond.code ({ cls := "com/example/nimble_retrieval/nimbleretrieval/format/Run$Retrieved", name := "score", desc := "()D" } : Jvm.MethodName) prog_30_method_6_code (1 : Nat) (Option.some Jvm.ClassFile.FieldType.double), Jvm.Cond.code ({ cls := "java/util/ArrayList", name := "size", desc := "()I" } : Jvm.MethodName) jdk_38_method_8_code (1 : Nat) (Option.some Jvm.ClassFile.FieldType.int), Jvm.Cond.code ({ cls := "java/lang/Math", name := "max", desc := "(DD)D" } : Jvm.MethodName) jdk_29_method_68_code (4 : Nat) (Option.some Jvm.ClassFile.FieldType.double), Jvm.Cond.code ({ cls := "com/example/nimble_retrieval/nimbleretrieval/runs/TrainedMergeInputsPinLaw", name := "expected", desc := "(DD)D" } : Jvm.MethodName) method_3_code (4 : Nat) (Option.some Jvm.ClassFile.FieldType.double), Jvm.Cond.code ({ cls := "com/example/nimble_retrieval/nimbleretrieval/runs/TrainedMergeInputsPinLaw", name := "row", desc := "([DDD)Z" } : Jvm.MethodName) method_4_code (5 : Nat) (Option.some Jvm.ClassFile.FieldType.boolean)]
set_option maxRecDepth 65536 in
theorem codes_eq : words1.filter isCode = codes1 := rfl
theorem w_codes : ∀ c ∈ words1.filter isCode, c.before args0 about1 = true := by
  rw [codes_eq]
  intro c hc
  simp only [codes1, List.mem_cons, List.not_mem_nil, or_false] at hc
  rcases hc with rfl | rfl | rfl | rfl | rfl | rfl | rfl | rfl | rfl | rfl | rfl | rfl | rfl | rfl | rfl | rfl | rfl | rfl | rfl | rfl | rfl | rfl | rfl
  · exact w_c0
  · exact w_c1
  · exact w_c2
  · exact w_c3
  · exact w_c4
  · exact w_c5
  · exact w_c6
  · exact w_c7
  · exact w_c8
  · exact w_c9
  · exact w_c10
  · exact w_c11
  · exact w_c12
  · exact w_c13
  · exact w_c14
  · exact w_c15
  · exact w_c16
  · exact w_c17
  · exact w_c18
  · exact w_c19
  · exact w_c20
  · exact w_c21
  · exact w_c22
set_option maxRecDepth 65536 in
theorem w_t1 : (words1.take 24).all (fun c => isCode c || c.before args0 about1) = true := by decide +kernel
set_option maxRecDepth 65536 in
theorem w_t2 : ((words1.drop 24).take 24).all (fun c => isCode c || c.before args0 about1) = true := by decide +kernel
set_option maxRecDepth 65536 in
theorem w_t3 : (((words1.drop 24).drop 24).take 24).all (fun c => isCode c || c.before args0 about1) = true := by decide +kernel
set_option maxRecDepth 65536 in
theorem w_t4 : ((((words1.drop 24).drop 24).drop 24).take 24).all (fun c => isCode c || c.before args0 about1) = true := by decide +kernel
set_option maxRecDepth 65536 in
theorem w_t5 : (((((words1.drop 24).drop 24).drop 24).drop 24).take 24).all (fun c => isCode c || c.before args0 about1) = true := by decide +kernel
set_option maxRecDepth 65536 in
theorem w_t6 : ((((((words1.drop 24).drop 24).drop 24).drop 24).drop 24).take 24).all (fun c => isCode c || c.before args0 about1) = true := by decide +kernel
set_option maxRecDepth 65536 in
theorem w_t7 : ((((((words1.drop 24).drop 24).drop 24).drop 24).drop 24).drop 24).all (fun c => isCode c || c.before args0 about1) = true := by decide +kernel
theorem w_tables : (allAtoms (Jvm.Cond.code x code maxLocals ret :: tables_1)).before args0 about1 = true := by
  rw [allAtoms_all]
  show words1.all (fun c => c.before args0 about1) = true
  refine all_split ?_ w_codes
  rw [← List.take_append_drop 24 words1, List.all_append, w_t1, ← List.take_append_drop 24 (words1.drop 24), List.all_append, w_t2, ← List.take_append_drop 24 ((words1.drop 24).drop 24), List.all_append, w_t3, ← List.take_append_drop 24 (((words1.drop 24).drop 24).drop 24), List.all_append, w_t4, ← List.take_append_drop 24 ((((words1.drop 24).drop 24).drop 24).drop 24), List.all_append, w_t5, ← List.take_append_drop 24 (((((words1.drop 24).drop 24).drop 24).drop 24).drop 24), List.all_append, w_t6, w_t7]
  rfl
set_option maxRecDepth 65536 in
theorem w_rest : rest_1_c.before args0 about1 = true := by decide +kernel
set_option maxRecDepth 65536 in
theorem w_case : (Jvm.Cond.and given_1 narrow_1).before args0 about1 = true := by decide +kernel
theorem w_applies : (headSpec (Jvm.Cond.code x code maxLocals ret :: tables_1) room_1).applies x e0.platform about1 = true :=
  (Spec.applies_iff w_frames).mpr ⟨w_running, w_runnable, w_alone, w_named, w_hears, w_ripe, w_room, w_tables⟩
theorem atStart : AtStart classFile x code maxLocals ret World_1 tables_1 room_1 Calls_1 rest_1 Pre_1 launch0 p0 e0 about1 theMethod args0 below0 :=
  ⟨lists_1, trivial, launch0.admits_env _ _ _, launch0.least_env, fairChoices_fair.cas, fairChoices_fair.clock, w_frames, w_args, w_heap, w_applies, trivial, w_rest, w_case⟩
end start1
theorem witness_1 : WitnessClaimed_1 := ⟨start1.p0, start1.e0, start1.about1, start1.theMethod, start1.args0, start1.below0, start1.atStart⟩
end Jvm.Pilot.@@N@@
