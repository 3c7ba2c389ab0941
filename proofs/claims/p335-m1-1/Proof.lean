import JvmDerived
import JvmDerived.Pilot.@@N@@Statement
import JvmDerived.Pilot.@@N@@Code
set_option linter.unusedVariables false
set_option linter.unusedSimpArgs false
namespace Jvm.OwnFP
open Jvm.FP Jvm.FP.Core
/-- a double's value in units of the least double, 2^-1074 -/
abbrev Zv (a : UInt64) : Int := zval b64 (val64 a)
theorem fin_ne {a : UInt64} (h : DFin a) : val64 a ≠ .nan := by
  obtain ⟨s, c, q, h⟩ := h; rw [h]; exact Datum.noConfusion
theorem mul_ne {a b : UInt64} (ha : DFin a) (hb : DFin b) : val64 (FP.dmul a b) ≠ .nan :=
  Jvm.Free.Fl.val64_no.mp (Jvm.Free.Fl.dmul_out (Jvm.Free.Fl.fin64_core.mpr ha) (Jvm.Free.Fl.fin64_core.mpr hb))
theorem add_ne {a b : UInt64} (ha : DFin a) (hb : DFin b) : val64 (FP.dadd a b) ≠ .nan :=
  Jvm.Free.Fl.val64_no.mp (Jvm.Free.Fl.dadd_out (Jvm.Free.Fl.fin64_core.mpr ha).noNaN (Jvm.Free.Fl.fin64_core.mpr hb))
theorem sub_ne {a b : UInt64} (ha : DFin a) (hb : DFin b) : val64 (FP.dsub a b) ≠ .nan :=
  Jvm.Free.Fl.val64_no.mp (Jvm.Free.Fl.dsub_out (Jvm.Free.Fl.fin64_core.mpr ha).noNaN (Jvm.Free.Fl.fin64_core.mpr hb))
theorem fin_of {r U V : UInt64} (hr : val64 r ≠ .nan) (hU : DFin U) (hV : DFin V) (h1 : Zv U ≤ Zv r) (h2 : Zv r ≤ Zv V) : DFin r := by
  have uU := hU.zval_lt
  have uV := hV.zval_lt
  have aU : (Zv U).natAbs = zmag b64 (val64 U) := natAbs_signed _ _
  have aV : (Zv V).natAbs = zmag b64 (val64 V) := natAbs_signed _ _
  have ar : (Zv r).natAbs = zmag b64 (val64 r) := natAbs_signed _ _
  cases e : val64 r with
  | nan => exact absurd e hr
  | fin s c q => exact ⟨s, c, q, e⟩
  | inf s =>
    have e2 : zmag b64 (val64 r) = b64.tails * 2 ^ (b64.exps - 2) := by rw [e]; rfl
    rw [e2] at ar
    generalize b64.tails * 2 ^ (b64.exps - 2) = top at *
    omega
theorem dmul_le {a b V : UInt64} (ha : DFin a) (hb : DFin b) (hV : val64 V ≠ .nan) (h : Zv a * Zv b ≤ Zv V * (one64 : Int)) : Zv (FP.dmul a b) ≤ Zv V := by
  obtain ⟨s, c, q, ea⟩ := ha
  obtain ⟨t, d, r, eb⟩ := hb
  have fa := val64_fits a
  have fb := val64_fits b
  unfold Zv at h ⊢
  rw [ea] at fa h
  rw [eb] at fb h
  obtain ⟨p1, p2, p3⟩ := product_units fa fb
  rw [val64_dmul, ea, eb, p1]
  have hq := qmin_neg good_b64
  refine zval_round_le good_b64 (val64_fits V) hV (e0 := 2 * b64.qmin) (by omega) p2 ?_
  rw [p3, signed_xor, show (b64.qmin - 2 * b64.qmin).toNat = (-b64.qmin).toNat by omega, pow_qmin64]
  exact h
theorem dmul_ge {a b V : UInt64} (ha : DFin a) (hb : DFin b) (hV : val64 V ≠ .nan) (h : Zv V * (one64 : Int) ≤ Zv a * Zv b) : Zv V ≤ Zv (FP.dmul a b) := by
  obtain ⟨s, c, q, ea⟩ := ha
  obtain ⟨t, d, r, eb⟩ := hb
  have fa := val64_fits a
  have fb := val64_fits b
  unfold Zv at h ⊢
  rw [ea] at fa h
  rw [eb] at fb h
  obtain ⟨p1, p2, p3⟩ := product_units fa fb
  rw [val64_dmul, ea, eb, p1]
  have hq := qmin_neg good_b64
  refine zval_round_ge good_b64 (val64_fits V) hV (e0 := 2 * b64.qmin) (by omega) p2 ?_
  rw [p3, signed_xor, show (b64.qmin - 2 * b64.qmin).toNat = (-b64.qmin).toNat by omega, pow_qmin64]
  exact h
theorem dadd_le {a b V : UInt64} (ha : DFin a) (hb : DFin b) (hV : val64 V ≠ .nan) (h : Zv a + Zv b ≤ Zv V) : Zv (FP.dadd a b) ≤ Zv V := by
  unfold Zv at h ⊢
  rw [val64_dadd]; exact sum_le good_b64 ha hb (val64_fits a) (val64_fits b) (val64_fits V) hV h
theorem dadd_ge {a b V : UInt64} (ha : DFin a) (hb : DFin b) (hV : val64 V ≠ .nan) (h : Zv V ≤ Zv a + Zv b) : Zv V ≤ Zv (FP.dadd a b) := by
  unfold Zv at h ⊢
  rw [val64_dadd]; exact sum_ge good_b64 ha hb (val64_fits a) (val64_fits b) (val64_fits V) hV h
theorem neg_fin {a : UInt64} (h : DFin a) : DFin (FP.dneg a) := by
  obtain ⟨s, c, q, h⟩ := h
  exact ⟨!s, c, q, by rw [FP.val64_dneg, h]; rfl⟩
theorem Zv_neg (a : UInt64) : Zv (FP.dneg a) = -Zv a := by unfold Zv; rw [FP.val64_dneg, zval_negate]
theorem cneg_fin {a : UInt64} (h : DFin a) : DFin (Core.dneg a) := by
  obtain ⟨s, c, q, h⟩ := h
  exact ⟨!s, c, q, by rw [Core.val64_dneg, h]; rfl⟩
theorem Zv_cneg (a : UInt64) : Zv (Core.dneg a) = -Zv a := by unfold Zv; rw [Core.val64_dneg, zval_negate]
theorem dsub_le {a b V : UInt64} (ha : DFin a) (hb : DFin b) (hV : val64 V ≠ .nan) (h : Zv a - Zv b ≤ Zv V) : Zv (FP.dsub a b) ≤ Zv V := by
  show Zv (Core.dsub a b) ≤ _
  rw [Core.dsub_eq]; exact dadd_le ha (cneg_fin hb) hV (by rw [Zv_cneg]; omega)
theorem dsub_ge {a b V : UInt64} (ha : DFin a) (hb : DFin b) (hV : val64 V ≠ .nan) (h : Zv V ≤ Zv a - Zv b) : Zv V ≤ Zv (FP.dsub a b) := by
  show _ ≤ Zv (Core.dsub a b)
  rw [Core.dsub_eq]; exact dadd_ge ha (cneg_fin hb) hV (by rw [Zv_cneg]; omega)
/-- where the exact value is a double's, it is the result's -/
theorem dmul_eq {a b V : UInt64} (ha : DFin a) (hb : DFin b) (hV : DFin V) (h : Zv a * Zv b = Zv V * (one64 : Int)) : DFin (FP.dmul a b) ∧ Zv (FP.dmul a b) = Zv V := by
  have h1 := dmul_le ha hb (fin_ne hV) (Int.le_of_eq h)
  have h2 := dmul_ge ha hb (fin_ne hV) (Int.le_of_eq h.symm)
  exact ⟨fin_of (mul_ne ha hb) hV hV h2 h1, Int.le_antisymm h1 h2⟩
theorem dadd_eq {a b V : UInt64} (ha : DFin a) (hb : DFin b) (hV : DFin V) (h : Zv a + Zv b = Zv V) : DFin (FP.dadd a b) ∧ Zv (FP.dadd a b) = Zv V := by
  have h1 := dadd_le ha hb (fin_ne hV) (Int.le_of_eq h)
  have h2 := dadd_ge ha hb (fin_ne hV) (Int.le_of_eq h.symm)
  exact ⟨fin_of (add_ne ha hb) hV hV h2 h1, Int.le_antisymm h1 h2⟩
theorem dsub_eq {a b V : UInt64} (ha : DFin a) (hb : DFin b) (hV : DFin V) (h : Zv a - Zv b = Zv V) : DFin (FP.dsub a b) ∧ Zv (FP.dsub a b) = Zv V := by
  have h1 := dsub_le ha hb (fin_ne hV) (Int.le_of_eq h)
  have h2 := dsub_ge ha hb (fin_ne hV) (Int.le_of_eq h.symm)
  exact ⟨fin_of (sub_ne ha hb) hV hV h2 h1, Int.le_antisymm h1 h2⟩
theorem signed_self (N : Int) (k : Nat) : signed (decide (N < 0)) (N.natAbs * k) = N * (k : Int) := by
  rw [signed_mul]
  congr 1
  unfold signed
  by_cases h : N < 0 <;> simp [h] <;> omega
/-- every N * 2^k units, N of up to 53 digits, is a double -/
theorem rep (N : Int) (k : Nat) (hN : N.natAbs < 2 ^ 53) (hk : k ≤ 2045) : ∃ V, DFin V ∧ Zv V = N * ((2 ^ k : Nat) : Int) := by
  have q1 := qmin_b64
  have q2 : b64.qmax = 971 := by decide
  obtain ⟨c', q', h1, h2⟩ := round_exact good_b64 (decide (N < 0)) (c := N.natAbs) (q := (k : Int) - 1074) hN (by omega) (by omega)
  have hv : val64 (of64 (round b64 (.fin (decide (N < 0)) N.natAbs ((k : Int) - 1074)))) = .fin (decide (N < 0)) c' q' := by
    rw [val64_of64 (round_fits good_b64 _), h1]
  refine ⟨_, ⟨_, _, _, hv⟩, ?_⟩
  unfold Zv
  rw [hv]
  show signed (decide (N < 0)) (inUnits c' q' b64.qmin) = _
  rw [h2, q1]
  unfold inUnits
  rw [show ((k : Int) - 1074 - -1074).toNat = k by omega]
  exact signed_self N _
/-- the double a is N * 2^(k - 1074) -/
def Val (a : UInt64) (N : Int) (k : Nat) : Prop := DFin a ∧ Zv a = N * ((2 ^ k : Nat) : Int)
theorem one_pow : (one64 : Int) = ((2 ^ 1074 : Nat) : Int) := rfl
theorem Val.of_int {i : Int} {a : UInt64} (h : DInt i a) : Val a i 1074 := by
  refine ⟨?_, (DInt_zval h).trans (by rw [one_pow])⟩
  unfold DInt at h
  cases e : val64 a with
  | nan => rw [e] at h; exact h.elim
  | inf s => rw [e] at h; exact h.elim
  | fin s c q => exact ⟨s, c, q, e⟩
theorem Val.i2d (n : Int32) : Val (FP.i2d n) n.toInt 1074 := Val.of_int (i2d_int n)
theorem Val.l2d {n : Int64} (h : n.toInt.natAbs ≤ 2 ^ 53) : Val (FP.l2d n) n.toInt 1074 := Val.of_int (l2d_int h)
theorem Val.neg {a : UInt64} {N : Int} {k : Nat} (h : Val a N k) : Val (FP.dneg a) (-N) k := ⟨neg_fin h.1, by rw [Zv_neg, h.2, Int.neg_mul]⟩
theorem pow_cast (k j : Nat) : ((2 ^ (k + j) : Nat) : Int) = ((2 ^ k : Nat) : Int) * ((2 ^ j : Nat) : Int) := by
  rw [Nat.pow_add, Int.natCast_mul]
theorem Val.mul {a b : UInt64} {N M : Int} {k j i : Nat} (ha : Val a N k) (hb : Val b M j) (hN : (N * M).natAbs < 2 ^ 53) (hi : k + j = i + 1074) (hk : i ≤ 2045) : Val (FP.dmul a b) (N * M) i := by
  obtain ⟨V, fV, zV⟩ := rep (N * M) i hN hk
  obtain ⟨h1, h2⟩ := dmul_eq ha.1 hb.1 fV (by
    rw [ha.2, hb.2, zV, one_pow, Int.mul_assoc (N * M), ← pow_cast, ← hi, pow_cast, Int.mul_assoc N M, Int.mul_assoc N, Int.mul_left_comm _ M])
  exact ⟨h1, h2.trans zV⟩
theorem Val.add {a b : UInt64} {N M : Int} {k : Nat} (ha : Val a N k) (hb : Val b M k) (hN : (N + M).natAbs < 2 ^ 53) (hk : k ≤ 2045) : Val (FP.dadd a b) (N + M) k := by
  obtain ⟨V, fV, zV⟩ := rep (N + M) k hN hk
  obtain ⟨h1, h2⟩ := dadd_eq ha.1 hb.1 fV (by rw [ha.2, hb.2, zV, Int.add_mul])
  exact ⟨h1, h2.trans zV⟩
theorem Val.sub {a b : UInt64} {N M : Int} {k : Nat} (ha : Val a N k) (hb : Val b M k) (hN : (N - M).natAbs < 2 ^ 53) (hk : k ≤ 2045) : Val (FP.dsub a b) (N - M) k := by
  obtain ⟨V, fV, zV⟩ := rep (N - M) k hN hk
  obtain ⟨h1, h2⟩ := dsub_eq ha.1 hb.1 fV (by rw [ha.2, hb.2, zV, Int.sub_mul])
  exact ⟨h1, h2.trans zV⟩
theorem pow_pos' (k : Nat) : (0 : Int) < ((2 ^ k : Nat) : Int) := by have := Nat.two_pow_pos k; omega
theorem Val.cmp {a b : UInt64} {N M : Int} {k : Nat} (ha : Val a N k) (hb : Val b M k) : FP.dcmp a b = some (compare N M) := by
  have h : FP.dcmp a b = some (compare (Zv a) (Zv b)) := dcmp_zval (fin_ne ha.1) (fin_ne hb.1)
  rw [h, ha.2, hb.2, compare_mul_pos _ _ _ (pow_pos' k)]
theorem Val.scale {a : UInt64} {N : Int} {k : Nat} (j : Nat) (ha : Val a N (k + j)) : Val a (N * ((2 ^ j : Nat) : Int)) k :=
  ⟨ha.1, by rw [ha.2, pow_cast, Int.mul_assoc, Int.mul_comm ((2 ^ k : Nat) : Int)]⟩
theorem lt_iff {a b : UInt64} (ha : DFin a) (hb : DFin b) : FP.dcmp a b = some .lt ↔ Zv a < Zv b :=
  ⟨fun h => (dcmp_lt.mp h).2.2, fun h => dcmp_lt.mpr ⟨fin_ne ha, fin_ne hb, h⟩⟩
theorem eq_iff {a b : UInt64} (ha : DFin a) (hb : DFin b) : FP.dcmp a b = some .eq ↔ Zv a = Zv b :=
  ⟨fun h => (dcmp_eq.mp h).2.2, fun h => dcmp_eq.mpr ⟨fin_ne ha, fin_ne hb, h⟩⟩
theorem le_iff {a b : UInt64} (ha : DFin a) (hb : DFin b) : (FP.dcmp a b = some .lt ∨ FP.dcmp a b = some .eq) ↔ Zv a ≤ Zv b := by
  rw [lt_iff ha hb, eq_iff ha hb]; omega
theorem dfin_const {a : UInt64} (h : a.toNat % 9223372036854775808 < 9218868437227405312) : DFin a := (Core.fin_bits a).mpr h
end Jvm.OwnFP
namespace Jvm.OwnFP
open Jvm.FP Jvm.FP.Core
theorem ratio_units {s t : Bool} {c d : Nat} {q r : Int} (fa : Core.fits b64 (.fin s c q)) (fb : Core.fits b64 (.fin t d r)) :
    2 * b64.qmin - r ≤ b64.qmin ∧ 2 * b64.qmin - r ≤ q - r ∧ inUnits c (q - r) (2 * b64.qmin - r) = zmag b64 (.fin s c q) * one64 ∧
    ∀ m : Nat, m * 2 ^ (b64.qmin - (2 * b64.qmin - r)).toNat * d = m * zmag b64 (.fin t d r) := by
  have h1 : b64.qmin ≤ q := fa.2.1
  have h2 : b64.qmin ≤ r := fb.2.1
  have hq := qmin_neg good_b64
  refine ⟨by omega, by omega, ?_, fun m => ?_⟩
  · show c * 2 ^ (q - r - (2 * b64.qmin - r)).toNat = c * 2 ^ (q - b64.qmin).toNat * one64
    rw [← pow_qmin64, Nat.mul_assoc, ← Nat.pow_add]
    congr 2; omega
  · show m * 2 ^ (b64.qmin - (2 * b64.qmin - r)).toNat * d = m * (d * 2 ^ (r - b64.qmin).toNat)
    rw [show (b64.qmin - (2 * b64.qmin - r)).toNat = (r - b64.qmin).toNat by omega, Nat.mul_assoc, Nat.mul_comm d]
theorem div_form {a b : UInt64} (hb : 0 < Zv b) {s t : Bool} {c d : Nat} {q r : Int} (ea : val64 a = .fin s c q) (eb : val64 b = .fin t d r) :
    0 < d ∧ t = false ∧ val64 (FP.ddiv a b) = roundRatio b64 s c d (q - r) := by
  have hd : d ≠ 0 := by
    intro hd
    unfold Zv at hb
    rw [eb, hd] at hb
    have : zval b64 (.fin t 0 r) = 0 := by
      show signed t (0 * _) = 0
      rw [Nat.zero_mul]; exact signed_zero t
    omega
  have ht : t = false := by
    cases t with
    | false => rfl
    | true =>
      exfalso
      unfold Zv at hb
      rw [eb] at hb
      have : zval b64 (.fin true d r) = -((zmag b64 (.fin true d r) : Nat) : Int) := rfl
      omega
  subst ht
  refine ⟨by omega, rfl, ?_⟩
  rw [val64_ddiv, ea, eb]
  show (if d = 0 then _ else roundRatio b64 (s != false) c d (q - r)) = _
  rw [if_neg hd]
  cases s <;> rfl
theorem zsgn {s : Bool} {c : Nat} {q : Int} : zval b64 (.fin s c q) = signed s (zmag b64 (.fin s c q)) := rfl
theorem zval_rr (s : Bool) (A B : Nat) (e : Int) : zval b64 (roundRatio b64 s A B e) = signed s (zmag b64 (roundRatio b64 s A B e)) := by
  unfold zval; rw [sgn_roundRatio]
theorem zmag_of (V : UInt64) : (0 ≤ Zv V → ((zmag b64 (val64 V) : Nat) : Int) = Zv V) ∧ (Zv V ≤ 0 → ((zmag b64 (val64 V) : Nat) : Int) = -Zv V) := by
  have h : Zv V = signed (sgn (val64 V)) (zmag b64 (val64 V)) := rfl
  cases hs : sgn (val64 V) <;> rw [hs] at h <;> simp only [signed, if_true, Bool.false_eq_true, if_false] at h <;> omega
theorem ddiv_le {a b V : UInt64} (ha : DFin a) (hb : DFin b) (hb0 : 0 < Zv b) (hV : val64 V ≠ .nan) (h : Zv a * (one64 : Int) ≤ Zv V * Zv b) : Zv (FP.ddiv a b) ≤ Zv V := by
  obtain ⟨s, c, q, ea⟩ := ha
  obtain ⟨t, d, r, eb⟩ := hb
  obtain ⟨hd, rfl, e⟩ := div_form hb0 ea eb
  have fa := val64_fits a
  have fb := val64_fits b
  rw [ea] at fa
  rw [eb] at fb
  obtain ⟨u1, u2, u3, u4⟩ := ratio_units fa fb
  obtain ⟨v1, v2⟩ := zmag_of V
  have za : Zv a = signed s (zmag b64 (.fin s c q)) := by unfold Zv; rw [ea]; rfl
  have zb : Zv b = ((zmag b64 (.fin false d r) : Nat) : Int) := by unfold Zv; rw [eb]; rfl
  rw [zb] at h hb0
  rw [za] at h
  show zval b64 (val64 (FP.ddiv a b)) ≤ Zv V
  rw [e, zval_rr]
  have op := one64_pos
  cases s with
  | false =>
    simp only [signed, Bool.false_eq_true, if_false] at h ⊢
    have hV0 : 0 ≤ Zv V := Int.not_lt.mp fun hn => by
      have : Zv V * ((zmag b64 (.fin false d r) : Nat) : Int) < 0 := Int.mul_neg_of_neg_of_pos hn hb0
      have : (0 : Int) ≤ ((zmag b64 (.fin false c q) : Nat) : Int) * (one64 : Int) := Int.mul_nonneg (by omega) (by omega)
      omega
    have := zmag_roundRatio_le good_b64 (s := false) (A := c) (B := d) (e := q - r) hd (val64_fits V) hV u1 u2 (by
      rw [u3, u4]
      rw [← v1 hV0] at h
      exact Int.ofNat_le.mp (by rw [Int.natCast_mul, Int.natCast_mul]; exact h))
    have := v1 hV0
    omega
  | true =>
    simp only [signed, if_true] at h ⊢
    by_cases hV0 : 0 ≤ Zv V
    · omega
    · have hv := v2 (by omega)
      have := zmag_roundRatio_ge good_b64 (s := true) (A := c) (B := d) (e := q - r) hd (val64_fits V) u1 u2 (by
        rw [u3, u4]
        refine Int.ofNat_le.mp ?_
        rw [Int.natCast_mul, Int.natCast_mul, hv, Int.neg_mul]
        rw [Int.neg_mul] at h
        omega)
      omega
theorem neg_ddiv (a b : UInt64) : Zv (FP.ddiv (Core.dneg a) b) = -Zv (FP.ddiv a b) := by
  show Zv (Core.ddiv (Core.dneg a) b) = _
  rw [Core.ddiv_dneg, Zv_cneg]
theorem ddiv_ge {a b V : UInt64} (ha : DFin a) (hb : DFin b) (hb0 : 0 < Zv b) (hV : val64 V ≠ .nan) (h : Zv V * Zv b ≤ Zv a * (one64 : Int)) : Zv V ≤ Zv (FP.ddiv a b) := by
  have := ddiv_le (a := Core.dneg a) (b := b) (V := Core.dneg V) (cneg_fin ha) hb hb0 (by rw [Core.val64_dneg]; exact negate_ne_nan hV) (by rw [Zv_cneg, Zv_cneg, Int.neg_mul, Int.neg_mul]; omega)
  rw [neg_ddiv, Zv_cneg] at this
  omega
theorem div_ne {a b : UInt64} (ha : DFin a) (hb : DFin b) (hb0 : 0 < Zv b) : val64 (FP.ddiv a b) ≠ .nan := by
  obtain ⟨s, c, q, ea⟩ := ha
  obtain ⟨t, d, r, eb⟩ := hb
  obtain ⟨hd, rfl, e⟩ := div_form hb0 ea eb
  rw [e]; exact roundRatio_ne_nan _ _ _ _ _
theorem ddiv_eq {a b V : UInt64} (ha : DFin a) (hb : DFin b) (hb0 : 0 < Zv b) (hV : DFin V) (h : Zv a * (one64 : Int) = Zv V * Zv b) : DFin (FP.ddiv a b) ∧ Zv (FP.ddiv a b) = Zv V := by
  have h1 := ddiv_le ha hb hb0 (fin_ne hV) (Int.le_of_eq h)
  have h2 := ddiv_ge ha hb hb0 (fin_ne hV) (Int.le_of_eq h.symm)
  exact ⟨fin_of (div_ne ha hb hb0) hV hV h2 h1, Int.le_antisymm h1 h2⟩
/-- a quotient by a power of two -/
theorem Val.div2 {a b : UInt64} {N : Int} {k i : Nat} (ha : Val a N k) (hb : Val b 1 i) (hN : N.natAbs < 2 ^ 53) {j : Nat} (hi : k + 1074 = j + i) (hj : j ≤ 2045) : Val (FP.ddiv a b) N j := by
  obtain ⟨V, fV, zV⟩ := rep N j hN hj
  have hb0 : 0 < Zv b := by rw [hb.2, Int.one_mul]; exact pow_pos' i
  obtain ⟨h1, h2⟩ := ddiv_eq ha.1 hb.1 hb0 fV (by rw [ha.2, hb.2, zV, one_pow, Int.one_mul, Int.mul_assoc, Int.mul_assoc, ← pow_cast, ← pow_cast, hi])
  exact ⟨h1, h2.trans zV⟩
end Jvm.OwnFP
namespace Jvm.Pilot.@@N@@
open Jvm Jvm.ClassFile Sem Op Lib Jvm.Free Jvm.Stand Jvm.LawKit Jvm.RoadKit Bundle Jvm.Pilot.@@N@@.Jvm.D
abbrev Go (p : Program) (e : Env) (below : List Frame) (t T : State) (m : MethodId) (pc : Nat) (ls : Array Slot) (st : List Value) : Prop := Steps p.tables e below (T.setTop (mkF m pc ls st)) t
/-- from A the run comes to B -/
def Goes (p : Program) (e : Env) (below : List Frame) (A B : State) : Prop := ∀ t, Steps p.tables e below B t → Steps p.tables e below A t
abbrev dLt (x y : UInt64) : Prop := FP.dcmp x y = some .lt
abbrev dEq (x y : UInt64) : Prop := FP.dcmp x y = some .eq
abbrev dLe (x y : UInt64) : Prop := FP.dcmp x y = some .lt ∨ FP.dcmp x y = some .eq
abbrev fLt (x y : UInt32) : Prop := FP.fcmp x y = some .lt
abbrev fEq (x y : UInt32) : Prop := FP.fcmp x y = some .eq
abbrev fLe (x y : UInt32) : Prop := FP.fcmp x y = some .lt ∨ FP.fcmp x y = some .eq
theorem Sta.keepO {Z : State} {h h' : Heap} {C n d : String} {v : Value} {ws : List Addr} (F : Sta Z h C n d v) (K : Keep h h' ws) (q : ∀ x ∈ ws, ∀ cell : Cell, h[x]? = some cell → cell.vm.isStatics = false) : Sta Z h' C n d v := by
  obtain ⟨cf, i, k, f, st, cell, h1, h2, h3, h4, h5, h6, h7⟩ := F
  refine ⟨cf, i, k, f, st, cell, h1, h2, h3, h4, K.2.1 _ _ h5 fun hm => ?_, h6, h7⟩
  rw [q _ hm _ h5] at h6; cases h6
theorem own_swap (o : Option Ordering) : o.map Ordering.swap = some .lt ↔ o = some .gt := by rcases o with _ | (_ | _ | _) <;> simp [Ordering.swap]
theorem own_swapE (o : Option Ordering) : o.map Ordering.swap = some .eq ↔ o = some .eq := by rcases o with _ | (_ | _ | _) <;> simp [Ordering.swap]
theorem own_dgt (x y : UInt64) : dLt y x ↔ FP.dcmp x y = some .gt := by
  show FP.Core.dcmp y x = some .lt ↔ FP.Core.dcmp x y = some .gt
  rw [FP.Core.dcmp_swap x y]; exact own_swap _
theorem own_dge (x y : UInt64) : dLe y x ↔ (FP.dcmp x y = some .gt ∨ FP.dcmp x y = some .eq) := by
  show (FP.Core.dcmp y x = some .lt ∨ FP.Core.dcmp y x = some .eq) ↔ (FP.Core.dcmp x y = some .gt ∨ FP.Core.dcmp x y = some .eq)
  rw [FP.Core.dcmp_swap x y, own_swap, own_swapE]
theorem own_fgt (x y : UInt32) : fLt y x ↔ FP.fcmp x y = some .gt := by
  show FP.Core.fcmp y x = some .lt ↔ FP.Core.fcmp x y = some .gt
  rw [FP.Core.fcmp_swap x y]; exact own_swap _
theorem own_fge (x y : UInt32) : fLe y x ↔ (FP.fcmp x y = some .gt ∨ FP.fcmp x y = some .eq) := by
  show (FP.Core.fcmp y x = some .lt ∨ FP.Core.fcmp y x = some .eq) ↔ (FP.Core.fcmp x y = some .gt ∨ FP.Core.fcmp x y = some .eq)
  rw [FP.Core.fcmp_swap x y, own_swap, own_swapE]
theorem own_c (o : Option Ordering) :
    (o = some .lt → ifCond.holds .ge (cmpValue o .g) = false ∧ ifCond.holds .lt (cmpValue o .g) = true) ∧
    (¬ o = some .lt → ifCond.holds .ge (cmpValue o .g) = true ∧ ifCond.holds .lt (cmpValue o .g) = false) ∧
    ((o = some .lt ∨ o = some .eq) → ifCond.holds .gt (cmpValue o .g) = false ∧ ifCond.holds .le (cmpValue o .g) = true) ∧
    (¬ (o = some .lt ∨ o = some .eq) → ifCond.holds .gt (cmpValue o .g) = true ∧ ifCond.holds .le (cmpValue o .g) = false) ∧
    (o = some .gt → ifCond.holds .le (cmpValue o .l) = false ∧ ifCond.holds .gt (cmpValue o .l) = true) ∧
    (¬ o = some .gt → ifCond.holds .le (cmpValue o .l) = true ∧ ifCond.holds .gt (cmpValue o .l) = false) ∧
    ((o = some .gt ∨ o = some .eq) → ifCond.holds .lt (cmpValue o .l) = false ∧ ifCond.holds .ge (cmpValue o .l) = true) ∧
    (¬ (o = some .gt ∨ o = some .eq) → ifCond.holds .lt (cmpValue o .l) = true ∧ ifCond.holds .ge (cmpValue o .l) = false) ∧
    (o = some .eq → ∀ q, ifCond.holds .ne (cmpValue o q) = false ∧ ifCond.holds .eq (cmpValue o q) = true) ∧
    (¬ o = some .eq → ∀ q, ifCond.holds .ne (cmpValue o q) = true ∧ ifCond.holds .eq (cmpValue o q) = false) := by
  refine ⟨?_, ?_, ?_, ?_, ?_, ?_, ?_, ?_, ?_, ?_⟩ <;> rcases o with _ | (_ | _ | _) <;> first | (intro h; exact ⟨by decide, by decide⟩) | (intro h q; cases q <;> exact ⟨by decide, by decide⟩) | (intro h; simp at h; done) | (intro h; exact absurd rfl h) | (intro h; exact absurd (Or.inl rfl) h) | (intro h; exact absurd (Or.inr rfl) h)
theorem dc_g_ge_f {x y : UInt64} (h : dLt x y) : ifCond.holds .ge (cmpValue (FP.dcmp x y) .g) = false := ((own_c _).1 h).1
theorem dc_g_ge_t {x y : UInt64} (h : ¬ dLt x y) : ifCond.holds .ge (cmpValue (FP.dcmp x y) .g) = true := ((own_c _).2.1 h).1
theorem dc_g_lt_t {x y : UInt64} (h : dLt x y) : ifCond.holds .lt (cmpValue (FP.dcmp x y) .g) = true := ((own_c _).1 h).2
theorem dc_g_lt_f {x y : UInt64} (h : ¬ dLt x y) : ifCond.holds .lt (cmpValue (FP.dcmp x y) .g) = false := ((own_c _).2.1 h).2
theorem dc_g_gt_f {x y : UInt64} (h : dLe x y) : ifCond.holds .gt (cmpValue (FP.dcmp x y) .g) = false := ((own_c _).2.2.1 h).1
theorem dc_g_gt_t {x y : UInt64} (h : ¬ dLe x y) : ifCond.holds .gt (cmpValue (FP.dcmp x y) .g) = true := ((own_c _).2.2.2.1 h).1
theorem dc_g_le_t {x y : UInt64} (h : dLe x y) : ifCond.holds .le (cmpValue (FP.dcmp x y) .g) = true := ((own_c _).2.2.1 h).2
theorem dc_g_le_f {x y : UInt64} (h : ¬ dLe x y) : ifCond.holds .le (cmpValue (FP.dcmp x y) .g) = false := ((own_c _).2.2.2.1 h).2
theorem dc_l_le_f {x y : UInt64} (h : dLt y x) : ifCond.holds .le (cmpValue (FP.dcmp x y) .l) = false := ((own_c _).2.2.2.2.1 ((own_dgt x y).mp h)).1
theorem dc_l_le_t {x y : UInt64} (h : ¬ dLt y x) : ifCond.holds .le (cmpValue (FP.dcmp x y) .l) = true := ((own_c _).2.2.2.2.2.1 (fun q => h ((own_dgt x y).mpr q))).1
theorem dc_l_gt_t {x y : UInt64} (h : dLt y x) : ifCond.holds .gt (cmpValue (FP.dcmp x y) .l) = true := ((own_c _).2.2.2.2.1 ((own_dgt x y).mp h)).2
theorem dc_l_gt_f {x y : UInt64} (h : ¬ dLt y x) : ifCond.holds .gt (cmpValue (FP.dcmp x y) .l) = false := ((own_c _).2.2.2.2.2.1 (fun q => h ((own_dgt x y).mpr q))).2
theorem dc_l_lt_f {x y : UInt64} (h : dLe y x) : ifCond.holds .lt (cmpValue (FP.dcmp x y) .l) = false := ((own_c _).2.2.2.2.2.2.1 ((own_dge x y).mp h)).1
theorem dc_l_lt_t {x y : UInt64} (h : ¬ dLe y x) : ifCond.holds .lt (cmpValue (FP.dcmp x y) .l) = true := ((own_c _).2.2.2.2.2.2.2.1 (fun q => h ((own_dge x y).mpr q))).1
theorem dc_l_ge_t {x y : UInt64} (h : dLe y x) : ifCond.holds .ge (cmpValue (FP.dcmp x y) .l) = true := ((own_c _).2.2.2.2.2.2.1 ((own_dge x y).mp h)).2
theorem dc_l_ge_f {x y : UInt64} (h : ¬ dLe y x) : ifCond.holds .ge (cmpValue (FP.dcmp x y) .l) = false := ((own_c _).2.2.2.2.2.2.2.1 (fun q => h ((own_dge x y).mpr q))).2
theorem dc_l_ne_f {x y : UInt64} (h : dEq x y) : ifCond.holds .ne (cmpValue (FP.dcmp x y) .l) = false := ((own_c _).2.2.2.2.2.2.2.2.1 h _).1
theorem dc_l_ne_t {x y : UInt64} (h : ¬ dEq x y) : ifCond.holds .ne (cmpValue (FP.dcmp x y) .l) = true := ((own_c _).2.2.2.2.2.2.2.2.2 h _).1
theorem dc_l_eq_t {x y : UInt64} (h : dEq x y) : ifCond.holds .eq (cmpValue (FP.dcmp x y) .l) = true := ((own_c _).2.2.2.2.2.2.2.2.1 h _).2
theorem dc_l_eq_f {x y : UInt64} (h : ¬ dEq x y) : ifCond.holds .eq (cmpValue (FP.dcmp x y) .l) = false := ((own_c _).2.2.2.2.2.2.2.2.2 h _).2
theorem dc_g_ne_f {x y : UInt64} (h : dEq x y) : ifCond.holds .ne (cmpValue (FP.dcmp x y) .g) = false := ((own_c _).2.2.2.2.2.2.2.2.1 h _).1
theorem dc_g_ne_t {x y : UInt64} (h : ¬ dEq x y) : ifCond.holds .ne (cmpValue (FP.dcmp x y) .g) = true := ((own_c _).2.2.2.2.2.2.2.2.2 h _).1
theorem dc_g_eq_t {x y : UInt64} (h : dEq x y) : ifCond.holds .eq (cmpValue (FP.dcmp x y) .g) = true := ((own_c _).2.2.2.2.2.2.2.2.1 h _).2
theorem dc_g_eq_f {x y : UInt64} (h : ¬ dEq x y) : ifCond.holds .eq (cmpValue (FP.dcmp x y) .g) = false := ((own_c _).2.2.2.2.2.2.2.2.2 h _).2
theorem fc_g_ge_f {x y : UInt32} (h : fLt x y) : ifCond.holds .ge (cmpValue (FP.fcmp x y) .g) = false := ((own_c _).1 h).1
theorem fc_g_ge_t {x y : UInt32} (h : ¬ fLt x y) : ifCond.holds .ge (cmpValue (FP.fcmp x y) .g) = true := ((own_c _).2.1 h).1
theorem fc_g_lt_t {x y : UInt32} (h : fLt x y) : ifCond.holds .lt (cmpValue (FP.fcmp x y) .g) = true := ((own_c _).1 h).2
theorem fc_g_lt_f {x y : UInt32} (h : ¬ fLt x y) : ifCond.holds .lt (cmpValue (FP.fcmp x y) .g) = false := ((own_c _).2.1 h).2
theorem fc_g_gt_f {x y : UInt32} (h : fLe x y) : ifCond.holds .gt (cmpValue (FP.fcmp x y) .g) = false := ((own_c _).2.2.1 h).1
theorem fc_g_gt_t {x y : UInt32} (h : ¬ fLe x y) : ifCond.holds .gt (cmpValue (FP.fcmp x y) .g) = true := ((own_c _).2.2.2.1 h).1
theorem fc_g_le_t {x y : UInt32} (h : fLe x y) : ifCond.holds .le (cmpValue (FP.fcmp x y) .g) = true := ((own_c _).2.2.1 h).2
theorem fc_g_le_f {x y : UInt32} (h : ¬ fLe x y) : ifCond.holds .le (cmpValue (FP.fcmp x y) .g) = false := ((own_c _).2.2.2.1 h).2
theorem fc_l_le_f {x y : UInt32} (h : fLt y x) : ifCond.holds .le (cmpValue (FP.fcmp x y) .l) = false := ((own_c _).2.2.2.2.1 ((own_fgt x y).mp h)).1
theorem fc_l_le_t {x y : UInt32} (h : ¬ fLt y x) : ifCond.holds .le (cmpValue (FP.fcmp x y) .l) = true := ((own_c _).2.2.2.2.2.1 (fun q => h ((own_fgt x y).mpr q))).1
theorem fc_l_gt_t {x y : UInt32} (h : fLt y x) : ifCond.holds .gt (cmpValue (FP.fcmp x y) .l) = true := ((own_c _).2.2.2.2.1 ((own_fgt x y).mp h)).2
theorem fc_l_gt_f {x y : UInt32} (h : ¬ fLt y x) : ifCond.holds .gt (cmpValue (FP.fcmp x y) .l) = false := ((own_c _).2.2.2.2.2.1 (fun q => h ((own_fgt x y).mpr q))).2
theorem fc_l_lt_f {x y : UInt32} (h : fLe y x) : ifCond.holds .lt (cmpValue (FP.fcmp x y) .l) = false := ((own_c _).2.2.2.2.2.2.1 ((own_fge x y).mp h)).1
theorem fc_l_lt_t {x y : UInt32} (h : ¬ fLe y x) : ifCond.holds .lt (cmpValue (FP.fcmp x y) .l) = true := ((own_c _).2.2.2.2.2.2.2.1 (fun q => h ((own_fge x y).mpr q))).1
theorem fc_l_ge_t {x y : UInt32} (h : fLe y x) : ifCond.holds .ge (cmpValue (FP.fcmp x y) .l) = true := ((own_c _).2.2.2.2.2.2.1 ((own_fge x y).mp h)).2
theorem fc_l_ge_f {x y : UInt32} (h : ¬ fLe y x) : ifCond.holds .ge (cmpValue (FP.fcmp x y) .l) = false := ((own_c _).2.2.2.2.2.2.2.1 (fun q => h ((own_fge x y).mpr q))).2
theorem fc_l_ne_f {x y : UInt32} (h : fEq x y) : ifCond.holds .ne (cmpValue (FP.fcmp x y) .l) = false := ((own_c _).2.2.2.2.2.2.2.2.1 h _).1
theorem fc_l_ne_t {x y : UInt32} (h : ¬ fEq x y) : ifCond.holds .ne (cmpValue (FP.fcmp x y) .l) = true := ((own_c _).2.2.2.2.2.2.2.2.2 h _).1
theorem fc_l_eq_t {x y : UInt32} (h : fEq x y) : ifCond.holds .eq (cmpValue (FP.fcmp x y) .l) = true := ((own_c _).2.2.2.2.2.2.2.2.1 h _).2
theorem fc_l_eq_f {x y : UInt32} (h : ¬ fEq x y) : ifCond.holds .eq (cmpValue (FP.fcmp x y) .l) = false := ((own_c _).2.2.2.2.2.2.2.2.2 h _).2
theorem fc_g_ne_f {x y : UInt32} (h : fEq x y) : ifCond.holds .ne (cmpValue (FP.fcmp x y) .g) = false := ((own_c _).2.2.2.2.2.2.2.2.1 h _).1
theorem fc_g_ne_t {x y : UInt32} (h : ¬ fEq x y) : ifCond.holds .ne (cmpValue (FP.fcmp x y) .g) = true := ((own_c _).2.2.2.2.2.2.2.2.2 h _).1
theorem fc_g_eq_t {x y : UInt32} (h : fEq x y) : ifCond.holds .eq (cmpValue (FP.fcmp x y) .g) = true := ((own_c _).2.2.2.2.2.2.2.2.1 h _).2
theorem fc_g_eq_f {x y : UInt32} (h : ¬ fEq x y) : ifCond.holds .eq (cmpValue (FP.fcmp x y) .g) = false := ((own_c _).2.2.2.2.2.2.2.2.2 h _).2
theorem d0_0 : decode jdk_29_method_65_code 0 = .ok (.iload_n 0, 1) := by decide +kernel
theorem d0_1 : decode jdk_29_method_65_code 1 = .ok (.iload_n 1, 1) := by decide +kernel
theorem d0_2 : decode jdk_29_method_65_code 2 = .ok (.if_icmp .lt 7, 3) := by decide +kernel
theorem d0_5 : decode jdk_29_method_65_code 5 = .ok (.iload_n 0, 1) := by decide +kernel
theorem d0_6 : decode jdk_29_method_65_code 6 = .ok (.goto 4, 3) := by decide +kernel
theorem d0_9 : decode jdk_29_method_65_code 9 = .ok (.iload_n 1, 1) := by decide +kernel
theorem d0_10 : decode jdk_29_method_65_code 10 = .ok (.ireturn, 1) := by decide +kernel
theorem pd0 : parseMethodDescriptor "(II)I" = some ⟨[.int, .int], some .int⟩ := by decide +kernel
theorem pf_mx : plainFor (⟨"java/lang/Math", "max", "(II)I"⟩ : MethodName) = true := by first | exact plainFor_of_name (by first | (simp [plainName, overriddenIn, x]; done) | decide +kernel) | exact Jvm.Free.JP.mathPlain rfl (by decide +kernel) | decide +kernel
theorem ef_mx (m : MethodId) (xa : Int32) (xb : Int32) : entryFrame m #[(.int xa), (.int xb)] 2 = mkF m 0 #[iv xa, iv xb] [] := by first | (simp [entryFrame, mkF, argsToLocals, Value.category, maxLocals]; done) | rfl
def f_mx (xa : Int32) (xb : Int32) : Int32 := (if xa < xb then xb else xa)
def Q_mx (Z : State) (xa : Int32) (xb : Int32)  (h0 : Heap) (n0 : Nat) (v : Option Value) (h : Heap) (L : List Loc) : Prop := v = some (.int (f_mx xa xb)) ∧ Fr n0 L ∧ h = h0
set_option maxRecDepth 65536 in
set_option maxHeartbeats 40000000 in
theorem rm_mx (l : Launch) (Z : State) (a0 : Array Value) (hw : ∀ d ∈ tables_1, d.before a0 Z = true) (ws : List Jvm.Cond) (xa : Int32) (xb : Int32)  (h0 : Heap) (n0 : Nat) (Z0 : n0 ≤ h0.size)   :
    MetFree l (⟨"java/lang/Math", "max", "(II)I"⟩ : MethodName) (head1 (Jvm.Cond.code (⟨"java/lang/Math", "max", "(II)I"⟩ : MethodName) jdk_29_method_65_code 2 (some .int) :: ws) ({ frames := 0, cells := 0, slots := 0, locals := 0 } : Room)) (fun a U => a = #[(.int xa), (.int xb)] ∧ Z.Warmed39 U.vm ∧ U.heap = h0) (fun _ _ _ _ _ => True) (fun _ U o U' => ∃ v L, o = .returned v ∧ Q_mx Z xa xb  h0 n0 v U'.heap L ∧ FrameEnd U o U' L ({ frames := 0, cells := 0, slots := 0, locals := 0 } : Room).cells ({ frames := 0, cells := 0, slots := 0, locals := 0 } : Room).slots) := by
  refine MetFree.of_bodySF pf_mx hisR ?_
  intro p e s m args below meth c s₁ Bd hml0 hP hK
  obtain ⟨rfl, hZ, hh⟩ := hP
  have hx := Bd.exec
  have hby := Bd.bytes
  have hml : c.maxLocals = 2 := hml0
  have hown : s.vm.findClass "java/lang/Math" = some m.cls := findClass_of_methodNamed Bd.named
  have hnm := (name_of_methodNamed Bd.named Bd.method).1
  have X0 : Stand p l e ({ frames := 0, cells := 0, slots := 0, locals := 0 } : Room) s m #[(.int xa), (.int xb)] below meth c s₁ [] 0 0 := Stand.of_body Bd
  have e0 : s₁.heap = h0 := by rw [← hh, Bd.state]; rfl
  have N0 := Fr.nil n0
  obtain ⟨S0, hS0⟩ : ∃ z, z = s₁.setTop (entryFrame m #[(.int xa), (.int xb)] 2) := ⟨_, rfl⟩
  rw [← hS0]
  have g0 : Goes p e below S0 (s₁.setTop (mkF m 0 #[iv xa, iv xb] [])) := fun t k => by rw [hS0]; exact castTop (ef_mx m xa xb) k
  have g1 : Goes p e below S0 (s₁.setTop (mkF m 2 #[iv xa, iv xb] [(.int xb), (.int xa)])) := fun t k => g0 t (by
    refine XS.iloadN X0.here hx rfl (hb hby d0_0) rfl ?_
    show Go p e below t s₁ m 1 #[iv xa, iv xb] [(.int xa)]
    refine XS.iloadN X0.here hx rfl (hb hby d0_1) rfl ?_
    show Go p e below t s₁ m 2 #[iv xa, iv xb] [(.int xb), (.int xa)]
    exact k)
  by_cases h2 : xa < xb
  · skip
    have g3 : Goes p e below S0 (s₁.setTop (mkF m 10 #[iv xa, iv xb] [(.int xb)])) := fun t k => g1 t (by
      refine XS.icmpYes X0.here hx rfl (pc0 := 2) (pc' := 9) rfl (hb hby d0_2) rfl (XT.ii_lt_t h2) (by decide) (by decide) ?_
      show Go p e below t s₁ m 9 #[iv xa, iv xb] []
      refine XS.iloadN X0.here hx rfl (hb hby d0_9) rfl ?_
      show Go p e below t s₁ m 10 #[iv xa, iv xb] [(.int xb)]
      exact k)
    obtain ⟨fs, hr, hrun, hended, hW, hsame⟩ := X0.leave (v := some (.int xb)) (fun h => by rw [Bd.returns] at h; cases h)
    refine ⟨_, _, g3 _ (retOut X0 hx Bd.returns rfl (Or.inl ⟨rfl, Or.inl rfl, _, rfl⟩) (hb hby d0_10) hr), hrun, hended, _, _, rfl, ?_, ⟨_, rfl⟩, hW, hsame.mono (by decide) (by decide)⟩
    show Q_mx Z xa xb  h0 n0 _ s₁.heap _
    rw [e0]
    exact ⟨by unfold f_mx; rw [if_pos h2], N0, rfl⟩
  · skip
    have g4 : Goes p e below S0 (s₁.setTop (mkF m 10 #[iv xa, iv xb] [(.int xa)])) := fun t k => g1 t (by
      refine XS.icmpNo X0.here hx rfl (hb hby d0_2) rfl (XT.ii_lt_f h2) ?_
      show Go p e below t s₁ m 5 #[iv xa, iv xb] []
      refine XS.iloadN X0.here hx rfl (hb hby d0_5) rfl ?_
      show Go p e below t s₁ m 6 #[iv xa, iv xb] [(.int xa)]
      refine XS.goto X0.here hx rfl (pc0 := 6) (pc' := 10) rfl (hb hby d0_6) (by decide) (by decide) ?_
      show Go p e below t s₁ m 10 #[iv xa, iv xb] [(.int xa)]
      exact k)
    obtain ⟨fs, hr, hrun, hended, hW, hsame⟩ := X0.leave (v := some (.int xa)) (fun h => by rw [Bd.returns] at h; cases h)
    refine ⟨_, _, g4 _ (retOut X0 hx Bd.returns rfl (Or.inl ⟨rfl, Or.inl rfl, _, rfl⟩) (hb hby d0_10) hr), hrun, hended, _, _, rfl, ?_, ⟨_, rfl⟩, hW, hsame.mono (by decide) (by decide)⟩
    show Q_mx Z xa xb  h0 n0 _ s₁.heap _
    rw [e0]
    exact ⟨by unfold f_mx; rw [if_neg h2], N0, rfl⟩
theorem d3_0 : decode jdk_117_method_8_code 0 = .ok (.dload_n 0, 1) := by decide +kernel
theorem d3_1 : decode jdk_117_method_8_code 1 = .ok (.invokestatic 38, 3) := by decide +kernel
theorem d3_4 : decode jdk_117_method_8_code 4 = .ok (.ldc2_w 111, 3) := by decide +kernel
theorem d3_7 : decode jdk_117_method_8_code 7 = .ok (.dcmp .g, 1) := by decide +kernel
theorem d3_8 : decode jdk_117_method_8_code 8 = .ok (.ifCond .gt 7, 3) := by decide +kernel
theorem d3_11 : decode jdk_117_method_8_code 11 = .ok (.iconst 1, 1) := by decide +kernel
theorem d3_12 : decode jdk_117_method_8_code 12 = .ok (.goto 4, 3) := by decide +kernel
theorem d3_15 : decode jdk_117_method_8_code 15 = .ok (.iconst 0, 1) := by decide +kernel
theorem d3_16 : decode jdk_117_method_8_code 16 = .ok (.ireturn, 1) := by decide +kernel
theorem pd1 : parseMethodDescriptor "(D)Z" = some ⟨[.double], some .boolean⟩ := by decide +kernel
theorem pf_fin : plainFor (⟨"java/lang/Double", "isFinite", "(D)Z"⟩ : MethodName) = true := by first | exact plainFor_of_name (by first | (simp [plainName, overriddenIn, x]; done) | decide +kernel) | exact Jvm.Free.JP.mathPlain rfl (by decide +kernel) | decide +kernel
theorem ef_fin (m : MethodId) (fd : UInt64) : entryFrame m #[(.double fd)] 2 = mkF m 0 #[.val (.double fd), .second] [] := by first | (simp [entryFrame, mkF, argsToLocals, Value.category, maxLocals]; done) | rfl
theorem pd2 : parseMethodDescriptor "(D)D" = some ⟨[.double], some .double⟩ := by decide +kernel
def f_fin (fd : UInt64) : Int32 := (if dLe (fd &&& 0x7fffffffffffffff) (9218868437227405311 : UInt64) then (1 : Int32) else (0 : Int32))
def Q_fin (Z : State) (fd : UInt64)  (h0 : Heap) (n0 : Nat) (v : Option Value) (h : Heap) (L : List Loc) : Prop := v = some (.int (f_fin fd)) ∧ Fr n0 L ∧ h = h0
set_option maxRecDepth 65536 in
set_option maxHeartbeats 40000000 in
theorem rm_fin (l : Launch) (Z : State) (a0 : Array Value) (hw : ∀ d ∈ tables_1, d.before a0 Z = true) (ws : List Jvm.Cond) (fd : UInt64)  (h0 : Heap) (n0 : Nat) (Z0 : n0 ≤ h0.size) (hn : Jvm.Free.Fl.NoNaN64 fd)  :
    MetFree l (⟨"java/lang/Double", "isFinite", "(D)Z"⟩ : MethodName) (head1 (Jvm.Cond.code (⟨"java/lang/Double", "isFinite", "(D)Z"⟩ : MethodName) jdk_117_method_8_code 2 (some .boolean) :: ws) ({ frames := 1, cells := 0, slots := 0, locals := 13 } : Room)) (fun a U => a = #[(.double fd)] ∧ Z.Warmed39 U.vm ∧ U.heap = h0) (fun _ _ _ _ _ => True) (fun _ U o U' => ∃ v L, o = .returned v ∧ Q_fin Z fd  h0 n0 v U'.heap L ∧ FrameEnd U o U' L ({ frames := 1, cells := 0, slots := 0, locals := 13 } : Room).cells ({ frames := 1, cells := 0, slots := 0, locals := 13 } : Room).slots) := by
  refine MetFree.of_bodySF pf_fin hisR ?_
  intro p e s m args below meth c s₁ Bd hml0 hP hK
  obtain ⟨rfl, hZ, hh⟩ := hP
  have hx := Bd.exec
  have hby := Bd.bytes
  have hml : c.maxLocals = 2 := hml0
  have hown : s.vm.findClass "java/lang/Double" = some m.cls := findClass_of_methodNamed Bd.named
  have hnm := (name_of_methodNamed Bd.named Bd.method).1
  have X0 : Stand p l e ({ frames := 1, cells := 0, slots := 0, locals := 13 } : Room) s m #[(.double fd)] below meth c s₁ [] 0 0 := Stand.of_body Bd
  have e0 : s₁.heap = h0 := by rw [← hh, Bd.state]; rfl
  have N0 := Fr.nil n0
  obtain ⟨S0, hS0⟩ : ∃ z, z = s₁.setTop (entryFrame m #[(.double fd)] 2) := ⟨_, rfl⟩
  rw [← hS0]
  have g0 : Goes p e below S0 (s₁.setTop (mkF m 0 #[.val (.double fd), .second] [])) := fun t k => by rw [hS0]; exact castTop (ef_fin m fd) k
  have g5 : Goes p e below S0 (s₁.setTop (mkF m 1 #[.val (.double fd), .second] [(.double fd)])) := fun t k => g0 t (by
    refine XS.dloadN X0.here hx rfl (hb hby d3_0) rfl ?_
    show Go p e below t s₁ m 1 #[.val (.double fd), .second] [(.double fd)]
    exact k)
  obtain ⟨T6, X6, e6, st6⟩ := natS X0 hx hZ (y := (⟨"java/lang/Math", "abs", "(D)D"⟩ : MethodName)) hown (hw _ (List.mem_of_getElem? (i := 21) rfl)) (hw _ (List.mem_of_getElem? (i := 22) rfl)) (hw _ (List.mem_of_getElem? (i := 3) rfl)) (hw _ (List.mem_of_getElem? (i := 23) rfl)) (by decide) e0 (W := 0) (fun c4 => Jvm.Free.Fl.Abs.absD_pays fd c4 (by decide) (by decide)) (g := (mkF m 1 #[.val (.double fd), .second] [(.double fd)])) rfl (by rw [hml]; rfl) (argsL := [(.double fd)]) (rest := []) (lenOf pd2 rfl) rfl (by show 2 * 0 + _ ≤ _; exact Nat.le_of_eq rfl) (hb hby d3_1) (Nat.le_of_ble_eq_true rfl) (Nat.le_of_ble_eq_true rfl) ⟨rfl, hn⟩ (val' := (.double (fd &&& 0x7fffffffffffffff))) rfl
  have g7 : Goes p e below S0 (T6.setTop (mkF m 4 #[.val (.double fd), .second] [(.double (fd &&& 0x7fffffffffffffff))])) := fun t k => g5 t (st6 t k)
  have g8 : Goes p e below S0 (T6.setTop (mkF m 8 #[.val (.double fd), .second] [(.int (cmpValue (FP.dcmp (fd &&& 0x7fffffffffffffff) (9218868437227405311 : UInt64)) .g))])) := fun t k => g7 t (by
    refine X6.ldc2DoubleC hx hown (mvT hZ (hw _ (List.mem_of_getElem? (i := 24) rfl))) (g := (mkF m 4 #[.val (.double fd), .second] [(.double (fd &&& 0x7fffffffffffffff))])) rfl (hb hby d3_4) _ ?_
    show Go p e below t T6 m 7 #[.val (.double fd), .second] [(.double (9218868437227405311 : UInt64)), (.double (fd &&& 0x7fffffffffffffff))]
    refine XS.dcmpS X6.here hx rfl (hb hby d3_7) rfl rfl ?_
    show Go p e below t T6 m 8 #[.val (.double fd), .second] [(.int (cmpValue (FP.dcmp (fd &&& 0x7fffffffffffffff) (9218868437227405311 : UInt64)) .g))]
    exact k)
  by_cases h9 : dLe (fd &&& 0x7fffffffffffffff) (9218868437227405311 : UInt64)
  · skip
    have g10 : Goes p e below S0 (T6.setTop (mkF m 16 #[.val (.double fd), .second] [(.int (1 : Int32))])) := fun t k => g8 t (by
      refine XS.ifNo X6.here hx rfl (hb hby d3_8) rfl (dc_g_gt_f h9) ?_
      show Go p e below t T6 m 11 #[.val (.double fd), .second] []
      refine XT.iconstV X6.here hx rfl (1 : Int32) (hb hby d3_11) (by decide) ?_
      show Go p e below t T6 m 12 #[.val (.double fd), .second] [(.int (1 : Int32))]
      refine XS.goto X6.here hx rfl (pc0 := 12) (pc' := 16) rfl (hb hby d3_12) (by decide) (by decide) ?_
      show Go p e below t T6 m 16 #[.val (.double fd), .second] [(.int (1 : Int32))]
      exact k)
    obtain ⟨fs, hr, hrun, hended, hW, hsame⟩ := X6.leave (v := some (.int (1 : Int32))) (fun h => by rw [Bd.returns] at h; cases h)
    refine ⟨_, _, g10 _ (retN X6 hx (t := .boolean) Bd.returns (by simp) (hb hby d3_16) hr), hrun, hended, _, _, rfl, ?_, ⟨_, rfl⟩, hW, hsame.mono (by decide) (by decide)⟩
    show Q_fin Z fd  h0 n0 _ T6.heap _
    rw [e6]
    exact ⟨by unfold f_fin; rw [if_pos h9], N0, rfl⟩
  · skip
    have g11 : Goes p e below S0 (T6.setTop (mkF m 16 #[.val (.double fd), .second] [(.int (0 : Int32))])) := fun t k => g8 t (by
      refine XS.ifYes X6.here hx rfl (pc0 := 8) (pc' := 15) rfl (hb hby d3_8) rfl (dc_g_gt_t h9) (by decide) (by decide) ?_
      show Go p e below t T6 m 15 #[.val (.double fd), .second] []
      refine XT.iconstV X6.here hx rfl (0 : Int32) (hb hby d3_15) (by decide) ?_
      show Go p e below t T6 m 16 #[.val (.double fd), .second] [(.int (0 : Int32))]
      exact k)
    obtain ⟨fs, hr, hrun, hended, hW, hsame⟩ := X6.leave (v := some (.int (0 : Int32))) (fun h => by rw [Bd.returns] at h; cases h)
    refine ⟨_, _, g11 _ (retN X6 hx (t := .boolean) Bd.returns (by simp) (hb hby d3_16) hr), hrun, hended, _, _, rfl, ?_, ⟨_, rfl⟩, hW, hsame.mono (by decide) (by decide)⟩
    show Q_fin Z fd  h0 n0 _ T6.heap _
    rw [e6]
    exact ⟨by unfold f_fin; rw [if_neg h9], N0, rfl⟩
theorem d1_0 : decode prog_22_method_1_code 0 = .ok (.aload_n 0, 1) := by decide +kernel
theorem d1_1 : decode prog_22_method_1_code 1 = .ok (.invokespecial 1, 3) := by decide +kernel
theorem d1_4 : decode prog_22_method_1_code 4 = .ok (.iload_n 1, 1) := by decide +kernel
theorem d1_5 : decode prog_22_method_1_code 5 = .ok (.iconst 1, 1) := by decide +kernel
theorem d1_6 : decode prog_22_method_1_code 6 = .ok (.if_icmp .ge 17, 3) := by decide +kernel
theorem d1_9 : decode prog_22_method_1_code 9 = .ok (.new 7, 3) := by decide +kernel
theorem d1_12 : decode prog_22_method_1_code 12 = .ok (.dup, 1) := by decide +kernel
theorem d1_13 : decode prog_22_method_1_code 13 = .ok (.iload_n 1, 1) := by decide +kernel
theorem d1_14 : decode prog_22_method_1_code 14 = .ok (.invokedynamic 9, 5) := by decide +kernel
theorem d1_19 : decode prog_22_method_1_code 19 = .ok (.invokespecial 13, 3) := by decide +kernel
theorem d1_22 : decode prog_22_method_1_code 22 = .ok (.athrow, 1) := by decide +kernel
theorem d1_23 : decode prog_22_method_1_code 23 = .ok (.dload_n 2, 1) := by decide +kernel
theorem d1_24 : decode prog_22_method_1_code 24 = .ok (.dconst 0, 1) := by decide +kernel
theorem d1_25 : decode prog_22_method_1_code 25 = .ok (.dcmp .l, 1) := by decide +kernel
theorem d1_26 : decode prog_22_method_1_code 26 = .ok (.ifCond .lt 9, 3) := by decide +kernel
theorem d1_29 : decode prog_22_method_1_code 29 = .ok (.dload_n 2, 1) := by decide +kernel
theorem d1_30 : decode prog_22_method_1_code 30 = .ok (.dconst 1, 1) := by decide +kernel
theorem d1_31 : decode prog_22_method_1_code 31 = .ok (.dcmp .g, 1) := by decide +kernel
theorem d1_32 : decode prog_22_method_1_code 32 = .ok (.ifCond .le 17, 3) := by decide +kernel
theorem d1_35 : decode prog_22_method_1_code 35 = .ok (.new 7, 3) := by decide +kernel
theorem d1_38 : decode prog_22_method_1_code 38 = .ok (.dup, 1) := by decide +kernel
theorem d1_39 : decode prog_22_method_1_code 39 = .ok (.dload_n 2, 1) := by decide +kernel
theorem d1_40 : decode prog_22_method_1_code 40 = .ok (.invokedynamic 16, 5) := by decide +kernel
theorem d1_45 : decode prog_22_method_1_code 45 = .ok (.invokespecial 13, 3) := by decide +kernel
theorem d1_48 : decode prog_22_method_1_code 48 = .ok (.athrow, 1) := by decide +kernel
theorem d1_49 : decode prog_22_method_1_code 49 = .ok (.dload 4, 2) := by decide +kernel
theorem d1_51 : decode prog_22_method_1_code 51 = .ok (.dconst 0, 1) := by decide +kernel
theorem d1_52 : decode prog_22_method_1_code 52 = .ok (.dcmp .l, 1) := by decide +kernel
theorem d1_53 : decode prog_22_method_1_code 53 = .ok (.ifCond .lt 11, 3) := by decide +kernel
theorem d1_56 : decode prog_22_method_1_code 56 = .ok (.dload 4, 2) := by decide +kernel
theorem d1_58 : decode prog_22_method_1_code 58 = .ok (.invokestatic 19, 3) := by decide +kernel
theorem d1_61 : decode prog_22_method_1_code 61 = .ok (.ifCond .ne 18, 3) := by decide +kernel
theorem d1_64 : decode prog_22_method_1_code 64 = .ok (.new 7, 3) := by decide +kernel
theorem d1_67 : decode prog_22_method_1_code 67 = .ok (.dup, 1) := by decide +kernel
theorem d1_68 : decode prog_22_method_1_code 68 = .ok (.dload 4, 2) := by decide +kernel
theorem d1_70 : decode prog_22_method_1_code 70 = .ok (.invokedynamic 25, 5) := by decide +kernel
theorem d1_75 : decode prog_22_method_1_code 75 = .ok (.invokespecial 13, 3) := by decide +kernel
theorem d1_78 : decode prog_22_method_1_code 78 = .ok (.athrow, 1) := by decide +kernel
theorem d1_79 : decode prog_22_method_1_code 79 = .ok (.iload 6, 2) := by decide +kernel
theorem d1_81 : decode prog_22_method_1_code 81 = .ok (.ifCond .ge 18, 3) := by decide +kernel
theorem d1_84 : decode prog_22_method_1_code 84 = .ok (.new 7, 3) := by decide +kernel
theorem d1_87 : decode prog_22_method_1_code 87 = .ok (.dup, 1) := by decide +kernel
theorem d1_88 : decode prog_22_method_1_code 88 = .ok (.iload 6, 2) := by decide +kernel
theorem d1_90 : decode prog_22_method_1_code 90 = .ok (.invokedynamic 26, 5) := by decide +kernel
theorem d1_95 : decode prog_22_method_1_code 95 = .ok (.invokespecial 13, 3) := by decide +kernel
theorem d1_98 : decode prog_22_method_1_code 98 = .ok (.athrow, 1) := by decide +kernel
theorem d1_99 : decode prog_22_method_1_code 99 = .ok (.aload_n 0, 1) := by decide +kernel
theorem d1_100 : decode prog_22_method_1_code 100 = .ok (.iload_n 1, 1) := by decide +kernel
theorem d1_101 : decode prog_22_method_1_code 101 = .ok (.putfield 27, 3) := by decide +kernel
theorem d1_104 : decode prog_22_method_1_code 104 = .ok (.aload_n 0, 1) := by decide +kernel
theorem d1_105 : decode prog_22_method_1_code 105 = .ok (.dload_n 2, 1) := by decide +kernel
theorem d1_106 : decode prog_22_method_1_code 106 = .ok (.putfield 33, 3) := by decide +kernel
theorem d1_109 : decode prog_22_method_1_code 109 = .ok (.aload_n 0, 1) := by decide +kernel
theorem d1_110 : decode prog_22_method_1_code 110 = .ok (.dload 4, 2) := by decide +kernel
theorem d1_112 : decode prog_22_method_1_code 112 = .ok (.putfield 37, 3) := by decide +kernel
theorem d1_115 : decode prog_22_method_1_code 115 = .ok (.aload_n 0, 1) := by decide +kernel
theorem d1_116 : decode prog_22_method_1_code 116 = .ok (.iload 6, 2) := by decide +kernel
theorem d1_118 : decode prog_22_method_1_code 118 = .ok (.putfield 40, 3) := by decide +kernel
theorem d1_121 : decode prog_22_method_1_code 121 = .ok (.aload_n 0, 1) := by decide +kernel
theorem d1_122 : decode prog_22_method_1_code 122 = .ok (.aconst_null, 1) := by decide +kernel
theorem d1_123 : decode prog_22_method_1_code 123 = .ok (.putfield 43, 3) := by decide +kernel
theorem d1_126 : decode prog_22_method_1_code 126 = .ok (.aload_n 0, 1) := by decide +kernel
theorem d1_127 : decode prog_22_method_1_code 127 = .ok (.iconst 0, 1) := by decide +kernel
theorem d1_128 : decode prog_22_method_1_code 128 = .ok (.putfield 47, 3) := by decide +kernel
theorem d1_131 : decode prog_22_method_1_code 131 = .ok (.aload_n 0, 1) := by decide +kernel
theorem d1_132 : decode prog_22_method_1_code 132 = .ok (.iconst 0, 1) := by decide +kernel
theorem d1_133 : decode prog_22_method_1_code 133 = .ok (.putfield 51, 3) := by decide +kernel
theorem d1_136 : decode prog_22_method_1_code 136 = .ok (.return_, 1) := by decide +kernel
theorem pd3 : parseMethodDescriptor "(IDDI)V" = some ⟨[.int, .double, .double, .int], none⟩ := by decide +kernel
theorem pf_ini : plainFor (⟨"com/example/hetmo/hetmo/tree/StoppingRules", "<init>", "(IDDI)V"⟩ : MethodName) = true := by first | exact plainFor_of_name (by first | (simp [plainName, overriddenIn, x]; done) | decide +kernel) | exact Jvm.Free.JP.mathPlain rfl (by decide +kernel) | decide +kernel
theorem ef_ini (m : MethodId) (ca : Addr) (cl : Int32) (cs : UInt64) (ci : UInt64) (cm : Int32) : entryFrame m #[(.ref ca), (.int cl), (.double cs), (.double ci), (.int cm)] 7 = mkF m 0 #[rv ca, iv cl, .val (.double cs), .second, .val (.double ci), .second, iv cm] [] := by first | (simp [entryFrame, mkF, argsToLocals, Value.category, maxLocals]; done) | rfl
def Q_ini (Z : State) (ca : Addr) (cl : Int32) (cs : UInt64) (ci : UInt64) (cm : Int32)  (h0 : Heap) (n0 : Nat) (v : Option Value) (h : Heap) (L : List Loc) : Prop := v = none ∧ Fr n0 L ∧ (Keep h0 h [ca]) ∧ (Exa Z h ca "com/example/hetmo/hetmo/tree/StoppingRules") ∧ (Fld Z h ca "com/example/hetmo/hetmo/tree/StoppingRules" "_minLeaf" "I" (.int cl)) ∧ (Fld Z h ca "com/example/hetmo/hetmo/tree/StoppingRules" "_minShare" "D" (.double cs)) ∧ (Fld Z h ca "com/example/hetmo/hetmo/tree/StoppingRules" "_minImprovement" "D" (.double ci)) ∧ (Fld Z h ca "com/example/hetmo/hetmo/tree/StoppingRules" "_maxDepth" "I" (.int cm)) ∧ (Fld Z h ca "com/example/hetmo/hetmo/tree/StoppingRules" "_countedApartBy" "[D" .null) ∧ (Fld Z h ca "com/example/hetmo/hetmo/tree/StoppingRules" "_shareOfNode" "Z" (.int (0 : Int32))) ∧ (Fld Z h ca "com/example/hetmo/hetmo/tree/StoppingRules" "_countingEstimatingRows" "Z" (.int (0 : Int32)))
set_option maxRecDepth 65536 in
set_option maxHeartbeats 40000000 in
theorem rm_ini (l : Launch) (Z : State) (a0 : Array Value) (hw : ∀ d ∈ tables_1, d.before a0 Z = true) (ws : List Jvm.Cond) (ca : Addr) (cl : Int32) (cs : UInt64) (ci : UInt64) (cm : Int32)  (h0 : Heap) (n0 : Nat) (Z0 : n0 ≤ h0.size) (P0 : Exa Z h0 ca "com/example/hetmo/hetmo/tree/StoppingRules") (P1 : Fld Z h0 ca "com/example/hetmo/hetmo/tree/StoppingRules" "_minLeaf" "I" (.int (0 : Int32))) (P2 : Fld Z h0 ca "com/example/hetmo/hetmo/tree/StoppingRules" "_minShare" "D" (.double (0 : UInt64))) (P3 : Fld Z h0 ca "com/example/hetmo/hetmo/tree/StoppingRules" "_minImprovement" "D" (.double (0 : UInt64))) (P4 : Fld Z h0 ca "com/example/hetmo/hetmo/tree/StoppingRules" "_maxDepth" "I" (.int (0 : Int32))) (P5 : Fld Z h0 ca "com/example/hetmo/hetmo/tree/StoppingRules" "_countedApartBy" "[D" .null) (P6 : Fld Z h0 ca "com/example/hetmo/hetmo/tree/StoppingRules" "_shareOfNode" "Z" (.int (0 : Int32))) (P7 : Fld Z h0 ca "com/example/hetmo/hetmo/tree/StoppingRules" "_countingEstimatingRows" "Z" (.int (0 : Int32))) (P8 : n0 ≤ ca) (hq1 : ¬ (cl < (1 : Int32))) (hq2 : dLe (0 : UInt64) cs) (hq3 : dLe cs (4607182418800017408 : UInt64)) (hq4 : dLe (0 : UInt64) ci) (hn : Jvm.Free.Fl.NoNaN64 ci) (hq5 : ¬ ((f_fin ci) = 0)) (hq6 : ¬ (cm < 0))  :
    MetFree l (⟨"com/example/hetmo/hetmo/tree/StoppingRules", "<init>", "(IDDI)V"⟩ : MethodName) (head1 (Jvm.Cond.code (⟨"com/example/hetmo/hetmo/tree/StoppingRules", "<init>", "(IDDI)V"⟩ : MethodName) prog_22_method_1_code 7 none :: ws) ({ frames := 2, cells := 0, slots := 0, locals := 40 } : Room)) (fun a U => a = #[(.ref ca), (.int cl), (.double cs), (.double ci), (.int cm)] ∧ Z.Warmed39 U.vm ∧ U.heap = h0) (fun _ _ _ _ _ => True) (fun _ U o U' => ∃ v L, o = .returned v ∧ Q_ini Z ca cl cs ci cm  h0 n0 v U'.heap L ∧ FrameEnd U o U' L ({ frames := 2, cells := 0, slots := 0, locals := 40 } : Room).cells ({ frames := 2, cells := 0, slots := 0, locals := 40 } : Room).slots) := by
  refine MetFree.of_bodySF pf_ini hisR ?_
  intro p e s m args below meth c s₁ Bd hml0 hP hK
  obtain ⟨rfl, hZ, hh⟩ := hP
  have hx := Bd.exec
  have hby := Bd.bytes
  have hml : c.maxLocals = 7 := hml0
  have hown : s.vm.findClass "com/example/hetmo/hetmo/tree/StoppingRules" = some m.cls := findClass_of_methodNamed Bd.named
  have hnm := (name_of_methodNamed Bd.named Bd.method).1
  have X0 : Stand p l e ({ frames := 2, cells := 0, slots := 0, locals := 40 } : Room) s m #[(.ref ca), (.int cl), (.double cs), (.double ci), (.int cm)] below meth c s₁ [] 0 0 := Stand.of_body Bd
  have e0 : s₁.heap = h0 := by rw [← hh, Bd.state]; rfl
  have N0 := Fr.nil n0
  obtain ⟨S0, hS0⟩ : ∃ z, z = s₁.setTop (entryFrame m #[(.ref ca), (.int cl), (.double cs), (.double ci), (.int cm)] 7) := ⟨_, rfl⟩
  rw [← hS0]
  have g0 : Goes p e below S0 (s₁.setTop (mkF m 0 #[rv ca, iv cl, .val (.double cs), .second, .val (.double ci), .second, iv cm] [])) := fun t k => by rw [hS0]; exact castTop (ef_ini m ca cl cs ci cm) k
  have g12 : Goes p e below S0 (s₁.setTop (mkF m 1 #[rv ca, iv cl, .val (.double cs), .second, .val (.double ci), .second, iv cm] [(.ref ca)])) := fun t k => g0 t (by
    refine XS.aloadN X0.here hx rfl (hb hby d1_0) rfl rfl ?_
    show Go p e below t s₁ m 1 #[rv ca, iv cl, .val (.double cs), .second, .val (.double ci), .second, iv cm] [(.ref ca)]
    exact k)
  obtain ⟨T13, X13, e13, st13⟩ := initO X0 hx hZ hown (hw _ (List.mem_of_getElem? (i := 14) rfl)) (hw _ (List.mem_of_getElem? (i := 15) rfl)) (hw _ (List.mem_of_getElem? (i := 16) rfl)) e0 (g := (mkF m 1 #[rv ca, iv cl, .val (.double cs), .second, .val (.double ci), .second, iv cm] [(.ref ca)])) rfl (by rw [hml]; rfl) rfl (hb hby d1_1) (by decide) (W := 0) (by show 2 * 0 + _ ≤ _; exact Nat.le_of_eq rfl) (by decide)
  have g14 : Goes p e below S0 (T13.setTop (mkF m 4 #[rv ca, iv cl, .val (.double cs), .second, .val (.double ci), .second, iv cm] [])) := fun t k => g12 t (st13 t k)
  have g15 : Goes p e below S0 (T13.setTop (mkF m 58 #[rv ca, iv cl, .val (.double cs), .second, .val (.double ci), .second, iv cm] [(.double ci)])) := fun t k => g14 t (by
    refine XS.iloadN X13.here hx rfl (hb hby d1_4) rfl ?_
    show Go p e below t T13 m 5 #[rv ca, iv cl, .val (.double cs), .second, .val (.double ci), .second, iv cm] [(.int cl)]
    refine XT.iconstV X13.here hx rfl (1 : Int32) (hb hby d1_5) (by decide) ?_
    show Go p e below t T13 m 6 #[rv ca, iv cl, .val (.double cs), .second, .val (.double ci), .second, iv cm] [(.int (1 : Int32)), (.int cl)]
    refine XS.icmpYes X13.here hx rfl (pc0 := 6) (pc' := 23) rfl (hb hby d1_6) rfl (XT.ii_ge_t hq1) (by decide) (by decide) ?_
    show Go p e below t T13 m 23 #[rv ca, iv cl, .val (.double cs), .second, .val (.double ci), .second, iv cm] []
    refine XS.dloadN X13.here hx rfl (hb hby d1_23) rfl ?_
    show Go p e below t T13 m 24 #[rv ca, iv cl, .val (.double cs), .second, .val (.double ci), .second, iv cm] [(.double cs)]
    refine XS.dconst0 X13.here hx rfl (hb hby d1_24) (v := (0 : UInt64)) rfl ?_
    show Go p e below t T13 m 25 #[rv ca, iv cl, .val (.double cs), .second, .val (.double ci), .second, iv cm] [(.double (0 : UInt64)), (.double cs)]
    refine XS.dcmpS X13.here hx rfl (hb hby d1_25) rfl rfl ?_
    show Go p e below t T13 m 26 #[rv ca, iv cl, .val (.double cs), .second, .val (.double ci), .second, iv cm] [(.int (cmpValue (FP.dcmp cs (0 : UInt64)) .l))]
    refine XS.ifNo X13.here hx rfl (hb hby d1_26) rfl (dc_l_lt_f hq2) ?_
    show Go p e below t T13 m 29 #[rv ca, iv cl, .val (.double cs), .second, .val (.double ci), .second, iv cm] []
    refine XS.dloadN X13.here hx rfl (hb hby d1_29) rfl ?_
    show Go p e below t T13 m 30 #[rv ca, iv cl, .val (.double cs), .second, .val (.double ci), .second, iv cm] [(.double cs)]
    refine XS.dconst1 X13.here hx rfl (hb hby d1_30) (v := (4607182418800017408 : UInt64)) rfl ?_
    show Go p e below t T13 m 31 #[rv ca, iv cl, .val (.double cs), .second, .val (.double ci), .second, iv cm] [(.double (4607182418800017408 : UInt64)), (.double cs)]
    refine XS.dcmpS X13.here hx rfl (hb hby d1_31) rfl rfl ?_
    show Go p e below t T13 m 32 #[rv ca, iv cl, .val (.double cs), .second, .val (.double ci), .second, iv cm] [(.int (cmpValue (FP.dcmp cs (4607182418800017408 : UInt64)) .g))]
    refine XS.ifYes X13.here hx rfl (pc0 := 32) (pc' := 49) rfl (hb hby d1_32) rfl (dc_g_le_t hq3) (by decide) (by decide) ?_
    show Go p e below t T13 m 49 #[rv ca, iv cl, .val (.double cs), .second, .val (.double ci), .second, iv cm] []
    refine XS.dload X13.here hx rfl (hb hby d1_49) rfl ?_
    show Go p e below t T13 m 51 #[rv ca, iv cl, .val (.double cs), .second, .val (.double ci), .second, iv cm] [(.double ci)]
    refine XS.dconst0 X13.here hx rfl (hb hby d1_51) (v := (0 : UInt64)) rfl ?_
    show Go p e below t T13 m 52 #[rv ca, iv cl, .val (.double cs), .second, .val (.double ci), .second, iv cm] [(.double (0 : UInt64)), (.double ci)]
    refine XS.dcmpS X13.here hx rfl (hb hby d1_52) rfl rfl ?_
    show Go p e below t T13 m 53 #[rv ca, iv cl, .val (.double cs), .second, .val (.double ci), .second, iv cm] [(.int (cmpValue (FP.dcmp ci (0 : UInt64)) .l))]
    refine XS.ifNo X13.here hx rfl (hb hby d1_53) rfl (dc_l_lt_f hq4) ?_
    show Go p e below t T13 m 56 #[rv ca, iv cl, .val (.double cs), .second, .val (.double ci), .second, iv cm] []
    refine XS.dload X13.here hx rfl (hb hby d1_56) rfl ?_
    show Go p e below t T13 m 58 #[rv ca, iv cl, .val (.double cs), .second, .val (.double ci), .second, iv cm] [(.double ci)]
    exact k)
  obtain ⟨_, _, ⟨T16, L16, k16, n16⟩, -, X16, ⟨Lc16, hQ16, l16, y16, z16⟩, st16⟩ := Jvm.LawKit.callS X13 hx (y := (⟨"java/lang/Double", "isFinite", "(D)Z"⟩ : MethodName)) hown (mvT hZ (hw _ (List.mem_of_getElem? (i := 17) rfl))) (mvT hZ (hw _ (List.mem_of_getElem? (i := 18) rfl))) (mvT hZ (hw _ (List.mem_of_getElem? (i := 19) rfl))) (mvT hZ (hw _ (List.mem_of_getElem? (i := 20) rfl))) (by decide) (backOf (W := 0) (rm_fin l Z a0 hw [] ci  h0 n0 Z0 hn) hZ (hw _ (List.mem_of_getElem? (i := 20) rfl)) (hw _ (List.mem_of_getElem? (i := 19) rfl)) (by decide) (by decide)) (g := (mkF m 58 #[rv ca, iv cl, .val (.double cs), .second, .val (.double ci), .second, iv cm] [(.double ci)])) rfl (by rw [hml]; rfl) (argsL := [(.double ci)]) (rest := []) (lenOf pd1 rfl) rfl (by show 2 * 0 + _ ≤ _; exact Nat.le_of_eq rfl) (hb hby d1_58) (fun _ _ => ⟨rfl, e13, (by decide : 0 + 0 ≤ _), (by decide : 0 + 0 ≤ _)⟩)
  dsimp only [Pt.U, Pt.locs, Pt.cells, Pt.slots] at X16 l16 y16 z16 st16 hQ16
  subst l16 y16 z16
  obtain ⟨rfl, N16, e16⟩ := hQ16
  have M16 := Fr.app N0 N16
  have g17 : Goes p e below S0 (T16.setTop (mkF m 61 #[rv ca, iv cl, .val (.double cs), .second, .val (.double ci), .second, iv cm] [(.int (f_fin ci))])) := fun t k => g15 t (st16 t k)
  have g18 : Goes p e below S0 (T16.setTop (mkF m 101 #[rv ca, iv cl, .val (.double cs), .second, .val (.double ci), .second, iv cm] [(.int cl), (.ref ca)])) := fun t k => g17 t (by
    refine XS.ifYes X16.here hx rfl (pc0 := 61) (pc' := 79) rfl (hb hby d1_61) rfl (XT.i0_ne_t hq5) (by decide) (by decide) ?_
    show Go p e below t T16 m 79 #[rv ca, iv cl, .val (.double cs), .second, .val (.double ci), .second, iv cm] []
    refine XS.iload X16.here hx rfl (hb hby d1_79) rfl ?_
    show Go p e below t T16 m 81 #[rv ca, iv cl, .val (.double cs), .second, .val (.double ci), .second, iv cm] [(.int cm)]
    refine XS.ifYes X16.here hx rfl (pc0 := 81) (pc' := 99) rfl (hb hby d1_81) rfl (XT.i0_ge_t hq6) (by decide) (by decide) ?_
    show Go p e below t T16 m 99 #[rv ca, iv cl, .val (.double cs), .second, .val (.double ci), .second, iv cm] []
    refine XS.aloadN X16.here hx rfl (hb hby d1_99) rfl rfl ?_
    show Go p e below t T16 m 100 #[rv ca, iv cl, .val (.double cs), .second, .val (.double ci), .second, iv cm] [(.ref ca)]
    refine XS.iloadN X16.here hx rfl (hb hby d1_100) rfl ?_
    show Go p e below t T16 m 101 #[rv ca, iv cl, .val (.double cs), .second, .val (.double ci), .second, iv cm] [(.int cl), (.ref ca)]
    exact k)
  obtain ⟨T19, h19, X19, e19, W19, st19⟩ := putF X16 hx hZ hown (host := "") (Or.inl (hw _ (List.mem_of_getElem? (i := 25) rfl))) Via.refl e16 P1 P0 (Or.inr ⟨(hw _ (List.mem_of_getElem? (i := 26) rfl)), rfl, hnm⟩) (hw _ (List.mem_of_getElem? (i := 8) rfl)) (ty := .int) (by decide) rfl rfl (g := (mkF m 101 #[rv ca, iv cl, .val (.double cs), .second, .val (.double ci), .second, iv cm] [(.int cl), (.ref ca)])) rfl rfl (hb hby d1_101)
  have N19 := Fr.snoc X19 M16 P8
  have Fw19 := Fld.same W19 P1
  have g20 : Goes p e below S0 (T19.setTop (mkF m 104 #[rv ca, iv cl, .val (.double cs), .second, .val (.double ci), .second, iv cm] [])) := fun t k => g18 t (st19 t k)
  have g21 : Goes p e below S0 (T19.setTop (mkF m 106 #[rv ca, iv cl, .val (.double cs), .second, .val (.double ci), .second, iv cm] [(.double cs), (.ref ca)])) := fun t k => g20 t (by
    refine XS.aloadN X19.here hx rfl (hb hby d1_104) rfl rfl ?_
    show Go p e below t T19 m 105 #[rv ca, iv cl, .val (.double cs), .second, .val (.double ci), .second, iv cm] [(.ref ca)]
    refine XS.dloadN X19.here hx rfl (hb hby d1_105) rfl ?_
    show Go p e below t T19 m 106 #[rv ca, iv cl, .val (.double cs), .second, .val (.double ci), .second, iv cm] [(.double cs), (.ref ca)]
    exact k)
  obtain ⟨T22, h22, X22, e22, W22, st22⟩ := putF X19 hx hZ hown (host := "") (Or.inl (hw _ (List.mem_of_getElem? (i := 27) rfl))) Via.refl e19 (P2.other W19 (Or.inr (slot_ne (Or.inr (hw _ (List.mem_of_getElem? (i := 28) rfl))) (Or.inr (hw _ (List.mem_of_getElem? (i := 26) rfl))) (by decide) (t := .double) (t' := .int) (by decide) (by decide)))) (P0.wr W19) (Or.inr ⟨(hw _ (List.mem_of_getElem? (i := 28) rfl)), rfl, hnm⟩) (hw _ (List.mem_of_getElem? (i := 8) rfl)) (ty := .double) (by decide) rfl rfl (g := (mkF m 106 #[rv ca, iv cl, .val (.double cs), .second, .val (.double ci), .second, iv cm] [(.double cs), (.ref ca)])) rfl rfl (hb hby d1_106)
  have N22 := Fr.snoc X22 N19 P8
  have Fw22 := Fld.same W22 (P2.other W19 (Or.inr (slot_ne (Or.inr (hw _ (List.mem_of_getElem? (i := 28) rfl))) (Or.inr (hw _ (List.mem_of_getElem? (i := 26) rfl))) (by decide) (t := .double) (t' := .int) (by decide) (by decide))))
  have g23 : Goes p e below S0 (T22.setTop (mkF m 109 #[rv ca, iv cl, .val (.double cs), .second, .val (.double ci), .second, iv cm] [])) := fun t k => g21 t (st22 t k)
  have g24 : Goes p e below S0 (T22.setTop (mkF m 112 #[rv ca, iv cl, .val (.double cs), .second, .val (.double ci), .second, iv cm] [(.double ci), (.ref ca)])) := fun t k => g23 t (by
    refine XS.aloadN X22.here hx rfl (hb hby d1_109) rfl rfl ?_
    show Go p e below t T22 m 110 #[rv ca, iv cl, .val (.double cs), .second, .val (.double ci), .second, iv cm] [(.ref ca)]
    refine XS.dload X22.here hx rfl (hb hby d1_110) rfl ?_
    show Go p e below t T22 m 112 #[rv ca, iv cl, .val (.double cs), .second, .val (.double ci), .second, iv cm] [(.double ci), (.ref ca)]
    exact k)
  obtain ⟨T25, h25, X25, e25, W25, st25⟩ := putF X22 hx hZ hown (host := "") (Or.inl (hw _ (List.mem_of_getElem? (i := 29) rfl))) Via.refl e22 ((P3.other W19 (Or.inr (slot_ne (Or.inr (hw _ (List.mem_of_getElem? (i := 30) rfl))) (Or.inr (hw _ (List.mem_of_getElem? (i := 26) rfl))) (by decide) (t := .double) (t' := .int) (by decide) (by decide)))).other W22 (Or.inr (slot_ne (Or.inr (hw _ (List.mem_of_getElem? (i := 30) rfl))) (Or.inr (hw _ (List.mem_of_getElem? (i := 28) rfl))) (by decide) (t := .double) (t' := .double) (by decide) (by decide)))) ((P0.wr W19).wr W22) (Or.inr ⟨(hw _ (List.mem_of_getElem? (i := 30) rfl)), rfl, hnm⟩) (hw _ (List.mem_of_getElem? (i := 8) rfl)) (ty := .double) (by decide) rfl rfl (g := (mkF m 112 #[rv ca, iv cl, .val (.double cs), .second, .val (.double ci), .second, iv cm] [(.double ci), (.ref ca)])) rfl rfl (hb hby d1_112)
  have N25 := Fr.snoc X25 N22 P8
  have Fw25 := Fld.same W25 ((P3.other W19 (Or.inr (slot_ne (Or.inr (hw _ (List.mem_of_getElem? (i := 30) rfl))) (Or.inr (hw _ (List.mem_of_getElem? (i := 26) rfl))) (by decide) (t := .double) (t' := .int) (by decide) (by decide)))).other W22 (Or.inr (slot_ne (Or.inr (hw _ (List.mem_of_getElem? (i := 30) rfl))) (Or.inr (hw _ (List.mem_of_getElem? (i := 28) rfl))) (by decide) (t := .double) (t' := .double) (by decide) (by decide))))
  have g26 : Goes p e below S0 (T25.setTop (mkF m 115 #[rv ca, iv cl, .val (.double cs), .second, .val (.double ci), .second, iv cm] [])) := fun t k => g24 t (st25 t k)
  have g27 : Goes p e below S0 (T25.setTop (mkF m 118 #[rv ca, iv cl, .val (.double cs), .second, .val (.double ci), .second, iv cm] [(.int cm), (.ref ca)])) := fun t k => g26 t (by
    refine XS.aloadN X25.here hx rfl (hb hby d1_115) rfl rfl ?_
    show Go p e below t T25 m 116 #[rv ca, iv cl, .val (.double cs), .second, .val (.double ci), .second, iv cm] [(.ref ca)]
    refine XS.iload X25.here hx rfl (hb hby d1_116) rfl ?_
    show Go p e below t T25 m 118 #[rv ca, iv cl, .val (.double cs), .second, .val (.double ci), .second, iv cm] [(.int cm), (.ref ca)]
    exact k)
  obtain ⟨T28, h28, X28, e28, W28, st28⟩ := putF X25 hx hZ hown (host := "") (Or.inl (hw _ (List.mem_of_getElem? (i := 31) rfl))) Via.refl e25 (((P4.other W19 (Or.inr (slot_ne (Or.inr (hw _ (List.mem_of_getElem? (i := 32) rfl))) (Or.inr (hw _ (List.mem_of_getElem? (i := 26) rfl))) (by decide) (t := .int) (t' := .int) (by decide) (by decide)))).other W22 (Or.inr (slot_ne (Or.inr (hw _ (List.mem_of_getElem? (i := 32) rfl))) (Or.inr (hw _ (List.mem_of_getElem? (i := 28) rfl))) (by decide) (t := .int) (t' := .double) (by decide) (by decide)))).other W25 (Or.inr (slot_ne (Or.inr (hw _ (List.mem_of_getElem? (i := 32) rfl))) (Or.inr (hw _ (List.mem_of_getElem? (i := 30) rfl))) (by decide) (t := .int) (t' := .double) (by decide) (by decide)))) (((P0.wr W19).wr W22).wr W25) (Or.inr ⟨(hw _ (List.mem_of_getElem? (i := 32) rfl)), rfl, hnm⟩) (hw _ (List.mem_of_getElem? (i := 8) rfl)) (ty := .int) (by decide) rfl rfl (g := (mkF m 118 #[rv ca, iv cl, .val (.double cs), .second, .val (.double ci), .second, iv cm] [(.int cm), (.ref ca)])) rfl rfl (hb hby d1_118)
  have N28 := Fr.snoc X28 N25 P8
  have Fw28 := Fld.same W28 (((P4.other W19 (Or.inr (slot_ne (Or.inr (hw _ (List.mem_of_getElem? (i := 32) rfl))) (Or.inr (hw _ (List.mem_of_getElem? (i := 26) rfl))) (by decide) (t := .int) (t' := .int) (by decide) (by decide)))).other W22 (Or.inr (slot_ne (Or.inr (hw _ (List.mem_of_getElem? (i := 32) rfl))) (Or.inr (hw _ (List.mem_of_getElem? (i := 28) rfl))) (by decide) (t := .int) (t' := .double) (by decide) (by decide)))).other W25 (Or.inr (slot_ne (Or.inr (hw _ (List.mem_of_getElem? (i := 32) rfl))) (Or.inr (hw _ (List.mem_of_getElem? (i := 30) rfl))) (by decide) (t := .int) (t' := .double) (by decide) (by decide))))
  have g29 : Goes p e below S0 (T28.setTop (mkF m 121 #[rv ca, iv cl, .val (.double cs), .second, .val (.double ci), .second, iv cm] [])) := fun t k => g27 t (st28 t k)
  have g30 : Goes p e below S0 (T28.setTop (mkF m 123 #[rv ca, iv cl, .val (.double cs), .second, .val (.double ci), .second, iv cm] [.null, (.ref ca)])) := fun t k => g29 t (by
    refine XS.aloadN X28.here hx rfl (hb hby d1_121) rfl rfl ?_
    show Go p e below t T28 m 122 #[rv ca, iv cl, .val (.double cs), .second, .val (.double ci), .second, iv cm] [(.ref ca)]
    refine XS.aconstNull X28.here hx rfl (hb hby d1_122) ?_
    show Go p e below t T28 m 123 #[rv ca, iv cl, .val (.double cs), .second, .val (.double ci), .second, iv cm] [.null, (.ref ca)]
    exact k)
  obtain ⟨T31, h31, X31, e31, W31, st31⟩ := putF X28 hx hZ hown (host := "") (Or.inl (hw _ (List.mem_of_getElem? (i := 33) rfl))) Via.refl e28 ((((P5.other W19 (Or.inr (slot_ne (Or.inr (hw _ (List.mem_of_getElem? (i := 34) rfl))) (Or.inr (hw _ (List.mem_of_getElem? (i := 26) rfl))) (by decide) (t := (.array .double)) (t' := .int) (by decide) (by decide)))).other W22 (Or.inr (slot_ne (Or.inr (hw _ (List.mem_of_getElem? (i := 34) rfl))) (Or.inr (hw _ (List.mem_of_getElem? (i := 28) rfl))) (by decide) (t := (.array .double)) (t' := .double) (by decide) (by decide)))).other W25 (Or.inr (slot_ne (Or.inr (hw _ (List.mem_of_getElem? (i := 34) rfl))) (Or.inr (hw _ (List.mem_of_getElem? (i := 30) rfl))) (by decide) (t := (.array .double)) (t' := .double) (by decide) (by decide)))).other W28 (Or.inr (slot_ne (Or.inr (hw _ (List.mem_of_getElem? (i := 34) rfl))) (Or.inr (hw _ (List.mem_of_getElem? (i := 32) rfl))) (by decide) (t := (.array .double)) (t' := .int) (by decide) (by decide)))) ((((P0.wr W19).wr W22).wr W25).wr W28) (Or.inr ⟨(hw _ (List.mem_of_getElem? (i := 34) rfl)), rfl, hnm⟩) (hw _ (List.mem_of_getElem? (i := 8) rfl)) (ty := (.array .double)) (by decide) rfl rfl (g := (mkF m 123 #[rv ca, iv cl, .val (.double cs), .second, .val (.double ci), .second, iv cm] [.null, (.ref ca)])) rfl rfl (hb hby d1_123)
  have N31 := Fr.snoc X31 N28 P8
  have Fw31 := Fld.same W31 ((((P5.other W19 (Or.inr (slot_ne (Or.inr (hw _ (List.mem_of_getElem? (i := 34) rfl))) (Or.inr (hw _ (List.mem_of_getElem? (i := 26) rfl))) (by decide) (t := (.array .double)) (t' := .int) (by decide) (by decide)))).other W22 (Or.inr (slot_ne (Or.inr (hw _ (List.mem_of_getElem? (i := 34) rfl))) (Or.inr (hw _ (List.mem_of_getElem? (i := 28) rfl))) (by decide) (t := (.array .double)) (t' := .double) (by decide) (by decide)))).other W25 (Or.inr (slot_ne (Or.inr (hw _ (List.mem_of_getElem? (i := 34) rfl))) (Or.inr (hw _ (List.mem_of_getElem? (i := 30) rfl))) (by decide) (t := (.array .double)) (t' := .double) (by decide) (by decide)))).other W28 (Or.inr (slot_ne (Or.inr (hw _ (List.mem_of_getElem? (i := 34) rfl))) (Or.inr (hw _ (List.mem_of_getElem? (i := 32) rfl))) (by decide) (t := (.array .double)) (t' := .int) (by decide) (by decide))))
  have g32 : Goes p e below S0 (T31.setTop (mkF m 126 #[rv ca, iv cl, .val (.double cs), .second, .val (.double ci), .second, iv cm] [])) := fun t k => g30 t (st31 t k)
  have g33 : Goes p e below S0 (T31.setTop (mkF m 128 #[rv ca, iv cl, .val (.double cs), .second, .val (.double ci), .second, iv cm] [(.int (0 : Int32)), (.ref ca)])) := fun t k => g32 t (by
    refine XS.aloadN X31.here hx rfl (hb hby d1_126) rfl rfl ?_
    show Go p e below t T31 m 127 #[rv ca, iv cl, .val (.double cs), .second, .val (.double ci), .second, iv cm] [(.ref ca)]
    refine XT.iconstV X31.here hx rfl (0 : Int32) (hb hby d1_127) (by decide) ?_
    show Go p e below t T31 m 128 #[rv ca, iv cl, .val (.double cs), .second, .val (.double ci), .second, iv cm] [(.int (0 : Int32)), (.ref ca)]
    exact k)
  obtain ⟨T34, h34, X34, e34, W34, st34⟩ := putFN X31 hx hZ hown (hw _ (List.mem_of_getElem? (i := 35) rfl)) Via.refl e31 (((((P6.other W19 (Or.inr (slot_ne (Or.inr (hw _ (List.mem_of_getElem? (i := 36) rfl))) (Or.inr (hw _ (List.mem_of_getElem? (i := 26) rfl))) (by decide) (t := .boolean) (t' := .int) (by decide) (by decide)))).other W22 (Or.inr (slot_ne (Or.inr (hw _ (List.mem_of_getElem? (i := 36) rfl))) (Or.inr (hw _ (List.mem_of_getElem? (i := 28) rfl))) (by decide) (t := .boolean) (t' := .double) (by decide) (by decide)))).other W25 (Or.inr (slot_ne (Or.inr (hw _ (List.mem_of_getElem? (i := 36) rfl))) (Or.inr (hw _ (List.mem_of_getElem? (i := 30) rfl))) (by decide) (t := .boolean) (t' := .double) (by decide) (by decide)))).other W28 (Or.inr (slot_ne (Or.inr (hw _ (List.mem_of_getElem? (i := 36) rfl))) (Or.inr (hw _ (List.mem_of_getElem? (i := 32) rfl))) (by decide) (t := .boolean) (t' := .int) (by decide) (by decide)))).other W31 (Or.inr (slot_ne (Or.inr (hw _ (List.mem_of_getElem? (i := 36) rfl))) (Or.inr (hw _ (List.mem_of_getElem? (i := 34) rfl))) (by decide) (t := .boolean) (t' := (.array .double)) (by decide) (by decide)))) (((((P0.wr W19).wr W22).wr W25).wr W28).wr W31) (Or.inr ⟨(hw _ (List.mem_of_getElem? (i := 36) rfl)), rfl, hnm⟩) (hw _ (List.mem_of_getElem? (i := 8) rfl)) (ty := .boolean) (v' := (.int (0 : Int32))) (by decide) (by decide) (by decide) (g := (mkF m 128 #[rv ca, iv cl, .val (.double cs), .second, .val (.double ci), .second, iv cm] [(.int (0 : Int32)), (.ref ca)])) rfl rfl (hb hby d1_128)
  have N34 := Fr.snoc X34 N31 P8
  have Fw34 := Fld.same W34 (((((P6.other W19 (Or.inr (slot_ne (Or.inr (hw _ (List.mem_of_getElem? (i := 36) rfl))) (Or.inr (hw _ (List.mem_of_getElem? (i := 26) rfl))) (by decide) (t := .boolean) (t' := .int) (by decide) (by decide)))).other W22 (Or.inr (slot_ne (Or.inr (hw _ (List.mem_of_getElem? (i := 36) rfl))) (Or.inr (hw _ (List.mem_of_getElem? (i := 28) rfl))) (by decide) (t := .boolean) (t' := .double) (by decide) (by decide)))).other W25 (Or.inr (slot_ne (Or.inr (hw _ (List.mem_of_getElem? (i := 36) rfl))) (Or.inr (hw _ (List.mem_of_getElem? (i := 30) rfl))) (by decide) (t := .boolean) (t' := .double) (by decide) (by decide)))).other W28 (Or.inr (slot_ne (Or.inr (hw _ (List.mem_of_getElem? (i := 36) rfl))) (Or.inr (hw _ (List.mem_of_getElem? (i := 32) rfl))) (by decide) (t := .boolean) (t' := .int) (by decide) (by decide)))).other W31 (Or.inr (slot_ne (Or.inr (hw _ (List.mem_of_getElem? (i := 36) rfl))) (Or.inr (hw _ (List.mem_of_getElem? (i := 34) rfl))) (by decide) (t := .boolean) (t' := (.array .double)) (by decide) (by decide))))
  have g35 : Goes p e below S0 (T34.setTop (mkF m 131 #[rv ca, iv cl, .val (.double cs), .second, .val (.double ci), .second, iv cm] [])) := fun t k => g33 t (st34 t k)
  have g36 : Goes p e below S0 (T34.setTop (mkF m 133 #[rv ca, iv cl, .val (.double cs), .second, .val (.double ci), .second, iv cm] [(.int (0 : Int32)), (.ref ca)])) := fun t k => g35 t (by
    refine XS.aloadN X34.here hx rfl (hb hby d1_131) rfl rfl ?_
    show Go p e below t T34 m 132 #[rv ca, iv cl, .val (.double cs), .second, .val (.double ci), .second, iv cm] [(.ref ca)]
    refine XT.iconstV X34.here hx rfl (0 : Int32) (hb hby d1_132) (by decide) ?_
    show Go p e below t T34 m 133 #[rv ca, iv cl, .val (.double cs), .second, .val (.double ci), .second, iv cm] [(.int (0 : Int32)), (.ref ca)]
    exact k)
  obtain ⟨T37, h37, X37, e37, W37, st37⟩ := putFN X34 hx hZ hown (hw _ (List.mem_of_getElem? (i := 37) rfl)) Via.refl e34 ((((((P7.other W19 (Or.inr (slot_ne (Or.inr (hw _ (List.mem_of_getElem? (i := 38) rfl))) (Or.inr (hw _ (List.mem_of_getElem? (i := 26) rfl))) (by decide) (t := .boolean) (t' := .int) (by decide) (by decide)))).other W22 (Or.inr (slot_ne (Or.inr (hw _ (List.mem_of_getElem? (i := 38) rfl))) (Or.inr (hw _ (List.mem_of_getElem? (i := 28) rfl))) (by decide) (t := .boolean) (t' := .double) (by decide) (by decide)))).other W25 (Or.inr (slot_ne (Or.inr (hw _ (List.mem_of_getElem? (i := 38) rfl))) (Or.inr (hw _ (List.mem_of_getElem? (i := 30) rfl))) (by decide) (t := .boolean) (t' := .double) (by decide) (by decide)))).other W28 (Or.inr (slot_ne (Or.inr (hw _ (List.mem_of_getElem? (i := 38) rfl))) (Or.inr (hw _ (List.mem_of_getElem? (i := 32) rfl))) (by decide) (t := .boolean) (t' := .int) (by decide) (by decide)))).other W31 (Or.inr (slot_ne (Or.inr (hw _ (List.mem_of_getElem? (i := 38) rfl))) (Or.inr (hw _ (List.mem_of_getElem? (i := 34) rfl))) (by decide) (t := .boolean) (t' := (.array .double)) (by decide) (by decide)))).other W34 (Or.inr (slot_ne (Or.inr (hw _ (List.mem_of_getElem? (i := 38) rfl))) (Or.inr (hw _ (List.mem_of_getElem? (i := 36) rfl))) (by decide) (t := .boolean) (t' := .boolean) (by decide) (by decide)))) ((((((P0.wr W19).wr W22).wr W25).wr W28).wr W31).wr W34) (Or.inr ⟨(hw _ (List.mem_of_getElem? (i := 38) rfl)), rfl, hnm⟩) (hw _ (List.mem_of_getElem? (i := 8) rfl)) (ty := .boolean) (v' := (.int (0 : Int32))) (by decide) (by decide) (by decide) (g := (mkF m 133 #[rv ca, iv cl, .val (.double cs), .second, .val (.double ci), .second, iv cm] [(.int (0 : Int32)), (.ref ca)])) rfl rfl (hb hby d1_133)
  have N37 := Fr.snoc X37 N34 P8
  have Fw37 := Fld.same W37 ((((((P7.other W19 (Or.inr (slot_ne (Or.inr (hw _ (List.mem_of_getElem? (i := 38) rfl))) (Or.inr (hw _ (List.mem_of_getElem? (i := 26) rfl))) (by decide) (t := .boolean) (t' := .int) (by decide) (by decide)))).other W22 (Or.inr (slot_ne (Or.inr (hw _ (List.mem_of_getElem? (i := 38) rfl))) (Or.inr (hw _ (List.mem_of_getElem? (i := 28) rfl))) (by decide) (t := .boolean) (t' := .double) (by decide) (by decide)))).other W25 (Or.inr (slot_ne (Or.inr (hw _ (List.mem_of_getElem? (i := 38) rfl))) (Or.inr (hw _ (List.mem_of_getElem? (i := 30) rfl))) (by decide) (t := .boolean) (t' := .double) (by decide) (by decide)))).other W28 (Or.inr (slot_ne (Or.inr (hw _ (List.mem_of_getElem? (i := 38) rfl))) (Or.inr (hw _ (List.mem_of_getElem? (i := 32) rfl))) (by decide) (t := .boolean) (t' := .int) (by decide) (by decide)))).other W31 (Or.inr (slot_ne (Or.inr (hw _ (List.mem_of_getElem? (i := 38) rfl))) (Or.inr (hw _ (List.mem_of_getElem? (i := 34) rfl))) (by decide) (t := .boolean) (t' := (.array .double)) (by decide) (by decide)))).other W34 (Or.inr (slot_ne (Or.inr (hw _ (List.mem_of_getElem? (i := 38) rfl))) (Or.inr (hw _ (List.mem_of_getElem? (i := 36) rfl))) (by decide) (t := .boolean) (t' := .boolean) (by decide) (by decide))))
  have g38 : Goes p e below S0 (T37.setTop (mkF m 136 #[rv ca, iv cl, .val (.double cs), .second, .val (.double ci), .second, iv cm] [])) := fun t k => g36 t (st37 t k)
  obtain ⟨fs, hr, hrun, hended, hW, hsame⟩ := X37.leave (v := none) (fun _ => rfl)
  refine ⟨_, _, g38 _ (X37.returnOut hx Bd.returns (hb hby d1_136) hr), hrun, hended, _, _, rfl, ?_, ⟨_, rfl⟩, hW, hsame.mono (by decide) (by decide)⟩
  show Q_ini Z ca cl cs ci cm  h0 n0 _ T37.heap _
  rw [e37]
  exact ⟨rfl, N37, ((((((((Keep.refl h0 [ca]).wr W19 (Or.inl (List.mem_of_getElem? (i := 0) rfl))).wr W22 (Or.inl (List.mem_of_getElem? (i := 0) rfl))).wr W25 (Or.inl (List.mem_of_getElem? (i := 0) rfl))).wr W28 (Or.inl (List.mem_of_getElem? (i := 0) rfl))).wr W31 (Or.inl (List.mem_of_getElem? (i := 0) rfl))).wr W34 (Or.inl (List.mem_of_getElem? (i := 0) rfl))).wr W37 (Or.inl (List.mem_of_getElem? (i := 0) rfl))), (((((((P0.wr W19).wr W22).wr W25).wr W28).wr W31).wr W34).wr W37), ((((((Fw19.other W22 (Or.inr (slot_ne (Or.inr (hw _ (List.mem_of_getElem? (i := 26) rfl))) (Or.inr (hw _ (List.mem_of_getElem? (i := 28) rfl))) (by decide) (t := .int) (t' := .double) (by decide) (by decide)))).other W25 (Or.inr (slot_ne (Or.inr (hw _ (List.mem_of_getElem? (i := 26) rfl))) (Or.inr (hw _ (List.mem_of_getElem? (i := 30) rfl))) (by decide) (t := .int) (t' := .double) (by decide) (by decide)))).other W28 (Or.inr (slot_ne (Or.inr (hw _ (List.mem_of_getElem? (i := 26) rfl))) (Or.inr (hw _ (List.mem_of_getElem? (i := 32) rfl))) (by decide) (t := .int) (t' := .int) (by decide) (by decide)))).other W31 (Or.inr (slot_ne (Or.inr (hw _ (List.mem_of_getElem? (i := 26) rfl))) (Or.inr (hw _ (List.mem_of_getElem? (i := 34) rfl))) (by decide) (t := .int) (t' := (.array .double)) (by decide) (by decide)))).other W34 (Or.inr (slot_ne (Or.inr (hw _ (List.mem_of_getElem? (i := 26) rfl))) (Or.inr (hw _ (List.mem_of_getElem? (i := 36) rfl))) (by decide) (t := .int) (t' := .boolean) (by decide) (by decide)))).other W37 (Or.inr (slot_ne (Or.inr (hw _ (List.mem_of_getElem? (i := 26) rfl))) (Or.inr (hw _ (List.mem_of_getElem? (i := 38) rfl))) (by decide) (t := .int) (t' := .boolean) (by decide) (by decide)))), (((((Fw22.other W25 (Or.inr (slot_ne (Or.inr (hw _ (List.mem_of_getElem? (i := 28) rfl))) (Or.inr (hw _ (List.mem_of_getElem? (i := 30) rfl))) (by decide) (t := .double) (t' := .double) (by decide) (by decide)))).other W28 (Or.inr (slot_ne (Or.inr (hw _ (List.mem_of_getElem? (i := 28) rfl))) (Or.inr (hw _ (List.mem_of_getElem? (i := 32) rfl))) (by decide) (t := .double) (t' := .int) (by decide) (by decide)))).other W31 (Or.inr (slot_ne (Or.inr (hw _ (List.mem_of_getElem? (i := 28) rfl))) (Or.inr (hw _ (List.mem_of_getElem? (i := 34) rfl))) (by decide) (t := .double) (t' := (.array .double)) (by decide) (by decide)))).other W34 (Or.inr (slot_ne (Or.inr (hw _ (List.mem_of_getElem? (i := 28) rfl))) (Or.inr (hw _ (List.mem_of_getElem? (i := 36) rfl))) (by decide) (t := .double) (t' := .boolean) (by decide) (by decide)))).other W37 (Or.inr (slot_ne (Or.inr (hw _ (List.mem_of_getElem? (i := 28) rfl))) (Or.inr (hw _ (List.mem_of_getElem? (i := 38) rfl))) (by decide) (t := .double) (t' := .boolean) (by decide) (by decide)))), ((((Fw25.other W28 (Or.inr (slot_ne (Or.inr (hw _ (List.mem_of_getElem? (i := 30) rfl))) (Or.inr (hw _ (List.mem_of_getElem? (i := 32) rfl))) (by decide) (t := .double) (t' := .int) (by decide) (by decide)))).other W31 (Or.inr (slot_ne (Or.inr (hw _ (List.mem_of_getElem? (i := 30) rfl))) (Or.inr (hw _ (List.mem_of_getElem? (i := 34) rfl))) (by decide) (t := .double) (t' := (.array .double)) (by decide) (by decide)))).other W34 (Or.inr (slot_ne (Or.inr (hw _ (List.mem_of_getElem? (i := 30) rfl))) (Or.inr (hw _ (List.mem_of_getElem? (i := 36) rfl))) (by decide) (t := .double) (t' := .boolean) (by decide) (by decide)))).other W37 (Or.inr (slot_ne (Or.inr (hw _ (List.mem_of_getElem? (i := 30) rfl))) (Or.inr (hw _ (List.mem_of_getElem? (i := 38) rfl))) (by decide) (t := .double) (t' := .boolean) (by decide) (by decide)))), (((Fw28.other W31 (Or.inr (slot_ne (Or.inr (hw _ (List.mem_of_getElem? (i := 32) rfl))) (Or.inr (hw _ (List.mem_of_getElem? (i := 34) rfl))) (by decide) (t := .int) (t' := (.array .double)) (by decide) (by decide)))).other W34 (Or.inr (slot_ne (Or.inr (hw _ (List.mem_of_getElem? (i := 32) rfl))) (Or.inr (hw _ (List.mem_of_getElem? (i := 36) rfl))) (by decide) (t := .int) (t' := .boolean) (by decide) (by decide)))).other W37 (Or.inr (slot_ne (Or.inr (hw _ (List.mem_of_getElem? (i := 32) rfl))) (Or.inr (hw _ (List.mem_of_getElem? (i := 38) rfl))) (by decide) (t := .int) (t' := .boolean) (by decide) (by decide)))), ((Fw31.other W34 (Or.inr (slot_ne (Or.inr (hw _ (List.mem_of_getElem? (i := 34) rfl))) (Or.inr (hw _ (List.mem_of_getElem? (i := 36) rfl))) (by decide) (t := (.array .double)) (t' := .boolean) (by decide) (by decide)))).other W37 (Or.inr (slot_ne (Or.inr (hw _ (List.mem_of_getElem? (i := 34) rfl))) (Or.inr (hw _ (List.mem_of_getElem? (i := 38) rfl))) (by decide) (t := (.array .double)) (t' := .boolean) (by decide) (by decide)))), (Fw34.other W37 (Or.inr (slot_ne (Or.inr (hw _ (List.mem_of_getElem? (i := 36) rfl))) (Or.inr (hw _ (List.mem_of_getElem? (i := 38) rfl))) (by decide) (t := .boolean) (t' := .boolean) (by decide) (by decide)))), Fw37⟩
theorem d7_0 : decode prog_22_method_2_code 0 = .ok (.aload_n 0, 1) := by decide +kernel
theorem d7_1 : decode prog_22_method_2_code 1 = .ok (.invokespecial 1, 3) := by decide +kernel
theorem d7_4 : decode prog_22_method_2_code 4 = .ok (.aload_n 0, 1) := by decide +kernel
theorem d7_5 : decode prog_22_method_2_code 5 = .ok (.aload_n 1, 1) := by decide +kernel
theorem d7_6 : decode prog_22_method_2_code 6 = .ok (.getfield 27, 3) := by decide +kernel
theorem d7_9 : decode prog_22_method_2_code 9 = .ok (.putfield 27, 3) := by decide +kernel
theorem d7_12 : decode prog_22_method_2_code 12 = .ok (.aload_n 0, 1) := by decide +kernel
theorem d7_13 : decode prog_22_method_2_code 13 = .ok (.aload_n 1, 1) := by decide +kernel
theorem d7_14 : decode prog_22_method_2_code 14 = .ok (.getfield 33, 3) := by decide +kernel
theorem d7_17 : decode prog_22_method_2_code 17 = .ok (.putfield 33, 3) := by decide +kernel
theorem d7_20 : decode prog_22_method_2_code 20 = .ok (.aload_n 0, 1) := by decide +kernel
theorem d7_21 : decode prog_22_method_2_code 21 = .ok (.aload_n 1, 1) := by decide +kernel
theorem d7_22 : decode prog_22_method_2_code 22 = .ok (.getfield 37, 3) := by decide +kernel
theorem d7_25 : decode prog_22_method_2_code 25 = .ok (.putfield 37, 3) := by decide +kernel
theorem d7_28 : decode prog_22_method_2_code 28 = .ok (.aload_n 0, 1) := by decide +kernel
theorem d7_29 : decode prog_22_method_2_code 29 = .ok (.aload_n 1, 1) := by decide +kernel
theorem d7_30 : decode prog_22_method_2_code 30 = .ok (.getfield 40, 3) := by decide +kernel
theorem d7_33 : decode prog_22_method_2_code 33 = .ok (.putfield 40, 3) := by decide +kernel
theorem d7_36 : decode prog_22_method_2_code 36 = .ok (.aload_n 0, 1) := by decide +kernel
theorem d7_37 : decode prog_22_method_2_code 37 = .ok (.aload_n 2, 1) := by decide +kernel
theorem d7_38 : decode prog_22_method_2_code 38 = .ok (.putfield 43, 3) := by decide +kernel
theorem d7_41 : decode prog_22_method_2_code 41 = .ok (.aload_n 0, 1) := by decide +kernel
theorem d7_42 : decode prog_22_method_2_code 42 = .ok (.iload_n 3, 1) := by decide +kernel
theorem d7_43 : decode prog_22_method_2_code 43 = .ok (.putfield 47, 3) := by decide +kernel
theorem d7_46 : decode prog_22_method_2_code 46 = .ok (.aload_n 0, 1) := by decide +kernel
theorem d7_47 : decode prog_22_method_2_code 47 = .ok (.iload 4, 2) := by decide +kernel
theorem d7_49 : decode prog_22_method_2_code 49 = .ok (.putfield 51, 3) := by decide +kernel
theorem d7_52 : decode prog_22_method_2_code 52 = .ok (.return_, 1) := by decide +kernel
theorem pd4 : parseMethodDescriptor "(Lcom/example/hetmo/hetmo/tree/StoppingRules;[DZZ)V" = some ⟨[(.object "com/example/hetmo/hetmo/tree/StoppingRules"), (.array .double), .boolean, .boolean], none⟩ := by decide +kernel
theorem pf_in2 : plainFor (⟨"com/example/hetmo/hetmo/tree/StoppingRules", "<init>", "(Lcom/example/hetmo/hetmo/tree/StoppingRules;[DZZ)V"⟩ : MethodName) = true := by first | exact plainFor_of_name (by first | (simp [plainName, overriddenIn, x]; done) | decide +kernel) | exact Jvm.Free.JP.mathPlain rfl (by decide +kernel) | decide +kernel
theorem ef_in2 (m : MethodId) (ca : Addr) (cr : Addr) (cs : Int32) (ce : Int32) : entryFrame m #[(.ref ca), (.ref cr), .null, (.int cs), (.int ce)] 5 = mkF m 0 #[rv ca, rv cr, .val .null, iv cs, iv ce] [] := by first | (simp [entryFrame, mkF, argsToLocals, Value.category, maxLocals]; done) | rfl
def Q_in2 (Z : State) (ca : Addr) (cr : Addr) (cs : Int32) (ce : Int32) (ml : Int32) (sh : UInt64) (im : UInt64) (md : Int32) (h0 : Heap) (n0 : Nat) (v : Option Value) (h : Heap) (L : List Loc) : Prop := v = none ∧ Fr n0 L ∧ (Keep h0 h [ca]) ∧ (Exa Z h ca "com/example/hetmo/hetmo/tree/StoppingRules") ∧ (Fld Z h ca "com/example/hetmo/hetmo/tree/StoppingRules" "_minLeaf" "I" (.int ml)) ∧ (Fld Z h ca "com/example/hetmo/hetmo/tree/StoppingRules" "_minShare" "D" (.double sh)) ∧ (Fld Z h ca "com/example/hetmo/hetmo/tree/StoppingRules" "_minImprovement" "D" (.double im)) ∧ (Fld Z h ca "com/example/hetmo/hetmo/tree/StoppingRules" "_maxDepth" "I" (.int md)) ∧ (Fld Z h ca "com/example/hetmo/hetmo/tree/StoppingRules" "_countedApartBy" "[D" .null) ∧ (Fld Z h ca "com/example/hetmo/hetmo/tree/StoppingRules" "_shareOfNode" "Z" (.int (nar .boolean cs))) ∧ (Fld Z h ca "com/example/hetmo/hetmo/tree/StoppingRules" "_countingEstimatingRows" "Z" (.int (nar .boolean ce)))
set_option maxRecDepth 65536 in
set_option maxHeartbeats 40000000 in
theorem rm_in2 (l : Launch) (Z : State) (a0 : Array Value) (hw : ∀ d ∈ tables_1, d.before a0 Z = true) (ws : List Jvm.Cond) (ca : Addr) (cr : Addr) (cs : Int32) (ce : Int32) (ml : Int32) (sh : UInt64) (im : UInt64) (md : Int32) (h0 : Heap) (n0 : Nat) (Z0 : n0 ≤ h0.size) (P0 : Exa Z h0 ca "com/example/hetmo/hetmo/tree/StoppingRules") (P1 : n0 ≤ ca) (P2 : cr ≠ ca) (P3 : Fld Z h0 ca "com/example/hetmo/hetmo/tree/StoppingRules" "_minLeaf" "I" (.int (0 : Int32))) (P4 : Fld Z h0 ca "com/example/hetmo/hetmo/tree/StoppingRules" "_minShare" "D" (.double (0 : UInt64))) (P5 : Fld Z h0 ca "com/example/hetmo/hetmo/tree/StoppingRules" "_minImprovement" "D" (.double (0 : UInt64))) (P6 : Fld Z h0 ca "com/example/hetmo/hetmo/tree/StoppingRules" "_maxDepth" "I" (.int (0 : Int32))) (P7 : Fld Z h0 ca "com/example/hetmo/hetmo/tree/StoppingRules" "_countedApartBy" "[D" .null) (P8 : Fld Z h0 ca "com/example/hetmo/hetmo/tree/StoppingRules" "_shareOfNode" "Z" (.int (0 : Int32))) (P9 : Fld Z h0 ca "com/example/hetmo/hetmo/tree/StoppingRules" "_countingEstimatingRows" "Z" (.int (0 : Int32))) (P10 : Fld Z h0 cr "com/example/hetmo/hetmo/tree/StoppingRules" "_minLeaf" "I" (.int ml)) (P11 : Fld Z h0 cr "com/example/hetmo/hetmo/tree/StoppingRules" "_minShare" "D" (.double sh)) (P12 : Fld Z h0 cr "com/example/hetmo/hetmo/tree/StoppingRules" "_minImprovement" "D" (.double im)) (P13 : Fld Z h0 cr "com/example/hetmo/hetmo/tree/StoppingRules" "_maxDepth" "I" (.int md))  :
    MetFree l (⟨"com/example/hetmo/hetmo/tree/StoppingRules", "<init>", "(Lcom/example/hetmo/hetmo/tree/StoppingRules;[DZZ)V"⟩ : MethodName) (head1 (Jvm.Cond.code (⟨"com/example/hetmo/hetmo/tree/StoppingRules", "<init>", "(Lcom/example/hetmo/hetmo/tree/StoppingRules;[DZZ)V"⟩ : MethodName) prog_22_method_2_code 5 none :: ws) ({ frames := 1, cells := 0, slots := 0, locals := 12 } : Room)) (fun a U => a = #[(.ref ca), (.ref cr), .null, (.int cs), (.int ce)] ∧ Z.Warmed39 U.vm ∧ U.heap = h0) (fun _ _ _ _ _ => True) (fun _ U o U' => ∃ v L, o = .returned v ∧ Q_in2 Z ca cr cs ce ml sh im md h0 n0 v U'.heap L ∧ FrameEnd U o U' L ({ frames := 1, cells := 0, slots := 0, locals := 12 } : Room).cells ({ frames := 1, cells := 0, slots := 0, locals := 12 } : Room).slots) := by
  refine MetFree.of_bodySF pf_in2 hisR ?_
  intro p e s m args below meth c s₁ Bd hml0 hP hK
  obtain ⟨rfl, hZ, hh⟩ := hP
  have hx := Bd.exec
  have hby := Bd.bytes
  have hml : c.maxLocals = 5 := hml0
  have hown : s.vm.findClass "com/example/hetmo/hetmo/tree/StoppingRules" = some m.cls := findClass_of_methodNamed Bd.named
  have hnm := (name_of_methodNamed Bd.named Bd.method).1
  have X0 : Stand p l e ({ frames := 1, cells := 0, slots := 0, locals := 12 } : Room) s m #[(.ref ca), (.ref cr), .null, (.int cs), (.int ce)] below meth c s₁ [] 0 0 := Stand.of_body Bd
  have e0 : s₁.heap = h0 := by rw [← hh, Bd.state]; rfl
  have N0 := Fr.nil n0
  obtain ⟨S0, hS0⟩ : ∃ z, z = s₁.setTop (entryFrame m #[(.ref ca), (.ref cr), .null, (.int cs), (.int ce)] 5) := ⟨_, rfl⟩
  rw [← hS0]
  have g0 : Goes p e below S0 (s₁.setTop (mkF m 0 #[rv ca, rv cr, .val .null, iv cs, iv ce] [])) := fun t k => by rw [hS0]; exact castTop (ef_in2 m ca cr cs ce) k
  have g39 : Goes p e below S0 (s₁.setTop (mkF m 1 #[rv ca, rv cr, .val .null, iv cs, iv ce] [(.ref ca)])) := fun t k => g0 t (by
    refine XS.aloadN X0.here hx rfl (hb hby d7_0) rfl rfl ?_
    show Go p e below t s₁ m 1 #[rv ca, rv cr, .val .null, iv cs, iv ce] [(.ref ca)]
    exact k)
  obtain ⟨T40, X40, e40, st40⟩ := initO X0 hx hZ hown (hw _ (List.mem_of_getElem? (i := 14) rfl)) (hw _ (List.mem_of_getElem? (i := 15) rfl)) (hw _ (List.mem_of_getElem? (i := 16) rfl)) e0 (g := (mkF m 1 #[rv ca, rv cr, .val .null, iv cs, iv ce] [(.ref ca)])) rfl (by rw [hml]; rfl) rfl (hb hby d7_1) (by decide) (W := 0) (by show 2 * 0 + _ ≤ _; exact Nat.le_of_eq rfl) (by decide)
  have g41 : Goes p e below S0 (T40.setTop (mkF m 4 #[rv ca, rv cr, .val .null, iv cs, iv ce] [])) := fun t k => g39 t (st40 t k)
  have g42 : Goes p e below S0 (T40.setTop (mkF m 6 #[rv ca, rv cr, .val .null, iv cs, iv ce] [(.ref cr), (.ref ca)])) := fun t k => g41 t (by
    refine XS.aloadN X40.here hx rfl (hb hby d7_4) rfl rfl ?_
    show Go p e below t T40 m 5 #[rv ca, rv cr, .val .null, iv cs, iv ce] [(.ref ca)]
    refine XS.aloadN X40.here hx rfl (hb hby d7_5) rfl rfl ?_
    show Go p e below t T40 m 6 #[rv ca, rv cr, .val .null, iv cs, iv ce] [(.ref cr), (.ref ca)]
    exact k)
  obtain ⟨T43, X43, e43, st43⟩ := getF X40 hx hZ hown (host := "") (Or.inl (hw _ (List.mem_of_getElem? (i := 25) rfl))) Via.refl e40 P10 (g := (mkF m 6 #[rv ca, rv cr, .val .null, iv cs, iv ce] [(.ref cr), (.ref ca)])) rfl rfl (hb hby d7_6)
  have g44 : Goes p e below S0 (T43.setTop (mkF m 9 #[rv ca, rv cr, .val .null, iv cs, iv ce] [(.int ml), (.ref ca)])) := fun t k => g42 t (st43 t k)
  obtain ⟨T45, h45, X45, e45, W45, st45⟩ := putF X43 hx hZ hown (host := "") (Or.inl (hw _ (List.mem_of_getElem? (i := 25) rfl))) Via.refl e43 P3 P0 (Or.inr ⟨(hw _ (List.mem_of_getElem? (i := 26) rfl)), rfl, hnm⟩) (hw _ (List.mem_of_getElem? (i := 8) rfl)) (ty := .int) (by decide) rfl rfl (g := (mkF m 9 #[rv ca, rv cr, .val .null, iv cs, iv ce] [(.int ml), (.ref ca)])) rfl rfl (hb hby d7_9)
  have N45 := Fr.snoc X45 N0 P1
  have Fw45 := Fld.same W45 P3
  have g46 : Goes p e below S0 (T45.setTop (mkF m 12 #[rv ca, rv cr, .val .null, iv cs, iv ce] [])) := fun t k => g44 t (st45 t k)
  have g47 : Goes p e below S0 (T45.setTop (mkF m 14 #[rv ca, rv cr, .val .null, iv cs, iv ce] [(.ref cr), (.ref ca)])) := fun t k => g46 t (by
    refine XS.aloadN X45.here hx rfl (hb hby d7_12) rfl rfl ?_
    show Go p e below t T45 m 13 #[rv ca, rv cr, .val .null, iv cs, iv ce] [(.ref ca)]
    refine XS.aloadN X45.here hx rfl (hb hby d7_13) rfl rfl ?_
    show Go p e below t T45 m 14 #[rv ca, rv cr, .val .null, iv cs, iv ce] [(.ref cr), (.ref ca)]
    exact k)
  obtain ⟨T48, X48, e48, st48⟩ := getF X45 hx hZ hown (host := "") (Or.inl (hw _ (List.mem_of_getElem? (i := 27) rfl))) Via.refl e45 (P11.other W45 (Or.inl P2)) (g := (mkF m 14 #[rv ca, rv cr, .val .null, iv cs, iv ce] [(.ref cr), (.ref ca)])) rfl rfl (hb hby d7_14)
  have g49 : Goes p e below S0 (T48.setTop (mkF m 17 #[rv ca, rv cr, .val .null, iv cs, iv ce] [(.double sh), (.ref ca)])) := fun t k => g47 t (st48 t k)
  obtain ⟨T50, h50, X50, e50, W50, st50⟩ := putF X48 hx hZ hown (host := "") (Or.inl (hw _ (List.mem_of_getElem? (i := 27) rfl))) Via.refl e48 (P4.other W45 (Or.inr (slot_ne (Or.inr (hw _ (List.mem_of_getElem? (i := 28) rfl))) (Or.inr (hw _ (List.mem_of_getElem? (i := 26) rfl))) (by decide) (t := .double) (t' := .int) (by decide) (by decide)))) (P0.wr W45) (Or.inr ⟨(hw _ (List.mem_of_getElem? (i := 28) rfl)), rfl, hnm⟩) (hw _ (List.mem_of_getElem? (i := 8) rfl)) (ty := .double) (by decide) rfl rfl (g := (mkF m 17 #[rv ca, rv cr, .val .null, iv cs, iv ce] [(.double sh), (.ref ca)])) rfl rfl (hb hby d7_17)
  have N50 := Fr.snoc X50 N45 P1
  have Fw50 := Fld.same W50 (P4.other W45 (Or.inr (slot_ne (Or.inr (hw _ (List.mem_of_getElem? (i := 28) rfl))) (Or.inr (hw _ (List.mem_of_getElem? (i := 26) rfl))) (by decide) (t := .double) (t' := .int) (by decide) (by decide))))
  have g51 : Goes p e below S0 (T50.setTop (mkF m 20 #[rv ca, rv cr, .val .null, iv cs, iv ce] [])) := fun t k => g49 t (st50 t k)
  have g52 : Goes p e below S0 (T50.setTop (mkF m 22 #[rv ca, rv cr, .val .null, iv cs, iv ce] [(.ref cr), (.ref ca)])) := fun t k => g51 t (by
    refine XS.aloadN X50.here hx rfl (hb hby d7_20) rfl rfl ?_
    show Go p e below t T50 m 21 #[rv ca, rv cr, .val .null, iv cs, iv ce] [(.ref ca)]
    refine XS.aloadN X50.here hx rfl (hb hby d7_21) rfl rfl ?_
    show Go p e below t T50 m 22 #[rv ca, rv cr, .val .null, iv cs, iv ce] [(.ref cr), (.ref ca)]
    exact k)
  obtain ⟨T53, X53, e53, st53⟩ := getF X50 hx hZ hown (host := "") (Or.inl (hw _ (List.mem_of_getElem? (i := 29) rfl))) Via.refl e50 ((P12.other W45 (Or.inl P2)).other W50 (Or.inl P2)) (g := (mkF m 22 #[rv ca, rv cr, .val .null, iv cs, iv ce] [(.ref cr), (.ref ca)])) rfl rfl (hb hby d7_22)
  have g54 : Goes p e below S0 (T53.setTop (mkF m 25 #[rv ca, rv cr, .val .null, iv cs, iv ce] [(.double im), (.ref ca)])) := fun t k => g52 t (st53 t k)
  obtain ⟨T55, h55, X55, e55, W55, st55⟩ := putF X53 hx hZ hown (host := "") (Or.inl (hw _ (List.mem_of_getElem? (i := 29) rfl))) Via.refl e53 ((P5.other W45 (Or.inr (slot_ne (Or.inr (hw _ (List.mem_of_getElem? (i := 30) rfl))) (Or.inr (hw _ (List.mem_of_getElem? (i := 26) rfl))) (by decide) (t := .double) (t' := .int) (by decide) (by decide)))).other W50 (Or.inr (slot_ne (Or.inr (hw _ (List.mem_of_getElem? (i := 30) rfl))) (Or.inr (hw _ (List.mem_of_getElem? (i := 28) rfl))) (by decide) (t := .double) (t' := .double) (by decide) (by decide)))) ((P0.wr W45).wr W50) (Or.inr ⟨(hw _ (List.mem_of_getElem? (i := 30) rfl)), rfl, hnm⟩) (hw _ (List.mem_of_getElem? (i := 8) rfl)) (ty := .double) (by decide) rfl rfl (g := (mkF m 25 #[rv ca, rv cr, .val .null, iv cs, iv ce] [(.double im), (.ref ca)])) rfl rfl (hb hby d7_25)
  have N55 := Fr.snoc X55 N50 P1
  have Fw55 := Fld.same W55 ((P5.other W45 (Or.inr (slot_ne (Or.inr (hw _ (List.mem_of_getElem? (i := 30) rfl))) (Or.inr (hw _ (List.mem_of_getElem? (i := 26) rfl))) (by decide) (t := .double) (t' := .int) (by decide) (by decide)))).other W50 (Or.inr (slot_ne (Or.inr (hw _ (List.mem_of_getElem? (i := 30) rfl))) (Or.inr (hw _ (List.mem_of_getElem? (i := 28) rfl))) (by decide) (t := .double) (t' := .double) (by decide) (by decide))))
  have g56 : Goes p e below S0 (T55.setTop (mkF m 28 #[rv ca, rv cr, .val .null, iv cs, iv ce] [])) := fun t k => g54 t (st55 t k)
  have g57 : Goes p e below S0 (T55.setTop (mkF m 30 #[rv ca, rv cr, .val .null, iv cs, iv ce] [(.ref cr), (.ref ca)])) := fun t k => g56 t (by
    refine XS.aloadN X55.here hx rfl (hb hby d7_28) rfl rfl ?_
    show Go p e below t T55 m 29 #[rv ca, rv cr, .val .null, iv cs, iv ce] [(.ref ca)]
    refine XS.aloadN X55.here hx rfl (hb hby d7_29) rfl rfl ?_
    show Go p e below t T55 m 30 #[rv ca, rv cr, .val .null, iv cs, iv ce] [(.ref cr), (.ref ca)]
    exact k)
  obtain ⟨T58, X58, e58, st58⟩ := getF X55 hx hZ hown (host := "") (Or.inl (hw _ (List.mem_of_getElem? (i := 31) rfl))) Via.refl e55 (((P13.other W45 (Or.inl P2)).other W50 (Or.inl P2)).other W55 (Or.inl P2)) (g := (mkF m 30 #[rv ca, rv cr, .val .null, iv cs, iv ce] [(.ref cr), (.ref ca)])) rfl rfl (hb hby d7_30)
  have g59 : Goes p e below S0 (T58.setTop (mkF m 33 #[rv ca, rv cr, .val .null, iv cs, iv ce] [(.int md), (.ref ca)])) := fun t k => g57 t (st58 t k)
  obtain ⟨T60, h60, X60, e60, W60, st60⟩ := putF X58 hx hZ hown (host := "") (Or.inl (hw _ (List.mem_of_getElem? (i := 31) rfl))) Via.refl e58 (((P6.other W45 (Or.inr (slot_ne (Or.inr (hw _ (List.mem_of_getElem? (i := 32) rfl))) (Or.inr (hw _ (List.mem_of_getElem? (i := 26) rfl))) (by decide) (t := .int) (t' := .int) (by decide) (by decide)))).other W50 (Or.inr (slot_ne (Or.inr (hw _ (List.mem_of_getElem? (i := 32) rfl))) (Or.inr (hw _ (List.mem_of_getElem? (i := 28) rfl))) (by decide) (t := .int) (t' := .double) (by decide) (by decide)))).other W55 (Or.inr (slot_ne (Or.inr (hw _ (List.mem_of_getElem? (i := 32) rfl))) (Or.inr (hw _ (List.mem_of_getElem? (i := 30) rfl))) (by decide) (t := .int) (t' := .double) (by decide) (by decide)))) (((P0.wr W45).wr W50).wr W55) (Or.inr ⟨(hw _ (List.mem_of_getElem? (i := 32) rfl)), rfl, hnm⟩) (hw _ (List.mem_of_getElem? (i := 8) rfl)) (ty := .int) (by decide) rfl rfl (g := (mkF m 33 #[rv ca, rv cr, .val .null, iv cs, iv ce] [(.int md), (.ref ca)])) rfl rfl (hb hby d7_33)
  have N60 := Fr.snoc X60 N55 P1
  have Fw60 := Fld.same W60 (((P6.other W45 (Or.inr (slot_ne (Or.inr (hw _ (List.mem_of_getElem? (i := 32) rfl))) (Or.inr (hw _ (List.mem_of_getElem? (i := 26) rfl))) (by decide) (t := .int) (t' := .int) (by decide) (by decide)))).other W50 (Or.inr (slot_ne (Or.inr (hw _ (List.mem_of_getElem? (i := 32) rfl))) (Or.inr (hw _ (List.mem_of_getElem? (i := 28) rfl))) (by decide) (t := .int) (t' := .double) (by decide) (by decide)))).other W55 (Or.inr (slot_ne (Or.inr (hw _ (List.mem_of_getElem? (i := 32) rfl))) (Or.inr (hw _ (List.mem_of_getElem? (i := 30) rfl))) (by decide) (t := .int) (t' := .double) (by decide) (by decide))))
  have g61 : Goes p e below S0 (T60.setTop (mkF m 36 #[rv ca, rv cr, .val .null, iv cs, iv ce] [])) := fun t k => g59 t (st60 t k)
  have g62 : Goes p e below S0 (T60.setTop (mkF m 38 #[rv ca, rv cr, .val .null, iv cs, iv ce] [.null, (.ref ca)])) := fun t k => g61 t (by
    refine XS.aloadN X60.here hx rfl (hb hby d7_36) rfl rfl ?_
    show Go p e below t T60 m 37 #[rv ca, rv cr, .val .null, iv cs, iv ce] [(.ref ca)]
    refine XS.aloadN X60.here hx rfl (hb hby d7_37) rfl rfl ?_
    show Go p e below t T60 m 38 #[rv ca, rv cr, .val .null, iv cs, iv ce] [.null, (.ref ca)]
    exact k)
  obtain ⟨T63, h63, X63, e63, W63, st63⟩ := putF X60 hx hZ hown (host := "") (Or.inl (hw _ (List.mem_of_getElem? (i := 33) rfl))) Via.refl e60 ((((P7.other W45 (Or.inr (slot_ne (Or.inr (hw _ (List.mem_of_getElem? (i := 34) rfl))) (Or.inr (hw _ (List.mem_of_getElem? (i := 26) rfl))) (by decide) (t := (.array .double)) (t' := .int) (by decide) (by decide)))).other W50 (Or.inr (slot_ne (Or.inr (hw _ (List.mem_of_getElem? (i := 34) rfl))) (Or.inr (hw _ (List.mem_of_getElem? (i := 28) rfl))) (by decide) (t := (.array .double)) (t' := .double) (by decide) (by decide)))).other W55 (Or.inr (slot_ne (Or.inr (hw _ (List.mem_of_getElem? (i := 34) rfl))) (Or.inr (hw _ (List.mem_of_getElem? (i := 30) rfl))) (by decide) (t := (.array .double)) (t' := .double) (by decide) (by decide)))).other W60 (Or.inr (slot_ne (Or.inr (hw _ (List.mem_of_getElem? (i := 34) rfl))) (Or.inr (hw _ (List.mem_of_getElem? (i := 32) rfl))) (by decide) (t := (.array .double)) (t' := .int) (by decide) (by decide)))) ((((P0.wr W45).wr W50).wr W55).wr W60) (Or.inr ⟨(hw _ (List.mem_of_getElem? (i := 34) rfl)), rfl, hnm⟩) (hw _ (List.mem_of_getElem? (i := 8) rfl)) (ty := (.array .double)) (by decide) rfl rfl (g := (mkF m 38 #[rv ca, rv cr, .val .null, iv cs, iv ce] [.null, (.ref ca)])) rfl rfl (hb hby d7_38)
  have N63 := Fr.snoc X63 N60 P1
  have Fw63 := Fld.same W63 ((((P7.other W45 (Or.inr (slot_ne (Or.inr (hw _ (List.mem_of_getElem? (i := 34) rfl))) (Or.inr (hw _ (List.mem_of_getElem? (i := 26) rfl))) (by decide) (t := (.array .double)) (t' := .int) (by decide) (by decide)))).other W50 (Or.inr (slot_ne (Or.inr (hw _ (List.mem_of_getElem? (i := 34) rfl))) (Or.inr (hw _ (List.mem_of_getElem? (i := 28) rfl))) (by decide) (t := (.array .double)) (t' := .double) (by decide) (by decide)))).other W55 (Or.inr (slot_ne (Or.inr (hw _ (List.mem_of_getElem? (i := 34) rfl))) (Or.inr (hw _ (List.mem_of_getElem? (i := 30) rfl))) (by decide) (t := (.array .double)) (t' := .double) (by decide) (by decide)))).other W60 (Or.inr (slot_ne (Or.inr (hw _ (List.mem_of_getElem? (i := 34) rfl))) (Or.inr (hw _ (List.mem_of_getElem? (i := 32) rfl))) (by decide) (t := (.array .double)) (t' := .int) (by decide) (by decide))))
  have g64 : Goes p e below S0 (T63.setTop (mkF m 41 #[rv ca, rv cr, .val .null, iv cs, iv ce] [])) := fun t k => g62 t (st63 t k)
  have g65 : Goes p e below S0 (T63.setTop (mkF m 43 #[rv ca, rv cr, .val .null, iv cs, iv ce] [(.int cs), (.ref ca)])) := fun t k => g64 t (by
    refine XS.aloadN X63.here hx rfl (hb hby d7_41) rfl rfl ?_
    show Go p e below t T63 m 42 #[rv ca, rv cr, .val .null, iv cs, iv ce] [(.ref ca)]
    refine XS.iloadN X63.here hx rfl (hb hby d7_42) rfl ?_
    show Go p e below t T63 m 43 #[rv ca, rv cr, .val .null, iv cs, iv ce] [(.int cs), (.ref ca)]
    exact k)
  obtain ⟨T66, h66, X66, e66, W66, st66⟩ := putFN X63 hx hZ hown (hw _ (List.mem_of_getElem? (i := 35) rfl)) Via.refl e63 (((((P8.other W45 (Or.inr (slot_ne (Or.inr (hw _ (List.mem_of_getElem? (i := 36) rfl))) (Or.inr (hw _ (List.mem_of_getElem? (i := 26) rfl))) (by decide) (t := .boolean) (t' := .int) (by decide) (by decide)))).other W50 (Or.inr (slot_ne (Or.inr (hw _ (List.mem_of_getElem? (i := 36) rfl))) (Or.inr (hw _ (List.mem_of_getElem? (i := 28) rfl))) (by decide) (t := .boolean) (t' := .double) (by decide) (by decide)))).other W55 (Or.inr (slot_ne (Or.inr (hw _ (List.mem_of_getElem? (i := 36) rfl))) (Or.inr (hw _ (List.mem_of_getElem? (i := 30) rfl))) (by decide) (t := .boolean) (t' := .double) (by decide) (by decide)))).other W60 (Or.inr (slot_ne (Or.inr (hw _ (List.mem_of_getElem? (i := 36) rfl))) (Or.inr (hw _ (List.mem_of_getElem? (i := 32) rfl))) (by decide) (t := .boolean) (t' := .int) (by decide) (by decide)))).other W63 (Or.inr (slot_ne (Or.inr (hw _ (List.mem_of_getElem? (i := 36) rfl))) (Or.inr (hw _ (List.mem_of_getElem? (i := 34) rfl))) (by decide) (t := .boolean) (t' := (.array .double)) (by decide) (by decide)))) (((((P0.wr W45).wr W50).wr W55).wr W60).wr W63) (Or.inr ⟨(hw _ (List.mem_of_getElem? (i := 36) rfl)), rfl, hnm⟩) (hw _ (List.mem_of_getElem? (i := 8) rfl)) (ty := .boolean) (v' := (.int (nar .boolean cs))) (by decide) rfl (fits_nar_bool _) (g := (mkF m 43 #[rv ca, rv cr, .val .null, iv cs, iv ce] [(.int cs), (.ref ca)])) rfl rfl (hb hby d7_43)
  have N66 := Fr.snoc X66 N63 P1
  have Fw66 := Fld.same W66 (((((P8.other W45 (Or.inr (slot_ne (Or.inr (hw _ (List.mem_of_getElem? (i := 36) rfl))) (Or.inr (hw _ (List.mem_of_getElem? (i := 26) rfl))) (by decide) (t := .boolean) (t' := .int) (by decide) (by decide)))).other W50 (Or.inr (slot_ne (Or.inr (hw _ (List.mem_of_getElem? (i := 36) rfl))) (Or.inr (hw _ (List.mem_of_getElem? (i := 28) rfl))) (by decide) (t := .boolean) (t' := .double) (by decide) (by decide)))).other W55 (Or.inr (slot_ne (Or.inr (hw _ (List.mem_of_getElem? (i := 36) rfl))) (Or.inr (hw _ (List.mem_of_getElem? (i := 30) rfl))) (by decide) (t := .boolean) (t' := .double) (by decide) (by decide)))).other W60 (Or.inr (slot_ne (Or.inr (hw _ (List.mem_of_getElem? (i := 36) rfl))) (Or.inr (hw _ (List.mem_of_getElem? (i := 32) rfl))) (by decide) (t := .boolean) (t' := .int) (by decide) (by decide)))).other W63 (Or.inr (slot_ne (Or.inr (hw _ (List.mem_of_getElem? (i := 36) rfl))) (Or.inr (hw _ (List.mem_of_getElem? (i := 34) rfl))) (by decide) (t := .boolean) (t' := (.array .double)) (by decide) (by decide))))
  have g67 : Goes p e below S0 (T66.setTop (mkF m 46 #[rv ca, rv cr, .val .null, iv cs, iv ce] [])) := fun t k => g65 t (st66 t k)
  have g68 : Goes p e below S0 (T66.setTop (mkF m 49 #[rv ca, rv cr, .val .null, iv cs, iv ce] [(.int ce), (.ref ca)])) := fun t k => g67 t (by
    refine XS.aloadN X66.here hx rfl (hb hby d7_46) rfl rfl ?_
    show Go p e below t T66 m 47 #[rv ca, rv cr, .val .null, iv cs, iv ce] [(.ref ca)]
    refine XS.iload X66.here hx rfl (hb hby d7_47) rfl ?_
    show Go p e below t T66 m 49 #[rv ca, rv cr, .val .null, iv cs, iv ce] [(.int ce), (.ref ca)]
    exact k)
  obtain ⟨T69, h69, X69, e69, W69, st69⟩ := putFN X66 hx hZ hown (hw _ (List.mem_of_getElem? (i := 37) rfl)) Via.refl e66 ((((((P9.other W45 (Or.inr (slot_ne (Or.inr (hw _ (List.mem_of_getElem? (i := 38) rfl))) (Or.inr (hw _ (List.mem_of_getElem? (i := 26) rfl))) (by decide) (t := .boolean) (t' := .int) (by decide) (by decide)))).other W50 (Or.inr (slot_ne (Or.inr (hw _ (List.mem_of_getElem? (i := 38) rfl))) (Or.inr (hw _ (List.mem_of_getElem? (i := 28) rfl))) (by decide) (t := .boolean) (t' := .double) (by decide) (by decide)))).other W55 (Or.inr (slot_ne (Or.inr (hw _ (List.mem_of_getElem? (i := 38) rfl))) (Or.inr (hw _ (List.mem_of_getElem? (i := 30) rfl))) (by decide) (t := .boolean) (t' := .double) (by decide) (by decide)))).other W60 (Or.inr (slot_ne (Or.inr (hw _ (List.mem_of_getElem? (i := 38) rfl))) (Or.inr (hw _ (List.mem_of_getElem? (i := 32) rfl))) (by decide) (t := .boolean) (t' := .int) (by decide) (by decide)))).other W63 (Or.inr (slot_ne (Or.inr (hw _ (List.mem_of_getElem? (i := 38) rfl))) (Or.inr (hw _ (List.mem_of_getElem? (i := 34) rfl))) (by decide) (t := .boolean) (t' := (.array .double)) (by decide) (by decide)))).other W66 (Or.inr (slot_ne (Or.inr (hw _ (List.mem_of_getElem? (i := 38) rfl))) (Or.inr (hw _ (List.mem_of_getElem? (i := 36) rfl))) (by decide) (t := .boolean) (t' := .boolean) (by decide) (by decide)))) ((((((P0.wr W45).wr W50).wr W55).wr W60).wr W63).wr W66) (Or.inr ⟨(hw _ (List.mem_of_getElem? (i := 38) rfl)), rfl, hnm⟩) (hw _ (List.mem_of_getElem? (i := 8) rfl)) (ty := .boolean) (v' := (.int (nar .boolean ce))) (by decide) rfl (fits_nar_bool _) (g := (mkF m 49 #[rv ca, rv cr, .val .null, iv cs, iv ce] [(.int ce), (.ref ca)])) rfl rfl (hb hby d7_49)
  have N69 := Fr.snoc X69 N66 P1
  have Fw69 := Fld.same W69 ((((((P9.other W45 (Or.inr (slot_ne (Or.inr (hw _ (List.mem_of_getElem? (i := 38) rfl))) (Or.inr (hw _ (List.mem_of_getElem? (i := 26) rfl))) (by decide) (t := .boolean) (t' := .int) (by decide) (by decide)))).other W50 (Or.inr (slot_ne (Or.inr (hw _ (List.mem_of_getElem? (i := 38) rfl))) (Or.inr (hw _ (List.mem_of_getElem? (i := 28) rfl))) (by decide) (t := .boolean) (t' := .double) (by decide) (by decide)))).other W55 (Or.inr (slot_ne (Or.inr (hw _ (List.mem_of_getElem? (i := 38) rfl))) (Or.inr (hw _ (List.mem_of_getElem? (i := 30) rfl))) (by decide) (t := .boolean) (t' := .double) (by decide) (by decide)))).other W60 (Or.inr (slot_ne (Or.inr (hw _ (List.mem_of_getElem? (i := 38) rfl))) (Or.inr (hw _ (List.mem_of_getElem? (i := 32) rfl))) (by decide) (t := .boolean) (t' := .int) (by decide) (by decide)))).other W63 (Or.inr (slot_ne (Or.inr (hw _ (List.mem_of_getElem? (i := 38) rfl))) (Or.inr (hw _ (List.mem_of_getElem? (i := 34) rfl))) (by decide) (t := .boolean) (t' := (.array .double)) (by decide) (by decide)))).other W66 (Or.inr (slot_ne (Or.inr (hw _ (List.mem_of_getElem? (i := 38) rfl))) (Or.inr (hw _ (List.mem_of_getElem? (i := 36) rfl))) (by decide) (t := .boolean) (t' := .boolean) (by decide) (by decide))))
  have g70 : Goes p e below S0 (T69.setTop (mkF m 52 #[rv ca, rv cr, .val .null, iv cs, iv ce] [])) := fun t k => g68 t (st69 t k)
  obtain ⟨fs, hr, hrun, hended, hW, hsame⟩ := X69.leave (v := none) (fun _ => rfl)
  refine ⟨_, _, g70 _ (X69.returnOut hx Bd.returns (hb hby d7_52) hr), hrun, hended, _, _, rfl, ?_, ⟨_, rfl⟩, hW, hsame.mono (by decide) (by decide)⟩
  show Q_in2 Z ca cr cs ce ml sh im md h0 n0 _ T69.heap _
  rw [e69]
  exact ⟨rfl, N69, ((((((((Keep.refl h0 [ca]).wr W45 (Or.inl (List.mem_of_getElem? (i := 0) rfl))).wr W50 (Or.inl (List.mem_of_getElem? (i := 0) rfl))).wr W55 (Or.inl (List.mem_of_getElem? (i := 0) rfl))).wr W60 (Or.inl (List.mem_of_getElem? (i := 0) rfl))).wr W63 (Or.inl (List.mem_of_getElem? (i := 0) rfl))).wr W66 (Or.inl (List.mem_of_getElem? (i := 0) rfl))).wr W69 (Or.inl (List.mem_of_getElem? (i := 0) rfl))), (((((((P0.wr W45).wr W50).wr W55).wr W60).wr W63).wr W66).wr W69), ((((((Fw45.other W50 (Or.inr (slot_ne (Or.inr (hw _ (List.mem_of_getElem? (i := 26) rfl))) (Or.inr (hw _ (List.mem_of_getElem? (i := 28) rfl))) (by decide) (t := .int) (t' := .double) (by decide) (by decide)))).other W55 (Or.inr (slot_ne (Or.inr (hw _ (List.mem_of_getElem? (i := 26) rfl))) (Or.inr (hw _ (List.mem_of_getElem? (i := 30) rfl))) (by decide) (t := .int) (t' := .double) (by decide) (by decide)))).other W60 (Or.inr (slot_ne (Or.inr (hw _ (List.mem_of_getElem? (i := 26) rfl))) (Or.inr (hw _ (List.mem_of_getElem? (i := 32) rfl))) (by decide) (t := .int) (t' := .int) (by decide) (by decide)))).other W63 (Or.inr (slot_ne (Or.inr (hw _ (List.mem_of_getElem? (i := 26) rfl))) (Or.inr (hw _ (List.mem_of_getElem? (i := 34) rfl))) (by decide) (t := .int) (t' := (.array .double)) (by decide) (by decide)))).other W66 (Or.inr (slot_ne (Or.inr (hw _ (List.mem_of_getElem? (i := 26) rfl))) (Or.inr (hw _ (List.mem_of_getElem? (i := 36) rfl))) (by decide) (t := .int) (t' := .boolean) (by decide) (by decide)))).other W69 (Or.inr (slot_ne (Or.inr (hw _ (List.mem_of_getElem? (i := 26) rfl))) (Or.inr (hw _ (List.mem_of_getElem? (i := 38) rfl))) (by decide) (t := .int) (t' := .boolean) (by decide) (by decide)))), (((((Fw50.other W55 (Or.inr (slot_ne (Or.inr (hw _ (List.mem_of_getElem? (i := 28) rfl))) (Or.inr (hw _ (List.mem_of_getElem? (i := 30) rfl))) (by decide) (t := .double) (t' := .double) (by decide) (by decide)))).other W60 (Or.inr (slot_ne (Or.inr (hw _ (List.mem_of_getElem? (i := 28) rfl))) (Or.inr (hw _ (List.mem_of_getElem? (i := 32) rfl))) (by decide) (t := .double) (t' := .int) (by decide) (by decide)))).other W63 (Or.inr (slot_ne (Or.inr (hw _ (List.mem_of_getElem? (i := 28) rfl))) (Or.inr (hw _ (List.mem_of_getElem? (i := 34) rfl))) (by decide) (t := .double) (t' := (.array .double)) (by decide) (by decide)))).other W66 (Or.inr (slot_ne (Or.inr (hw _ (List.mem_of_getElem? (i := 28) rfl))) (Or.inr (hw _ (List.mem_of_getElem? (i := 36) rfl))) (by decide) (t := .double) (t' := .boolean) (by decide) (by decide)))).other W69 (Or.inr (slot_ne (Or.inr (hw _ (List.mem_of_getElem? (i := 28) rfl))) (Or.inr (hw _ (List.mem_of_getElem? (i := 38) rfl))) (by decide) (t := .double) (t' := .boolean) (by decide) (by decide)))), ((((Fw55.other W60 (Or.inr (slot_ne (Or.inr (hw _ (List.mem_of_getElem? (i := 30) rfl))) (Or.inr (hw _ (List.mem_of_getElem? (i := 32) rfl))) (by decide) (t := .double) (t' := .int) (by decide) (by decide)))).other W63 (Or.inr (slot_ne (Or.inr (hw _ (List.mem_of_getElem? (i := 30) rfl))) (Or.inr (hw _ (List.mem_of_getElem? (i := 34) rfl))) (by decide) (t := .double) (t' := (.array .double)) (by decide) (by decide)))).other W66 (Or.inr (slot_ne (Or.inr (hw _ (List.mem_of_getElem? (i := 30) rfl))) (Or.inr (hw _ (List.mem_of_getElem? (i := 36) rfl))) (by decide) (t := .double) (t' := .boolean) (by decide) (by decide)))).other W69 (Or.inr (slot_ne (Or.inr (hw _ (List.mem_of_getElem? (i := 30) rfl))) (Or.inr (hw _ (List.mem_of_getElem? (i := 38) rfl))) (by decide) (t := .double) (t' := .boolean) (by decide) (by decide)))), (((Fw60.other W63 (Or.inr (slot_ne (Or.inr (hw _ (List.mem_of_getElem? (i := 32) rfl))) (Or.inr (hw _ (List.mem_of_getElem? (i := 34) rfl))) (by decide) (t := .int) (t' := (.array .double)) (by decide) (by decide)))).other W66 (Or.inr (slot_ne (Or.inr (hw _ (List.mem_of_getElem? (i := 32) rfl))) (Or.inr (hw _ (List.mem_of_getElem? (i := 36) rfl))) (by decide) (t := .int) (t' := .boolean) (by decide) (by decide)))).other W69 (Or.inr (slot_ne (Or.inr (hw _ (List.mem_of_getElem? (i := 32) rfl))) (Or.inr (hw _ (List.mem_of_getElem? (i := 38) rfl))) (by decide) (t := .int) (t' := .boolean) (by decide) (by decide)))), ((Fw63.other W66 (Or.inr (slot_ne (Or.inr (hw _ (List.mem_of_getElem? (i := 34) rfl))) (Or.inr (hw _ (List.mem_of_getElem? (i := 36) rfl))) (by decide) (t := (.array .double)) (t' := .boolean) (by decide) (by decide)))).other W69 (Or.inr (slot_ne (Or.inr (hw _ (List.mem_of_getElem? (i := 34) rfl))) (Or.inr (hw _ (List.mem_of_getElem? (i := 38) rfl))) (by decide) (t := (.array .double)) (t' := .boolean) (by decide) (by decide)))), (Fw66.other W69 (Or.inr (slot_ne (Or.inr (hw _ (List.mem_of_getElem? (i := 36) rfl))) (Or.inr (hw _ (List.mem_of_getElem? (i := 38) rfl))) (by decide) (t := .boolean) (t' := .boolean) (by decide) (by decide)))), Fw69⟩
theorem d6_0 : decode prog_22_method_4_code 0 = .ok (.new 28, 3) := by decide +kernel
theorem d6_3 : decode prog_22_method_4_code 3 = .ok (.dup, 1) := by decide +kernel
theorem d6_4 : decode prog_22_method_4_code 4 = .ok (.aload_n 0, 1) := by decide +kernel
theorem d6_5 : decode prog_22_method_4_code 5 = .ok (.aload_n 0, 1) := by decide +kernel
theorem d6_6 : decode prog_22_method_4_code 6 = .ok (.getfield 43, 3) := by decide +kernel
theorem d6_9 : decode prog_22_method_4_code 9 = .ok (.iconst 1, 1) := by decide +kernel
theorem d6_10 : decode prog_22_method_4_code 10 = .ok (.aload_n 0, 1) := by decide +kernel
theorem d6_11 : decode prog_22_method_4_code 11 = .ok (.getfield 51, 3) := by decide +kernel
theorem d6_14 : decode prog_22_method_4_code 14 = .ok (.invokespecial 58, 3) := by decide +kernel
theorem d6_17 : decode prog_22_method_4_code 17 = .ok (.areturn, 1) := by decide +kernel
theorem pd5 : parseMethodDescriptor "()Lcom/example/hetmo/hetmo/tree/StoppingRules;" = some ⟨[], some (.object "com/example/hetmo/hetmo/tree/StoppingRules")⟩ := by decide +kernel
theorem pf_tsn : plainFor (⟨"com/example/hetmo/hetmo/tree/StoppingRules", "takingShareOfNode", "()Lcom/example/hetmo/hetmo/tree/StoppingRules;"⟩ : MethodName) = true := by first | exact plainFor_of_name (by first | (simp [plainName, overriddenIn, x]; done) | decide +kernel) | exact Jvm.Free.JP.mathPlain rfl (by decide +kernel) | decide +kernel
theorem ef_tsn (m : MethodId) (za : Addr) : entryFrame m #[(.ref za)] 1 = mkF m 0 #[rv za] [] := by first | (simp [entryFrame, mkF, argsToLocals, Value.category, maxLocals]; done) | rfl
def Q_tsn (Z : State) (za : Addr) (ml : Int32) (sh : UInt64) (im : UInt64) (md : Int32) (h0 : Heap) (n0 : Nat) (v : Option Value) (h : Heap) (L : List Loc) : Prop := ∃ (na : Addr), v = some (.ref na) ∧ Fr n0 L ∧ (Keep h0 h []) ∧ (Exa Z h na "com/example/hetmo/hetmo/tree/StoppingRules") ∧ (Fld Z h na "com/example/hetmo/hetmo/tree/StoppingRules" "_minLeaf" "I" (.int ml)) ∧ (Fld Z h na "com/example/hetmo/hetmo/tree/StoppingRules" "_minShare" "D" (.double sh)) ∧ (Fld Z h na "com/example/hetmo/hetmo/tree/StoppingRules" "_minImprovement" "D" (.double im)) ∧ (Fld Z h na "com/example/hetmo/hetmo/tree/StoppingRules" "_maxDepth" "I" (.int md)) ∧ (Fld Z h na "com/example/hetmo/hetmo/tree/StoppingRules" "_countedApartBy" "[D" .null) ∧ (Fld Z h na "com/example/hetmo/hetmo/tree/StoppingRules" "_shareOfNode" "Z" (.int (nar .boolean (1 : Int32)))) ∧ (Fld Z h na "com/example/hetmo/hetmo/tree/StoppingRules" "_countingEstimatingRows" "Z" (.int (nar .boolean (0 : Int32))))
set_option maxRecDepth 65536 in
set_option maxHeartbeats 40000000 in
theorem rm_tsn (l : Launch) (Z : State) (a0 : Array Value) (hw : ∀ d ∈ tables_1, d.before a0 Z = true) (ws : List Jvm.Cond) (za : Addr) (ml : Int32) (sh : UInt64) (im : UInt64) (md : Int32) (h0 : Heap) (n0 : Nat) (Z0 : n0 ≤ h0.size) (P0 : Fld Z h0 za "com/example/hetmo/hetmo/tree/StoppingRules" "_minLeaf" "I" (.int ml)) (P1 : Fld Z h0 za "com/example/hetmo/hetmo/tree/StoppingRules" "_minShare" "D" (.double sh)) (P2 : Fld Z h0 za "com/example/hetmo/hetmo/tree/StoppingRules" "_minImprovement" "D" (.double im)) (P3 : Fld Z h0 za "com/example/hetmo/hetmo/tree/StoppingRules" "_maxDepth" "I" (.int md)) (P4 : Fld Z h0 za "com/example/hetmo/hetmo/tree/StoppingRules" "_countedApartBy" "[D" .null) (P5 : Fld Z h0 za "com/example/hetmo/hetmo/tree/StoppingRules" "_shareOfNode" "Z" (.int (0 : Int32))) (P6 : Fld Z h0 za "com/example/hetmo/hetmo/tree/StoppingRules" "_countingEstimatingRows" "Z" (.int (0 : Int32)))  :
    MetFree l (⟨"com/example/hetmo/hetmo/tree/StoppingRules", "takingShareOfNode", "()Lcom/example/hetmo/hetmo/tree/StoppingRules;"⟩ : MethodName) (head1 (Jvm.Cond.code (⟨"com/example/hetmo/hetmo/tree/StoppingRules", "takingShareOfNode", "()Lcom/example/hetmo/hetmo/tree/StoppingRules;"⟩ : MethodName) prog_22_method_4_code 1 (some (.object "com/example/hetmo/hetmo/tree/StoppingRules")) :: ws) ({ frames := 2, cells := 1, slots := 7, locals := 40 } : Room)) (fun a U => a = #[(.ref za)] ∧ Z.Warmed39 U.vm ∧ U.heap = h0) (fun _ _ _ _ _ => True) (fun _ U o U' => ∃ v L, o = .returned v ∧ Q_tsn Z za ml sh im md h0 n0 v U'.heap L ∧ FrameEnd U o U' L ({ frames := 2, cells := 1, slots := 7, locals := 40 } : Room).cells ({ frames := 2, cells := 1, slots := 7, locals := 40 } : Room).slots) := by
  refine MetFree.of_bodySF pf_tsn hisR ?_
  intro p e s m args below meth c s₁ Bd hml0 hP hK
  obtain ⟨rfl, hZ, hh⟩ := hP
  have hx := Bd.exec
  have hby := Bd.bytes
  have hml : c.maxLocals = 1 := hml0
  have hown : s.vm.findClass "com/example/hetmo/hetmo/tree/StoppingRules" = some m.cls := findClass_of_methodNamed Bd.named
  have hnm := (name_of_methodNamed Bd.named Bd.method).1
  have X0 : Stand p l e ({ frames := 2, cells := 1, slots := 7, locals := 40 } : Room) s m #[(.ref za)] below meth c s₁ [] 0 0 := Stand.of_body Bd
  have e0 : s₁.heap = h0 := by rw [← hh, Bd.state]; rfl
  have N0 := Fr.nil n0
  obtain ⟨S0, hS0⟩ : ∃ z, z = s₁.setTop (entryFrame m #[(.ref za)] 1) := ⟨_, rfl⟩
  rw [← hS0]
  have g0 : Goes p e below S0 (s₁.setTop (mkF m 0 #[rv za] [])) := fun t k => by rw [hS0]; exact castTop (ef_tsn m za) k
  obtain ⟨T71, h71, X71, e71, E71, A71, D71, -, st71⟩ := newO X0 hx hZ hown (hw _ (List.mem_of_getElem? (i := 50) rfl)) (hw _ (List.mem_of_getElem? (i := 8) rfl)) (hw _ (List.mem_of_getElem? (i := 9) rfl)) e0 (g := (mkF m 0 #[rv za] [])) rfl (hb hby d6_0) (by decide) (by decide)
  obtain ⟨b71, gb71⟩ : ∃ z, z = h0.size := ⟨_, rfl⟩
  have sz71 : h0.size ≤ b71 := Nat.le_trans (Nat.le_refl _) (Nat.le_of_eq gb71.symm)
  have ng71 : n0 ≤ b71 := Nat.le_trans Z0 sz71
  rw [← gb71] at A71 D71 st71
  have F71_72 : Fld Z h71 b71 "com/example/hetmo/hetmo/tree/StoppingRules" "_minLeaf" "I" (.int (0 : Int32)) := D71 (Or.inr (hw _ (List.mem_of_getElem? (i := 26) rfl))) (ty := .int) (by decide)
  have F71_73 : Fld Z h71 b71 "com/example/hetmo/hetmo/tree/StoppingRules" "_minShare" "D" (.double (0 : UInt64)) := D71 (Or.inr (hw _ (List.mem_of_getElem? (i := 28) rfl))) (ty := .double) (by decide)
  have F71_74 : Fld Z h71 b71 "com/example/hetmo/hetmo/tree/StoppingRules" "_minImprovement" "D" (.double (0 : UInt64)) := D71 (Or.inr (hw _ (List.mem_of_getElem? (i := 30) rfl))) (ty := .double) (by decide)
  have F71_75 : Fld Z h71 b71 "com/example/hetmo/hetmo/tree/StoppingRules" "_maxDepth" "I" (.int (0 : Int32)) := D71 (Or.inr (hw _ (List.mem_of_getElem? (i := 32) rfl))) (ty := .int) (by decide)
  have F71_76 : Fld Z h71 b71 "com/example/hetmo/hetmo/tree/StoppingRules" "_countedApartBy" "[D" .null := D71 (Or.inr (hw _ (List.mem_of_getElem? (i := 34) rfl))) (ty := (.array .double)) (by decide)
  have F71_77 : Fld Z h71 b71 "com/example/hetmo/hetmo/tree/StoppingRules" "_shareOfNode" "Z" (.int (0 : Int32)) := D71 (Or.inr (hw _ (List.mem_of_getElem? (i := 36) rfl))) (ty := .boolean) (by decide)
  have F71_78 : Fld Z h71 b71 "com/example/hetmo/hetmo/tree/StoppingRules" "_countingEstimatingRows" "Z" (.int (0 : Int32)) := D71 (Or.inr (hw _ (List.mem_of_getElem? (i := 38) rfl))) (ty := .boolean) (by decide)
  have g79 : Goes p e below S0 (T71.setTop (mkF m 3 #[rv za] [(.ref b71)])) := fun t k => g0 t (st71 t k)
  have g80 : Goes p e below S0 (T71.setTop (mkF m 6 #[rv za] [(.ref za), (.ref za), (.ref b71), (.ref b71)])) := fun t k => g79 t (by
    refine XS.dup X71.here hx rfl (hb hby d6_3) rfl rfl ?_
    show Go p e below t T71 m 4 #[rv za] [(.ref b71), (.ref b71)]
    refine XS.aloadN X71.here hx rfl (hb hby d6_4) rfl rfl ?_
    show Go p e below t T71 m 5 #[rv za] [(.ref za), (.ref b71), (.ref b71)]
    refine XS.aloadN X71.here hx rfl (hb hby d6_5) rfl rfl ?_
    show Go p e below t T71 m 6 #[rv za] [(.ref za), (.ref za), (.ref b71), (.ref b71)]
    exact k)
  obtain ⟨T81, X81, e81, st81⟩ := getF X71 hx hZ hown (host := "") (Or.inl (hw _ (List.mem_of_getElem? (i := 33) rfl))) Via.refl e71 (P4.ext E71) (g := (mkF m 6 #[rv za] [(.ref za), (.ref za), (.ref b71), (.ref b71)])) rfl rfl (hb hby d6_6)
  have g82 : Goes p e below S0 (T81.setTop (mkF m 9 #[rv za] [.null, (.ref za), (.ref b71), (.ref b71)])) := fun t k => g80 t (st81 t k)
  have g83 : Goes p e below S0 (T81.setTop (mkF m 11 #[rv za] [(.ref za), (.int (1 : Int32)), .null, (.ref za), (.ref b71), (.ref b71)])) := fun t k => g82 t (by
    refine XT.iconstV X81.here hx rfl (1 : Int32) (hb hby d6_9) (by decide) ?_
    show Go p e below t T81 m 10 #[rv za] [(.int (1 : Int32)), .null, (.ref za), (.ref b71), (.ref b71)]
    refine XS.aloadN X81.here hx rfl (hb hby d6_10) rfl rfl ?_
    show Go p e below t T81 m 11 #[rv za] [(.ref za), (.int (1 : Int32)), .null, (.ref za), (.ref b71), (.ref b71)]
    exact k)
  obtain ⟨T84, X84, e84, st84⟩ := getF X81 hx hZ hown (host := "") (Or.inl (hw _ (List.mem_of_getElem? (i := 37) rfl))) Via.refl e81 (P6.ext E71) (g := (mkF m 11 #[rv za] [(.ref za), (.int (1 : Int32)), .null, (.ref za), (.ref b71), (.ref b71)])) rfl rfl (hb hby d6_11)
  have g85 : Goes p e below S0 (T84.setTop (mkF m 14 #[rv za] [(.int (0 : Int32)), (.int (1 : Int32)), .null, (.ref za), (.ref b71), (.ref b71)])) := fun t k => g83 t (st84 t k)
  obtain ⟨_, _, ⟨T86, L86, k86, n86⟩, -, X86, ⟨Lc86, hQ86, l86, y86, z86⟩, st86⟩ := X84.specialBack hx (y := (⟨"com/example/hetmo/hetmo/tree/StoppingRules", "<init>", "(Lcom/example/hetmo/hetmo/tree/StoppingRules;[DZZ)V"⟩ : MethodName)) rfl hown (mvT hZ (hw _ (List.mem_of_getElem? (i := 51) rfl))) (mvT hZ (hw _ (List.mem_of_getElem? (i := 52) rfl))) (mvT hZ (hw _ (List.mem_of_getElem? (i := 53) rfl))) (by decide) (backOf (W := 1) (rm_in2 l Z a0 hw [] b71 za (1 : Int32) (0 : Int32) ml sh im md h71 n0 (Nat.le_trans Z0 (Nat.le_trans (Nat.le_refl _) E71.1)) A71 ng71 (Nat.ne_of_lt (Nat.lt_of_lt_of_le P0.lt (Nat.le_of_eq gb71.symm))) F71_72 F71_73 F71_74 F71_75 F71_76 F71_77 F71_78 (P0.ext E71) (P1.ext E71) (P2.ext E71) (P3.ext E71)) hZ (hw _ (List.mem_of_getElem? (i := 53) rfl)) (hw _ (List.mem_of_getElem? (i := 9) rfl)) (by decide) (by decide)) (g := (mkF m 14 #[rv za] [(.int (0 : Int32)), (.int (1 : Int32)), .null, (.ref za), (.ref b71), (.ref b71)])) rfl (by rw [hml]; rfl) (Steps.refl _) (a := b71) (argsL := [(.ref za), .null, (.int (1 : Int32)), (.int (0 : Int32))]) (rest := [(.ref b71)]) (lenOf pd4 rfl) rfl (by show 2 * 0 + _ ≤ _; exact Nat.le_of_eq rfl) (hb hby d6_14) (fun _ _ => ⟨rfl, e84, (by decide : 1 + 0 ≤ _), (by decide : 7 + 0 ≤ _)⟩)
  dsimp only [Pt.U, Pt.locs, Pt.cells, Pt.slots] at X86 l86 y86 z86 st86 hQ86
  subst l86 y86 z86
  obtain ⟨rfl, N86, R86_0, R86_1, R86_2, R86_3, R86_4, R86_5, R86_6, R86_7, R86_8⟩ := hQ86
  have M86 := Fr.app N0 N86
  have g87 : Goes p e below S0 (T86.setTop (mkF m 17 #[rv za] [(.ref b71)])) := fun t k => g85 t (st86.trans k)
  obtain ⟨fs, hr, hrun, hended, hW, hsame⟩ := X86.leave (v := some (.ref b71)) (fun h => by rw [Bd.returns] at h; cases h)
  refine ⟨_, _, g87 _ (retOut X86 hx Bd.returns rfl (Or.inr (Or.inr (Or.inr (Or.inr ⟨rfl, rfl, rfl⟩)))) (hb hby d6_17) hr), hrun, hended, _, _, rfl, ?_, ⟨_, rfl⟩, hW, hsame.mono (by decide) (by decide)⟩
  show Q_tsn Z za ml sh im md h0 n0 _ T86.heap _
  exact ⟨b71, rfl, M86, (((Keep.refl h0 []).ext E71).trans R86_0 (allS (Or.inr sz71) all0)), R86_1, R86_2, R86_3, R86_4, R86_5, R86_6, R86_7, R86_8⟩
theorem d5_0 : decode prog_22_method_9_code 0 = .ok (.iconst 0, 1) := by decide +kernel
theorem d5_1 : decode prog_22_method_9_code 1 = .ok (.istore 4, 2) := by decide +kernel
theorem d5_3 : decode prog_22_method_9_code 3 = .ok (.aload_n 1, 1) := by decide +kernel
theorem d5_4 : decode prog_22_method_9_code 4 = .ok (.astore 5, 2) := by decide +kernel
theorem d5_6 : decode prog_22_method_9_code 6 = .ok (.aload 5, 2) := by decide +kernel
theorem d5_8 : decode prog_22_method_9_code 8 = .ok (.arraylength, 1) := by decide +kernel
theorem d5_9 : decode prog_22_method_9_code 9 = .ok (.istore 6, 2) := by decide +kernel
theorem d5_11 : decode prog_22_method_9_code 11 = .ok (.iconst 0, 1) := by decide +kernel
theorem d5_12 : decode prog_22_method_9_code 12 = .ok (.istore 7, 2) := by decide +kernel
theorem d5_14 : decode prog_22_method_9_code 14 = .ok (.iload 7, 2) := by decide +kernel
theorem d5_16 : decode prog_22_method_9_code 16 = .ok (.iload 6, 2) := by decide +kernel
theorem d5_18 : decode prog_22_method_9_code 18 = .ok (.if_icmp .ge 34, 3) := by decide +kernel
theorem d5_21 : decode prog_22_method_9_code 21 = .ok (.aload 5, 2) := by decide +kernel
theorem d5_23 : decode prog_22_method_9_code 23 = .ok (.iload 7, 2) := by decide +kernel
theorem d5_25 : decode prog_22_method_9_code 25 = .ok (.iaload, 1) := by decide +kernel
theorem d5_26 : decode prog_22_method_9_code 26 = .ok (.istore 8, 2) := by decide +kernel
theorem d5_28 : decode prog_22_method_9_code 28 = .ok (.iload 8, 2) := by decide +kernel
theorem d5_30 : decode prog_22_method_9_code 30 = .ok (.aload_n 0, 1) := by decide +kernel
theorem d5_31 : decode prog_22_method_9_code 31 = .ok (.getfield 27, 3) := by decide +kernel
theorem d5_34 : decode prog_22_method_9_code 34 = .ok (.if_icmp .ge 5, 3) := by decide +kernel
theorem d5_37 : decode prog_22_method_9_code 37 = .ok (.iconst 0, 1) := by decide +kernel
theorem d5_38 : decode prog_22_method_9_code 38 = .ok (.ireturn, 1) := by decide +kernel
theorem d5_39 : decode prog_22_method_9_code 39 = .ok (.iload 4, 2) := by decide +kernel
theorem d5_41 : decode prog_22_method_9_code 41 = .ok (.iload 8, 2) := by decide +kernel
theorem d5_43 : decode prog_22_method_9_code 43 = .ok (.iadd, 1) := by decide +kernel
theorem d5_44 : decode prog_22_method_9_code 44 = .ok (.istore 4, 2) := by decide +kernel
theorem d5_46 : decode prog_22_method_9_code 46 = .ok (.iinc 7 1, 3) := by decide +kernel
theorem d5_49 : decode prog_22_method_9_code 49 = .ok (.goto (-35), 3) := by decide +kernel
theorem d5_52 : decode prog_22_method_9_code 52 = .ok (.iload 4, 2) := by decide +kernel
theorem d5_54 : decode prog_22_method_9_code 54 = .ok (.i2d, 1) := by decide +kernel
theorem d5_55 : decode prog_22_method_9_code 55 = .ok (.aload_n 0, 1) := by decide +kernel
theorem d5_56 : decode prog_22_method_9_code 56 = .ok (.getfield 33, 3) := by decide +kernel
theorem d5_59 : decode prog_22_method_9_code 59 = .ok (.aload_n 0, 1) := by decide +kernel
theorem d5_60 : decode prog_22_method_9_code 60 = .ok (.getfield 47, 3) := by decide +kernel
theorem d5_63 : decode prog_22_method_9_code 63 = .ok (.ifCond .eq 7, 3) := by decide +kernel
theorem d5_66 : decode prog_22_method_9_code 66 = .ok (.iload_n 2, 1) := by decide +kernel
theorem d5_67 : decode prog_22_method_9_code 67 = .ok (.goto 4, 3) := by decide +kernel
theorem d5_70 : decode prog_22_method_9_code 70 = .ok (.iload_n 3, 1) := by decide +kernel
theorem d5_71 : decode prog_22_method_9_code 71 = .ok (.i2d, 1) := by decide +kernel
theorem d5_72 : decode prog_22_method_9_code 72 = .ok (.dmul, 1) := by decide +kernel
theorem d5_73 : decode prog_22_method_9_code 73 = .ok (.dcmp .l, 1) := by decide +kernel
theorem d5_74 : decode prog_22_method_9_code 74 = .ok (.ifCond .lt 7, 3) := by decide +kernel
theorem d5_77 : decode prog_22_method_9_code 77 = .ok (.iconst 1, 1) := by decide +kernel
theorem d5_78 : decode prog_22_method_9_code 78 = .ok (.goto 4, 3) := by decide +kernel
theorem d5_81 : decode prog_22_method_9_code 81 = .ok (.iconst 0, 1) := by decide +kernel
theorem d5_82 : decode prog_22_method_9_code 82 = .ok (.ireturn, 1) := by decide +kernel
theorem pd6 : parseMethodDescriptor "([III)Z" = some ⟨[(.array .int), .int, .int], some .boolean⟩ := by decide +kernel
theorem pf_ad0 : plainFor (⟨"com/example/hetmo/hetmo/tree/StoppingRules", "admits", "([III)Z"⟩ : MethodName) = true := by first | exact plainFor_of_name (by first | (simp [plainName, overriddenIn, x]; done) | decide +kernel) | exact Jvm.Free.JP.mathPlain rfl (by decide +kernel) | decide +kernel
theorem ef_ad0 (m : MethodId) (za : Addr) (qa : Addr) (xn : Int32) (xt : Int32) : entryFrame m #[(.ref za), (.ref qa), (.int xn), (.int xt)] 9 = mkF m 0 #[rv za, rv qa, iv xn, iv xt, .unset, .unset, .unset, .unset, .unset] [] := by first | (simp [entryFrame, mkF, argsToLocals, Value.category, maxLocals]; done) | rfl
def f_ad0 (xn : Int32) (xt : Int32) (ml : Int32) (sh : UInt64) (sn : Int32) : Int32 := (if sn = 0 then (if dLe (FP.dmul sh (FP.i2d xt)) (FP.i2d (0 : Int32)) then (1 : Int32) else (0 : Int32)) else (if dLe (FP.dmul sh (FP.i2d xn)) (FP.i2d (0 : Int32)) then (1 : Int32) else (0 : Int32)))
def Q_ad0 (Z : State) (za : Addr) (qa : Addr) (xn : Int32) (xt : Int32) (ml : Int32) (sh : UInt64) (sn : Int32) (qk : ClassId) (h0 : Heap) (n0 : Nat) (v : Option Value) (h : Heap) (L : List Loc) : Prop := v = some (.int (f_ad0 xn xt ml sh sn)) ∧ Fr n0 L ∧ h = h0
set_option maxRecDepth 65536 in
set_option maxHeartbeats 40000000 in
theorem rm_ad0 (l : Launch) (Z : State) (a0 : Array Value) (hw : ∀ d ∈ tables_1, d.before a0 Z = true) (ws : List Jvm.Cond) (za : Addr) (qa : Addr) (xn : Int32) (xt : Int32) (ml : Int32) (sh : UInt64) (sn : Int32) (qk : ClassId) (h0 : Heap) (n0 : Nat) (Z0 : n0 ≤ h0.size) (P0 : Fld Z h0 za "com/example/hetmo/hetmo/tree/StoppingRules" "_minLeaf" "I" (.int ml)) (P1 : Fld Z h0 za "com/example/hetmo/hetmo/tree/StoppingRules" "_minShare" "D" (.double sh)) (P2 : Fld Z h0 za "com/example/hetmo/hetmo/tree/StoppingRules" "_shareOfNode" "Z" (.int sn)) (P3 : Arv Z h0 qa qk .int (0 : Int32) [] (.int (0 : Int32))) (hsh : Jvm.Free.Fl.Fin64 sh)  :
    MetFree l (⟨"com/example/hetmo/hetmo/tree/StoppingRules", "admits", "([III)Z"⟩ : MethodName) (head1 (Jvm.Cond.code (⟨"com/example/hetmo/hetmo/tree/StoppingRules", "admits", "([III)Z"⟩ : MethodName) prog_22_method_9_code 9 (some .boolean) :: ws) ({ frames := 0, cells := 0, slots := 0, locals := 0 } : Room)) (fun a U => a = #[(.ref za), (.ref qa), (.int xn), (.int xt)] ∧ Z.Warmed39 U.vm ∧ U.heap = h0) (fun _ _ _ _ _ => True) (fun _ U o U' => ∃ v L, o = .returned v ∧ Q_ad0 Z za qa xn xt ml sh sn qk h0 n0 v U'.heap L ∧ FrameEnd U o U' L ({ frames := 0, cells := 0, slots := 0, locals := 0 } : Room).cells ({ frames := 0, cells := 0, slots := 0, locals := 0 } : Room).slots) := by
  refine MetFree.of_bodySF pf_ad0 hisR ?_
  intro p e s m args below meth c s₁ Bd hml0 hP hK
  obtain ⟨rfl, hZ, hh⟩ := hP
  have hx := Bd.exec
  have hby := Bd.bytes
  have hml : c.maxLocals = 9 := hml0
  have hown : s.vm.findClass "com/example/hetmo/hetmo/tree/StoppingRules" = some m.cls := findClass_of_methodNamed Bd.named
  have hnm := (name_of_methodNamed Bd.named Bd.method).1
  have X0 : Stand p l e ({ frames := 0, cells := 0, slots := 0, locals := 0 } : Room) s m #[(.ref za), (.ref qa), (.int xn), (.int xt)] below meth c s₁ [] 0 0 := Stand.of_body Bd
  have e0 : s₁.heap = h0 := by rw [← hh, Bd.state]; rfl
  have N0 := Fr.nil n0
  obtain ⟨S0, hS0⟩ : ∃ z, z = s₁.setTop (entryFrame m #[(.ref za), (.ref qa), (.int xn), (.int xt)] 9) := ⟨_, rfl⟩
  rw [← hS0]
  have g0 : Goes p e below S0 (s₁.setTop (mkF m 0 #[rv za, rv qa, iv xn, iv xt, .unset, .unset, .unset, .unset, .unset] [])) := fun t k => by rw [hS0]; exact castTop (ef_ad0 m za qa xn xt) k
  have g88 : Goes p e below S0 (s₁.setTop (mkF m 8 #[rv za, rv qa, iv xn, iv xt, iv (0 : Int32), rv qa, .unset, .unset, .unset] [(.ref qa)])) := fun t k => g0 t (by
    refine XT.iconstV X0.here hx rfl (0 : Int32) (hb hby d5_0) (by decide) ?_
    show Go p e below t s₁ m 1 #[rv za, rv qa, iv xn, iv xt, .unset, .unset, .unset, .unset, .unset] [(.int (0 : Int32))]
    refine XS.istore X0.here hx rfl (hb hby d5_1) rfl (l' := #[rv za, rv qa, iv xn, iv xt, iv (0 : Int32), .unset, .unset, .unset, .unset]) rfl ?_
    show Go p e below t s₁ m 3 #[rv za, rv qa, iv xn, iv xt, iv (0 : Int32), .unset, .unset, .unset, .unset] []
    refine XS.aloadN X0.here hx rfl (hb hby d5_3) rfl rfl ?_
    show Go p e below t s₁ m 4 #[rv za, rv qa, iv xn, iv xt, iv (0 : Int32), .unset, .unset, .unset, .unset] [(.ref qa)]
    refine XS.astore X0.here hx rfl (hb hby d5_4) rfl rfl (l' := #[rv za, rv qa, iv xn, iv xt, iv (0 : Int32), rv qa, .unset, .unset, .unset]) rfl ?_
    show Go p e below t s₁ m 6 #[rv za, rv qa, iv xn, iv xt, iv (0 : Int32), rv qa, .unset, .unset, .unset] []
    refine XS.aload X0.here hx rfl (hb hby d5_6) rfl rfl ?_
    show Go p e below t s₁ m 8 #[rv za, rv qa, iv xn, iv xt, iv (0 : Int32), rv qa, .unset, .unset, .unset] [(.ref qa)]
    exact k)
  obtain ⟨cl89, Ar89, q89, S89, M89, H89, G89⟩ := id P3
  have g90 : Goes p e below S0 (s₁.setTop (mkF m 56 #[rv za, rv qa, iv xn, iv xt, iv (0 : Int32), rv qa, iv (0 : Int32), iv (0 : Int32), .unset] [(.ref za), (.double (FP.i2d (0 : Int32)))])) := fun t k => g88 t (by
    refine X0.arraylength hx (by rw [e0]; exact Ar89.1) (State.isArrayOf_alike hZ.alike Ar89.2.1) (g := (mkF m 8 #[rv za, rv qa, iv xn, iv xt, iv (0 : Int32), rv qa, .unset, .unset, .unset] [(.ref qa)])) rfl rfl (hb hby d5_8) _ ?_
    rw [len_of S89 M89]
    show Go p e below t s₁ m 9 #[rv za, rv qa, iv xn, iv xt, iv (0 : Int32), rv qa, .unset, .unset, .unset] [(.int (0 : Int32))]
    refine XS.istore X0.here hx rfl (hb hby d5_9) rfl (l' := #[rv za, rv qa, iv xn, iv xt, iv (0 : Int32), rv qa, iv (0 : Int32), .unset, .unset]) rfl ?_
    show Go p e below t s₁ m 11 #[rv za, rv qa, iv xn, iv xt, iv (0 : Int32), rv qa, iv (0 : Int32), .unset, .unset] []
    refine XT.iconstV X0.here hx rfl (0 : Int32) (hb hby d5_11) (by decide) ?_
    show Go p e below t s₁ m 12 #[rv za, rv qa, iv xn, iv xt, iv (0 : Int32), rv qa, iv (0 : Int32), .unset, .unset] [(.int (0 : Int32))]
    refine XS.istore X0.here hx rfl (hb hby d5_12) rfl (l' := #[rv za, rv qa, iv xn, iv xt, iv (0 : Int32), rv qa, iv (0 : Int32), iv (0 : Int32), .unset]) rfl ?_
    show Go p e below t s₁ m 14 #[rv za, rv qa, iv xn, iv xt, iv (0 : Int32), rv qa, iv (0 : Int32), iv (0 : Int32), .unset] []
    refine XS.iload X0.here hx rfl (hb hby d5_14) rfl ?_
    show Go p e below t s₁ m 16 #[rv za, rv qa, iv xn, iv xt, iv (0 : Int32), rv qa, iv (0 : Int32), iv (0 : Int32), .unset] [(.int (0 : Int32))]
    refine XS.iload X0.here hx rfl (hb hby d5_16) rfl ?_
    show Go p e below t s₁ m 18 #[rv za, rv qa, iv xn, iv xt, iv (0 : Int32), rv qa, iv (0 : Int32), iv (0 : Int32), .unset] [(.int (0 : Int32)), (.int (0 : Int32))]
    refine XS.icmpYes X0.here hx rfl (pc0 := 18) (pc' := 52) rfl (hb hby d5_18) rfl (XT.ii_ge_t (by decide)) (by decide) (by decide) ?_
    show Go p e below t s₁ m 52 #[rv za, rv qa, iv xn, iv xt, iv (0 : Int32), rv qa, iv (0 : Int32), iv (0 : Int32), .unset] []
    refine XS.iload X0.here hx rfl (hb hby d5_52) rfl ?_
    show Go p e below t s₁ m 54 #[rv za, rv qa, iv xn, iv xt, iv (0 : Int32), rv qa, iv (0 : Int32), iv (0 : Int32), .unset] [(.int (0 : Int32))]
    refine XS.i2dS X0.here hx rfl (hb hby d5_54) rfl rfl ?_
    show Go p e below t s₁ m 55 #[rv za, rv qa, iv xn, iv xt, iv (0 : Int32), rv qa, iv (0 : Int32), iv (0 : Int32), .unset] [(.double (FP.i2d (0 : Int32)))]
    refine XS.aloadN X0.here hx rfl (hb hby d5_55) rfl rfl ?_
    show Go p e below t s₁ m 56 #[rv za, rv qa, iv xn, iv xt, iv (0 : Int32), rv qa, iv (0 : Int32), iv (0 : Int32), .unset] [(.ref za), (.double (FP.i2d (0 : Int32)))]
    exact k)
  obtain ⟨T91, X91, e91, st91⟩ := getF X0 hx hZ hown (host := "") (Or.inl (hw _ (List.mem_of_getElem? (i := 27) rfl))) Via.refl e0 P1 (g := (mkF m 56 #[rv za, rv qa, iv xn, iv xt, iv (0 : Int32), rv qa, iv (0 : Int32), iv (0 : Int32), .unset] [(.ref za), (.double (FP.i2d (0 : Int32)))])) rfl rfl (hb hby d5_56)
  have g92 : Goes p e below S0 (T91.setTop (mkF m 59 #[rv za, rv qa, iv xn, iv xt, iv (0 : Int32), rv qa, iv (0 : Int32), iv (0 : Int32), .unset] [(.double sh), (.double (FP.i2d (0 : Int32)))])) := fun t k => g90 t (st91 t k)
  have g93 : Goes p e below S0 (T91.setTop (mkF m 60 #[rv za, rv qa, iv xn, iv xt, iv (0 : Int32), rv qa, iv (0 : Int32), iv (0 : Int32), .unset] [(.ref za), (.double sh), (.double (FP.i2d (0 : Int32)))])) := fun t k => g92 t (by
    refine XS.aloadN X91.here hx rfl (hb hby d5_59) rfl rfl ?_
    show Go p e below t T91 m 60 #[rv za, rv qa, iv xn, iv xt, iv (0 : Int32), rv qa, iv (0 : Int32), iv (0 : Int32), .unset] [(.ref za), (.double sh), (.double (FP.i2d (0 : Int32)))]
    exact k)
  obtain ⟨T94, X94, e94, st94⟩ := getF X91 hx hZ hown (host := "") (Or.inl (hw _ (List.mem_of_getElem? (i := 35) rfl))) Via.refl e91 P2 (g := (mkF m 60 #[rv za, rv qa, iv xn, iv xt, iv (0 : Int32), rv qa, iv (0 : Int32), iv (0 : Int32), .unset] [(.ref za), (.double sh), (.double (FP.i2d (0 : Int32)))])) rfl rfl (hb hby d5_60)
  have g95 : Goes p e below S0 (T94.setTop (mkF m 63 #[rv za, rv qa, iv xn, iv xt, iv (0 : Int32), rv qa, iv (0 : Int32), iv (0 : Int32), .unset] [(.int sn), (.double sh), (.double (FP.i2d (0 : Int32)))])) := fun t k => g93 t (st94 t k)
  by_cases h96 : sn = 0
  · skip
    have g97 : Goes p e below S0 (T94.setTop (mkF m 74 #[rv za, rv qa, iv xn, iv xt, iv (0 : Int32), rv qa, iv (0 : Int32), iv (0 : Int32), .unset] [(.int (cmpValue (FP.dcmp (FP.i2d (0 : Int32)) (FP.dmul sh (FP.i2d xt))) .l))])) := fun t k => g95 t (by
      refine XS.ifYes X94.here hx rfl (pc0 := 63) (pc' := 70) rfl (hb hby d5_63) rfl (XT.i0_eq_t h96) (by decide) (by decide) ?_
      show Go p e below t T94 m 70 #[rv za, rv qa, iv xn, iv xt, iv (0 : Int32), rv qa, iv (0 : Int32), iv (0 : Int32), .unset] [(.double sh), (.double (FP.i2d (0 : Int32)))]
      refine XS.iloadN X94.here hx rfl (hb hby d5_70) rfl ?_
      show Go p e below t T94 m 71 #[rv za, rv qa, iv xn, iv xt, iv (0 : Int32), rv qa, iv (0 : Int32), iv (0 : Int32), .unset] [(.int xt), (.double sh), (.double (FP.i2d (0 : Int32)))]
      refine XS.i2dS X94.here hx rfl (hb hby d5_71) rfl rfl ?_
      show Go p e below t T94 m 72 #[rv za, rv qa, iv xn, iv xt, iv (0 : Int32), rv qa, iv (0 : Int32), iv (0 : Int32), .unset] [(.double (FP.i2d xt)), (.double sh), (.double (FP.i2d (0 : Int32)))]
      refine XS.dmulS X94.here hx rfl (hb hby d5_72) rfl (Jvm.Free.Fl.dmul_out hsh (Jvm.Free.Fl.i2d_fin _)) rfl ?_
      show Go p e below t T94 m 73 #[rv za, rv qa, iv xn, iv xt, iv (0 : Int32), rv qa, iv (0 : Int32), iv (0 : Int32), .unset] [(.double (FP.dmul sh (FP.i2d xt))), (.double (FP.i2d (0 : Int32)))]
      refine XS.dcmpS X94.here hx rfl (hb hby d5_73) rfl rfl ?_
      show Go p e below t T94 m 74 #[rv za, rv qa, iv xn, iv xt, iv (0 : Int32), rv qa, iv (0 : Int32), iv (0 : Int32), .unset] [(.int (cmpValue (FP.dcmp (FP.i2d (0 : Int32)) (FP.dmul sh (FP.i2d xt))) .l))]
      exact k)
    by_cases h98 : dLe (FP.dmul sh (FP.i2d xt)) (FP.i2d (0 : Int32))
    · skip
      have g99 : Goes p e below S0 (T94.setTop (mkF m 82 #[rv za, rv qa, iv xn, iv xt, iv (0 : Int32), rv qa, iv (0 : Int32), iv (0 : Int32), .unset] [(.int (1 : Int32))])) := fun t k => g97 t (by
        refine XS.ifNo X94.here hx rfl (hb hby d5_74) rfl (dc_l_lt_f h98) ?_
        show Go p e below t T94 m 77 #[rv za, rv qa, iv xn, iv xt, iv (0 : Int32), rv qa, iv (0 : Int32), iv (0 : Int32), .unset] []
        refine XT.iconstV X94.here hx rfl (1 : Int32) (hb hby d5_77) (by decide) ?_
        show Go p e below t T94 m 78 #[rv za, rv qa, iv xn, iv xt, iv (0 : Int32), rv qa, iv (0 : Int32), iv (0 : Int32), .unset] [(.int (1 : Int32))]
        refine XS.goto X94.here hx rfl (pc0 := 78) (pc' := 82) rfl (hb hby d5_78) (by decide) (by decide) ?_
        show Go p e below t T94 m 82 #[rv za, rv qa, iv xn, iv xt, iv (0 : Int32), rv qa, iv (0 : Int32), iv (0 : Int32), .unset] [(.int (1 : Int32))]
        exact k)
      obtain ⟨fs, hr, hrun, hended, hW, hsame⟩ := X94.leave (v := some (.int (1 : Int32))) (fun h => by rw [Bd.returns] at h; cases h)
      refine ⟨_, _, g99 _ (retN X94 hx (t := .boolean) Bd.returns (by simp) (hb hby d5_82) hr), hrun, hended, _, _, rfl, ?_, ⟨_, rfl⟩, hW, hsame.mono (by decide) (by decide)⟩
      show Q_ad0 Z za qa xn xt ml sh sn qk h0 n0 _ T94.heap _
      rw [e94]
      exact ⟨by unfold f_ad0; rw [if_pos h96, if_pos h98], N0, rfl⟩
    · skip
      have g100 : Goes p e below S0 (T94.setTop (mkF m 82 #[rv za, rv qa, iv xn, iv xt, iv (0 : Int32), rv qa, iv (0 : Int32), iv (0 : Int32), .unset] [(.int (0 : Int32))])) := fun t k => g97 t (by
        refine XS.ifYes X94.here hx rfl (pc0 := 74) (pc' := 81) rfl (hb hby d5_74) rfl (dc_l_lt_t h98) (by decide) (by decide) ?_
        show Go p e below t T94 m 81 #[rv za, rv qa, iv xn, iv xt, iv (0 : Int32), rv qa, iv (0 : Int32), iv (0 : Int32), .unset] []
        refine XT.iconstV X94.here hx rfl (0 : Int32) (hb hby d5_81) (by decide) ?_
        show Go p e below t T94 m 82 #[rv za, rv qa, iv xn, iv xt, iv (0 : Int32), rv qa, iv (0 : Int32), iv (0 : Int32), .unset] [(.int (0 : Int32))]
        exact k)
      obtain ⟨fs, hr, hrun, hended, hW, hsame⟩ := X94.leave (v := some (.int (0 : Int32))) (fun h => by rw [Bd.returns] at h; cases h)
      refine ⟨_, _, g100 _ (retN X94 hx (t := .boolean) Bd.returns (by simp) (hb hby d5_82) hr), hrun, hended, _, _, rfl, ?_, ⟨_, rfl⟩, hW, hsame.mono (by decide) (by decide)⟩
      show Q_ad0 Z za qa xn xt ml sh sn qk h0 n0 _ T94.heap _
      rw [e94]
      exact ⟨by unfold f_ad0; rw [if_pos h96, if_neg h98], N0, rfl⟩
  · skip
    have g101 : Goes p e below S0 (T94.setTop (mkF m 74 #[rv za, rv qa, iv xn, iv xt, iv (0 : Int32), rv qa, iv (0 : Int32), iv (0 : Int32), .unset] [(.int (cmpValue (FP.dcmp (FP.i2d (0 : Int32)) (FP.dmul sh (FP.i2d xn))) .l))])) := fun t k => g95 t (by
      refine XS.ifNo X94.here hx rfl (hb hby d5_63) rfl (XT.i0_eq_f h96) ?_
      show Go p e below t T94 m 66 #[rv za, rv qa, iv xn, iv xt, iv (0 : Int32), rv qa, iv (0 : Int32), iv (0 : Int32), .unset] [(.double sh), (.double (FP.i2d (0 : Int32)))]
      refine XS.iloadN X94.here hx rfl (hb hby d5_66) rfl ?_
      show Go p e below t T94 m 67 #[rv za, rv qa, iv xn, iv xt, iv (0 : Int32), rv qa, iv (0 : Int32), iv (0 : Int32), .unset] [(.int xn), (.double sh), (.double (FP.i2d (0 : Int32)))]
      refine XS.goto X94.here hx rfl (pc0 := 67) (pc' := 71) rfl (hb hby d5_67) (by decide) (by decide) ?_
      show Go p e below t T94 m 71 #[rv za, rv qa, iv xn, iv xt, iv (0 : Int32), rv qa, iv (0 : Int32), iv (0 : Int32), .unset] [(.int xn), (.double sh), (.double (FP.i2d (0 : Int32)))]
      refine XS.i2dS X94.here hx rfl (hb hby d5_71) rfl rfl ?_
      show Go p e below t T94 m 72 #[rv za, rv qa, iv xn, iv xt, iv (0 : Int32), rv qa, iv (0 : Int32), iv (0 : Int32), .unset] [(.double (FP.i2d xn)), (.double sh), (.double (FP.i2d (0 : Int32)))]
      refine XS.dmulS X94.here hx rfl (hb hby d5_72) rfl (Jvm.Free.Fl.dmul_out hsh (Jvm.Free.Fl.i2d_fin _)) rfl ?_
      show Go p e below t T94 m 73 #[rv za, rv qa, iv xn, iv xt, iv (0 : Int32), rv qa, iv (0 : Int32), iv (0 : Int32), .unset] [(.double (FP.dmul sh (FP.i2d xn))), (.double (FP.i2d (0 : Int32)))]
      refine XS.dcmpS X94.here hx rfl (hb hby d5_73) rfl rfl ?_
      show Go p e below t T94 m 74 #[rv za, rv qa, iv xn, iv xt, iv (0 : Int32), rv qa, iv (0 : Int32), iv (0 : Int32), .unset] [(.int (cmpValue (FP.dcmp (FP.i2d (0 : Int32)) (FP.dmul sh (FP.i2d xn))) .l))]
      exact k)
    by_cases h102 : dLe (FP.dmul sh (FP.i2d xn)) (FP.i2d (0 : Int32))
    · skip
      have g103 : Goes p e below S0 (T94.setTop (mkF m 82 #[rv za, rv qa, iv xn, iv xt, iv (0 : Int32), rv qa, iv (0 : Int32), iv (0 : Int32), .unset] [(.int (1 : Int32))])) := fun t k => g101 t (by
        refine XS.ifNo X94.here hx rfl (hb hby d5_74) rfl (dc_l_lt_f h102) ?_
        show Go p e below t T94 m 77 #[rv za, rv qa, iv xn, iv xt, iv (0 : Int32), rv qa, iv (0 : Int32), iv (0 : Int32), .unset] []
        refine XT.iconstV X94.here hx rfl (1 : Int32) (hb hby d5_77) (by decide) ?_
        show Go p e below t T94 m 78 #[rv za, rv qa, iv xn, iv xt, iv (0 : Int32), rv qa, iv (0 : Int32), iv (0 : Int32), .unset] [(.int (1 : Int32))]
        refine XS.goto X94.here hx rfl (pc0 := 78) (pc' := 82) rfl (hb hby d5_78) (by decide) (by decide) ?_
        show Go p e below t T94 m 82 #[rv za, rv qa, iv xn, iv xt, iv (0 : Int32), rv qa, iv (0 : Int32), iv (0 : Int32), .unset] [(.int (1 : Int32))]
        exact k)
      obtain ⟨fs, hr, hrun, hended, hW, hsame⟩ := X94.leave (v := some (.int (1 : Int32))) (fun h => by rw [Bd.returns] at h; cases h)
      refine ⟨_, _, g103 _ (retN X94 hx (t := .boolean) Bd.returns (by simp) (hb hby d5_82) hr), hrun, hended, _, _, rfl, ?_, ⟨_, rfl⟩, hW, hsame.mono (by decide) (by decide)⟩
      show Q_ad0 Z za qa xn xt ml sh sn qk h0 n0 _ T94.heap _
      rw [e94]
      exact ⟨by unfold f_ad0; rw [if_neg h96, if_pos h102], N0, rfl⟩
    · skip
      have g104 : Goes p e below S0 (T94.setTop (mkF m 82 #[rv za, rv qa, iv xn, iv xt, iv (0 : Int32), rv qa, iv (0 : Int32), iv (0 : Int32), .unset] [(.int (0 : Int32))])) := fun t k => g101 t (by
        refine XS.ifYes X94.here hx rfl (pc0 := 74) (pc' := 81) rfl (hb hby d5_74) rfl (dc_l_lt_t h102) (by decide) (by decide) ?_
        show Go p e below t T94 m 81 #[rv za, rv qa, iv xn, iv xt, iv (0 : Int32), rv qa, iv (0 : Int32), iv (0 : Int32), .unset] []
        refine XT.iconstV X94.here hx rfl (0 : Int32) (hb hby d5_81) (by decide) ?_
        show Go p e below t T94 m 82 #[rv za, rv qa, iv xn, iv xt, iv (0 : Int32), rv qa, iv (0 : Int32), iv (0 : Int32), .unset] [(.int (0 : Int32))]
        exact k)
      obtain ⟨fs, hr, hrun, hended, hW, hsame⟩ := X94.leave (v := some (.int (0 : Int32))) (fun h => by rw [Bd.returns] at h; cases h)
      refine ⟨_, _, g104 _ (retN X94 hx (t := .boolean) Bd.returns (by simp) (hb hby d5_82) hr), hrun, hended, _, _, rfl, ?_, ⟨_, rfl⟩, hW, hsame.mono (by decide) (by decide)⟩
      show Q_ad0 Z za qa xn xt ml sh sn qk h0 n0 _ T94.heap _
      rw [e94]
      exact ⟨by unfold f_ad0; rw [if_neg h96, if_neg h102], N0, rfl⟩
theorem pf_ad1 : plainFor (⟨"com/example/hetmo/hetmo/tree/StoppingRules", "admits", "([III)Z"⟩ : MethodName) = true := by first | exact plainFor_of_name (by first | (simp [plainName, overriddenIn, x]; done) | decide +kernel) | exact Jvm.Free.JP.mathPlain rfl (by decide +kernel) | decide +kernel
theorem ef_ad1 (m : MethodId) (za : Addr) (qa : Addr) (xn : Int32) (xt : Int32) : entryFrame m #[(.ref za), (.ref qa), (.int xn), (.int xt)] 9 = mkF m 0 #[rv za, rv qa, iv xn, iv xt, .unset, .unset, .unset, .unset, .unset] [] := by first | (simp [entryFrame, mkF, argsToLocals, Value.category, maxLocals]; done) | rfl
def f_ad1 (xn : Int32) (xt : Int32) (ml : Int32) (sh : UInt64) (sn : Int32) (c0 : Int32) : Int32 := (if c0 < ml then (0 : Int32) else (if sn = 0 then (if dLe (FP.dmul sh (FP.i2d xt)) (FP.i2d ((0 : Int32) + c0)) then (1 : Int32) else (0 : Int32)) else (if dLe (FP.dmul sh (FP.i2d xn)) (FP.i2d ((0 : Int32) + c0)) then (1 : Int32) else (0 : Int32))))
def Q_ad1 (Z : State) (za : Addr) (qa : Addr) (xn : Int32) (xt : Int32) (ml : Int32) (sh : UInt64) (sn : Int32) (qk : ClassId) (c0 : Int32) (h0 : Heap) (n0 : Nat) (v : Option Value) (h : Heap) (L : List Loc) : Prop := v = some (.int (f_ad1 xn xt ml sh sn c0)) ∧ Fr n0 L ∧ h = h0
set_option maxRecDepth 65536 in
set_option maxHeartbeats 40000000 in
theorem rm_ad1 (l : Launch) (Z : State) (a0 : Array Value) (hw : ∀ d ∈ tables_1, d.before a0 Z = true) (ws : List Jvm.Cond) (za : Addr) (qa : Addr) (xn : Int32) (xt : Int32) (ml : Int32) (sh : UInt64) (sn : Int32) (qk : ClassId) (c0 : Int32) (h0 : Heap) (n0 : Nat) (Z0 : n0 ≤ h0.size) (P0 : Fld Z h0 za "com/example/hetmo/hetmo/tree/StoppingRules" "_minLeaf" "I" (.int ml)) (P1 : Fld Z h0 za "com/example/hetmo/hetmo/tree/StoppingRules" "_minShare" "D" (.double sh)) (P2 : Fld Z h0 za "com/example/hetmo/hetmo/tree/StoppingRules" "_shareOfNode" "Z" (.int sn)) (P3 : Arv Z h0 qa qk .int (1 : Int32) [(.int c0)] (.int (0 : Int32))) (hsh : Jvm.Free.Fl.Fin64 sh)  :
    MetFree l (⟨"com/example/hetmo/hetmo/tree/StoppingRules", "admits", "([III)Z"⟩ : MethodName) (head1 (Jvm.Cond.code (⟨"com/example/hetmo/hetmo/tree/StoppingRules", "admits", "([III)Z"⟩ : MethodName) prog_22_method_9_code 9 (some .boolean) :: ws) ({ frames := 0, cells := 0, slots := 0, locals := 0 } : Room)) (fun a U => a = #[(.ref za), (.ref qa), (.int xn), (.int xt)] ∧ Z.Warmed39 U.vm ∧ U.heap = h0) (fun _ _ _ _ _ => True) (fun _ U o U' => ∃ v L, o = .returned v ∧ Q_ad1 Z za qa xn xt ml sh sn qk c0 h0 n0 v U'.heap L ∧ FrameEnd U o U' L ({ frames := 0, cells := 0, slots := 0, locals := 0 } : Room).cells ({ frames := 0, cells := 0, slots := 0, locals := 0 } : Room).slots) := by
  refine MetFree.of_bodySF pf_ad1 hisR ?_
  intro p e s m args below meth c s₁ Bd hml0 hP hK
  obtain ⟨rfl, hZ, hh⟩ := hP
  have hx := Bd.exec
  have hby := Bd.bytes
  have hml : c.maxLocals = 9 := hml0
  have hown : s.vm.findClass "com/example/hetmo/hetmo/tree/StoppingRules" = some m.cls := findClass_of_methodNamed Bd.named
  have hnm := (name_of_methodNamed Bd.named Bd.method).1
  have X0 : Stand p l e ({ frames := 0, cells := 0, slots := 0, locals := 0 } : Room) s m #[(.ref za), (.ref qa), (.int xn), (.int xt)] below meth c s₁ [] 0 0 := Stand.of_body Bd
  have e0 : s₁.heap = h0 := by rw [← hh, Bd.state]; rfl
  have N0 := Fr.nil n0
  obtain ⟨S0, hS0⟩ : ∃ z, z = s₁.setTop (entryFrame m #[(.ref za), (.ref qa), (.int xn), (.int xt)] 9) := ⟨_, rfl⟩
  rw [← hS0]
  have g0 : Goes p e below S0 (s₁.setTop (mkF m 0 #[rv za, rv qa, iv xn, iv xt, .unset, .unset, .unset, .unset, .unset] [])) := fun t k => by rw [hS0]; exact castTop (ef_ad1 m za qa xn xt) k
  have g105 : Goes p e below S0 (s₁.setTop (mkF m 8 #[rv za, rv qa, iv xn, iv xt, iv (0 : Int32), rv qa, .unset, .unset, .unset] [(.ref qa)])) := fun t k => g0 t (by
    refine XT.iconstV X0.here hx rfl (0 : Int32) (hb hby d5_0) (by decide) ?_
    show Go p e below t s₁ m 1 #[rv za, rv qa, iv xn, iv xt, .unset, .unset, .unset, .unset, .unset] [(.int (0 : Int32))]
    refine XS.istore X0.here hx rfl (hb hby d5_1) rfl (l' := #[rv za, rv qa, iv xn, iv xt, iv (0 : Int32), .unset, .unset, .unset, .unset]) rfl ?_
    show Go p e below t s₁ m 3 #[rv za, rv qa, iv xn, iv xt, iv (0 : Int32), .unset, .unset, .unset, .unset] []
    refine XS.aloadN X0.here hx rfl (hb hby d5_3) rfl rfl ?_
    show Go p e below t s₁ m 4 #[rv za, rv qa, iv xn, iv xt, iv (0 : Int32), .unset, .unset, .unset, .unset] [(.ref qa)]
    refine XS.astore X0.here hx rfl (hb hby d5_4) rfl rfl (l' := #[rv za, rv qa, iv xn, iv xt, iv (0 : Int32), rv qa, .unset, .unset, .unset]) rfl ?_
    show Go p e below t s₁ m 6 #[rv za, rv qa, iv xn, iv xt, iv (0 : Int32), rv qa, .unset, .unset, .unset] []
    refine XS.aload X0.here hx rfl (hb hby d5_6) rfl rfl ?_
    show Go p e below t s₁ m 8 #[rv za, rv qa, iv xn, iv xt, iv (0 : Int32), rv qa, .unset, .unset, .unset] [(.ref qa)]
    exact k)
  obtain ⟨cl106, Ar106, q106, S106, M106, H106, G106⟩ := id P3
  have g107 : Goes p e below S0 (s₁.setTop (mkF m 25 #[rv za, rv qa, iv xn, iv xt, iv (0 : Int32), rv qa, iv (1 : Int32), iv (0 : Int32), .unset] [(.int (0 : Int32)), (.ref qa)])) := fun t k => g105 t (by
    refine X0.arraylength hx (by rw [e0]; exact Ar106.1) (State.isArrayOf_alike hZ.alike Ar106.2.1) (g := (mkF m 8 #[rv za, rv qa, iv xn, iv xt, iv (0 : Int32), rv qa, .unset, .unset, .unset] [(.ref qa)])) rfl rfl (hb hby d5_8) _ ?_
    rw [len_of S106 M106]
    show Go p e below t s₁ m 9 #[rv za, rv qa, iv xn, iv xt, iv (0 : Int32), rv qa, .unset, .unset, .unset] [(.int (1 : Int32))]
    refine XS.istore X0.here hx rfl (hb hby d5_9) rfl (l' := #[rv za, rv qa, iv xn, iv xt, iv (0 : Int32), rv qa, iv (1 : Int32), .unset, .unset]) rfl ?_
    show Go p e below t s₁ m 11 #[rv za, rv qa, iv xn, iv xt, iv (0 : Int32), rv qa, iv (1 : Int32), .unset, .unset] []
    refine XT.iconstV X0.here hx rfl (0 : Int32) (hb hby d5_11) (by decide) ?_
    show Go p e below t s₁ m 12 #[rv za, rv qa, iv xn, iv xt, iv (0 : Int32), rv qa, iv (1 : Int32), .unset, .unset] [(.int (0 : Int32))]
    refine XS.istore X0.here hx rfl (hb hby d5_12) rfl (l' := #[rv za, rv qa, iv xn, iv xt, iv (0 : Int32), rv qa, iv (1 : Int32), iv (0 : Int32), .unset]) rfl ?_
    show Go p e below t s₁ m 14 #[rv za, rv qa, iv xn, iv xt, iv (0 : Int32), rv qa, iv (1 : Int32), iv (0 : Int32), .unset] []
    refine XS.iload X0.here hx rfl (hb hby d5_14) rfl ?_
    show Go p e below t s₁ m 16 #[rv za, rv qa, iv xn, iv xt, iv (0 : Int32), rv qa, iv (1 : Int32), iv (0 : Int32), .unset] [(.int (0 : Int32))]
    refine XS.iload X0.here hx rfl (hb hby d5_16) rfl ?_
    show Go p e below t s₁ m 18 #[rv za, rv qa, iv xn, iv xt, iv (0 : Int32), rv qa, iv (1 : Int32), iv (0 : Int32), .unset] [(.int (1 : Int32)), (.int (0 : Int32))]
    refine XS.icmpNo X0.here hx rfl (hb hby d5_18) rfl (XT.ii_ge_f (by decide)) ?_
    show Go p e below t s₁ m 21 #[rv za, rv qa, iv xn, iv xt, iv (0 : Int32), rv qa, iv (1 : Int32), iv (0 : Int32), .unset] []
    refine XS.aload X0.here hx rfl (hb hby d5_21) rfl rfl ?_
    show Go p e below t s₁ m 23 #[rv za, rv qa, iv xn, iv xt, iv (0 : Int32), rv qa, iv (1 : Int32), iv (0 : Int32), .unset] [(.ref qa)]
    refine XS.iload X0.here hx rfl (hb hby d5_23) rfl ?_
    show Go p e below t s₁ m 25 #[rv za, rv qa, iv xn, iv xt, iv (0 : Int32), rv qa, iv (1 : Int32), iv (0 : Int32), .unset] [(.int (0 : Int32)), (.ref qa)]
    exact k)
  obtain ⟨cl108, Ar108, q108, S108, M108, H108, G108⟩ := id P3
  have g109 : Goes p e below S0 (s₁.setTop (mkF m 31 #[rv za, rv qa, iv xn, iv xt, iv (0 : Int32), rv qa, iv (1 : Int32), iv (0 : Int32), iv c0] [(.ref za), (.int c0)])) := fun t k => g107 t (by
    refine X0.iaload hx (j := (0 : Int32)) (v := (.int c0)) (by rw [e0]; exact Ar108.1) (State.isArrayOf_alike hZ.alike Ar108.2.1) Ar108.2.2 (inb_of S108 ⟨by decide, by decide⟩) (H108.at (inb_of S108 ⟨by decide, by decide⟩) rfl) (g := (mkF m 25 #[rv za, rv qa, iv xn, iv xt, iv (0 : Int32), rv qa, iv (1 : Int32), iv (0 : Int32), .unset] [(.int (0 : Int32)), (.ref qa)])) rfl rfl (hb hby d5_25) _ ?_
    show Go p e below t s₁ m 26 #[rv za, rv qa, iv xn, iv xt, iv (0 : Int32), rv qa, iv (1 : Int32), iv (0 : Int32), .unset] [(.int c0)]
    refine XS.istore X0.here hx rfl (hb hby d5_26) rfl (l' := #[rv za, rv qa, iv xn, iv xt, iv (0 : Int32), rv qa, iv (1 : Int32), iv (0 : Int32), iv c0]) rfl ?_
    show Go p e below t s₁ m 28 #[rv za, rv qa, iv xn, iv xt, iv (0 : Int32), rv qa, iv (1 : Int32), iv (0 : Int32), iv c0] []
    refine XS.iload X0.here hx rfl (hb hby d5_28) rfl ?_
    show Go p e below t s₁ m 30 #[rv za, rv qa, iv xn, iv xt, iv (0 : Int32), rv qa, iv (1 : Int32), iv (0 : Int32), iv c0] [(.int c0)]
    refine XS.aloadN X0.here hx rfl (hb hby d5_30) rfl rfl ?_
    show Go p e below t s₁ m 31 #[rv za, rv qa, iv xn, iv xt, iv (0 : Int32), rv qa, iv (1 : Int32), iv (0 : Int32), iv c0] [(.ref za), (.int c0)]
    exact k)
  obtain ⟨T110, X110, e110, st110⟩ := getF X0 hx hZ hown (host := "") (Or.inl (hw _ (List.mem_of_getElem? (i := 25) rfl))) Via.refl e0 P0 (g := (mkF m 31 #[rv za, rv qa, iv xn, iv xt, iv (0 : Int32), rv qa, iv (1 : Int32), iv (0 : Int32), iv c0] [(.ref za), (.int c0)])) rfl rfl (hb hby d5_31)
  have g111 : Goes p e below S0 (T110.setTop (mkF m 34 #[rv za, rv qa, iv xn, iv xt, iv (0 : Int32), rv qa, iv (1 : Int32), iv (0 : Int32), iv c0] [(.int ml), (.int c0)])) := fun t k => g109 t (st110 t k)
  by_cases h112 : c0 < ml
  · skip
    have g113 : Goes p e below S0 (T110.setTop (mkF m 38 #[rv za, rv qa, iv xn, iv xt, iv (0 : Int32), rv qa, iv (1 : Int32), iv (0 : Int32), iv c0] [(.int (0 : Int32))])) := fun t k => g111 t (by
      refine XS.icmpNo X110.here hx rfl (hb hby d5_34) rfl (XT.ii_ge_f h112) ?_
      show Go p e below t T110 m 37 #[rv za, rv qa, iv xn, iv xt, iv (0 : Int32), rv qa, iv (1 : Int32), iv (0 : Int32), iv c0] []
      refine XT.iconstV X110.here hx rfl (0 : Int32) (hb hby d5_37) (by decide) ?_
      show Go p e below t T110 m 38 #[rv za, rv qa, iv xn, iv xt, iv (0 : Int32), rv qa, iv (1 : Int32), iv (0 : Int32), iv c0] [(.int (0 : Int32))]
      exact k)
    obtain ⟨fs, hr, hrun, hended, hW, hsame⟩ := X110.leave (v := some (.int (0 : Int32))) (fun h => by rw [Bd.returns] at h; cases h)
    refine ⟨_, _, g113 _ (retN X110 hx (t := .boolean) Bd.returns (by simp) (hb hby d5_38) hr), hrun, hended, _, _, rfl, ?_, ⟨_, rfl⟩, hW, hsame.mono (by decide) (by decide)⟩
    show Q_ad1 Z za qa xn xt ml sh sn qk c0 h0 n0 _ T110.heap _
    rw [e110]
    exact ⟨by unfold f_ad1; rw [if_pos h112], N0, rfl⟩
  · skip
    have g114 : Goes p e below S0 (T110.setTop (mkF m 56 #[rv za, rv qa, iv xn, iv xt, iv ((0 : Int32) + c0), rv qa, iv (1 : Int32), iv (1 : Int32), iv c0] [(.ref za), (.double (FP.i2d ((0 : Int32) + c0)))])) := fun t k => g111 t (by
      refine XS.icmpYes X110.here hx rfl (pc0 := 34) (pc' := 39) rfl (hb hby d5_34) rfl (XT.ii_ge_t h112) (by decide) (by decide) ?_
      show Go p e below t T110 m 39 #[rv za, rv qa, iv xn, iv xt, iv (0 : Int32), rv qa, iv (1 : Int32), iv (0 : Int32), iv c0] []
      refine XS.iload X110.here hx rfl (hb hby d5_39) rfl ?_
      show Go p e below t T110 m 41 #[rv za, rv qa, iv xn, iv xt, iv (0 : Int32), rv qa, iv (1 : Int32), iv (0 : Int32), iv c0] [(.int (0 : Int32))]
      refine XS.iload X110.here hx rfl (hb hby d5_41) rfl ?_
      show Go p e below t T110 m 43 #[rv za, rv qa, iv xn, iv xt, iv (0 : Int32), rv qa, iv (1 : Int32), iv (0 : Int32), iv c0] [(.int c0), (.int (0 : Int32))]
      refine XS.iadd X110.here hx rfl (hb hby d5_43) rfl ?_
      show Go p e below t T110 m 44 #[rv za, rv qa, iv xn, iv xt, iv (0 : Int32), rv qa, iv (1 : Int32), iv (0 : Int32), iv c0] [(.int ((0 : Int32) + c0))]
      refine XS.istore X110.here hx rfl (hb hby d5_44) rfl (l' := #[rv za, rv qa, iv xn, iv xt, iv ((0 : Int32) + c0), rv qa, iv (1 : Int32), iv (0 : Int32), iv c0]) rfl ?_
      show Go p e below t T110 m 46 #[rv za, rv qa, iv xn, iv xt, iv ((0 : Int32) + c0), rv qa, iv (1 : Int32), iv (0 : Int32), iv c0] []
      refine XT.iincV X110.here hx rfl (1 : Int32) (hb hby d5_46) (by decide) rfl (l' := #[rv za, rv qa, iv xn, iv xt, iv ((0 : Int32) + c0), rv qa, iv (1 : Int32), iv (1 : Int32), iv c0]) rfl ?_
      show Go p e below t T110 m 49 #[rv za, rv qa, iv xn, iv xt, iv ((0 : Int32) + c0), rv qa, iv (1 : Int32), iv (1 : Int32), iv c0] []
      refine XS.goto X110.here hx rfl (pc0 := 49) (pc' := 14) rfl (hb hby d5_49) (by decide) (by decide) ?_
      show Go p e below t T110 m 14 #[rv za, rv qa, iv xn, iv xt, iv ((0 : Int32) + c0), rv qa, iv (1 : Int32), iv (1 : Int32), iv c0] []
      refine XS.iload X110.here hx rfl (hb hby d5_14) rfl ?_
      show Go p e below t T110 m 16 #[rv za, rv qa, iv xn, iv xt, iv ((0 : Int32) + c0), rv qa, iv (1 : Int32), iv (1 : Int32), iv c0] [(.int (1 : Int32))]
      refine XS.iload X110.here hx rfl (hb hby d5_16) rfl ?_
      show Go p e below t T110 m 18 #[rv za, rv qa, iv xn, iv xt, iv ((0 : Int32) + c0), rv qa, iv (1 : Int32), iv (1 : Int32), iv c0] [(.int (1 : Int32)), (.int (1 : Int32))]
      refine XS.icmpYes X110.here hx rfl (pc0 := 18) (pc' := 52) rfl (hb hby d5_18) rfl (XT.ii_ge_t (by decide)) (by decide) (by decide) ?_
      show Go p e below t T110 m 52 #[rv za, rv qa, iv xn, iv xt, iv ((0 : Int32) + c0), rv qa, iv (1 : Int32), iv (1 : Int32), iv c0] []
      refine XS.iload X110.here hx rfl (hb hby d5_52) rfl ?_
      show Go p e below t T110 m 54 #[rv za, rv qa, iv xn, iv xt, iv ((0 : Int32) + c0), rv qa, iv (1 : Int32), iv (1 : Int32), iv c0] [(.int ((0 : Int32) + c0))]
      refine XS.i2dS X110.here hx rfl (hb hby d5_54) rfl rfl ?_
      show Go p e below t T110 m 55 #[rv za, rv qa, iv xn, iv xt, iv ((0 : Int32) + c0), rv qa, iv (1 : Int32), iv (1 : Int32), iv c0] [(.double (FP.i2d ((0 : Int32) + c0)))]
      refine XS.aloadN X110.here hx rfl (hb hby d5_55) rfl rfl ?_
      show Go p e below t T110 m 56 #[rv za, rv qa, iv xn, iv xt, iv ((0 : Int32) + c0), rv qa, iv (1 : Int32), iv (1 : Int32), iv c0] [(.ref za), (.double (FP.i2d ((0 : Int32) + c0)))]
      exact k)
    obtain ⟨T115, X115, e115, st115⟩ := getF X110 hx hZ hown (host := "") (Or.inl (hw _ (List.mem_of_getElem? (i := 27) rfl))) Via.refl e110 P1 (g := (mkF m 56 #[rv za, rv qa, iv xn, iv xt, iv ((0 : Int32) + c0), rv qa, iv (1 : Int32), iv (1 : Int32), iv c0] [(.ref za), (.double (FP.i2d ((0 : Int32) + c0)))])) rfl rfl (hb hby d5_56)
    have g116 : Goes p e below S0 (T115.setTop (mkF m 59 #[rv za, rv qa, iv xn, iv xt, iv ((0 : Int32) + c0), rv qa, iv (1 : Int32), iv (1 : Int32), iv c0] [(.double sh), (.double (FP.i2d ((0 : Int32) + c0)))])) := fun t k => g114 t (st115 t k)
    have g117 : Goes p e below S0 (T115.setTop (mkF m 60 #[rv za, rv qa, iv xn, iv xt, iv ((0 : Int32) + c0), rv qa, iv (1 : Int32), iv (1 : Int32), iv c0] [(.ref za), (.double sh), (.double (FP.i2d ((0 : Int32) + c0)))])) := fun t k => g116 t (by
      refine XS.aloadN X115.here hx rfl (hb hby d5_59) rfl rfl ?_
      show Go p e below t T115 m 60 #[rv za, rv qa, iv xn, iv xt, iv ((0 : Int32) + c0), rv qa, iv (1 : Int32), iv (1 : Int32), iv c0] [(.ref za), (.double sh), (.double (FP.i2d ((0 : Int32) + c0)))]
      exact k)
    obtain ⟨T118, X118, e118, st118⟩ := getF X115 hx hZ hown (host := "") (Or.inl (hw _ (List.mem_of_getElem? (i := 35) rfl))) Via.refl e115 P2 (g := (mkF m 60 #[rv za, rv qa, iv xn, iv xt, iv ((0 : Int32) + c0), rv qa, iv (1 : Int32), iv (1 : Int32), iv c0] [(.ref za), (.double sh), (.double (FP.i2d ((0 : Int32) + c0)))])) rfl rfl (hb hby d5_60)
    have g119 : Goes p e below S0 (T118.setTop (mkF m 63 #[rv za, rv qa, iv xn, iv xt, iv ((0 : Int32) + c0), rv qa, iv (1 : Int32), iv (1 : Int32), iv c0] [(.int sn), (.double sh), (.double (FP.i2d ((0 : Int32) + c0)))])) := fun t k => g117 t (st118 t k)
    by_cases h120 : sn = 0
    · skip
      have g121 : Goes p e below S0 (T118.setTop (mkF m 74 #[rv za, rv qa, iv xn, iv xt, iv ((0 : Int32) + c0), rv qa, iv (1 : Int32), iv (1 : Int32), iv c0] [(.int (cmpValue (FP.dcmp (FP.i2d ((0 : Int32) + c0)) (FP.dmul sh (FP.i2d xt))) .l))])) := fun t k => g119 t (by
        refine XS.ifYes X118.here hx rfl (pc0 := 63) (pc' := 70) rfl (hb hby d5_63) rfl (XT.i0_eq_t h120) (by decide) (by decide) ?_
        show Go p e below t T118 m 70 #[rv za, rv qa, iv xn, iv xt, iv ((0 : Int32) + c0), rv qa, iv (1 : Int32), iv (1 : Int32), iv c0] [(.double sh), (.double (FP.i2d ((0 : Int32) + c0)))]
        refine XS.iloadN X118.here hx rfl (hb hby d5_70) rfl ?_
        show Go p e below t T118 m 71 #[rv za, rv qa, iv xn, iv xt, iv ((0 : Int32) + c0), rv qa, iv (1 : Int32), iv (1 : Int32), iv c0] [(.int xt), (.double sh), (.double (FP.i2d ((0 : Int32) + c0)))]
        refine XS.i2dS X118.here hx rfl (hb hby d5_71) rfl rfl ?_
        show Go p e below t T118 m 72 #[rv za, rv qa, iv xn, iv xt, iv ((0 : Int32) + c0), rv qa, iv (1 : Int32), iv (1 : Int32), iv c0] [(.double (FP.i2d xt)), (.double sh), (.double (FP.i2d ((0 : Int32) + c0)))]
        refine XS.dmulS X118.here hx rfl (hb hby d5_72) rfl (Jvm.Free.Fl.dmul_out hsh (Jvm.Free.Fl.i2d_fin _)) rfl ?_
        show Go p e below t T118 m 73 #[rv za, rv qa, iv xn, iv xt, iv ((0 : Int32) + c0), rv qa, iv (1 : Int32), iv (1 : Int32), iv c0] [(.double (FP.dmul sh (FP.i2d xt))), (.double (FP.i2d ((0 : Int32) + c0)))]
        refine XS.dcmpS X118.here hx rfl (hb hby d5_73) rfl rfl ?_
        show Go p e below t T118 m 74 #[rv za, rv qa, iv xn, iv xt, iv ((0 : Int32) + c0), rv qa, iv (1 : Int32), iv (1 : Int32), iv c0] [(.int (cmpValue (FP.dcmp (FP.i2d ((0 : Int32) + c0)) (FP.dmul sh (FP.i2d xt))) .l))]
        exact k)
      by_cases h122 : dLe (FP.dmul sh (FP.i2d xt)) (FP.i2d ((0 : Int32) + c0))
      · skip
        have g123 : Goes p e below S0 (T118.setTop (mkF m 82 #[rv za, rv qa, iv xn, iv xt, iv ((0 : Int32) + c0), rv qa, iv (1 : Int32), iv (1 : Int32), iv c0] [(.int (1 : Int32))])) := fun t k => g121 t (by
          refine XS.ifNo X118.here hx rfl (hb hby d5_74) rfl (dc_l_lt_f h122) ?_
          show Go p e below t T118 m 77 #[rv za, rv qa, iv xn, iv xt, iv ((0 : Int32) + c0), rv qa, iv (1 : Int32), iv (1 : Int32), iv c0] []
          refine XT.iconstV X118.here hx rfl (1 : Int32) (hb hby d5_77) (by decide) ?_
          show Go p e below t T118 m 78 #[rv za, rv qa, iv xn, iv xt, iv ((0 : Int32) + c0), rv qa, iv (1 : Int32), iv (1 : Int32), iv c0] [(.int (1 : Int32))]
          refine XS.goto X118.here hx rfl (pc0 := 78) (pc' := 82) rfl (hb hby d5_78) (by decide) (by decide) ?_
          show Go p e below t T118 m 82 #[rv za, rv qa, iv xn, iv xt, iv ((0 : Int32) + c0), rv qa, iv (1 : Int32), iv (1 : Int32), iv c0] [(.int (1 : Int32))]
          exact k)
        obtain ⟨fs, hr, hrun, hended, hW, hsame⟩ := X118.leave (v := some (.int (1 : Int32))) (fun h => by rw [Bd.returns] at h; cases h)
        refine ⟨_, _, g123 _ (retN X118 hx (t := .boolean) Bd.returns (by simp) (hb hby d5_82) hr), hrun, hended, _, _, rfl, ?_, ⟨_, rfl⟩, hW, hsame.mono (by decide) (by decide)⟩
        show Q_ad1 Z za qa xn xt ml sh sn qk c0 h0 n0 _ T118.heap _
        rw [e118]
        exact ⟨by unfold f_ad1; rw [if_neg h112, if_pos h120, if_pos h122], N0, rfl⟩
      · skip
        have g124 : Goes p e below S0 (T118.setTop (mkF m 82 #[rv za, rv qa, iv xn, iv xt, iv ((0 : Int32) + c0), rv qa, iv (1 : Int32), iv (1 : Int32), iv c0] [(.int (0 : Int32))])) := fun t k => g121 t (by
          refine XS.ifYes X118.here hx rfl (pc0 := 74) (pc' := 81) rfl (hb hby d5_74) rfl (dc_l_lt_t h122) (by decide) (by decide) ?_
          show Go p e below t T118 m 81 #[rv za, rv qa, iv xn, iv xt, iv ((0 : Int32) + c0), rv qa, iv (1 : Int32), iv (1 : Int32), iv c0] []
          refine XT.iconstV X118.here hx rfl (0 : Int32) (hb hby d5_81) (by decide) ?_
          show Go p e below t T118 m 82 #[rv za, rv qa, iv xn, iv xt, iv ((0 : Int32) + c0), rv qa, iv (1 : Int32), iv (1 : Int32), iv c0] [(.int (0 : Int32))]
          exact k)
        obtain ⟨fs, hr, hrun, hended, hW, hsame⟩ := X118.leave (v := some (.int (0 : Int32))) (fun h => by rw [Bd.returns] at h; cases h)
        refine ⟨_, _, g124 _ (retN X118 hx (t := .boolean) Bd.returns (by simp) (hb hby d5_82) hr), hrun, hended, _, _, rfl, ?_, ⟨_, rfl⟩, hW, hsame.mono (by decide) (by decide)⟩
        show Q_ad1 Z za qa xn xt ml sh sn qk c0 h0 n0 _ T118.heap _
        rw [e118]
        exact ⟨by unfold f_ad1; rw [if_neg h112, if_pos h120, if_neg h122], N0, rfl⟩
    · skip
      have g125 : Goes p e below S0 (T118.setTop (mkF m 74 #[rv za, rv qa, iv xn, iv xt, iv ((0 : Int32) + c0), rv qa, iv (1 : Int32), iv (1 : Int32), iv c0] [(.int (cmpValue (FP.dcmp (FP.i2d ((0 : Int32) + c0)) (FP.dmul sh (FP.i2d xn))) .l))])) := fun t k => g119 t (by
        refine XS.ifNo X118.here hx rfl (hb hby d5_63) rfl (XT.i0_eq_f h120) ?_
        show Go p e below t T118 m 66 #[rv za, rv qa, iv xn, iv xt, iv ((0 : Int32) + c0), rv qa, iv (1 : Int32), iv (1 : Int32), iv c0] [(.double sh), (.double (FP.i2d ((0 : Int32) + c0)))]
        refine XS.iloadN X118.here hx rfl (hb hby d5_66) rfl ?_
        show Go p e below t T118 m 67 #[rv za, rv qa, iv xn, iv xt, iv ((0 : Int32) + c0), rv qa, iv (1 : Int32), iv (1 : Int32), iv c0] [(.int xn), (.double sh), (.double (FP.i2d ((0 : Int32) + c0)))]
        refine XS.goto X118.here hx rfl (pc0 := 67) (pc' := 71) rfl (hb hby d5_67) (by decide) (by decide) ?_
        show Go p e below t T118 m 71 #[rv za, rv qa, iv xn, iv xt, iv ((0 : Int32) + c0), rv qa, iv (1 : Int32), iv (1 : Int32), iv c0] [(.int xn), (.double sh), (.double (FP.i2d ((0 : Int32) + c0)))]
        refine XS.i2dS X118.here hx rfl (hb hby d5_71) rfl rfl ?_
        show Go p e below t T118 m 72 #[rv za, rv qa, iv xn, iv xt, iv ((0 : Int32) + c0), rv qa, iv (1 : Int32), iv (1 : Int32), iv c0] [(.double (FP.i2d xn)), (.double sh), (.double (FP.i2d ((0 : Int32) + c0)))]
        refine XS.dmulS X118.here hx rfl (hb hby d5_72) rfl (Jvm.Free.Fl.dmul_out hsh (Jvm.Free.Fl.i2d_fin _)) rfl ?_
        show Go p e below t T118 m 73 #[rv za, rv qa, iv xn, iv xt, iv ((0 : Int32) + c0), rv qa, iv (1 : Int32), iv (1 : Int32), iv c0] [(.double (FP.dmul sh (FP.i2d xn))), (.double (FP.i2d ((0 : Int32) + c0)))]
        refine XS.dcmpS X118.here hx rfl (hb hby d5_73) rfl rfl ?_
        show Go p e below t T118 m 74 #[rv za, rv qa, iv xn, iv xt, iv ((0 : Int32) + c0), rv qa, iv (1 : Int32), iv (1 : Int32), iv c0] [(.int (cmpValue (FP.dcmp (FP.i2d ((0 : Int32) + c0)) (FP.dmul sh (FP.i2d xn))) .l))]
        exact k)
      by_cases h126 : dLe (FP.dmul sh (FP.i2d xn)) (FP.i2d ((0 : Int32) + c0))
      · skip
        have g127 : Goes p e below S0 (T118.setTop (mkF m 82 #[rv za, rv qa, iv xn, iv xt, iv ((0 : Int32) + c0), rv qa, iv (1 : Int32), iv (1 : Int32), iv c0] [(.int (1 : Int32))])) := fun t k => g125 t (by
          refine XS.ifNo X118.here hx rfl (hb hby d5_74) rfl (dc_l_lt_f h126) ?_
          show Go p e below t T118 m 77 #[rv za, rv qa, iv xn, iv xt, iv ((0 : Int32) + c0), rv qa, iv (1 : Int32), iv (1 : Int32), iv c0] []
          refine XT.iconstV X118.here hx rfl (1 : Int32) (hb hby d5_77) (by decide) ?_
          show Go p e below t T118 m 78 #[rv za, rv qa, iv xn, iv xt, iv ((0 : Int32) + c0), rv qa, iv (1 : Int32), iv (1 : Int32), iv c0] [(.int (1 : Int32))]
          refine XS.goto X118.here hx rfl (pc0 := 78) (pc' := 82) rfl (hb hby d5_78) (by decide) (by decide) ?_
          show Go p e below t T118 m 82 #[rv za, rv qa, iv xn, iv xt, iv ((0 : Int32) + c0), rv qa, iv (1 : Int32), iv (1 : Int32), iv c0] [(.int (1 : Int32))]
          exact k)
        obtain ⟨fs, hr, hrun, hended, hW, hsame⟩ := X118.leave (v := some (.int (1 : Int32))) (fun h => by rw [Bd.returns] at h; cases h)
        refine ⟨_, _, g127 _ (retN X118 hx (t := .boolean) Bd.returns (by simp) (hb hby d5_82) hr), hrun, hended, _, _, rfl, ?_, ⟨_, rfl⟩, hW, hsame.mono (by decide) (by decide)⟩
        show Q_ad1 Z za qa xn xt ml sh sn qk c0 h0 n0 _ T118.heap _
        rw [e118]
        exact ⟨by unfold f_ad1; rw [if_neg h112, if_neg h120, if_pos h126], N0, rfl⟩
      · skip
        have g128 : Goes p e below S0 (T118.setTop (mkF m 82 #[rv za, rv qa, iv xn, iv xt, iv ((0 : Int32) + c0), rv qa, iv (1 : Int32), iv (1 : Int32), iv c0] [(.int (0 : Int32))])) := fun t k => g125 t (by
          refine XS.ifYes X118.here hx rfl (pc0 := 74) (pc' := 81) rfl (hb hby d5_74) rfl (dc_l_lt_t h126) (by decide) (by decide) ?_
          show Go p e below t T118 m 81 #[rv za, rv qa, iv xn, iv xt, iv ((0 : Int32) + c0), rv qa, iv (1 : Int32), iv (1 : Int32), iv c0] []
          refine XT.iconstV X118.here hx rfl (0 : Int32) (hb hby d5_81) (by decide) ?_
          show Go p e below t T118 m 82 #[rv za, rv qa, iv xn, iv xt, iv ((0 : Int32) + c0), rv qa, iv (1 : Int32), iv (1 : Int32), iv c0] [(.int (0 : Int32))]
          exact k)
        obtain ⟨fs, hr, hrun, hended, hW, hsame⟩ := X118.leave (v := some (.int (0 : Int32))) (fun h => by rw [Bd.returns] at h; cases h)
        refine ⟨_, _, g128 _ (retN X118 hx (t := .boolean) Bd.returns (by simp) (hb hby d5_82) hr), hrun, hended, _, _, rfl, ?_, ⟨_, rfl⟩, hW, hsame.mono (by decide) (by decide)⟩
        show Q_ad1 Z za qa xn xt ml sh sn qk c0 h0 n0 _ T118.heap _
        rw [e118]
        exact ⟨by unfold f_ad1; rw [if_neg h112, if_neg h120, if_neg h126], N0, rfl⟩
theorem pf_ad2 : plainFor (⟨"com/example/hetmo/hetmo/tree/StoppingRules", "admits", "([III)Z"⟩ : MethodName) = true := by first | exact plainFor_of_name (by first | (simp [plainName, overriddenIn, x]; done) | decide +kernel) | exact Jvm.Free.JP.mathPlain rfl (by decide +kernel) | decide +kernel
theorem ef_ad2 (m : MethodId) (za : Addr) (qa : Addr) (xn : Int32) (xt : Int32) : entryFrame m #[(.ref za), (.ref qa), (.int xn), (.int xt)] 9 = mkF m 0 #[rv za, rv qa, iv xn, iv xt, .unset, .unset, .unset, .unset, .unset] [] := by first | (simp [entryFrame, mkF, argsToLocals, Value.category, maxLocals]; done) | rfl
def f_ad2 (xn : Int32) (xt : Int32) (ml : Int32) (sh : UInt64) (sn : Int32) (c0 : Int32) (c1 : Int32) : Int32 := (if c0 < ml then (0 : Int32) else (if c1 < ml then (0 : Int32) else (if sn = 0 then (if dLe (FP.dmul sh (FP.i2d xt)) (FP.i2d (((0 : Int32) + c0) + c1)) then (1 : Int32) else (0 : Int32)) else (if dLe (FP.dmul sh (FP.i2d xn)) (FP.i2d (((0 : Int32) + c0) + c1)) then (1 : Int32) else (0 : Int32)))))
def Q_ad2 (Z : State) (za : Addr) (qa : Addr) (xn : Int32) (xt : Int32) (ml : Int32) (sh : UInt64) (sn : Int32) (qk : ClassId) (c0 : Int32) (c1 : Int32) (h0 : Heap) (n0 : Nat) (v : Option Value) (h : Heap) (L : List Loc) : Prop := v = some (.int (f_ad2 xn xt ml sh sn c0 c1)) ∧ Fr n0 L ∧ h = h0
set_option maxRecDepth 65536 in
set_option maxHeartbeats 40000000 in
theorem rm_ad2 (l : Launch) (Z : State) (a0 : Array Value) (hw : ∀ d ∈ tables_1, d.before a0 Z = true) (ws : List Jvm.Cond) (za : Addr) (qa : Addr) (xn : Int32) (xt : Int32) (ml : Int32) (sh : UInt64) (sn : Int32) (qk : ClassId) (c0 : Int32) (c1 : Int32) (h0 : Heap) (n0 : Nat) (Z0 : n0 ≤ h0.size) (P0 : Fld Z h0 za "com/example/hetmo/hetmo/tree/StoppingRules" "_minLeaf" "I" (.int ml)) (P1 : Fld Z h0 za "com/example/hetmo/hetmo/tree/StoppingRules" "_minShare" "D" (.double sh)) (P2 : Fld Z h0 za "com/example/hetmo/hetmo/tree/StoppingRules" "_shareOfNode" "Z" (.int sn)) (P3 : Arv Z h0 qa qk .int (2 : Int32) [(.int c0), (.int c1)] (.int (0 : Int32))) (hsh : Jvm.Free.Fl.Fin64 sh)  :
    MetFree l (⟨"com/example/hetmo/hetmo/tree/StoppingRules", "admits", "([III)Z"⟩ : MethodName) (head1 (Jvm.Cond.code (⟨"com/example/hetmo/hetmo/tree/StoppingRules", "admits", "([III)Z"⟩ : MethodName) prog_22_method_9_code 9 (some .boolean) :: ws) ({ frames := 0, cells := 0, slots := 0, locals := 0 } : Room)) (fun a U => a = #[(.ref za), (.ref qa), (.int xn), (.int xt)] ∧ Z.Warmed39 U.vm ∧ U.heap = h0) (fun _ _ _ _ _ => True) (fun _ U o U' => ∃ v L, o = .returned v ∧ Q_ad2 Z za qa xn xt ml sh sn qk c0 c1 h0 n0 v U'.heap L ∧ FrameEnd U o U' L ({ frames := 0, cells := 0, slots := 0, locals := 0 } : Room).cells ({ frames := 0, cells := 0, slots := 0, locals := 0 } : Room).slots) := by
  refine MetFree.of_bodySF pf_ad2 hisR ?_
  intro p e s m args below meth c s₁ Bd hml0 hP hK
  obtain ⟨rfl, hZ, hh⟩ := hP
  have hx := Bd.exec
  have hby := Bd.bytes
  have hml : c.maxLocals = 9 := hml0
  have hown : s.vm.findClass "com/example/hetmo/hetmo/tree/StoppingRules" = some m.cls := findClass_of_methodNamed Bd.named
  have hnm := (name_of_methodNamed Bd.named Bd.method).1
  have X0 : Stand p l e ({ frames := 0, cells := 0, slots := 0, locals := 0 } : Room) s m #[(.ref za), (.ref qa), (.int xn), (.int xt)] below meth c s₁ [] 0 0 := Stand.of_body Bd
  have e0 : s₁.heap = h0 := by rw [← hh, Bd.state]; rfl
  have N0 := Fr.nil n0
  obtain ⟨S0, hS0⟩ : ∃ z, z = s₁.setTop (entryFrame m #[(.ref za), (.ref qa), (.int xn), (.int xt)] 9) := ⟨_, rfl⟩
  rw [← hS0]
  have g0 : Goes p e below S0 (s₁.setTop (mkF m 0 #[rv za, rv qa, iv xn, iv xt, .unset, .unset, .unset, .unset, .unset] [])) := fun t k => by rw [hS0]; exact castTop (ef_ad2 m za qa xn xt) k
  have g129 : Goes p e below S0 (s₁.setTop (mkF m 8 #[rv za, rv qa, iv xn, iv xt, iv (0 : Int32), rv qa, .unset, .unset, .unset] [(.ref qa)])) := fun t k => g0 t (by
    refine XT.iconstV X0.here hx rfl (0 : Int32) (hb hby d5_0) (by decide) ?_
    show Go p e below t s₁ m 1 #[rv za, rv qa, iv xn, iv xt, .unset, .unset, .unset, .unset, .unset] [(.int (0 : Int32))]
    refine XS.istore X0.here hx rfl (hb hby d5_1) rfl (l' := #[rv za, rv qa, iv xn, iv xt, iv (0 : Int32), .unset, .unset, .unset, .unset]) rfl ?_
    show Go p e below t s₁ m 3 #[rv za, rv qa, iv xn, iv xt, iv (0 : Int32), .unset, .unset, .unset, .unset] []
    refine XS.aloadN X0.here hx rfl (hb hby d5_3) rfl rfl ?_
    show Go p e below t s₁ m 4 #[rv za, rv qa, iv xn, iv xt, iv (0 : Int32), .unset, .unset, .unset, .unset] [(.ref qa)]
    refine XS.astore X0.here hx rfl (hb hby d5_4) rfl rfl (l' := #[rv za, rv qa, iv xn, iv xt, iv (0 : Int32), rv qa, .unset, .unset, .unset]) rfl ?_
    show Go p e below t s₁ m 6 #[rv za, rv qa, iv xn, iv xt, iv (0 : Int32), rv qa, .unset, .unset, .unset] []
    refine XS.aload X0.here hx rfl (hb hby d5_6) rfl rfl ?_
    show Go p e below t s₁ m 8 #[rv za, rv qa, iv xn, iv xt, iv (0 : Int32), rv qa, .unset, .unset, .unset] [(.ref qa)]
    exact k)
  obtain ⟨cl130, Ar130, q130, S130, M130, H130, G130⟩ := id P3
  have g131 : Goes p e below S0 (s₁.setTop (mkF m 25 #[rv za, rv qa, iv xn, iv xt, iv (0 : Int32), rv qa, iv (2 : Int32), iv (0 : Int32), .unset] [(.int (0 : Int32)), (.ref qa)])) := fun t k => g129 t (by
    refine X0.arraylength hx (by rw [e0]; exact Ar130.1) (State.isArrayOf_alike hZ.alike Ar130.2.1) (g := (mkF m 8 #[rv za, rv qa, iv xn, iv xt, iv (0 : Int32), rv qa, .unset, .unset, .unset] [(.ref qa)])) rfl rfl (hb hby d5_8) _ ?_
    rw [len_of S130 M130]
    show Go p e below t s₁ m 9 #[rv za, rv qa, iv xn, iv xt, iv (0 : Int32), rv qa, .unset, .unset, .unset] [(.int (2 : Int32))]
    refine XS.istore X0.here hx rfl (hb hby d5_9) rfl (l' := #[rv za, rv qa, iv xn, iv xt, iv (0 : Int32), rv qa, iv (2 : Int32), .unset, .unset]) rfl ?_
    show Go p e below t s₁ m 11 #[rv za, rv qa, iv xn, iv xt, iv (0 : Int32), rv qa, iv (2 : Int32), .unset, .unset] []
    refine XT.iconstV X0.here hx rfl (0 : Int32) (hb hby d5_11) (by decide) ?_
    show Go p e below t s₁ m 12 #[rv za, rv qa, iv xn, iv xt, iv (0 : Int32), rv qa, iv (2 : Int32), .unset, .unset] [(.int (0 : Int32))]
    refine XS.istore X0.here hx rfl (hb hby d5_12) rfl (l' := #[rv za, rv qa, iv xn, iv xt, iv (0 : Int32), rv qa, iv (2 : Int32), iv (0 : Int32), .unset]) rfl ?_
    show Go p e below t s₁ m 14 #[rv za, rv qa, iv xn, iv xt, iv (0 : Int32), rv qa, iv (2 : Int32), iv (0 : Int32), .unset] []
    refine XS.iload X0.here hx rfl (hb hby d5_14) rfl ?_
    show Go p e below t s₁ m 16 #[rv za, rv qa, iv xn, iv xt, iv (0 : Int32), rv qa, iv (2 : Int32), iv (0 : Int32), .unset] [(.int (0 : Int32))]
    refine XS.iload X0.here hx rfl (hb hby d5_16) rfl ?_
    show Go p e below t s₁ m 18 #[rv za, rv qa, iv xn, iv xt, iv (0 : Int32), rv qa, iv (2 : Int32), iv (0 : Int32), .unset] [(.int (2 : Int32)), (.int (0 : Int32))]
    refine XS.icmpNo X0.here hx rfl (hb hby d5_18) rfl (XT.ii_ge_f (by decide)) ?_
    show Go p e below t s₁ m 21 #[rv za, rv qa, iv xn, iv xt, iv (0 : Int32), rv qa, iv (2 : Int32), iv (0 : Int32), .unset] []
    refine XS.aload X0.here hx rfl (hb hby d5_21) rfl rfl ?_
    show Go p e below t s₁ m 23 #[rv za, rv qa, iv xn, iv xt, iv (0 : Int32), rv qa, iv (2 : Int32), iv (0 : Int32), .unset] [(.ref qa)]
    refine XS.iload X0.here hx rfl (hb hby d5_23) rfl ?_
    show Go p e below t s₁ m 25 #[rv za, rv qa, iv xn, iv xt, iv (0 : Int32), rv qa, iv (2 : Int32), iv (0 : Int32), .unset] [(.int (0 : Int32)), (.ref qa)]
    exact k)
  obtain ⟨cl132, Ar132, q132, S132, M132, H132, G132⟩ := id P3
  have g133 : Goes p e below S0 (s₁.setTop (mkF m 31 #[rv za, rv qa, iv xn, iv xt, iv (0 : Int32), rv qa, iv (2 : Int32), iv (0 : Int32), iv c0] [(.ref za), (.int c0)])) := fun t k => g131 t (by
    refine X0.iaload hx (j := (0 : Int32)) (v := (.int c0)) (by rw [e0]; exact Ar132.1) (State.isArrayOf_alike hZ.alike Ar132.2.1) Ar132.2.2 (inb_of S132 ⟨by decide, by decide⟩) (H132.at (inb_of S132 ⟨by decide, by decide⟩) rfl) (g := (mkF m 25 #[rv za, rv qa, iv xn, iv xt, iv (0 : Int32), rv qa, iv (2 : Int32), iv (0 : Int32), .unset] [(.int (0 : Int32)), (.ref qa)])) rfl rfl (hb hby d5_25) _ ?_
    show Go p e below t s₁ m 26 #[rv za, rv qa, iv xn, iv xt, iv (0 : Int32), rv qa, iv (2 : Int32), iv (0 : Int32), .unset] [(.int c0)]
    refine XS.istore X0.here hx rfl (hb hby d5_26) rfl (l' := #[rv za, rv qa, iv xn, iv xt, iv (0 : Int32), rv qa, iv (2 : Int32), iv (0 : Int32), iv c0]) rfl ?_
    show Go p e below t s₁ m 28 #[rv za, rv qa, iv xn, iv xt, iv (0 : Int32), rv qa, iv (2 : Int32), iv (0 : Int32), iv c0] []
    refine XS.iload X0.here hx rfl (hb hby d5_28) rfl ?_
    show Go p e below t s₁ m 30 #[rv za, rv qa, iv xn, iv xt, iv (0 : Int32), rv qa, iv (2 : Int32), iv (0 : Int32), iv c0] [(.int c0)]
    refine XS.aloadN X0.here hx rfl (hb hby d5_30) rfl rfl ?_
    show Go p e below t s₁ m 31 #[rv za, rv qa, iv xn, iv xt, iv (0 : Int32), rv qa, iv (2 : Int32), iv (0 : Int32), iv c0] [(.ref za), (.int c0)]
    exact k)
  obtain ⟨T134, X134, e134, st134⟩ := getF X0 hx hZ hown (host := "") (Or.inl (hw _ (List.mem_of_getElem? (i := 25) rfl))) Via.refl e0 P0 (g := (mkF m 31 #[rv za, rv qa, iv xn, iv xt, iv (0 : Int32), rv qa, iv (2 : Int32), iv (0 : Int32), iv c0] [(.ref za), (.int c0)])) rfl rfl (hb hby d5_31)
  have g135 : Goes p e below S0 (T134.setTop (mkF m 34 #[rv za, rv qa, iv xn, iv xt, iv (0 : Int32), rv qa, iv (2 : Int32), iv (0 : Int32), iv c0] [(.int ml), (.int c0)])) := fun t k => g133 t (st134 t k)
  by_cases h136 : c0 < ml
  · skip
    have g137 : Goes p e below S0 (T134.setTop (mkF m 38 #[rv za, rv qa, iv xn, iv xt, iv (0 : Int32), rv qa, iv (2 : Int32), iv (0 : Int32), iv c0] [(.int (0 : Int32))])) := fun t k => g135 t (by
      refine XS.icmpNo X134.here hx rfl (hb hby d5_34) rfl (XT.ii_ge_f h136) ?_
      show Go p e below t T134 m 37 #[rv za, rv qa, iv xn, iv xt, iv (0 : Int32), rv qa, iv (2 : Int32), iv (0 : Int32), iv c0] []
      refine XT.iconstV X134.here hx rfl (0 : Int32) (hb hby d5_37) (by decide) ?_
      show Go p e below t T134 m 38 #[rv za, rv qa, iv xn, iv xt, iv (0 : Int32), rv qa, iv (2 : Int32), iv (0 : Int32), iv c0] [(.int (0 : Int32))]
      exact k)
    obtain ⟨fs, hr, hrun, hended, hW, hsame⟩ := X134.leave (v := some (.int (0 : Int32))) (fun h => by rw [Bd.returns] at h; cases h)
    refine ⟨_, _, g137 _ (retN X134 hx (t := .boolean) Bd.returns (by simp) (hb hby d5_38) hr), hrun, hended, _, _, rfl, ?_, ⟨_, rfl⟩, hW, hsame.mono (by decide) (by decide)⟩
    show Q_ad2 Z za qa xn xt ml sh sn qk c0 c1 h0 n0 _ T134.heap _
    rw [e134]
    exact ⟨by unfold f_ad2; rw [if_pos h136], N0, rfl⟩
  · skip
    have g138 : Goes p e below S0 (T134.setTop (mkF m 25 #[rv za, rv qa, iv xn, iv xt, iv ((0 : Int32) + c0), rv qa, iv (2 : Int32), iv (1 : Int32), iv c0] [(.int (1 : Int32)), (.ref qa)])) := fun t k => g135 t (by
      refine XS.icmpYes X134.here hx rfl (pc0 := 34) (pc' := 39) rfl (hb hby d5_34) rfl (XT.ii_ge_t h136) (by decide) (by decide) ?_
      show Go p e below t T134 m 39 #[rv za, rv qa, iv xn, iv xt, iv (0 : Int32), rv qa, iv (2 : Int32), iv (0 : Int32), iv c0] []
      refine XS.iload X134.here hx rfl (hb hby d5_39) rfl ?_
      show Go p e below t T134 m 41 #[rv za, rv qa, iv xn, iv xt, iv (0 : Int32), rv qa, iv (2 : Int32), iv (0 : Int32), iv c0] [(.int (0 : Int32))]
      refine XS.iload X134.here hx rfl (hb hby d5_41) rfl ?_
      show Go p e below t T134 m 43 #[rv za, rv qa, iv xn, iv xt, iv (0 : Int32), rv qa, iv (2 : Int32), iv (0 : Int32), iv c0] [(.int c0), (.int (0 : Int32))]
      refine XS.iadd X134.here hx rfl (hb hby d5_43) rfl ?_
      show Go p e below t T134 m 44 #[rv za, rv qa, iv xn, iv xt, iv (0 : Int32), rv qa, iv (2 : Int32), iv (0 : Int32), iv c0] [(.int ((0 : Int32) + c0))]
      refine XS.istore X134.here hx rfl (hb hby d5_44) rfl (l' := #[rv za, rv qa, iv xn, iv xt, iv ((0 : Int32) + c0), rv qa, iv (2 : Int32), iv (0 : Int32), iv c0]) rfl ?_
      show Go p e below t T134 m 46 #[rv za, rv qa, iv xn, iv xt, iv ((0 : Int32) + c0), rv qa, iv (2 : Int32), iv (0 : Int32), iv c0] []
      refine XT.iincV X134.here hx rfl (1 : Int32) (hb hby d5_46) (by decide) rfl (l' := #[rv za, rv qa, iv xn, iv xt, iv ((0 : Int32) + c0), rv qa, iv (2 : Int32), iv (1 : Int32), iv c0]) rfl ?_
      show Go p e below t T134 m 49 #[rv za, rv qa, iv xn, iv xt, iv ((0 : Int32) + c0), rv qa, iv (2 : Int32), iv (1 : Int32), iv c0] []
      refine XS.goto X134.here hx rfl (pc0 := 49) (pc' := 14) rfl (hb hby d5_49) (by decide) (by decide) ?_
      show Go p e below t T134 m 14 #[rv za, rv qa, iv xn, iv xt, iv ((0 : Int32) + c0), rv qa, iv (2 : Int32), iv (1 : Int32), iv c0] []
      refine XS.iload X134.here hx rfl (hb hby d5_14) rfl ?_
      show Go p e below t T134 m 16 #[rv za, rv qa, iv xn, iv xt, iv ((0 : Int32) + c0), rv qa, iv (2 : Int32), iv (1 : Int32), iv c0] [(.int (1 : Int32))]
      refine XS.iload X134.here hx rfl (hb hby d5_16) rfl ?_
      show Go p e below t T134 m 18 #[rv za, rv qa, iv xn, iv xt, iv ((0 : Int32) + c0), rv qa, iv (2 : Int32), iv (1 : Int32), iv c0] [(.int (2 : Int32)), (.int (1 : Int32))]
      refine XS.icmpNo X134.here hx rfl (hb hby d5_18) rfl (XT.ii_ge_f (by decide)) ?_
      show Go p e below t T134 m 21 #[rv za, rv qa, iv xn, iv xt, iv ((0 : Int32) + c0), rv qa, iv (2 : Int32), iv (1 : Int32), iv c0] []
      refine XS.aload X134.here hx rfl (hb hby d5_21) rfl rfl ?_
      show Go p e below t T134 m 23 #[rv za, rv qa, iv xn, iv xt, iv ((0 : Int32) + c0), rv qa, iv (2 : Int32), iv (1 : Int32), iv c0] [(.ref qa)]
      refine XS.iload X134.here hx rfl (hb hby d5_23) rfl ?_
      show Go p e below t T134 m 25 #[rv za, rv qa, iv xn, iv xt, iv ((0 : Int32) + c0), rv qa, iv (2 : Int32), iv (1 : Int32), iv c0] [(.int (1 : Int32)), (.ref qa)]
      exact k)
    obtain ⟨cl139, Ar139, q139, S139, M139, H139, G139⟩ := id P3
    have g140 : Goes p e below S0 (T134.setTop (mkF m 31 #[rv za, rv qa, iv xn, iv xt, iv ((0 : Int32) + c0), rv qa, iv (2 : Int32), iv (1 : Int32), iv c1] [(.ref za), (.int c1)])) := fun t k => g138 t (by
      refine X134.iaload hx (j := (1 : Int32)) (v := (.int c1)) (by rw [e134]; exact Ar139.1) (State.isArrayOf_alike hZ.alike Ar139.2.1) Ar139.2.2 (inb_of S139 ⟨by decide, by decide⟩) (H139.at (inb_of S139 ⟨by decide, by decide⟩) rfl) (g := (mkF m 25 #[rv za, rv qa, iv xn, iv xt, iv ((0 : Int32) + c0), rv qa, iv (2 : Int32), iv (1 : Int32), iv c0] [(.int (1 : Int32)), (.ref qa)])) rfl rfl (hb hby d5_25) _ ?_
      show Go p e below t T134 m 26 #[rv za, rv qa, iv xn, iv xt, iv ((0 : Int32) + c0), rv qa, iv (2 : Int32), iv (1 : Int32), iv c0] [(.int c1)]
      refine XS.istore X134.here hx rfl (hb hby d5_26) rfl (l' := #[rv za, rv qa, iv xn, iv xt, iv ((0 : Int32) + c0), rv qa, iv (2 : Int32), iv (1 : Int32), iv c1]) rfl ?_
      show Go p e below t T134 m 28 #[rv za, rv qa, iv xn, iv xt, iv ((0 : Int32) + c0), rv qa, iv (2 : Int32), iv (1 : Int32), iv c1] []
      refine XS.iload X134.here hx rfl (hb hby d5_28) rfl ?_
      show Go p e below t T134 m 30 #[rv za, rv qa, iv xn, iv xt, iv ((0 : Int32) + c0), rv qa, iv (2 : Int32), iv (1 : Int32), iv c1] [(.int c1)]
      refine XS.aloadN X134.here hx rfl (hb hby d5_30) rfl rfl ?_
      show Go p e below t T134 m 31 #[rv za, rv qa, iv xn, iv xt, iv ((0 : Int32) + c0), rv qa, iv (2 : Int32), iv (1 : Int32), iv c1] [(.ref za), (.int c1)]
      exact k)
    obtain ⟨T141, X141, e141, st141⟩ := getF X134 hx hZ hown (host := "") (Or.inl (hw _ (List.mem_of_getElem? (i := 25) rfl))) Via.refl e134 P0 (g := (mkF m 31 #[rv za, rv qa, iv xn, iv xt, iv ((0 : Int32) + c0), rv qa, iv (2 : Int32), iv (1 : Int32), iv c1] [(.ref za), (.int c1)])) rfl rfl (hb hby d5_31)
    have g142 : Goes p e below S0 (T141.setTop (mkF m 34 #[rv za, rv qa, iv xn, iv xt, iv ((0 : Int32) + c0), rv qa, iv (2 : Int32), iv (1 : Int32), iv c1] [(.int ml), (.int c1)])) := fun t k => g140 t (st141 t k)
    by_cases h143 : c1 < ml
    · skip
      have g144 : Goes p e below S0 (T141.setTop (mkF m 38 #[rv za, rv qa, iv xn, iv xt, iv ((0 : Int32) + c0), rv qa, iv (2 : Int32), iv (1 : Int32), iv c1] [(.int (0 : Int32))])) := fun t k => g142 t (by
        refine XS.icmpNo X141.here hx rfl (hb hby d5_34) rfl (XT.ii_ge_f h143) ?_
        show Go p e below t T141 m 37 #[rv za, rv qa, iv xn, iv xt, iv ((0 : Int32) + c0), rv qa, iv (2 : Int32), iv (1 : Int32), iv c1] []
        refine XT.iconstV X141.here hx rfl (0 : Int32) (hb hby d5_37) (by decide) ?_
        show Go p e below t T141 m 38 #[rv za, rv qa, iv xn, iv xt, iv ((0 : Int32) + c0), rv qa, iv (2 : Int32), iv (1 : Int32), iv c1] [(.int (0 : Int32))]
        exact k)
      obtain ⟨fs, hr, hrun, hended, hW, hsame⟩ := X141.leave (v := some (.int (0 : Int32))) (fun h => by rw [Bd.returns] at h; cases h)
      refine ⟨_, _, g144 _ (retN X141 hx (t := .boolean) Bd.returns (by simp) (hb hby d5_38) hr), hrun, hended, _, _, rfl, ?_, ⟨_, rfl⟩, hW, hsame.mono (by decide) (by decide)⟩
      show Q_ad2 Z za qa xn xt ml sh sn qk c0 c1 h0 n0 _ T141.heap _
      rw [e141]
      exact ⟨by unfold f_ad2; rw [if_neg h136, if_pos h143], N0, rfl⟩
    · skip
      have g145 : Goes p e below S0 (T141.setTop (mkF m 56 #[rv za, rv qa, iv xn, iv xt, iv (((0 : Int32) + c0) + c1), rv qa, iv (2 : Int32), iv (2 : Int32), iv c1] [(.ref za), (.double (FP.i2d (((0 : Int32) + c0) + c1)))])) := fun t k => g142 t (by
        refine XS.icmpYes X141.here hx rfl (pc0 := 34) (pc' := 39) rfl (hb hby d5_34) rfl (XT.ii_ge_t h143) (by decide) (by decide) ?_
        show Go p e below t T141 m 39 #[rv za, rv qa, iv xn, iv xt, iv ((0 : Int32) + c0), rv qa, iv (2 : Int32), iv (1 : Int32), iv c1] []
        refine XS.iload X141.here hx rfl (hb hby d5_39) rfl ?_
        show Go p e below t T141 m 41 #[rv za, rv qa, iv xn, iv xt, iv ((0 : Int32) + c0), rv qa, iv (2 : Int32), iv (1 : Int32), iv c1] [(.int ((0 : Int32) + c0))]
        refine XS.iload X141.here hx rfl (hb hby d5_41) rfl ?_
        show Go p e below t T141 m 43 #[rv za, rv qa, iv xn, iv xt, iv ((0 : Int32) + c0), rv qa, iv (2 : Int32), iv (1 : Int32), iv c1] [(.int c1), (.int ((0 : Int32) + c0))]
        refine XS.iadd X141.here hx rfl (hb hby d5_43) rfl ?_
        show Go p e below t T141 m 44 #[rv za, rv qa, iv xn, iv xt, iv ((0 : Int32) + c0), rv qa, iv (2 : Int32), iv (1 : Int32), iv c1] [(.int (((0 : Int32) + c0) + c1))]
        refine XS.istore X141.here hx rfl (hb hby d5_44) rfl (l' := #[rv za, rv qa, iv xn, iv xt, iv (((0 : Int32) + c0) + c1), rv qa, iv (2 : Int32), iv (1 : Int32), iv c1]) rfl ?_
        show Go p e below t T141 m 46 #[rv za, rv qa, iv xn, iv xt, iv (((0 : Int32) + c0) + c1), rv qa, iv (2 : Int32), iv (1 : Int32), iv c1] []
        refine XT.iincV X141.here hx rfl (1 : Int32) (hb hby d5_46) (by decide) rfl (l' := #[rv za, rv qa, iv xn, iv xt, iv (((0 : Int32) + c0) + c1), rv qa, iv (2 : Int32), iv (2 : Int32), iv c1]) rfl ?_
        show Go p e below t T141 m 49 #[rv za, rv qa, iv xn, iv xt, iv (((0 : Int32) + c0) + c1), rv qa, iv (2 : Int32), iv (2 : Int32), iv c1] []
        refine XS.goto X141.here hx rfl (pc0 := 49) (pc' := 14) rfl (hb hby d5_49) (by decide) (by decide) ?_
        show Go p e below t T141 m 14 #[rv za, rv qa, iv xn, iv xt, iv (((0 : Int32) + c0) + c1), rv qa, iv (2 : Int32), iv (2 : Int32), iv c1] []
        refine XS.iload X141.here hx rfl (hb hby d5_14) rfl ?_
        show Go p e below t T141 m 16 #[rv za, rv qa, iv xn, iv xt, iv (((0 : Int32) + c0) + c1), rv qa, iv (2 : Int32), iv (2 : Int32), iv c1] [(.int (2 : Int32))]
        refine XS.iload X141.here hx rfl (hb hby d5_16) rfl ?_
        show Go p e below t T141 m 18 #[rv za, rv qa, iv xn, iv xt, iv (((0 : Int32) + c0) + c1), rv qa, iv (2 : Int32), iv (2 : Int32), iv c1] [(.int (2 : Int32)), (.int (2 : Int32))]
        refine XS.icmpYes X141.here hx rfl (pc0 := 18) (pc' := 52) rfl (hb hby d5_18) rfl (XT.ii_ge_t (by decide)) (by decide) (by decide) ?_
        show Go p e below t T141 m 52 #[rv za, rv qa, iv xn, iv xt, iv (((0 : Int32) + c0) + c1), rv qa, iv (2 : Int32), iv (2 : Int32), iv c1] []
        refine XS.iload X141.here hx rfl (hb hby d5_52) rfl ?_
        show Go p e below t T141 m 54 #[rv za, rv qa, iv xn, iv xt, iv (((0 : Int32) + c0) + c1), rv qa, iv (2 : Int32), iv (2 : Int32), iv c1] [(.int (((0 : Int32) + c0) + c1))]
        refine XS.i2dS X141.here hx rfl (hb hby d5_54) rfl rfl ?_
        show Go p e below t T141 m 55 #[rv za, rv qa, iv xn, iv xt, iv (((0 : Int32) + c0) + c1), rv qa, iv (2 : Int32), iv (2 : Int32), iv c1] [(.double (FP.i2d (((0 : Int32) + c0) + c1)))]
        refine XS.aloadN X141.here hx rfl (hb hby d5_55) rfl rfl ?_
        show Go p e below t T141 m 56 #[rv za, rv qa, iv xn, iv xt, iv (((0 : Int32) + c0) + c1), rv qa, iv (2 : Int32), iv (2 : Int32), iv c1] [(.ref za), (.double (FP.i2d (((0 : Int32) + c0) + c1)))]
        exact k)
      obtain ⟨T146, X146, e146, st146⟩ := getF X141 hx hZ hown (host := "") (Or.inl (hw _ (List.mem_of_getElem? (i := 27) rfl))) Via.refl e141 P1 (g := (mkF m 56 #[rv za, rv qa, iv xn, iv xt, iv (((0 : Int32) + c0) + c1), rv qa, iv (2 : Int32), iv (2 : Int32), iv c1] [(.ref za), (.double (FP.i2d (((0 : Int32) + c0) + c1)))])) rfl rfl (hb hby d5_56)
      have g147 : Goes p e below S0 (T146.setTop (mkF m 59 #[rv za, rv qa, iv xn, iv xt, iv (((0 : Int32) + c0) + c1), rv qa, iv (2 : Int32), iv (2 : Int32), iv c1] [(.double sh), (.double (FP.i2d (((0 : Int32) + c0) + c1)))])) := fun t k => g145 t (st146 t k)
      have g148 : Goes p e below S0 (T146.setTop (mkF m 60 #[rv za, rv qa, iv xn, iv xt, iv (((0 : Int32) + c0) + c1), rv qa, iv (2 : Int32), iv (2 : Int32), iv c1] [(.ref za), (.double sh), (.double (FP.i2d (((0 : Int32) + c0) + c1)))])) := fun t k => g147 t (by
        refine XS.aloadN X146.here hx rfl (hb hby d5_59) rfl rfl ?_
        show Go p e below t T146 m 60 #[rv za, rv qa, iv xn, iv xt, iv (((0 : Int32) + c0) + c1), rv qa, iv (2 : Int32), iv (2 : Int32), iv c1] [(.ref za), (.double sh), (.double (FP.i2d (((0 : Int32) + c0) + c1)))]
        exact k)
      obtain ⟨T149, X149, e149, st149⟩ := getF X146 hx hZ hown (host := "") (Or.inl (hw _ (List.mem_of_getElem? (i := 35) rfl))) Via.refl e146 P2 (g := (mkF m 60 #[rv za, rv qa, iv xn, iv xt, iv (((0 : Int32) + c0) + c1), rv qa, iv (2 : Int32), iv (2 : Int32), iv c1] [(.ref za), (.double sh), (.double (FP.i2d (((0 : Int32) + c0) + c1)))])) rfl rfl (hb hby d5_60)
      have g150 : Goes p e below S0 (T149.setTop (mkF m 63 #[rv za, rv qa, iv xn, iv xt, iv (((0 : Int32) + c0) + c1), rv qa, iv (2 : Int32), iv (2 : Int32), iv c1] [(.int sn), (.double sh), (.double (FP.i2d (((0 : Int32) + c0) + c1)))])) := fun t k => g148 t (st149 t k)
      by_cases h151 : sn = 0
      · skip
        have g152 : Goes p e below S0 (T149.setTop (mkF m 74 #[rv za, rv qa, iv xn, iv xt, iv (((0 : Int32) + c0) + c1), rv qa, iv (2 : Int32), iv (2 : Int32), iv c1] [(.int (cmpValue (FP.dcmp (FP.i2d (((0 : Int32) + c0) + c1)) (FP.dmul sh (FP.i2d xt))) .l))])) := fun t k => g150 t (by
          refine XS.ifYes X149.here hx rfl (pc0 := 63) (pc' := 70) rfl (hb hby d5_63) rfl (XT.i0_eq_t h151) (by decide) (by decide) ?_
          show Go p e below t T149 m 70 #[rv za, rv qa, iv xn, iv xt, iv (((0 : Int32) + c0) + c1), rv qa, iv (2 : Int32), iv (2 : Int32), iv c1] [(.double sh), (.double (FP.i2d (((0 : Int32) + c0) + c1)))]
          refine XS.iloadN X149.here hx rfl (hb hby d5_70) rfl ?_
          show Go p e below t T149 m 71 #[rv za, rv qa, iv xn, iv xt, iv (((0 : Int32) + c0) + c1), rv qa, iv (2 : Int32), iv (2 : Int32), iv c1] [(.int xt), (.double sh), (.double (FP.i2d (((0 : Int32) + c0) + c1)))]
          refine XS.i2dS X149.here hx rfl (hb hby d5_71) rfl rfl ?_
          show Go p e below t T149 m 72 #[rv za, rv qa, iv xn, iv xt, iv (((0 : Int32) + c0) + c1), rv qa, iv (2 : Int32), iv (2 : Int32), iv c1] [(.double (FP.i2d xt)), (.double sh), (.double (FP.i2d (((0 : Int32) + c0) + c1)))]
          refine XS.dmulS X149.here hx rfl (hb hby d5_72) rfl (Jvm.Free.Fl.dmul_out hsh (Jvm.Free.Fl.i2d_fin _)) rfl ?_
          show Go p e below t T149 m 73 #[rv za, rv qa, iv xn, iv xt, iv (((0 : Int32) + c0) + c1), rv qa, iv (2 : Int32), iv (2 : Int32), iv c1] [(.double (FP.dmul sh (FP.i2d xt))), (.double (FP.i2d (((0 : Int32) + c0) + c1)))]
          refine XS.dcmpS X149.here hx rfl (hb hby d5_73) rfl rfl ?_
          show Go p e below t T149 m 74 #[rv za, rv qa, iv xn, iv xt, iv (((0 : Int32) + c0) + c1), rv qa, iv (2 : Int32), iv (2 : Int32), iv c1] [(.int (cmpValue (FP.dcmp (FP.i2d (((0 : Int32) + c0) + c1)) (FP.dmul sh (FP.i2d xt))) .l))]
          exact k)
        by_cases h153 : dLe (FP.dmul sh (FP.i2d xt)) (FP.i2d (((0 : Int32) + c0) + c1))
        · skip
          have g154 : Goes p e below S0 (T149.setTop (mkF m 82 #[rv za, rv qa, iv xn, iv xt, iv (((0 : Int32) + c0) + c1), rv qa, iv (2 : Int32), iv (2 : Int32), iv c1] [(.int (1 : Int32))])) := fun t k => g152 t (by
            refine XS.ifNo X149.here hx rfl (hb hby d5_74) rfl (dc_l_lt_f h153) ?_
            show Go p e below t T149 m 77 #[rv za, rv qa, iv xn, iv xt, iv (((0 : Int32) + c0) + c1), rv qa, iv (2 : Int32), iv (2 : Int32), iv c1] []
            refine XT.iconstV X149.here hx rfl (1 : Int32) (hb hby d5_77) (by decide) ?_
            show Go p e below t T149 m 78 #[rv za, rv qa, iv xn, iv xt, iv (((0 : Int32) + c0) + c1), rv qa, iv (2 : Int32), iv (2 : Int32), iv c1] [(.int (1 : Int32))]
            refine XS.goto X149.here hx rfl (pc0 := 78) (pc' := 82) rfl (hb hby d5_78) (by decide) (by decide) ?_
            show Go p e below t T149 m 82 #[rv za, rv qa, iv xn, iv xt, iv (((0 : Int32) + c0) + c1), rv qa, iv (2 : Int32), iv (2 : Int32), iv c1] [(.int (1 : Int32))]
            exact k)
          obtain ⟨fs, hr, hrun, hended, hW, hsame⟩ := X149.leave (v := some (.int (1 : Int32))) (fun h => by rw [Bd.returns] at h; cases h)
          refine ⟨_, _, g154 _ (retN X149 hx (t := .boolean) Bd.returns (by simp) (hb hby d5_82) hr), hrun, hended, _, _, rfl, ?_, ⟨_, rfl⟩, hW, hsame.mono (by decide) (by decide)⟩
          show Q_ad2 Z za qa xn xt ml sh sn qk c0 c1 h0 n0 _ T149.heap _
          rw [e149]
          exact ⟨by unfold f_ad2; rw [if_neg h136, if_neg h143, if_pos h151, if_pos h153], N0, rfl⟩
        · skip
          have g155 : Goes p e below S0 (T149.setTop (mkF m 82 #[rv za, rv qa, iv xn, iv xt, iv (((0 : Int32) + c0) + c1), rv qa, iv (2 : Int32), iv (2 : Int32), iv c1] [(.int (0 : Int32))])) := fun t k => g152 t (by
            refine XS.ifYes X149.here hx rfl (pc0 := 74) (pc' := 81) rfl (hb hby d5_74) rfl (dc_l_lt_t h153) (by decide) (by decide) ?_
            show Go p e below t T149 m 81 #[rv za, rv qa, iv xn, iv xt, iv (((0 : Int32) + c0) + c1), rv qa, iv (2 : Int32), iv (2 : Int32), iv c1] []
            refine XT.iconstV X149.here hx rfl (0 : Int32) (hb hby d5_81) (by decide) ?_
            show Go p e below t T149 m 82 #[rv za, rv qa, iv xn, iv xt, iv (((0 : Int32) + c0) + c1), rv qa, iv (2 : Int32), iv (2 : Int32), iv c1] [(.int (0 : Int32))]
            exact k)
          obtain ⟨fs, hr, hrun, hended, hW, hsame⟩ := X149.leave (v := some (.int (0 : Int32))) (fun h => by rw [Bd.returns] at h; cases h)
          refine ⟨_, _, g155 _ (retN X149 hx (t := .boolean) Bd.returns (by simp) (hb hby d5_82) hr), hrun, hended, _, _, rfl, ?_, ⟨_, rfl⟩, hW, hsame.mono (by decide) (by decide)⟩
          show Q_ad2 Z za qa xn xt ml sh sn qk c0 c1 h0 n0 _ T149.heap _
          rw [e149]
          exact ⟨by unfold f_ad2; rw [if_neg h136, if_neg h143, if_pos h151, if_neg h153], N0, rfl⟩
      · skip
        have g156 : Goes p e below S0 (T149.setTop (mkF m 74 #[rv za, rv qa, iv xn, iv xt, iv (((0 : Int32) + c0) + c1), rv qa, iv (2 : Int32), iv (2 : Int32), iv c1] [(.int (cmpValue (FP.dcmp (FP.i2d (((0 : Int32) + c0) + c1)) (FP.dmul sh (FP.i2d xn))) .l))])) := fun t k => g150 t (by
          refine XS.ifNo X149.here hx rfl (hb hby d5_63) rfl (XT.i0_eq_f h151) ?_
          show Go p e below t T149 m 66 #[rv za, rv qa, iv xn, iv xt, iv (((0 : Int32) + c0) + c1), rv qa, iv (2 : Int32), iv (2 : Int32), iv c1] [(.double sh), (.double (FP.i2d (((0 : Int32) + c0) + c1)))]
          refine XS.iloadN X149.here hx rfl (hb hby d5_66) rfl ?_
          show Go p e below t T149 m 67 #[rv za, rv qa, iv xn, iv xt, iv (((0 : Int32) + c0) + c1), rv qa, iv (2 : Int32), iv (2 : Int32), iv c1] [(.int xn), (.double sh), (.double (FP.i2d (((0 : Int32) + c0) + c1)))]
          refine XS.goto X149.here hx rfl (pc0 := 67) (pc' := 71) rfl (hb hby d5_67) (by decide) (by decide) ?_
          show Go p e below t T149 m 71 #[rv za, rv qa, iv xn, iv xt, iv (((0 : Int32) + c0) + c1), rv qa, iv (2 : Int32), iv (2 : Int32), iv c1] [(.int xn), (.double sh), (.double (FP.i2d (((0 : Int32) + c0) + c1)))]
          refine XS.i2dS X149.here hx rfl (hb hby d5_71) rfl rfl ?_
          show Go p e below t T149 m 72 #[rv za, rv qa, iv xn, iv xt, iv (((0 : Int32) + c0) + c1), rv qa, iv (2 : Int32), iv (2 : Int32), iv c1] [(.double (FP.i2d xn)), (.double sh), (.double (FP.i2d (((0 : Int32) + c0) + c1)))]
          refine XS.dmulS X149.here hx rfl (hb hby d5_72) rfl (Jvm.Free.Fl.dmul_out hsh (Jvm.Free.Fl.i2d_fin _)) rfl ?_
          show Go p e below t T149 m 73 #[rv za, rv qa, iv xn, iv xt, iv (((0 : Int32) + c0) + c1), rv qa, iv (2 : Int32), iv (2 : Int32), iv c1] [(.double (FP.dmul sh (FP.i2d xn))), (.double (FP.i2d (((0 : Int32) + c0) + c1)))]
          refine XS.dcmpS X149.here hx rfl (hb hby d5_73) rfl rfl ?_
          show Go p e below t T149 m 74 #[rv za, rv qa, iv xn, iv xt, iv (((0 : Int32) + c0) + c1), rv qa, iv (2 : Int32), iv (2 : Int32), iv c1] [(.int (cmpValue (FP.dcmp (FP.i2d (((0 : Int32) + c0) + c1)) (FP.dmul sh (FP.i2d xn))) .l))]
          exact k)
        by_cases h157 : dLe (FP.dmul sh (FP.i2d xn)) (FP.i2d (((0 : Int32) + c0) + c1))
        · skip
          have g158 : Goes p e below S0 (T149.setTop (mkF m 82 #[rv za, rv qa, iv xn, iv xt, iv (((0 : Int32) + c0) + c1), rv qa, iv (2 : Int32), iv (2 : Int32), iv c1] [(.int (1 : Int32))])) := fun t k => g156 t (by
            refine XS.ifNo X149.here hx rfl (hb hby d5_74) rfl (dc_l_lt_f h157) ?_
            show Go p e below t T149 m 77 #[rv za, rv qa, iv xn, iv xt, iv (((0 : Int32) + c0) + c1), rv qa, iv (2 : Int32), iv (2 : Int32), iv c1] []
            refine XT.iconstV X149.here hx rfl (1 : Int32) (hb hby d5_77) (by decide) ?_
            show Go p e below t T149 m 78 #[rv za, rv qa, iv xn, iv xt, iv (((0 : Int32) + c0) + c1), rv qa, iv (2 : Int32), iv (2 : Int32), iv c1] [(.int (1 : Int32))]
            refine XS.goto X149.here hx rfl (pc0 := 78) (pc' := 82) rfl (hb hby d5_78) (by decide) (by decide) ?_
            show Go p e below t T149 m 82 #[rv za, rv qa, iv xn, iv xt, iv (((0 : Int32) + c0) + c1), rv qa, iv (2 : Int32), iv (2 : Int32), iv c1] [(.int (1 : Int32))]
            exact k)
          obtain ⟨fs, hr, hrun, hended, hW, hsame⟩ := X149.leave (v := some (.int (1 : Int32))) (fun h => by rw [Bd.returns] at h; cases h)
          refine ⟨_, _, g158 _ (retN X149 hx (t := .boolean) Bd.returns (by simp) (hb hby d5_82) hr), hrun, hended, _, _, rfl, ?_, ⟨_, rfl⟩, hW, hsame.mono (by decide) (by decide)⟩
          show Q_ad2 Z za qa xn xt ml sh sn qk c0 c1 h0 n0 _ T149.heap _
          rw [e149]
          exact ⟨by unfold f_ad2; rw [if_neg h136, if_neg h143, if_neg h151, if_pos h157], N0, rfl⟩
        · skip
          have g159 : Goes p e below S0 (T149.setTop (mkF m 82 #[rv za, rv qa, iv xn, iv xt, iv (((0 : Int32) + c0) + c1), rv qa, iv (2 : Int32), iv (2 : Int32), iv c1] [(.int (0 : Int32))])) := fun t k => g156 t (by
            refine XS.ifYes X149.here hx rfl (pc0 := 74) (pc' := 81) rfl (hb hby d5_74) rfl (dc_l_lt_t h157) (by decide) (by decide) ?_
            show Go p e below t T149 m 81 #[rv za, rv qa, iv xn, iv xt, iv (((0 : Int32) + c0) + c1), rv qa, iv (2 : Int32), iv (2 : Int32), iv c1] []
            refine XT.iconstV X149.here hx rfl (0 : Int32) (hb hby d5_81) (by decide) ?_
            show Go p e below t T149 m 82 #[rv za, rv qa, iv xn, iv xt, iv (((0 : Int32) + c0) + c1), rv qa, iv (2 : Int32), iv (2 : Int32), iv c1] [(.int (0 : Int32))]
            exact k)
          obtain ⟨fs, hr, hrun, hended, hW, hsame⟩ := X149.leave (v := some (.int (0 : Int32))) (fun h => by rw [Bd.returns] at h; cases h)
          refine ⟨_, _, g159 _ (retN X149 hx (t := .boolean) Bd.returns (by simp) (hb hby d5_82) hr), hrun, hended, _, _, rfl, ?_, ⟨_, rfl⟩, hW, hsame.mono (by decide) (by decide)⟩
          show Q_ad2 Z za qa xn xt ml sh sn qk c0 c1 h0 n0 _ T149.heap _
          rw [e149]
          exact ⟨by unfold f_ad2; rw [if_neg h136, if_neg h143, if_neg h151, if_neg h157], N0, rfl⟩
theorem pf_ad3 : plainFor (⟨"com/example/hetmo/hetmo/tree/StoppingRules", "admits", "([III)Z"⟩ : MethodName) = true := by first | exact plainFor_of_name (by first | (simp [plainName, overriddenIn, x]; done) | decide +kernel) | exact Jvm.Free.JP.mathPlain rfl (by decide +kernel) | decide +kernel
theorem ef_ad3 (m : MethodId) (za : Addr) (qa : Addr) (xn : Int32) (xt : Int32) : entryFrame m #[(.ref za), (.ref qa), (.int xn), (.int xt)] 9 = mkF m 0 #[rv za, rv qa, iv xn, iv xt, .unset, .unset, .unset, .unset, .unset] [] := by first | (simp [entryFrame, mkF, argsToLocals, Value.category, maxLocals]; done) | rfl
def f_ad3 (xn : Int32) (xt : Int32) (ml : Int32) (sh : UInt64) (sn : Int32) (c0 : Int32) (c1 : Int32) (c2 : Int32) : Int32 := (if c0 < ml then (0 : Int32) else (if c1 < ml then (0 : Int32) else (if c2 < ml then (0 : Int32) else (if sn = 0 then (if dLe (FP.dmul sh (FP.i2d xt)) (FP.i2d ((((0 : Int32) + c0) + c1) + c2)) then (1 : Int32) else (0 : Int32)) else (if dLe (FP.dmul sh (FP.i2d xn)) (FP.i2d ((((0 : Int32) + c0) + c1) + c2)) then (1 : Int32) else (0 : Int32))))))
def Q_ad3 (Z : State) (za : Addr) (qa : Addr) (xn : Int32) (xt : Int32) (ml : Int32) (sh : UInt64) (sn : Int32) (qk : ClassId) (c0 : Int32) (c1 : Int32) (c2 : Int32) (h0 : Heap) (n0 : Nat) (v : Option Value) (h : Heap) (L : List Loc) : Prop := v = some (.int (f_ad3 xn xt ml sh sn c0 c1 c2)) ∧ Fr n0 L ∧ h = h0
set_option maxRecDepth 65536 in
set_option maxHeartbeats 40000000 in
theorem rm_ad3 (l : Launch) (Z : State) (a0 : Array Value) (hw : ∀ d ∈ tables_1, d.before a0 Z = true) (ws : List Jvm.Cond) (za : Addr) (qa : Addr) (xn : Int32) (xt : Int32) (ml : Int32) (sh : UInt64) (sn : Int32) (qk : ClassId) (c0 : Int32) (c1 : Int32) (c2 : Int32) (h0 : Heap) (n0 : Nat) (Z0 : n0 ≤ h0.size) (P0 : Fld Z h0 za "com/example/hetmo/hetmo/tree/StoppingRules" "_minLeaf" "I" (.int ml)) (P1 : Fld Z h0 za "com/example/hetmo/hetmo/tree/StoppingRules" "_minShare" "D" (.double sh)) (P2 : Fld Z h0 za "com/example/hetmo/hetmo/tree/StoppingRules" "_shareOfNode" "Z" (.int sn)) (P3 : Arv Z h0 qa qk .int (3 : Int32) [(.int c0), (.int c1), (.int c2)] (.int (0 : Int32))) (hsh : Jvm.Free.Fl.Fin64 sh)  :
    MetFree l (⟨"com/example/hetmo/hetmo/tree/StoppingRules", "admits", "([III)Z"⟩ : MethodName) (head1 (Jvm.Cond.code (⟨"com/example/hetmo/hetmo/tree/StoppingRules", "admits", "([III)Z"⟩ : MethodName) prog_22_method_9_code 9 (some .boolean) :: ws) ({ frames := 0, cells := 0, slots := 0, locals := 0 } : Room)) (fun a U => a = #[(.ref za), (.ref qa), (.int xn), (.int xt)] ∧ Z.Warmed39 U.vm ∧ U.heap = h0) (fun _ _ _ _ _ => True) (fun _ U o U' => ∃ v L, o = .returned v ∧ Q_ad3 Z za qa xn xt ml sh sn qk c0 c1 c2 h0 n0 v U'.heap L ∧ FrameEnd U o U' L ({ frames := 0, cells := 0, slots := 0, locals := 0 } : Room).cells ({ frames := 0, cells := 0, slots := 0, locals := 0 } : Room).slots) := by
  refine MetFree.of_bodySF pf_ad3 hisR ?_
  intro p e s m args below meth c s₁ Bd hml0 hP hK
  obtain ⟨rfl, hZ, hh⟩ := hP
  have hx := Bd.exec
  have hby := Bd.bytes
  have hml : c.maxLocals = 9 := hml0
  have hown : s.vm.findClass "com/example/hetmo/hetmo/tree/StoppingRules" = some m.cls := findClass_of_methodNamed Bd.named
  have hnm := (name_of_methodNamed Bd.named Bd.method).1
  have X0 : Stand p l e ({ frames := 0, cells := 0, slots := 0, locals := 0 } : Room) s m #[(.ref za), (.ref qa), (.int xn), (.int xt)] below meth c s₁ [] 0 0 := Stand.of_body Bd
  have e0 : s₁.heap = h0 := by rw [← hh, Bd.state]; rfl
  have N0 := Fr.nil n0
  obtain ⟨S0, hS0⟩ : ∃ z, z = s₁.setTop (entryFrame m #[(.ref za), (.ref qa), (.int xn), (.int xt)] 9) := ⟨_, rfl⟩
  rw [← hS0]
  have g0 : Goes p e below S0 (s₁.setTop (mkF m 0 #[rv za, rv qa, iv xn, iv xt, .unset, .unset, .unset, .unset, .unset] [])) := fun t k => by rw [hS0]; exact castTop (ef_ad3 m za qa xn xt) k
  have g160 : Goes p e below S0 (s₁.setTop (mkF m 8 #[rv za, rv qa, iv xn, iv xt, iv (0 : Int32), rv qa, .unset, .unset, .unset] [(.ref qa)])) := fun t k => g0 t (by
    refine XT.iconstV X0.here hx rfl (0 : Int32) (hb hby d5_0) (by decide) ?_
    show Go p e below t s₁ m 1 #[rv za, rv qa, iv xn, iv xt, .unset, .unset, .unset, .unset, .unset] [(.int (0 : Int32))]
    refine XS.istore X0.here hx rfl (hb hby d5_1) rfl (l' := #[rv za, rv qa, iv xn, iv xt, iv (0 : Int32), .unset, .unset, .unset, .unset]) rfl ?_
    show Go p e below t s₁ m 3 #[rv za, rv qa, iv xn, iv xt, iv (0 : Int32), .unset, .unset, .unset, .unset] []
    refine XS.aloadN X0.here hx rfl (hb hby d5_3) rfl rfl ?_
    show Go p e below t s₁ m 4 #[rv za, rv qa, iv xn, iv xt, iv (0 : Int32), .unset, .unset, .unset, .unset] [(.ref qa)]
    refine XS.astore X0.here hx rfl (hb hby d5_4) rfl rfl (l' := #[rv za, rv qa, iv xn, iv xt, iv (0 : Int32), rv qa, .unset, .unset, .unset]) rfl ?_
    show Go p e below t s₁ m 6 #[rv za, rv qa, iv xn, iv xt, iv (0 : Int32), rv qa, .unset, .unset, .unset] []
    refine XS.aload X0.here hx rfl (hb hby d5_6) rfl rfl ?_
    show Go p e below t s₁ m 8 #[rv za, rv qa, iv xn, iv xt, iv (0 : Int32), rv qa, .unset, .unset, .unset] [(.ref qa)]
    exact k)
  obtain ⟨cl161, Ar161, q161, S161, M161, H161, G161⟩ := id P3
  have g162 : Goes p e below S0 (s₁.setTop (mkF m 25 #[rv za, rv qa, iv xn, iv xt, iv (0 : Int32), rv qa, iv (3 : Int32), iv (0 : Int32), .unset] [(.int (0 : Int32)), (.ref qa)])) := fun t k => g160 t (by
    refine X0.arraylength hx (by rw [e0]; exact Ar161.1) (State.isArrayOf_alike hZ.alike Ar161.2.1) (g := (mkF m 8 #[rv za, rv qa, iv xn, iv xt, iv (0 : Int32), rv qa, .unset, .unset, .unset] [(.ref qa)])) rfl rfl (hb hby d5_8) _ ?_
    rw [len_of S161 M161]
    show Go p e below t s₁ m 9 #[rv za, rv qa, iv xn, iv xt, iv (0 : Int32), rv qa, .unset, .unset, .unset] [(.int (3 : Int32))]
    refine XS.istore X0.here hx rfl (hb hby d5_9) rfl (l' := #[rv za, rv qa, iv xn, iv xt, iv (0 : Int32), rv qa, iv (3 : Int32), .unset, .unset]) rfl ?_
    show Go p e below t s₁ m 11 #[rv za, rv qa, iv xn, iv xt, iv (0 : Int32), rv qa, iv (3 : Int32), .unset, .unset] []
    refine XT.iconstV X0.here hx rfl (0 : Int32) (hb hby d5_11) (by decide) ?_
    show Go p e below t s₁ m 12 #[rv za, rv qa, iv xn, iv xt, iv (0 : Int32), rv qa, iv (3 : Int32), .unset, .unset] [(.int (0 : Int32))]
    refine XS.istore X0.here hx rfl (hb hby d5_12) rfl (l' := #[rv za, rv qa, iv xn, iv xt, iv (0 : Int32), rv qa, iv (3 : Int32), iv (0 : Int32), .unset]) rfl ?_
    show Go p e below t s₁ m 14 #[rv za, rv qa, iv xn, iv xt, iv (0 : Int32), rv qa, iv (3 : Int32), iv (0 : Int32), .unset] []
    refine XS.iload X0.here hx rfl (hb hby d5_14) rfl ?_
    show Go p e below t s₁ m 16 #[rv za, rv qa, iv xn, iv xt, iv (0 : Int32), rv qa, iv (3 : Int32), iv (0 : Int32), .unset] [(.int (0 : Int32))]
    refine XS.iload X0.here hx rfl (hb hby d5_16) rfl ?_
    show Go p e below t s₁ m 18 #[rv za, rv qa, iv xn, iv xt, iv (0 : Int32), rv qa, iv (3 : Int32), iv (0 : Int32), .unset] [(.int (3 : Int32)), (.int (0 : Int32))]
    refine XS.icmpNo X0.here hx rfl (hb hby d5_18) rfl (XT.ii_ge_f (by decide)) ?_
    show Go p e below t s₁ m 21 #[rv za, rv qa, iv xn, iv xt, iv (0 : Int32), rv qa, iv (3 : Int32), iv (0 : Int32), .unset] []
    refine XS.aload X0.here hx rfl (hb hby d5_21) rfl rfl ?_
    show Go p e below t s₁ m 23 #[rv za, rv qa, iv xn, iv xt, iv (0 : Int32), rv qa, iv (3 : Int32), iv (0 : Int32), .unset] [(.ref qa)]
    refine XS.iload X0.here hx rfl (hb hby d5_23) rfl ?_
    show Go p e below t s₁ m 25 #[rv za, rv qa, iv xn, iv xt, iv (0 : Int32), rv qa, iv (3 : Int32), iv (0 : Int32), .unset] [(.int (0 : Int32)), (.ref qa)]
    exact k)
  obtain ⟨cl163, Ar163, q163, S163, M163, H163, G163⟩ := id P3
  have g164 : Goes p e below S0 (s₁.setTop (mkF m 31 #[rv za, rv qa, iv xn, iv xt, iv (0 : Int32), rv qa, iv (3 : Int32), iv (0 : Int32), iv c0] [(.ref za), (.int c0)])) := fun t k => g162 t (by
    refine X0.iaload hx (j := (0 : Int32)) (v := (.int c0)) (by rw [e0]; exact Ar163.1) (State.isArrayOf_alike hZ.alike Ar163.2.1) Ar163.2.2 (inb_of S163 ⟨by decide, by decide⟩) (H163.at (inb_of S163 ⟨by decide, by decide⟩) rfl) (g := (mkF m 25 #[rv za, rv qa, iv xn, iv xt, iv (0 : Int32), rv qa, iv (3 : Int32), iv (0 : Int32), .unset] [(.int (0 : Int32)), (.ref qa)])) rfl rfl (hb hby d5_25) _ ?_
    show Go p e below t s₁ m 26 #[rv za, rv qa, iv xn, iv xt, iv (0 : Int32), rv qa, iv (3 : Int32), iv (0 : Int32), .unset] [(.int c0)]
    refine XS.istore X0.here hx rfl (hb hby d5_26) rfl (l' := #[rv za, rv qa, iv xn, iv xt, iv (0 : Int32), rv qa, iv (3 : Int32), iv (0 : Int32), iv c0]) rfl ?_
    show Go p e below t s₁ m 28 #[rv za, rv qa, iv xn, iv xt, iv (0 : Int32), rv qa, iv (3 : Int32), iv (0 : Int32), iv c0] []
    refine XS.iload X0.here hx rfl (hb hby d5_28) rfl ?_
    show Go p e below t s₁ m 30 #[rv za, rv qa, iv xn, iv xt, iv (0 : Int32), rv qa, iv (3 : Int32), iv (0 : Int32), iv c0] [(.int c0)]
    refine XS.aloadN X0.here hx rfl (hb hby d5_30) rfl rfl ?_
    show Go p e below t s₁ m 31 #[rv za, rv qa, iv xn, iv xt, iv (0 : Int32), rv qa, iv (3 : Int32), iv (0 : Int32), iv c0] [(.ref za), (.int c0)]
    exact k)
  obtain ⟨T165, X165, e165, st165⟩ := getF X0 hx hZ hown (host := "") (Or.inl (hw _ (List.mem_of_getElem? (i := 25) rfl))) Via.refl e0 P0 (g := (mkF m 31 #[rv za, rv qa, iv xn, iv xt, iv (0 : Int32), rv qa, iv (3 : Int32), iv (0 : Int32), iv c0] [(.ref za), (.int c0)])) rfl rfl (hb hby d5_31)
  have g166 : Goes p e below S0 (T165.setTop (mkF m 34 #[rv za, rv qa, iv xn, iv xt, iv (0 : Int32), rv qa, iv (3 : Int32), iv (0 : Int32), iv c0] [(.int ml), (.int c0)])) := fun t k => g164 t (st165 t k)
  by_cases h167 : c0 < ml
  · skip
    have g168 : Goes p e below S0 (T165.setTop (mkF m 38 #[rv za, rv qa, iv xn, iv xt, iv (0 : Int32), rv qa, iv (3 : Int32), iv (0 : Int32), iv c0] [(.int (0 : Int32))])) := fun t k => g166 t (by
      refine XS.icmpNo X165.here hx rfl (hb hby d5_34) rfl (XT.ii_ge_f h167) ?_
      show Go p e below t T165 m 37 #[rv za, rv qa, iv xn, iv xt, iv (0 : Int32), rv qa, iv (3 : Int32), iv (0 : Int32), iv c0] []
      refine XT.iconstV X165.here hx rfl (0 : Int32) (hb hby d5_37) (by decide) ?_
      show Go p e below t T165 m 38 #[rv za, rv qa, iv xn, iv xt, iv (0 : Int32), rv qa, iv (3 : Int32), iv (0 : Int32), iv c0] [(.int (0 : Int32))]
      exact k)
    obtain ⟨fs, hr, hrun, hended, hW, hsame⟩ := X165.leave (v := some (.int (0 : Int32))) (fun h => by rw [Bd.returns] at h; cases h)
    refine ⟨_, _, g168 _ (retN X165 hx (t := .boolean) Bd.returns (by simp) (hb hby d5_38) hr), hrun, hended, _, _, rfl, ?_, ⟨_, rfl⟩, hW, hsame.mono (by decide) (by decide)⟩
    show Q_ad3 Z za qa xn xt ml sh sn qk c0 c1 c2 h0 n0 _ T165.heap _
    rw [e165]
    exact ⟨by unfold f_ad3; rw [if_pos h167], N0, rfl⟩
  · skip
    have g169 : Goes p e below S0 (T165.setTop (mkF m 25 #[rv za, rv qa, iv xn, iv xt, iv ((0 : Int32) + c0), rv qa, iv (3 : Int32), iv (1 : Int32), iv c0] [(.int (1 : Int32)), (.ref qa)])) := fun t k => g166 t (by
      refine XS.icmpYes X165.here hx rfl (pc0 := 34) (pc' := 39) rfl (hb hby d5_34) rfl (XT.ii_ge_t h167) (by decide) (by decide) ?_
      show Go p e below t T165 m 39 #[rv za, rv qa, iv xn, iv xt, iv (0 : Int32), rv qa, iv (3 : Int32), iv (0 : Int32), iv c0] []
      refine XS.iload X165.here hx rfl (hb hby d5_39) rfl ?_
      show Go p e below t T165 m 41 #[rv za, rv qa, iv xn, iv xt, iv (0 : Int32), rv qa, iv (3 : Int32), iv (0 : Int32), iv c0] [(.int (0 : Int32))]
      refine XS.iload X165.here hx rfl (hb hby d5_41) rfl ?_
      show Go p e below t T165 m 43 #[rv za, rv qa, iv xn, iv xt, iv (0 : Int32), rv qa, iv (3 : Int32), iv (0 : Int32), iv c0] [(.int c0), (.int (0 : Int32))]
      refine XS.iadd X165.here hx rfl (hb hby d5_43) rfl ?_
      show Go p e below t T165 m 44 #[rv za, rv qa, iv xn, iv xt, iv (0 : Int32), rv qa, iv (3 : Int32), iv (0 : Int32), iv c0] [(.int ((0 : Int32) + c0))]
      refine XS.istore X165.here hx rfl (hb hby d5_44) rfl (l' := #[rv za, rv qa, iv xn, iv xt, iv ((0 : Int32) + c0), rv qa, iv (3 : Int32), iv (0 : Int32), iv c0]) rfl ?_
      show Go p e below t T165 m 46 #[rv za, rv qa, iv xn, iv xt, iv ((0 : Int32) + c0), rv qa, iv (3 : Int32), iv (0 : Int32), iv c0] []
      refine XT.iincV X165.here hx rfl (1 : Int32) (hb hby d5_46) (by decide) rfl (l' := #[rv za, rv qa, iv xn, iv xt, iv ((0 : Int32) + c0), rv qa, iv (3 : Int32), iv (1 : Int32), iv c0]) rfl ?_
      show Go p e below t T165 m 49 #[rv za, rv qa, iv xn, iv xt, iv ((0 : Int32) + c0), rv qa, iv (3 : Int32), iv (1 : Int32), iv c0] []
      refine XS.goto X165.here hx rfl (pc0 := 49) (pc' := 14) rfl (hb hby d5_49) (by decide) (by decide) ?_
      show Go p e below t T165 m 14 #[rv za, rv qa, iv xn, iv xt, iv ((0 : Int32) + c0), rv qa, iv (3 : Int32), iv (1 : Int32), iv c0] []
      refine XS.iload X165.here hx rfl (hb hby d5_14) rfl ?_
      show Go p e below t T165 m 16 #[rv za, rv qa, iv xn, iv xt, iv ((0 : Int32) + c0), rv qa, iv (3 : Int32), iv (1 : Int32), iv c0] [(.int (1 : Int32))]
      refine XS.iload X165.here hx rfl (hb hby d5_16) rfl ?_
      show Go p e below t T165 m 18 #[rv za, rv qa, iv xn, iv xt, iv ((0 : Int32) + c0), rv qa, iv (3 : Int32), iv (1 : Int32), iv c0] [(.int (3 : Int32)), (.int (1 : Int32))]
      refine XS.icmpNo X165.here hx rfl (hb hby d5_18) rfl (XT.ii_ge_f (by decide)) ?_
      show Go p e below t T165 m 21 #[rv za, rv qa, iv xn, iv xt, iv ((0 : Int32) + c0), rv qa, iv (3 : Int32), iv (1 : Int32), iv c0] []
      refine XS.aload X165.here hx rfl (hb hby d5_21) rfl rfl ?_
      show Go p e below t T165 m 23 #[rv za, rv qa, iv xn, iv xt, iv ((0 : Int32) + c0), rv qa, iv (3 : Int32), iv (1 : Int32), iv c0] [(.ref qa)]
      refine XS.iload X165.here hx rfl (hb hby d5_23) rfl ?_
      show Go p e below t T165 m 25 #[rv za, rv qa, iv xn, iv xt, iv ((0 : Int32) + c0), rv qa, iv (3 : Int32), iv (1 : Int32), iv c0] [(.int (1 : Int32)), (.ref qa)]
      exact k)
    obtain ⟨cl170, Ar170, q170, S170, M170, H170, G170⟩ := id P3
    have g171 : Goes p e below S0 (T165.setTop (mkF m 31 #[rv za, rv qa, iv xn, iv xt, iv ((0 : Int32) + c0), rv qa, iv (3 : Int32), iv (1 : Int32), iv c1] [(.ref za), (.int c1)])) := fun t k => g169 t (by
      refine X165.iaload hx (j := (1 : Int32)) (v := (.int c1)) (by rw [e165]; exact Ar170.1) (State.isArrayOf_alike hZ.alike Ar170.2.1) Ar170.2.2 (inb_of S170 ⟨by decide, by decide⟩) (H170.at (inb_of S170 ⟨by decide, by decide⟩) rfl) (g := (mkF m 25 #[rv za, rv qa, iv xn, iv xt, iv ((0 : Int32) + c0), rv qa, iv (3 : Int32), iv (1 : Int32), iv c0] [(.int (1 : Int32)), (.ref qa)])) rfl rfl (hb hby d5_25) _ ?_
      show Go p e below t T165 m 26 #[rv za, rv qa, iv xn, iv xt, iv ((0 : Int32) + c0), rv qa, iv (3 : Int32), iv (1 : Int32), iv c0] [(.int c1)]
      refine XS.istore X165.here hx rfl (hb hby d5_26) rfl (l' := #[rv za, rv qa, iv xn, iv xt, iv ((0 : Int32) + c0), rv qa, iv (3 : Int32), iv (1 : Int32), iv c1]) rfl ?_
      show Go p e below t T165 m 28 #[rv za, rv qa, iv xn, iv xt, iv ((0 : Int32) + c0), rv qa, iv (3 : Int32), iv (1 : Int32), iv c1] []
      refine XS.iload X165.here hx rfl (hb hby d5_28) rfl ?_
      show Go p e below t T165 m 30 #[rv za, rv qa, iv xn, iv xt, iv ((0 : Int32) + c0), rv qa, iv (3 : Int32), iv (1 : Int32), iv c1] [(.int c1)]
      refine XS.aloadN X165.here hx rfl (hb hby d5_30) rfl rfl ?_
      show Go p e below t T165 m 31 #[rv za, rv qa, iv xn, iv xt, iv ((0 : Int32) + c0), rv qa, iv (3 : Int32), iv (1 : Int32), iv c1] [(.ref za), (.int c1)]
      exact k)
    obtain ⟨T172, X172, e172, st172⟩ := getF X165 hx hZ hown (host := "") (Or.inl (hw _ (List.mem_of_getElem? (i := 25) rfl))) Via.refl e165 P0 (g := (mkF m 31 #[rv za, rv qa, iv xn, iv xt, iv ((0 : Int32) + c0), rv qa, iv (3 : Int32), iv (1 : Int32), iv c1] [(.ref za), (.int c1)])) rfl rfl (hb hby d5_31)
    have g173 : Goes p e below S0 (T172.setTop (mkF m 34 #[rv za, rv qa, iv xn, iv xt, iv ((0 : Int32) + c0), rv qa, iv (3 : Int32), iv (1 : Int32), iv c1] [(.int ml), (.int c1)])) := fun t k => g171 t (st172 t k)
    by_cases h174 : c1 < ml
    · skip
      have g175 : Goes p e below S0 (T172.setTop (mkF m 38 #[rv za, rv qa, iv xn, iv xt, iv ((0 : Int32) + c0), rv qa, iv (3 : Int32), iv (1 : Int32), iv c1] [(.int (0 : Int32))])) := fun t k => g173 t (by
        refine XS.icmpNo X172.here hx rfl (hb hby d5_34) rfl (XT.ii_ge_f h174) ?_
        show Go p e below t T172 m 37 #[rv za, rv qa, iv xn, iv xt, iv ((0 : Int32) + c0), rv qa, iv (3 : Int32), iv (1 : Int32), iv c1] []
        refine XT.iconstV X172.here hx rfl (0 : Int32) (hb hby d5_37) (by decide) ?_
        show Go p e below t T172 m 38 #[rv za, rv qa, iv xn, iv xt, iv ((0 : Int32) + c0), rv qa, iv (3 : Int32), iv (1 : Int32), iv c1] [(.int (0 : Int32))]
        exact k)
      obtain ⟨fs, hr, hrun, hended, hW, hsame⟩ := X172.leave (v := some (.int (0 : Int32))) (fun h => by rw [Bd.returns] at h; cases h)
      refine ⟨_, _, g175 _ (retN X172 hx (t := .boolean) Bd.returns (by simp) (hb hby d5_38) hr), hrun, hended, _, _, rfl, ?_, ⟨_, rfl⟩, hW, hsame.mono (by decide) (by decide)⟩
      show Q_ad3 Z za qa xn xt ml sh sn qk c0 c1 c2 h0 n0 _ T172.heap _
      rw [e172]
      exact ⟨by unfold f_ad3; rw [if_neg h167, if_pos h174], N0, rfl⟩
    · skip
      have g176 : Goes p e below S0 (T172.setTop (mkF m 25 #[rv za, rv qa, iv xn, iv xt, iv (((0 : Int32) + c0) + c1), rv qa, iv (3 : Int32), iv (2 : Int32), iv c1] [(.int (2 : Int32)), (.ref qa)])) := fun t k => g173 t (by
        refine XS.icmpYes X172.here hx rfl (pc0 := 34) (pc' := 39) rfl (hb hby d5_34) rfl (XT.ii_ge_t h174) (by decide) (by decide) ?_
        show Go p e below t T172 m 39 #[rv za, rv qa, iv xn, iv xt, iv ((0 : Int32) + c0), rv qa, iv (3 : Int32), iv (1 : Int32), iv c1] []
        refine XS.iload X172.here hx rfl (hb hby d5_39) rfl ?_
        show Go p e below t T172 m 41 #[rv za, rv qa, iv xn, iv xt, iv ((0 : Int32) + c0), rv qa, iv (3 : Int32), iv (1 : Int32), iv c1] [(.int ((0 : Int32) + c0))]
        refine XS.iload X172.here hx rfl (hb hby d5_41) rfl ?_
        show Go p e below t T172 m 43 #[rv za, rv qa, iv xn, iv xt, iv ((0 : Int32) + c0), rv qa, iv (3 : Int32), iv (1 : Int32), iv c1] [(.int c1), (.int ((0 : Int32) + c0))]
        refine XS.iadd X172.here hx rfl (hb hby d5_43) rfl ?_
        show Go p e below t T172 m 44 #[rv za, rv qa, iv xn, iv xt, iv ((0 : Int32) + c0), rv qa, iv (3 : Int32), iv (1 : Int32), iv c1] [(.int (((0 : Int32) + c0) + c1))]
        refine XS.istore X172.here hx rfl (hb hby d5_44) rfl (l' := #[rv za, rv qa, iv xn, iv xt, iv (((0 : Int32) + c0) + c1), rv qa, iv (3 : Int32), iv (1 : Int32), iv c1]) rfl ?_
        show Go p e below t T172 m 46 #[rv za, rv qa, iv xn, iv xt, iv (((0 : Int32) + c0) + c1), rv qa, iv (3 : Int32), iv (1 : Int32), iv c1] []
        refine XT.iincV X172.here hx rfl (1 : Int32) (hb hby d5_46) (by decide) rfl (l' := #[rv za, rv qa, iv xn, iv xt, iv (((0 : Int32) + c0) + c1), rv qa, iv (3 : Int32), iv (2 : Int32), iv c1]) rfl ?_
        show Go p e below t T172 m 49 #[rv za, rv qa, iv xn, iv xt, iv (((0 : Int32) + c0) + c1), rv qa, iv (3 : Int32), iv (2 : Int32), iv c1] []
        refine XS.goto X172.here hx rfl (pc0 := 49) (pc' := 14) rfl (hb hby d5_49) (by decide) (by decide) ?_
        show Go p e below t T172 m 14 #[rv za, rv qa, iv xn, iv xt, iv (((0 : Int32) + c0) + c1), rv qa, iv (3 : Int32), iv (2 : Int32), iv c1] []
        refine XS.iload X172.here hx rfl (hb hby d5_14) rfl ?_
        show Go p e below t T172 m 16 #[rv za, rv qa, iv xn, iv xt, iv (((0 : Int32) + c0) + c1), rv qa, iv (3 : Int32), iv (2 : Int32), iv c1] [(.int (2 : Int32))]
        refine XS.iload X172.here hx rfl (hb hby d5_16) rfl ?_
        show Go p e below t T172 m 18 #[rv za, rv qa, iv xn, iv xt, iv (((0 : Int32) + c0) + c1), rv qa, iv (3 : Int32), iv (2 : Int32), iv c1] [(.int (3 : Int32)), (.int (2 : Int32))]
        refine XS.icmpNo X172.here hx rfl (hb hby d5_18) rfl (XT.ii_ge_f (by decide)) ?_
        show Go p e below t T172 m 21 #[rv za, rv qa, iv xn, iv xt, iv (((0 : Int32) + c0) + c1), rv qa, iv (3 : Int32), iv (2 : Int32), iv c1] []
        refine XS.aload X172.here hx rfl (hb hby d5_21) rfl rfl ?_
        show Go p e below t T172 m 23 #[rv za, rv qa, iv xn, iv xt, iv (((0 : Int32) + c0) + c1), rv qa, iv (3 : Int32), iv (2 : Int32), iv c1] [(.ref qa)]
        refine XS.iload X172.here hx rfl (hb hby d5_23) rfl ?_
        show Go p e below t T172 m 25 #[rv za, rv qa, iv xn, iv xt, iv (((0 : Int32) + c0) + c1), rv qa, iv (3 : Int32), iv (2 : Int32), iv c1] [(.int (2 : Int32)), (.ref qa)]
        exact k)
      obtain ⟨cl177, Ar177, q177, S177, M177, H177, G177⟩ := id P3
      have g178 : Goes p e below S0 (T172.setTop (mkF m 31 #[rv za, rv qa, iv xn, iv xt, iv (((0 : Int32) + c0) + c1), rv qa, iv (3 : Int32), iv (2 : Int32), iv c2] [(.ref za), (.int c2)])) := fun t k => g176 t (by
        refine X172.iaload hx (j := (2 : Int32)) (v := (.int c2)) (by rw [e172]; exact Ar177.1) (State.isArrayOf_alike hZ.alike Ar177.2.1) Ar177.2.2 (inb_of S177 ⟨by decide, by decide⟩) (H177.at (inb_of S177 ⟨by decide, by decide⟩) rfl) (g := (mkF m 25 #[rv za, rv qa, iv xn, iv xt, iv (((0 : Int32) + c0) + c1), rv qa, iv (3 : Int32), iv (2 : Int32), iv c1] [(.int (2 : Int32)), (.ref qa)])) rfl rfl (hb hby d5_25) _ ?_
        show Go p e below t T172 m 26 #[rv za, rv qa, iv xn, iv xt, iv (((0 : Int32) + c0) + c1), rv qa, iv (3 : Int32), iv (2 : Int32), iv c1] [(.int c2)]
        refine XS.istore X172.here hx rfl (hb hby d5_26) rfl (l' := #[rv za, rv qa, iv xn, iv xt, iv (((0 : Int32) + c0) + c1), rv qa, iv (3 : Int32), iv (2 : Int32), iv c2]) rfl ?_
        show Go p e below t T172 m 28 #[rv za, rv qa, iv xn, iv xt, iv (((0 : Int32) + c0) + c1), rv qa, iv (3 : Int32), iv (2 : Int32), iv c2] []
        refine XS.iload X172.here hx rfl (hb hby d5_28) rfl ?_
        show Go p e below t T172 m 30 #[rv za, rv qa, iv xn, iv xt, iv (((0 : Int32) + c0) + c1), rv qa, iv (3 : Int32), iv (2 : Int32), iv c2] [(.int c2)]
        refine XS.aloadN X172.here hx rfl (hb hby d5_30) rfl rfl ?_
        show Go p e below t T172 m 31 #[rv za, rv qa, iv xn, iv xt, iv (((0 : Int32) + c0) + c1), rv qa, iv (3 : Int32), iv (2 : Int32), iv c2] [(.ref za), (.int c2)]
        exact k)
      obtain ⟨T179, X179, e179, st179⟩ := getF X172 hx hZ hown (host := "") (Or.inl (hw _ (List.mem_of_getElem? (i := 25) rfl))) Via.refl e172 P0 (g := (mkF m 31 #[rv za, rv qa, iv xn, iv xt, iv (((0 : Int32) + c0) + c1), rv qa, iv (3 : Int32), iv (2 : Int32), iv c2] [(.ref za), (.int c2)])) rfl rfl (hb hby d5_31)
      have g180 : Goes p e below S0 (T179.setTop (mkF m 34 #[rv za, rv qa, iv xn, iv xt, iv (((0 : Int32) + c0) + c1), rv qa, iv (3 : Int32), iv (2 : Int32), iv c2] [(.int ml), (.int c2)])) := fun t k => g178 t (st179 t k)
      by_cases h181 : c2 < ml
      · skip
        have g182 : Goes p e below S0 (T179.setTop (mkF m 38 #[rv za, rv qa, iv xn, iv xt, iv (((0 : Int32) + c0) + c1), rv qa, iv (3 : Int32), iv (2 : Int32), iv c2] [(.int (0 : Int32))])) := fun t k => g180 t (by
          refine XS.icmpNo X179.here hx rfl (hb hby d5_34) rfl (XT.ii_ge_f h181) ?_
          show Go p e below t T179 m 37 #[rv za, rv qa, iv xn, iv xt, iv (((0 : Int32) + c0) + c1), rv qa, iv (3 : Int32), iv (2 : Int32), iv c2] []
          refine XT.iconstV X179.here hx rfl (0 : Int32) (hb hby d5_37) (by decide) ?_
          show Go p e below t T179 m 38 #[rv za, rv qa, iv xn, iv xt, iv (((0 : Int32) + c0) + c1), rv qa, iv (3 : Int32), iv (2 : Int32), iv c2] [(.int (0 : Int32))]
          exact k)
        obtain ⟨fs, hr, hrun, hended, hW, hsame⟩ := X179.leave (v := some (.int (0 : Int32))) (fun h => by rw [Bd.returns] at h; cases h)
        refine ⟨_, _, g182 _ (retN X179 hx (t := .boolean) Bd.returns (by simp) (hb hby d5_38) hr), hrun, hended, _, _, rfl, ?_, ⟨_, rfl⟩, hW, hsame.mono (by decide) (by decide)⟩
        show Q_ad3 Z za qa xn xt ml sh sn qk c0 c1 c2 h0 n0 _ T179.heap _
        rw [e179]
        exact ⟨by unfold f_ad3; rw [if_neg h167, if_neg h174, if_pos h181], N0, rfl⟩
      · skip
        have g183 : Goes p e below S0 (T179.setTop (mkF m 56 #[rv za, rv qa, iv xn, iv xt, iv ((((0 : Int32) + c0) + c1) + c2), rv qa, iv (3 : Int32), iv (3 : Int32), iv c2] [(.ref za), (.double (FP.i2d ((((0 : Int32) + c0) + c1) + c2)))])) := fun t k => g180 t (by
          refine XS.icmpYes X179.here hx rfl (pc0 := 34) (pc' := 39) rfl (hb hby d5_34) rfl (XT.ii_ge_t h181) (by decide) (by decide) ?_
          show Go p e below t T179 m 39 #[rv za, rv qa, iv xn, iv xt, iv (((0 : Int32) + c0) + c1), rv qa, iv (3 : Int32), iv (2 : Int32), iv c2] []
          refine XS.iload X179.here hx rfl (hb hby d5_39) rfl ?_
          show Go p e below t T179 m 41 #[rv za, rv qa, iv xn, iv xt, iv (((0 : Int32) + c0) + c1), rv qa, iv (3 : Int32), iv (2 : Int32), iv c2] [(.int (((0 : Int32) + c0) + c1))]
          refine XS.iload X179.here hx rfl (hb hby d5_41) rfl ?_
          show Go p e below t T179 m 43 #[rv za, rv qa, iv xn, iv xt, iv (((0 : Int32) + c0) + c1), rv qa, iv (3 : Int32), iv (2 : Int32), iv c2] [(.int c2), (.int (((0 : Int32) + c0) + c1))]
          refine XS.iadd X179.here hx rfl (hb hby d5_43) rfl ?_
          show Go p e below t T179 m 44 #[rv za, rv qa, iv xn, iv xt, iv (((0 : Int32) + c0) + c1), rv qa, iv (3 : Int32), iv (2 : Int32), iv c2] [(.int ((((0 : Int32) + c0) + c1) + c2))]
          refine XS.istore X179.here hx rfl (hb hby d5_44) rfl (l' := #[rv za, rv qa, iv xn, iv xt, iv ((((0 : Int32) + c0) + c1) + c2), rv qa, iv (3 : Int32), iv (2 : Int32), iv c2]) rfl ?_
          show Go p e below t T179 m 46 #[rv za, rv qa, iv xn, iv xt, iv ((((0 : Int32) + c0) + c1) + c2), rv qa, iv (3 : Int32), iv (2 : Int32), iv c2] []
          refine XT.iincV X179.here hx rfl (1 : Int32) (hb hby d5_46) (by decide) rfl (l' := #[rv za, rv qa, iv xn, iv xt, iv ((((0 : Int32) + c0) + c1) + c2), rv qa, iv (3 : Int32), iv (3 : Int32), iv c2]) rfl ?_
          show Go p e below t T179 m 49 #[rv za, rv qa, iv xn, iv xt, iv ((((0 : Int32) + c0) + c1) + c2), rv qa, iv (3 : Int32), iv (3 : Int32), iv c2] []
          refine XS.goto X179.here hx rfl (pc0 := 49) (pc' := 14) rfl (hb hby d5_49) (by decide) (by decide) ?_
          show Go p e below t T179 m 14 #[rv za, rv qa, iv xn, iv xt, iv ((((0 : Int32) + c0) + c1) + c2), rv qa, iv (3 : Int32), iv (3 : Int32), iv c2] []
          refine XS.iload X179.here hx rfl (hb hby d5_14) rfl ?_
          show Go p e below t T179 m 16 #[rv za, rv qa, iv xn, iv xt, iv ((((0 : Int32) + c0) + c1) + c2), rv qa, iv (3 : Int32), iv (3 : Int32), iv c2] [(.int (3 : Int32))]
          refine XS.iload X179.here hx rfl (hb hby d5_16) rfl ?_
          show Go p e below t T179 m 18 #[rv za, rv qa, iv xn, iv xt, iv ((((0 : Int32) + c0) + c1) + c2), rv qa, iv (3 : Int32), iv (3 : Int32), iv c2] [(.int (3 : Int32)), (.int (3 : Int32))]
          refine XS.icmpYes X179.here hx rfl (pc0 := 18) (pc' := 52) rfl (hb hby d5_18) rfl (XT.ii_ge_t (by decide)) (by decide) (by decide) ?_
          show Go p e below t T179 m 52 #[rv za, rv qa, iv xn, iv xt, iv ((((0 : Int32) + c0) + c1) + c2), rv qa, iv (3 : Int32), iv (3 : Int32), iv c2] []
          refine XS.iload X179.here hx rfl (hb hby d5_52) rfl ?_
          show Go p e below t T179 m 54 #[rv za, rv qa, iv xn, iv xt, iv ((((0 : Int32) + c0) + c1) + c2), rv qa, iv (3 : Int32), iv (3 : Int32), iv c2] [(.int ((((0 : Int32) + c0) + c1) + c2))]
          refine XS.i2dS X179.here hx rfl (hb hby d5_54) rfl rfl ?_
          show Go p e below t T179 m 55 #[rv za, rv qa, iv xn, iv xt, iv ((((0 : Int32) + c0) + c1) + c2), rv qa, iv (3 : Int32), iv (3 : Int32), iv c2] [(.double (FP.i2d ((((0 : Int32) + c0) + c1) + c2)))]
          refine XS.aloadN X179.here hx rfl (hb hby d5_55) rfl rfl ?_
          show Go p e below t T179 m 56 #[rv za, rv qa, iv xn, iv xt, iv ((((0 : Int32) + c0) + c1) + c2), rv qa, iv (3 : Int32), iv (3 : Int32), iv c2] [(.ref za), (.double (FP.i2d ((((0 : Int32) + c0) + c1) + c2)))]
          exact k)
        obtain ⟨T184, X184, e184, st184⟩ := getF X179 hx hZ hown (host := "") (Or.inl (hw _ (List.mem_of_getElem? (i := 27) rfl))) Via.refl e179 P1 (g := (mkF m 56 #[rv za, rv qa, iv xn, iv xt, iv ((((0 : Int32) + c0) + c1) + c2), rv qa, iv (3 : Int32), iv (3 : Int32), iv c2] [(.ref za), (.double (FP.i2d ((((0 : Int32) + c0) + c1) + c2)))])) rfl rfl (hb hby d5_56)
        have g185 : Goes p e below S0 (T184.setTop (mkF m 59 #[rv za, rv qa, iv xn, iv xt, iv ((((0 : Int32) + c0) + c1) + c2), rv qa, iv (3 : Int32), iv (3 : Int32), iv c2] [(.double sh), (.double (FP.i2d ((((0 : Int32) + c0) + c1) + c2)))])) := fun t k => g183 t (st184 t k)
        have g186 : Goes p e below S0 (T184.setTop (mkF m 60 #[rv za, rv qa, iv xn, iv xt, iv ((((0 : Int32) + c0) + c1) + c2), rv qa, iv (3 : Int32), iv (3 : Int32), iv c2] [(.ref za), (.double sh), (.double (FP.i2d ((((0 : Int32) + c0) + c1) + c2)))])) := fun t k => g185 t (by
          refine XS.aloadN X184.here hx rfl (hb hby d5_59) rfl rfl ?_
          show Go p e below t T184 m 60 #[rv za, rv qa, iv xn, iv xt, iv ((((0 : Int32) + c0) + c1) + c2), rv qa, iv (3 : Int32), iv (3 : Int32), iv c2] [(.ref za), (.double sh), (.double (FP.i2d ((((0 : Int32) + c0) + c1) + c2)))]
          exact k)
        obtain ⟨T187, X187, e187, st187⟩ := getF X184 hx hZ hown (host := "") (Or.inl (hw _ (List.mem_of_getElem? (i := 35) rfl))) Via.refl e184 P2 (g := (mkF m 60 #[rv za, rv qa, iv xn, iv xt, iv ((((0 : Int32) + c0) + c1) + c2), rv qa, iv (3 : Int32), iv (3 : Int32), iv c2] [(.ref za), (.double sh), (.double (FP.i2d ((((0 : Int32) + c0) + c1) + c2)))])) rfl rfl (hb hby d5_60)
        have g188 : Goes p e below S0 (T187.setTop (mkF m 63 #[rv za, rv qa, iv xn, iv xt, iv ((((0 : Int32) + c0) + c1) + c2), rv qa, iv (3 : Int32), iv (3 : Int32), iv c2] [(.int sn), (.double sh), (.double (FP.i2d ((((0 : Int32) + c0) + c1) + c2)))])) := fun t k => g186 t (st187 t k)
        by_cases h189 : sn = 0
        · skip
          have g190 : Goes p e below S0 (T187.setTop (mkF m 74 #[rv za, rv qa, iv xn, iv xt, iv ((((0 : Int32) + c0) + c1) + c2), rv qa, iv (3 : Int32), iv (3 : Int32), iv c2] [(.int (cmpValue (FP.dcmp (FP.i2d ((((0 : Int32) + c0) + c1) + c2)) (FP.dmul sh (FP.i2d xt))) .l))])) := fun t k => g188 t (by
            refine XS.ifYes X187.here hx rfl (pc0 := 63) (pc' := 70) rfl (hb hby d5_63) rfl (XT.i0_eq_t h189) (by decide) (by decide) ?_
            show Go p e below t T187 m 70 #[rv za, rv qa, iv xn, iv xt, iv ((((0 : Int32) + c0) + c1) + c2), rv qa, iv (3 : Int32), iv (3 : Int32), iv c2] [(.double sh), (.double (FP.i2d ((((0 : Int32) + c0) + c1) + c2)))]
            refine XS.iloadN X187.here hx rfl (hb hby d5_70) rfl ?_
            show Go p e below t T187 m 71 #[rv za, rv qa, iv xn, iv xt, iv ((((0 : Int32) + c0) + c1) + c2), rv qa, iv (3 : Int32), iv (3 : Int32), iv c2] [(.int xt), (.double sh), (.double (FP.i2d ((((0 : Int32) + c0) + c1) + c2)))]
            refine XS.i2dS X187.here hx rfl (hb hby d5_71) rfl rfl ?_
            show Go p e below t T187 m 72 #[rv za, rv qa, iv xn, iv xt, iv ((((0 : Int32) + c0) + c1) + c2), rv qa, iv (3 : Int32), iv (3 : Int32), iv c2] [(.double (FP.i2d xt)), (.double sh), (.double (FP.i2d ((((0 : Int32) + c0) + c1) + c2)))]
            refine XS.dmulS X187.here hx rfl (hb hby d5_72) rfl (Jvm.Free.Fl.dmul_out hsh (Jvm.Free.Fl.i2d_fin _)) rfl ?_
            show Go p e below t T187 m 73 #[rv za, rv qa, iv xn, iv xt, iv ((((0 : Int32) + c0) + c1) + c2), rv qa, iv (3 : Int32), iv (3 : Int32), iv c2] [(.double (FP.dmul sh (FP.i2d xt))), (.double (FP.i2d ((((0 : Int32) + c0) + c1) + c2)))]
            refine XS.dcmpS X187.here hx rfl (hb hby d5_73) rfl rfl ?_
            show Go p e below t T187 m 74 #[rv za, rv qa, iv xn, iv xt, iv ((((0 : Int32) + c0) + c1) + c2), rv qa, iv (3 : Int32), iv (3 : Int32), iv c2] [(.int (cmpValue (FP.dcmp (FP.i2d ((((0 : Int32) + c0) + c1) + c2)) (FP.dmul sh (FP.i2d xt))) .l))]
            exact k)
          by_cases h191 : dLe (FP.dmul sh (FP.i2d xt)) (FP.i2d ((((0 : Int32) + c0) + c1) + c2))
          · skip
            have g192 : Goes p e below S0 (T187.setTop (mkF m 82 #[rv za, rv qa, iv xn, iv xt, iv ((((0 : Int32) + c0) + c1) + c2), rv qa, iv (3 : Int32), iv (3 : Int32), iv c2] [(.int (1 : Int32))])) := fun t k => g190 t (by
              refine XS.ifNo X187.here hx rfl (hb hby d5_74) rfl (dc_l_lt_f h191) ?_
              show Go p e below t T187 m 77 #[rv za, rv qa, iv xn, iv xt, iv ((((0 : Int32) + c0) + c1) + c2), rv qa, iv (3 : Int32), iv (3 : Int32), iv c2] []
              refine XT.iconstV X187.here hx rfl (1 : Int32) (hb hby d5_77) (by decide) ?_
              show Go p e below t T187 m 78 #[rv za, rv qa, iv xn, iv xt, iv ((((0 : Int32) + c0) + c1) + c2), rv qa, iv (3 : Int32), iv (3 : Int32), iv c2] [(.int (1 : Int32))]
              refine XS.goto X187.here hx rfl (pc0 := 78) (pc' := 82) rfl (hb hby d5_78) (by decide) (by decide) ?_
              show Go p e below t T187 m 82 #[rv za, rv qa, iv xn, iv xt, iv ((((0 : Int32) + c0) + c1) + c2), rv qa, iv (3 : Int32), iv (3 : Int32), iv c2] [(.int (1 : Int32))]
              exact k)
            obtain ⟨fs, hr, hrun, hended, hW, hsame⟩ := X187.leave (v := some (.int (1 : Int32))) (fun h => by rw [Bd.returns] at h; cases h)
            refine ⟨_, _, g192 _ (retN X187 hx (t := .boolean) Bd.returns (by simp) (hb hby d5_82) hr), hrun, hended, _, _, rfl, ?_, ⟨_, rfl⟩, hW, hsame.mono (by decide) (by decide)⟩
            show Q_ad3 Z za qa xn xt ml sh sn qk c0 c1 c2 h0 n0 _ T187.heap _
            rw [e187]
            exact ⟨by unfold f_ad3; rw [if_neg h167, if_neg h174, if_neg h181, if_pos h189, if_pos h191], N0, rfl⟩
          · skip
            have g193 : Goes p e below S0 (T187.setTop (mkF m 82 #[rv za, rv qa, iv xn, iv xt, iv ((((0 : Int32) + c0) + c1) + c2), rv qa, iv (3 : Int32), iv (3 : Int32), iv c2] [(.int (0 : Int32))])) := fun t k => g190 t (by
              refine XS.ifYes X187.here hx rfl (pc0 := 74) (pc' := 81) rfl (hb hby d5_74) rfl (dc_l_lt_t h191) (by decide) (by decide) ?_
              show Go p e below t T187 m 81 #[rv za, rv qa, iv xn, iv xt, iv ((((0 : Int32) + c0) + c1) + c2), rv qa, iv (3 : Int32), iv (3 : Int32), iv c2] []
              refine XT.iconstV X187.here hx rfl (0 : Int32) (hb hby d5_81) (by decide) ?_
              show Go p e below t T187 m 82 #[rv za, rv qa, iv xn, iv xt, iv ((((0 : Int32) + c0) + c1) + c2), rv qa, iv (3 : Int32), iv (3 : Int32), iv c2] [(.int (0 : Int32))]
              exact k)
            obtain ⟨fs, hr, hrun, hended, hW, hsame⟩ := X187.leave (v := some (.int (0 : Int32))) (fun h => by rw [Bd.returns] at h; cases h)
            refine ⟨_, _, g193 _ (retN X187 hx (t := .boolean) Bd.returns (by simp) (hb hby d5_82) hr), hrun, hended, _, _, rfl, ?_, ⟨_, rfl⟩, hW, hsame.mono (by decide) (by decide)⟩
            show Q_ad3 Z za qa xn xt ml sh sn qk c0 c1 c2 h0 n0 _ T187.heap _
            rw [e187]
            exact ⟨by unfold f_ad3; rw [if_neg h167, if_neg h174, if_neg h181, if_pos h189, if_neg h191], N0, rfl⟩
        · skip
          have g194 : Goes p e below S0 (T187.setTop (mkF m 74 #[rv za, rv qa, iv xn, iv xt, iv ((((0 : Int32) + c0) + c1) + c2), rv qa, iv (3 : Int32), iv (3 : Int32), iv c2] [(.int (cmpValue (FP.dcmp (FP.i2d ((((0 : Int32) + c0) + c1) + c2)) (FP.dmul sh (FP.i2d xn))) .l))])) := fun t k => g188 t (by
            refine XS.ifNo X187.here hx rfl (hb hby d5_63) rfl (XT.i0_eq_f h189) ?_
            show Go p e below t T187 m 66 #[rv za, rv qa, iv xn, iv xt, iv ((((0 : Int32) + c0) + c1) + c2), rv qa, iv (3 : Int32), iv (3 : Int32), iv c2] [(.double sh), (.double (FP.i2d ((((0 : Int32) + c0) + c1) + c2)))]
            refine XS.iloadN X187.here hx rfl (hb hby d5_66) rfl ?_
            show Go p e below t T187 m 67 #[rv za, rv qa, iv xn, iv xt, iv ((((0 : Int32) + c0) + c1) + c2), rv qa, iv (3 : Int32), iv (3 : Int32), iv c2] [(.int xn), (.double sh), (.double (FP.i2d ((((0 : Int32) + c0) + c1) + c2)))]
            refine XS.goto X187.here hx rfl (pc0 := 67) (pc' := 71) rfl (hb hby d5_67) (by decide) (by decide) ?_
            show Go p e below t T187 m 71 #[rv za, rv qa, iv xn, iv xt, iv ((((0 : Int32) + c0) + c1) + c2), rv qa, iv (3 : Int32), iv (3 : Int32), iv c2] [(.int xn), (.double sh), (.double (FP.i2d ((((0 : Int32) + c0) + c1) + c2)))]
            refine XS.i2dS X187.here hx rfl (hb hby d5_71) rfl rfl ?_
            show Go p e below t T187 m 72 #[rv za, rv qa, iv xn, iv xt, iv ((((0 : Int32) + c0) + c1) + c2), rv qa, iv (3 : Int32), iv (3 : Int32), iv c2] [(.double (FP.i2d xn)), (.double sh), (.double (FP.i2d ((((0 : Int32) + c0) + c1) + c2)))]
            refine XS.dmulS X187.here hx rfl (hb hby d5_72) rfl (Jvm.Free.Fl.dmul_out hsh (Jvm.Free.Fl.i2d_fin _)) rfl ?_
            show Go p e below t T187 m 73 #[rv za, rv qa, iv xn, iv xt, iv ((((0 : Int32) + c0) + c1) + c2), rv qa, iv (3 : Int32), iv (3 : Int32), iv c2] [(.double (FP.dmul sh (FP.i2d xn))), (.double (FP.i2d ((((0 : Int32) + c0) + c1) + c2)))]
            refine XS.dcmpS X187.here hx rfl (hb hby d5_73) rfl rfl ?_
            show Go p e below t T187 m 74 #[rv za, rv qa, iv xn, iv xt, iv ((((0 : Int32) + c0) + c1) + c2), rv qa, iv (3 : Int32), iv (3 : Int32), iv c2] [(.int (cmpValue (FP.dcmp (FP.i2d ((((0 : Int32) + c0) + c1) + c2)) (FP.dmul sh (FP.i2d xn))) .l))]
            exact k)
          by_cases h195 : dLe (FP.dmul sh (FP.i2d xn)) (FP.i2d ((((0 : Int32) + c0) + c1) + c2))
          · skip
            have g196 : Goes p e below S0 (T187.setTop (mkF m 82 #[rv za, rv qa, iv xn, iv xt, iv ((((0 : Int32) + c0) + c1) + c2), rv qa, iv (3 : Int32), iv (3 : Int32), iv c2] [(.int (1 : Int32))])) := fun t k => g194 t (by
              refine XS.ifNo X187.here hx rfl (hb hby d5_74) rfl (dc_l_lt_f h195) ?_
              show Go p e below t T187 m 77 #[rv za, rv qa, iv xn, iv xt, iv ((((0 : Int32) + c0) + c1) + c2), rv qa, iv (3 : Int32), iv (3 : Int32), iv c2] []
              refine XT.iconstV X187.here hx rfl (1 : Int32) (hb hby d5_77) (by decide) ?_
              show Go p e below t T187 m 78 #[rv za, rv qa, iv xn, iv xt, iv ((((0 : Int32) + c0) + c1) + c2), rv qa, iv (3 : Int32), iv (3 : Int32), iv c2] [(.int (1 : Int32))]
              refine XS.goto X187.here hx rfl (pc0 := 78) (pc' := 82) rfl (hb hby d5_78) (by decide) (by decide) ?_
              show Go p e below t T187 m 82 #[rv za, rv qa, iv xn, iv xt, iv ((((0 : Int32) + c0) + c1) + c2), rv qa, iv (3 : Int32), iv (3 : Int32), iv c2] [(.int (1 : Int32))]
              exact k)
            obtain ⟨fs, hr, hrun, hended, hW, hsame⟩ := X187.leave (v := some (.int (1 : Int32))) (fun h => by rw [Bd.returns] at h; cases h)
            refine ⟨_, _, g196 _ (retN X187 hx (t := .boolean) Bd.returns (by simp) (hb hby d5_82) hr), hrun, hended, _, _, rfl, ?_, ⟨_, rfl⟩, hW, hsame.mono (by decide) (by decide)⟩
            show Q_ad3 Z za qa xn xt ml sh sn qk c0 c1 c2 h0 n0 _ T187.heap _
            rw [e187]
            exact ⟨by unfold f_ad3; rw [if_neg h167, if_neg h174, if_neg h181, if_neg h189, if_pos h195], N0, rfl⟩
          · skip
            have g197 : Goes p e below S0 (T187.setTop (mkF m 82 #[rv za, rv qa, iv xn, iv xt, iv ((((0 : Int32) + c0) + c1) + c2), rv qa, iv (3 : Int32), iv (3 : Int32), iv c2] [(.int (0 : Int32))])) := fun t k => g194 t (by
              refine XS.ifYes X187.here hx rfl (pc0 := 74) (pc' := 81) rfl (hb hby d5_74) rfl (dc_l_lt_t h195) (by decide) (by decide) ?_
              show Go p e below t T187 m 81 #[rv za, rv qa, iv xn, iv xt, iv ((((0 : Int32) + c0) + c1) + c2), rv qa, iv (3 : Int32), iv (3 : Int32), iv c2] []
              refine XT.iconstV X187.here hx rfl (0 : Int32) (hb hby d5_81) (by decide) ?_
              show Go p e below t T187 m 82 #[rv za, rv qa, iv xn, iv xt, iv ((((0 : Int32) + c0) + c1) + c2), rv qa, iv (3 : Int32), iv (3 : Int32), iv c2] [(.int (0 : Int32))]
              exact k)
            obtain ⟨fs, hr, hrun, hended, hW, hsame⟩ := X187.leave (v := some (.int (0 : Int32))) (fun h => by rw [Bd.returns] at h; cases h)
            refine ⟨_, _, g197 _ (retN X187 hx (t := .boolean) Bd.returns (by simp) (hb hby d5_82) hr), hrun, hended, _, _, rfl, ?_, ⟨_, rfl⟩, hW, hsame.mono (by decide) (by decide)⟩
            show Q_ad3 Z za qa xn xt ml sh sn qk c0 c1 c2 h0 n0 _ T187.heap _
            rw [e187]
            exact ⟨by unfold f_ad3; rw [if_neg h167, if_neg h174, if_neg h181, if_neg h189, if_neg h195], N0, rfl⟩
def nM (a : Int32) : Int32 := f_mx 1 (a &&& 536870911)
def nK (b : Int32) : Int32 := (b &&& 255) % 9
def nB (b : Int32) : Int32 := if (b &&& 256) = 0 then 0 else 1
def nL (b : Int32) : Int32 := (b.toUInt32 >>> ((9 : Int32) &&& 31).toUInt32).toInt32 &&& 3
def nC0 (c : Int64) : Int32 := (c &&& 536870911).toInt32
def nC1 (c : Int64) : Int32 := ((c.toUInt64 >>> ((32 : Int32) &&& 0x3f).toInt64.toUInt64).toInt64 &&& 536870911).toInt32
def nC2 (d : Int32) : Int32 := d &&& 536870911
def nS (b : Int32) : UInt64 := FP.ddiv (FP.i2d (nK b)) 4620693217682128896
def own_all (p c m : Int32) : Int32 := if c < m then 0 else p
def own_fin (al : Int32) (r : Int64) (k : Int32) (b : Int64) : Int32 := if al = 0 then 0 else if (8 * r) < (k.toInt64 * b) then 0 else 1
theorem own_z1 : (1 : Int32).toInt = 1 := by decide
theorem own_z0 : (0 : Int32).toInt = 0 := by decide
theorem own_q1 (a : Int32) : ¬ ((nM a) < (1 : Int32)) := by
  unfold nM f_mx
  split
  · rename_i h
    rw [Int32.lt_iff_toInt_lt] at h ⊢
    omega
  · rw [Int32.lt_iff_toInt_lt]; omega
theorem own_kr (b : Int32) : 0 ≤ (nK b).toInt ∧ (nK b).toInt ≤ 8 := by
  have h := (c_irem (b &&& 255) 9 9 (by decide)).1 (c_and b 255 (by decide)).1
  unfold nK; omega
theorem own_l4 (b : Int32) : nL b = 0 ∨ nL b = 1 ∨ nL b = 2 ∨ nL b = 3 := by
  have h := c_mask ((b.toUInt32 >>> ((9 : Int32) &&& 31).toUInt32).toInt32) 3 2 (by decide) (by decide)
  have h0 : (nL b).toInt = 0 ∨ (nL b).toInt = 1 ∨ (nL b).toInt = 2 ∨ (nL b).toInt = 3 := by unfold nL; omega
  rcases h0 with h0 | h0 | h0 | h0
  · exact Or.inl (Int32.toInt_inj.mp (by rw [h0]; decide))
  · exact Or.inr (Or.inl (Int32.toInt_inj.mp (by rw [h0]; decide)))
  · exact Or.inr (Or.inr (Or.inl (Int32.toInt_inj.mp (by rw [h0]; decide))))
  · exact Or.inr (Or.inr (Or.inr (Int32.toInt_inj.mp (by rw [h0]; decide))))
theorem own_r29 (x : Int64) : 0 ≤ ((x &&& 536870911).toInt32).toInt ∧ ((x &&& 536870911).toInt32).toInt < 536870912 := by
  have h := c_maskL x 536870911 29 (by decide) (by decide)
  have h1 := c_l2i (x &&& 536870911)
  have h2 := rng32 (x &&& 536870911).toInt32
  omega
theorem own_c0 (c : Int64) : 0 ≤ (nC0 c).toInt ∧ (nC0 c).toInt < 536870912 := own_r29 _
theorem own_c1 (c : Int64) : 0 ≤ (nC1 c).toInt ∧ (nC1 c).toInt < 536870912 := own_r29 _
theorem own_c2 (d : Int32) : 0 ≤ (nC2 d).toInt ∧ (nC2 d).toInt < 536870912 := by
  have h := c_mask d 536870911 29 (by decide) (by decide)
  unfold nC2; omega
section Own
open Jvm.OwnFP
theorem own_v8 : Val (4620693217682128896 : UInt64) 1 1077 := ⟨dfin_const (by decide), by decide +kernel⟩
theorem own_vS (b : Int32) : Val (nS b) (nK b).toInt 1071 := (Val.i2d (nK b)).div2 own_v8 (by have := own_kr b; omega) rfl (by decide)
theorem own_qd (b : Int32) : Jvm.Free.Fl.NoNaN64 (FP.ddiv (FP.i2d (nK b)) (4620693217682128896 : UInt64)) := Jvm.Free.Fl.val64_no.mpr (fin_ne (own_vS b).1)
theorem own_qf (b : Int32) : Jvm.Free.Fl.Fin64 (nS b) := Jvm.Free.Fl.fin64_core.mpr (own_vS b).1
theorem own_vz (k : Nat) : Val (0 : UInt64) 0 k := by
  have h := Val.i2d 0
  rw [show FP.i2d 0 = (0 : UInt64) by decide +kernel] at h
  exact ⟨h.1, by rw [h.2, show (0 : Int32).toInt = 0 by decide, Int.zero_mul, Int.zero_mul]⟩
theorem own_v1 : Val (4607182418800017408 : UInt64) 8 1071 := by
  have h : Val (4607182418800017408 : UInt64) (1 * ((2 ^ 3 : Nat) : Int)) 1071 := Val.scale 3 (Val.of_int FP.Core.dint_one)
  exact h
theorem own_cmp {N M : Int} : (compare N M = .lt ∨ compare N M = .eq) ↔ N ≤ M := by
  rw [FP.Core.compare_lt_iff, FP.Core.compare_eq_iff]; omega
theorem own_le {a b : UInt64} {N M : Int} {k : Nat} (ha : Val a N k) (hb : Val b M k) : dLe a b ↔ N ≤ M := by
  unfold dLe
  rw [ha.cmp hb]
  simpa using own_cmp
theorem own_q2 (b : Int32) : dLe (0 : UInt64) (nS b) := (own_le (own_vz 1071) (own_vS b)).mpr (own_kr b).1
theorem own_q3 (b : Int32) : dLe (nS b) (4607182418800017408 : UInt64) := (own_le (own_vS b) own_v1).mpr (own_kr b).2
theorem own_kb (b base : Int32) : ((nK b).toInt * base.toInt).natAbs ≤ 8 * 2147483648 := by
  have h1 := own_kr b
  have h2 := rng32 base
  rw [Int.natAbs_mul]; exact Nat.mul_le_mul (by omega) (by omega)
theorem own_key (b base rows : Int32) : dLe (FP.dmul (nS b) (FP.i2d base)) (FP.i2d rows) ↔ (nK b).toInt * base.toInt ≤ rows.toInt * 8 := by
  have h := own_kb b base
  exact own_le ((own_vS b).mul (Val.i2d base) (by omega) rfl (by decide)) (Val.scale 3 (Val.i2d rows) : Val (FP.i2d rows) (rows.toInt * ((2 ^ 3 : Nat) : Int)) 1071)
end Own
theorem own_core (b base rows : Int32) (r : Int64) (hr : r.toInt = rows.toInt) :
    (if dLe (FP.dmul (nS b) (FP.i2d base)) (FP.i2d rows) then (1 : Int32) else (0 : Int32)) = (if (8 * r) < ((nK b).toInt64 * base.toInt64) then 0 else 1) := by
  have h := own_key b base rows
  have hk := own_kb b base
  have r0 := rng32 rows
  have h1 := c_lmul 8 r
  have h2 := rng64 (8 * r)
  have z : (8 : Int64).toInt = 8 := by decide
  rw [z, hr] at h1
  have hw := XT.wideMul (nK b) base
  have e : (8 * r < (nK b).toInt64 * base.toInt64) ↔ rows.toInt * 8 < (nK b).toInt * base.toInt := by
    rw [Int64.lt_iff_toInt_lt, hw]
    generalize (nK b).toInt * base.toInt = w at *
    omega
  by_cases q : (nK b).toInt * base.toInt ≤ rows.toInt * 8
  · rw [if_pos (h.mpr q), if_neg (fun y => by have := e.mp y; omega)]
  · rw [if_neg (fun y => q (h.mp y)), if_pos (e.mpr (by omega))]
theorem own_a1 (x : Int32) : ((0 : Int64) + x.toInt64).toInt = ((0 : Int32) + x).toInt := by
  rw [Int64.zero_add, Int32.zero_add, c_i2l]
theorem own_a2 {x y : Int32} (hx : 0 ≤ x.toInt ∧ x.toInt < 536870912) (hy : 0 ≤ y.toInt ∧ y.toInt < 536870912) : (((0 : Int64) + x.toInt64) + y.toInt64).toInt = (((0 : Int32) + x) + y).toInt := by
  rw [Int64.zero_add, Int32.zero_add]
  have h1 := c_ladd x.toInt64 y.toInt64
  have h2 := rng64 (x.toInt64 + y.toInt64)
  have h3 := c_iadd x y
  have h4 := rng32 (x + y)
  have := c_i2l x
  have := c_i2l y
  omega
theorem own_a3 {x y w : Int32} (hx : 0 ≤ x.toInt ∧ x.toInt < 536870912) (hy : 0 ≤ y.toInt ∧ y.toInt < 536870912) (hw : 0 ≤ w.toInt ∧ w.toInt < 536870912) : ((((0 : Int64) + x.toInt64) + y.toInt64) + w.toInt64).toInt = ((((0 : Int32) + x) + y) + w).toInt := by
  rw [Int64.zero_add, Int32.zero_add]
  have h1 := c_ladd x.toInt64 y.toInt64
  have h2 := rng64 (x.toInt64 + y.toInt64)
  have h3 := c_iadd x y
  have h4 := rng32 (x + y)
  have h5 := c_ladd (x.toInt64 + y.toInt64) w.toInt64
  have h6 := rng64 (x.toInt64 + y.toInt64 + w.toInt64)
  have h7 := c_iadd (x + y) w
  have h8 := rng32 (x + y + w)
  have := c_i2l x
  have := c_i2l y
  have := c_i2l w
  omega
theorem own_nar1 : (nar .boolean (1 : Int32) = 0) = False := eq_false (by decide)
theorem own_one0 : ((1 : Int32) = 0) = False := eq_false (by decide)
theorem own_zz : ((0 : Int32) = 0) = True := eq_true rfl
theorem own_fin0t (a b c d : Int32) (e : Int64) (f : Int32) : (f_ad0 c d (nM a) (nS b) (0 : Int32)) = (own_fin (1 : Int32) (0 : Int64) (nK b) (d.toInt64)) := by
  have key := own_core b d (0 : Int32) (0 : Int64) ((by decide))
  unfold f_ad0 own_fin
  simp only [own_nar1, own_one0, own_zz, if_true, if_false]
  exact key
theorem own_fin0n (a b c d : Int32) (e : Int64) (f : Int32) : (f_ad0 c d (nM a) (nS b) (nar .boolean (1 : Int32))) = (own_fin (1 : Int32) (0 : Int64) (nK b) (c.toInt64)) := by
  have key := own_core b c (0 : Int32) (0 : Int64) ((by decide))
  unfold f_ad0 own_fin
  simp only [own_nar1, own_one0, own_zz, if_true, if_false]
  exact key
theorem own_fin1t (a b c d : Int32) (e : Int64) (f : Int32) : (f_ad1 c d (nM a) (nS b) (0 : Int32) (nC0 e)) = (own_fin (own_all (1 : Int32) (nC0 e) (nM a)) ((0 : Int64) + (nC0 e).toInt64) (nK b) (d.toInt64)) := by
  have key := own_core b d ((0 : Int32) + (nC0 e)) ((0 : Int64) + (nC0 e).toInt64) (own_a1 _)
  unfold f_ad1 own_fin own_all
  by_cases h0 : (nC0 e) < nM a <;> simp only [h0, own_nar1, own_one0, own_zz, if_true, if_false] <;> first | exact key | rfl
theorem own_fin1n (a b c d : Int32) (e : Int64) (f : Int32) : (f_ad1 c d (nM a) (nS b) (nar .boolean (1 : Int32)) (nC0 e)) = (own_fin (own_all (1 : Int32) (nC0 e) (nM a)) ((0 : Int64) + (nC0 e).toInt64) (nK b) (c.toInt64)) := by
  have key := own_core b c ((0 : Int32) + (nC0 e)) ((0 : Int64) + (nC0 e).toInt64) (own_a1 _)
  unfold f_ad1 own_fin own_all
  by_cases h0 : (nC0 e) < nM a <;> simp only [h0, own_nar1, own_one0, own_zz, if_true, if_false] <;> first | exact key | rfl
theorem own_fin2t (a b c d : Int32) (e : Int64) (f : Int32) : (f_ad2 c d (nM a) (nS b) (0 : Int32) (nC0 e) (nC1 e)) = (own_fin (own_all (own_all (1 : Int32) (nC0 e) (nM a)) (nC1 e) (nM a)) (((0 : Int64) + (nC0 e).toInt64) + (nC1 e).toInt64) (nK b) (d.toInt64)) := by
  have key := own_core b d (((0 : Int32) + (nC0 e)) + (nC1 e)) (((0 : Int64) + (nC0 e).toInt64) + (nC1 e).toInt64) (own_a2 (own_c0 _) (own_c1 _))
  unfold f_ad2 own_fin own_all
  by_cases h0 : (nC0 e) < nM a <;> by_cases h1 : (nC1 e) < nM a <;> simp only [h0, h1, own_nar1, own_one0, own_zz, if_true, if_false] <;> first | exact key | rfl
theorem own_fin2n (a b c d : Int32) (e : Int64) (f : Int32) : (f_ad2 c d (nM a) (nS b) (nar .boolean (1 : Int32)) (nC0 e) (nC1 e)) = (own_fin (own_all (own_all (1 : Int32) (nC0 e) (nM a)) (nC1 e) (nM a)) (((0 : Int64) + (nC0 e).toInt64) + (nC1 e).toInt64) (nK b) (c.toInt64)) := by
  have key := own_core b c (((0 : Int32) + (nC0 e)) + (nC1 e)) (((0 : Int64) + (nC0 e).toInt64) + (nC1 e).toInt64) (own_a2 (own_c0 _) (own_c1 _))
  unfold f_ad2 own_fin own_all
  by_cases h0 : (nC0 e) < nM a <;> by_cases h1 : (nC1 e) < nM a <;> simp only [h0, h1, own_nar1, own_one0, own_zz, if_true, if_false] <;> first | exact key | rfl
theorem own_fin3t (a b c d : Int32) (e : Int64) (f : Int32) : (f_ad3 c d (nM a) (nS b) (0 : Int32) (nC0 e) (nC1 e) (nC2 f)) = (own_fin (own_all (own_all (own_all (1 : Int32) (nC0 e) (nM a)) (nC1 e) (nM a)) (nC2 f) (nM a)) ((((0 : Int64) + (nC0 e).toInt64) + (nC1 e).toInt64) + (nC2 f).toInt64) (nK b) (d.toInt64)) := by
  have key := own_core b d ((((0 : Int32) + (nC0 e)) + (nC1 e)) + (nC2 f)) ((((0 : Int64) + (nC0 e).toInt64) + (nC1 e).toInt64) + (nC2 f).toInt64) (own_a3 (own_c0 _) (own_c1 _) (own_c2 _))
  unfold f_ad3 own_fin own_all
  by_cases h0 : (nC0 e) < nM a <;> by_cases h1 : (nC1 e) < nM a <;> by_cases h2 : (nC2 f) < nM a <;> simp only [h0, h1, h2, own_nar1, own_one0, own_zz, if_true, if_false] <;> first | exact key | rfl
theorem own_fin3n (a b c d : Int32) (e : Int64) (f : Int32) : (f_ad3 c d (nM a) (nS b) (nar .boolean (1 : Int32)) (nC0 e) (nC1 e) (nC2 f)) = (own_fin (own_all (own_all (own_all (1 : Int32) (nC0 e) (nM a)) (nC1 e) (nM a)) (nC2 f) (nM a)) ((((0 : Int64) + (nC0 e).toInt64) + (nC1 e).toInt64) + (nC2 f).toInt64) (nK b) (c.toInt64)) := by
  have key := own_core b c ((((0 : Int32) + (nC0 e)) + (nC1 e)) + (nC2 f)) ((((0 : Int64) + (nC0 e).toInt64) + (nC1 e).toInt64) + (nC2 f).toInt64) (own_a3 (own_c0 _) (own_c1 _) (own_c2 _))
  unfold f_ad3 own_fin own_all
  by_cases h0 : (nC0 e) < nM a <;> by_cases h1 : (nC1 e) < nM a <;> by_cases h2 : (nC2 f) < nM a <;> simp only [h0, h1, h2, own_nar1, own_one0, own_zz, if_true, if_false] <;> first | exact key | rfl

theorem pd7 : parseMethodDescriptor "(IIIIJI)Z" = some ⟨[.int, .int, .int, .int, .long, .int], some .boolean⟩ := by decide +kernel
theorem pf_law : plainFor x = true := by first | exact plainFor_of_name (by first | (simp [plainName, overriddenIn, x]; done) | decide +kernel) | exact Jvm.Free.JP.mathPlain rfl (by decide +kernel) | decide +kernel
theorem ef_law (m : MethodId) (i0 : Int32) (i1 : Int32) (i2 : Int32) (i3 : Int32) (i4 : Int64) (i5 : Int32) : entryFrame m #[(.int i0), (.int i1), (.int i2), (.int i3), (.long i4), (.int i5)] maxLocals = mkF m 0 #[iv i0, iv i1, iv i2, iv i3, .val (.long i4), .second, iv i5, .unset, .unset, .unset, .unset, .unset, .unset, .unset, .unset, .unset, .unset, .unset, .unset, .unset, .unset, .unset, .unset] [] := by first | (simp [entryFrame, mkF, argsToLocals, Value.category, maxLocals]; done) | rfl
def f_law (i0 : Int32) (i1 : Int32) (i2 : Int32) (i3 : Int32) (i4 : Int64) (i5 : Int32) : Int32 := 1
def Q_law (Z : State) (i0 : Int32) (i1 : Int32) (i2 : Int32) (i3 : Int32) (i4 : Int64) (i5 : Int32)  (h0 : Heap) (n0 : Nat) (v : Option Value) (h : Heap) (L : List Loc) : Prop := v = some (.int (f_law i0 i1 i2 i3 i4 i5)) ∧ Fr n0 L
set_option maxRecDepth 65536 in
set_option maxHeartbeats 40000000 in
theorem rm_law (l : Launch) (Z : State) (a0 : Array Value) (hw : ∀ d ∈ tables_1, d.before a0 Z = true) (ws : List Jvm.Cond) (i0 : Int32) (i1 : Int32) (i2 : Int32) (i3 : Int32) (i4 : Int64) (i5 : Int32)  (h0 : Heap) (n0 : Nat) (Z0 : n0 ≤ h0.size)   :
    MetFree l x (head1 (Jvm.Cond.code x code maxLocals ret :: ws) room_1) (fun a U => a = #[(.int i0), (.int i1), (.int i2), (.int i3), (.long i4), (.int i5)] ∧ Z.Warmed39 U.vm ∧ U.heap = h0) (fun _ _ _ _ _ => True) (fun _ U o U' => ∃ v L, o = .returned v ∧ Q_law Z i0 i1 i2 i3 i4 i5  h0 n0 v U'.heap L ∧ FrameEnd U o U' L 16 128) := by
  refine MetFree.of_bodySF pf_law hisR ?_
  intro p e s m args below meth c s₁ Bd hml0 hP hK
  obtain ⟨rfl, hZ, hh⟩ := hP
  have hx := Bd.exec
  have hby := Bd.bytes
  have hml : c.maxLocals = 23 := hml0
  have hown : s.vm.findClass "com/example/hetmo/hetmo/tree/StoppingRulesAdmitsPinLaw" = some m.cls := findClass_of_methodNamed Bd.named
  have hnm := (name_of_methodNamed Bd.named Bd.method).1
  have X0 : Stand p l e room_1 s m #[(.int i0), (.int i1), (.int i2), (.int i3), (.long i4), (.int i5)] below meth c s₁ [] 0 0 := Stand.of_body Bd
  have e0 : s₁.heap = h0 := by rw [← hh, Bd.state]; rfl
  have N0 := Fr.nil n0
  obtain ⟨S0, hS0⟩ : ∃ z, z = s₁.setTop (entryFrame m #[(.int i0), (.int i1), (.int i2), (.int i3), (.long i4), (.int i5)] maxLocals) := ⟨_, rfl⟩
  rw [← hS0]
  have g0 : Goes p e below S0 (s₁.setTop (mkF m 0 #[iv i0, iv i1, iv i2, iv i3, .val (.long i4), .second, iv i5, .unset, .unset, .unset, .unset, .unset, .unset, .unset, .unset, .unset, .unset, .unset, .unset, .unset, .unset, .unset, .unset] [])) := fun t k => by rw [hS0]; exact castTop (ef_law m i0 i1 i2 i3 i4 i5) k
  have g198 : Goes p e below S0 (s₁.setTop (mkF m 5 #[iv i0, iv i1, iv i2, iv i3, .val (.long i4), .second, iv i5, .unset, .unset, .unset, .unset, .unset, .unset, .unset, .unset, .unset, .unset, .unset, .unset, .unset, .unset, .unset, .unset] [(.int (i0 &&& (536870911 : Int32))), (.int (1 : Int32))])) := fun t k => g0 t (by
    refine XT.iconstV X0.here hx rfl (1 : Int32) (hb hby at_0) (by decide) ?_
    show Go p e below t s₁ m 1 #[iv i0, iv i1, iv i2, iv i3, .val (.long i4), .second, iv i5, .unset, .unset, .unset, .unset, .unset, .unset, .unset, .unset, .unset, .unset, .unset, .unset, .unset, .unset, .unset, .unset] [(.int (1 : Int32))]
    refine XS.iloadN X0.here hx rfl (hb hby at_1) rfl ?_
    show Go p e below t s₁ m 2 #[iv i0, iv i1, iv i2, iv i3, .val (.long i4), .second, iv i5, .unset, .unset, .unset, .unset, .unset, .unset, .unset, .unset, .unset, .unset, .unset, .unset, .unset, .unset, .unset, .unset] [(.int i0), (.int (1 : Int32))]
    refine Jvm.Stand.ldcI X0 hx hown (mvT hZ (hw _ (List.mem_of_getElem? (i := 0) rfl))) (g := (mkF m 2 #[iv i0, iv i1, iv i2, iv i3, .val (.long i4), .second, iv i5, .unset, .unset, .unset, .unset, .unset, .unset, .unset, .unset, .unset, .unset, .unset, .unset, .unset, .unset, .unset, .unset] [(.int i0), (.int (1 : Int32))])) rfl (hb hby at_2) ?_
    show Go p e below t s₁ m 4 #[iv i0, iv i1, iv i2, iv i3, .val (.long i4), .second, iv i5, .unset, .unset, .unset, .unset, .unset, .unset, .unset, .unset, .unset, .unset, .unset, .unset, .unset, .unset, .unset, .unset] [(.int (536870911 : Int32)), (.int i0), (.int (1 : Int32))]
    refine XS.iand X0.here hx rfl (hb hby at_4) rfl ?_
    show Go p e below t s₁ m 5 #[iv i0, iv i1, iv i2, iv i3, .val (.long i4), .second, iv i5, .unset, .unset, .unset, .unset, .unset, .unset, .unset, .unset, .unset, .unset, .unset, .unset, .unset, .unset, .unset, .unset] [(.int (i0 &&& (536870911 : Int32))), (.int (1 : Int32))]
    exact k)
  obtain ⟨_, _, ⟨T199, L199, k199, n199⟩, -, X199, ⟨Lc199, hQ199, l199, y199, z199⟩, st199⟩ := Jvm.LawKit.callS X0 hx (y := (⟨"java/lang/Math", "max", "(II)I"⟩ : MethodName)) hown (mvT hZ (hw _ (List.mem_of_getElem? (i := 1) rfl))) (mvT hZ (hw _ (List.mem_of_getElem? (i := 2) rfl))) (mvT hZ (hw _ (List.mem_of_getElem? (i := 3) rfl))) (mvT hZ (hw _ (List.mem_of_getElem? (i := 4) rfl))) (by decide) (backOf (W := 0) (rm_mx l Z a0 hw [] (1 : Int32) (i0 &&& (536870911 : Int32))  h0 n0 Z0 ) hZ (hw _ (List.mem_of_getElem? (i := 4) rfl)) (hw _ (List.mem_of_getElem? (i := 3) rfl)) (by decide) (by decide)) (g := (mkF m 5 #[iv i0, iv i1, iv i2, iv i3, .val (.long i4), .second, iv i5, .unset, .unset, .unset, .unset, .unset, .unset, .unset, .unset, .unset, .unset, .unset, .unset, .unset, .unset, .unset, .unset] [(.int (i0 &&& (536870911 : Int32))), (.int (1 : Int32))])) rfl (by rw [hml]; rfl) (argsL := [(.int (1 : Int32)), (.int (i0 &&& (536870911 : Int32)))]) (rest := []) (lenOf pd0 rfl) rfl (by show 2 * 0 + _ ≤ _; exact Nat.le_of_eq rfl) (hb hby at_5) (fun _ _ => ⟨rfl, e0, (by decide : 0 + 0 ≤ _), (by decide : 0 + 0 ≤ _)⟩)
  dsimp only [Pt.U, Pt.locs, Pt.cells, Pt.slots] at X199 l199 y199 z199 st199 hQ199
  subst l199 y199 z199
  obtain ⟨rfl, N199, e199⟩ := hQ199
  have M199 := Fr.app N0 N199
  have g200 : Goes p e below S0 (T199.setTop (mkF m 8 #[iv i0, iv i1, iv i2, iv i3, .val (.long i4), .second, iv i5, .unset, .unset, .unset, .unset, .unset, .unset, .unset, .unset, .unset, .unset, .unset, .unset, .unset, .unset, .unset, .unset] [(.int (f_mx (1 : Int32) (i0 &&& (536870911 : Int32))))])) := fun t k => g198 t (st199 t k)
  have g201 : Goes p e below S0 (T199.setTop (mkF m 20 #[iv i0, iv i1, iv i2, iv i3, .val (.long i4), .second, iv i5, iv (nM i0), iv (nK i1), .unset, .unset, .unset, .unset, .unset, .unset, .unset, .unset, .unset, .unset, .unset, .unset, .unset, .unset] [])) := fun t k => g200 t (by
    refine XS.istore X199.here hx rfl (hb hby at_8) rfl (l' := #[iv i0, iv i1, iv i2, iv i3, .val (.long i4), .second, iv i5, iv (nM i0), .unset, .unset, .unset, .unset, .unset, .unset, .unset, .unset, .unset, .unset, .unset, .unset, .unset, .unset, .unset]) rfl ?_
    show Go p e below t T199 m 10 #[iv i0, iv i1, iv i2, iv i3, .val (.long i4), .second, iv i5, iv (nM i0), .unset, .unset, .unset, .unset, .unset, .unset, .unset, .unset, .unset, .unset, .unset, .unset, .unset, .unset, .unset] []
    refine XS.iloadN X199.here hx rfl (hb hby at_10) rfl ?_
    show Go p e below t T199 m 11 #[iv i0, iv i1, iv i2, iv i3, .val (.long i4), .second, iv i5, iv (nM i0), .unset, .unset, .unset, .unset, .unset, .unset, .unset, .unset, .unset, .unset, .unset, .unset, .unset, .unset, .unset] [(.int i1)]
    refine XT.sipushV X199.here hx rfl (255 : Int32) (hb hby at_11) (by decide) ?_
    show Go p e below t T199 m 14 #[iv i0, iv i1, iv i2, iv i3, .val (.long i4), .second, iv i5, iv (nM i0), .unset, .unset, .unset, .unset, .unset, .unset, .unset, .unset, .unset, .unset, .unset, .unset, .unset, .unset, .unset] [(.int (255 : Int32)), (.int i1)]
    refine XS.iand X199.here hx rfl (hb hby at_14) rfl ?_
    show Go p e below t T199 m 15 #[iv i0, iv i1, iv i2, iv i3, .val (.long i4), .second, iv i5, iv (nM i0), .unset, .unset, .unset, .unset, .unset, .unset, .unset, .unset, .unset, .unset, .unset, .unset, .unset, .unset, .unset] [(.int (i1 &&& (255 : Int32)))]
    refine XT.bipushV X199.here hx rfl (9 : Int32) (hb hby at_15) (by decide) ?_
    show Go p e below t T199 m 17 #[iv i0, iv i1, iv i2, iv i3, .val (.long i4), .second, iv i5, iv (nM i0), .unset, .unset, .unset, .unset, .unset, .unset, .unset, .unset, .unset, .unset, .unset, .unset, .unset, .unset, .unset] [(.int (9 : Int32)), (.int (i1 &&& (255 : Int32)))]
    refine iremM X199 hx rfl (hb hby at_17) rfl (by decide) ?_
    show Go p e below t T199 m 18 #[iv i0, iv i1, iv i2, iv i3, .val (.long i4), .second, iv i5, iv (nM i0), .unset, .unset, .unset, .unset, .unset, .unset, .unset, .unset, .unset, .unset, .unset, .unset, .unset, .unset, .unset] [(.int ((i1 &&& (255 : Int32)) % (9 : Int32)))]
    refine XS.istore X199.here hx rfl (hb hby at_18) rfl (l' := #[iv i0, iv i1, iv i2, iv i3, .val (.long i4), .second, iv i5, iv (nM i0), iv (nK i1), .unset, .unset, .unset, .unset, .unset, .unset, .unset, .unset, .unset, .unset, .unset, .unset, .unset, .unset]) rfl ?_
    show Go p e below t T199 m 20 #[iv i0, iv i1, iv i2, iv i3, .val (.long i4), .second, iv i5, iv (nM i0), iv (nK i1), .unset, .unset, .unset, .unset, .unset, .unset, .unset, .unset, .unset, .unset, .unset, .unset, .unset, .unset] []
    exact k)
  have gf202 : Goes p e below S0 (T199.setTop (mkF m 33 #[iv i0, iv i1, iv i2, iv i3, .val (.long i4), .second, iv i5, iv (nM i0), iv (nK i1), .unset, .unset, .unset, .unset, .unset, .unset, .unset, .unset, .unset, .unset, .unset, .unset, .unset, .unset] [(.int (nB i1))])) := by
    have g203 : Goes p e below S0 (T199.setTop (mkF m 25 #[iv i0, iv i1, iv i2, iv i3, .val (.long i4), .second, iv i5, iv (nM i0), iv (nK i1), .unset, .unset, .unset, .unset, .unset, .unset, .unset, .unset, .unset, .unset, .unset, .unset, .unset, .unset] [(.int (i1 &&& (256 : Int32)))])) := fun t k => g201 t (by
      refine XS.iloadN X199.here hx rfl (hb hby at_20) rfl ?_
      show Go p e below t T199 m 21 #[iv i0, iv i1, iv i2, iv i3, .val (.long i4), .second, iv i5, iv (nM i0), iv (nK i1), .unset, .unset, .unset, .unset, .unset, .unset, .unset, .unset, .unset, .unset, .unset, .unset, .unset, .unset] [(.int i1)]
      refine XT.sipushV X199.here hx rfl (256 : Int32) (hb hby at_21) (by decide) ?_
      show Go p e below t T199 m 24 #[iv i0, iv i1, iv i2, iv i3, .val (.long i4), .second, iv i5, iv (nM i0), iv (nK i1), .unset, .unset, .unset, .unset, .unset, .unset, .unset, .unset, .unset, .unset, .unset, .unset, .unset, .unset] [(.int (256 : Int32)), (.int i1)]
      refine XS.iand X199.here hx rfl (hb hby at_24) rfl ?_
      show Go p e below t T199 m 25 #[iv i0, iv i1, iv i2, iv i3, .val (.long i4), .second, iv i5, iv (nM i0), iv (nK i1), .unset, .unset, .unset, .unset, .unset, .unset, .unset, .unset, .unset, .unset, .unset, .unset, .unset, .unset] [(.int (i1 &&& (256 : Int32)))]
      exact k)
    by_cases h204 : (i1 &&& (256 : Int32)) = 0
    · skip
      have g205 : Goes p e below S0 (T199.setTop (mkF m 33 #[iv i0, iv i1, iv i2, iv i3, .val (.long i4), .second, iv i5, iv (nM i0), iv (nK i1), .unset, .unset, .unset, .unset, .unset, .unset, .unset, .unset, .unset, .unset, .unset, .unset, .unset, .unset] [(.int (0 : Int32))])) := fun t k => g203 t (by
        refine XS.ifYes X199.here hx rfl (pc0 := 25) (pc' := 32) rfl (hb hby at_25) rfl (XT.i0_eq_t h204) (by decide) (by decide) ?_
        show Go p e below t T199 m 32 #[iv i0, iv i1, iv i2, iv i3, .val (.long i4), .second, iv i5, iv (nM i0), iv (nK i1), .unset, .unset, .unset, .unset, .unset, .unset, .unset, .unset, .unset, .unset, .unset, .unset, .unset, .unset] []
        refine XT.iconstV X199.here hx rfl (0 : Int32) (hb hby at_32) (by decide) ?_
        show Go p e below t T199 m 33 #[iv i0, iv i1, iv i2, iv i3, .val (.long i4), .second, iv i5, iv (nM i0), iv (nK i1), .unset, .unset, .unset, .unset, .unset, .unset, .unset, .unset, .unset, .unset, .unset, .unset, .unset, .unset] [(.int (0 : Int32))]
        exact k)
      have e202_0 : (nB i1) = (0 : Int32) := by first | exact if_pos h204 | (unfold nB; first | (rw [if_pos h204]; done) | (simp [h204]; done) | (rw [if_pos h204]; decide))
      rw [e202_0]; exact g205
    · skip
      have g206 : Goes p e below S0 (T199.setTop (mkF m 33 #[iv i0, iv i1, iv i2, iv i3, .val (.long i4), .second, iv i5, iv (nM i0), iv (nK i1), .unset, .unset, .unset, .unset, .unset, .unset, .unset, .unset, .unset, .unset, .unset, .unset, .unset, .unset] [(.int (1 : Int32))])) := fun t k => g203 t (by
        refine XS.ifNo X199.here hx rfl (hb hby at_25) rfl (XT.i0_eq_f h204) ?_
        show Go p e below t T199 m 28 #[iv i0, iv i1, iv i2, iv i3, .val (.long i4), .second, iv i5, iv (nM i0), iv (nK i1), .unset, .unset, .unset, .unset, .unset, .unset, .unset, .unset, .unset, .unset, .unset, .unset, .unset, .unset] []
        refine XT.iconstV X199.here hx rfl (1 : Int32) (hb hby at_28) (by decide) ?_
        show Go p e below t T199 m 29 #[iv i0, iv i1, iv i2, iv i3, .val (.long i4), .second, iv i5, iv (nM i0), iv (nK i1), .unset, .unset, .unset, .unset, .unset, .unset, .unset, .unset, .unset, .unset, .unset, .unset, .unset, .unset] [(.int (1 : Int32))]
        refine XS.goto X199.here hx rfl (pc0 := 29) (pc' := 33) rfl (hb hby at_29) (by decide) (by decide) ?_
        show Go p e below t T199 m 33 #[iv i0, iv i1, iv i2, iv i3, .val (.long i4), .second, iv i5, iv (nM i0), iv (nK i1), .unset, .unset, .unset, .unset, .unset, .unset, .unset, .unset, .unset, .unset, .unset, .unset, .unset, .unset] [(.int (1 : Int32))]
        exact k)
      have e202_0 : (nB i1) = (1 : Int32) := by first | exact if_neg h204 | (unfold nB; first | (rw [if_neg h204]; done) | (simp [h204]; done) | (rw [if_neg h204]; decide))
      rw [e202_0]; exact g206
  have g207 : Goes p e below S0 (T199.setTop (mkF m 71 #[iv i0, iv i1, iv i2, iv i3, .val (.long i4), .second, iv i5, iv (nM i0), iv (nK i1), iv (nB i1), iv (nL i1), iv (nC0 i4), iv (nC1 i4), iv (nC2 i5), .unset, .unset, .unset, .unset, .unset, .unset, .unset, .unset, .unset] [])) := fun t k => gf202 t (by
    refine XS.istore X199.here hx rfl (hb hby at_33) rfl (l' := #[iv i0, iv i1, iv i2, iv i3, .val (.long i4), .second, iv i5, iv (nM i0), iv (nK i1), iv (nB i1), .unset, .unset, .unset, .unset, .unset, .unset, .unset, .unset, .unset, .unset, .unset, .unset, .unset]) rfl ?_
    show Go p e below t T199 m 35 #[iv i0, iv i1, iv i2, iv i3, .val (.long i4), .second, iv i5, iv (nM i0), iv (nK i1), iv (nB i1), .unset, .unset, .unset, .unset, .unset, .unset, .unset, .unset, .unset, .unset, .unset, .unset, .unset] []
    refine XS.iloadN X199.here hx rfl (hb hby at_35) rfl ?_
    show Go p e below t T199 m 36 #[iv i0, iv i1, iv i2, iv i3, .val (.long i4), .second, iv i5, iv (nM i0), iv (nK i1), iv (nB i1), .unset, .unset, .unset, .unset, .unset, .unset, .unset, .unset, .unset, .unset, .unset, .unset, .unset] [(.int i1)]
    refine XT.bipushV X199.here hx rfl (9 : Int32) (hb hby at_36) (by decide) ?_
    show Go p e below t T199 m 38 #[iv i0, iv i1, iv i2, iv i3, .val (.long i4), .second, iv i5, iv (nM i0), iv (nK i1), iv (nB i1), .unset, .unset, .unset, .unset, .unset, .unset, .unset, .unset, .unset, .unset, .unset, .unset, .unset] [(.int (9 : Int32)), (.int i1)]
    refine XS.iushr X199.here hx rfl (hb hby at_38) rfl ?_
    show Go p e below t T199 m 39 #[iv i0, iv i1, iv i2, iv i3, .val (.long i4), .second, iv i5, iv (nM i0), iv (nK i1), iv (nB i1), .unset, .unset, .unset, .unset, .unset, .unset, .unset, .unset, .unset, .unset, .unset, .unset, .unset] [(.int (((i1).toUInt32 >>> ((9 : Int32) &&& 31).toUInt32).toInt32))]
    refine XT.iconstV X199.here hx rfl (3 : Int32) (hb hby at_39) (by decide) ?_
    show Go p e below t T199 m 40 #[iv i0, iv i1, iv i2, iv i3, .val (.long i4), .second, iv i5, iv (nM i0), iv (nK i1), iv (nB i1), .unset, .unset, .unset, .unset, .unset, .unset, .unset, .unset, .unset, .unset, .unset, .unset, .unset] [(.int (3 : Int32)), (.int (((i1).toUInt32 >>> ((9 : Int32) &&& 31).toUInt32).toInt32))]
    refine XS.iand X199.here hx rfl (hb hby at_40) rfl ?_
    show Go p e below t T199 m 41 #[iv i0, iv i1, iv i2, iv i3, .val (.long i4), .second, iv i5, iv (nM i0), iv (nK i1), iv (nB i1), .unset, .unset, .unset, .unset, .unset, .unset, .unset, .unset, .unset, .unset, .unset, .unset, .unset] [(.int ((((i1).toUInt32 >>> ((9 : Int32) &&& 31).toUInt32).toInt32) &&& (3 : Int32)))]
    refine XS.istore X199.here hx rfl (hb hby at_41) rfl (l' := #[iv i0, iv i1, iv i2, iv i3, .val (.long i4), .second, iv i5, iv (nM i0), iv (nK i1), iv (nB i1), iv (nL i1), .unset, .unset, .unset, .unset, .unset, .unset, .unset, .unset, .unset, .unset, .unset, .unset]) rfl ?_
    show Go p e below t T199 m 43 #[iv i0, iv i1, iv i2, iv i3, .val (.long i4), .second, iv i5, iv (nM i0), iv (nK i1), iv (nB i1), iv (nL i1), .unset, .unset, .unset, .unset, .unset, .unset, .unset, .unset, .unset, .unset, .unset, .unset] []
    refine XS.lload X199.here hx rfl (hb hby at_43) rfl ?_
    show Go p e below t T199 m 45 #[iv i0, iv i1, iv i2, iv i3, .val (.long i4), .second, iv i5, iv (nM i0), iv (nK i1), iv (nB i1), iv (nL i1), .unset, .unset, .unset, .unset, .unset, .unset, .unset, .unset, .unset, .unset, .unset, .unset] [(.long i4)]
    refine Jvm.Stand.ldc2J X199 hx hown (mvT hZ (hw _ (List.mem_of_getElem? (i := 5) rfl))) (g := (mkF m 45 #[iv i0, iv i1, iv i2, iv i3, .val (.long i4), .second, iv i5, iv (nM i0), iv (nK i1), iv (nB i1), iv (nL i1), .unset, .unset, .unset, .unset, .unset, .unset, .unset, .unset, .unset, .unset, .unset, .unset] [(.long i4)])) rfl (hb hby at_45) ?_
    show Go p e below t T199 m 48 #[iv i0, iv i1, iv i2, iv i3, .val (.long i4), .second, iv i5, iv (nM i0), iv (nK i1), iv (nB i1), iv (nL i1), .unset, .unset, .unset, .unset, .unset, .unset, .unset, .unset, .unset, .unset, .unset, .unset] [(.long (536870911 : Int64)), (.long i4)]
    refine XS.land X199.here hx rfl (hb hby at_48) rfl ?_
    show Go p e below t T199 m 49 #[iv i0, iv i1, iv i2, iv i3, .val (.long i4), .second, iv i5, iv (nM i0), iv (nK i1), iv (nB i1), iv (nL i1), .unset, .unset, .unset, .unset, .unset, .unset, .unset, .unset, .unset, .unset, .unset, .unset] [(.long (i4 &&& (536870911 : Int64)))]
    refine XS.l2i X199.here hx rfl (hb hby at_49) rfl ?_
    show Go p e below t T199 m 50 #[iv i0, iv i1, iv i2, iv i3, .val (.long i4), .second, iv i5, iv (nM i0), iv (nK i1), iv (nB i1), iv (nL i1), .unset, .unset, .unset, .unset, .unset, .unset, .unset, .unset, .unset, .unset, .unset, .unset] [(.int ((i4 &&& (536870911 : Int64)).toInt32))]
    refine XS.istore X199.here hx rfl (hb hby at_50) rfl (l' := #[iv i0, iv i1, iv i2, iv i3, .val (.long i4), .second, iv i5, iv (nM i0), iv (nK i1), iv (nB i1), iv (nL i1), iv (nC0 i4), .unset, .unset, .unset, .unset, .unset, .unset, .unset, .unset, .unset, .unset, .unset]) rfl ?_
    show Go p e below t T199 m 52 #[iv i0, iv i1, iv i2, iv i3, .val (.long i4), .second, iv i5, iv (nM i0), iv (nK i1), iv (nB i1), iv (nL i1), iv (nC0 i4), .unset, .unset, .unset, .unset, .unset, .unset, .unset, .unset, .unset, .unset, .unset] []
    refine XS.lload X199.here hx rfl (hb hby at_52) rfl ?_
    show Go p e below t T199 m 54 #[iv i0, iv i1, iv i2, iv i3, .val (.long i4), .second, iv i5, iv (nM i0), iv (nK i1), iv (nB i1), iv (nL i1), iv (nC0 i4), .unset, .unset, .unset, .unset, .unset, .unset, .unset, .unset, .unset, .unset, .unset] [(.long i4)]
    refine XT.bipushV X199.here hx rfl (32 : Int32) (hb hby at_54) (by decide) ?_
    show Go p e below t T199 m 56 #[iv i0, iv i1, iv i2, iv i3, .val (.long i4), .second, iv i5, iv (nM i0), iv (nK i1), iv (nB i1), iv (nL i1), iv (nC0 i4), .unset, .unset, .unset, .unset, .unset, .unset, .unset, .unset, .unset, .unset, .unset] [(.int (32 : Int32)), (.long i4)]
    refine XS.lushr X199.here hx rfl (hb hby at_56) rfl ?_
    show Go p e below t T199 m 57 #[iv i0, iv i1, iv i2, iv i3, .val (.long i4), .second, iv i5, iv (nM i0), iv (nK i1), iv (nB i1), iv (nL i1), iv (nC0 i4), .unset, .unset, .unset, .unset, .unset, .unset, .unset, .unset, .unset, .unset, .unset] [(.long (((i4).toUInt64 >>> ((32 : Int32) &&& 0x3f).toInt64.toUInt64).toInt64))]
    refine Jvm.Stand.ldc2J X199 hx hown (mvT hZ (hw _ (List.mem_of_getElem? (i := 5) rfl))) (g := (mkF m 57 #[iv i0, iv i1, iv i2, iv i3, .val (.long i4), .second, iv i5, iv (nM i0), iv (nK i1), iv (nB i1), iv (nL i1), iv (nC0 i4), .unset, .unset, .unset, .unset, .unset, .unset, .unset, .unset, .unset, .unset, .unset] [(.long (((i4).toUInt64 >>> ((32 : Int32) &&& 0x3f).toInt64.toUInt64).toInt64))])) rfl (hb hby at_57) ?_
    show Go p e below t T199 m 60 #[iv i0, iv i1, iv i2, iv i3, .val (.long i4), .second, iv i5, iv (nM i0), iv (nK i1), iv (nB i1), iv (nL i1), iv (nC0 i4), .unset, .unset, .unset, .unset, .unset, .unset, .unset, .unset, .unset, .unset, .unset] [(.long (536870911 : Int64)), (.long (((i4).toUInt64 >>> ((32 : Int32) &&& 0x3f).toInt64.toUInt64).toInt64))]
    refine XS.land X199.here hx rfl (hb hby at_60) rfl ?_
    show Go p e below t T199 m 61 #[iv i0, iv i1, iv i2, iv i3, .val (.long i4), .second, iv i5, iv (nM i0), iv (nK i1), iv (nB i1), iv (nL i1), iv (nC0 i4), .unset, .unset, .unset, .unset, .unset, .unset, .unset, .unset, .unset, .unset, .unset] [(.long ((((i4).toUInt64 >>> ((32 : Int32) &&& 0x3f).toInt64.toUInt64).toInt64) &&& (536870911 : Int64)))]
    refine XS.l2i X199.here hx rfl (hb hby at_61) rfl ?_
    show Go p e below t T199 m 62 #[iv i0, iv i1, iv i2, iv i3, .val (.long i4), .second, iv i5, iv (nM i0), iv (nK i1), iv (nB i1), iv (nL i1), iv (nC0 i4), .unset, .unset, .unset, .unset, .unset, .unset, .unset, .unset, .unset, .unset, .unset] [(.int (((((i4).toUInt64 >>> ((32 : Int32) &&& 0x3f).toInt64.toUInt64).toInt64) &&& (536870911 : Int64)).toInt32))]
    refine XS.istore X199.here hx rfl (hb hby at_62) rfl (l' := #[iv i0, iv i1, iv i2, iv i3, .val (.long i4), .second, iv i5, iv (nM i0), iv (nK i1), iv (nB i1), iv (nL i1), iv (nC0 i4), iv (nC1 i4), .unset, .unset, .unset, .unset, .unset, .unset, .unset, .unset, .unset, .unset]) rfl ?_
    show Go p e below t T199 m 64 #[iv i0, iv i1, iv i2, iv i3, .val (.long i4), .second, iv i5, iv (nM i0), iv (nK i1), iv (nB i1), iv (nL i1), iv (nC0 i4), iv (nC1 i4), .unset, .unset, .unset, .unset, .unset, .unset, .unset, .unset, .unset, .unset] []
    refine XS.iload X199.here hx rfl (hb hby at_64) rfl ?_
    show Go p e below t T199 m 66 #[iv i0, iv i1, iv i2, iv i3, .val (.long i4), .second, iv i5, iv (nM i0), iv (nK i1), iv (nB i1), iv (nL i1), iv (nC0 i4), iv (nC1 i4), .unset, .unset, .unset, .unset, .unset, .unset, .unset, .unset, .unset, .unset] [(.int i5)]
    refine Jvm.Stand.ldcI X199 hx hown (mvT hZ (hw _ (List.mem_of_getElem? (i := 0) rfl))) (g := (mkF m 66 #[iv i0, iv i1, iv i2, iv i3, .val (.long i4), .second, iv i5, iv (nM i0), iv (nK i1), iv (nB i1), iv (nL i1), iv (nC0 i4), iv (nC1 i4), .unset, .unset, .unset, .unset, .unset, .unset, .unset, .unset, .unset, .unset] [(.int i5)])) rfl (hb hby at_66) ?_
    show Go p e below t T199 m 68 #[iv i0, iv i1, iv i2, iv i3, .val (.long i4), .second, iv i5, iv (nM i0), iv (nK i1), iv (nB i1), iv (nL i1), iv (nC0 i4), iv (nC1 i4), .unset, .unset, .unset, .unset, .unset, .unset, .unset, .unset, .unset, .unset] [(.int (536870911 : Int32)), (.int i5)]
    refine XS.iand X199.here hx rfl (hb hby at_68) rfl ?_
    show Go p e below t T199 m 69 #[iv i0, iv i1, iv i2, iv i3, .val (.long i4), .second, iv i5, iv (nM i0), iv (nK i1), iv (nB i1), iv (nL i1), iv (nC0 i4), iv (nC1 i4), .unset, .unset, .unset, .unset, .unset, .unset, .unset, .unset, .unset, .unset] [(.int (i5 &&& (536870911 : Int32)))]
    refine XS.istore X199.here hx rfl (hb hby at_69) rfl (l' := #[iv i0, iv i1, iv i2, iv i3, .val (.long i4), .second, iv i5, iv (nM i0), iv (nK i1), iv (nB i1), iv (nL i1), iv (nC0 i4), iv (nC1 i4), iv (nC2 i5), .unset, .unset, .unset, .unset, .unset, .unset, .unset, .unset, .unset]) rfl ?_
    show Go p e below t T199 m 71 #[iv i0, iv i1, iv i2, iv i3, .val (.long i4), .second, iv i5, iv (nM i0), iv (nK i1), iv (nB i1), iv (nL i1), iv (nC0 i4), iv (nC1 i4), iv (nC2 i5), .unset, .unset, .unset, .unset, .unset, .unset, .unset, .unset, .unset] []
    exact k)
  obtain ⟨n1, hn1⟩ : ∃ z, z = (nL i1) := ⟨_, rfl⟩
  rw [← hn1] at g207
  rcases (by rw [hn1]; exact own_l4 i1 : n1 = 0 ∨ n1 = 1 ∨ n1 = 2 ∨ n1 = 3) with rfl | rfl | rfl | rfl
  · skip
    have g208 : Goes p e below S0 (T199.setTop (mkF m 73 #[iv i0, iv i1, iv i2, iv i3, .val (.long i4), .second, iv i5, iv (nM i0), iv (nK i1), iv (nB i1), iv (0 : Int32), iv (nC0 i4), iv (nC1 i4), iv (nC2 i5), .unset, .unset, .unset, .unset, .unset, .unset, .unset, .unset, .unset] [(.int (0 : Int32))])) := fun t k => g207 t (by
      refine XS.iload X199.here hx rfl (hb hby at_71) rfl ?_
      show Go p e below t T199 m 73 #[iv i0, iv i1, iv i2, iv i3, .val (.long i4), .second, iv i5, iv (nM i0), iv (nK i1), iv (nB i1), iv (0 : Int32), iv (nC0 i4), iv (nC1 i4), iv (nC2 i5), .unset, .unset, .unset, .unset, .unset, .unset, .unset, .unset, .unset] [(.int (0 : Int32))]
      exact k)
    obtain ⟨T209, h209, k209, X209, e209, E209, A209, st209⟩ := newP X199 hx hZ (hw _ (List.mem_of_getElem? (i := 6) rfl)) e199 (g := (mkF m 73 #[iv i0, iv i1, iv i2, iv i3, .val (.long i4), .second, iv i5, iv (nM i0), iv (nK i1), iv (nB i1), iv (0 : Int32), iv (nC0 i4), iv (nC1 i4), iv (nC2 i5), .unset, .unset, .unset, .unset, .unset, .unset, .unset, .unset, .unset] [(.int (0 : Int32))])) rfl (hb hby at_73) rfl (by decide) (cap := 0) (by decide) (by decide) (by decide) (by decide)
    obtain ⟨b209, gb209⟩ : ∃ z, z = h0.size := ⟨_, rfl⟩
    have sz209 : h0.size ≤ b209 := Nat.le_trans (Nat.le_refl _) (Nat.le_of_eq gb209.symm)
    have ng209 : n0 ≤ b209 := Nat.le_trans Z0 sz209
    rw [← gb209] at A209 st209
    have V209 : Arv Z h209 b209 k209 .int (0 : Int32) [] (.int (0 : Int32)) := (Arv.new A209 (by decide)).pad (pad_rep [] (.int (0 : Int32)) 0)
    have g210 : Goes p e below S0 (T209.setTop (mkF m 75 #[iv i0, iv i1, iv i2, iv i3, .val (.long i4), .second, iv i5, iv (nM i0), iv (nK i1), iv (nB i1), iv (0 : Int32), iv (nC0 i4), iv (nC1 i4), iv (nC2 i5), .unset, .unset, .unset, .unset, .unset, .unset, .unset, .unset, .unset] [(.ref b209)])) := fun t k => g208 t (st209 t k)
    have g211 : Goes p e below S0 (T209.setTop (mkF m 113 #[iv i0, iv i1, iv i2, iv i3, .val (.long i4), .second, iv i5, iv (nM i0), iv (nK i1), iv (nB i1), iv (0 : Int32), iv (nC0 i4), iv (nC1 i4), iv (nC2 i5), rv b209, .unset, .unset, .unset, .unset, .unset, .unset, .unset, .unset] [])) := fun t k => g210 t (by
      refine XS.astore X209.here hx rfl (hb hby at_75) rfl rfl (l' := #[iv i0, iv i1, iv i2, iv i3, .val (.long i4), .second, iv i5, iv (nM i0), iv (nK i1), iv (nB i1), iv (0 : Int32), iv (nC0 i4), iv (nC1 i4), iv (nC2 i5), rv b209, .unset, .unset, .unset, .unset, .unset, .unset, .unset, .unset]) rfl ?_
      show Go p e below t T209 m 77 #[iv i0, iv i1, iv i2, iv i3, .val (.long i4), .second, iv i5, iv (nM i0), iv (nK i1), iv (nB i1), iv (0 : Int32), iv (nC0 i4), iv (nC1 i4), iv (nC2 i5), rv b209, .unset, .unset, .unset, .unset, .unset, .unset, .unset, .unset] []
      refine XS.iload X209.here hx rfl (hb hby at_77) rfl ?_
      show Go p e below t T209 m 79 #[iv i0, iv i1, iv i2, iv i3, .val (.long i4), .second, iv i5, iv (nM i0), iv (nK i1), iv (nB i1), iv (0 : Int32), iv (nC0 i4), iv (nC1 i4), iv (nC2 i5), rv b209, .unset, .unset, .unset, .unset, .unset, .unset, .unset, .unset] [(.int (0 : Int32))]
      refine XT.iconstV X209.here hx rfl (1 : Int32) (hb hby at_79) (by decide) ?_
      show Go p e below t T209 m 80 #[iv i0, iv i1, iv i2, iv i3, .val (.long i4), .second, iv i5, iv (nM i0), iv (nK i1), iv (nB i1), iv (0 : Int32), iv (nC0 i4), iv (nC1 i4), iv (nC2 i5), rv b209, .unset, .unset, .unset, .unset, .unset, .unset, .unset, .unset] [(.int (1 : Int32)), (.int (0 : Int32))]
      refine XS.icmpYes X209.here hx rfl (pc0 := 80) (pc' := 89) rfl (hb hby at_80) rfl (XT.ii_lt_t (by decide)) (by decide) (by decide) ?_
      show Go p e below t T209 m 89 #[iv i0, iv i1, iv i2, iv i3, .val (.long i4), .second, iv i5, iv (nM i0), iv (nK i1), iv (nB i1), iv (0 : Int32), iv (nC0 i4), iv (nC1 i4), iv (nC2 i5), rv b209, .unset, .unset, .unset, .unset, .unset, .unset, .unset, .unset] []
      refine XS.iload X209.here hx rfl (hb hby at_89) rfl ?_
      show Go p e below t T209 m 91 #[iv i0, iv i1, iv i2, iv i3, .val (.long i4), .second, iv i5, iv (nM i0), iv (nK i1), iv (nB i1), iv (0 : Int32), iv (nC0 i4), iv (nC1 i4), iv (nC2 i5), rv b209, .unset, .unset, .unset, .unset, .unset, .unset, .unset, .unset] [(.int (0 : Int32))]
      refine XT.iconstV X209.here hx rfl (2 : Int32) (hb hby at_91) (by decide) ?_
      show Go p e below t T209 m 92 #[iv i0, iv i1, iv i2, iv i3, .val (.long i4), .second, iv i5, iv (nM i0), iv (nK i1), iv (nB i1), iv (0 : Int32), iv (nC0 i4), iv (nC1 i4), iv (nC2 i5), rv b209, .unset, .unset, .unset, .unset, .unset, .unset, .unset, .unset] [(.int (2 : Int32)), (.int (0 : Int32))]
      refine XS.icmpYes X209.here hx rfl (pc0 := 92) (pc' := 101) rfl (hb hby at_92) rfl (XT.ii_lt_t (by decide)) (by decide) (by decide) ?_
      show Go p e below t T209 m 101 #[iv i0, iv i1, iv i2, iv i3, .val (.long i4), .second, iv i5, iv (nM i0), iv (nK i1), iv (nB i1), iv (0 : Int32), iv (nC0 i4), iv (nC1 i4), iv (nC2 i5), rv b209, .unset, .unset, .unset, .unset, .unset, .unset, .unset, .unset] []
      refine XS.iload X209.here hx rfl (hb hby at_101) rfl ?_
      show Go p e below t T209 m 103 #[iv i0, iv i1, iv i2, iv i3, .val (.long i4), .second, iv i5, iv (nM i0), iv (nK i1), iv (nB i1), iv (0 : Int32), iv (nC0 i4), iv (nC1 i4), iv (nC2 i5), rv b209, .unset, .unset, .unset, .unset, .unset, .unset, .unset, .unset] [(.int (0 : Int32))]
      refine XT.iconstV X209.here hx rfl (3 : Int32) (hb hby at_103) (by decide) ?_
      show Go p e below t T209 m 104 #[iv i0, iv i1, iv i2, iv i3, .val (.long i4), .second, iv i5, iv (nM i0), iv (nK i1), iv (nB i1), iv (0 : Int32), iv (nC0 i4), iv (nC1 i4), iv (nC2 i5), rv b209, .unset, .unset, .unset, .unset, .unset, .unset, .unset, .unset] [(.int (3 : Int32)), (.int (0 : Int32))]
      refine XS.icmpYes X209.here hx rfl (pc0 := 104) (pc' := 113) rfl (hb hby at_104) rfl (XT.ii_lt_t (by decide)) (by decide) (by decide) ?_
      show Go p e below t T209 m 113 #[iv i0, iv i1, iv i2, iv i3, .val (.long i4), .second, iv i5, iv (nM i0), iv (nK i1), iv (nB i1), iv (0 : Int32), iv (nC0 i4), iv (nC1 i4), iv (nC2 i5), rv b209, .unset, .unset, .unset, .unset, .unset, .unset, .unset, .unset] []
      exact k)
    obtain ⟨T212, h212, X212, e212, E212, A212, D212, -, st212⟩ := newO X209 hx hZ hown (hw _ (List.mem_of_getElem? (i := 7) rfl)) (hw _ (List.mem_of_getElem? (i := 8) rfl)) (hw _ (List.mem_of_getElem? (i := 9) rfl)) e209 (g := (mkF m 113 #[iv i0, iv i1, iv i2, iv i3, .val (.long i4), .second, iv i5, iv (nM i0), iv (nK i1), iv (nB i1), iv (0 : Int32), iv (nC0 i4), iv (nC1 i4), iv (nC2 i5), rv b209, .unset, .unset, .unset, .unset, .unset, .unset, .unset, .unset] [])) rfl (hb hby at_113) (by decide) (by decide)
    obtain ⟨b212, gb212⟩ : ∃ z, z = h209.size := ⟨_, rfl⟩
    have sz212 : h0.size ≤ b212 := Nat.le_trans (Nat.le_trans (Nat.le_refl _) E209.1) (Nat.le_of_eq gb212.symm)
    have ng212 : n0 ≤ b212 := Nat.le_trans Z0 sz212
    rw [← gb212] at A212 D212 st212
    have F212_213 : Fld Z h212 b212 "com/example/hetmo/hetmo/tree/StoppingRules" "_minLeaf" "I" (.int (0 : Int32)) := D212 (Or.inr (hw _ (List.mem_of_getElem? (i := 26) rfl))) (ty := .int) (by decide)
    have F212_214 : Fld Z h212 b212 "com/example/hetmo/hetmo/tree/StoppingRules" "_minShare" "D" (.double (0 : UInt64)) := D212 (Or.inr (hw _ (List.mem_of_getElem? (i := 28) rfl))) (ty := .double) (by decide)
    have F212_215 : Fld Z h212 b212 "com/example/hetmo/hetmo/tree/StoppingRules" "_minImprovement" "D" (.double (0 : UInt64)) := D212 (Or.inr (hw _ (List.mem_of_getElem? (i := 30) rfl))) (ty := .double) (by decide)
    have F212_216 : Fld Z h212 b212 "com/example/hetmo/hetmo/tree/StoppingRules" "_maxDepth" "I" (.int (0 : Int32)) := D212 (Or.inr (hw _ (List.mem_of_getElem? (i := 32) rfl))) (ty := .int) (by decide)
    have F212_217 : Fld Z h212 b212 "com/example/hetmo/hetmo/tree/StoppingRules" "_countedApartBy" "[D" .null := D212 (Or.inr (hw _ (List.mem_of_getElem? (i := 34) rfl))) (ty := (.array .double)) (by decide)
    have F212_218 : Fld Z h212 b212 "com/example/hetmo/hetmo/tree/StoppingRules" "_shareOfNode" "Z" (.int (0 : Int32)) := D212 (Or.inr (hw _ (List.mem_of_getElem? (i := 36) rfl))) (ty := .boolean) (by decide)
    have F212_219 : Fld Z h212 b212 "com/example/hetmo/hetmo/tree/StoppingRules" "_countingEstimatingRows" "Z" (.int (0 : Int32)) := D212 (Or.inr (hw _ (List.mem_of_getElem? (i := 38) rfl))) (ty := .boolean) (by decide)
    have g220 : Goes p e below S0 (T212.setTop (mkF m 116 #[iv i0, iv i1, iv i2, iv i3, .val (.long i4), .second, iv i5, iv (nM i0), iv (nK i1), iv (nB i1), iv (0 : Int32), iv (nC0 i4), iv (nC1 i4), iv (nC2 i5), rv b209, .unset, .unset, .unset, .unset, .unset, .unset, .unset, .unset] [(.ref b212)])) := fun t k => g211 t (st212 t k)
    have g221 : Goes p e below S0 (T212.setTop (mkF m 128 #[iv i0, iv i1, iv i2, iv i3, .val (.long i4), .second, iv i5, iv (nM i0), iv (nK i1), iv (nB i1), iv (0 : Int32), iv (nC0 i4), iv (nC1 i4), iv (nC2 i5), rv b209, .unset, .unset, .unset, .unset, .unset, .unset, .unset, .unset] [(.int (0 : Int32)), (.double (0 : UInt64)), (.double (nS i1)), (.int (nM i0)), (.ref b212), (.ref b212)])) := fun t k => g220 t (by
      refine XS.dup X212.here hx rfl (hb hby at_116) rfl rfl ?_
      show Go p e below t T212 m 117 #[iv i0, iv i1, iv i2, iv i3, .val (.long i4), .second, iv i5, iv (nM i0), iv (nK i1), iv (nB i1), iv (0 : Int32), iv (nC0 i4), iv (nC1 i4), iv (nC2 i5), rv b209, .unset, .unset, .unset, .unset, .unset, .unset, .unset, .unset] [(.ref b212), (.ref b212)]
      refine XS.iload X212.here hx rfl (hb hby at_117) rfl ?_
      show Go p e below t T212 m 119 #[iv i0, iv i1, iv i2, iv i3, .val (.long i4), .second, iv i5, iv (nM i0), iv (nK i1), iv (nB i1), iv (0 : Int32), iv (nC0 i4), iv (nC1 i4), iv (nC2 i5), rv b209, .unset, .unset, .unset, .unset, .unset, .unset, .unset, .unset] [(.int (nM i0)), (.ref b212), (.ref b212)]
      refine XS.iload X212.here hx rfl (hb hby at_119) rfl ?_
      show Go p e below t T212 m 121 #[iv i0, iv i1, iv i2, iv i3, .val (.long i4), .second, iv i5, iv (nM i0), iv (nK i1), iv (nB i1), iv (0 : Int32), iv (nC0 i4), iv (nC1 i4), iv (nC2 i5), rv b209, .unset, .unset, .unset, .unset, .unset, .unset, .unset, .unset] [(.int (nK i1)), (.int (nM i0)), (.ref b212), (.ref b212)]
      refine XS.i2dS X212.here hx rfl (hb hby at_121) rfl rfl ?_
      show Go p e below t T212 m 122 #[iv i0, iv i1, iv i2, iv i3, .val (.long i4), .second, iv i5, iv (nM i0), iv (nK i1), iv (nB i1), iv (0 : Int32), iv (nC0 i4), iv (nC1 i4), iv (nC2 i5), rv b209, .unset, .unset, .unset, .unset, .unset, .unset, .unset, .unset] [(.double (FP.i2d (nK i1))), (.int (nM i0)), (.ref b212), (.ref b212)]
      refine X212.ldc2DoubleC hx hown (mvT hZ (hw _ (List.mem_of_getElem? (i := 10) rfl))) (g := (mkF m 122 #[iv i0, iv i1, iv i2, iv i3, .val (.long i4), .second, iv i5, iv (nM i0), iv (nK i1), iv (nB i1), iv (0 : Int32), iv (nC0 i4), iv (nC1 i4), iv (nC2 i5), rv b209, .unset, .unset, .unset, .unset, .unset, .unset, .unset, .unset] [(.double (FP.i2d (nK i1))), (.int (nM i0)), (.ref b212), (.ref b212)])) rfl (hb hby at_122) _ ?_
      show Go p e below t T212 m 125 #[iv i0, iv i1, iv i2, iv i3, .val (.long i4), .second, iv i5, iv (nM i0), iv (nK i1), iv (nB i1), iv (0 : Int32), iv (nC0 i4), iv (nC1 i4), iv (nC2 i5), rv b209, .unset, .unset, .unset, .unset, .unset, .unset, .unset, .unset] [(.double (4620693217682128896 : UInt64)), (.double (FP.i2d (nK i1))), (.int (nM i0)), (.ref b212), (.ref b212)]
      refine XS.ddivS X212.here hx rfl (hb hby at_125) rfl (own_qd i1) rfl ?_
      show Go p e below t T212 m 126 #[iv i0, iv i1, iv i2, iv i3, .val (.long i4), .second, iv i5, iv (nM i0), iv (nK i1), iv (nB i1), iv (0 : Int32), iv (nC0 i4), iv (nC1 i4), iv (nC2 i5), rv b209, .unset, .unset, .unset, .unset, .unset, .unset, .unset, .unset] [(.double (FP.ddiv (FP.i2d (nK i1)) (4620693217682128896 : UInt64))), (.int (nM i0)), (.ref b212), (.ref b212)]
      show Go p e below t T212 m 126 #[iv i0, iv i1, iv i2, iv i3, .val (.long i4), .second, iv i5, iv (nM i0), iv (nK i1), iv (nB i1), iv (0 : Int32), iv (nC0 i4), iv (nC1 i4), iv (nC2 i5), rv b209, .unset, .unset, .unset, .unset, .unset, .unset, .unset, .unset] [(.double (nS i1)), (.int (nM i0)), (.ref b212), (.ref b212)]
      refine XS.dconst0 X212.here hx rfl (hb hby at_126) (v := (0 : UInt64)) rfl ?_
      show Go p e below t T212 m 127 #[iv i0, iv i1, iv i2, iv i3, .val (.long i4), .second, iv i5, iv (nM i0), iv (nK i1), iv (nB i1), iv (0 : Int32), iv (nC0 i4), iv (nC1 i4), iv (nC2 i5), rv b209, .unset, .unset, .unset, .unset, .unset, .unset, .unset, .unset] [(.double (0 : UInt64)), (.double (nS i1)), (.int (nM i0)), (.ref b212), (.ref b212)]
      refine XT.iconstV X212.here hx rfl (0 : Int32) (hb hby at_127) (by decide) ?_
      show Go p e below t T212 m 128 #[iv i0, iv i1, iv i2, iv i3, .val (.long i4), .second, iv i5, iv (nM i0), iv (nK i1), iv (nB i1), iv (0 : Int32), iv (nC0 i4), iv (nC1 i4), iv (nC2 i5), rv b209, .unset, .unset, .unset, .unset, .unset, .unset, .unset, .unset] [(.int (0 : Int32)), (.double (0 : UInt64)), (.double (nS i1)), (.int (nM i0)), (.ref b212), (.ref b212)]
      exact k)
    obtain ⟨_, _, ⟨T222, L222, k222, n222⟩, -, X222, ⟨Lc222, hQ222, l222, y222, z222⟩, st222⟩ := X212.specialBack hx (y := (⟨"com/example/hetmo/hetmo/tree/StoppingRules", "<init>", "(IDDI)V"⟩ : MethodName)) rfl hown (mvT hZ (hw _ (List.mem_of_getElem? (i := 11) rfl))) (mvT hZ (hw _ (List.mem_of_getElem? (i := 12) rfl))) (mvT hZ (hw _ (List.mem_of_getElem? (i := 13) rfl))) (by decide) (backOf (W := 1) (rm_ini l Z a0 hw [] b212 (nM i0) (nS i1) (0 : UInt64) (0 : Int32)  h212 n0 (Nat.le_trans Z0 (Nat.le_trans (Nat.le_trans (Nat.le_refl _) E209.1) E212.1)) A212 F212_213 F212_214 F212_215 F212_216 F212_217 F212_218 F212_219 ng212 (own_q1 i0) (own_q2 i1) (own_q3 i1) (by decide +kernel) (by unfold Jvm.Free.Fl.NoNaN64; decide) (by decide +kernel) (by decide)) hZ (hw _ (List.mem_of_getElem? (i := 13) rfl)) (hw _ (List.mem_of_getElem? (i := 9) rfl)) (by decide) (by decide)) (g := (mkF m 128 #[iv i0, iv i1, iv i2, iv i3, .val (.long i4), .second, iv i5, iv (nM i0), iv (nK i1), iv (nB i1), iv (0 : Int32), iv (nC0 i4), iv (nC1 i4), iv (nC2 i5), rv b209, .unset, .unset, .unset, .unset, .unset, .unset, .unset, .unset] [(.int (0 : Int32)), (.double (0 : UInt64)), (.double (nS i1)), (.int (nM i0)), (.ref b212), (.ref b212)])) rfl (by rw [hml]; rfl) (Steps.refl _) (a := b212) (argsL := [(.int (nM i0)), (.double (nS i1)), (.double (0 : UInt64)), (.int (0 : Int32))]) (rest := [(.ref b212)]) (lenOf pd3 rfl) rfl (by show 2 * 0 + _ ≤ _; exact Nat.le_of_eq rfl) (hb hby at_128) (fun _ _ => ⟨rfl, e212, (by decide : 2 + 0 ≤ _), (by decide : 7 + 0 ≤ _)⟩)
    dsimp only [Pt.U, Pt.locs, Pt.cells, Pt.slots] at X222 l222 y222 z222 st222 hQ222
    subst l222 y222 z222
    obtain ⟨rfl, N222, R222_0, R222_1, R222_2, R222_3, R222_4, R222_5, R222_6, R222_7, R222_8⟩ := hQ222
    have M222 := Fr.app M199 N222
    have g223 : Goes p e below S0 (T222.setTop (mkF m 131 #[iv i0, iv i1, iv i2, iv i3, .val (.long i4), .second, iv i5, iv (nM i0), iv (nK i1), iv (nB i1), iv (0 : Int32), iv (nC0 i4), iv (nC1 i4), iv (nC2 i5), rv b209, .unset, .unset, .unset, .unset, .unset, .unset, .unset, .unset] [(.ref b212)])) := fun t k => g221 t (st222.trans k)
    have g224 : Goes p e below S0 (T222.setTop (mkF m 135 #[iv i0, iv i1, iv i2, iv i3, .val (.long i4), .second, iv i5, iv (nM i0), iv (nK i1), iv (nB i1), iv (0 : Int32), iv (nC0 i4), iv (nC1 i4), iv (nC2 i5), rv b209, rv b212, .unset, .unset, .unset, .unset, .unset, .unset, .unset] [(.int (nB i1))])) := fun t k => g223 t (by
      refine XS.astore X222.here hx rfl (hb hby at_131) rfl rfl (l' := #[iv i0, iv i1, iv i2, iv i3, .val (.long i4), .second, iv i5, iv (nM i0), iv (nK i1), iv (nB i1), iv (0 : Int32), iv (nC0 i4), iv (nC1 i4), iv (nC2 i5), rv b209, rv b212, .unset, .unset, .unset, .unset, .unset, .unset, .unset]) rfl ?_
      show Go p e below t T222 m 133 #[iv i0, iv i1, iv i2, iv i3, .val (.long i4), .second, iv i5, iv (nM i0), iv (nK i1), iv (nB i1), iv (0 : Int32), iv (nC0 i4), iv (nC1 i4), iv (nC2 i5), rv b209, rv b212, .unset, .unset, .unset, .unset, .unset, .unset, .unset] []
      refine XS.iload X222.here hx rfl (hb hby at_133) rfl ?_
      show Go p e below t T222 m 135 #[iv i0, iv i1, iv i2, iv i3, .val (.long i4), .second, iv i5, iv (nM i0), iv (nK i1), iv (nB i1), iv (0 : Int32), iv (nC0 i4), iv (nC1 i4), iv (nC2 i5), rv b209, rv b212, .unset, .unset, .unset, .unset, .unset, .unset, .unset] [(.int (nB i1))]
      exact k)
    by_cases h225 : (nB i1) = 0
    · skip
      have g226 : Goes p e below S0 (T222.setTop (mkF m 151 #[iv i0, iv i1, iv i2, iv i3, .val (.long i4), .second, iv i5, iv (nM i0), iv (nK i1), iv (nB i1), iv (0 : Int32), iv (nC0 i4), iv (nC1 i4), iv (nC2 i5), rv b209, rv b212, .unset, .unset, .unset, .unset, .unset, .unset, .unset] [(.int i3), (.int i2), (.ref b209), (.ref b212)])) := fun t k => g224 t (by
        refine XS.ifYes X222.here hx rfl (pc0 := 135) (pc' := 145) rfl (hb hby at_135) rfl (XT.i0_eq_t h225) (by decide) (by decide) ?_
        show Go p e below t T222 m 145 #[iv i0, iv i1, iv i2, iv i3, .val (.long i4), .second, iv i5, iv (nM i0), iv (nK i1), iv (nB i1), iv (0 : Int32), iv (nC0 i4), iv (nC1 i4), iv (nC2 i5), rv b209, rv b212, .unset, .unset, .unset, .unset, .unset, .unset, .unset] []
        refine XS.aload X222.here hx rfl (hb hby at_145) rfl rfl ?_
        show Go p e below t T222 m 147 #[iv i0, iv i1, iv i2, iv i3, .val (.long i4), .second, iv i5, iv (nM i0), iv (nK i1), iv (nB i1), iv (0 : Int32), iv (nC0 i4), iv (nC1 i4), iv (nC2 i5), rv b209, rv b212, .unset, .unset, .unset, .unset, .unset, .unset, .unset] [(.ref b212)]
        refine XS.aload X222.here hx rfl (hb hby at_147) rfl rfl ?_
        show Go p e below t T222 m 149 #[iv i0, iv i1, iv i2, iv i3, .val (.long i4), .second, iv i5, iv (nM i0), iv (nK i1), iv (nB i1), iv (0 : Int32), iv (nC0 i4), iv (nC1 i4), iv (nC2 i5), rv b209, rv b212, .unset, .unset, .unset, .unset, .unset, .unset, .unset] [(.ref b209), (.ref b212)]
        refine XS.iloadN X222.here hx rfl (hb hby at_149) rfl ?_
        show Go p e below t T222 m 150 #[iv i0, iv i1, iv i2, iv i3, .val (.long i4), .second, iv i5, iv (nM i0), iv (nK i1), iv (nB i1), iv (0 : Int32), iv (nC0 i4), iv (nC1 i4), iv (nC2 i5), rv b209, rv b212, .unset, .unset, .unset, .unset, .unset, .unset, .unset] [(.int i2), (.ref b209), (.ref b212)]
        refine XS.iloadN X222.here hx rfl (hb hby at_150) rfl ?_
        show Go p e below t T222 m 151 #[iv i0, iv i1, iv i2, iv i3, .val (.long i4), .second, iv i5, iv (nM i0), iv (nK i1), iv (nB i1), iv (0 : Int32), iv (nC0 i4), iv (nC1 i4), iv (nC2 i5), rv b209, rv b212, .unset, .unset, .unset, .unset, .unset, .unset, .unset] [(.int i3), (.int i2), (.ref b209), (.ref b212)]
        exact k)
      obtain ⟨cq227, kq227, q227a, q227b, q227c⟩ := isOf hZ rfl R222_1
      obtain ⟨_, _, ⟨T227, L227, k227, n227⟩, -, X227, ⟨Lc227, hQ227, l227, y227, z227⟩, st227⟩ := X222.virtualBack hx (y := (⟨"com/example/hetmo/hetmo/tree/StoppingRules", "admits", "([III)Z"⟩ : MethodName)) (z := (⟨"com/example/hetmo/hetmo/tree/StoppingRules", "admits", "([III)Z"⟩ : MethodName)) hown (mvT hZ (hw _ (List.mem_of_getElem? (i := 39) rfl))) (mvT hZ (hw _ (List.mem_of_getElem? (i := 40) rfl))) (notFace_of_selects (args := #[]) (mvT hZ (hw _ (List.mem_of_getElem? (i := 42) rfl)))) (mvT hZ (hw _ (List.mem_of_getElem? (i := 42) rfl))) (mvT hZ (hw _ (List.mem_of_getElem? (i := 41) rfl))) (by decide) (backOf (W := 0) (rm_ad0 l Z a0 hw [] b212 b209 i2 i3 (nM i0) (nS i1) (0 : Int32) k209 T222.heap n0 (Nat.le_trans Z0 (Nat.le_trans (Nat.le_trans (Nat.le_trans (Nat.le_refl _) E209.1) E212.1) R222_0.1)) R222_2 R222_3 R222_7 ((V209.ext E212).keep R222_0 (ninS (Nat.ne_of_lt (Nat.lt_of_lt_of_le V209.lt (Nat.le_of_eq gb212.symm))) nin0)) (own_qf i1)) hZ (hw _ (List.mem_of_getElem? (i := 43) rfl)) (hw _ (List.mem_of_getElem? (i := 9) rfl)) (by decide) (by decide)) q227a q227c (g := (mkF m 151 #[iv i0, iv i1, iv i2, iv i3, .val (.long i4), .second, iv i5, iv (nM i0), iv (nK i1), iv (nB i1), iv (0 : Int32), iv (nC0 i4), iv (nC1 i4), iv (nC2 i5), rv b209, rv b212, .unset, .unset, .unset, .unset, .unset, .unset, .unset] [(.int i3), (.int i2), (.ref b209), (.ref b212)])) rfl (by rw [hml]; rfl) (Steps.refl _) (argsL := [(.ref b209), (.int i2), (.int i3)]) (rest := []) (lenOf pd6 rfl) rfl (by show 2 * 0 + _ ≤ _; exact Nat.le_of_eq rfl) (hb hby at_151) (fun _ _ => ⟨rfl, rfl, (by decide : 2 + 0 ≤ _), (by decide : 7 + 0 ≤ _)⟩)
      dsimp only [Pt.U, Pt.locs, Pt.cells, Pt.slots] at X227 l227 y227 z227 st227 hQ227
      subst l227 y227 z227
      obtain ⟨rfl, N227, e227⟩ := hQ227
      have M227 := Fr.app M222 N227
      have g228 : Goes p e below S0 (T227.setTop (mkF m 154 #[iv i0, iv i1, iv i2, iv i3, .val (.long i4), .second, iv i5, iv (nM i0), iv (nK i1), iv (nB i1), iv (0 : Int32), iv (nC0 i4), iv (nC1 i4), iv (nC2 i5), rv b209, rv b212, .unset, .unset, .unset, .unset, .unset, .unset, .unset] [(.int (f_ad0 i2 i3 (nM i0) (nS i1) (0 : Int32)))])) := fun t k => g226 t (st227.trans k)
      have g229 : Goes p e below S0 (T227.setTop (mkF m 248 #[iv i0, iv i1, iv i2, iv i3, .val (.long i4), .second, iv i5, iv (nM i0), iv (nK i1), iv (nB i1), iv (0 : Int32), iv (nC0 i4), iv (nC1 i4), iv (nC2 i5), rv b209, rv b212, iv (f_ad0 i2 i3 (nM i0) (nS i1) (0 : Int32)), iv (1 : Int32), .val (.long (0 : Int64)), .second, .val (.long ((i3).toInt64)), .second, .unset] [])) := fun t k => g228 t (by
        refine XS.istore X227.here hx rfl (hb hby at_154) rfl (l' := #[iv i0, iv i1, iv i2, iv i3, .val (.long i4), .second, iv i5, iv (nM i0), iv (nK i1), iv (nB i1), iv (0 : Int32), iv (nC0 i4), iv (nC1 i4), iv (nC2 i5), rv b209, rv b212, iv (f_ad0 i2 i3 (nM i0) (nS i1) (0 : Int32)), .unset, .unset, .unset, .unset, .unset, .unset]) rfl ?_
        show Go p e below t T227 m 156 #[iv i0, iv i1, iv i2, iv i3, .val (.long i4), .second, iv i5, iv (nM i0), iv (nK i1), iv (nB i1), iv (0 : Int32), iv (nC0 i4), iv (nC1 i4), iv (nC2 i5), rv b209, rv b212, iv (f_ad0 i2 i3 (nM i0) (nS i1) (0 : Int32)), .unset, .unset, .unset, .unset, .unset, .unset] []
        refine XT.iconstV X227.here hx rfl (1 : Int32) (hb hby at_156) (by decide) ?_
        show Go p e below t T227 m 157 #[iv i0, iv i1, iv i2, iv i3, .val (.long i4), .second, iv i5, iv (nM i0), iv (nK i1), iv (nB i1), iv (0 : Int32), iv (nC0 i4), iv (nC1 i4), iv (nC2 i5), rv b209, rv b212, iv (f_ad0 i2 i3 (nM i0) (nS i1) (0 : Int32)), .unset, .unset, .unset, .unset, .unset, .unset] [(.int (1 : Int32))]
        refine XS.istore X227.here hx rfl (hb hby at_157) rfl (l' := #[iv i0, iv i1, iv i2, iv i3, .val (.long i4), .second, iv i5, iv (nM i0), iv (nK i1), iv (nB i1), iv (0 : Int32), iv (nC0 i4), iv (nC1 i4), iv (nC2 i5), rv b209, rv b212, iv (f_ad0 i2 i3 (nM i0) (nS i1) (0 : Int32)), iv (1 : Int32), .unset, .unset, .unset, .unset, .unset]) rfl ?_
        show Go p e below t T227 m 159 #[iv i0, iv i1, iv i2, iv i3, .val (.long i4), .second, iv i5, iv (nM i0), iv (nK i1), iv (nB i1), iv (0 : Int32), iv (nC0 i4), iv (nC1 i4), iv (nC2 i5), rv b209, rv b212, iv (f_ad0 i2 i3 (nM i0) (nS i1) (0 : Int32)), iv (1 : Int32), .unset, .unset, .unset, .unset, .unset] []
        refine XT.lconstV X227.here hx rfl (0 : Int64) (hb hby at_159) (by decide) ?_
        show Go p e below t T227 m 160 #[iv i0, iv i1, iv i2, iv i3, .val (.long i4), .second, iv i5, iv (nM i0), iv (nK i1), iv (nB i1), iv (0 : Int32), iv (nC0 i4), iv (nC1 i4), iv (nC2 i5), rv b209, rv b212, iv (f_ad0 i2 i3 (nM i0) (nS i1) (0 : Int32)), iv (1 : Int32), .unset, .unset, .unset, .unset, .unset] [(.long (0 : Int64))]
        refine XS.lstore X227.here hx rfl (hb hby at_160) rfl (l' := #[iv i0, iv i1, iv i2, iv i3, .val (.long i4), .second, iv i5, iv (nM i0), iv (nK i1), iv (nB i1), iv (0 : Int32), iv (nC0 i4), iv (nC1 i4), iv (nC2 i5), rv b209, rv b212, iv (f_ad0 i2 i3 (nM i0) (nS i1) (0 : Int32)), iv (1 : Int32), .val (.long (0 : Int64)), .second, .unset, .unset, .unset]) rfl ?_
        show Go p e below t T227 m 162 #[iv i0, iv i1, iv i2, iv i3, .val (.long i4), .second, iv i5, iv (nM i0), iv (nK i1), iv (nB i1), iv (0 : Int32), iv (nC0 i4), iv (nC1 i4), iv (nC2 i5), rv b209, rv b212, iv (f_ad0 i2 i3 (nM i0) (nS i1) (0 : Int32)), iv (1 : Int32), .val (.long (0 : Int64)), .second, .unset, .unset, .unset] []
        refine XS.iload X227.here hx rfl (hb hby at_162) rfl ?_
        show Go p e below t T227 m 164 #[iv i0, iv i1, iv i2, iv i3, .val (.long i4), .second, iv i5, iv (nM i0), iv (nK i1), iv (nB i1), iv (0 : Int32), iv (nC0 i4), iv (nC1 i4), iv (nC2 i5), rv b209, rv b212, iv (f_ad0 i2 i3 (nM i0) (nS i1) (0 : Int32)), iv (1 : Int32), .val (.long (0 : Int64)), .second, .unset, .unset, .unset] [(.int (0 : Int32))]
        refine XT.iconstV X227.here hx rfl (1 : Int32) (hb hby at_164) (by decide) ?_
        show Go p e below t T227 m 165 #[iv i0, iv i1, iv i2, iv i3, .val (.long i4), .second, iv i5, iv (nM i0), iv (nK i1), iv (nB i1), iv (0 : Int32), iv (nC0 i4), iv (nC1 i4), iv (nC2 i5), rv b209, rv b212, iv (f_ad0 i2 i3 (nM i0) (nS i1) (0 : Int32)), iv (1 : Int32), .val (.long (0 : Int64)), .second, .unset, .unset, .unset] [(.int (1 : Int32)), (.int (0 : Int32))]
        refine XS.icmpYes X227.here hx rfl (pc0 := 165) (pc' := 186) rfl (hb hby at_165) rfl (XT.ii_lt_t (by decide)) (by decide) (by decide) ?_
        show Go p e below t T227 m 186 #[iv i0, iv i1, iv i2, iv i3, .val (.long i4), .second, iv i5, iv (nM i0), iv (nK i1), iv (nB i1), iv (0 : Int32), iv (nC0 i4), iv (nC1 i4), iv (nC2 i5), rv b209, rv b212, iv (f_ad0 i2 i3 (nM i0) (nS i1) (0 : Int32)), iv (1 : Int32), .val (.long (0 : Int64)), .second, .unset, .unset, .unset] []
        refine XS.iload X227.here hx rfl (hb hby at_186) rfl ?_
        show Go p e below t T227 m 188 #[iv i0, iv i1, iv i2, iv i3, .val (.long i4), .second, iv i5, iv (nM i0), iv (nK i1), iv (nB i1), iv (0 : Int32), iv (nC0 i4), iv (nC1 i4), iv (nC2 i5), rv b209, rv b212, iv (f_ad0 i2 i3 (nM i0) (nS i1) (0 : Int32)), iv (1 : Int32), .val (.long (0 : Int64)), .second, .unset, .unset, .unset] [(.int (0 : Int32))]
        refine XT.iconstV X227.here hx rfl (2 : Int32) (hb hby at_188) (by decide) ?_
        show Go p e below t T227 m 189 #[iv i0, iv i1, iv i2, iv i3, .val (.long i4), .second, iv i5, iv (nM i0), iv (nK i1), iv (nB i1), iv (0 : Int32), iv (nC0 i4), iv (nC1 i4), iv (nC2 i5), rv b209, rv b212, iv (f_ad0 i2 i3 (nM i0) (nS i1) (0 : Int32)), iv (1 : Int32), .val (.long (0 : Int64)), .second, .unset, .unset, .unset] [(.int (2 : Int32)), (.int (0 : Int32))]
        refine XS.icmpYes X227.here hx rfl (pc0 := 189) (pc' := 210) rfl (hb hby at_189) rfl (XT.ii_lt_t (by decide)) (by decide) (by decide) ?_
        show Go p e below t T227 m 210 #[iv i0, iv i1, iv i2, iv i3, .val (.long i4), .second, iv i5, iv (nM i0), iv (nK i1), iv (nB i1), iv (0 : Int32), iv (nC0 i4), iv (nC1 i4), iv (nC2 i5), rv b209, rv b212, iv (f_ad0 i2 i3 (nM i0) (nS i1) (0 : Int32)), iv (1 : Int32), .val (.long (0 : Int64)), .second, .unset, .unset, .unset] []
        refine XS.iload X227.here hx rfl (hb hby at_210) rfl ?_
        show Go p e below t T227 m 212 #[iv i0, iv i1, iv i2, iv i3, .val (.long i4), .second, iv i5, iv (nM i0), iv (nK i1), iv (nB i1), iv (0 : Int32), iv (nC0 i4), iv (nC1 i4), iv (nC2 i5), rv b209, rv b212, iv (f_ad0 i2 i3 (nM i0) (nS i1) (0 : Int32)), iv (1 : Int32), .val (.long (0 : Int64)), .second, .unset, .unset, .unset] [(.int (0 : Int32))]
        refine XT.iconstV X227.here hx rfl (3 : Int32) (hb hby at_212) (by decide) ?_
        show Go p e below t T227 m 213 #[iv i0, iv i1, iv i2, iv i3, .val (.long i4), .second, iv i5, iv (nM i0), iv (nK i1), iv (nB i1), iv (0 : Int32), iv (nC0 i4), iv (nC1 i4), iv (nC2 i5), rv b209, rv b212, iv (f_ad0 i2 i3 (nM i0) (nS i1) (0 : Int32)), iv (1 : Int32), .val (.long (0 : Int64)), .second, .unset, .unset, .unset] [(.int (3 : Int32)), (.int (0 : Int32))]
        refine XS.icmpYes X227.here hx rfl (pc0 := 213) (pc' := 234) rfl (hb hby at_213) rfl (XT.ii_lt_t (by decide)) (by decide) (by decide) ?_
        show Go p e below t T227 m 234 #[iv i0, iv i1, iv i2, iv i3, .val (.long i4), .second, iv i5, iv (nM i0), iv (nK i1), iv (nB i1), iv (0 : Int32), iv (nC0 i4), iv (nC1 i4), iv (nC2 i5), rv b209, rv b212, iv (f_ad0 i2 i3 (nM i0) (nS i1) (0 : Int32)), iv (1 : Int32), .val (.long (0 : Int64)), .second, .unset, .unset, .unset] []
        refine XS.iload X227.here hx rfl (hb hby at_234) rfl ?_
        show Go p e below t T227 m 236 #[iv i0, iv i1, iv i2, iv i3, .val (.long i4), .second, iv i5, iv (nM i0), iv (nK i1), iv (nB i1), iv (0 : Int32), iv (nC0 i4), iv (nC1 i4), iv (nC2 i5), rv b209, rv b212, iv (f_ad0 i2 i3 (nM i0) (nS i1) (0 : Int32)), iv (1 : Int32), .val (.long (0 : Int64)), .second, .unset, .unset, .unset] [(.int (nB i1))]
        refine XS.ifYes X227.here hx rfl (pc0 := 236) (pc' := 244) rfl (hb hby at_236) rfl (XT.i0_eq_t h225) (by decide) (by decide) ?_
        show Go p e below t T227 m 244 #[iv i0, iv i1, iv i2, iv i3, .val (.long i4), .second, iv i5, iv (nM i0), iv (nK i1), iv (nB i1), iv (0 : Int32), iv (nC0 i4), iv (nC1 i4), iv (nC2 i5), rv b209, rv b212, iv (f_ad0 i2 i3 (nM i0) (nS i1) (0 : Int32)), iv (1 : Int32), .val (.long (0 : Int64)), .second, .unset, .unset, .unset] []
        refine XS.iloadN X227.here hx rfl (hb hby at_244) rfl ?_
        show Go p e below t T227 m 245 #[iv i0, iv i1, iv i2, iv i3, .val (.long i4), .second, iv i5, iv (nM i0), iv (nK i1), iv (nB i1), iv (0 : Int32), iv (nC0 i4), iv (nC1 i4), iv (nC2 i5), rv b209, rv b212, iv (f_ad0 i2 i3 (nM i0) (nS i1) (0 : Int32)), iv (1 : Int32), .val (.long (0 : Int64)), .second, .unset, .unset, .unset] [(.int i3)]
        refine XS.i2l X227.here hx rfl (hb hby at_245) rfl ?_
        show Go p e below t T227 m 246 #[iv i0, iv i1, iv i2, iv i3, .val (.long i4), .second, iv i5, iv (nM i0), iv (nK i1), iv (nB i1), iv (0 : Int32), iv (nC0 i4), iv (nC1 i4), iv (nC2 i5), rv b209, rv b212, iv (f_ad0 i2 i3 (nM i0) (nS i1) (0 : Int32)), iv (1 : Int32), .val (.long (0 : Int64)), .second, .unset, .unset, .unset] [(.long ((i3).toInt64))]
        refine XS.lstore X227.here hx rfl (hb hby at_246) rfl (l' := #[iv i0, iv i1, iv i2, iv i3, .val (.long i4), .second, iv i5, iv (nM i0), iv (nK i1), iv (nB i1), iv (0 : Int32), iv (nC0 i4), iv (nC1 i4), iv (nC2 i5), rv b209, rv b212, iv (f_ad0 i2 i3 (nM i0) (nS i1) (0 : Int32)), iv (1 : Int32), .val (.long (0 : Int64)), .second, .val (.long ((i3).toInt64)), .second, .unset]) rfl ?_
        show Go p e below t T227 m 248 #[iv i0, iv i1, iv i2, iv i3, .val (.long i4), .second, iv i5, iv (nM i0), iv (nK i1), iv (nB i1), iv (0 : Int32), iv (nC0 i4), iv (nC1 i4), iv (nC2 i5), rv b209, rv b212, iv (f_ad0 i2 i3 (nM i0) (nS i1) (0 : Int32)), iv (1 : Int32), .val (.long (0 : Int64)), .second, .val (.long ((i3).toInt64)), .second, .unset] []
        exact k)
      have gf230 : Goes p e below S0 (T227.setTop (mkF m 274 #[iv i0, iv i1, iv i2, iv i3, .val (.long i4), .second, iv i5, iv (nM i0), iv (nK i1), iv (nB i1), iv (0 : Int32), iv (nC0 i4), iv (nC1 i4), iv (nC2 i5), rv b209, rv b212, iv (f_ad0 i2 i3 (nM i0) (nS i1) (0 : Int32)), iv (1 : Int32), .val (.long (0 : Int64)), .second, .val (.long ((i3).toInt64)), .second, .unset] [(.int (own_fin (1 : Int32) (0 : Int64) (nK i1) ((i3).toInt64)))])) := by
        have g231 : Goes p e below S0 (T227.setTop (mkF m 266 #[iv i0, iv i1, iv i2, iv i3, .val (.long i4), .second, iv i5, iv (nM i0), iv (nK i1), iv (nB i1), iv (0 : Int32), iv (nC0 i4), iv (nC1 i4), iv (nC2 i5), rv b209, rv b212, iv (f_ad0 i2 i3 (nM i0) (nS i1) (0 : Int32)), iv (1 : Int32), .val (.long (0 : Int64)), .second, .val (.long ((i3).toInt64)), .second, .unset] [(.int (lcmpW ((8 : Int64) * (0 : Int64)) (((nK i1).toInt64) * ((i3).toInt64))))])) := fun t k => g229 t (by
          refine XS.iload X227.here hx rfl (hb hby at_248) rfl ?_
          show Go p e below t T227 m 250 #[iv i0, iv i1, iv i2, iv i3, .val (.long i4), .second, iv i5, iv (nM i0), iv (nK i1), iv (nB i1), iv (0 : Int32), iv (nC0 i4), iv (nC1 i4), iv (nC2 i5), rv b209, rv b212, iv (f_ad0 i2 i3 (nM i0) (nS i1) (0 : Int32)), iv (1 : Int32), .val (.long (0 : Int64)), .second, .val (.long ((i3).toInt64)), .second, .unset] [(.int (1 : Int32))]
          refine XS.ifNo X227.here hx rfl (hb hby at_250) rfl (XT.i0_eq_f (by decide)) ?_
          show Go p e below t T227 m 253 #[iv i0, iv i1, iv i2, iv i3, .val (.long i4), .second, iv i5, iv (nM i0), iv (nK i1), iv (nB i1), iv (0 : Int32), iv (nC0 i4), iv (nC1 i4), iv (nC2 i5), rv b209, rv b212, iv (f_ad0 i2 i3 (nM i0) (nS i1) (0 : Int32)), iv (1 : Int32), .val (.long (0 : Int64)), .second, .val (.long ((i3).toInt64)), .second, .unset] []
          refine Jvm.Stand.ldc2J X227 hx hown (mvT hZ (hw _ (List.mem_of_getElem? (i := 44) rfl))) (g := (mkF m 253 #[iv i0, iv i1, iv i2, iv i3, .val (.long i4), .second, iv i5, iv (nM i0), iv (nK i1), iv (nB i1), iv (0 : Int32), iv (nC0 i4), iv (nC1 i4), iv (nC2 i5), rv b209, rv b212, iv (f_ad0 i2 i3 (nM i0) (nS i1) (0 : Int32)), iv (1 : Int32), .val (.long (0 : Int64)), .second, .val (.long ((i3).toInt64)), .second, .unset] [])) rfl (hb hby at_253) ?_
          show Go p e below t T227 m 256 #[iv i0, iv i1, iv i2, iv i3, .val (.long i4), .second, iv i5, iv (nM i0), iv (nK i1), iv (nB i1), iv (0 : Int32), iv (nC0 i4), iv (nC1 i4), iv (nC2 i5), rv b209, rv b212, iv (f_ad0 i2 i3 (nM i0) (nS i1) (0 : Int32)), iv (1 : Int32), .val (.long (0 : Int64)), .second, .val (.long ((i3).toInt64)), .second, .unset] [(.long (8 : Int64))]
          refine XS.lload X227.here hx rfl (hb hby at_256) rfl ?_
          show Go p e below t T227 m 258 #[iv i0, iv i1, iv i2, iv i3, .val (.long i4), .second, iv i5, iv (nM i0), iv (nK i1), iv (nB i1), iv (0 : Int32), iv (nC0 i4), iv (nC1 i4), iv (nC2 i5), rv b209, rv b212, iv (f_ad0 i2 i3 (nM i0) (nS i1) (0 : Int32)), iv (1 : Int32), .val (.long (0 : Int64)), .second, .val (.long ((i3).toInt64)), .second, .unset] [(.long (0 : Int64)), (.long (8 : Int64))]
          refine XS.lmul X227.here hx rfl (hb hby at_258) rfl ?_
          show Go p e below t T227 m 259 #[iv i0, iv i1, iv i2, iv i3, .val (.long i4), .second, iv i5, iv (nM i0), iv (nK i1), iv (nB i1), iv (0 : Int32), iv (nC0 i4), iv (nC1 i4), iv (nC2 i5), rv b209, rv b212, iv (f_ad0 i2 i3 (nM i0) (nS i1) (0 : Int32)), iv (1 : Int32), .val (.long (0 : Int64)), .second, .val (.long ((i3).toInt64)), .second, .unset] [(.long ((8 : Int64) * (0 : Int64)))]
          refine XS.iload X227.here hx rfl (hb hby at_259) rfl ?_
          show Go p e below t T227 m 261 #[iv i0, iv i1, iv i2, iv i3, .val (.long i4), .second, iv i5, iv (nM i0), iv (nK i1), iv (nB i1), iv (0 : Int32), iv (nC0 i4), iv (nC1 i4), iv (nC2 i5), rv b209, rv b212, iv (f_ad0 i2 i3 (nM i0) (nS i1) (0 : Int32)), iv (1 : Int32), .val (.long (0 : Int64)), .second, .val (.long ((i3).toInt64)), .second, .unset] [(.int (nK i1)), (.long ((8 : Int64) * (0 : Int64)))]
          refine XS.i2l X227.here hx rfl (hb hby at_261) rfl ?_
          show Go p e below t T227 m 262 #[iv i0, iv i1, iv i2, iv i3, .val (.long i4), .second, iv i5, iv (nM i0), iv (nK i1), iv (nB i1), iv (0 : Int32), iv (nC0 i4), iv (nC1 i4), iv (nC2 i5), rv b209, rv b212, iv (f_ad0 i2 i3 (nM i0) (nS i1) (0 : Int32)), iv (1 : Int32), .val (.long (0 : Int64)), .second, .val (.long ((i3).toInt64)), .second, .unset] [(.long ((nK i1).toInt64)), (.long ((8 : Int64) * (0 : Int64)))]
          refine XS.lload X227.here hx rfl (hb hby at_262) rfl ?_
          show Go p e below t T227 m 264 #[iv i0, iv i1, iv i2, iv i3, .val (.long i4), .second, iv i5, iv (nM i0), iv (nK i1), iv (nB i1), iv (0 : Int32), iv (nC0 i4), iv (nC1 i4), iv (nC2 i5), rv b209, rv b212, iv (f_ad0 i2 i3 (nM i0) (nS i1) (0 : Int32)), iv (1 : Int32), .val (.long (0 : Int64)), .second, .val (.long ((i3).toInt64)), .second, .unset] [(.long ((i3).toInt64)), (.long ((nK i1).toInt64)), (.long ((8 : Int64) * (0 : Int64)))]
          refine XS.lmul X227.here hx rfl (hb hby at_264) rfl ?_
          show Go p e below t T227 m 265 #[iv i0, iv i1, iv i2, iv i3, .val (.long i4), .second, iv i5, iv (nM i0), iv (nK i1), iv (nB i1), iv (0 : Int32), iv (nC0 i4), iv (nC1 i4), iv (nC2 i5), rv b209, rv b212, iv (f_ad0 i2 i3 (nM i0) (nS i1) (0 : Int32)), iv (1 : Int32), .val (.long (0 : Int64)), .second, .val (.long ((i3).toInt64)), .second, .unset] [(.long (((nK i1).toInt64) * ((i3).toInt64))), (.long ((8 : Int64) * (0 : Int64)))]
          refine XS.lcmp X227.here hx rfl (hb hby at_265) rfl ?_
          show Go p e below t T227 m 266 #[iv i0, iv i1, iv i2, iv i3, .val (.long i4), .second, iv i5, iv (nM i0), iv (nK i1), iv (nB i1), iv (0 : Int32), iv (nC0 i4), iv (nC1 i4), iv (nC2 i5), rv b209, rv b212, iv (f_ad0 i2 i3 (nM i0) (nS i1) (0 : Int32)), iv (1 : Int32), .val (.long (0 : Int64)), .second, .val (.long ((i3).toInt64)), .second, .unset] [(.int (lcmpW ((8 : Int64) * (0 : Int64)) (((nK i1).toInt64) * ((i3).toInt64))))]
          exact k)
        by_cases h232 : ((8 : Int64) * (0 : Int64)) < (((nK i1).toInt64) * ((i3).toInt64))
        · skip
          have g233 : Goes p e below S0 (T227.setTop (mkF m 274 #[iv i0, iv i1, iv i2, iv i3, .val (.long i4), .second, iv i5, iv (nM i0), iv (nK i1), iv (nB i1), iv (0 : Int32), iv (nC0 i4), iv (nC1 i4), iv (nC2 i5), rv b209, rv b212, iv (f_ad0 i2 i3 (nM i0) (nS i1) (0 : Int32)), iv (1 : Int32), .val (.long (0 : Int64)), .second, .val (.long ((i3).toInt64)), .second, .unset] [(.int (0 : Int32))])) := fun t k => g231 t (by
            refine XS.ifYes X227.here hx rfl (pc0 := 266) (pc' := 273) rfl (hb hby at_266) rfl (XT.ll_lt_t h232) (by decide) (by decide) ?_
            show Go p e below t T227 m 273 #[iv i0, iv i1, iv i2, iv i3, .val (.long i4), .second, iv i5, iv (nM i0), iv (nK i1), iv (nB i1), iv (0 : Int32), iv (nC0 i4), iv (nC1 i4), iv (nC2 i5), rv b209, rv b212, iv (f_ad0 i2 i3 (nM i0) (nS i1) (0 : Int32)), iv (1 : Int32), .val (.long (0 : Int64)), .second, .val (.long ((i3).toInt64)), .second, .unset] []
            refine XT.iconstV X227.here hx rfl (0 : Int32) (hb hby at_273) (by decide) ?_
            show Go p e below t T227 m 274 #[iv i0, iv i1, iv i2, iv i3, .val (.long i4), .second, iv i5, iv (nM i0), iv (nK i1), iv (nB i1), iv (0 : Int32), iv (nC0 i4), iv (nC1 i4), iv (nC2 i5), rv b209, rv b212, iv (f_ad0 i2 i3 (nM i0) (nS i1) (0 : Int32)), iv (1 : Int32), .val (.long (0 : Int64)), .second, .val (.long ((i3).toInt64)), .second, .unset] [(.int (0 : Int32))]
            exact k)
          have e230_0 : (own_fin (1 : Int32) (0 : Int64) (nK i1) ((i3).toInt64)) = (0 : Int32) := by first | exact if_pos h232 | (unfold own_fin; first | (rw [if_pos h232]; done) | (simp [h232]; done) | (rw [if_pos h232]; decide))
          rw [e230_0]; exact g233
        · skip
          have g234 : Goes p e below S0 (T227.setTop (mkF m 274 #[iv i0, iv i1, iv i2, iv i3, .val (.long i4), .second, iv i5, iv (nM i0), iv (nK i1), iv (nB i1), iv (0 : Int32), iv (nC0 i4), iv (nC1 i4), iv (nC2 i5), rv b209, rv b212, iv (f_ad0 i2 i3 (nM i0) (nS i1) (0 : Int32)), iv (1 : Int32), .val (.long (0 : Int64)), .second, .val (.long ((i3).toInt64)), .second, .unset] [(.int (1 : Int32))])) := fun t k => g231 t (by
            refine XS.ifNo X227.here hx rfl (hb hby at_266) rfl (XT.ll_lt_f h232) ?_
            show Go p e below t T227 m 269 #[iv i0, iv i1, iv i2, iv i3, .val (.long i4), .second, iv i5, iv (nM i0), iv (nK i1), iv (nB i1), iv (0 : Int32), iv (nC0 i4), iv (nC1 i4), iv (nC2 i5), rv b209, rv b212, iv (f_ad0 i2 i3 (nM i0) (nS i1) (0 : Int32)), iv (1 : Int32), .val (.long (0 : Int64)), .second, .val (.long ((i3).toInt64)), .second, .unset] []
            refine XT.iconstV X227.here hx rfl (1 : Int32) (hb hby at_269) (by decide) ?_
            show Go p e below t T227 m 270 #[iv i0, iv i1, iv i2, iv i3, .val (.long i4), .second, iv i5, iv (nM i0), iv (nK i1), iv (nB i1), iv (0 : Int32), iv (nC0 i4), iv (nC1 i4), iv (nC2 i5), rv b209, rv b212, iv (f_ad0 i2 i3 (nM i0) (nS i1) (0 : Int32)), iv (1 : Int32), .val (.long (0 : Int64)), .second, .val (.long ((i3).toInt64)), .second, .unset] [(.int (1 : Int32))]
            refine XS.goto X227.here hx rfl (pc0 := 270) (pc' := 274) rfl (hb hby at_270) (by decide) (by decide) ?_
            show Go p e below t T227 m 274 #[iv i0, iv i1, iv i2, iv i3, .val (.long i4), .second, iv i5, iv (nM i0), iv (nK i1), iv (nB i1), iv (0 : Int32), iv (nC0 i4), iv (nC1 i4), iv (nC2 i5), rv b209, rv b212, iv (f_ad0 i2 i3 (nM i0) (nS i1) (0 : Int32)), iv (1 : Int32), .val (.long (0 : Int64)), .second, .val (.long ((i3).toInt64)), .second, .unset] [(.int (1 : Int32))]
            exact k)
          have e230_0 : (own_fin (1 : Int32) (0 : Int64) (nK i1) ((i3).toInt64)) = (1 : Int32) := by first | exact if_neg h232 | (unfold own_fin; first | (rw [if_neg h232]; done) | (simp [h232]; done) | (rw [if_neg h232]; decide))
          rw [e230_0]; exact g234
      have g235 : Goes p e below S0 (T227.setTop (mkF m 288 #[iv i0, iv i1, iv i2, iv i3, .val (.long i4), .second, iv i5, iv (nM i0), iv (nK i1), iv (nB i1), iv (0 : Int32), iv (nC0 i4), iv (nC1 i4), iv (nC2 i5), rv b209, rv b212, iv (f_ad0 i2 i3 (nM i0) (nS i1) (0 : Int32)), iv (1 : Int32), .val (.long (0 : Int64)), .second, .val (.long ((i3).toInt64)), .second, iv (own_fin (1 : Int32) (0 : Int64) (nK i1) ((i3).toInt64))] [(.int (1 : Int32))])) := fun t k => gf230 t (by
        refine XS.istore X227.here hx rfl (hb hby at_274) rfl (l' := #[iv i0, iv i1, iv i2, iv i3, .val (.long i4), .second, iv i5, iv (nM i0), iv (nK i1), iv (nB i1), iv (0 : Int32), iv (nC0 i4), iv (nC1 i4), iv (nC2 i5), rv b209, rv b212, iv (f_ad0 i2 i3 (nM i0) (nS i1) (0 : Int32)), iv (1 : Int32), .val (.long (0 : Int64)), .second, .val (.long ((i3).toInt64)), .second, iv (own_fin (1 : Int32) (0 : Int64) (nK i1) ((i3).toInt64))]) rfl ?_
        show Go p e below t T227 m 276 #[iv i0, iv i1, iv i2, iv i3, .val (.long i4), .second, iv i5, iv (nM i0), iv (nK i1), iv (nB i1), iv (0 : Int32), iv (nC0 i4), iv (nC1 i4), iv (nC2 i5), rv b209, rv b212, iv (f_ad0 i2 i3 (nM i0) (nS i1) (0 : Int32)), iv (1 : Int32), .val (.long (0 : Int64)), .second, .val (.long ((i3).toInt64)), .second, iv (own_fin (1 : Int32) (0 : Int64) (nK i1) ((i3).toInt64))] []
        refine XS.iload X227.here hx rfl (hb hby at_276) rfl ?_
        show Go p e below t T227 m 278 #[iv i0, iv i1, iv i2, iv i3, .val (.long i4), .second, iv i5, iv (nM i0), iv (nK i1), iv (nB i1), iv (0 : Int32), iv (nC0 i4), iv (nC1 i4), iv (nC2 i5), rv b209, rv b212, iv (f_ad0 i2 i3 (nM i0) (nS i1) (0 : Int32)), iv (1 : Int32), .val (.long (0 : Int64)), .second, .val (.long ((i3).toInt64)), .second, iv (own_fin (1 : Int32) (0 : Int64) (nK i1) ((i3).toInt64))] [(.int (f_ad0 i2 i3 (nM i0) (nS i1) (0 : Int32)))]
        refine XS.iload X227.here hx rfl (hb hby at_278) rfl ?_
        show Go p e below t T227 m 280 #[iv i0, iv i1, iv i2, iv i3, .val (.long i4), .second, iv i5, iv (nM i0), iv (nK i1), iv (nB i1), iv (0 : Int32), iv (nC0 i4), iv (nC1 i4), iv (nC2 i5), rv b209, rv b212, iv (f_ad0 i2 i3 (nM i0) (nS i1) (0 : Int32)), iv (1 : Int32), .val (.long (0 : Int64)), .second, .val (.long ((i3).toInt64)), .second, iv (own_fin (1 : Int32) (0 : Int64) (nK i1) ((i3).toInt64))] [(.int (own_fin (1 : Int32) (0 : Int64) (nK i1) ((i3).toInt64))), (.int (f_ad0 i2 i3 (nM i0) (nS i1) (0 : Int32)))]
        refine XS.icmpNo X227.here hx rfl (hb hby at_280) rfl (XT.ii_ne_f (own_fin0t i0 i1 i2 i3 i4 i5)) ?_
        show Go p e below t T227 m 283 #[iv i0, iv i1, iv i2, iv i3, .val (.long i4), .second, iv i5, iv (nM i0), iv (nK i1), iv (nB i1), iv (0 : Int32), iv (nC0 i4), iv (nC1 i4), iv (nC2 i5), rv b209, rv b212, iv (f_ad0 i2 i3 (nM i0) (nS i1) (0 : Int32)), iv (1 : Int32), .val (.long (0 : Int64)), .second, .val (.long ((i3).toInt64)), .second, iv (own_fin (1 : Int32) (0 : Int64) (nK i1) ((i3).toInt64))] []
        refine XT.iconstV X227.here hx rfl (1 : Int32) (hb hby at_283) (by decide) ?_
        show Go p e below t T227 m 284 #[iv i0, iv i1, iv i2, iv i3, .val (.long i4), .second, iv i5, iv (nM i0), iv (nK i1), iv (nB i1), iv (0 : Int32), iv (nC0 i4), iv (nC1 i4), iv (nC2 i5), rv b209, rv b212, iv (f_ad0 i2 i3 (nM i0) (nS i1) (0 : Int32)), iv (1 : Int32), .val (.long (0 : Int64)), .second, .val (.long ((i3).toInt64)), .second, iv (own_fin (1 : Int32) (0 : Int64) (nK i1) ((i3).toInt64))] [(.int (1 : Int32))]
        refine XS.goto X227.here hx rfl (pc0 := 284) (pc' := 288) rfl (hb hby at_284) (by decide) (by decide) ?_
        show Go p e below t T227 m 288 #[iv i0, iv i1, iv i2, iv i3, .val (.long i4), .second, iv i5, iv (nM i0), iv (nK i1), iv (nB i1), iv (0 : Int32), iv (nC0 i4), iv (nC1 i4), iv (nC2 i5), rv b209, rv b212, iv (f_ad0 i2 i3 (nM i0) (nS i1) (0 : Int32)), iv (1 : Int32), .val (.long (0 : Int64)), .second, .val (.long ((i3).toInt64)), .second, iv (own_fin (1 : Int32) (0 : Int64) (nK i1) ((i3).toInt64))] [(.int (1 : Int32))]
        exact k)
      obtain ⟨fs, hr, hrun, hended, hW, hsame⟩ := X227.leave (v := some (.int (1 : Int32))) (fun h => by rw [Bd.returns] at h; cases h)
      refine ⟨_, _, g235 _ (retN X227 hx (t := .boolean) Bd.returns (by simp) (hb hby at_288) hr), hrun, hended, _, _, rfl, ?_, ⟨_, rfl⟩, hW, hsame.mono (by decide) (by decide)⟩
      show Q_law Z i0 i1 i2 i3 i4 i5  h0 n0 _ T227.heap _
      rw [e227]
      exact ⟨rfl, M227⟩
    · skip
      have g236 : Goes p e below S0 (T222.setTop (mkF m 140 #[iv i0, iv i1, iv i2, iv i3, .val (.long i4), .second, iv i5, iv (nM i0), iv (nK i1), iv (nB i1), iv (0 : Int32), iv (nC0 i4), iv (nC1 i4), iv (nC2 i5), rv b209, rv b212, .unset, .unset, .unset, .unset, .unset, .unset, .unset] [(.ref b212)])) := fun t k => g224 t (by
        refine XS.ifNo X222.here hx rfl (hb hby at_135) rfl (XT.i0_eq_f h225) ?_
        show Go p e below t T222 m 138 #[iv i0, iv i1, iv i2, iv i3, .val (.long i4), .second, iv i5, iv (nM i0), iv (nK i1), iv (nB i1), iv (0 : Int32), iv (nC0 i4), iv (nC1 i4), iv (nC2 i5), rv b209, rv b212, .unset, .unset, .unset, .unset, .unset, .unset, .unset] []
        refine XS.aload X222.here hx rfl (hb hby at_138) rfl rfl ?_
        show Go p e below t T222 m 140 #[iv i0, iv i1, iv i2, iv i3, .val (.long i4), .second, iv i5, iv (nM i0), iv (nK i1), iv (nB i1), iv (0 : Int32), iv (nC0 i4), iv (nC1 i4), iv (nC2 i5), rv b209, rv b212, .unset, .unset, .unset, .unset, .unset, .unset, .unset] [(.ref b212)]
        exact k)
      obtain ⟨cq237, kq237, q237a, q237b, q237c⟩ := isOf hZ rfl R222_1
      obtain ⟨_, _, ⟨T237, L237, k237, n237⟩, -, X237, ⟨Lc237, hQ237, l237, y237, z237⟩, st237⟩ := X222.virtualBack hx (y := (⟨"com/example/hetmo/hetmo/tree/StoppingRules", "takingShareOfNode", "()Lcom/example/hetmo/hetmo/tree/StoppingRules;"⟩ : MethodName)) (z := (⟨"com/example/hetmo/hetmo/tree/StoppingRules", "takingShareOfNode", "()Lcom/example/hetmo/hetmo/tree/StoppingRules;"⟩ : MethodName)) hown (mvT hZ (hw _ (List.mem_of_getElem? (i := 45) rfl))) (mvT hZ (hw _ (List.mem_of_getElem? (i := 46) rfl))) (notFace_of_selects (args := #[]) (mvT hZ (hw _ (List.mem_of_getElem? (i := 48) rfl)))) (mvT hZ (hw _ (List.mem_of_getElem? (i := 48) rfl))) (mvT hZ (hw _ (List.mem_of_getElem? (i := 47) rfl))) (by decide) (backOf (W := 0) (rm_tsn l Z a0 hw [] b212 (nM i0) (nS i1) (0 : UInt64) (0 : Int32) T222.heap n0 (Nat.le_trans Z0 (Nat.le_trans (Nat.le_trans (Nat.le_trans (Nat.le_refl _) E209.1) E212.1) R222_0.1)) R222_2 R222_3 R222_4 R222_5 R222_6 R222_7 R222_8) hZ (hw _ (List.mem_of_getElem? (i := 49) rfl)) (hw _ (List.mem_of_getElem? (i := 9) rfl)) (by decide) (by decide)) q237a q237c (g := (mkF m 140 #[iv i0, iv i1, iv i2, iv i3, .val (.long i4), .second, iv i5, iv (nM i0), iv (nK i1), iv (nB i1), iv (0 : Int32), iv (nC0 i4), iv (nC1 i4), iv (nC2 i5), rv b209, rv b212, .unset, .unset, .unset, .unset, .unset, .unset, .unset] [(.ref b212)])) rfl (by rw [hml]; rfl) (Steps.refl _) (argsL := []) (rest := []) (lenOf pd5 rfl) rfl (by show 2 * 0 + _ ≤ _; exact Nat.le_of_eq rfl) (hb hby at_140) (fun _ _ => ⟨rfl, rfl, (by decide : 2 + 1 ≤ _), (by decide : 7 + 7 ≤ _)⟩)
      dsimp only [Pt.U, Pt.locs, Pt.cells, Pt.slots] at X237 l237 y237 z237 st237 hQ237
      subst l237 y237 z237
      obtain ⟨na_237, rfl, N237, R237_0, R237_1, R237_2, R237_3, R237_4, R237_5, R237_6, R237_7, R237_8⟩ := hQ237
      have M237 := Fr.app M222 N237
      have g238 : Goes p e below S0 (T237.setTop (mkF m 143 #[iv i0, iv i1, iv i2, iv i3, .val (.long i4), .second, iv i5, iv (nM i0), iv (nK i1), iv (nB i1), iv (0 : Int32), iv (nC0 i4), iv (nC1 i4), iv (nC2 i5), rv b209, rv b212, .unset, .unset, .unset, .unset, .unset, .unset, .unset] [(.ref na_237)])) := fun t k => g236 t (st237.trans k)
      have g239 : Goes p e below S0 (T237.setTop (mkF m 151 #[iv i0, iv i1, iv i2, iv i3, .val (.long i4), .second, iv i5, iv (nM i0), iv (nK i1), iv (nB i1), iv (0 : Int32), iv (nC0 i4), iv (nC1 i4), iv (nC2 i5), rv b209, rv na_237, .unset, .unset, .unset, .unset, .unset, .unset, .unset] [(.int i3), (.int i2), (.ref b209), (.ref na_237)])) := fun t k => g238 t (by
        refine XS.astore X237.here hx rfl (hb hby at_143) rfl rfl (l' := #[iv i0, iv i1, iv i2, iv i3, .val (.long i4), .second, iv i5, iv (nM i0), iv (nK i1), iv (nB i1), iv (0 : Int32), iv (nC0 i4), iv (nC1 i4), iv (nC2 i5), rv b209, rv na_237, .unset, .unset, .unset, .unset, .unset, .unset, .unset]) rfl ?_
        show Go p e below t T237 m 145 #[iv i0, iv i1, iv i2, iv i3, .val (.long i4), .second, iv i5, iv (nM i0), iv (nK i1), iv (nB i1), iv (0 : Int32), iv (nC0 i4), iv (nC1 i4), iv (nC2 i5), rv b209, rv na_237, .unset, .unset, .unset, .unset, .unset, .unset, .unset] []
        refine XS.aload X237.here hx rfl (hb hby at_145) rfl rfl ?_
        show Go p e below t T237 m 147 #[iv i0, iv i1, iv i2, iv i3, .val (.long i4), .second, iv i5, iv (nM i0), iv (nK i1), iv (nB i1), iv (0 : Int32), iv (nC0 i4), iv (nC1 i4), iv (nC2 i5), rv b209, rv na_237, .unset, .unset, .unset, .unset, .unset, .unset, .unset] [(.ref na_237)]
        refine XS.aload X237.here hx rfl (hb hby at_147) rfl rfl ?_
        show Go p e below t T237 m 149 #[iv i0, iv i1, iv i2, iv i3, .val (.long i4), .second, iv i5, iv (nM i0), iv (nK i1), iv (nB i1), iv (0 : Int32), iv (nC0 i4), iv (nC1 i4), iv (nC2 i5), rv b209, rv na_237, .unset, .unset, .unset, .unset, .unset, .unset, .unset] [(.ref b209), (.ref na_237)]
        refine XS.iloadN X237.here hx rfl (hb hby at_149) rfl ?_
        show Go p e below t T237 m 150 #[iv i0, iv i1, iv i2, iv i3, .val (.long i4), .second, iv i5, iv (nM i0), iv (nK i1), iv (nB i1), iv (0 : Int32), iv (nC0 i4), iv (nC1 i4), iv (nC2 i5), rv b209, rv na_237, .unset, .unset, .unset, .unset, .unset, .unset, .unset] [(.int i2), (.ref b209), (.ref na_237)]
        refine XS.iloadN X237.here hx rfl (hb hby at_150) rfl ?_
        show Go p e below t T237 m 151 #[iv i0, iv i1, iv i2, iv i3, .val (.long i4), .second, iv i5, iv (nM i0), iv (nK i1), iv (nB i1), iv (0 : Int32), iv (nC0 i4), iv (nC1 i4), iv (nC2 i5), rv b209, rv na_237, .unset, .unset, .unset, .unset, .unset, .unset, .unset] [(.int i3), (.int i2), (.ref b209), (.ref na_237)]
        exact k)
      obtain ⟨cq240, kq240, q240a, q240b, q240c⟩ := isOf hZ rfl R237_1
      obtain ⟨_, _, ⟨T240, L240, k240, n240⟩, -, X240, ⟨Lc240, hQ240, l240, y240, z240⟩, st240⟩ := X237.virtualBack hx (y := (⟨"com/example/hetmo/hetmo/tree/StoppingRules", "admits", "([III)Z"⟩ : MethodName)) (z := (⟨"com/example/hetmo/hetmo/tree/StoppingRules", "admits", "([III)Z"⟩ : MethodName)) hown (mvT hZ (hw _ (List.mem_of_getElem? (i := 39) rfl))) (mvT hZ (hw _ (List.mem_of_getElem? (i := 40) rfl))) (notFace_of_selects (args := #[]) (mvT hZ (hw _ (List.mem_of_getElem? (i := 42) rfl)))) (mvT hZ (hw _ (List.mem_of_getElem? (i := 42) rfl))) (mvT hZ (hw _ (List.mem_of_getElem? (i := 41) rfl))) (by decide) (backOf (W := 0) (rm_ad0 l Z a0 hw [] na_237 b209 i2 i3 (nM i0) (nS i1) (nar .boolean (1 : Int32)) k209 T237.heap n0 (Nat.le_trans Z0 (Nat.le_trans (Nat.le_trans (Nat.le_trans (Nat.le_trans (Nat.le_refl _) E209.1) E212.1) R222_0.1) R237_0.1)) R237_2 R237_3 R237_7 (((V209.ext E212).keep R222_0 (ninS (Nat.ne_of_lt (Nat.lt_of_lt_of_le V209.lt (Nat.le_of_eq gb212.symm))) nin0)).keep R237_0 nin0) (own_qf i1)) hZ (hw _ (List.mem_of_getElem? (i := 43) rfl)) (hw _ (List.mem_of_getElem? (i := 9) rfl)) (by decide) (by decide)) q240a q240c (g := (mkF m 151 #[iv i0, iv i1, iv i2, iv i3, .val (.long i4), .second, iv i5, iv (nM i0), iv (nK i1), iv (nB i1), iv (0 : Int32), iv (nC0 i4), iv (nC1 i4), iv (nC2 i5), rv b209, rv na_237, .unset, .unset, .unset, .unset, .unset, .unset, .unset] [(.int i3), (.int i2), (.ref b209), (.ref na_237)])) rfl (by rw [hml]; rfl) (Steps.refl _) (argsL := [(.ref b209), (.int i2), (.int i3)]) (rest := []) (lenOf pd6 rfl) rfl (by show 2 * 0 + _ ≤ _; exact Nat.le_of_eq rfl) (hb hby at_151) (fun _ _ => ⟨rfl, rfl, (by decide : 3 + 0 ≤ _), (by decide : 14 + 0 ≤ _)⟩)
      dsimp only [Pt.U, Pt.locs, Pt.cells, Pt.slots] at X240 l240 y240 z240 st240 hQ240
      subst l240 y240 z240
      obtain ⟨rfl, N240, e240⟩ := hQ240
      have M240 := Fr.app M237 N240
      have g241 : Goes p e below S0 (T240.setTop (mkF m 154 #[iv i0, iv i1, iv i2, iv i3, .val (.long i4), .second, iv i5, iv (nM i0), iv (nK i1), iv (nB i1), iv (0 : Int32), iv (nC0 i4), iv (nC1 i4), iv (nC2 i5), rv b209, rv na_237, .unset, .unset, .unset, .unset, .unset, .unset, .unset] [(.int (f_ad0 i2 i3 (nM i0) (nS i1) (nar .boolean (1 : Int32))))])) := fun t k => g239 t (st240.trans k)
      have g242 : Goes p e below S0 (T240.setTop (mkF m 248 #[iv i0, iv i1, iv i2, iv i3, .val (.long i4), .second, iv i5, iv (nM i0), iv (nK i1), iv (nB i1), iv (0 : Int32), iv (nC0 i4), iv (nC1 i4), iv (nC2 i5), rv b209, rv na_237, iv (f_ad0 i2 i3 (nM i0) (nS i1) (nar .boolean (1 : Int32))), iv (1 : Int32), .val (.long (0 : Int64)), .second, .val (.long ((i2).toInt64)), .second, .unset] [])) := fun t k => g241 t (by
        refine XS.istore X240.here hx rfl (hb hby at_154) rfl (l' := #[iv i0, iv i1, iv i2, iv i3, .val (.long i4), .second, iv i5, iv (nM i0), iv (nK i1), iv (nB i1), iv (0 : Int32), iv (nC0 i4), iv (nC1 i4), iv (nC2 i5), rv b209, rv na_237, iv (f_ad0 i2 i3 (nM i0) (nS i1) (nar .boolean (1 : Int32))), .unset, .unset, .unset, .unset, .unset, .unset]) rfl ?_
        show Go p e below t T240 m 156 #[iv i0, iv i1, iv i2, iv i3, .val (.long i4), .second, iv i5, iv (nM i0), iv (nK i1), iv (nB i1), iv (0 : Int32), iv (nC0 i4), iv (nC1 i4), iv (nC2 i5), rv b209, rv na_237, iv (f_ad0 i2 i3 (nM i0) (nS i1) (nar .boolean (1 : Int32))), .unset, .unset, .unset, .unset, .unset, .unset] []
        refine XT.iconstV X240.here hx rfl (1 : Int32) (hb hby at_156) (by decide) ?_
        show Go p e below t T240 m 157 #[iv i0, iv i1, iv i2, iv i3, .val (.long i4), .second, iv i5, iv (nM i0), iv (nK i1), iv (nB i1), iv (0 : Int32), iv (nC0 i4), iv (nC1 i4), iv (nC2 i5), rv b209, rv na_237, iv (f_ad0 i2 i3 (nM i0) (nS i1) (nar .boolean (1 : Int32))), .unset, .unset, .unset, .unset, .unset, .unset] [(.int (1 : Int32))]
        refine XS.istore X240.here hx rfl (hb hby at_157) rfl (l' := #[iv i0, iv i1, iv i2, iv i3, .val (.long i4), .second, iv i5, iv (nM i0), iv (nK i1), iv (nB i1), iv (0 : Int32), iv (nC0 i4), iv (nC1 i4), iv (nC2 i5), rv b209, rv na_237, iv (f_ad0 i2 i3 (nM i0) (nS i1) (nar .boolean (1 : Int32))), iv (1 : Int32), .unset, .unset, .unset, .unset, .unset]) rfl ?_
        show Go p e below t T240 m 159 #[iv i0, iv i1, iv i2, iv i3, .val (.long i4), .second, iv i5, iv (nM i0), iv (nK i1), iv (nB i1), iv (0 : Int32), iv (nC0 i4), iv (nC1 i4), iv (nC2 i5), rv b209, rv na_237, iv (f_ad0 i2 i3 (nM i0) (nS i1) (nar .boolean (1 : Int32))), iv (1 : Int32), .unset, .unset, .unset, .unset, .unset] []
        refine XT.lconstV X240.here hx rfl (0 : Int64) (hb hby at_159) (by decide) ?_
        show Go p e below t T240 m 160 #[iv i0, iv i1, iv i2, iv i3, .val (.long i4), .second, iv i5, iv (nM i0), iv (nK i1), iv (nB i1), iv (0 : Int32), iv (nC0 i4), iv (nC1 i4), iv (nC2 i5), rv b209, rv na_237, iv (f_ad0 i2 i3 (nM i0) (nS i1) (nar .boolean (1 : Int32))), iv (1 : Int32), .unset, .unset, .unset, .unset, .unset] [(.long (0 : Int64))]
        refine XS.lstore X240.here hx rfl (hb hby at_160) rfl (l' := #[iv i0, iv i1, iv i2, iv i3, .val (.long i4), .second, iv i5, iv (nM i0), iv (nK i1), iv (nB i1), iv (0 : Int32), iv (nC0 i4), iv (nC1 i4), iv (nC2 i5), rv b209, rv na_237, iv (f_ad0 i2 i3 (nM i0) (nS i1) (nar .boolean (1 : Int32))), iv (1 : Int32), .val (.long (0 : Int64)), .second, .unset, .unset, .unset]) rfl ?_
        show Go p e below t T240 m 162 #[iv i0, iv i1, iv i2, iv i3, .val (.long i4), .second, iv i5, iv (nM i0), iv (nK i1), iv (nB i1), iv (0 : Int32), iv (nC0 i4), iv (nC1 i4), iv (nC2 i5), rv b209, rv na_237, iv (f_ad0 i2 i3 (nM i0) (nS i1) (nar .boolean (1 : Int32))), iv (1 : Int32), .val (.long (0 : Int64)), .second, .unset, .unset, .unset] []
        refine XS.iload X240.here hx rfl (hb hby at_162) rfl ?_
        show Go p e below t T240 m 164 #[iv i0, iv i1, iv i2, iv i3, .val (.long i4), .second, iv i5, iv (nM i0), iv (nK i1), iv (nB i1), iv (0 : Int32), iv (nC0 i4), iv (nC1 i4), iv (nC2 i5), rv b209, rv na_237, iv (f_ad0 i2 i3 (nM i0) (nS i1) (nar .boolean (1 : Int32))), iv (1 : Int32), .val (.long (0 : Int64)), .second, .unset, .unset, .unset] [(.int (0 : Int32))]
        refine XT.iconstV X240.here hx rfl (1 : Int32) (hb hby at_164) (by decide) ?_
        show Go p e below t T240 m 165 #[iv i0, iv i1, iv i2, iv i3, .val (.long i4), .second, iv i5, iv (nM i0), iv (nK i1), iv (nB i1), iv (0 : Int32), iv (nC0 i4), iv (nC1 i4), iv (nC2 i5), rv b209, rv na_237, iv (f_ad0 i2 i3 (nM i0) (nS i1) (nar .boolean (1 : Int32))), iv (1 : Int32), .val (.long (0 : Int64)), .second, .unset, .unset, .unset] [(.int (1 : Int32)), (.int (0 : Int32))]
        refine XS.icmpYes X240.here hx rfl (pc0 := 165) (pc' := 186) rfl (hb hby at_165) rfl (XT.ii_lt_t (by decide)) (by decide) (by decide) ?_
        show Go p e below t T240 m 186 #[iv i0, iv i1, iv i2, iv i3, .val (.long i4), .second, iv i5, iv (nM i0), iv (nK i1), iv (nB i1), iv (0 : Int32), iv (nC0 i4), iv (nC1 i4), iv (nC2 i5), rv b209, rv na_237, iv (f_ad0 i2 i3 (nM i0) (nS i1) (nar .boolean (1 : Int32))), iv (1 : Int32), .val (.long (0 : Int64)), .second, .unset, .unset, .unset] []
        refine XS.iload X240.here hx rfl (hb hby at_186) rfl ?_
        show Go p e below t T240 m 188 #[iv i0, iv i1, iv i2, iv i3, .val (.long i4), .second, iv i5, iv (nM i0), iv (nK i1), iv (nB i1), iv (0 : Int32), iv (nC0 i4), iv (nC1 i4), iv (nC2 i5), rv b209, rv na_237, iv (f_ad0 i2 i3 (nM i0) (nS i1) (nar .boolean (1 : Int32))), iv (1 : Int32), .val (.long (0 : Int64)), .second, .unset, .unset, .unset] [(.int (0 : Int32))]
        refine XT.iconstV X240.here hx rfl (2 : Int32) (hb hby at_188) (by decide) ?_
        show Go p e below t T240 m 189 #[iv i0, iv i1, iv i2, iv i3, .val (.long i4), .second, iv i5, iv (nM i0), iv (nK i1), iv (nB i1), iv (0 : Int32), iv (nC0 i4), iv (nC1 i4), iv (nC2 i5), rv b209, rv na_237, iv (f_ad0 i2 i3 (nM i0) (nS i1) (nar .boolean (1 : Int32))), iv (1 : Int32), .val (.long (0 : Int64)), .second, .unset, .unset, .unset] [(.int (2 : Int32)), (.int (0 : Int32))]
        refine XS.icmpYes X240.here hx rfl (pc0 := 189) (pc' := 210) rfl (hb hby at_189) rfl (XT.ii_lt_t (by decide)) (by decide) (by decide) ?_
        show Go p e below t T240 m 210 #[iv i0, iv i1, iv i2, iv i3, .val (.long i4), .second, iv i5, iv (nM i0), iv (nK i1), iv (nB i1), iv (0 : Int32), iv (nC0 i4), iv (nC1 i4), iv (nC2 i5), rv b209, rv na_237, iv (f_ad0 i2 i3 (nM i0) (nS i1) (nar .boolean (1 : Int32))), iv (1 : Int32), .val (.long (0 : Int64)), .second, .unset, .unset, .unset] []
        refine XS.iload X240.here hx rfl (hb hby at_210) rfl ?_
        show Go p e below t T240 m 212 #[iv i0, iv i1, iv i2, iv i3, .val (.long i4), .second, iv i5, iv (nM i0), iv (nK i1), iv (nB i1), iv (0 : Int32), iv (nC0 i4), iv (nC1 i4), iv (nC2 i5), rv b209, rv na_237, iv (f_ad0 i2 i3 (nM i0) (nS i1) (nar .boolean (1 : Int32))), iv (1 : Int32), .val (.long (0 : Int64)), .second, .unset, .unset, .unset] [(.int (0 : Int32))]
        refine XT.iconstV X240.here hx rfl (3 : Int32) (hb hby at_212) (by decide) ?_
        show Go p e below t T240 m 213 #[iv i0, iv i1, iv i2, iv i3, .val (.long i4), .second, iv i5, iv (nM i0), iv (nK i1), iv (nB i1), iv (0 : Int32), iv (nC0 i4), iv (nC1 i4), iv (nC2 i5), rv b209, rv na_237, iv (f_ad0 i2 i3 (nM i0) (nS i1) (nar .boolean (1 : Int32))), iv (1 : Int32), .val (.long (0 : Int64)), .second, .unset, .unset, .unset] [(.int (3 : Int32)), (.int (0 : Int32))]
        refine XS.icmpYes X240.here hx rfl (pc0 := 213) (pc' := 234) rfl (hb hby at_213) rfl (XT.ii_lt_t (by decide)) (by decide) (by decide) ?_
        show Go p e below t T240 m 234 #[iv i0, iv i1, iv i2, iv i3, .val (.long i4), .second, iv i5, iv (nM i0), iv (nK i1), iv (nB i1), iv (0 : Int32), iv (nC0 i4), iv (nC1 i4), iv (nC2 i5), rv b209, rv na_237, iv (f_ad0 i2 i3 (nM i0) (nS i1) (nar .boolean (1 : Int32))), iv (1 : Int32), .val (.long (0 : Int64)), .second, .unset, .unset, .unset] []
        refine XS.iload X240.here hx rfl (hb hby at_234) rfl ?_
        show Go p e below t T240 m 236 #[iv i0, iv i1, iv i2, iv i3, .val (.long i4), .second, iv i5, iv (nM i0), iv (nK i1), iv (nB i1), iv (0 : Int32), iv (nC0 i4), iv (nC1 i4), iv (nC2 i5), rv b209, rv na_237, iv (f_ad0 i2 i3 (nM i0) (nS i1) (nar .boolean (1 : Int32))), iv (1 : Int32), .val (.long (0 : Int64)), .second, .unset, .unset, .unset] [(.int (nB i1))]
        refine XS.ifNo X240.here hx rfl (hb hby at_236) rfl (XT.i0_eq_f h225) ?_
        show Go p e below t T240 m 239 #[iv i0, iv i1, iv i2, iv i3, .val (.long i4), .second, iv i5, iv (nM i0), iv (nK i1), iv (nB i1), iv (0 : Int32), iv (nC0 i4), iv (nC1 i4), iv (nC2 i5), rv b209, rv na_237, iv (f_ad0 i2 i3 (nM i0) (nS i1) (nar .boolean (1 : Int32))), iv (1 : Int32), .val (.long (0 : Int64)), .second, .unset, .unset, .unset] []
        refine XS.iloadN X240.here hx rfl (hb hby at_239) rfl ?_
        show Go p e below t T240 m 240 #[iv i0, iv i1, iv i2, iv i3, .val (.long i4), .second, iv i5, iv (nM i0), iv (nK i1), iv (nB i1), iv (0 : Int32), iv (nC0 i4), iv (nC1 i4), iv (nC2 i5), rv b209, rv na_237, iv (f_ad0 i2 i3 (nM i0) (nS i1) (nar .boolean (1 : Int32))), iv (1 : Int32), .val (.long (0 : Int64)), .second, .unset, .unset, .unset] [(.int i2)]
        refine XS.i2l X240.here hx rfl (hb hby at_240) rfl ?_
        show Go p e below t T240 m 241 #[iv i0, iv i1, iv i2, iv i3, .val (.long i4), .second, iv i5, iv (nM i0), iv (nK i1), iv (nB i1), iv (0 : Int32), iv (nC0 i4), iv (nC1 i4), iv (nC2 i5), rv b209, rv na_237, iv (f_ad0 i2 i3 (nM i0) (nS i1) (nar .boolean (1 : Int32))), iv (1 : Int32), .val (.long (0 : Int64)), .second, .unset, .unset, .unset] [(.long ((i2).toInt64))]
        refine XS.goto X240.here hx rfl (pc0 := 241) (pc' := 246) rfl (hb hby at_241) (by decide) (by decide) ?_
        show Go p e below t T240 m 246 #[iv i0, iv i1, iv i2, iv i3, .val (.long i4), .second, iv i5, iv (nM i0), iv (nK i1), iv (nB i1), iv (0 : Int32), iv (nC0 i4), iv (nC1 i4), iv (nC2 i5), rv b209, rv na_237, iv (f_ad0 i2 i3 (nM i0) (nS i1) (nar .boolean (1 : Int32))), iv (1 : Int32), .val (.long (0 : Int64)), .second, .unset, .unset, .unset] [(.long ((i2).toInt64))]
        refine XS.lstore X240.here hx rfl (hb hby at_246) rfl (l' := #[iv i0, iv i1, iv i2, iv i3, .val (.long i4), .second, iv i5, iv (nM i0), iv (nK i1), iv (nB i1), iv (0 : Int32), iv (nC0 i4), iv (nC1 i4), iv (nC2 i5), rv b209, rv na_237, iv (f_ad0 i2 i3 (nM i0) (nS i1) (nar .boolean (1 : Int32))), iv (1 : Int32), .val (.long (0 : Int64)), .second, .val (.long ((i2).toInt64)), .second, .unset]) rfl ?_
        show Go p e below t T240 m 248 #[iv i0, iv i1, iv i2, iv i3, .val (.long i4), .second, iv i5, iv (nM i0), iv (nK i1), iv (nB i1), iv (0 : Int32), iv (nC0 i4), iv (nC1 i4), iv (nC2 i5), rv b209, rv na_237, iv (f_ad0 i2 i3 (nM i0) (nS i1) (nar .boolean (1 : Int32))), iv (1 : Int32), .val (.long (0 : Int64)), .second, .val (.long ((i2).toInt64)), .second, .unset] []
        exact k)
      have gf243 : Goes p e below S0 (T240.setTop (mkF m 274 #[iv i0, iv i1, iv i2, iv i3, .val (.long i4), .second, iv i5, iv (nM i0), iv (nK i1), iv (nB i1), iv (0 : Int32), iv (nC0 i4), iv (nC1 i4), iv (nC2 i5), rv b209, rv na_237, iv (f_ad0 i2 i3 (nM i0) (nS i1) (nar .boolean (1 : Int32))), iv (1 : Int32), .val (.long (0 : Int64)), .second, .val (.long ((i2).toInt64)), .second, .unset] [(.int (own_fin (1 : Int32) (0 : Int64) (nK i1) ((i2).toInt64)))])) := by
        have g244 : Goes p e below S0 (T240.setTop (mkF m 266 #[iv i0, iv i1, iv i2, iv i3, .val (.long i4), .second, iv i5, iv (nM i0), iv (nK i1), iv (nB i1), iv (0 : Int32), iv (nC0 i4), iv (nC1 i4), iv (nC2 i5), rv b209, rv na_237, iv (f_ad0 i2 i3 (nM i0) (nS i1) (nar .boolean (1 : Int32))), iv (1 : Int32), .val (.long (0 : Int64)), .second, .val (.long ((i2).toInt64)), .second, .unset] [(.int (lcmpW ((8 : Int64) * (0 : Int64)) (((nK i1).toInt64) * ((i2).toInt64))))])) := fun t k => g242 t (by
          refine XS.iload X240.here hx rfl (hb hby at_248) rfl ?_
          show Go p e below t T240 m 250 #[iv i0, iv i1, iv i2, iv i3, .val (.long i4), .second, iv i5, iv (nM i0), iv (nK i1), iv (nB i1), iv (0 : Int32), iv (nC0 i4), iv (nC1 i4), iv (nC2 i5), rv b209, rv na_237, iv (f_ad0 i2 i3 (nM i0) (nS i1) (nar .boolean (1 : Int32))), iv (1 : Int32), .val (.long (0 : Int64)), .second, .val (.long ((i2).toInt64)), .second, .unset] [(.int (1 : Int32))]
          refine XS.ifNo X240.here hx rfl (hb hby at_250) rfl (XT.i0_eq_f (by decide)) ?_
          show Go p e below t T240 m 253 #[iv i0, iv i1, iv i2, iv i3, .val (.long i4), .second, iv i5, iv (nM i0), iv (nK i1), iv (nB i1), iv (0 : Int32), iv (nC0 i4), iv (nC1 i4), iv (nC2 i5), rv b209, rv na_237, iv (f_ad0 i2 i3 (nM i0) (nS i1) (nar .boolean (1 : Int32))), iv (1 : Int32), .val (.long (0 : Int64)), .second, .val (.long ((i2).toInt64)), .second, .unset] []
          refine Jvm.Stand.ldc2J X240 hx hown (mvT hZ (hw _ (List.mem_of_getElem? (i := 44) rfl))) (g := (mkF m 253 #[iv i0, iv i1, iv i2, iv i3, .val (.long i4), .second, iv i5, iv (nM i0), iv (nK i1), iv (nB i1), iv (0 : Int32), iv (nC0 i4), iv (nC1 i4), iv (nC2 i5), rv b209, rv na_237, iv (f_ad0 i2 i3 (nM i0) (nS i1) (nar .boolean (1 : Int32))), iv (1 : Int32), .val (.long (0 : Int64)), .second, .val (.long ((i2).toInt64)), .second, .unset] [])) rfl (hb hby at_253) ?_
          show Go p e below t T240 m 256 #[iv i0, iv i1, iv i2, iv i3, .val (.long i4), .second, iv i5, iv (nM i0), iv (nK i1), iv (nB i1), iv (0 : Int32), iv (nC0 i4), iv (nC1 i4), iv (nC2 i5), rv b209, rv na_237, iv (f_ad0 i2 i3 (nM i0) (nS i1) (nar .boolean (1 : Int32))), iv (1 : Int32), .val (.long (0 : Int64)), .second, .val (.long ((i2).toInt64)), .second, .unset] [(.long (8 : Int64))]
          refine XS.lload X240.here hx rfl (hb hby at_256) rfl ?_
          show Go p e below t T240 m 258 #[iv i0, iv i1, iv i2, iv i3, .val (.long i4), .second, iv i5, iv (nM i0), iv (nK i1), iv (nB i1), iv (0 : Int32), iv (nC0 i4), iv (nC1 i4), iv (nC2 i5), rv b209, rv na_237, iv (f_ad0 i2 i3 (nM i0) (nS i1) (nar .boolean (1 : Int32))), iv (1 : Int32), .val (.long (0 : Int64)), .second, .val (.long ((i2).toInt64)), .second, .unset] [(.long (0 : Int64)), (.long (8 : Int64))]
          refine XS.lmul X240.here hx rfl (hb hby at_258) rfl ?_
          show Go p e below t T240 m 259 #[iv i0, iv i1, iv i2, iv i3, .val (.long i4), .second, iv i5, iv (nM i0), iv (nK i1), iv (nB i1), iv (0 : Int32), iv (nC0 i4), iv (nC1 i4), iv (nC2 i5), rv b209, rv na_237, iv (f_ad0 i2 i3 (nM i0) (nS i1) (nar .boolean (1 : Int32))), iv (1 : Int32), .val (.long (0 : Int64)), .second, .val (.long ((i2).toInt64)), .second, .unset] [(.long ((8 : Int64) * (0 : Int64)))]
          refine XS.iload X240.here hx rfl (hb hby at_259) rfl ?_
          show Go p e below t T240 m 261 #[iv i0, iv i1, iv i2, iv i3, .val (.long i4), .second, iv i5, iv (nM i0), iv (nK i1), iv (nB i1), iv (0 : Int32), iv (nC0 i4), iv (nC1 i4), iv (nC2 i5), rv b209, rv na_237, iv (f_ad0 i2 i3 (nM i0) (nS i1) (nar .boolean (1 : Int32))), iv (1 : Int32), .val (.long (0 : Int64)), .second, .val (.long ((i2).toInt64)), .second, .unset] [(.int (nK i1)), (.long ((8 : Int64) * (0 : Int64)))]
          refine XS.i2l X240.here hx rfl (hb hby at_261) rfl ?_
          show Go p e below t T240 m 262 #[iv i0, iv i1, iv i2, iv i3, .val (.long i4), .second, iv i5, iv (nM i0), iv (nK i1), iv (nB i1), iv (0 : Int32), iv (nC0 i4), iv (nC1 i4), iv (nC2 i5), rv b209, rv na_237, iv (f_ad0 i2 i3 (nM i0) (nS i1) (nar .boolean (1 : Int32))), iv (1 : Int32), .val (.long (0 : Int64)), .second, .val (.long ((i2).toInt64)), .second, .unset] [(.long ((nK i1).toInt64)), (.long ((8 : Int64) * (0 : Int64)))]
          refine XS.lload X240.here hx rfl (hb hby at_262) rfl ?_
          show Go p e below t T240 m 264 #[iv i0, iv i1, iv i2, iv i3, .val (.long i4), .second, iv i5, iv (nM i0), iv (nK i1), iv (nB i1), iv (0 : Int32), iv (nC0 i4), iv (nC1 i4), iv (nC2 i5), rv b209, rv na_237, iv (f_ad0 i2 i3 (nM i0) (nS i1) (nar .boolean (1 : Int32))), iv (1 : Int32), .val (.long (0 : Int64)), .second, .val (.long ((i2).toInt64)), .second, .unset] [(.long ((i2).toInt64)), (.long ((nK i1).toInt64)), (.long ((8 : Int64) * (0 : Int64)))]
          refine XS.lmul X240.here hx rfl (hb hby at_264) rfl ?_
          show Go p e below t T240 m 265 #[iv i0, iv i1, iv i2, iv i3, .val (.long i4), .second, iv i5, iv (nM i0), iv (nK i1), iv (nB i1), iv (0 : Int32), iv (nC0 i4), iv (nC1 i4), iv (nC2 i5), rv b209, rv na_237, iv (f_ad0 i2 i3 (nM i0) (nS i1) (nar .boolean (1 : Int32))), iv (1 : Int32), .val (.long (0 : Int64)), .second, .val (.long ((i2).toInt64)), .second, .unset] [(.long (((nK i1).toInt64) * ((i2).toInt64))), (.long ((8 : Int64) * (0 : Int64)))]
          refine XS.lcmp X240.here hx rfl (hb hby at_265) rfl ?_
          show Go p e below t T240 m 266 #[iv i0, iv i1, iv i2, iv i3, .val (.long i4), .second, iv i5, iv (nM i0), iv (nK i1), iv (nB i1), iv (0 : Int32), iv (nC0 i4), iv (nC1 i4), iv (nC2 i5), rv b209, rv na_237, iv (f_ad0 i2 i3 (nM i0) (nS i1) (nar .boolean (1 : Int32))), iv (1 : Int32), .val (.long (0 : Int64)), .second, .val (.long ((i2).toInt64)), .second, .unset] [(.int (lcmpW ((8 : Int64) * (0 : Int64)) (((nK i1).toInt64) * ((i2).toInt64))))]
          exact k)
        by_cases h245 : ((8 : Int64) * (0 : Int64)) < (((nK i1).toInt64) * ((i2).toInt64))
        · skip
          have g246 : Goes p e below S0 (T240.setTop (mkF m 274 #[iv i0, iv i1, iv i2, iv i3, .val (.long i4), .second, iv i5, iv (nM i0), iv (nK i1), iv (nB i1), iv (0 : Int32), iv (nC0 i4), iv (nC1 i4), iv (nC2 i5), rv b209, rv na_237, iv (f_ad0 i2 i3 (nM i0) (nS i1) (nar .boolean (1 : Int32))), iv (1 : Int32), .val (.long (0 : Int64)), .second, .val (.long ((i2).toInt64)), .second, .unset] [(.int (0 : Int32))])) := fun t k => g244 t (by
            refine XS.ifYes X240.here hx rfl (pc0 := 266) (pc' := 273) rfl (hb hby at_266) rfl (XT.ll_lt_t h245) (by decide) (by decide) ?_
            show Go p e below t T240 m 273 #[iv i0, iv i1, iv i2, iv i3, .val (.long i4), .second, iv i5, iv (nM i0), iv (nK i1), iv (nB i1), iv (0 : Int32), iv (nC0 i4), iv (nC1 i4), iv (nC2 i5), rv b209, rv na_237, iv (f_ad0 i2 i3 (nM i0) (nS i1) (nar .boolean (1 : Int32))), iv (1 : Int32), .val (.long (0 : Int64)), .second, .val (.long ((i2).toInt64)), .second, .unset] []
            refine XT.iconstV X240.here hx rfl (0 : Int32) (hb hby at_273) (by decide) ?_
            show Go p e below t T240 m 274 #[iv i0, iv i1, iv i2, iv i3, .val (.long i4), .second, iv i5, iv (nM i0), iv (nK i1), iv (nB i1), iv (0 : Int32), iv (nC0 i4), iv (nC1 i4), iv (nC2 i5), rv b209, rv na_237, iv (f_ad0 i2 i3 (nM i0) (nS i1) (nar .boolean (1 : Int32))), iv (1 : Int32), .val (.long (0 : Int64)), .second, .val (.long ((i2).toInt64)), .second, .unset] [(.int (0 : Int32))]
            exact k)
          have e243_0 : (own_fin (1 : Int32) (0 : Int64) (nK i1) ((i2).toInt64)) = (0 : Int32) := by first | exact if_pos h245 | (unfold own_fin; first | (rw [if_pos h245]; done) | (simp [h245]; done) | (rw [if_pos h245]; decide))
          rw [e243_0]; exact g246
        · skip
          have g247 : Goes p e below S0 (T240.setTop (mkF m 274 #[iv i0, iv i1, iv i2, iv i3, .val (.long i4), .second, iv i5, iv (nM i0), iv (nK i1), iv (nB i1), iv (0 : Int32), iv (nC0 i4), iv (nC1 i4), iv (nC2 i5), rv b209, rv na_237, iv (f_ad0 i2 i3 (nM i0) (nS i1) (nar .boolean (1 : Int32))), iv (1 : Int32), .val (.long (0 : Int64)), .second, .val (.long ((i2).toInt64)), .second, .unset] [(.int (1 : Int32))])) := fun t k => g244 t (by
            refine XS.ifNo X240.here hx rfl (hb hby at_266) rfl (XT.ll_lt_f h245) ?_
            show Go p e below t T240 m 269 #[iv i0, iv i1, iv i2, iv i3, .val (.long i4), .second, iv i5, iv (nM i0), iv (nK i1), iv (nB i1), iv (0 : Int32), iv (nC0 i4), iv (nC1 i4), iv (nC2 i5), rv b209, rv na_237, iv (f_ad0 i2 i3 (nM i0) (nS i1) (nar .boolean (1 : Int32))), iv (1 : Int32), .val (.long (0 : Int64)), .second, .val (.long ((i2).toInt64)), .second, .unset] []
            refine XT.iconstV X240.here hx rfl (1 : Int32) (hb hby at_269) (by decide) ?_
            show Go p e below t T240 m 270 #[iv i0, iv i1, iv i2, iv i3, .val (.long i4), .second, iv i5, iv (nM i0), iv (nK i1), iv (nB i1), iv (0 : Int32), iv (nC0 i4), iv (nC1 i4), iv (nC2 i5), rv b209, rv na_237, iv (f_ad0 i2 i3 (nM i0) (nS i1) (nar .boolean (1 : Int32))), iv (1 : Int32), .val (.long (0 : Int64)), .second, .val (.long ((i2).toInt64)), .second, .unset] [(.int (1 : Int32))]
            refine XS.goto X240.here hx rfl (pc0 := 270) (pc' := 274) rfl (hb hby at_270) (by decide) (by decide) ?_
            show Go p e below t T240 m 274 #[iv i0, iv i1, iv i2, iv i3, .val (.long i4), .second, iv i5, iv (nM i0), iv (nK i1), iv (nB i1), iv (0 : Int32), iv (nC0 i4), iv (nC1 i4), iv (nC2 i5), rv b209, rv na_237, iv (f_ad0 i2 i3 (nM i0) (nS i1) (nar .boolean (1 : Int32))), iv (1 : Int32), .val (.long (0 : Int64)), .second, .val (.long ((i2).toInt64)), .second, .unset] [(.int (1 : Int32))]
            exact k)
          have e243_0 : (own_fin (1 : Int32) (0 : Int64) (nK i1) ((i2).toInt64)) = (1 : Int32) := by first | exact if_neg h245 | (unfold own_fin; first | (rw [if_neg h245]; done) | (simp [h245]; done) | (rw [if_neg h245]; decide))
          rw [e243_0]; exact g247
      have g248 : Goes p e below S0 (T240.setTop (mkF m 288 #[iv i0, iv i1, iv i2, iv i3, .val (.long i4), .second, iv i5, iv (nM i0), iv (nK i1), iv (nB i1), iv (0 : Int32), iv (nC0 i4), iv (nC1 i4), iv (nC2 i5), rv b209, rv na_237, iv (f_ad0 i2 i3 (nM i0) (nS i1) (nar .boolean (1 : Int32))), iv (1 : Int32), .val (.long (0 : Int64)), .second, .val (.long ((i2).toInt64)), .second, iv (own_fin (1 : Int32) (0 : Int64) (nK i1) ((i2).toInt64))] [(.int (1 : Int32))])) := fun t k => gf243 t (by
        refine XS.istore X240.here hx rfl (hb hby at_274) rfl (l' := #[iv i0, iv i1, iv i2, iv i3, .val (.long i4), .second, iv i5, iv (nM i0), iv (nK i1), iv (nB i1), iv (0 : Int32), iv (nC0 i4), iv (nC1 i4), iv (nC2 i5), rv b209, rv na_237, iv (f_ad0 i2 i3 (nM i0) (nS i1) (nar .boolean (1 : Int32))), iv (1 : Int32), .val (.long (0 : Int64)), .second, .val (.long ((i2).toInt64)), .second, iv (own_fin (1 : Int32) (0 : Int64) (nK i1) ((i2).toInt64))]) rfl ?_
        show Go p e below t T240 m 276 #[iv i0, iv i1, iv i2, iv i3, .val (.long i4), .second, iv i5, iv (nM i0), iv (nK i1), iv (nB i1), iv (0 : Int32), iv (nC0 i4), iv (nC1 i4), iv (nC2 i5), rv b209, rv na_237, iv (f_ad0 i2 i3 (nM i0) (nS i1) (nar .boolean (1 : Int32))), iv (1 : Int32), .val (.long (0 : Int64)), .second, .val (.long ((i2).toInt64)), .second, iv (own_fin (1 : Int32) (0 : Int64) (nK i1) ((i2).toInt64))] []
        refine XS.iload X240.here hx rfl (hb hby at_276) rfl ?_
        show Go p e below t T240 m 278 #[iv i0, iv i1, iv i2, iv i3, .val (.long i4), .second, iv i5, iv (nM i0), iv (nK i1), iv (nB i1), iv (0 : Int32), iv (nC0 i4), iv (nC1 i4), iv (nC2 i5), rv b209, rv na_237, iv (f_ad0 i2 i3 (nM i0) (nS i1) (nar .boolean (1 : Int32))), iv (1 : Int32), .val (.long (0 : Int64)), .second, .val (.long ((i2).toInt64)), .second, iv (own_fin (1 : Int32) (0 : Int64) (nK i1) ((i2).toInt64))] [(.int (f_ad0 i2 i3 (nM i0) (nS i1) (nar .boolean (1 : Int32))))]
        refine XS.iload X240.here hx rfl (hb hby at_278) rfl ?_
        show Go p e below t T240 m 280 #[iv i0, iv i1, iv i2, iv i3, .val (.long i4), .second, iv i5, iv (nM i0), iv (nK i1), iv (nB i1), iv (0 : Int32), iv (nC0 i4), iv (nC1 i4), iv (nC2 i5), rv b209, rv na_237, iv (f_ad0 i2 i3 (nM i0) (nS i1) (nar .boolean (1 : Int32))), iv (1 : Int32), .val (.long (0 : Int64)), .second, .val (.long ((i2).toInt64)), .second, iv (own_fin (1 : Int32) (0 : Int64) (nK i1) ((i2).toInt64))] [(.int (own_fin (1 : Int32) (0 : Int64) (nK i1) ((i2).toInt64))), (.int (f_ad0 i2 i3 (nM i0) (nS i1) (nar .boolean (1 : Int32))))]
        refine XS.icmpNo X240.here hx rfl (hb hby at_280) rfl (XT.ii_ne_f (own_fin0n i0 i1 i2 i3 i4 i5)) ?_
        show Go p e below t T240 m 283 #[iv i0, iv i1, iv i2, iv i3, .val (.long i4), .second, iv i5, iv (nM i0), iv (nK i1), iv (nB i1), iv (0 : Int32), iv (nC0 i4), iv (nC1 i4), iv (nC2 i5), rv b209, rv na_237, iv (f_ad0 i2 i3 (nM i0) (nS i1) (nar .boolean (1 : Int32))), iv (1 : Int32), .val (.long (0 : Int64)), .second, .val (.long ((i2).toInt64)), .second, iv (own_fin (1 : Int32) (0 : Int64) (nK i1) ((i2).toInt64))] []
        refine XT.iconstV X240.here hx rfl (1 : Int32) (hb hby at_283) (by decide) ?_
        show Go p e below t T240 m 284 #[iv i0, iv i1, iv i2, iv i3, .val (.long i4), .second, iv i5, iv (nM i0), iv (nK i1), iv (nB i1), iv (0 : Int32), iv (nC0 i4), iv (nC1 i4), iv (nC2 i5), rv b209, rv na_237, iv (f_ad0 i2 i3 (nM i0) (nS i1) (nar .boolean (1 : Int32))), iv (1 : Int32), .val (.long (0 : Int64)), .second, .val (.long ((i2).toInt64)), .second, iv (own_fin (1 : Int32) (0 : Int64) (nK i1) ((i2).toInt64))] [(.int (1 : Int32))]
        refine XS.goto X240.here hx rfl (pc0 := 284) (pc' := 288) rfl (hb hby at_284) (by decide) (by decide) ?_
        show Go p e below t T240 m 288 #[iv i0, iv i1, iv i2, iv i3, .val (.long i4), .second, iv i5, iv (nM i0), iv (nK i1), iv (nB i1), iv (0 : Int32), iv (nC0 i4), iv (nC1 i4), iv (nC2 i5), rv b209, rv na_237, iv (f_ad0 i2 i3 (nM i0) (nS i1) (nar .boolean (1 : Int32))), iv (1 : Int32), .val (.long (0 : Int64)), .second, .val (.long ((i2).toInt64)), .second, iv (own_fin (1 : Int32) (0 : Int64) (nK i1) ((i2).toInt64))] [(.int (1 : Int32))]
        exact k)
      obtain ⟨fs, hr, hrun, hended, hW, hsame⟩ := X240.leave (v := some (.int (1 : Int32))) (fun h => by rw [Bd.returns] at h; cases h)
      refine ⟨_, _, g248 _ (retN X240 hx (t := .boolean) Bd.returns (by simp) (hb hby at_288) hr), hrun, hended, _, _, rfl, ?_, ⟨_, rfl⟩, hW, hsame.mono (by decide) (by decide)⟩
      show Q_law Z i0 i1 i2 i3 i4 i5  h0 n0 _ T240.heap _
      rw [e240]
      exact ⟨rfl, M240⟩
  · skip
    have g249 : Goes p e below S0 (T199.setTop (mkF m 73 #[iv i0, iv i1, iv i2, iv i3, .val (.long i4), .second, iv i5, iv (nM i0), iv (nK i1), iv (nB i1), iv (1 : Int32), iv (nC0 i4), iv (nC1 i4), iv (nC2 i5), .unset, .unset, .unset, .unset, .unset, .unset, .unset, .unset, .unset] [(.int (1 : Int32))])) := fun t k => g207 t (by
      refine XS.iload X199.here hx rfl (hb hby at_71) rfl ?_
      show Go p e below t T199 m 73 #[iv i0, iv i1, iv i2, iv i3, .val (.long i4), .second, iv i5, iv (nM i0), iv (nK i1), iv (nB i1), iv (1 : Int32), iv (nC0 i4), iv (nC1 i4), iv (nC2 i5), .unset, .unset, .unset, .unset, .unset, .unset, .unset, .unset, .unset] [(.int (1 : Int32))]
      exact k)
    obtain ⟨T250, h250, k250, X250, e250, E250, A250, st250⟩ := newP X199 hx hZ (hw _ (List.mem_of_getElem? (i := 6) rfl)) e199 (g := (mkF m 73 #[iv i0, iv i1, iv i2, iv i3, .val (.long i4), .second, iv i5, iv (nM i0), iv (nK i1), iv (nB i1), iv (1 : Int32), iv (nC0 i4), iv (nC1 i4), iv (nC2 i5), .unset, .unset, .unset, .unset, .unset, .unset, .unset, .unset, .unset] [(.int (1 : Int32))])) rfl (hb hby at_73) rfl (by decide) (cap := 1) (by decide) (by decide) (by decide) (by decide)
    obtain ⟨b250, gb250⟩ : ∃ z, z = h0.size := ⟨_, rfl⟩
    have sz250 : h0.size ≤ b250 := Nat.le_trans (Nat.le_refl _) (Nat.le_of_eq gb250.symm)
    have ng250 : n0 ≤ b250 := Nat.le_trans Z0 sz250
    rw [← gb250] at A250 st250
    have V250 : Arv Z h250 b250 k250 .int (1 : Int32) [(.int (0 : Int32))] (.int (0 : Int32)) := (Arv.new A250 (by decide)).pad (pad_rep [] (.int (0 : Int32)) 1)
    have g251 : Goes p e below S0 (T250.setTop (mkF m 75 #[iv i0, iv i1, iv i2, iv i3, .val (.long i4), .second, iv i5, iv (nM i0), iv (nK i1), iv (nB i1), iv (1 : Int32), iv (nC0 i4), iv (nC1 i4), iv (nC2 i5), .unset, .unset, .unset, .unset, .unset, .unset, .unset, .unset, .unset] [(.ref b250)])) := fun t k => g249 t (st250 t k)
    have g252 : Goes p e below S0 (T250.setTop (mkF m 88 #[iv i0, iv i1, iv i2, iv i3, .val (.long i4), .second, iv i5, iv (nM i0), iv (nK i1), iv (nB i1), iv (1 : Int32), iv (nC0 i4), iv (nC1 i4), iv (nC2 i5), rv b250, .unset, .unset, .unset, .unset, .unset, .unset, .unset, .unset] [(.int (nC0 i4)), (.int (0 : Int32)), (.ref b250)])) := fun t k => g251 t (by
      refine XS.astore X250.here hx rfl (hb hby at_75) rfl rfl (l' := #[iv i0, iv i1, iv i2, iv i3, .val (.long i4), .second, iv i5, iv (nM i0), iv (nK i1), iv (nB i1), iv (1 : Int32), iv (nC0 i4), iv (nC1 i4), iv (nC2 i5), rv b250, .unset, .unset, .unset, .unset, .unset, .unset, .unset, .unset]) rfl ?_
      show Go p e below t T250 m 77 #[iv i0, iv i1, iv i2, iv i3, .val (.long i4), .second, iv i5, iv (nM i0), iv (nK i1), iv (nB i1), iv (1 : Int32), iv (nC0 i4), iv (nC1 i4), iv (nC2 i5), rv b250, .unset, .unset, .unset, .unset, .unset, .unset, .unset, .unset] []
      refine XS.iload X250.here hx rfl (hb hby at_77) rfl ?_
      show Go p e below t T250 m 79 #[iv i0, iv i1, iv i2, iv i3, .val (.long i4), .second, iv i5, iv (nM i0), iv (nK i1), iv (nB i1), iv (1 : Int32), iv (nC0 i4), iv (nC1 i4), iv (nC2 i5), rv b250, .unset, .unset, .unset, .unset, .unset, .unset, .unset, .unset] [(.int (1 : Int32))]
      refine XT.iconstV X250.here hx rfl (1 : Int32) (hb hby at_79) (by decide) ?_
      show Go p e below t T250 m 80 #[iv i0, iv i1, iv i2, iv i3, .val (.long i4), .second, iv i5, iv (nM i0), iv (nK i1), iv (nB i1), iv (1 : Int32), iv (nC0 i4), iv (nC1 i4), iv (nC2 i5), rv b250, .unset, .unset, .unset, .unset, .unset, .unset, .unset, .unset] [(.int (1 : Int32)), (.int (1 : Int32))]
      refine XS.icmpNo X250.here hx rfl (hb hby at_80) rfl (XT.ii_lt_f (by decide)) ?_
      show Go p e below t T250 m 83 #[iv i0, iv i1, iv i2, iv i3, .val (.long i4), .second, iv i5, iv (nM i0), iv (nK i1), iv (nB i1), iv (1 : Int32), iv (nC0 i4), iv (nC1 i4), iv (nC2 i5), rv b250, .unset, .unset, .unset, .unset, .unset, .unset, .unset, .unset] []
      refine XS.aload X250.here hx rfl (hb hby at_83) rfl rfl ?_
      show Go p e below t T250 m 85 #[iv i0, iv i1, iv i2, iv i3, .val (.long i4), .second, iv i5, iv (nM i0), iv (nK i1), iv (nB i1), iv (1 : Int32), iv (nC0 i4), iv (nC1 i4), iv (nC2 i5), rv b250, .unset, .unset, .unset, .unset, .unset, .unset, .unset, .unset] [(.ref b250)]
      refine XT.iconstV X250.here hx rfl (0 : Int32) (hb hby at_85) (by decide) ?_
      show Go p e below t T250 m 86 #[iv i0, iv i1, iv i2, iv i3, .val (.long i4), .second, iv i5, iv (nM i0), iv (nK i1), iv (nB i1), iv (1 : Int32), iv (nC0 i4), iv (nC1 i4), iv (nC2 i5), rv b250, .unset, .unset, .unset, .unset, .unset, .unset, .unset, .unset] [(.int (0 : Int32)), (.ref b250)]
      refine XS.iload X250.here hx rfl (hb hby at_86) rfl ?_
      show Go p e below t T250 m 88 #[iv i0, iv i1, iv i2, iv i3, .val (.long i4), .second, iv i5, iv (nM i0), iv (nK i1), iv (nB i1), iv (1 : Int32), iv (nC0 i4), iv (nC1 i4), iv (nC2 i5), rv b250, .unset, .unset, .unset, .unset, .unset, .unset, .unset, .unset] [(.int (nC0 i4)), (.int (0 : Int32)), (.ref b250)]
      exact k)
    obtain ⟨cl253, Ar253, q253, S253, M253, H253, G253⟩ := id V250
    obtain ⟨T254, h254, X254, e254, W254, st254⟩ := stI X250 hx hZ e250 Ar253 (j := (0 : Int32)) (inb_of S253 ⟨by decide, by decide⟩) (g := (mkF m 88 #[iv i0, iv i1, iv i2, iv i3, .val (.long i4), .second, iv i5, iv (nM i0), iv (nK i1), iv (nB i1), iv (1 : Int32), iv (nC0 i4), iv (nC1 i4), iv (nC2 i5), rv b250, .unset, .unset, .unset, .unset, .unset, .unset, .unset, .unset] [(.int (nC0 i4)), (.int (0 : Int32)), (.ref b250)])) rfl rfl (hb hby at_88)
    have N254 := Fr.snoc X254 M199 ng250
    have V254 : Arv Z h254 b250 k250 .int (1 : Int32) [(.int (nC0 i4))] (.int (0 : Int32)) := Arv.set Ar253 q253 S253 M253 H253 G253 rfl W254 0 rfl (Nat.le_of_ble_eq_true rfl)
    have g255 : Goes p e below S0 (T254.setTop (mkF m 89 #[iv i0, iv i1, iv i2, iv i3, .val (.long i4), .second, iv i5, iv (nM i0), iv (nK i1), iv (nB i1), iv (1 : Int32), iv (nC0 i4), iv (nC1 i4), iv (nC2 i5), rv b250, .unset, .unset, .unset, .unset, .unset, .unset, .unset, .unset] [])) := fun t k => g252 t (st254 t k)
    have g256 : Goes p e below S0 (T254.setTop (mkF m 113 #[iv i0, iv i1, iv i2, iv i3, .val (.long i4), .second, iv i5, iv (nM i0), iv (nK i1), iv (nB i1), iv (1 : Int32), iv (nC0 i4), iv (nC1 i4), iv (nC2 i5), rv b250, .unset, .unset, .unset, .unset, .unset, .unset, .unset, .unset] [])) := fun t k => g255 t (by
      refine XS.iload X254.here hx rfl (hb hby at_89) rfl ?_
      show Go p e below t T254 m 91 #[iv i0, iv i1, iv i2, iv i3, .val (.long i4), .second, iv i5, iv (nM i0), iv (nK i1), iv (nB i1), iv (1 : Int32), iv (nC0 i4), iv (nC1 i4), iv (nC2 i5), rv b250, .unset, .unset, .unset, .unset, .unset, .unset, .unset, .unset] [(.int (1 : Int32))]
      refine XT.iconstV X254.here hx rfl (2 : Int32) (hb hby at_91) (by decide) ?_
      show Go p e below t T254 m 92 #[iv i0, iv i1, iv i2, iv i3, .val (.long i4), .second, iv i5, iv (nM i0), iv (nK i1), iv (nB i1), iv (1 : Int32), iv (nC0 i4), iv (nC1 i4), iv (nC2 i5), rv b250, .unset, .unset, .unset, .unset, .unset, .unset, .unset, .unset] [(.int (2 : Int32)), (.int (1 : Int32))]
      refine XS.icmpYes X254.here hx rfl (pc0 := 92) (pc' := 101) rfl (hb hby at_92) rfl (XT.ii_lt_t (by decide)) (by decide) (by decide) ?_
      show Go p e below t T254 m 101 #[iv i0, iv i1, iv i2, iv i3, .val (.long i4), .second, iv i5, iv (nM i0), iv (nK i1), iv (nB i1), iv (1 : Int32), iv (nC0 i4), iv (nC1 i4), iv (nC2 i5), rv b250, .unset, .unset, .unset, .unset, .unset, .unset, .unset, .unset] []
      refine XS.iload X254.here hx rfl (hb hby at_101) rfl ?_
      show Go p e below t T254 m 103 #[iv i0, iv i1, iv i2, iv i3, .val (.long i4), .second, iv i5, iv (nM i0), iv (nK i1), iv (nB i1), iv (1 : Int32), iv (nC0 i4), iv (nC1 i4), iv (nC2 i5), rv b250, .unset, .unset, .unset, .unset, .unset, .unset, .unset, .unset] [(.int (1 : Int32))]
      refine XT.iconstV X254.here hx rfl (3 : Int32) (hb hby at_103) (by decide) ?_
      show Go p e below t T254 m 104 #[iv i0, iv i1, iv i2, iv i3, .val (.long i4), .second, iv i5, iv (nM i0), iv (nK i1), iv (nB i1), iv (1 : Int32), iv (nC0 i4), iv (nC1 i4), iv (nC2 i5), rv b250, .unset, .unset, .unset, .unset, .unset, .unset, .unset, .unset] [(.int (3 : Int32)), (.int (1 : Int32))]
      refine XS.icmpYes X254.here hx rfl (pc0 := 104) (pc' := 113) rfl (hb hby at_104) rfl (XT.ii_lt_t (by decide)) (by decide) (by decide) ?_
      show Go p e below t T254 m 113 #[iv i0, iv i1, iv i2, iv i3, .val (.long i4), .second, iv i5, iv (nM i0), iv (nK i1), iv (nB i1), iv (1 : Int32), iv (nC0 i4), iv (nC1 i4), iv (nC2 i5), rv b250, .unset, .unset, .unset, .unset, .unset, .unset, .unset, .unset] []
      exact k)
    obtain ⟨T257, h257, X257, e257, E257, A257, D257, -, st257⟩ := newO X254 hx hZ hown (hw _ (List.mem_of_getElem? (i := 7) rfl)) (hw _ (List.mem_of_getElem? (i := 8) rfl)) (hw _ (List.mem_of_getElem? (i := 9) rfl)) e254 (g := (mkF m 113 #[iv i0, iv i1, iv i2, iv i3, .val (.long i4), .second, iv i5, iv (nM i0), iv (nK i1), iv (nB i1), iv (1 : Int32), iv (nC0 i4), iv (nC1 i4), iv (nC2 i5), rv b250, .unset, .unset, .unset, .unset, .unset, .unset, .unset, .unset] [])) rfl (hb hby at_113) (by decide) (by decide)
    obtain ⟨b257, gb257⟩ : ∃ z, z = h254.size := ⟨_, rfl⟩
    have sz257 : h0.size ≤ b257 := Nat.le_trans (Nat.le_trans (Nat.le_trans (Nat.le_refl _) E250.1) (Nat.le_of_eq W254.size.symm)) (Nat.le_of_eq gb257.symm)
    have ng257 : n0 ≤ b257 := Nat.le_trans Z0 sz257
    rw [← gb257] at A257 D257 st257
    have F257_258 : Fld Z h257 b257 "com/example/hetmo/hetmo/tree/StoppingRules" "_minLeaf" "I" (.int (0 : Int32)) := D257 (Or.inr (hw _ (List.mem_of_getElem? (i := 26) rfl))) (ty := .int) (by decide)
    have F257_259 : Fld Z h257 b257 "com/example/hetmo/hetmo/tree/StoppingRules" "_minShare" "D" (.double (0 : UInt64)) := D257 (Or.inr (hw _ (List.mem_of_getElem? (i := 28) rfl))) (ty := .double) (by decide)
    have F257_260 : Fld Z h257 b257 "com/example/hetmo/hetmo/tree/StoppingRules" "_minImprovement" "D" (.double (0 : UInt64)) := D257 (Or.inr (hw _ (List.mem_of_getElem? (i := 30) rfl))) (ty := .double) (by decide)
    have F257_261 : Fld Z h257 b257 "com/example/hetmo/hetmo/tree/StoppingRules" "_maxDepth" "I" (.int (0 : Int32)) := D257 (Or.inr (hw _ (List.mem_of_getElem? (i := 32) rfl))) (ty := .int) (by decide)
    have F257_262 : Fld Z h257 b257 "com/example/hetmo/hetmo/tree/StoppingRules" "_countedApartBy" "[D" .null := D257 (Or.inr (hw _ (List.mem_of_getElem? (i := 34) rfl))) (ty := (.array .double)) (by decide)
    have F257_263 : Fld Z h257 b257 "com/example/hetmo/hetmo/tree/StoppingRules" "_shareOfNode" "Z" (.int (0 : Int32)) := D257 (Or.inr (hw _ (List.mem_of_getElem? (i := 36) rfl))) (ty := .boolean) (by decide)
    have F257_264 : Fld Z h257 b257 "com/example/hetmo/hetmo/tree/StoppingRules" "_countingEstimatingRows" "Z" (.int (0 : Int32)) := D257 (Or.inr (hw _ (List.mem_of_getElem? (i := 38) rfl))) (ty := .boolean) (by decide)
    have g265 : Goes p e below S0 (T257.setTop (mkF m 116 #[iv i0, iv i1, iv i2, iv i3, .val (.long i4), .second, iv i5, iv (nM i0), iv (nK i1), iv (nB i1), iv (1 : Int32), iv (nC0 i4), iv (nC1 i4), iv (nC2 i5), rv b250, .unset, .unset, .unset, .unset, .unset, .unset, .unset, .unset] [(.ref b257)])) := fun t k => g256 t (st257 t k)
    have g266 : Goes p e below S0 (T257.setTop (mkF m 128 #[iv i0, iv i1, iv i2, iv i3, .val (.long i4), .second, iv i5, iv (nM i0), iv (nK i1), iv (nB i1), iv (1 : Int32), iv (nC0 i4), iv (nC1 i4), iv (nC2 i5), rv b250, .unset, .unset, .unset, .unset, .unset, .unset, .unset, .unset] [(.int (0 : Int32)), (.double (0 : UInt64)), (.double (nS i1)), (.int (nM i0)), (.ref b257), (.ref b257)])) := fun t k => g265 t (by
      refine XS.dup X257.here hx rfl (hb hby at_116) rfl rfl ?_
      show Go p e below t T257 m 117 #[iv i0, iv i1, iv i2, iv i3, .val (.long i4), .second, iv i5, iv (nM i0), iv (nK i1), iv (nB i1), iv (1 : Int32), iv (nC0 i4), iv (nC1 i4), iv (nC2 i5), rv b250, .unset, .unset, .unset, .unset, .unset, .unset, .unset, .unset] [(.ref b257), (.ref b257)]
      refine XS.iload X257.here hx rfl (hb hby at_117) rfl ?_
      show Go p e below t T257 m 119 #[iv i0, iv i1, iv i2, iv i3, .val (.long i4), .second, iv i5, iv (nM i0), iv (nK i1), iv (nB i1), iv (1 : Int32), iv (nC0 i4), iv (nC1 i4), iv (nC2 i5), rv b250, .unset, .unset, .unset, .unset, .unset, .unset, .unset, .unset] [(.int (nM i0)), (.ref b257), (.ref b257)]
      refine XS.iload X257.here hx rfl (hb hby at_119) rfl ?_
      show Go p e below t T257 m 121 #[iv i0, iv i1, iv i2, iv i3, .val (.long i4), .second, iv i5, iv (nM i0), iv (nK i1), iv (nB i1), iv (1 : Int32), iv (nC0 i4), iv (nC1 i4), iv (nC2 i5), rv b250, .unset, .unset, .unset, .unset, .unset, .unset, .unset, .unset] [(.int (nK i1)), (.int (nM i0)), (.ref b257), (.ref b257)]
      refine XS.i2dS X257.here hx rfl (hb hby at_121) rfl rfl ?_
      show Go p e below t T257 m 122 #[iv i0, iv i1, iv i2, iv i3, .val (.long i4), .second, iv i5, iv (nM i0), iv (nK i1), iv (nB i1), iv (1 : Int32), iv (nC0 i4), iv (nC1 i4), iv (nC2 i5), rv b250, .unset, .unset, .unset, .unset, .unset, .unset, .unset, .unset] [(.double (FP.i2d (nK i1))), (.int (nM i0)), (.ref b257), (.ref b257)]
      refine X257.ldc2DoubleC hx hown (mvT hZ (hw _ (List.mem_of_getElem? (i := 10) rfl))) (g := (mkF m 122 #[iv i0, iv i1, iv i2, iv i3, .val (.long i4), .second, iv i5, iv (nM i0), iv (nK i1), iv (nB i1), iv (1 : Int32), iv (nC0 i4), iv (nC1 i4), iv (nC2 i5), rv b250, .unset, .unset, .unset, .unset, .unset, .unset, .unset, .unset] [(.double (FP.i2d (nK i1))), (.int (nM i0)), (.ref b257), (.ref b257)])) rfl (hb hby at_122) _ ?_
      show Go p e below t T257 m 125 #[iv i0, iv i1, iv i2, iv i3, .val (.long i4), .second, iv i5, iv (nM i0), iv (nK i1), iv (nB i1), iv (1 : Int32), iv (nC0 i4), iv (nC1 i4), iv (nC2 i5), rv b250, .unset, .unset, .unset, .unset, .unset, .unset, .unset, .unset] [(.double (4620693217682128896 : UInt64)), (.double (FP.i2d (nK i1))), (.int (nM i0)), (.ref b257), (.ref b257)]
      refine XS.ddivS X257.here hx rfl (hb hby at_125) rfl (own_qd i1) rfl ?_
      show Go p e below t T257 m 126 #[iv i0, iv i1, iv i2, iv i3, .val (.long i4), .second, iv i5, iv (nM i0), iv (nK i1), iv (nB i1), iv (1 : Int32), iv (nC0 i4), iv (nC1 i4), iv (nC2 i5), rv b250, .unset, .unset, .unset, .unset, .unset, .unset, .unset, .unset] [(.double (FP.ddiv (FP.i2d (nK i1)) (4620693217682128896 : UInt64))), (.int (nM i0)), (.ref b257), (.ref b257)]
      show Go p e below t T257 m 126 #[iv i0, iv i1, iv i2, iv i3, .val (.long i4), .second, iv i5, iv (nM i0), iv (nK i1), iv (nB i1), iv (1 : Int32), iv (nC0 i4), iv (nC1 i4), iv (nC2 i5), rv b250, .unset, .unset, .unset, .unset, .unset, .unset, .unset, .unset] [(.double (nS i1)), (.int (nM i0)), (.ref b257), (.ref b257)]
      refine XS.dconst0 X257.here hx rfl (hb hby at_126) (v := (0 : UInt64)) rfl ?_
      show Go p e below t T257 m 127 #[iv i0, iv i1, iv i2, iv i3, .val (.long i4), .second, iv i5, iv (nM i0), iv (nK i1), iv (nB i1), iv (1 : Int32), iv (nC0 i4), iv (nC1 i4), iv (nC2 i5), rv b250, .unset, .unset, .unset, .unset, .unset, .unset, .unset, .unset] [(.double (0 : UInt64)), (.double (nS i1)), (.int (nM i0)), (.ref b257), (.ref b257)]
      refine XT.iconstV X257.here hx rfl (0 : Int32) (hb hby at_127) (by decide) ?_
      show Go p e below t T257 m 128 #[iv i0, iv i1, iv i2, iv i3, .val (.long i4), .second, iv i5, iv (nM i0), iv (nK i1), iv (nB i1), iv (1 : Int32), iv (nC0 i4), iv (nC1 i4), iv (nC2 i5), rv b250, .unset, .unset, .unset, .unset, .unset, .unset, .unset, .unset] [(.int (0 : Int32)), (.double (0 : UInt64)), (.double (nS i1)), (.int (nM i0)), (.ref b257), (.ref b257)]
      exact k)
    obtain ⟨_, _, ⟨T267, L267, k267, n267⟩, -, X267, ⟨Lc267, hQ267, l267, y267, z267⟩, st267⟩ := X257.specialBack hx (y := (⟨"com/example/hetmo/hetmo/tree/StoppingRules", "<init>", "(IDDI)V"⟩ : MethodName)) rfl hown (mvT hZ (hw _ (List.mem_of_getElem? (i := 11) rfl))) (mvT hZ (hw _ (List.mem_of_getElem? (i := 12) rfl))) (mvT hZ (hw _ (List.mem_of_getElem? (i := 13) rfl))) (by decide) (backOf (W := 1) (rm_ini l Z a0 hw [] b257 (nM i0) (nS i1) (0 : UInt64) (0 : Int32)  h257 n0 (Nat.le_trans Z0 (Nat.le_trans (Nat.le_trans (Nat.le_trans (Nat.le_refl _) E250.1) (Nat.le_of_eq W254.size.symm)) E257.1)) A257 F257_258 F257_259 F257_260 F257_261 F257_262 F257_263 F257_264 ng257 (own_q1 i0) (own_q2 i1) (own_q3 i1) (by decide +kernel) (by unfold Jvm.Free.Fl.NoNaN64; decide) (by decide +kernel) (by decide)) hZ (hw _ (List.mem_of_getElem? (i := 13) rfl)) (hw _ (List.mem_of_getElem? (i := 9) rfl)) (by decide) (by decide)) (g := (mkF m 128 #[iv i0, iv i1, iv i2, iv i3, .val (.long i4), .second, iv i5, iv (nM i0), iv (nK i1), iv (nB i1), iv (1 : Int32), iv (nC0 i4), iv (nC1 i4), iv (nC2 i5), rv b250, .unset, .unset, .unset, .unset, .unset, .unset, .unset, .unset] [(.int (0 : Int32)), (.double (0 : UInt64)), (.double (nS i1)), (.int (nM i0)), (.ref b257), (.ref b257)])) rfl (by rw [hml]; rfl) (Steps.refl _) (a := b257) (argsL := [(.int (nM i0)), (.double (nS i1)), (.double (0 : UInt64)), (.int (0 : Int32))]) (rest := [(.ref b257)]) (lenOf pd3 rfl) rfl (by show 2 * 0 + _ ≤ _; exact Nat.le_of_eq rfl) (hb hby at_128) (fun _ _ => ⟨rfl, e257, (by decide : 2 + 0 ≤ _), (by decide : 8 + 0 ≤ _)⟩)
    dsimp only [Pt.U, Pt.locs, Pt.cells, Pt.slots] at X267 l267 y267 z267 st267 hQ267
    subst l267 y267 z267
    obtain ⟨rfl, N267, R267_0, R267_1, R267_2, R267_3, R267_4, R267_5, R267_6, R267_7, R267_8⟩ := hQ267
    have M267 := Fr.app N254 N267
    have g268 : Goes p e below S0 (T267.setTop (mkF m 131 #[iv i0, iv i1, iv i2, iv i3, .val (.long i4), .second, iv i5, iv (nM i0), iv (nK i1), iv (nB i1), iv (1 : Int32), iv (nC0 i4), iv (nC1 i4), iv (nC2 i5), rv b250, .unset, .unset, .unset, .unset, .unset, .unset, .unset, .unset] [(.ref b257)])) := fun t k => g266 t (st267.trans k)
    have g269 : Goes p e below S0 (T267.setTop (mkF m 135 #[iv i0, iv i1, iv i2, iv i3, .val (.long i4), .second, iv i5, iv (nM i0), iv (nK i1), iv (nB i1), iv (1 : Int32), iv (nC0 i4), iv (nC1 i4), iv (nC2 i5), rv b250, rv b257, .unset, .unset, .unset, .unset, .unset, .unset, .unset] [(.int (nB i1))])) := fun t k => g268 t (by
      refine XS.astore X267.here hx rfl (hb hby at_131) rfl rfl (l' := #[iv i0, iv i1, iv i2, iv i3, .val (.long i4), .second, iv i5, iv (nM i0), iv (nK i1), iv (nB i1), iv (1 : Int32), iv (nC0 i4), iv (nC1 i4), iv (nC2 i5), rv b250, rv b257, .unset, .unset, .unset, .unset, .unset, .unset, .unset]) rfl ?_
      show Go p e below t T267 m 133 #[iv i0, iv i1, iv i2, iv i3, .val (.long i4), .second, iv i5, iv (nM i0), iv (nK i1), iv (nB i1), iv (1 : Int32), iv (nC0 i4), iv (nC1 i4), iv (nC2 i5), rv b250, rv b257, .unset, .unset, .unset, .unset, .unset, .unset, .unset] []
      refine XS.iload X267.here hx rfl (hb hby at_133) rfl ?_
      show Go p e below t T267 m 135 #[iv i0, iv i1, iv i2, iv i3, .val (.long i4), .second, iv i5, iv (nM i0), iv (nK i1), iv (nB i1), iv (1 : Int32), iv (nC0 i4), iv (nC1 i4), iv (nC2 i5), rv b250, rv b257, .unset, .unset, .unset, .unset, .unset, .unset, .unset] [(.int (nB i1))]
      exact k)
    by_cases h270 : (nB i1) = 0
    · skip
      have g271 : Goes p e below S0 (T267.setTop (mkF m 151 #[iv i0, iv i1, iv i2, iv i3, .val (.long i4), .second, iv i5, iv (nM i0), iv (nK i1), iv (nB i1), iv (1 : Int32), iv (nC0 i4), iv (nC1 i4), iv (nC2 i5), rv b250, rv b257, .unset, .unset, .unset, .unset, .unset, .unset, .unset] [(.int i3), (.int i2), (.ref b250), (.ref b257)])) := fun t k => g269 t (by
        refine XS.ifYes X267.here hx rfl (pc0 := 135) (pc' := 145) rfl (hb hby at_135) rfl (XT.i0_eq_t h270) (by decide) (by decide) ?_
        show Go p e below t T267 m 145 #[iv i0, iv i1, iv i2, iv i3, .val (.long i4), .second, iv i5, iv (nM i0), iv (nK i1), iv (nB i1), iv (1 : Int32), iv (nC0 i4), iv (nC1 i4), iv (nC2 i5), rv b250, rv b257, .unset, .unset, .unset, .unset, .unset, .unset, .unset] []
        refine XS.aload X267.here hx rfl (hb hby at_145) rfl rfl ?_
        show Go p e below t T267 m 147 #[iv i0, iv i1, iv i2, iv i3, .val (.long i4), .second, iv i5, iv (nM i0), iv (nK i1), iv (nB i1), iv (1 : Int32), iv (nC0 i4), iv (nC1 i4), iv (nC2 i5), rv b250, rv b257, .unset, .unset, .unset, .unset, .unset, .unset, .unset] [(.ref b257)]
        refine XS.aload X267.here hx rfl (hb hby at_147) rfl rfl ?_
        show Go p e below t T267 m 149 #[iv i0, iv i1, iv i2, iv i3, .val (.long i4), .second, iv i5, iv (nM i0), iv (nK i1), iv (nB i1), iv (1 : Int32), iv (nC0 i4), iv (nC1 i4), iv (nC2 i5), rv b250, rv b257, .unset, .unset, .unset, .unset, .unset, .unset, .unset] [(.ref b250), (.ref b257)]
        refine XS.iloadN X267.here hx rfl (hb hby at_149) rfl ?_
        show Go p e below t T267 m 150 #[iv i0, iv i1, iv i2, iv i3, .val (.long i4), .second, iv i5, iv (nM i0), iv (nK i1), iv (nB i1), iv (1 : Int32), iv (nC0 i4), iv (nC1 i4), iv (nC2 i5), rv b250, rv b257, .unset, .unset, .unset, .unset, .unset, .unset, .unset] [(.int i2), (.ref b250), (.ref b257)]
        refine XS.iloadN X267.here hx rfl (hb hby at_150) rfl ?_
        show Go p e below t T267 m 151 #[iv i0, iv i1, iv i2, iv i3, .val (.long i4), .second, iv i5, iv (nM i0), iv (nK i1), iv (nB i1), iv (1 : Int32), iv (nC0 i4), iv (nC1 i4), iv (nC2 i5), rv b250, rv b257, .unset, .unset, .unset, .unset, .unset, .unset, .unset] [(.int i3), (.int i2), (.ref b250), (.ref b257)]
        exact k)
      obtain ⟨cq272, kq272, q272a, q272b, q272c⟩ := isOf hZ rfl R267_1
      obtain ⟨_, _, ⟨T272, L272, k272, n272⟩, -, X272, ⟨Lc272, hQ272, l272, y272, z272⟩, st272⟩ := X267.virtualBack hx (y := (⟨"com/example/hetmo/hetmo/tree/StoppingRules", "admits", "([III)Z"⟩ : MethodName)) (z := (⟨"com/example/hetmo/hetmo/tree/StoppingRules", "admits", "([III)Z"⟩ : MethodName)) hown (mvT hZ (hw _ (List.mem_of_getElem? (i := 39) rfl))) (mvT hZ (hw _ (List.mem_of_getElem? (i := 40) rfl))) (notFace_of_selects (args := #[]) (mvT hZ (hw _ (List.mem_of_getElem? (i := 42) rfl)))) (mvT hZ (hw _ (List.mem_of_getElem? (i := 42) rfl))) (mvT hZ (hw _ (List.mem_of_getElem? (i := 41) rfl))) (by decide) (backOf (W := 0) (rm_ad1 l Z a0 hw [] b257 b250 i2 i3 (nM i0) (nS i1) (0 : Int32) k250 (nC0 i4) T267.heap n0 (Nat.le_trans Z0 (Nat.le_trans (Nat.le_trans (Nat.le_trans (Nat.le_trans (Nat.le_refl _) E250.1) (Nat.le_of_eq W254.size.symm)) E257.1) R267_0.1)) R267_2 R267_3 R267_7 ((V254.ext E257).keep R267_0 (ninS (Nat.ne_of_lt (Nat.lt_of_lt_of_le V254.lt (Nat.le_of_eq gb257.symm))) nin0)) (own_qf i1)) hZ (hw _ (List.mem_of_getElem? (i := 43) rfl)) (hw _ (List.mem_of_getElem? (i := 9) rfl)) (by decide) (by decide)) q272a q272c (g := (mkF m 151 #[iv i0, iv i1, iv i2, iv i3, .val (.long i4), .second, iv i5, iv (nM i0), iv (nK i1), iv (nB i1), iv (1 : Int32), iv (nC0 i4), iv (nC1 i4), iv (nC2 i5), rv b250, rv b257, .unset, .unset, .unset, .unset, .unset, .unset, .unset] [(.int i3), (.int i2), (.ref b250), (.ref b257)])) rfl (by rw [hml]; rfl) (Steps.refl _) (argsL := [(.ref b250), (.int i2), (.int i3)]) (rest := []) (lenOf pd6 rfl) rfl (by show 2 * 0 + _ ≤ _; exact Nat.le_of_eq rfl) (hb hby at_151) (fun _ _ => ⟨rfl, rfl, (by decide : 2 + 0 ≤ _), (by decide : 8 + 0 ≤ _)⟩)
      dsimp only [Pt.U, Pt.locs, Pt.cells, Pt.slots] at X272 l272 y272 z272 st272 hQ272
      subst l272 y272 z272
      obtain ⟨rfl, N272, e272⟩ := hQ272
      have M272 := Fr.app M267 N272
      have g273 : Goes p e below S0 (T272.setTop (mkF m 154 #[iv i0, iv i1, iv i2, iv i3, .val (.long i4), .second, iv i5, iv (nM i0), iv (nK i1), iv (nB i1), iv (1 : Int32), iv (nC0 i4), iv (nC1 i4), iv (nC2 i5), rv b250, rv b257, .unset, .unset, .unset, .unset, .unset, .unset, .unset] [(.int (f_ad1 i2 i3 (nM i0) (nS i1) (0 : Int32) (nC0 i4)))])) := fun t k => g271 t (st272.trans k)
      have g274 : Goes p e below S0 (T272.setTop (mkF m 168 #[iv i0, iv i1, iv i2, iv i3, .val (.long i4), .second, iv i5, iv (nM i0), iv (nK i1), iv (nB i1), iv (1 : Int32), iv (nC0 i4), iv (nC1 i4), iv (nC2 i5), rv b250, rv b257, iv (f_ad1 i2 i3 (nM i0) (nS i1) (0 : Int32) (nC0 i4)), iv (1 : Int32), .val (.long (0 : Int64)), .second, .unset, .unset, .unset] [])) := fun t k => g273 t (by
        refine XS.istore X272.here hx rfl (hb hby at_154) rfl (l' := #[iv i0, iv i1, iv i2, iv i3, .val (.long i4), .second, iv i5, iv (nM i0), iv (nK i1), iv (nB i1), iv (1 : Int32), iv (nC0 i4), iv (nC1 i4), iv (nC2 i5), rv b250, rv b257, iv (f_ad1 i2 i3 (nM i0) (nS i1) (0 : Int32) (nC0 i4)), .unset, .unset, .unset, .unset, .unset, .unset]) rfl ?_
        show Go p e below t T272 m 156 #[iv i0, iv i1, iv i2, iv i3, .val (.long i4), .second, iv i5, iv (nM i0), iv (nK i1), iv (nB i1), iv (1 : Int32), iv (nC0 i4), iv (nC1 i4), iv (nC2 i5), rv b250, rv b257, iv (f_ad1 i2 i3 (nM i0) (nS i1) (0 : Int32) (nC0 i4)), .unset, .unset, .unset, .unset, .unset, .unset] []
        refine XT.iconstV X272.here hx rfl (1 : Int32) (hb hby at_156) (by decide) ?_
        show Go p e below t T272 m 157 #[iv i0, iv i1, iv i2, iv i3, .val (.long i4), .second, iv i5, iv (nM i0), iv (nK i1), iv (nB i1), iv (1 : Int32), iv (nC0 i4), iv (nC1 i4), iv (nC2 i5), rv b250, rv b257, iv (f_ad1 i2 i3 (nM i0) (nS i1) (0 : Int32) (nC0 i4)), .unset, .unset, .unset, .unset, .unset, .unset] [(.int (1 : Int32))]
        refine XS.istore X272.here hx rfl (hb hby at_157) rfl (l' := #[iv i0, iv i1, iv i2, iv i3, .val (.long i4), .second, iv i5, iv (nM i0), iv (nK i1), iv (nB i1), iv (1 : Int32), iv (nC0 i4), iv (nC1 i4), iv (nC2 i5), rv b250, rv b257, iv (f_ad1 i2 i3 (nM i0) (nS i1) (0 : Int32) (nC0 i4)), iv (1 : Int32), .unset, .unset, .unset, .unset, .unset]) rfl ?_
        show Go p e below t T272 m 159 #[iv i0, iv i1, iv i2, iv i3, .val (.long i4), .second, iv i5, iv (nM i0), iv (nK i1), iv (nB i1), iv (1 : Int32), iv (nC0 i4), iv (nC1 i4), iv (nC2 i5), rv b250, rv b257, iv (f_ad1 i2 i3 (nM i0) (nS i1) (0 : Int32) (nC0 i4)), iv (1 : Int32), .unset, .unset, .unset, .unset, .unset] []
        refine XT.lconstV X272.here hx rfl (0 : Int64) (hb hby at_159) (by decide) ?_
        show Go p e below t T272 m 160 #[iv i0, iv i1, iv i2, iv i3, .val (.long i4), .second, iv i5, iv (nM i0), iv (nK i1), iv (nB i1), iv (1 : Int32), iv (nC0 i4), iv (nC1 i4), iv (nC2 i5), rv b250, rv b257, iv (f_ad1 i2 i3 (nM i0) (nS i1) (0 : Int32) (nC0 i4)), iv (1 : Int32), .unset, .unset, .unset, .unset, .unset] [(.long (0 : Int64))]
        refine XS.lstore X272.here hx rfl (hb hby at_160) rfl (l' := #[iv i0, iv i1, iv i2, iv i3, .val (.long i4), .second, iv i5, iv (nM i0), iv (nK i1), iv (nB i1), iv (1 : Int32), iv (nC0 i4), iv (nC1 i4), iv (nC2 i5), rv b250, rv b257, iv (f_ad1 i2 i3 (nM i0) (nS i1) (0 : Int32) (nC0 i4)), iv (1 : Int32), .val (.long (0 : Int64)), .second, .unset, .unset, .unset]) rfl ?_
        show Go p e below t T272 m 162 #[iv i0, iv i1, iv i2, iv i3, .val (.long i4), .second, iv i5, iv (nM i0), iv (nK i1), iv (nB i1), iv (1 : Int32), iv (nC0 i4), iv (nC1 i4), iv (nC2 i5), rv b250, rv b257, iv (f_ad1 i2 i3 (nM i0) (nS i1) (0 : Int32) (nC0 i4)), iv (1 : Int32), .val (.long (0 : Int64)), .second, .unset, .unset, .unset] []
        refine XS.iload X272.here hx rfl (hb hby at_162) rfl ?_
        show Go p e below t T272 m 164 #[iv i0, iv i1, iv i2, iv i3, .val (.long i4), .second, iv i5, iv (nM i0), iv (nK i1), iv (nB i1), iv (1 : Int32), iv (nC0 i4), iv (nC1 i4), iv (nC2 i5), rv b250, rv b257, iv (f_ad1 i2 i3 (nM i0) (nS i1) (0 : Int32) (nC0 i4)), iv (1 : Int32), .val (.long (0 : Int64)), .second, .unset, .unset, .unset] [(.int (1 : Int32))]
        refine XT.iconstV X272.here hx rfl (1 : Int32) (hb hby at_164) (by decide) ?_
        show Go p e below t T272 m 165 #[iv i0, iv i1, iv i2, iv i3, .val (.long i4), .second, iv i5, iv (nM i0), iv (nK i1), iv (nB i1), iv (1 : Int32), iv (nC0 i4), iv (nC1 i4), iv (nC2 i5), rv b250, rv b257, iv (f_ad1 i2 i3 (nM i0) (nS i1) (0 : Int32) (nC0 i4)), iv (1 : Int32), .val (.long (0 : Int64)), .second, .unset, .unset, .unset] [(.int (1 : Int32)), (.int (1 : Int32))]
        refine XS.icmpNo X272.here hx rfl (hb hby at_165) rfl (XT.ii_lt_f (by decide)) ?_
        show Go p e below t T272 m 168 #[iv i0, iv i1, iv i2, iv i3, .val (.long i4), .second, iv i5, iv (nM i0), iv (nK i1), iv (nB i1), iv (1 : Int32), iv (nC0 i4), iv (nC1 i4), iv (nC2 i5), rv b250, rv b257, iv (f_ad1 i2 i3 (nM i0) (nS i1) (0 : Int32) (nC0 i4)), iv (1 : Int32), .val (.long (0 : Int64)), .second, .unset, .unset, .unset] []
        exact k)
      have gf275 : Goes p e below S0 (T272.setTop (mkF m 178 #[iv i0, iv i1, iv i2, iv i3, .val (.long i4), .second, iv i5, iv (nM i0), iv (nK i1), iv (nB i1), iv (1 : Int32), iv (nC0 i4), iv (nC1 i4), iv (nC2 i5), rv b250, rv b257, iv (f_ad1 i2 i3 (nM i0) (nS i1) (0 : Int32) (nC0 i4)), iv (own_all (1 : Int32) (nC0 i4) (nM i0)), .val (.long (0 : Int64)), .second, .unset, .unset, .unset] [])) := by
        have g276 : Goes p e below S0 (T272.setTop (mkF m 172 #[iv i0, iv i1, iv i2, iv i3, .val (.long i4), .second, iv i5, iv (nM i0), iv (nK i1), iv (nB i1), iv (1 : Int32), iv (nC0 i4), iv (nC1 i4), iv (nC2 i5), rv b250, rv b257, iv (f_ad1 i2 i3 (nM i0) (nS i1) (0 : Int32) (nC0 i4)), iv (1 : Int32), .val (.long (0 : Int64)), .second, .unset, .unset, .unset] [(.int (nM i0)), (.int (nC0 i4))])) := fun t k => g274 t (by
          refine XS.iload X272.here hx rfl (hb hby at_168) rfl ?_
          show Go p e below t T272 m 170 #[iv i0, iv i1, iv i2, iv i3, .val (.long i4), .second, iv i5, iv (nM i0), iv (nK i1), iv (nB i1), iv (1 : Int32), iv (nC0 i4), iv (nC1 i4), iv (nC2 i5), rv b250, rv b257, iv (f_ad1 i2 i3 (nM i0) (nS i1) (0 : Int32) (nC0 i4)), iv (1 : Int32), .val (.long (0 : Int64)), .second, .unset, .unset, .unset] [(.int (nC0 i4))]
          refine XS.iload X272.here hx rfl (hb hby at_170) rfl ?_
          show Go p e below t T272 m 172 #[iv i0, iv i1, iv i2, iv i3, .val (.long i4), .second, iv i5, iv (nM i0), iv (nK i1), iv (nB i1), iv (1 : Int32), iv (nC0 i4), iv (nC1 i4), iv (nC2 i5), rv b250, rv b257, iv (f_ad1 i2 i3 (nM i0) (nS i1) (0 : Int32) (nC0 i4)), iv (1 : Int32), .val (.long (0 : Int64)), .second, .unset, .unset, .unset] [(.int (nM i0)), (.int (nC0 i4))]
          exact k)
        by_cases h277 : (nC0 i4) < (nM i0)
        · skip
          have g278 : Goes p e below S0 (T272.setTop (mkF m 178 #[iv i0, iv i1, iv i2, iv i3, .val (.long i4), .second, iv i5, iv (nM i0), iv (nK i1), iv (nB i1), iv (1 : Int32), iv (nC0 i4), iv (nC1 i4), iv (nC2 i5), rv b250, rv b257, iv (f_ad1 i2 i3 (nM i0) (nS i1) (0 : Int32) (nC0 i4)), iv (0 : Int32), .val (.long (0 : Int64)), .second, .unset, .unset, .unset] [])) := fun t k => g276 t (by
            refine XS.icmpNo X272.here hx rfl (hb hby at_172) rfl (XT.ii_ge_f h277) ?_
            show Go p e below t T272 m 175 #[iv i0, iv i1, iv i2, iv i3, .val (.long i4), .second, iv i5, iv (nM i0), iv (nK i1), iv (nB i1), iv (1 : Int32), iv (nC0 i4), iv (nC1 i4), iv (nC2 i5), rv b250, rv b257, iv (f_ad1 i2 i3 (nM i0) (nS i1) (0 : Int32) (nC0 i4)), iv (1 : Int32), .val (.long (0 : Int64)), .second, .unset, .unset, .unset] []
            refine XT.iconstV X272.here hx rfl (0 : Int32) (hb hby at_175) (by decide) ?_
            show Go p e below t T272 m 176 #[iv i0, iv i1, iv i2, iv i3, .val (.long i4), .second, iv i5, iv (nM i0), iv (nK i1), iv (nB i1), iv (1 : Int32), iv (nC0 i4), iv (nC1 i4), iv (nC2 i5), rv b250, rv b257, iv (f_ad1 i2 i3 (nM i0) (nS i1) (0 : Int32) (nC0 i4)), iv (1 : Int32), .val (.long (0 : Int64)), .second, .unset, .unset, .unset] [(.int (0 : Int32))]
            refine XS.istore X272.here hx rfl (hb hby at_176) rfl (l' := #[iv i0, iv i1, iv i2, iv i3, .val (.long i4), .second, iv i5, iv (nM i0), iv (nK i1), iv (nB i1), iv (1 : Int32), iv (nC0 i4), iv (nC1 i4), iv (nC2 i5), rv b250, rv b257, iv (f_ad1 i2 i3 (nM i0) (nS i1) (0 : Int32) (nC0 i4)), iv (0 : Int32), .val (.long (0 : Int64)), .second, .unset, .unset, .unset]) rfl ?_
            show Go p e below t T272 m 178 #[iv i0, iv i1, iv i2, iv i3, .val (.long i4), .second, iv i5, iv (nM i0), iv (nK i1), iv (nB i1), iv (1 : Int32), iv (nC0 i4), iv (nC1 i4), iv (nC2 i5), rv b250, rv b257, iv (f_ad1 i2 i3 (nM i0) (nS i1) (0 : Int32) (nC0 i4)), iv (0 : Int32), .val (.long (0 : Int64)), .second, .unset, .unset, .unset] []
            exact k)
          have e275_0 : (own_all (1 : Int32) (nC0 i4) (nM i0)) = (0 : Int32) := by first | exact if_pos h277 | (unfold own_all; first | (rw [if_pos h277]; done) | (simp [h277]; done) | (rw [if_pos h277]; decide))
          rw [e275_0]; exact g278
        · skip
          have g279 : Goes p e below S0 (T272.setTop (mkF m 178 #[iv i0, iv i1, iv i2, iv i3, .val (.long i4), .second, iv i5, iv (nM i0), iv (nK i1), iv (nB i1), iv (1 : Int32), iv (nC0 i4), iv (nC1 i4), iv (nC2 i5), rv b250, rv b257, iv (f_ad1 i2 i3 (nM i0) (nS i1) (0 : Int32) (nC0 i4)), iv (1 : Int32), .val (.long (0 : Int64)), .second, .unset, .unset, .unset] [])) := fun t k => g276 t (by
            refine XS.icmpYes X272.here hx rfl (pc0 := 172) (pc' := 178) rfl (hb hby at_172) rfl (XT.ii_ge_t h277) (by decide) (by decide) ?_
            show Go p e below t T272 m 178 #[iv i0, iv i1, iv i2, iv i3, .val (.long i4), .second, iv i5, iv (nM i0), iv (nK i1), iv (nB i1), iv (1 : Int32), iv (nC0 i4), iv (nC1 i4), iv (nC2 i5), rv b250, rv b257, iv (f_ad1 i2 i3 (nM i0) (nS i1) (0 : Int32) (nC0 i4)), iv (1 : Int32), .val (.long (0 : Int64)), .second, .unset, .unset, .unset] []
            exact k)
          have e275_0 : (own_all (1 : Int32) (nC0 i4) (nM i0)) = (1 : Int32) := by first | exact if_neg h277 | (unfold own_all; first | (rw [if_neg h277]; done) | (simp [h277]; done) | (rw [if_neg h277]; decide))
          rw [e275_0]; exact g279
      have g280 : Goes p e below S0 (T272.setTop (mkF m 248 #[iv i0, iv i1, iv i2, iv i3, .val (.long i4), .second, iv i5, iv (nM i0), iv (nK i1), iv (nB i1), iv (1 : Int32), iv (nC0 i4), iv (nC1 i4), iv (nC2 i5), rv b250, rv b257, iv (f_ad1 i2 i3 (nM i0) (nS i1) (0 : Int32) (nC0 i4)), iv (own_all (1 : Int32) (nC0 i4) (nM i0)), .val (.long ((0 : Int64) + ((nC0 i4).toInt64))), .second, .val (.long ((i3).toInt64)), .second, .unset] [])) := fun t k => gf275 t (by
        refine XS.lload X272.here hx rfl (hb hby at_178) rfl ?_
        show Go p e below t T272 m 180 #[iv i0, iv i1, iv i2, iv i3, .val (.long i4), .second, iv i5, iv (nM i0), iv (nK i1), iv (nB i1), iv (1 : Int32), iv (nC0 i4), iv (nC1 i4), iv (nC2 i5), rv b250, rv b257, iv (f_ad1 i2 i3 (nM i0) (nS i1) (0 : Int32) (nC0 i4)), iv (own_all (1 : Int32) (nC0 i4) (nM i0)), .val (.long (0 : Int64)), .second, .unset, .unset, .unset] [(.long (0 : Int64))]
        refine XS.iload X272.here hx rfl (hb hby at_180) rfl ?_
        show Go p e below t T272 m 182 #[iv i0, iv i1, iv i2, iv i3, .val (.long i4), .second, iv i5, iv (nM i0), iv (nK i1), iv (nB i1), iv (1 : Int32), iv (nC0 i4), iv (nC1 i4), iv (nC2 i5), rv b250, rv b257, iv (f_ad1 i2 i3 (nM i0) (nS i1) (0 : Int32) (nC0 i4)), iv (own_all (1 : Int32) (nC0 i4) (nM i0)), .val (.long (0 : Int64)), .second, .unset, .unset, .unset] [(.int (nC0 i4)), (.long (0 : Int64))]
        refine XS.i2l X272.here hx rfl (hb hby at_182) rfl ?_
        show Go p e below t T272 m 183 #[iv i0, iv i1, iv i2, iv i3, .val (.long i4), .second, iv i5, iv (nM i0), iv (nK i1), iv (nB i1), iv (1 : Int32), iv (nC0 i4), iv (nC1 i4), iv (nC2 i5), rv b250, rv b257, iv (f_ad1 i2 i3 (nM i0) (nS i1) (0 : Int32) (nC0 i4)), iv (own_all (1 : Int32) (nC0 i4) (nM i0)), .val (.long (0 : Int64)), .second, .unset, .unset, .unset] [(.long ((nC0 i4).toInt64)), (.long (0 : Int64))]
        refine XS.ladd X272.here hx rfl (hb hby at_183) rfl ?_
        show Go p e below t T272 m 184 #[iv i0, iv i1, iv i2, iv i3, .val (.long i4), .second, iv i5, iv (nM i0), iv (nK i1), iv (nB i1), iv (1 : Int32), iv (nC0 i4), iv (nC1 i4), iv (nC2 i5), rv b250, rv b257, iv (f_ad1 i2 i3 (nM i0) (nS i1) (0 : Int32) (nC0 i4)), iv (own_all (1 : Int32) (nC0 i4) (nM i0)), .val (.long (0 : Int64)), .second, .unset, .unset, .unset] [(.long ((0 : Int64) + ((nC0 i4).toInt64)))]
        refine XS.lstore X272.here hx rfl (hb hby at_184) rfl (l' := #[iv i0, iv i1, iv i2, iv i3, .val (.long i4), .second, iv i5, iv (nM i0), iv (nK i1), iv (nB i1), iv (1 : Int32), iv (nC0 i4), iv (nC1 i4), iv (nC2 i5), rv b250, rv b257, iv (f_ad1 i2 i3 (nM i0) (nS i1) (0 : Int32) (nC0 i4)), iv (own_all (1 : Int32) (nC0 i4) (nM i0)), .val (.long ((0 : Int64) + ((nC0 i4).toInt64))), .second, .unset, .unset, .unset]) rfl ?_
        show Go p e below t T272 m 186 #[iv i0, iv i1, iv i2, iv i3, .val (.long i4), .second, iv i5, iv (nM i0), iv (nK i1), iv (nB i1), iv (1 : Int32), iv (nC0 i4), iv (nC1 i4), iv (nC2 i5), rv b250, rv b257, iv (f_ad1 i2 i3 (nM i0) (nS i1) (0 : Int32) (nC0 i4)), iv (own_all (1 : Int32) (nC0 i4) (nM i0)), .val (.long ((0 : Int64) + ((nC0 i4).toInt64))), .second, .unset, .unset, .unset] []
        refine XS.iload X272.here hx rfl (hb hby at_186) rfl ?_
        show Go p e below t T272 m 188 #[iv i0, iv i1, iv i2, iv i3, .val (.long i4), .second, iv i5, iv (nM i0), iv (nK i1), iv (nB i1), iv (1 : Int32), iv (nC0 i4), iv (nC1 i4), iv (nC2 i5), rv b250, rv b257, iv (f_ad1 i2 i3 (nM i0) (nS i1) (0 : Int32) (nC0 i4)), iv (own_all (1 : Int32) (nC0 i4) (nM i0)), .val (.long ((0 : Int64) + ((nC0 i4).toInt64))), .second, .unset, .unset, .unset] [(.int (1 : Int32))]
        refine XT.iconstV X272.here hx rfl (2 : Int32) (hb hby at_188) (by decide) ?_
        show Go p e below t T272 m 189 #[iv i0, iv i1, iv i2, iv i3, .val (.long i4), .second, iv i5, iv (nM i0), iv (nK i1), iv (nB i1), iv (1 : Int32), iv (nC0 i4), iv (nC1 i4), iv (nC2 i5), rv b250, rv b257, iv (f_ad1 i2 i3 (nM i0) (nS i1) (0 : Int32) (nC0 i4)), iv (own_all (1 : Int32) (nC0 i4) (nM i0)), .val (.long ((0 : Int64) + ((nC0 i4).toInt64))), .second, .unset, .unset, .unset] [(.int (2 : Int32)), (.int (1 : Int32))]
        refine XS.icmpYes X272.here hx rfl (pc0 := 189) (pc' := 210) rfl (hb hby at_189) rfl (XT.ii_lt_t (by decide)) (by decide) (by decide) ?_
        show Go p e below t T272 m 210 #[iv i0, iv i1, iv i2, iv i3, .val (.long i4), .second, iv i5, iv (nM i0), iv (nK i1), iv (nB i1), iv (1 : Int32), iv (nC0 i4), iv (nC1 i4), iv (nC2 i5), rv b250, rv b257, iv (f_ad1 i2 i3 (nM i0) (nS i1) (0 : Int32) (nC0 i4)), iv (own_all (1 : Int32) (nC0 i4) (nM i0)), .val (.long ((0 : Int64) + ((nC0 i4).toInt64))), .second, .unset, .unset, .unset] []
        refine XS.iload X272.here hx rfl (hb hby at_210) rfl ?_
        show Go p e below t T272 m 212 #[iv i0, iv i1, iv i2, iv i3, .val (.long i4), .second, iv i5, iv (nM i0), iv (nK i1), iv (nB i1), iv (1 : Int32), iv (nC0 i4), iv (nC1 i4), iv (nC2 i5), rv b250, rv b257, iv (f_ad1 i2 i3 (nM i0) (nS i1) (0 : Int32) (nC0 i4)), iv (own_all (1 : Int32) (nC0 i4) (nM i0)), .val (.long ((0 : Int64) + ((nC0 i4).toInt64))), .second, .unset, .unset, .unset] [(.int (1 : Int32))]
        refine XT.iconstV X272.here hx rfl (3 : Int32) (hb hby at_212) (by decide) ?_
        show Go p e below t T272 m 213 #[iv i0, iv i1, iv i2, iv i3, .val (.long i4), .second, iv i5, iv (nM i0), iv (nK i1), iv (nB i1), iv (1 : Int32), iv (nC0 i4), iv (nC1 i4), iv (nC2 i5), rv b250, rv b257, iv (f_ad1 i2 i3 (nM i0) (nS i1) (0 : Int32) (nC0 i4)), iv (own_all (1 : Int32) (nC0 i4) (nM i0)), .val (.long ((0 : Int64) + ((nC0 i4).toInt64))), .second, .unset, .unset, .unset] [(.int (3 : Int32)), (.int (1 : Int32))]
        refine XS.icmpYes X272.here hx rfl (pc0 := 213) (pc' := 234) rfl (hb hby at_213) rfl (XT.ii_lt_t (by decide)) (by decide) (by decide) ?_
        show Go p e below t T272 m 234 #[iv i0, iv i1, iv i2, iv i3, .val (.long i4), .second, iv i5, iv (nM i0), iv (nK i1), iv (nB i1), iv (1 : Int32), iv (nC0 i4), iv (nC1 i4), iv (nC2 i5), rv b250, rv b257, iv (f_ad1 i2 i3 (nM i0) (nS i1) (0 : Int32) (nC0 i4)), iv (own_all (1 : Int32) (nC0 i4) (nM i0)), .val (.long ((0 : Int64) + ((nC0 i4).toInt64))), .second, .unset, .unset, .unset] []
        refine XS.iload X272.here hx rfl (hb hby at_234) rfl ?_
        show Go p e below t T272 m 236 #[iv i0, iv i1, iv i2, iv i3, .val (.long i4), .second, iv i5, iv (nM i0), iv (nK i1), iv (nB i1), iv (1 : Int32), iv (nC0 i4), iv (nC1 i4), iv (nC2 i5), rv b250, rv b257, iv (f_ad1 i2 i3 (nM i0) (nS i1) (0 : Int32) (nC0 i4)), iv (own_all (1 : Int32) (nC0 i4) (nM i0)), .val (.long ((0 : Int64) + ((nC0 i4).toInt64))), .second, .unset, .unset, .unset] [(.int (nB i1))]
        refine XS.ifYes X272.here hx rfl (pc0 := 236) (pc' := 244) rfl (hb hby at_236) rfl (XT.i0_eq_t h270) (by decide) (by decide) ?_
        show Go p e below t T272 m 244 #[iv i0, iv i1, iv i2, iv i3, .val (.long i4), .second, iv i5, iv (nM i0), iv (nK i1), iv (nB i1), iv (1 : Int32), iv (nC0 i4), iv (nC1 i4), iv (nC2 i5), rv b250, rv b257, iv (f_ad1 i2 i3 (nM i0) (nS i1) (0 : Int32) (nC0 i4)), iv (own_all (1 : Int32) (nC0 i4) (nM i0)), .val (.long ((0 : Int64) + ((nC0 i4).toInt64))), .second, .unset, .unset, .unset] []
        refine XS.iloadN X272.here hx rfl (hb hby at_244) rfl ?_
        show Go p e below t T272 m 245 #[iv i0, iv i1, iv i2, iv i3, .val (.long i4), .second, iv i5, iv (nM i0), iv (nK i1), iv (nB i1), iv (1 : Int32), iv (nC0 i4), iv (nC1 i4), iv (nC2 i5), rv b250, rv b257, iv (f_ad1 i2 i3 (nM i0) (nS i1) (0 : Int32) (nC0 i4)), iv (own_all (1 : Int32) (nC0 i4) (nM i0)), .val (.long ((0 : Int64) + ((nC0 i4).toInt64))), .second, .unset, .unset, .unset] [(.int i3)]
        refine XS.i2l X272.here hx rfl (hb hby at_245) rfl ?_
        show Go p e below t T272 m 246 #[iv i0, iv i1, iv i2, iv i3, .val (.long i4), .second, iv i5, iv (nM i0), iv (nK i1), iv (nB i1), iv (1 : Int32), iv (nC0 i4), iv (nC1 i4), iv (nC2 i5), rv b250, rv b257, iv (f_ad1 i2 i3 (nM i0) (nS i1) (0 : Int32) (nC0 i4)), iv (own_all (1 : Int32) (nC0 i4) (nM i0)), .val (.long ((0 : Int64) + ((nC0 i4).toInt64))), .second, .unset, .unset, .unset] [(.long ((i3).toInt64))]
        refine XS.lstore X272.here hx rfl (hb hby at_246) rfl (l' := #[iv i0, iv i1, iv i2, iv i3, .val (.long i4), .second, iv i5, iv (nM i0), iv (nK i1), iv (nB i1), iv (1 : Int32), iv (nC0 i4), iv (nC1 i4), iv (nC2 i5), rv b250, rv b257, iv (f_ad1 i2 i3 (nM i0) (nS i1) (0 : Int32) (nC0 i4)), iv (own_all (1 : Int32) (nC0 i4) (nM i0)), .val (.long ((0 : Int64) + ((nC0 i4).toInt64))), .second, .val (.long ((i3).toInt64)), .second, .unset]) rfl ?_
        show Go p e below t T272 m 248 #[iv i0, iv i1, iv i2, iv i3, .val (.long i4), .second, iv i5, iv (nM i0), iv (nK i1), iv (nB i1), iv (1 : Int32), iv (nC0 i4), iv (nC1 i4), iv (nC2 i5), rv b250, rv b257, iv (f_ad1 i2 i3 (nM i0) (nS i1) (0 : Int32) (nC0 i4)), iv (own_all (1 : Int32) (nC0 i4) (nM i0)), .val (.long ((0 : Int64) + ((nC0 i4).toInt64))), .second, .val (.long ((i3).toInt64)), .second, .unset] []
        exact k)
      have gf281 : Goes p e below S0 (T272.setTop (mkF m 274 #[iv i0, iv i1, iv i2, iv i3, .val (.long i4), .second, iv i5, iv (nM i0), iv (nK i1), iv (nB i1), iv (1 : Int32), iv (nC0 i4), iv (nC1 i4), iv (nC2 i5), rv b250, rv b257, iv (f_ad1 i2 i3 (nM i0) (nS i1) (0 : Int32) (nC0 i4)), iv (own_all (1 : Int32) (nC0 i4) (nM i0)), .val (.long ((0 : Int64) + ((nC0 i4).toInt64))), .second, .val (.long ((i3).toInt64)), .second, .unset] [(.int (own_fin (own_all (1 : Int32) (nC0 i4) (nM i0)) ((0 : Int64) + ((nC0 i4).toInt64)) (nK i1) ((i3).toInt64)))])) := by
        have g282 : Goes p e below S0 (T272.setTop (mkF m 250 #[iv i0, iv i1, iv i2, iv i3, .val (.long i4), .second, iv i5, iv (nM i0), iv (nK i1), iv (nB i1), iv (1 : Int32), iv (nC0 i4), iv (nC1 i4), iv (nC2 i5), rv b250, rv b257, iv (f_ad1 i2 i3 (nM i0) (nS i1) (0 : Int32) (nC0 i4)), iv (own_all (1 : Int32) (nC0 i4) (nM i0)), .val (.long ((0 : Int64) + ((nC0 i4).toInt64))), .second, .val (.long ((i3).toInt64)), .second, .unset] [(.int (own_all (1 : Int32) (nC0 i4) (nM i0)))])) := fun t k => g280 t (by
          refine XS.iload X272.here hx rfl (hb hby at_248) rfl ?_
          show Go p e below t T272 m 250 #[iv i0, iv i1, iv i2, iv i3, .val (.long i4), .second, iv i5, iv (nM i0), iv (nK i1), iv (nB i1), iv (1 : Int32), iv (nC0 i4), iv (nC1 i4), iv (nC2 i5), rv b250, rv b257, iv (f_ad1 i2 i3 (nM i0) (nS i1) (0 : Int32) (nC0 i4)), iv (own_all (1 : Int32) (nC0 i4) (nM i0)), .val (.long ((0 : Int64) + ((nC0 i4).toInt64))), .second, .val (.long ((i3).toInt64)), .second, .unset] [(.int (own_all (1 : Int32) (nC0 i4) (nM i0)))]
          exact k)
        by_cases h283 : (own_all (1 : Int32) (nC0 i4) (nM i0)) = 0
        · skip
          have g284 : Goes p e below S0 (T272.setTop (mkF m 274 #[iv i0, iv i1, iv i2, iv i3, .val (.long i4), .second, iv i5, iv (nM i0), iv (nK i1), iv (nB i1), iv (1 : Int32), iv (nC0 i4), iv (nC1 i4), iv (nC2 i5), rv b250, rv b257, iv (f_ad1 i2 i3 (nM i0) (nS i1) (0 : Int32) (nC0 i4)), iv (own_all (1 : Int32) (nC0 i4) (nM i0)), .val (.long ((0 : Int64) + ((nC0 i4).toInt64))), .second, .val (.long ((i3).toInt64)), .second, .unset] [(.int (0 : Int32))])) := fun t k => g282 t (by
            refine XS.ifYes X272.here hx rfl (pc0 := 250) (pc' := 273) rfl (hb hby at_250) rfl (XT.i0_eq_t h283) (by decide) (by decide) ?_
            show Go p e below t T272 m 273 #[iv i0, iv i1, iv i2, iv i3, .val (.long i4), .second, iv i5, iv (nM i0), iv (nK i1), iv (nB i1), iv (1 : Int32), iv (nC0 i4), iv (nC1 i4), iv (nC2 i5), rv b250, rv b257, iv (f_ad1 i2 i3 (nM i0) (nS i1) (0 : Int32) (nC0 i4)), iv (own_all (1 : Int32) (nC0 i4) (nM i0)), .val (.long ((0 : Int64) + ((nC0 i4).toInt64))), .second, .val (.long ((i3).toInt64)), .second, .unset] []
            refine XT.iconstV X272.here hx rfl (0 : Int32) (hb hby at_273) (by decide) ?_
            show Go p e below t T272 m 274 #[iv i0, iv i1, iv i2, iv i3, .val (.long i4), .second, iv i5, iv (nM i0), iv (nK i1), iv (nB i1), iv (1 : Int32), iv (nC0 i4), iv (nC1 i4), iv (nC2 i5), rv b250, rv b257, iv (f_ad1 i2 i3 (nM i0) (nS i1) (0 : Int32) (nC0 i4)), iv (own_all (1 : Int32) (nC0 i4) (nM i0)), .val (.long ((0 : Int64) + ((nC0 i4).toInt64))), .second, .val (.long ((i3).toInt64)), .second, .unset] [(.int (0 : Int32))]
            exact k)
          have e281_0 : (own_fin (own_all (1 : Int32) (nC0 i4) (nM i0)) ((0 : Int64) + ((nC0 i4).toInt64)) (nK i1) ((i3).toInt64)) = (0 : Int32) := by first | exact if_pos h283 | (unfold own_fin; first | (rw [if_pos h283]; done) | (simp [h283]; done) | (rw [if_pos h283]; decide))
          rw [e281_0]; exact g284
        · skip
          have g285 : Goes p e below S0 (T272.setTop (mkF m 266 #[iv i0, iv i1, iv i2, iv i3, .val (.long i4), .second, iv i5, iv (nM i0), iv (nK i1), iv (nB i1), iv (1 : Int32), iv (nC0 i4), iv (nC1 i4), iv (nC2 i5), rv b250, rv b257, iv (f_ad1 i2 i3 (nM i0) (nS i1) (0 : Int32) (nC0 i4)), iv (own_all (1 : Int32) (nC0 i4) (nM i0)), .val (.long ((0 : Int64) + ((nC0 i4).toInt64))), .second, .val (.long ((i3).toInt64)), .second, .unset] [(.int (lcmpW ((8 : Int64) * ((0 : Int64) + ((nC0 i4).toInt64))) (((nK i1).toInt64) * ((i3).toInt64))))])) := fun t k => g282 t (by
            refine XS.ifNo X272.here hx rfl (hb hby at_250) rfl (XT.i0_eq_f h283) ?_
            show Go p e below t T272 m 253 #[iv i0, iv i1, iv i2, iv i3, .val (.long i4), .second, iv i5, iv (nM i0), iv (nK i1), iv (nB i1), iv (1 : Int32), iv (nC0 i4), iv (nC1 i4), iv (nC2 i5), rv b250, rv b257, iv (f_ad1 i2 i3 (nM i0) (nS i1) (0 : Int32) (nC0 i4)), iv (own_all (1 : Int32) (nC0 i4) (nM i0)), .val (.long ((0 : Int64) + ((nC0 i4).toInt64))), .second, .val (.long ((i3).toInt64)), .second, .unset] []
            refine Jvm.Stand.ldc2J X272 hx hown (mvT hZ (hw _ (List.mem_of_getElem? (i := 44) rfl))) (g := (mkF m 253 #[iv i0, iv i1, iv i2, iv i3, .val (.long i4), .second, iv i5, iv (nM i0), iv (nK i1), iv (nB i1), iv (1 : Int32), iv (nC0 i4), iv (nC1 i4), iv (nC2 i5), rv b250, rv b257, iv (f_ad1 i2 i3 (nM i0) (nS i1) (0 : Int32) (nC0 i4)), iv (own_all (1 : Int32) (nC0 i4) (nM i0)), .val (.long ((0 : Int64) + ((nC0 i4).toInt64))), .second, .val (.long ((i3).toInt64)), .second, .unset] [])) rfl (hb hby at_253) ?_
            show Go p e below t T272 m 256 #[iv i0, iv i1, iv i2, iv i3, .val (.long i4), .second, iv i5, iv (nM i0), iv (nK i1), iv (nB i1), iv (1 : Int32), iv (nC0 i4), iv (nC1 i4), iv (nC2 i5), rv b250, rv b257, iv (f_ad1 i2 i3 (nM i0) (nS i1) (0 : Int32) (nC0 i4)), iv (own_all (1 : Int32) (nC0 i4) (nM i0)), .val (.long ((0 : Int64) + ((nC0 i4).toInt64))), .second, .val (.long ((i3).toInt64)), .second, .unset] [(.long (8 : Int64))]
            refine XS.lload X272.here hx rfl (hb hby at_256) rfl ?_
            show Go p e below t T272 m 258 #[iv i0, iv i1, iv i2, iv i3, .val (.long i4), .second, iv i5, iv (nM i0), iv (nK i1), iv (nB i1), iv (1 : Int32), iv (nC0 i4), iv (nC1 i4), iv (nC2 i5), rv b250, rv b257, iv (f_ad1 i2 i3 (nM i0) (nS i1) (0 : Int32) (nC0 i4)), iv (own_all (1 : Int32) (nC0 i4) (nM i0)), .val (.long ((0 : Int64) + ((nC0 i4).toInt64))), .second, .val (.long ((i3).toInt64)), .second, .unset] [(.long ((0 : Int64) + ((nC0 i4).toInt64))), (.long (8 : Int64))]
            refine XS.lmul X272.here hx rfl (hb hby at_258) rfl ?_
            show Go p e below t T272 m 259 #[iv i0, iv i1, iv i2, iv i3, .val (.long i4), .second, iv i5, iv (nM i0), iv (nK i1), iv (nB i1), iv (1 : Int32), iv (nC0 i4), iv (nC1 i4), iv (nC2 i5), rv b250, rv b257, iv (f_ad1 i2 i3 (nM i0) (nS i1) (0 : Int32) (nC0 i4)), iv (own_all (1 : Int32) (nC0 i4) (nM i0)), .val (.long ((0 : Int64) + ((nC0 i4).toInt64))), .second, .val (.long ((i3).toInt64)), .second, .unset] [(.long ((8 : Int64) * ((0 : Int64) + ((nC0 i4).toInt64))))]
            refine XS.iload X272.here hx rfl (hb hby at_259) rfl ?_
            show Go p e below t T272 m 261 #[iv i0, iv i1, iv i2, iv i3, .val (.long i4), .second, iv i5, iv (nM i0), iv (nK i1), iv (nB i1), iv (1 : Int32), iv (nC0 i4), iv (nC1 i4), iv (nC2 i5), rv b250, rv b257, iv (f_ad1 i2 i3 (nM i0) (nS i1) (0 : Int32) (nC0 i4)), iv (own_all (1 : Int32) (nC0 i4) (nM i0)), .val (.long ((0 : Int64) + ((nC0 i4).toInt64))), .second, .val (.long ((i3).toInt64)), .second, .unset] [(.int (nK i1)), (.long ((8 : Int64) * ((0 : Int64) + ((nC0 i4).toInt64))))]
            refine XS.i2l X272.here hx rfl (hb hby at_261) rfl ?_
            show Go p e below t T272 m 262 #[iv i0, iv i1, iv i2, iv i3, .val (.long i4), .second, iv i5, iv (nM i0), iv (nK i1), iv (nB i1), iv (1 : Int32), iv (nC0 i4), iv (nC1 i4), iv (nC2 i5), rv b250, rv b257, iv (f_ad1 i2 i3 (nM i0) (nS i1) (0 : Int32) (nC0 i4)), iv (own_all (1 : Int32) (nC0 i4) (nM i0)), .val (.long ((0 : Int64) + ((nC0 i4).toInt64))), .second, .val (.long ((i3).toInt64)), .second, .unset] [(.long ((nK i1).toInt64)), (.long ((8 : Int64) * ((0 : Int64) + ((nC0 i4).toInt64))))]
            refine XS.lload X272.here hx rfl (hb hby at_262) rfl ?_
            show Go p e below t T272 m 264 #[iv i0, iv i1, iv i2, iv i3, .val (.long i4), .second, iv i5, iv (nM i0), iv (nK i1), iv (nB i1), iv (1 : Int32), iv (nC0 i4), iv (nC1 i4), iv (nC2 i5), rv b250, rv b257, iv (f_ad1 i2 i3 (nM i0) (nS i1) (0 : Int32) (nC0 i4)), iv (own_all (1 : Int32) (nC0 i4) (nM i0)), .val (.long ((0 : Int64) + ((nC0 i4).toInt64))), .second, .val (.long ((i3).toInt64)), .second, .unset] [(.long ((i3).toInt64)), (.long ((nK i1).toInt64)), (.long ((8 : Int64) * ((0 : Int64) + ((nC0 i4).toInt64))))]
            refine XS.lmul X272.here hx rfl (hb hby at_264) rfl ?_
            show Go p e below t T272 m 265 #[iv i0, iv i1, iv i2, iv i3, .val (.long i4), .second, iv i5, iv (nM i0), iv (nK i1), iv (nB i1), iv (1 : Int32), iv (nC0 i4), iv (nC1 i4), iv (nC2 i5), rv b250, rv b257, iv (f_ad1 i2 i3 (nM i0) (nS i1) (0 : Int32) (nC0 i4)), iv (own_all (1 : Int32) (nC0 i4) (nM i0)), .val (.long ((0 : Int64) + ((nC0 i4).toInt64))), .second, .val (.long ((i3).toInt64)), .second, .unset] [(.long (((nK i1).toInt64) * ((i3).toInt64))), (.long ((8 : Int64) * ((0 : Int64) + ((nC0 i4).toInt64))))]
            refine XS.lcmp X272.here hx rfl (hb hby at_265) rfl ?_
            show Go p e below t T272 m 266 #[iv i0, iv i1, iv i2, iv i3, .val (.long i4), .second, iv i5, iv (nM i0), iv (nK i1), iv (nB i1), iv (1 : Int32), iv (nC0 i4), iv (nC1 i4), iv (nC2 i5), rv b250, rv b257, iv (f_ad1 i2 i3 (nM i0) (nS i1) (0 : Int32) (nC0 i4)), iv (own_all (1 : Int32) (nC0 i4) (nM i0)), .val (.long ((0 : Int64) + ((nC0 i4).toInt64))), .second, .val (.long ((i3).toInt64)), .second, .unset] [(.int (lcmpW ((8 : Int64) * ((0 : Int64) + ((nC0 i4).toInt64))) (((nK i1).toInt64) * ((i3).toInt64))))]
            exact k)
          by_cases h286 : ((8 : Int64) * ((0 : Int64) + ((nC0 i4).toInt64))) < (((nK i1).toInt64) * ((i3).toInt64))
          · skip
            have g287 : Goes p e below S0 (T272.setTop (mkF m 274 #[iv i0, iv i1, iv i2, iv i3, .val (.long i4), .second, iv i5, iv (nM i0), iv (nK i1), iv (nB i1), iv (1 : Int32), iv (nC0 i4), iv (nC1 i4), iv (nC2 i5), rv b250, rv b257, iv (f_ad1 i2 i3 (nM i0) (nS i1) (0 : Int32) (nC0 i4)), iv (own_all (1 : Int32) (nC0 i4) (nM i0)), .val (.long ((0 : Int64) + ((nC0 i4).toInt64))), .second, .val (.long ((i3).toInt64)), .second, .unset] [(.int (0 : Int32))])) := fun t k => g285 t (by
              refine XS.ifYes X272.here hx rfl (pc0 := 266) (pc' := 273) rfl (hb hby at_266) rfl (XT.ll_lt_t h286) (by decide) (by decide) ?_
              show Go p e below t T272 m 273 #[iv i0, iv i1, iv i2, iv i3, .val (.long i4), .second, iv i5, iv (nM i0), iv (nK i1), iv (nB i1), iv (1 : Int32), iv (nC0 i4), iv (nC1 i4), iv (nC2 i5), rv b250, rv b257, iv (f_ad1 i2 i3 (nM i0) (nS i1) (0 : Int32) (nC0 i4)), iv (own_all (1 : Int32) (nC0 i4) (nM i0)), .val (.long ((0 : Int64) + ((nC0 i4).toInt64))), .second, .val (.long ((i3).toInt64)), .second, .unset] []
              refine XT.iconstV X272.here hx rfl (0 : Int32) (hb hby at_273) (by decide) ?_
              show Go p e below t T272 m 274 #[iv i0, iv i1, iv i2, iv i3, .val (.long i4), .second, iv i5, iv (nM i0), iv (nK i1), iv (nB i1), iv (1 : Int32), iv (nC0 i4), iv (nC1 i4), iv (nC2 i5), rv b250, rv b257, iv (f_ad1 i2 i3 (nM i0) (nS i1) (0 : Int32) (nC0 i4)), iv (own_all (1 : Int32) (nC0 i4) (nM i0)), .val (.long ((0 : Int64) + ((nC0 i4).toInt64))), .second, .val (.long ((i3).toInt64)), .second, .unset] [(.int (0 : Int32))]
              exact k)
            have e281_0 : (own_fin (own_all (1 : Int32) (nC0 i4) (nM i0)) ((0 : Int64) + ((nC0 i4).toInt64)) (nK i1) ((i3).toInt64)) = (0 : Int32) := by first | exact (if_neg h283).trans (if_pos h286) | (unfold own_fin; first | (rw [if_neg h283, if_pos h286]; done) | (simp [h283, h286]; done) | (rw [if_neg h283, if_pos h286]; decide))
            rw [e281_0]; exact g287
          · skip
            have g288 : Goes p e below S0 (T272.setTop (mkF m 274 #[iv i0, iv i1, iv i2, iv i3, .val (.long i4), .second, iv i5, iv (nM i0), iv (nK i1), iv (nB i1), iv (1 : Int32), iv (nC0 i4), iv (nC1 i4), iv (nC2 i5), rv b250, rv b257, iv (f_ad1 i2 i3 (nM i0) (nS i1) (0 : Int32) (nC0 i4)), iv (own_all (1 : Int32) (nC0 i4) (nM i0)), .val (.long ((0 : Int64) + ((nC0 i4).toInt64))), .second, .val (.long ((i3).toInt64)), .second, .unset] [(.int (1 : Int32))])) := fun t k => g285 t (by
              refine XS.ifNo X272.here hx rfl (hb hby at_266) rfl (XT.ll_lt_f h286) ?_
              show Go p e below t T272 m 269 #[iv i0, iv i1, iv i2, iv i3, .val (.long i4), .second, iv i5, iv (nM i0), iv (nK i1), iv (nB i1), iv (1 : Int32), iv (nC0 i4), iv (nC1 i4), iv (nC2 i5), rv b250, rv b257, iv (f_ad1 i2 i3 (nM i0) (nS i1) (0 : Int32) (nC0 i4)), iv (own_all (1 : Int32) (nC0 i4) (nM i0)), .val (.long ((0 : Int64) + ((nC0 i4).toInt64))), .second, .val (.long ((i3).toInt64)), .second, .unset] []
              refine XT.iconstV X272.here hx rfl (1 : Int32) (hb hby at_269) (by decide) ?_
              show Go p e below t T272 m 270 #[iv i0, iv i1, iv i2, iv i3, .val (.long i4), .second, iv i5, iv (nM i0), iv (nK i1), iv (nB i1), iv (1 : Int32), iv (nC0 i4), iv (nC1 i4), iv (nC2 i5), rv b250, rv b257, iv (f_ad1 i2 i3 (nM i0) (nS i1) (0 : Int32) (nC0 i4)), iv (own_all (1 : Int32) (nC0 i4) (nM i0)), .val (.long ((0 : Int64) + ((nC0 i4).toInt64))), .second, .val (.long ((i3).toInt64)), .second, .unset] [(.int (1 : Int32))]
              refine XS.goto X272.here hx rfl (pc0 := 270) (pc' := 274) rfl (hb hby at_270) (by decide) (by decide) ?_
              show Go p e below t T272 m 274 #[iv i0, iv i1, iv i2, iv i3, .val (.long i4), .second, iv i5, iv (nM i0), iv (nK i1), iv (nB i1), iv (1 : Int32), iv (nC0 i4), iv (nC1 i4), iv (nC2 i5), rv b250, rv b257, iv (f_ad1 i2 i3 (nM i0) (nS i1) (0 : Int32) (nC0 i4)), iv (own_all (1 : Int32) (nC0 i4) (nM i0)), .val (.long ((0 : Int64) + ((nC0 i4).toInt64))), .second, .val (.long ((i3).toInt64)), .second, .unset] [(.int (1 : Int32))]
              exact k)
            have e281_0 : (own_fin (own_all (1 : Int32) (nC0 i4) (nM i0)) ((0 : Int64) + ((nC0 i4).toInt64)) (nK i1) ((i3).toInt64)) = (1 : Int32) := by first | exact (if_neg h283).trans (if_neg h286) | (unfold own_fin; first | (rw [if_neg h283, if_neg h286]; done) | (simp [h283, h286]; done) | (rw [if_neg h283, if_neg h286]; decide))
            rw [e281_0]; exact g288
      have g289 : Goes p e below S0 (T272.setTop (mkF m 288 #[iv i0, iv i1, iv i2, iv i3, .val (.long i4), .second, iv i5, iv (nM i0), iv (nK i1), iv (nB i1), iv (1 : Int32), iv (nC0 i4), iv (nC1 i4), iv (nC2 i5), rv b250, rv b257, iv (f_ad1 i2 i3 (nM i0) (nS i1) (0 : Int32) (nC0 i4)), iv (own_all (1 : Int32) (nC0 i4) (nM i0)), .val (.long ((0 : Int64) + ((nC0 i4).toInt64))), .second, .val (.long ((i3).toInt64)), .second, iv (own_fin (own_all (1 : Int32) (nC0 i4) (nM i0)) ((0 : Int64) + ((nC0 i4).toInt64)) (nK i1) ((i3).toInt64))] [(.int (1 : Int32))])) := fun t k => gf281 t (by
        refine XS.istore X272.here hx rfl (hb hby at_274) rfl (l' := #[iv i0, iv i1, iv i2, iv i3, .val (.long i4), .second, iv i5, iv (nM i0), iv (nK i1), iv (nB i1), iv (1 : Int32), iv (nC0 i4), iv (nC1 i4), iv (nC2 i5), rv b250, rv b257, iv (f_ad1 i2 i3 (nM i0) (nS i1) (0 : Int32) (nC0 i4)), iv (own_all (1 : Int32) (nC0 i4) (nM i0)), .val (.long ((0 : Int64) + ((nC0 i4).toInt64))), .second, .val (.long ((i3).toInt64)), .second, iv (own_fin (own_all (1 : Int32) (nC0 i4) (nM i0)) ((0 : Int64) + ((nC0 i4).toInt64)) (nK i1) ((i3).toInt64))]) rfl ?_
        show Go p e below t T272 m 276 #[iv i0, iv i1, iv i2, iv i3, .val (.long i4), .second, iv i5, iv (nM i0), iv (nK i1), iv (nB i1), iv (1 : Int32), iv (nC0 i4), iv (nC1 i4), iv (nC2 i5), rv b250, rv b257, iv (f_ad1 i2 i3 (nM i0) (nS i1) (0 : Int32) (nC0 i4)), iv (own_all (1 : Int32) (nC0 i4) (nM i0)), .val (.long ((0 : Int64) + ((nC0 i4).toInt64))), .second, .val (.long ((i3).toInt64)), .second, iv (own_fin (own_all (1 : Int32) (nC0 i4) (nM i0)) ((0 : Int64) + ((nC0 i4).toInt64)) (nK i1) ((i3).toInt64))] []
        refine XS.iload X272.here hx rfl (hb hby at_276) rfl ?_
        show Go p e below t T272 m 278 #[iv i0, iv i1, iv i2, iv i3, .val (.long i4), .second, iv i5, iv (nM i0), iv (nK i1), iv (nB i1), iv (1 : Int32), iv (nC0 i4), iv (nC1 i4), iv (nC2 i5), rv b250, rv b257, iv (f_ad1 i2 i3 (nM i0) (nS i1) (0 : Int32) (nC0 i4)), iv (own_all (1 : Int32) (nC0 i4) (nM i0)), .val (.long ((0 : Int64) + ((nC0 i4).toInt64))), .second, .val (.long ((i3).toInt64)), .second, iv (own_fin (own_all (1 : Int32) (nC0 i4) (nM i0)) ((0 : Int64) + ((nC0 i4).toInt64)) (nK i1) ((i3).toInt64))] [(.int (f_ad1 i2 i3 (nM i0) (nS i1) (0 : Int32) (nC0 i4)))]
        refine XS.iload X272.here hx rfl (hb hby at_278) rfl ?_
        show Go p e below t T272 m 280 #[iv i0, iv i1, iv i2, iv i3, .val (.long i4), .second, iv i5, iv (nM i0), iv (nK i1), iv (nB i1), iv (1 : Int32), iv (nC0 i4), iv (nC1 i4), iv (nC2 i5), rv b250, rv b257, iv (f_ad1 i2 i3 (nM i0) (nS i1) (0 : Int32) (nC0 i4)), iv (own_all (1 : Int32) (nC0 i4) (nM i0)), .val (.long ((0 : Int64) + ((nC0 i4).toInt64))), .second, .val (.long ((i3).toInt64)), .second, iv (own_fin (own_all (1 : Int32) (nC0 i4) (nM i0)) ((0 : Int64) + ((nC0 i4).toInt64)) (nK i1) ((i3).toInt64))] [(.int (own_fin (own_all (1 : Int32) (nC0 i4) (nM i0)) ((0 : Int64) + ((nC0 i4).toInt64)) (nK i1) ((i3).toInt64))), (.int (f_ad1 i2 i3 (nM i0) (nS i1) (0 : Int32) (nC0 i4)))]
        refine XS.icmpNo X272.here hx rfl (hb hby at_280) rfl (XT.ii_ne_f (own_fin1t i0 i1 i2 i3 i4 i5)) ?_
        show Go p e below t T272 m 283 #[iv i0, iv i1, iv i2, iv i3, .val (.long i4), .second, iv i5, iv (nM i0), iv (nK i1), iv (nB i1), iv (1 : Int32), iv (nC0 i4), iv (nC1 i4), iv (nC2 i5), rv b250, rv b257, iv (f_ad1 i2 i3 (nM i0) (nS i1) (0 : Int32) (nC0 i4)), iv (own_all (1 : Int32) (nC0 i4) (nM i0)), .val (.long ((0 : Int64) + ((nC0 i4).toInt64))), .second, .val (.long ((i3).toInt64)), .second, iv (own_fin (own_all (1 : Int32) (nC0 i4) (nM i0)) ((0 : Int64) + ((nC0 i4).toInt64)) (nK i1) ((i3).toInt64))] []
        refine XT.iconstV X272.here hx rfl (1 : Int32) (hb hby at_283) (by decide) ?_
        show Go p e below t T272 m 284 #[iv i0, iv i1, iv i2, iv i3, .val (.long i4), .second, iv i5, iv (nM i0), iv (nK i1), iv (nB i1), iv (1 : Int32), iv (nC0 i4), iv (nC1 i4), iv (nC2 i5), rv b250, rv b257, iv (f_ad1 i2 i3 (nM i0) (nS i1) (0 : Int32) (nC0 i4)), iv (own_all (1 : Int32) (nC0 i4) (nM i0)), .val (.long ((0 : Int64) + ((nC0 i4).toInt64))), .second, .val (.long ((i3).toInt64)), .second, iv (own_fin (own_all (1 : Int32) (nC0 i4) (nM i0)) ((0 : Int64) + ((nC0 i4).toInt64)) (nK i1) ((i3).toInt64))] [(.int (1 : Int32))]
        refine XS.goto X272.here hx rfl (pc0 := 284) (pc' := 288) rfl (hb hby at_284) (by decide) (by decide) ?_
        show Go p e below t T272 m 288 #[iv i0, iv i1, iv i2, iv i3, .val (.long i4), .second, iv i5, iv (nM i0), iv (nK i1), iv (nB i1), iv (1 : Int32), iv (nC0 i4), iv (nC1 i4), iv (nC2 i5), rv b250, rv b257, iv (f_ad1 i2 i3 (nM i0) (nS i1) (0 : Int32) (nC0 i4)), iv (own_all (1 : Int32) (nC0 i4) (nM i0)), .val (.long ((0 : Int64) + ((nC0 i4).toInt64))), .second, .val (.long ((i3).toInt64)), .second, iv (own_fin (own_all (1 : Int32) (nC0 i4) (nM i0)) ((0 : Int64) + ((nC0 i4).toInt64)) (nK i1) ((i3).toInt64))] [(.int (1 : Int32))]
        exact k)
      obtain ⟨fs, hr, hrun, hended, hW, hsame⟩ := X272.leave (v := some (.int (1 : Int32))) (fun h => by rw [Bd.returns] at h; cases h)
      refine ⟨_, _, g289 _ (retN X272 hx (t := .boolean) Bd.returns (by simp) (hb hby at_288) hr), hrun, hended, _, _, rfl, ?_, ⟨_, rfl⟩, hW, hsame.mono (by decide) (by decide)⟩
      show Q_law Z i0 i1 i2 i3 i4 i5  h0 n0 _ T272.heap _
      rw [e272]
      exact ⟨rfl, M272⟩
    · skip
      have g290 : Goes p e below S0 (T267.setTop (mkF m 140 #[iv i0, iv i1, iv i2, iv i3, .val (.long i4), .second, iv i5, iv (nM i0), iv (nK i1), iv (nB i1), iv (1 : Int32), iv (nC0 i4), iv (nC1 i4), iv (nC2 i5), rv b250, rv b257, .unset, .unset, .unset, .unset, .unset, .unset, .unset] [(.ref b257)])) := fun t k => g269 t (by
        refine XS.ifNo X267.here hx rfl (hb hby at_135) rfl (XT.i0_eq_f h270) ?_
        show Go p e below t T267 m 138 #[iv i0, iv i1, iv i2, iv i3, .val (.long i4), .second, iv i5, iv (nM i0), iv (nK i1), iv (nB i1), iv (1 : Int32), iv (nC0 i4), iv (nC1 i4), iv (nC2 i5), rv b250, rv b257, .unset, .unset, .unset, .unset, .unset, .unset, .unset] []
        refine XS.aload X267.here hx rfl (hb hby at_138) rfl rfl ?_
        show Go p e below t T267 m 140 #[iv i0, iv i1, iv i2, iv i3, .val (.long i4), .second, iv i5, iv (nM i0), iv (nK i1), iv (nB i1), iv (1 : Int32), iv (nC0 i4), iv (nC1 i4), iv (nC2 i5), rv b250, rv b257, .unset, .unset, .unset, .unset, .unset, .unset, .unset] [(.ref b257)]
        exact k)
      obtain ⟨cq291, kq291, q291a, q291b, q291c⟩ := isOf hZ rfl R267_1
      obtain ⟨_, _, ⟨T291, L291, k291, n291⟩, -, X291, ⟨Lc291, hQ291, l291, y291, z291⟩, st291⟩ := X267.virtualBack hx (y := (⟨"com/example/hetmo/hetmo/tree/StoppingRules", "takingShareOfNode", "()Lcom/example/hetmo/hetmo/tree/StoppingRules;"⟩ : MethodName)) (z := (⟨"com/example/hetmo/hetmo/tree/StoppingRules", "takingShareOfNode", "()Lcom/example/hetmo/hetmo/tree/StoppingRules;"⟩ : MethodName)) hown (mvT hZ (hw _ (List.mem_of_getElem? (i := 45) rfl))) (mvT hZ (hw _ (List.mem_of_getElem? (i := 46) rfl))) (notFace_of_selects (args := #[]) (mvT hZ (hw _ (List.mem_of_getElem? (i := 48) rfl)))) (mvT hZ (hw _ (List.mem_of_getElem? (i := 48) rfl))) (mvT hZ (hw _ (List.mem_of_getElem? (i := 47) rfl))) (by decide) (backOf (W := 0) (rm_tsn l Z a0 hw [] b257 (nM i0) (nS i1) (0 : UInt64) (0 : Int32) T267.heap n0 (Nat.le_trans Z0 (Nat.le_trans (Nat.le_trans (Nat.le_trans (Nat.le_trans (Nat.le_refl _) E250.1) (Nat.le_of_eq W254.size.symm)) E257.1) R267_0.1)) R267_2 R267_3 R267_4 R267_5 R267_6 R267_7 R267_8) hZ (hw _ (List.mem_of_getElem? (i := 49) rfl)) (hw _ (List.mem_of_getElem? (i := 9) rfl)) (by decide) (by decide)) q291a q291c (g := (mkF m 140 #[iv i0, iv i1, iv i2, iv i3, .val (.long i4), .second, iv i5, iv (nM i0), iv (nK i1), iv (nB i1), iv (1 : Int32), iv (nC0 i4), iv (nC1 i4), iv (nC2 i5), rv b250, rv b257, .unset, .unset, .unset, .unset, .unset, .unset, .unset] [(.ref b257)])) rfl (by rw [hml]; rfl) (Steps.refl _) (argsL := []) (rest := []) (lenOf pd5 rfl) rfl (by show 2 * 0 + _ ≤ _; exact Nat.le_of_eq rfl) (hb hby at_140) (fun _ _ => ⟨rfl, rfl, (by decide : 2 + 1 ≤ _), (by decide : 8 + 7 ≤ _)⟩)
      dsimp only [Pt.U, Pt.locs, Pt.cells, Pt.slots] at X291 l291 y291 z291 st291 hQ291
      subst l291 y291 z291
      obtain ⟨na_291, rfl, N291, R291_0, R291_1, R291_2, R291_3, R291_4, R291_5, R291_6, R291_7, R291_8⟩ := hQ291
      have M291 := Fr.app M267 N291
      have g292 : Goes p e below S0 (T291.setTop (mkF m 143 #[iv i0, iv i1, iv i2, iv i3, .val (.long i4), .second, iv i5, iv (nM i0), iv (nK i1), iv (nB i1), iv (1 : Int32), iv (nC0 i4), iv (nC1 i4), iv (nC2 i5), rv b250, rv b257, .unset, .unset, .unset, .unset, .unset, .unset, .unset] [(.ref na_291)])) := fun t k => g290 t (st291.trans k)
      have g293 : Goes p e below S0 (T291.setTop (mkF m 151 #[iv i0, iv i1, iv i2, iv i3, .val (.long i4), .second, iv i5, iv (nM i0), iv (nK i1), iv (nB i1), iv (1 : Int32), iv (nC0 i4), iv (nC1 i4), iv (nC2 i5), rv b250, rv na_291, .unset, .unset, .unset, .unset, .unset, .unset, .unset] [(.int i3), (.int i2), (.ref b250), (.ref na_291)])) := fun t k => g292 t (by
        refine XS.astore X291.here hx rfl (hb hby at_143) rfl rfl (l' := #[iv i0, iv i1, iv i2, iv i3, .val (.long i4), .second, iv i5, iv (nM i0), iv (nK i1), iv (nB i1), iv (1 : Int32), iv (nC0 i4), iv (nC1 i4), iv (nC2 i5), rv b250, rv na_291, .unset, .unset, .unset, .unset, .unset, .unset, .unset]) rfl ?_
        show Go p e below t T291 m 145 #[iv i0, iv i1, iv i2, iv i3, .val (.long i4), .second, iv i5, iv (nM i0), iv (nK i1), iv (nB i1), iv (1 : Int32), iv (nC0 i4), iv (nC1 i4), iv (nC2 i5), rv b250, rv na_291, .unset, .unset, .unset, .unset, .unset, .unset, .unset] []
        refine XS.aload X291.here hx rfl (hb hby at_145) rfl rfl ?_
        show Go p e below t T291 m 147 #[iv i0, iv i1, iv i2, iv i3, .val (.long i4), .second, iv i5, iv (nM i0), iv (nK i1), iv (nB i1), iv (1 : Int32), iv (nC0 i4), iv (nC1 i4), iv (nC2 i5), rv b250, rv na_291, .unset, .unset, .unset, .unset, .unset, .unset, .unset] [(.ref na_291)]
        refine XS.aload X291.here hx rfl (hb hby at_147) rfl rfl ?_
        show Go p e below t T291 m 149 #[iv i0, iv i1, iv i2, iv i3, .val (.long i4), .second, iv i5, iv (nM i0), iv (nK i1), iv (nB i1), iv (1 : Int32), iv (nC0 i4), iv (nC1 i4), iv (nC2 i5), rv b250, rv na_291, .unset, .unset, .unset, .unset, .unset, .unset, .unset] [(.ref b250), (.ref na_291)]
        refine XS.iloadN X291.here hx rfl (hb hby at_149) rfl ?_
        show Go p e below t T291 m 150 #[iv i0, iv i1, iv i2, iv i3, .val (.long i4), .second, iv i5, iv (nM i0), iv (nK i1), iv (nB i1), iv (1 : Int32), iv (nC0 i4), iv (nC1 i4), iv (nC2 i5), rv b250, rv na_291, .unset, .unset, .unset, .unset, .unset, .unset, .unset] [(.int i2), (.ref b250), (.ref na_291)]
        refine XS.iloadN X291.here hx rfl (hb hby at_150) rfl ?_
        show Go p e below t T291 m 151 #[iv i0, iv i1, iv i2, iv i3, .val (.long i4), .second, iv i5, iv (nM i0), iv (nK i1), iv (nB i1), iv (1 : Int32), iv (nC0 i4), iv (nC1 i4), iv (nC2 i5), rv b250, rv na_291, .unset, .unset, .unset, .unset, .unset, .unset, .unset] [(.int i3), (.int i2), (.ref b250), (.ref na_291)]
        exact k)
      obtain ⟨cq294, kq294, q294a, q294b, q294c⟩ := isOf hZ rfl R291_1
      obtain ⟨_, _, ⟨T294, L294, k294, n294⟩, -, X294, ⟨Lc294, hQ294, l294, y294, z294⟩, st294⟩ := X291.virtualBack hx (y := (⟨"com/example/hetmo/hetmo/tree/StoppingRules", "admits", "([III)Z"⟩ : MethodName)) (z := (⟨"com/example/hetmo/hetmo/tree/StoppingRules", "admits", "([III)Z"⟩ : MethodName)) hown (mvT hZ (hw _ (List.mem_of_getElem? (i := 39) rfl))) (mvT hZ (hw _ (List.mem_of_getElem? (i := 40) rfl))) (notFace_of_selects (args := #[]) (mvT hZ (hw _ (List.mem_of_getElem? (i := 42) rfl)))) (mvT hZ (hw _ (List.mem_of_getElem? (i := 42) rfl))) (mvT hZ (hw _ (List.mem_of_getElem? (i := 41) rfl))) (by decide) (backOf (W := 0) (rm_ad1 l Z a0 hw [] na_291 b250 i2 i3 (nM i0) (nS i1) (nar .boolean (1 : Int32)) k250 (nC0 i4) T291.heap n0 (Nat.le_trans Z0 (Nat.le_trans (Nat.le_trans (Nat.le_trans (Nat.le_trans (Nat.le_trans (Nat.le_refl _) E250.1) (Nat.le_of_eq W254.size.symm)) E257.1) R267_0.1) R291_0.1)) R291_2 R291_3 R291_7 (((V254.ext E257).keep R267_0 (ninS (Nat.ne_of_lt (Nat.lt_of_lt_of_le V254.lt (Nat.le_of_eq gb257.symm))) nin0)).keep R291_0 nin0) (own_qf i1)) hZ (hw _ (List.mem_of_getElem? (i := 43) rfl)) (hw _ (List.mem_of_getElem? (i := 9) rfl)) (by decide) (by decide)) q294a q294c (g := (mkF m 151 #[iv i0, iv i1, iv i2, iv i3, .val (.long i4), .second, iv i5, iv (nM i0), iv (nK i1), iv (nB i1), iv (1 : Int32), iv (nC0 i4), iv (nC1 i4), iv (nC2 i5), rv b250, rv na_291, .unset, .unset, .unset, .unset, .unset, .unset, .unset] [(.int i3), (.int i2), (.ref b250), (.ref na_291)])) rfl (by rw [hml]; rfl) (Steps.refl _) (argsL := [(.ref b250), (.int i2), (.int i3)]) (rest := []) (lenOf pd6 rfl) rfl (by show 2 * 0 + _ ≤ _; exact Nat.le_of_eq rfl) (hb hby at_151) (fun _ _ => ⟨rfl, rfl, (by decide : 3 + 0 ≤ _), (by decide : 15 + 0 ≤ _)⟩)
      dsimp only [Pt.U, Pt.locs, Pt.cells, Pt.slots] at X294 l294 y294 z294 st294 hQ294
      subst l294 y294 z294
      obtain ⟨rfl, N294, e294⟩ := hQ294
      have M294 := Fr.app M291 N294
      have g295 : Goes p e below S0 (T294.setTop (mkF m 154 #[iv i0, iv i1, iv i2, iv i3, .val (.long i4), .second, iv i5, iv (nM i0), iv (nK i1), iv (nB i1), iv (1 : Int32), iv (nC0 i4), iv (nC1 i4), iv (nC2 i5), rv b250, rv na_291, .unset, .unset, .unset, .unset, .unset, .unset, .unset] [(.int (f_ad1 i2 i3 (nM i0) (nS i1) (nar .boolean (1 : Int32)) (nC0 i4)))])) := fun t k => g293 t (st294.trans k)
      have g296 : Goes p e below S0 (T294.setTop (mkF m 168 #[iv i0, iv i1, iv i2, iv i3, .val (.long i4), .second, iv i5, iv (nM i0), iv (nK i1), iv (nB i1), iv (1 : Int32), iv (nC0 i4), iv (nC1 i4), iv (nC2 i5), rv b250, rv na_291, iv (f_ad1 i2 i3 (nM i0) (nS i1) (nar .boolean (1 : Int32)) (nC0 i4)), iv (1 : Int32), .val (.long (0 : Int64)), .second, .unset, .unset, .unset] [])) := fun t k => g295 t (by
        refine XS.istore X294.here hx rfl (hb hby at_154) rfl (l' := #[iv i0, iv i1, iv i2, iv i3, .val (.long i4), .second, iv i5, iv (nM i0), iv (nK i1), iv (nB i1), iv (1 : Int32), iv (nC0 i4), iv (nC1 i4), iv (nC2 i5), rv b250, rv na_291, iv (f_ad1 i2 i3 (nM i0) (nS i1) (nar .boolean (1 : Int32)) (nC0 i4)), .unset, .unset, .unset, .unset, .unset, .unset]) rfl ?_
        show Go p e below t T294 m 156 #[iv i0, iv i1, iv i2, iv i3, .val (.long i4), .second, iv i5, iv (nM i0), iv (nK i1), iv (nB i1), iv (1 : Int32), iv (nC0 i4), iv (nC1 i4), iv (nC2 i5), rv b250, rv na_291, iv (f_ad1 i2 i3 (nM i0) (nS i1) (nar .boolean (1 : Int32)) (nC0 i4)), .unset, .unset, .unset, .unset, .unset, .unset] []
        refine XT.iconstV X294.here hx rfl (1 : Int32) (hb hby at_156) (by decide) ?_
        show Go p e below t T294 m 157 #[iv i0, iv i1, iv i2, iv i3, .val (.long i4), .second, iv i5, iv (nM i0), iv (nK i1), iv (nB i1), iv (1 : Int32), iv (nC0 i4), iv (nC1 i4), iv (nC2 i5), rv b250, rv na_291, iv (f_ad1 i2 i3 (nM i0) (nS i1) (nar .boolean (1 : Int32)) (nC0 i4)), .unset, .unset, .unset, .unset, .unset, .unset] [(.int (1 : Int32))]
        refine XS.istore X294.here hx rfl (hb hby at_157) rfl (l' := #[iv i0, iv i1, iv i2, iv i3, .val (.long i4), .second, iv i5, iv (nM i0), iv (nK i1), iv (nB i1), iv (1 : Int32), iv (nC0 i4), iv (nC1 i4), iv (nC2 i5), rv b250, rv na_291, iv (f_ad1 i2 i3 (nM i0) (nS i1) (nar .boolean (1 : Int32)) (nC0 i4)), iv (1 : Int32), .unset, .unset, .unset, .unset, .unset]) rfl ?_
        show Go p e below t T294 m 159 #[iv i0, iv i1, iv i2, iv i3, .val (.long i4), .second, iv i5, iv (nM i0), iv (nK i1), iv (nB i1), iv (1 : Int32), iv (nC0 i4), iv (nC1 i4), iv (nC2 i5), rv b250, rv na_291, iv (f_ad1 i2 i3 (nM i0) (nS i1) (nar .boolean (1 : Int32)) (nC0 i4)), iv (1 : Int32), .unset, .unset, .unset, .unset, .unset] []
        refine XT.lconstV X294.here hx rfl (0 : Int64) (hb hby at_159) (by decide) ?_
        show Go p e below t T294 m 160 #[iv i0, iv i1, iv i2, iv i3, .val (.long i4), .second, iv i5, iv (nM i0), iv (nK i1), iv (nB i1), iv (1 : Int32), iv (nC0 i4), iv (nC1 i4), iv (nC2 i5), rv b250, rv na_291, iv (f_ad1 i2 i3 (nM i0) (nS i1) (nar .boolean (1 : Int32)) (nC0 i4)), iv (1 : Int32), .unset, .unset, .unset, .unset, .unset] [(.long (0 : Int64))]
        refine XS.lstore X294.here hx rfl (hb hby at_160) rfl (l' := #[iv i0, iv i1, iv i2, iv i3, .val (.long i4), .second, iv i5, iv (nM i0), iv (nK i1), iv (nB i1), iv (1 : Int32), iv (nC0 i4), iv (nC1 i4), iv (nC2 i5), rv b250, rv na_291, iv (f_ad1 i2 i3 (nM i0) (nS i1) (nar .boolean (1 : Int32)) (nC0 i4)), iv (1 : Int32), .val (.long (0 : Int64)), .second, .unset, .unset, .unset]) rfl ?_
        show Go p e below t T294 m 162 #[iv i0, iv i1, iv i2, iv i3, .val (.long i4), .second, iv i5, iv (nM i0), iv (nK i1), iv (nB i1), iv (1 : Int32), iv (nC0 i4), iv (nC1 i4), iv (nC2 i5), rv b250, rv na_291, iv (f_ad1 i2 i3 (nM i0) (nS i1) (nar .boolean (1 : Int32)) (nC0 i4)), iv (1 : Int32), .val (.long (0 : Int64)), .second, .unset, .unset, .unset] []
        refine XS.iload X294.here hx rfl (hb hby at_162) rfl ?_
        show Go p e below t T294 m 164 #[iv i0, iv i1, iv i2, iv i3, .val (.long i4), .second, iv i5, iv (nM i0), iv (nK i1), iv (nB i1), iv (1 : Int32), iv (nC0 i4), iv (nC1 i4), iv (nC2 i5), rv b250, rv na_291, iv (f_ad1 i2 i3 (nM i0) (nS i1) (nar .boolean (1 : Int32)) (nC0 i4)), iv (1 : Int32), .val (.long (0 : Int64)), .second, .unset, .unset, .unset] [(.int (1 : Int32))]
        refine XT.iconstV X294.here hx rfl (1 : Int32) (hb hby at_164) (by decide) ?_
        show Go p e below t T294 m 165 #[iv i0, iv i1, iv i2, iv i3, .val (.long i4), .second, iv i5, iv (nM i0), iv (nK i1), iv (nB i1), iv (1 : Int32), iv (nC0 i4), iv (nC1 i4), iv (nC2 i5), rv b250, rv na_291, iv (f_ad1 i2 i3 (nM i0) (nS i1) (nar .boolean (1 : Int32)) (nC0 i4)), iv (1 : Int32), .val (.long (0 : Int64)), .second, .unset, .unset, .unset] [(.int (1 : Int32)), (.int (1 : Int32))]
        refine XS.icmpNo X294.here hx rfl (hb hby at_165) rfl (XT.ii_lt_f (by decide)) ?_
        show Go p e below t T294 m 168 #[iv i0, iv i1, iv i2, iv i3, .val (.long i4), .second, iv i5, iv (nM i0), iv (nK i1), iv (nB i1), iv (1 : Int32), iv (nC0 i4), iv (nC1 i4), iv (nC2 i5), rv b250, rv na_291, iv (f_ad1 i2 i3 (nM i0) (nS i1) (nar .boolean (1 : Int32)) (nC0 i4)), iv (1 : Int32), .val (.long (0 : Int64)), .second, .unset, .unset, .unset] []
        exact k)
      have gf297 : Goes p e below S0 (T294.setTop (mkF m 178 #[iv i0, iv i1, iv i2, iv i3, .val (.long i4), .second, iv i5, iv (nM i0), iv (nK i1), iv (nB i1), iv (1 : Int32), iv (nC0 i4), iv (nC1 i4), iv (nC2 i5), rv b250, rv na_291, iv (f_ad1 i2 i3 (nM i0) (nS i1) (nar .boolean (1 : Int32)) (nC0 i4)), iv (own_all (1 : Int32) (nC0 i4) (nM i0)), .val (.long (0 : Int64)), .second, .unset, .unset, .unset] [])) := by
        have g298 : Goes p e below S0 (T294.setTop (mkF m 172 #[iv i0, iv i1, iv i2, iv i3, .val (.long i4), .second, iv i5, iv (nM i0), iv (nK i1), iv (nB i1), iv (1 : Int32), iv (nC0 i4), iv (nC1 i4), iv (nC2 i5), rv b250, rv na_291, iv (f_ad1 i2 i3 (nM i0) (nS i1) (nar .boolean (1 : Int32)) (nC0 i4)), iv (1 : Int32), .val (.long (0 : Int64)), .second, .unset, .unset, .unset] [(.int (nM i0)), (.int (nC0 i4))])) := fun t k => g296 t (by
          refine XS.iload X294.here hx rfl (hb hby at_168) rfl ?_
          show Go p e below t T294 m 170 #[iv i0, iv i1, iv i2, iv i3, .val (.long i4), .second, iv i5, iv (nM i0), iv (nK i1), iv (nB i1), iv (1 : Int32), iv (nC0 i4), iv (nC1 i4), iv (nC2 i5), rv b250, rv na_291, iv (f_ad1 i2 i3 (nM i0) (nS i1) (nar .boolean (1 : Int32)) (nC0 i4)), iv (1 : Int32), .val (.long (0 : Int64)), .second, .unset, .unset, .unset] [(.int (nC0 i4))]
          refine XS.iload X294.here hx rfl (hb hby at_170) rfl ?_
          show Go p e below t T294 m 172 #[iv i0, iv i1, iv i2, iv i3, .val (.long i4), .second, iv i5, iv (nM i0), iv (nK i1), iv (nB i1), iv (1 : Int32), iv (nC0 i4), iv (nC1 i4), iv (nC2 i5), rv b250, rv na_291, iv (f_ad1 i2 i3 (nM i0) (nS i1) (nar .boolean (1 : Int32)) (nC0 i4)), iv (1 : Int32), .val (.long (0 : Int64)), .second, .unset, .unset, .unset] [(.int (nM i0)), (.int (nC0 i4))]
          exact k)
        by_cases h299 : (nC0 i4) < (nM i0)
        · skip
          have g300 : Goes p e below S0 (T294.setTop (mkF m 178 #[iv i0, iv i1, iv i2, iv i3, .val (.long i4), .second, iv i5, iv (nM i0), iv (nK i1), iv (nB i1), iv (1 : Int32), iv (nC0 i4), iv (nC1 i4), iv (nC2 i5), rv b250, rv na_291, iv (f_ad1 i2 i3 (nM i0) (nS i1) (nar .boolean (1 : Int32)) (nC0 i4)), iv (0 : Int32), .val (.long (0 : Int64)), .second, .unset, .unset, .unset] [])) := fun t k => g298 t (by
            refine XS.icmpNo X294.here hx rfl (hb hby at_172) rfl (XT.ii_ge_f h299) ?_
            show Go p e below t T294 m 175 #[iv i0, iv i1, iv i2, iv i3, .val (.long i4), .second, iv i5, iv (nM i0), iv (nK i1), iv (nB i1), iv (1 : Int32), iv (nC0 i4), iv (nC1 i4), iv (nC2 i5), rv b250, rv na_291, iv (f_ad1 i2 i3 (nM i0) (nS i1) (nar .boolean (1 : Int32)) (nC0 i4)), iv (1 : Int32), .val (.long (0 : Int64)), .second, .unset, .unset, .unset] []
            refine XT.iconstV X294.here hx rfl (0 : Int32) (hb hby at_175) (by decide) ?_
            show Go p e below t T294 m 176 #[iv i0, iv i1, iv i2, iv i3, .val (.long i4), .second, iv i5, iv (nM i0), iv (nK i1), iv (nB i1), iv (1 : Int32), iv (nC0 i4), iv (nC1 i4), iv (nC2 i5), rv b250, rv na_291, iv (f_ad1 i2 i3 (nM i0) (nS i1) (nar .boolean (1 : Int32)) (nC0 i4)), iv (1 : Int32), .val (.long (0 : Int64)), .second, .unset, .unset, .unset] [(.int (0 : Int32))]
            refine XS.istore X294.here hx rfl (hb hby at_176) rfl (l' := #[iv i0, iv i1, iv i2, iv i3, .val (.long i4), .second, iv i5, iv (nM i0), iv (nK i1), iv (nB i1), iv (1 : Int32), iv (nC0 i4), iv (nC1 i4), iv (nC2 i5), rv b250, rv na_291, iv (f_ad1 i2 i3 (nM i0) (nS i1) (nar .boolean (1 : Int32)) (nC0 i4)), iv (0 : Int32), .val (.long (0 : Int64)), .second, .unset, .unset, .unset]) rfl ?_
            show Go p e below t T294 m 178 #[iv i0, iv i1, iv i2, iv i3, .val (.long i4), .second, iv i5, iv (nM i0), iv (nK i1), iv (nB i1), iv (1 : Int32), iv (nC0 i4), iv (nC1 i4), iv (nC2 i5), rv b250, rv na_291, iv (f_ad1 i2 i3 (nM i0) (nS i1) (nar .boolean (1 : Int32)) (nC0 i4)), iv (0 : Int32), .val (.long (0 : Int64)), .second, .unset, .unset, .unset] []
            exact k)
          have e297_0 : (own_all (1 : Int32) (nC0 i4) (nM i0)) = (0 : Int32) := by first | exact if_pos h299 | (unfold own_all; first | (rw [if_pos h299]; done) | (simp [h299]; done) | (rw [if_pos h299]; decide))
          rw [e297_0]; exact g300
        · skip
          have g301 : Goes p e below S0 (T294.setTop (mkF m 178 #[iv i0, iv i1, iv i2, iv i3, .val (.long i4), .second, iv i5, iv (nM i0), iv (nK i1), iv (nB i1), iv (1 : Int32), iv (nC0 i4), iv (nC1 i4), iv (nC2 i5), rv b250, rv na_291, iv (f_ad1 i2 i3 (nM i0) (nS i1) (nar .boolean (1 : Int32)) (nC0 i4)), iv (1 : Int32), .val (.long (0 : Int64)), .second, .unset, .unset, .unset] [])) := fun t k => g298 t (by
            refine XS.icmpYes X294.here hx rfl (pc0 := 172) (pc' := 178) rfl (hb hby at_172) rfl (XT.ii_ge_t h299) (by decide) (by decide) ?_
            show Go p e below t T294 m 178 #[iv i0, iv i1, iv i2, iv i3, .val (.long i4), .second, iv i5, iv (nM i0), iv (nK i1), iv (nB i1), iv (1 : Int32), iv (nC0 i4), iv (nC1 i4), iv (nC2 i5), rv b250, rv na_291, iv (f_ad1 i2 i3 (nM i0) (nS i1) (nar .boolean (1 : Int32)) (nC0 i4)), iv (1 : Int32), .val (.long (0 : Int64)), .second, .unset, .unset, .unset] []
            exact k)
          have e297_0 : (own_all (1 : Int32) (nC0 i4) (nM i0)) = (1 : Int32) := by first | exact if_neg h299 | (unfold own_all; first | (rw [if_neg h299]; done) | (simp [h299]; done) | (rw [if_neg h299]; decide))
          rw [e297_0]; exact g301
      have g302 : Goes p e below S0 (T294.setTop (mkF m 248 #[iv i0, iv i1, iv i2, iv i3, .val (.long i4), .second, iv i5, iv (nM i0), iv (nK i1), iv (nB i1), iv (1 : Int32), iv (nC0 i4), iv (nC1 i4), iv (nC2 i5), rv b250, rv na_291, iv (f_ad1 i2 i3 (nM i0) (nS i1) (nar .boolean (1 : Int32)) (nC0 i4)), iv (own_all (1 : Int32) (nC0 i4) (nM i0)), .val (.long ((0 : Int64) + ((nC0 i4).toInt64))), .second, .val (.long ((i2).toInt64)), .second, .unset] [])) := fun t k => gf297 t (by
        refine XS.lload X294.here hx rfl (hb hby at_178) rfl ?_
        show Go p e below t T294 m 180 #[iv i0, iv i1, iv i2, iv i3, .val (.long i4), .second, iv i5, iv (nM i0), iv (nK i1), iv (nB i1), iv (1 : Int32), iv (nC0 i4), iv (nC1 i4), iv (nC2 i5), rv b250, rv na_291, iv (f_ad1 i2 i3 (nM i0) (nS i1) (nar .boolean (1 : Int32)) (nC0 i4)), iv (own_all (1 : Int32) (nC0 i4) (nM i0)), .val (.long (0 : Int64)), .second, .unset, .unset, .unset] [(.long (0 : Int64))]
        refine XS.iload X294.here hx rfl (hb hby at_180) rfl ?_
        show Go p e below t T294 m 182 #[iv i0, iv i1, iv i2, iv i3, .val (.long i4), .second, iv i5, iv (nM i0), iv (nK i1), iv (nB i1), iv (1 : Int32), iv (nC0 i4), iv (nC1 i4), iv (nC2 i5), rv b250, rv na_291, iv (f_ad1 i2 i3 (nM i0) (nS i1) (nar .boolean (1 : Int32)) (nC0 i4)), iv (own_all (1 : Int32) (nC0 i4) (nM i0)), .val (.long (0 : Int64)), .second, .unset, .unset, .unset] [(.int (nC0 i4)), (.long (0 : Int64))]
        refine XS.i2l X294.here hx rfl (hb hby at_182) rfl ?_
        show Go p e below t T294 m 183 #[iv i0, iv i1, iv i2, iv i3, .val (.long i4), .second, iv i5, iv (nM i0), iv (nK i1), iv (nB i1), iv (1 : Int32), iv (nC0 i4), iv (nC1 i4), iv (nC2 i5), rv b250, rv na_291, iv (f_ad1 i2 i3 (nM i0) (nS i1) (nar .boolean (1 : Int32)) (nC0 i4)), iv (own_all (1 : Int32) (nC0 i4) (nM i0)), .val (.long (0 : Int64)), .second, .unset, .unset, .unset] [(.long ((nC0 i4).toInt64)), (.long (0 : Int64))]
        refine XS.ladd X294.here hx rfl (hb hby at_183) rfl ?_
        show Go p e below t T294 m 184 #[iv i0, iv i1, iv i2, iv i3, .val (.long i4), .second, iv i5, iv (nM i0), iv (nK i1), iv (nB i1), iv (1 : Int32), iv (nC0 i4), iv (nC1 i4), iv (nC2 i5), rv b250, rv na_291, iv (f_ad1 i2 i3 (nM i0) (nS i1) (nar .boolean (1 : Int32)) (nC0 i4)), iv (own_all (1 : Int32) (nC0 i4) (nM i0)), .val (.long (0 : Int64)), .second, .unset, .unset, .unset] [(.long ((0 : Int64) + ((nC0 i4).toInt64)))]
        refine XS.lstore X294.here hx rfl (hb hby at_184) rfl (l' := #[iv i0, iv i1, iv i2, iv i3, .val (.long i4), .second, iv i5, iv (nM i0), iv (nK i1), iv (nB i1), iv (1 : Int32), iv (nC0 i4), iv (nC1 i4), iv (nC2 i5), rv b250, rv na_291, iv (f_ad1 i2 i3 (nM i0) (nS i1) (nar .boolean (1 : Int32)) (nC0 i4)), iv (own_all (1 : Int32) (nC0 i4) (nM i0)), .val (.long ((0 : Int64) + ((nC0 i4).toInt64))), .second, .unset, .unset, .unset]) rfl ?_
        show Go p e below t T294 m 186 #[iv i0, iv i1, iv i2, iv i3, .val (.long i4), .second, iv i5, iv (nM i0), iv (nK i1), iv (nB i1), iv (1 : Int32), iv (nC0 i4), iv (nC1 i4), iv (nC2 i5), rv b250, rv na_291, iv (f_ad1 i2 i3 (nM i0) (nS i1) (nar .boolean (1 : Int32)) (nC0 i4)), iv (own_all (1 : Int32) (nC0 i4) (nM i0)), .val (.long ((0 : Int64) + ((nC0 i4).toInt64))), .second, .unset, .unset, .unset] []
        refine XS.iload X294.here hx rfl (hb hby at_186) rfl ?_
        show Go p e below t T294 m 188 #[iv i0, iv i1, iv i2, iv i3, .val (.long i4), .second, iv i5, iv (nM i0), iv (nK i1), iv (nB i1), iv (1 : Int32), iv (nC0 i4), iv (nC1 i4), iv (nC2 i5), rv b250, rv na_291, iv (f_ad1 i2 i3 (nM i0) (nS i1) (nar .boolean (1 : Int32)) (nC0 i4)), iv (own_all (1 : Int32) (nC0 i4) (nM i0)), .val (.long ((0 : Int64) + ((nC0 i4).toInt64))), .second, .unset, .unset, .unset] [(.int (1 : Int32))]
        refine XT.iconstV X294.here hx rfl (2 : Int32) (hb hby at_188) (by decide) ?_
        show Go p e below t T294 m 189 #[iv i0, iv i1, iv i2, iv i3, .val (.long i4), .second, iv i5, iv (nM i0), iv (nK i1), iv (nB i1), iv (1 : Int32), iv (nC0 i4), iv (nC1 i4), iv (nC2 i5), rv b250, rv na_291, iv (f_ad1 i2 i3 (nM i0) (nS i1) (nar .boolean (1 : Int32)) (nC0 i4)), iv (own_all (1 : Int32) (nC0 i4) (nM i0)), .val (.long ((0 : Int64) + ((nC0 i4).toInt64))), .second, .unset, .unset, .unset] [(.int (2 : Int32)), (.int (1 : Int32))]
        refine XS.icmpYes X294.here hx rfl (pc0 := 189) (pc' := 210) rfl (hb hby at_189) rfl (XT.ii_lt_t (by decide)) (by decide) (by decide) ?_
        show Go p e below t T294 m 210 #[iv i0, iv i1, iv i2, iv i3, .val (.long i4), .second, iv i5, iv (nM i0), iv (nK i1), iv (nB i1), iv (1 : Int32), iv (nC0 i4), iv (nC1 i4), iv (nC2 i5), rv b250, rv na_291, iv (f_ad1 i2 i3 (nM i0) (nS i1) (nar .boolean (1 : Int32)) (nC0 i4)), iv (own_all (1 : Int32) (nC0 i4) (nM i0)), .val (.long ((0 : Int64) + ((nC0 i4).toInt64))), .second, .unset, .unset, .unset] []
        refine XS.iload X294.here hx rfl (hb hby at_210) rfl ?_
        show Go p e below t T294 m 212 #[iv i0, iv i1, iv i2, iv i3, .val (.long i4), .second, iv i5, iv (nM i0), iv (nK i1), iv (nB i1), iv (1 : Int32), iv (nC0 i4), iv (nC1 i4), iv (nC2 i5), rv b250, rv na_291, iv (f_ad1 i2 i3 (nM i0) (nS i1) (nar .boolean (1 : Int32)) (nC0 i4)), iv (own_all (1 : Int32) (nC0 i4) (nM i0)), .val (.long ((0 : Int64) + ((nC0 i4).toInt64))), .second, .unset, .unset, .unset] [(.int (1 : Int32))]
        refine XT.iconstV X294.here hx rfl (3 : Int32) (hb hby at_212) (by decide) ?_
        show Go p e below t T294 m 213 #[iv i0, iv i1, iv i2, iv i3, .val (.long i4), .second, iv i5, iv (nM i0), iv (nK i1), iv (nB i1), iv (1 : Int32), iv (nC0 i4), iv (nC1 i4), iv (nC2 i5), rv b250, rv na_291, iv (f_ad1 i2 i3 (nM i0) (nS i1) (nar .boolean (1 : Int32)) (nC0 i4)), iv (own_all (1 : Int32) (nC0 i4) (nM i0)), .val (.long ((0 : Int64) + ((nC0 i4).toInt64))), .second, .unset, .unset, .unset] [(.int (3 : Int32)), (.int (1 : Int32))]
        refine XS.icmpYes X294.here hx rfl (pc0 := 213) (pc' := 234) rfl (hb hby at_213) rfl (XT.ii_lt_t (by decide)) (by decide) (by decide) ?_
        show Go p e below t T294 m 234 #[iv i0, iv i1, iv i2, iv i3, .val (.long i4), .second, iv i5, iv (nM i0), iv (nK i1), iv (nB i1), iv (1 : Int32), iv (nC0 i4), iv (nC1 i4), iv (nC2 i5), rv b250, rv na_291, iv (f_ad1 i2 i3 (nM i0) (nS i1) (nar .boolean (1 : Int32)) (nC0 i4)), iv (own_all (1 : Int32) (nC0 i4) (nM i0)), .val (.long ((0 : Int64) + ((nC0 i4).toInt64))), .second, .unset, .unset, .unset] []
        refine XS.iload X294.here hx rfl (hb hby at_234) rfl ?_
        show Go p e below t T294 m 236 #[iv i0, iv i1, iv i2, iv i3, .val (.long i4), .second, iv i5, iv (nM i0), iv (nK i1), iv (nB i1), iv (1 : Int32), iv (nC0 i4), iv (nC1 i4), iv (nC2 i5), rv b250, rv na_291, iv (f_ad1 i2 i3 (nM i0) (nS i1) (nar .boolean (1 : Int32)) (nC0 i4)), iv (own_all (1 : Int32) (nC0 i4) (nM i0)), .val (.long ((0 : Int64) + ((nC0 i4).toInt64))), .second, .unset, .unset, .unset] [(.int (nB i1))]
        refine XS.ifNo X294.here hx rfl (hb hby at_236) rfl (XT.i0_eq_f h270) ?_
        show Go p e below t T294 m 239 #[iv i0, iv i1, iv i2, iv i3, .val (.long i4), .second, iv i5, iv (nM i0), iv (nK i1), iv (nB i1), iv (1 : Int32), iv (nC0 i4), iv (nC1 i4), iv (nC2 i5), rv b250, rv na_291, iv (f_ad1 i2 i3 (nM i0) (nS i1) (nar .boolean (1 : Int32)) (nC0 i4)), iv (own_all (1 : Int32) (nC0 i4) (nM i0)), .val (.long ((0 : Int64) + ((nC0 i4).toInt64))), .second, .unset, .unset, .unset] []
        refine XS.iloadN X294.here hx rfl (hb hby at_239) rfl ?_
        show Go p e below t T294 m 240 #[iv i0, iv i1, iv i2, iv i3, .val (.long i4), .second, iv i5, iv (nM i0), iv (nK i1), iv (nB i1), iv (1 : Int32), iv (nC0 i4), iv (nC1 i4), iv (nC2 i5), rv b250, rv na_291, iv (f_ad1 i2 i3 (nM i0) (nS i1) (nar .boolean (1 : Int32)) (nC0 i4)), iv (own_all (1 : Int32) (nC0 i4) (nM i0)), .val (.long ((0 : Int64) + ((nC0 i4).toInt64))), .second, .unset, .unset, .unset] [(.int i2)]
        refine XS.i2l X294.here hx rfl (hb hby at_240) rfl ?_
        show Go p e below t T294 m 241 #[iv i0, iv i1, iv i2, iv i3, .val (.long i4), .second, iv i5, iv (nM i0), iv (nK i1), iv (nB i1), iv (1 : Int32), iv (nC0 i4), iv (nC1 i4), iv (nC2 i5), rv b250, rv na_291, iv (f_ad1 i2 i3 (nM i0) (nS i1) (nar .boolean (1 : Int32)) (nC0 i4)), iv (own_all (1 : Int32) (nC0 i4) (nM i0)), .val (.long ((0 : Int64) + ((nC0 i4).toInt64))), .second, .unset, .unset, .unset] [(.long ((i2).toInt64))]
        refine XS.goto X294.here hx rfl (pc0 := 241) (pc' := 246) rfl (hb hby at_241) (by decide) (by decide) ?_
        show Go p e below t T294 m 246 #[iv i0, iv i1, iv i2, iv i3, .val (.long i4), .second, iv i5, iv (nM i0), iv (nK i1), iv (nB i1), iv (1 : Int32), iv (nC0 i4), iv (nC1 i4), iv (nC2 i5), rv b250, rv na_291, iv (f_ad1 i2 i3 (nM i0) (nS i1) (nar .boolean (1 : Int32)) (nC0 i4)), iv (own_all (1 : Int32) (nC0 i4) (nM i0)), .val (.long ((0 : Int64) + ((nC0 i4).toInt64))), .second, .unset, .unset, .unset] [(.long ((i2).toInt64))]
        refine XS.lstore X294.here hx rfl (hb hby at_246) rfl (l' := #[iv i0, iv i1, iv i2, iv i3, .val (.long i4), .second, iv i5, iv (nM i0), iv (nK i1), iv (nB i1), iv (1 : Int32), iv (nC0 i4), iv (nC1 i4), iv (nC2 i5), rv b250, rv na_291, iv (f_ad1 i2 i3 (nM i0) (nS i1) (nar .boolean (1 : Int32)) (nC0 i4)), iv (own_all (1 : Int32) (nC0 i4) (nM i0)), .val (.long ((0 : Int64) + ((nC0 i4).toInt64))), .second, .val (.long ((i2).toInt64)), .second, .unset]) rfl ?_
        show Go p e below t T294 m 248 #[iv i0, iv i1, iv i2, iv i3, .val (.long i4), .second, iv i5, iv (nM i0), iv (nK i1), iv (nB i1), iv (1 : Int32), iv (nC0 i4), iv (nC1 i4), iv (nC2 i5), rv b250, rv na_291, iv (f_ad1 i2 i3 (nM i0) (nS i1) (nar .boolean (1 : Int32)) (nC0 i4)), iv (own_all (1 : Int32) (nC0 i4) (nM i0)), .val (.long ((0 : Int64) + ((nC0 i4).toInt64))), .second, .val (.long ((i2).toInt64)), .second, .unset] []
        exact k)
      have gf303 : Goes p e below S0 (T294.setTop (mkF m 274 #[iv i0, iv i1, iv i2, iv i3, .val (.long i4), .second, iv i5, iv (nM i0), iv (nK i1), iv (nB i1), iv (1 : Int32), iv (nC0 i4), iv (nC1 i4), iv (nC2 i5), rv b250, rv na_291, iv (f_ad1 i2 i3 (nM i0) (nS i1) (nar .boolean (1 : Int32)) (nC0 i4)), iv (own_all (1 : Int32) (nC0 i4) (nM i0)), .val (.long ((0 : Int64) + ((nC0 i4).toInt64))), .second, .val (.long ((i2).toInt64)), .second, .unset] [(.int (own_fin (own_all (1 : Int32) (nC0 i4) (nM i0)) ((0 : Int64) + ((nC0 i4).toInt64)) (nK i1) ((i2).toInt64)))])) := by
        have g304 : Goes p e below S0 (T294.setTop (mkF m 250 #[iv i0, iv i1, iv i2, iv i3, .val (.long i4), .second, iv i5, iv (nM i0), iv (nK i1), iv (nB i1), iv (1 : Int32), iv (nC0 i4), iv (nC1 i4), iv (nC2 i5), rv b250, rv na_291, iv (f_ad1 i2 i3 (nM i0) (nS i1) (nar .boolean (1 : Int32)) (nC0 i4)), iv (own_all (1 : Int32) (nC0 i4) (nM i0)), .val (.long ((0 : Int64) + ((nC0 i4).toInt64))), .second, .val (.long ((i2).toInt64)), .second, .unset] [(.int (own_all (1 : Int32) (nC0 i4) (nM i0)))])) := fun t k => g302 t (by
          refine XS.iload X294.here hx rfl (hb hby at_248) rfl ?_
          show Go p e below t T294 m 250 #[iv i0, iv i1, iv i2, iv i3, .val (.long i4), .second, iv i5, iv (nM i0), iv (nK i1), iv (nB i1), iv (1 : Int32), iv (nC0 i4), iv (nC1 i4), iv (nC2 i5), rv b250, rv na_291, iv (f_ad1 i2 i3 (nM i0) (nS i1) (nar .boolean (1 : Int32)) (nC0 i4)), iv (own_all (1 : Int32) (nC0 i4) (nM i0)), .val (.long ((0 : Int64) + ((nC0 i4).toInt64))), .second, .val (.long ((i2).toInt64)), .second, .unset] [(.int (own_all (1 : Int32) (nC0 i4) (nM i0)))]
          exact k)
        by_cases h305 : (own_all (1 : Int32) (nC0 i4) (nM i0)) = 0
        · skip
          have g306 : Goes p e below S0 (T294.setTop (mkF m 274 #[iv i0, iv i1, iv i2, iv i3, .val (.long i4), .second, iv i5, iv (nM i0), iv (nK i1), iv (nB i1), iv (1 : Int32), iv (nC0 i4), iv (nC1 i4), iv (nC2 i5), rv b250, rv na_291, iv (f_ad1 i2 i3 (nM i0) (nS i1) (nar .boolean (1 : Int32)) (nC0 i4)), iv (own_all (1 : Int32) (nC0 i4) (nM i0)), .val (.long ((0 : Int64) + ((nC0 i4).toInt64))), .second, .val (.long ((i2).toInt64)), .second, .unset] [(.int (0 : Int32))])) := fun t k => g304 t (by
            refine XS.ifYes X294.here hx rfl (pc0 := 250) (pc' := 273) rfl (hb hby at_250) rfl (XT.i0_eq_t h305) (by decide) (by decide) ?_
            show Go p e below t T294 m 273 #[iv i0, iv i1, iv i2, iv i3, .val (.long i4), .second, iv i5, iv (nM i0), iv (nK i1), iv (nB i1), iv (1 : Int32), iv (nC0 i4), iv (nC1 i4), iv (nC2 i5), rv b250, rv na_291, iv (f_ad1 i2 i3 (nM i0) (nS i1) (nar .boolean (1 : Int32)) (nC0 i4)), iv (own_all (1 : Int32) (nC0 i4) (nM i0)), .val (.long ((0 : Int64) + ((nC0 i4).toInt64))), .second, .val (.long ((i2).toInt64)), .second, .unset] []
            refine XT.iconstV X294.here hx rfl (0 : Int32) (hb hby at_273) (by decide) ?_
            show Go p e below t T294 m 274 #[iv i0, iv i1, iv i2, iv i3, .val (.long i4), .second, iv i5, iv (nM i0), iv (nK i1), iv (nB i1), iv (1 : Int32), iv (nC0 i4), iv (nC1 i4), iv (nC2 i5), rv b250, rv na_291, iv (f_ad1 i2 i3 (nM i0) (nS i1) (nar .boolean (1 : Int32)) (nC0 i4)), iv (own_all (1 : Int32) (nC0 i4) (nM i0)), .val (.long ((0 : Int64) + ((nC0 i4).toInt64))), .second, .val (.long ((i2).toInt64)), .second, .unset] [(.int (0 : Int32))]
            exact k)
          have e303_0 : (own_fin (own_all (1 : Int32) (nC0 i4) (nM i0)) ((0 : Int64) + ((nC0 i4).toInt64)) (nK i1) ((i2).toInt64)) = (0 : Int32) := by first | exact if_pos h305 | (unfold own_fin; first | (rw [if_pos h305]; done) | (simp [h305]; done) | (rw [if_pos h305]; decide))
          rw [e303_0]; exact g306
        · skip
          have g307 : Goes p e below S0 (T294.setTop (mkF m 266 #[iv i0, iv i1, iv i2, iv i3, .val (.long i4), .second, iv i5, iv (nM i0), iv (nK i1), iv (nB i1), iv (1 : Int32), iv (nC0 i4), iv (nC1 i4), iv (nC2 i5), rv b250, rv na_291, iv (f_ad1 i2 i3 (nM i0) (nS i1) (nar .boolean (1 : Int32)) (nC0 i4)), iv (own_all (1 : Int32) (nC0 i4) (nM i0)), .val (.long ((0 : Int64) + ((nC0 i4).toInt64))), .second, .val (.long ((i2).toInt64)), .second, .unset] [(.int (lcmpW ((8 : Int64) * ((0 : Int64) + ((nC0 i4).toInt64))) (((nK i1).toInt64) * ((i2).toInt64))))])) := fun t k => g304 t (by
            refine XS.ifNo X294.here hx rfl (hb hby at_250) rfl (XT.i0_eq_f h305) ?_
            show Go p e below t T294 m 253 #[iv i0, iv i1, iv i2, iv i3, .val (.long i4), .second, iv i5, iv (nM i0), iv (nK i1), iv (nB i1), iv (1 : Int32), iv (nC0 i4), iv (nC1 i4), iv (nC2 i5), rv b250, rv na_291, iv (f_ad1 i2 i3 (nM i0) (nS i1) (nar .boolean (1 : Int32)) (nC0 i4)), iv (own_all (1 : Int32) (nC0 i4) (nM i0)), .val (.long ((0 : Int64) + ((nC0 i4).toInt64))), .second, .val (.long ((i2).toInt64)), .second, .unset] []
            refine Jvm.Stand.ldc2J X294 hx hown (mvT hZ (hw _ (List.mem_of_getElem? (i := 44) rfl))) (g := (mkF m 253 #[iv i0, iv i1, iv i2, iv i3, .val (.long i4), .second, iv i5, iv (nM i0), iv (nK i1), iv (nB i1), iv (1 : Int32), iv (nC0 i4), iv (nC1 i4), iv (nC2 i5), rv b250, rv na_291, iv (f_ad1 i2 i3 (nM i0) (nS i1) (nar .boolean (1 : Int32)) (nC0 i4)), iv (own_all (1 : Int32) (nC0 i4) (nM i0)), .val (.long ((0 : Int64) + ((nC0 i4).toInt64))), .second, .val (.long ((i2).toInt64)), .second, .unset] [])) rfl (hb hby at_253) ?_
            show Go p e below t T294 m 256 #[iv i0, iv i1, iv i2, iv i3, .val (.long i4), .second, iv i5, iv (nM i0), iv (nK i1), iv (nB i1), iv (1 : Int32), iv (nC0 i4), iv (nC1 i4), iv (nC2 i5), rv b250, rv na_291, iv (f_ad1 i2 i3 (nM i0) (nS i1) (nar .boolean (1 : Int32)) (nC0 i4)), iv (own_all (1 : Int32) (nC0 i4) (nM i0)), .val (.long ((0 : Int64) + ((nC0 i4).toInt64))), .second, .val (.long ((i2).toInt64)), .second, .unset] [(.long (8 : Int64))]
            refine XS.lload X294.here hx rfl (hb hby at_256) rfl ?_
            show Go p e below t T294 m 258 #[iv i0, iv i1, iv i2, iv i3, .val (.long i4), .second, iv i5, iv (nM i0), iv (nK i1), iv (nB i1), iv (1 : Int32), iv (nC0 i4), iv (nC1 i4), iv (nC2 i5), rv b250, rv na_291, iv (f_ad1 i2 i3 (nM i0) (nS i1) (nar .boolean (1 : Int32)) (nC0 i4)), iv (own_all (1 : Int32) (nC0 i4) (nM i0)), .val (.long ((0 : Int64) + ((nC0 i4).toInt64))), .second, .val (.long ((i2).toInt64)), .second, .unset] [(.long ((0 : Int64) + ((nC0 i4).toInt64))), (.long (8 : Int64))]
            refine XS.lmul X294.here hx rfl (hb hby at_258) rfl ?_
            show Go p e below t T294 m 259 #[iv i0, iv i1, iv i2, iv i3, .val (.long i4), .second, iv i5, iv (nM i0), iv (nK i1), iv (nB i1), iv (1 : Int32), iv (nC0 i4), iv (nC1 i4), iv (nC2 i5), rv b250, rv na_291, iv (f_ad1 i2 i3 (nM i0) (nS i1) (nar .boolean (1 : Int32)) (nC0 i4)), iv (own_all (1 : Int32) (nC0 i4) (nM i0)), .val (.long ((0 : Int64) + ((nC0 i4).toInt64))), .second, .val (.long ((i2).toInt64)), .second, .unset] [(.long ((8 : Int64) * ((0 : Int64) + ((nC0 i4).toInt64))))]
            refine XS.iload X294.here hx rfl (hb hby at_259) rfl ?_
            show Go p e below t T294 m 261 #[iv i0, iv i1, iv i2, iv i3, .val (.long i4), .second, iv i5, iv (nM i0), iv (nK i1), iv (nB i1), iv (1 : Int32), iv (nC0 i4), iv (nC1 i4), iv (nC2 i5), rv b250, rv na_291, iv (f_ad1 i2 i3 (nM i0) (nS i1) (nar .boolean (1 : Int32)) (nC0 i4)), iv (own_all (1 : Int32) (nC0 i4) (nM i0)), .val (.long ((0 : Int64) + ((nC0 i4).toInt64))), .second, .val (.long ((i2).toInt64)), .second, .unset] [(.int (nK i1)), (.long ((8 : Int64) * ((0 : Int64) + ((nC0 i4).toInt64))))]
            refine XS.i2l X294.here hx rfl (hb hby at_261) rfl ?_
            show Go p e below t T294 m 262 #[iv i0, iv i1, iv i2, iv i3, .val (.long i4), .second, iv i5, iv (nM i0), iv (nK i1), iv (nB i1), iv (1 : Int32), iv (nC0 i4), iv (nC1 i4), iv (nC2 i5), rv b250, rv na_291, iv (f_ad1 i2 i3 (nM i0) (nS i1) (nar .boolean (1 : Int32)) (nC0 i4)), iv (own_all (1 : Int32) (nC0 i4) (nM i0)), .val (.long ((0 : Int64) + ((nC0 i4).toInt64))), .second, .val (.long ((i2).toInt64)), .second, .unset] [(.long ((nK i1).toInt64)), (.long ((8 : Int64) * ((0 : Int64) + ((nC0 i4).toInt64))))]
            refine XS.lload X294.here hx rfl (hb hby at_262) rfl ?_
            show Go p e below t T294 m 264 #[iv i0, iv i1, iv i2, iv i3, .val (.long i4), .second, iv i5, iv (nM i0), iv (nK i1), iv (nB i1), iv (1 : Int32), iv (nC0 i4), iv (nC1 i4), iv (nC2 i5), rv b250, rv na_291, iv (f_ad1 i2 i3 (nM i0) (nS i1) (nar .boolean (1 : Int32)) (nC0 i4)), iv (own_all (1 : Int32) (nC0 i4) (nM i0)), .val (.long ((0 : Int64) + ((nC0 i4).toInt64))), .second, .val (.long ((i2).toInt64)), .second, .unset] [(.long ((i2).toInt64)), (.long ((nK i1).toInt64)), (.long ((8 : Int64) * ((0 : Int64) + ((nC0 i4).toInt64))))]
            refine XS.lmul X294.here hx rfl (hb hby at_264) rfl ?_
            show Go p e below t T294 m 265 #[iv i0, iv i1, iv i2, iv i3, .val (.long i4), .second, iv i5, iv (nM i0), iv (nK i1), iv (nB i1), iv (1 : Int32), iv (nC0 i4), iv (nC1 i4), iv (nC2 i5), rv b250, rv na_291, iv (f_ad1 i2 i3 (nM i0) (nS i1) (nar .boolean (1 : Int32)) (nC0 i4)), iv (own_all (1 : Int32) (nC0 i4) (nM i0)), .val (.long ((0 : Int64) + ((nC0 i4).toInt64))), .second, .val (.long ((i2).toInt64)), .second, .unset] [(.long (((nK i1).toInt64) * ((i2).toInt64))), (.long ((8 : Int64) * ((0 : Int64) + ((nC0 i4).toInt64))))]
            refine XS.lcmp X294.here hx rfl (hb hby at_265) rfl ?_
            show Go p e below t T294 m 266 #[iv i0, iv i1, iv i2, iv i3, .val (.long i4), .second, iv i5, iv (nM i0), iv (nK i1), iv (nB i1), iv (1 : Int32), iv (nC0 i4), iv (nC1 i4), iv (nC2 i5), rv b250, rv na_291, iv (f_ad1 i2 i3 (nM i0) (nS i1) (nar .boolean (1 : Int32)) (nC0 i4)), iv (own_all (1 : Int32) (nC0 i4) (nM i0)), .val (.long ((0 : Int64) + ((nC0 i4).toInt64))), .second, .val (.long ((i2).toInt64)), .second, .unset] [(.int (lcmpW ((8 : Int64) * ((0 : Int64) + ((nC0 i4).toInt64))) (((nK i1).toInt64) * ((i2).toInt64))))]
            exact k)
          by_cases h308 : ((8 : Int64) * ((0 : Int64) + ((nC0 i4).toInt64))) < (((nK i1).toInt64) * ((i2).toInt64))
          · skip
            have g309 : Goes p e below S0 (T294.setTop (mkF m 274 #[iv i0, iv i1, iv i2, iv i3, .val (.long i4), .second, iv i5, iv (nM i0), iv (nK i1), iv (nB i1), iv (1 : Int32), iv (nC0 i4), iv (nC1 i4), iv (nC2 i5), rv b250, rv na_291, iv (f_ad1 i2 i3 (nM i0) (nS i1) (nar .boolean (1 : Int32)) (nC0 i4)), iv (own_all (1 : Int32) (nC0 i4) (nM i0)), .val (.long ((0 : Int64) + ((nC0 i4).toInt64))), .second, .val (.long ((i2).toInt64)), .second, .unset] [(.int (0 : Int32))])) := fun t k => g307 t (by
              refine XS.ifYes X294.here hx rfl (pc0 := 266) (pc' := 273) rfl (hb hby at_266) rfl (XT.ll_lt_t h308) (by decide) (by decide) ?_
              show Go p e below t T294 m 273 #[iv i0, iv i1, iv i2, iv i3, .val (.long i4), .second, iv i5, iv (nM i0), iv (nK i1), iv (nB i1), iv (1 : Int32), iv (nC0 i4), iv (nC1 i4), iv (nC2 i5), rv b250, rv na_291, iv (f_ad1 i2 i3 (nM i0) (nS i1) (nar .boolean (1 : Int32)) (nC0 i4)), iv (own_all (1 : Int32) (nC0 i4) (nM i0)), .val (.long ((0 : Int64) + ((nC0 i4).toInt64))), .second, .val (.long ((i2).toInt64)), .second, .unset] []
              refine XT.iconstV X294.here hx rfl (0 : Int32) (hb hby at_273) (by decide) ?_
              show Go p e below t T294 m 274 #[iv i0, iv i1, iv i2, iv i3, .val (.long i4), .second, iv i5, iv (nM i0), iv (nK i1), iv (nB i1), iv (1 : Int32), iv (nC0 i4), iv (nC1 i4), iv (nC2 i5), rv b250, rv na_291, iv (f_ad1 i2 i3 (nM i0) (nS i1) (nar .boolean (1 : Int32)) (nC0 i4)), iv (own_all (1 : Int32) (nC0 i4) (nM i0)), .val (.long ((0 : Int64) + ((nC0 i4).toInt64))), .second, .val (.long ((i2).toInt64)), .second, .unset] [(.int (0 : Int32))]
              exact k)
            have e303_0 : (own_fin (own_all (1 : Int32) (nC0 i4) (nM i0)) ((0 : Int64) + ((nC0 i4).toInt64)) (nK i1) ((i2).toInt64)) = (0 : Int32) := by first | exact (if_neg h305).trans (if_pos h308) | (unfold own_fin; first | (rw [if_neg h305, if_pos h308]; done) | (simp [h305, h308]; done) | (rw [if_neg h305, if_pos h308]; decide))
            rw [e303_0]; exact g309
          · skip
            have g310 : Goes p e below S0 (T294.setTop (mkF m 274 #[iv i0, iv i1, iv i2, iv i3, .val (.long i4), .second, iv i5, iv (nM i0), iv (nK i1), iv (nB i1), iv (1 : Int32), iv (nC0 i4), iv (nC1 i4), iv (nC2 i5), rv b250, rv na_291, iv (f_ad1 i2 i3 (nM i0) (nS i1) (nar .boolean (1 : Int32)) (nC0 i4)), iv (own_all (1 : Int32) (nC0 i4) (nM i0)), .val (.long ((0 : Int64) + ((nC0 i4).toInt64))), .second, .val (.long ((i2).toInt64)), .second, .unset] [(.int (1 : Int32))])) := fun t k => g307 t (by
              refine XS.ifNo X294.here hx rfl (hb hby at_266) rfl (XT.ll_lt_f h308) ?_
              show Go p e below t T294 m 269 #[iv i0, iv i1, iv i2, iv i3, .val (.long i4), .second, iv i5, iv (nM i0), iv (nK i1), iv (nB i1), iv (1 : Int32), iv (nC0 i4), iv (nC1 i4), iv (nC2 i5), rv b250, rv na_291, iv (f_ad1 i2 i3 (nM i0) (nS i1) (nar .boolean (1 : Int32)) (nC0 i4)), iv (own_all (1 : Int32) (nC0 i4) (nM i0)), .val (.long ((0 : Int64) + ((nC0 i4).toInt64))), .second, .val (.long ((i2).toInt64)), .second, .unset] []
              refine XT.iconstV X294.here hx rfl (1 : Int32) (hb hby at_269) (by decide) ?_
              show Go p e below t T294 m 270 #[iv i0, iv i1, iv i2, iv i3, .val (.long i4), .second, iv i5, iv (nM i0), iv (nK i1), iv (nB i1), iv (1 : Int32), iv (nC0 i4), iv (nC1 i4), iv (nC2 i5), rv b250, rv na_291, iv (f_ad1 i2 i3 (nM i0) (nS i1) (nar .boolean (1 : Int32)) (nC0 i4)), iv (own_all (1 : Int32) (nC0 i4) (nM i0)), .val (.long ((0 : Int64) + ((nC0 i4).toInt64))), .second, .val (.long ((i2).toInt64)), .second, .unset] [(.int (1 : Int32))]
              refine XS.goto X294.here hx rfl (pc0 := 270) (pc' := 274) rfl (hb hby at_270) (by decide) (by decide) ?_
              show Go p e below t T294 m 274 #[iv i0, iv i1, iv i2, iv i3, .val (.long i4), .second, iv i5, iv (nM i0), iv (nK i1), iv (nB i1), iv (1 : Int32), iv (nC0 i4), iv (nC1 i4), iv (nC2 i5), rv b250, rv na_291, iv (f_ad1 i2 i3 (nM i0) (nS i1) (nar .boolean (1 : Int32)) (nC0 i4)), iv (own_all (1 : Int32) (nC0 i4) (nM i0)), .val (.long ((0 : Int64) + ((nC0 i4).toInt64))), .second, .val (.long ((i2).toInt64)), .second, .unset] [(.int (1 : Int32))]
              exact k)
            have e303_0 : (own_fin (own_all (1 : Int32) (nC0 i4) (nM i0)) ((0 : Int64) + ((nC0 i4).toInt64)) (nK i1) ((i2).toInt64)) = (1 : Int32) := by first | exact (if_neg h305).trans (if_neg h308) | (unfold own_fin; first | (rw [if_neg h305, if_neg h308]; done) | (simp [h305, h308]; done) | (rw [if_neg h305, if_neg h308]; decide))
            rw [e303_0]; exact g310
      have g311 : Goes p e below S0 (T294.setTop (mkF m 288 #[iv i0, iv i1, iv i2, iv i3, .val (.long i4), .second, iv i5, iv (nM i0), iv (nK i1), iv (nB i1), iv (1 : Int32), iv (nC0 i4), iv (nC1 i4), iv (nC2 i5), rv b250, rv na_291, iv (f_ad1 i2 i3 (nM i0) (nS i1) (nar .boolean (1 : Int32)) (nC0 i4)), iv (own_all (1 : Int32) (nC0 i4) (nM i0)), .val (.long ((0 : Int64) + ((nC0 i4).toInt64))), .second, .val (.long ((i2).toInt64)), .second, iv (own_fin (own_all (1 : Int32) (nC0 i4) (nM i0)) ((0 : Int64) + ((nC0 i4).toInt64)) (nK i1) ((i2).toInt64))] [(.int (1 : Int32))])) := fun t k => gf303 t (by
        refine XS.istore X294.here hx rfl (hb hby at_274) rfl (l' := #[iv i0, iv i1, iv i2, iv i3, .val (.long i4), .second, iv i5, iv (nM i0), iv (nK i1), iv (nB i1), iv (1 : Int32), iv (nC0 i4), iv (nC1 i4), iv (nC2 i5), rv b250, rv na_291, iv (f_ad1 i2 i3 (nM i0) (nS i1) (nar .boolean (1 : Int32)) (nC0 i4)), iv (own_all (1 : Int32) (nC0 i4) (nM i0)), .val (.long ((0 : Int64) + ((nC0 i4).toInt64))), .second, .val (.long ((i2).toInt64)), .second, iv (own_fin (own_all (1 : Int32) (nC0 i4) (nM i0)) ((0 : Int64) + ((nC0 i4).toInt64)) (nK i1) ((i2).toInt64))]) rfl ?_
        show Go p e below t T294 m 276 #[iv i0, iv i1, iv i2, iv i3, .val (.long i4), .second, iv i5, iv (nM i0), iv (nK i1), iv (nB i1), iv (1 : Int32), iv (nC0 i4), iv (nC1 i4), iv (nC2 i5), rv b250, rv na_291, iv (f_ad1 i2 i3 (nM i0) (nS i1) (nar .boolean (1 : Int32)) (nC0 i4)), iv (own_all (1 : Int32) (nC0 i4) (nM i0)), .val (.long ((0 : Int64) + ((nC0 i4).toInt64))), .second, .val (.long ((i2).toInt64)), .second, iv (own_fin (own_all (1 : Int32) (nC0 i4) (nM i0)) ((0 : Int64) + ((nC0 i4).toInt64)) (nK i1) ((i2).toInt64))] []
        refine XS.iload X294.here hx rfl (hb hby at_276) rfl ?_
        show Go p e below t T294 m 278 #[iv i0, iv i1, iv i2, iv i3, .val (.long i4), .second, iv i5, iv (nM i0), iv (nK i1), iv (nB i1), iv (1 : Int32), iv (nC0 i4), iv (nC1 i4), iv (nC2 i5), rv b250, rv na_291, iv (f_ad1 i2 i3 (nM i0) (nS i1) (nar .boolean (1 : Int32)) (nC0 i4)), iv (own_all (1 : Int32) (nC0 i4) (nM i0)), .val (.long ((0 : Int64) + ((nC0 i4).toInt64))), .second, .val (.long ((i2).toInt64)), .second, iv (own_fin (own_all (1 : Int32) (nC0 i4) (nM i0)) ((0 : Int64) + ((nC0 i4).toInt64)) (nK i1) ((i2).toInt64))] [(.int (f_ad1 i2 i3 (nM i0) (nS i1) (nar .boolean (1 : Int32)) (nC0 i4)))]
        refine XS.iload X294.here hx rfl (hb hby at_278) rfl ?_
        show Go p e below t T294 m 280 #[iv i0, iv i1, iv i2, iv i3, .val (.long i4), .second, iv i5, iv (nM i0), iv (nK i1), iv (nB i1), iv (1 : Int32), iv (nC0 i4), iv (nC1 i4), iv (nC2 i5), rv b250, rv na_291, iv (f_ad1 i2 i3 (nM i0) (nS i1) (nar .boolean (1 : Int32)) (nC0 i4)), iv (own_all (1 : Int32) (nC0 i4) (nM i0)), .val (.long ((0 : Int64) + ((nC0 i4).toInt64))), .second, .val (.long ((i2).toInt64)), .second, iv (own_fin (own_all (1 : Int32) (nC0 i4) (nM i0)) ((0 : Int64) + ((nC0 i4).toInt64)) (nK i1) ((i2).toInt64))] [(.int (own_fin (own_all (1 : Int32) (nC0 i4) (nM i0)) ((0 : Int64) + ((nC0 i4).toInt64)) (nK i1) ((i2).toInt64))), (.int (f_ad1 i2 i3 (nM i0) (nS i1) (nar .boolean (1 : Int32)) (nC0 i4)))]
        refine XS.icmpNo X294.here hx rfl (hb hby at_280) rfl (XT.ii_ne_f (own_fin1n i0 i1 i2 i3 i4 i5)) ?_
        show Go p e below t T294 m 283 #[iv i0, iv i1, iv i2, iv i3, .val (.long i4), .second, iv i5, iv (nM i0), iv (nK i1), iv (nB i1), iv (1 : Int32), iv (nC0 i4), iv (nC1 i4), iv (nC2 i5), rv b250, rv na_291, iv (f_ad1 i2 i3 (nM i0) (nS i1) (nar .boolean (1 : Int32)) (nC0 i4)), iv (own_all (1 : Int32) (nC0 i4) (nM i0)), .val (.long ((0 : Int64) + ((nC0 i4).toInt64))), .second, .val (.long ((i2).toInt64)), .second, iv (own_fin (own_all (1 : Int32) (nC0 i4) (nM i0)) ((0 : Int64) + ((nC0 i4).toInt64)) (nK i1) ((i2).toInt64))] []
        refine XT.iconstV X294.here hx rfl (1 : Int32) (hb hby at_283) (by decide) ?_
        show Go p e below t T294 m 284 #[iv i0, iv i1, iv i2, iv i3, .val (.long i4), .second, iv i5, iv (nM i0), iv (nK i1), iv (nB i1), iv (1 : Int32), iv (nC0 i4), iv (nC1 i4), iv (nC2 i5), rv b250, rv na_291, iv (f_ad1 i2 i3 (nM i0) (nS i1) (nar .boolean (1 : Int32)) (nC0 i4)), iv (own_all (1 : Int32) (nC0 i4) (nM i0)), .val (.long ((0 : Int64) + ((nC0 i4).toInt64))), .second, .val (.long ((i2).toInt64)), .second, iv (own_fin (own_all (1 : Int32) (nC0 i4) (nM i0)) ((0 : Int64) + ((nC0 i4).toInt64)) (nK i1) ((i2).toInt64))] [(.int (1 : Int32))]
        refine XS.goto X294.here hx rfl (pc0 := 284) (pc' := 288) rfl (hb hby at_284) (by decide) (by decide) ?_
        show Go p e below t T294 m 288 #[iv i0, iv i1, iv i2, iv i3, .val (.long i4), .second, iv i5, iv (nM i0), iv (nK i1), iv (nB i1), iv (1 : Int32), iv (nC0 i4), iv (nC1 i4), iv (nC2 i5), rv b250, rv na_291, iv (f_ad1 i2 i3 (nM i0) (nS i1) (nar .boolean (1 : Int32)) (nC0 i4)), iv (own_all (1 : Int32) (nC0 i4) (nM i0)), .val (.long ((0 : Int64) + ((nC0 i4).toInt64))), .second, .val (.long ((i2).toInt64)), .second, iv (own_fin (own_all (1 : Int32) (nC0 i4) (nM i0)) ((0 : Int64) + ((nC0 i4).toInt64)) (nK i1) ((i2).toInt64))] [(.int (1 : Int32))]
        exact k)
      obtain ⟨fs, hr, hrun, hended, hW, hsame⟩ := X294.leave (v := some (.int (1 : Int32))) (fun h => by rw [Bd.returns] at h; cases h)
      refine ⟨_, _, g311 _ (retN X294 hx (t := .boolean) Bd.returns (by simp) (hb hby at_288) hr), hrun, hended, _, _, rfl, ?_, ⟨_, rfl⟩, hW, hsame.mono (by decide) (by decide)⟩
      show Q_law Z i0 i1 i2 i3 i4 i5  h0 n0 _ T294.heap _
      rw [e294]
      exact ⟨rfl, M294⟩
  · skip
    have g312 : Goes p e below S0 (T199.setTop (mkF m 73 #[iv i0, iv i1, iv i2, iv i3, .val (.long i4), .second, iv i5, iv (nM i0), iv (nK i1), iv (nB i1), iv (2 : Int32), iv (nC0 i4), iv (nC1 i4), iv (nC2 i5), .unset, .unset, .unset, .unset, .unset, .unset, .unset, .unset, .unset] [(.int (2 : Int32))])) := fun t k => g207 t (by
      refine XS.iload X199.here hx rfl (hb hby at_71) rfl ?_
      show Go p e below t T199 m 73 #[iv i0, iv i1, iv i2, iv i3, .val (.long i4), .second, iv i5, iv (nM i0), iv (nK i1), iv (nB i1), iv (2 : Int32), iv (nC0 i4), iv (nC1 i4), iv (nC2 i5), .unset, .unset, .unset, .unset, .unset, .unset, .unset, .unset, .unset] [(.int (2 : Int32))]
      exact k)
    obtain ⟨T313, h313, k313, X313, e313, E313, A313, st313⟩ := newP X199 hx hZ (hw _ (List.mem_of_getElem? (i := 6) rfl)) e199 (g := (mkF m 73 #[iv i0, iv i1, iv i2, iv i3, .val (.long i4), .second, iv i5, iv (nM i0), iv (nK i1), iv (nB i1), iv (2 : Int32), iv (nC0 i4), iv (nC1 i4), iv (nC2 i5), .unset, .unset, .unset, .unset, .unset, .unset, .unset, .unset, .unset] [(.int (2 : Int32))])) rfl (hb hby at_73) rfl (by decide) (cap := 2) (by decide) (by decide) (by decide) (by decide)
    obtain ⟨b313, gb313⟩ : ∃ z, z = h0.size := ⟨_, rfl⟩
    have sz313 : h0.size ≤ b313 := Nat.le_trans (Nat.le_refl _) (Nat.le_of_eq gb313.symm)
    have ng313 : n0 ≤ b313 := Nat.le_trans Z0 sz313
    rw [← gb313] at A313 st313
    have V313 : Arv Z h313 b313 k313 .int (2 : Int32) [(.int (0 : Int32)), (.int (0 : Int32))] (.int (0 : Int32)) := (Arv.new A313 (by decide)).pad (pad_rep [] (.int (0 : Int32)) 2)
    have g314 : Goes p e below S0 (T313.setTop (mkF m 75 #[iv i0, iv i1, iv i2, iv i3, .val (.long i4), .second, iv i5, iv (nM i0), iv (nK i1), iv (nB i1), iv (2 : Int32), iv (nC0 i4), iv (nC1 i4), iv (nC2 i5), .unset, .unset, .unset, .unset, .unset, .unset, .unset, .unset, .unset] [(.ref b313)])) := fun t k => g312 t (st313 t k)
    have g315 : Goes p e below S0 (T313.setTop (mkF m 88 #[iv i0, iv i1, iv i2, iv i3, .val (.long i4), .second, iv i5, iv (nM i0), iv (nK i1), iv (nB i1), iv (2 : Int32), iv (nC0 i4), iv (nC1 i4), iv (nC2 i5), rv b313, .unset, .unset, .unset, .unset, .unset, .unset, .unset, .unset] [(.int (nC0 i4)), (.int (0 : Int32)), (.ref b313)])) := fun t k => g314 t (by
      refine XS.astore X313.here hx rfl (hb hby at_75) rfl rfl (l' := #[iv i0, iv i1, iv i2, iv i3, .val (.long i4), .second, iv i5, iv (nM i0), iv (nK i1), iv (nB i1), iv (2 : Int32), iv (nC0 i4), iv (nC1 i4), iv (nC2 i5), rv b313, .unset, .unset, .unset, .unset, .unset, .unset, .unset, .unset]) rfl ?_
      show Go p e below t T313 m 77 #[iv i0, iv i1, iv i2, iv i3, .val (.long i4), .second, iv i5, iv (nM i0), iv (nK i1), iv (nB i1), iv (2 : Int32), iv (nC0 i4), iv (nC1 i4), iv (nC2 i5), rv b313, .unset, .unset, .unset, .unset, .unset, .unset, .unset, .unset] []
      refine XS.iload X313.here hx rfl (hb hby at_77) rfl ?_
      show Go p e below t T313 m 79 #[iv i0, iv i1, iv i2, iv i3, .val (.long i4), .second, iv i5, iv (nM i0), iv (nK i1), iv (nB i1), iv (2 : Int32), iv (nC0 i4), iv (nC1 i4), iv (nC2 i5), rv b313, .unset, .unset, .unset, .unset, .unset, .unset, .unset, .unset] [(.int (2 : Int32))]
      refine XT.iconstV X313.here hx rfl (1 : Int32) (hb hby at_79) (by decide) ?_
      show Go p e below t T313 m 80 #[iv i0, iv i1, iv i2, iv i3, .val (.long i4), .second, iv i5, iv (nM i0), iv (nK i1), iv (nB i1), iv (2 : Int32), iv (nC0 i4), iv (nC1 i4), iv (nC2 i5), rv b313, .unset, .unset, .unset, .unset, .unset, .unset, .unset, .unset] [(.int (1 : Int32)), (.int (2 : Int32))]
      refine XS.icmpNo X313.here hx rfl (hb hby at_80) rfl (XT.ii_lt_f (by decide)) ?_
      show Go p e below t T313 m 83 #[iv i0, iv i1, iv i2, iv i3, .val (.long i4), .second, iv i5, iv (nM i0), iv (nK i1), iv (nB i1), iv (2 : Int32), iv (nC0 i4), iv (nC1 i4), iv (nC2 i5), rv b313, .unset, .unset, .unset, .unset, .unset, .unset, .unset, .unset] []
      refine XS.aload X313.here hx rfl (hb hby at_83) rfl rfl ?_
      show Go p e below t T313 m 85 #[iv i0, iv i1, iv i2, iv i3, .val (.long i4), .second, iv i5, iv (nM i0), iv (nK i1), iv (nB i1), iv (2 : Int32), iv (nC0 i4), iv (nC1 i4), iv (nC2 i5), rv b313, .unset, .unset, .unset, .unset, .unset, .unset, .unset, .unset] [(.ref b313)]
      refine XT.iconstV X313.here hx rfl (0 : Int32) (hb hby at_85) (by decide) ?_
      show Go p e below t T313 m 86 #[iv i0, iv i1, iv i2, iv i3, .val (.long i4), .second, iv i5, iv (nM i0), iv (nK i1), iv (nB i1), iv (2 : Int32), iv (nC0 i4), iv (nC1 i4), iv (nC2 i5), rv b313, .unset, .unset, .unset, .unset, .unset, .unset, .unset, .unset] [(.int (0 : Int32)), (.ref b313)]
      refine XS.iload X313.here hx rfl (hb hby at_86) rfl ?_
      show Go p e below t T313 m 88 #[iv i0, iv i1, iv i2, iv i3, .val (.long i4), .second, iv i5, iv (nM i0), iv (nK i1), iv (nB i1), iv (2 : Int32), iv (nC0 i4), iv (nC1 i4), iv (nC2 i5), rv b313, .unset, .unset, .unset, .unset, .unset, .unset, .unset, .unset] [(.int (nC0 i4)), (.int (0 : Int32)), (.ref b313)]
      exact k)
    obtain ⟨cl316, Ar316, q316, S316, M316, H316, G316⟩ := id V313
    obtain ⟨T317, h317, X317, e317, W317, st317⟩ := stI X313 hx hZ e313 Ar316 (j := (0 : Int32)) (inb_of S316 ⟨by decide, by decide⟩) (g := (mkF m 88 #[iv i0, iv i1, iv i2, iv i3, .val (.long i4), .second, iv i5, iv (nM i0), iv (nK i1), iv (nB i1), iv (2 : Int32), iv (nC0 i4), iv (nC1 i4), iv (nC2 i5), rv b313, .unset, .unset, .unset, .unset, .unset, .unset, .unset, .unset] [(.int (nC0 i4)), (.int (0 : Int32)), (.ref b313)])) rfl rfl (hb hby at_88)
    have N317 := Fr.snoc X317 M199 ng313
    have V317 : Arv Z h317 b313 k313 .int (2 : Int32) [(.int (nC0 i4)), (.int (0 : Int32))] (.int (0 : Int32)) := Arv.set Ar316 q316 S316 M316 H316 G316 rfl W317 0 rfl (Nat.le_of_ble_eq_true rfl)
    have g318 : Goes p e below S0 (T317.setTop (mkF m 89 #[iv i0, iv i1, iv i2, iv i3, .val (.long i4), .second, iv i5, iv (nM i0), iv (nK i1), iv (nB i1), iv (2 : Int32), iv (nC0 i4), iv (nC1 i4), iv (nC2 i5), rv b313, .unset, .unset, .unset, .unset, .unset, .unset, .unset, .unset] [])) := fun t k => g315 t (st317 t k)
    have g319 : Goes p e below S0 (T317.setTop (mkF m 100 #[iv i0, iv i1, iv i2, iv i3, .val (.long i4), .second, iv i5, iv (nM i0), iv (nK i1), iv (nB i1), iv (2 : Int32), iv (nC0 i4), iv (nC1 i4), iv (nC2 i5), rv b313, .unset, .unset, .unset, .unset, .unset, .unset, .unset, .unset] [(.int (nC1 i4)), (.int (1 : Int32)), (.ref b313)])) := fun t k => g318 t (by
      refine XS.iload X317.here hx rfl (hb hby at_89) rfl ?_
      show Go p e below t T317 m 91 #[iv i0, iv i1, iv i2, iv i3, .val (.long i4), .second, iv i5, iv (nM i0), iv (nK i1), iv (nB i1), iv (2 : Int32), iv (nC0 i4), iv (nC1 i4), iv (nC2 i5), rv b313, .unset, .unset, .unset, .unset, .unset, .unset, .unset, .unset] [(.int (2 : Int32))]
      refine XT.iconstV X317.here hx rfl (2 : Int32) (hb hby at_91) (by decide) ?_
      show Go p e below t T317 m 92 #[iv i0, iv i1, iv i2, iv i3, .val (.long i4), .second, iv i5, iv (nM i0), iv (nK i1), iv (nB i1), iv (2 : Int32), iv (nC0 i4), iv (nC1 i4), iv (nC2 i5), rv b313, .unset, .unset, .unset, .unset, .unset, .unset, .unset, .unset] [(.int (2 : Int32)), (.int (2 : Int32))]
      refine XS.icmpNo X317.here hx rfl (hb hby at_92) rfl (XT.ii_lt_f (by decide)) ?_
      show Go p e below t T317 m 95 #[iv i0, iv i1, iv i2, iv i3, .val (.long i4), .second, iv i5, iv (nM i0), iv (nK i1), iv (nB i1), iv (2 : Int32), iv (nC0 i4), iv (nC1 i4), iv (nC2 i5), rv b313, .unset, .unset, .unset, .unset, .unset, .unset, .unset, .unset] []
      refine XS.aload X317.here hx rfl (hb hby at_95) rfl rfl ?_
      show Go p e below t T317 m 97 #[iv i0, iv i1, iv i2, iv i3, .val (.long i4), .second, iv i5, iv (nM i0), iv (nK i1), iv (nB i1), iv (2 : Int32), iv (nC0 i4), iv (nC1 i4), iv (nC2 i5), rv b313, .unset, .unset, .unset, .unset, .unset, .unset, .unset, .unset] [(.ref b313)]
      refine XT.iconstV X317.here hx rfl (1 : Int32) (hb hby at_97) (by decide) ?_
      show Go p e below t T317 m 98 #[iv i0, iv i1, iv i2, iv i3, .val (.long i4), .second, iv i5, iv (nM i0), iv (nK i1), iv (nB i1), iv (2 : Int32), iv (nC0 i4), iv (nC1 i4), iv (nC2 i5), rv b313, .unset, .unset, .unset, .unset, .unset, .unset, .unset, .unset] [(.int (1 : Int32)), (.ref b313)]
      refine XS.iload X317.here hx rfl (hb hby at_98) rfl ?_
      show Go p e below t T317 m 100 #[iv i0, iv i1, iv i2, iv i3, .val (.long i4), .second, iv i5, iv (nM i0), iv (nK i1), iv (nB i1), iv (2 : Int32), iv (nC0 i4), iv (nC1 i4), iv (nC2 i5), rv b313, .unset, .unset, .unset, .unset, .unset, .unset, .unset, .unset] [(.int (nC1 i4)), (.int (1 : Int32)), (.ref b313)]
      exact k)
    obtain ⟨cl320, Ar320, q320, S320, M320, H320, G320⟩ := id V317
    obtain ⟨T321, h321, X321, e321, W321, st321⟩ := stI X317 hx hZ e317 Ar320 (j := (1 : Int32)) (inb_of S320 ⟨by decide, by decide⟩) (g := (mkF m 100 #[iv i0, iv i1, iv i2, iv i3, .val (.long i4), .second, iv i5, iv (nM i0), iv (nK i1), iv (nB i1), iv (2 : Int32), iv (nC0 i4), iv (nC1 i4), iv (nC2 i5), rv b313, .unset, .unset, .unset, .unset, .unset, .unset, .unset, .unset] [(.int (nC1 i4)), (.int (1 : Int32)), (.ref b313)])) rfl rfl (hb hby at_100)
    have N321 := Fr.snoc X321 N317 ng313
    have V321 : Arv Z h321 b313 k313 .int (2 : Int32) [(.int (nC0 i4)), (.int (nC1 i4))] (.int (0 : Int32)) := Arv.set Ar320 q320 S320 M320 H320 G320 rfl W321 1 rfl (Nat.le_of_ble_eq_true rfl)
    have g322 : Goes p e below S0 (T321.setTop (mkF m 101 #[iv i0, iv i1, iv i2, iv i3, .val (.long i4), .second, iv i5, iv (nM i0), iv (nK i1), iv (nB i1), iv (2 : Int32), iv (nC0 i4), iv (nC1 i4), iv (nC2 i5), rv b313, .unset, .unset, .unset, .unset, .unset, .unset, .unset, .unset] [])) := fun t k => g319 t (st321 t k)
    have g323 : Goes p e below S0 (T321.setTop (mkF m 113 #[iv i0, iv i1, iv i2, iv i3, .val (.long i4), .second, iv i5, iv (nM i0), iv (nK i1), iv (nB i1), iv (2 : Int32), iv (nC0 i4), iv (nC1 i4), iv (nC2 i5), rv b313, .unset, .unset, .unset, .unset, .unset, .unset, .unset, .unset] [])) := fun t k => g322 t (by
      refine XS.iload X321.here hx rfl (hb hby at_101) rfl ?_
      show Go p e below t T321 m 103 #[iv i0, iv i1, iv i2, iv i3, .val (.long i4), .second, iv i5, iv (nM i0), iv (nK i1), iv (nB i1), iv (2 : Int32), iv (nC0 i4), iv (nC1 i4), iv (nC2 i5), rv b313, .unset, .unset, .unset, .unset, .unset, .unset, .unset, .unset] [(.int (2 : Int32))]
      refine XT.iconstV X321.here hx rfl (3 : Int32) (hb hby at_103) (by decide) ?_
      show Go p e below t T321 m 104 #[iv i0, iv i1, iv i2, iv i3, .val (.long i4), .second, iv i5, iv (nM i0), iv (nK i1), iv (nB i1), iv (2 : Int32), iv (nC0 i4), iv (nC1 i4), iv (nC2 i5), rv b313, .unset, .unset, .unset, .unset, .unset, .unset, .unset, .unset] [(.int (3 : Int32)), (.int (2 : Int32))]
      refine XS.icmpYes X321.here hx rfl (pc0 := 104) (pc' := 113) rfl (hb hby at_104) rfl (XT.ii_lt_t (by decide)) (by decide) (by decide) ?_
      show Go p e below t T321 m 113 #[iv i0, iv i1, iv i2, iv i3, .val (.long i4), .second, iv i5, iv (nM i0), iv (nK i1), iv (nB i1), iv (2 : Int32), iv (nC0 i4), iv (nC1 i4), iv (nC2 i5), rv b313, .unset, .unset, .unset, .unset, .unset, .unset, .unset, .unset] []
      exact k)
    obtain ⟨T324, h324, X324, e324, E324, A324, D324, -, st324⟩ := newO X321 hx hZ hown (hw _ (List.mem_of_getElem? (i := 7) rfl)) (hw _ (List.mem_of_getElem? (i := 8) rfl)) (hw _ (List.mem_of_getElem? (i := 9) rfl)) e321 (g := (mkF m 113 #[iv i0, iv i1, iv i2, iv i3, .val (.long i4), .second, iv i5, iv (nM i0), iv (nK i1), iv (nB i1), iv (2 : Int32), iv (nC0 i4), iv (nC1 i4), iv (nC2 i5), rv b313, .unset, .unset, .unset, .unset, .unset, .unset, .unset, .unset] [])) rfl (hb hby at_113) (by decide) (by decide)
    obtain ⟨b324, gb324⟩ : ∃ z, z = h321.size := ⟨_, rfl⟩
    have sz324 : h0.size ≤ b324 := Nat.le_trans (Nat.le_trans (Nat.le_trans (Nat.le_trans (Nat.le_refl _) E313.1) (Nat.le_of_eq W317.size.symm)) (Nat.le_of_eq W321.size.symm)) (Nat.le_of_eq gb324.symm)
    have ng324 : n0 ≤ b324 := Nat.le_trans Z0 sz324
    rw [← gb324] at A324 D324 st324
    have F324_325 : Fld Z h324 b324 "com/example/hetmo/hetmo/tree/StoppingRules" "_minLeaf" "I" (.int (0 : Int32)) := D324 (Or.inr (hw _ (List.mem_of_getElem? (i := 26) rfl))) (ty := .int) (by decide)
    have F324_326 : Fld Z h324 b324 "com/example/hetmo/hetmo/tree/StoppingRules" "_minShare" "D" (.double (0 : UInt64)) := D324 (Or.inr (hw _ (List.mem_of_getElem? (i := 28) rfl))) (ty := .double) (by decide)
    have F324_327 : Fld Z h324 b324 "com/example/hetmo/hetmo/tree/StoppingRules" "_minImprovement" "D" (.double (0 : UInt64)) := D324 (Or.inr (hw _ (List.mem_of_getElem? (i := 30) rfl))) (ty := .double) (by decide)
    have F324_328 : Fld Z h324 b324 "com/example/hetmo/hetmo/tree/StoppingRules" "_maxDepth" "I" (.int (0 : Int32)) := D324 (Or.inr (hw _ (List.mem_of_getElem? (i := 32) rfl))) (ty := .int) (by decide)
    have F324_329 : Fld Z h324 b324 "com/example/hetmo/hetmo/tree/StoppingRules" "_countedApartBy" "[D" .null := D324 (Or.inr (hw _ (List.mem_of_getElem? (i := 34) rfl))) (ty := (.array .double)) (by decide)
    have F324_330 : Fld Z h324 b324 "com/example/hetmo/hetmo/tree/StoppingRules" "_shareOfNode" "Z" (.int (0 : Int32)) := D324 (Or.inr (hw _ (List.mem_of_getElem? (i := 36) rfl))) (ty := .boolean) (by decide)
    have F324_331 : Fld Z h324 b324 "com/example/hetmo/hetmo/tree/StoppingRules" "_countingEstimatingRows" "Z" (.int (0 : Int32)) := D324 (Or.inr (hw _ (List.mem_of_getElem? (i := 38) rfl))) (ty := .boolean) (by decide)
    have g332 : Goes p e below S0 (T324.setTop (mkF m 116 #[iv i0, iv i1, iv i2, iv i3, .val (.long i4), .second, iv i5, iv (nM i0), iv (nK i1), iv (nB i1), iv (2 : Int32), iv (nC0 i4), iv (nC1 i4), iv (nC2 i5), rv b313, .unset, .unset, .unset, .unset, .unset, .unset, .unset, .unset] [(.ref b324)])) := fun t k => g323 t (st324 t k)
    have g333 : Goes p e below S0 (T324.setTop (mkF m 128 #[iv i0, iv i1, iv i2, iv i3, .val (.long i4), .second, iv i5, iv (nM i0), iv (nK i1), iv (nB i1), iv (2 : Int32), iv (nC0 i4), iv (nC1 i4), iv (nC2 i5), rv b313, .unset, .unset, .unset, .unset, .unset, .unset, .unset, .unset] [(.int (0 : Int32)), (.double (0 : UInt64)), (.double (nS i1)), (.int (nM i0)), (.ref b324), (.ref b324)])) := fun t k => g332 t (by
      refine XS.dup X324.here hx rfl (hb hby at_116) rfl rfl ?_
      show Go p e below t T324 m 117 #[iv i0, iv i1, iv i2, iv i3, .val (.long i4), .second, iv i5, iv (nM i0), iv (nK i1), iv (nB i1), iv (2 : Int32), iv (nC0 i4), iv (nC1 i4), iv (nC2 i5), rv b313, .unset, .unset, .unset, .unset, .unset, .unset, .unset, .unset] [(.ref b324), (.ref b324)]
      refine XS.iload X324.here hx rfl (hb hby at_117) rfl ?_
      show Go p e below t T324 m 119 #[iv i0, iv i1, iv i2, iv i3, .val (.long i4), .second, iv i5, iv (nM i0), iv (nK i1), iv (nB i1), iv (2 : Int32), iv (nC0 i4), iv (nC1 i4), iv (nC2 i5), rv b313, .unset, .unset, .unset, .unset, .unset, .unset, .unset, .unset] [(.int (nM i0)), (.ref b324), (.ref b324)]
      refine XS.iload X324.here hx rfl (hb hby at_119) rfl ?_
      show Go p e below t T324 m 121 #[iv i0, iv i1, iv i2, iv i3, .val (.long i4), .second, iv i5, iv (nM i0), iv (nK i1), iv (nB i1), iv (2 : Int32), iv (nC0 i4), iv (nC1 i4), iv (nC2 i5), rv b313, .unset, .unset, .unset, .unset, .unset, .unset, .unset, .unset] [(.int (nK i1)), (.int (nM i0)), (.ref b324), (.ref b324)]
      refine XS.i2dS X324.here hx rfl (hb hby at_121) rfl rfl ?_
      show Go p e below t T324 m 122 #[iv i0, iv i1, iv i2, iv i3, .val (.long i4), .second, iv i5, iv (nM i0), iv (nK i1), iv (nB i1), iv (2 : Int32), iv (nC0 i4), iv (nC1 i4), iv (nC2 i5), rv b313, .unset, .unset, .unset, .unset, .unset, .unset, .unset, .unset] [(.double (FP.i2d (nK i1))), (.int (nM i0)), (.ref b324), (.ref b324)]
      refine X324.ldc2DoubleC hx hown (mvT hZ (hw _ (List.mem_of_getElem? (i := 10) rfl))) (g := (mkF m 122 #[iv i0, iv i1, iv i2, iv i3, .val (.long i4), .second, iv i5, iv (nM i0), iv (nK i1), iv (nB i1), iv (2 : Int32), iv (nC0 i4), iv (nC1 i4), iv (nC2 i5), rv b313, .unset, .unset, .unset, .unset, .unset, .unset, .unset, .unset] [(.double (FP.i2d (nK i1))), (.int (nM i0)), (.ref b324), (.ref b324)])) rfl (hb hby at_122) _ ?_
      show Go p e below t T324 m 125 #[iv i0, iv i1, iv i2, iv i3, .val (.long i4), .second, iv i5, iv (nM i0), iv (nK i1), iv (nB i1), iv (2 : Int32), iv (nC0 i4), iv (nC1 i4), iv (nC2 i5), rv b313, .unset, .unset, .unset, .unset, .unset, .unset, .unset, .unset] [(.double (4620693217682128896 : UInt64)), (.double (FP.i2d (nK i1))), (.int (nM i0)), (.ref b324), (.ref b324)]
      refine XS.ddivS X324.here hx rfl (hb hby at_125) rfl (own_qd i1) rfl ?_
      show Go p e below t T324 m 126 #[iv i0, iv i1, iv i2, iv i3, .val (.long i4), .second, iv i5, iv (nM i0), iv (nK i1), iv (nB i1), iv (2 : Int32), iv (nC0 i4), iv (nC1 i4), iv (nC2 i5), rv b313, .unset, .unset, .unset, .unset, .unset, .unset, .unset, .unset] [(.double (FP.ddiv (FP.i2d (nK i1)) (4620693217682128896 : UInt64))), (.int (nM i0)), (.ref b324), (.ref b324)]
      show Go p e below t T324 m 126 #[iv i0, iv i1, iv i2, iv i3, .val (.long i4), .second, iv i5, iv (nM i0), iv (nK i1), iv (nB i1), iv (2 : Int32), iv (nC0 i4), iv (nC1 i4), iv (nC2 i5), rv b313, .unset, .unset, .unset, .unset, .unset, .unset, .unset, .unset] [(.double (nS i1)), (.int (nM i0)), (.ref b324), (.ref b324)]
      refine XS.dconst0 X324.here hx rfl (hb hby at_126) (v := (0 : UInt64)) rfl ?_
      show Go p e below t T324 m 127 #[iv i0, iv i1, iv i2, iv i3, .val (.long i4), .second, iv i5, iv (nM i0), iv (nK i1), iv (nB i1), iv (2 : Int32), iv (nC0 i4), iv (nC1 i4), iv (nC2 i5), rv b313, .unset, .unset, .unset, .unset, .unset, .unset, .unset, .unset] [(.double (0 : UInt64)), (.double (nS i1)), (.int (nM i0)), (.ref b324), (.ref b324)]
      refine XT.iconstV X324.here hx rfl (0 : Int32) (hb hby at_127) (by decide) ?_
      show Go p e below t T324 m 128 #[iv i0, iv i1, iv i2, iv i3, .val (.long i4), .second, iv i5, iv (nM i0), iv (nK i1), iv (nB i1), iv (2 : Int32), iv (nC0 i4), iv (nC1 i4), iv (nC2 i5), rv b313, .unset, .unset, .unset, .unset, .unset, .unset, .unset, .unset] [(.int (0 : Int32)), (.double (0 : UInt64)), (.double (nS i1)), (.int (nM i0)), (.ref b324), (.ref b324)]
      exact k)
    obtain ⟨_, _, ⟨T334, L334, k334, n334⟩, -, X334, ⟨Lc334, hQ334, l334, y334, z334⟩, st334⟩ := X324.specialBack hx (y := (⟨"com/example/hetmo/hetmo/tree/StoppingRules", "<init>", "(IDDI)V"⟩ : MethodName)) rfl hown (mvT hZ (hw _ (List.mem_of_getElem? (i := 11) rfl))) (mvT hZ (hw _ (List.mem_of_getElem? (i := 12) rfl))) (mvT hZ (hw _ (List.mem_of_getElem? (i := 13) rfl))) (by decide) (backOf (W := 1) (rm_ini l Z a0 hw [] b324 (nM i0) (nS i1) (0 : UInt64) (0 : Int32)  h324 n0 (Nat.le_trans Z0 (Nat.le_trans (Nat.le_trans (Nat.le_trans (Nat.le_trans (Nat.le_refl _) E313.1) (Nat.le_of_eq W317.size.symm)) (Nat.le_of_eq W321.size.symm)) E324.1)) A324 F324_325 F324_326 F324_327 F324_328 F324_329 F324_330 F324_331 ng324 (own_q1 i0) (own_q2 i1) (own_q3 i1) (by decide +kernel) (by unfold Jvm.Free.Fl.NoNaN64; decide) (by decide +kernel) (by decide)) hZ (hw _ (List.mem_of_getElem? (i := 13) rfl)) (hw _ (List.mem_of_getElem? (i := 9) rfl)) (by decide) (by decide)) (g := (mkF m 128 #[iv i0, iv i1, iv i2, iv i3, .val (.long i4), .second, iv i5, iv (nM i0), iv (nK i1), iv (nB i1), iv (2 : Int32), iv (nC0 i4), iv (nC1 i4), iv (nC2 i5), rv b313, .unset, .unset, .unset, .unset, .unset, .unset, .unset, .unset] [(.int (0 : Int32)), (.double (0 : UInt64)), (.double (nS i1)), (.int (nM i0)), (.ref b324), (.ref b324)])) rfl (by rw [hml]; rfl) (Steps.refl _) (a := b324) (argsL := [(.int (nM i0)), (.double (nS i1)), (.double (0 : UInt64)), (.int (0 : Int32))]) (rest := [(.ref b324)]) (lenOf pd3 rfl) rfl (by show 2 * 0 + _ ≤ _; exact Nat.le_of_eq rfl) (hb hby at_128) (fun _ _ => ⟨rfl, e324, (by decide : 2 + 0 ≤ _), (by decide : 9 + 0 ≤ _)⟩)
    dsimp only [Pt.U, Pt.locs, Pt.cells, Pt.slots] at X334 l334 y334 z334 st334 hQ334
    subst l334 y334 z334
    obtain ⟨rfl, N334, R334_0, R334_1, R334_2, R334_3, R334_4, R334_5, R334_6, R334_7, R334_8⟩ := hQ334
    have M334 := Fr.app N321 N334
    have g335 : Goes p e below S0 (T334.setTop (mkF m 131 #[iv i0, iv i1, iv i2, iv i3, .val (.long i4), .second, iv i5, iv (nM i0), iv (nK i1), iv (nB i1), iv (2 : Int32), iv (nC0 i4), iv (nC1 i4), iv (nC2 i5), rv b313, .unset, .unset, .unset, .unset, .unset, .unset, .unset, .unset] [(.ref b324)])) := fun t k => g333 t (st334.trans k)
    have g336 : Goes p e below S0 (T334.setTop (mkF m 135 #[iv i0, iv i1, iv i2, iv i3, .val (.long i4), .second, iv i5, iv (nM i0), iv (nK i1), iv (nB i1), iv (2 : Int32), iv (nC0 i4), iv (nC1 i4), iv (nC2 i5), rv b313, rv b324, .unset, .unset, .unset, .unset, .unset, .unset, .unset] [(.int (nB i1))])) := fun t k => g335 t (by
      refine XS.astore X334.here hx rfl (hb hby at_131) rfl rfl (l' := #[iv i0, iv i1, iv i2, iv i3, .val (.long i4), .second, iv i5, iv (nM i0), iv (nK i1), iv (nB i1), iv (2 : Int32), iv (nC0 i4), iv (nC1 i4), iv (nC2 i5), rv b313, rv b324, .unset, .unset, .unset, .unset, .unset, .unset, .unset]) rfl ?_
      show Go p e below t T334 m 133 #[iv i0, iv i1, iv i2, iv i3, .val (.long i4), .second, iv i5, iv (nM i0), iv (nK i1), iv (nB i1), iv (2 : Int32), iv (nC0 i4), iv (nC1 i4), iv (nC2 i5), rv b313, rv b324, .unset, .unset, .unset, .unset, .unset, .unset, .unset] []
      refine XS.iload X334.here hx rfl (hb hby at_133) rfl ?_
      show Go p e below t T334 m 135 #[iv i0, iv i1, iv i2, iv i3, .val (.long i4), .second, iv i5, iv (nM i0), iv (nK i1), iv (nB i1), iv (2 : Int32), iv (nC0 i4), iv (nC1 i4), iv (nC2 i5), rv b313, rv b324, .unset, .unset, .unset, .unset, .unset, .unset, .unset] [(.int (nB i1))]
      exact k)
    by_cases h337 : (nB i1) = 0
    · skip
      have g338 : Goes p e below S0 (T334.setTop (mkF m 151 #[iv i0, iv i1, iv i2, iv i3, .val (.long i4), .second, iv i5, iv (nM i0), iv (nK i1), iv (nB i1), iv (2 : Int32), iv (nC0 i4), iv (nC1 i4), iv (nC2 i5), rv b313, rv b324, .unset, .unset, .unset, .unset, .unset, .unset, .unset] [(.int i3), (.int i2), (.ref b313), (.ref b324)])) := fun t k => g336 t (by
        refine XS.ifYes X334.here hx rfl (pc0 := 135) (pc' := 145) rfl (hb hby at_135) rfl (XT.i0_eq_t h337) (by decide) (by decide) ?_
        show Go p e below t T334 m 145 #[iv i0, iv i1, iv i2, iv i3, .val (.long i4), .second, iv i5, iv (nM i0), iv (nK i1), iv (nB i1), iv (2 : Int32), iv (nC0 i4), iv (nC1 i4), iv (nC2 i5), rv b313, rv b324, .unset, .unset, .unset, .unset, .unset, .unset, .unset] []
        refine XS.aload X334.here hx rfl (hb hby at_145) rfl rfl ?_
        show Go p e below t T334 m 147 #[iv i0, iv i1, iv i2, iv i3, .val (.long i4), .second, iv i5, iv (nM i0), iv (nK i1), iv (nB i1), iv (2 : Int32), iv (nC0 i4), iv (nC1 i4), iv (nC2 i5), rv b313, rv b324, .unset, .unset, .unset, .unset, .unset, .unset, .unset] [(.ref b324)]
        refine XS.aload X334.here hx rfl (hb hby at_147) rfl rfl ?_
        show Go p e below t T334 m 149 #[iv i0, iv i1, iv i2, iv i3, .val (.long i4), .second, iv i5, iv (nM i0), iv (nK i1), iv (nB i1), iv (2 : Int32), iv (nC0 i4), iv (nC1 i4), iv (nC2 i5), rv b313, rv b324, .unset, .unset, .unset, .unset, .unset, .unset, .unset] [(.ref b313), (.ref b324)]
        refine XS.iloadN X334.here hx rfl (hb hby at_149) rfl ?_
        show Go p e below t T334 m 150 #[iv i0, iv i1, iv i2, iv i3, .val (.long i4), .second, iv i5, iv (nM i0), iv (nK i1), iv (nB i1), iv (2 : Int32), iv (nC0 i4), iv (nC1 i4), iv (nC2 i5), rv b313, rv b324, .unset, .unset, .unset, .unset, .unset, .unset, .unset] [(.int i2), (.ref b313), (.ref b324)]
        refine XS.iloadN X334.here hx rfl (hb hby at_150) rfl ?_
        show Go p e below t T334 m 151 #[iv i0, iv i1, iv i2, iv i3, .val (.long i4), .second, iv i5, iv (nM i0), iv (nK i1), iv (nB i1), iv (2 : Int32), iv (nC0 i4), iv (nC1 i4), iv (nC2 i5), rv b313, rv b324, .unset, .unset, .unset, .unset, .unset, .unset, .unset] [(.int i3), (.int i2), (.ref b313), (.ref b324)]
        exact k)
      obtain ⟨cq339, kq339, q339a, q339b, q339c⟩ := isOf hZ rfl R334_1
      obtain ⟨_, _, ⟨T339, L339, k339, n339⟩, -, X339, ⟨Lc339, hQ339, l339, y339, z339⟩, st339⟩ := X334.virtualBack hx (y := (⟨"com/example/hetmo/hetmo/tree/StoppingRules", "admits", "([III)Z"⟩ : MethodName)) (z := (⟨"com/example/hetmo/hetmo/tree/StoppingRules", "admits", "([III)Z"⟩ : MethodName)) hown (mvT hZ (hw _ (List.mem_of_getElem? (i := 39) rfl))) (mvT hZ (hw _ (List.mem_of_getElem? (i := 40) rfl))) (notFace_of_selects (args := #[]) (mvT hZ (hw _ (List.mem_of_getElem? (i := 42) rfl)))) (mvT hZ (hw _ (List.mem_of_getElem? (i := 42) rfl))) (mvT hZ (hw _ (List.mem_of_getElem? (i := 41) rfl))) (by decide) (backOf (W := 0) (rm_ad2 l Z a0 hw [] b324 b313 i2 i3 (nM i0) (nS i1) (0 : Int32) k313 (nC0 i4) (nC1 i4) T334.heap n0 (Nat.le_trans Z0 (Nat.le_trans (Nat.le_trans (Nat.le_trans (Nat.le_trans (Nat.le_trans (Nat.le_refl _) E313.1) (Nat.le_of_eq W317.size.symm)) (Nat.le_of_eq W321.size.symm)) E324.1) R334_0.1)) R334_2 R334_3 R334_7 ((V321.ext E324).keep R334_0 (ninS (Nat.ne_of_lt (Nat.lt_of_lt_of_le V321.lt (Nat.le_of_eq gb324.symm))) nin0)) (own_qf i1)) hZ (hw _ (List.mem_of_getElem? (i := 43) rfl)) (hw _ (List.mem_of_getElem? (i := 9) rfl)) (by decide) (by decide)) q339a q339c (g := (mkF m 151 #[iv i0, iv i1, iv i2, iv i3, .val (.long i4), .second, iv i5, iv (nM i0), iv (nK i1), iv (nB i1), iv (2 : Int32), iv (nC0 i4), iv (nC1 i4), iv (nC2 i5), rv b313, rv b324, .unset, .unset, .unset, .unset, .unset, .unset, .unset] [(.int i3), (.int i2), (.ref b313), (.ref b324)])) rfl (by rw [hml]; rfl) (Steps.refl _) (argsL := [(.ref b313), (.int i2), (.int i3)]) (rest := []) (lenOf pd6 rfl) rfl (by show 2 * 0 + _ ≤ _; exact Nat.le_of_eq rfl) (hb hby at_151) (fun _ _ => ⟨rfl, rfl, (by decide : 2 + 0 ≤ _), (by decide : 9 + 0 ≤ _)⟩)
      dsimp only [Pt.U, Pt.locs, Pt.cells, Pt.slots] at X339 l339 y339 z339 st339 hQ339
      subst l339 y339 z339
      obtain ⟨rfl, N339, e339⟩ := hQ339
      have M339 := Fr.app M334 N339
      have g340 : Goes p e below S0 (T339.setTop (mkF m 154 #[iv i0, iv i1, iv i2, iv i3, .val (.long i4), .second, iv i5, iv (nM i0), iv (nK i1), iv (nB i1), iv (2 : Int32), iv (nC0 i4), iv (nC1 i4), iv (nC2 i5), rv b313, rv b324, .unset, .unset, .unset, .unset, .unset, .unset, .unset] [(.int (f_ad2 i2 i3 (nM i0) (nS i1) (0 : Int32) (nC0 i4) (nC1 i4)))])) := fun t k => g338 t (st339.trans k)
      have g341 : Goes p e below S0 (T339.setTop (mkF m 168 #[iv i0, iv i1, iv i2, iv i3, .val (.long i4), .second, iv i5, iv (nM i0), iv (nK i1), iv (nB i1), iv (2 : Int32), iv (nC0 i4), iv (nC1 i4), iv (nC2 i5), rv b313, rv b324, iv (f_ad2 i2 i3 (nM i0) (nS i1) (0 : Int32) (nC0 i4) (nC1 i4)), iv (1 : Int32), .val (.long (0 : Int64)), .second, .unset, .unset, .unset] [])) := fun t k => g340 t (by
        refine XS.istore X339.here hx rfl (hb hby at_154) rfl (l' := #[iv i0, iv i1, iv i2, iv i3, .val (.long i4), .second, iv i5, iv (nM i0), iv (nK i1), iv (nB i1), iv (2 : Int32), iv (nC0 i4), iv (nC1 i4), iv (nC2 i5), rv b313, rv b324, iv (f_ad2 i2 i3 (nM i0) (nS i1) (0 : Int32) (nC0 i4) (nC1 i4)), .unset, .unset, .unset, .unset, .unset, .unset]) rfl ?_
        show Go p e below t T339 m 156 #[iv i0, iv i1, iv i2, iv i3, .val (.long i4), .second, iv i5, iv (nM i0), iv (nK i1), iv (nB i1), iv (2 : Int32), iv (nC0 i4), iv (nC1 i4), iv (nC2 i5), rv b313, rv b324, iv (f_ad2 i2 i3 (nM i0) (nS i1) (0 : Int32) (nC0 i4) (nC1 i4)), .unset, .unset, .unset, .unset, .unset, .unset] []
        refine XT.iconstV X339.here hx rfl (1 : Int32) (hb hby at_156) (by decide) ?_
        show Go p e below t T339 m 157 #[iv i0, iv i1, iv i2, iv i3, .val (.long i4), .second, iv i5, iv (nM i0), iv (nK i1), iv (nB i1), iv (2 : Int32), iv (nC0 i4), iv (nC1 i4), iv (nC2 i5), rv b313, rv b324, iv (f_ad2 i2 i3 (nM i0) (nS i1) (0 : Int32) (nC0 i4) (nC1 i4)), .unset, .unset, .unset, .unset, .unset, .unset] [(.int (1 : Int32))]
        refine XS.istore X339.here hx rfl (hb hby at_157) rfl (l' := #[iv i0, iv i1, iv i2, iv i3, .val (.long i4), .second, iv i5, iv (nM i0), iv (nK i1), iv (nB i1), iv (2 : Int32), iv (nC0 i4), iv (nC1 i4), iv (nC2 i5), rv b313, rv b324, iv (f_ad2 i2 i3 (nM i0) (nS i1) (0 : Int32) (nC0 i4) (nC1 i4)), iv (1 : Int32), .unset, .unset, .unset, .unset, .unset]) rfl ?_
        show Go p e below t T339 m 159 #[iv i0, iv i1, iv i2, iv i3, .val (.long i4), .second, iv i5, iv (nM i0), iv (nK i1), iv (nB i1), iv (2 : Int32), iv (nC0 i4), iv (nC1 i4), iv (nC2 i5), rv b313, rv b324, iv (f_ad2 i2 i3 (nM i0) (nS i1) (0 : Int32) (nC0 i4) (nC1 i4)), iv (1 : Int32), .unset, .unset, .unset, .unset, .unset] []
        refine XT.lconstV X339.here hx rfl (0 : Int64) (hb hby at_159) (by decide) ?_
        show Go p e below t T339 m 160 #[iv i0, iv i1, iv i2, iv i3, .val (.long i4), .second, iv i5, iv (nM i0), iv (nK i1), iv (nB i1), iv (2 : Int32), iv (nC0 i4), iv (nC1 i4), iv (nC2 i5), rv b313, rv b324, iv (f_ad2 i2 i3 (nM i0) (nS i1) (0 : Int32) (nC0 i4) (nC1 i4)), iv (1 : Int32), .unset, .unset, .unset, .unset, .unset] [(.long (0 : Int64))]
        refine XS.lstore X339.here hx rfl (hb hby at_160) rfl (l' := #[iv i0, iv i1, iv i2, iv i3, .val (.long i4), .second, iv i5, iv (nM i0), iv (nK i1), iv (nB i1), iv (2 : Int32), iv (nC0 i4), iv (nC1 i4), iv (nC2 i5), rv b313, rv b324, iv (f_ad2 i2 i3 (nM i0) (nS i1) (0 : Int32) (nC0 i4) (nC1 i4)), iv (1 : Int32), .val (.long (0 : Int64)), .second, .unset, .unset, .unset]) rfl ?_
        show Go p e below t T339 m 162 #[iv i0, iv i1, iv i2, iv i3, .val (.long i4), .second, iv i5, iv (nM i0), iv (nK i1), iv (nB i1), iv (2 : Int32), iv (nC0 i4), iv (nC1 i4), iv (nC2 i5), rv b313, rv b324, iv (f_ad2 i2 i3 (nM i0) (nS i1) (0 : Int32) (nC0 i4) (nC1 i4)), iv (1 : Int32), .val (.long (0 : Int64)), .second, .unset, .unset, .unset] []
        refine XS.iload X339.here hx rfl (hb hby at_162) rfl ?_
        show Go p e below t T339 m 164 #[iv i0, iv i1, iv i2, iv i3, .val (.long i4), .second, iv i5, iv (nM i0), iv (nK i1), iv (nB i1), iv (2 : Int32), iv (nC0 i4), iv (nC1 i4), iv (nC2 i5), rv b313, rv b324, iv (f_ad2 i2 i3 (nM i0) (nS i1) (0 : Int32) (nC0 i4) (nC1 i4)), iv (1 : Int32), .val (.long (0 : Int64)), .second, .unset, .unset, .unset] [(.int (2 : Int32))]
        refine XT.iconstV X339.here hx rfl (1 : Int32) (hb hby at_164) (by decide) ?_
        show Go p e below t T339 m 165 #[iv i0, iv i1, iv i2, iv i3, .val (.long i4), .second, iv i5, iv (nM i0), iv (nK i1), iv (nB i1), iv (2 : Int32), iv (nC0 i4), iv (nC1 i4), iv (nC2 i5), rv b313, rv b324, iv (f_ad2 i2 i3 (nM i0) (nS i1) (0 : Int32) (nC0 i4) (nC1 i4)), iv (1 : Int32), .val (.long (0 : Int64)), .second, .unset, .unset, .unset] [(.int (1 : Int32)), (.int (2 : Int32))]
        refine XS.icmpNo X339.here hx rfl (hb hby at_165) rfl (XT.ii_lt_f (by decide)) ?_
        show Go p e below t T339 m 168 #[iv i0, iv i1, iv i2, iv i3, .val (.long i4), .second, iv i5, iv (nM i0), iv (nK i1), iv (nB i1), iv (2 : Int32), iv (nC0 i4), iv (nC1 i4), iv (nC2 i5), rv b313, rv b324, iv (f_ad2 i2 i3 (nM i0) (nS i1) (0 : Int32) (nC0 i4) (nC1 i4)), iv (1 : Int32), .val (.long (0 : Int64)), .second, .unset, .unset, .unset] []
        exact k)
      have gf342 : Goes p e below S0 (T339.setTop (mkF m 178 #[iv i0, iv i1, iv i2, iv i3, .val (.long i4), .second, iv i5, iv (nM i0), iv (nK i1), iv (nB i1), iv (2 : Int32), iv (nC0 i4), iv (nC1 i4), iv (nC2 i5), rv b313, rv b324, iv (f_ad2 i2 i3 (nM i0) (nS i1) (0 : Int32) (nC0 i4) (nC1 i4)), iv (own_all (1 : Int32) (nC0 i4) (nM i0)), .val (.long (0 : Int64)), .second, .unset, .unset, .unset] [])) := by
        have g343 : Goes p e below S0 (T339.setTop (mkF m 172 #[iv i0, iv i1, iv i2, iv i3, .val (.long i4), .second, iv i5, iv (nM i0), iv (nK i1), iv (nB i1), iv (2 : Int32), iv (nC0 i4), iv (nC1 i4), iv (nC2 i5), rv b313, rv b324, iv (f_ad2 i2 i3 (nM i0) (nS i1) (0 : Int32) (nC0 i4) (nC1 i4)), iv (1 : Int32), .val (.long (0 : Int64)), .second, .unset, .unset, .unset] [(.int (nM i0)), (.int (nC0 i4))])) := fun t k => g341 t (by
          refine XS.iload X339.here hx rfl (hb hby at_168) rfl ?_
          show Go p e below t T339 m 170 #[iv i0, iv i1, iv i2, iv i3, .val (.long i4), .second, iv i5, iv (nM i0), iv (nK i1), iv (nB i1), iv (2 : Int32), iv (nC0 i4), iv (nC1 i4), iv (nC2 i5), rv b313, rv b324, iv (f_ad2 i2 i3 (nM i0) (nS i1) (0 : Int32) (nC0 i4) (nC1 i4)), iv (1 : Int32), .val (.long (0 : Int64)), .second, .unset, .unset, .unset] [(.int (nC0 i4))]
          refine XS.iload X339.here hx rfl (hb hby at_170) rfl ?_
          show Go p e below t T339 m 172 #[iv i0, iv i1, iv i2, iv i3, .val (.long i4), .second, iv i5, iv (nM i0), iv (nK i1), iv (nB i1), iv (2 : Int32), iv (nC0 i4), iv (nC1 i4), iv (nC2 i5), rv b313, rv b324, iv (f_ad2 i2 i3 (nM i0) (nS i1) (0 : Int32) (nC0 i4) (nC1 i4)), iv (1 : Int32), .val (.long (0 : Int64)), .second, .unset, .unset, .unset] [(.int (nM i0)), (.int (nC0 i4))]
          exact k)
        by_cases h344 : (nC0 i4) < (nM i0)
        · skip
          have g345 : Goes p e below S0 (T339.setTop (mkF m 178 #[iv i0, iv i1, iv i2, iv i3, .val (.long i4), .second, iv i5, iv (nM i0), iv (nK i1), iv (nB i1), iv (2 : Int32), iv (nC0 i4), iv (nC1 i4), iv (nC2 i5), rv b313, rv b324, iv (f_ad2 i2 i3 (nM i0) (nS i1) (0 : Int32) (nC0 i4) (nC1 i4)), iv (0 : Int32), .val (.long (0 : Int64)), .second, .unset, .unset, .unset] [])) := fun t k => g343 t (by
            refine XS.icmpNo X339.here hx rfl (hb hby at_172) rfl (XT.ii_ge_f h344) ?_
            show Go p e below t T339 m 175 #[iv i0, iv i1, iv i2, iv i3, .val (.long i4), .second, iv i5, iv (nM i0), iv (nK i1), iv (nB i1), iv (2 : Int32), iv (nC0 i4), iv (nC1 i4), iv (nC2 i5), rv b313, rv b324, iv (f_ad2 i2 i3 (nM i0) (nS i1) (0 : Int32) (nC0 i4) (nC1 i4)), iv (1 : Int32), .val (.long (0 : Int64)), .second, .unset, .unset, .unset] []
            refine XT.iconstV X339.here hx rfl (0 : Int32) (hb hby at_175) (by decide) ?_
            show Go p e below t T339 m 176 #[iv i0, iv i1, iv i2, iv i3, .val (.long i4), .second, iv i5, iv (nM i0), iv (nK i1), iv (nB i1), iv (2 : Int32), iv (nC0 i4), iv (nC1 i4), iv (nC2 i5), rv b313, rv b324, iv (f_ad2 i2 i3 (nM i0) (nS i1) (0 : Int32) (nC0 i4) (nC1 i4)), iv (1 : Int32), .val (.long (0 : Int64)), .second, .unset, .unset, .unset] [(.int (0 : Int32))]
            refine XS.istore X339.here hx rfl (hb hby at_176) rfl (l' := #[iv i0, iv i1, iv i2, iv i3, .val (.long i4), .second, iv i5, iv (nM i0), iv (nK i1), iv (nB i1), iv (2 : Int32), iv (nC0 i4), iv (nC1 i4), iv (nC2 i5), rv b313, rv b324, iv (f_ad2 i2 i3 (nM i0) (nS i1) (0 : Int32) (nC0 i4) (nC1 i4)), iv (0 : Int32), .val (.long (0 : Int64)), .second, .unset, .unset, .unset]) rfl ?_
            show Go p e below t T339 m 178 #[iv i0, iv i1, iv i2, iv i3, .val (.long i4), .second, iv i5, iv (nM i0), iv (nK i1), iv (nB i1), iv (2 : Int32), iv (nC0 i4), iv (nC1 i4), iv (nC2 i5), rv b313, rv b324, iv (f_ad2 i2 i3 (nM i0) (nS i1) (0 : Int32) (nC0 i4) (nC1 i4)), iv (0 : Int32), .val (.long (0 : Int64)), .second, .unset, .unset, .unset] []
            exact k)
          have e342_0 : (own_all (1 : Int32) (nC0 i4) (nM i0)) = (0 : Int32) := by first | exact if_pos h344 | (unfold own_all; first | (rw [if_pos h344]; done) | (simp [h344]; done) | (rw [if_pos h344]; decide))
          rw [e342_0]; exact g345
        · skip
          have g346 : Goes p e below S0 (T339.setTop (mkF m 178 #[iv i0, iv i1, iv i2, iv i3, .val (.long i4), .second, iv i5, iv (nM i0), iv (nK i1), iv (nB i1), iv (2 : Int32), iv (nC0 i4), iv (nC1 i4), iv (nC2 i5), rv b313, rv b324, iv (f_ad2 i2 i3 (nM i0) (nS i1) (0 : Int32) (nC0 i4) (nC1 i4)), iv (1 : Int32), .val (.long (0 : Int64)), .second, .unset, .unset, .unset] [])) := fun t k => g343 t (by
            refine XS.icmpYes X339.here hx rfl (pc0 := 172) (pc' := 178) rfl (hb hby at_172) rfl (XT.ii_ge_t h344) (by decide) (by decide) ?_
            show Go p e below t T339 m 178 #[iv i0, iv i1, iv i2, iv i3, .val (.long i4), .second, iv i5, iv (nM i0), iv (nK i1), iv (nB i1), iv (2 : Int32), iv (nC0 i4), iv (nC1 i4), iv (nC2 i5), rv b313, rv b324, iv (f_ad2 i2 i3 (nM i0) (nS i1) (0 : Int32) (nC0 i4) (nC1 i4)), iv (1 : Int32), .val (.long (0 : Int64)), .second, .unset, .unset, .unset] []
            exact k)
          have e342_0 : (own_all (1 : Int32) (nC0 i4) (nM i0)) = (1 : Int32) := by first | exact if_neg h344 | (unfold own_all; first | (rw [if_neg h344]; done) | (simp [h344]; done) | (rw [if_neg h344]; decide))
          rw [e342_0]; exact g346
      have g347 : Goes p e below S0 (T339.setTop (mkF m 192 #[iv i0, iv i1, iv i2, iv i3, .val (.long i4), .second, iv i5, iv (nM i0), iv (nK i1), iv (nB i1), iv (2 : Int32), iv (nC0 i4), iv (nC1 i4), iv (nC2 i5), rv b313, rv b324, iv (f_ad2 i2 i3 (nM i0) (nS i1) (0 : Int32) (nC0 i4) (nC1 i4)), iv (own_all (1 : Int32) (nC0 i4) (nM i0)), .val (.long ((0 : Int64) + ((nC0 i4).toInt64))), .second, .unset, .unset, .unset] [])) := fun t k => gf342 t (by
        refine XS.lload X339.here hx rfl (hb hby at_178) rfl ?_
        show Go p e below t T339 m 180 #[iv i0, iv i1, iv i2, iv i3, .val (.long i4), .second, iv i5, iv (nM i0), iv (nK i1), iv (nB i1), iv (2 : Int32), iv (nC0 i4), iv (nC1 i4), iv (nC2 i5), rv b313, rv b324, iv (f_ad2 i2 i3 (nM i0) (nS i1) (0 : Int32) (nC0 i4) (nC1 i4)), iv (own_all (1 : Int32) (nC0 i4) (nM i0)), .val (.long (0 : Int64)), .second, .unset, .unset, .unset] [(.long (0 : Int64))]
        refine XS.iload X339.here hx rfl (hb hby at_180) rfl ?_
        show Go p e below t T339 m 182 #[iv i0, iv i1, iv i2, iv i3, .val (.long i4), .second, iv i5, iv (nM i0), iv (nK i1), iv (nB i1), iv (2 : Int32), iv (nC0 i4), iv (nC1 i4), iv (nC2 i5), rv b313, rv b324, iv (f_ad2 i2 i3 (nM i0) (nS i1) (0 : Int32) (nC0 i4) (nC1 i4)), iv (own_all (1 : Int32) (nC0 i4) (nM i0)), .val (.long (0 : Int64)), .second, .unset, .unset, .unset] [(.int (nC0 i4)), (.long (0 : Int64))]
        refine XS.i2l X339.here hx rfl (hb hby at_182) rfl ?_
        show Go p e below t T339 m 183 #[iv i0, iv i1, iv i2, iv i3, .val (.long i4), .second, iv i5, iv (nM i0), iv (nK i1), iv (nB i1), iv (2 : Int32), iv (nC0 i4), iv (nC1 i4), iv (nC2 i5), rv b313, rv b324, iv (f_ad2 i2 i3 (nM i0) (nS i1) (0 : Int32) (nC0 i4) (nC1 i4)), iv (own_all (1 : Int32) (nC0 i4) (nM i0)), .val (.long (0 : Int64)), .second, .unset, .unset, .unset] [(.long ((nC0 i4).toInt64)), (.long (0 : Int64))]
        refine XS.ladd X339.here hx rfl (hb hby at_183) rfl ?_
        show Go p e below t T339 m 184 #[iv i0, iv i1, iv i2, iv i3, .val (.long i4), .second, iv i5, iv (nM i0), iv (nK i1), iv (nB i1), iv (2 : Int32), iv (nC0 i4), iv (nC1 i4), iv (nC2 i5), rv b313, rv b324, iv (f_ad2 i2 i3 (nM i0) (nS i1) (0 : Int32) (nC0 i4) (nC1 i4)), iv (own_all (1 : Int32) (nC0 i4) (nM i0)), .val (.long (0 : Int64)), .second, .unset, .unset, .unset] [(.long ((0 : Int64) + ((nC0 i4).toInt64)))]
        refine XS.lstore X339.here hx rfl (hb hby at_184) rfl (l' := #[iv i0, iv i1, iv i2, iv i3, .val (.long i4), .second, iv i5, iv (nM i0), iv (nK i1), iv (nB i1), iv (2 : Int32), iv (nC0 i4), iv (nC1 i4), iv (nC2 i5), rv b313, rv b324, iv (f_ad2 i2 i3 (nM i0) (nS i1) (0 : Int32) (nC0 i4) (nC1 i4)), iv (own_all (1 : Int32) (nC0 i4) (nM i0)), .val (.long ((0 : Int64) + ((nC0 i4).toInt64))), .second, .unset, .unset, .unset]) rfl ?_
        show Go p e below t T339 m 186 #[iv i0, iv i1, iv i2, iv i3, .val (.long i4), .second, iv i5, iv (nM i0), iv (nK i1), iv (nB i1), iv (2 : Int32), iv (nC0 i4), iv (nC1 i4), iv (nC2 i5), rv b313, rv b324, iv (f_ad2 i2 i3 (nM i0) (nS i1) (0 : Int32) (nC0 i4) (nC1 i4)), iv (own_all (1 : Int32) (nC0 i4) (nM i0)), .val (.long ((0 : Int64) + ((nC0 i4).toInt64))), .second, .unset, .unset, .unset] []
        refine XS.iload X339.here hx rfl (hb hby at_186) rfl ?_
        show Go p e below t T339 m 188 #[iv i0, iv i1, iv i2, iv i3, .val (.long i4), .second, iv i5, iv (nM i0), iv (nK i1), iv (nB i1), iv (2 : Int32), iv (nC0 i4), iv (nC1 i4), iv (nC2 i5), rv b313, rv b324, iv (f_ad2 i2 i3 (nM i0) (nS i1) (0 : Int32) (nC0 i4) (nC1 i4)), iv (own_all (1 : Int32) (nC0 i4) (nM i0)), .val (.long ((0 : Int64) + ((nC0 i4).toInt64))), .second, .unset, .unset, .unset] [(.int (2 : Int32))]
        refine XT.iconstV X339.here hx rfl (2 : Int32) (hb hby at_188) (by decide) ?_
        show Go p e below t T339 m 189 #[iv i0, iv i1, iv i2, iv i3, .val (.long i4), .second, iv i5, iv (nM i0), iv (nK i1), iv (nB i1), iv (2 : Int32), iv (nC0 i4), iv (nC1 i4), iv (nC2 i5), rv b313, rv b324, iv (f_ad2 i2 i3 (nM i0) (nS i1) (0 : Int32) (nC0 i4) (nC1 i4)), iv (own_all (1 : Int32) (nC0 i4) (nM i0)), .val (.long ((0 : Int64) + ((nC0 i4).toInt64))), .second, .unset, .unset, .unset] [(.int (2 : Int32)), (.int (2 : Int32))]
        refine XS.icmpNo X339.here hx rfl (hb hby at_189) rfl (XT.ii_lt_f (by decide)) ?_
        show Go p e below t T339 m 192 #[iv i0, iv i1, iv i2, iv i3, .val (.long i4), .second, iv i5, iv (nM i0), iv (nK i1), iv (nB i1), iv (2 : Int32), iv (nC0 i4), iv (nC1 i4), iv (nC2 i5), rv b313, rv b324, iv (f_ad2 i2 i3 (nM i0) (nS i1) (0 : Int32) (nC0 i4) (nC1 i4)), iv (own_all (1 : Int32) (nC0 i4) (nM i0)), .val (.long ((0 : Int64) + ((nC0 i4).toInt64))), .second, .unset, .unset, .unset] []
        exact k)
      have gf348 : Goes p e below S0 (T339.setTop (mkF m 202 #[iv i0, iv i1, iv i2, iv i3, .val (.long i4), .second, iv i5, iv (nM i0), iv (nK i1), iv (nB i1), iv (2 : Int32), iv (nC0 i4), iv (nC1 i4), iv (nC2 i5), rv b313, rv b324, iv (f_ad2 i2 i3 (nM i0) (nS i1) (0 : Int32) (nC0 i4) (nC1 i4)), iv (own_all (own_all (1 : Int32) (nC0 i4) (nM i0)) (nC1 i4) (nM i0)), .val (.long ((0 : Int64) + ((nC0 i4).toInt64))), .second, .unset, .unset, .unset] [])) := by
        have g349 : Goes p e below S0 (T339.setTop (mkF m 196 #[iv i0, iv i1, iv i2, iv i3, .val (.long i4), .second, iv i5, iv (nM i0), iv (nK i1), iv (nB i1), iv (2 : Int32), iv (nC0 i4), iv (nC1 i4), iv (nC2 i5), rv b313, rv b324, iv (f_ad2 i2 i3 (nM i0) (nS i1) (0 : Int32) (nC0 i4) (nC1 i4)), iv (own_all (1 : Int32) (nC0 i4) (nM i0)), .val (.long ((0 : Int64) + ((nC0 i4).toInt64))), .second, .unset, .unset, .unset] [(.int (nM i0)), (.int (nC1 i4))])) := fun t k => g347 t (by
          refine XS.iload X339.here hx rfl (hb hby at_192) rfl ?_
          show Go p e below t T339 m 194 #[iv i0, iv i1, iv i2, iv i3, .val (.long i4), .second, iv i5, iv (nM i0), iv (nK i1), iv (nB i1), iv (2 : Int32), iv (nC0 i4), iv (nC1 i4), iv (nC2 i5), rv b313, rv b324, iv (f_ad2 i2 i3 (nM i0) (nS i1) (0 : Int32) (nC0 i4) (nC1 i4)), iv (own_all (1 : Int32) (nC0 i4) (nM i0)), .val (.long ((0 : Int64) + ((nC0 i4).toInt64))), .second, .unset, .unset, .unset] [(.int (nC1 i4))]
          refine XS.iload X339.here hx rfl (hb hby at_194) rfl ?_
          show Go p e below t T339 m 196 #[iv i0, iv i1, iv i2, iv i3, .val (.long i4), .second, iv i5, iv (nM i0), iv (nK i1), iv (nB i1), iv (2 : Int32), iv (nC0 i4), iv (nC1 i4), iv (nC2 i5), rv b313, rv b324, iv (f_ad2 i2 i3 (nM i0) (nS i1) (0 : Int32) (nC0 i4) (nC1 i4)), iv (own_all (1 : Int32) (nC0 i4) (nM i0)), .val (.long ((0 : Int64) + ((nC0 i4).toInt64))), .second, .unset, .unset, .unset] [(.int (nM i0)), (.int (nC1 i4))]
          exact k)
        by_cases h350 : (nC1 i4) < (nM i0)
        · skip
          have g351 : Goes p e below S0 (T339.setTop (mkF m 202 #[iv i0, iv i1, iv i2, iv i3, .val (.long i4), .second, iv i5, iv (nM i0), iv (nK i1), iv (nB i1), iv (2 : Int32), iv (nC0 i4), iv (nC1 i4), iv (nC2 i5), rv b313, rv b324, iv (f_ad2 i2 i3 (nM i0) (nS i1) (0 : Int32) (nC0 i4) (nC1 i4)), iv (0 : Int32), .val (.long ((0 : Int64) + ((nC0 i4).toInt64))), .second, .unset, .unset, .unset] [])) := fun t k => g349 t (by
            refine XS.icmpNo X339.here hx rfl (hb hby at_196) rfl (XT.ii_ge_f h350) ?_
            show Go p e below t T339 m 199 #[iv i0, iv i1, iv i2, iv i3, .val (.long i4), .second, iv i5, iv (nM i0), iv (nK i1), iv (nB i1), iv (2 : Int32), iv (nC0 i4), iv (nC1 i4), iv (nC2 i5), rv b313, rv b324, iv (f_ad2 i2 i3 (nM i0) (nS i1) (0 : Int32) (nC0 i4) (nC1 i4)), iv (own_all (1 : Int32) (nC0 i4) (nM i0)), .val (.long ((0 : Int64) + ((nC0 i4).toInt64))), .second, .unset, .unset, .unset] []
            refine XT.iconstV X339.here hx rfl (0 : Int32) (hb hby at_199) (by decide) ?_
            show Go p e below t T339 m 200 #[iv i0, iv i1, iv i2, iv i3, .val (.long i4), .second, iv i5, iv (nM i0), iv (nK i1), iv (nB i1), iv (2 : Int32), iv (nC0 i4), iv (nC1 i4), iv (nC2 i5), rv b313, rv b324, iv (f_ad2 i2 i3 (nM i0) (nS i1) (0 : Int32) (nC0 i4) (nC1 i4)), iv (own_all (1 : Int32) (nC0 i4) (nM i0)), .val (.long ((0 : Int64) + ((nC0 i4).toInt64))), .second, .unset, .unset, .unset] [(.int (0 : Int32))]
            refine XS.istore X339.here hx rfl (hb hby at_200) rfl (l' := #[iv i0, iv i1, iv i2, iv i3, .val (.long i4), .second, iv i5, iv (nM i0), iv (nK i1), iv (nB i1), iv (2 : Int32), iv (nC0 i4), iv (nC1 i4), iv (nC2 i5), rv b313, rv b324, iv (f_ad2 i2 i3 (nM i0) (nS i1) (0 : Int32) (nC0 i4) (nC1 i4)), iv (0 : Int32), .val (.long ((0 : Int64) + ((nC0 i4).toInt64))), .second, .unset, .unset, .unset]) rfl ?_
            show Go p e below t T339 m 202 #[iv i0, iv i1, iv i2, iv i3, .val (.long i4), .second, iv i5, iv (nM i0), iv (nK i1), iv (nB i1), iv (2 : Int32), iv (nC0 i4), iv (nC1 i4), iv (nC2 i5), rv b313, rv b324, iv (f_ad2 i2 i3 (nM i0) (nS i1) (0 : Int32) (nC0 i4) (nC1 i4)), iv (0 : Int32), .val (.long ((0 : Int64) + ((nC0 i4).toInt64))), .second, .unset, .unset, .unset] []
            exact k)
          have e348_0 : (own_all (own_all (1 : Int32) (nC0 i4) (nM i0)) (nC1 i4) (nM i0)) = (0 : Int32) := by first | exact if_pos h350 | (unfold own_all; first | (rw [if_pos h350]; done) | (simp [h350]; done) | (rw [if_pos h350]; decide))
          rw [e348_0]; exact g351
        · skip
          have g352 : Goes p e below S0 (T339.setTop (mkF m 202 #[iv i0, iv i1, iv i2, iv i3, .val (.long i4), .second, iv i5, iv (nM i0), iv (nK i1), iv (nB i1), iv (2 : Int32), iv (nC0 i4), iv (nC1 i4), iv (nC2 i5), rv b313, rv b324, iv (f_ad2 i2 i3 (nM i0) (nS i1) (0 : Int32) (nC0 i4) (nC1 i4)), iv (own_all (1 : Int32) (nC0 i4) (nM i0)), .val (.long ((0 : Int64) + ((nC0 i4).toInt64))), .second, .unset, .unset, .unset] [])) := fun t k => g349 t (by
            refine XS.icmpYes X339.here hx rfl (pc0 := 196) (pc' := 202) rfl (hb hby at_196) rfl (XT.ii_ge_t h350) (by decide) (by decide) ?_
            show Go p e below t T339 m 202 #[iv i0, iv i1, iv i2, iv i3, .val (.long i4), .second, iv i5, iv (nM i0), iv (nK i1), iv (nB i1), iv (2 : Int32), iv (nC0 i4), iv (nC1 i4), iv (nC2 i5), rv b313, rv b324, iv (f_ad2 i2 i3 (nM i0) (nS i1) (0 : Int32) (nC0 i4) (nC1 i4)), iv (own_all (1 : Int32) (nC0 i4) (nM i0)), .val (.long ((0 : Int64) + ((nC0 i4).toInt64))), .second, .unset, .unset, .unset] []
            exact k)
          have e348_0 : (own_all (own_all (1 : Int32) (nC0 i4) (nM i0)) (nC1 i4) (nM i0)) = (own_all (1 : Int32) (nC0 i4) (nM i0)) := by first | exact if_neg h350 | (unfold own_all; first | (rw [if_neg h350]; done) | (simp [h350]; done) | (rw [if_neg h350]; decide))
          rw [e348_0]; exact g352
      have g353 : Goes p e below S0 (T339.setTop (mkF m 248 #[iv i0, iv i1, iv i2, iv i3, .val (.long i4), .second, iv i5, iv (nM i0), iv (nK i1), iv (nB i1), iv (2 : Int32), iv (nC0 i4), iv (nC1 i4), iv (nC2 i5), rv b313, rv b324, iv (f_ad2 i2 i3 (nM i0) (nS i1) (0 : Int32) (nC0 i4) (nC1 i4)), iv (own_all (own_all (1 : Int32) (nC0 i4) (nM i0)) (nC1 i4) (nM i0)), .val (.long (((0 : Int64) + ((nC0 i4).toInt64)) + ((nC1 i4).toInt64))), .second, .val (.long ((i3).toInt64)), .second, .unset] [])) := fun t k => gf348 t (by
        refine XS.lload X339.here hx rfl (hb hby at_202) rfl ?_
        show Go p e below t T339 m 204 #[iv i0, iv i1, iv i2, iv i3, .val (.long i4), .second, iv i5, iv (nM i0), iv (nK i1), iv (nB i1), iv (2 : Int32), iv (nC0 i4), iv (nC1 i4), iv (nC2 i5), rv b313, rv b324, iv (f_ad2 i2 i3 (nM i0) (nS i1) (0 : Int32) (nC0 i4) (nC1 i4)), iv (own_all (own_all (1 : Int32) (nC0 i4) (nM i0)) (nC1 i4) (nM i0)), .val (.long ((0 : Int64) + ((nC0 i4).toInt64))), .second, .unset, .unset, .unset] [(.long ((0 : Int64) + ((nC0 i4).toInt64)))]
        refine XS.iload X339.here hx rfl (hb hby at_204) rfl ?_
        show Go p e below t T339 m 206 #[iv i0, iv i1, iv i2, iv i3, .val (.long i4), .second, iv i5, iv (nM i0), iv (nK i1), iv (nB i1), iv (2 : Int32), iv (nC0 i4), iv (nC1 i4), iv (nC2 i5), rv b313, rv b324, iv (f_ad2 i2 i3 (nM i0) (nS i1) (0 : Int32) (nC0 i4) (nC1 i4)), iv (own_all (own_all (1 : Int32) (nC0 i4) (nM i0)) (nC1 i4) (nM i0)), .val (.long ((0 : Int64) + ((nC0 i4).toInt64))), .second, .unset, .unset, .unset] [(.int (nC1 i4)), (.long ((0 : Int64) + ((nC0 i4).toInt64)))]
        refine XS.i2l X339.here hx rfl (hb hby at_206) rfl ?_
        show Go p e below t T339 m 207 #[iv i0, iv i1, iv i2, iv i3, .val (.long i4), .second, iv i5, iv (nM i0), iv (nK i1), iv (nB i1), iv (2 : Int32), iv (nC0 i4), iv (nC1 i4), iv (nC2 i5), rv b313, rv b324, iv (f_ad2 i2 i3 (nM i0) (nS i1) (0 : Int32) (nC0 i4) (nC1 i4)), iv (own_all (own_all (1 : Int32) (nC0 i4) (nM i0)) (nC1 i4) (nM i0)), .val (.long ((0 : Int64) + ((nC0 i4).toInt64))), .second, .unset, .unset, .unset] [(.long ((nC1 i4).toInt64)), (.long ((0 : Int64) + ((nC0 i4).toInt64)))]
        refine XS.ladd X339.here hx rfl (hb hby at_207) rfl ?_
        show Go p e below t T339 m 208 #[iv i0, iv i1, iv i2, iv i3, .val (.long i4), .second, iv i5, iv (nM i0), iv (nK i1), iv (nB i1), iv (2 : Int32), iv (nC0 i4), iv (nC1 i4), iv (nC2 i5), rv b313, rv b324, iv (f_ad2 i2 i3 (nM i0) (nS i1) (0 : Int32) (nC0 i4) (nC1 i4)), iv (own_all (own_all (1 : Int32) (nC0 i4) (nM i0)) (nC1 i4) (nM i0)), .val (.long ((0 : Int64) + ((nC0 i4).toInt64))), .second, .unset, .unset, .unset] [(.long (((0 : Int64) + ((nC0 i4).toInt64)) + ((nC1 i4).toInt64)))]
        refine XS.lstore X339.here hx rfl (hb hby at_208) rfl (l' := #[iv i0, iv i1, iv i2, iv i3, .val (.long i4), .second, iv i5, iv (nM i0), iv (nK i1), iv (nB i1), iv (2 : Int32), iv (nC0 i4), iv (nC1 i4), iv (nC2 i5), rv b313, rv b324, iv (f_ad2 i2 i3 (nM i0) (nS i1) (0 : Int32) (nC0 i4) (nC1 i4)), iv (own_all (own_all (1 : Int32) (nC0 i4) (nM i0)) (nC1 i4) (nM i0)), .val (.long (((0 : Int64) + ((nC0 i4).toInt64)) + ((nC1 i4).toInt64))), .second, .unset, .unset, .unset]) rfl ?_
        show Go p e below t T339 m 210 #[iv i0, iv i1, iv i2, iv i3, .val (.long i4), .second, iv i5, iv (nM i0), iv (nK i1), iv (nB i1), iv (2 : Int32), iv (nC0 i4), iv (nC1 i4), iv (nC2 i5), rv b313, rv b324, iv (f_ad2 i2 i3 (nM i0) (nS i1) (0 : Int32) (nC0 i4) (nC1 i4)), iv (own_all (own_all (1 : Int32) (nC0 i4) (nM i0)) (nC1 i4) (nM i0)), .val (.long (((0 : Int64) + ((nC0 i4).toInt64)) + ((nC1 i4).toInt64))), .second, .unset, .unset, .unset] []
        refine XS.iload X339.here hx rfl (hb hby at_210) rfl ?_
        show Go p e below t T339 m 212 #[iv i0, iv i1, iv i2, iv i3, .val (.long i4), .second, iv i5, iv (nM i0), iv (nK i1), iv (nB i1), iv (2 : Int32), iv (nC0 i4), iv (nC1 i4), iv (nC2 i5), rv b313, rv b324, iv (f_ad2 i2 i3 (nM i0) (nS i1) (0 : Int32) (nC0 i4) (nC1 i4)), iv (own_all (own_all (1 : Int32) (nC0 i4) (nM i0)) (nC1 i4) (nM i0)), .val (.long (((0 : Int64) + ((nC0 i4).toInt64)) + ((nC1 i4).toInt64))), .second, .unset, .unset, .unset] [(.int (2 : Int32))]
        refine XT.iconstV X339.here hx rfl (3 : Int32) (hb hby at_212) (by decide) ?_
        show Go p e below t T339 m 213 #[iv i0, iv i1, iv i2, iv i3, .val (.long i4), .second, iv i5, iv (nM i0), iv (nK i1), iv (nB i1), iv (2 : Int32), iv (nC0 i4), iv (nC1 i4), iv (nC2 i5), rv b313, rv b324, iv (f_ad2 i2 i3 (nM i0) (nS i1) (0 : Int32) (nC0 i4) (nC1 i4)), iv (own_all (own_all (1 : Int32) (nC0 i4) (nM i0)) (nC1 i4) (nM i0)), .val (.long (((0 : Int64) + ((nC0 i4).toInt64)) + ((nC1 i4).toInt64))), .second, .unset, .unset, .unset] [(.int (3 : Int32)), (.int (2 : Int32))]
        refine XS.icmpYes X339.here hx rfl (pc0 := 213) (pc' := 234) rfl (hb hby at_213) rfl (XT.ii_lt_t (by decide)) (by decide) (by decide) ?_
        show Go p e below t T339 m 234 #[iv i0, iv i1, iv i2, iv i3, .val (.long i4), .second, iv i5, iv (nM i0), iv (nK i1), iv (nB i1), iv (2 : Int32), iv (nC0 i4), iv (nC1 i4), iv (nC2 i5), rv b313, rv b324, iv (f_ad2 i2 i3 (nM i0) (nS i1) (0 : Int32) (nC0 i4) (nC1 i4)), iv (own_all (own_all (1 : Int32) (nC0 i4) (nM i0)) (nC1 i4) (nM i0)), .val (.long (((0 : Int64) + ((nC0 i4).toInt64)) + ((nC1 i4).toInt64))), .second, .unset, .unset, .unset] []
        refine XS.iload X339.here hx rfl (hb hby at_234) rfl ?_
        show Go p e below t T339 m 236 #[iv i0, iv i1, iv i2, iv i3, .val (.long i4), .second, iv i5, iv (nM i0), iv (nK i1), iv (nB i1), iv (2 : Int32), iv (nC0 i4), iv (nC1 i4), iv (nC2 i5), rv b313, rv b324, iv (f_ad2 i2 i3 (nM i0) (nS i1) (0 : Int32) (nC0 i4) (nC1 i4)), iv (own_all (own_all (1 : Int32) (nC0 i4) (nM i0)) (nC1 i4) (nM i0)), .val (.long (((0 : Int64) + ((nC0 i4).toInt64)) + ((nC1 i4).toInt64))), .second, .unset, .unset, .unset] [(.int (nB i1))]
        refine XS.ifYes X339.here hx rfl (pc0 := 236) (pc' := 244) rfl (hb hby at_236) rfl (XT.i0_eq_t h337) (by decide) (by decide) ?_
        show Go p e below t T339 m 244 #[iv i0, iv i1, iv i2, iv i3, .val (.long i4), .second, iv i5, iv (nM i0), iv (nK i1), iv (nB i1), iv (2 : Int32), iv (nC0 i4), iv (nC1 i4), iv (nC2 i5), rv b313, rv b324, iv (f_ad2 i2 i3 (nM i0) (nS i1) (0 : Int32) (nC0 i4) (nC1 i4)), iv (own_all (own_all (1 : Int32) (nC0 i4) (nM i0)) (nC1 i4) (nM i0)), .val (.long (((0 : Int64) + ((nC0 i4).toInt64)) + ((nC1 i4).toInt64))), .second, .unset, .unset, .unset] []
        refine XS.iloadN X339.here hx rfl (hb hby at_244) rfl ?_
        show Go p e below t T339 m 245 #[iv i0, iv i1, iv i2, iv i3, .val (.long i4), .second, iv i5, iv (nM i0), iv (nK i1), iv (nB i1), iv (2 : Int32), iv (nC0 i4), iv (nC1 i4), iv (nC2 i5), rv b313, rv b324, iv (f_ad2 i2 i3 (nM i0) (nS i1) (0 : Int32) (nC0 i4) (nC1 i4)), iv (own_all (own_all (1 : Int32) (nC0 i4) (nM i0)) (nC1 i4) (nM i0)), .val (.long (((0 : Int64) + ((nC0 i4).toInt64)) + ((nC1 i4).toInt64))), .second, .unset, .unset, .unset] [(.int i3)]
        refine XS.i2l X339.here hx rfl (hb hby at_245) rfl ?_
        show Go p e below t T339 m 246 #[iv i0, iv i1, iv i2, iv i3, .val (.long i4), .second, iv i5, iv (nM i0), iv (nK i1), iv (nB i1), iv (2 : Int32), iv (nC0 i4), iv (nC1 i4), iv (nC2 i5), rv b313, rv b324, iv (f_ad2 i2 i3 (nM i0) (nS i1) (0 : Int32) (nC0 i4) (nC1 i4)), iv (own_all (own_all (1 : Int32) (nC0 i4) (nM i0)) (nC1 i4) (nM i0)), .val (.long (((0 : Int64) + ((nC0 i4).toInt64)) + ((nC1 i4).toInt64))), .second, .unset, .unset, .unset] [(.long ((i3).toInt64))]
        refine XS.lstore X339.here hx rfl (hb hby at_246) rfl (l' := #[iv i0, iv i1, iv i2, iv i3, .val (.long i4), .second, iv i5, iv (nM i0), iv (nK i1), iv (nB i1), iv (2 : Int32), iv (nC0 i4), iv (nC1 i4), iv (nC2 i5), rv b313, rv b324, iv (f_ad2 i2 i3 (nM i0) (nS i1) (0 : Int32) (nC0 i4) (nC1 i4)), iv (own_all (own_all (1 : Int32) (nC0 i4) (nM i0)) (nC1 i4) (nM i0)), .val (.long (((0 : Int64) + ((nC0 i4).toInt64)) + ((nC1 i4).toInt64))), .second, .val (.long ((i3).toInt64)), .second, .unset]) rfl ?_
        show Go p e below t T339 m 248 #[iv i0, iv i1, iv i2, iv i3, .val (.long i4), .second, iv i5, iv (nM i0), iv (nK i1), iv (nB i1), iv (2 : Int32), iv (nC0 i4), iv (nC1 i4), iv (nC2 i5), rv b313, rv b324, iv (f_ad2 i2 i3 (nM i0) (nS i1) (0 : Int32) (nC0 i4) (nC1 i4)), iv (own_all (own_all (1 : Int32) (nC0 i4) (nM i0)) (nC1 i4) (nM i0)), .val (.long (((0 : Int64) + ((nC0 i4).toInt64)) + ((nC1 i4).toInt64))), .second, .val (.long ((i3).toInt64)), .second, .unset] []
        exact k)
      have gf354 : Goes p e below S0 (T339.setTop (mkF m 274 #[iv i0, iv i1, iv i2, iv i3, .val (.long i4), .second, iv i5, iv (nM i0), iv (nK i1), iv (nB i1), iv (2 : Int32), iv (nC0 i4), iv (nC1 i4), iv (nC2 i5), rv b313, rv b324, iv (f_ad2 i2 i3 (nM i0) (nS i1) (0 : Int32) (nC0 i4) (nC1 i4)), iv (own_all (own_all (1 : Int32) (nC0 i4) (nM i0)) (nC1 i4) (nM i0)), .val (.long (((0 : Int64) + ((nC0 i4).toInt64)) + ((nC1 i4).toInt64))), .second, .val (.long ((i3).toInt64)), .second, .unset] [(.int (own_fin (own_all (own_all (1 : Int32) (nC0 i4) (nM i0)) (nC1 i4) (nM i0)) (((0 : Int64) + ((nC0 i4).toInt64)) + ((nC1 i4).toInt64)) (nK i1) ((i3).toInt64)))])) := by
        have g355 : Goes p e below S0 (T339.setTop (mkF m 250 #[iv i0, iv i1, iv i2, iv i3, .val (.long i4), .second, iv i5, iv (nM i0), iv (nK i1), iv (nB i1), iv (2 : Int32), iv (nC0 i4), iv (nC1 i4), iv (nC2 i5), rv b313, rv b324, iv (f_ad2 i2 i3 (nM i0) (nS i1) (0 : Int32) (nC0 i4) (nC1 i4)), iv (own_all (own_all (1 : Int32) (nC0 i4) (nM i0)) (nC1 i4) (nM i0)), .val (.long (((0 : Int64) + ((nC0 i4).toInt64)) + ((nC1 i4).toInt64))), .second, .val (.long ((i3).toInt64)), .second, .unset] [(.int (own_all (own_all (1 : Int32) (nC0 i4) (nM i0)) (nC1 i4) (nM i0)))])) := fun t k => g353 t (by
          refine XS.iload X339.here hx rfl (hb hby at_248) rfl ?_
          show Go p e below t T339 m 250 #[iv i0, iv i1, iv i2, iv i3, .val (.long i4), .second, iv i5, iv (nM i0), iv (nK i1), iv (nB i1), iv (2 : Int32), iv (nC0 i4), iv (nC1 i4), iv (nC2 i5), rv b313, rv b324, iv (f_ad2 i2 i3 (nM i0) (nS i1) (0 : Int32) (nC0 i4) (nC1 i4)), iv (own_all (own_all (1 : Int32) (nC0 i4) (nM i0)) (nC1 i4) (nM i0)), .val (.long (((0 : Int64) + ((nC0 i4).toInt64)) + ((nC1 i4).toInt64))), .second, .val (.long ((i3).toInt64)), .second, .unset] [(.int (own_all (own_all (1 : Int32) (nC0 i4) (nM i0)) (nC1 i4) (nM i0)))]
          exact k)
        by_cases h356 : (own_all (own_all (1 : Int32) (nC0 i4) (nM i0)) (nC1 i4) (nM i0)) = 0
        · skip
          have g357 : Goes p e below S0 (T339.setTop (mkF m 274 #[iv i0, iv i1, iv i2, iv i3, .val (.long i4), .second, iv i5, iv (nM i0), iv (nK i1), iv (nB i1), iv (2 : Int32), iv (nC0 i4), iv (nC1 i4), iv (nC2 i5), rv b313, rv b324, iv (f_ad2 i2 i3 (nM i0) (nS i1) (0 : Int32) (nC0 i4) (nC1 i4)), iv (own_all (own_all (1 : Int32) (nC0 i4) (nM i0)) (nC1 i4) (nM i0)), .val (.long (((0 : Int64) + ((nC0 i4).toInt64)) + ((nC1 i4).toInt64))), .second, .val (.long ((i3).toInt64)), .second, .unset] [(.int (0 : Int32))])) := fun t k => g355 t (by
            refine XS.ifYes X339.here hx rfl (pc0 := 250) (pc' := 273) rfl (hb hby at_250) rfl (XT.i0_eq_t h356) (by decide) (by decide) ?_
            show Go p e below t T339 m 273 #[iv i0, iv i1, iv i2, iv i3, .val (.long i4), .second, iv i5, iv (nM i0), iv (nK i1), iv (nB i1), iv (2 : Int32), iv (nC0 i4), iv (nC1 i4), iv (nC2 i5), rv b313, rv b324, iv (f_ad2 i2 i3 (nM i0) (nS i1) (0 : Int32) (nC0 i4) (nC1 i4)), iv (own_all (own_all (1 : Int32) (nC0 i4) (nM i0)) (nC1 i4) (nM i0)), .val (.long (((0 : Int64) + ((nC0 i4).toInt64)) + ((nC1 i4).toInt64))), .second, .val (.long ((i3).toInt64)), .second, .unset] []
            refine XT.iconstV X339.here hx rfl (0 : Int32) (hb hby at_273) (by decide) ?_
            show Go p e below t T339 m 274 #[iv i0, iv i1, iv i2, iv i3, .val (.long i4), .second, iv i5, iv (nM i0), iv (nK i1), iv (nB i1), iv (2 : Int32), iv (nC0 i4), iv (nC1 i4), iv (nC2 i5), rv b313, rv b324, iv (f_ad2 i2 i3 (nM i0) (nS i1) (0 : Int32) (nC0 i4) (nC1 i4)), iv (own_all (own_all (1 : Int32) (nC0 i4) (nM i0)) (nC1 i4) (nM i0)), .val (.long (((0 : Int64) + ((nC0 i4).toInt64)) + ((nC1 i4).toInt64))), .second, .val (.long ((i3).toInt64)), .second, .unset] [(.int (0 : Int32))]
            exact k)
          have e354_0 : (own_fin (own_all (own_all (1 : Int32) (nC0 i4) (nM i0)) (nC1 i4) (nM i0)) (((0 : Int64) + ((nC0 i4).toInt64)) + ((nC1 i4).toInt64)) (nK i1) ((i3).toInt64)) = (0 : Int32) := by first | exact if_pos h356 | (unfold own_fin; first | (rw [if_pos h356]; done) | (simp [h356]; done) | (rw [if_pos h356]; decide))
          rw [e354_0]; exact g357
        · skip
          have g358 : Goes p e below S0 (T339.setTop (mkF m 266 #[iv i0, iv i1, iv i2, iv i3, .val (.long i4), .second, iv i5, iv (nM i0), iv (nK i1), iv (nB i1), iv (2 : Int32), iv (nC0 i4), iv (nC1 i4), iv (nC2 i5), rv b313, rv b324, iv (f_ad2 i2 i3 (nM i0) (nS i1) (0 : Int32) (nC0 i4) (nC1 i4)), iv (own_all (own_all (1 : Int32) (nC0 i4) (nM i0)) (nC1 i4) (nM i0)), .val (.long (((0 : Int64) + ((nC0 i4).toInt64)) + ((nC1 i4).toInt64))), .second, .val (.long ((i3).toInt64)), .second, .unset] [(.int (lcmpW ((8 : Int64) * (((0 : Int64) + ((nC0 i4).toInt64)) + ((nC1 i4).toInt64))) (((nK i1).toInt64) * ((i3).toInt64))))])) := fun t k => g355 t (by
            refine XS.ifNo X339.here hx rfl (hb hby at_250) rfl (XT.i0_eq_f h356) ?_
            show Go p e below t T339 m 253 #[iv i0, iv i1, iv i2, iv i3, .val (.long i4), .second, iv i5, iv (nM i0), iv (nK i1), iv (nB i1), iv (2 : Int32), iv (nC0 i4), iv (nC1 i4), iv (nC2 i5), rv b313, rv b324, iv (f_ad2 i2 i3 (nM i0) (nS i1) (0 : Int32) (nC0 i4) (nC1 i4)), iv (own_all (own_all (1 : Int32) (nC0 i4) (nM i0)) (nC1 i4) (nM i0)), .val (.long (((0 : Int64) + ((nC0 i4).toInt64)) + ((nC1 i4).toInt64))), .second, .val (.long ((i3).toInt64)), .second, .unset] []
            refine Jvm.Stand.ldc2J X339 hx hown (mvT hZ (hw _ (List.mem_of_getElem? (i := 44) rfl))) (g := (mkF m 253 #[iv i0, iv i1, iv i2, iv i3, .val (.long i4), .second, iv i5, iv (nM i0), iv (nK i1), iv (nB i1), iv (2 : Int32), iv (nC0 i4), iv (nC1 i4), iv (nC2 i5), rv b313, rv b324, iv (f_ad2 i2 i3 (nM i0) (nS i1) (0 : Int32) (nC0 i4) (nC1 i4)), iv (own_all (own_all (1 : Int32) (nC0 i4) (nM i0)) (nC1 i4) (nM i0)), .val (.long (((0 : Int64) + ((nC0 i4).toInt64)) + ((nC1 i4).toInt64))), .second, .val (.long ((i3).toInt64)), .second, .unset] [])) rfl (hb hby at_253) ?_
            show Go p e below t T339 m 256 #[iv i0, iv i1, iv i2, iv i3, .val (.long i4), .second, iv i5, iv (nM i0), iv (nK i1), iv (nB i1), iv (2 : Int32), iv (nC0 i4), iv (nC1 i4), iv (nC2 i5), rv b313, rv b324, iv (f_ad2 i2 i3 (nM i0) (nS i1) (0 : Int32) (nC0 i4) (nC1 i4)), iv (own_all (own_all (1 : Int32) (nC0 i4) (nM i0)) (nC1 i4) (nM i0)), .val (.long (((0 : Int64) + ((nC0 i4).toInt64)) + ((nC1 i4).toInt64))), .second, .val (.long ((i3).toInt64)), .second, .unset] [(.long (8 : Int64))]
            refine XS.lload X339.here hx rfl (hb hby at_256) rfl ?_
            show Go p e below t T339 m 258 #[iv i0, iv i1, iv i2, iv i3, .val (.long i4), .second, iv i5, iv (nM i0), iv (nK i1), iv (nB i1), iv (2 : Int32), iv (nC0 i4), iv (nC1 i4), iv (nC2 i5), rv b313, rv b324, iv (f_ad2 i2 i3 (nM i0) (nS i1) (0 : Int32) (nC0 i4) (nC1 i4)), iv (own_all (own_all (1 : Int32) (nC0 i4) (nM i0)) (nC1 i4) (nM i0)), .val (.long (((0 : Int64) + ((nC0 i4).toInt64)) + ((nC1 i4).toInt64))), .second, .val (.long ((i3).toInt64)), .second, .unset] [(.long (((0 : Int64) + ((nC0 i4).toInt64)) + ((nC1 i4).toInt64))), (.long (8 : Int64))]
            refine XS.lmul X339.here hx rfl (hb hby at_258) rfl ?_
            show Go p e below t T339 m 259 #[iv i0, iv i1, iv i2, iv i3, .val (.long i4), .second, iv i5, iv (nM i0), iv (nK i1), iv (nB i1), iv (2 : Int32), iv (nC0 i4), iv (nC1 i4), iv (nC2 i5), rv b313, rv b324, iv (f_ad2 i2 i3 (nM i0) (nS i1) (0 : Int32) (nC0 i4) (nC1 i4)), iv (own_all (own_all (1 : Int32) (nC0 i4) (nM i0)) (nC1 i4) (nM i0)), .val (.long (((0 : Int64) + ((nC0 i4).toInt64)) + ((nC1 i4).toInt64))), .second, .val (.long ((i3).toInt64)), .second, .unset] [(.long ((8 : Int64) * (((0 : Int64) + ((nC0 i4).toInt64)) + ((nC1 i4).toInt64))))]
            refine XS.iload X339.here hx rfl (hb hby at_259) rfl ?_
            show Go p e below t T339 m 261 #[iv i0, iv i1, iv i2, iv i3, .val (.long i4), .second, iv i5, iv (nM i0), iv (nK i1), iv (nB i1), iv (2 : Int32), iv (nC0 i4), iv (nC1 i4), iv (nC2 i5), rv b313, rv b324, iv (f_ad2 i2 i3 (nM i0) (nS i1) (0 : Int32) (nC0 i4) (nC1 i4)), iv (own_all (own_all (1 : Int32) (nC0 i4) (nM i0)) (nC1 i4) (nM i0)), .val (.long (((0 : Int64) + ((nC0 i4).toInt64)) + ((nC1 i4).toInt64))), .second, .val (.long ((i3).toInt64)), .second, .unset] [(.int (nK i1)), (.long ((8 : Int64) * (((0 : Int64) + ((nC0 i4).toInt64)) + ((nC1 i4).toInt64))))]
            refine XS.i2l X339.here hx rfl (hb hby at_261) rfl ?_
            show Go p e below t T339 m 262 #[iv i0, iv i1, iv i2, iv i3, .val (.long i4), .second, iv i5, iv (nM i0), iv (nK i1), iv (nB i1), iv (2 : Int32), iv (nC0 i4), iv (nC1 i4), iv (nC2 i5), rv b313, rv b324, iv (f_ad2 i2 i3 (nM i0) (nS i1) (0 : Int32) (nC0 i4) (nC1 i4)), iv (own_all (own_all (1 : Int32) (nC0 i4) (nM i0)) (nC1 i4) (nM i0)), .val (.long (((0 : Int64) + ((nC0 i4).toInt64)) + ((nC1 i4).toInt64))), .second, .val (.long ((i3).toInt64)), .second, .unset] [(.long ((nK i1).toInt64)), (.long ((8 : Int64) * (((0 : Int64) + ((nC0 i4).toInt64)) + ((nC1 i4).toInt64))))]
            refine XS.lload X339.here hx rfl (hb hby at_262) rfl ?_
            show Go p e below t T339 m 264 #[iv i0, iv i1, iv i2, iv i3, .val (.long i4), .second, iv i5, iv (nM i0), iv (nK i1), iv (nB i1), iv (2 : Int32), iv (nC0 i4), iv (nC1 i4), iv (nC2 i5), rv b313, rv b324, iv (f_ad2 i2 i3 (nM i0) (nS i1) (0 : Int32) (nC0 i4) (nC1 i4)), iv (own_all (own_all (1 : Int32) (nC0 i4) (nM i0)) (nC1 i4) (nM i0)), .val (.long (((0 : Int64) + ((nC0 i4).toInt64)) + ((nC1 i4).toInt64))), .second, .val (.long ((i3).toInt64)), .second, .unset] [(.long ((i3).toInt64)), (.long ((nK i1).toInt64)), (.long ((8 : Int64) * (((0 : Int64) + ((nC0 i4).toInt64)) + ((nC1 i4).toInt64))))]
            refine XS.lmul X339.here hx rfl (hb hby at_264) rfl ?_
            show Go p e below t T339 m 265 #[iv i0, iv i1, iv i2, iv i3, .val (.long i4), .second, iv i5, iv (nM i0), iv (nK i1), iv (nB i1), iv (2 : Int32), iv (nC0 i4), iv (nC1 i4), iv (nC2 i5), rv b313, rv b324, iv (f_ad2 i2 i3 (nM i0) (nS i1) (0 : Int32) (nC0 i4) (nC1 i4)), iv (own_all (own_all (1 : Int32) (nC0 i4) (nM i0)) (nC1 i4) (nM i0)), .val (.long (((0 : Int64) + ((nC0 i4).toInt64)) + ((nC1 i4).toInt64))), .second, .val (.long ((i3).toInt64)), .second, .unset] [(.long (((nK i1).toInt64) * ((i3).toInt64))), (.long ((8 : Int64) * (((0 : Int64) + ((nC0 i4).toInt64)) + ((nC1 i4).toInt64))))]
            refine XS.lcmp X339.here hx rfl (hb hby at_265) rfl ?_
            show Go p e below t T339 m 266 #[iv i0, iv i1, iv i2, iv i3, .val (.long i4), .second, iv i5, iv (nM i0), iv (nK i1), iv (nB i1), iv (2 : Int32), iv (nC0 i4), iv (nC1 i4), iv (nC2 i5), rv b313, rv b324, iv (f_ad2 i2 i3 (nM i0) (nS i1) (0 : Int32) (nC0 i4) (nC1 i4)), iv (own_all (own_all (1 : Int32) (nC0 i4) (nM i0)) (nC1 i4) (nM i0)), .val (.long (((0 : Int64) + ((nC0 i4).toInt64)) + ((nC1 i4).toInt64))), .second, .val (.long ((i3).toInt64)), .second, .unset] [(.int (lcmpW ((8 : Int64) * (((0 : Int64) + ((nC0 i4).toInt64)) + ((nC1 i4).toInt64))) (((nK i1).toInt64) * ((i3).toInt64))))]
            exact k)
          by_cases h359 : ((8 : Int64) * (((0 : Int64) + ((nC0 i4).toInt64)) + ((nC1 i4).toInt64))) < (((nK i1).toInt64) * ((i3).toInt64))
          · skip
            have g360 : Goes p e below S0 (T339.setTop (mkF m 274 #[iv i0, iv i1, iv i2, iv i3, .val (.long i4), .second, iv i5, iv (nM i0), iv (nK i1), iv (nB i1), iv (2 : Int32), iv (nC0 i4), iv (nC1 i4), iv (nC2 i5), rv b313, rv b324, iv (f_ad2 i2 i3 (nM i0) (nS i1) (0 : Int32) (nC0 i4) (nC1 i4)), iv (own_all (own_all (1 : Int32) (nC0 i4) (nM i0)) (nC1 i4) (nM i0)), .val (.long (((0 : Int64) + ((nC0 i4).toInt64)) + ((nC1 i4).toInt64))), .second, .val (.long ((i3).toInt64)), .second, .unset] [(.int (0 : Int32))])) := fun t k => g358 t (by
              refine XS.ifYes X339.here hx rfl (pc0 := 266) (pc' := 273) rfl (hb hby at_266) rfl (XT.ll_lt_t h359) (by decide) (by decide) ?_
              show Go p e below t T339 m 273 #[iv i0, iv i1, iv i2, iv i3, .val (.long i4), .second, iv i5, iv (nM i0), iv (nK i1), iv (nB i1), iv (2 : Int32), iv (nC0 i4), iv (nC1 i4), iv (nC2 i5), rv b313, rv b324, iv (f_ad2 i2 i3 (nM i0) (nS i1) (0 : Int32) (nC0 i4) (nC1 i4)), iv (own_all (own_all (1 : Int32) (nC0 i4) (nM i0)) (nC1 i4) (nM i0)), .val (.long (((0 : Int64) + ((nC0 i4).toInt64)) + ((nC1 i4).toInt64))), .second, .val (.long ((i3).toInt64)), .second, .unset] []
              refine XT.iconstV X339.here hx rfl (0 : Int32) (hb hby at_273) (by decide) ?_
              show Go p e below t T339 m 274 #[iv i0, iv i1, iv i2, iv i3, .val (.long i4), .second, iv i5, iv (nM i0), iv (nK i1), iv (nB i1), iv (2 : Int32), iv (nC0 i4), iv (nC1 i4), iv (nC2 i5), rv b313, rv b324, iv (f_ad2 i2 i3 (nM i0) (nS i1) (0 : Int32) (nC0 i4) (nC1 i4)), iv (own_all (own_all (1 : Int32) (nC0 i4) (nM i0)) (nC1 i4) (nM i0)), .val (.long (((0 : Int64) + ((nC0 i4).toInt64)) + ((nC1 i4).toInt64))), .second, .val (.long ((i3).toInt64)), .second, .unset] [(.int (0 : Int32))]
              exact k)
            have e354_0 : (own_fin (own_all (own_all (1 : Int32) (nC0 i4) (nM i0)) (nC1 i4) (nM i0)) (((0 : Int64) + ((nC0 i4).toInt64)) + ((nC1 i4).toInt64)) (nK i1) ((i3).toInt64)) = (0 : Int32) := by first | exact (if_neg h356).trans (if_pos h359) | (unfold own_fin; first | (rw [if_neg h356, if_pos h359]; done) | (simp [h356, h359]; done) | (rw [if_neg h356, if_pos h359]; decide))
            rw [e354_0]; exact g360
          · skip
            have g361 : Goes p e below S0 (T339.setTop (mkF m 274 #[iv i0, iv i1, iv i2, iv i3, .val (.long i4), .second, iv i5, iv (nM i0), iv (nK i1), iv (nB i1), iv (2 : Int32), iv (nC0 i4), iv (nC1 i4), iv (nC2 i5), rv b313, rv b324, iv (f_ad2 i2 i3 (nM i0) (nS i1) (0 : Int32) (nC0 i4) (nC1 i4)), iv (own_all (own_all (1 : Int32) (nC0 i4) (nM i0)) (nC1 i4) (nM i0)), .val (.long (((0 : Int64) + ((nC0 i4).toInt64)) + ((nC1 i4).toInt64))), .second, .val (.long ((i3).toInt64)), .second, .unset] [(.int (1 : Int32))])) := fun t k => g358 t (by
              refine XS.ifNo X339.here hx rfl (hb hby at_266) rfl (XT.ll_lt_f h359) ?_
              show Go p e below t T339 m 269 #[iv i0, iv i1, iv i2, iv i3, .val (.long i4), .second, iv i5, iv (nM i0), iv (nK i1), iv (nB i1), iv (2 : Int32), iv (nC0 i4), iv (nC1 i4), iv (nC2 i5), rv b313, rv b324, iv (f_ad2 i2 i3 (nM i0) (nS i1) (0 : Int32) (nC0 i4) (nC1 i4)), iv (own_all (own_all (1 : Int32) (nC0 i4) (nM i0)) (nC1 i4) (nM i0)), .val (.long (((0 : Int64) + ((nC0 i4).toInt64)) + ((nC1 i4).toInt64))), .second, .val (.long ((i3).toInt64)), .second, .unset] []
              refine XT.iconstV X339.here hx rfl (1 : Int32) (hb hby at_269) (by decide) ?_
              show Go p e below t T339 m 270 #[iv i0, iv i1, iv i2, iv i3, .val (.long i4), .second, iv i5, iv (nM i0), iv (nK i1), iv (nB i1), iv (2 : Int32), iv (nC0 i4), iv (nC1 i4), iv (nC2 i5), rv b313, rv b324, iv (f_ad2 i2 i3 (nM i0) (nS i1) (0 : Int32) (nC0 i4) (nC1 i4)), iv (own_all (own_all (1 : Int32) (nC0 i4) (nM i0)) (nC1 i4) (nM i0)), .val (.long (((0 : Int64) + ((nC0 i4).toInt64)) + ((nC1 i4).toInt64))), .second, .val (.long ((i3).toInt64)), .second, .unset] [(.int (1 : Int32))]
              refine XS.goto X339.here hx rfl (pc0 := 270) (pc' := 274) rfl (hb hby at_270) (by decide) (by decide) ?_
              show Go p e below t T339 m 274 #[iv i0, iv i1, iv i2, iv i3, .val (.long i4), .second, iv i5, iv (nM i0), iv (nK i1), iv (nB i1), iv (2 : Int32), iv (nC0 i4), iv (nC1 i4), iv (nC2 i5), rv b313, rv b324, iv (f_ad2 i2 i3 (nM i0) (nS i1) (0 : Int32) (nC0 i4) (nC1 i4)), iv (own_all (own_all (1 : Int32) (nC0 i4) (nM i0)) (nC1 i4) (nM i0)), .val (.long (((0 : Int64) + ((nC0 i4).toInt64)) + ((nC1 i4).toInt64))), .second, .val (.long ((i3).toInt64)), .second, .unset] [(.int (1 : Int32))]
              exact k)
            have e354_0 : (own_fin (own_all (own_all (1 : Int32) (nC0 i4) (nM i0)) (nC1 i4) (nM i0)) (((0 : Int64) + ((nC0 i4).toInt64)) + ((nC1 i4).toInt64)) (nK i1) ((i3).toInt64)) = (1 : Int32) := by first | exact (if_neg h356).trans (if_neg h359) | (unfold own_fin; first | (rw [if_neg h356, if_neg h359]; done) | (simp [h356, h359]; done) | (rw [if_neg h356, if_neg h359]; decide))
            rw [e354_0]; exact g361
      have g362 : Goes p e below S0 (T339.setTop (mkF m 288 #[iv i0, iv i1, iv i2, iv i3, .val (.long i4), .second, iv i5, iv (nM i0), iv (nK i1), iv (nB i1), iv (2 : Int32), iv (nC0 i4), iv (nC1 i4), iv (nC2 i5), rv b313, rv b324, iv (f_ad2 i2 i3 (nM i0) (nS i1) (0 : Int32) (nC0 i4) (nC1 i4)), iv (own_all (own_all (1 : Int32) (nC0 i4) (nM i0)) (nC1 i4) (nM i0)), .val (.long (((0 : Int64) + ((nC0 i4).toInt64)) + ((nC1 i4).toInt64))), .second, .val (.long ((i3).toInt64)), .second, iv (own_fin (own_all (own_all (1 : Int32) (nC0 i4) (nM i0)) (nC1 i4) (nM i0)) (((0 : Int64) + ((nC0 i4).toInt64)) + ((nC1 i4).toInt64)) (nK i1) ((i3).toInt64))] [(.int (1 : Int32))])) := fun t k => gf354 t (by
        refine XS.istore X339.here hx rfl (hb hby at_274) rfl (l' := #[iv i0, iv i1, iv i2, iv i3, .val (.long i4), .second, iv i5, iv (nM i0), iv (nK i1), iv (nB i1), iv (2 : Int32), iv (nC0 i4), iv (nC1 i4), iv (nC2 i5), rv b313, rv b324, iv (f_ad2 i2 i3 (nM i0) (nS i1) (0 : Int32) (nC0 i4) (nC1 i4)), iv (own_all (own_all (1 : Int32) (nC0 i4) (nM i0)) (nC1 i4) (nM i0)), .val (.long (((0 : Int64) + ((nC0 i4).toInt64)) + ((nC1 i4).toInt64))), .second, .val (.long ((i3).toInt64)), .second, iv (own_fin (own_all (own_all (1 : Int32) (nC0 i4) (nM i0)) (nC1 i4) (nM i0)) (((0 : Int64) + ((nC0 i4).toInt64)) + ((nC1 i4).toInt64)) (nK i1) ((i3).toInt64))]) rfl ?_
        show Go p e below t T339 m 276 #[iv i0, iv i1, iv i2, iv i3, .val (.long i4), .second, iv i5, iv (nM i0), iv (nK i1), iv (nB i1), iv (2 : Int32), iv (nC0 i4), iv (nC1 i4), iv (nC2 i5), rv b313, rv b324, iv (f_ad2 i2 i3 (nM i0) (nS i1) (0 : Int32) (nC0 i4) (nC1 i4)), iv (own_all (own_all (1 : Int32) (nC0 i4) (nM i0)) (nC1 i4) (nM i0)), .val (.long (((0 : Int64) + ((nC0 i4).toInt64)) + ((nC1 i4).toInt64))), .second, .val (.long ((i3).toInt64)), .second, iv (own_fin (own_all (own_all (1 : Int32) (nC0 i4) (nM i0)) (nC1 i4) (nM i0)) (((0 : Int64) + ((nC0 i4).toInt64)) + ((nC1 i4).toInt64)) (nK i1) ((i3).toInt64))] []
        refine XS.iload X339.here hx rfl (hb hby at_276) rfl ?_
        show Go p e below t T339 m 278 #[iv i0, iv i1, iv i2, iv i3, .val (.long i4), .second, iv i5, iv (nM i0), iv (nK i1), iv (nB i1), iv (2 : Int32), iv (nC0 i4), iv (nC1 i4), iv (nC2 i5), rv b313, rv b324, iv (f_ad2 i2 i3 (nM i0) (nS i1) (0 : Int32) (nC0 i4) (nC1 i4)), iv (own_all (own_all (1 : Int32) (nC0 i4) (nM i0)) (nC1 i4) (nM i0)), .val (.long (((0 : Int64) + ((nC0 i4).toInt64)) + ((nC1 i4).toInt64))), .second, .val (.long ((i3).toInt64)), .second, iv (own_fin (own_all (own_all (1 : Int32) (nC0 i4) (nM i0)) (nC1 i4) (nM i0)) (((0 : Int64) + ((nC0 i4).toInt64)) + ((nC1 i4).toInt64)) (nK i1) ((i3).toInt64))] [(.int (f_ad2 i2 i3 (nM i0) (nS i1) (0 : Int32) (nC0 i4) (nC1 i4)))]
        refine XS.iload X339.here hx rfl (hb hby at_278) rfl ?_
        show Go p e below t T339 m 280 #[iv i0, iv i1, iv i2, iv i3, .val (.long i4), .second, iv i5, iv (nM i0), iv (nK i1), iv (nB i1), iv (2 : Int32), iv (nC0 i4), iv (nC1 i4), iv (nC2 i5), rv b313, rv b324, iv (f_ad2 i2 i3 (nM i0) (nS i1) (0 : Int32) (nC0 i4) (nC1 i4)), iv (own_all (own_all (1 : Int32) (nC0 i4) (nM i0)) (nC1 i4) (nM i0)), .val (.long (((0 : Int64) + ((nC0 i4).toInt64)) + ((nC1 i4).toInt64))), .second, .val (.long ((i3).toInt64)), .second, iv (own_fin (own_all (own_all (1 : Int32) (nC0 i4) (nM i0)) (nC1 i4) (nM i0)) (((0 : Int64) + ((nC0 i4).toInt64)) + ((nC1 i4).toInt64)) (nK i1) ((i3).toInt64))] [(.int (own_fin (own_all (own_all (1 : Int32) (nC0 i4) (nM i0)) (nC1 i4) (nM i0)) (((0 : Int64) + ((nC0 i4).toInt64)) + ((nC1 i4).toInt64)) (nK i1) ((i3).toInt64))), (.int (f_ad2 i2 i3 (nM i0) (nS i1) (0 : Int32) (nC0 i4) (nC1 i4)))]
        refine XS.icmpNo X339.here hx rfl (hb hby at_280) rfl (XT.ii_ne_f (own_fin2t i0 i1 i2 i3 i4 i5)) ?_
        show Go p e below t T339 m 283 #[iv i0, iv i1, iv i2, iv i3, .val (.long i4), .second, iv i5, iv (nM i0), iv (nK i1), iv (nB i1), iv (2 : Int32), iv (nC0 i4), iv (nC1 i4), iv (nC2 i5), rv b313, rv b324, iv (f_ad2 i2 i3 (nM i0) (nS i1) (0 : Int32) (nC0 i4) (nC1 i4)), iv (own_all (own_all (1 : Int32) (nC0 i4) (nM i0)) (nC1 i4) (nM i0)), .val (.long (((0 : Int64) + ((nC0 i4).toInt64)) + ((nC1 i4).toInt64))), .second, .val (.long ((i3).toInt64)), .second, iv (own_fin (own_all (own_all (1 : Int32) (nC0 i4) (nM i0)) (nC1 i4) (nM i0)) (((0 : Int64) + ((nC0 i4).toInt64)) + ((nC1 i4).toInt64)) (nK i1) ((i3).toInt64))] []
        refine XT.iconstV X339.here hx rfl (1 : Int32) (hb hby at_283) (by decide) ?_
        show Go p e below t T339 m 284 #[iv i0, iv i1, iv i2, iv i3, .val (.long i4), .second, iv i5, iv (nM i0), iv (nK i1), iv (nB i1), iv (2 : Int32), iv (nC0 i4), iv (nC1 i4), iv (nC2 i5), rv b313, rv b324, iv (f_ad2 i2 i3 (nM i0) (nS i1) (0 : Int32) (nC0 i4) (nC1 i4)), iv (own_all (own_all (1 : Int32) (nC0 i4) (nM i0)) (nC1 i4) (nM i0)), .val (.long (((0 : Int64) + ((nC0 i4).toInt64)) + ((nC1 i4).toInt64))), .second, .val (.long ((i3).toInt64)), .second, iv (own_fin (own_all (own_all (1 : Int32) (nC0 i4) (nM i0)) (nC1 i4) (nM i0)) (((0 : Int64) + ((nC0 i4).toInt64)) + ((nC1 i4).toInt64)) (nK i1) ((i3).toInt64))] [(.int (1 : Int32))]
        refine XS.goto X339.here hx rfl (pc0 := 284) (pc' := 288) rfl (hb hby at_284) (by decide) (by decide) ?_
        show Go p e below t T339 m 288 #[iv i0, iv i1, iv i2, iv i3, .val (.long i4), .second, iv i5, iv (nM i0), iv (nK i1), iv (nB i1), iv (2 : Int32), iv (nC0 i4), iv (nC1 i4), iv (nC2 i5), rv b313, rv b324, iv (f_ad2 i2 i3 (nM i0) (nS i1) (0 : Int32) (nC0 i4) (nC1 i4)), iv (own_all (own_all (1 : Int32) (nC0 i4) (nM i0)) (nC1 i4) (nM i0)), .val (.long (((0 : Int64) + ((nC0 i4).toInt64)) + ((nC1 i4).toInt64))), .second, .val (.long ((i3).toInt64)), .second, iv (own_fin (own_all (own_all (1 : Int32) (nC0 i4) (nM i0)) (nC1 i4) (nM i0)) (((0 : Int64) + ((nC0 i4).toInt64)) + ((nC1 i4).toInt64)) (nK i1) ((i3).toInt64))] [(.int (1 : Int32))]
        exact k)
      obtain ⟨fs, hr, hrun, hended, hW, hsame⟩ := X339.leave (v := some (.int (1 : Int32))) (fun h => by rw [Bd.returns] at h; cases h)
      refine ⟨_, _, g362 _ (retN X339 hx (t := .boolean) Bd.returns (by simp) (hb hby at_288) hr), hrun, hended, _, _, rfl, ?_, ⟨_, rfl⟩, hW, hsame.mono (by decide) (by decide)⟩
      show Q_law Z i0 i1 i2 i3 i4 i5  h0 n0 _ T339.heap _
      rw [e339]
      exact ⟨rfl, M339⟩
    · skip
      have g363 : Goes p e below S0 (T334.setTop (mkF m 140 #[iv i0, iv i1, iv i2, iv i3, .val (.long i4), .second, iv i5, iv (nM i0), iv (nK i1), iv (nB i1), iv (2 : Int32), iv (nC0 i4), iv (nC1 i4), iv (nC2 i5), rv b313, rv b324, .unset, .unset, .unset, .unset, .unset, .unset, .unset] [(.ref b324)])) := fun t k => g336 t (by
        refine XS.ifNo X334.here hx rfl (hb hby at_135) rfl (XT.i0_eq_f h337) ?_
        show Go p e below t T334 m 138 #[iv i0, iv i1, iv i2, iv i3, .val (.long i4), .second, iv i5, iv (nM i0), iv (nK i1), iv (nB i1), iv (2 : Int32), iv (nC0 i4), iv (nC1 i4), iv (nC2 i5), rv b313, rv b324, .unset, .unset, .unset, .unset, .unset, .unset, .unset] []
        refine XS.aload X334.here hx rfl (hb hby at_138) rfl rfl ?_
        show Go p e below t T334 m 140 #[iv i0, iv i1, iv i2, iv i3, .val (.long i4), .second, iv i5, iv (nM i0), iv (nK i1), iv (nB i1), iv (2 : Int32), iv (nC0 i4), iv (nC1 i4), iv (nC2 i5), rv b313, rv b324, .unset, .unset, .unset, .unset, .unset, .unset, .unset] [(.ref b324)]
        exact k)
      obtain ⟨cq364, kq364, q364a, q364b, q364c⟩ := isOf hZ rfl R334_1
      obtain ⟨_, _, ⟨T364, L364, k364, n364⟩, -, X364, ⟨Lc364, hQ364, l364, y364, z364⟩, st364⟩ := X334.virtualBack hx (y := (⟨"com/example/hetmo/hetmo/tree/StoppingRules", "takingShareOfNode", "()Lcom/example/hetmo/hetmo/tree/StoppingRules;"⟩ : MethodName)) (z := (⟨"com/example/hetmo/hetmo/tree/StoppingRules", "takingShareOfNode", "()Lcom/example/hetmo/hetmo/tree/StoppingRules;"⟩ : MethodName)) hown (mvT hZ (hw _ (List.mem_of_getElem? (i := 45) rfl))) (mvT hZ (hw _ (List.mem_of_getElem? (i := 46) rfl))) (notFace_of_selects (args := #[]) (mvT hZ (hw _ (List.mem_of_getElem? (i := 48) rfl)))) (mvT hZ (hw _ (List.mem_of_getElem? (i := 48) rfl))) (mvT hZ (hw _ (List.mem_of_getElem? (i := 47) rfl))) (by decide) (backOf (W := 0) (rm_tsn l Z a0 hw [] b324 (nM i0) (nS i1) (0 : UInt64) (0 : Int32) T334.heap n0 (Nat.le_trans Z0 (Nat.le_trans (Nat.le_trans (Nat.le_trans (Nat.le_trans (Nat.le_trans (Nat.le_refl _) E313.1) (Nat.le_of_eq W317.size.symm)) (Nat.le_of_eq W321.size.symm)) E324.1) R334_0.1)) R334_2 R334_3 R334_4 R334_5 R334_6 R334_7 R334_8) hZ (hw _ (List.mem_of_getElem? (i := 49) rfl)) (hw _ (List.mem_of_getElem? (i := 9) rfl)) (by decide) (by decide)) q364a q364c (g := (mkF m 140 #[iv i0, iv i1, iv i2, iv i3, .val (.long i4), .second, iv i5, iv (nM i0), iv (nK i1), iv (nB i1), iv (2 : Int32), iv (nC0 i4), iv (nC1 i4), iv (nC2 i5), rv b313, rv b324, .unset, .unset, .unset, .unset, .unset, .unset, .unset] [(.ref b324)])) rfl (by rw [hml]; rfl) (Steps.refl _) (argsL := []) (rest := []) (lenOf pd5 rfl) rfl (by show 2 * 0 + _ ≤ _; exact Nat.le_of_eq rfl) (hb hby at_140) (fun _ _ => ⟨rfl, rfl, (by decide : 2 + 1 ≤ _), (by decide : 9 + 7 ≤ _)⟩)
      dsimp only [Pt.U, Pt.locs, Pt.cells, Pt.slots] at X364 l364 y364 z364 st364 hQ364
      subst l364 y364 z364
      obtain ⟨na_364, rfl, N364, R364_0, R364_1, R364_2, R364_3, R364_4, R364_5, R364_6, R364_7, R364_8⟩ := hQ364
      have M364 := Fr.app M334 N364
      have g365 : Goes p e below S0 (T364.setTop (mkF m 143 #[iv i0, iv i1, iv i2, iv i3, .val (.long i4), .second, iv i5, iv (nM i0), iv (nK i1), iv (nB i1), iv (2 : Int32), iv (nC0 i4), iv (nC1 i4), iv (nC2 i5), rv b313, rv b324, .unset, .unset, .unset, .unset, .unset, .unset, .unset] [(.ref na_364)])) := fun t k => g363 t (st364.trans k)
      have g366 : Goes p e below S0 (T364.setTop (mkF m 151 #[iv i0, iv i1, iv i2, iv i3, .val (.long i4), .second, iv i5, iv (nM i0), iv (nK i1), iv (nB i1), iv (2 : Int32), iv (nC0 i4), iv (nC1 i4), iv (nC2 i5), rv b313, rv na_364, .unset, .unset, .unset, .unset, .unset, .unset, .unset] [(.int i3), (.int i2), (.ref b313), (.ref na_364)])) := fun t k => g365 t (by
        refine XS.astore X364.here hx rfl (hb hby at_143) rfl rfl (l' := #[iv i0, iv i1, iv i2, iv i3, .val (.long i4), .second, iv i5, iv (nM i0), iv (nK i1), iv (nB i1), iv (2 : Int32), iv (nC0 i4), iv (nC1 i4), iv (nC2 i5), rv b313, rv na_364, .unset, .unset, .unset, .unset, .unset, .unset, .unset]) rfl ?_
        show Go p e below t T364 m 145 #[iv i0, iv i1, iv i2, iv i3, .val (.long i4), .second, iv i5, iv (nM i0), iv (nK i1), iv (nB i1), iv (2 : Int32), iv (nC0 i4), iv (nC1 i4), iv (nC2 i5), rv b313, rv na_364, .unset, .unset, .unset, .unset, .unset, .unset, .unset] []
        refine XS.aload X364.here hx rfl (hb hby at_145) rfl rfl ?_
        show Go p e below t T364 m 147 #[iv i0, iv i1, iv i2, iv i3, .val (.long i4), .second, iv i5, iv (nM i0), iv (nK i1), iv (nB i1), iv (2 : Int32), iv (nC0 i4), iv (nC1 i4), iv (nC2 i5), rv b313, rv na_364, .unset, .unset, .unset, .unset, .unset, .unset, .unset] [(.ref na_364)]
        refine XS.aload X364.here hx rfl (hb hby at_147) rfl rfl ?_
        show Go p e below t T364 m 149 #[iv i0, iv i1, iv i2, iv i3, .val (.long i4), .second, iv i5, iv (nM i0), iv (nK i1), iv (nB i1), iv (2 : Int32), iv (nC0 i4), iv (nC1 i4), iv (nC2 i5), rv b313, rv na_364, .unset, .unset, .unset, .unset, .unset, .unset, .unset] [(.ref b313), (.ref na_364)]
        refine XS.iloadN X364.here hx rfl (hb hby at_149) rfl ?_
        show Go p e below t T364 m 150 #[iv i0, iv i1, iv i2, iv i3, .val (.long i4), .second, iv i5, iv (nM i0), iv (nK i1), iv (nB i1), iv (2 : Int32), iv (nC0 i4), iv (nC1 i4), iv (nC2 i5), rv b313, rv na_364, .unset, .unset, .unset, .unset, .unset, .unset, .unset] [(.int i2), (.ref b313), (.ref na_364)]
        refine XS.iloadN X364.here hx rfl (hb hby at_150) rfl ?_
        show Go p e below t T364 m 151 #[iv i0, iv i1, iv i2, iv i3, .val (.long i4), .second, iv i5, iv (nM i0), iv (nK i1), iv (nB i1), iv (2 : Int32), iv (nC0 i4), iv (nC1 i4), iv (nC2 i5), rv b313, rv na_364, .unset, .unset, .unset, .unset, .unset, .unset, .unset] [(.int i3), (.int i2), (.ref b313), (.ref na_364)]
        exact k)
      obtain ⟨cq367, kq367, q367a, q367b, q367c⟩ := isOf hZ rfl R364_1
      obtain ⟨_, _, ⟨T367, L367, k367, n367⟩, -, X367, ⟨Lc367, hQ367, l367, y367, z367⟩, st367⟩ := X364.virtualBack hx (y := (⟨"com/example/hetmo/hetmo/tree/StoppingRules", "admits", "([III)Z"⟩ : MethodName)) (z := (⟨"com/example/hetmo/hetmo/tree/StoppingRules", "admits", "([III)Z"⟩ : MethodName)) hown (mvT hZ (hw _ (List.mem_of_getElem? (i := 39) rfl))) (mvT hZ (hw _ (List.mem_of_getElem? (i := 40) rfl))) (notFace_of_selects (args := #[]) (mvT hZ (hw _ (List.mem_of_getElem? (i := 42) rfl)))) (mvT hZ (hw _ (List.mem_of_getElem? (i := 42) rfl))) (mvT hZ (hw _ (List.mem_of_getElem? (i := 41) rfl))) (by decide) (backOf (W := 0) (rm_ad2 l Z a0 hw [] na_364 b313 i2 i3 (nM i0) (nS i1) (nar .boolean (1 : Int32)) k313 (nC0 i4) (nC1 i4) T364.heap n0 (Nat.le_trans Z0 (Nat.le_trans (Nat.le_trans (Nat.le_trans (Nat.le_trans (Nat.le_trans (Nat.le_trans (Nat.le_refl _) E313.1) (Nat.le_of_eq W317.size.symm)) (Nat.le_of_eq W321.size.symm)) E324.1) R334_0.1) R364_0.1)) R364_2 R364_3 R364_7 (((V321.ext E324).keep R334_0 (ninS (Nat.ne_of_lt (Nat.lt_of_lt_of_le V321.lt (Nat.le_of_eq gb324.symm))) nin0)).keep R364_0 nin0) (own_qf i1)) hZ (hw _ (List.mem_of_getElem? (i := 43) rfl)) (hw _ (List.mem_of_getElem? (i := 9) rfl)) (by decide) (by decide)) q367a q367c (g := (mkF m 151 #[iv i0, iv i1, iv i2, iv i3, .val (.long i4), .second, iv i5, iv (nM i0), iv (nK i1), iv (nB i1), iv (2 : Int32), iv (nC0 i4), iv (nC1 i4), iv (nC2 i5), rv b313, rv na_364, .unset, .unset, .unset, .unset, .unset, .unset, .unset] [(.int i3), (.int i2), (.ref b313), (.ref na_364)])) rfl (by rw [hml]; rfl) (Steps.refl _) (argsL := [(.ref b313), (.int i2), (.int i3)]) (rest := []) (lenOf pd6 rfl) rfl (by show 2 * 0 + _ ≤ _; exact Nat.le_of_eq rfl) (hb hby at_151) (fun _ _ => ⟨rfl, rfl, (by decide : 3 + 0 ≤ _), (by decide : 16 + 0 ≤ _)⟩)
      dsimp only [Pt.U, Pt.locs, Pt.cells, Pt.slots] at X367 l367 y367 z367 st367 hQ367
      subst l367 y367 z367
      obtain ⟨rfl, N367, e367⟩ := hQ367
      have M367 := Fr.app M364 N367
      have g368 : Goes p e below S0 (T367.setTop (mkF m 154 #[iv i0, iv i1, iv i2, iv i3, .val (.long i4), .second, iv i5, iv (nM i0), iv (nK i1), iv (nB i1), iv (2 : Int32), iv (nC0 i4), iv (nC1 i4), iv (nC2 i5), rv b313, rv na_364, .unset, .unset, .unset, .unset, .unset, .unset, .unset] [(.int (f_ad2 i2 i3 (nM i0) (nS i1) (nar .boolean (1 : Int32)) (nC0 i4) (nC1 i4)))])) := fun t k => g366 t (st367.trans k)
      have g369 : Goes p e below S0 (T367.setTop (mkF m 168 #[iv i0, iv i1, iv i2, iv i3, .val (.long i4), .second, iv i5, iv (nM i0), iv (nK i1), iv (nB i1), iv (2 : Int32), iv (nC0 i4), iv (nC1 i4), iv (nC2 i5), rv b313, rv na_364, iv (f_ad2 i2 i3 (nM i0) (nS i1) (nar .boolean (1 : Int32)) (nC0 i4) (nC1 i4)), iv (1 : Int32), .val (.long (0 : Int64)), .second, .unset, .unset, .unset] [])) := fun t k => g368 t (by
        refine XS.istore X367.here hx rfl (hb hby at_154) rfl (l' := #[iv i0, iv i1, iv i2, iv i3, .val (.long i4), .second, iv i5, iv (nM i0), iv (nK i1), iv (nB i1), iv (2 : Int32), iv (nC0 i4), iv (nC1 i4), iv (nC2 i5), rv b313, rv na_364, iv (f_ad2 i2 i3 (nM i0) (nS i1) (nar .boolean (1 : Int32)) (nC0 i4) (nC1 i4)), .unset, .unset, .unset, .unset, .unset, .unset]) rfl ?_
        show Go p e below t T367 m 156 #[iv i0, iv i1, iv i2, iv i3, .val (.long i4), .second, iv i5, iv (nM i0), iv (nK i1), iv (nB i1), iv (2 : Int32), iv (nC0 i4), iv (nC1 i4), iv (nC2 i5), rv b313, rv na_364, iv (f_ad2 i2 i3 (nM i0) (nS i1) (nar .boolean (1 : Int32)) (nC0 i4) (nC1 i4)), .unset, .unset, .unset, .unset, .unset, .unset] []
        refine XT.iconstV X367.here hx rfl (1 : Int32) (hb hby at_156) (by decide) ?_
        show Go p e below t T367 m 157 #[iv i0, iv i1, iv i2, iv i3, .val (.long i4), .second, iv i5, iv (nM i0), iv (nK i1), iv (nB i1), iv (2 : Int32), iv (nC0 i4), iv (nC1 i4), iv (nC2 i5), rv b313, rv na_364, iv (f_ad2 i2 i3 (nM i0) (nS i1) (nar .boolean (1 : Int32)) (nC0 i4) (nC1 i4)), .unset, .unset, .unset, .unset, .unset, .unset] [(.int (1 : Int32))]
        refine XS.istore X367.here hx rfl (hb hby at_157) rfl (l' := #[iv i0, iv i1, iv i2, iv i3, .val (.long i4), .second, iv i5, iv (nM i0), iv (nK i1), iv (nB i1), iv (2 : Int32), iv (nC0 i4), iv (nC1 i4), iv (nC2 i5), rv b313, rv na_364, iv (f_ad2 i2 i3 (nM i0) (nS i1) (nar .boolean (1 : Int32)) (nC0 i4) (nC1 i4)), iv (1 : Int32), .unset, .unset, .unset, .unset, .unset]) rfl ?_
        show Go p e below t T367 m 159 #[iv i0, iv i1, iv i2, iv i3, .val (.long i4), .second, iv i5, iv (nM i0), iv (nK i1), iv (nB i1), iv (2 : Int32), iv (nC0 i4), iv (nC1 i4), iv (nC2 i5), rv b313, rv na_364, iv (f_ad2 i2 i3 (nM i0) (nS i1) (nar .boolean (1 : Int32)) (nC0 i4) (nC1 i4)), iv (1 : Int32), .unset, .unset, .unset, .unset, .unset] []
        refine XT.lconstV X367.here hx rfl (0 : Int64) (hb hby at_159) (by decide) ?_
        show Go p e below t T367 m 160 #[iv i0, iv i1, iv i2, iv i3, .val (.long i4), .second, iv i5, iv (nM i0), iv (nK i1), iv (nB i1), iv (2 : Int32), iv (nC0 i4), iv (nC1 i4), iv (nC2 i5), rv b313, rv na_364, iv (f_ad2 i2 i3 (nM i0) (nS i1) (nar .boolean (1 : Int32)) (nC0 i4) (nC1 i4)), iv (1 : Int32), .unset, .unset, .unset, .unset, .unset] [(.long (0 : Int64))]
        refine XS.lstore X367.here hx rfl (hb hby at_160) rfl (l' := #[iv i0, iv i1, iv i2, iv i3, .val (.long i4), .second, iv i5, iv (nM i0), iv (nK i1), iv (nB i1), iv (2 : Int32), iv (nC0 i4), iv (nC1 i4), iv (nC2 i5), rv b313, rv na_364, iv (f_ad2 i2 i3 (nM i0) (nS i1) (nar .boolean (1 : Int32)) (nC0 i4) (nC1 i4)), iv (1 : Int32), .val (.long (0 : Int64)), .second, .unset, .unset, .unset]) rfl ?_
        show Go p e below t T367 m 162 #[iv i0, iv i1, iv i2, iv i3, .val (.long i4), .second, iv i5, iv (nM i0), iv (nK i1), iv (nB i1), iv (2 : Int32), iv (nC0 i4), iv (nC1 i4), iv (nC2 i5), rv b313, rv na_364, iv (f_ad2 i2 i3 (nM i0) (nS i1) (nar .boolean (1 : Int32)) (nC0 i4) (nC1 i4)), iv (1 : Int32), .val (.long (0 : Int64)), .second, .unset, .unset, .unset] []
        refine XS.iload X367.here hx rfl (hb hby at_162) rfl ?_
        show Go p e below t T367 m 164 #[iv i0, iv i1, iv i2, iv i3, .val (.long i4), .second, iv i5, iv (nM i0), iv (nK i1), iv (nB i1), iv (2 : Int32), iv (nC0 i4), iv (nC1 i4), iv (nC2 i5), rv b313, rv na_364, iv (f_ad2 i2 i3 (nM i0) (nS i1) (nar .boolean (1 : Int32)) (nC0 i4) (nC1 i4)), iv (1 : Int32), .val (.long (0 : Int64)), .second, .unset, .unset, .unset] [(.int (2 : Int32))]
        refine XT.iconstV X367.here hx rfl (1 : Int32) (hb hby at_164) (by decide) ?_
        show Go p e below t T367 m 165 #[iv i0, iv i1, iv i2, iv i3, .val (.long i4), .second, iv i5, iv (nM i0), iv (nK i1), iv (nB i1), iv (2 : Int32), iv (nC0 i4), iv (nC1 i4), iv (nC2 i5), rv b313, rv na_364, iv (f_ad2 i2 i3 (nM i0) (nS i1) (nar .boolean (1 : Int32)) (nC0 i4) (nC1 i4)), iv (1 : Int32), .val (.long (0 : Int64)), .second, .unset, .unset, .unset] [(.int (1 : Int32)), (.int (2 : Int32))]
        refine XS.icmpNo X367.here hx rfl (hb hby at_165) rfl (XT.ii_lt_f (by decide)) ?_
        show Go p e below t T367 m 168 #[iv i0, iv i1, iv i2, iv i3, .val (.long i4), .second, iv i5, iv (nM i0), iv (nK i1), iv (nB i1), iv (2 : Int32), iv (nC0 i4), iv (nC1 i4), iv (nC2 i5), rv b313, rv na_364, iv (f_ad2 i2 i3 (nM i0) (nS i1) (nar .boolean (1 : Int32)) (nC0 i4) (nC1 i4)), iv (1 : Int32), .val (.long (0 : Int64)), .second, .unset, .unset, .unset] []
        exact k)
      have gf370 : Goes p e below S0 (T367.setTop (mkF m 178 #[iv i0, iv i1, iv i2, iv i3, .val (.long i4), .second, iv i5, iv (nM i0), iv (nK i1), iv (nB i1), iv (2 : Int32), iv (nC0 i4), iv (nC1 i4), iv (nC2 i5), rv b313, rv na_364, iv (f_ad2 i2 i3 (nM i0) (nS i1) (nar .boolean (1 : Int32)) (nC0 i4) (nC1 i4)), iv (own_all (1 : Int32) (nC0 i4) (nM i0)), .val (.long (0 : Int64)), .second, .unset, .unset, .unset] [])) := by
        have g371 : Goes p e below S0 (T367.setTop (mkF m 172 #[iv i0, iv i1, iv i2, iv i3, .val (.long i4), .second, iv i5, iv (nM i0), iv (nK i1), iv (nB i1), iv (2 : Int32), iv (nC0 i4), iv (nC1 i4), iv (nC2 i5), rv b313, rv na_364, iv (f_ad2 i2 i3 (nM i0) (nS i1) (nar .boolean (1 : Int32)) (nC0 i4) (nC1 i4)), iv (1 : Int32), .val (.long (0 : Int64)), .second, .unset, .unset, .unset] [(.int (nM i0)), (.int (nC0 i4))])) := fun t k => g369 t (by
          refine XS.iload X367.here hx rfl (hb hby at_168) rfl ?_
          show Go p e below t T367 m 170 #[iv i0, iv i1, iv i2, iv i3, .val (.long i4), .second, iv i5, iv (nM i0), iv (nK i1), iv (nB i1), iv (2 : Int32), iv (nC0 i4), iv (nC1 i4), iv (nC2 i5), rv b313, rv na_364, iv (f_ad2 i2 i3 (nM i0) (nS i1) (nar .boolean (1 : Int32)) (nC0 i4) (nC1 i4)), iv (1 : Int32), .val (.long (0 : Int64)), .second, .unset, .unset, .unset] [(.int (nC0 i4))]
          refine XS.iload X367.here hx rfl (hb hby at_170) rfl ?_
          show Go p e below t T367 m 172 #[iv i0, iv i1, iv i2, iv i3, .val (.long i4), .second, iv i5, iv (nM i0), iv (nK i1), iv (nB i1), iv (2 : Int32), iv (nC0 i4), iv (nC1 i4), iv (nC2 i5), rv b313, rv na_364, iv (f_ad2 i2 i3 (nM i0) (nS i1) (nar .boolean (1 : Int32)) (nC0 i4) (nC1 i4)), iv (1 : Int32), .val (.long (0 : Int64)), .second, .unset, .unset, .unset] [(.int (nM i0)), (.int (nC0 i4))]
          exact k)
        by_cases h372 : (nC0 i4) < (nM i0)
        · skip
          have g373 : Goes p e below S0 (T367.setTop (mkF m 178 #[iv i0, iv i1, iv i2, iv i3, .val (.long i4), .second, iv i5, iv (nM i0), iv (nK i1), iv (nB i1), iv (2 : Int32), iv (nC0 i4), iv (nC1 i4), iv (nC2 i5), rv b313, rv na_364, iv (f_ad2 i2 i3 (nM i0) (nS i1) (nar .boolean (1 : Int32)) (nC0 i4) (nC1 i4)), iv (0 : Int32), .val (.long (0 : Int64)), .second, .unset, .unset, .unset] [])) := fun t k => g371 t (by
            refine XS.icmpNo X367.here hx rfl (hb hby at_172) rfl (XT.ii_ge_f h372) ?_
            show Go p e below t T367 m 175 #[iv i0, iv i1, iv i2, iv i3, .val (.long i4), .second, iv i5, iv (nM i0), iv (nK i1), iv (nB i1), iv (2 : Int32), iv (nC0 i4), iv (nC1 i4), iv (nC2 i5), rv b313, rv na_364, iv (f_ad2 i2 i3 (nM i0) (nS i1) (nar .boolean (1 : Int32)) (nC0 i4) (nC1 i4)), iv (1 : Int32), .val (.long (0 : Int64)), .second, .unset, .unset, .unset] []
            refine XT.iconstV X367.here hx rfl (0 : Int32) (hb hby at_175) (by decide) ?_
            show Go p e below t T367 m 176 #[iv i0, iv i1, iv i2, iv i3, .val (.long i4), .second, iv i5, iv (nM i0), iv (nK i1), iv (nB i1), iv (2 : Int32), iv (nC0 i4), iv (nC1 i4), iv (nC2 i5), rv b313, rv na_364, iv (f_ad2 i2 i3 (nM i0) (nS i1) (nar .boolean (1 : Int32)) (nC0 i4) (nC1 i4)), iv (1 : Int32), .val (.long (0 : Int64)), .second, .unset, .unset, .unset] [(.int (0 : Int32))]
            refine XS.istore X367.here hx rfl (hb hby at_176) rfl (l' := #[iv i0, iv i1, iv i2, iv i3, .val (.long i4), .second, iv i5, iv (nM i0), iv (nK i1), iv (nB i1), iv (2 : Int32), iv (nC0 i4), iv (nC1 i4), iv (nC2 i5), rv b313, rv na_364, iv (f_ad2 i2 i3 (nM i0) (nS i1) (nar .boolean (1 : Int32)) (nC0 i4) (nC1 i4)), iv (0 : Int32), .val (.long (0 : Int64)), .second, .unset, .unset, .unset]) rfl ?_
            show Go p e below t T367 m 178 #[iv i0, iv i1, iv i2, iv i3, .val (.long i4), .second, iv i5, iv (nM i0), iv (nK i1), iv (nB i1), iv (2 : Int32), iv (nC0 i4), iv (nC1 i4), iv (nC2 i5), rv b313, rv na_364, iv (f_ad2 i2 i3 (nM i0) (nS i1) (nar .boolean (1 : Int32)) (nC0 i4) (nC1 i4)), iv (0 : Int32), .val (.long (0 : Int64)), .second, .unset, .unset, .unset] []
            exact k)
          have e370_0 : (own_all (1 : Int32) (nC0 i4) (nM i0)) = (0 : Int32) := by first | exact if_pos h372 | (unfold own_all; first | (rw [if_pos h372]; done) | (simp [h372]; done) | (rw [if_pos h372]; decide))
          rw [e370_0]; exact g373
        · skip
          have g374 : Goes p e below S0 (T367.setTop (mkF m 178 #[iv i0, iv i1, iv i2, iv i3, .val (.long i4), .second, iv i5, iv (nM i0), iv (nK i1), iv (nB i1), iv (2 : Int32), iv (nC0 i4), iv (nC1 i4), iv (nC2 i5), rv b313, rv na_364, iv (f_ad2 i2 i3 (nM i0) (nS i1) (nar .boolean (1 : Int32)) (nC0 i4) (nC1 i4)), iv (1 : Int32), .val (.long (0 : Int64)), .second, .unset, .unset, .unset] [])) := fun t k => g371 t (by
            refine XS.icmpYes X367.here hx rfl (pc0 := 172) (pc' := 178) rfl (hb hby at_172) rfl (XT.ii_ge_t h372) (by decide) (by decide) ?_
            show Go p e below t T367 m 178 #[iv i0, iv i1, iv i2, iv i3, .val (.long i4), .second, iv i5, iv (nM i0), iv (nK i1), iv (nB i1), iv (2 : Int32), iv (nC0 i4), iv (nC1 i4), iv (nC2 i5), rv b313, rv na_364, iv (f_ad2 i2 i3 (nM i0) (nS i1) (nar .boolean (1 : Int32)) (nC0 i4) (nC1 i4)), iv (1 : Int32), .val (.long (0 : Int64)), .second, .unset, .unset, .unset] []
            exact k)
          have e370_0 : (own_all (1 : Int32) (nC0 i4) (nM i0)) = (1 : Int32) := by first | exact if_neg h372 | (unfold own_all; first | (rw [if_neg h372]; done) | (simp [h372]; done) | (rw [if_neg h372]; decide))
          rw [e370_0]; exact g374
      have g375 : Goes p e below S0 (T367.setTop (mkF m 192 #[iv i0, iv i1, iv i2, iv i3, .val (.long i4), .second, iv i5, iv (nM i0), iv (nK i1), iv (nB i1), iv (2 : Int32), iv (nC0 i4), iv (nC1 i4), iv (nC2 i5), rv b313, rv na_364, iv (f_ad2 i2 i3 (nM i0) (nS i1) (nar .boolean (1 : Int32)) (nC0 i4) (nC1 i4)), iv (own_all (1 : Int32) (nC0 i4) (nM i0)), .val (.long ((0 : Int64) + ((nC0 i4).toInt64))), .second, .unset, .unset, .unset] [])) := fun t k => gf370 t (by
        refine XS.lload X367.here hx rfl (hb hby at_178) rfl ?_
        show Go p e below t T367 m 180 #[iv i0, iv i1, iv i2, iv i3, .val (.long i4), .second, iv i5, iv (nM i0), iv (nK i1), iv (nB i1), iv (2 : Int32), iv (nC0 i4), iv (nC1 i4), iv (nC2 i5), rv b313, rv na_364, iv (f_ad2 i2 i3 (nM i0) (nS i1) (nar .boolean (1 : Int32)) (nC0 i4) (nC1 i4)), iv (own_all (1 : Int32) (nC0 i4) (nM i0)), .val (.long (0 : Int64)), .second, .unset, .unset, .unset] [(.long (0 : Int64))]
        refine XS.iload X367.here hx rfl (hb hby at_180) rfl ?_
        show Go p e below t T367 m 182 #[iv i0, iv i1, iv i2, iv i3, .val (.long i4), .second, iv i5, iv (nM i0), iv (nK i1), iv (nB i1), iv (2 : Int32), iv (nC0 i4), iv (nC1 i4), iv (nC2 i5), rv b313, rv na_364, iv (f_ad2 i2 i3 (nM i0) (nS i1) (nar .boolean (1 : Int32)) (nC0 i4) (nC1 i4)), iv (own_all (1 : Int32) (nC0 i4) (nM i0)), .val (.long (0 : Int64)), .second, .unset, .unset, .unset] [(.int (nC0 i4)), (.long (0 : Int64))]
        refine XS.i2l X367.here hx rfl (hb hby at_182) rfl ?_
        show Go p e below t T367 m 183 #[iv i0, iv i1, iv i2, iv i3, .val (.long i4), .second, iv i5, iv (nM i0), iv (nK i1), iv (nB i1), iv (2 : Int32), iv (nC0 i4), iv (nC1 i4), iv (nC2 i5), rv b313, rv na_364, iv (f_ad2 i2 i3 (nM i0) (nS i1) (nar .boolean (1 : Int32)) (nC0 i4) (nC1 i4)), iv (own_all (1 : Int32) (nC0 i4) (nM i0)), .val (.long (0 : Int64)), .second, .unset, .unset, .unset] [(.long ((nC0 i4).toInt64)), (.long (0 : Int64))]
        refine XS.ladd X367.here hx rfl (hb hby at_183) rfl ?_
        show Go p e below t T367 m 184 #[iv i0, iv i1, iv i2, iv i3, .val (.long i4), .second, iv i5, iv (nM i0), iv (nK i1), iv (nB i1), iv (2 : Int32), iv (nC0 i4), iv (nC1 i4), iv (nC2 i5), rv b313, rv na_364, iv (f_ad2 i2 i3 (nM i0) (nS i1) (nar .boolean (1 : Int32)) (nC0 i4) (nC1 i4)), iv (own_all (1 : Int32) (nC0 i4) (nM i0)), .val (.long (0 : Int64)), .second, .unset, .unset, .unset] [(.long ((0 : Int64) + ((nC0 i4).toInt64)))]
        refine XS.lstore X367.here hx rfl (hb hby at_184) rfl (l' := #[iv i0, iv i1, iv i2, iv i3, .val (.long i4), .second, iv i5, iv (nM i0), iv (nK i1), iv (nB i1), iv (2 : Int32), iv (nC0 i4), iv (nC1 i4), iv (nC2 i5), rv b313, rv na_364, iv (f_ad2 i2 i3 (nM i0) (nS i1) (nar .boolean (1 : Int32)) (nC0 i4) (nC1 i4)), iv (own_all (1 : Int32) (nC0 i4) (nM i0)), .val (.long ((0 : Int64) + ((nC0 i4).toInt64))), .second, .unset, .unset, .unset]) rfl ?_
        show Go p e below t T367 m 186 #[iv i0, iv i1, iv i2, iv i3, .val (.long i4), .second, iv i5, iv (nM i0), iv (nK i1), iv (nB i1), iv (2 : Int32), iv (nC0 i4), iv (nC1 i4), iv (nC2 i5), rv b313, rv na_364, iv (f_ad2 i2 i3 (nM i0) (nS i1) (nar .boolean (1 : Int32)) (nC0 i4) (nC1 i4)), iv (own_all (1 : Int32) (nC0 i4) (nM i0)), .val (.long ((0 : Int64) + ((nC0 i4).toInt64))), .second, .unset, .unset, .unset] []
        refine XS.iload X367.here hx rfl (hb hby at_186) rfl ?_
        show Go p e below t T367 m 188 #[iv i0, iv i1, iv i2, iv i3, .val (.long i4), .second, iv i5, iv (nM i0), iv (nK i1), iv (nB i1), iv (2 : Int32), iv (nC0 i4), iv (nC1 i4), iv (nC2 i5), rv b313, rv na_364, iv (f_ad2 i2 i3 (nM i0) (nS i1) (nar .boolean (1 : Int32)) (nC0 i4) (nC1 i4)), iv (own_all (1 : Int32) (nC0 i4) (nM i0)), .val (.long ((0 : Int64) + ((nC0 i4).toInt64))), .second, .unset, .unset, .unset] [(.int (2 : Int32))]
        refine XT.iconstV X367.here hx rfl (2 : Int32) (hb hby at_188) (by decide) ?_
        show Go p e below t T367 m 189 #[iv i0, iv i1, iv i2, iv i3, .val (.long i4), .second, iv i5, iv (nM i0), iv (nK i1), iv (nB i1), iv (2 : Int32), iv (nC0 i4), iv (nC1 i4), iv (nC2 i5), rv b313, rv na_364, iv (f_ad2 i2 i3 (nM i0) (nS i1) (nar .boolean (1 : Int32)) (nC0 i4) (nC1 i4)), iv (own_all (1 : Int32) (nC0 i4) (nM i0)), .val (.long ((0 : Int64) + ((nC0 i4).toInt64))), .second, .unset, .unset, .unset] [(.int (2 : Int32)), (.int (2 : Int32))]
        refine XS.icmpNo X367.here hx rfl (hb hby at_189) rfl (XT.ii_lt_f (by decide)) ?_
        show Go p e below t T367 m 192 #[iv i0, iv i1, iv i2, iv i3, .val (.long i4), .second, iv i5, iv (nM i0), iv (nK i1), iv (nB i1), iv (2 : Int32), iv (nC0 i4), iv (nC1 i4), iv (nC2 i5), rv b313, rv na_364, iv (f_ad2 i2 i3 (nM i0) (nS i1) (nar .boolean (1 : Int32)) (nC0 i4) (nC1 i4)), iv (own_all (1 : Int32) (nC0 i4) (nM i0)), .val (.long ((0 : Int64) + ((nC0 i4).toInt64))), .second, .unset, .unset, .unset] []
        exact k)
      have gf376 : Goes p e below S0 (T367.setTop (mkF m 202 #[iv i0, iv i1, iv i2, iv i3, .val (.long i4), .second, iv i5, iv (nM i0), iv (nK i1), iv (nB i1), iv (2 : Int32), iv (nC0 i4), iv (nC1 i4), iv (nC2 i5), rv b313, rv na_364, iv (f_ad2 i2 i3 (nM i0) (nS i1) (nar .boolean (1 : Int32)) (nC0 i4) (nC1 i4)), iv (own_all (own_all (1 : Int32) (nC0 i4) (nM i0)) (nC1 i4) (nM i0)), .val (.long ((0 : Int64) + ((nC0 i4).toInt64))), .second, .unset, .unset, .unset] [])) := by
        have g377 : Goes p e below S0 (T367.setTop (mkF m 196 #[iv i0, iv i1, iv i2, iv i3, .val (.long i4), .second, iv i5, iv (nM i0), iv (nK i1), iv (nB i1), iv (2 : Int32), iv (nC0 i4), iv (nC1 i4), iv (nC2 i5), rv b313, rv na_364, iv (f_ad2 i2 i3 (nM i0) (nS i1) (nar .boolean (1 : Int32)) (nC0 i4) (nC1 i4)), iv (own_all (1 : Int32) (nC0 i4) (nM i0)), .val (.long ((0 : Int64) + ((nC0 i4).toInt64))), .second, .unset, .unset, .unset] [(.int (nM i0)), (.int (nC1 i4))])) := fun t k => g375 t (by
          refine XS.iload X367.here hx rfl (hb hby at_192) rfl ?_
          show Go p e below t T367 m 194 #[iv i0, iv i1, iv i2, iv i3, .val (.long i4), .second, iv i5, iv (nM i0), iv (nK i1), iv (nB i1), iv (2 : Int32), iv (nC0 i4), iv (nC1 i4), iv (nC2 i5), rv b313, rv na_364, iv (f_ad2 i2 i3 (nM i0) (nS i1) (nar .boolean (1 : Int32)) (nC0 i4) (nC1 i4)), iv (own_all (1 : Int32) (nC0 i4) (nM i0)), .val (.long ((0 : Int64) + ((nC0 i4).toInt64))), .second, .unset, .unset, .unset] [(.int (nC1 i4))]
          refine XS.iload X367.here hx rfl (hb hby at_194) rfl ?_
          show Go p e below t T367 m 196 #[iv i0, iv i1, iv i2, iv i3, .val (.long i4), .second, iv i5, iv (nM i0), iv (nK i1), iv (nB i1), iv (2 : Int32), iv (nC0 i4), iv (nC1 i4), iv (nC2 i5), rv b313, rv na_364, iv (f_ad2 i2 i3 (nM i0) (nS i1) (nar .boolean (1 : Int32)) (nC0 i4) (nC1 i4)), iv (own_all (1 : Int32) (nC0 i4) (nM i0)), .val (.long ((0 : Int64) + ((nC0 i4).toInt64))), .second, .unset, .unset, .unset] [(.int (nM i0)), (.int (nC1 i4))]
          exact k)
        by_cases h378 : (nC1 i4) < (nM i0)
        · skip
          have g379 : Goes p e below S0 (T367.setTop (mkF m 202 #[iv i0, iv i1, iv i2, iv i3, .val (.long i4), .second, iv i5, iv (nM i0), iv (nK i1), iv (nB i1), iv (2 : Int32), iv (nC0 i4), iv (nC1 i4), iv (nC2 i5), rv b313, rv na_364, iv (f_ad2 i2 i3 (nM i0) (nS i1) (nar .boolean (1 : Int32)) (nC0 i4) (nC1 i4)), iv (0 : Int32), .val (.long ((0 : Int64) + ((nC0 i4).toInt64))), .second, .unset, .unset, .unset] [])) := fun t k => g377 t (by
            refine XS.icmpNo X367.here hx rfl (hb hby at_196) rfl (XT.ii_ge_f h378) ?_
            show Go p e below t T367 m 199 #[iv i0, iv i1, iv i2, iv i3, .val (.long i4), .second, iv i5, iv (nM i0), iv (nK i1), iv (nB i1), iv (2 : Int32), iv (nC0 i4), iv (nC1 i4), iv (nC2 i5), rv b313, rv na_364, iv (f_ad2 i2 i3 (nM i0) (nS i1) (nar .boolean (1 : Int32)) (nC0 i4) (nC1 i4)), iv (own_all (1 : Int32) (nC0 i4) (nM i0)), .val (.long ((0 : Int64) + ((nC0 i4).toInt64))), .second, .unset, .unset, .unset] []
            refine XT.iconstV X367.here hx rfl (0 : Int32) (hb hby at_199) (by decide) ?_
            show Go p e below t T367 m 200 #[iv i0, iv i1, iv i2, iv i3, .val (.long i4), .second, iv i5, iv (nM i0), iv (nK i1), iv (nB i1), iv (2 : Int32), iv (nC0 i4), iv (nC1 i4), iv (nC2 i5), rv b313, rv na_364, iv (f_ad2 i2 i3 (nM i0) (nS i1) (nar .boolean (1 : Int32)) (nC0 i4) (nC1 i4)), iv (own_all (1 : Int32) (nC0 i4) (nM i0)), .val (.long ((0 : Int64) + ((nC0 i4).toInt64))), .second, .unset, .unset, .unset] [(.int (0 : Int32))]
            refine XS.istore X367.here hx rfl (hb hby at_200) rfl (l' := #[iv i0, iv i1, iv i2, iv i3, .val (.long i4), .second, iv i5, iv (nM i0), iv (nK i1), iv (nB i1), iv (2 : Int32), iv (nC0 i4), iv (nC1 i4), iv (nC2 i5), rv b313, rv na_364, iv (f_ad2 i2 i3 (nM i0) (nS i1) (nar .boolean (1 : Int32)) (nC0 i4) (nC1 i4)), iv (0 : Int32), .val (.long ((0 : Int64) + ((nC0 i4).toInt64))), .second, .unset, .unset, .unset]) rfl ?_
            show Go p e below t T367 m 202 #[iv i0, iv i1, iv i2, iv i3, .val (.long i4), .second, iv i5, iv (nM i0), iv (nK i1), iv (nB i1), iv (2 : Int32), iv (nC0 i4), iv (nC1 i4), iv (nC2 i5), rv b313, rv na_364, iv (f_ad2 i2 i3 (nM i0) (nS i1) (nar .boolean (1 : Int32)) (nC0 i4) (nC1 i4)), iv (0 : Int32), .val (.long ((0 : Int64) + ((nC0 i4).toInt64))), .second, .unset, .unset, .unset] []
            exact k)
          have e376_0 : (own_all (own_all (1 : Int32) (nC0 i4) (nM i0)) (nC1 i4) (nM i0)) = (0 : Int32) := by first | exact if_pos h378 | (unfold own_all; first | (rw [if_pos h378]; done) | (simp [h378]; done) | (rw [if_pos h378]; decide))
          rw [e376_0]; exact g379
        · skip
          have g380 : Goes p e below S0 (T367.setTop (mkF m 202 #[iv i0, iv i1, iv i2, iv i3, .val (.long i4), .second, iv i5, iv (nM i0), iv (nK i1), iv (nB i1), iv (2 : Int32), iv (nC0 i4), iv (nC1 i4), iv (nC2 i5), rv b313, rv na_364, iv (f_ad2 i2 i3 (nM i0) (nS i1) (nar .boolean (1 : Int32)) (nC0 i4) (nC1 i4)), iv (own_all (1 : Int32) (nC0 i4) (nM i0)), .val (.long ((0 : Int64) + ((nC0 i4).toInt64))), .second, .unset, .unset, .unset] [])) := fun t k => g377 t (by
            refine XS.icmpYes X367.here hx rfl (pc0 := 196) (pc' := 202) rfl (hb hby at_196) rfl (XT.ii_ge_t h378) (by decide) (by decide) ?_
            show Go p e below t T367 m 202 #[iv i0, iv i1, iv i2, iv i3, .val (.long i4), .second, iv i5, iv (nM i0), iv (nK i1), iv (nB i1), iv (2 : Int32), iv (nC0 i4), iv (nC1 i4), iv (nC2 i5), rv b313, rv na_364, iv (f_ad2 i2 i3 (nM i0) (nS i1) (nar .boolean (1 : Int32)) (nC0 i4) (nC1 i4)), iv (own_all (1 : Int32) (nC0 i4) (nM i0)), .val (.long ((0 : Int64) + ((nC0 i4).toInt64))), .second, .unset, .unset, .unset] []
            exact k)
          have e376_0 : (own_all (own_all (1 : Int32) (nC0 i4) (nM i0)) (nC1 i4) (nM i0)) = (own_all (1 : Int32) (nC0 i4) (nM i0)) := by first | exact if_neg h378 | (unfold own_all; first | (rw [if_neg h378]; done) | (simp [h378]; done) | (rw [if_neg h378]; decide))
          rw [e376_0]; exact g380
      have g381 : Goes p e below S0 (T367.setTop (mkF m 248 #[iv i0, iv i1, iv i2, iv i3, .val (.long i4), .second, iv i5, iv (nM i0), iv (nK i1), iv (nB i1), iv (2 : Int32), iv (nC0 i4), iv (nC1 i4), iv (nC2 i5), rv b313, rv na_364, iv (f_ad2 i2 i3 (nM i0) (nS i1) (nar .boolean (1 : Int32)) (nC0 i4) (nC1 i4)), iv (own_all (own_all (1 : Int32) (nC0 i4) (nM i0)) (nC1 i4) (nM i0)), .val (.long (((0 : Int64) + ((nC0 i4).toInt64)) + ((nC1 i4).toInt64))), .second, .val (.long ((i2).toInt64)), .second, .unset] [])) := fun t k => gf376 t (by
        refine XS.lload X367.here hx rfl (hb hby at_202) rfl ?_
        show Go p e below t T367 m 204 #[iv i0, iv i1, iv i2, iv i3, .val (.long i4), .second, iv i5, iv (nM i0), iv (nK i1), iv (nB i1), iv (2 : Int32), iv (nC0 i4), iv (nC1 i4), iv (nC2 i5), rv b313, rv na_364, iv (f_ad2 i2 i3 (nM i0) (nS i1) (nar .boolean (1 : Int32)) (nC0 i4) (nC1 i4)), iv (own_all (own_all (1 : Int32) (nC0 i4) (nM i0)) (nC1 i4) (nM i0)), .val (.long ((0 : Int64) + ((nC0 i4).toInt64))), .second, .unset, .unset, .unset] [(.long ((0 : Int64) + ((nC0 i4).toInt64)))]
        refine XS.iload X367.here hx rfl (hb hby at_204) rfl ?_
        show Go p e below t T367 m 206 #[iv i0, iv i1, iv i2, iv i3, .val (.long i4), .second, iv i5, iv (nM i0), iv (nK i1), iv (nB i1), iv (2 : Int32), iv (nC0 i4), iv (nC1 i4), iv (nC2 i5), rv b313, rv na_364, iv (f_ad2 i2 i3 (nM i0) (nS i1) (nar .boolean (1 : Int32)) (nC0 i4) (nC1 i4)), iv (own_all (own_all (1 : Int32) (nC0 i4) (nM i0)) (nC1 i4) (nM i0)), .val (.long ((0 : Int64) + ((nC0 i4).toInt64))), .second, .unset, .unset, .unset] [(.int (nC1 i4)), (.long ((0 : Int64) + ((nC0 i4).toInt64)))]
        refine XS.i2l X367.here hx rfl (hb hby at_206) rfl ?_
        show Go p e below t T367 m 207 #[iv i0, iv i1, iv i2, iv i3, .val (.long i4), .second, iv i5, iv (nM i0), iv (nK i1), iv (nB i1), iv (2 : Int32), iv (nC0 i4), iv (nC1 i4), iv (nC2 i5), rv b313, rv na_364, iv (f_ad2 i2 i3 (nM i0) (nS i1) (nar .boolean (1 : Int32)) (nC0 i4) (nC1 i4)), iv (own_all (own_all (1 : Int32) (nC0 i4) (nM i0)) (nC1 i4) (nM i0)), .val (.long ((0 : Int64) + ((nC0 i4).toInt64))), .second, .unset, .unset, .unset] [(.long ((nC1 i4).toInt64)), (.long ((0 : Int64) + ((nC0 i4).toInt64)))]
        refine XS.ladd X367.here hx rfl (hb hby at_207) rfl ?_
        show Go p e below t T367 m 208 #[iv i0, iv i1, iv i2, iv i3, .val (.long i4), .second, iv i5, iv (nM i0), iv (nK i1), iv (nB i1), iv (2 : Int32), iv (nC0 i4), iv (nC1 i4), iv (nC2 i5), rv b313, rv na_364, iv (f_ad2 i2 i3 (nM i0) (nS i1) (nar .boolean (1 : Int32)) (nC0 i4) (nC1 i4)), iv (own_all (own_all (1 : Int32) (nC0 i4) (nM i0)) (nC1 i4) (nM i0)), .val (.long ((0 : Int64) + ((nC0 i4).toInt64))), .second, .unset, .unset, .unset] [(.long (((0 : Int64) + ((nC0 i4).toInt64)) + ((nC1 i4).toInt64)))]
        refine XS.lstore X367.here hx rfl (hb hby at_208) rfl (l' := #[iv i0, iv i1, iv i2, iv i3, .val (.long i4), .second, iv i5, iv (nM i0), iv (nK i1), iv (nB i1), iv (2 : Int32), iv (nC0 i4), iv (nC1 i4), iv (nC2 i5), rv b313, rv na_364, iv (f_ad2 i2 i3 (nM i0) (nS i1) (nar .boolean (1 : Int32)) (nC0 i4) (nC1 i4)), iv (own_all (own_all (1 : Int32) (nC0 i4) (nM i0)) (nC1 i4) (nM i0)), .val (.long (((0 : Int64) + ((nC0 i4).toInt64)) + ((nC1 i4).toInt64))), .second, .unset, .unset, .unset]) rfl ?_
        show Go p e below t T367 m 210 #[iv i0, iv i1, iv i2, iv i3, .val (.long i4), .second, iv i5, iv (nM i0), iv (nK i1), iv (nB i1), iv (2 : Int32), iv (nC0 i4), iv (nC1 i4), iv (nC2 i5), rv b313, rv na_364, iv (f_ad2 i2 i3 (nM i0) (nS i1) (nar .boolean (1 : Int32)) (nC0 i4) (nC1 i4)), iv (own_all (own_all (1 : Int32) (nC0 i4) (nM i0)) (nC1 i4) (nM i0)), .val (.long (((0 : Int64) + ((nC0 i4).toInt64)) + ((nC1 i4).toInt64))), .second, .unset, .unset, .unset] []
        refine XS.iload X367.here hx rfl (hb hby at_210) rfl ?_
        show Go p e below t T367 m 212 #[iv i0, iv i1, iv i2, iv i3, .val (.long i4), .second, iv i5, iv (nM i0), iv (nK i1), iv (nB i1), iv (2 : Int32), iv (nC0 i4), iv (nC1 i4), iv (nC2 i5), rv b313, rv na_364, iv (f_ad2 i2 i3 (nM i0) (nS i1) (nar .boolean (1 : Int32)) (nC0 i4) (nC1 i4)), iv (own_all (own_all (1 : Int32) (nC0 i4) (nM i0)) (nC1 i4) (nM i0)), .val (.long (((0 : Int64) + ((nC0 i4).toInt64)) + ((nC1 i4).toInt64))), .second, .unset, .unset, .unset] [(.int (2 : Int32))]
        refine XT.iconstV X367.here hx rfl (3 : Int32) (hb hby at_212) (by decide) ?_
        show Go p e below t T367 m 213 #[iv i0, iv i1, iv i2, iv i3, .val (.long i4), .second, iv i5, iv (nM i0), iv (nK i1), iv (nB i1), iv (2 : Int32), iv (nC0 i4), iv (nC1 i4), iv (nC2 i5), rv b313, rv na_364, iv (f_ad2 i2 i3 (nM i0) (nS i1) (nar .boolean (1 : Int32)) (nC0 i4) (nC1 i4)), iv (own_all (own_all (1 : Int32) (nC0 i4) (nM i0)) (nC1 i4) (nM i0)), .val (.long (((0 : Int64) + ((nC0 i4).toInt64)) + ((nC1 i4).toInt64))), .second, .unset, .unset, .unset] [(.int (3 : Int32)), (.int (2 : Int32))]
        refine XS.icmpYes X367.here hx rfl (pc0 := 213) (pc' := 234) rfl (hb hby at_213) rfl (XT.ii_lt_t (by decide)) (by decide) (by decide) ?_
        show Go p e below t T367 m 234 #[iv i0, iv i1, iv i2, iv i3, .val (.long i4), .second, iv i5, iv (nM i0), iv (nK i1), iv (nB i1), iv (2 : Int32), iv (nC0 i4), iv (nC1 i4), iv (nC2 i5), rv b313, rv na_364, iv (f_ad2 i2 i3 (nM i0) (nS i1) (nar .boolean (1 : Int32)) (nC0 i4) (nC1 i4)), iv (own_all (own_all (1 : Int32) (nC0 i4) (nM i0)) (nC1 i4) (nM i0)), .val (.long (((0 : Int64) + ((nC0 i4).toInt64)) + ((nC1 i4).toInt64))), .second, .unset, .unset, .unset] []
        refine XS.iload X367.here hx rfl (hb hby at_234) rfl ?_
        show Go p e below t T367 m 236 #[iv i0, iv i1, iv i2, iv i3, .val (.long i4), .second, iv i5, iv (nM i0), iv (nK i1), iv (nB i1), iv (2 : Int32), iv (nC0 i4), iv (nC1 i4), iv (nC2 i5), rv b313, rv na_364, iv (f_ad2 i2 i3 (nM i0) (nS i1) (nar .boolean (1 : Int32)) (nC0 i4) (nC1 i4)), iv (own_all (own_all (1 : Int32) (nC0 i4) (nM i0)) (nC1 i4) (nM i0)), .val (.long (((0 : Int64) + ((nC0 i4).toInt64)) + ((nC1 i4).toInt64))), .second, .unset, .unset, .unset] [(.int (nB i1))]
        refine XS.ifNo X367.here hx rfl (hb hby at_236) rfl (XT.i0_eq_f h337) ?_
        show Go p e below t T367 m 239 #[iv i0, iv i1, iv i2, iv i3, .val (.long i4), .second, iv i5, iv (nM i0), iv (nK i1), iv (nB i1), iv (2 : Int32), iv (nC0 i4), iv (nC1 i4), iv (nC2 i5), rv b313, rv na_364, iv (f_ad2 i2 i3 (nM i0) (nS i1) (nar .boolean (1 : Int32)) (nC0 i4) (nC1 i4)), iv (own_all (own_all (1 : Int32) (nC0 i4) (nM i0)) (nC1 i4) (nM i0)), .val (.long (((0 : Int64) + ((nC0 i4).toInt64)) + ((nC1 i4).toInt64))), .second, .unset, .unset, .unset] []
        refine XS.iloadN X367.here hx rfl (hb hby at_239) rfl ?_
        show Go p e below t T367 m 240 #[iv i0, iv i1, iv i2, iv i3, .val (.long i4), .second, iv i5, iv (nM i0), iv (nK i1), iv (nB i1), iv (2 : Int32), iv (nC0 i4), iv (nC1 i4), iv (nC2 i5), rv b313, rv na_364, iv (f_ad2 i2 i3 (nM i0) (nS i1) (nar .boolean (1 : Int32)) (nC0 i4) (nC1 i4)), iv (own_all (own_all (1 : Int32) (nC0 i4) (nM i0)) (nC1 i4) (nM i0)), .val (.long (((0 : Int64) + ((nC0 i4).toInt64)) + ((nC1 i4).toInt64))), .second, .unset, .unset, .unset] [(.int i2)]
        refine XS.i2l X367.here hx rfl (hb hby at_240) rfl ?_
        show Go p e below t T367 m 241 #[iv i0, iv i1, iv i2, iv i3, .val (.long i4), .second, iv i5, iv (nM i0), iv (nK i1), iv (nB i1), iv (2 : Int32), iv (nC0 i4), iv (nC1 i4), iv (nC2 i5), rv b313, rv na_364, iv (f_ad2 i2 i3 (nM i0) (nS i1) (nar .boolean (1 : Int32)) (nC0 i4) (nC1 i4)), iv (own_all (own_all (1 : Int32) (nC0 i4) (nM i0)) (nC1 i4) (nM i0)), .val (.long (((0 : Int64) + ((nC0 i4).toInt64)) + ((nC1 i4).toInt64))), .second, .unset, .unset, .unset] [(.long ((i2).toInt64))]
        refine XS.goto X367.here hx rfl (pc0 := 241) (pc' := 246) rfl (hb hby at_241) (by decide) (by decide) ?_
        show Go p e below t T367 m 246 #[iv i0, iv i1, iv i2, iv i3, .val (.long i4), .second, iv i5, iv (nM i0), iv (nK i1), iv (nB i1), iv (2 : Int32), iv (nC0 i4), iv (nC1 i4), iv (nC2 i5), rv b313, rv na_364, iv (f_ad2 i2 i3 (nM i0) (nS i1) (nar .boolean (1 : Int32)) (nC0 i4) (nC1 i4)), iv (own_all (own_all (1 : Int32) (nC0 i4) (nM i0)) (nC1 i4) (nM i0)), .val (.long (((0 : Int64) + ((nC0 i4).toInt64)) + ((nC1 i4).toInt64))), .second, .unset, .unset, .unset] [(.long ((i2).toInt64))]
        refine XS.lstore X367.here hx rfl (hb hby at_246) rfl (l' := #[iv i0, iv i1, iv i2, iv i3, .val (.long i4), .second, iv i5, iv (nM i0), iv (nK i1), iv (nB i1), iv (2 : Int32), iv (nC0 i4), iv (nC1 i4), iv (nC2 i5), rv b313, rv na_364, iv (f_ad2 i2 i3 (nM i0) (nS i1) (nar .boolean (1 : Int32)) (nC0 i4) (nC1 i4)), iv (own_all (own_all (1 : Int32) (nC0 i4) (nM i0)) (nC1 i4) (nM i0)), .val (.long (((0 : Int64) + ((nC0 i4).toInt64)) + ((nC1 i4).toInt64))), .second, .val (.long ((i2).toInt64)), .second, .unset]) rfl ?_
        show Go p e below t T367 m 248 #[iv i0, iv i1, iv i2, iv i3, .val (.long i4), .second, iv i5, iv (nM i0), iv (nK i1), iv (nB i1), iv (2 : Int32), iv (nC0 i4), iv (nC1 i4), iv (nC2 i5), rv b313, rv na_364, iv (f_ad2 i2 i3 (nM i0) (nS i1) (nar .boolean (1 : Int32)) (nC0 i4) (nC1 i4)), iv (own_all (own_all (1 : Int32) (nC0 i4) (nM i0)) (nC1 i4) (nM i0)), .val (.long (((0 : Int64) + ((nC0 i4).toInt64)) + ((nC1 i4).toInt64))), .second, .val (.long ((i2).toInt64)), .second, .unset] []
        exact k)
      have gf382 : Goes p e below S0 (T367.setTop (mkF m 274 #[iv i0, iv i1, iv i2, iv i3, .val (.long i4), .second, iv i5, iv (nM i0), iv (nK i1), iv (nB i1), iv (2 : Int32), iv (nC0 i4), iv (nC1 i4), iv (nC2 i5), rv b313, rv na_364, iv (f_ad2 i2 i3 (nM i0) (nS i1) (nar .boolean (1 : Int32)) (nC0 i4) (nC1 i4)), iv (own_all (own_all (1 : Int32) (nC0 i4) (nM i0)) (nC1 i4) (nM i0)), .val (.long (((0 : Int64) + ((nC0 i4).toInt64)) + ((nC1 i4).toInt64))), .second, .val (.long ((i2).toInt64)), .second, .unset] [(.int (own_fin (own_all (own_all (1 : Int32) (nC0 i4) (nM i0)) (nC1 i4) (nM i0)) (((0 : Int64) + ((nC0 i4).toInt64)) + ((nC1 i4).toInt64)) (nK i1) ((i2).toInt64)))])) := by
        have g383 : Goes p e below S0 (T367.setTop (mkF m 250 #[iv i0, iv i1, iv i2, iv i3, .val (.long i4), .second, iv i5, iv (nM i0), iv (nK i1), iv (nB i1), iv (2 : Int32), iv (nC0 i4), iv (nC1 i4), iv (nC2 i5), rv b313, rv na_364, iv (f_ad2 i2 i3 (nM i0) (nS i1) (nar .boolean (1 : Int32)) (nC0 i4) (nC1 i4)), iv (own_all (own_all (1 : Int32) (nC0 i4) (nM i0)) (nC1 i4) (nM i0)), .val (.long (((0 : Int64) + ((nC0 i4).toInt64)) + ((nC1 i4).toInt64))), .second, .val (.long ((i2).toInt64)), .second, .unset] [(.int (own_all (own_all (1 : Int32) (nC0 i4) (nM i0)) (nC1 i4) (nM i0)))])) := fun t k => g381 t (by
          refine XS.iload X367.here hx rfl (hb hby at_248) rfl ?_
          show Go p e below t T367 m 250 #[iv i0, iv i1, iv i2, iv i3, .val (.long i4), .second, iv i5, iv (nM i0), iv (nK i1), iv (nB i1), iv (2 : Int32), iv (nC0 i4), iv (nC1 i4), iv (nC2 i5), rv b313, rv na_364, iv (f_ad2 i2 i3 (nM i0) (nS i1) (nar .boolean (1 : Int32)) (nC0 i4) (nC1 i4)), iv (own_all (own_all (1 : Int32) (nC0 i4) (nM i0)) (nC1 i4) (nM i0)), .val (.long (((0 : Int64) + ((nC0 i4).toInt64)) + ((nC1 i4).toInt64))), .second, .val (.long ((i2).toInt64)), .second, .unset] [(.int (own_all (own_all (1 : Int32) (nC0 i4) (nM i0)) (nC1 i4) (nM i0)))]
          exact k)
        by_cases h384 : (own_all (own_all (1 : Int32) (nC0 i4) (nM i0)) (nC1 i4) (nM i0)) = 0
        · skip
          have g385 : Goes p e below S0 (T367.setTop (mkF m 274 #[iv i0, iv i1, iv i2, iv i3, .val (.long i4), .second, iv i5, iv (nM i0), iv (nK i1), iv (nB i1), iv (2 : Int32), iv (nC0 i4), iv (nC1 i4), iv (nC2 i5), rv b313, rv na_364, iv (f_ad2 i2 i3 (nM i0) (nS i1) (nar .boolean (1 : Int32)) (nC0 i4) (nC1 i4)), iv (own_all (own_all (1 : Int32) (nC0 i4) (nM i0)) (nC1 i4) (nM i0)), .val (.long (((0 : Int64) + ((nC0 i4).toInt64)) + ((nC1 i4).toInt64))), .second, .val (.long ((i2).toInt64)), .second, .unset] [(.int (0 : Int32))])) := fun t k => g383 t (by
            refine XS.ifYes X367.here hx rfl (pc0 := 250) (pc' := 273) rfl (hb hby at_250) rfl (XT.i0_eq_t h384) (by decide) (by decide) ?_
            show Go p e below t T367 m 273 #[iv i0, iv i1, iv i2, iv i3, .val (.long i4), .second, iv i5, iv (nM i0), iv (nK i1), iv (nB i1), iv (2 : Int32), iv (nC0 i4), iv (nC1 i4), iv (nC2 i5), rv b313, rv na_364, iv (f_ad2 i2 i3 (nM i0) (nS i1) (nar .boolean (1 : Int32)) (nC0 i4) (nC1 i4)), iv (own_all (own_all (1 : Int32) (nC0 i4) (nM i0)) (nC1 i4) (nM i0)), .val (.long (((0 : Int64) + ((nC0 i4).toInt64)) + ((nC1 i4).toInt64))), .second, .val (.long ((i2).toInt64)), .second, .unset] []
            refine XT.iconstV X367.here hx rfl (0 : Int32) (hb hby at_273) (by decide) ?_
            show Go p e below t T367 m 274 #[iv i0, iv i1, iv i2, iv i3, .val (.long i4), .second, iv i5, iv (nM i0), iv (nK i1), iv (nB i1), iv (2 : Int32), iv (nC0 i4), iv (nC1 i4), iv (nC2 i5), rv b313, rv na_364, iv (f_ad2 i2 i3 (nM i0) (nS i1) (nar .boolean (1 : Int32)) (nC0 i4) (nC1 i4)), iv (own_all (own_all (1 : Int32) (nC0 i4) (nM i0)) (nC1 i4) (nM i0)), .val (.long (((0 : Int64) + ((nC0 i4).toInt64)) + ((nC1 i4).toInt64))), .second, .val (.long ((i2).toInt64)), .second, .unset] [(.int (0 : Int32))]
            exact k)
          have e382_0 : (own_fin (own_all (own_all (1 : Int32) (nC0 i4) (nM i0)) (nC1 i4) (nM i0)) (((0 : Int64) + ((nC0 i4).toInt64)) + ((nC1 i4).toInt64)) (nK i1) ((i2).toInt64)) = (0 : Int32) := by first | exact if_pos h384 | (unfold own_fin; first | (rw [if_pos h384]; done) | (simp [h384]; done) | (rw [if_pos h384]; decide))
          rw [e382_0]; exact g385
        · skip
          have g386 : Goes p e below S0 (T367.setTop (mkF m 266 #[iv i0, iv i1, iv i2, iv i3, .val (.long i4), .second, iv i5, iv (nM i0), iv (nK i1), iv (nB i1), iv (2 : Int32), iv (nC0 i4), iv (nC1 i4), iv (nC2 i5), rv b313, rv na_364, iv (f_ad2 i2 i3 (nM i0) (nS i1) (nar .boolean (1 : Int32)) (nC0 i4) (nC1 i4)), iv (own_all (own_all (1 : Int32) (nC0 i4) (nM i0)) (nC1 i4) (nM i0)), .val (.long (((0 : Int64) + ((nC0 i4).toInt64)) + ((nC1 i4).toInt64))), .second, .val (.long ((i2).toInt64)), .second, .unset] [(.int (lcmpW ((8 : Int64) * (((0 : Int64) + ((nC0 i4).toInt64)) + ((nC1 i4).toInt64))) (((nK i1).toInt64) * ((i2).toInt64))))])) := fun t k => g383 t (by
            refine XS.ifNo X367.here hx rfl (hb hby at_250) rfl (XT.i0_eq_f h384) ?_
            show Go p e below t T367 m 253 #[iv i0, iv i1, iv i2, iv i3, .val (.long i4), .second, iv i5, iv (nM i0), iv (nK i1), iv (nB i1), iv (2 : Int32), iv (nC0 i4), iv (nC1 i4), iv (nC2 i5), rv b313, rv na_364, iv (f_ad2 i2 i3 (nM i0) (nS i1) (nar .boolean (1 : Int32)) (nC0 i4) (nC1 i4)), iv (own_all (own_all (1 : Int32) (nC0 i4) (nM i0)) (nC1 i4) (nM i0)), .val (.long (((0 : Int64) + ((nC0 i4).toInt64)) + ((nC1 i4).toInt64))), .second, .val (.long ((i2).toInt64)), .second, .unset] []
            refine Jvm.Stand.ldc2J X367 hx hown (mvT hZ (hw _ (List.mem_of_getElem? (i := 44) rfl))) (g := (mkF m 253 #[iv i0, iv i1, iv i2, iv i3, .val (.long i4), .second, iv i5, iv (nM i0), iv (nK i1), iv (nB i1), iv (2 : Int32), iv (nC0 i4), iv (nC1 i4), iv (nC2 i5), rv b313, rv na_364, iv (f_ad2 i2 i3 (nM i0) (nS i1) (nar .boolean (1 : Int32)) (nC0 i4) (nC1 i4)), iv (own_all (own_all (1 : Int32) (nC0 i4) (nM i0)) (nC1 i4) (nM i0)), .val (.long (((0 : Int64) + ((nC0 i4).toInt64)) + ((nC1 i4).toInt64))), .second, .val (.long ((i2).toInt64)), .second, .unset] [])) rfl (hb hby at_253) ?_
            show Go p e below t T367 m 256 #[iv i0, iv i1, iv i2, iv i3, .val (.long i4), .second, iv i5, iv (nM i0), iv (nK i1), iv (nB i1), iv (2 : Int32), iv (nC0 i4), iv (nC1 i4), iv (nC2 i5), rv b313, rv na_364, iv (f_ad2 i2 i3 (nM i0) (nS i1) (nar .boolean (1 : Int32)) (nC0 i4) (nC1 i4)), iv (own_all (own_all (1 : Int32) (nC0 i4) (nM i0)) (nC1 i4) (nM i0)), .val (.long (((0 : Int64) + ((nC0 i4).toInt64)) + ((nC1 i4).toInt64))), .second, .val (.long ((i2).toInt64)), .second, .unset] [(.long (8 : Int64))]
            refine XS.lload X367.here hx rfl (hb hby at_256) rfl ?_
            show Go p e below t T367 m 258 #[iv i0, iv i1, iv i2, iv i3, .val (.long i4), .second, iv i5, iv (nM i0), iv (nK i1), iv (nB i1), iv (2 : Int32), iv (nC0 i4), iv (nC1 i4), iv (nC2 i5), rv b313, rv na_364, iv (f_ad2 i2 i3 (nM i0) (nS i1) (nar .boolean (1 : Int32)) (nC0 i4) (nC1 i4)), iv (own_all (own_all (1 : Int32) (nC0 i4) (nM i0)) (nC1 i4) (nM i0)), .val (.long (((0 : Int64) + ((nC0 i4).toInt64)) + ((nC1 i4).toInt64))), .second, .val (.long ((i2).toInt64)), .second, .unset] [(.long (((0 : Int64) + ((nC0 i4).toInt64)) + ((nC1 i4).toInt64))), (.long (8 : Int64))]
            refine XS.lmul X367.here hx rfl (hb hby at_258) rfl ?_
            show Go p e below t T367 m 259 #[iv i0, iv i1, iv i2, iv i3, .val (.long i4), .second, iv i5, iv (nM i0), iv (nK i1), iv (nB i1), iv (2 : Int32), iv (nC0 i4), iv (nC1 i4), iv (nC2 i5), rv b313, rv na_364, iv (f_ad2 i2 i3 (nM i0) (nS i1) (nar .boolean (1 : Int32)) (nC0 i4) (nC1 i4)), iv (own_all (own_all (1 : Int32) (nC0 i4) (nM i0)) (nC1 i4) (nM i0)), .val (.long (((0 : Int64) + ((nC0 i4).toInt64)) + ((nC1 i4).toInt64))), .second, .val (.long ((i2).toInt64)), .second, .unset] [(.long ((8 : Int64) * (((0 : Int64) + ((nC0 i4).toInt64)) + ((nC1 i4).toInt64))))]
            refine XS.iload X367.here hx rfl (hb hby at_259) rfl ?_
            show Go p e below t T367 m 261 #[iv i0, iv i1, iv i2, iv i3, .val (.long i4), .second, iv i5, iv (nM i0), iv (nK i1), iv (nB i1), iv (2 : Int32), iv (nC0 i4), iv (nC1 i4), iv (nC2 i5), rv b313, rv na_364, iv (f_ad2 i2 i3 (nM i0) (nS i1) (nar .boolean (1 : Int32)) (nC0 i4) (nC1 i4)), iv (own_all (own_all (1 : Int32) (nC0 i4) (nM i0)) (nC1 i4) (nM i0)), .val (.long (((0 : Int64) + ((nC0 i4).toInt64)) + ((nC1 i4).toInt64))), .second, .val (.long ((i2).toInt64)), .second, .unset] [(.int (nK i1)), (.long ((8 : Int64) * (((0 : Int64) + ((nC0 i4).toInt64)) + ((nC1 i4).toInt64))))]
            refine XS.i2l X367.here hx rfl (hb hby at_261) rfl ?_
            show Go p e below t T367 m 262 #[iv i0, iv i1, iv i2, iv i3, .val (.long i4), .second, iv i5, iv (nM i0), iv (nK i1), iv (nB i1), iv (2 : Int32), iv (nC0 i4), iv (nC1 i4), iv (nC2 i5), rv b313, rv na_364, iv (f_ad2 i2 i3 (nM i0) (nS i1) (nar .boolean (1 : Int32)) (nC0 i4) (nC1 i4)), iv (own_all (own_all (1 : Int32) (nC0 i4) (nM i0)) (nC1 i4) (nM i0)), .val (.long (((0 : Int64) + ((nC0 i4).toInt64)) + ((nC1 i4).toInt64))), .second, .val (.long ((i2).toInt64)), .second, .unset] [(.long ((nK i1).toInt64)), (.long ((8 : Int64) * (((0 : Int64) + ((nC0 i4).toInt64)) + ((nC1 i4).toInt64))))]
            refine XS.lload X367.here hx rfl (hb hby at_262) rfl ?_
            show Go p e below t T367 m 264 #[iv i0, iv i1, iv i2, iv i3, .val (.long i4), .second, iv i5, iv (nM i0), iv (nK i1), iv (nB i1), iv (2 : Int32), iv (nC0 i4), iv (nC1 i4), iv (nC2 i5), rv b313, rv na_364, iv (f_ad2 i2 i3 (nM i0) (nS i1) (nar .boolean (1 : Int32)) (nC0 i4) (nC1 i4)), iv (own_all (own_all (1 : Int32) (nC0 i4) (nM i0)) (nC1 i4) (nM i0)), .val (.long (((0 : Int64) + ((nC0 i4).toInt64)) + ((nC1 i4).toInt64))), .second, .val (.long ((i2).toInt64)), .second, .unset] [(.long ((i2).toInt64)), (.long ((nK i1).toInt64)), (.long ((8 : Int64) * (((0 : Int64) + ((nC0 i4).toInt64)) + ((nC1 i4).toInt64))))]
            refine XS.lmul X367.here hx rfl (hb hby at_264) rfl ?_
            show Go p e below t T367 m 265 #[iv i0, iv i1, iv i2, iv i3, .val (.long i4), .second, iv i5, iv (nM i0), iv (nK i1), iv (nB i1), iv (2 : Int32), iv (nC0 i4), iv (nC1 i4), iv (nC2 i5), rv b313, rv na_364, iv (f_ad2 i2 i3 (nM i0) (nS i1) (nar .boolean (1 : Int32)) (nC0 i4) (nC1 i4)), iv (own_all (own_all (1 : Int32) (nC0 i4) (nM i0)) (nC1 i4) (nM i0)), .val (.long (((0 : Int64) + ((nC0 i4).toInt64)) + ((nC1 i4).toInt64))), .second, .val (.long ((i2).toInt64)), .second, .unset] [(.long (((nK i1).toInt64) * ((i2).toInt64))), (.long ((8 : Int64) * (((0 : Int64) + ((nC0 i4).toInt64)) + ((nC1 i4).toInt64))))]
            refine XS.lcmp X367.here hx rfl (hb hby at_265) rfl ?_
            show Go p e below t T367 m 266 #[iv i0, iv i1, iv i2, iv i3, .val (.long i4), .second, iv i5, iv (nM i0), iv (nK i1), iv (nB i1), iv (2 : Int32), iv (nC0 i4), iv (nC1 i4), iv (nC2 i5), rv b313, rv na_364, iv (f_ad2 i2 i3 (nM i0) (nS i1) (nar .boolean (1 : Int32)) (nC0 i4) (nC1 i4)), iv (own_all (own_all (1 : Int32) (nC0 i4) (nM i0)) (nC1 i4) (nM i0)), .val (.long (((0 : Int64) + ((nC0 i4).toInt64)) + ((nC1 i4).toInt64))), .second, .val (.long ((i2).toInt64)), .second, .unset] [(.int (lcmpW ((8 : Int64) * (((0 : Int64) + ((nC0 i4).toInt64)) + ((nC1 i4).toInt64))) (((nK i1).toInt64) * ((i2).toInt64))))]
            exact k)
          by_cases h387 : ((8 : Int64) * (((0 : Int64) + ((nC0 i4).toInt64)) + ((nC1 i4).toInt64))) < (((nK i1).toInt64) * ((i2).toInt64))
          · skip
            have g388 : Goes p e below S0 (T367.setTop (mkF m 274 #[iv i0, iv i1, iv i2, iv i3, .val (.long i4), .second, iv i5, iv (nM i0), iv (nK i1), iv (nB i1), iv (2 : Int32), iv (nC0 i4), iv (nC1 i4), iv (nC2 i5), rv b313, rv na_364, iv (f_ad2 i2 i3 (nM i0) (nS i1) (nar .boolean (1 : Int32)) (nC0 i4) (nC1 i4)), iv (own_all (own_all (1 : Int32) (nC0 i4) (nM i0)) (nC1 i4) (nM i0)), .val (.long (((0 : Int64) + ((nC0 i4).toInt64)) + ((nC1 i4).toInt64))), .second, .val (.long ((i2).toInt64)), .second, .unset] [(.int (0 : Int32))])) := fun t k => g386 t (by
              refine XS.ifYes X367.here hx rfl (pc0 := 266) (pc' := 273) rfl (hb hby at_266) rfl (XT.ll_lt_t h387) (by decide) (by decide) ?_
              show Go p e below t T367 m 273 #[iv i0, iv i1, iv i2, iv i3, .val (.long i4), .second, iv i5, iv (nM i0), iv (nK i1), iv (nB i1), iv (2 : Int32), iv (nC0 i4), iv (nC1 i4), iv (nC2 i5), rv b313, rv na_364, iv (f_ad2 i2 i3 (nM i0) (nS i1) (nar .boolean (1 : Int32)) (nC0 i4) (nC1 i4)), iv (own_all (own_all (1 : Int32) (nC0 i4) (nM i0)) (nC1 i4) (nM i0)), .val (.long (((0 : Int64) + ((nC0 i4).toInt64)) + ((nC1 i4).toInt64))), .second, .val (.long ((i2).toInt64)), .second, .unset] []
              refine XT.iconstV X367.here hx rfl (0 : Int32) (hb hby at_273) (by decide) ?_
              show Go p e below t T367 m 274 #[iv i0, iv i1, iv i2, iv i3, .val (.long i4), .second, iv i5, iv (nM i0), iv (nK i1), iv (nB i1), iv (2 : Int32), iv (nC0 i4), iv (nC1 i4), iv (nC2 i5), rv b313, rv na_364, iv (f_ad2 i2 i3 (nM i0) (nS i1) (nar .boolean (1 : Int32)) (nC0 i4) (nC1 i4)), iv (own_all (own_all (1 : Int32) (nC0 i4) (nM i0)) (nC1 i4) (nM i0)), .val (.long (((0 : Int64) + ((nC0 i4).toInt64)) + ((nC1 i4).toInt64))), .second, .val (.long ((i2).toInt64)), .second, .unset] [(.int (0 : Int32))]
              exact k)
            have e382_0 : (own_fin (own_all (own_all (1 : Int32) (nC0 i4) (nM i0)) (nC1 i4) (nM i0)) (((0 : Int64) + ((nC0 i4).toInt64)) + ((nC1 i4).toInt64)) (nK i1) ((i2).toInt64)) = (0 : Int32) := by first | exact (if_neg h384).trans (if_pos h387) | (unfold own_fin; first | (rw [if_neg h384, if_pos h387]; done) | (simp [h384, h387]; done) | (rw [if_neg h384, if_pos h387]; decide))
            rw [e382_0]; exact g388
          · skip
            have g389 : Goes p e below S0 (T367.setTop (mkF m 274 #[iv i0, iv i1, iv i2, iv i3, .val (.long i4), .second, iv i5, iv (nM i0), iv (nK i1), iv (nB i1), iv (2 : Int32), iv (nC0 i4), iv (nC1 i4), iv (nC2 i5), rv b313, rv na_364, iv (f_ad2 i2 i3 (nM i0) (nS i1) (nar .boolean (1 : Int32)) (nC0 i4) (nC1 i4)), iv (own_all (own_all (1 : Int32) (nC0 i4) (nM i0)) (nC1 i4) (nM i0)), .val (.long (((0 : Int64) + ((nC0 i4).toInt64)) + ((nC1 i4).toInt64))), .second, .val (.long ((i2).toInt64)), .second, .unset] [(.int (1 : Int32))])) := fun t k => g386 t (by
              refine XS.ifNo X367.here hx rfl (hb hby at_266) rfl (XT.ll_lt_f h387) ?_
              show Go p e below t T367 m 269 #[iv i0, iv i1, iv i2, iv i3, .val (.long i4), .second, iv i5, iv (nM i0), iv (nK i1), iv (nB i1), iv (2 : Int32), iv (nC0 i4), iv (nC1 i4), iv (nC2 i5), rv b313, rv na_364, iv (f_ad2 i2 i3 (nM i0) (nS i1) (nar .boolean (1 : Int32)) (nC0 i4) (nC1 i4)), iv (own_all (own_all (1 : Int32) (nC0 i4) (nM i0)) (nC1 i4) (nM i0)), .val (.long (((0 : Int64) + ((nC0 i4).toInt64)) + ((nC1 i4).toInt64))), .second, .val (.long ((i2).toInt64)), .second, .unset] []
              refine XT.iconstV X367.here hx rfl (1 : Int32) (hb hby at_269) (by decide) ?_
              show Go p e below t T367 m 270 #[iv i0, iv i1, iv i2, iv i3, .val (.long i4), .second, iv i5, iv (nM i0), iv (nK i1), iv (nB i1), iv (2 : Int32), iv (nC0 i4), iv (nC1 i4), iv (nC2 i5), rv b313, rv na_364, iv (f_ad2 i2 i3 (nM i0) (nS i1) (nar .boolean (1 : Int32)) (nC0 i4) (nC1 i4)), iv (own_all (own_all (1 : Int32) (nC0 i4) (nM i0)) (nC1 i4) (nM i0)), .val (.long (((0 : Int64) + ((nC0 i4).toInt64)) + ((nC1 i4).toInt64))), .second, .val (.long ((i2).toInt64)), .second, .unset] [(.int (1 : Int32))]
              refine XS.goto X367.here hx rfl (pc0 := 270) (pc' := 274) rfl (hb hby at_270) (by decide) (by decide) ?_
              show Go p e below t T367 m 274 #[iv i0, iv i1, iv i2, iv i3, .val (.long i4), .second, iv i5, iv (nM i0), iv (nK i1), iv (nB i1), iv (2 : Int32), iv (nC0 i4), iv (nC1 i4), iv (nC2 i5), rv b313, rv na_364, iv (f_ad2 i2 i3 (nM i0) (nS i1) (nar .boolean (1 : Int32)) (nC0 i4) (nC1 i4)), iv (own_all (own_all (1 : Int32) (nC0 i4) (nM i0)) (nC1 i4) (nM i0)), .val (.long (((0 : Int64) + ((nC0 i4).toInt64)) + ((nC1 i4).toInt64))), .second, .val (.long ((i2).toInt64)), .second, .unset] [(.int (1 : Int32))]
              exact k)
            have e382_0 : (own_fin (own_all (own_all (1 : Int32) (nC0 i4) (nM i0)) (nC1 i4) (nM i0)) (((0 : Int64) + ((nC0 i4).toInt64)) + ((nC1 i4).toInt64)) (nK i1) ((i2).toInt64)) = (1 : Int32) := by first | exact (if_neg h384).trans (if_neg h387) | (unfold own_fin; first | (rw [if_neg h384, if_neg h387]; done) | (simp [h384, h387]; done) | (rw [if_neg h384, if_neg h387]; decide))
            rw [e382_0]; exact g389
      have g390 : Goes p e below S0 (T367.setTop (mkF m 288 #[iv i0, iv i1, iv i2, iv i3, .val (.long i4), .second, iv i5, iv (nM i0), iv (nK i1), iv (nB i1), iv (2 : Int32), iv (nC0 i4), iv (nC1 i4), iv (nC2 i5), rv b313, rv na_364, iv (f_ad2 i2 i3 (nM i0) (nS i1) (nar .boolean (1 : Int32)) (nC0 i4) (nC1 i4)), iv (own_all (own_all (1 : Int32) (nC0 i4) (nM i0)) (nC1 i4) (nM i0)), .val (.long (((0 : Int64) + ((nC0 i4).toInt64)) + ((nC1 i4).toInt64))), .second, .val (.long ((i2).toInt64)), .second, iv (own_fin (own_all (own_all (1 : Int32) (nC0 i4) (nM i0)) (nC1 i4) (nM i0)) (((0 : Int64) + ((nC0 i4).toInt64)) + ((nC1 i4).toInt64)) (nK i1) ((i2).toInt64))] [(.int (1 : Int32))])) := fun t k => gf382 t (by
        refine XS.istore X367.here hx rfl (hb hby at_274) rfl (l' := #[iv i0, iv i1, iv i2, iv i3, .val (.long i4), .second, iv i5, iv (nM i0), iv (nK i1), iv (nB i1), iv (2 : Int32), iv (nC0 i4), iv (nC1 i4), iv (nC2 i5), rv b313, rv na_364, iv (f_ad2 i2 i3 (nM i0) (nS i1) (nar .boolean (1 : Int32)) (nC0 i4) (nC1 i4)), iv (own_all (own_all (1 : Int32) (nC0 i4) (nM i0)) (nC1 i4) (nM i0)), .val (.long (((0 : Int64) + ((nC0 i4).toInt64)) + ((nC1 i4).toInt64))), .second, .val (.long ((i2).toInt64)), .second, iv (own_fin (own_all (own_all (1 : Int32) (nC0 i4) (nM i0)) (nC1 i4) (nM i0)) (((0 : Int64) + ((nC0 i4).toInt64)) + ((nC1 i4).toInt64)) (nK i1) ((i2).toInt64))]) rfl ?_
        show Go p e below t T367 m 276 #[iv i0, iv i1, iv i2, iv i3, .val (.long i4), .second, iv i5, iv (nM i0), iv (nK i1), iv (nB i1), iv (2 : Int32), iv (nC0 i4), iv (nC1 i4), iv (nC2 i5), rv b313, rv na_364, iv (f_ad2 i2 i3 (nM i0) (nS i1) (nar .boolean (1 : Int32)) (nC0 i4) (nC1 i4)), iv (own_all (own_all (1 : Int32) (nC0 i4) (nM i0)) (nC1 i4) (nM i0)), .val (.long (((0 : Int64) + ((nC0 i4).toInt64)) + ((nC1 i4).toInt64))), .second, .val (.long ((i2).toInt64)), .second, iv (own_fin (own_all (own_all (1 : Int32) (nC0 i4) (nM i0)) (nC1 i4) (nM i0)) (((0 : Int64) + ((nC0 i4).toInt64)) + ((nC1 i4).toInt64)) (nK i1) ((i2).toInt64))] []
        refine XS.iload X367.here hx rfl (hb hby at_276) rfl ?_
        show Go p e below t T367 m 278 #[iv i0, iv i1, iv i2, iv i3, .val (.long i4), .second, iv i5, iv (nM i0), iv (nK i1), iv (nB i1), iv (2 : Int32), iv (nC0 i4), iv (nC1 i4), iv (nC2 i5), rv b313, rv na_364, iv (f_ad2 i2 i3 (nM i0) (nS i1) (nar .boolean (1 : Int32)) (nC0 i4) (nC1 i4)), iv (own_all (own_all (1 : Int32) (nC0 i4) (nM i0)) (nC1 i4) (nM i0)), .val (.long (((0 : Int64) + ((nC0 i4).toInt64)) + ((nC1 i4).toInt64))), .second, .val (.long ((i2).toInt64)), .second, iv (own_fin (own_all (own_all (1 : Int32) (nC0 i4) (nM i0)) (nC1 i4) (nM i0)) (((0 : Int64) + ((nC0 i4).toInt64)) + ((nC1 i4).toInt64)) (nK i1) ((i2).toInt64))] [(.int (f_ad2 i2 i3 (nM i0) (nS i1) (nar .boolean (1 : Int32)) (nC0 i4) (nC1 i4)))]
        refine XS.iload X367.here hx rfl (hb hby at_278) rfl ?_
        show Go p e below t T367 m 280 #[iv i0, iv i1, iv i2, iv i3, .val (.long i4), .second, iv i5, iv (nM i0), iv (nK i1), iv (nB i1), iv (2 : Int32), iv (nC0 i4), iv (nC1 i4), iv (nC2 i5), rv b313, rv na_364, iv (f_ad2 i2 i3 (nM i0) (nS i1) (nar .boolean (1 : Int32)) (nC0 i4) (nC1 i4)), iv (own_all (own_all (1 : Int32) (nC0 i4) (nM i0)) (nC1 i4) (nM i0)), .val (.long (((0 : Int64) + ((nC0 i4).toInt64)) + ((nC1 i4).toInt64))), .second, .val (.long ((i2).toInt64)), .second, iv (own_fin (own_all (own_all (1 : Int32) (nC0 i4) (nM i0)) (nC1 i4) (nM i0)) (((0 : Int64) + ((nC0 i4).toInt64)) + ((nC1 i4).toInt64)) (nK i1) ((i2).toInt64))] [(.int (own_fin (own_all (own_all (1 : Int32) (nC0 i4) (nM i0)) (nC1 i4) (nM i0)) (((0 : Int64) + ((nC0 i4).toInt64)) + ((nC1 i4).toInt64)) (nK i1) ((i2).toInt64))), (.int (f_ad2 i2 i3 (nM i0) (nS i1) (nar .boolean (1 : Int32)) (nC0 i4) (nC1 i4)))]
        refine XS.icmpNo X367.here hx rfl (hb hby at_280) rfl (XT.ii_ne_f (own_fin2n i0 i1 i2 i3 i4 i5)) ?_
        show Go p e below t T367 m 283 #[iv i0, iv i1, iv i2, iv i3, .val (.long i4), .second, iv i5, iv (nM i0), iv (nK i1), iv (nB i1), iv (2 : Int32), iv (nC0 i4), iv (nC1 i4), iv (nC2 i5), rv b313, rv na_364, iv (f_ad2 i2 i3 (nM i0) (nS i1) (nar .boolean (1 : Int32)) (nC0 i4) (nC1 i4)), iv (own_all (own_all (1 : Int32) (nC0 i4) (nM i0)) (nC1 i4) (nM i0)), .val (.long (((0 : Int64) + ((nC0 i4).toInt64)) + ((nC1 i4).toInt64))), .second, .val (.long ((i2).toInt64)), .second, iv (own_fin (own_all (own_all (1 : Int32) (nC0 i4) (nM i0)) (nC1 i4) (nM i0)) (((0 : Int64) + ((nC0 i4).toInt64)) + ((nC1 i4).toInt64)) (nK i1) ((i2).toInt64))] []
        refine XT.iconstV X367.here hx rfl (1 : Int32) (hb hby at_283) (by decide) ?_
        show Go p e below t T367 m 284 #[iv i0, iv i1, iv i2, iv i3, .val (.long i4), .second, iv i5, iv (nM i0), iv (nK i1), iv (nB i1), iv (2 : Int32), iv (nC0 i4), iv (nC1 i4), iv (nC2 i5), rv b313, rv na_364, iv (f_ad2 i2 i3 (nM i0) (nS i1) (nar .boolean (1 : Int32)) (nC0 i4) (nC1 i4)), iv (own_all (own_all (1 : Int32) (nC0 i4) (nM i0)) (nC1 i4) (nM i0)), .val (.long (((0 : Int64) + ((nC0 i4).toInt64)) + ((nC1 i4).toInt64))), .second, .val (.long ((i2).toInt64)), .second, iv (own_fin (own_all (own_all (1 : Int32) (nC0 i4) (nM i0)) (nC1 i4) (nM i0)) (((0 : Int64) + ((nC0 i4).toInt64)) + ((nC1 i4).toInt64)) (nK i1) ((i2).toInt64))] [(.int (1 : Int32))]
        refine XS.goto X367.here hx rfl (pc0 := 284) (pc' := 288) rfl (hb hby at_284) (by decide) (by decide) ?_
        show Go p e below t T367 m 288 #[iv i0, iv i1, iv i2, iv i3, .val (.long i4), .second, iv i5, iv (nM i0), iv (nK i1), iv (nB i1), iv (2 : Int32), iv (nC0 i4), iv (nC1 i4), iv (nC2 i5), rv b313, rv na_364, iv (f_ad2 i2 i3 (nM i0) (nS i1) (nar .boolean (1 : Int32)) (nC0 i4) (nC1 i4)), iv (own_all (own_all (1 : Int32) (nC0 i4) (nM i0)) (nC1 i4) (nM i0)), .val (.long (((0 : Int64) + ((nC0 i4).toInt64)) + ((nC1 i4).toInt64))), .second, .val (.long ((i2).toInt64)), .second, iv (own_fin (own_all (own_all (1 : Int32) (nC0 i4) (nM i0)) (nC1 i4) (nM i0)) (((0 : Int64) + ((nC0 i4).toInt64)) + ((nC1 i4).toInt64)) (nK i1) ((i2).toInt64))] [(.int (1 : Int32))]
        exact k)
      obtain ⟨fs, hr, hrun, hended, hW, hsame⟩ := X367.leave (v := some (.int (1 : Int32))) (fun h => by rw [Bd.returns] at h; cases h)
      refine ⟨_, _, g390 _ (retN X367 hx (t := .boolean) Bd.returns (by simp) (hb hby at_288) hr), hrun, hended, _, _, rfl, ?_, ⟨_, rfl⟩, hW, hsame.mono (by decide) (by decide)⟩
      show Q_law Z i0 i1 i2 i3 i4 i5  h0 n0 _ T367.heap _
      rw [e367]
      exact ⟨rfl, M367⟩
  · skip
    have g391 : Goes p e below S0 (T199.setTop (mkF m 73 #[iv i0, iv i1, iv i2, iv i3, .val (.long i4), .second, iv i5, iv (nM i0), iv (nK i1), iv (nB i1), iv (3 : Int32), iv (nC0 i4), iv (nC1 i4), iv (nC2 i5), .unset, .unset, .unset, .unset, .unset, .unset, .unset, .unset, .unset] [(.int (3 : Int32))])) := fun t k => g207 t (by
      refine XS.iload X199.here hx rfl (hb hby at_71) rfl ?_
      show Go p e below t T199 m 73 #[iv i0, iv i1, iv i2, iv i3, .val (.long i4), .second, iv i5, iv (nM i0), iv (nK i1), iv (nB i1), iv (3 : Int32), iv (nC0 i4), iv (nC1 i4), iv (nC2 i5), .unset, .unset, .unset, .unset, .unset, .unset, .unset, .unset, .unset] [(.int (3 : Int32))]
      exact k)
    obtain ⟨T392, h392, k392, X392, e392, E392, A392, st392⟩ := newP X199 hx hZ (hw _ (List.mem_of_getElem? (i := 6) rfl)) e199 (g := (mkF m 73 #[iv i0, iv i1, iv i2, iv i3, .val (.long i4), .second, iv i5, iv (nM i0), iv (nK i1), iv (nB i1), iv (3 : Int32), iv (nC0 i4), iv (nC1 i4), iv (nC2 i5), .unset, .unset, .unset, .unset, .unset, .unset, .unset, .unset, .unset] [(.int (3 : Int32))])) rfl (hb hby at_73) rfl (by decide) (cap := 3) (by decide) (by decide) (by decide) (by decide)
    obtain ⟨b392, gb392⟩ : ∃ z, z = h0.size := ⟨_, rfl⟩
    have sz392 : h0.size ≤ b392 := Nat.le_trans (Nat.le_refl _) (Nat.le_of_eq gb392.symm)
    have ng392 : n0 ≤ b392 := Nat.le_trans Z0 sz392
    rw [← gb392] at A392 st392
    have V392 : Arv Z h392 b392 k392 .int (3 : Int32) [(.int (0 : Int32)), (.int (0 : Int32)), (.int (0 : Int32))] (.int (0 : Int32)) := (Arv.new A392 (by decide)).pad (pad_rep [] (.int (0 : Int32)) 3)
    have g393 : Goes p e below S0 (T392.setTop (mkF m 75 #[iv i0, iv i1, iv i2, iv i3, .val (.long i4), .second, iv i5, iv (nM i0), iv (nK i1), iv (nB i1), iv (3 : Int32), iv (nC0 i4), iv (nC1 i4), iv (nC2 i5), .unset, .unset, .unset, .unset, .unset, .unset, .unset, .unset, .unset] [(.ref b392)])) := fun t k => g391 t (st392 t k)
    have g394 : Goes p e below S0 (T392.setTop (mkF m 88 #[iv i0, iv i1, iv i2, iv i3, .val (.long i4), .second, iv i5, iv (nM i0), iv (nK i1), iv (nB i1), iv (3 : Int32), iv (nC0 i4), iv (nC1 i4), iv (nC2 i5), rv b392, .unset, .unset, .unset, .unset, .unset, .unset, .unset, .unset] [(.int (nC0 i4)), (.int (0 : Int32)), (.ref b392)])) := fun t k => g393 t (by
      refine XS.astore X392.here hx rfl (hb hby at_75) rfl rfl (l' := #[iv i0, iv i1, iv i2, iv i3, .val (.long i4), .second, iv i5, iv (nM i0), iv (nK i1), iv (nB i1), iv (3 : Int32), iv (nC0 i4), iv (nC1 i4), iv (nC2 i5), rv b392, .unset, .unset, .unset, .unset, .unset, .unset, .unset, .unset]) rfl ?_
      show Go p e below t T392 m 77 #[iv i0, iv i1, iv i2, iv i3, .val (.long i4), .second, iv i5, iv (nM i0), iv (nK i1), iv (nB i1), iv (3 : Int32), iv (nC0 i4), iv (nC1 i4), iv (nC2 i5), rv b392, .unset, .unset, .unset, .unset, .unset, .unset, .unset, .unset] []
      refine XS.iload X392.here hx rfl (hb hby at_77) rfl ?_
      show Go p e below t T392 m 79 #[iv i0, iv i1, iv i2, iv i3, .val (.long i4), .second, iv i5, iv (nM i0), iv (nK i1), iv (nB i1), iv (3 : Int32), iv (nC0 i4), iv (nC1 i4), iv (nC2 i5), rv b392, .unset, .unset, .unset, .unset, .unset, .unset, .unset, .unset] [(.int (3 : Int32))]
      refine XT.iconstV X392.here hx rfl (1 : Int32) (hb hby at_79) (by decide) ?_
      show Go p e below t T392 m 80 #[iv i0, iv i1, iv i2, iv i3, .val (.long i4), .second, iv i5, iv (nM i0), iv (nK i1), iv (nB i1), iv (3 : Int32), iv (nC0 i4), iv (nC1 i4), iv (nC2 i5), rv b392, .unset, .unset, .unset, .unset, .unset, .unset, .unset, .unset] [(.int (1 : Int32)), (.int (3 : Int32))]
      refine XS.icmpNo X392.here hx rfl (hb hby at_80) rfl (XT.ii_lt_f (by decide)) ?_
      show Go p e below t T392 m 83 #[iv i0, iv i1, iv i2, iv i3, .val (.long i4), .second, iv i5, iv (nM i0), iv (nK i1), iv (nB i1), iv (3 : Int32), iv (nC0 i4), iv (nC1 i4), iv (nC2 i5), rv b392, .unset, .unset, .unset, .unset, .unset, .unset, .unset, .unset] []
      refine XS.aload X392.here hx rfl (hb hby at_83) rfl rfl ?_
      show Go p e below t T392 m 85 #[iv i0, iv i1, iv i2, iv i3, .val (.long i4), .second, iv i5, iv (nM i0), iv (nK i1), iv (nB i1), iv (3 : Int32), iv (nC0 i4), iv (nC1 i4), iv (nC2 i5), rv b392, .unset, .unset, .unset, .unset, .unset, .unset, .unset, .unset] [(.ref b392)]
      refine XT.iconstV X392.here hx rfl (0 : Int32) (hb hby at_85) (by decide) ?_
      show Go p e below t T392 m 86 #[iv i0, iv i1, iv i2, iv i3, .val (.long i4), .second, iv i5, iv (nM i0), iv (nK i1), iv (nB i1), iv (3 : Int32), iv (nC0 i4), iv (nC1 i4), iv (nC2 i5), rv b392, .unset, .unset, .unset, .unset, .unset, .unset, .unset, .unset] [(.int (0 : Int32)), (.ref b392)]
      refine XS.iload X392.here hx rfl (hb hby at_86) rfl ?_
      show Go p e below t T392 m 88 #[iv i0, iv i1, iv i2, iv i3, .val (.long i4), .second, iv i5, iv (nM i0), iv (nK i1), iv (nB i1), iv (3 : Int32), iv (nC0 i4), iv (nC1 i4), iv (nC2 i5), rv b392, .unset, .unset, .unset, .unset, .unset, .unset, .unset, .unset] [(.int (nC0 i4)), (.int (0 : Int32)), (.ref b392)]
      exact k)
    obtain ⟨cl395, Ar395, q395, S395, M395, H395, G395⟩ := id V392
    obtain ⟨T396, h396, X396, e396, W396, st396⟩ := stI X392 hx hZ e392 Ar395 (j := (0 : Int32)) (inb_of S395 ⟨by decide, by decide⟩) (g := (mkF m 88 #[iv i0, iv i1, iv i2, iv i3, .val (.long i4), .second, iv i5, iv (nM i0), iv (nK i1), iv (nB i1), iv (3 : Int32), iv (nC0 i4), iv (nC1 i4), iv (nC2 i5), rv b392, .unset, .unset, .unset, .unset, .unset, .unset, .unset, .unset] [(.int (nC0 i4)), (.int (0 : Int32)), (.ref b392)])) rfl rfl (hb hby at_88)
    have N396 := Fr.snoc X396 M199 ng392
    have V396 : Arv Z h396 b392 k392 .int (3 : Int32) [(.int (nC0 i4)), (.int (0 : Int32)), (.int (0 : Int32))] (.int (0 : Int32)) := Arv.set Ar395 q395 S395 M395 H395 G395 rfl W396 0 rfl (Nat.le_of_ble_eq_true rfl)
    have g397 : Goes p e below S0 (T396.setTop (mkF m 89 #[iv i0, iv i1, iv i2, iv i3, .val (.long i4), .second, iv i5, iv (nM i0), iv (nK i1), iv (nB i1), iv (3 : Int32), iv (nC0 i4), iv (nC1 i4), iv (nC2 i5), rv b392, .unset, .unset, .unset, .unset, .unset, .unset, .unset, .unset] [])) := fun t k => g394 t (st396 t k)
    have g398 : Goes p e below S0 (T396.setTop (mkF m 100 #[iv i0, iv i1, iv i2, iv i3, .val (.long i4), .second, iv i5, iv (nM i0), iv (nK i1), iv (nB i1), iv (3 : Int32), iv (nC0 i4), iv (nC1 i4), iv (nC2 i5), rv b392, .unset, .unset, .unset, .unset, .unset, .unset, .unset, .unset] [(.int (nC1 i4)), (.int (1 : Int32)), (.ref b392)])) := fun t k => g397 t (by
      refine XS.iload X396.here hx rfl (hb hby at_89) rfl ?_
      show Go p e below t T396 m 91 #[iv i0, iv i1, iv i2, iv i3, .val (.long i4), .second, iv i5, iv (nM i0), iv (nK i1), iv (nB i1), iv (3 : Int32), iv (nC0 i4), iv (nC1 i4), iv (nC2 i5), rv b392, .unset, .unset, .unset, .unset, .unset, .unset, .unset, .unset] [(.int (3 : Int32))]
      refine XT.iconstV X396.here hx rfl (2 : Int32) (hb hby at_91) (by decide) ?_
      show Go p e below t T396 m 92 #[iv i0, iv i1, iv i2, iv i3, .val (.long i4), .second, iv i5, iv (nM i0), iv (nK i1), iv (nB i1), iv (3 : Int32), iv (nC0 i4), iv (nC1 i4), iv (nC2 i5), rv b392, .unset, .unset, .unset, .unset, .unset, .unset, .unset, .unset] [(.int (2 : Int32)), (.int (3 : Int32))]
      refine XS.icmpNo X396.here hx rfl (hb hby at_92) rfl (XT.ii_lt_f (by decide)) ?_
      show Go p e below t T396 m 95 #[iv i0, iv i1, iv i2, iv i3, .val (.long i4), .second, iv i5, iv (nM i0), iv (nK i1), iv (nB i1), iv (3 : Int32), iv (nC0 i4), iv (nC1 i4), iv (nC2 i5), rv b392, .unset, .unset, .unset, .unset, .unset, .unset, .unset, .unset] []
      refine XS.aload X396.here hx rfl (hb hby at_95) rfl rfl ?_
      show Go p e below t T396 m 97 #[iv i0, iv i1, iv i2, iv i3, .val (.long i4), .second, iv i5, iv (nM i0), iv (nK i1), iv (nB i1), iv (3 : Int32), iv (nC0 i4), iv (nC1 i4), iv (nC2 i5), rv b392, .unset, .unset, .unset, .unset, .unset, .unset, .unset, .unset] [(.ref b392)]
      refine XT.iconstV X396.here hx rfl (1 : Int32) (hb hby at_97) (by decide) ?_
      show Go p e below t T396 m 98 #[iv i0, iv i1, iv i2, iv i3, .val (.long i4), .second, iv i5, iv (nM i0), iv (nK i1), iv (nB i1), iv (3 : Int32), iv (nC0 i4), iv (nC1 i4), iv (nC2 i5), rv b392, .unset, .unset, .unset, .unset, .unset, .unset, .unset, .unset] [(.int (1 : Int32)), (.ref b392)]
      refine XS.iload X396.here hx rfl (hb hby at_98) rfl ?_
      show Go p e below t T396 m 100 #[iv i0, iv i1, iv i2, iv i3, .val (.long i4), .second, iv i5, iv (nM i0), iv (nK i1), iv (nB i1), iv (3 : Int32), iv (nC0 i4), iv (nC1 i4), iv (nC2 i5), rv b392, .unset, .unset, .unset, .unset, .unset, .unset, .unset, .unset] [(.int (nC1 i4)), (.int (1 : Int32)), (.ref b392)]
      exact k)
    obtain ⟨cl399, Ar399, q399, S399, M399, H399, G399⟩ := id V396
    obtain ⟨T400, h400, X400, e400, W400, st400⟩ := stI X396 hx hZ e396 Ar399 (j := (1 : Int32)) (inb_of S399 ⟨by decide, by decide⟩) (g := (mkF m 100 #[iv i0, iv i1, iv i2, iv i3, .val (.long i4), .second, iv i5, iv (nM i0), iv (nK i1), iv (nB i1), iv (3 : Int32), iv (nC0 i4), iv (nC1 i4), iv (nC2 i5), rv b392, .unset, .unset, .unset, .unset, .unset, .unset, .unset, .unset] [(.int (nC1 i4)), (.int (1 : Int32)), (.ref b392)])) rfl rfl (hb hby at_100)
    have N400 := Fr.snoc X400 N396 ng392
    have V400 : Arv Z h400 b392 k392 .int (3 : Int32) [(.int (nC0 i4)), (.int (nC1 i4)), (.int (0 : Int32))] (.int (0 : Int32)) := Arv.set Ar399 q399 S399 M399 H399 G399 rfl W400 1 rfl (Nat.le_of_ble_eq_true rfl)
    have g401 : Goes p e below S0 (T400.setTop (mkF m 101 #[iv i0, iv i1, iv i2, iv i3, .val (.long i4), .second, iv i5, iv (nM i0), iv (nK i1), iv (nB i1), iv (3 : Int32), iv (nC0 i4), iv (nC1 i4), iv (nC2 i5), rv b392, .unset, .unset, .unset, .unset, .unset, .unset, .unset, .unset] [])) := fun t k => g398 t (st400 t k)
    have g402 : Goes p e below S0 (T400.setTop (mkF m 112 #[iv i0, iv i1, iv i2, iv i3, .val (.long i4), .second, iv i5, iv (nM i0), iv (nK i1), iv (nB i1), iv (3 : Int32), iv (nC0 i4), iv (nC1 i4), iv (nC2 i5), rv b392, .unset, .unset, .unset, .unset, .unset, .unset, .unset, .unset] [(.int (nC2 i5)), (.int (2 : Int32)), (.ref b392)])) := fun t k => g401 t (by
      refine XS.iload X400.here hx rfl (hb hby at_101) rfl ?_
      show Go p e below t T400 m 103 #[iv i0, iv i1, iv i2, iv i3, .val (.long i4), .second, iv i5, iv (nM i0), iv (nK i1), iv (nB i1), iv (3 : Int32), iv (nC0 i4), iv (nC1 i4), iv (nC2 i5), rv b392, .unset, .unset, .unset, .unset, .unset, .unset, .unset, .unset] [(.int (3 : Int32))]
      refine XT.iconstV X400.here hx rfl (3 : Int32) (hb hby at_103) (by decide) ?_
      show Go p e below t T400 m 104 #[iv i0, iv i1, iv i2, iv i3, .val (.long i4), .second, iv i5, iv (nM i0), iv (nK i1), iv (nB i1), iv (3 : Int32), iv (nC0 i4), iv (nC1 i4), iv (nC2 i5), rv b392, .unset, .unset, .unset, .unset, .unset, .unset, .unset, .unset] [(.int (3 : Int32)), (.int (3 : Int32))]
      refine XS.icmpNo X400.here hx rfl (hb hby at_104) rfl (XT.ii_lt_f (by decide)) ?_
      show Go p e below t T400 m 107 #[iv i0, iv i1, iv i2, iv i3, .val (.long i4), .second, iv i5, iv (nM i0), iv (nK i1), iv (nB i1), iv (3 : Int32), iv (nC0 i4), iv (nC1 i4), iv (nC2 i5), rv b392, .unset, .unset, .unset, .unset, .unset, .unset, .unset, .unset] []
      refine XS.aload X400.here hx rfl (hb hby at_107) rfl rfl ?_
      show Go p e below t T400 m 109 #[iv i0, iv i1, iv i2, iv i3, .val (.long i4), .second, iv i5, iv (nM i0), iv (nK i1), iv (nB i1), iv (3 : Int32), iv (nC0 i4), iv (nC1 i4), iv (nC2 i5), rv b392, .unset, .unset, .unset, .unset, .unset, .unset, .unset, .unset] [(.ref b392)]
      refine XT.iconstV X400.here hx rfl (2 : Int32) (hb hby at_109) (by decide) ?_
      show Go p e below t T400 m 110 #[iv i0, iv i1, iv i2, iv i3, .val (.long i4), .second, iv i5, iv (nM i0), iv (nK i1), iv (nB i1), iv (3 : Int32), iv (nC0 i4), iv (nC1 i4), iv (nC2 i5), rv b392, .unset, .unset, .unset, .unset, .unset, .unset, .unset, .unset] [(.int (2 : Int32)), (.ref b392)]
      refine XS.iload X400.here hx rfl (hb hby at_110) rfl ?_
      show Go p e below t T400 m 112 #[iv i0, iv i1, iv i2, iv i3, .val (.long i4), .second, iv i5, iv (nM i0), iv (nK i1), iv (nB i1), iv (3 : Int32), iv (nC0 i4), iv (nC1 i4), iv (nC2 i5), rv b392, .unset, .unset, .unset, .unset, .unset, .unset, .unset, .unset] [(.int (nC2 i5)), (.int (2 : Int32)), (.ref b392)]
      exact k)
    obtain ⟨cl403, Ar403, q403, S403, M403, H403, G403⟩ := id V400
    obtain ⟨T404, h404, X404, e404, W404, st404⟩ := stI X400 hx hZ e400 Ar403 (j := (2 : Int32)) (inb_of S403 ⟨by decide, by decide⟩) (g := (mkF m 112 #[iv i0, iv i1, iv i2, iv i3, .val (.long i4), .second, iv i5, iv (nM i0), iv (nK i1), iv (nB i1), iv (3 : Int32), iv (nC0 i4), iv (nC1 i4), iv (nC2 i5), rv b392, .unset, .unset, .unset, .unset, .unset, .unset, .unset, .unset] [(.int (nC2 i5)), (.int (2 : Int32)), (.ref b392)])) rfl rfl (hb hby at_112)
    have N404 := Fr.snoc X404 N400 ng392
    have V404 : Arv Z h404 b392 k392 .int (3 : Int32) [(.int (nC0 i4)), (.int (nC1 i4)), (.int (nC2 i5))] (.int (0 : Int32)) := Arv.set Ar403 q403 S403 M403 H403 G403 rfl W404 2 rfl (Nat.le_of_ble_eq_true rfl)
    have g405 : Goes p e below S0 (T404.setTop (mkF m 113 #[iv i0, iv i1, iv i2, iv i3, .val (.long i4), .second, iv i5, iv (nM i0), iv (nK i1), iv (nB i1), iv (3 : Int32), iv (nC0 i4), iv (nC1 i4), iv (nC2 i5), rv b392, .unset, .unset, .unset, .unset, .unset, .unset, .unset, .unset] [])) := fun t k => g402 t (st404 t k)
    obtain ⟨T406, h406, X406, e406, E406, A406, D406, -, st406⟩ := newO X404 hx hZ hown (hw _ (List.mem_of_getElem? (i := 7) rfl)) (hw _ (List.mem_of_getElem? (i := 8) rfl)) (hw _ (List.mem_of_getElem? (i := 9) rfl)) e404 (g := (mkF m 113 #[iv i0, iv i1, iv i2, iv i3, .val (.long i4), .second, iv i5, iv (nM i0), iv (nK i1), iv (nB i1), iv (3 : Int32), iv (nC0 i4), iv (nC1 i4), iv (nC2 i5), rv b392, .unset, .unset, .unset, .unset, .unset, .unset, .unset, .unset] [])) rfl (hb hby at_113) (by decide) (by decide)
    obtain ⟨b406, gb406⟩ : ∃ z, z = h404.size := ⟨_, rfl⟩
    have sz406 : h0.size ≤ b406 := Nat.le_trans (Nat.le_trans (Nat.le_trans (Nat.le_trans (Nat.le_trans (Nat.le_refl _) E392.1) (Nat.le_of_eq W396.size.symm)) (Nat.le_of_eq W400.size.symm)) (Nat.le_of_eq W404.size.symm)) (Nat.le_of_eq gb406.symm)
    have ng406 : n0 ≤ b406 := Nat.le_trans Z0 sz406
    rw [← gb406] at A406 D406 st406
    have F406_407 : Fld Z h406 b406 "com/example/hetmo/hetmo/tree/StoppingRules" "_minLeaf" "I" (.int (0 : Int32)) := D406 (Or.inr (hw _ (List.mem_of_getElem? (i := 26) rfl))) (ty := .int) (by decide)
    have F406_408 : Fld Z h406 b406 "com/example/hetmo/hetmo/tree/StoppingRules" "_minShare" "D" (.double (0 : UInt64)) := D406 (Or.inr (hw _ (List.mem_of_getElem? (i := 28) rfl))) (ty := .double) (by decide)
    have F406_409 : Fld Z h406 b406 "com/example/hetmo/hetmo/tree/StoppingRules" "_minImprovement" "D" (.double (0 : UInt64)) := D406 (Or.inr (hw _ (List.mem_of_getElem? (i := 30) rfl))) (ty := .double) (by decide)
    have F406_410 : Fld Z h406 b406 "com/example/hetmo/hetmo/tree/StoppingRules" "_maxDepth" "I" (.int (0 : Int32)) := D406 (Or.inr (hw _ (List.mem_of_getElem? (i := 32) rfl))) (ty := .int) (by decide)
    have F406_411 : Fld Z h406 b406 "com/example/hetmo/hetmo/tree/StoppingRules" "_countedApartBy" "[D" .null := D406 (Or.inr (hw _ (List.mem_of_getElem? (i := 34) rfl))) (ty := (.array .double)) (by decide)
    have F406_412 : Fld Z h406 b406 "com/example/hetmo/hetmo/tree/StoppingRules" "_shareOfNode" "Z" (.int (0 : Int32)) := D406 (Or.inr (hw _ (List.mem_of_getElem? (i := 36) rfl))) (ty := .boolean) (by decide)
    have F406_413 : Fld Z h406 b406 "com/example/hetmo/hetmo/tree/StoppingRules" "_countingEstimatingRows" "Z" (.int (0 : Int32)) := D406 (Or.inr (hw _ (List.mem_of_getElem? (i := 38) rfl))) (ty := .boolean) (by decide)
    have g414 : Goes p e below S0 (T406.setTop (mkF m 116 #[iv i0, iv i1, iv i2, iv i3, .val (.long i4), .second, iv i5, iv (nM i0), iv (nK i1), iv (nB i1), iv (3 : Int32), iv (nC0 i4), iv (nC1 i4), iv (nC2 i5), rv b392, .unset, .unset, .unset, .unset, .unset, .unset, .unset, .unset] [(.ref b406)])) := fun t k => g405 t (st406 t k)
    have g415 : Goes p e below S0 (T406.setTop (mkF m 128 #[iv i0, iv i1, iv i2, iv i3, .val (.long i4), .second, iv i5, iv (nM i0), iv (nK i1), iv (nB i1), iv (3 : Int32), iv (nC0 i4), iv (nC1 i4), iv (nC2 i5), rv b392, .unset, .unset, .unset, .unset, .unset, .unset, .unset, .unset] [(.int (0 : Int32)), (.double (0 : UInt64)), (.double (nS i1)), (.int (nM i0)), (.ref b406), (.ref b406)])) := fun t k => g414 t (by
      refine XS.dup X406.here hx rfl (hb hby at_116) rfl rfl ?_
      show Go p e below t T406 m 117 #[iv i0, iv i1, iv i2, iv i3, .val (.long i4), .second, iv i5, iv (nM i0), iv (nK i1), iv (nB i1), iv (3 : Int32), iv (nC0 i4), iv (nC1 i4), iv (nC2 i5), rv b392, .unset, .unset, .unset, .unset, .unset, .unset, .unset, .unset] [(.ref b406), (.ref b406)]
      refine XS.iload X406.here hx rfl (hb hby at_117) rfl ?_
      show Go p e below t T406 m 119 #[iv i0, iv i1, iv i2, iv i3, .val (.long i4), .second, iv i5, iv (nM i0), iv (nK i1), iv (nB i1), iv (3 : Int32), iv (nC0 i4), iv (nC1 i4), iv (nC2 i5), rv b392, .unset, .unset, .unset, .unset, .unset, .unset, .unset, .unset] [(.int (nM i0)), (.ref b406), (.ref b406)]
      refine XS.iload X406.here hx rfl (hb hby at_119) rfl ?_
      show Go p e below t T406 m 121 #[iv i0, iv i1, iv i2, iv i3, .val (.long i4), .second, iv i5, iv (nM i0), iv (nK i1), iv (nB i1), iv (3 : Int32), iv (nC0 i4), iv (nC1 i4), iv (nC2 i5), rv b392, .unset, .unset, .unset, .unset, .unset, .unset, .unset, .unset] [(.int (nK i1)), (.int (nM i0)), (.ref b406), (.ref b406)]
      refine XS.i2dS X406.here hx rfl (hb hby at_121) rfl rfl ?_
      show Go p e below t T406 m 122 #[iv i0, iv i1, iv i2, iv i3, .val (.long i4), .second, iv i5, iv (nM i0), iv (nK i1), iv (nB i1), iv (3 : Int32), iv (nC0 i4), iv (nC1 i4), iv (nC2 i5), rv b392, .unset, .unset, .unset, .unset, .unset, .unset, .unset, .unset] [(.double (FP.i2d (nK i1))), (.int (nM i0)), (.ref b406), (.ref b406)]
      refine X406.ldc2DoubleC hx hown (mvT hZ (hw _ (List.mem_of_getElem? (i := 10) rfl))) (g := (mkF m 122 #[iv i0, iv i1, iv i2, iv i3, .val (.long i4), .second, iv i5, iv (nM i0), iv (nK i1), iv (nB i1), iv (3 : Int32), iv (nC0 i4), iv (nC1 i4), iv (nC2 i5), rv b392, .unset, .unset, .unset, .unset, .unset, .unset, .unset, .unset] [(.double (FP.i2d (nK i1))), (.int (nM i0)), (.ref b406), (.ref b406)])) rfl (hb hby at_122) _ ?_
      show Go p e below t T406 m 125 #[iv i0, iv i1, iv i2, iv i3, .val (.long i4), .second, iv i5, iv (nM i0), iv (nK i1), iv (nB i1), iv (3 : Int32), iv (nC0 i4), iv (nC1 i4), iv (nC2 i5), rv b392, .unset, .unset, .unset, .unset, .unset, .unset, .unset, .unset] [(.double (4620693217682128896 : UInt64)), (.double (FP.i2d (nK i1))), (.int (nM i0)), (.ref b406), (.ref b406)]
      refine XS.ddivS X406.here hx rfl (hb hby at_125) rfl (own_qd i1) rfl ?_
      show Go p e below t T406 m 126 #[iv i0, iv i1, iv i2, iv i3, .val (.long i4), .second, iv i5, iv (nM i0), iv (nK i1), iv (nB i1), iv (3 : Int32), iv (nC0 i4), iv (nC1 i4), iv (nC2 i5), rv b392, .unset, .unset, .unset, .unset, .unset, .unset, .unset, .unset] [(.double (FP.ddiv (FP.i2d (nK i1)) (4620693217682128896 : UInt64))), (.int (nM i0)), (.ref b406), (.ref b406)]
      show Go p e below t T406 m 126 #[iv i0, iv i1, iv i2, iv i3, .val (.long i4), .second, iv i5, iv (nM i0), iv (nK i1), iv (nB i1), iv (3 : Int32), iv (nC0 i4), iv (nC1 i4), iv (nC2 i5), rv b392, .unset, .unset, .unset, .unset, .unset, .unset, .unset, .unset] [(.double (nS i1)), (.int (nM i0)), (.ref b406), (.ref b406)]
      refine XS.dconst0 X406.here hx rfl (hb hby at_126) (v := (0 : UInt64)) rfl ?_
      show Go p e below t T406 m 127 #[iv i0, iv i1, iv i2, iv i3, .val (.long i4), .second, iv i5, iv (nM i0), iv (nK i1), iv (nB i1), iv (3 : Int32), iv (nC0 i4), iv (nC1 i4), iv (nC2 i5), rv b392, .unset, .unset, .unset, .unset, .unset, .unset, .unset, .unset] [(.double (0 : UInt64)), (.double (nS i1)), (.int (nM i0)), (.ref b406), (.ref b406)]
      refine XT.iconstV X406.here hx rfl (0 : Int32) (hb hby at_127) (by decide) ?_
      show Go p e below t T406 m 128 #[iv i0, iv i1, iv i2, iv i3, .val (.long i4), .second, iv i5, iv (nM i0), iv (nK i1), iv (nB i1), iv (3 : Int32), iv (nC0 i4), iv (nC1 i4), iv (nC2 i5), rv b392, .unset, .unset, .unset, .unset, .unset, .unset, .unset, .unset] [(.int (0 : Int32)), (.double (0 : UInt64)), (.double (nS i1)), (.int (nM i0)), (.ref b406), (.ref b406)]
      exact k)
    obtain ⟨_, _, ⟨T416, L416, k416, n416⟩, -, X416, ⟨Lc416, hQ416, l416, y416, z416⟩, st416⟩ := X406.specialBack hx (y := (⟨"com/example/hetmo/hetmo/tree/StoppingRules", "<init>", "(IDDI)V"⟩ : MethodName)) rfl hown (mvT hZ (hw _ (List.mem_of_getElem? (i := 11) rfl))) (mvT hZ (hw _ (List.mem_of_getElem? (i := 12) rfl))) (mvT hZ (hw _ (List.mem_of_getElem? (i := 13) rfl))) (by decide) (backOf (W := 1) (rm_ini l Z a0 hw [] b406 (nM i0) (nS i1) (0 : UInt64) (0 : Int32)  h406 n0 (Nat.le_trans Z0 (Nat.le_trans (Nat.le_trans (Nat.le_trans (Nat.le_trans (Nat.le_trans (Nat.le_refl _) E392.1) (Nat.le_of_eq W396.size.symm)) (Nat.le_of_eq W400.size.symm)) (Nat.le_of_eq W404.size.symm)) E406.1)) A406 F406_407 F406_408 F406_409 F406_410 F406_411 F406_412 F406_413 ng406 (own_q1 i0) (own_q2 i1) (own_q3 i1) (by decide +kernel) (by unfold Jvm.Free.Fl.NoNaN64; decide) (by decide +kernel) (by decide)) hZ (hw _ (List.mem_of_getElem? (i := 13) rfl)) (hw _ (List.mem_of_getElem? (i := 9) rfl)) (by decide) (by decide)) (g := (mkF m 128 #[iv i0, iv i1, iv i2, iv i3, .val (.long i4), .second, iv i5, iv (nM i0), iv (nK i1), iv (nB i1), iv (3 : Int32), iv (nC0 i4), iv (nC1 i4), iv (nC2 i5), rv b392, .unset, .unset, .unset, .unset, .unset, .unset, .unset, .unset] [(.int (0 : Int32)), (.double (0 : UInt64)), (.double (nS i1)), (.int (nM i0)), (.ref b406), (.ref b406)])) rfl (by rw [hml]; rfl) (Steps.refl _) (a := b406) (argsL := [(.int (nM i0)), (.double (nS i1)), (.double (0 : UInt64)), (.int (0 : Int32))]) (rest := [(.ref b406)]) (lenOf pd3 rfl) rfl (by show 2 * 0 + _ ≤ _; exact Nat.le_of_eq rfl) (hb hby at_128) (fun _ _ => ⟨rfl, e406, (by decide : 2 + 0 ≤ _), (by decide : 10 + 0 ≤ _)⟩)
    dsimp only [Pt.U, Pt.locs, Pt.cells, Pt.slots] at X416 l416 y416 z416 st416 hQ416
    subst l416 y416 z416
    obtain ⟨rfl, N416, R416_0, R416_1, R416_2, R416_3, R416_4, R416_5, R416_6, R416_7, R416_8⟩ := hQ416
    have M416 := Fr.app N404 N416
    have g417 : Goes p e below S0 (T416.setTop (mkF m 131 #[iv i0, iv i1, iv i2, iv i3, .val (.long i4), .second, iv i5, iv (nM i0), iv (nK i1), iv (nB i1), iv (3 : Int32), iv (nC0 i4), iv (nC1 i4), iv (nC2 i5), rv b392, .unset, .unset, .unset, .unset, .unset, .unset, .unset, .unset] [(.ref b406)])) := fun t k => g415 t (st416.trans k)
    have g418 : Goes p e below S0 (T416.setTop (mkF m 135 #[iv i0, iv i1, iv i2, iv i3, .val (.long i4), .second, iv i5, iv (nM i0), iv (nK i1), iv (nB i1), iv (3 : Int32), iv (nC0 i4), iv (nC1 i4), iv (nC2 i5), rv b392, rv b406, .unset, .unset, .unset, .unset, .unset, .unset, .unset] [(.int (nB i1))])) := fun t k => g417 t (by
      refine XS.astore X416.here hx rfl (hb hby at_131) rfl rfl (l' := #[iv i0, iv i1, iv i2, iv i3, .val (.long i4), .second, iv i5, iv (nM i0), iv (nK i1), iv (nB i1), iv (3 : Int32), iv (nC0 i4), iv (nC1 i4), iv (nC2 i5), rv b392, rv b406, .unset, .unset, .unset, .unset, .unset, .unset, .unset]) rfl ?_
      show Go p e below t T416 m 133 #[iv i0, iv i1, iv i2, iv i3, .val (.long i4), .second, iv i5, iv (nM i0), iv (nK i1), iv (nB i1), iv (3 : Int32), iv (nC0 i4), iv (nC1 i4), iv (nC2 i5), rv b392, rv b406, .unset, .unset, .unset, .unset, .unset, .unset, .unset] []
      refine XS.iload X416.here hx rfl (hb hby at_133) rfl ?_
      show Go p e below t T416 m 135 #[iv i0, iv i1, iv i2, iv i3, .val (.long i4), .second, iv i5, iv (nM i0), iv (nK i1), iv (nB i1), iv (3 : Int32), iv (nC0 i4), iv (nC1 i4), iv (nC2 i5), rv b392, rv b406, .unset, .unset, .unset, .unset, .unset, .unset, .unset] [(.int (nB i1))]
      exact k)
    by_cases h419 : (nB i1) = 0
    · skip
      have g420 : Goes p e below S0 (T416.setTop (mkF m 151 #[iv i0, iv i1, iv i2, iv i3, .val (.long i4), .second, iv i5, iv (nM i0), iv (nK i1), iv (nB i1), iv (3 : Int32), iv (nC0 i4), iv (nC1 i4), iv (nC2 i5), rv b392, rv b406, .unset, .unset, .unset, .unset, .unset, .unset, .unset] [(.int i3), (.int i2), (.ref b392), (.ref b406)])) := fun t k => g418 t (by
        refine XS.ifYes X416.here hx rfl (pc0 := 135) (pc' := 145) rfl (hb hby at_135) rfl (XT.i0_eq_t h419) (by decide) (by decide) ?_
        show Go p e below t T416 m 145 #[iv i0, iv i1, iv i2, iv i3, .val (.long i4), .second, iv i5, iv (nM i0), iv (nK i1), iv (nB i1), iv (3 : Int32), iv (nC0 i4), iv (nC1 i4), iv (nC2 i5), rv b392, rv b406, .unset, .unset, .unset, .unset, .unset, .unset, .unset] []
        refine XS.aload X416.here hx rfl (hb hby at_145) rfl rfl ?_
        show Go p e below t T416 m 147 #[iv i0, iv i1, iv i2, iv i3, .val (.long i4), .second, iv i5, iv (nM i0), iv (nK i1), iv (nB i1), iv (3 : Int32), iv (nC0 i4), iv (nC1 i4), iv (nC2 i5), rv b392, rv b406, .unset, .unset, .unset, .unset, .unset, .unset, .unset] [(.ref b406)]
        refine XS.aload X416.here hx rfl (hb hby at_147) rfl rfl ?_
        show Go p e below t T416 m 149 #[iv i0, iv i1, iv i2, iv i3, .val (.long i4), .second, iv i5, iv (nM i0), iv (nK i1), iv (nB i1), iv (3 : Int32), iv (nC0 i4), iv (nC1 i4), iv (nC2 i5), rv b392, rv b406, .unset, .unset, .unset, .unset, .unset, .unset, .unset] [(.ref b392), (.ref b406)]
        refine XS.iloadN X416.here hx rfl (hb hby at_149) rfl ?_
        show Go p e below t T416 m 150 #[iv i0, iv i1, iv i2, iv i3, .val (.long i4), .second, iv i5, iv (nM i0), iv (nK i1), iv (nB i1), iv (3 : Int32), iv (nC0 i4), iv (nC1 i4), iv (nC2 i5), rv b392, rv b406, .unset, .unset, .unset, .unset, .unset, .unset, .unset] [(.int i2), (.ref b392), (.ref b406)]
        refine XS.iloadN X416.here hx rfl (hb hby at_150) rfl ?_
        show Go p e below t T416 m 151 #[iv i0, iv i1, iv i2, iv i3, .val (.long i4), .second, iv i5, iv (nM i0), iv (nK i1), iv (nB i1), iv (3 : Int32), iv (nC0 i4), iv (nC1 i4), iv (nC2 i5), rv b392, rv b406, .unset, .unset, .unset, .unset, .unset, .unset, .unset] [(.int i3), (.int i2), (.ref b392), (.ref b406)]
        exact k)
      obtain ⟨cq421, kq421, q421a, q421b, q421c⟩ := isOf hZ rfl R416_1
      obtain ⟨_, _, ⟨T421, L421, k421, n421⟩, -, X421, ⟨Lc421, hQ421, l421, y421, z421⟩, st421⟩ := X416.virtualBack hx (y := (⟨"com/example/hetmo/hetmo/tree/StoppingRules", "admits", "([III)Z"⟩ : MethodName)) (z := (⟨"com/example/hetmo/hetmo/tree/StoppingRules", "admits", "([III)Z"⟩ : MethodName)) hown (mvT hZ (hw _ (List.mem_of_getElem? (i := 39) rfl))) (mvT hZ (hw _ (List.mem_of_getElem? (i := 40) rfl))) (notFace_of_selects (args := #[]) (mvT hZ (hw _ (List.mem_of_getElem? (i := 42) rfl)))) (mvT hZ (hw _ (List.mem_of_getElem? (i := 42) rfl))) (mvT hZ (hw _ (List.mem_of_getElem? (i := 41) rfl))) (by decide) (backOf (W := 0) (rm_ad3 l Z a0 hw [] b406 b392 i2 i3 (nM i0) (nS i1) (0 : Int32) k392 (nC0 i4) (nC1 i4) (nC2 i5) T416.heap n0 (Nat.le_trans Z0 (Nat.le_trans (Nat.le_trans (Nat.le_trans (Nat.le_trans (Nat.le_trans (Nat.le_trans (Nat.le_refl _) E392.1) (Nat.le_of_eq W396.size.symm)) (Nat.le_of_eq W400.size.symm)) (Nat.le_of_eq W404.size.symm)) E406.1) R416_0.1)) R416_2 R416_3 R416_7 ((V404.ext E406).keep R416_0 (ninS (Nat.ne_of_lt (Nat.lt_of_lt_of_le V404.lt (Nat.le_of_eq gb406.symm))) nin0)) (own_qf i1)) hZ (hw _ (List.mem_of_getElem? (i := 43) rfl)) (hw _ (List.mem_of_getElem? (i := 9) rfl)) (by decide) (by decide)) q421a q421c (g := (mkF m 151 #[iv i0, iv i1, iv i2, iv i3, .val (.long i4), .second, iv i5, iv (nM i0), iv (nK i1), iv (nB i1), iv (3 : Int32), iv (nC0 i4), iv (nC1 i4), iv (nC2 i5), rv b392, rv b406, .unset, .unset, .unset, .unset, .unset, .unset, .unset] [(.int i3), (.int i2), (.ref b392), (.ref b406)])) rfl (by rw [hml]; rfl) (Steps.refl _) (argsL := [(.ref b392), (.int i2), (.int i3)]) (rest := []) (lenOf pd6 rfl) rfl (by show 2 * 0 + _ ≤ _; exact Nat.le_of_eq rfl) (hb hby at_151) (fun _ _ => ⟨rfl, rfl, (by decide : 2 + 0 ≤ _), (by decide : 10 + 0 ≤ _)⟩)
      dsimp only [Pt.U, Pt.locs, Pt.cells, Pt.slots] at X421 l421 y421 z421 st421 hQ421
      subst l421 y421 z421
      obtain ⟨rfl, N421, e421⟩ := hQ421
      have M421 := Fr.app M416 N421
      have g422 : Goes p e below S0 (T421.setTop (mkF m 154 #[iv i0, iv i1, iv i2, iv i3, .val (.long i4), .second, iv i5, iv (nM i0), iv (nK i1), iv (nB i1), iv (3 : Int32), iv (nC0 i4), iv (nC1 i4), iv (nC2 i5), rv b392, rv b406, .unset, .unset, .unset, .unset, .unset, .unset, .unset] [(.int (f_ad3 i2 i3 (nM i0) (nS i1) (0 : Int32) (nC0 i4) (nC1 i4) (nC2 i5)))])) := fun t k => g420 t (st421.trans k)
      have g423 : Goes p e below S0 (T421.setTop (mkF m 168 #[iv i0, iv i1, iv i2, iv i3, .val (.long i4), .second, iv i5, iv (nM i0), iv (nK i1), iv (nB i1), iv (3 : Int32), iv (nC0 i4), iv (nC1 i4), iv (nC2 i5), rv b392, rv b406, iv (f_ad3 i2 i3 (nM i0) (nS i1) (0 : Int32) (nC0 i4) (nC1 i4) (nC2 i5)), iv (1 : Int32), .val (.long (0 : Int64)), .second, .unset, .unset, .unset] [])) := fun t k => g422 t (by
        refine XS.istore X421.here hx rfl (hb hby at_154) rfl (l' := #[iv i0, iv i1, iv i2, iv i3, .val (.long i4), .second, iv i5, iv (nM i0), iv (nK i1), iv (nB i1), iv (3 : Int32), iv (nC0 i4), iv (nC1 i4), iv (nC2 i5), rv b392, rv b406, iv (f_ad3 i2 i3 (nM i0) (nS i1) (0 : Int32) (nC0 i4) (nC1 i4) (nC2 i5)), .unset, .unset, .unset, .unset, .unset, .unset]) rfl ?_
        show Go p e below t T421 m 156 #[iv i0, iv i1, iv i2, iv i3, .val (.long i4), .second, iv i5, iv (nM i0), iv (nK i1), iv (nB i1), iv (3 : Int32), iv (nC0 i4), iv (nC1 i4), iv (nC2 i5), rv b392, rv b406, iv (f_ad3 i2 i3 (nM i0) (nS i1) (0 : Int32) (nC0 i4) (nC1 i4) (nC2 i5)), .unset, .unset, .unset, .unset, .unset, .unset] []
        refine XT.iconstV X421.here hx rfl (1 : Int32) (hb hby at_156) (by decide) ?_
        show Go p e below t T421 m 157 #[iv i0, iv i1, iv i2, iv i3, .val (.long i4), .second, iv i5, iv (nM i0), iv (nK i1), iv (nB i1), iv (3 : Int32), iv (nC0 i4), iv (nC1 i4), iv (nC2 i5), rv b392, rv b406, iv (f_ad3 i2 i3 (nM i0) (nS i1) (0 : Int32) (nC0 i4) (nC1 i4) (nC2 i5)), .unset, .unset, .unset, .unset, .unset, .unset] [(.int (1 : Int32))]
        refine XS.istore X421.here hx rfl (hb hby at_157) rfl (l' := #[iv i0, iv i1, iv i2, iv i3, .val (.long i4), .second, iv i5, iv (nM i0), iv (nK i1), iv (nB i1), iv (3 : Int32), iv (nC0 i4), iv (nC1 i4), iv (nC2 i5), rv b392, rv b406, iv (f_ad3 i2 i3 (nM i0) (nS i1) (0 : Int32) (nC0 i4) (nC1 i4) (nC2 i5)), iv (1 : Int32), .unset, .unset, .unset, .unset, .unset]) rfl ?_
        show Go p e below t T421 m 159 #[iv i0, iv i1, iv i2, iv i3, .val (.long i4), .second, iv i5, iv (nM i0), iv (nK i1), iv (nB i1), iv (3 : Int32), iv (nC0 i4), iv (nC1 i4), iv (nC2 i5), rv b392, rv b406, iv (f_ad3 i2 i3 (nM i0) (nS i1) (0 : Int32) (nC0 i4) (nC1 i4) (nC2 i5)), iv (1 : Int32), .unset, .unset, .unset, .unset, .unset] []
        refine XT.lconstV X421.here hx rfl (0 : Int64) (hb hby at_159) (by decide) ?_
        show Go p e below t T421 m 160 #[iv i0, iv i1, iv i2, iv i3, .val (.long i4), .second, iv i5, iv (nM i0), iv (nK i1), iv (nB i1), iv (3 : Int32), iv (nC0 i4), iv (nC1 i4), iv (nC2 i5), rv b392, rv b406, iv (f_ad3 i2 i3 (nM i0) (nS i1) (0 : Int32) (nC0 i4) (nC1 i4) (nC2 i5)), iv (1 : Int32), .unset, .unset, .unset, .unset, .unset] [(.long (0 : Int64))]
        refine XS.lstore X421.here hx rfl (hb hby at_160) rfl (l' := #[iv i0, iv i1, iv i2, iv i3, .val (.long i4), .second, iv i5, iv (nM i0), iv (nK i1), iv (nB i1), iv (3 : Int32), iv (nC0 i4), iv (nC1 i4), iv (nC2 i5), rv b392, rv b406, iv (f_ad3 i2 i3 (nM i0) (nS i1) (0 : Int32) (nC0 i4) (nC1 i4) (nC2 i5)), iv (1 : Int32), .val (.long (0 : Int64)), .second, .unset, .unset, .unset]) rfl ?_
        show Go p e below t T421 m 162 #[iv i0, iv i1, iv i2, iv i3, .val (.long i4), .second, iv i5, iv (nM i0), iv (nK i1), iv (nB i1), iv (3 : Int32), iv (nC0 i4), iv (nC1 i4), iv (nC2 i5), rv b392, rv b406, iv (f_ad3 i2 i3 (nM i0) (nS i1) (0 : Int32) (nC0 i4) (nC1 i4) (nC2 i5)), iv (1 : Int32), .val (.long (0 : Int64)), .second, .unset, .unset, .unset] []
        refine XS.iload X421.here hx rfl (hb hby at_162) rfl ?_
        show Go p e below t T421 m 164 #[iv i0, iv i1, iv i2, iv i3, .val (.long i4), .second, iv i5, iv (nM i0), iv (nK i1), iv (nB i1), iv (3 : Int32), iv (nC0 i4), iv (nC1 i4), iv (nC2 i5), rv b392, rv b406, iv (f_ad3 i2 i3 (nM i0) (nS i1) (0 : Int32) (nC0 i4) (nC1 i4) (nC2 i5)), iv (1 : Int32), .val (.long (0 : Int64)), .second, .unset, .unset, .unset] [(.int (3 : Int32))]
        refine XT.iconstV X421.here hx rfl (1 : Int32) (hb hby at_164) (by decide) ?_
        show Go p e below t T421 m 165 #[iv i0, iv i1, iv i2, iv i3, .val (.long i4), .second, iv i5, iv (nM i0), iv (nK i1), iv (nB i1), iv (3 : Int32), iv (nC0 i4), iv (nC1 i4), iv (nC2 i5), rv b392, rv b406, iv (f_ad3 i2 i3 (nM i0) (nS i1) (0 : Int32) (nC0 i4) (nC1 i4) (nC2 i5)), iv (1 : Int32), .val (.long (0 : Int64)), .second, .unset, .unset, .unset] [(.int (1 : Int32)), (.int (3 : Int32))]
        refine XS.icmpNo X421.here hx rfl (hb hby at_165) rfl (XT.ii_lt_f (by decide)) ?_
        show Go p e below t T421 m 168 #[iv i0, iv i1, iv i2, iv i3, .val (.long i4), .second, iv i5, iv (nM i0), iv (nK i1), iv (nB i1), iv (3 : Int32), iv (nC0 i4), iv (nC1 i4), iv (nC2 i5), rv b392, rv b406, iv (f_ad3 i2 i3 (nM i0) (nS i1) (0 : Int32) (nC0 i4) (nC1 i4) (nC2 i5)), iv (1 : Int32), .val (.long (0 : Int64)), .second, .unset, .unset, .unset] []
        exact k)
      have gf424 : Goes p e below S0 (T421.setTop (mkF m 178 #[iv i0, iv i1, iv i2, iv i3, .val (.long i4), .second, iv i5, iv (nM i0), iv (nK i1), iv (nB i1), iv (3 : Int32), iv (nC0 i4), iv (nC1 i4), iv (nC2 i5), rv b392, rv b406, iv (f_ad3 i2 i3 (nM i0) (nS i1) (0 : Int32) (nC0 i4) (nC1 i4) (nC2 i5)), iv (own_all (1 : Int32) (nC0 i4) (nM i0)), .val (.long (0 : Int64)), .second, .unset, .unset, .unset] [])) := by
        have g425 : Goes p e below S0 (T421.setTop (mkF m 172 #[iv i0, iv i1, iv i2, iv i3, .val (.long i4), .second, iv i5, iv (nM i0), iv (nK i1), iv (nB i1), iv (3 : Int32), iv (nC0 i4), iv (nC1 i4), iv (nC2 i5), rv b392, rv b406, iv (f_ad3 i2 i3 (nM i0) (nS i1) (0 : Int32) (nC0 i4) (nC1 i4) (nC2 i5)), iv (1 : Int32), .val (.long (0 : Int64)), .second, .unset, .unset, .unset] [(.int (nM i0)), (.int (nC0 i4))])) := fun t k => g423 t (by
          refine XS.iload X421.here hx rfl (hb hby at_168) rfl ?_
          show Go p e below t T421 m 170 #[iv i0, iv i1, iv i2, iv i3, .val (.long i4), .second, iv i5, iv (nM i0), iv (nK i1), iv (nB i1), iv (3 : Int32), iv (nC0 i4), iv (nC1 i4), iv (nC2 i5), rv b392, rv b406, iv (f_ad3 i2 i3 (nM i0) (nS i1) (0 : Int32) (nC0 i4) (nC1 i4) (nC2 i5)), iv (1 : Int32), .val (.long (0 : Int64)), .second, .unset, .unset, .unset] [(.int (nC0 i4))]
          refine XS.iload X421.here hx rfl (hb hby at_170) rfl ?_
          show Go p e below t T421 m 172 #[iv i0, iv i1, iv i2, iv i3, .val (.long i4), .second, iv i5, iv (nM i0), iv (nK i1), iv (nB i1), iv (3 : Int32), iv (nC0 i4), iv (nC1 i4), iv (nC2 i5), rv b392, rv b406, iv (f_ad3 i2 i3 (nM i0) (nS i1) (0 : Int32) (nC0 i4) (nC1 i4) (nC2 i5)), iv (1 : Int32), .val (.long (0 : Int64)), .second, .unset, .unset, .unset] [(.int (nM i0)), (.int (nC0 i4))]
          exact k)
        by_cases h426 : (nC0 i4) < (nM i0)
        · skip
          have g427 : Goes p e below S0 (T421.setTop (mkF m 178 #[iv i0, iv i1, iv i2, iv i3, .val (.long i4), .second, iv i5, iv (nM i0), iv (nK i1), iv (nB i1), iv (3 : Int32), iv (nC0 i4), iv (nC1 i4), iv (nC2 i5), rv b392, rv b406, iv (f_ad3 i2 i3 (nM i0) (nS i1) (0 : Int32) (nC0 i4) (nC1 i4) (nC2 i5)), iv (0 : Int32), .val (.long (0 : Int64)), .second, .unset, .unset, .unset] [])) := fun t k => g425 t (by
            refine XS.icmpNo X421.here hx rfl (hb hby at_172) rfl (XT.ii_ge_f h426) ?_
            show Go p e below t T421 m 175 #[iv i0, iv i1, iv i2, iv i3, .val (.long i4), .second, iv i5, iv (nM i0), iv (nK i1), iv (nB i1), iv (3 : Int32), iv (nC0 i4), iv (nC1 i4), iv (nC2 i5), rv b392, rv b406, iv (f_ad3 i2 i3 (nM i0) (nS i1) (0 : Int32) (nC0 i4) (nC1 i4) (nC2 i5)), iv (1 : Int32), .val (.long (0 : Int64)), .second, .unset, .unset, .unset] []
            refine XT.iconstV X421.here hx rfl (0 : Int32) (hb hby at_175) (by decide) ?_
            show Go p e below t T421 m 176 #[iv i0, iv i1, iv i2, iv i3, .val (.long i4), .second, iv i5, iv (nM i0), iv (nK i1), iv (nB i1), iv (3 : Int32), iv (nC0 i4), iv (nC1 i4), iv (nC2 i5), rv b392, rv b406, iv (f_ad3 i2 i3 (nM i0) (nS i1) (0 : Int32) (nC0 i4) (nC1 i4) (nC2 i5)), iv (1 : Int32), .val (.long (0 : Int64)), .second, .unset, .unset, .unset] [(.int (0 : Int32))]
            refine XS.istore X421.here hx rfl (hb hby at_176) rfl (l' := #[iv i0, iv i1, iv i2, iv i3, .val (.long i4), .second, iv i5, iv (nM i0), iv (nK i1), iv (nB i1), iv (3 : Int32), iv (nC0 i4), iv (nC1 i4), iv (nC2 i5), rv b392, rv b406, iv (f_ad3 i2 i3 (nM i0) (nS i1) (0 : Int32) (nC0 i4) (nC1 i4) (nC2 i5)), iv (0 : Int32), .val (.long (0 : Int64)), .second, .unset, .unset, .unset]) rfl ?_
            show Go p e below t T421 m 178 #[iv i0, iv i1, iv i2, iv i3, .val (.long i4), .second, iv i5, iv (nM i0), iv (nK i1), iv (nB i1), iv (3 : Int32), iv (nC0 i4), iv (nC1 i4), iv (nC2 i5), rv b392, rv b406, iv (f_ad3 i2 i3 (nM i0) (nS i1) (0 : Int32) (nC0 i4) (nC1 i4) (nC2 i5)), iv (0 : Int32), .val (.long (0 : Int64)), .second, .unset, .unset, .unset] []
            exact k)
          have e424_0 : (own_all (1 : Int32) (nC0 i4) (nM i0)) = (0 : Int32) := by first | exact if_pos h426 | (unfold own_all; first | (rw [if_pos h426]; done) | (simp [h426]; done) | (rw [if_pos h426]; decide))
          rw [e424_0]; exact g427
        · skip
          have g428 : Goes p e below S0 (T421.setTop (mkF m 178 #[iv i0, iv i1, iv i2, iv i3, .val (.long i4), .second, iv i5, iv (nM i0), iv (nK i1), iv (nB i1), iv (3 : Int32), iv (nC0 i4), iv (nC1 i4), iv (nC2 i5), rv b392, rv b406, iv (f_ad3 i2 i3 (nM i0) (nS i1) (0 : Int32) (nC0 i4) (nC1 i4) (nC2 i5)), iv (1 : Int32), .val (.long (0 : Int64)), .second, .unset, .unset, .unset] [])) := fun t k => g425 t (by
            refine XS.icmpYes X421.here hx rfl (pc0 := 172) (pc' := 178) rfl (hb hby at_172) rfl (XT.ii_ge_t h426) (by decide) (by decide) ?_
            show Go p e below t T421 m 178 #[iv i0, iv i1, iv i2, iv i3, .val (.long i4), .second, iv i5, iv (nM i0), iv (nK i1), iv (nB i1), iv (3 : Int32), iv (nC0 i4), iv (nC1 i4), iv (nC2 i5), rv b392, rv b406, iv (f_ad3 i2 i3 (nM i0) (nS i1) (0 : Int32) (nC0 i4) (nC1 i4) (nC2 i5)), iv (1 : Int32), .val (.long (0 : Int64)), .second, .unset, .unset, .unset] []
            exact k)
          have e424_0 : (own_all (1 : Int32) (nC0 i4) (nM i0)) = (1 : Int32) := by first | exact if_neg h426 | (unfold own_all; first | (rw [if_neg h426]; done) | (simp [h426]; done) | (rw [if_neg h426]; decide))
          rw [e424_0]; exact g428
      have g429 : Goes p e below S0 (T421.setTop (mkF m 192 #[iv i0, iv i1, iv i2, iv i3, .val (.long i4), .second, iv i5, iv (nM i0), iv (nK i1), iv (nB i1), iv (3 : Int32), iv (nC0 i4), iv (nC1 i4), iv (nC2 i5), rv b392, rv b406, iv (f_ad3 i2 i3 (nM i0) (nS i1) (0 : Int32) (nC0 i4) (nC1 i4) (nC2 i5)), iv (own_all (1 : Int32) (nC0 i4) (nM i0)), .val (.long ((0 : Int64) + ((nC0 i4).toInt64))), .second, .unset, .unset, .unset] [])) := fun t k => gf424 t (by
        refine XS.lload X421.here hx rfl (hb hby at_178) rfl ?_
        show Go p e below t T421 m 180 #[iv i0, iv i1, iv i2, iv i3, .val (.long i4), .second, iv i5, iv (nM i0), iv (nK i1), iv (nB i1), iv (3 : Int32), iv (nC0 i4), iv (nC1 i4), iv (nC2 i5), rv b392, rv b406, iv (f_ad3 i2 i3 (nM i0) (nS i1) (0 : Int32) (nC0 i4) (nC1 i4) (nC2 i5)), iv (own_all (1 : Int32) (nC0 i4) (nM i0)), .val (.long (0 : Int64)), .second, .unset, .unset, .unset] [(.long (0 : Int64))]
        refine XS.iload X421.here hx rfl (hb hby at_180) rfl ?_
        show Go p e below t T421 m 182 #[iv i0, iv i1, iv i2, iv i3, .val (.long i4), .second, iv i5, iv (nM i0), iv (nK i1), iv (nB i1), iv (3 : Int32), iv (nC0 i4), iv (nC1 i4), iv (nC2 i5), rv b392, rv b406, iv (f_ad3 i2 i3 (nM i0) (nS i1) (0 : Int32) (nC0 i4) (nC1 i4) (nC2 i5)), iv (own_all (1 : Int32) (nC0 i4) (nM i0)), .val (.long (0 : Int64)), .second, .unset, .unset, .unset] [(.int (nC0 i4)), (.long (0 : Int64))]
        refine XS.i2l X421.here hx rfl (hb hby at_182) rfl ?_
        show Go p e below t T421 m 183 #[iv i0, iv i1, iv i2, iv i3, .val (.long i4), .second, iv i5, iv (nM i0), iv (nK i1), iv (nB i1), iv (3 : Int32), iv (nC0 i4), iv (nC1 i4), iv (nC2 i5), rv b392, rv b406, iv (f_ad3 i2 i3 (nM i0) (nS i1) (0 : Int32) (nC0 i4) (nC1 i4) (nC2 i5)), iv (own_all (1 : Int32) (nC0 i4) (nM i0)), .val (.long (0 : Int64)), .second, .unset, .unset, .unset] [(.long ((nC0 i4).toInt64)), (.long (0 : Int64))]
        refine XS.ladd X421.here hx rfl (hb hby at_183) rfl ?_
        show Go p e below t T421 m 184 #[iv i0, iv i1, iv i2, iv i3, .val (.long i4), .second, iv i5, iv (nM i0), iv (nK i1), iv (nB i1), iv (3 : Int32), iv (nC0 i4), iv (nC1 i4), iv (nC2 i5), rv b392, rv b406, iv (f_ad3 i2 i3 (nM i0) (nS i1) (0 : Int32) (nC0 i4) (nC1 i4) (nC2 i5)), iv (own_all (1 : Int32) (nC0 i4) (nM i0)), .val (.long (0 : Int64)), .second, .unset, .unset, .unset] [(.long ((0 : Int64) + ((nC0 i4).toInt64)))]
        refine XS.lstore X421.here hx rfl (hb hby at_184) rfl (l' := #[iv i0, iv i1, iv i2, iv i3, .val (.long i4), .second, iv i5, iv (nM i0), iv (nK i1), iv (nB i1), iv (3 : Int32), iv (nC0 i4), iv (nC1 i4), iv (nC2 i5), rv b392, rv b406, iv (f_ad3 i2 i3 (nM i0) (nS i1) (0 : Int32) (nC0 i4) (nC1 i4) (nC2 i5)), iv (own_all (1 : Int32) (nC0 i4) (nM i0)), .val (.long ((0 : Int64) + ((nC0 i4).toInt64))), .second, .unset, .unset, .unset]) rfl ?_
        show Go p e below t T421 m 186 #[iv i0, iv i1, iv i2, iv i3, .val (.long i4), .second, iv i5, iv (nM i0), iv (nK i1), iv (nB i1), iv (3 : Int32), iv (nC0 i4), iv (nC1 i4), iv (nC2 i5), rv b392, rv b406, iv (f_ad3 i2 i3 (nM i0) (nS i1) (0 : Int32) (nC0 i4) (nC1 i4) (nC2 i5)), iv (own_all (1 : Int32) (nC0 i4) (nM i0)), .val (.long ((0 : Int64) + ((nC0 i4).toInt64))), .second, .unset, .unset, .unset] []
        refine XS.iload X421.here hx rfl (hb hby at_186) rfl ?_
        show Go p e below t T421 m 188 #[iv i0, iv i1, iv i2, iv i3, .val (.long i4), .second, iv i5, iv (nM i0), iv (nK i1), iv (nB i1), iv (3 : Int32), iv (nC0 i4), iv (nC1 i4), iv (nC2 i5), rv b392, rv b406, iv (f_ad3 i2 i3 (nM i0) (nS i1) (0 : Int32) (nC0 i4) (nC1 i4) (nC2 i5)), iv (own_all (1 : Int32) (nC0 i4) (nM i0)), .val (.long ((0 : Int64) + ((nC0 i4).toInt64))), .second, .unset, .unset, .unset] [(.int (3 : Int32))]
        refine XT.iconstV X421.here hx rfl (2 : Int32) (hb hby at_188) (by decide) ?_
        show Go p e below t T421 m 189 #[iv i0, iv i1, iv i2, iv i3, .val (.long i4), .second, iv i5, iv (nM i0), iv (nK i1), iv (nB i1), iv (3 : Int32), iv (nC0 i4), iv (nC1 i4), iv (nC2 i5), rv b392, rv b406, iv (f_ad3 i2 i3 (nM i0) (nS i1) (0 : Int32) (nC0 i4) (nC1 i4) (nC2 i5)), iv (own_all (1 : Int32) (nC0 i4) (nM i0)), .val (.long ((0 : Int64) + ((nC0 i4).toInt64))), .second, .unset, .unset, .unset] [(.int (2 : Int32)), (.int (3 : Int32))]
        refine XS.icmpNo X421.here hx rfl (hb hby at_189) rfl (XT.ii_lt_f (by decide)) ?_
        show Go p e below t T421 m 192 #[iv i0, iv i1, iv i2, iv i3, .val (.long i4), .second, iv i5, iv (nM i0), iv (nK i1), iv (nB i1), iv (3 : Int32), iv (nC0 i4), iv (nC1 i4), iv (nC2 i5), rv b392, rv b406, iv (f_ad3 i2 i3 (nM i0) (nS i1) (0 : Int32) (nC0 i4) (nC1 i4) (nC2 i5)), iv (own_all (1 : Int32) (nC0 i4) (nM i0)), .val (.long ((0 : Int64) + ((nC0 i4).toInt64))), .second, .unset, .unset, .unset] []
        exact k)
      have gf430 : Goes p e below S0 (T421.setTop (mkF m 202 #[iv i0, iv i1, iv i2, iv i3, .val (.long i4), .second, iv i5, iv (nM i0), iv (nK i1), iv (nB i1), iv (3 : Int32), iv (nC0 i4), iv (nC1 i4), iv (nC2 i5), rv b392, rv b406, iv (f_ad3 i2 i3 (nM i0) (nS i1) (0 : Int32) (nC0 i4) (nC1 i4) (nC2 i5)), iv (own_all (own_all (1 : Int32) (nC0 i4) (nM i0)) (nC1 i4) (nM i0)), .val (.long ((0 : Int64) + ((nC0 i4).toInt64))), .second, .unset, .unset, .unset] [])) := by
        have g431 : Goes p e below S0 (T421.setTop (mkF m 196 #[iv i0, iv i1, iv i2, iv i3, .val (.long i4), .second, iv i5, iv (nM i0), iv (nK i1), iv (nB i1), iv (3 : Int32), iv (nC0 i4), iv (nC1 i4), iv (nC2 i5), rv b392, rv b406, iv (f_ad3 i2 i3 (nM i0) (nS i1) (0 : Int32) (nC0 i4) (nC1 i4) (nC2 i5)), iv (own_all (1 : Int32) (nC0 i4) (nM i0)), .val (.long ((0 : Int64) + ((nC0 i4).toInt64))), .second, .unset, .unset, .unset] [(.int (nM i0)), (.int (nC1 i4))])) := fun t k => g429 t (by
          refine XS.iload X421.here hx rfl (hb hby at_192) rfl ?_
          show Go p e below t T421 m 194 #[iv i0, iv i1, iv i2, iv i3, .val (.long i4), .second, iv i5, iv (nM i0), iv (nK i1), iv (nB i1), iv (3 : Int32), iv (nC0 i4), iv (nC1 i4), iv (nC2 i5), rv b392, rv b406, iv (f_ad3 i2 i3 (nM i0) (nS i1) (0 : Int32) (nC0 i4) (nC1 i4) (nC2 i5)), iv (own_all (1 : Int32) (nC0 i4) (nM i0)), .val (.long ((0 : Int64) + ((nC0 i4).toInt64))), .second, .unset, .unset, .unset] [(.int (nC1 i4))]
          refine XS.iload X421.here hx rfl (hb hby at_194) rfl ?_
          show Go p e below t T421 m 196 #[iv i0, iv i1, iv i2, iv i3, .val (.long i4), .second, iv i5, iv (nM i0), iv (nK i1), iv (nB i1), iv (3 : Int32), iv (nC0 i4), iv (nC1 i4), iv (nC2 i5), rv b392, rv b406, iv (f_ad3 i2 i3 (nM i0) (nS i1) (0 : Int32) (nC0 i4) (nC1 i4) (nC2 i5)), iv (own_all (1 : Int32) (nC0 i4) (nM i0)), .val (.long ((0 : Int64) + ((nC0 i4).toInt64))), .second, .unset, .unset, .unset] [(.int (nM i0)), (.int (nC1 i4))]
          exact k)
        by_cases h432 : (nC1 i4) < (nM i0)
        · skip
          have g433 : Goes p e below S0 (T421.setTop (mkF m 202 #[iv i0, iv i1, iv i2, iv i3, .val (.long i4), .second, iv i5, iv (nM i0), iv (nK i1), iv (nB i1), iv (3 : Int32), iv (nC0 i4), iv (nC1 i4), iv (nC2 i5), rv b392, rv b406, iv (f_ad3 i2 i3 (nM i0) (nS i1) (0 : Int32) (nC0 i4) (nC1 i4) (nC2 i5)), iv (0 : Int32), .val (.long ((0 : Int64) + ((nC0 i4).toInt64))), .second, .unset, .unset, .unset] [])) := fun t k => g431 t (by
            refine XS.icmpNo X421.here hx rfl (hb hby at_196) rfl (XT.ii_ge_f h432) ?_
            show Go p e below t T421 m 199 #[iv i0, iv i1, iv i2, iv i3, .val (.long i4), .second, iv i5, iv (nM i0), iv (nK i1), iv (nB i1), iv (3 : Int32), iv (nC0 i4), iv (nC1 i4), iv (nC2 i5), rv b392, rv b406, iv (f_ad3 i2 i3 (nM i0) (nS i1) (0 : Int32) (nC0 i4) (nC1 i4) (nC2 i5)), iv (own_all (1 : Int32) (nC0 i4) (nM i0)), .val (.long ((0 : Int64) + ((nC0 i4).toInt64))), .second, .unset, .unset, .unset] []
            refine XT.iconstV X421.here hx rfl (0 : Int32) (hb hby at_199) (by decide) ?_
            show Go p e below t T421 m 200 #[iv i0, iv i1, iv i2, iv i3, .val (.long i4), .second, iv i5, iv (nM i0), iv (nK i1), iv (nB i1), iv (3 : Int32), iv (nC0 i4), iv (nC1 i4), iv (nC2 i5), rv b392, rv b406, iv (f_ad3 i2 i3 (nM i0) (nS i1) (0 : Int32) (nC0 i4) (nC1 i4) (nC2 i5)), iv (own_all (1 : Int32) (nC0 i4) (nM i0)), .val (.long ((0 : Int64) + ((nC0 i4).toInt64))), .second, .unset, .unset, .unset] [(.int (0 : Int32))]
            refine XS.istore X421.here hx rfl (hb hby at_200) rfl (l' := #[iv i0, iv i1, iv i2, iv i3, .val (.long i4), .second, iv i5, iv (nM i0), iv (nK i1), iv (nB i1), iv (3 : Int32), iv (nC0 i4), iv (nC1 i4), iv (nC2 i5), rv b392, rv b406, iv (f_ad3 i2 i3 (nM i0) (nS i1) (0 : Int32) (nC0 i4) (nC1 i4) (nC2 i5)), iv (0 : Int32), .val (.long ((0 : Int64) + ((nC0 i4).toInt64))), .second, .unset, .unset, .unset]) rfl ?_
            show Go p e below t T421 m 202 #[iv i0, iv i1, iv i2, iv i3, .val (.long i4), .second, iv i5, iv (nM i0), iv (nK i1), iv (nB i1), iv (3 : Int32), iv (nC0 i4), iv (nC1 i4), iv (nC2 i5), rv b392, rv b406, iv (f_ad3 i2 i3 (nM i0) (nS i1) (0 : Int32) (nC0 i4) (nC1 i4) (nC2 i5)), iv (0 : Int32), .val (.long ((0 : Int64) + ((nC0 i4).toInt64))), .second, .unset, .unset, .unset] []
            exact k)
          have e430_0 : (own_all (own_all (1 : Int32) (nC0 i4) (nM i0)) (nC1 i4) (nM i0)) = (0 : Int32) := by first | exact if_pos h432 | (unfold own_all; first | (rw [if_pos h432]; done) | (simp [h432]; done) | (rw [if_pos h432]; decide))
          rw [e430_0]; exact g433
        · skip
          have g434 : Goes p e below S0 (T421.setTop (mkF m 202 #[iv i0, iv i1, iv i2, iv i3, .val (.long i4), .second, iv i5, iv (nM i0), iv (nK i1), iv (nB i1), iv (3 : Int32), iv (nC0 i4), iv (nC1 i4), iv (nC2 i5), rv b392, rv b406, iv (f_ad3 i2 i3 (nM i0) (nS i1) (0 : Int32) (nC0 i4) (nC1 i4) (nC2 i5)), iv (own_all (1 : Int32) (nC0 i4) (nM i0)), .val (.long ((0 : Int64) + ((nC0 i4).toInt64))), .second, .unset, .unset, .unset] [])) := fun t k => g431 t (by
            refine XS.icmpYes X421.here hx rfl (pc0 := 196) (pc' := 202) rfl (hb hby at_196) rfl (XT.ii_ge_t h432) (by decide) (by decide) ?_
            show Go p e below t T421 m 202 #[iv i0, iv i1, iv i2, iv i3, .val (.long i4), .second, iv i5, iv (nM i0), iv (nK i1), iv (nB i1), iv (3 : Int32), iv (nC0 i4), iv (nC1 i4), iv (nC2 i5), rv b392, rv b406, iv (f_ad3 i2 i3 (nM i0) (nS i1) (0 : Int32) (nC0 i4) (nC1 i4) (nC2 i5)), iv (own_all (1 : Int32) (nC0 i4) (nM i0)), .val (.long ((0 : Int64) + ((nC0 i4).toInt64))), .second, .unset, .unset, .unset] []
            exact k)
          have e430_0 : (own_all (own_all (1 : Int32) (nC0 i4) (nM i0)) (nC1 i4) (nM i0)) = (own_all (1 : Int32) (nC0 i4) (nM i0)) := by first | exact if_neg h432 | (unfold own_all; first | (rw [if_neg h432]; done) | (simp [h432]; done) | (rw [if_neg h432]; decide))
          rw [e430_0]; exact g434
      have g435 : Goes p e below S0 (T421.setTop (mkF m 216 #[iv i0, iv i1, iv i2, iv i3, .val (.long i4), .second, iv i5, iv (nM i0), iv (nK i1), iv (nB i1), iv (3 : Int32), iv (nC0 i4), iv (nC1 i4), iv (nC2 i5), rv b392, rv b406, iv (f_ad3 i2 i3 (nM i0) (nS i1) (0 : Int32) (nC0 i4) (nC1 i4) (nC2 i5)), iv (own_all (own_all (1 : Int32) (nC0 i4) (nM i0)) (nC1 i4) (nM i0)), .val (.long (((0 : Int64) + ((nC0 i4).toInt64)) + ((nC1 i4).toInt64))), .second, .unset, .unset, .unset] [])) := fun t k => gf430 t (by
        refine XS.lload X421.here hx rfl (hb hby at_202) rfl ?_
        show Go p e below t T421 m 204 #[iv i0, iv i1, iv i2, iv i3, .val (.long i4), .second, iv i5, iv (nM i0), iv (nK i1), iv (nB i1), iv (3 : Int32), iv (nC0 i4), iv (nC1 i4), iv (nC2 i5), rv b392, rv b406, iv (f_ad3 i2 i3 (nM i0) (nS i1) (0 : Int32) (nC0 i4) (nC1 i4) (nC2 i5)), iv (own_all (own_all (1 : Int32) (nC0 i4) (nM i0)) (nC1 i4) (nM i0)), .val (.long ((0 : Int64) + ((nC0 i4).toInt64))), .second, .unset, .unset, .unset] [(.long ((0 : Int64) + ((nC0 i4).toInt64)))]
        refine XS.iload X421.here hx rfl (hb hby at_204) rfl ?_
        show Go p e below t T421 m 206 #[iv i0, iv i1, iv i2, iv i3, .val (.long i4), .second, iv i5, iv (nM i0), iv (nK i1), iv (nB i1), iv (3 : Int32), iv (nC0 i4), iv (nC1 i4), iv (nC2 i5), rv b392, rv b406, iv (f_ad3 i2 i3 (nM i0) (nS i1) (0 : Int32) (nC0 i4) (nC1 i4) (nC2 i5)), iv (own_all (own_all (1 : Int32) (nC0 i4) (nM i0)) (nC1 i4) (nM i0)), .val (.long ((0 : Int64) + ((nC0 i4).toInt64))), .second, .unset, .unset, .unset] [(.int (nC1 i4)), (.long ((0 : Int64) + ((nC0 i4).toInt64)))]
        refine XS.i2l X421.here hx rfl (hb hby at_206) rfl ?_
        show Go p e below t T421 m 207 #[iv i0, iv i1, iv i2, iv i3, .val (.long i4), .second, iv i5, iv (nM i0), iv (nK i1), iv (nB i1), iv (3 : Int32), iv (nC0 i4), iv (nC1 i4), iv (nC2 i5), rv b392, rv b406, iv (f_ad3 i2 i3 (nM i0) (nS i1) (0 : Int32) (nC0 i4) (nC1 i4) (nC2 i5)), iv (own_all (own_all (1 : Int32) (nC0 i4) (nM i0)) (nC1 i4) (nM i0)), .val (.long ((0 : Int64) + ((nC0 i4).toInt64))), .second, .unset, .unset, .unset] [(.long ((nC1 i4).toInt64)), (.long ((0 : Int64) + ((nC0 i4).toInt64)))]
        refine XS.ladd X421.here hx rfl (hb hby at_207) rfl ?_
        show Go p e below t T421 m 208 #[iv i0, iv i1, iv i2, iv i3, .val (.long i4), .second, iv i5, iv (nM i0), iv (nK i1), iv (nB i1), iv (3 : Int32), iv (nC0 i4), iv (nC1 i4), iv (nC2 i5), rv b392, rv b406, iv (f_ad3 i2 i3 (nM i0) (nS i1) (0 : Int32) (nC0 i4) (nC1 i4) (nC2 i5)), iv (own_all (own_all (1 : Int32) (nC0 i4) (nM i0)) (nC1 i4) (nM i0)), .val (.long ((0 : Int64) + ((nC0 i4).toInt64))), .second, .unset, .unset, .unset] [(.long (((0 : Int64) + ((nC0 i4).toInt64)) + ((nC1 i4).toInt64)))]
        refine XS.lstore X421.here hx rfl (hb hby at_208) rfl (l' := #[iv i0, iv i1, iv i2, iv i3, .val (.long i4), .second, iv i5, iv (nM i0), iv (nK i1), iv (nB i1), iv (3 : Int32), iv (nC0 i4), iv (nC1 i4), iv (nC2 i5), rv b392, rv b406, iv (f_ad3 i2 i3 (nM i0) (nS i1) (0 : Int32) (nC0 i4) (nC1 i4) (nC2 i5)), iv (own_all (own_all (1 : Int32) (nC0 i4) (nM i0)) (nC1 i4) (nM i0)), .val (.long (((0 : Int64) + ((nC0 i4).toInt64)) + ((nC1 i4).toInt64))), .second, .unset, .unset, .unset]) rfl ?_
        show Go p e below t T421 m 210 #[iv i0, iv i1, iv i2, iv i3, .val (.long i4), .second, iv i5, iv (nM i0), iv (nK i1), iv (nB i1), iv (3 : Int32), iv (nC0 i4), iv (nC1 i4), iv (nC2 i5), rv b392, rv b406, iv (f_ad3 i2 i3 (nM i0) (nS i1) (0 : Int32) (nC0 i4) (nC1 i4) (nC2 i5)), iv (own_all (own_all (1 : Int32) (nC0 i4) (nM i0)) (nC1 i4) (nM i0)), .val (.long (((0 : Int64) + ((nC0 i4).toInt64)) + ((nC1 i4).toInt64))), .second, .unset, .unset, .unset] []
        refine XS.iload X421.here hx rfl (hb hby at_210) rfl ?_
        show Go p e below t T421 m 212 #[iv i0, iv i1, iv i2, iv i3, .val (.long i4), .second, iv i5, iv (nM i0), iv (nK i1), iv (nB i1), iv (3 : Int32), iv (nC0 i4), iv (nC1 i4), iv (nC2 i5), rv b392, rv b406, iv (f_ad3 i2 i3 (nM i0) (nS i1) (0 : Int32) (nC0 i4) (nC1 i4) (nC2 i5)), iv (own_all (own_all (1 : Int32) (nC0 i4) (nM i0)) (nC1 i4) (nM i0)), .val (.long (((0 : Int64) + ((nC0 i4).toInt64)) + ((nC1 i4).toInt64))), .second, .unset, .unset, .unset] [(.int (3 : Int32))]
        refine XT.iconstV X421.here hx rfl (3 : Int32) (hb hby at_212) (by decide) ?_
        show Go p e below t T421 m 213 #[iv i0, iv i1, iv i2, iv i3, .val (.long i4), .second, iv i5, iv (nM i0), iv (nK i1), iv (nB i1), iv (3 : Int32), iv (nC0 i4), iv (nC1 i4), iv (nC2 i5), rv b392, rv b406, iv (f_ad3 i2 i3 (nM i0) (nS i1) (0 : Int32) (nC0 i4) (nC1 i4) (nC2 i5)), iv (own_all (own_all (1 : Int32) (nC0 i4) (nM i0)) (nC1 i4) (nM i0)), .val (.long (((0 : Int64) + ((nC0 i4).toInt64)) + ((nC1 i4).toInt64))), .second, .unset, .unset, .unset] [(.int (3 : Int32)), (.int (3 : Int32))]
        refine XS.icmpNo X421.here hx rfl (hb hby at_213) rfl (XT.ii_lt_f (by decide)) ?_
        show Go p e below t T421 m 216 #[iv i0, iv i1, iv i2, iv i3, .val (.long i4), .second, iv i5, iv (nM i0), iv (nK i1), iv (nB i1), iv (3 : Int32), iv (nC0 i4), iv (nC1 i4), iv (nC2 i5), rv b392, rv b406, iv (f_ad3 i2 i3 (nM i0) (nS i1) (0 : Int32) (nC0 i4) (nC1 i4) (nC2 i5)), iv (own_all (own_all (1 : Int32) (nC0 i4) (nM i0)) (nC1 i4) (nM i0)), .val (.long (((0 : Int64) + ((nC0 i4).toInt64)) + ((nC1 i4).toInt64))), .second, .unset, .unset, .unset] []
        exact k)
      have gf436 : Goes p e below S0 (T421.setTop (mkF m 226 #[iv i0, iv i1, iv i2, iv i3, .val (.long i4), .second, iv i5, iv (nM i0), iv (nK i1), iv (nB i1), iv (3 : Int32), iv (nC0 i4), iv (nC1 i4), iv (nC2 i5), rv b392, rv b406, iv (f_ad3 i2 i3 (nM i0) (nS i1) (0 : Int32) (nC0 i4) (nC1 i4) (nC2 i5)), iv (own_all (own_all (own_all (1 : Int32) (nC0 i4) (nM i0)) (nC1 i4) (nM i0)) (nC2 i5) (nM i0)), .val (.long (((0 : Int64) + ((nC0 i4).toInt64)) + ((nC1 i4).toInt64))), .second, .unset, .unset, .unset] [])) := by
        have g437 : Goes p e below S0 (T421.setTop (mkF m 220 #[iv i0, iv i1, iv i2, iv i3, .val (.long i4), .second, iv i5, iv (nM i0), iv (nK i1), iv (nB i1), iv (3 : Int32), iv (nC0 i4), iv (nC1 i4), iv (nC2 i5), rv b392, rv b406, iv (f_ad3 i2 i3 (nM i0) (nS i1) (0 : Int32) (nC0 i4) (nC1 i4) (nC2 i5)), iv (own_all (own_all (1 : Int32) (nC0 i4) (nM i0)) (nC1 i4) (nM i0)), .val (.long (((0 : Int64) + ((nC0 i4).toInt64)) + ((nC1 i4).toInt64))), .second, .unset, .unset, .unset] [(.int (nM i0)), (.int (nC2 i5))])) := fun t k => g435 t (by
          refine XS.iload X421.here hx rfl (hb hby at_216) rfl ?_
          show Go p e below t T421 m 218 #[iv i0, iv i1, iv i2, iv i3, .val (.long i4), .second, iv i5, iv (nM i0), iv (nK i1), iv (nB i1), iv (3 : Int32), iv (nC0 i4), iv (nC1 i4), iv (nC2 i5), rv b392, rv b406, iv (f_ad3 i2 i3 (nM i0) (nS i1) (0 : Int32) (nC0 i4) (nC1 i4) (nC2 i5)), iv (own_all (own_all (1 : Int32) (nC0 i4) (nM i0)) (nC1 i4) (nM i0)), .val (.long (((0 : Int64) + ((nC0 i4).toInt64)) + ((nC1 i4).toInt64))), .second, .unset, .unset, .unset] [(.int (nC2 i5))]
          refine XS.iload X421.here hx rfl (hb hby at_218) rfl ?_
          show Go p e below t T421 m 220 #[iv i0, iv i1, iv i2, iv i3, .val (.long i4), .second, iv i5, iv (nM i0), iv (nK i1), iv (nB i1), iv (3 : Int32), iv (nC0 i4), iv (nC1 i4), iv (nC2 i5), rv b392, rv b406, iv (f_ad3 i2 i3 (nM i0) (nS i1) (0 : Int32) (nC0 i4) (nC1 i4) (nC2 i5)), iv (own_all (own_all (1 : Int32) (nC0 i4) (nM i0)) (nC1 i4) (nM i0)), .val (.long (((0 : Int64) + ((nC0 i4).toInt64)) + ((nC1 i4).toInt64))), .second, .unset, .unset, .unset] [(.int (nM i0)), (.int (nC2 i5))]
          exact k)
        by_cases h438 : (nC2 i5) < (nM i0)
        · skip
          have g439 : Goes p e below S0 (T421.setTop (mkF m 226 #[iv i0, iv i1, iv i2, iv i3, .val (.long i4), .second, iv i5, iv (nM i0), iv (nK i1), iv (nB i1), iv (3 : Int32), iv (nC0 i4), iv (nC1 i4), iv (nC2 i5), rv b392, rv b406, iv (f_ad3 i2 i3 (nM i0) (nS i1) (0 : Int32) (nC0 i4) (nC1 i4) (nC2 i5)), iv (0 : Int32), .val (.long (((0 : Int64) + ((nC0 i4).toInt64)) + ((nC1 i4).toInt64))), .second, .unset, .unset, .unset] [])) := fun t k => g437 t (by
            refine XS.icmpNo X421.here hx rfl (hb hby at_220) rfl (XT.ii_ge_f h438) ?_
            show Go p e below t T421 m 223 #[iv i0, iv i1, iv i2, iv i3, .val (.long i4), .second, iv i5, iv (nM i0), iv (nK i1), iv (nB i1), iv (3 : Int32), iv (nC0 i4), iv (nC1 i4), iv (nC2 i5), rv b392, rv b406, iv (f_ad3 i2 i3 (nM i0) (nS i1) (0 : Int32) (nC0 i4) (nC1 i4) (nC2 i5)), iv (own_all (own_all (1 : Int32) (nC0 i4) (nM i0)) (nC1 i4) (nM i0)), .val (.long (((0 : Int64) + ((nC0 i4).toInt64)) + ((nC1 i4).toInt64))), .second, .unset, .unset, .unset] []
            refine XT.iconstV X421.here hx rfl (0 : Int32) (hb hby at_223) (by decide) ?_
            show Go p e below t T421 m 224 #[iv i0, iv i1, iv i2, iv i3, .val (.long i4), .second, iv i5, iv (nM i0), iv (nK i1), iv (nB i1), iv (3 : Int32), iv (nC0 i4), iv (nC1 i4), iv (nC2 i5), rv b392, rv b406, iv (f_ad3 i2 i3 (nM i0) (nS i1) (0 : Int32) (nC0 i4) (nC1 i4) (nC2 i5)), iv (own_all (own_all (1 : Int32) (nC0 i4) (nM i0)) (nC1 i4) (nM i0)), .val (.long (((0 : Int64) + ((nC0 i4).toInt64)) + ((nC1 i4).toInt64))), .second, .unset, .unset, .unset] [(.int (0 : Int32))]
            refine XS.istore X421.here hx rfl (hb hby at_224) rfl (l' := #[iv i0, iv i1, iv i2, iv i3, .val (.long i4), .second, iv i5, iv (nM i0), iv (nK i1), iv (nB i1), iv (3 : Int32), iv (nC0 i4), iv (nC1 i4), iv (nC2 i5), rv b392, rv b406, iv (f_ad3 i2 i3 (nM i0) (nS i1) (0 : Int32) (nC0 i4) (nC1 i4) (nC2 i5)), iv (0 : Int32), .val (.long (((0 : Int64) + ((nC0 i4).toInt64)) + ((nC1 i4).toInt64))), .second, .unset, .unset, .unset]) rfl ?_
            show Go p e below t T421 m 226 #[iv i0, iv i1, iv i2, iv i3, .val (.long i4), .second, iv i5, iv (nM i0), iv (nK i1), iv (nB i1), iv (3 : Int32), iv (nC0 i4), iv (nC1 i4), iv (nC2 i5), rv b392, rv b406, iv (f_ad3 i2 i3 (nM i0) (nS i1) (0 : Int32) (nC0 i4) (nC1 i4) (nC2 i5)), iv (0 : Int32), .val (.long (((0 : Int64) + ((nC0 i4).toInt64)) + ((nC1 i4).toInt64))), .second, .unset, .unset, .unset] []
            exact k)
          have e436_0 : (own_all (own_all (own_all (1 : Int32) (nC0 i4) (nM i0)) (nC1 i4) (nM i0)) (nC2 i5) (nM i0)) = (0 : Int32) := by first | exact if_pos h438 | (unfold own_all; first | (rw [if_pos h438]; done) | (simp [h438]; done) | (rw [if_pos h438]; decide))
          rw [e436_0]; exact g439
        · skip
          have g440 : Goes p e below S0 (T421.setTop (mkF m 226 #[iv i0, iv i1, iv i2, iv i3, .val (.long i4), .second, iv i5, iv (nM i0), iv (nK i1), iv (nB i1), iv (3 : Int32), iv (nC0 i4), iv (nC1 i4), iv (nC2 i5), rv b392, rv b406, iv (f_ad3 i2 i3 (nM i0) (nS i1) (0 : Int32) (nC0 i4) (nC1 i4) (nC2 i5)), iv (own_all (own_all (1 : Int32) (nC0 i4) (nM i0)) (nC1 i4) (nM i0)), .val (.long (((0 : Int64) + ((nC0 i4).toInt64)) + ((nC1 i4).toInt64))), .second, .unset, .unset, .unset] [])) := fun t k => g437 t (by
            refine XS.icmpYes X421.here hx rfl (pc0 := 220) (pc' := 226) rfl (hb hby at_220) rfl (XT.ii_ge_t h438) (by decide) (by decide) ?_
            show Go p e below t T421 m 226 #[iv i0, iv i1, iv i2, iv i3, .val (.long i4), .second, iv i5, iv (nM i0), iv (nK i1), iv (nB i1), iv (3 : Int32), iv (nC0 i4), iv (nC1 i4), iv (nC2 i5), rv b392, rv b406, iv (f_ad3 i2 i3 (nM i0) (nS i1) (0 : Int32) (nC0 i4) (nC1 i4) (nC2 i5)), iv (own_all (own_all (1 : Int32) (nC0 i4) (nM i0)) (nC1 i4) (nM i0)), .val (.long (((0 : Int64) + ((nC0 i4).toInt64)) + ((nC1 i4).toInt64))), .second, .unset, .unset, .unset] []
            exact k)
          have e436_0 : (own_all (own_all (own_all (1 : Int32) (nC0 i4) (nM i0)) (nC1 i4) (nM i0)) (nC2 i5) (nM i0)) = (own_all (own_all (1 : Int32) (nC0 i4) (nM i0)) (nC1 i4) (nM i0)) := by first | exact if_neg h438 | (unfold own_all; first | (rw [if_neg h438]; done) | (simp [h438]; done) | (rw [if_neg h438]; decide))
          rw [e436_0]; exact g440
      have g441 : Goes p e below S0 (T421.setTop (mkF m 248 #[iv i0, iv i1, iv i2, iv i3, .val (.long i4), .second, iv i5, iv (nM i0), iv (nK i1), iv (nB i1), iv (3 : Int32), iv (nC0 i4), iv (nC1 i4), iv (nC2 i5), rv b392, rv b406, iv (f_ad3 i2 i3 (nM i0) (nS i1) (0 : Int32) (nC0 i4) (nC1 i4) (nC2 i5)), iv (own_all (own_all (own_all (1 : Int32) (nC0 i4) (nM i0)) (nC1 i4) (nM i0)) (nC2 i5) (nM i0)), .val (.long ((((0 : Int64) + ((nC0 i4).toInt64)) + ((nC1 i4).toInt64)) + ((nC2 i5).toInt64))), .second, .val (.long ((i3).toInt64)), .second, .unset] [])) := fun t k => gf436 t (by
        refine XS.lload X421.here hx rfl (hb hby at_226) rfl ?_
        show Go p e below t T421 m 228 #[iv i0, iv i1, iv i2, iv i3, .val (.long i4), .second, iv i5, iv (nM i0), iv (nK i1), iv (nB i1), iv (3 : Int32), iv (nC0 i4), iv (nC1 i4), iv (nC2 i5), rv b392, rv b406, iv (f_ad3 i2 i3 (nM i0) (nS i1) (0 : Int32) (nC0 i4) (nC1 i4) (nC2 i5)), iv (own_all (own_all (own_all (1 : Int32) (nC0 i4) (nM i0)) (nC1 i4) (nM i0)) (nC2 i5) (nM i0)), .val (.long (((0 : Int64) + ((nC0 i4).toInt64)) + ((nC1 i4).toInt64))), .second, .unset, .unset, .unset] [(.long (((0 : Int64) + ((nC0 i4).toInt64)) + ((nC1 i4).toInt64)))]
        refine XS.iload X421.here hx rfl (hb hby at_228) rfl ?_
        show Go p e below t T421 m 230 #[iv i0, iv i1, iv i2, iv i3, .val (.long i4), .second, iv i5, iv (nM i0), iv (nK i1), iv (nB i1), iv (3 : Int32), iv (nC0 i4), iv (nC1 i4), iv (nC2 i5), rv b392, rv b406, iv (f_ad3 i2 i3 (nM i0) (nS i1) (0 : Int32) (nC0 i4) (nC1 i4) (nC2 i5)), iv (own_all (own_all (own_all (1 : Int32) (nC0 i4) (nM i0)) (nC1 i4) (nM i0)) (nC2 i5) (nM i0)), .val (.long (((0 : Int64) + ((nC0 i4).toInt64)) + ((nC1 i4).toInt64))), .second, .unset, .unset, .unset] [(.int (nC2 i5)), (.long (((0 : Int64) + ((nC0 i4).toInt64)) + ((nC1 i4).toInt64)))]
        refine XS.i2l X421.here hx rfl (hb hby at_230) rfl ?_
        show Go p e below t T421 m 231 #[iv i0, iv i1, iv i2, iv i3, .val (.long i4), .second, iv i5, iv (nM i0), iv (nK i1), iv (nB i1), iv (3 : Int32), iv (nC0 i4), iv (nC1 i4), iv (nC2 i5), rv b392, rv b406, iv (f_ad3 i2 i3 (nM i0) (nS i1) (0 : Int32) (nC0 i4) (nC1 i4) (nC2 i5)), iv (own_all (own_all (own_all (1 : Int32) (nC0 i4) (nM i0)) (nC1 i4) (nM i0)) (nC2 i5) (nM i0)), .val (.long (((0 : Int64) + ((nC0 i4).toInt64)) + ((nC1 i4).toInt64))), .second, .unset, .unset, .unset] [(.long ((nC2 i5).toInt64)), (.long (((0 : Int64) + ((nC0 i4).toInt64)) + ((nC1 i4).toInt64)))]
        refine XS.ladd X421.here hx rfl (hb hby at_231) rfl ?_
        show Go p e below t T421 m 232 #[iv i0, iv i1, iv i2, iv i3, .val (.long i4), .second, iv i5, iv (nM i0), iv (nK i1), iv (nB i1), iv (3 : Int32), iv (nC0 i4), iv (nC1 i4), iv (nC2 i5), rv b392, rv b406, iv (f_ad3 i2 i3 (nM i0) (nS i1) (0 : Int32) (nC0 i4) (nC1 i4) (nC2 i5)), iv (own_all (own_all (own_all (1 : Int32) (nC0 i4) (nM i0)) (nC1 i4) (nM i0)) (nC2 i5) (nM i0)), .val (.long (((0 : Int64) + ((nC0 i4).toInt64)) + ((nC1 i4).toInt64))), .second, .unset, .unset, .unset] [(.long ((((0 : Int64) + ((nC0 i4).toInt64)) + ((nC1 i4).toInt64)) + ((nC2 i5).toInt64)))]
        refine XS.lstore X421.here hx rfl (hb hby at_232) rfl (l' := #[iv i0, iv i1, iv i2, iv i3, .val (.long i4), .second, iv i5, iv (nM i0), iv (nK i1), iv (nB i1), iv (3 : Int32), iv (nC0 i4), iv (nC1 i4), iv (nC2 i5), rv b392, rv b406, iv (f_ad3 i2 i3 (nM i0) (nS i1) (0 : Int32) (nC0 i4) (nC1 i4) (nC2 i5)), iv (own_all (own_all (own_all (1 : Int32) (nC0 i4) (nM i0)) (nC1 i4) (nM i0)) (nC2 i5) (nM i0)), .val (.long ((((0 : Int64) + ((nC0 i4).toInt64)) + ((nC1 i4).toInt64)) + ((nC2 i5).toInt64))), .second, .unset, .unset, .unset]) rfl ?_
        show Go p e below t T421 m 234 #[iv i0, iv i1, iv i2, iv i3, .val (.long i4), .second, iv i5, iv (nM i0), iv (nK i1), iv (nB i1), iv (3 : Int32), iv (nC0 i4), iv (nC1 i4), iv (nC2 i5), rv b392, rv b406, iv (f_ad3 i2 i3 (nM i0) (nS i1) (0 : Int32) (nC0 i4) (nC1 i4) (nC2 i5)), iv (own_all (own_all (own_all (1 : Int32) (nC0 i4) (nM i0)) (nC1 i4) (nM i0)) (nC2 i5) (nM i0)), .val (.long ((((0 : Int64) + ((nC0 i4).toInt64)) + ((nC1 i4).toInt64)) + ((nC2 i5).toInt64))), .second, .unset, .unset, .unset] []
        refine XS.iload X421.here hx rfl (hb hby at_234) rfl ?_
        show Go p e below t T421 m 236 #[iv i0, iv i1, iv i2, iv i3, .val (.long i4), .second, iv i5, iv (nM i0), iv (nK i1), iv (nB i1), iv (3 : Int32), iv (nC0 i4), iv (nC1 i4), iv (nC2 i5), rv b392, rv b406, iv (f_ad3 i2 i3 (nM i0) (nS i1) (0 : Int32) (nC0 i4) (nC1 i4) (nC2 i5)), iv (own_all (own_all (own_all (1 : Int32) (nC0 i4) (nM i0)) (nC1 i4) (nM i0)) (nC2 i5) (nM i0)), .val (.long ((((0 : Int64) + ((nC0 i4).toInt64)) + ((nC1 i4).toInt64)) + ((nC2 i5).toInt64))), .second, .unset, .unset, .unset] [(.int (nB i1))]
        refine XS.ifYes X421.here hx rfl (pc0 := 236) (pc' := 244) rfl (hb hby at_236) rfl (XT.i0_eq_t h419) (by decide) (by decide) ?_
        show Go p e below t T421 m 244 #[iv i0, iv i1, iv i2, iv i3, .val (.long i4), .second, iv i5, iv (nM i0), iv (nK i1), iv (nB i1), iv (3 : Int32), iv (nC0 i4), iv (nC1 i4), iv (nC2 i5), rv b392, rv b406, iv (f_ad3 i2 i3 (nM i0) (nS i1) (0 : Int32) (nC0 i4) (nC1 i4) (nC2 i5)), iv (own_all (own_all (own_all (1 : Int32) (nC0 i4) (nM i0)) (nC1 i4) (nM i0)) (nC2 i5) (nM i0)), .val (.long ((((0 : Int64) + ((nC0 i4).toInt64)) + ((nC1 i4).toInt64)) + ((nC2 i5).toInt64))), .second, .unset, .unset, .unset] []
        refine XS.iloadN X421.here hx rfl (hb hby at_244) rfl ?_
        show Go p e below t T421 m 245 #[iv i0, iv i1, iv i2, iv i3, .val (.long i4), .second, iv i5, iv (nM i0), iv (nK i1), iv (nB i1), iv (3 : Int32), iv (nC0 i4), iv (nC1 i4), iv (nC2 i5), rv b392, rv b406, iv (f_ad3 i2 i3 (nM i0) (nS i1) (0 : Int32) (nC0 i4) (nC1 i4) (nC2 i5)), iv (own_all (own_all (own_all (1 : Int32) (nC0 i4) (nM i0)) (nC1 i4) (nM i0)) (nC2 i5) (nM i0)), .val (.long ((((0 : Int64) + ((nC0 i4).toInt64)) + ((nC1 i4).toInt64)) + ((nC2 i5).toInt64))), .second, .unset, .unset, .unset] [(.int i3)]
        refine XS.i2l X421.here hx rfl (hb hby at_245) rfl ?_
        show Go p e below t T421 m 246 #[iv i0, iv i1, iv i2, iv i3, .val (.long i4), .second, iv i5, iv (nM i0), iv (nK i1), iv (nB i1), iv (3 : Int32), iv (nC0 i4), iv (nC1 i4), iv (nC2 i5), rv b392, rv b406, iv (f_ad3 i2 i3 (nM i0) (nS i1) (0 : Int32) (nC0 i4) (nC1 i4) (nC2 i5)), iv (own_all (own_all (own_all (1 : Int32) (nC0 i4) (nM i0)) (nC1 i4) (nM i0)) (nC2 i5) (nM i0)), .val (.long ((((0 : Int64) + ((nC0 i4).toInt64)) + ((nC1 i4).toInt64)) + ((nC2 i5).toInt64))), .second, .unset, .unset, .unset] [(.long ((i3).toInt64))]
        refine XS.lstore X421.here hx rfl (hb hby at_246) rfl (l' := #[iv i0, iv i1, iv i2, iv i3, .val (.long i4), .second, iv i5, iv (nM i0), iv (nK i1), iv (nB i1), iv (3 : Int32), iv (nC0 i4), iv (nC1 i4), iv (nC2 i5), rv b392, rv b406, iv (f_ad3 i2 i3 (nM i0) (nS i1) (0 : Int32) (nC0 i4) (nC1 i4) (nC2 i5)), iv (own_all (own_all (own_all (1 : Int32) (nC0 i4) (nM i0)) (nC1 i4) (nM i0)) (nC2 i5) (nM i0)), .val (.long ((((0 : Int64) + ((nC0 i4).toInt64)) + ((nC1 i4).toInt64)) + ((nC2 i5).toInt64))), .second, .val (.long ((i3).toInt64)), .second, .unset]) rfl ?_
        show Go p e below t T421 m 248 #[iv i0, iv i1, iv i2, iv i3, .val (.long i4), .second, iv i5, iv (nM i0), iv (nK i1), iv (nB i1), iv (3 : Int32), iv (nC0 i4), iv (nC1 i4), iv (nC2 i5), rv b392, rv b406, iv (f_ad3 i2 i3 (nM i0) (nS i1) (0 : Int32) (nC0 i4) (nC1 i4) (nC2 i5)), iv (own_all (own_all (own_all (1 : Int32) (nC0 i4) (nM i0)) (nC1 i4) (nM i0)) (nC2 i5) (nM i0)), .val (.long ((((0 : Int64) + ((nC0 i4).toInt64)) + ((nC1 i4).toInt64)) + ((nC2 i5).toInt64))), .second, .val (.long ((i3).toInt64)), .second, .unset] []
        exact k)
      have gf442 : Goes p e below S0 (T421.setTop (mkF m 274 #[iv i0, iv i1, iv i2, iv i3, .val (.long i4), .second, iv i5, iv (nM i0), iv (nK i1), iv (nB i1), iv (3 : Int32), iv (nC0 i4), iv (nC1 i4), iv (nC2 i5), rv b392, rv b406, iv (f_ad3 i2 i3 (nM i0) (nS i1) (0 : Int32) (nC0 i4) (nC1 i4) (nC2 i5)), iv (own_all (own_all (own_all (1 : Int32) (nC0 i4) (nM i0)) (nC1 i4) (nM i0)) (nC2 i5) (nM i0)), .val (.long ((((0 : Int64) + ((nC0 i4).toInt64)) + ((nC1 i4).toInt64)) + ((nC2 i5).toInt64))), .second, .val (.long ((i3).toInt64)), .second, .unset] [(.int (own_fin (own_all (own_all (own_all (1 : Int32) (nC0 i4) (nM i0)) (nC1 i4) (nM i0)) (nC2 i5) (nM i0)) ((((0 : Int64) + ((nC0 i4).toInt64)) + ((nC1 i4).toInt64)) + ((nC2 i5).toInt64)) (nK i1) ((i3).toInt64)))])) := by
        have g443 : Goes p e below S0 (T421.setTop (mkF m 250 #[iv i0, iv i1, iv i2, iv i3, .val (.long i4), .second, iv i5, iv (nM i0), iv (nK i1), iv (nB i1), iv (3 : Int32), iv (nC0 i4), iv (nC1 i4), iv (nC2 i5), rv b392, rv b406, iv (f_ad3 i2 i3 (nM i0) (nS i1) (0 : Int32) (nC0 i4) (nC1 i4) (nC2 i5)), iv (own_all (own_all (own_all (1 : Int32) (nC0 i4) (nM i0)) (nC1 i4) (nM i0)) (nC2 i5) (nM i0)), .val (.long ((((0 : Int64) + ((nC0 i4).toInt64)) + ((nC1 i4).toInt64)) + ((nC2 i5).toInt64))), .second, .val (.long ((i3).toInt64)), .second, .unset] [(.int (own_all (own_all (own_all (1 : Int32) (nC0 i4) (nM i0)) (nC1 i4) (nM i0)) (nC2 i5) (nM i0)))])) := fun t k => g441 t (by
          refine XS.iload X421.here hx rfl (hb hby at_248) rfl ?_
          show Go p e below t T421 m 250 #[iv i0, iv i1, iv i2, iv i3, .val (.long i4), .second, iv i5, iv (nM i0), iv (nK i1), iv (nB i1), iv (3 : Int32), iv (nC0 i4), iv (nC1 i4), iv (nC2 i5), rv b392, rv b406, iv (f_ad3 i2 i3 (nM i0) (nS i1) (0 : Int32) (nC0 i4) (nC1 i4) (nC2 i5)), iv (own_all (own_all (own_all (1 : Int32) (nC0 i4) (nM i0)) (nC1 i4) (nM i0)) (nC2 i5) (nM i0)), .val (.long ((((0 : Int64) + ((nC0 i4).toInt64)) + ((nC1 i4).toInt64)) + ((nC2 i5).toInt64))), .second, .val (.long ((i3).toInt64)), .second, .unset] [(.int (own_all (own_all (own_all (1 : Int32) (nC0 i4) (nM i0)) (nC1 i4) (nM i0)) (nC2 i5) (nM i0)))]
          exact k)
        by_cases h444 : (own_all (own_all (own_all (1 : Int32) (nC0 i4) (nM i0)) (nC1 i4) (nM i0)) (nC2 i5) (nM i0)) = 0
        · skip
          have g445 : Goes p e below S0 (T421.setTop (mkF m 274 #[iv i0, iv i1, iv i2, iv i3, .val (.long i4), .second, iv i5, iv (nM i0), iv (nK i1), iv (nB i1), iv (3 : Int32), iv (nC0 i4), iv (nC1 i4), iv (nC2 i5), rv b392, rv b406, iv (f_ad3 i2 i3 (nM i0) (nS i1) (0 : Int32) (nC0 i4) (nC1 i4) (nC2 i5)), iv (own_all (own_all (own_all (1 : Int32) (nC0 i4) (nM i0)) (nC1 i4) (nM i0)) (nC2 i5) (nM i0)), .val (.long ((((0 : Int64) + ((nC0 i4).toInt64)) + ((nC1 i4).toInt64)) + ((nC2 i5).toInt64))), .second, .val (.long ((i3).toInt64)), .second, .unset] [(.int (0 : Int32))])) := fun t k => g443 t (by
            refine XS.ifYes X421.here hx rfl (pc0 := 250) (pc' := 273) rfl (hb hby at_250) rfl (XT.i0_eq_t h444) (by decide) (by decide) ?_
            show Go p e below t T421 m 273 #[iv i0, iv i1, iv i2, iv i3, .val (.long i4), .second, iv i5, iv (nM i0), iv (nK i1), iv (nB i1), iv (3 : Int32), iv (nC0 i4), iv (nC1 i4), iv (nC2 i5), rv b392, rv b406, iv (f_ad3 i2 i3 (nM i0) (nS i1) (0 : Int32) (nC0 i4) (nC1 i4) (nC2 i5)), iv (own_all (own_all (own_all (1 : Int32) (nC0 i4) (nM i0)) (nC1 i4) (nM i0)) (nC2 i5) (nM i0)), .val (.long ((((0 : Int64) + ((nC0 i4).toInt64)) + ((nC1 i4).toInt64)) + ((nC2 i5).toInt64))), .second, .val (.long ((i3).toInt64)), .second, .unset] []
            refine XT.iconstV X421.here hx rfl (0 : Int32) (hb hby at_273) (by decide) ?_
            show Go p e below t T421 m 274 #[iv i0, iv i1, iv i2, iv i3, .val (.long i4), .second, iv i5, iv (nM i0), iv (nK i1), iv (nB i1), iv (3 : Int32), iv (nC0 i4), iv (nC1 i4), iv (nC2 i5), rv b392, rv b406, iv (f_ad3 i2 i3 (nM i0) (nS i1) (0 : Int32) (nC0 i4) (nC1 i4) (nC2 i5)), iv (own_all (own_all (own_all (1 : Int32) (nC0 i4) (nM i0)) (nC1 i4) (nM i0)) (nC2 i5) (nM i0)), .val (.long ((((0 : Int64) + ((nC0 i4).toInt64)) + ((nC1 i4).toInt64)) + ((nC2 i5).toInt64))), .second, .val (.long ((i3).toInt64)), .second, .unset] [(.int (0 : Int32))]
            exact k)
          have e442_0 : (own_fin (own_all (own_all (own_all (1 : Int32) (nC0 i4) (nM i0)) (nC1 i4) (nM i0)) (nC2 i5) (nM i0)) ((((0 : Int64) + ((nC0 i4).toInt64)) + ((nC1 i4).toInt64)) + ((nC2 i5).toInt64)) (nK i1) ((i3).toInt64)) = (0 : Int32) := by first | exact if_pos h444 | (unfold own_fin; first | (rw [if_pos h444]; done) | (simp [h444]; done) | (rw [if_pos h444]; decide))
          rw [e442_0]; exact g445
        · skip
          have g446 : Goes p e below S0 (T421.setTop (mkF m 266 #[iv i0, iv i1, iv i2, iv i3, .val (.long i4), .second, iv i5, iv (nM i0), iv (nK i1), iv (nB i1), iv (3 : Int32), iv (nC0 i4), iv (nC1 i4), iv (nC2 i5), rv b392, rv b406, iv (f_ad3 i2 i3 (nM i0) (nS i1) (0 : Int32) (nC0 i4) (nC1 i4) (nC2 i5)), iv (own_all (own_all (own_all (1 : Int32) (nC0 i4) (nM i0)) (nC1 i4) (nM i0)) (nC2 i5) (nM i0)), .val (.long ((((0 : Int64) + ((nC0 i4).toInt64)) + ((nC1 i4).toInt64)) + ((nC2 i5).toInt64))), .second, .val (.long ((i3).toInt64)), .second, .unset] [(.int (lcmpW ((8 : Int64) * ((((0 : Int64) + ((nC0 i4).toInt64)) + ((nC1 i4).toInt64)) + ((nC2 i5).toInt64))) (((nK i1).toInt64) * ((i3).toInt64))))])) := fun t k => g443 t (by
            refine XS.ifNo X421.here hx rfl (hb hby at_250) rfl (XT.i0_eq_f h444) ?_
            show Go p e below t T421 m 253 #[iv i0, iv i1, iv i2, iv i3, .val (.long i4), .second, iv i5, iv (nM i0), iv (nK i1), iv (nB i1), iv (3 : Int32), iv (nC0 i4), iv (nC1 i4), iv (nC2 i5), rv b392, rv b406, iv (f_ad3 i2 i3 (nM i0) (nS i1) (0 : Int32) (nC0 i4) (nC1 i4) (nC2 i5)), iv (own_all (own_all (own_all (1 : Int32) (nC0 i4) (nM i0)) (nC1 i4) (nM i0)) (nC2 i5) (nM i0)), .val (.long ((((0 : Int64) + ((nC0 i4).toInt64)) + ((nC1 i4).toInt64)) + ((nC2 i5).toInt64))), .second, .val (.long ((i3).toInt64)), .second, .unset] []
            refine Jvm.Stand.ldc2J X421 hx hown (mvT hZ (hw _ (List.mem_of_getElem? (i := 44) rfl))) (g := (mkF m 253 #[iv i0, iv i1, iv i2, iv i3, .val (.long i4), .second, iv i5, iv (nM i0), iv (nK i1), iv (nB i1), iv (3 : Int32), iv (nC0 i4), iv (nC1 i4), iv (nC2 i5), rv b392, rv b406, iv (f_ad3 i2 i3 (nM i0) (nS i1) (0 : Int32) (nC0 i4) (nC1 i4) (nC2 i5)), iv (own_all (own_all (own_all (1 : Int32) (nC0 i4) (nM i0)) (nC1 i4) (nM i0)) (nC2 i5) (nM i0)), .val (.long ((((0 : Int64) + ((nC0 i4).toInt64)) + ((nC1 i4).toInt64)) + ((nC2 i5).toInt64))), .second, .val (.long ((i3).toInt64)), .second, .unset] [])) rfl (hb hby at_253) ?_
            show Go p e below t T421 m 256 #[iv i0, iv i1, iv i2, iv i3, .val (.long i4), .second, iv i5, iv (nM i0), iv (nK i1), iv (nB i1), iv (3 : Int32), iv (nC0 i4), iv (nC1 i4), iv (nC2 i5), rv b392, rv b406, iv (f_ad3 i2 i3 (nM i0) (nS i1) (0 : Int32) (nC0 i4) (nC1 i4) (nC2 i5)), iv (own_all (own_all (own_all (1 : Int32) (nC0 i4) (nM i0)) (nC1 i4) (nM i0)) (nC2 i5) (nM i0)), .val (.long ((((0 : Int64) + ((nC0 i4).toInt64)) + ((nC1 i4).toInt64)) + ((nC2 i5).toInt64))), .second, .val (.long ((i3).toInt64)), .second, .unset] [(.long (8 : Int64))]
            refine XS.lload X421.here hx rfl (hb hby at_256) rfl ?_
            show Go p e below t T421 m 258 #[iv i0, iv i1, iv i2, iv i3, .val (.long i4), .second, iv i5, iv (nM i0), iv (nK i1), iv (nB i1), iv (3 : Int32), iv (nC0 i4), iv (nC1 i4), iv (nC2 i5), rv b392, rv b406, iv (f_ad3 i2 i3 (nM i0) (nS i1) (0 : Int32) (nC0 i4) (nC1 i4) (nC2 i5)), iv (own_all (own_all (own_all (1 : Int32) (nC0 i4) (nM i0)) (nC1 i4) (nM i0)) (nC2 i5) (nM i0)), .val (.long ((((0 : Int64) + ((nC0 i4).toInt64)) + ((nC1 i4).toInt64)) + ((nC2 i5).toInt64))), .second, .val (.long ((i3).toInt64)), .second, .unset] [(.long ((((0 : Int64) + ((nC0 i4).toInt64)) + ((nC1 i4).toInt64)) + ((nC2 i5).toInt64))), (.long (8 : Int64))]
            refine XS.lmul X421.here hx rfl (hb hby at_258) rfl ?_
            show Go p e below t T421 m 259 #[iv i0, iv i1, iv i2, iv i3, .val (.long i4), .second, iv i5, iv (nM i0), iv (nK i1), iv (nB i1), iv (3 : Int32), iv (nC0 i4), iv (nC1 i4), iv (nC2 i5), rv b392, rv b406, iv (f_ad3 i2 i3 (nM i0) (nS i1) (0 : Int32) (nC0 i4) (nC1 i4) (nC2 i5)), iv (own_all (own_all (own_all (1 : Int32) (nC0 i4) (nM i0)) (nC1 i4) (nM i0)) (nC2 i5) (nM i0)), .val (.long ((((0 : Int64) + ((nC0 i4).toInt64)) + ((nC1 i4).toInt64)) + ((nC2 i5).toInt64))), .second, .val (.long ((i3).toInt64)), .second, .unset] [(.long ((8 : Int64) * ((((0 : Int64) + ((nC0 i4).toInt64)) + ((nC1 i4).toInt64)) + ((nC2 i5).toInt64))))]
            refine XS.iload X421.here hx rfl (hb hby at_259) rfl ?_
            show Go p e below t T421 m 261 #[iv i0, iv i1, iv i2, iv i3, .val (.long i4), .second, iv i5, iv (nM i0), iv (nK i1), iv (nB i1), iv (3 : Int32), iv (nC0 i4), iv (nC1 i4), iv (nC2 i5), rv b392, rv b406, iv (f_ad3 i2 i3 (nM i0) (nS i1) (0 : Int32) (nC0 i4) (nC1 i4) (nC2 i5)), iv (own_all (own_all (own_all (1 : Int32) (nC0 i4) (nM i0)) (nC1 i4) (nM i0)) (nC2 i5) (nM i0)), .val (.long ((((0 : Int64) + ((nC0 i4).toInt64)) + ((nC1 i4).toInt64)) + ((nC2 i5).toInt64))), .second, .val (.long ((i3).toInt64)), .second, .unset] [(.int (nK i1)), (.long ((8 : Int64) * ((((0 : Int64) + ((nC0 i4).toInt64)) + ((nC1 i4).toInt64)) + ((nC2 i5).toInt64))))]
            refine XS.i2l X421.here hx rfl (hb hby at_261) rfl ?_
            show Go p e below t T421 m 262 #[iv i0, iv i1, iv i2, iv i3, .val (.long i4), .second, iv i5, iv (nM i0), iv (nK i1), iv (nB i1), iv (3 : Int32), iv (nC0 i4), iv (nC1 i4), iv (nC2 i5), rv b392, rv b406, iv (f_ad3 i2 i3 (nM i0) (nS i1) (0 : Int32) (nC0 i4) (nC1 i4) (nC2 i5)), iv (own_all (own_all (own_all (1 : Int32) (nC0 i4) (nM i0)) (nC1 i4) (nM i0)) (nC2 i5) (nM i0)), .val (.long ((((0 : Int64) + ((nC0 i4).toInt64)) + ((nC1 i4).toInt64)) + ((nC2 i5).toInt64))), .second, .val (.long ((i3).toInt64)), .second, .unset] [(.long ((nK i1).toInt64)), (.long ((8 : Int64) * ((((0 : Int64) + ((nC0 i4).toInt64)) + ((nC1 i4).toInt64)) + ((nC2 i5).toInt64))))]
            refine XS.lload X421.here hx rfl (hb hby at_262) rfl ?_
            show Go p e below t T421 m 264 #[iv i0, iv i1, iv i2, iv i3, .val (.long i4), .second, iv i5, iv (nM i0), iv (nK i1), iv (nB i1), iv (3 : Int32), iv (nC0 i4), iv (nC1 i4), iv (nC2 i5), rv b392, rv b406, iv (f_ad3 i2 i3 (nM i0) (nS i1) (0 : Int32) (nC0 i4) (nC1 i4) (nC2 i5)), iv (own_all (own_all (own_all (1 : Int32) (nC0 i4) (nM i0)) (nC1 i4) (nM i0)) (nC2 i5) (nM i0)), .val (.long ((((0 : Int64) + ((nC0 i4).toInt64)) + ((nC1 i4).toInt64)) + ((nC2 i5).toInt64))), .second, .val (.long ((i3).toInt64)), .second, .unset] [(.long ((i3).toInt64)), (.long ((nK i1).toInt64)), (.long ((8 : Int64) * ((((0 : Int64) + ((nC0 i4).toInt64)) + ((nC1 i4).toInt64)) + ((nC2 i5).toInt64))))]
            refine XS.lmul X421.here hx rfl (hb hby at_264) rfl ?_
            show Go p e below t T421 m 265 #[iv i0, iv i1, iv i2, iv i3, .val (.long i4), .second, iv i5, iv (nM i0), iv (nK i1), iv (nB i1), iv (3 : Int32), iv (nC0 i4), iv (nC1 i4), iv (nC2 i5), rv b392, rv b406, iv (f_ad3 i2 i3 (nM i0) (nS i1) (0 : Int32) (nC0 i4) (nC1 i4) (nC2 i5)), iv (own_all (own_all (own_all (1 : Int32) (nC0 i4) (nM i0)) (nC1 i4) (nM i0)) (nC2 i5) (nM i0)), .val (.long ((((0 : Int64) + ((nC0 i4).toInt64)) + ((nC1 i4).toInt64)) + ((nC2 i5).toInt64))), .second, .val (.long ((i3).toInt64)), .second, .unset] [(.long (((nK i1).toInt64) * ((i3).toInt64))), (.long ((8 : Int64) * ((((0 : Int64) + ((nC0 i4).toInt64)) + ((nC1 i4).toInt64)) + ((nC2 i5).toInt64))))]
            refine XS.lcmp X421.here hx rfl (hb hby at_265) rfl ?_
            show Go p e below t T421 m 266 #[iv i0, iv i1, iv i2, iv i3, .val (.long i4), .second, iv i5, iv (nM i0), iv (nK i1), iv (nB i1), iv (3 : Int32), iv (nC0 i4), iv (nC1 i4), iv (nC2 i5), rv b392, rv b406, iv (f_ad3 i2 i3 (nM i0) (nS i1) (0 : Int32) (nC0 i4) (nC1 i4) (nC2 i5)), iv (own_all (own_all (own_all (1 : Int32) (nC0 i4) (nM i0)) (nC1 i4) (nM i0)) (nC2 i5) (nM i0)), .val (.long ((((0 : Int64) + ((nC0 i4).toInt64)) + ((nC1 i4).toInt64)) + ((nC2 i5).toInt64))), .second, .val (.long ((i3).toInt64)), .second, .unset] [(.int (lcmpW ((8 : Int64) * ((((0 : Int64) + ((nC0 i4).toInt64)) + ((nC1 i4).toInt64)) + ((nC2 i5).toInt64))) (((nK i1).toInt64) * ((i3).toInt64))))]
            exact k)
          by_cases h447 : ((8 : Int64) * ((((0 : Int64) + ((nC0 i4).toInt64)) + ((nC1 i4).toInt64)) + ((nC2 i5).toInt64))) < (((nK i1).toInt64) * ((i3).toInt64))
          · skip
            have g448 : Goes p e below S0 (T421.setTop (mkF m 274 #[iv i0, iv i1, iv i2, iv i3, .val (.long i4), .second, iv i5, iv (nM i0), iv (nK i1), iv (nB i1), iv (3 : Int32), iv (nC0 i4), iv (nC1 i4), iv (nC2 i5), rv b392, rv b406, iv (f_ad3 i2 i3 (nM i0) (nS i1) (0 : Int32) (nC0 i4) (nC1 i4) (nC2 i5)), iv (own_all (own_all (own_all (1 : Int32) (nC0 i4) (nM i0)) (nC1 i4) (nM i0)) (nC2 i5) (nM i0)), .val (.long ((((0 : Int64) + ((nC0 i4).toInt64)) + ((nC1 i4).toInt64)) + ((nC2 i5).toInt64))), .second, .val (.long ((i3).toInt64)), .second, .unset] [(.int (0 : Int32))])) := fun t k => g446 t (by
              refine XS.ifYes X421.here hx rfl (pc0 := 266) (pc' := 273) rfl (hb hby at_266) rfl (XT.ll_lt_t h447) (by decide) (by decide) ?_
              show Go p e below t T421 m 273 #[iv i0, iv i1, iv i2, iv i3, .val (.long i4), .second, iv i5, iv (nM i0), iv (nK i1), iv (nB i1), iv (3 : Int32), iv (nC0 i4), iv (nC1 i4), iv (nC2 i5), rv b392, rv b406, iv (f_ad3 i2 i3 (nM i0) (nS i1) (0 : Int32) (nC0 i4) (nC1 i4) (nC2 i5)), iv (own_all (own_all (own_all (1 : Int32) (nC0 i4) (nM i0)) (nC1 i4) (nM i0)) (nC2 i5) (nM i0)), .val (.long ((((0 : Int64) + ((nC0 i4).toInt64)) + ((nC1 i4).toInt64)) + ((nC2 i5).toInt64))), .second, .val (.long ((i3).toInt64)), .second, .unset] []
              refine XT.iconstV X421.here hx rfl (0 : Int32) (hb hby at_273) (by decide) ?_
              show Go p e below t T421 m 274 #[iv i0, iv i1, iv i2, iv i3, .val (.long i4), .second, iv i5, iv (nM i0), iv (nK i1), iv (nB i1), iv (3 : Int32), iv (nC0 i4), iv (nC1 i4), iv (nC2 i5), rv b392, rv b406, iv (f_ad3 i2 i3 (nM i0) (nS i1) (0 : Int32) (nC0 i4) (nC1 i4) (nC2 i5)), iv (own_all (own_all (own_all (1 : Int32) (nC0 i4) (nM i0)) (nC1 i4) (nM i0)) (nC2 i5) (nM i0)), .val (.long ((((0 : Int64) + ((nC0 i4).toInt64)) + ((nC1 i4).toInt64)) + ((nC2 i5).toInt64))), .second, .val (.long ((i3).toInt64)), .second, .unset] [(.int (0 : Int32))]
              exact k)
            have e442_0 : (own_fin (own_all (own_all (own_all (1 : Int32) (nC0 i4) (nM i0)) (nC1 i4) (nM i0)) (nC2 i5) (nM i0)) ((((0 : Int64) + ((nC0 i4).toInt64)) + ((nC1 i4).toInt64)) + ((nC2 i5).toInt64)) (nK i1) ((i3).toInt64)) = (0 : Int32) := by first | exact (if_neg h444).trans (if_pos h447) | (unfold own_fin; first | (rw [if_neg h444, if_pos h447]; done) | (simp [h444, h447]; done) | (rw [if_neg h444, if_pos h447]; decide))
            rw [e442_0]; exact g448
          · skip
            have g449 : Goes p e below S0 (T421.setTop (mkF m 274 #[iv i0, iv i1, iv i2, iv i3, .val (.long i4), .second, iv i5, iv (nM i0), iv (nK i1), iv (nB i1), iv (3 : Int32), iv (nC0 i4), iv (nC1 i4), iv (nC2 i5), rv b392, rv b406, iv (f_ad3 i2 i3 (nM i0) (nS i1) (0 : Int32) (nC0 i4) (nC1 i4) (nC2 i5)), iv (own_all (own_all (own_all (1 : Int32) (nC0 i4) (nM i0)) (nC1 i4) (nM i0)) (nC2 i5) (nM i0)), .val (.long ((((0 : Int64) + ((nC0 i4).toInt64)) + ((nC1 i4).toInt64)) + ((nC2 i5).toInt64))), .second, .val (.long ((i3).toInt64)), .second, .unset] [(.int (1 : Int32))])) := fun t k => g446 t (by
              refine XS.ifNo X421.here hx rfl (hb hby at_266) rfl (XT.ll_lt_f h447) ?_
              show Go p e below t T421 m 269 #[iv i0, iv i1, iv i2, iv i3, .val (.long i4), .second, iv i5, iv (nM i0), iv (nK i1), iv (nB i1), iv (3 : Int32), iv (nC0 i4), iv (nC1 i4), iv (nC2 i5), rv b392, rv b406, iv (f_ad3 i2 i3 (nM i0) (nS i1) (0 : Int32) (nC0 i4) (nC1 i4) (nC2 i5)), iv (own_all (own_all (own_all (1 : Int32) (nC0 i4) (nM i0)) (nC1 i4) (nM i0)) (nC2 i5) (nM i0)), .val (.long ((((0 : Int64) + ((nC0 i4).toInt64)) + ((nC1 i4).toInt64)) + ((nC2 i5).toInt64))), .second, .val (.long ((i3).toInt64)), .second, .unset] []
              refine XT.iconstV X421.here hx rfl (1 : Int32) (hb hby at_269) (by decide) ?_
              show Go p e below t T421 m 270 #[iv i0, iv i1, iv i2, iv i3, .val (.long i4), .second, iv i5, iv (nM i0), iv (nK i1), iv (nB i1), iv (3 : Int32), iv (nC0 i4), iv (nC1 i4), iv (nC2 i5), rv b392, rv b406, iv (f_ad3 i2 i3 (nM i0) (nS i1) (0 : Int32) (nC0 i4) (nC1 i4) (nC2 i5)), iv (own_all (own_all (own_all (1 : Int32) (nC0 i4) (nM i0)) (nC1 i4) (nM i0)) (nC2 i5) (nM i0)), .val (.long ((((0 : Int64) + ((nC0 i4).toInt64)) + ((nC1 i4).toInt64)) + ((nC2 i5).toInt64))), .second, .val (.long ((i3).toInt64)), .second, .unset] [(.int (1 : Int32))]
              refine XS.goto X421.here hx rfl (pc0 := 270) (pc' := 274) rfl (hb hby at_270) (by decide) (by decide) ?_
              show Go p e below t T421 m 274 #[iv i0, iv i1, iv i2, iv i3, .val (.long i4), .second, iv i5, iv (nM i0), iv (nK i1), iv (nB i1), iv (3 : Int32), iv (nC0 i4), iv (nC1 i4), iv (nC2 i5), rv b392, rv b406, iv (f_ad3 i2 i3 (nM i0) (nS i1) (0 : Int32) (nC0 i4) (nC1 i4) (nC2 i5)), iv (own_all (own_all (own_all (1 : Int32) (nC0 i4) (nM i0)) (nC1 i4) (nM i0)) (nC2 i5) (nM i0)), .val (.long ((((0 : Int64) + ((nC0 i4).toInt64)) + ((nC1 i4).toInt64)) + ((nC2 i5).toInt64))), .second, .val (.long ((i3).toInt64)), .second, .unset] [(.int (1 : Int32))]
              exact k)
            have e442_0 : (own_fin (own_all (own_all (own_all (1 : Int32) (nC0 i4) (nM i0)) (nC1 i4) (nM i0)) (nC2 i5) (nM i0)) ((((0 : Int64) + ((nC0 i4).toInt64)) + ((nC1 i4).toInt64)) + ((nC2 i5).toInt64)) (nK i1) ((i3).toInt64)) = (1 : Int32) := by first | exact (if_neg h444).trans (if_neg h447) | (unfold own_fin; first | (rw [if_neg h444, if_neg h447]; done) | (simp [h444, h447]; done) | (rw [if_neg h444, if_neg h447]; decide))
            rw [e442_0]; exact g449
      have g450 : Goes p e below S0 (T421.setTop (mkF m 288 #[iv i0, iv i1, iv i2, iv i3, .val (.long i4), .second, iv i5, iv (nM i0), iv (nK i1), iv (nB i1), iv (3 : Int32), iv (nC0 i4), iv (nC1 i4), iv (nC2 i5), rv b392, rv b406, iv (f_ad3 i2 i3 (nM i0) (nS i1) (0 : Int32) (nC0 i4) (nC1 i4) (nC2 i5)), iv (own_all (own_all (own_all (1 : Int32) (nC0 i4) (nM i0)) (nC1 i4) (nM i0)) (nC2 i5) (nM i0)), .val (.long ((((0 : Int64) + ((nC0 i4).toInt64)) + ((nC1 i4).toInt64)) + ((nC2 i5).toInt64))), .second, .val (.long ((i3).toInt64)), .second, iv (own_fin (own_all (own_all (own_all (1 : Int32) (nC0 i4) (nM i0)) (nC1 i4) (nM i0)) (nC2 i5) (nM i0)) ((((0 : Int64) + ((nC0 i4).toInt64)) + ((nC1 i4).toInt64)) + ((nC2 i5).toInt64)) (nK i1) ((i3).toInt64))] [(.int (1 : Int32))])) := fun t k => gf442 t (by
        refine XS.istore X421.here hx rfl (hb hby at_274) rfl (l' := #[iv i0, iv i1, iv i2, iv i3, .val (.long i4), .second, iv i5, iv (nM i0), iv (nK i1), iv (nB i1), iv (3 : Int32), iv (nC0 i4), iv (nC1 i4), iv (nC2 i5), rv b392, rv b406, iv (f_ad3 i2 i3 (nM i0) (nS i1) (0 : Int32) (nC0 i4) (nC1 i4) (nC2 i5)), iv (own_all (own_all (own_all (1 : Int32) (nC0 i4) (nM i0)) (nC1 i4) (nM i0)) (nC2 i5) (nM i0)), .val (.long ((((0 : Int64) + ((nC0 i4).toInt64)) + ((nC1 i4).toInt64)) + ((nC2 i5).toInt64))), .second, .val (.long ((i3).toInt64)), .second, iv (own_fin (own_all (own_all (own_all (1 : Int32) (nC0 i4) (nM i0)) (nC1 i4) (nM i0)) (nC2 i5) (nM i0)) ((((0 : Int64) + ((nC0 i4).toInt64)) + ((nC1 i4).toInt64)) + ((nC2 i5).toInt64)) (nK i1) ((i3).toInt64))]) rfl ?_
        show Go p e below t T421 m 276 #[iv i0, iv i1, iv i2, iv i3, .val (.long i4), .second, iv i5, iv (nM i0), iv (nK i1), iv (nB i1), iv (3 : Int32), iv (nC0 i4), iv (nC1 i4), iv (nC2 i5), rv b392, rv b406, iv (f_ad3 i2 i3 (nM i0) (nS i1) (0 : Int32) (nC0 i4) (nC1 i4) (nC2 i5)), iv (own_all (own_all (own_all (1 : Int32) (nC0 i4) (nM i0)) (nC1 i4) (nM i0)) (nC2 i5) (nM i0)), .val (.long ((((0 : Int64) + ((nC0 i4).toInt64)) + ((nC1 i4).toInt64)) + ((nC2 i5).toInt64))), .second, .val (.long ((i3).toInt64)), .second, iv (own_fin (own_all (own_all (own_all (1 : Int32) (nC0 i4) (nM i0)) (nC1 i4) (nM i0)) (nC2 i5) (nM i0)) ((((0 : Int64) + ((nC0 i4).toInt64)) + ((nC1 i4).toInt64)) + ((nC2 i5).toInt64)) (nK i1) ((i3).toInt64))] []
        refine XS.iload X421.here hx rfl (hb hby at_276) rfl ?_
        show Go p e below t T421 m 278 #[iv i0, iv i1, iv i2, iv i3, .val (.long i4), .second, iv i5, iv (nM i0), iv (nK i1), iv (nB i1), iv (3 : Int32), iv (nC0 i4), iv (nC1 i4), iv (nC2 i5), rv b392, rv b406, iv (f_ad3 i2 i3 (nM i0) (nS i1) (0 : Int32) (nC0 i4) (nC1 i4) (nC2 i5)), iv (own_all (own_all (own_all (1 : Int32) (nC0 i4) (nM i0)) (nC1 i4) (nM i0)) (nC2 i5) (nM i0)), .val (.long ((((0 : Int64) + ((nC0 i4).toInt64)) + ((nC1 i4).toInt64)) + ((nC2 i5).toInt64))), .second, .val (.long ((i3).toInt64)), .second, iv (own_fin (own_all (own_all (own_all (1 : Int32) (nC0 i4) (nM i0)) (nC1 i4) (nM i0)) (nC2 i5) (nM i0)) ((((0 : Int64) + ((nC0 i4).toInt64)) + ((nC1 i4).toInt64)) + ((nC2 i5).toInt64)) (nK i1) ((i3).toInt64))] [(.int (f_ad3 i2 i3 (nM i0) (nS i1) (0 : Int32) (nC0 i4) (nC1 i4) (nC2 i5)))]
        refine XS.iload X421.here hx rfl (hb hby at_278) rfl ?_
        show Go p e below t T421 m 280 #[iv i0, iv i1, iv i2, iv i3, .val (.long i4), .second, iv i5, iv (nM i0), iv (nK i1), iv (nB i1), iv (3 : Int32), iv (nC0 i4), iv (nC1 i4), iv (nC2 i5), rv b392, rv b406, iv (f_ad3 i2 i3 (nM i0) (nS i1) (0 : Int32) (nC0 i4) (nC1 i4) (nC2 i5)), iv (own_all (own_all (own_all (1 : Int32) (nC0 i4) (nM i0)) (nC1 i4) (nM i0)) (nC2 i5) (nM i0)), .val (.long ((((0 : Int64) + ((nC0 i4).toInt64)) + ((nC1 i4).toInt64)) + ((nC2 i5).toInt64))), .second, .val (.long ((i3).toInt64)), .second, iv (own_fin (own_all (own_all (own_all (1 : Int32) (nC0 i4) (nM i0)) (nC1 i4) (nM i0)) (nC2 i5) (nM i0)) ((((0 : Int64) + ((nC0 i4).toInt64)) + ((nC1 i4).toInt64)) + ((nC2 i5).toInt64)) (nK i1) ((i3).toInt64))] [(.int (own_fin (own_all (own_all (own_all (1 : Int32) (nC0 i4) (nM i0)) (nC1 i4) (nM i0)) (nC2 i5) (nM i0)) ((((0 : Int64) + ((nC0 i4).toInt64)) + ((nC1 i4).toInt64)) + ((nC2 i5).toInt64)) (nK i1) ((i3).toInt64))), (.int (f_ad3 i2 i3 (nM i0) (nS i1) (0 : Int32) (nC0 i4) (nC1 i4) (nC2 i5)))]
        refine XS.icmpNo X421.here hx rfl (hb hby at_280) rfl (XT.ii_ne_f (own_fin3t i0 i1 i2 i3 i4 i5)) ?_
        show Go p e below t T421 m 283 #[iv i0, iv i1, iv i2, iv i3, .val (.long i4), .second, iv i5, iv (nM i0), iv (nK i1), iv (nB i1), iv (3 : Int32), iv (nC0 i4), iv (nC1 i4), iv (nC2 i5), rv b392, rv b406, iv (f_ad3 i2 i3 (nM i0) (nS i1) (0 : Int32) (nC0 i4) (nC1 i4) (nC2 i5)), iv (own_all (own_all (own_all (1 : Int32) (nC0 i4) (nM i0)) (nC1 i4) (nM i0)) (nC2 i5) (nM i0)), .val (.long ((((0 : Int64) + ((nC0 i4).toInt64)) + ((nC1 i4).toInt64)) + ((nC2 i5).toInt64))), .second, .val (.long ((i3).toInt64)), .second, iv (own_fin (own_all (own_all (own_all (1 : Int32) (nC0 i4) (nM i0)) (nC1 i4) (nM i0)) (nC2 i5) (nM i0)) ((((0 : Int64) + ((nC0 i4).toInt64)) + ((nC1 i4).toInt64)) + ((nC2 i5).toInt64)) (nK i1) ((i3).toInt64))] []
        refine XT.iconstV X421.here hx rfl (1 : Int32) (hb hby at_283) (by decide) ?_
        show Go p e below t T421 m 284 #[iv i0, iv i1, iv i2, iv i3, .val (.long i4), .second, iv i5, iv (nM i0), iv (nK i1), iv (nB i1), iv (3 : Int32), iv (nC0 i4), iv (nC1 i4), iv (nC2 i5), rv b392, rv b406, iv (f_ad3 i2 i3 (nM i0) (nS i1) (0 : Int32) (nC0 i4) (nC1 i4) (nC2 i5)), iv (own_all (own_all (own_all (1 : Int32) (nC0 i4) (nM i0)) (nC1 i4) (nM i0)) (nC2 i5) (nM i0)), .val (.long ((((0 : Int64) + ((nC0 i4).toInt64)) + ((nC1 i4).toInt64)) + ((nC2 i5).toInt64))), .second, .val (.long ((i3).toInt64)), .second, iv (own_fin (own_all (own_all (own_all (1 : Int32) (nC0 i4) (nM i0)) (nC1 i4) (nM i0)) (nC2 i5) (nM i0)) ((((0 : Int64) + ((nC0 i4).toInt64)) + ((nC1 i4).toInt64)) + ((nC2 i5).toInt64)) (nK i1) ((i3).toInt64))] [(.int (1 : Int32))]
        refine XS.goto X421.here hx rfl (pc0 := 284) (pc' := 288) rfl (hb hby at_284) (by decide) (by decide) ?_
        show Go p e below t T421 m 288 #[iv i0, iv i1, iv i2, iv i3, .val (.long i4), .second, iv i5, iv (nM i0), iv (nK i1), iv (nB i1), iv (3 : Int32), iv (nC0 i4), iv (nC1 i4), iv (nC2 i5), rv b392, rv b406, iv (f_ad3 i2 i3 (nM i0) (nS i1) (0 : Int32) (nC0 i4) (nC1 i4) (nC2 i5)), iv (own_all (own_all (own_all (1 : Int32) (nC0 i4) (nM i0)) (nC1 i4) (nM i0)) (nC2 i5) (nM i0)), .val (.long ((((0 : Int64) + ((nC0 i4).toInt64)) + ((nC1 i4).toInt64)) + ((nC2 i5).toInt64))), .second, .val (.long ((i3).toInt64)), .second, iv (own_fin (own_all (own_all (own_all (1 : Int32) (nC0 i4) (nM i0)) (nC1 i4) (nM i0)) (nC2 i5) (nM i0)) ((((0 : Int64) + ((nC0 i4).toInt64)) + ((nC1 i4).toInt64)) + ((nC2 i5).toInt64)) (nK i1) ((i3).toInt64))] [(.int (1 : Int32))]
        exact k)
      obtain ⟨fs, hr, hrun, hended, hW, hsame⟩ := X421.leave (v := some (.int (1 : Int32))) (fun h => by rw [Bd.returns] at h; cases h)
      refine ⟨_, _, g450 _ (retN X421 hx (t := .boolean) Bd.returns (by simp) (hb hby at_288) hr), hrun, hended, _, _, rfl, ?_, ⟨_, rfl⟩, hW, hsame.mono (by decide) (by decide)⟩
      show Q_law Z i0 i1 i2 i3 i4 i5  h0 n0 _ T421.heap _
      rw [e421]
      exact ⟨rfl, M421⟩
    · skip
      have g451 : Goes p e below S0 (T416.setTop (mkF m 140 #[iv i0, iv i1, iv i2, iv i3, .val (.long i4), .second, iv i5, iv (nM i0), iv (nK i1), iv (nB i1), iv (3 : Int32), iv (nC0 i4), iv (nC1 i4), iv (nC2 i5), rv b392, rv b406, .unset, .unset, .unset, .unset, .unset, .unset, .unset] [(.ref b406)])) := fun t k => g418 t (by
        refine XS.ifNo X416.here hx rfl (hb hby at_135) rfl (XT.i0_eq_f h419) ?_
        show Go p e below t T416 m 138 #[iv i0, iv i1, iv i2, iv i3, .val (.long i4), .second, iv i5, iv (nM i0), iv (nK i1), iv (nB i1), iv (3 : Int32), iv (nC0 i4), iv (nC1 i4), iv (nC2 i5), rv b392, rv b406, .unset, .unset, .unset, .unset, .unset, .unset, .unset] []
        refine XS.aload X416.here hx rfl (hb hby at_138) rfl rfl ?_
        show Go p e below t T416 m 140 #[iv i0, iv i1, iv i2, iv i3, .val (.long i4), .second, iv i5, iv (nM i0), iv (nK i1), iv (nB i1), iv (3 : Int32), iv (nC0 i4), iv (nC1 i4), iv (nC2 i5), rv b392, rv b406, .unset, .unset, .unset, .unset, .unset, .unset, .unset] [(.ref b406)]
        exact k)
      obtain ⟨cq452, kq452, q452a, q452b, q452c⟩ := isOf hZ rfl R416_1
      obtain ⟨_, _, ⟨T452, L452, k452, n452⟩, -, X452, ⟨Lc452, hQ452, l452, y452, z452⟩, st452⟩ := X416.virtualBack hx (y := (⟨"com/example/hetmo/hetmo/tree/StoppingRules", "takingShareOfNode", "()Lcom/example/hetmo/hetmo/tree/StoppingRules;"⟩ : MethodName)) (z := (⟨"com/example/hetmo/hetmo/tree/StoppingRules", "takingShareOfNode", "()Lcom/example/hetmo/hetmo/tree/StoppingRules;"⟩ : MethodName)) hown (mvT hZ (hw _ (List.mem_of_getElem? (i := 45) rfl))) (mvT hZ (hw _ (List.mem_of_getElem? (i := 46) rfl))) (notFace_of_selects (args := #[]) (mvT hZ (hw _ (List.mem_of_getElem? (i := 48) rfl)))) (mvT hZ (hw _ (List.mem_of_getElem? (i := 48) rfl))) (mvT hZ (hw _ (List.mem_of_getElem? (i := 47) rfl))) (by decide) (backOf (W := 0) (rm_tsn l Z a0 hw [] b406 (nM i0) (nS i1) (0 : UInt64) (0 : Int32) T416.heap n0 (Nat.le_trans Z0 (Nat.le_trans (Nat.le_trans (Nat.le_trans (Nat.le_trans (Nat.le_trans (Nat.le_trans (Nat.le_refl _) E392.1) (Nat.le_of_eq W396.size.symm)) (Nat.le_of_eq W400.size.symm)) (Nat.le_of_eq W404.size.symm)) E406.1) R416_0.1)) R416_2 R416_3 R416_4 R416_5 R416_6 R416_7 R416_8) hZ (hw _ (List.mem_of_getElem? (i := 49) rfl)) (hw _ (List.mem_of_getElem? (i := 9) rfl)) (by decide) (by decide)) q452a q452c (g := (mkF m 140 #[iv i0, iv i1, iv i2, iv i3, .val (.long i4), .second, iv i5, iv (nM i0), iv (nK i1), iv (nB i1), iv (3 : Int32), iv (nC0 i4), iv (nC1 i4), iv (nC2 i5), rv b392, rv b406, .unset, .unset, .unset, .unset, .unset, .unset, .unset] [(.ref b406)])) rfl (by rw [hml]; rfl) (Steps.refl _) (argsL := []) (rest := []) (lenOf pd5 rfl) rfl (by show 2 * 0 + _ ≤ _; exact Nat.le_of_eq rfl) (hb hby at_140) (fun _ _ => ⟨rfl, rfl, (by decide : 2 + 1 ≤ _), (by decide : 10 + 7 ≤ _)⟩)
      dsimp only [Pt.U, Pt.locs, Pt.cells, Pt.slots] at X452 l452 y452 z452 st452 hQ452
      subst l452 y452 z452
      obtain ⟨na_452, rfl, N452, R452_0, R452_1, R452_2, R452_3, R452_4, R452_5, R452_6, R452_7, R452_8⟩ := hQ452
      have M452 := Fr.app M416 N452
      have g453 : Goes p e below S0 (T452.setTop (mkF m 143 #[iv i0, iv i1, iv i2, iv i3, .val (.long i4), .second, iv i5, iv (nM i0), iv (nK i1), iv (nB i1), iv (3 : Int32), iv (nC0 i4), iv (nC1 i4), iv (nC2 i5), rv b392, rv b406, .unset, .unset, .unset, .unset, .unset, .unset, .unset] [(.ref na_452)])) := fun t k => g451 t (st452.trans k)
      have g454 : Goes p e below S0 (T452.setTop (mkF m 151 #[iv i0, iv i1, iv i2, iv i3, .val (.long i4), .second, iv i5, iv (nM i0), iv (nK i1), iv (nB i1), iv (3 : Int32), iv (nC0 i4), iv (nC1 i4), iv (nC2 i5), rv b392, rv na_452, .unset, .unset, .unset, .unset, .unset, .unset, .unset] [(.int i3), (.int i2), (.ref b392), (.ref na_452)])) := fun t k => g453 t (by
        refine XS.astore X452.here hx rfl (hb hby at_143) rfl rfl (l' := #[iv i0, iv i1, iv i2, iv i3, .val (.long i4), .second, iv i5, iv (nM i0), iv (nK i1), iv (nB i1), iv (3 : Int32), iv (nC0 i4), iv (nC1 i4), iv (nC2 i5), rv b392, rv na_452, .unset, .unset, .unset, .unset, .unset, .unset, .unset]) rfl ?_
        show Go p e below t T452 m 145 #[iv i0, iv i1, iv i2, iv i3, .val (.long i4), .second, iv i5, iv (nM i0), iv (nK i1), iv (nB i1), iv (3 : Int32), iv (nC0 i4), iv (nC1 i4), iv (nC2 i5), rv b392, rv na_452, .unset, .unset, .unset, .unset, .unset, .unset, .unset] []
        refine XS.aload X452.here hx rfl (hb hby at_145) rfl rfl ?_
        show Go p e below t T452 m 147 #[iv i0, iv i1, iv i2, iv i3, .val (.long i4), .second, iv i5, iv (nM i0), iv (nK i1), iv (nB i1), iv (3 : Int32), iv (nC0 i4), iv (nC1 i4), iv (nC2 i5), rv b392, rv na_452, .unset, .unset, .unset, .unset, .unset, .unset, .unset] [(.ref na_452)]
        refine XS.aload X452.here hx rfl (hb hby at_147) rfl rfl ?_
        show Go p e below t T452 m 149 #[iv i0, iv i1, iv i2, iv i3, .val (.long i4), .second, iv i5, iv (nM i0), iv (nK i1), iv (nB i1), iv (3 : Int32), iv (nC0 i4), iv (nC1 i4), iv (nC2 i5), rv b392, rv na_452, .unset, .unset, .unset, .unset, .unset, .unset, .unset] [(.ref b392), (.ref na_452)]
        refine XS.iloadN X452.here hx rfl (hb hby at_149) rfl ?_
        show Go p e below t T452 m 150 #[iv i0, iv i1, iv i2, iv i3, .val (.long i4), .second, iv i5, iv (nM i0), iv (nK i1), iv (nB i1), iv (3 : Int32), iv (nC0 i4), iv (nC1 i4), iv (nC2 i5), rv b392, rv na_452, .unset, .unset, .unset, .unset, .unset, .unset, .unset] [(.int i2), (.ref b392), (.ref na_452)]
        refine XS.iloadN X452.here hx rfl (hb hby at_150) rfl ?_
        show Go p e below t T452 m 151 #[iv i0, iv i1, iv i2, iv i3, .val (.long i4), .second, iv i5, iv (nM i0), iv (nK i1), iv (nB i1), iv (3 : Int32), iv (nC0 i4), iv (nC1 i4), iv (nC2 i5), rv b392, rv na_452, .unset, .unset, .unset, .unset, .unset, .unset, .unset] [(.int i3), (.int i2), (.ref b392), (.ref na_452)]
        exact k)
      obtain ⟨cq455, kq455, q455a, q455b, q455c⟩ := isOf hZ rfl R452_1
      obtain ⟨_, _, ⟨T455, L455, k455, n455⟩, -, X455, ⟨Lc455, hQ455, l455, y455, z455⟩, st455⟩ := X452.virtualBack hx (y := (⟨"com/example/hetmo/hetmo/tree/StoppingRules", "admits", "([III)Z"⟩ : MethodName)) (z := (⟨"com/example/hetmo/hetmo/tree/StoppingRules", "admits", "([III)Z"⟩ : MethodName)) hown (mvT hZ (hw _ (List.mem_of_getElem? (i := 39) rfl))) (mvT hZ (hw _ (List.mem_of_getElem? (i := 40) rfl))) (notFace_of_selects (args := #[]) (mvT hZ (hw _ (List.mem_of_getElem? (i := 42) rfl)))) (mvT hZ (hw _ (List.mem_of_getElem? (i := 42) rfl))) (mvT hZ (hw _ (List.mem_of_getElem? (i := 41) rfl))) (by decide) (backOf (W := 0) (rm_ad3 l Z a0 hw [] na_452 b392 i2 i3 (nM i0) (nS i1) (nar .boolean (1 : Int32)) k392 (nC0 i4) (nC1 i4) (nC2 i5) T452.heap n0 (Nat.le_trans Z0 (Nat.le_trans (Nat.le_trans (Nat.le_trans (Nat.le_trans (Nat.le_trans (Nat.le_trans (Nat.le_trans (Nat.le_refl _) E392.1) (Nat.le_of_eq W396.size.symm)) (Nat.le_of_eq W400.size.symm)) (Nat.le_of_eq W404.size.symm)) E406.1) R416_0.1) R452_0.1)) R452_2 R452_3 R452_7 (((V404.ext E406).keep R416_0 (ninS (Nat.ne_of_lt (Nat.lt_of_lt_of_le V404.lt (Nat.le_of_eq gb406.symm))) nin0)).keep R452_0 nin0) (own_qf i1)) hZ (hw _ (List.mem_of_getElem? (i := 43) rfl)) (hw _ (List.mem_of_getElem? (i := 9) rfl)) (by decide) (by decide)) q455a q455c (g := (mkF m 151 #[iv i0, iv i1, iv i2, iv i3, .val (.long i4), .second, iv i5, iv (nM i0), iv (nK i1), iv (nB i1), iv (3 : Int32), iv (nC0 i4), iv (nC1 i4), iv (nC2 i5), rv b392, rv na_452, .unset, .unset, .unset, .unset, .unset, .unset, .unset] [(.int i3), (.int i2), (.ref b392), (.ref na_452)])) rfl (by rw [hml]; rfl) (Steps.refl _) (argsL := [(.ref b392), (.int i2), (.int i3)]) (rest := []) (lenOf pd6 rfl) rfl (by show 2 * 0 + _ ≤ _; exact Nat.le_of_eq rfl) (hb hby at_151) (fun _ _ => ⟨rfl, rfl, (by decide : 3 + 0 ≤ _), (by decide : 17 + 0 ≤ _)⟩)
      dsimp only [Pt.U, Pt.locs, Pt.cells, Pt.slots] at X455 l455 y455 z455 st455 hQ455
      subst l455 y455 z455
      obtain ⟨rfl, N455, e455⟩ := hQ455
      have M455 := Fr.app M452 N455
      have g456 : Goes p e below S0 (T455.setTop (mkF m 154 #[iv i0, iv i1, iv i2, iv i3, .val (.long i4), .second, iv i5, iv (nM i0), iv (nK i1), iv (nB i1), iv (3 : Int32), iv (nC0 i4), iv (nC1 i4), iv (nC2 i5), rv b392, rv na_452, .unset, .unset, .unset, .unset, .unset, .unset, .unset] [(.int (f_ad3 i2 i3 (nM i0) (nS i1) (nar .boolean (1 : Int32)) (nC0 i4) (nC1 i4) (nC2 i5)))])) := fun t k => g454 t (st455.trans k)
      have g457 : Goes p e below S0 (T455.setTop (mkF m 168 #[iv i0, iv i1, iv i2, iv i3, .val (.long i4), .second, iv i5, iv (nM i0), iv (nK i1), iv (nB i1), iv (3 : Int32), iv (nC0 i4), iv (nC1 i4), iv (nC2 i5), rv b392, rv na_452, iv (f_ad3 i2 i3 (nM i0) (nS i1) (nar .boolean (1 : Int32)) (nC0 i4) (nC1 i4) (nC2 i5)), iv (1 : Int32), .val (.long (0 : Int64)), .second, .unset, .unset, .unset] [])) := fun t k => g456 t (by
        refine XS.istore X455.here hx rfl (hb hby at_154) rfl (l' := #[iv i0, iv i1, iv i2, iv i3, .val (.long i4), .second, iv i5, iv (nM i0), iv (nK i1), iv (nB i1), iv (3 : Int32), iv (nC0 i4), iv (nC1 i4), iv (nC2 i5), rv b392, rv na_452, iv (f_ad3 i2 i3 (nM i0) (nS i1) (nar .boolean (1 : Int32)) (nC0 i4) (nC1 i4) (nC2 i5)), .unset, .unset, .unset, .unset, .unset, .unset]) rfl ?_
        show Go p e below t T455 m 156 #[iv i0, iv i1, iv i2, iv i3, .val (.long i4), .second, iv i5, iv (nM i0), iv (nK i1), iv (nB i1), iv (3 : Int32), iv (nC0 i4), iv (nC1 i4), iv (nC2 i5), rv b392, rv na_452, iv (f_ad3 i2 i3 (nM i0) (nS i1) (nar .boolean (1 : Int32)) (nC0 i4) (nC1 i4) (nC2 i5)), .unset, .unset, .unset, .unset, .unset, .unset] []
        refine XT.iconstV X455.here hx rfl (1 : Int32) (hb hby at_156) (by decide) ?_
        show Go p e below t T455 m 157 #[iv i0, iv i1, iv i2, iv i3, .val (.long i4), .second, iv i5, iv (nM i0), iv (nK i1), iv (nB i1), iv (3 : Int32), iv (nC0 i4), iv (nC1 i4), iv (nC2 i5), rv b392, rv na_452, iv (f_ad3 i2 i3 (nM i0) (nS i1) (nar .boolean (1 : Int32)) (nC0 i4) (nC1 i4) (nC2 i5)), .unset, .unset, .unset, .unset, .unset, .unset] [(.int (1 : Int32))]
        refine XS.istore X455.here hx rfl (hb hby at_157) rfl (l' := #[iv i0, iv i1, iv i2, iv i3, .val (.long i4), .second, iv i5, iv (nM i0), iv (nK i1), iv (nB i1), iv (3 : Int32), iv (nC0 i4), iv (nC1 i4), iv (nC2 i5), rv b392, rv na_452, iv (f_ad3 i2 i3 (nM i0) (nS i1) (nar .boolean (1 : Int32)) (nC0 i4) (nC1 i4) (nC2 i5)), iv (1 : Int32), .unset, .unset, .unset, .unset, .unset]) rfl ?_
        show Go p e below t T455 m 159 #[iv i0, iv i1, iv i2, iv i3, .val (.long i4), .second, iv i5, iv (nM i0), iv (nK i1), iv (nB i1), iv (3 : Int32), iv (nC0 i4), iv (nC1 i4), iv (nC2 i5), rv b392, rv na_452, iv (f_ad3 i2 i3 (nM i0) (nS i1) (nar .boolean (1 : Int32)) (nC0 i4) (nC1 i4) (nC2 i5)), iv (1 : Int32), .unset, .unset, .unset, .unset, .unset] []
        refine XT.lconstV X455.here hx rfl (0 : Int64) (hb hby at_159) (by decide) ?_
        show Go p e below t T455 m 160 #[iv i0, iv i1, iv i2, iv i3, .val (.long i4), .second, iv i5, iv (nM i0), iv (nK i1), iv (nB i1), iv (3 : Int32), iv (nC0 i4), iv (nC1 i4), iv (nC2 i5), rv b392, rv na_452, iv (f_ad3 i2 i3 (nM i0) (nS i1) (nar .boolean (1 : Int32)) (nC0 i4) (nC1 i4) (nC2 i5)), iv (1 : Int32), .unset, .unset, .unset, .unset, .unset] [(.long (0 : Int64))]
        refine XS.lstore X455.here hx rfl (hb hby at_160) rfl (l' := #[iv i0, iv i1, iv i2, iv i3, .val (.long i4), .second, iv i5, iv (nM i0), iv (nK i1), iv (nB i1), iv (3 : Int32), iv (nC0 i4), iv (nC1 i4), iv (nC2 i5), rv b392, rv na_452, iv (f_ad3 i2 i3 (nM i0) (nS i1) (nar .boolean (1 : Int32)) (nC0 i4) (nC1 i4) (nC2 i5)), iv (1 : Int32), .val (.long (0 : Int64)), .second, .unset, .unset, .unset]) rfl ?_
        show Go p e below t T455 m 162 #[iv i0, iv i1, iv i2, iv i3, .val (.long i4), .second, iv i5, iv (nM i0), iv (nK i1), iv (nB i1), iv (3 : Int32), iv (nC0 i4), iv (nC1 i4), iv (nC2 i5), rv b392, rv na_452, iv (f_ad3 i2 i3 (nM i0) (nS i1) (nar .boolean (1 : Int32)) (nC0 i4) (nC1 i4) (nC2 i5)), iv (1 : Int32), .val (.long (0 : Int64)), .second, .unset, .unset, .unset] []
        refine XS.iload X455.here hx rfl (hb hby at_162) rfl ?_
        show Go p e below t T455 m 164 #[iv i0, iv i1, iv i2, iv i3, .val (.long i4), .second, iv i5, iv (nM i0), iv (nK i1), iv (nB i1), iv (3 : Int32), iv (nC0 i4), iv (nC1 i4), iv (nC2 i5), rv b392, rv na_452, iv (f_ad3 i2 i3 (nM i0) (nS i1) (nar .boolean (1 : Int32)) (nC0 i4) (nC1 i4) (nC2 i5)), iv (1 : Int32), .val (.long (0 : Int64)), .second, .unset, .unset, .unset] [(.int (3 : Int32))]
        refine XT.iconstV X455.here hx rfl (1 : Int32) (hb hby at_164) (by decide) ?_
        show Go p e below t T455 m 165 #[iv i0, iv i1, iv i2, iv i3, .val (.long i4), .second, iv i5, iv (nM i0), iv (nK i1), iv (nB i1), iv (3 : Int32), iv (nC0 i4), iv (nC1 i4), iv (nC2 i5), rv b392, rv na_452, iv (f_ad3 i2 i3 (nM i0) (nS i1) (nar .boolean (1 : Int32)) (nC0 i4) (nC1 i4) (nC2 i5)), iv (1 : Int32), .val (.long (0 : Int64)), .second, .unset, .unset, .unset] [(.int (1 : Int32)), (.int (3 : Int32))]
        refine XS.icmpNo X455.here hx rfl (hb hby at_165) rfl (XT.ii_lt_f (by decide)) ?_
        show Go p e below t T455 m 168 #[iv i0, iv i1, iv i2, iv i3, .val (.long i4), .second, iv i5, iv (nM i0), iv (nK i1), iv (nB i1), iv (3 : Int32), iv (nC0 i4), iv (nC1 i4), iv (nC2 i5), rv b392, rv na_452, iv (f_ad3 i2 i3 (nM i0) (nS i1) (nar .boolean (1 : Int32)) (nC0 i4) (nC1 i4) (nC2 i5)), iv (1 : Int32), .val (.long (0 : Int64)), .second, .unset, .unset, .unset] []
        exact k)
      have gf458 : Goes p e below S0 (T455.setTop (mkF m 178 #[iv i0, iv i1, iv i2, iv i3, .val (.long i4), .second, iv i5, iv (nM i0), iv (nK i1), iv (nB i1), iv (3 : Int32), iv (nC0 i4), iv (nC1 i4), iv (nC2 i5), rv b392, rv na_452, iv (f_ad3 i2 i3 (nM i0) (nS i1) (nar .boolean (1 : Int32)) (nC0 i4) (nC1 i4) (nC2 i5)), iv (own_all (1 : Int32) (nC0 i4) (nM i0)), .val (.long (0 : Int64)), .second, .unset, .unset, .unset] [])) := by
        have g459 : Goes p e below S0 (T455.setTop (mkF m 172 #[iv i0, iv i1, iv i2, iv i3, .val (.long i4), .second, iv i5, iv (nM i0), iv (nK i1), iv (nB i1), iv (3 : Int32), iv (nC0 i4), iv (nC1 i4), iv (nC2 i5), rv b392, rv na_452, iv (f_ad3 i2 i3 (nM i0) (nS i1) (nar .boolean (1 : Int32)) (nC0 i4) (nC1 i4) (nC2 i5)), iv (1 : Int32), .val (.long (0 : Int64)), .second, .unset, .unset, .unset] [(.int (nM i0)), (.int (nC0 i4))])) := fun t k => g457 t (by
          refine XS.iload X455.here hx rfl (hb hby at_168) rfl ?_
          show Go p e below t T455 m 170 #[iv i0, iv i1, iv i2, iv i3, .val (.long i4), .second, iv i5, iv (nM i0), iv (nK i1), iv (nB i1), iv (3 : Int32), iv (nC0 i4), iv (nC1 i4), iv (nC2 i5), rv b392, rv na_452, iv (f_ad3 i2 i3 (nM i0) (nS i1) (nar .boolean (1 : Int32)) (nC0 i4) (nC1 i4) (nC2 i5)), iv (1 : Int32), .val (.long (0 : Int64)), .second, .unset, .unset, .unset] [(.int (nC0 i4))]
          refine XS.iload X455.here hx rfl (hb hby at_170) rfl ?_
          show Go p e below t T455 m 172 #[iv i0, iv i1, iv i2, iv i3, .val (.long i4), .second, iv i5, iv (nM i0), iv (nK i1), iv (nB i1), iv (3 : Int32), iv (nC0 i4), iv (nC1 i4), iv (nC2 i5), rv b392, rv na_452, iv (f_ad3 i2 i3 (nM i0) (nS i1) (nar .boolean (1 : Int32)) (nC0 i4) (nC1 i4) (nC2 i5)), iv (1 : Int32), .val (.long (0 : Int64)), .second, .unset, .unset, .unset] [(.int (nM i0)), (.int (nC0 i4))]
          exact k)
        by_cases h460 : (nC0 i4) < (nM i0)
        · skip
          have g461 : Goes p e below S0 (T455.setTop (mkF m 178 #[iv i0, iv i1, iv i2, iv i3, .val (.long i4), .second, iv i5, iv (nM i0), iv (nK i1), iv (nB i1), iv (3 : Int32), iv (nC0 i4), iv (nC1 i4), iv (nC2 i5), rv b392, rv na_452, iv (f_ad3 i2 i3 (nM i0) (nS i1) (nar .boolean (1 : Int32)) (nC0 i4) (nC1 i4) (nC2 i5)), iv (0 : Int32), .val (.long (0 : Int64)), .second, .unset, .unset, .unset] [])) := fun t k => g459 t (by
            refine XS.icmpNo X455.here hx rfl (hb hby at_172) rfl (XT.ii_ge_f h460) ?_
            show Go p e below t T455 m 175 #[iv i0, iv i1, iv i2, iv i3, .val (.long i4), .second, iv i5, iv (nM i0), iv (nK i1), iv (nB i1), iv (3 : Int32), iv (nC0 i4), iv (nC1 i4), iv (nC2 i5), rv b392, rv na_452, iv (f_ad3 i2 i3 (nM i0) (nS i1) (nar .boolean (1 : Int32)) (nC0 i4) (nC1 i4) (nC2 i5)), iv (1 : Int32), .val (.long (0 : Int64)), .second, .unset, .unset, .unset] []
            refine XT.iconstV X455.here hx rfl (0 : Int32) (hb hby at_175) (by decide) ?_
            show Go p e below t T455 m 176 #[iv i0, iv i1, iv i2, iv i3, .val (.long i4), .second, iv i5, iv (nM i0), iv (nK i1), iv (nB i1), iv (3 : Int32), iv (nC0 i4), iv (nC1 i4), iv (nC2 i5), rv b392, rv na_452, iv (f_ad3 i2 i3 (nM i0) (nS i1) (nar .boolean (1 : Int32)) (nC0 i4) (nC1 i4) (nC2 i5)), iv (1 : Int32), .val (.long (0 : Int64)), .second, .unset, .unset, .unset] [(.int (0 : Int32))]
            refine XS.istore X455.here hx rfl (hb hby at_176) rfl (l' := #[iv i0, iv i1, iv i2, iv i3, .val (.long i4), .second, iv i5, iv (nM i0), iv (nK i1), iv (nB i1), iv (3 : Int32), iv (nC0 i4), iv (nC1 i4), iv (nC2 i5), rv b392, rv na_452, iv (f_ad3 i2 i3 (nM i0) (nS i1) (nar .boolean (1 : Int32)) (nC0 i4) (nC1 i4) (nC2 i5)), iv (0 : Int32), .val (.long (0 : Int64)), .second, .unset, .unset, .unset]) rfl ?_
            show Go p e below t T455 m 178 #[iv i0, iv i1, iv i2, iv i3, .val (.long i4), .second, iv i5, iv (nM i0), iv (nK i1), iv (nB i1), iv (3 : Int32), iv (nC0 i4), iv (nC1 i4), iv (nC2 i5), rv b392, rv na_452, iv (f_ad3 i2 i3 (nM i0) (nS i1) (nar .boolean (1 : Int32)) (nC0 i4) (nC1 i4) (nC2 i5)), iv (0 : Int32), .val (.long (0 : Int64)), .second, .unset, .unset, .unset] []
            exact k)
          have e458_0 : (own_all (1 : Int32) (nC0 i4) (nM i0)) = (0 : Int32) := by first | exact if_pos h460 | (unfold own_all; first | (rw [if_pos h460]; done) | (simp [h460]; done) | (rw [if_pos h460]; decide))
          rw [e458_0]; exact g461
        · skip
          have g462 : Goes p e below S0 (T455.setTop (mkF m 178 #[iv i0, iv i1, iv i2, iv i3, .val (.long i4), .second, iv i5, iv (nM i0), iv (nK i1), iv (nB i1), iv (3 : Int32), iv (nC0 i4), iv (nC1 i4), iv (nC2 i5), rv b392, rv na_452, iv (f_ad3 i2 i3 (nM i0) (nS i1) (nar .boolean (1 : Int32)) (nC0 i4) (nC1 i4) (nC2 i5)), iv (1 : Int32), .val (.long (0 : Int64)), .second, .unset, .unset, .unset] [])) := fun t k => g459 t (by
            refine XS.icmpYes X455.here hx rfl (pc0 := 172) (pc' := 178) rfl (hb hby at_172) rfl (XT.ii_ge_t h460) (by decide) (by decide) ?_
            show Go p e below t T455 m 178 #[iv i0, iv i1, iv i2, iv i3, .val (.long i4), .second, iv i5, iv (nM i0), iv (nK i1), iv (nB i1), iv (3 : Int32), iv (nC0 i4), iv (nC1 i4), iv (nC2 i5), rv b392, rv na_452, iv (f_ad3 i2 i3 (nM i0) (nS i1) (nar .boolean (1 : Int32)) (nC0 i4) (nC1 i4) (nC2 i5)), iv (1 : Int32), .val (.long (0 : Int64)), .second, .unset, .unset, .unset] []
            exact k)
          have e458_0 : (own_all (1 : Int32) (nC0 i4) (nM i0)) = (1 : Int32) := by first | exact if_neg h460 | (unfold own_all; first | (rw [if_neg h460]; done) | (simp [h460]; done) | (rw [if_neg h460]; decide))
          rw [e458_0]; exact g462
      have g463 : Goes p e below S0 (T455.setTop (mkF m 192 #[iv i0, iv i1, iv i2, iv i3, .val (.long i4), .second, iv i5, iv (nM i0), iv (nK i1), iv (nB i1), iv (3 : Int32), iv (nC0 i4), iv (nC1 i4), iv (nC2 i5), rv b392, rv na_452, iv (f_ad3 i2 i3 (nM i0) (nS i1) (nar .boolean (1 : Int32)) (nC0 i4) (nC1 i4) (nC2 i5)), iv (own_all (1 : Int32) (nC0 i4) (nM i0)), .val (.long ((0 : Int64) + ((nC0 i4).toInt64))), .second, .unset, .unset, .unset] [])) := fun t k => gf458 t (by
        refine XS.lload X455.here hx rfl (hb hby at_178) rfl ?_
        show Go p e below t T455 m 180 #[iv i0, iv i1, iv i2, iv i3, .val (.long i4), .second, iv i5, iv (nM i0), iv (nK i1), iv (nB i1), iv (3 : Int32), iv (nC0 i4), iv (nC1 i4), iv (nC2 i5), rv b392, rv na_452, iv (f_ad3 i2 i3 (nM i0) (nS i1) (nar .boolean (1 : Int32)) (nC0 i4) (nC1 i4) (nC2 i5)), iv (own_all (1 : Int32) (nC0 i4) (nM i0)), .val (.long (0 : Int64)), .second, .unset, .unset, .unset] [(.long (0 : Int64))]
        refine XS.iload X455.here hx rfl (hb hby at_180) rfl ?_
        show Go p e below t T455 m 182 #[iv i0, iv i1, iv i2, iv i3, .val (.long i4), .second, iv i5, iv (nM i0), iv (nK i1), iv (nB i1), iv (3 : Int32), iv (nC0 i4), iv (nC1 i4), iv (nC2 i5), rv b392, rv na_452, iv (f_ad3 i2 i3 (nM i0) (nS i1) (nar .boolean (1 : Int32)) (nC0 i4) (nC1 i4) (nC2 i5)), iv (own_all (1 : Int32) (nC0 i4) (nM i0)), .val (.long (0 : Int64)), .second, .unset, .unset, .unset] [(.int (nC0 i4)), (.long (0 : Int64))]
        refine XS.i2l X455.here hx rfl (hb hby at_182) rfl ?_
        show Go p e below t T455 m 183 #[iv i0, iv i1, iv i2, iv i3, .val (.long i4), .second, iv i5, iv (nM i0), iv (nK i1), iv (nB i1), iv (3 : Int32), iv (nC0 i4), iv (nC1 i4), iv (nC2 i5), rv b392, rv na_452, iv (f_ad3 i2 i3 (nM i0) (nS i1) (nar .boolean (1 : Int32)) (nC0 i4) (nC1 i4) (nC2 i5)), iv (own_all (1 : Int32) (nC0 i4) (nM i0)), .val (.long (0 : Int64)), .second, .unset, .unset, .unset] [(.long ((nC0 i4).toInt64)), (.long (0 : Int64))]
        refine XS.ladd X455.here hx rfl (hb hby at_183) rfl ?_
        show Go p e below t T455 m 184 #[iv i0, iv i1, iv i2, iv i3, .val (.long i4), .second, iv i5, iv (nM i0), iv (nK i1), iv (nB i1), iv (3 : Int32), iv (nC0 i4), iv (nC1 i4), iv (nC2 i5), rv b392, rv na_452, iv (f_ad3 i2 i3 (nM i0) (nS i1) (nar .boolean (1 : Int32)) (nC0 i4) (nC1 i4) (nC2 i5)), iv (own_all (1 : Int32) (nC0 i4) (nM i0)), .val (.long (0 : Int64)), .second, .unset, .unset, .unset] [(.long ((0 : Int64) + ((nC0 i4).toInt64)))]
        refine XS.lstore X455.here hx rfl (hb hby at_184) rfl (l' := #[iv i0, iv i1, iv i2, iv i3, .val (.long i4), .second, iv i5, iv (nM i0), iv (nK i1), iv (nB i1), iv (3 : Int32), iv (nC0 i4), iv (nC1 i4), iv (nC2 i5), rv b392, rv na_452, iv (f_ad3 i2 i3 (nM i0) (nS i1) (nar .boolean (1 : Int32)) (nC0 i4) (nC1 i4) (nC2 i5)), iv (own_all (1 : Int32) (nC0 i4) (nM i0)), .val (.long ((0 : Int64) + ((nC0 i4).toInt64))), .second, .unset, .unset, .unset]) rfl ?_
        show Go p e below t T455 m 186 #[iv i0, iv i1, iv i2, iv i3, .val (.long i4), .second, iv i5, iv (nM i0), iv (nK i1), iv (nB i1), iv (3 : Int32), iv (nC0 i4), iv (nC1 i4), iv (nC2 i5), rv b392, rv na_452, iv (f_ad3 i2 i3 (nM i0) (nS i1) (nar .boolean (1 : Int32)) (nC0 i4) (nC1 i4) (nC2 i5)), iv (own_all (1 : Int32) (nC0 i4) (nM i0)), .val (.long ((0 : Int64) + ((nC0 i4).toInt64))), .second, .unset, .unset, .unset] []
        refine XS.iload X455.here hx rfl (hb hby at_186) rfl ?_
        show Go p e below t T455 m 188 #[iv i0, iv i1, iv i2, iv i3, .val (.long i4), .second, iv i5, iv (nM i0), iv (nK i1), iv (nB i1), iv (3 : Int32), iv (nC0 i4), iv (nC1 i4), iv (nC2 i5), rv b392, rv na_452, iv (f_ad3 i2 i3 (nM i0) (nS i1) (nar .boolean (1 : Int32)) (nC0 i4) (nC1 i4) (nC2 i5)), iv (own_all (1 : Int32) (nC0 i4) (nM i0)), .val (.long ((0 : Int64) + ((nC0 i4).toInt64))), .second, .unset, .unset, .unset] [(.int (3 : Int32))]
        refine XT.iconstV X455.here hx rfl (2 : Int32) (hb hby at_188) (by decide) ?_
        show Go p e below t T455 m 189 #[iv i0, iv i1, iv i2, iv i3, .val (.long i4), .second, iv i5, iv (nM i0), iv (nK i1), iv (nB i1), iv (3 : Int32), iv (nC0 i4), iv (nC1 i4), iv (nC2 i5), rv b392, rv na_452, iv (f_ad3 i2 i3 (nM i0) (nS i1) (nar .boolean (1 : Int32)) (nC0 i4) (nC1 i4) (nC2 i5)), iv (own_all (1 : Int32) (nC0 i4) (nM i0)), .val (.long ((0 : Int64) + ((nC0 i4).toInt64))), .second, .unset, .unset, .unset] [(.int (2 : Int32)), (.int (3 : Int32))]
        refine XS.icmpNo X455.here hx rfl (hb hby at_189) rfl (XT.ii_lt_f (by decide)) ?_
        show Go p e below t T455 m 192 #[iv i0, iv i1, iv i2, iv i3, .val (.long i4), .second, iv i5, iv (nM i0), iv (nK i1), iv (nB i1), iv (3 : Int32), iv (nC0 i4), iv (nC1 i4), iv (nC2 i5), rv b392, rv na_452, iv (f_ad3 i2 i3 (nM i0) (nS i1) (nar .boolean (1 : Int32)) (nC0 i4) (nC1 i4) (nC2 i5)), iv (own_all (1 : Int32) (nC0 i4) (nM i0)), .val (.long ((0 : Int64) + ((nC0 i4).toInt64))), .second, .unset, .unset, .unset] []
        exact k)
      have gf464 : Goes p e below S0 (T455.setTop (mkF m 202 #[iv i0, iv i1, iv i2, iv i3, .val (.long i4), .second, iv i5, iv (nM i0), iv (nK i1), iv (nB i1), iv (3 : Int32), iv (nC0 i4), iv (nC1 i4), iv (nC2 i5), rv b392, rv na_452, iv (f_ad3 i2 i3 (nM i0) (nS i1) (nar .boolean (1 : Int32)) (nC0 i4) (nC1 i4) (nC2 i5)), iv (own_all (own_all (1 : Int32) (nC0 i4) (nM i0)) (nC1 i4) (nM i0)), .val (.long ((0 : Int64) + ((nC0 i4).toInt64))), .second, .unset, .unset, .unset] [])) := by
        have g465 : Goes p e below S0 (T455.setTop (mkF m 196 #[iv i0, iv i1, iv i2, iv i3, .val (.long i4), .second, iv i5, iv (nM i0), iv (nK i1), iv (nB i1), iv (3 : Int32), iv (nC0 i4), iv (nC1 i4), iv (nC2 i5), rv b392, rv na_452, iv (f_ad3 i2 i3 (nM i0) (nS i1) (nar .boolean (1 : Int32)) (nC0 i4) (nC1 i4) (nC2 i5)), iv (own_all (1 : Int32) (nC0 i4) (nM i0)), .val (.long ((0 : Int64) + ((nC0 i4).toInt64))), .second, .unset, .unset, .unset] [(.int (nM i0)), (.int (nC1 i4))])) := fun t k => g463 t (by
          refine XS.iload X455.here hx rfl (hb hby at_192) rfl ?_
          show Go p e below t T455 m 194 #[iv i0, iv i1, iv i2, iv i3, .val (.long i4), .second, iv i5, iv (nM i0), iv (nK i1), iv (nB i1), iv (3 : Int32), iv (nC0 i4), iv (nC1 i4), iv (nC2 i5), rv b392, rv na_452, iv (f_ad3 i2 i3 (nM i0) (nS i1) (nar .boolean (1 : Int32)) (nC0 i4) (nC1 i4) (nC2 i5)), iv (own_all (1 : Int32) (nC0 i4) (nM i0)), .val (.long ((0 : Int64) + ((nC0 i4).toInt64))), .second, .unset, .unset, .unset] [(.int (nC1 i4))]
          refine XS.iload X455.here hx rfl (hb hby at_194) rfl ?_
          show Go p e below t T455 m 196 #[iv i0, iv i1, iv i2, iv i3, .val (.long i4), .second, iv i5, iv (nM i0), iv (nK i1), iv (nB i1), iv (3 : Int32), iv (nC0 i4), iv (nC1 i4), iv (nC2 i5), rv b392, rv na_452, iv (f_ad3 i2 i3 (nM i0) (nS i1) (nar .boolean (1 : Int32)) (nC0 i4) (nC1 i4) (nC2 i5)), iv (own_all (1 : Int32) (nC0 i4) (nM i0)), .val (.long ((0 : Int64) + ((nC0 i4).toInt64))), .second, .unset, .unset, .unset] [(.int (nM i0)), (.int (nC1 i4))]
          exact k)
        by_cases h466 : (nC1 i4) < (nM i0)
        · skip
          have g467 : Goes p e below S0 (T455.setTop (mkF m 202 #[iv i0, iv i1, iv i2, iv i3, .val (.long i4), .second, iv i5, iv (nM i0), iv (nK i1), iv (nB i1), iv (3 : Int32), iv (nC0 i4), iv (nC1 i4), iv (nC2 i5), rv b392, rv na_452, iv (f_ad3 i2 i3 (nM i0) (nS i1) (nar .boolean (1 : Int32)) (nC0 i4) (nC1 i4) (nC2 i5)), iv (0 : Int32), .val (.long ((0 : Int64) + ((nC0 i4).toInt64))), .second, .unset, .unset, .unset] [])) := fun t k => g465 t (by
            refine XS.icmpNo X455.here hx rfl (hb hby at_196) rfl (XT.ii_ge_f h466) ?_
            show Go p e below t T455 m 199 #[iv i0, iv i1, iv i2, iv i3, .val (.long i4), .second, iv i5, iv (nM i0), iv (nK i1), iv (nB i1), iv (3 : Int32), iv (nC0 i4), iv (nC1 i4), iv (nC2 i5), rv b392, rv na_452, iv (f_ad3 i2 i3 (nM i0) (nS i1) (nar .boolean (1 : Int32)) (nC0 i4) (nC1 i4) (nC2 i5)), iv (own_all (1 : Int32) (nC0 i4) (nM i0)), .val (.long ((0 : Int64) + ((nC0 i4).toInt64))), .second, .unset, .unset, .unset] []
            refine XT.iconstV X455.here hx rfl (0 : Int32) (hb hby at_199) (by decide) ?_
            show Go p e below t T455 m 200 #[iv i0, iv i1, iv i2, iv i3, .val (.long i4), .second, iv i5, iv (nM i0), iv (nK i1), iv (nB i1), iv (3 : Int32), iv (nC0 i4), iv (nC1 i4), iv (nC2 i5), rv b392, rv na_452, iv (f_ad3 i2 i3 (nM i0) (nS i1) (nar .boolean (1 : Int32)) (nC0 i4) (nC1 i4) (nC2 i5)), iv (own_all (1 : Int32) (nC0 i4) (nM i0)), .val (.long ((0 : Int64) + ((nC0 i4).toInt64))), .second, .unset, .unset, .unset] [(.int (0 : Int32))]
            refine XS.istore X455.here hx rfl (hb hby at_200) rfl (l' := #[iv i0, iv i1, iv i2, iv i3, .val (.long i4), .second, iv i5, iv (nM i0), iv (nK i1), iv (nB i1), iv (3 : Int32), iv (nC0 i4), iv (nC1 i4), iv (nC2 i5), rv b392, rv na_452, iv (f_ad3 i2 i3 (nM i0) (nS i1) (nar .boolean (1 : Int32)) (nC0 i4) (nC1 i4) (nC2 i5)), iv (0 : Int32), .val (.long ((0 : Int64) + ((nC0 i4).toInt64))), .second, .unset, .unset, .unset]) rfl ?_
            show Go p e below t T455 m 202 #[iv i0, iv i1, iv i2, iv i3, .val (.long i4), .second, iv i5, iv (nM i0), iv (nK i1), iv (nB i1), iv (3 : Int32), iv (nC0 i4), iv (nC1 i4), iv (nC2 i5), rv b392, rv na_452, iv (f_ad3 i2 i3 (nM i0) (nS i1) (nar .boolean (1 : Int32)) (nC0 i4) (nC1 i4) (nC2 i5)), iv (0 : Int32), .val (.long ((0 : Int64) + ((nC0 i4).toInt64))), .second, .unset, .unset, .unset] []
            exact k)
          have e464_0 : (own_all (own_all (1 : Int32) (nC0 i4) (nM i0)) (nC1 i4) (nM i0)) = (0 : Int32) := by first | exact if_pos h466 | (unfold own_all; first | (rw [if_pos h466]; done) | (simp [h466]; done) | (rw [if_pos h466]; decide))
          rw [e464_0]; exact g467
        · skip
          have g468 : Goes p e below S0 (T455.setTop (mkF m 202 #[iv i0, iv i1, iv i2, iv i3, .val (.long i4), .second, iv i5, iv (nM i0), iv (nK i1), iv (nB i1), iv (3 : Int32), iv (nC0 i4), iv (nC1 i4), iv (nC2 i5), rv b392, rv na_452, iv (f_ad3 i2 i3 (nM i0) (nS i1) (nar .boolean (1 : Int32)) (nC0 i4) (nC1 i4) (nC2 i5)), iv (own_all (1 : Int32) (nC0 i4) (nM i0)), .val (.long ((0 : Int64) + ((nC0 i4).toInt64))), .second, .unset, .unset, .unset] [])) := fun t k => g465 t (by
            refine XS.icmpYes X455.here hx rfl (pc0 := 196) (pc' := 202) rfl (hb hby at_196) rfl (XT.ii_ge_t h466) (by decide) (by decide) ?_
            show Go p e below t T455 m 202 #[iv i0, iv i1, iv i2, iv i3, .val (.long i4), .second, iv i5, iv (nM i0), iv (nK i1), iv (nB i1), iv (3 : Int32), iv (nC0 i4), iv (nC1 i4), iv (nC2 i5), rv b392, rv na_452, iv (f_ad3 i2 i3 (nM i0) (nS i1) (nar .boolean (1 : Int32)) (nC0 i4) (nC1 i4) (nC2 i5)), iv (own_all (1 : Int32) (nC0 i4) (nM i0)), .val (.long ((0 : Int64) + ((nC0 i4).toInt64))), .second, .unset, .unset, .unset] []
            exact k)
          have e464_0 : (own_all (own_all (1 : Int32) (nC0 i4) (nM i0)) (nC1 i4) (nM i0)) = (own_all (1 : Int32) (nC0 i4) (nM i0)) := by first | exact if_neg h466 | (unfold own_all; first | (rw [if_neg h466]; done) | (simp [h466]; done) | (rw [if_neg h466]; decide))
          rw [e464_0]; exact g468
      have g469 : Goes p e below S0 (T455.setTop (mkF m 216 #[iv i0, iv i1, iv i2, iv i3, .val (.long i4), .second, iv i5, iv (nM i0), iv (nK i1), iv (nB i1), iv (3 : Int32), iv (nC0 i4), iv (nC1 i4), iv (nC2 i5), rv b392, rv na_452, iv (f_ad3 i2 i3 (nM i0) (nS i1) (nar .boolean (1 : Int32)) (nC0 i4) (nC1 i4) (nC2 i5)), iv (own_all (own_all (1 : Int32) (nC0 i4) (nM i0)) (nC1 i4) (nM i0)), .val (.long (((0 : Int64) + ((nC0 i4).toInt64)) + ((nC1 i4).toInt64))), .second, .unset, .unset, .unset] [])) := fun t k => gf464 t (by
        refine XS.lload X455.here hx rfl (hb hby at_202) rfl ?_
        show Go p e below t T455 m 204 #[iv i0, iv i1, iv i2, iv i3, .val (.long i4), .second, iv i5, iv (nM i0), iv (nK i1), iv (nB i1), iv (3 : Int32), iv (nC0 i4), iv (nC1 i4), iv (nC2 i5), rv b392, rv na_452, iv (f_ad3 i2 i3 (nM i0) (nS i1) (nar .boolean (1 : Int32)) (nC0 i4) (nC1 i4) (nC2 i5)), iv (own_all (own_all (1 : Int32) (nC0 i4) (nM i0)) (nC1 i4) (nM i0)), .val (.long ((0 : Int64) + ((nC0 i4).toInt64))), .second, .unset, .unset, .unset] [(.long ((0 : Int64) + ((nC0 i4).toInt64)))]
        refine XS.iload X455.here hx rfl (hb hby at_204) rfl ?_
        show Go p e below t T455 m 206 #[iv i0, iv i1, iv i2, iv i3, .val (.long i4), .second, iv i5, iv (nM i0), iv (nK i1), iv (nB i1), iv (3 : Int32), iv (nC0 i4), iv (nC1 i4), iv (nC2 i5), rv b392, rv na_452, iv (f_ad3 i2 i3 (nM i0) (nS i1) (nar .boolean (1 : Int32)) (nC0 i4) (nC1 i4) (nC2 i5)), iv (own_all (own_all (1 : Int32) (nC0 i4) (nM i0)) (nC1 i4) (nM i0)), .val (.long ((0 : Int64) + ((nC0 i4).toInt64))), .second, .unset, .unset, .unset] [(.int (nC1 i4)), (.long ((0 : Int64) + ((nC0 i4).toInt64)))]
        refine XS.i2l X455.here hx rfl (hb hby at_206) rfl ?_
        show Go p e below t T455 m 207 #[iv i0, iv i1, iv i2, iv i3, .val (.long i4), .second, iv i5, iv (nM i0), iv (nK i1), iv (nB i1), iv (3 : Int32), iv (nC0 i4), iv (nC1 i4), iv (nC2 i5), rv b392, rv na_452, iv (f_ad3 i2 i3 (nM i0) (nS i1) (nar .boolean (1 : Int32)) (nC0 i4) (nC1 i4) (nC2 i5)), iv (own_all (own_all (1 : Int32) (nC0 i4) (nM i0)) (nC1 i4) (nM i0)), .val (.long ((0 : Int64) + ((nC0 i4).toInt64))), .second, .unset, .unset, .unset] [(.long ((nC1 i4).toInt64)), (.long ((0 : Int64) + ((nC0 i4).toInt64)))]
        refine XS.ladd X455.here hx rfl (hb hby at_207) rfl ?_
        show Go p e below t T455 m 208 #[iv i0, iv i1, iv i2, iv i3, .val (.long i4), .second, iv i5, iv (nM i0), iv (nK i1), iv (nB i1), iv (3 : Int32), iv (nC0 i4), iv (nC1 i4), iv (nC2 i5), rv b392, rv na_452, iv (f_ad3 i2 i3 (nM i0) (nS i1) (nar .boolean (1 : Int32)) (nC0 i4) (nC1 i4) (nC2 i5)), iv (own_all (own_all (1 : Int32) (nC0 i4) (nM i0)) (nC1 i4) (nM i0)), .val (.long ((0 : Int64) + ((nC0 i4).toInt64))), .second, .unset, .unset, .unset] [(.long (((0 : Int64) + ((nC0 i4).toInt64)) + ((nC1 i4).toInt64)))]
        refine XS.lstore X455.here hx rfl (hb hby at_208) rfl (l' := #[iv i0, iv i1, iv i2, iv i3, .val (.long i4), .second, iv i5, iv (nM i0), iv (nK i1), iv (nB i1), iv (3 : Int32), iv (nC0 i4), iv (nC1 i4), iv (nC2 i5), rv b392, rv na_452, iv (f_ad3 i2 i3 (nM i0) (nS i1) (nar .boolean (1 : Int32)) (nC0 i4) (nC1 i4) (nC2 i5)), iv (own_all (own_all (1 : Int32) (nC0 i4) (nM i0)) (nC1 i4) (nM i0)), .val (.long (((0 : Int64) + ((nC0 i4).toInt64)) + ((nC1 i4).toInt64))), .second, .unset, .unset, .unset]) rfl ?_
        show Go p e below t T455 m 210 #[iv i0, iv i1, iv i2, iv i3, .val (.long i4), .second, iv i5, iv (nM i0), iv (nK i1), iv (nB i1), iv (3 : Int32), iv (nC0 i4), iv (nC1 i4), iv (nC2 i5), rv b392, rv na_452, iv (f_ad3 i2 i3 (nM i0) (nS i1) (nar .boolean (1 : Int32)) (nC0 i4) (nC1 i4) (nC2 i5)), iv (own_all (own_all (1 : Int32) (nC0 i4) (nM i0)) (nC1 i4) (nM i0)), .val (.long (((0 : Int64) + ((nC0 i4).toInt64)) + ((nC1 i4).toInt64))), .second, .unset, .unset, .unset] []
        refine XS.iload X455.here hx rfl (hb hby at_210) rfl ?_
        show Go p e below t T455 m 212 #[iv i0, iv i1, iv i2, iv i3, .val (.long i4), .second, iv i5, iv (nM i0), iv (nK i1), iv (nB i1), iv (3 : Int32), iv (nC0 i4), iv (nC1 i4), iv (nC2 i5), rv b392, rv na_452, iv (f_ad3 i2 i3 (nM i0) (nS i1) (nar .boolean (1 : Int32)) (nC0 i4) (nC1 i4) (nC2 i5)), iv (own_all (own_all (1 : Int32) (nC0 i4) (nM i0)) (nC1 i4) (nM i0)), .val (.long (((0 : Int64) + ((nC0 i4).toInt64)) + ((nC1 i4).toInt64))), .second, .unset, .unset, .unset] [(.int (3 : Int32))]
        refine XT.iconstV X455.here hx rfl (3 : Int32) (hb hby at_212) (by decide) ?_
        show Go p e below t T455 m 213 #[iv i0, iv i1, iv i2, iv i3, .val (.long i4), .second, iv i5, iv (nM i0), iv (nK i1), iv (nB i1), iv (3 : Int32), iv (nC0 i4), iv (nC1 i4), iv (nC2 i5), rv b392, rv na_452, iv (f_ad3 i2 i3 (nM i0) (nS i1) (nar .boolean (1 : Int32)) (nC0 i4) (nC1 i4) (nC2 i5)), iv (own_all (own_all (1 : Int32) (nC0 i4) (nM i0)) (nC1 i4) (nM i0)), .val (.long (((0 : Int64) + ((nC0 i4).toInt64)) + ((nC1 i4).toInt64))), .second, .unset, .unset, .unset] [(.int (3 : Int32)), (.int (3 : Int32))]
        refine XS.icmpNo X455.here hx rfl (hb hby at_213) rfl (XT.ii_lt_f (by decide)) ?_
        show Go p e below t T455 m 216 #[iv i0, iv i1, iv i2, iv i3, .val (.long i4), .second, iv i5, iv (nM i0), iv (nK i1), iv (nB i1), iv (3 : Int32), iv (nC0 i4), iv (nC1 i4), iv (nC2 i5), rv b392, rv na_452, iv (f_ad3 i2 i3 (nM i0) (nS i1) (nar .boolean (1 : Int32)) (nC0 i4) (nC1 i4) (nC2 i5)), iv (own_all (own_all (1 : Int32) (nC0 i4) (nM i0)) (nC1 i4) (nM i0)), .val (.long (((0 : Int64) + ((nC0 i4).toInt64)) + ((nC1 i4).toInt64))), .second, .unset, .unset, .unset] []
        exact k)
      have gf470 : Goes p e below S0 (T455.setTop (mkF m 226 #[iv i0, iv i1, iv i2, iv i3, .val (.long i4), .second, iv i5, iv (nM i0), iv (nK i1), iv (nB i1), iv (3 : Int32), iv (nC0 i4), iv (nC1 i4), iv (nC2 i5), rv b392, rv na_452, iv (f_ad3 i2 i3 (nM i0) (nS i1) (nar .boolean (1 : Int32)) (nC0 i4) (nC1 i4) (nC2 i5)), iv (own_all (own_all (own_all (1 : Int32) (nC0 i4) (nM i0)) (nC1 i4) (nM i0)) (nC2 i5) (nM i0)), .val (.long (((0 : Int64) + ((nC0 i4).toInt64)) + ((nC1 i4).toInt64))), .second, .unset, .unset, .unset] [])) := by
        have g471 : Goes p e below S0 (T455.setTop (mkF m 220 #[iv i0, iv i1, iv i2, iv i3, .val (.long i4), .second, iv i5, iv (nM i0), iv (nK i1), iv (nB i1), iv (3 : Int32), iv (nC0 i4), iv (nC1 i4), iv (nC2 i5), rv b392, rv na_452, iv (f_ad3 i2 i3 (nM i0) (nS i1) (nar .boolean (1 : Int32)) (nC0 i4) (nC1 i4) (nC2 i5)), iv (own_all (own_all (1 : Int32) (nC0 i4) (nM i0)) (nC1 i4) (nM i0)), .val (.long (((0 : Int64) + ((nC0 i4).toInt64)) + ((nC1 i4).toInt64))), .second, .unset, .unset, .unset] [(.int (nM i0)), (.int (nC2 i5))])) := fun t k => g469 t (by
          refine XS.iload X455.here hx rfl (hb hby at_216) rfl ?_
          show Go p e below t T455 m 218 #[iv i0, iv i1, iv i2, iv i3, .val (.long i4), .second, iv i5, iv (nM i0), iv (nK i1), iv (nB i1), iv (3 : Int32), iv (nC0 i4), iv (nC1 i4), iv (nC2 i5), rv b392, rv na_452, iv (f_ad3 i2 i3 (nM i0) (nS i1) (nar .boolean (1 : Int32)) (nC0 i4) (nC1 i4) (nC2 i5)), iv (own_all (own_all (1 : Int32) (nC0 i4) (nM i0)) (nC1 i4) (nM i0)), .val (.long (((0 : Int64) + ((nC0 i4).toInt64)) + ((nC1 i4).toInt64))), .second, .unset, .unset, .unset] [(.int (nC2 i5))]
          refine XS.iload X455.here hx rfl (hb hby at_218) rfl ?_
          show Go p e below t T455 m 220 #[iv i0, iv i1, iv i2, iv i3, .val (.long i4), .second, iv i5, iv (nM i0), iv (nK i1), iv (nB i1), iv (3 : Int32), iv (nC0 i4), iv (nC1 i4), iv (nC2 i5), rv b392, rv na_452, iv (f_ad3 i2 i3 (nM i0) (nS i1) (nar .boolean (1 : Int32)) (nC0 i4) (nC1 i4) (nC2 i5)), iv (own_all (own_all (1 : Int32) (nC0 i4) (nM i0)) (nC1 i4) (nM i0)), .val (.long (((0 : Int64) + ((nC0 i4).toInt64)) + ((nC1 i4).toInt64))), .second, .unset, .unset, .unset] [(.int (nM i0)), (.int (nC2 i5))]
          exact k)
        by_cases h472 : (nC2 i5) < (nM i0)
        · skip
          have g473 : Goes p e below S0 (T455.setTop (mkF m 226 #[iv i0, iv i1, iv i2, iv i3, .val (.long i4), .second, iv i5, iv (nM i0), iv (nK i1), iv (nB i1), iv (3 : Int32), iv (nC0 i4), iv (nC1 i4), iv (nC2 i5), rv b392, rv na_452, iv (f_ad3 i2 i3 (nM i0) (nS i1) (nar .boolean (1 : Int32)) (nC0 i4) (nC1 i4) (nC2 i5)), iv (0 : Int32), .val (.long (((0 : Int64) + ((nC0 i4).toInt64)) + ((nC1 i4).toInt64))), .second, .unset, .unset, .unset] [])) := fun t k => g471 t (by
            refine XS.icmpNo X455.here hx rfl (hb hby at_220) rfl (XT.ii_ge_f h472) ?_
            show Go p e below t T455 m 223 #[iv i0, iv i1, iv i2, iv i3, .val (.long i4), .second, iv i5, iv (nM i0), iv (nK i1), iv (nB i1), iv (3 : Int32), iv (nC0 i4), iv (nC1 i4), iv (nC2 i5), rv b392, rv na_452, iv (f_ad3 i2 i3 (nM i0) (nS i1) (nar .boolean (1 : Int32)) (nC0 i4) (nC1 i4) (nC2 i5)), iv (own_all (own_all (1 : Int32) (nC0 i4) (nM i0)) (nC1 i4) (nM i0)), .val (.long (((0 : Int64) + ((nC0 i4).toInt64)) + ((nC1 i4).toInt64))), .second, .unset, .unset, .unset] []
            refine XT.iconstV X455.here hx rfl (0 : Int32) (hb hby at_223) (by decide) ?_
            show Go p e below t T455 m 224 #[iv i0, iv i1, iv i2, iv i3, .val (.long i4), .second, iv i5, iv (nM i0), iv (nK i1), iv (nB i1), iv (3 : Int32), iv (nC0 i4), iv (nC1 i4), iv (nC2 i5), rv b392, rv na_452, iv (f_ad3 i2 i3 (nM i0) (nS i1) (nar .boolean (1 : Int32)) (nC0 i4) (nC1 i4) (nC2 i5)), iv (own_all (own_all (1 : Int32) (nC0 i4) (nM i0)) (nC1 i4) (nM i0)), .val (.long (((0 : Int64) + ((nC0 i4).toInt64)) + ((nC1 i4).toInt64))), .second, .unset, .unset, .unset] [(.int (0 : Int32))]
            refine XS.istore X455.here hx rfl (hb hby at_224) rfl (l' := #[iv i0, iv i1, iv i2, iv i3, .val (.long i4), .second, iv i5, iv (nM i0), iv (nK i1), iv (nB i1), iv (3 : Int32), iv (nC0 i4), iv (nC1 i4), iv (nC2 i5), rv b392, rv na_452, iv (f_ad3 i2 i3 (nM i0) (nS i1) (nar .boolean (1 : Int32)) (nC0 i4) (nC1 i4) (nC2 i5)), iv (0 : Int32), .val (.long (((0 : Int64) + ((nC0 i4).toInt64)) + ((nC1 i4).toInt64))), .second, .unset, .unset, .unset]) rfl ?_
            show Go p e below t T455 m 226 #[iv i0, iv i1, iv i2, iv i3, .val (.long i4), .second, iv i5, iv (nM i0), iv (nK i1), iv (nB i1), iv (3 : Int32), iv (nC0 i4), iv (nC1 i4), iv (nC2 i5), rv b392, rv na_452, iv (f_ad3 i2 i3 (nM i0) (nS i1) (nar .boolean (1 : Int32)) (nC0 i4) (nC1 i4) (nC2 i5)), iv (0 : Int32), .val (.long (((0 : Int64) + ((nC0 i4).toInt64)) + ((nC1 i4).toInt64))), .second, .unset, .unset, .unset] []
            exact k)
          have e470_0 : (own_all (own_all (own_all (1 : Int32) (nC0 i4) (nM i0)) (nC1 i4) (nM i0)) (nC2 i5) (nM i0)) = (0 : Int32) := by first | exact if_pos h472 | (unfold own_all; first | (rw [if_pos h472]; done) | (simp [h472]; done) | (rw [if_pos h472]; decide))
          rw [e470_0]; exact g473
        · skip
          have g474 : Goes p e below S0 (T455.setTop (mkF m 226 #[iv i0, iv i1, iv i2, iv i3, .val (.long i4), .second, iv i5, iv (nM i0), iv (nK i1), iv (nB i1), iv (3 : Int32), iv (nC0 i4), iv (nC1 i4), iv (nC2 i5), rv b392, rv na_452, iv (f_ad3 i2 i3 (nM i0) (nS i1) (nar .boolean (1 : Int32)) (nC0 i4) (nC1 i4) (nC2 i5)), iv (own_all (own_all (1 : Int32) (nC0 i4) (nM i0)) (nC1 i4) (nM i0)), .val (.long (((0 : Int64) + ((nC0 i4).toInt64)) + ((nC1 i4).toInt64))), .second, .unset, .unset, .unset] [])) := fun t k => g471 t (by
            refine XS.icmpYes X455.here hx rfl (pc0 := 220) (pc' := 226) rfl (hb hby at_220) rfl (XT.ii_ge_t h472) (by decide) (by decide) ?_
            show Go p e below t T455 m 226 #[iv i0, iv i1, iv i2, iv i3, .val (.long i4), .second, iv i5, iv (nM i0), iv (nK i1), iv (nB i1), iv (3 : Int32), iv (nC0 i4), iv (nC1 i4), iv (nC2 i5), rv b392, rv na_452, iv (f_ad3 i2 i3 (nM i0) (nS i1) (nar .boolean (1 : Int32)) (nC0 i4) (nC1 i4) (nC2 i5)), iv (own_all (own_all (1 : Int32) (nC0 i4) (nM i0)) (nC1 i4) (nM i0)), .val (.long (((0 : Int64) + ((nC0 i4).toInt64)) + ((nC1 i4).toInt64))), .second, .unset, .unset, .unset] []
            exact k)
          have e470_0 : (own_all (own_all (own_all (1 : Int32) (nC0 i4) (nM i0)) (nC1 i4) (nM i0)) (nC2 i5) (nM i0)) = (own_all (own_all (1 : Int32) (nC0 i4) (nM i0)) (nC1 i4) (nM i0)) := by first | exact if_neg h472 | (unfold own_all; first | (rw [if_neg h472]; done) | (simp [h472]; done) | (rw [if_neg h472]; decide))
          rw [e470_0]; exact g474
      have g475 : Goes p e below S0 (T455.setTop (mkF m 248 #[iv i0, iv i1, iv i2, iv i3, .val (.long i4), .second, iv i5, iv (nM i0), iv (nK i1), iv (nB i1), iv (3 : Int32), iv (nC0 i4), iv (nC1 i4), iv (nC2 i5), rv b392, rv na_452, iv (f_ad3 i2 i3 (nM i0) (nS i1) (nar .boolean (1 : Int32)) (nC0 i4) (nC1 i4) (nC2 i5)), iv (own_all (own_all (own_all (1 : Int32) (nC0 i4) (nM i0)) (nC1 i4) (nM i0)) (nC2 i5) (nM i0)), .val (.long ((((0 : Int64) + ((nC0 i4).toInt64)) + ((nC1 i4).toInt64)) + ((nC2 i5).toInt64))), .second, .val (.long ((i2).toInt64)), .second, .unset] [])) := fun t k => gf470 t (by
        refine XS.lload X455.here hx rfl (hb hby at_226) rfl ?_
        show Go p e below t T455 m 228 #[iv i0, iv i1, iv i2, iv i3, .val (.long i4), .second, iv i5, iv (nM i0), iv (nK i1), iv (nB i1), iv (3 : Int32), iv (nC0 i4), iv (nC1 i4), iv (nC2 i5), rv b392, rv na_452, iv (f_ad3 i2 i3 (nM i0) (nS i1) (nar .boolean (1 : Int32)) (nC0 i4) (nC1 i4) (nC2 i5)), iv (own_all (own_all (own_all (1 : Int32) (nC0 i4) (nM i0)) (nC1 i4) (nM i0)) (nC2 i5) (nM i0)), .val (.long (((0 : Int64) + ((nC0 i4).toInt64)) + ((nC1 i4).toInt64))), .second, .unset, .unset, .unset] [(.long (((0 : Int64) + ((nC0 i4).toInt64)) + ((nC1 i4).toInt64)))]
        refine XS.iload X455.here hx rfl (hb hby at_228) rfl ?_
        show Go p e below t T455 m 230 #[iv i0, iv i1, iv i2, iv i3, .val (.long i4), .second, iv i5, iv (nM i0), iv (nK i1), iv (nB i1), iv (3 : Int32), iv (nC0 i4), iv (nC1 i4), iv (nC2 i5), rv b392, rv na_452, iv (f_ad3 i2 i3 (nM i0) (nS i1) (nar .boolean (1 : Int32)) (nC0 i4) (nC1 i4) (nC2 i5)), iv (own_all (own_all (own_all (1 : Int32) (nC0 i4) (nM i0)) (nC1 i4) (nM i0)) (nC2 i5) (nM i0)), .val (.long (((0 : Int64) + ((nC0 i4).toInt64)) + ((nC1 i4).toInt64))), .second, .unset, .unset, .unset] [(.int (nC2 i5)), (.long (((0 : Int64) + ((nC0 i4).toInt64)) + ((nC1 i4).toInt64)))]
        refine XS.i2l X455.here hx rfl (hb hby at_230) rfl ?_
        show Go p e below t T455 m 231 #[iv i0, iv i1, iv i2, iv i3, .val (.long i4), .second, iv i5, iv (nM i0), iv (nK i1), iv (nB i1), iv (3 : Int32), iv (nC0 i4), iv (nC1 i4), iv (nC2 i5), rv b392, rv na_452, iv (f_ad3 i2 i3 (nM i0) (nS i1) (nar .boolean (1 : Int32)) (nC0 i4) (nC1 i4) (nC2 i5)), iv (own_all (own_all (own_all (1 : Int32) (nC0 i4) (nM i0)) (nC1 i4) (nM i0)) (nC2 i5) (nM i0)), .val (.long (((0 : Int64) + ((nC0 i4).toInt64)) + ((nC1 i4).toInt64))), .second, .unset, .unset, .unset] [(.long ((nC2 i5).toInt64)), (.long (((0 : Int64) + ((nC0 i4).toInt64)) + ((nC1 i4).toInt64)))]
        refine XS.ladd X455.here hx rfl (hb hby at_231) rfl ?_
        show Go p e below t T455 m 232 #[iv i0, iv i1, iv i2, iv i3, .val (.long i4), .second, iv i5, iv (nM i0), iv (nK i1), iv (nB i1), iv (3 : Int32), iv (nC0 i4), iv (nC1 i4), iv (nC2 i5), rv b392, rv na_452, iv (f_ad3 i2 i3 (nM i0) (nS i1) (nar .boolean (1 : Int32)) (nC0 i4) (nC1 i4) (nC2 i5)), iv (own_all (own_all (own_all (1 : Int32) (nC0 i4) (nM i0)) (nC1 i4) (nM i0)) (nC2 i5) (nM i0)), .val (.long (((0 : Int64) + ((nC0 i4).toInt64)) + ((nC1 i4).toInt64))), .second, .unset, .unset, .unset] [(.long ((((0 : Int64) + ((nC0 i4).toInt64)) + ((nC1 i4).toInt64)) + ((nC2 i5).toInt64)))]
        refine XS.lstore X455.here hx rfl (hb hby at_232) rfl (l' := #[iv i0, iv i1, iv i2, iv i3, .val (.long i4), .second, iv i5, iv (nM i0), iv (nK i1), iv (nB i1), iv (3 : Int32), iv (nC0 i4), iv (nC1 i4), iv (nC2 i5), rv b392, rv na_452, iv (f_ad3 i2 i3 (nM i0) (nS i1) (nar .boolean (1 : Int32)) (nC0 i4) (nC1 i4) (nC2 i5)), iv (own_all (own_all (own_all (1 : Int32) (nC0 i4) (nM i0)) (nC1 i4) (nM i0)) (nC2 i5) (nM i0)), .val (.long ((((0 : Int64) + ((nC0 i4).toInt64)) + ((nC1 i4).toInt64)) + ((nC2 i5).toInt64))), .second, .unset, .unset, .unset]) rfl ?_
        show Go p e below t T455 m 234 #[iv i0, iv i1, iv i2, iv i3, .val (.long i4), .second, iv i5, iv (nM i0), iv (nK i1), iv (nB i1), iv (3 : Int32), iv (nC0 i4), iv (nC1 i4), iv (nC2 i5), rv b392, rv na_452, iv (f_ad3 i2 i3 (nM i0) (nS i1) (nar .boolean (1 : Int32)) (nC0 i4) (nC1 i4) (nC2 i5)), iv (own_all (own_all (own_all (1 : Int32) (nC0 i4) (nM i0)) (nC1 i4) (nM i0)) (nC2 i5) (nM i0)), .val (.long ((((0 : Int64) + ((nC0 i4).toInt64)) + ((nC1 i4).toInt64)) + ((nC2 i5).toInt64))), .second, .unset, .unset, .unset] []
        refine XS.iload X455.here hx rfl (hb hby at_234) rfl ?_
        show Go p e below t T455 m 236 #[iv i0, iv i1, iv i2, iv i3, .val (.long i4), .second, iv i5, iv (nM i0), iv (nK i1), iv (nB i1), iv (3 : Int32), iv (nC0 i4), iv (nC1 i4), iv (nC2 i5), rv b392, rv na_452, iv (f_ad3 i2 i3 (nM i0) (nS i1) (nar .boolean (1 : Int32)) (nC0 i4) (nC1 i4) (nC2 i5)), iv (own_all (own_all (own_all (1 : Int32) (nC0 i4) (nM i0)) (nC1 i4) (nM i0)) (nC2 i5) (nM i0)), .val (.long ((((0 : Int64) + ((nC0 i4).toInt64)) + ((nC1 i4).toInt64)) + ((nC2 i5).toInt64))), .second, .unset, .unset, .unset] [(.int (nB i1))]
        refine XS.ifNo X455.here hx rfl (hb hby at_236) rfl (XT.i0_eq_f h419) ?_
        show Go p e below t T455 m 239 #[iv i0, iv i1, iv i2, iv i3, .val (.long i4), .second, iv i5, iv (nM i0), iv (nK i1), iv (nB i1), iv (3 : Int32), iv (nC0 i4), iv (nC1 i4), iv (nC2 i5), rv b392, rv na_452, iv (f_ad3 i2 i3 (nM i0) (nS i1) (nar .boolean (1 : Int32)) (nC0 i4) (nC1 i4) (nC2 i5)), iv (own_all (own_all (own_all (1 : Int32) (nC0 i4) (nM i0)) (nC1 i4) (nM i0)) (nC2 i5) (nM i0)), .val (.long ((((0 : Int64) + ((nC0 i4).toInt64)) + ((nC1 i4).toInt64)) + ((nC2 i5).toInt64))), .second, .unset, .unset, .unset] []
        refine XS.iloadN X455.here hx rfl (hb hby at_239) rfl ?_
        show Go p e below t T455 m 240 #[iv i0, iv i1, iv i2, iv i3, .val (.long i4), .second, iv i5, iv (nM i0), iv (nK i1), iv (nB i1), iv (3 : Int32), iv (nC0 i4), iv (nC1 i4), iv (nC2 i5), rv b392, rv na_452, iv (f_ad3 i2 i3 (nM i0) (nS i1) (nar .boolean (1 : Int32)) (nC0 i4) (nC1 i4) (nC2 i5)), iv (own_all (own_all (own_all (1 : Int32) (nC0 i4) (nM i0)) (nC1 i4) (nM i0)) (nC2 i5) (nM i0)), .val (.long ((((0 : Int64) + ((nC0 i4).toInt64)) + ((nC1 i4).toInt64)) + ((nC2 i5).toInt64))), .second, .unset, .unset, .unset] [(.int i2)]
        refine XS.i2l X455.here hx rfl (hb hby at_240) rfl ?_
        show Go p e below t T455 m 241 #[iv i0, iv i1, iv i2, iv i3, .val (.long i4), .second, iv i5, iv (nM i0), iv (nK i1), iv (nB i1), iv (3 : Int32), iv (nC0 i4), iv (nC1 i4), iv (nC2 i5), rv b392, rv na_452, iv (f_ad3 i2 i3 (nM i0) (nS i1) (nar .boolean (1 : Int32)) (nC0 i4) (nC1 i4) (nC2 i5)), iv (own_all (own_all (own_all (1 : Int32) (nC0 i4) (nM i0)) (nC1 i4) (nM i0)) (nC2 i5) (nM i0)), .val (.long ((((0 : Int64) + ((nC0 i4).toInt64)) + ((nC1 i4).toInt64)) + ((nC2 i5).toInt64))), .second, .unset, .unset, .unset] [(.long ((i2).toInt64))]
        refine XS.goto X455.here hx rfl (pc0 := 241) (pc' := 246) rfl (hb hby at_241) (by decide) (by decide) ?_
        show Go p e below t T455 m 246 #[iv i0, iv i1, iv i2, iv i3, .val (.long i4), .second, iv i5, iv (nM i0), iv (nK i1), iv (nB i1), iv (3 : Int32), iv (nC0 i4), iv (nC1 i4), iv (nC2 i5), rv b392, rv na_452, iv (f_ad3 i2 i3 (nM i0) (nS i1) (nar .boolean (1 : Int32)) (nC0 i4) (nC1 i4) (nC2 i5)), iv (own_all (own_all (own_all (1 : Int32) (nC0 i4) (nM i0)) (nC1 i4) (nM i0)) (nC2 i5) (nM i0)), .val (.long ((((0 : Int64) + ((nC0 i4).toInt64)) + ((nC1 i4).toInt64)) + ((nC2 i5).toInt64))), .second, .unset, .unset, .unset] [(.long ((i2).toInt64))]
        refine XS.lstore X455.here hx rfl (hb hby at_246) rfl (l' := #[iv i0, iv i1, iv i2, iv i3, .val (.long i4), .second, iv i5, iv (nM i0), iv (nK i1), iv (nB i1), iv (3 : Int32), iv (nC0 i4), iv (nC1 i4), iv (nC2 i5), rv b392, rv na_452, iv (f_ad3 i2 i3 (nM i0) (nS i1) (nar .boolean (1 : Int32)) (nC0 i4) (nC1 i4) (nC2 i5)), iv (own_all (own_all (own_all (1 : Int32) (nC0 i4) (nM i0)) (nC1 i4) (nM i0)) (nC2 i5) (nM i0)), .val (.long ((((0 : Int64) + ((nC0 i4).toInt64)) + ((nC1 i4).toInt64)) + ((nC2 i5).toInt64))), .second, .val (.long ((i2).toInt64)), .second, .unset]) rfl ?_
        show Go p e below t T455 m 248 #[iv i0, iv i1, iv i2, iv i3, .val (.long i4), .second, iv i5, iv (nM i0), iv (nK i1), iv (nB i1), iv (3 : Int32), iv (nC0 i4), iv (nC1 i4), iv (nC2 i5), rv b392, rv na_452, iv (f_ad3 i2 i3 (nM i0) (nS i1) (nar .boolean (1 : Int32)) (nC0 i4) (nC1 i4) (nC2 i5)), iv (own_all (own_all (own_all (1 : Int32) (nC0 i4) (nM i0)) (nC1 i4) (nM i0)) (nC2 i5) (nM i0)), .val (.long ((((0 : Int64) + ((nC0 i4).toInt64)) + ((nC1 i4).toInt64)) + ((nC2 i5).toInt64))), .second, .val (.long ((i2).toInt64)), .second, .unset] []
        exact k)
      have gf476 : Goes p e below S0 (T455.setTop (mkF m 274 #[iv i0, iv i1, iv i2, iv i3, .val (.long i4), .second, iv i5, iv (nM i0), iv (nK i1), iv (nB i1), iv (3 : Int32), iv (nC0 i4), iv (nC1 i4), iv (nC2 i5), rv b392, rv na_452, iv (f_ad3 i2 i3 (nM i0) (nS i1) (nar .boolean (1 : Int32)) (nC0 i4) (nC1 i4) (nC2 i5)), iv (own_all (own_all (own_all (1 : Int32) (nC0 i4) (nM i0)) (nC1 i4) (nM i0)) (nC2 i5) (nM i0)), .val (.long ((((0 : Int64) + ((nC0 i4).toInt64)) + ((nC1 i4).toInt64)) + ((nC2 i5).toInt64))), .second, .val (.long ((i2).toInt64)), .second, .unset] [(.int (own_fin (own_all (own_all (own_all (1 : Int32) (nC0 i4) (nM i0)) (nC1 i4) (nM i0)) (nC2 i5) (nM i0)) ((((0 : Int64) + ((nC0 i4).toInt64)) + ((nC1 i4).toInt64)) + ((nC2 i5).toInt64)) (nK i1) ((i2).toInt64)))])) := by
        have g477 : Goes p e below S0 (T455.setTop (mkF m 250 #[iv i0, iv i1, iv i2, iv i3, .val (.long i4), .second, iv i5, iv (nM i0), iv (nK i1), iv (nB i1), iv (3 : Int32), iv (nC0 i4), iv (nC1 i4), iv (nC2 i5), rv b392, rv na_452, iv (f_ad3 i2 i3 (nM i0) (nS i1) (nar .boolean (1 : Int32)) (nC0 i4) (nC1 i4) (nC2 i5)), iv (own_all (own_all (own_all (1 : Int32) (nC0 i4) (nM i0)) (nC1 i4) (nM i0)) (nC2 i5) (nM i0)), .val (.long ((((0 : Int64) + ((nC0 i4).toInt64)) + ((nC1 i4).toInt64)) + ((nC2 i5).toInt64))), .second, .val (.long ((i2).toInt64)), .second, .unset] [(.int (own_all (own_all (own_all (1 : Int32) (nC0 i4) (nM i0)) (nC1 i4) (nM i0)) (nC2 i5) (nM i0)))])) := fun t k => g475 t (by
          refine XS.iload X455.here hx rfl (hb hby at_248) rfl ?_
          show Go p e below t T455 m 250 #[iv i0, iv i1, iv i2, iv i3, .val (.long i4), .second, iv i5, iv (nM i0), iv (nK i1), iv (nB i1), iv (3 : Int32), iv (nC0 i4), iv (nC1 i4), iv (nC2 i5), rv b392, rv na_452, iv (f_ad3 i2 i3 (nM i0) (nS i1) (nar .boolean (1 : Int32)) (nC0 i4) (nC1 i4) (nC2 i5)), iv (own_all (own_all (own_all (1 : Int32) (nC0 i4) (nM i0)) (nC1 i4) (nM i0)) (nC2 i5) (nM i0)), .val (.long ((((0 : Int64) + ((nC0 i4).toInt64)) + ((nC1 i4).toInt64)) + ((nC2 i5).toInt64))), .second, .val (.long ((i2).toInt64)), .second, .unset] [(.int (own_all (own_all (own_all (1 : Int32) (nC0 i4) (nM i0)) (nC1 i4) (nM i0)) (nC2 i5) (nM i0)))]
          exact k)
        by_cases h478 : (own_all (own_all (own_all (1 : Int32) (nC0 i4) (nM i0)) (nC1 i4) (nM i0)) (nC2 i5) (nM i0)) = 0
        · skip
          have g479 : Goes p e below S0 (T455.setTop (mkF m 274 #[iv i0, iv i1, iv i2, iv i3, .val (.long i4), .second, iv i5, iv (nM i0), iv (nK i1), iv (nB i1), iv (3 : Int32), iv (nC0 i4), iv (nC1 i4), iv (nC2 i5), rv b392, rv na_452, iv (f_ad3 i2 i3 (nM i0) (nS i1) (nar .boolean (1 : Int32)) (nC0 i4) (nC1 i4) (nC2 i5)), iv (own_all (own_all (own_all (1 : Int32) (nC0 i4) (nM i0)) (nC1 i4) (nM i0)) (nC2 i5) (nM i0)), .val (.long ((((0 : Int64) + ((nC0 i4).toInt64)) + ((nC1 i4).toInt64)) + ((nC2 i5).toInt64))), .second, .val (.long ((i2).toInt64)), .second, .unset] [(.int (0 : Int32))])) := fun t k => g477 t (by
            refine XS.ifYes X455.here hx rfl (pc0 := 250) (pc' := 273) rfl (hb hby at_250) rfl (XT.i0_eq_t h478) (by decide) (by decide) ?_
            show Go p e below t T455 m 273 #[iv i0, iv i1, iv i2, iv i3, .val (.long i4), .second, iv i5, iv (nM i0), iv (nK i1), iv (nB i1), iv (3 : Int32), iv (nC0 i4), iv (nC1 i4), iv (nC2 i5), rv b392, rv na_452, iv (f_ad3 i2 i3 (nM i0) (nS i1) (nar .boolean (1 : Int32)) (nC0 i4) (nC1 i4) (nC2 i5)), iv (own_all (own_all (own_all (1 : Int32) (nC0 i4) (nM i0)) (nC1 i4) (nM i0)) (nC2 i5) (nM i0)), .val (.long ((((0 : Int64) + ((nC0 i4).toInt64)) + ((nC1 i4).toInt64)) + ((nC2 i5).toInt64))), .second, .val (.long ((i2).toInt64)), .second, .unset] []
            refine XT.iconstV X455.here hx rfl (0 : Int32) (hb hby at_273) (by decide) ?_
            show Go p e below t T455 m 274 #[iv i0, iv i1, iv i2, iv i3, .val (.long i4), .second, iv i5, iv (nM i0), iv (nK i1), iv (nB i1), iv (3 : Int32), iv (nC0 i4), iv (nC1 i4), iv (nC2 i5), rv b392, rv na_452, iv (f_ad3 i2 i3 (nM i0) (nS i1) (nar .boolean (1 : Int32)) (nC0 i4) (nC1 i4) (nC2 i5)), iv (own_all (own_all (own_all (1 : Int32) (nC0 i4) (nM i0)) (nC1 i4) (nM i0)) (nC2 i5) (nM i0)), .val (.long ((((0 : Int64) + ((nC0 i4).toInt64)) + ((nC1 i4).toInt64)) + ((nC2 i5).toInt64))), .second, .val (.long ((i2).toInt64)), .second, .unset] [(.int (0 : Int32))]
            exact k)
          have e476_0 : (own_fin (own_all (own_all (own_all (1 : Int32) (nC0 i4) (nM i0)) (nC1 i4) (nM i0)) (nC2 i5) (nM i0)) ((((0 : Int64) + ((nC0 i4).toInt64)) + ((nC1 i4).toInt64)) + ((nC2 i5).toInt64)) (nK i1) ((i2).toInt64)) = (0 : Int32) := by first | exact if_pos h478 | (unfold own_fin; first | (rw [if_pos h478]; done) | (simp [h478]; done) | (rw [if_pos h478]; decide))
          rw [e476_0]; exact g479
        · skip
          have g480 : Goes p e below S0 (T455.setTop (mkF m 266 #[iv i0, iv i1, iv i2, iv i3, .val (.long i4), .second, iv i5, iv (nM i0), iv (nK i1), iv (nB i1), iv (3 : Int32), iv (nC0 i4), iv (nC1 i4), iv (nC2 i5), rv b392, rv na_452, iv (f_ad3 i2 i3 (nM i0) (nS i1) (nar .boolean (1 : Int32)) (nC0 i4) (nC1 i4) (nC2 i5)), iv (own_all (own_all (own_all (1 : Int32) (nC0 i4) (nM i0)) (nC1 i4) (nM i0)) (nC2 i5) (nM i0)), .val (.long ((((0 : Int64) + ((nC0 i4).toInt64)) + ((nC1 i4).toInt64)) + ((nC2 i5).toInt64))), .second, .val (.long ((i2).toInt64)), .second, .unset] [(.int (lcmpW ((8 : Int64) * ((((0 : Int64) + ((nC0 i4).toInt64)) + ((nC1 i4).toInt64)) + ((nC2 i5).toInt64))) (((nK i1).toInt64) * ((i2).toInt64))))])) := fun t k => g477 t (by
            refine XS.ifNo X455.here hx rfl (hb hby at_250) rfl (XT.i0_eq_f h478) ?_
            show Go p e below t T455 m 253 #[iv i0, iv i1, iv i2, iv i3, .val (.long i4), .second, iv i5, iv (nM i0), iv (nK i1), iv (nB i1), iv (3 : Int32), iv (nC0 i4), iv (nC1 i4), iv (nC2 i5), rv b392, rv na_452, iv (f_ad3 i2 i3 (nM i0) (nS i1) (nar .boolean (1 : Int32)) (nC0 i4) (nC1 i4) (nC2 i5)), iv (own_all (own_all (own_all (1 : Int32) (nC0 i4) (nM i0)) (nC1 i4) (nM i0)) (nC2 i5) (nM i0)), .val (.long ((((0 : Int64) + ((nC0 i4).toInt64)) + ((nC1 i4).toInt64)) + ((nC2 i5).toInt64))), .second, .val (.long ((i2).toInt64)), .second, .unset] []
            refine Jvm.Stand.ldc2J X455 hx hown (mvT hZ (hw _ (List.mem_of_getElem? (i := 44) rfl))) (g := (mkF m 253 #[iv i0, iv i1, iv i2, iv i3, .val (.long i4), .second, iv i5, iv (nM i0), iv (nK i1), iv (nB i1), iv (3 : Int32), iv (nC0 i4), iv (nC1 i4), iv (nC2 i5), rv b392, rv na_452, iv (f_ad3 i2 i3 (nM i0) (nS i1) (nar .boolean (1 : Int32)) (nC0 i4) (nC1 i4) (nC2 i5)), iv (own_all (own_all (own_all (1 : Int32) (nC0 i4) (nM i0)) (nC1 i4) (nM i0)) (nC2 i5) (nM i0)), .val (.long ((((0 : Int64) + ((nC0 i4).toInt64)) + ((nC1 i4).toInt64)) + ((nC2 i5).toInt64))), .second, .val (.long ((i2).toInt64)), .second, .unset] [])) rfl (hb hby at_253) ?_
            show Go p e below t T455 m 256 #[iv i0, iv i1, iv i2, iv i3, .val (.long i4), .second, iv i5, iv (nM i0), iv (nK i1), iv (nB i1), iv (3 : Int32), iv (nC0 i4), iv (nC1 i4), iv (nC2 i5), rv b392, rv na_452, iv (f_ad3 i2 i3 (nM i0) (nS i1) (nar .boolean (1 : Int32)) (nC0 i4) (nC1 i4) (nC2 i5)), iv (own_all (own_all (own_all (1 : Int32) (nC0 i4) (nM i0)) (nC1 i4) (nM i0)) (nC2 i5) (nM i0)), .val (.long ((((0 : Int64) + ((nC0 i4).toInt64)) + ((nC1 i4).toInt64)) + ((nC2 i5).toInt64))), .second, .val (.long ((i2).toInt64)), .second, .unset] [(.long (8 : Int64))]
            refine XS.lload X455.here hx rfl (hb hby at_256) rfl ?_
            show Go p e below t T455 m 258 #[iv i0, iv i1, iv i2, iv i3, .val (.long i4), .second, iv i5, iv (nM i0), iv (nK i1), iv (nB i1), iv (3 : Int32), iv (nC0 i4), iv (nC1 i4), iv (nC2 i5), rv b392, rv na_452, iv (f_ad3 i2 i3 (nM i0) (nS i1) (nar .boolean (1 : Int32)) (nC0 i4) (nC1 i4) (nC2 i5)), iv (own_all (own_all (own_all (1 : Int32) (nC0 i4) (nM i0)) (nC1 i4) (nM i0)) (nC2 i5) (nM i0)), .val (.long ((((0 : Int64) + ((nC0 i4).toInt64)) + ((nC1 i4).toInt64)) + ((nC2 i5).toInt64))), .second, .val (.long ((i2).toInt64)), .second, .unset] [(.long ((((0 : Int64) + ((nC0 i4).toInt64)) + ((nC1 i4).toInt64)) + ((nC2 i5).toInt64))), (.long (8 : Int64))]
            refine XS.lmul X455.here hx rfl (hb hby at_258) rfl ?_
            show Go p e below t T455 m 259 #[iv i0, iv i1, iv i2, iv i3, .val (.long i4), .second, iv i5, iv (nM i0), iv (nK i1), iv (nB i1), iv (3 : Int32), iv (nC0 i4), iv (nC1 i4), iv (nC2 i5), rv b392, rv na_452, iv (f_ad3 i2 i3 (nM i0) (nS i1) (nar .boolean (1 : Int32)) (nC0 i4) (nC1 i4) (nC2 i5)), iv (own_all (own_all (own_all (1 : Int32) (nC0 i4) (nM i0)) (nC1 i4) (nM i0)) (nC2 i5) (nM i0)), .val (.long ((((0 : Int64) + ((nC0 i4).toInt64)) + ((nC1 i4).toInt64)) + ((nC2 i5).toInt64))), .second, .val (.long ((i2).toInt64)), .second, .unset] [(.long ((8 : Int64) * ((((0 : Int64) + ((nC0 i4).toInt64)) + ((nC1 i4).toInt64)) + ((nC2 i5).toInt64))))]
            refine XS.iload X455.here hx rfl (hb hby at_259) rfl ?_
            show Go p e below t T455 m 261 #[iv i0, iv i1, iv i2, iv i3, .val (.long i4), .second, iv i5, iv (nM i0), iv (nK i1), iv (nB i1), iv (3 : Int32), iv (nC0 i4), iv (nC1 i4), iv (nC2 i5), rv b392, rv na_452, iv (f_ad3 i2 i3 (nM i0) (nS i1) (nar .boolean (1 : Int32)) (nC0 i4) (nC1 i4) (nC2 i5)), iv (own_all (own_all (own_all (1 : Int32) (nC0 i4) (nM i0)) (nC1 i4) (nM i0)) (nC2 i5) (nM i0)), .val (.long ((((0 : Int64) + ((nC0 i4).toInt64)) + ((nC1 i4).toInt64)) + ((nC2 i5).toInt64))), .second, .val (.long ((i2).toInt64)), .second, .unset] [(.int (nK i1)), (.long ((8 : Int64) * ((((0 : Int64) + ((nC0 i4).toInt64)) + ((nC1 i4).toInt64)) + ((nC2 i5).toInt64))))]
            refine XS.i2l X455.here hx rfl (hb hby at_261) rfl ?_
            show Go p e below t T455 m 262 #[iv i0, iv i1, iv i2, iv i3, .val (.long i4), .second, iv i5, iv (nM i0), iv (nK i1), iv (nB i1), iv (3 : Int32), iv (nC0 i4), iv (nC1 i4), iv (nC2 i5), rv b392, rv na_452, iv (f_ad3 i2 i3 (nM i0) (nS i1) (nar .boolean (1 : Int32)) (nC0 i4) (nC1 i4) (nC2 i5)), iv (own_all (own_all (own_all (1 : Int32) (nC0 i4) (nM i0)) (nC1 i4) (nM i0)) (nC2 i5) (nM i0)), .val (.long ((((0 : Int64) + ((nC0 i4).toInt64)) + ((nC1 i4).toInt64)) + ((nC2 i5).toInt64))), .second, .val (.long ((i2).toInt64)), .second, .unset] [(.long ((nK i1).toInt64)), (.long ((8 : Int64) * ((((0 : Int64) + ((nC0 i4).toInt64)) + ((nC1 i4).toInt64)) + ((nC2 i5).toInt64))))]
            refine XS.lload X455.here hx rfl (hb hby at_262) rfl ?_
            show Go p e below t T455 m 264 #[iv i0, iv i1, iv i2, iv i3, .val (.long i4), .second, iv i5, iv (nM i0), iv (nK i1), iv (nB i1), iv (3 : Int32), iv (nC0 i4), iv (nC1 i4), iv (nC2 i5), rv b392, rv na_452, iv (f_ad3 i2 i3 (nM i0) (nS i1) (nar .boolean (1 : Int32)) (nC0 i4) (nC1 i4) (nC2 i5)), iv (own_all (own_all (own_all (1 : Int32) (nC0 i4) (nM i0)) (nC1 i4) (nM i0)) (nC2 i5) (nM i0)), .val (.long ((((0 : Int64) + ((nC0 i4).toInt64)) + ((nC1 i4).toInt64)) + ((nC2 i5).toInt64))), .second, .val (.long ((i2).toInt64)), .second, .unset] [(.long ((i2).toInt64)), (.long ((nK i1).toInt64)), (.long ((8 : Int64) * ((((0 : Int64) + ((nC0 i4).toInt64)) + ((nC1 i4).toInt64)) + ((nC2 i5).toInt64))))]
            refine XS.lmul X455.here hx rfl (hb hby at_264) rfl ?_
            show Go p e below t T455 m 265 #[iv i0, iv i1, iv i2, iv i3, .val (.long i4), .second, iv i5, iv (nM i0), iv (nK i1), iv (nB i1), iv (3 : Int32), iv (nC0 i4), iv (nC1 i4), iv (nC2 i5), rv b392, rv na_452, iv (f_ad3 i2 i3 (nM i0) (nS i1) (nar .boolean (1 : Int32)) (nC0 i4) (nC1 i4) (nC2 i5)), iv (own_all (own_all (own_all (1 : Int32) (nC0 i4) (nM i0)) (nC1 i4) (nM i0)) (nC2 i5) (nM i0)), .val (.long ((((0 : Int64) + ((nC0 i4).toInt64)) + ((nC1 i4).toInt64)) + ((nC2 i5).toInt64))), .second, .val (.long ((i2).toInt64)), .second, .unset] [(.long (((nK i1).toInt64) * ((i2).toInt64))), (.long ((8 : Int64) * ((((0 : Int64) + ((nC0 i4).toInt64)) + ((nC1 i4).toInt64)) + ((nC2 i5).toInt64))))]
            refine XS.lcmp X455.here hx rfl (hb hby at_265) rfl ?_
            show Go p e below t T455 m 266 #[iv i0, iv i1, iv i2, iv i3, .val (.long i4), .second, iv i5, iv (nM i0), iv (nK i1), iv (nB i1), iv (3 : Int32), iv (nC0 i4), iv (nC1 i4), iv (nC2 i5), rv b392, rv na_452, iv (f_ad3 i2 i3 (nM i0) (nS i1) (nar .boolean (1 : Int32)) (nC0 i4) (nC1 i4) (nC2 i5)), iv (own_all (own_all (own_all (1 : Int32) (nC0 i4) (nM i0)) (nC1 i4) (nM i0)) (nC2 i5) (nM i0)), .val (.long ((((0 : Int64) + ((nC0 i4).toInt64)) + ((nC1 i4).toInt64)) + ((nC2 i5).toInt64))), .second, .val (.long ((i2).toInt64)), .second, .unset] [(.int (lcmpW ((8 : Int64) * ((((0 : Int64) + ((nC0 i4).toInt64)) + ((nC1 i4).toInt64)) + ((nC2 i5).toInt64))) (((nK i1).toInt64) * ((i2).toInt64))))]
            exact k)
          by_cases h481 : ((8 : Int64) * ((((0 : Int64) + ((nC0 i4).toInt64)) + ((nC1 i4).toInt64)) + ((nC2 i5).toInt64))) < (((nK i1).toInt64) * ((i2).toInt64))
          · skip
            have g482 : Goes p e below S0 (T455.setTop (mkF m 274 #[iv i0, iv i1, iv i2, iv i3, .val (.long i4), .second, iv i5, iv (nM i0), iv (nK i1), iv (nB i1), iv (3 : Int32), iv (nC0 i4), iv (nC1 i4), iv (nC2 i5), rv b392, rv na_452, iv (f_ad3 i2 i3 (nM i0) (nS i1) (nar .boolean (1 : Int32)) (nC0 i4) (nC1 i4) (nC2 i5)), iv (own_all (own_all (own_all (1 : Int32) (nC0 i4) (nM i0)) (nC1 i4) (nM i0)) (nC2 i5) (nM i0)), .val (.long ((((0 : Int64) + ((nC0 i4).toInt64)) + ((nC1 i4).toInt64)) + ((nC2 i5).toInt64))), .second, .val (.long ((i2).toInt64)), .second, .unset] [(.int (0 : Int32))])) := fun t k => g480 t (by
              refine XS.ifYes X455.here hx rfl (pc0 := 266) (pc' := 273) rfl (hb hby at_266) rfl (XT.ll_lt_t h481) (by decide) (by decide) ?_
              show Go p e below t T455 m 273 #[iv i0, iv i1, iv i2, iv i3, .val (.long i4), .second, iv i5, iv (nM i0), iv (nK i1), iv (nB i1), iv (3 : Int32), iv (nC0 i4), iv (nC1 i4), iv (nC2 i5), rv b392, rv na_452, iv (f_ad3 i2 i3 (nM i0) (nS i1) (nar .boolean (1 : Int32)) (nC0 i4) (nC1 i4) (nC2 i5)), iv (own_all (own_all (own_all (1 : Int32) (nC0 i4) (nM i0)) (nC1 i4) (nM i0)) (nC2 i5) (nM i0)), .val (.long ((((0 : Int64) + ((nC0 i4).toInt64)) + ((nC1 i4).toInt64)) + ((nC2 i5).toInt64))), .second, .val (.long ((i2).toInt64)), .second, .unset] []
              refine XT.iconstV X455.here hx rfl (0 : Int32) (hb hby at_273) (by decide) ?_
              show Go p e below t T455 m 274 #[iv i0, iv i1, iv i2, iv i3, .val (.long i4), .second, iv i5, iv (nM i0), iv (nK i1), iv (nB i1), iv (3 : Int32), iv (nC0 i4), iv (nC1 i4), iv (nC2 i5), rv b392, rv na_452, iv (f_ad3 i2 i3 (nM i0) (nS i1) (nar .boolean (1 : Int32)) (nC0 i4) (nC1 i4) (nC2 i5)), iv (own_all (own_all (own_all (1 : Int32) (nC0 i4) (nM i0)) (nC1 i4) (nM i0)) (nC2 i5) (nM i0)), .val (.long ((((0 : Int64) + ((nC0 i4).toInt64)) + ((nC1 i4).toInt64)) + ((nC2 i5).toInt64))), .second, .val (.long ((i2).toInt64)), .second, .unset] [(.int (0 : Int32))]
              exact k)
            have e476_0 : (own_fin (own_all (own_all (own_all (1 : Int32) (nC0 i4) (nM i0)) (nC1 i4) (nM i0)) (nC2 i5) (nM i0)) ((((0 : Int64) + ((nC0 i4).toInt64)) + ((nC1 i4).toInt64)) + ((nC2 i5).toInt64)) (nK i1) ((i2).toInt64)) = (0 : Int32) := by first | exact (if_neg h478).trans (if_pos h481) | (unfold own_fin; first | (rw [if_neg h478, if_pos h481]; done) | (simp [h478, h481]; done) | (rw [if_neg h478, if_pos h481]; decide))
            rw [e476_0]; exact g482
          · skip
            have g483 : Goes p e below S0 (T455.setTop (mkF m 274 #[iv i0, iv i1, iv i2, iv i3, .val (.long i4), .second, iv i5, iv (nM i0), iv (nK i1), iv (nB i1), iv (3 : Int32), iv (nC0 i4), iv (nC1 i4), iv (nC2 i5), rv b392, rv na_452, iv (f_ad3 i2 i3 (nM i0) (nS i1) (nar .boolean (1 : Int32)) (nC0 i4) (nC1 i4) (nC2 i5)), iv (own_all (own_all (own_all (1 : Int32) (nC0 i4) (nM i0)) (nC1 i4) (nM i0)) (nC2 i5) (nM i0)), .val (.long ((((0 : Int64) + ((nC0 i4).toInt64)) + ((nC1 i4).toInt64)) + ((nC2 i5).toInt64))), .second, .val (.long ((i2).toInt64)), .second, .unset] [(.int (1 : Int32))])) := fun t k => g480 t (by
              refine XS.ifNo X455.here hx rfl (hb hby at_266) rfl (XT.ll_lt_f h481) ?_
              show Go p e below t T455 m 269 #[iv i0, iv i1, iv i2, iv i3, .val (.long i4), .second, iv i5, iv (nM i0), iv (nK i1), iv (nB i1), iv (3 : Int32), iv (nC0 i4), iv (nC1 i4), iv (nC2 i5), rv b392, rv na_452, iv (f_ad3 i2 i3 (nM i0) (nS i1) (nar .boolean (1 : Int32)) (nC0 i4) (nC1 i4) (nC2 i5)), iv (own_all (own_all (own_all (1 : Int32) (nC0 i4) (nM i0)) (nC1 i4) (nM i0)) (nC2 i5) (nM i0)), .val (.long ((((0 : Int64) + ((nC0 i4).toInt64)) + ((nC1 i4).toInt64)) + ((nC2 i5).toInt64))), .second, .val (.long ((i2).toInt64)), .second, .unset] []
              refine XT.iconstV X455.here hx rfl (1 : Int32) (hb hby at_269) (by decide) ?_
              show Go p e below t T455 m 270 #[iv i0, iv i1, iv i2, iv i3, .val (.long i4), .second, iv i5, iv (nM i0), iv (nK i1), iv (nB i1), iv (3 : Int32), iv (nC0 i4), iv (nC1 i4), iv (nC2 i5), rv b392, rv na_452, iv (f_ad3 i2 i3 (nM i0) (nS i1) (nar .boolean (1 : Int32)) (nC0 i4) (nC1 i4) (nC2 i5)), iv (own_all (own_all (own_all (1 : Int32) (nC0 i4) (nM i0)) (nC1 i4) (nM i0)) (nC2 i5) (nM i0)), .val (.long ((((0 : Int64) + ((nC0 i4).toInt64)) + ((nC1 i4).toInt64)) + ((nC2 i5).toInt64))), .second, .val (.long ((i2).toInt64)), .second, .unset] [(.int (1 : Int32))]
              refine XS.goto X455.here hx rfl (pc0 := 270) (pc' := 274) rfl (hb hby at_270) (by decide) (by decide) ?_
              show Go p e below t T455 m 274 #[iv i0, iv i1, iv i2, iv i3, .val (.long i4), .second, iv i5, iv (nM i0), iv (nK i1), iv (nB i1), iv (3 : Int32), iv (nC0 i4), iv (nC1 i4), iv (nC2 i5), rv b392, rv na_452, iv (f_ad3 i2 i3 (nM i0) (nS i1) (nar .boolean (1 : Int32)) (nC0 i4) (nC1 i4) (nC2 i5)), iv (own_all (own_all (own_all (1 : Int32) (nC0 i4) (nM i0)) (nC1 i4) (nM i0)) (nC2 i5) (nM i0)), .val (.long ((((0 : Int64) + ((nC0 i4).toInt64)) + ((nC1 i4).toInt64)) + ((nC2 i5).toInt64))), .second, .val (.long ((i2).toInt64)), .second, .unset] [(.int (1 : Int32))]
              exact k)
            have e476_0 : (own_fin (own_all (own_all (own_all (1 : Int32) (nC0 i4) (nM i0)) (nC1 i4) (nM i0)) (nC2 i5) (nM i0)) ((((0 : Int64) + ((nC0 i4).toInt64)) + ((nC1 i4).toInt64)) + ((nC2 i5).toInt64)) (nK i1) ((i2).toInt64)) = (1 : Int32) := by first | exact (if_neg h478).trans (if_neg h481) | (unfold own_fin; first | (rw [if_neg h478, if_neg h481]; done) | (simp [h478, h481]; done) | (rw [if_neg h478, if_neg h481]; decide))
            rw [e476_0]; exact g483
      have g484 : Goes p e below S0 (T455.setTop (mkF m 288 #[iv i0, iv i1, iv i2, iv i3, .val (.long i4), .second, iv i5, iv (nM i0), iv (nK i1), iv (nB i1), iv (3 : Int32), iv (nC0 i4), iv (nC1 i4), iv (nC2 i5), rv b392, rv na_452, iv (f_ad3 i2 i3 (nM i0) (nS i1) (nar .boolean (1 : Int32)) (nC0 i4) (nC1 i4) (nC2 i5)), iv (own_all (own_all (own_all (1 : Int32) (nC0 i4) (nM i0)) (nC1 i4) (nM i0)) (nC2 i5) (nM i0)), .val (.long ((((0 : Int64) + ((nC0 i4).toInt64)) + ((nC1 i4).toInt64)) + ((nC2 i5).toInt64))), .second, .val (.long ((i2).toInt64)), .second, iv (own_fin (own_all (own_all (own_all (1 : Int32) (nC0 i4) (nM i0)) (nC1 i4) (nM i0)) (nC2 i5) (nM i0)) ((((0 : Int64) + ((nC0 i4).toInt64)) + ((nC1 i4).toInt64)) + ((nC2 i5).toInt64)) (nK i1) ((i2).toInt64))] [(.int (1 : Int32))])) := fun t k => gf476 t (by
        refine XS.istore X455.here hx rfl (hb hby at_274) rfl (l' := #[iv i0, iv i1, iv i2, iv i3, .val (.long i4), .second, iv i5, iv (nM i0), iv (nK i1), iv (nB i1), iv (3 : Int32), iv (nC0 i4), iv (nC1 i4), iv (nC2 i5), rv b392, rv na_452, iv (f_ad3 i2 i3 (nM i0) (nS i1) (nar .boolean (1 : Int32)) (nC0 i4) (nC1 i4) (nC2 i5)), iv (own_all (own_all (own_all (1 : Int32) (nC0 i4) (nM i0)) (nC1 i4) (nM i0)) (nC2 i5) (nM i0)), .val (.long ((((0 : Int64) + ((nC0 i4).toInt64)) + ((nC1 i4).toInt64)) + ((nC2 i5).toInt64))), .second, .val (.long ((i2).toInt64)), .second, iv (own_fin (own_all (own_all (own_all (1 : Int32) (nC0 i4) (nM i0)) (nC1 i4) (nM i0)) (nC2 i5) (nM i0)) ((((0 : Int64) + ((nC0 i4).toInt64)) + ((nC1 i4).toInt64)) + ((nC2 i5).toInt64)) (nK i1) ((i2).toInt64))]) rfl ?_
        show Go p e below t T455 m 276 #[iv i0, iv i1, iv i2, iv i3, .val (.long i4), .second, iv i5, iv (nM i0), iv (nK i1), iv (nB i1), iv (3 : Int32), iv (nC0 i4), iv (nC1 i4), iv (nC2 i5), rv b392, rv na_452, iv (f_ad3 i2 i3 (nM i0) (nS i1) (nar .boolean (1 : Int32)) (nC0 i4) (nC1 i4) (nC2 i5)), iv (own_all (own_all (own_all (1 : Int32) (nC0 i4) (nM i0)) (nC1 i4) (nM i0)) (nC2 i5) (nM i0)), .val (.long ((((0 : Int64) + ((nC0 i4).toInt64)) + ((nC1 i4).toInt64)) + ((nC2 i5).toInt64))), .second, .val (.long ((i2).toInt64)), .second, iv (own_fin (own_all (own_all (own_all (1 : Int32) (nC0 i4) (nM i0)) (nC1 i4) (nM i0)) (nC2 i5) (nM i0)) ((((0 : Int64) + ((nC0 i4).toInt64)) + ((nC1 i4).toInt64)) + ((nC2 i5).toInt64)) (nK i1) ((i2).toInt64))] []
        refine XS.iload X455.here hx rfl (hb hby at_276) rfl ?_
        show Go p e below t T455 m 278 #[iv i0, iv i1, iv i2, iv i3, .val (.long i4), .second, iv i5, iv (nM i0), iv (nK i1), iv (nB i1), iv (3 : Int32), iv (nC0 i4), iv (nC1 i4), iv (nC2 i5), rv b392, rv na_452, iv (f_ad3 i2 i3 (nM i0) (nS i1) (nar .boolean (1 : Int32)) (nC0 i4) (nC1 i4) (nC2 i5)), iv (own_all (own_all (own_all (1 : Int32) (nC0 i4) (nM i0)) (nC1 i4) (nM i0)) (nC2 i5) (nM i0)), .val (.long ((((0 : Int64) + ((nC0 i4).toInt64)) + ((nC1 i4).toInt64)) + ((nC2 i5).toInt64))), .second, .val (.long ((i2).toInt64)), .second, iv (own_fin (own_all (own_all (own_all (1 : Int32) (nC0 i4) (nM i0)) (nC1 i4) (nM i0)) (nC2 i5) (nM i0)) ((((0 : Int64) + ((nC0 i4).toInt64)) + ((nC1 i4).toInt64)) + ((nC2 i5).toInt64)) (nK i1) ((i2).toInt64))] [(.int (f_ad3 i2 i3 (nM i0) (nS i1) (nar .boolean (1 : Int32)) (nC0 i4) (nC1 i4) (nC2 i5)))]
        refine XS.iload X455.here hx rfl (hb hby at_278) rfl ?_
        show Go p e below t T455 m 280 #[iv i0, iv i1, iv i2, iv i3, .val (.long i4), .second, iv i5, iv (nM i0), iv (nK i1), iv (nB i1), iv (3 : Int32), iv (nC0 i4), iv (nC1 i4), iv (nC2 i5), rv b392, rv na_452, iv (f_ad3 i2 i3 (nM i0) (nS i1) (nar .boolean (1 : Int32)) (nC0 i4) (nC1 i4) (nC2 i5)), iv (own_all (own_all (own_all (1 : Int32) (nC0 i4) (nM i0)) (nC1 i4) (nM i0)) (nC2 i5) (nM i0)), .val (.long ((((0 : Int64) + ((nC0 i4).toInt64)) + ((nC1 i4).toInt64)) + ((nC2 i5).toInt64))), .second, .val (.long ((i2).toInt64)), .second, iv (own_fin (own_all (own_all (own_all (1 : Int32) (nC0 i4) (nM i0)) (nC1 i4) (nM i0)) (nC2 i5) (nM i0)) ((((0 : Int64) + ((nC0 i4).toInt64)) + ((nC1 i4).toInt64)) + ((nC2 i5).toInt64)) (nK i1) ((i2).toInt64))] [(.int (own_fin (own_all (own_all (own_all (1 : Int32) (nC0 i4) (nM i0)) (nC1 i4) (nM i0)) (nC2 i5) (nM i0)) ((((0 : Int64) + ((nC0 i4).toInt64)) + ((nC1 i4).toInt64)) + ((nC2 i5).toInt64)) (nK i1) ((i2).toInt64))), (.int (f_ad3 i2 i3 (nM i0) (nS i1) (nar .boolean (1 : Int32)) (nC0 i4) (nC1 i4) (nC2 i5)))]
        refine XS.icmpNo X455.here hx rfl (hb hby at_280) rfl (XT.ii_ne_f (own_fin3n i0 i1 i2 i3 i4 i5)) ?_
        show Go p e below t T455 m 283 #[iv i0, iv i1, iv i2, iv i3, .val (.long i4), .second, iv i5, iv (nM i0), iv (nK i1), iv (nB i1), iv (3 : Int32), iv (nC0 i4), iv (nC1 i4), iv (nC2 i5), rv b392, rv na_452, iv (f_ad3 i2 i3 (nM i0) (nS i1) (nar .boolean (1 : Int32)) (nC0 i4) (nC1 i4) (nC2 i5)), iv (own_all (own_all (own_all (1 : Int32) (nC0 i4) (nM i0)) (nC1 i4) (nM i0)) (nC2 i5) (nM i0)), .val (.long ((((0 : Int64) + ((nC0 i4).toInt64)) + ((nC1 i4).toInt64)) + ((nC2 i5).toInt64))), .second, .val (.long ((i2).toInt64)), .second, iv (own_fin (own_all (own_all (own_all (1 : Int32) (nC0 i4) (nM i0)) (nC1 i4) (nM i0)) (nC2 i5) (nM i0)) ((((0 : Int64) + ((nC0 i4).toInt64)) + ((nC1 i4).toInt64)) + ((nC2 i5).toInt64)) (nK i1) ((i2).toInt64))] []
        refine XT.iconstV X455.here hx rfl (1 : Int32) (hb hby at_283) (by decide) ?_
        show Go p e below t T455 m 284 #[iv i0, iv i1, iv i2, iv i3, .val (.long i4), .second, iv i5, iv (nM i0), iv (nK i1), iv (nB i1), iv (3 : Int32), iv (nC0 i4), iv (nC1 i4), iv (nC2 i5), rv b392, rv na_452, iv (f_ad3 i2 i3 (nM i0) (nS i1) (nar .boolean (1 : Int32)) (nC0 i4) (nC1 i4) (nC2 i5)), iv (own_all (own_all (own_all (1 : Int32) (nC0 i4) (nM i0)) (nC1 i4) (nM i0)) (nC2 i5) (nM i0)), .val (.long ((((0 : Int64) + ((nC0 i4).toInt64)) + ((nC1 i4).toInt64)) + ((nC2 i5).toInt64))), .second, .val (.long ((i2).toInt64)), .second, iv (own_fin (own_all (own_all (own_all (1 : Int32) (nC0 i4) (nM i0)) (nC1 i4) (nM i0)) (nC2 i5) (nM i0)) ((((0 : Int64) + ((nC0 i4).toInt64)) + ((nC1 i4).toInt64)) + ((nC2 i5).toInt64)) (nK i1) ((i2).toInt64))] [(.int (1 : Int32))]
        refine XS.goto X455.here hx rfl (pc0 := 284) (pc' := 288) rfl (hb hby at_284) (by decide) (by decide) ?_
        show Go p e below t T455 m 288 #[iv i0, iv i1, iv i2, iv i3, .val (.long i4), .second, iv i5, iv (nM i0), iv (nK i1), iv (nB i1), iv (3 : Int32), iv (nC0 i4), iv (nC1 i4), iv (nC2 i5), rv b392, rv na_452, iv (f_ad3 i2 i3 (nM i0) (nS i1) (nar .boolean (1 : Int32)) (nC0 i4) (nC1 i4) (nC2 i5)), iv (own_all (own_all (own_all (1 : Int32) (nC0 i4) (nM i0)) (nC1 i4) (nM i0)) (nC2 i5) (nM i0)), .val (.long ((((0 : Int64) + ((nC0 i4).toInt64)) + ((nC1 i4).toInt64)) + ((nC2 i5).toInt64))), .second, .val (.long ((i2).toInt64)), .second, iv (own_fin (own_all (own_all (own_all (1 : Int32) (nC0 i4) (nM i0)) (nC1 i4) (nM i0)) (nC2 i5) (nM i0)) ((((0 : Int64) + ((nC0 i4).toInt64)) + ((nC1 i4).toInt64)) + ((nC2 i5).toInt64)) (nK i1) ((i2).toInt64))] [(.int (1 : Int32))]
        exact k)
      obtain ⟨fs, hr, hrun, hended, hW, hsame⟩ := X455.leave (v := some (.int (1 : Int32))) (fun h => by rw [Bd.returns] at h; cases h)
      refine ⟨_, _, g484 _ (retN X455 hx (t := .boolean) Bd.returns (by simp) (hb hby at_288) hr), hrun, hended, _, _, rfl, ?_, ⟨_, rfl⟩, hW, hsame.mono (by decide) (by decide)⟩
      show Q_law Z i0 i1 i2 i3 i4 i5  h0 n0 _ T455.heap _
      rw [e455]
      exact ⟨rfl, M455⟩
theorem own_one (a b c d : Int32) (e : Int64) (f : Int32) : f_law a b c d e f = 1 := rfl
set_option maxRecDepth 65536 in
set_option maxHeartbeats 40000000 in
theorem comes_1 {Post : Tables → Env → Array Value → State → Outcome → State → Prop} (hpost : ∀ tb e args s v u, (limb_1_1.after args s (.returned v) u = true ∧ limb_1_2.after args s (.returned v) u = true ∧ True) → FrameEnd s (.returned v) u (Jvm.fieldLocs frame_1_writes args s ++ Jvm.arrayLocs frame_1_arrays args s ++ Jvm.staticLocs frame_1_statics s) 16 128 → Post tb e args s (.returned v) u) :
    ArmFor flags0 classFile x code maxLocals ret World_1 tables_1 room_1 Calls_1 rest_1 Pre_1 Post := by
  intro l hfl _ _ p e ha hc hk s m args below hf hA hF happ hP
  obtain ⟨hcalls, hrest, hpre⟩ := hP
  obtain ⟨-, -, -, hnamed, -, -, -, hat⟩ := (Spec.applies_iff hf).mp happ
  obtain ⟨hg, hn⟩ := and_e (Cond.before_iff.mp (show (Jvm.Cond.and given_1 narrow_1).before args s = true from hpre))
  obtain ⟨hcount, q0⟩ := and_e hg
  obtain ⟨b0, q1⟩ := and_e q0
  obtain ⟨b1, q2⟩ := and_e q1
  obtain ⟨b2, q3⟩ := and_e q2
  obtain ⟨b3, q4⟩ := and_e q3
  obtain ⟨b4, q5⟩ := and_e q4
  have b5 := q5
  obtain ⟨w0, w1, w2, w3, w4, w5, rfl⟩ : ∃ w0 w1 w2 w3 w4 w5 : Value, args = #[w0, w1, w2, w3, w4, w5] := by
    have hs : args.size = 6 := by simpa [Cond.value, given_1] using hcount
    obtain ⟨L⟩ := args
    match L, hs with
    | [w0, w1, w2, w3, w4, w5], _ => exact ⟨w0, w1, w2, w3, w4, w5, rfl⟩
  have hw := fun d (hd : d ∈ tables_1) => atoms_spec (ws := Jvm.Cond.code x code maxLocals ret :: tables_1) hat d (List.mem_cons_of_mem _ hd)
  have hfit : Fit s := fun {y c} hc i hi => by
    obtain ⟨ha, rfl⟩ := Array.getElem?_eq_some_iff.mp hc
    have q := List.all_eq_true.mp ((Array.all_eq_true_iff_forall_mem.mp hF) _ (Array.getElem_mem ha)) i (List.mem_range.mpr hi)
    simpa [Array.getElem?_eq_getElem hi] using q
  obtain ⟨i0, r0⟩ := is_v b0
  obtain rfl : w0 = (.int i0) := Option.some.inj r0
  obtain ⟨i1, r1⟩ := is_v b1
  obtain rfl : w1 = (.int i1) := Option.some.inj r1
  obtain ⟨i2, r2⟩ := is_v b2
  obtain rfl : w2 = (.int i2) := Option.some.inj r2
  obtain ⟨i3, r3⟩ := is_v b3
  obtain rfl : w3 = (.int i3) := Option.some.inj r3
  obtain ⟨i4, r4⟩ := isL_v b4
  obtain rfl : w4 = (.long i4) := Option.some.inj r4
  obtain ⟨i5, r5⟩ := is_v b5
  obtain rfl : w5 = (.int i5) := Option.some.inj r5
  obtain ⟨n, o, h1, h2, h3, v, L, rfl, ⟨hv, N⟩, hq⟩ := rm_law l s _ hw tables_1 i0 i1 i2 i3 i4 i5  s.heap s.heap.size (Nat.le_refl _)  p e ha hc hk s m _ below hf ((Spec.applies_iff_loose hf).mp happ).1 ⟨rfl, State.Warmed39.refl s, rfl⟩ trivial
  obtain rfl : v = some (.int 1) := by rw [hv, own_one]
  refine ⟨n, _, h1, h2, h3, hpost _ _ _ _ _ _ ⟨Cond.after_iff.mpr rfl, Cond.after_iff.mpr (eq_i res_at (Term.int_eval (1)) rfl), trivial⟩ ⟨hq.1, hq.2.1, (hq.2.2.sift fun y hy => Or.inr (N y hy)).mono (by decide) (by decide)⟩⟩
theorem main_1_1 : Claimed_1_1 := comes_1 fun _ _ _ _ _ _ h hF => ⟨h.1, hF⟩
theorem main_1_2 : Claimed_1_2 := comes_1 fun _ _ _ _ _ _ h hF => ⟨h.2.1, hF⟩
end Jvm.Pilot.@@N@@
namespace Jvm.Pilot.@@N@@
open Jvm Jvm.ClassFile Sem Op Lib Jvm.Free Jvm.Stand Jvm.Pilot.@@N@@.Jvm.D
/-! MADE BY PROGRAM (witnessworld.py) out of the Statement's table words and the real class files: 15 classes; the members and pool entries that the words name. The judged class is class 1, her method 1. -/
namespace start1
open Jvm.ClassFile
def u (s : String) : CpInfo := .utf8 (stringToUtf16 s)
/-- a pool by its gaps: so many unusable entries, then the entry; so many at the end -/
def gap : Nat → List CpInfo → List CpInfo
  | 0, r => r
  | n + 1, r => .unusable :: gap n r
def poolList (es : List (Nat × CpInfo)) (last : Nat) : List CpInfo := es.foldr (fun e r => gap e.1 (e.2 :: r)) (gap last [])
def pool (es : List (Nat × CpInfo)) (last : Nat) : Array CpInfo := ⟨poolList es last⟩
def fileOf (pool : Array CpInfo) (this : Nat) (attrs : Array Attribute := #[]) (ms : Array MethodInfo := #[]) (fl : Nat := 33) (sup : Nat := 0) (ifs : Array Nat := #[]) (fds : Array FieldInfo := #[]) : ClassFile where
  minorVersion := 0
  majorVersion := 65
  constantPool := pool
  accessFlags := fl
  thisClass := this
  superClass := sup
  interfaces := ifs
  fields := fds
  methods := ms
  attributes := attrs
def plain (name : String) (sup : Option ClassId) : Class where
  name := name
  kind := .ordinary
  loader := none
  accessFlags := 33
  super := sup
  interfaces := #[]
  cf := none
  fields := #[]
  methods := #[]
  instanceTypes := #[]
  staticTypes := #[]
  resolved := #[]
  callSites := []
  init := .initialized
  statics := none
  mirror := none

def pool0 : Array CpInfo := pool [(5, u "<init>"), (0, u "()V"), (1, .class_ 10), (1, u "java/lang/Object")] 113

def k0c0 : Code := { maxStack := 0, maxLocals := 1, code := object_method_1_code, exceptionTable := #[], attributes := #[] }
def k0m0 : Method := { name := "<init>", desc := "()V", sig := { parameters := [], returnType := none }, accessFlags := 1, code := some k0c0 }
/-- java/lang/Object -/
def k0 : Class := { plain "java/lang/Object" none with
  accessFlags := 33
  interfaces := #[]
  cf := some (fileOf pool0 8 #[] #[{ accessFlags := 1, nameIndex := 5, descriptorIndex := 6, attributes := #[] }] 33 0 #[] #[])
  fields := #[]
  methods := #[k0m0]
  instanceTypes := #[]
  staticTypes := #[]
  resolved := Array.replicate 124 none
  statics := none }

def pool1 : Array CpInfo := pool [(2, .class_ 4), (1, u "java/lang/Object"), (0, u "<init>"), (0, u "()V"), (0, .integer 536870911), (0, .methodref 9 10), (0, .class_ 11), (0, .nameAndType 12 13), (0, u "java/lang/Math"), (0, u "max"), (0, u "(II)I"), (0, .long 536870911), (1, .class_ 17), (0, u "com/example/hetmo/hetmo/tree/StoppingRules"), (0, .double 4620693217682128896), (1, .methodref 16 21), (0, .nameAndType 5 22), (0, u "(IDDI)V"), (0, .methodref 16 24), (0, .nameAndType 25 26), (0, u "takingShareOfNode"), (0, u "()Lcom/example/hetmo/hetmo/tree/StoppingRules;"), (0, .methodref 16 28), (0, .nameAndType 29 30), (0, u "admits"), (0, u "([III)Z"), (0, .long 8), (1, .class_ 34), (0, u "com/example/hetmo/hetmo/tree/StoppingRulesAdmitsPinLaw"), (2, u "law"), (0, u "(IIIIJI)Z")] 5

def k1m0 : Method := { name := "<init>", desc := "()V", sig := { parameters := [], returnType := none }, accessFlags := 1, code := none }
def k1c1 : Code := { maxStack := 8, maxLocals := 23, code := code, exceptionTable := #[], attributes := #[] }
def k1m1 : Method := { name := "law", desc := "(IIIIJI)Z", sig := { parameters := [.int, .int, .int, .int, .long, .int], returnType := some .boolean }, accessFlags := 9, code := some k1c1 }
/-- com/example/hetmo/hetmo/tree/StoppingRulesAdmitsPinLaw -/
def k1 : Class := { plain "com/example/hetmo/hetmo/tree/StoppingRulesAdmitsPinLaw" (some 0) with
  accessFlags := 49
  interfaces := #[]
  cf := some (fileOf pool1 33 #[] #[{ accessFlags := 1, nameIndex := 5, descriptorIndex := 6, attributes := #[] }, { accessFlags := 9, nameIndex := 37, descriptorIndex := 38, attributes := #[] }] 49 2 #[] #[])
  fields := #[]
  methods := #[k1m0, k1m1]
  instanceTypes := #[]
  staticTypes := #[]
  resolved := Array.replicate 44 none
  statics := none }

def pool2 : Array CpInfo := pool [(1, .class_ 2), (0, u "java/lang/Math"), (1, .class_ 6), (1, u "java/lang/Object"), (0, u "<init>"), (0, u "()V"), (5, u "(D)D"), (83, .class_ 100), (1, u "java/lang/Math$RandomNumberGeneratorHolder"), (23, u "abs"), (47, u "negativeZeroFloatBits"), (0, u "J"), (2, u "negativeZeroDoubleBits"), (21, u "max"), (46, u "$assertionsDisabled"), (0, u "Z"), (88, u "(II)I"), (2, u "twoToTheDoubleScaleDown"), (0, u "D"), (4, u "twoToTheDoubleScaleUp"), (9, u "E"), (3, u "PI"), (2, u "TAU"), (2, u "DEGREES_TO_RADIANS"), (0, u "RADIANS_TO_DEGREES")] 94

def k2m0 : Method := { name := "<init>", desc := "()V", sig := { parameters := [], returnType := none }, accessFlags := 2, code := none }
def k2c1 : Code := { maxStack := 4, maxLocals := 2, code := jdk_29_method_64_code, exceptionTable := #[], attributes := #[] }
def k2m1 : Method := { name := "abs", desc := "(D)D", sig := { parameters := [.double], returnType := some .double }, accessFlags := 9, code := some k2c1 }
def k2c2 : Code := { maxStack := 2, maxLocals := 2, code := jdk_29_method_65_code, exceptionTable := #[], attributes := #[] }
def k2m2 : Method := { name := "max", desc := "(II)I", sig := { parameters := [.int, .int], returnType := some .int }, accessFlags := 9, code := some k2c2 }
/-- java/lang/Math -/
def k2 : Class := { plain "java/lang/Math" (some 0) with
  accessFlags := 49
  interfaces := #[]
  cf := some (fileOf pool2 1 #[.nestMembers #[98]] #[{ accessFlags := 2, nameIndex := 7, descriptorIndex := 8, attributes := #[] }, { accessFlags := 9, nameIndex := 124, descriptorIndex := 14, attributes := #[] }, { accessFlags := 9, nameIndex := 198, descriptorIndex := 335, attributes := #[] }] 49 4 #[] #[{ accessFlags := 25, nameIndex := 354, descriptorIndex := 339, attributes := #[] }, { accessFlags := 25, nameIndex := 358, descriptorIndex := 339, attributes := #[] }, { accessFlags := 25, nameIndex := 361, descriptorIndex := 339, attributes := #[] }, { accessFlags := 26, nameIndex := 364, descriptorIndex := 339, attributes := #[] }, { accessFlags := 26, nameIndex := 365, descriptorIndex := 339, attributes := #[] }, { accessFlags := 26, nameIndex := 172, descriptorIndex := 173, attributes := #[] }, { accessFlags := 26, nameIndex := 176, descriptorIndex := 173, attributes := #[] }, { accessFlags := 8, nameIndex := 344, descriptorIndex := 339, attributes := #[] }, { accessFlags := 8, nameIndex := 338, descriptorIndex := 339, attributes := #[] }, { accessFlags := 4120, nameIndex := 245, descriptorIndex := 246, attributes := #[] }])
  fields := #[{ name := "E", type := .double, accessFlags := 25, slot := 0, constantValue := 0 }, { name := "PI", type := .double, accessFlags := 25, slot := 1, constantValue := 0 }, { name := "TAU", type := .double, accessFlags := 25, slot := 2, constantValue := 0 }, { name := "DEGREES_TO_RADIANS", type := .double, accessFlags := 26, slot := 3, constantValue := 0 }, { name := "RADIANS_TO_DEGREES", type := .double, accessFlags := 26, slot := 4, constantValue := 0 }, { name := "negativeZeroFloatBits", type := .long, accessFlags := 26, slot := 5, constantValue := 0 }, { name := "negativeZeroDoubleBits", type := .long, accessFlags := 26, slot := 6, constantValue := 0 }, { name := "twoToTheDoubleScaleUp", type := .double, accessFlags := 8, slot := 7, constantValue := 0 }, { name := "twoToTheDoubleScaleDown", type := .double, accessFlags := 8, slot := 8, constantValue := 0 }, { name := "$assertionsDisabled", type := .boolean, accessFlags := 4120, slot := 9, constantValue := 0 }]
  methods := #[k2m0, k2m1, k2m2]
  instanceTypes := #[]
  staticTypes := #[.double, .double, .double, .double, .double, .long, .long, .double, .double, .boolean]
  resolved := Array.replicate 460 none
  statics := none }

def pool3 : Array CpInfo := pool [(1, .methodref 2 3), (0, .class_ 4), (0, .nameAndType 5 6), (0, u "java/lang/Object"), (0, u "<init>"), (0, u "()V"), (12, .methodref 20 21), (0, .class_ 22), (0, .nameAndType 23 24), (0, u "java/lang/Double"), (0, u "isFinite"), (0, u "(D)Z"), (2, .fieldref 28 29), (0, .class_ 30), (0, .nameAndType 31 32), (0, u "com/example/hetmo/hetmo/tree/StoppingRules"), (0, u "_minLeaf"), (0, u "I"), (0, .fieldref 28 34), (0, .nameAndType 35 36), (0, u "_minShare"), (0, u "D"), (0, .fieldref 28 38), (0, .nameAndType 39 36), (0, u "_minImprovement"), (0, .fieldref 28 41), (0, .nameAndType 42 32), (0, u "_maxDepth"), (0, .fieldref 28 44), (0, .nameAndType 45 46), (0, u "_countedApartBy"), (0, u "[D"), (0, .fieldref 28 48), (0, .nameAndType 49 50), (0, u "_shareOfNode"), (0, u "Z"), (0, .fieldref 28 52), (0, .nameAndType 53 50), (0, u "_countingEstimatingRows"), (4, .methodref 28 59), (0, .nameAndType 5 60), (0, u "(Lcom/example/hetmo/hetmo/tree/StoppingRules;[DZZ)V"), (0, u "(IDDI)V"), (6, u "takingShareOfNode"), (0, u "()Lcom/example/hetmo/hetmo/tree/StoppingRules;"), (7, u "admits"), (0, u "([III)Z")] 28

def k3c0 : Code := { maxStack := 4, maxLocals := 7, code := prog_22_method_1_code, exceptionTable := #[], attributes := #[] }
def k3m0 : Method := { name := "<init>", desc := "(IDDI)V", sig := { parameters := [.int, .double, .double, .int], returnType := none }, accessFlags := 1, code := some k3c0 }
def k3c1 : Code := { maxStack := 3, maxLocals := 5, code := prog_22_method_2_code, exceptionTable := #[], attributes := #[] }
def k3m1 : Method := { name := "<init>", desc := "(Lcom/example/hetmo/hetmo/tree/StoppingRules;[DZZ)V", sig := { parameters := [(.object "com/example/hetmo/hetmo/tree/StoppingRules"), (.array .double), .boolean, .boolean], returnType := none }, accessFlags := 2, code := some k3c1 }
def k3c2 : Code := { maxStack := 6, maxLocals := 1, code := prog_22_method_4_code, exceptionTable := #[], attributes := #[] }
def k3m2 : Method := { name := "takingShareOfNode", desc := "()Lcom/example/hetmo/hetmo/tree/StoppingRules;", sig := { parameters := [], returnType := some (.object "com/example/hetmo/hetmo/tree/StoppingRules") }, accessFlags := 1, code := some k3c2 }
def k3c3 : Code := { maxStack := 6, maxLocals := 9, code := prog_22_method_9_code, exceptionTable := #[], attributes := #[] }
def k3m3 : Method := { name := "admits", desc := "([III)Z", sig := { parameters := [(.array .int), .int, .int], returnType := some .boolean }, accessFlags := 0, code := some k3c3 }
/-- com/example/hetmo/hetmo/tree/StoppingRules -/
def k3 : Class := { plain "com/example/hetmo/hetmo/tree/StoppingRules" (some 0) with
  accessFlags := 49
  interfaces := #[]
  cf := some (fileOf pool3 28 #[] #[{ accessFlags := 1, nameIndex := 5, descriptorIndex := 61, attributes := #[] }, { accessFlags := 2, nameIndex := 5, descriptorIndex := 60, attributes := #[] }, { accessFlags := 1, nameIndex := 68, descriptorIndex := 69, attributes := #[] }, { accessFlags := 0, nameIndex := 77, descriptorIndex := 78, attributes := #[] }] 49 2 #[] #[{ accessFlags := 18, nameIndex := 31, descriptorIndex := 32, attributes := #[] }, { accessFlags := 18, nameIndex := 35, descriptorIndex := 36, attributes := #[] }, { accessFlags := 18, nameIndex := 39, descriptorIndex := 36, attributes := #[] }, { accessFlags := 18, nameIndex := 42, descriptorIndex := 32, attributes := #[] }, { accessFlags := 18, nameIndex := 45, descriptorIndex := 46, attributes := #[] }, { accessFlags := 18, nameIndex := 49, descriptorIndex := 50, attributes := #[] }, { accessFlags := 18, nameIndex := 53, descriptorIndex := 50, attributes := #[] }])
  fields := #[{ name := "_minLeaf", type := .int, accessFlags := 18, slot := 0, constantValue := 0 }, { name := "_minShare", type := .double, accessFlags := 18, slot := 1, constantValue := 0 }, { name := "_minImprovement", type := .double, accessFlags := 18, slot := 2, constantValue := 0 }, { name := "_maxDepth", type := .int, accessFlags := 18, slot := 3, constantValue := 0 }, { name := "_countedApartBy", type := (.array .double), accessFlags := 18, slot := 4, constantValue := 0 }, { name := "_shareOfNode", type := .boolean, accessFlags := 18, slot := 5, constantValue := 0 }, { name := "_countingEstimatingRows", type := .boolean, accessFlags := 18, slot := 6, constantValue := 0 }]
  methods := #[k3m0, k3m1, k3m2, k3m3]
  instanceTypes := #[.int, .double, .double, .int, (.array .double), .boolean, .boolean]
  staticTypes := #[]
  resolved := Array.replicate 107 none
  statics := none }

def pool4 : Array CpInfo := pool [(1, .class_ 2), (0, u "java/io/Serializable"), (0, .class_ 4), (0, u "java/lang/Object")] 2

/-- java/io/Serializable -/
def k4 : Class := { plain "java/io/Serializable" (some 0) with
  accessFlags := 1537
  interfaces := #[]
  cf := some (fileOf pool4 1 #[] #[] 1537 3 #[] #[])
  fields := #[]
  methods := #[]
  instanceTypes := #[]
  staticTypes := #[]
  resolved := Array.replicate 7 none
  statics := none }

def pool5 : Array CpInfo := pool [(2, .class_ 4), (1, u "java/lang/Object"), (0, u "<init>"), (0, u "()V"), (1, .class_ 10), (1, u "java/lang/Number"), (2, .class_ 14), (0, u "java/io/Serializable"), (0, u "serialVersionUID"), (0, u "J")] 20

def k5m0 : Method := { name := "<init>", desc := "()V", sig := { parameters := [], returnType := none }, accessFlags := 1, code := none }
/-- java/lang/Number -/
def k5 : Class := { plain "java/lang/Number" (some 0) with
  accessFlags := 1057
  interfaces := #[4]
  cf := some (fileOf pool5 8 #[] #[{ accessFlags := 1, nameIndex := 5, descriptorIndex := 6, attributes := #[] }] 1057 2 #[13] #[{ accessFlags := 26, nameIndex := 15, descriptorIndex := 16, attributes := #[] }])
  fields := #[{ name := "serialVersionUID", type := .long, accessFlags := 26, slot := 0, constantValue := 0 }]
  methods := #[k5m0]
  instanceTypes := #[]
  staticTypes := #[.long]
  resolved := Array.replicate 37 none
  statics := none }

def pool6 : Array CpInfo := pool [(1, .class_ 2), (0, u "java/lang/Comparable"), (0, .class_ 4), (0, u "java/lang/Object")] 7

/-- java/lang/Comparable -/
def k6 : Class := { plain "java/lang/Comparable" (some 0) with
  accessFlags := 1537
  interfaces := #[]
  cf := some (fileOf pool6 1 #[] #[] 1537 3 #[] #[])
  fields := #[]
  methods := #[]
  instanceTypes := #[]
  staticTypes := #[]
  resolved := Array.replicate 12 none
  statics := none }

def pool7 : Array CpInfo := pool [(1, .class_ 2), (0, u "java/lang/constant/Constable"), (0, .class_ 4), (0, u "java/lang/Object")] 6

/-- java/lang/constant/Constable -/
def k7 : Class := { plain "java/lang/constant/Constable" (some 0) with
  accessFlags := 1537
  interfaces := #[]
  cf := some (fileOf pool7 1 #[] #[] 1537 3 #[] #[])
  fields := #[]
  methods := #[]
  instanceTypes := #[]
  staticTypes := #[]
  resolved := Array.replicate 11 none
  statics := none }

def pool8 : Array CpInfo := pool [(1, .class_ 2), (0, u "java/lang/constant/ConstantDesc"), (0, .class_ 4), (0, u "java/lang/Object")] 32

/-- java/lang/constant/ConstantDesc -/
def k8 : Class := { plain "java/lang/constant/ConstantDesc" (some 0) with
  accessFlags := 1537
  interfaces := #[]
  cf := some (fileOf pool8 1 #[] #[] 1537 3 #[] #[])
  fields := #[]
  methods := #[]
  instanceTypes := #[]
  staticTypes := #[]
  resolved := Array.replicate 37 none
  statics := none }

def pool9 : Array CpInfo := pool [(1, .class_ 2), (0, u "java/lang/Double"), (10, u "isFinite"), (0, u "(D)Z"), (8, .class_ 25), (1, u "java/lang/Math"), (12, .methodref 23 39), (0, .nameAndType 40 41), (0, u "abs"), (0, u "(D)D"), (69, .double 9218868437227405311), (2, .class_ 116), (1, u "java/lang/Number"), (3, u "value"), (0, u "D"), (51, u "TYPE"), (0, u "Ljava/lang/Class;"), (0, .class_ 176), (0, u "java/lang/Comparable"), (0, .class_ 178), (0, u "java/lang/constant/Constable"), (0, .class_ 180), (0, u "java/lang/constant/ConstantDesc"), (0, u "POSITIVE_INFINITY"), (3, u "NEGATIVE_INFINITY"), (2, u "NaN"), (2, u "MAX_VALUE"), (0, u "MIN_NORMAL"), (0, u "MIN_VALUE"), (2, u "SIZE"), (0, u "I"), (1, u "PRECISION"), (1, u "MAX_EXPONENT"), (1, u "MIN_EXPONENT"), (1, u "BYTES"), (3, u "serialVersionUID"), (0, u "J")] 79

def k9c0 : Code := { maxStack := 4, maxLocals := 2, code := jdk_117_method_8_code, exceptionTable := #[], attributes := #[] }
def k9m0 : Method := { name := "isFinite", desc := "(D)Z", sig := { parameters := [.double], returnType := some .boolean }, accessFlags := 9, code := some k9c0 }
/-- java/lang/Double -/
def k9 : Class := { plain "java/lang/Double" (some 5) with
  accessFlags := 49
  interfaces := #[6, 7, 8]
  cf := some (fileOf pool9 1 #[] #[{ accessFlags := 9, nameIndex := 13, descriptorIndex := 14, attributes := #[] }] 49 114 #[175, 177, 179] #[{ accessFlags := 25, nameIndex := 181, descriptorIndex := 121, attributes := #[] }, { accessFlags := 25, nameIndex := 185, descriptorIndex := 121, attributes := #[] }, { accessFlags := 25, nameIndex := 188, descriptorIndex := 121, attributes := #[] }, { accessFlags := 25, nameIndex := 191, descriptorIndex := 121, attributes := #[] }, { accessFlags := 25, nameIndex := 192, descriptorIndex := 121, attributes := #[] }, { accessFlags := 25, nameIndex := 193, descriptorIndex := 121, attributes := #[] }, { accessFlags := 25, nameIndex := 196, descriptorIndex := 197, attributes := #[] }, { accessFlags := 25, nameIndex := 199, descriptorIndex := 197, attributes := #[] }, { accessFlags := 25, nameIndex := 201, descriptorIndex := 197, attributes := #[] }, { accessFlags := 25, nameIndex := 203, descriptorIndex := 197, attributes := #[] }, { accessFlags := 25, nameIndex := 205, descriptorIndex := 197, attributes := #[] }, { accessFlags := 25, nameIndex := 173, descriptorIndex := 174, attributes := #[] }, { accessFlags := 18, nameIndex := 120, descriptorIndex := 121, attributes := #[] }, { accessFlags := 26, nameIndex := 209, descriptorIndex := 210, attributes := #[] }])
  fields := #[{ name := "POSITIVE_INFINITY", type := .double, accessFlags := 25, slot := 0, constantValue := 0 }, { name := "NEGATIVE_INFINITY", type := .double, accessFlags := 25, slot := 1, constantValue := 0 }, { name := "NaN", type := .double, accessFlags := 25, slot := 2, constantValue := 0 }, { name := "MAX_VALUE", type := .double, accessFlags := 25, slot := 3, constantValue := 0 }, { name := "MIN_NORMAL", type := .double, accessFlags := 25, slot := 4, constantValue := 0 }, { name := "MIN_VALUE", type := .double, accessFlags := 25, slot := 5, constantValue := 0 }, { name := "SIZE", type := .int, accessFlags := 25, slot := 6, constantValue := 0 }, { name := "PRECISION", type := .int, accessFlags := 25, slot := 7, constantValue := 0 }, { name := "MAX_EXPONENT", type := .int, accessFlags := 25, slot := 8, constantValue := 0 }, { name := "MIN_EXPONENT", type := .int, accessFlags := 25, slot := 9, constantValue := 0 }, { name := "BYTES", type := .int, accessFlags := 25, slot := 10, constantValue := 0 }, { name := "TYPE", type := (.object "java/lang/Class"), accessFlags := 25, slot := 11, constantValue := 0 }, { name := "value", type := .double, accessFlags := 18, slot := 0, constantValue := 0 }, { name := "serialVersionUID", type := .long, accessFlags := 26, slot := 12, constantValue := 0 }]
  methods := #[k9m0]
  instanceTypes := #[.double]
  staticTypes := #[.double, .double, .double, .double, .double, .double, .int, .int, .int, .int, .int, (.object "java/lang/Class"), .long]
  resolved := Array.replicate 290 none
  statics := none }

def pool10 : Array CpInfo := pool [(1, u "java/lang/Cloneable"), (0, .class_ 1), (0, u "java/lang/Object"), (0, .class_ 3)] 3

/-- java/lang/Cloneable -/
def k10 : Class := { plain "java/lang/Cloneable" (some 0) with
  accessFlags := 1537
  interfaces := #[]
  cf := some (fileOf pool10 2 #[] #[] 1537 4 #[] #[])
  fields := #[]
  methods := #[]
  instanceTypes := #[]
  staticTypes := #[]
  resolved := Array.replicate 8 none
  statics := none }

/-- the primitive byte -/
def k11 : Class := { plain "byte" none with kind := .primitive 'B', accessFlags := 0x411 }
/-- [B -/
def k12 : Class := { plain "[B" (some 0) with kind := .array 11 .byte, interfaces := #[10, 4], accessFlags := 1041 }

/-- the primitive int -/
def k13 : Class := { plain "int" none with kind := .primitive 'I', accessFlags := 0x411 }
/-- [I -/
def k14 : Class := { plain "[I" (some 0) with kind := .array 13 .int, interfaces := #[10, 4], accessFlags := 1041 }

def heap : Heap := #[]
def classes : Array Class := #[k0, k1, k2, k3, k4, k5, k6, k7, k8, k9, k10, k11, k12, k13, k14]
def interned : List (Array UInt16 × Addr) := []
def slotsUsed : Nat := 0
def theMethod : MethodId := ⟨1, 1⟩
def args0 : Array Value := #[.int 5, .int 7, .int 9, .int 11, .long 13, .int 15]
def aboutOver (below : List Frame) : State where
  vm := { classes := classes, interned := interned.toArray }
  heap := heap
  slotsUsed := slotsUsed
  threads := #[{ frames := .invoking theMethod args0 :: below }]
def below0 : List Frame := [.native { method := ⟨0, 0⟩, args := #[] }]
def about1 : State := aboutOver below0
def p0 : Program := .bare "" "" ""
def e0 : Env := launch0.env 0 0 0
theorem w_frames : about1.frames = Frame.invoking theMethod args0 :: below0 := rfl
set_option maxRecDepth 65536 in
theorem w_args : argsFit about1.vm theMethod args0 = true := by decide +kernel
set_option maxRecDepth 65536 in
theorem w_heap : heapFits about1 = true := by decide +kernel
set_option maxRecDepth 65536 in
theorem w_runnable : about1.curStatus? = some .runnable := by decide +kernel
set_option maxRecDepth 65536 in
theorem w_alone : about1.alone = true := by decide +kernel
set_option maxRecDepth 65536 in
theorem w_named : about1.methodNamed? x = some theMethod := by decide +kernel
set_option maxRecDepth 65536 in
theorem w_hears : about1.hears theMethod below0 = true := by decide +kernel
set_option maxRecDepth 65536 in
theorem w_ripe : about1.ripe theMethod args0 below0 = true := by decide +kernel
theorem w_running : about1.status = .running := rfl
set_option maxRecDepth 65536 in
theorem w_room : about1.hasRoom e0.platform room_1 = true :=
  launch0.hasRoom_least _ room_1 (by decide +kernel) (by decide +kernel) (by decide +kernel) (by decide +kernel) (by decide +kernel) (by decide +kernel)
theorem allAtoms_all (ts : List Jvm.Cond) (a : Array Jvm.Value) (st : Jvm.State) : (allAtoms ts).before a st = ts.all (fun c => c.before a st) := by
  induction ts with
  | nil => rfl
  | cons c t ih =>
    show (Jvm.Cond.and c (allAtoms t)).before a st = _
    rw [Jvm.Cond.before_and, ih, List.all_cons]
def words1 : List Jvm.Cond := Jvm.Cond.code x code maxLocals ret :: tables_1
/-- a 'code' word, met by the world's own term for the bytes: nothing is compared byte by byte -/
theorem code_word {y : MethodName} {bytes : ByteArray} {mx : Nat} {rt : Option FieldType} {a : Array Value} {s : State} {m : MethodId} {meth : Method} {c : Code} (h1 : s.methodNamed? y = some m) (h2 : s.vm.method? m = some meth) (h3 : meth.code = some c) (h4 : c.code = bytes)
    (h5 : (c.maxLocals == mx && c.exceptionTable.isEmpty && decide (c.maxStack ≤ mostOperands) && decide (meth.sig.returnType = rt) && !meth.locks && decide (parseMethodDescriptor y.desc = some meth.sig)) = true) : (Jvm.Cond.code y bytes mx rt).before a s = true := by
  simp only [Bool.and_eq_true, beq_iff_eq, Bool.not_eq_true', decide_eq_true_eq] at h5
  obtain ⟨⟨⟨⟨⟨g1, g2⟩, g3⟩, g4⟩, g5⟩, g6⟩ := h5
  simp [Cond.before, Cond.holds, Cond.value, h1, h2, h3, h4, g1, g2, g3, g4, g5, g6]
def isCode : Jvm.Cond → Bool
  | .code _ _ _ _ => true
  | _ => false
theorem all_split {L : List Jvm.Cond} {P : Jvm.Cond → Bool} (h1 : L.all (fun c => isCode c || P c) = true) (h2 : ∀ c ∈ L.filter isCode, P c = true) : L.all P = true := by
  refine List.all_eq_true.mpr fun c hc => ?_
  have h := List.all_eq_true.mp h1 c hc
  rcases Bool.eq_false_or_eq_true (isCode c) with hi | hi
  · exact h2 c (List.mem_filter.mpr ⟨hc, hi⟩)
  · simpa [hi] using h
set_option maxRecDepth 65536 in
theorem w_c0 : (Jvm.Cond.code x code maxLocals ret).before args0 about1 = true := code_word (m := ⟨1, 1⟩) (meth := k1m1) (c := k1c1) (by decide +kernel) rfl rfl rfl (by decide +kernel)
set_option maxRecDepth 65536 in
theorem w_c1 : (Jvm.Cond.code ({ cls := "java/lang/Math", name := "max", desc := "(II)I" } : Jvm.MethodName) jdk_29_method_65_code (2 : Nat) (Option.some Jvm.ClassFile.FieldType.int)).before args0 about1 = true := code_word (m := ⟨2, 2⟩) (meth := k2m2) (c := k2c2) (by decide +kernel) rfl rfl rfl (by decide +kernel)
set_option maxRecDepth 65536 in
theorem w_c2 : (Jvm.Cond.code ({ cls := "com/example/hetmo/hetmo/tree/StoppingRules", name := "<init>", desc := "(IDDI)V" } : Jvm.MethodName) prog_22_method_1_code (7 : Nat) (Option.none : Option Jvm.ClassFile.FieldType)).before args0 about1 = true := code_word (m := ⟨3, 0⟩) (meth := k3m0) (c := k3c0) (by decide +kernel) rfl rfl rfl (by decide +kernel)
set_option maxRecDepth 65536 in
theorem w_c3 : (Jvm.Cond.code ({ cls := "java/lang/Object", name := "<init>", desc := "()V" } : Jvm.MethodName) object_method_1_code (1 : Nat) (Option.none : Option Jvm.ClassFile.FieldType)).before args0 about1 = true := code_word (m := ⟨0, 0⟩) (meth := k0m0) (c := k0c0) (by decide +kernel) rfl rfl rfl (by decide +kernel)
set_option maxRecDepth 65536 in
theorem w_c4 : (Jvm.Cond.code ({ cls := "java/lang/Double", name := "isFinite", desc := "(D)Z" } : Jvm.MethodName) jdk_117_method_8_code (2 : Nat) (Option.some Jvm.ClassFile.FieldType.boolean)).before args0 about1 = true := code_word (m := ⟨9, 0⟩) (meth := k9m0) (c := k9c0) (by decide +kernel) rfl rfl rfl (by decide +kernel)
set_option maxRecDepth 65536 in
theorem w_c5 : (Jvm.Cond.code ({ cls := "java/lang/Math", name := "abs", desc := "(D)D" } : Jvm.MethodName) jdk_29_method_64_code (2 : Nat) (Option.some Jvm.ClassFile.FieldType.double)).before args0 about1 = true := code_word (m := ⟨2, 1⟩) (meth := k2m1) (c := k2c1) (by decide +kernel) rfl rfl rfl (by decide +kernel)
set_option maxRecDepth 65536 in
theorem w_c6 : (Jvm.Cond.code ({ cls := "com/example/hetmo/hetmo/tree/StoppingRules", name := "admits", desc := "([III)Z" } : Jvm.MethodName) prog_22_method_9_code (9 : Nat) (Option.some Jvm.ClassFile.FieldType.boolean)).before args0 about1 = true := code_word (m := ⟨3, 3⟩) (meth := k3m3) (c := k3c3) (by decide +kernel) rfl rfl rfl (by decide +kernel)
set_option maxRecDepth 65536 in
theorem w_c7 : (Jvm.Cond.code ({ cls := "com/example/hetmo/hetmo/tree/StoppingRules", name := "takingShareOfNode", desc := "()Lcom/example/hetmo/hetmo/tree/StoppingRules;" } : Jvm.MethodName) prog_22_method_4_code (1 : Nat) (Option.some (Jvm.ClassFile.FieldType.object "com/example/hetmo/hetmo/tree/StoppingRules"))).before args0 about1 = true := code_word (m := ⟨3, 2⟩) (meth := k3m2) (c := k3c2) (by decide +kernel) rfl rfl rfl (by decide +kernel)
set_option maxRecDepth 65536 in
theorem w_c8 : (Jvm.Cond.code ({ cls := "com/example/hetmo/hetmo/tree/StoppingRules", name := "<init>", desc := "(Lcom/example/hetmo/hetmo/tree/StoppingRules;[DZZ)V" } : Jvm.MethodName) prog_22_method_2_code (5 : Nat) (Option.none : Option Jvm.ClassFile.FieldType)).before args0 about1 = true := code_word (m := ⟨3, 1⟩) (meth := k3m1) (c := k3c1) (by decide +kernel) rfl rfl rfl (by decide +kernel)
def codes1 : List Jvm.Cond := [Jvm.Cond.code x code maxLocals ret, Jvm.Cond.code ({ cls := "java/lang/Math", name := "max", desc := "(II)I" } : Jvm.MethodName) jdk_29_method_65_code (2 : Nat) (Option.some Jvm.ClassFile.FieldType.int), Jvm.Cond.code ({ cls := "com/example/hetmo/hetmo/tree/StoppingRules", name := "<init>", desc := "(IDDI)V" } : Jvm.MethodName) prog_22_method_1_code (7 : Nat) (Option.none : Option Jvm.ClassFile.FieldType), Jvm.Cond.code ({ cls := "java/lang/Object", name := "<init>", desc := "()V" } : Jvm.MethodName) object_method_1_code (1 : Nat) (Option.none : Option Jvm.ClassFile.FieldType), Jvm.Cond.code ({ cls := "java/lang/Double", name := "isFinite", desc := "(D)Z" } : Jvm.MethodName) jdk_117_method_8_code (2 : Nat) (Option.some Jvm.ClassFile.FieldType.boolean), Jvm.Cond.code ({ cls := "java/lang/Math", name := "abs", desc := "(D)D" } : Jvm.MethodName) jdk_29_method_64_code (2 : Nat) (Option.some Jvm.ClassFile.FieldType.double), Jvm.Cond.code ({ cls := "com/example/hetmo/hetmo/tree/StoppingRules", name := "admits", desc := "([III)Z" } : Jvm.MethodName) prog_22_method_9_code (9 : Nat) (Option.some Jvm.ClassFile.FieldType.boolean), Jvm.Cond.code ({ cls := "com/example/hetmo/hetmo/tree/StoppingRules", name := "takingShareOfNode", desc := "()Lcom/example/hetmo/hetmo/tree/StoppingRules;" } : Jvm.MethodName) prog_22_method_4_code (1 : Nat) (Option.some (Jvm.ClassFile.FieldType.object "com/example/hetmo/hetmo/tree/StoppingRules")), Jvm.Cond.code ({ cls := "com/example/hetmo/hetmo/tree/StoppingRules", name := "<init>", desc := "(Lcom/example/hetmo/hetmo/tree/StoppingRules;[DZZ)V" } : Jvm.MethodName) prog_22_method_2_code (5 : Nat) (Option.none : Option Jvm.ClassFile.FieldType)]
set_option maxRecDepth 65536 in
theorem codes_eq : words1.filter isCode = codes1 := rfl
theorem w_codes : ∀ c ∈ words1.filter isCode, c.before args0 about1 = true := by
  rw [codes_eq]
  intro c hc
  simp only [codes1, List.mem_cons, List.not_mem_nil, or_false] at hc
  rcases hc with rfl | rfl | rfl | rfl | rfl | rfl | rfl | rfl | rfl
  · exact w_c0
  · exact w_c1
  · exact w_c2
  · exact w_c3
  · exact w_c4
  · exact w_c5
  · exact w_c6
  · exact w_c7
  · exact w_c8
set_option maxRecDepth 65536 in
theorem w_t1 : (words1.take 24).all (fun c => isCode c || c.before args0 about1) = true := by decide +kernel
set_option maxRecDepth 65536 in
theorem w_t2 : ((words1.drop 24).take 24).all (fun c => isCode c || c.before args0 about1) = true := by decide +kernel
set_option maxRecDepth 65536 in
theorem w_t3 : ((words1.drop 24).drop 24).all (fun c => isCode c || c.before args0 about1) = true := by decide +kernel
theorem w_tables : (allAtoms (Jvm.Cond.code x code maxLocals ret :: tables_1)).before args0 about1 = true := by
  rw [allAtoms_all]
  show words1.all (fun c => c.before args0 about1) = true
  refine all_split ?_ w_codes
  rw [← List.take_append_drop 24 words1, List.all_append, w_t1, ← List.take_append_drop 24 (words1.drop 24), List.all_append, w_t2, w_t3]
  rfl
set_option maxRecDepth 65536 in
theorem w_case : (Jvm.Cond.and given_1 narrow_1).before args0 about1 = true := by decide +kernel
theorem w_applies : (headSpec (Jvm.Cond.code x code maxLocals ret :: tables_1) room_1).applies x e0.platform about1 = true :=
  (Spec.applies_iff w_frames).mpr ⟨w_running, w_runnable, w_alone, w_named, w_hears, w_ripe, w_room, w_tables⟩
theorem atStart : AtStart classFile x code maxLocals ret World_1 tables_1 room_1 Calls_1 rest_1 Pre_1 launch0 p0 e0 about1 theMethod args0 below0 :=
  ⟨lists_1, trivial, launch0.admits_env _ _ _, launch0.least_env, fairChoices_fair.cas, fairChoices_fair.clock, w_frames, w_args, w_heap, w_applies, trivial, trivial, w_case⟩
end start1
theorem witness_1 : WitnessClaimed_1 := ⟨start1.p0, start1.e0, start1.about1, start1.theMethod, start1.args0, start1.below0, start1.atStart⟩
end Jvm.Pilot.@@N@@
