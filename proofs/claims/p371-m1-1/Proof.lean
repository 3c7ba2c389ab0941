import JvmDerived
import JvmDerived.Pilot.@@N@@Statement
import JvmDerived.Pilot.@@N@@Code
set_option linter.unusedVariables false
set_option linter.unusedSimpArgs false
namespace Jvm.OwnFP
open Jvm.FP Jvm.FP.Core
/-- a double's value in units of the least double, 2^-1074 -/
abbrev Zv (a : UInt64) : Int := zval b64 (val64 a)
theorem fin_ne {a : UInt64} (h : DFin a) : val64 a ≠ .nan := by
  obtain ⟨s, c, q, h⟩ := h; rw [h]; exact Datum.noConfusion
theorem mul_ne {a b : UInt64} (ha : DFin a) (hb : DFin b) : val64 (FP.dmul a b) ≠ .nan :=
  Jvm.Free.Fl.val64_no.mp (Jvm.Free.Fl.dmul_out (Jvm.Free.Fl.fin64_core.mpr ha) (Jvm.Free.Fl.fin64_core.mpr hb))
theorem add_ne {a b : UInt64} (ha : DFin a) (hb : DFin b) : val64 (FP.dadd a b) ≠ .nan :=
  Jvm.Free.Fl.val64_no.mp (Jvm.Free.Fl.dadd_out (Jvm.Free.Fl.fin64_core.mpr ha).noNaN (Jvm.Free.Fl.fin64_core.mpr hb))
theorem sub_ne {a b : UInt64} (ha : DFin a) (hb : DFin b) : val64 (FP.dsub a b) ≠ .nan :=
  Jvm.Free.Fl.val64_no.mp (Jvm.Free.Fl.dsub_out (Jvm.Free.Fl.fin64_core.mpr ha).noNaN (Jvm.Free.Fl.fin64_core.mpr hb))
theorem fin_of {r U V : UInt64} (hr : val64 r ≠ .nan) (hU : DFin U) (hV : DFin V) (h1 : Zv U ≤ Zv r) (h2 : Zv r ≤ Zv V) : DFin r := by
  have uU := hU.zval_lt
  have uV := hV.zval_lt
  have aU : (Zv U).natAbs = zmag b64 (val64 U) := natAbs_signed _ _
  have aV : (Zv V).natAbs = zmag b64 (val64 V) := natAbs_signed _ _
  have ar : (Zv r).natAbs = zmag b64 (val64 r) := natAbs_signed _ _
  cases e : val64 r with
  | nan => exact absurd e hr
  | fin s c q => exact ⟨s, c, q, e⟩
  | inf s =>
    have e2 : zmag b64 (val64 r) = b64.tails * 2 ^ (b64.exps - 2) := by rw [e]; rfl
    rw [e2] at ar
    generalize b64.tails * 2 ^ (b64.exps - 2) = top at *
    omega
theorem dmul_le {a b V : UInt64} (ha : DFin a) (hb : DFin b) (hV : val64 V ≠ .nan) (h : Zv a * Zv b ≤ Zv V * (one64 : Int)) : Zv (FP.dmul a b) ≤ Zv V := by
  obtain ⟨s, c, q, ea⟩ := ha
  obtain ⟨t, d, r, eb⟩ := hb
  have fa := val64_fits a
  have fb := val64_fits b
  unfold Zv at h ⊢
  rw [ea] at fa h
  rw [eb] at fb h
  obtain ⟨p1, p2, p3⟩ := product_units fa fb
  rw [val64_dmul, ea, eb, p1]
  have hq := qmin_neg good_b64
  refine zval_round_le good_b64 (val64_fits V) hV (e0 := 2 * b64.qmin) (by omega) p2 ?_
  rw [p3, signed_xor, show (b64.qmin - 2 * b64.qmin).toNat = (-b64.qmin).toNat by omega, pow_qmin64]
  exact h
theorem dmul_ge {a b V : UInt64} (ha : DFin a) (hb : DFin b) (hV : val64 V ≠ .nan) (h : Zv V * (one64 : Int) ≤ Zv a * Zv b) : Zv V ≤ Zv (FP.dmul a b) := by
  obtain ⟨s, c, q, ea⟩ := ha
  obtain ⟨t, d, r, eb⟩ := hb
  have fa := val64_fits a
  have fb := val64_fits b
  unfold Zv at h ⊢
  rw [ea] at fa h
  rw [eb] at fb h
  obtain ⟨p1, p2, p3⟩ := product_units fa fb
  rw [val64_dmul, ea, eb, p1]
  have hq := qmin_neg good_b64
  refine zval_round_ge good_b64 (val64_fits V) hV (e0 := 2 * b64.qmin) (by omega) p2 ?_
  rw [p3, signed_xor, show (b64.qmin - 2 * b64.qmin).toNat = (-b64.qmin).toNat by omega, pow_qmin64]
  exact h
theorem dadd_le {a b V : UInt64} (ha : DFin a) (hb : DFin b) (hV : val64 V ≠ .nan) (h : Zv a + Zv b ≤ Zv V) : Zv (FP.dadd a b) ≤ Zv V := by
  unfold Zv at h ⊢
  rw [val64_dadd]; exact sum_le good_b64 ha hb (val64_fits a) (val64_fits b) (val64_fits V) hV h
theorem dadd_ge {a b V : UInt64} (ha : DFin a) (hb : DFin b) (hV : val64 V ≠ .nan) (h : Zv V ≤ Zv a + Zv b) : Zv V ≤ Zv (FP.dadd a b) := by
  unfold Zv at h ⊢
  rw [val64_dadd]; exact sum_ge good_b64 ha hb (val64_fits a) (val64_fits b) (val64_fits V) hV h
theorem neg_fin {a : UInt64} (h : DFin a) : DFin (FP.dneg a) := by
  obtain ⟨s, c, q, h⟩ := h
  exact ⟨!s, c, q, by rw [FP.val64_dneg, h]; rfl⟩
theorem Zv_neg (a : UInt64) : Zv (FP.dneg a) = -Zv a := by unfold Zv; rw [FP.val64_dneg, zval_negate]
theorem cneg_fin {a : UInt64} (h : DFin a) : DFin (Core.dneg a) := by
  obtain ⟨s, c, q, h⟩ := h
  exact ⟨!s, c, q, by rw [Core.val64_dneg, h]; rfl⟩
theorem Zv_cneg (a : UInt64) : Zv (Core.dneg a) = -Zv a := by unfold Zv; rw [Core.val64_dneg, zval_negate]
theorem dsub_le {a b V : UInt64} (ha : DFin a) (hb : DFin b) (hV : val64 V ≠ .nan) (h : Zv a - Zv b ≤ Zv V) : Zv (FP.dsub a b) ≤ Zv V := by
  show Zv (Core.dsub a b) ≤ _
  rw [Core.dsub_eq]; exact dadd_le ha (cneg_fin hb) hV (by rw [Zv_cneg]; omega)
theorem dsub_ge {a b V : UInt64} (ha : DFin a) (hb : DFin b) (hV : val64 V ≠ .nan) (h : Zv V ≤ Zv a - Zv b) : Zv V ≤ Zv (FP.dsub a b) := by
  show _ ≤ Zv (Core.dsub a b)
  rw [Core.dsub_eq]; exact dadd_ge ha (cneg_fin hb) hV (by rw [Zv_cneg]; omega)
/-- where the exact value is a double's, it is the result's -/
theorem dmul_eq {a b V : UInt64} (ha : DFin a) (hb : DFin b) (hV : DFin V) (h : Zv a * Zv b = Zv V * (one64 : Int)) : DFin (FP.dmul a b) ∧ Zv (FP.dmul a b) = Zv V := by
  have h1 := dmul_le ha hb (fin_ne hV) (Int.le_of_eq h)
  have h2 := dmul_ge ha hb (fin_ne hV) (Int.le_of_eq h.symm)
  exact ⟨fin_of (mul_ne ha hb) hV hV h2 h1, Int.le_antisymm h1 h2⟩
theorem dadd_eq {a b V : UInt64} (ha : DFin a) (hb : DFin b) (hV : DFin V) (h : Zv a + Zv b = Zv V) : DFin (FP.dadd a b) ∧ Zv (FP.dadd a b) = Zv V := by
  have h1 := dadd_le ha hb (fin_ne hV) (Int.le_of_eq h)
  have h2 := dadd_ge ha hb (fin_ne hV) (Int.le_of_eq h.symm)
  exact ⟨fin_of (add_ne ha hb) hV hV h2 h1, Int.le_antisymm h1 h2⟩
theorem dsub_eq {a b V : UInt64} (ha : DFin a) (hb : DFin b) (hV : DFin V) (h : Zv a - Zv b = Zv V) : DFin (FP.dsub a b) ∧ Zv (FP.dsub a b) = Zv V := by
  have h1 := dsub_le ha hb (fin_ne hV) (Int.le_of_eq h)
  have h2 := dsub_ge ha hb (fin_ne hV) (Int.le_of_eq h.symm)
  exact ⟨fin_of (sub_ne ha hb) hV hV h2 h1, Int.le_antisymm h1 h2⟩
theorem signed_self (N : Int) (k : Nat) : signed (decide (N < 0)) (N.natAbs * k) = N * (k : Int) := by
  rw [signed_mul]
  congr 1
  unfold signed
  by_cases h : N < 0 <;> simp [h] <;> omega
/-- every N * 2^k units, N of up to 53 digits, is a double -/
theorem rep (N : Int) (k : Nat) (hN : N.natAbs < 2 ^ 53) (hk : k ≤ 2045) : ∃ V, DFin V ∧ Zv V = N * ((2 ^ k : Nat) : Int) := by
  have q1 := qmin_b64
  have q2 : b64.qmax = 971 := by decide
  obtain ⟨c', q', h1, h2⟩ := round_exact good_b64 (decide (N < 0)) (c := N.natAbs) (q := (k : Int) - 1074) hN (by omega) (by omega)
  have hv : val64 (of64 (round b64 (.fin (decide (N < 0)) N.natAbs ((k : Int) - 1074)))) = .fin (decide (N < 0)) c' q' := by
    rw [val64_of64 (round_fits good_b64 _), h1]
  refine ⟨_, ⟨_, _, _, hv⟩, ?_⟩
  unfold Zv
  rw [hv]
  show signed (decide (N < 0)) (inUnits c' q' b64.qmin) = _
  rw [h2, q1]
  unfold inUnits
  rw [show ((k : Int) - 1074 - -1074).toNat = k by omega]
  exact signed_self N _
/-- the double a is N * 2^(k - 1074) -/
def Val (a : UInt64) (N : Int) (k : Nat) : Prop := DFin a ∧ Zv a = N * ((2 ^ k : Nat) : Int)
theorem one_pow : (one64 : Int) = ((2 ^ 1074 : Nat) : Int) := rfl
theorem Val.of_int {i : Int} {a : UInt64} (h : DInt i a) : Val a i 1074 := by
  refine ⟨?_, (DInt_zval h).trans (by rw [one_pow])⟩
  unfold DInt at h
  cases e : val64 a with
  | nan => rw [e] at h; exact h.elim
  | inf s => rw [e] at h; exact h.elim
  | fin s c q => exact ⟨s, c, q, e⟩
theorem Val.i2d (n : Int32) : Val (FP.i2d n) n.toInt 1074 := Val.of_int (i2d_int n)
theorem Val.l2d {n : Int64} (h : n.toInt.natAbs ≤ 2 ^ 53) : Val (FP.l2d n) n.toInt 1074 := Val.of_int (l2d_int h)
theorem Val.neg {a : UInt64} {N : Int} {k : Nat} (h : Val a N k) : Val (FP.dneg a) (-N) k := ⟨neg_fin h.1, by rw [Zv_neg, h.2, Int.neg_mul]⟩
theorem pow_cast (k j : Nat) : ((2 ^ (k + j) : Nat) : Int) = ((2 ^ k : Nat) : Int) * ((2 ^ j : Nat) : Int) := by
  rw [Nat.pow_add, Int.natCast_mul]
theorem Val.mul {a b : UInt64} {N M : Int} {k j i : Nat} (ha : Val a N k) (hb : Val b M j) (hN : (N * M).natAbs < 2 ^ 53) (hi : k + j = i + 1074) (hk : i ≤ 2045) : Val (FP.dmul a b) (N * M) i := by
  obtain ⟨V, fV, zV⟩ := rep (N * M) i hN hk
  obtain ⟨h1, h2⟩ := dmul_eq ha.1 hb.1 fV (by
    rw [ha.2, hb.2, zV, one_pow, Int.mul_assoc (N * M), ← pow_cast, ← hi, pow_cast, Int.mul_assoc N M, Int.mul_assoc N, Int.mul_left_comm _ M])
  exact ⟨h1, h2.trans zV⟩
theorem Val.add {a b : UInt64} {N M : Int} {k : Nat} (ha : Val a N k) (hb : Val b M k) (hN : (N + M).natAbs < 2 ^ 53) (hk : k ≤ 2045) : Val (FP.dadd a b) (N + M) k := by
  obtain ⟨V, fV, zV⟩ := rep (N + M) k hN hk
  obtain ⟨h1, h2⟩ := dadd_eq ha.1 hb.1 fV (by rw [ha.2, hb.2, zV, Int.add_mul])
  exact ⟨h1, h2.trans zV⟩
theorem Val.sub {a b : UInt64} {N M : Int} {k : Nat} (ha : Val a N k) (hb : Val b M k) (hN : (N - M).natAbs < 2 ^ 53) (hk : k ≤ 2045) : Val (FP.dsub a b) (N - M) k := by
  obtain ⟨V, fV, zV⟩ := rep (N - M) k hN hk
  obtain ⟨h1, h2⟩ := dsub_eq ha.1 hb.1 fV (by rw [ha.2, hb.2, zV, Int.sub_mul])
  exact ⟨h1, h2.trans zV⟩
theorem pow_pos' (k : Nat) : (0 : Int) < ((2 ^ k : Nat) : Int) := by have := Nat.two_pow_pos k; omega
theorem Val.cmp {a b : UInt64} {N M : Int} {k : Nat} (ha : Val a N k) (hb : Val b M k) : FP.dcmp a b = some (compare N M) := by
  have h : FP.dcmp a b = some (compare (Zv a) (Zv b)) := dcmp_zval (fin_ne ha.1) (fin_ne hb.1)
  rw [h, ha.2, hb.2, compare_mul_pos _ _ _ (pow_pos' k)]
theorem Val.scale {a : UInt64} {N : Int} {k : Nat} (j : Nat) (ha : Val a N (k + j)) : Val a (N * ((2 ^ j : Nat) : Int)) k :=
  ⟨ha.1, by rw [ha.2, pow_cast, Int.mul_assoc, Int.mul_comm ((2 ^ k : Nat) : Int)]⟩
theorem lt_iff {a b : UInt64} (ha : DFin a) (hb : DFin b) : FP.dcmp a b = some .lt ↔ Zv a < Zv b :=
  ⟨fun h => (dcmp_lt.mp h).2.2, fun h => dcmp_lt.mpr ⟨fin_ne ha, fin_ne hb, h⟩⟩
theorem eq_iff {a b : UInt64} (ha : DFin a) (hb : DFin b) : FP.dcmp a b = some .eq ↔ Zv a = Zv b :=
  ⟨fun h => (dcmp_eq.mp h).2.2, fun h => dcmp_eq.mpr ⟨fin_ne ha, fin_ne hb, h⟩⟩
theorem le_iff {a b : UInt64} (ha : DFin a) (hb : DFin b) : (FP.dcmp a b = some .lt ∨ FP.dcmp a b = some .eq) ↔ Zv a ≤ Zv b := by
  rw [lt_iff ha hb, eq_iff ha hb]; omega
theorem dfin_const {a : UInt64} (h : a.toNat % 9223372036854775808 < 9218868437227405312) : DFin a := (Core.fin_bits a).mpr h
end Jvm.OwnFP
namespace Jvm.OwnFP
open Jvm.FP Jvm.FP.Core
theorem ratio_units {s t : Bool} {c d : Nat} {q r : Int} (fa : Core.fits b64 (.fin s c q)) (fb : Core.fits b64 (.fin t d r)) :
    2 * b64.qmin - r ≤ b64.qmin ∧ 2 * b64.qmin - r ≤ q - r ∧ inUnits c (q - r) (2 * b64.qmin - r) = zmag b64 (.fin s c q) * one64 ∧
    ∀ m : Nat, m * 2 ^ (b64.qmin - (2 * b64.qmin - r)).toNat * d = m * zmag b64 (.fin t d r) := by
  have h1 : b64.qmin ≤ q := fa.2.1
  have h2 : b64.qmin ≤ r := fb.2.1
  have hq := qmin_neg good_b64
  refine ⟨by omega, by omega, ?_, fun m => ?_⟩
  · show c * 2 ^ (q - r - (2 * b64.qmin - r)).toNat = c * 2 ^ (q - b64.qmin).toNat * one64
    rw [← pow_qmin64, Nat.mul_assoc, ← Nat.pow_add]
    congr 2; omega
  · show m * 2 ^ (b64.qmin - (2 * b64.qmin - r)).toNat * d = m * (d * 2 ^ (r - b64.qmin).toNat)
    rw [show (b64.qmin - (2 * b64.qmin - r)).toNat = (r - b64.qmin).toNat by omega, Nat.mul_assoc, Nat.mul_comm d]
theorem div_form {a b : UInt64} (hb : 0 < Zv b) {s t : Bool} {c d : Nat} {q r : Int} (ea : val64 a = .fin s c q) (eb : val64 b = .fin t d r) :
    0 < d ∧ t = false ∧ val64 (FP.ddiv a b) = roundRatio b64 s c d (q - r) := by
  have hd : d ≠ 0 := by
    intro hd
    unfold Zv at hb
    rw [eb, hd] at hb
    have : zval b64 (.fin t 0 r) = 0 := by
      show signed t (0 * _) = 0
      rw [Nat.zero_mul]; exact signed_zero t
    omega
  have ht : t = false := by
    cases t with
    | false => rfl
    | true =>
      exfalso
      unfold Zv at hb
      rw [eb] at hb
      have : zval b64 (.fin true d r) = -((zmag b64 (.fin true d r) : Nat) : Int) := rfl
      omega
  subst ht
  refine ⟨by omega, rfl, ?_⟩
  rw [val64_ddiv, ea, eb]
  show (if d = 0 then _ else roundRatio b64 (s != false) c d (q - r)) = _
  rw [if_neg hd]
  cases s <;> rfl
theorem zsgn {s : Bool} {c : Nat} {q : Int} : zval b64 (.fin s c q) = signed s (zmag b64 (.fin s c q)) := rfl
theorem zval_rr (s : Bool) (A B : Nat) (e : Int) : zval b64 (roundRatio b64 s A B e) = signed s (zmag b64 (roundRatio b64 s A B e)) := by
  unfold zval; rw [sgn_roundRatio]
theorem zmag_of (V : UInt64) : (0 ≤ Zv V → ((zmag b64 (val64 V) : Nat) : Int) = Zv V) ∧ (Zv V ≤ 0 → ((zmag b64 (val64 V) : Nat) : Int) = -Zv V) := by
  have h : Zv V = signed (sgn (val64 V)) (zmag b64 (val64 V)) := rfl
  cases hs : sgn (val64 V) <;> rw [hs] at h <;> simp only [signed, if_true, Bool.false_eq_true, if_false] at h <;> omega
theorem ddiv_le {a b V : UInt64} (ha : DFin a) (hb : DFin b) (hb0 : 0 < Zv b) (hV : val64 V ≠ .nan) (h : Zv a * (one64 : Int) ≤ Zv V * Zv b) : Zv (FP.ddiv a b) ≤ Zv V := by
  obtain ⟨s, c, q, ea⟩ := ha
  obtain ⟨t, d, r, eb⟩ := hb
  obtain ⟨hd, rfl, e⟩ := div_form hb0 ea eb
  have fa := val64_fits a
  have fb := val64_fits b
  rw [ea] at fa
  rw [eb] at fb
  obtain ⟨u1, u2, u3, u4⟩ := ratio_units fa fb
  obtain ⟨v1, v2⟩ := zmag_of V
  have za : Zv a = signed s (zmag b64 (.fin s c q)) := by unfold Zv; rw [ea]; rfl
  have zb : Zv b = ((zmag b64 (.fin false d r) : Nat) : Int) := by unfold Zv; rw [eb]; rfl
  rw [zb] at h hb0
  rw [za] at h
  show zval b64 (val64 (FP.ddiv a b)) ≤ Zv V
  rw [e, zval_rr]
  have op := one64_pos
  cases s with
  | false =>
    simp only [signed, Bool.false_eq_true, if_false] at h ⊢
    have hV0 : 0 ≤ Zv V := Int.not_lt.mp fun hn => by
      have : Zv V * ((zmag b64 (.fin false d r) : Nat) : Int) < 0 := Int.mul_neg_of_neg_of_pos hn hb0
      have : (0 : Int) ≤ ((zmag b64 (.fin false c q) : Nat) : Int) * (one64 : Int) := Int.mul_nonneg (by omega) (by omega)
      omega
    have := zmag_roundRatio_le good_b64 (s := false) (A := c) (B := d) (e := q - r) hd (val64_fits V) hV u1 u2 (by
      rw [u3, u4]
      rw [← v1 hV0] at h
      exact Int.ofNat_le.mp (by rw [Int.natCast_mul, Int.natCast_mul]; exact h))
    have := v1 hV0
    omega
  | true =>
    simp only [signed, if_true] at h ⊢
    by_cases hV0 : 0 ≤ Zv V
    · omega
    · have hv := v2 (by omega)
      have := zmag_roundRatio_ge good_b64 (s := true) (A := c) (B := d) (e := q - r) hd (val64_fits V) u1 u2 (by
        rw [u3, u4]
        refine Int.ofNat_le.mp ?_
        rw [Int.natCast_mul, Int.natCast_mul, hv, Int.neg_mul]
        rw [Int.neg_mul] at h
        omega)
      omega
theorem neg_ddiv (a b : UInt64) : Zv (FP.ddiv (Core.dneg a) b) = -Zv (FP.ddiv a b) := by
  show Zv (Core.ddiv (Core.dneg a) b) = _
  rw [Core.ddiv_dneg, Zv_cneg]
theorem ddiv_ge {a b V : UInt64} (ha : DFin a) (hb : DFin b) (hb0 : 0 < Zv b) (hV : val64 V ≠ .nan) (h : Zv V * Zv b ≤ Zv a * (one64 : Int)) : Zv V ≤ Zv (FP.ddiv a b) := by
  have := ddiv_le (a := Core.dneg a) (b := b) (V := Core.dneg V) (cneg_fin ha) hb hb0 (by rw [Core.val64_dneg]; exact negate_ne_nan hV) (by rw [Zv_cneg, Zv_cneg, Int.neg_mul, Int.neg_mul]; omega)
  rw [neg_ddiv, Zv_cneg] at this
  omega
theorem div_ne {a b : UInt64} (ha : DFin a) (hb : DFin b) (hb0 : 0 < Zv b) : val64 (FP.ddiv a b) ≠ .nan := by
  obtain ⟨s, c, q, ea⟩ := ha
  obtain ⟨t, d, r, eb⟩ := hb
  obtain ⟨hd, rfl, e⟩ := div_form hb0 ea eb
  rw [e]; exact roundRatio_ne_nan _ _ _ _ _
theorem ddiv_eq {a b V : UInt64} (ha : DFin a) (hb : DFin b) (hb0 : 0 < Zv b) (hV : DFin V) (h : Zv a * (one64 : Int) = Zv V * Zv b) : DFin (FP.ddiv a b) ∧ Zv (FP.ddiv a b) = Zv V := by
  have h1 := ddiv_le ha hb hb0 (fin_ne hV) (Int.le_of_eq h)
  have h2 := ddiv_ge ha hb hb0 (fin_ne hV) (Int.le_of_eq h.symm)
  exact ⟨fin_of (div_ne ha hb hb0) hV hV h2 h1, Int.le_antisymm h1 h2⟩
/-- a quotient by a power of two -/
theorem Val.div2 {a b : UInt64} {N : Int} {k i : Nat} (ha : Val a N k) (hb : Val b 1 i) (hN : N.natAbs < 2 ^ 53) {j : Nat} (hi : k + 1074 = j + i) (hj : j ≤ 2045) : Val (FP.ddiv a b) N j := by
  obtain ⟨V, fV, zV⟩ := rep N j hN hj
  have hb0 : 0 < Zv b := by rw [hb.2, Int.one_mul]; exact pow_pos' i
  obtain ⟨h1, h2⟩ := ddiv_eq ha.1 hb.1 hb0 fV (by rw [ha.2, hb.2, zV, one_pow, Int.one_mul, Int.mul_assoc, Int.mul_assoc, ← pow_cast, ← pow_cast, hi])
  exact ⟨h1, h2.trans zV⟩
end Jvm.OwnFP
namespace Jvm.Pilot.@@N@@
open Jvm Jvm.ClassFile Sem Op Lib Jvm.Free Jvm.Stand Jvm.LawKit Jvm.RoadKit Bundle Jvm.Pilot.@@N@@.Jvm.D
abbrev Go (p : Program) (e : Env) (below : List Frame) (t T : State) (m : MethodId) (pc : Nat) (ls : Array Slot) (st : List Value) : Prop := Steps p.tables e below (T.setTop (mkF m pc ls st)) t
/-- from A the run comes to B -/
def Goes (p : Program) (e : Env) (below : List Frame) (A B : State) : Prop := ∀ t, Steps p.tables e below B t → Steps p.tables e below A t
abbrev dLt (x y : UInt64) : Prop := FP.dcmp x y = some .lt
abbrev dEq (x y : UInt64) : Prop := FP.dcmp x y = some .eq
abbrev dLe (x y : UInt64) : Prop := FP.dcmp x y = some .lt ∨ FP.dcmp x y = some .eq
abbrev fLt (x y : UInt32) : Prop := FP.fcmp x y = some .lt
abbrev fEq (x y : UInt32) : Prop := FP.fcmp x y = some .eq
abbrev fLe (x y : UInt32) : Prop := FP.fcmp x y = some .lt ∨ FP.fcmp x y = some .eq
theorem Sta.keepO {Z : State} {h h' : Heap} {C n d : String} {v : Value} {ws : List Addr} (F : Sta Z h C n d v) (K : Keep h h' ws) (q : ∀ x ∈ ws, ∀ cell : Cell, h[x]? = some cell → cell.vm.isStatics = false) : Sta Z h' C n d v := by
  obtain ⟨cf, i, k, f, st, cell, h1, h2, h3, h4, h5, h6, h7⟩ := F
  refine ⟨cf, i, k, f, st, cell, h1, h2, h3, h4, K.2.1 _ _ h5 fun hm => ?_, h6, h7⟩
  rw [q _ hm _ h5] at h6; cases h6
theorem own_swap (o : Option Ordering) : o.map Ordering.swap = some .lt ↔ o = some .gt := by rcases o with _ | (_ | _ | _) <;> simp [Ordering.swap]
theorem own_swapE (o : Option Ordering) : o.map Ordering.swap = some .eq ↔ o = some .eq := by rcases o with _ | (_ | _ | _) <;> simp [Ordering.swap]
theorem own_dgt (x y : UInt64) : dLt y x ↔ FP.dcmp x y = some .gt := by
  show FP.Core.dcmp y x = some .lt ↔ FP.Core.dcmp x y = some .gt
  rw [FP.Core.dcmp_swap x y]; exact own_swap _
theorem own_dge (x y : UInt64) : dLe y x ↔ (FP.dcmp x y = some .gt ∨ FP.dcmp x y = some .eq) := by
  show (FP.Core.dcmp y x = some .lt ∨ FP.Core.dcmp y x = some .eq) ↔ (FP.Core.dcmp x y = some .gt ∨ FP.Core.dcmp x y = some .eq)
  rw [FP.Core.dcmp_swap x y, own_swap, own_swapE]
theorem own_fgt (x y : UInt32) : fLt y x ↔ FP.fcmp x y = some .gt := by
  show FP.Core.fcmp y x = some .lt ↔ FP.Core.fcmp x y = some .gt
  rw [FP.Core.fcmp_swap x y]; exact own_swap _
theorem own_fge (x y : UInt32) : fLe y x ↔ (FP.fcmp x y = some .gt ∨ FP.fcmp x y = some .eq) := by
  show (FP.Core.fcmp y x = some .lt ∨ FP.Core.fcmp y x = some .eq) ↔ (FP.Core.fcmp x y = some .gt ∨ FP.Core.fcmp x y = some .eq)
  rw [FP.Core.fcmp_swap x y, own_swap, own_swapE]
theorem own_c (o : Option Ordering) :
    (o = some .lt → ifCond.holds .ge (cmpValue o .g) = false ∧ ifCond.holds .lt (cmpValue o .g) = true) ∧
    (¬ o = some .lt → ifCond.holds .ge (cmpValue o .g) = true ∧ ifCond.holds .lt (cmpValue o .g) = false) ∧
    ((o = some .lt ∨ o = some .eq) → ifCond.holds .gt (cmpValue o .g) = false ∧ ifCond.holds .le (cmpValue o .g) = true) ∧
    (¬ (o = some .lt ∨ o = some .eq) → ifCond.holds .gt (cmpValue o .g) = true ∧ ifCond.holds .le (cmpValue o .g) = false) ∧
    (o = some .gt → ifCond.holds .le (cmpValue o .l) = false ∧ ifCond.holds .gt (cmpValue o .l) = true) ∧
    (¬ o = some .gt → ifCond.holds .le (cmpValue o .l) = true ∧ ifCond.holds .gt (cmpValue o .l) = false) ∧
    ((o = some .gt ∨ o = some .eq) → ifCond.holds .lt (cmpValue o .l) = false ∧ ifCond.holds .ge (cmpValue o .l) = true) ∧
    (¬ (o = some .gt ∨ o = some .eq) → ifCond.holds .lt (cmpValue o .l) = true ∧ ifCond.holds .ge (cmpValue o .l) = false) ∧
    (o = some .eq → ∀ q, ifCond.holds .ne (cmpValue o q) = false ∧ ifCond.holds .eq (cmpValue o q) = true) ∧
    (¬ o = some .eq → ∀ q, ifCond.holds .ne (cmpValue o q) = true ∧ ifCond.holds .eq (cmpValue o q) = false) := by
  refine ⟨?_, ?_, ?_, ?_, ?_, ?_, ?_, ?_, ?_, ?_⟩ <;> rcases o with _ | (_ | _ | _) <;> first | (intro h; exact ⟨by decide, by decide⟩) | (intro h q; cases q <;> exact ⟨by decide, by decide⟩) | (intro h; simp at h; done) | (intro h; exact absurd rfl h) | (intro h; exact absurd (Or.inl rfl) h) | (intro h; exact absurd (Or.inr rfl) h)
theorem dc_g_ge_f {x y : UInt64} (h : dLt x y) : ifCond.holds .ge (cmpValue (FP.dcmp x y) .g) = false := ((own_c _).1 h).1
theorem dc_g_ge_t {x y : UInt64} (h : ¬ dLt x y) : ifCond.holds .ge (cmpValue (FP.dcmp x y) .g) = true := ((own_c _).2.1 h).1
theorem dc_g_lt_t {x y : UInt64} (h : dLt x y) : ifCond.holds .lt (cmpValue (FP.dcmp x y) .g) = true := ((own_c _).1 h).2
theorem dc_g_lt_f {x y : UInt64} (h : ¬ dLt x y) : ifCond.holds .lt (cmpValue (FP.dcmp x y) .g) = false := ((own_c _).2.1 h).2
theorem dc_g_gt_f {x y : UInt64} (h : dLe x y) : ifCond.holds .gt (cmpValue (FP.dcmp x y) .g) = false := ((own_c _).2.2.1 h).1
theorem dc_g_gt_t {x y : UInt64} (h : ¬ dLe x y) : ifCond.holds .gt (cmpValue (FP.dcmp x y) .g) = true := ((own_c _).2.2.2.1 h).1
theorem dc_g_le_t {x y : UInt64} (h : dLe x y) : ifCond.holds .le (cmpValue (FP.dcmp x y) .g) = true := ((own_c _).2.2.1 h).2
theorem dc_g_le_f {x y : UInt64} (h : ¬ dLe x y) : ifCond.holds .le (cmpValue (FP.dcmp x y) .g) = false := ((own_c _).2.2.2.1 h).2
theorem dc_l_le_f {x y : UInt64} (h : dLt y x) : ifCond.holds .le (cmpValue (FP.dcmp x y) .l) = false := ((own_c _).2.2.2.2.1 ((own_dgt x y).mp h)).1
theorem dc_l_le_t {x y : UInt64} (h : ¬ dLt y x) : ifCond.holds .le (cmpValue (FP.dcmp x y) .l) = true := ((own_c _).2.2.2.2.2.1 (fun q => h ((own_dgt x y).mpr q))).1
theorem dc_l_gt_t {x y : UInt64} (h : dLt y x) : ifCond.holds .gt (cmpValue (FP.dcmp x y) .l) = true := ((own_c _).2.2.2.2.1 ((own_dgt x y).mp h)).2
theorem dc_l_gt_f {x y : UInt64} (h : ¬ dLt y x) : ifCond.holds .gt (cmpValue (FP.dcmp x y) .l) = false := ((own_c _).2.2.2.2.2.1 (fun q => h ((own_dgt x y).mpr q))).2
theorem dc_l_lt_f {x y : UInt64} (h : dLe y x) : ifCond.holds .lt (cmpValue (FP.dcmp x y) .l) = false := ((own_c _).2.2.2.2.2.2.1 ((own_dge x y).mp h)).1
theorem dc_l_lt_t {x y : UInt64} (h : ¬ dLe y x) : ifCond.holds .lt (cmpValue (FP.dcmp x y) .l) = true := ((own_c _).2.2.2.2.2.2.2.1 (fun q => h ((own_dge x y).mpr q))).1
theorem dc_l_ge_t {x y : UInt64} (h : dLe y x) : ifCond.holds .ge (cmpValue (FP.dcmp x y) .l) = true := ((own_c _).2.2.2.2.2.2.1 ((own_dge x y).mp h)).2
theorem dc_l_ge_f {x y : UInt64} (h : ¬ dLe y x) : ifCond.holds .ge (cmpValue (FP.dcmp x y) .l) = false := ((own_c _).2.2.2.2.2.2.2.1 (fun q => h ((own_dge x y).mpr q))).2
theorem dc_l_ne_f {x y : UInt64} (h : dEq x y) : ifCond.holds .ne (cmpValue (FP.dcmp x y) .l) = false := ((own_c _).2.2.2.2.2.2.2.2.1 h _).1
theorem dc_l_ne_t {x y : UInt64} (h : ¬ dEq x y) : ifCond.holds .ne (cmpValue (FP.dcmp x y) .l) = true := ((own_c _).2.2.2.2.2.2.2.2.2 h _).1
theorem dc_l_eq_t {x y : UInt64} (h : dEq x y) : ifCond.holds .eq (cmpValue (FP.dcmp x y) .l) = true := ((own_c _).2.2.2.2.2.2.2.2.1 h _).2
theorem dc_l_eq_f {x y : UInt64} (h : ¬ dEq x y) : ifCond.holds .eq (cmpValue (FP.dcmp x y) .l) = false := ((own_c _).2.2.2.2.2.2.2.2.2 h _).2
theorem dc_g_ne_f {x y : UInt64} (h : dEq x y) : ifCond.holds .ne (cmpValue (FP.dcmp x y) .g) = false := ((own_c _).2.2.2.2.2.2.2.2.1 h _).1
theorem dc_g_ne_t {x y : UInt64} (h : ¬ dEq x y) : ifCond.holds .ne (cmpValue (FP.dcmp x y) .g) = true := ((own_c _).2.2.2.2.2.2.2.2.2 h _).1
theorem dc_g_eq_t {x y : UInt64} (h : dEq x y) : ifCond.holds .eq (cmpValue (FP.dcmp x y) .g) = true := ((own_c _).2.2.2.2.2.2.2.2.1 h _).2
theorem dc_g_eq_f {x y : UInt64} (h : ¬ dEq x y) : ifCond.holds .eq (cmpValue (FP.dcmp x y) .g) = false := ((own_c _).2.2.2.2.2.2.2.2.2 h _).2
theorem fc_g_ge_f {x y : UInt32} (h : fLt x y) : ifCond.holds .ge (cmpValue (FP.fcmp x y) .g) = false := ((own_c _).1 h).1
theorem fc_g_ge_t {x y : UInt32} (h : ¬ fLt x y) : ifCond.holds .ge (cmpValue (FP.fcmp x y) .g) = true := ((own_c _).2.1 h).1
theorem fc_g_lt_t {x y : UInt32} (h : fLt x y) : ifCond.holds .lt (cmpValue (FP.fcmp x y) .g) = true := ((own_c _).1 h).2
theorem fc_g_lt_f {x y : UInt32} (h : ¬ fLt x y) : ifCond.holds .lt (cmpValue (FP.fcmp x y) .g) = false := ((own_c _).2.1 h).2
theorem fc_g_gt_f {x y : UInt32} (h : fLe x y) : ifCond.holds .gt (cmpValue (FP.fcmp x y) .g) = false := ((own_c _).2.2.1 h).1
theorem fc_g_gt_t {x y : UInt32} (h : ¬ fLe x y) : ifCond.holds .gt (cmpValue (FP.fcmp x y) .g) = true := ((own_c _).2.2.2.1 h).1
theorem fc_g_le_t {x y : UInt32} (h : fLe x y) : ifCond.holds .le (cmpValue (FP.fcmp x y) .g) = true := ((own_c _).2.2.1 h).2
theorem fc_g_le_f {x y : UInt32} (h : ¬ fLe x y) : ifCond.holds .le (cmpValue (FP.fcmp x y) .g) = false := ((own_c _).2.2.2.1 h).2
theorem fc_l_le_f {x y : UInt32} (h : fLt y x) : ifCond.holds .le (cmpValue (FP.fcmp x y) .l) = false := ((own_c _).2.2.2.2.1 ((own_fgt x y).mp h)).1
theorem fc_l_le_t {x y : UInt32} (h : ¬ fLt y x) : ifCond.holds .le (cmpValue (FP.fcmp x y) .l) = true := ((own_c _).2.2.2.2.2.1 (fun q => h ((own_fgt x y).mpr q))).1
theorem fc_l_gt_t {x y : UInt32} (h : fLt y x) : ifCond.holds .gt (cmpValue (FP.fcmp x y) .l) = true := ((own_c _).2.2.2.2.1 ((own_fgt x y).mp h)).2
theorem fc_l_gt_f {x y : UInt32} (h : ¬ fLt y x) : ifCond.holds .gt (cmpValue (FP.fcmp x y) .l) = false := ((own_c _).2.2.2.2.2.1 (fun q => h ((own_fgt x y).mpr q))).2
theorem fc_l_lt_f {x y : UInt32} (h : fLe y x) : ifCond.holds .lt (cmpValue (FP.fcmp x y) .l) = false := ((own_c _).2.2.2.2.2.2.1 ((own_fge x y).mp h)).1
theorem fc_l_lt_t {x y : UInt32} (h : ¬ fLe y x) : ifCond.holds .lt (cmpValue (FP.fcmp x y) .l) = true := ((own_c _).2.2.2.2.2.2.2.1 (fun q => h ((own_fge x y).mpr q))).1
theorem fc_l_ge_t {x y : UInt32} (h : fLe y x) : ifCond.holds .ge (cmpValue (FP.fcmp x y) .l) = true := ((own_c _).2.2.2.2.2.2.1 ((own_fge x y).mp h)).2
theorem fc_l_ge_f {x y : UInt32} (h : ¬ fLe y x) : ifCond.holds .ge (cmpValue (FP.fcmp x y) .l) = false := ((own_c _).2.2.2.2.2.2.2.1 (fun q => h ((own_fge x y).mpr q))).2
theorem fc_l_ne_f {x y : UInt32} (h : fEq x y) : ifCond.holds .ne (cmpValue (FP.fcmp x y) .l) = false := ((own_c _).2.2.2.2.2.2.2.2.1 h _).1
theorem fc_l_ne_t {x y : UInt32} (h : ¬ fEq x y) : ifCond.holds .ne (cmpValue (FP.fcmp x y) .l) = true := ((own_c _).2.2.2.2.2.2.2.2.2 h _).1
theorem fc_l_eq_t {x y : UInt32} (h : fEq x y) : ifCond.holds .eq (cmpValue (FP.fcmp x y) .l) = true := ((own_c _).2.2.2.2.2.2.2.2.1 h _).2
theorem fc_l_eq_f {x y : UInt32} (h : ¬ fEq x y) : ifCond.holds .eq (cmpValue (FP.fcmp x y) .l) = false := ((own_c _).2.2.2.2.2.2.2.2.2 h _).2
theorem fc_g_ne_f {x y : UInt32} (h : fEq x y) : ifCond.holds .ne (cmpValue (FP.fcmp x y) .g) = false := ((own_c _).2.2.2.2.2.2.2.2.1 h _).1
theorem fc_g_ne_t {x y : UInt32} (h : ¬ fEq x y) : ifCond.holds .ne (cmpValue (FP.fcmp x y) .g) = true := ((own_c _).2.2.2.2.2.2.2.2.2 h _).1
theorem fc_g_eq_t {x y : UInt32} (h : fEq x y) : ifCond.holds .eq (cmpValue (FP.fcmp x y) .g) = true := ((own_c _).2.2.2.2.2.2.2.2.1 h _).2
theorem fc_g_eq_f {x y : UInt32} (h : ¬ fEq x y) : ifCond.holds .eq (cmpValue (FP.fcmp x y) .g) = false := ((own_c _).2.2.2.2.2.2.2.2.2 h _).2

theorem own_irr (x : Int32) : ¬ x < x := by rw [Int32.lt_iff_toInt_lt]; omega
theorem own_ntl {j n : Int32} (h0 : ¬ j < 0) (h : j < n) : j.toNatClampNeg < n.toNatClampNeg := by
  rw [Int32.lt_iff_toInt_lt] at h h0
  have z : (0 : Int32).toInt = 0 := by decide
  have a := nat_of (j := j) (by rw [Int32.lt_iff_toInt_lt]; exact h0)
  have b := nat_of (j := n) (by rw [Int32.lt_iff_toInt_lt]; omega)
  omega
theorem own_inc {j n : Int32} (h : j < n) : (j + 1).toInt = j.toInt + 1 := by
  rw [Int32.lt_iff_toInt_lt] at h
  have h1 := c_iadd j 1
  have h2 := rng32 (j + 1)
  have h3 := rng32 n
  have h4 := rng32 j
  have z : (1 : Int32).toInt = 1 := by decide
  omega
/-- every component is a probability -/
def Prob (n : Int32) (vs : List Value) (d : Value) : Prop := ∀ i, i < n.toNatClampNeg → ∃ x : UInt64, vs.getD i d = .double x ∧ dLe (0 : UInt64) x ∧ dLe x (4607182418800017408 : UInt64)
def Sc (s4 s5 : Slot) : Prop := (s4 = .unset ∧ s5 = .unset) ∨ ∃ y : UInt64, s4 = .val (.double y) ∧ s5 = .second


section Own
open Jvm.OwnFP
theorem own_vz (k : Nat) : Val (0 : UInt64) 0 k := by
  have h := Val.i2d 0
  rw [show FP.i2d 0 = (0 : UInt64) by decide +kernel] at h
  exact ⟨h.1, by rw [h.2, show (0 : Int32).toInt = 0 by decide, Int.zero_mul, Int.zero_mul]⟩
theorem own_v1 : Val (4607182418800017408 : UInt64) 1 1074 := Val.of_int FP.Core.dint_one
theorem own_cmp {N M : Int} (h : N ≤ M) : compare N M = .lt ∨ compare N M = .eq := by
  rw [FP.Core.compare_lt_iff, FP.Core.compare_eq_iff]; omega
theorem own_prob {a : UInt64} {N : Int} {j : Nat} (h : Val a N (1074 - j)) (hj : j ≤ 1074) (h0 : 0 ≤ N) (h1 : N ≤ ((2 ^ j : Nat) : Int)) : dLe (0 : UInt64) a ∧ dLe a (4607182418800017408 : UInt64) := by
  have hv : Val (4607182418800017408 : UInt64) (1 * ((2 ^ j : Nat) : Int)) (1074 - j) := Val.scale j (by rw [Nat.sub_add_cancel hj]; exact own_v1)
  unfold dLe
  rw [(own_vz (1074 - j)).cmp h, h.cmp hv]
  exact ⟨by simpa using own_cmp h0, by simpa using own_cmp (N := N) (M := 1 * ((2 ^ j : Nat) : Int)) (by omega)⟩
end Own

theorem own_nn (a : Int32) : Jvm.Free.Fl.NoNaN64 (FP.ddiv (FP.i2d a) (4625196817309499392 : UInt64)) := Jvm.Free.Fl.ddiv_out (Jvm.Free.Fl.i2d_fin _).noNaN (by unfold Jvm.Free.Fl.Fin64; decide) (by unfold Jvm.Free.Fl.Nz64; decide)
theorem d1_0 : decode method_2_code 0 = .ok (.lload_n 0, 1) := by decide +kernel
theorem d1_1 : decode method_2_code 1 = .ok (.iconst 4, 1) := by decide +kernel
theorem d1_2 : decode method_2_code 2 = .ok (.iload_n 2, 1) := by decide +kernel
theorem d1_3 : decode method_2_code 3 = .ok (.imul, 1) := by decide +kernel
theorem d1_4 : decode method_2_code 4 = .ok (.lushr, 1) := by decide +kernel
theorem d1_5 : decode method_2_code 5 = .ok (.ldc2_w 7, 3) := by decide +kernel
theorem d1_8 : decode method_2_code 8 = .ok (.land, 1) := by decide +kernel
theorem d1_9 : decode method_2_code 9 = .ok (.l2i, 1) := by decide +kernel
theorem d1_10 : decode method_2_code 10 = .ok (.i2d, 1) := by decide +kernel
theorem d1_11 : decode method_2_code 11 = .ok (.ldc2_w 9, 3) := by decide +kernel
theorem d1_14 : decode method_2_code 14 = .ok (.ddiv, 1) := by decide +kernel
theorem d1_15 : decode method_2_code 15 = .ok (.dreturn, 1) := by decide +kernel
theorem pd0 : parseMethodDescriptor "(JI)D" = some ⟨[.long, .int], some .double⟩ := by decide +kernel
theorem pf_v : plainFor (⟨"com/example/borrowed_prior/borrowedprior/model/TopicModelTermProbabilityPinLaw", "v", "(JI)D"⟩ : MethodName) = true := by first | exact plainFor_of_name (by first | (simp [plainName, overriddenIn, x]; done) | decide +kernel) | exact Jvm.Free.JP.mathPlain rfl (by decide +kernel) | decide +kernel
theorem ef_v (m : MethodId) (xb : Int64) (xi : Int32) : entryFrame m #[(.long xb), (.int xi)] 3 = mkF m 0 #[.val (.long xb), .second, iv xi] [] := by first | (simp [entryFrame, mkF, argsToLocals, Value.category, maxLocals]; done) | rfl
def f_v (xb : Int64) (xi : Int32) : UInt64 := (FP.ddiv (FP.i2d (((((xb).toUInt64 >>> (((4 : Int32) * xi) &&& 0x3f).toInt64.toUInt64).toInt64) &&& (15 : Int64)).toInt32)) (4625196817309499392 : UInt64))
def Q_v (Z : State) (xb : Int64) (xi : Int32)  (h0 : Heap) (n0 : Nat) (v : Option Value) (h : Heap) (L : List Loc) : Prop := v = some (.double (f_v xb xi)) ∧ Fr n0 L ∧ h = h0
set_option maxRecDepth 65536 in
set_option maxHeartbeats 40000000 in
theorem rm_v (l : Launch) (Z : State) (a0 : Array Value) (hw : ∀ d ∈ tables_1, d.before a0 Z = true) (ws : List Jvm.Cond) (xb : Int64) (xi : Int32)  (h0 : Heap) (n0 : Nat) (Z0 : n0 ≤ h0.size)   :
    MetFree l (⟨"com/example/borrowed_prior/borrowedprior/model/TopicModelTermProbabilityPinLaw", "v", "(JI)D"⟩ : MethodName) (head1 (Jvm.Cond.code (⟨"com/example/borrowed_prior/borrowedprior/model/TopicModelTermProbabilityPinLaw", "v", "(JI)D"⟩ : MethodName) method_2_code 3 (some .double) :: ws) ({ frames := 0, cells := 0, slots := 0, locals := 0 } : Room)) (fun a U => a = #[(.long xb), (.int xi)] ∧ Z.Warmed39 U.vm ∧ U.heap = h0) (fun _ _ _ _ _ => True) (fun _ U o U' => ∃ v L, o = .returned v ∧ Q_v Z xb xi  h0 n0 v U'.heap L ∧ FrameEnd U o U' L ({ frames := 0, cells := 0, slots := 0, locals := 0 } : Room).cells ({ frames := 0, cells := 0, slots := 0, locals := 0 } : Room).slots) := by
  refine MetFree.of_bodySF pf_v hisR ?_
  intro p e s m args below meth c s₁ Bd hml0 hP hK
  obtain ⟨rfl, hZ, hh⟩ := hP
  have hx := Bd.exec
  have hby := Bd.bytes
  have hml : c.maxLocals = 3 := hml0
  have hown : s.vm.findClass "com/example/borrowed_prior/borrowedprior/model/TopicModelTermProbabilityPinLaw" = some m.cls := findClass_of_methodNamed Bd.named
  have hnm := (name_of_methodNamed Bd.named Bd.method).1
  have X0 : Stand p l e ({ frames := 0, cells := 0, slots := 0, locals := 0 } : Room) s m #[(.long xb), (.int xi)] below meth c s₁ [] 0 0 := Stand.of_body Bd
  have e0 : s₁.heap = h0 := by rw [← hh, Bd.state]; rfl
  have N0 := Fr.nil n0
  obtain ⟨S0, hS0⟩ : ∃ z, z = s₁.setTop (entryFrame m #[(.long xb), (.int xi)] 3) := ⟨_, rfl⟩
  rw [← hS0]
  have g0 : Goes p e below S0 (s₁.setTop (mkF m 0 #[.val (.long xb), .second, iv xi] [])) := fun t k => by rw [hS0]; exact castTop (ef_v m xb xi) k
  have g1 : Goes p e below S0 (s₁.setTop (mkF m 15 #[.val (.long xb), .second, iv xi] [(.double (FP.ddiv (FP.i2d (((((xb).toUInt64 >>> (((4 : Int32) * xi) &&& 0x3f).toInt64.toUInt64).toInt64) &&& (15 : Int64)).toInt32)) (4625196817309499392 : UInt64)))])) := fun t k => g0 t (by
    refine XS.lloadN X0.here hx rfl (hb hby d1_0) rfl ?_
    show Go p e below t s₁ m 1 #[.val (.long xb), .second, iv xi] [(.long xb)]
    refine XT.iconstV X0.here hx rfl (4 : Int32) (hb hby d1_1) (by decide) ?_
    show Go p e below t s₁ m 2 #[.val (.long xb), .second, iv xi] [(.int (4 : Int32)), (.long xb)]
    refine XS.iloadN X0.here hx rfl (hb hby d1_2) rfl ?_
    show Go p e below t s₁ m 3 #[.val (.long xb), .second, iv xi] [(.int xi), (.int (4 : Int32)), (.long xb)]
    refine XS.imul X0.here hx rfl (hb hby d1_3) rfl ?_
    show Go p e below t s₁ m 4 #[.val (.long xb), .second, iv xi] [(.int ((4 : Int32) * xi)), (.long xb)]
    refine XS.lushr X0.here hx rfl (hb hby d1_4) rfl ?_
    show Go p e below t s₁ m 5 #[.val (.long xb), .second, iv xi] [(.long (((xb).toUInt64 >>> (((4 : Int32) * xi) &&& 0x3f).toInt64.toUInt64).toInt64))]
    refine Jvm.Stand.ldc2J X0 hx hown (mvT hZ (hw _ (List.mem_of_getElem? (i := 12) rfl))) (g := (mkF m 5 #[.val (.long xb), .second, iv xi] [(.long (((xb).toUInt64 >>> (((4 : Int32) * xi) &&& 0x3f).toInt64.toUInt64).toInt64))])) rfl (hb hby d1_5) ?_
    show Go p e below t s₁ m 8 #[.val (.long xb), .second, iv xi] [(.long (15 : Int64)), (.long (((xb).toUInt64 >>> (((4 : Int32) * xi) &&& 0x3f).toInt64.toUInt64).toInt64))]
    refine XS.land X0.here hx rfl (hb hby d1_8) rfl ?_
    show Go p e below t s₁ m 9 #[.val (.long xb), .second, iv xi] [(.long ((((xb).toUInt64 >>> (((4 : Int32) * xi) &&& 0x3f).toInt64.toUInt64).toInt64) &&& (15 : Int64)))]
    refine XS.l2i X0.here hx rfl (hb hby d1_9) rfl ?_
    show Go p e below t s₁ m 10 #[.val (.long xb), .second, iv xi] [(.int (((((xb).toUInt64 >>> (((4 : Int32) * xi) &&& 0x3f).toInt64.toUInt64).toInt64) &&& (15 : Int64)).toInt32))]
    refine XS.i2dS X0.here hx rfl (hb hby d1_10) rfl rfl ?_
    show Go p e below t s₁ m 11 #[.val (.long xb), .second, iv xi] [(.double (FP.i2d (((((xb).toUInt64 >>> (((4 : Int32) * xi) &&& 0x3f).toInt64.toUInt64).toInt64) &&& (15 : Int64)).toInt32)))]
    refine X0.ldc2DoubleC hx hown (mvT hZ (hw _ (List.mem_of_getElem? (i := 13) rfl))) (g := (mkF m 11 #[.val (.long xb), .second, iv xi] [(.double (FP.i2d (((((xb).toUInt64 >>> (((4 : Int32) * xi) &&& 0x3f).toInt64.toUInt64).toInt64) &&& (15 : Int64)).toInt32)))])) rfl (hb hby d1_11) _ ?_
    show Go p e below t s₁ m 14 #[.val (.long xb), .second, iv xi] [(.double (4625196817309499392 : UInt64)), (.double (FP.i2d (((((xb).toUInt64 >>> (((4 : Int32) * xi) &&& 0x3f).toInt64.toUInt64).toInt64) &&& (15 : Int64)).toInt32)))]
    refine XS.ddivS X0.here hx rfl (hb hby d1_14) rfl (own_nn _) rfl ?_
    show Go p e below t s₁ m 15 #[.val (.long xb), .second, iv xi] [(.double (FP.ddiv (FP.i2d (((((xb).toUInt64 >>> (((4 : Int32) * xi) &&& 0x3f).toInt64.toUInt64).toInt64) &&& (15 : Int64)).toInt32)) (4625196817309499392 : UInt64)))]
    exact k)
  obtain ⟨fs, hr, hrun, hended, hW, hsame⟩ := X0.leave (v := some (.double (FP.ddiv (FP.i2d (((((xb).toUInt64 >>> (((4 : Int32) * xi) &&& 0x3f).toInt64.toUInt64).toInt64) &&& (15 : Int64)).toInt32)) (4625196817309499392 : UInt64)))) (fun h => by rw [Bd.returns] at h; cases h)
  refine ⟨_, _, g1 _ (retOut X0 hx Bd.returns rfl (Or.inr (Or.inr (Or.inl ⟨rfl, rfl, _, rfl⟩))) (hb hby d1_15) hr), hrun, hended, _, _, rfl, ?_, ⟨_, rfl⟩, hW, hsame.mono (by decide) (by decide)⟩
  show Q_v Z xb xi  h0 n0 _ s₁.heap _
  rw [e0]
  exact ⟨rfl, N0, rfl⟩
theorem d4_0 : decode prog_37_method_12_code 0 = .ok (.aload_n 0, 1) := by decide +kernel
theorem d4_1 : decode prog_37_method_12_code 1 = .ok (.astore_n 1, 1) := by decide +kernel
theorem d4_2 : decode prog_37_method_12_code 2 = .ok (.aload_n 1, 1) := by decide +kernel
theorem d4_3 : decode prog_37_method_12_code 3 = .ok (.arraylength, 1) := by decide +kernel
theorem d4_4 : decode prog_37_method_12_code 4 = .ok (.istore_n 2, 1) := by decide +kernel
theorem d4_5 : decode prog_37_method_12_code 5 = .ok (.iconst 0, 1) := by decide +kernel
theorem d4_6 : decode prog_37_method_12_code 6 = .ok (.istore_n 3, 1) := by decide +kernel
theorem d4_7 : decode prog_37_method_12_code 7 = .ok (.iload_n 3, 1) := by decide +kernel
theorem d4_8 : decode prog_37_method_12_code 8 = .ok (.iload_n 2, 1) := by decide +kernel
theorem d4_9 : decode prog_37_method_12_code 9 = .ok (.if_icmp .ge 43, 3) := by decide +kernel
theorem d4_12 : decode prog_37_method_12_code 12 = .ok (.aload_n 1, 1) := by decide +kernel
theorem d4_13 : decode prog_37_method_12_code 13 = .ok (.iload_n 3, 1) := by decide +kernel
theorem d4_14 : decode prog_37_method_12_code 14 = .ok (.daload, 1) := by decide +kernel
theorem d4_15 : decode prog_37_method_12_code 15 = .ok (.dstore 4, 2) := by decide +kernel
theorem d4_17 : decode prog_37_method_12_code 17 = .ok (.dload 4, 2) := by decide +kernel
theorem d4_19 : decode prog_37_method_12_code 19 = .ok (.dconst 0, 1) := by decide +kernel
theorem d4_20 : decode prog_37_method_12_code 20 = .ok (.dcmp .l, 1) := by decide +kernel
theorem d4_21 : decode prog_37_method_12_code 21 = .ok (.ifCond .lt 10, 3) := by decide +kernel
theorem d4_24 : decode prog_37_method_12_code 24 = .ok (.dload 4, 2) := by decide +kernel
theorem d4_26 : decode prog_37_method_12_code 26 = .ok (.dconst 1, 1) := by decide +kernel
theorem d4_27 : decode prog_37_method_12_code 27 = .ok (.dcmp .g, 1) := by decide +kernel
theorem d4_28 : decode prog_37_method_12_code 28 = .ok (.ifCond .le 18, 3) := by decide +kernel
theorem d4_31 : decode prog_37_method_12_code 31 = .ok (.new 7, 3) := by decide +kernel
theorem d4_34 : decode prog_37_method_12_code 34 = .ok (.dup, 1) := by decide +kernel
theorem d4_35 : decode prog_37_method_12_code 35 = .ok (.dload 4, 2) := by decide +kernel
theorem d4_37 : decode prog_37_method_12_code 37 = .ok (.invokedynamic 115, 5) := by decide +kernel
theorem d4_42 : decode prog_37_method_12_code 42 = .ok (.invokespecial 13, 3) := by decide +kernel
theorem d4_45 : decode prog_37_method_12_code 45 = .ok (.athrow, 1) := by decide +kernel
theorem d4_46 : decode prog_37_method_12_code 46 = .ok (.iinc 3 1, 3) := by decide +kernel
theorem d4_49 : decode prog_37_method_12_code 49 = .ok (.goto (-42), 3) := by decide +kernel
theorem d4_52 : decode prog_37_method_12_code 52 = .ok (.return_, 1) := by decide +kernel
theorem pd1 : parseMethodDescriptor "([D)V" = some ⟨[(.array .double)], none⟩ := by decide +kernel
theorem pf_req : plainFor (⟨"com/example/borrowed_prior/borrowedprior/model/TopicModel", "requireProbabilities", "([D)V"⟩ : MethodName) = true := by first | exact plainFor_of_name (by first | (simp [plainName, overriddenIn, x]; done) | decide +kernel) | exact Jvm.Free.JP.mathPlain rfl (by decide +kernel) | decide +kernel
theorem ef_req (m : MethodId) (qa : Addr) : entryFrame m #[(.ref qa)] 6 = mkF m 0 #[rv qa, .unset, .unset, .unset, .unset, .unset] [] := by first | (simp [entryFrame, mkF, argsToLocals, Value.category, maxLocals]; done) | rfl
def Q_req (Z : State) (qa : Addr) (zk : ClassId) (zn : Int32) (zv : List Value) (zd : Value) (h0 : Heap) (n0 : Nat) (v : Option Value) (h : Heap) (L : List Loc) : Prop := v = none ∧ Fr n0 L ∧ h = h0
set_option maxRecDepth 65536 in
set_option maxHeartbeats 40000000 in
theorem rm_req (l : Launch) (Z : State) (a0 : Array Value) (hw : ∀ d ∈ tables_1, d.before a0 Z = true) (ws : List Jvm.Cond) (qa : Addr) (zk : ClassId) (zn : Int32) (zv : List Value) (zd : Value) (h0 : Heap) (n0 : Nat) (Z0 : n0 ≤ h0.size) (P0 : Arv Z h0 qa zk .double zn zv zd) (hp : Prob zn zv zd) (hz : 0 ≤ zn.toInt)  :
    MetFree l (⟨"com/example/borrowed_prior/borrowedprior/model/TopicModel", "requireProbabilities", "([D)V"⟩ : MethodName) (head1 (Jvm.Cond.code (⟨"com/example/borrowed_prior/borrowedprior/model/TopicModel", "requireProbabilities", "([D)V"⟩ : MethodName) prog_37_method_12_code 6 none :: ws) ({ frames := 0, cells := 0, slots := 0, locals := 0 } : Room)) (fun a U => a = #[(.ref qa)] ∧ Z.Warmed39 U.vm ∧ U.heap = h0) (fun _ _ _ _ _ => True) (fun _ U o U' => ∃ v L, o = .returned v ∧ Q_req Z qa zk zn zv zd h0 n0 v U'.heap L ∧ FrameEnd U o U' L ({ frames := 0, cells := 0, slots := 0, locals := 0 } : Room).cells ({ frames := 0, cells := 0, slots := 0, locals := 0 } : Room).slots) := by
  refine MetFree.of_bodySF pf_req hisR ?_
  intro p e s m args below meth c s₁ Bd hml0 hP hK
  obtain ⟨rfl, hZ, hh⟩ := hP
  have hx := Bd.exec
  have hby := Bd.bytes
  have hml : c.maxLocals = 6 := hml0
  have hown : s.vm.findClass "com/example/borrowed_prior/borrowedprior/model/TopicModel" = some m.cls := findClass_of_methodNamed Bd.named
  have hnm := (name_of_methodNamed Bd.named Bd.method).1
  have X0 : Stand p l e ({ frames := 0, cells := 0, slots := 0, locals := 0 } : Room) s m #[(.ref qa)] below meth c s₁ [] 0 0 := Stand.of_body Bd
  have e0 : s₁.heap = h0 := by rw [← hh, Bd.state]; rfl
  have N0 := Fr.nil n0
  obtain ⟨S0, hS0⟩ : ∃ z, z = s₁.setTop (entryFrame m #[(.ref qa)] 6) := ⟨_, rfl⟩
  rw [← hS0]
  have g0 : Goes p e below S0 (s₁.setTop (mkF m 0 #[rv qa, .unset, .unset, .unset, .unset, .unset] [])) := fun t k => by rw [hS0]; exact castTop (ef_req m qa) k
  have g2 : Goes p e below S0 (s₁.setTop (mkF m 3 #[rv qa, rv qa, .unset, .unset, .unset, .unset] [(.ref qa)])) := fun t k => g0 t (by
    refine XS.aloadN X0.here hx rfl (hb hby d4_0) rfl rfl ?_
    show Go p e below t s₁ m 1 #[rv qa, .unset, .unset, .unset, .unset, .unset] [(.ref qa)]
    refine XS.astoreN X0.here hx rfl (hb hby d4_1) rfl rfl (l' := #[rv qa, rv qa, .unset, .unset, .unset, .unset]) rfl ?_
    show Go p e below t s₁ m 2 #[rv qa, rv qa, .unset, .unset, .unset, .unset] []
    refine XS.aloadN X0.here hx rfl (hb hby d4_2) rfl rfl ?_
    show Go p e below t s₁ m 3 #[rv qa, rv qa, .unset, .unset, .unset, .unset] [(.ref qa)]
    exact k)
  obtain ⟨cl3, Ar3, q3, S3, M3, H3, G3⟩ := id P0
  have g4 : Goes p e below S0 (s₁.setTop (mkF m 7 #[rv qa, rv qa, iv zn, iv (0 : Int32), .unset, .unset] [])) := fun t k => g2 t (by
    refine X0.arraylength hx (by rw [e0]; exact Ar3.1) (State.isArrayOf_alike hZ.alike Ar3.2.1) (g := (mkF m 3 #[rv qa, rv qa, .unset, .unset, .unset, .unset] [(.ref qa)])) rfl rfl (hb hby d4_3) _ ?_
    rw [len_of S3 M3]
    show Go p e below t s₁ m 4 #[rv qa, rv qa, .unset, .unset, .unset, .unset] [(.int zn)]
    refine XS.istoreN X0.here hx rfl (hb hby d4_4) rfl (l' := #[rv qa, rv qa, iv zn, .unset, .unset, .unset]) rfl ?_
    show Go p e below t s₁ m 5 #[rv qa, rv qa, iv zn, .unset, .unset, .unset] []
    refine XT.iconstV X0.here hx rfl (0 : Int32) (hb hby d4_5) (by decide) ?_
    show Go p e below t s₁ m 6 #[rv qa, rv qa, iv zn, .unset, .unset, .unset] [(.int (0 : Int32))]
    refine XS.istoreN X0.here hx rfl (hb hby d4_6) rfl (l' := #[rv qa, rv qa, iv zn, iv (0 : Int32), .unset, .unset]) rfl ?_
    show Go p e below t s₁ m 7 #[rv qa, rv qa, iv zn, iv (0 : Int32), .unset, .unset] []
    exact k)
  have turn : ∀ (j : Int32) (s4 s5 : Slot), Sc s4 s5 → ¬ j < 0 → j < zn → ∃ x : UInt64, Goes p e below (s₁.setTop (mkF m 7 #[rv qa, rv qa, iv zn, iv j, s4, s5] [])) (s₁.setTop (mkF m 7 #[rv qa, rv qa, iv zn, iv (j + (1 : Int32)), .val (.double x), .second] [])) := by
    intro j s4 s5 hs hj0 hj
    obtain ⟨x, ex, e1, e2⟩ := hp j.toNatClampNeg (own_ntl hj0 hj)
    refine ⟨x, ?_⟩
    rcases hs with ⟨rfl, rfl⟩ | ⟨y, rfl, rfl⟩
    · skip
      have g5 : Goes p e below (s₁.setTop (mkF m 7 #[rv qa, rv qa, iv zn, iv j, .unset, .unset] [])) (s₁.setTop (mkF m 7 #[rv qa, rv qa, iv zn, iv j, .unset, .unset] [])) := fun t k => k
      have g6 : Goes p e below (s₁.setTop (mkF m 7 #[rv qa, rv qa, iv zn, iv j, .unset, .unset] [])) (s₁.setTop (mkF m 14 #[rv qa, rv qa, iv zn, iv j, .unset, .unset] [(.int j), (.ref qa)])) := fun t k => g5 t (by
        refine XS.iloadN X0.here hx rfl (hb hby d4_7) rfl ?_
        show Go p e below t s₁ m 8 #[rv qa, rv qa, iv zn, iv j, .unset, .unset] [(.int j)]
        refine XS.iloadN X0.here hx rfl (hb hby d4_8) rfl ?_
        show Go p e below t s₁ m 9 #[rv qa, rv qa, iv zn, iv j, .unset, .unset] [(.int zn), (.int j)]
        refine XS.icmpNo X0.here hx rfl (hb hby d4_9) rfl (XT.ii_ge_f hj) ?_
        show Go p e below t s₁ m 12 #[rv qa, rv qa, iv zn, iv j, .unset, .unset] []
        refine XS.aloadN X0.here hx rfl (hb hby d4_12) rfl rfl ?_
        show Go p e below t s₁ m 13 #[rv qa, rv qa, iv zn, iv j, .unset, .unset] [(.ref qa)]
        refine XS.iloadN X0.here hx rfl (hb hby d4_13) rfl ?_
        show Go p e below t s₁ m 14 #[rv qa, rv qa, iv zn, iv j, .unset, .unset] [(.int j), (.ref qa)]
        exact k)
      obtain ⟨cl7, Ar7, q7, S7, M7, H7, G7⟩ := id P0
      have g8 : Goes p e below (s₁.setTop (mkF m 7 #[rv qa, rv qa, iv zn, iv j, .unset, .unset] [])) (s₁.setTop (mkF m 7 #[rv qa, rv qa, iv zn, iv (j + (1 : Int32)), .val (.double x), .second] [])) := fun t k => g6 t (by
        refine X0.daload hx (j := j) (v := (.double x)) (by rw [e0]; exact Ar7.1) (State.isArrayOf_alike hZ.alike Ar7.2.1) Ar7.2.2 (inb_of S7 ⟨hj0, hj⟩) (H7.at (inb_of S7 ⟨hj0, hj⟩) ex) (g := (mkF m 14 #[rv qa, rv qa, iv zn, iv j, .unset, .unset] [(.int j), (.ref qa)])) rfl rfl (hb hby d4_14) _ ?_
        show Go p e below t s₁ m 15 #[rv qa, rv qa, iv zn, iv j, .unset, .unset] [(.double x)]
        refine XS.dstore X0.here hx rfl (hb hby d4_15) rfl (l' := #[rv qa, rv qa, iv zn, iv j, .val (.double x), .second]) rfl ?_
        show Go p e below t s₁ m 17 #[rv qa, rv qa, iv zn, iv j, .val (.double x), .second] []
        refine XS.dload X0.here hx rfl (hb hby d4_17) rfl ?_
        show Go p e below t s₁ m 19 #[rv qa, rv qa, iv zn, iv j, .val (.double x), .second] [(.double x)]
        refine XS.dconst0 X0.here hx rfl (hb hby d4_19) (v := (0 : UInt64)) rfl ?_
        show Go p e below t s₁ m 20 #[rv qa, rv qa, iv zn, iv j, .val (.double x), .second] [(.double (0 : UInt64)), (.double x)]
        refine XS.dcmpS X0.here hx rfl (hb hby d4_20) rfl rfl ?_
        show Go p e below t s₁ m 21 #[rv qa, rv qa, iv zn, iv j, .val (.double x), .second] [(.int (cmpValue (FP.dcmp x (0 : UInt64)) .l))]
        refine XS.ifNo X0.here hx rfl (hb hby d4_21) rfl (dc_l_lt_f e1) ?_
        show Go p e below t s₁ m 24 #[rv qa, rv qa, iv zn, iv j, .val (.double x), .second] []
        refine XS.dload X0.here hx rfl (hb hby d4_24) rfl ?_
        show Go p e below t s₁ m 26 #[rv qa, rv qa, iv zn, iv j, .val (.double x), .second] [(.double x)]
        refine XS.dconst1 X0.here hx rfl (hb hby d4_26) (v := (4607182418800017408 : UInt64)) rfl ?_
        show Go p e below t s₁ m 27 #[rv qa, rv qa, iv zn, iv j, .val (.double x), .second] [(.double (4607182418800017408 : UInt64)), (.double x)]
        refine XS.dcmpS X0.here hx rfl (hb hby d4_27) rfl rfl ?_
        show Go p e below t s₁ m 28 #[rv qa, rv qa, iv zn, iv j, .val (.double x), .second] [(.int (cmpValue (FP.dcmp x (4607182418800017408 : UInt64)) .g))]
        refine XS.ifYes X0.here hx rfl (pc0 := 28) (pc' := 46) rfl (hb hby d4_28) rfl (dc_g_le_t e2) (by decide) (by decide) ?_
        show Go p e below t s₁ m 46 #[rv qa, rv qa, iv zn, iv j, .val (.double x), .second] []
        refine XT.iincV X0.here hx rfl (1 : Int32) (hb hby d4_46) (by decide) rfl (l' := #[rv qa, rv qa, iv zn, iv (j + (1 : Int32)), .val (.double x), .second]) rfl ?_
        show Go p e below t s₁ m 49 #[rv qa, rv qa, iv zn, iv (j + (1 : Int32)), .val (.double x), .second] []
        refine XS.goto X0.here hx rfl (pc0 := 49) (pc' := 7) rfl (hb hby d4_49) (by decide) (by decide) ?_
        show Go p e below t s₁ m 7 #[rv qa, rv qa, iv zn, iv (j + (1 : Int32)), .val (.double x), .second] []
        exact k)
      exact g8
    · skip
      have g9 : Goes p e below (s₁.setTop (mkF m 7 #[rv qa, rv qa, iv zn, iv j, .val (.double y), .second] [])) (s₁.setTop (mkF m 7 #[rv qa, rv qa, iv zn, iv j, .val (.double y), .second] [])) := fun t k => k
      have g10 : Goes p e below (s₁.setTop (mkF m 7 #[rv qa, rv qa, iv zn, iv j, .val (.double y), .second] [])) (s₁.setTop (mkF m 14 #[rv qa, rv qa, iv zn, iv j, .val (.double y), .second] [(.int j), (.ref qa)])) := fun t k => g9 t (by
        refine XS.iloadN X0.here hx rfl (hb hby d4_7) rfl ?_
        show Go p e below t s₁ m 8 #[rv qa, rv qa, iv zn, iv j, .val (.double y), .second] [(.int j)]
        refine XS.iloadN X0.here hx rfl (hb hby d4_8) rfl ?_
        show Go p e below t s₁ m 9 #[rv qa, rv qa, iv zn, iv j, .val (.double y), .second] [(.int zn), (.int j)]
        refine XS.icmpNo X0.here hx rfl (hb hby d4_9) rfl (XT.ii_ge_f hj) ?_
        show Go p e below t s₁ m 12 #[rv qa, rv qa, iv zn, iv j, .val (.double y), .second] []
        refine XS.aloadN X0.here hx rfl (hb hby d4_12) rfl rfl ?_
        show Go p e below t s₁ m 13 #[rv qa, rv qa, iv zn, iv j, .val (.double y), .second] [(.ref qa)]
        refine XS.iloadN X0.here hx rfl (hb hby d4_13) rfl ?_
        show Go p e below t s₁ m 14 #[rv qa, rv qa, iv zn, iv j, .val (.double y), .second] [(.int j), (.ref qa)]
        exact k)
      obtain ⟨cl11, Ar11, q11, S11, M11, H11, G11⟩ := id P0
      have g12 : Goes p e below (s₁.setTop (mkF m 7 #[rv qa, rv qa, iv zn, iv j, .val (.double y), .second] [])) (s₁.setTop (mkF m 7 #[rv qa, rv qa, iv zn, iv (j + (1 : Int32)), .val (.double x), .second] [])) := fun t k => g10 t (by
        refine X0.daload hx (j := j) (v := (.double x)) (by rw [e0]; exact Ar11.1) (State.isArrayOf_alike hZ.alike Ar11.2.1) Ar11.2.2 (inb_of S11 ⟨hj0, hj⟩) (H11.at (inb_of S11 ⟨hj0, hj⟩) ex) (g := (mkF m 14 #[rv qa, rv qa, iv zn, iv j, .val (.double y), .second] [(.int j), (.ref qa)])) rfl rfl (hb hby d4_14) _ ?_
        show Go p e below t s₁ m 15 #[rv qa, rv qa, iv zn, iv j, .val (.double y), .second] [(.double x)]
        refine XS.dstore X0.here hx rfl (hb hby d4_15) rfl (l' := #[rv qa, rv qa, iv zn, iv j, .val (.double x), .second]) rfl ?_
        show Go p e below t s₁ m 17 #[rv qa, rv qa, iv zn, iv j, .val (.double x), .second] []
        refine XS.dload X0.here hx rfl (hb hby d4_17) rfl ?_
        show Go p e below t s₁ m 19 #[rv qa, rv qa, iv zn, iv j, .val (.double x), .second] [(.double x)]
        refine XS.dconst0 X0.here hx rfl (hb hby d4_19) (v := (0 : UInt64)) rfl ?_
        show Go p e below t s₁ m 20 #[rv qa, rv qa, iv zn, iv j, .val (.double x), .second] [(.double (0 : UInt64)), (.double x)]
        refine XS.dcmpS X0.here hx rfl (hb hby d4_20) rfl rfl ?_
        show Go p e below t s₁ m 21 #[rv qa, rv qa, iv zn, iv j, .val (.double x), .second] [(.int (cmpValue (FP.dcmp x (0 : UInt64)) .l))]
        refine XS.ifNo X0.here hx rfl (hb hby d4_21) rfl (dc_l_lt_f e1) ?_
        show Go p e below t s₁ m 24 #[rv qa, rv qa, iv zn, iv j, .val (.double x), .second] []
        refine XS.dload X0.here hx rfl (hb hby d4_24) rfl ?_
        show Go p e below t s₁ m 26 #[rv qa, rv qa, iv zn, iv j, .val (.double x), .second] [(.double x)]
        refine XS.dconst1 X0.here hx rfl (hb hby d4_26) (v := (4607182418800017408 : UInt64)) rfl ?_
        show Go p e below t s₁ m 27 #[rv qa, rv qa, iv zn, iv j, .val (.double x), .second] [(.double (4607182418800017408 : UInt64)), (.double x)]
        refine XS.dcmpS X0.here hx rfl (hb hby d4_27) rfl rfl ?_
        show Go p e below t s₁ m 28 #[rv qa, rv qa, iv zn, iv j, .val (.double x), .second] [(.int (cmpValue (FP.dcmp x (4607182418800017408 : UInt64)) .g))]
        refine XS.ifYes X0.here hx rfl (pc0 := 28) (pc' := 46) rfl (hb hby d4_28) rfl (dc_g_le_t e2) (by decide) (by decide) ?_
        show Go p e below t s₁ m 46 #[rv qa, rv qa, iv zn, iv j, .val (.double x), .second] []
        refine XT.iincV X0.here hx rfl (1 : Int32) (hb hby d4_46) (by decide) rfl (l' := #[rv qa, rv qa, iv zn, iv (j + (1 : Int32)), .val (.double x), .second]) rfl ?_
        show Go p e below t s₁ m 49 #[rv qa, rv qa, iv zn, iv (j + (1 : Int32)), .val (.double x), .second] []
        refine XS.goto X0.here hx rfl (pc0 := 49) (pc' := 7) rfl (hb hby d4_49) (by decide) (by decide) ?_
        show Go p e below t s₁ m 7 #[rv qa, rv qa, iv zn, iv (j + (1 : Int32)), .val (.double x), .second] []
        exact k)
      exact g12
  have loop : ∀ (k : Nat) (j : Int32) (s4 s5 : Slot), Sc s4 s5 → j.toInt = zn.toInt - k → 0 ≤ j.toInt → ∃ (t4 t5 : Slot), Goes p e below (s₁.setTop (mkF m 7 #[rv qa, rv qa, iv zn, iv j, s4, s5] [])) (s₁.setTop (mkF m 7 #[rv qa, rv qa, iv zn, iv zn, t4, t5] [])) := by
    intro k
    induction k with
    | zero =>
      intro j s4 s5 hs hk h0
      obtain rfl : j = zn := Int32.toInt_inj.mp (by omega)
      exact ⟨s4, s5, fun t k => k⟩
    | succ k ih =>
      intro j s4 s5 hs hk h0
      have z : (0 : Int32).toInt = 0 := by decide
      have hj : j < zn := by rw [Int32.lt_iff_toInt_lt]; omega
      obtain ⟨x, hg⟩ := turn j s4 s5 hs (by rw [Int32.lt_iff_toInt_lt]; omega) hj
      have hi := own_inc hj
      obtain ⟨t4, t5, hg2⟩ := ih (j + (1 : Int32)) (.val (.double x)) .second (Or.inr ⟨x, rfl, rfl⟩) (by omega) (by omega)
      exact ⟨t4, t5, fun t k => hg t (hg2 t k)⟩
  obtain ⟨t4, t5, hend⟩ := loop zn.toInt.toNat (0 : Int32) .unset .unset (Or.inl ⟨rfl, rfl⟩) (by have z : (0 : Int32).toInt = 0 := (by decide); omega) (by decide)
  have g13 : Goes p e below S0 (s₁.setTop (mkF m 7 #[rv qa, rv qa, iv zn, iv zn, t4, t5] [])) := fun t k => g4 t (hend t k)
  have g14 : Goes p e below S0 (s₁.setTop (mkF m 52 #[rv qa, rv qa, iv zn, iv zn, t4, t5] [])) := fun t k => g13 t (by
    refine XS.iloadN X0.here hx rfl (hb hby d4_7) rfl ?_
    show Go p e below t s₁ m 8 #[rv qa, rv qa, iv zn, iv zn, t4, t5] [(.int zn)]
    refine XS.iloadN X0.here hx rfl (hb hby d4_8) rfl ?_
    show Go p e below t s₁ m 9 #[rv qa, rv qa, iv zn, iv zn, t4, t5] [(.int zn), (.int zn)]
    refine XS.icmpYes X0.here hx rfl (pc0 := 9) (pc' := 52) rfl (hb hby d4_9) rfl (XT.ii_ge_t (own_irr zn)) (by decide) (by decide) ?_
    show Go p e below t s₁ m 52 #[rv qa, rv qa, iv zn, iv zn, t4, t5] []
    exact k)
  obtain ⟨fs, hr, hrun, hended, hW, hsame⟩ := X0.leave (v := none) (fun _ => rfl)
  refine ⟨_, _, g14 _ (X0.returnOut hx Bd.returns (hb hby d4_52) hr), hrun, hended, _, _, rfl, ?_, ⟨_, rfl⟩, hW, hsame.mono (by decide) (by decide)⟩
  show Q_req Z qa zk zn zv zd h0 n0 _ s₁.heap _
  rw [e0]
  exact ⟨rfl, N0, rfl⟩
theorem d2_0 : decode prog_37_method_1_code 0 = .ok (.aload_n 0, 1) := by decide +kernel
theorem d2_1 : decode prog_37_method_1_code 1 = .ok (.invokespecial 1, 3) := by decide +kernel
theorem d2_4 : decode prog_37_method_1_code 4 = .ok (.iload_n 1, 1) := by decide +kernel
theorem d2_5 : decode prog_37_method_1_code 5 = .ok (.iconst 1, 1) := by decide +kernel
theorem d2_6 : decode prog_37_method_1_code 6 = .ok (.if_icmp .lt 18, 3) := by decide +kernel
theorem d2_9 : decode prog_37_method_1_code 9 = .ok (.iload_n 2, 1) := by decide +kernel
theorem d2_10 : decode prog_37_method_1_code 10 = .ok (.ifCond .lt 14, 3) := by decide +kernel
theorem d2_13 : decode prog_37_method_1_code 13 = .ok (.iload_n 3, 1) := by decide +kernel
theorem d2_14 : decode prog_37_method_1_code 14 = .ok (.ifCond .lt 10, 3) := by decide +kernel
theorem d2_17 : decode prog_37_method_1_code 17 = .ok (.lload 4, 2) := by decide +kernel
theorem d2_19 : decode prog_37_method_1_code 19 = .ok (.lconst 0, 1) := by decide +kernel
theorem d2_20 : decode prog_37_method_1_code 20 = .ok (.lcmp, 1) := by decide +kernel
theorem d2_21 : decode prog_37_method_1_code 21 = .ok (.ifCond .ge 21, 3) := by decide +kernel
theorem d2_24 : decode prog_37_method_1_code 24 = .ok (.new 7, 3) := by decide +kernel
theorem d2_27 : decode prog_37_method_1_code 27 = .ok (.dup, 1) := by decide +kernel
theorem d2_28 : decode prog_37_method_1_code 28 = .ok (.iload_n 1, 1) := by decide +kernel
theorem d2_29 : decode prog_37_method_1_code 29 = .ok (.iload_n 2, 1) := by decide +kernel
theorem d2_30 : decode prog_37_method_1_code 30 = .ok (.iload_n 3, 1) := by decide +kernel
theorem d2_31 : decode prog_37_method_1_code 31 = .ok (.lload 4, 2) := by decide +kernel
theorem d2_33 : decode prog_37_method_1_code 33 = .ok (.invokedynamic 9, 5) := by decide +kernel
theorem d2_38 : decode prog_37_method_1_code 38 = .ok (.invokespecial 13, 3) := by decide +kernel
theorem d2_41 : decode prog_37_method_1_code 41 = .ok (.athrow, 1) := by decide +kernel
theorem d2_42 : decode prog_37_method_1_code 42 = .ok (.aload 6, 2) := by decide +kernel
theorem d2_44 : decode prog_37_method_1_code 44 = .ok (.arraylength, 1) := by decide +kernel
theorem d2_45 : decode prog_37_method_1_code 45 = .ok (.i2l, 1) := by decide +kernel
theorem d2_46 : decode prog_37_method_1_code 46 = .ok (.iload_n 2, 1) := by decide +kernel
theorem d2_47 : decode prog_37_method_1_code 47 = .ok (.i2l, 1) := by decide +kernel
theorem d2_48 : decode prog_37_method_1_code 48 = .ok (.iload_n 1, 1) := by decide +kernel
theorem d2_49 : decode prog_37_method_1_code 49 = .ok (.i2l, 1) := by decide +kernel
theorem d2_50 : decode prog_37_method_1_code 50 = .ok (.lmul, 1) := by decide +kernel
theorem d2_51 : decode prog_37_method_1_code 51 = .ok (.lcmp, 1) := by decide +kernel
theorem d2_52 : decode prog_37_method_1_code 52 = .ok (.ifCond .ne 16, 3) := by decide +kernel
theorem d2_55 : decode prog_37_method_1_code 55 = .ok (.aload 7, 2) := by decide +kernel
theorem d2_57 : decode prog_37_method_1_code 57 = .ok (.arraylength, 1) := by decide +kernel
theorem d2_58 : decode prog_37_method_1_code 58 = .ok (.i2l, 1) := by decide +kernel
theorem d2_59 : decode prog_37_method_1_code 59 = .ok (.iload_n 3, 1) := by decide +kernel
theorem d2_60 : decode prog_37_method_1_code 60 = .ok (.i2l, 1) := by decide +kernel
theorem d2_61 : decode prog_37_method_1_code 61 = .ok (.iload_n 1, 1) := by decide +kernel
theorem d2_62 : decode prog_37_method_1_code 62 = .ok (.i2l, 1) := by decide +kernel
theorem d2_63 : decode prog_37_method_1_code 63 = .ok (.lmul, 1) := by decide +kernel
theorem d2_64 : decode prog_37_method_1_code 64 = .ok (.lcmp, 1) := by decide +kernel
theorem d2_65 : decode prog_37_method_1_code 65 = .ok (.ifCond .eq 13, 3) := by decide +kernel
theorem d2_68 : decode prog_37_method_1_code 68 = .ok (.new 7, 3) := by decide +kernel
theorem d2_71 : decode prog_37_method_1_code 71 = .ok (.dup, 1) := by decide +kernel
theorem d2_72 : decode prog_37_method_1_code 72 = .ok (.ldc 16, 2) := by decide +kernel
theorem d2_74 : decode prog_37_method_1_code 74 = .ok (.invokespecial 13, 3) := by decide +kernel
theorem d2_77 : decode prog_37_method_1_code 77 = .ok (.athrow, 1) := by decide +kernel
theorem d2_78 : decode prog_37_method_1_code 78 = .ok (.aload 6, 2) := by decide +kernel
theorem d2_80 : decode prog_37_method_1_code 80 = .ok (.invokestatic 18, 3) := by decide +kernel
theorem d2_83 : decode prog_37_method_1_code 83 = .ok (.aload 7, 2) := by decide +kernel
theorem d2_85 : decode prog_37_method_1_code 85 = .ok (.invokestatic 18, 3) := by decide +kernel
theorem d2_88 : decode prog_37_method_1_code 88 = .ok (.aload_n 0, 1) := by decide +kernel
theorem d2_89 : decode prog_37_method_1_code 89 = .ok (.iload_n 1, 1) := by decide +kernel
theorem d2_90 : decode prog_37_method_1_code 90 = .ok (.putfield 24, 3) := by decide +kernel
theorem d2_93 : decode prog_37_method_1_code 93 = .ok (.aload_n 0, 1) := by decide +kernel
theorem d2_94 : decode prog_37_method_1_code 94 = .ok (.iload_n 2, 1) := by decide +kernel
theorem d2_95 : decode prog_37_method_1_code 95 = .ok (.putfield 28, 3) := by decide +kernel
theorem d2_98 : decode prog_37_method_1_code 98 = .ok (.aload_n 0, 1) := by decide +kernel
theorem d2_99 : decode prog_37_method_1_code 99 = .ok (.iload_n 3, 1) := by decide +kernel
theorem d2_100 : decode prog_37_method_1_code 100 = .ok (.putfield 31, 3) := by decide +kernel
theorem d2_103 : decode prog_37_method_1_code 103 = .ok (.aload_n 0, 1) := by decide +kernel
theorem d2_104 : decode prog_37_method_1_code 104 = .ok (.lload 4, 2) := by decide +kernel
theorem d2_106 : decode prog_37_method_1_code 106 = .ok (.putfield 34, 3) := by decide +kernel
theorem d2_109 : decode prog_37_method_1_code 109 = .ok (.aload_n 0, 1) := by decide +kernel
theorem d2_110 : decode prog_37_method_1_code 110 = .ok (.aload 6, 2) := by decide +kernel
theorem d2_112 : decode prog_37_method_1_code 112 = .ok (.putfield 38, 3) := by decide +kernel
theorem d2_115 : decode prog_37_method_1_code 115 = .ok (.aload_n 0, 1) := by decide +kernel
theorem d2_116 : decode prog_37_method_1_code 116 = .ok (.aload 7, 2) := by decide +kernel
theorem d2_118 : decode prog_37_method_1_code 118 = .ok (.putfield 42, 3) := by decide +kernel
theorem d2_121 : decode prog_37_method_1_code 121 = .ok (.return_, 1) := by decide +kernel
theorem pd2 : parseMethodDescriptor "(IIIJ[D[D)V" = some ⟨[.int, .int, .int, .long, (.array .double), (.array .double)], none⟩ := by decide +kernel
theorem pf_tin : plainFor (⟨"com/example/borrowed_prior/borrowedprior/model/TopicModel", "<init>", "(IIIJ[D[D)V"⟩ : MethodName) = true := by first | exact plainFor_of_name (by first | (simp [plainName, overriddenIn, x]; done) | decide +kernel) | exact Jvm.Free.JP.mathPlain rfl (by decide +kernel) | decide +kernel
theorem ef_tin (m : MethodId) (ta : Addr) (tk : Int32) (td : Int32) (tw : Int32) (tt : Int64) (da : Addr) (pa : Addr) : entryFrame m #[(.ref ta), (.int tk), (.int td), (.int tw), (.long tt), (.ref da), (.ref pa)] 8 = mkF m 0 #[rv ta, iv tk, iv td, iv tw, .val (.long tt), .second, rv da, rv pa] [] := by first | (simp [entryFrame, mkF, argsToLocals, Value.category, maxLocals]; done) | rfl
def Q_tin (Z : State) (ta : Addr) (tk : Int32) (td : Int32) (tw : Int32) (tt : Int64) (da : Addr) (pa : Addr) (dk : ClassId) (dn : Int32) (dv : List Value) (dd : Value) (pk : ClassId) (pn : Int32) (pv : List Value) (pq : Value) (h0 : Heap) (n0 : Nat) (v : Option Value) (h : Heap) (L : List Loc) : Prop := v = none ∧ Fr n0 L ∧ (Keep h0 h [ta]) ∧ (Exa Z h ta "com/example/borrowed_prior/borrowedprior/model/TopicModel") ∧ (Fld Z h ta "com/example/borrowed_prior/borrowedprior/model/TopicModel" "topicCount" "I" (.int tk)) ∧ (Fld Z h ta "com/example/borrowed_prior/borrowedprior/model/TopicModel" "documentCount" "I" (.int td)) ∧ (Fld Z h ta "com/example/borrowed_prior/borrowedprior/model/TopicModel" "termCount" "I" (.int tw)) ∧ (Fld Z h ta "com/example/borrowed_prior/borrowedprior/model/TopicModel" "tokenCount" "J" (.long tt)) ∧ (Fld Z h ta "com/example/borrowed_prior/borrowedprior/model/TopicModel" "documentTopics" "[D" (.ref da)) ∧ (Fld Z h ta "com/example/borrowed_prior/borrowedprior/model/TopicModel" "termTopics" "[D" (.ref pa))
set_option maxRecDepth 65536 in
set_option maxHeartbeats 40000000 in
theorem rm_tin (l : Launch) (Z : State) (a0 : Array Value) (hw : ∀ d ∈ tables_1, d.before a0 Z = true) (ws : List Jvm.Cond) (ta : Addr) (tk : Int32) (td : Int32) (tw : Int32) (tt : Int64) (da : Addr) (pa : Addr) (dk : ClassId) (dn : Int32) (dv : List Value) (dd : Value) (pk : ClassId) (pn : Int32) (pv : List Value) (pq : Value) (h0 : Heap) (n0 : Nat) (Z0 : n0 ≤ h0.size) (P0 : Exa Z h0 ta "com/example/borrowed_prior/borrowedprior/model/TopicModel") (P1 : Fld Z h0 ta "com/example/borrowed_prior/borrowedprior/model/TopicModel" "topicCount" "I" (.int (0 : Int32))) (P2 : Fld Z h0 ta "com/example/borrowed_prior/borrowedprior/model/TopicModel" "documentCount" "I" (.int (0 : Int32))) (P3 : Fld Z h0 ta "com/example/borrowed_prior/borrowedprior/model/TopicModel" "termCount" "I" (.int (0 : Int32))) (P4 : Fld Z h0 ta "com/example/borrowed_prior/borrowedprior/model/TopicModel" "tokenCount" "J" (.long (0 : Int64))) (P5 : Fld Z h0 ta "com/example/borrowed_prior/borrowedprior/model/TopicModel" "documentTopics" "[D" .null) (P6 : Fld Z h0 ta "com/example/borrowed_prior/borrowedprior/model/TopicModel" "termTopics" "[D" .null) (P7 : n0 ≤ ta) (P8 : Arv Z h0 da dk .double dn dv dd) (P9 : Arv Z h0 pa pk .double pn pv pq) (h1 : ¬ (tk < (1 : Int32))) (h2 : ¬ (td < 0)) (h3 : ¬ (tw < 0)) (h4 : ¬ (tt < (0 : Int64))) (h5 : (dn).toInt64 = ((td).toInt64 * (tk).toInt64)) (h6 : (pn).toInt64 = ((tw).toInt64 * (tk).toInt64)) (h7 : Prob dn dv dd) (h8 : Prob pn pv pq) (h9 : 0 ≤ dn.toInt) (h10 : 0 ≤ pn.toInt)  :
    MetFree l (⟨"com/example/borrowed_prior/borrowedprior/model/TopicModel", "<init>", "(IIIJ[D[D)V"⟩ : MethodName) (head1 (Jvm.Cond.code (⟨"com/example/borrowed_prior/borrowedprior/model/TopicModel", "<init>", "(IIIJ[D[D)V"⟩ : MethodName) prog_37_method_1_code 8 none :: ws) ({ frames := 2, cells := 0, slots := 0, locals := 30 } : Room)) (fun a U => a = #[(.ref ta), (.int tk), (.int td), (.int tw), (.long tt), (.ref da), (.ref pa)] ∧ Z.Warmed39 U.vm ∧ U.heap = h0) (fun _ _ _ _ _ => True) (fun _ U o U' => ∃ v L, o = .returned v ∧ Q_tin Z ta tk td tw tt da pa dk dn dv dd pk pn pv pq h0 n0 v U'.heap L ∧ FrameEnd U o U' L ({ frames := 2, cells := 0, slots := 0, locals := 30 } : Room).cells ({ frames := 2, cells := 0, slots := 0, locals := 30 } : Room).slots) := by
  refine MetFree.of_bodySF pf_tin hisR ?_
  intro p e s m args below meth c s₁ Bd hml0 hP hK
  obtain ⟨rfl, hZ, hh⟩ := hP
  have hx := Bd.exec
  have hby := Bd.bytes
  have hml : c.maxLocals = 8 := hml0
  have hown : s.vm.findClass "com/example/borrowed_prior/borrowedprior/model/TopicModel" = some m.cls := findClass_of_methodNamed Bd.named
  have hnm := (name_of_methodNamed Bd.named Bd.method).1
  have X0 : Stand p l e ({ frames := 2, cells := 0, slots := 0, locals := 30 } : Room) s m #[(.ref ta), (.int tk), (.int td), (.int tw), (.long tt), (.ref da), (.ref pa)] below meth c s₁ [] 0 0 := Stand.of_body Bd
  have e0 : s₁.heap = h0 := by rw [← hh, Bd.state]; rfl
  have N0 := Fr.nil n0
  obtain ⟨S0, hS0⟩ : ∃ z, z = s₁.setTop (entryFrame m #[(.ref ta), (.int tk), (.int td), (.int tw), (.long tt), (.ref da), (.ref pa)] 8) := ⟨_, rfl⟩
  rw [← hS0]
  have g0 : Goes p e below S0 (s₁.setTop (mkF m 0 #[rv ta, iv tk, iv td, iv tw, .val (.long tt), .second, rv da, rv pa] [])) := fun t k => by rw [hS0]; exact castTop (ef_tin m ta tk td tw tt da pa) k
  have g15 : Goes p e below S0 (s₁.setTop (mkF m 1 #[rv ta, iv tk, iv td, iv tw, .val (.long tt), .second, rv da, rv pa] [(.ref ta)])) := fun t k => g0 t (by
    refine XS.aloadN X0.here hx rfl (hb hby d2_0) rfl rfl ?_
    show Go p e below t s₁ m 1 #[rv ta, iv tk, iv td, iv tw, .val (.long tt), .second, rv da, rv pa] [(.ref ta)]
    exact k)
  obtain ⟨T16, X16, e16, st16⟩ := initO X0 hx hZ hown (hw _ (List.mem_of_getElem? (i := 17) rfl)) (hw _ (List.mem_of_getElem? (i := 18) rfl)) (hw _ (List.mem_of_getElem? (i := 19) rfl)) e0 (g := (mkF m 1 #[rv ta, iv tk, iv td, iv tw, .val (.long tt), .second, rv da, rv pa] [(.ref ta)])) rfl (by rw [hml]; rfl) rfl (hb hby d2_1) (by decide) (W := 0) (by show 2 * 0 + _ ≤ _; exact Nat.le_of_eq rfl) (by decide)
  have g17 : Goes p e below S0 (T16.setTop (mkF m 4 #[rv ta, iv tk, iv td, iv tw, .val (.long tt), .second, rv da, rv pa] [])) := fun t k => g15 t (st16 t k)
  have g18 : Goes p e below S0 (T16.setTop (mkF m 44 #[rv ta, iv tk, iv td, iv tw, .val (.long tt), .second, rv da, rv pa] [(.ref da)])) := fun t k => g17 t (by
    refine XS.iloadN X16.here hx rfl (hb hby d2_4) rfl ?_
    show Go p e below t T16 m 5 #[rv ta, iv tk, iv td, iv tw, .val (.long tt), .second, rv da, rv pa] [(.int tk)]
    refine XT.iconstV X16.here hx rfl (1 : Int32) (hb hby d2_5) (by decide) ?_
    show Go p e below t T16 m 6 #[rv ta, iv tk, iv td, iv tw, .val (.long tt), .second, rv da, rv pa] [(.int (1 : Int32)), (.int tk)]
    refine XS.icmpNo X16.here hx rfl (hb hby d2_6) rfl (XT.ii_lt_f h1) ?_
    show Go p e below t T16 m 9 #[rv ta, iv tk, iv td, iv tw, .val (.long tt), .second, rv da, rv pa] []
    refine XS.iloadN X16.here hx rfl (hb hby d2_9) rfl ?_
    show Go p e below t T16 m 10 #[rv ta, iv tk, iv td, iv tw, .val (.long tt), .second, rv da, rv pa] [(.int td)]
    refine XS.ifNo X16.here hx rfl (hb hby d2_10) rfl (XT.i0_lt_f h2) ?_
    show Go p e below t T16 m 13 #[rv ta, iv tk, iv td, iv tw, .val (.long tt), .second, rv da, rv pa] []
    refine XS.iloadN X16.here hx rfl (hb hby d2_13) rfl ?_
    show Go p e below t T16 m 14 #[rv ta, iv tk, iv td, iv tw, .val (.long tt), .second, rv da, rv pa] [(.int tw)]
    refine XS.ifNo X16.here hx rfl (hb hby d2_14) rfl (XT.i0_lt_f h3) ?_
    show Go p e below t T16 m 17 #[rv ta, iv tk, iv td, iv tw, .val (.long tt), .second, rv da, rv pa] []
    refine XS.lload X16.here hx rfl (hb hby d2_17) rfl ?_
    show Go p e below t T16 m 19 #[rv ta, iv tk, iv td, iv tw, .val (.long tt), .second, rv da, rv pa] [(.long tt)]
    refine XT.lconstV X16.here hx rfl (0 : Int64) (hb hby d2_19) (by decide) ?_
    show Go p e below t T16 m 20 #[rv ta, iv tk, iv td, iv tw, .val (.long tt), .second, rv da, rv pa] [(.long (0 : Int64)), (.long tt)]
    refine XS.lcmp X16.here hx rfl (hb hby d2_20) rfl ?_
    show Go p e below t T16 m 21 #[rv ta, iv tk, iv td, iv tw, .val (.long tt), .second, rv da, rv pa] [(.int (lcmpW tt (0 : Int64)))]
    refine XS.ifYes X16.here hx rfl (pc0 := 21) (pc' := 42) rfl (hb hby d2_21) rfl (XT.ll_ge_t h4) (by decide) (by decide) ?_
    show Go p e below t T16 m 42 #[rv ta, iv tk, iv td, iv tw, .val (.long tt), .second, rv da, rv pa] []
    refine XS.aload X16.here hx rfl (hb hby d2_42) rfl rfl ?_
    show Go p e below t T16 m 44 #[rv ta, iv tk, iv td, iv tw, .val (.long tt), .second, rv da, rv pa] [(.ref da)]
    exact k)
  obtain ⟨cl19, Ar19, q19, S19, M19, H19, G19⟩ := id P8
  have g20 : Goes p e below S0 (T16.setTop (mkF m 57 #[rv ta, iv tk, iv td, iv tw, .val (.long tt), .second, rv da, rv pa] [(.ref pa)])) := fun t k => g18 t (by
    refine X16.arraylength hx (by rw [e16]; exact Ar19.1) (State.isArrayOf_alike hZ.alike Ar19.2.1) (g := (mkF m 44 #[rv ta, iv tk, iv td, iv tw, .val (.long tt), .second, rv da, rv pa] [(.ref da)])) rfl rfl (hb hby d2_44) _ ?_
    rw [len_of S19 M19]
    show Go p e below t T16 m 45 #[rv ta, iv tk, iv td, iv tw, .val (.long tt), .second, rv da, rv pa] [(.int dn)]
    refine XS.i2l X16.here hx rfl (hb hby d2_45) rfl ?_
    show Go p e below t T16 m 46 #[rv ta, iv tk, iv td, iv tw, .val (.long tt), .second, rv da, rv pa] [(.long ((dn).toInt64))]
    refine XS.iloadN X16.here hx rfl (hb hby d2_46) rfl ?_
    show Go p e below t T16 m 47 #[rv ta, iv tk, iv td, iv tw, .val (.long tt), .second, rv da, rv pa] [(.int td), (.long ((dn).toInt64))]
    refine XS.i2l X16.here hx rfl (hb hby d2_47) rfl ?_
    show Go p e below t T16 m 48 #[rv ta, iv tk, iv td, iv tw, .val (.long tt), .second, rv da, rv pa] [(.long ((td).toInt64)), (.long ((dn).toInt64))]
    refine XS.iloadN X16.here hx rfl (hb hby d2_48) rfl ?_
    show Go p e below t T16 m 49 #[rv ta, iv tk, iv td, iv tw, .val (.long tt), .second, rv da, rv pa] [(.int tk), (.long ((td).toInt64)), (.long ((dn).toInt64))]
    refine XS.i2l X16.here hx rfl (hb hby d2_49) rfl ?_
    show Go p e below t T16 m 50 #[rv ta, iv tk, iv td, iv tw, .val (.long tt), .second, rv da, rv pa] [(.long ((tk).toInt64)), (.long ((td).toInt64)), (.long ((dn).toInt64))]
    refine XS.lmul X16.here hx rfl (hb hby d2_50) rfl ?_
    show Go p e below t T16 m 51 #[rv ta, iv tk, iv td, iv tw, .val (.long tt), .second, rv da, rv pa] [(.long (((td).toInt64) * ((tk).toInt64))), (.long ((dn).toInt64))]
    refine XS.lcmp X16.here hx rfl (hb hby d2_51) rfl ?_
    show Go p e below t T16 m 52 #[rv ta, iv tk, iv td, iv tw, .val (.long tt), .second, rv da, rv pa] [(.int (lcmpW ((dn).toInt64) (((td).toInt64) * ((tk).toInt64))))]
    refine XS.ifNo X16.here hx rfl (hb hby d2_52) rfl (XT.ll_ne_f h5) ?_
    show Go p e below t T16 m 55 #[rv ta, iv tk, iv td, iv tw, .val (.long tt), .second, rv da, rv pa] []
    refine XS.aload X16.here hx rfl (hb hby d2_55) rfl rfl ?_
    show Go p e below t T16 m 57 #[rv ta, iv tk, iv td, iv tw, .val (.long tt), .second, rv da, rv pa] [(.ref pa)]
    exact k)
  obtain ⟨cl21, Ar21, q21, S21, M21, H21, G21⟩ := id P9
  have g22 : Goes p e below S0 (T16.setTop (mkF m 80 #[rv ta, iv tk, iv td, iv tw, .val (.long tt), .second, rv da, rv pa] [(.ref da)])) := fun t k => g20 t (by
    refine X16.arraylength hx (by rw [e16]; exact Ar21.1) (State.isArrayOf_alike hZ.alike Ar21.2.1) (g := (mkF m 57 #[rv ta, iv tk, iv td, iv tw, .val (.long tt), .second, rv da, rv pa] [(.ref pa)])) rfl rfl (hb hby d2_57) _ ?_
    rw [len_of S21 M21]
    show Go p e below t T16 m 58 #[rv ta, iv tk, iv td, iv tw, .val (.long tt), .second, rv da, rv pa] [(.int pn)]
    refine XS.i2l X16.here hx rfl (hb hby d2_58) rfl ?_
    show Go p e below t T16 m 59 #[rv ta, iv tk, iv td, iv tw, .val (.long tt), .second, rv da, rv pa] [(.long ((pn).toInt64))]
    refine XS.iloadN X16.here hx rfl (hb hby d2_59) rfl ?_
    show Go p e below t T16 m 60 #[rv ta, iv tk, iv td, iv tw, .val (.long tt), .second, rv da, rv pa] [(.int tw), (.long ((pn).toInt64))]
    refine XS.i2l X16.here hx rfl (hb hby d2_60) rfl ?_
    show Go p e below t T16 m 61 #[rv ta, iv tk, iv td, iv tw, .val (.long tt), .second, rv da, rv pa] [(.long ((tw).toInt64)), (.long ((pn).toInt64))]
    refine XS.iloadN X16.here hx rfl (hb hby d2_61) rfl ?_
    show Go p e below t T16 m 62 #[rv ta, iv tk, iv td, iv tw, .val (.long tt), .second, rv da, rv pa] [(.int tk), (.long ((tw).toInt64)), (.long ((pn).toInt64))]
    refine XS.i2l X16.here hx rfl (hb hby d2_62) rfl ?_
    show Go p e below t T16 m 63 #[rv ta, iv tk, iv td, iv tw, .val (.long tt), .second, rv da, rv pa] [(.long ((tk).toInt64)), (.long ((tw).toInt64)), (.long ((pn).toInt64))]
    refine XS.lmul X16.here hx rfl (hb hby d2_63) rfl ?_
    show Go p e below t T16 m 64 #[rv ta, iv tk, iv td, iv tw, .val (.long tt), .second, rv da, rv pa] [(.long (((tw).toInt64) * ((tk).toInt64))), (.long ((pn).toInt64))]
    refine XS.lcmp X16.here hx rfl (hb hby d2_64) rfl ?_
    show Go p e below t T16 m 65 #[rv ta, iv tk, iv td, iv tw, .val (.long tt), .second, rv da, rv pa] [(.int (lcmpW ((pn).toInt64) (((tw).toInt64) * ((tk).toInt64))))]
    refine XS.ifYes X16.here hx rfl (pc0 := 65) (pc' := 78) rfl (hb hby d2_65) rfl (XT.ll_eq_t h6) (by decide) (by decide) ?_
    show Go p e below t T16 m 78 #[rv ta, iv tk, iv td, iv tw, .val (.long tt), .second, rv da, rv pa] []
    refine XS.aload X16.here hx rfl (hb hby d2_78) rfl rfl ?_
    show Go p e below t T16 m 80 #[rv ta, iv tk, iv td, iv tw, .val (.long tt), .second, rv da, rv pa] [(.ref da)]
    exact k)
  obtain ⟨_, _, ⟨T23, L23, k23, n23⟩, -, X23, ⟨Lc23, hQ23, l23, y23, z23⟩, st23⟩ := Jvm.LawKit.callS X16 hx (y := (⟨"com/example/borrowed_prior/borrowedprior/model/TopicModel", "requireProbabilities", "([D)V"⟩ : MethodName)) hown (mvT hZ (hw _ (List.mem_of_getElem? (i := 20) rfl))) (mvT hZ (hw _ (List.mem_of_getElem? (i := 21) rfl))) (mvT hZ (hw _ (List.mem_of_getElem? (i := 3) rfl))) (mvT hZ (hw _ (List.mem_of_getElem? (i := 22) rfl))) (by decide) (backOf (W := 0) (rm_req l Z a0 hw [] da dk dn dv dd h0 n0 Z0 P8 h7 h9) hZ (hw _ (List.mem_of_getElem? (i := 22) rfl)) (hw _ (List.mem_of_getElem? (i := 3) rfl)) (by decide) (by decide)) (g := (mkF m 80 #[rv ta, iv tk, iv td, iv tw, .val (.long tt), .second, rv da, rv pa] [(.ref da)])) rfl (by rw [hml]; rfl) (argsL := [(.ref da)]) (rest := []) (lenOf pd1 rfl) rfl (by show 2 * 0 + _ ≤ _; exact Nat.le_of_eq rfl) (hb hby d2_80) (fun _ _ => ⟨rfl, e16, (by decide : 0 + 0 ≤ _), (by decide : 0 + 0 ≤ _)⟩)
  dsimp only [Pt.U, Pt.locs, Pt.cells, Pt.slots] at X23 l23 y23 z23 st23 hQ23
  subst l23 y23 z23
  obtain ⟨rfl, N23, R23_0⟩ := hQ23
  have M23 := Fr.app N0 N23
  have g24 : Goes p e below S0 (T23.setTop (mkF m 83 #[rv ta, iv tk, iv td, iv tw, .val (.long tt), .second, rv da, rv pa] [])) := fun t k => g22 t (st23 t k)
  have g25 : Goes p e below S0 (T23.setTop (mkF m 85 #[rv ta, iv tk, iv td, iv tw, .val (.long tt), .second, rv da, rv pa] [(.ref pa)])) := fun t k => g24 t (by
    refine XS.aload X23.here hx rfl (hb hby d2_83) rfl rfl ?_
    show Go p e below t T23 m 85 #[rv ta, iv tk, iv td, iv tw, .val (.long tt), .second, rv da, rv pa] [(.ref pa)]
    exact k)
  obtain ⟨_, _, ⟨T26, L26, k26, n26⟩, -, X26, ⟨Lc26, hQ26, l26, y26, z26⟩, st26⟩ := Jvm.LawKit.callS X23 hx (y := (⟨"com/example/borrowed_prior/borrowedprior/model/TopicModel", "requireProbabilities", "([D)V"⟩ : MethodName)) hown (mvT hZ (hw _ (List.mem_of_getElem? (i := 20) rfl))) (mvT hZ (hw _ (List.mem_of_getElem? (i := 21) rfl))) (mvT hZ (hw _ (List.mem_of_getElem? (i := 3) rfl))) (mvT hZ (hw _ (List.mem_of_getElem? (i := 22) rfl))) (by decide) (backOf (W := 0) (rm_req l Z a0 hw [] pa pk pn pv pq h0 n0 Z0 P9 h8 h10) hZ (hw _ (List.mem_of_getElem? (i := 22) rfl)) (hw _ (List.mem_of_getElem? (i := 3) rfl)) (by decide) (by decide)) (g := (mkF m 85 #[rv ta, iv tk, iv td, iv tw, .val (.long tt), .second, rv da, rv pa] [(.ref pa)])) rfl (by rw [hml]; rfl) (argsL := [(.ref pa)]) (rest := []) (lenOf pd1 rfl) rfl (by show 2 * 0 + _ ≤ _; exact Nat.le_of_eq rfl) (hb hby d2_85) (fun _ _ => ⟨rfl, R23_0, (by decide : 0 + 0 ≤ _), (by decide : 0 + 0 ≤ _)⟩)
  dsimp only [Pt.U, Pt.locs, Pt.cells, Pt.slots] at X26 l26 y26 z26 st26 hQ26
  subst l26 y26 z26
  obtain ⟨rfl, N26, R26_0⟩ := hQ26
  have M26 := Fr.app M23 N26
  have g27 : Goes p e below S0 (T26.setTop (mkF m 88 #[rv ta, iv tk, iv td, iv tw, .val (.long tt), .second, rv da, rv pa] [])) := fun t k => g25 t (st26 t k)
  have g28 : Goes p e below S0 (T26.setTop (mkF m 90 #[rv ta, iv tk, iv td, iv tw, .val (.long tt), .second, rv da, rv pa] [(.int tk), (.ref ta)])) := fun t k => g27 t (by
    refine XS.aloadN X26.here hx rfl (hb hby d2_88) rfl rfl ?_
    show Go p e below t T26 m 89 #[rv ta, iv tk, iv td, iv tw, .val (.long tt), .second, rv da, rv pa] [(.ref ta)]
    refine XS.iloadN X26.here hx rfl (hb hby d2_89) rfl ?_
    show Go p e below t T26 m 90 #[rv ta, iv tk, iv td, iv tw, .val (.long tt), .second, rv da, rv pa] [(.int tk), (.ref ta)]
    exact k)
  obtain ⟨T29, h29, X29, e29, W29, st29⟩ := putF X26 hx hZ hown (host := "") (Or.inl (hw _ (List.mem_of_getElem? (i := 23) rfl))) Via.refl R26_0 P1 P0 (Or.inr ⟨(hw _ (List.mem_of_getElem? (i := 24) rfl)), rfl, hnm⟩) (hw _ (List.mem_of_getElem? (i := 2) rfl)) (ty := .int) (by decide) rfl rfl (g := (mkF m 90 #[rv ta, iv tk, iv td, iv tw, .val (.long tt), .second, rv da, rv pa] [(.int tk), (.ref ta)])) rfl rfl (hb hby d2_90)
  have N29 := Fr.snoc X29 M26 P7
  have Fw29 := Fld.same W29 P1
  have g30 : Goes p e below S0 (T29.setTop (mkF m 93 #[rv ta, iv tk, iv td, iv tw, .val (.long tt), .second, rv da, rv pa] [])) := fun t k => g28 t (st29 t k)
  have g31 : Goes p e below S0 (T29.setTop (mkF m 95 #[rv ta, iv tk, iv td, iv tw, .val (.long tt), .second, rv da, rv pa] [(.int td), (.ref ta)])) := fun t k => g30 t (by
    refine XS.aloadN X29.here hx rfl (hb hby d2_93) rfl rfl ?_
    show Go p e below t T29 m 94 #[rv ta, iv tk, iv td, iv tw, .val (.long tt), .second, rv da, rv pa] [(.ref ta)]
    refine XS.iloadN X29.here hx rfl (hb hby d2_94) rfl ?_
    show Go p e below t T29 m 95 #[rv ta, iv tk, iv td, iv tw, .val (.long tt), .second, rv da, rv pa] [(.int td), (.ref ta)]
    exact k)
  obtain ⟨T32, h32, X32, e32, W32, st32⟩ := putF X29 hx hZ hown (host := "") (Or.inl (hw _ (List.mem_of_getElem? (i := 25) rfl))) Via.refl e29 (P2.other W29 (Or.inr (slot_ne (Or.inr (hw _ (List.mem_of_getElem? (i := 26) rfl))) (Or.inr (hw _ (List.mem_of_getElem? (i := 24) rfl))) (by decide) (t := .int) (t' := .int) (by decide) (by decide)))) (P0.wr W29) (Or.inr ⟨(hw _ (List.mem_of_getElem? (i := 26) rfl)), rfl, hnm⟩) (hw _ (List.mem_of_getElem? (i := 2) rfl)) (ty := .int) (by decide) rfl rfl (g := (mkF m 95 #[rv ta, iv tk, iv td, iv tw, .val (.long tt), .second, rv da, rv pa] [(.int td), (.ref ta)])) rfl rfl (hb hby d2_95)
  have N32 := Fr.snoc X32 N29 P7
  have Fw32 := Fld.same W32 (P2.other W29 (Or.inr (slot_ne (Or.inr (hw _ (List.mem_of_getElem? (i := 26) rfl))) (Or.inr (hw _ (List.mem_of_getElem? (i := 24) rfl))) (by decide) (t := .int) (t' := .int) (by decide) (by decide))))
  have g33 : Goes p e below S0 (T32.setTop (mkF m 98 #[rv ta, iv tk, iv td, iv tw, .val (.long tt), .second, rv da, rv pa] [])) := fun t k => g31 t (st32 t k)
  have g34 : Goes p e below S0 (T32.setTop (mkF m 100 #[rv ta, iv tk, iv td, iv tw, .val (.long tt), .second, rv da, rv pa] [(.int tw), (.ref ta)])) := fun t k => g33 t (by
    refine XS.aloadN X32.here hx rfl (hb hby d2_98) rfl rfl ?_
    show Go p e below t T32 m 99 #[rv ta, iv tk, iv td, iv tw, .val (.long tt), .second, rv da, rv pa] [(.ref ta)]
    refine XS.iloadN X32.here hx rfl (hb hby d2_99) rfl ?_
    show Go p e below t T32 m 100 #[rv ta, iv tk, iv td, iv tw, .val (.long tt), .second, rv da, rv pa] [(.int tw), (.ref ta)]
    exact k)
  obtain ⟨T35, h35, X35, e35, W35, st35⟩ := putF X32 hx hZ hown (host := "") (Or.inl (hw _ (List.mem_of_getElem? (i := 27) rfl))) Via.refl e32 ((P3.other W29 (Or.inr (slot_ne (Or.inr (hw _ (List.mem_of_getElem? (i := 28) rfl))) (Or.inr (hw _ (List.mem_of_getElem? (i := 24) rfl))) (by decide) (t := .int) (t' := .int) (by decide) (by decide)))).other W32 (Or.inr (slot_ne (Or.inr (hw _ (List.mem_of_getElem? (i := 28) rfl))) (Or.inr (hw _ (List.mem_of_getElem? (i := 26) rfl))) (by decide) (t := .int) (t' := .int) (by decide) (by decide)))) ((P0.wr W29).wr W32) (Or.inr ⟨(hw _ (List.mem_of_getElem? (i := 28) rfl)), rfl, hnm⟩) (hw _ (List.mem_of_getElem? (i := 2) rfl)) (ty := .int) (by decide) rfl rfl (g := (mkF m 100 #[rv ta, iv tk, iv td, iv tw, .val (.long tt), .second, rv da, rv pa] [(.int tw), (.ref ta)])) rfl rfl (hb hby d2_100)
  have N35 := Fr.snoc X35 N32 P7
  have Fw35 := Fld.same W35 ((P3.other W29 (Or.inr (slot_ne (Or.inr (hw _ (List.mem_of_getElem? (i := 28) rfl))) (Or.inr (hw _ (List.mem_of_getElem? (i := 24) rfl))) (by decide) (t := .int) (t' := .int) (by decide) (by decide)))).other W32 (Or.inr (slot_ne (Or.inr (hw _ (List.mem_of_getElem? (i := 28) rfl))) (Or.inr (hw _ (List.mem_of_getElem? (i := 26) rfl))) (by decide) (t := .int) (t' := .int) (by decide) (by decide))))
  have g36 : Goes p e below S0 (T35.setTop (mkF m 103 #[rv ta, iv tk, iv td, iv tw, .val (.long tt), .second, rv da, rv pa] [])) := fun t k => g34 t (st35 t k)
  have g37 : Goes p e below S0 (T35.setTop (mkF m 106 #[rv ta, iv tk, iv td, iv tw, .val (.long tt), .second, rv da, rv pa] [(.long tt), (.ref ta)])) := fun t k => g36 t (by
    refine XS.aloadN X35.here hx rfl (hb hby d2_103) rfl rfl ?_
    show Go p e below t T35 m 104 #[rv ta, iv tk, iv td, iv tw, .val (.long tt), .second, rv da, rv pa] [(.ref ta)]
    refine XS.lload X35.here hx rfl (hb hby d2_104) rfl ?_
    show Go p e below t T35 m 106 #[rv ta, iv tk, iv td, iv tw, .val (.long tt), .second, rv da, rv pa] [(.long tt), (.ref ta)]
    exact k)
  obtain ⟨T38, h38, X38, e38, W38, st38⟩ := putF X35 hx hZ hown (host := "") (Or.inl (hw _ (List.mem_of_getElem? (i := 29) rfl))) Via.refl e35 (((P4.other W29 (Or.inr (slot_ne (Or.inr (hw _ (List.mem_of_getElem? (i := 30) rfl))) (Or.inr (hw _ (List.mem_of_getElem? (i := 24) rfl))) (by decide) (t := .long) (t' := .int) (by decide) (by decide)))).other W32 (Or.inr (slot_ne (Or.inr (hw _ (List.mem_of_getElem? (i := 30) rfl))) (Or.inr (hw _ (List.mem_of_getElem? (i := 26) rfl))) (by decide) (t := .long) (t' := .int) (by decide) (by decide)))).other W35 (Or.inr (slot_ne (Or.inr (hw _ (List.mem_of_getElem? (i := 30) rfl))) (Or.inr (hw _ (List.mem_of_getElem? (i := 28) rfl))) (by decide) (t := .long) (t' := .int) (by decide) (by decide)))) (((P0.wr W29).wr W32).wr W35) (Or.inr ⟨(hw _ (List.mem_of_getElem? (i := 30) rfl)), rfl, hnm⟩) (hw _ (List.mem_of_getElem? (i := 2) rfl)) (ty := .long) (by decide) rfl rfl (g := (mkF m 106 #[rv ta, iv tk, iv td, iv tw, .val (.long tt), .second, rv da, rv pa] [(.long tt), (.ref ta)])) rfl rfl (hb hby d2_106)
  have N38 := Fr.snoc X38 N35 P7
  have Fw38 := Fld.same W38 (((P4.other W29 (Or.inr (slot_ne (Or.inr (hw _ (List.mem_of_getElem? (i := 30) rfl))) (Or.inr (hw _ (List.mem_of_getElem? (i := 24) rfl))) (by decide) (t := .long) (t' := .int) (by decide) (by decide)))).other W32 (Or.inr (slot_ne (Or.inr (hw _ (List.mem_of_getElem? (i := 30) rfl))) (Or.inr (hw _ (List.mem_of_getElem? (i := 26) rfl))) (by decide) (t := .long) (t' := .int) (by decide) (by decide)))).other W35 (Or.inr (slot_ne (Or.inr (hw _ (List.mem_of_getElem? (i := 30) rfl))) (Or.inr (hw _ (List.mem_of_getElem? (i := 28) rfl))) (by decide) (t := .long) (t' := .int) (by decide) (by decide))))
  have g39 : Goes p e below S0 (T38.setTop (mkF m 109 #[rv ta, iv tk, iv td, iv tw, .val (.long tt), .second, rv da, rv pa] [])) := fun t k => g37 t (st38 t k)
  have g40 : Goes p e below S0 (T38.setTop (mkF m 112 #[rv ta, iv tk, iv td, iv tw, .val (.long tt), .second, rv da, rv pa] [(.ref da), (.ref ta)])) := fun t k => g39 t (by
    refine XS.aloadN X38.here hx rfl (hb hby d2_109) rfl rfl ?_
    show Go p e below t T38 m 110 #[rv ta, iv tk, iv td, iv tw, .val (.long tt), .second, rv da, rv pa] [(.ref ta)]
    refine XS.aload X38.here hx rfl (hb hby d2_110) rfl rfl ?_
    show Go p e below t T38 m 112 #[rv ta, iv tk, iv td, iv tw, .val (.long tt), .second, rv da, rv pa] [(.ref da), (.ref ta)]
    exact k)
  obtain ⟨T41, h41, X41, e41, W41, st41⟩ := putF X38 hx hZ hown (host := "") (Or.inl (hw _ (List.mem_of_getElem? (i := 31) rfl))) Via.refl e38 ((((P5.other W29 (Or.inr (slot_ne (Or.inr (hw _ (List.mem_of_getElem? (i := 32) rfl))) (Or.inr (hw _ (List.mem_of_getElem? (i := 24) rfl))) (by decide) (t := (.array .double)) (t' := .int) (by decide) (by decide)))).other W32 (Or.inr (slot_ne (Or.inr (hw _ (List.mem_of_getElem? (i := 32) rfl))) (Or.inr (hw _ (List.mem_of_getElem? (i := 26) rfl))) (by decide) (t := (.array .double)) (t' := .int) (by decide) (by decide)))).other W35 (Or.inr (slot_ne (Or.inr (hw _ (List.mem_of_getElem? (i := 32) rfl))) (Or.inr (hw _ (List.mem_of_getElem? (i := 28) rfl))) (by decide) (t := (.array .double)) (t' := .int) (by decide) (by decide)))).other W38 (Or.inr (slot_ne (Or.inr (hw _ (List.mem_of_getElem? (i := 32) rfl))) (Or.inr (hw _ (List.mem_of_getElem? (i := 30) rfl))) (by decide) (t := (.array .double)) (t' := .long) (by decide) (by decide)))) ((((P0.wr W29).wr W32).wr W35).wr W38) (Or.inr ⟨(hw _ (List.mem_of_getElem? (i := 32) rfl)), rfl, hnm⟩) (hw _ (List.mem_of_getElem? (i := 2) rfl)) (ty := (.array .double)) (by decide) rfl rfl (g := (mkF m 112 #[rv ta, iv tk, iv td, iv tw, .val (.long tt), .second, rv da, rv pa] [(.ref da), (.ref ta)])) rfl rfl (hb hby d2_112)
  have N41 := Fr.snoc X41 N38 P7
  have Fw41 := Fld.same W41 ((((P5.other W29 (Or.inr (slot_ne (Or.inr (hw _ (List.mem_of_getElem? (i := 32) rfl))) (Or.inr (hw _ (List.mem_of_getElem? (i := 24) rfl))) (by decide) (t := (.array .double)) (t' := .int) (by decide) (by decide)))).other W32 (Or.inr (slot_ne (Or.inr (hw _ (List.mem_of_getElem? (i := 32) rfl))) (Or.inr (hw _ (List.mem_of_getElem? (i := 26) rfl))) (by decide) (t := (.array .double)) (t' := .int) (by decide) (by decide)))).other W35 (Or.inr (slot_ne (Or.inr (hw _ (List.mem_of_getElem? (i := 32) rfl))) (Or.inr (hw _ (List.mem_of_getElem? (i := 28) rfl))) (by decide) (t := (.array .double)) (t' := .int) (by decide) (by decide)))).other W38 (Or.inr (slot_ne (Or.inr (hw _ (List.mem_of_getElem? (i := 32) rfl))) (Or.inr (hw _ (List.mem_of_getElem? (i := 30) rfl))) (by decide) (t := (.array .double)) (t' := .long) (by decide) (by decide))))
  have g42 : Goes p e below S0 (T41.setTop (mkF m 115 #[rv ta, iv tk, iv td, iv tw, .val (.long tt), .second, rv da, rv pa] [])) := fun t k => g40 t (st41 t k)
  have g43 : Goes p e below S0 (T41.setTop (mkF m 118 #[rv ta, iv tk, iv td, iv tw, .val (.long tt), .second, rv da, rv pa] [(.ref pa), (.ref ta)])) := fun t k => g42 t (by
    refine XS.aloadN X41.here hx rfl (hb hby d2_115) rfl rfl ?_
    show Go p e below t T41 m 116 #[rv ta, iv tk, iv td, iv tw, .val (.long tt), .second, rv da, rv pa] [(.ref ta)]
    refine XS.aload X41.here hx rfl (hb hby d2_116) rfl rfl ?_
    show Go p e below t T41 m 118 #[rv ta, iv tk, iv td, iv tw, .val (.long tt), .second, rv da, rv pa] [(.ref pa), (.ref ta)]
    exact k)
  obtain ⟨T44, h44, X44, e44, W44, st44⟩ := putF X41 hx hZ hown (host := "") (Or.inl (hw _ (List.mem_of_getElem? (i := 33) rfl))) Via.refl e41 (((((P6.other W29 (Or.inr (slot_ne (Or.inr (hw _ (List.mem_of_getElem? (i := 34) rfl))) (Or.inr (hw _ (List.mem_of_getElem? (i := 24) rfl))) (by decide) (t := (.array .double)) (t' := .int) (by decide) (by decide)))).other W32 (Or.inr (slot_ne (Or.inr (hw _ (List.mem_of_getElem? (i := 34) rfl))) (Or.inr (hw _ (List.mem_of_getElem? (i := 26) rfl))) (by decide) (t := (.array .double)) (t' := .int) (by decide) (by decide)))).other W35 (Or.inr (slot_ne (Or.inr (hw _ (List.mem_of_getElem? (i := 34) rfl))) (Or.inr (hw _ (List.mem_of_getElem? (i := 28) rfl))) (by decide) (t := (.array .double)) (t' := .int) (by decide) (by decide)))).other W38 (Or.inr (slot_ne (Or.inr (hw _ (List.mem_of_getElem? (i := 34) rfl))) (Or.inr (hw _ (List.mem_of_getElem? (i := 30) rfl))) (by decide) (t := (.array .double)) (t' := .long) (by decide) (by decide)))).other W41 (Or.inr (slot_ne (Or.inr (hw _ (List.mem_of_getElem? (i := 34) rfl))) (Or.inr (hw _ (List.mem_of_getElem? (i := 32) rfl))) (by decide) (t := (.array .double)) (t' := (.array .double)) (by decide) (by decide)))) (((((P0.wr W29).wr W32).wr W35).wr W38).wr W41) (Or.inr ⟨(hw _ (List.mem_of_getElem? (i := 34) rfl)), rfl, hnm⟩) (hw _ (List.mem_of_getElem? (i := 2) rfl)) (ty := (.array .double)) (by decide) rfl rfl (g := (mkF m 118 #[rv ta, iv tk, iv td, iv tw, .val (.long tt), .second, rv da, rv pa] [(.ref pa), (.ref ta)])) rfl rfl (hb hby d2_118)
  have N44 := Fr.snoc X44 N41 P7
  have Fw44 := Fld.same W44 (((((P6.other W29 (Or.inr (slot_ne (Or.inr (hw _ (List.mem_of_getElem? (i := 34) rfl))) (Or.inr (hw _ (List.mem_of_getElem? (i := 24) rfl))) (by decide) (t := (.array .double)) (t' := .int) (by decide) (by decide)))).other W32 (Or.inr (slot_ne (Or.inr (hw _ (List.mem_of_getElem? (i := 34) rfl))) (Or.inr (hw _ (List.mem_of_getElem? (i := 26) rfl))) (by decide) (t := (.array .double)) (t' := .int) (by decide) (by decide)))).other W35 (Or.inr (slot_ne (Or.inr (hw _ (List.mem_of_getElem? (i := 34) rfl))) (Or.inr (hw _ (List.mem_of_getElem? (i := 28) rfl))) (by decide) (t := (.array .double)) (t' := .int) (by decide) (by decide)))).other W38 (Or.inr (slot_ne (Or.inr (hw _ (List.mem_of_getElem? (i := 34) rfl))) (Or.inr (hw _ (List.mem_of_getElem? (i := 30) rfl))) (by decide) (t := (.array .double)) (t' := .long) (by decide) (by decide)))).other W41 (Or.inr (slot_ne (Or.inr (hw _ (List.mem_of_getElem? (i := 34) rfl))) (Or.inr (hw _ (List.mem_of_getElem? (i := 32) rfl))) (by decide) (t := (.array .double)) (t' := (.array .double)) (by decide) (by decide))))
  have g45 : Goes p e below S0 (T44.setTop (mkF m 121 #[rv ta, iv tk, iv td, iv tw, .val (.long tt), .second, rv da, rv pa] [])) := fun t k => g43 t (st44 t k)
  obtain ⟨fs, hr, hrun, hended, hW, hsame⟩ := X44.leave (v := none) (fun _ => rfl)
  refine ⟨_, _, g45 _ (X44.returnOut hx Bd.returns (hb hby d2_121) hr), hrun, hended, _, _, rfl, ?_, ⟨_, rfl⟩, hW, hsame.mono (by decide) (by decide)⟩
  show Q_tin Z ta tk td tw tt da pa dk dn dv dd pk pn pv pq h0 n0 _ T44.heap _
  rw [e44]
  exact ⟨rfl, N44, (((((((Keep.refl h0 [ta]).wr W29 (Or.inl (List.mem_of_getElem? (i := 0) rfl))).wr W32 (Or.inl (List.mem_of_getElem? (i := 0) rfl))).wr W35 (Or.inl (List.mem_of_getElem? (i := 0) rfl))).wr W38 (Or.inl (List.mem_of_getElem? (i := 0) rfl))).wr W41 (Or.inl (List.mem_of_getElem? (i := 0) rfl))).wr W44 (Or.inl (List.mem_of_getElem? (i := 0) rfl))), ((((((P0.wr W29).wr W32).wr W35).wr W38).wr W41).wr W44), (((((Fw29.other W32 (Or.inr (slot_ne (Or.inr (hw _ (List.mem_of_getElem? (i := 24) rfl))) (Or.inr (hw _ (List.mem_of_getElem? (i := 26) rfl))) (by decide) (t := .int) (t' := .int) (by decide) (by decide)))).other W35 (Or.inr (slot_ne (Or.inr (hw _ (List.mem_of_getElem? (i := 24) rfl))) (Or.inr (hw _ (List.mem_of_getElem? (i := 28) rfl))) (by decide) (t := .int) (t' := .int) (by decide) (by decide)))).other W38 (Or.inr (slot_ne (Or.inr (hw _ (List.mem_of_getElem? (i := 24) rfl))) (Or.inr (hw _ (List.mem_of_getElem? (i := 30) rfl))) (by decide) (t := .int) (t' := .long) (by decide) (by decide)))).other W41 (Or.inr (slot_ne (Or.inr (hw _ (List.mem_of_getElem? (i := 24) rfl))) (Or.inr (hw _ (List.mem_of_getElem? (i := 32) rfl))) (by decide) (t := .int) (t' := (.array .double)) (by decide) (by decide)))).other W44 (Or.inr (slot_ne (Or.inr (hw _ (List.mem_of_getElem? (i := 24) rfl))) (Or.inr (hw _ (List.mem_of_getElem? (i := 34) rfl))) (by decide) (t := .int) (t' := (.array .double)) (by decide) (by decide)))), ((((Fw32.other W35 (Or.inr (slot_ne (Or.inr (hw _ (List.mem_of_getElem? (i := 26) rfl))) (Or.inr (hw _ (List.mem_of_getElem? (i := 28) rfl))) (by decide) (t := .int) (t' := .int) (by decide) (by decide)))).other W38 (Or.inr (slot_ne (Or.inr (hw _ (List.mem_of_getElem? (i := 26) rfl))) (Or.inr (hw _ (List.mem_of_getElem? (i := 30) rfl))) (by decide) (t := .int) (t' := .long) (by decide) (by decide)))).other W41 (Or.inr (slot_ne (Or.inr (hw _ (List.mem_of_getElem? (i := 26) rfl))) (Or.inr (hw _ (List.mem_of_getElem? (i := 32) rfl))) (by decide) (t := .int) (t' := (.array .double)) (by decide) (by decide)))).other W44 (Or.inr (slot_ne (Or.inr (hw _ (List.mem_of_getElem? (i := 26) rfl))) (Or.inr (hw _ (List.mem_of_getElem? (i := 34) rfl))) (by decide) (t := .int) (t' := (.array .double)) (by decide) (by decide)))), (((Fw35.other W38 (Or.inr (slot_ne (Or.inr (hw _ (List.mem_of_getElem? (i := 28) rfl))) (Or.inr (hw _ (List.mem_of_getElem? (i := 30) rfl))) (by decide) (t := .int) (t' := .long) (by decide) (by decide)))).other W41 (Or.inr (slot_ne (Or.inr (hw _ (List.mem_of_getElem? (i := 28) rfl))) (Or.inr (hw _ (List.mem_of_getElem? (i := 32) rfl))) (by decide) (t := .int) (t' := (.array .double)) (by decide) (by decide)))).other W44 (Or.inr (slot_ne (Or.inr (hw _ (List.mem_of_getElem? (i := 28) rfl))) (Or.inr (hw _ (List.mem_of_getElem? (i := 34) rfl))) (by decide) (t := .int) (t' := (.array .double)) (by decide) (by decide)))), ((Fw38.other W41 (Or.inr (slot_ne (Or.inr (hw _ (List.mem_of_getElem? (i := 30) rfl))) (Or.inr (hw _ (List.mem_of_getElem? (i := 32) rfl))) (by decide) (t := .long) (t' := (.array .double)) (by decide) (by decide)))).other W44 (Or.inr (slot_ne (Or.inr (hw _ (List.mem_of_getElem? (i := 30) rfl))) (Or.inr (hw _ (List.mem_of_getElem? (i := 34) rfl))) (by decide) (t := .long) (t' := (.array .double)) (by decide) (by decide)))), (Fw41.other W44 (Or.inr (slot_ne (Or.inr (hw _ (List.mem_of_getElem? (i := 32) rfl))) (Or.inr (hw _ (List.mem_of_getElem? (i := 34) rfl))) (by decide) (t := (.array .double)) (t' := (.array .double)) (by decide) (by decide)))), Fw44⟩
def nK (a : Int32) : Int32 := 1 + ((a &&& 2147483647) % 3)
def nD (a : Int32) : Int32 := (a &&& 2147483647) % 3
def nW (a : Int32) : Int32 := a &&& 1
theorem own_dr (a : Int32) : 0 ≤ (nD a).toInt ∧ (nD a).toInt < 3 := by
  have ha := (c_irem (a &&& 2147483647) 3 3 (by decide)).1 (c_and a 2147483647 (by decide)).1
  unfold nD; omega
theorem own_wr (a : Int32) : 0 ≤ (nW a).toInt ∧ (nW a).toInt < 2 := by
  have := c_mask a 1 1 (by decide) (by decide)
  unfold nW; omega
theorem own_k3 (a : Int32) : nK a = 1 ∨ nK a = 2 ∨ nK a = 3 := by
  have h := own_dr a
  have h1 := c_iadd 1 (nD a)
  have h2 := rng32 (1 + nD a)
  have z : (1 : Int32).toInt = 1 := by decide
  have e : (nK a).toInt = 1 + (nD a).toInt := by
    show (1 + nD a).toInt = _
    omega
  have h0 : (nK a).toInt = 1 ∨ (nK a).toInt = 2 ∨ (nK a).toInt = 3 := by omega
  rcases h0 with h0 | h0 | h0
  · exact Or.inl (Int32.toInt_inj.mp (by rw [h0]; decide))
  · exact Or.inr (Or.inl (Int32.toInt_inj.mp (by rw [h0]; decide)))
  · exact Or.inr (Or.inr (Int32.toInt_inj.mp (by rw [h0]; decide)))
section Own
open Jvm.OwnFP
def Nib (x : UInt64) : Prop := ∃ n : Int, Val x n 1070 ∧ 0 ≤ n ∧ n ≤ 15
def Pr (x : UInt64) (m : Nat) : Prop := ∃ n : Int, Val x n 1066 ∧ 0 ≤ n ∧ n ≤ 225 * m
theorem own_v16 : Val (4625196817309499392 : UInt64) 1 1078 := ⟨dfin_const (by decide), by decide +kernel⟩
theorem own_small (x : Int64) : 0 ≤ ((x &&& 15).toInt32).toInt ∧ ((x &&& 15).toInt32).toInt ≤ 15 := by
  have h := c_maskL x 15 4 (by decide) (by decide)
  have h1 := c_l2i (x &&& 15)
  have h2 := rng32 (x &&& 15).toInt32
  omega
theorem own_nib (b : Int64) (i : Int32) : Nib (f_v b i) := by
  have h := own_small ((b.toUInt64 >>> (((4 : Int32) * i) &&& 0x3f).toInt64.toUInt64).toInt64)
  exact ⟨_, (Val.i2d _).div2 own_v16 (by omega) (j := 1070) rfl (by decide), h.1, h.2⟩
theorem own_nibP {x : UInt64} (h : Nib x) : dLe (0 : UInt64) x ∧ dLe x (4607182418800017408 : UInt64) := by
  obtain ⟨n, hv, h0, h1⟩ := h
  exact own_prob (j := 4) hv (by decide) h0 (by rw [show ((2 ^ 4 : Nat) : Int) = 16 by decide]; omega)
theorem Pr.zero : Pr (0 : UInt64) 0 := ⟨0, own_vz 1066, by omega, by omega⟩
theorem Pr.mul {a b : UInt64} (ha : Nib a) (hb : Nib b) : Pr (FP.dmul a b) 1 := by
  obtain ⟨n, va, a0, a1⟩ := ha
  obtain ⟨m, vb, b0, b1⟩ := hb
  have h0 : 0 ≤ n * m := Int.mul_nonneg a0 b0
  have h1 : n * m ≤ 15 * m := Int.mul_le_mul_of_nonneg_right a1 b0
  exact ⟨n * m, va.mul vb (by omega) rfl (by decide), h0, by omega⟩
theorem Pr.add {a b : UInt64} {i j : Nat} (ha : Pr a i) (hb : Pr b j) (h : i + j ≤ 100) : Pr (FP.dadd a b) (i + j) := by
  obtain ⟨n, va, a0, a1⟩ := ha
  obtain ⟨m, vb, b0, b1⟩ := hb
  exact ⟨n + m, va.add vb (by omega) (by decide), by omega, by omega⟩
theorem Pr.nn {a : UInt64} {i : Nat} (h : Pr a i) : Jvm.Free.Fl.NoNaN64 a := by
  obtain ⟨n, va, -⟩ := h
  exact Jvm.Free.Fl.val64_no.mpr (fin_ne va.1)
theorem own_cmpE {a b : UInt64} {n m : Int} (ha : Val a n 1066) (hb : Val b m 1066) (e : n = m) : dEq a b := by
  unfold dEq
  rw [ha.cmp hb, e, Option.some.injEq, FP.Core.compare_eq_iff]
theorem own_k1e {a0 b0 : UInt64} (ha : Nib a0) (hb : Nib b0) : dEq (FP.dadd (0 : UInt64) (FP.dmul a0 b0)) (FP.dmul a0 b0) := by
  obtain ⟨n, v, l, u⟩ := Pr.mul ha hb
  exact own_cmpE ((own_vz 1066).add v (by omega) (by decide)) v (by omega)
theorem own_k2e {a0 b0 a1 b1 : UInt64} (ha : Nib a0) (hb : Nib b0) (hc : Nib a1) (hd : Nib b1) : dEq (FP.dadd (FP.dadd (0 : UInt64) (FP.dmul a0 b0)) (FP.dmul a1 b1)) (FP.dadd (FP.dmul a0 b0) (FP.dmul a1 b1)) := by
  obtain ⟨n, v, l, u⟩ := Pr.mul ha hb
  obtain ⟨m, v2, l2, u2⟩ := Pr.mul hc hd
  exact own_cmpE (((own_vz 1066).add v (by omega) (by decide)).add v2 (by omega) (by decide)) (v.add v2 (by omega) (by decide)) (by omega)
theorem own_k3e {a0 b0 a1 b1 a2 b2 : UInt64} (ha : Nib a0) (hb : Nib b0) (hc : Nib a1) (hd : Nib b1) (he : Nib a2) (hf : Nib b2) : dEq (FP.dadd (FP.dadd (FP.dadd (0 : UInt64) (FP.dmul a0 b0)) (FP.dmul a1 b1)) (FP.dmul a2 b2)) (FP.dadd (FP.dadd (FP.dmul a0 b0) (FP.dmul a1 b1)) (FP.dmul a2 b2)) := by
  obtain ⟨n, v, l, u⟩ := Pr.mul ha hb
  obtain ⟨m, v2, l2, u2⟩ := Pr.mul hc hd
  obtain ⟨q, v3, l3, u3⟩ := Pr.mul he hf
  exact own_cmpE ((((own_vz 1066).add v (by omega) (by decide)).add v2 (by omega) (by decide)).add v3 (by omega) (by decide)) ((v.add v2 (by omega) (by decide)).add v3 (by omega) (by decide)) (by omega)
end Own
theorem own_p2 (b : Int64) : Prob (2 : Int32) [.double (f_v b (0 : Int32)), .double (f_v b (1 : Int32))] (.double (0 : UInt64)) := by
  intro i hi
  have z : (2 : Int32).toNatClampNeg = 2 := by decide
  rw [z] at hi
  match i, hi with
  | 0, _ => exact ⟨_, rfl, own_nibP (own_nib _ _)⟩
  | 1, _ => exact ⟨_, rfl, own_nibP (own_nib _ _)⟩
theorem own_at2 {j : Int32} (h : 0 ≤ j.toInt ∧ j.toInt < 2) (b : Int64) {dv : Value} : [Value.double (f_v b (0 : Int32)), .double (f_v b (1 : Int32))].getD j.toNatClampNeg dv = .double (f_v b j) := by
  have h0 : j.toInt = 0 ∨ j.toInt = 1 := by omega
  rcases h0 with h0 | h0
  · obtain rfl : j = (0 : Int32) := Int32.toInt_inj.mp (by rw [h0]; decide)
    rfl
  · obtain rfl : j = (1 : Int32) := Int32.toInt_inj.mp (by rw [h0]; decide)
    rfl
theorem own_in2 {j : Int32} (h : 0 ≤ j.toInt ∧ j.toInt < 2) : ¬ j < 0 ∧ j < (2 : Int32) := by
  rw [Int32.lt_iff_toInt_lt, Int32.lt_iff_toInt_lt]
  have : (0 : Int32).toInt = 0 := by decide
  have : (2 : Int32).toInt = 2 := by decide
  omega
theorem own_p3 (b : Int64) : Prob (3 : Int32) [.double (f_v b (0 : Int32)), .double (f_v b (1 : Int32)), .double (f_v b (2 : Int32))] (.double (0 : UInt64)) := by
  intro i hi
  have z : (3 : Int32).toNatClampNeg = 3 := by decide
  rw [z] at hi
  match i, hi with
  | 0, _ => exact ⟨_, rfl, own_nibP (own_nib _ _)⟩
  | 1, _ => exact ⟨_, rfl, own_nibP (own_nib _ _)⟩
  | 2, _ => exact ⟨_, rfl, own_nibP (own_nib _ _)⟩
theorem own_at3 {j : Int32} (h : 0 ≤ j.toInt ∧ j.toInt < 3) (b : Int64) {dv : Value} : [Value.double (f_v b (0 : Int32)), .double (f_v b (1 : Int32)), .double (f_v b (2 : Int32))].getD j.toNatClampNeg dv = .double (f_v b j) := by
  have h0 : j.toInt = 0 ∨ j.toInt = 1 ∨ j.toInt = 2 := by omega
  rcases h0 with h0 | h0 | h0
  · obtain rfl : j = (0 : Int32) := Int32.toInt_inj.mp (by rw [h0]; decide)
    rfl
  · obtain rfl : j = (1 : Int32) := Int32.toInt_inj.mp (by rw [h0]; decide)
    rfl
  · obtain rfl : j = (2 : Int32) := Int32.toInt_inj.mp (by rw [h0]; decide)
    rfl
theorem own_in3 {j : Int32} (h : 0 ≤ j.toInt ∧ j.toInt < 3) : ¬ j < 0 ∧ j < (3 : Int32) := by
  rw [Int32.lt_iff_toInt_lt, Int32.lt_iff_toInt_lt]
  have : (0 : Int32).toInt = 0 := by decide
  have : (3 : Int32).toInt = 3 := by decide
  omega
theorem own_p4 (b : Int64) : Prob (4 : Int32) [.double (f_v b (0 : Int32)), .double (f_v b (1 : Int32)), .double (f_v b (2 : Int32)), .double (f_v b (3 : Int32))] (.double (0 : UInt64)) := by
  intro i hi
  have z : (4 : Int32).toNatClampNeg = 4 := by decide
  rw [z] at hi
  match i, hi with
  | 0, _ => exact ⟨_, rfl, own_nibP (own_nib _ _)⟩
  | 1, _ => exact ⟨_, rfl, own_nibP (own_nib _ _)⟩
  | 2, _ => exact ⟨_, rfl, own_nibP (own_nib _ _)⟩
  | 3, _ => exact ⟨_, rfl, own_nibP (own_nib _ _)⟩
theorem own_at4 {j : Int32} (h : 0 ≤ j.toInt ∧ j.toInt < 4) (b : Int64) {dv : Value} : [Value.double (f_v b (0 : Int32)), .double (f_v b (1 : Int32)), .double (f_v b (2 : Int32)), .double (f_v b (3 : Int32))].getD j.toNatClampNeg dv = .double (f_v b j) := by
  have h0 : j.toInt = 0 ∨ j.toInt = 1 ∨ j.toInt = 2 ∨ j.toInt = 3 := by omega
  rcases h0 with h0 | h0 | h0 | h0
  · obtain rfl : j = (0 : Int32) := Int32.toInt_inj.mp (by rw [h0]; decide)
    rfl
  · obtain rfl : j = (1 : Int32) := Int32.toInt_inj.mp (by rw [h0]; decide)
    rfl
  · obtain rfl : j = (2 : Int32) := Int32.toInt_inj.mp (by rw [h0]; decide)
    rfl
  · obtain rfl : j = (3 : Int32) := Int32.toInt_inj.mp (by rw [h0]; decide)
    rfl
theorem own_in4 {j : Int32} (h : 0 ≤ j.toInt ∧ j.toInt < 4) : ¬ j < 0 ∧ j < (4 : Int32) := by
  rw [Int32.lt_iff_toInt_lt, Int32.lt_iff_toInt_lt]
  have : (0 : Int32).toInt = 0 := by decide
  have : (4 : Int32).toInt = 4 := by decide
  omega
theorem own_p6 (b : Int64) : Prob (6 : Int32) [.double (f_v b (0 : Int32)), .double (f_v b (1 : Int32)), .double (f_v b (2 : Int32)), .double (f_v b (3 : Int32)), .double (f_v b (4 : Int32)), .double (f_v b (5 : Int32))] (.double (0 : UInt64)) := by
  intro i hi
  have z : (6 : Int32).toNatClampNeg = 6 := by decide
  rw [z] at hi
  match i, hi with
  | 0, _ => exact ⟨_, rfl, own_nibP (own_nib _ _)⟩
  | 1, _ => exact ⟨_, rfl, own_nibP (own_nib _ _)⟩
  | 2, _ => exact ⟨_, rfl, own_nibP (own_nib _ _)⟩
  | 3, _ => exact ⟨_, rfl, own_nibP (own_nib _ _)⟩
  | 4, _ => exact ⟨_, rfl, own_nibP (own_nib _ _)⟩
  | 5, _ => exact ⟨_, rfl, own_nibP (own_nib _ _)⟩
theorem own_at6 {j : Int32} (h : 0 ≤ j.toInt ∧ j.toInt < 6) (b : Int64) {dv : Value} : [Value.double (f_v b (0 : Int32)), .double (f_v b (1 : Int32)), .double (f_v b (2 : Int32)), .double (f_v b (3 : Int32)), .double (f_v b (4 : Int32)), .double (f_v b (5 : Int32))].getD j.toNatClampNeg dv = .double (f_v b j) := by
  have h0 : j.toInt = 0 ∨ j.toInt = 1 ∨ j.toInt = 2 ∨ j.toInt = 3 ∨ j.toInt = 4 ∨ j.toInt = 5 := by omega
  rcases h0 with h0 | h0 | h0 | h0 | h0 | h0
  · obtain rfl : j = (0 : Int32) := Int32.toInt_inj.mp (by rw [h0]; decide)
    rfl
  · obtain rfl : j = (1 : Int32) := Int32.toInt_inj.mp (by rw [h0]; decide)
    rfl
  · obtain rfl : j = (2 : Int32) := Int32.toInt_inj.mp (by rw [h0]; decide)
    rfl
  · obtain rfl : j = (3 : Int32) := Int32.toInt_inj.mp (by rw [h0]; decide)
    rfl
  · obtain rfl : j = (4 : Int32) := Int32.toInt_inj.mp (by rw [h0]; decide)
    rfl
  · obtain rfl : j = (5 : Int32) := Int32.toInt_inj.mp (by rw [h0]; decide)
    rfl
theorem own_in6 {j : Int32} (h : 0 ≤ j.toInt ∧ j.toInt < 6) : ¬ j < 0 ∧ j < (6 : Int32) := by
  rw [Int32.lt_iff_toInt_lt, Int32.lt_iff_toInt_lt]
  have : (0 : Int32).toInt = 0 := by decide
  have : (6 : Int32).toInt = 6 := by decide
  omega
theorem own_p9 (b : Int64) : Prob (9 : Int32) [.double (f_v b (0 : Int32)), .double (f_v b (1 : Int32)), .double (f_v b (2 : Int32)), .double (f_v b (3 : Int32)), .double (f_v b (4 : Int32)), .double (f_v b (5 : Int32)), .double (f_v b (6 : Int32)), .double (f_v b (7 : Int32)), .double (f_v b (8 : Int32))] (.double (0 : UInt64)) := by
  intro i hi
  have z : (9 : Int32).toNatClampNeg = 9 := by decide
  rw [z] at hi
  match i, hi with
  | 0, _ => exact ⟨_, rfl, own_nibP (own_nib _ _)⟩
  | 1, _ => exact ⟨_, rfl, own_nibP (own_nib _ _)⟩
  | 2, _ => exact ⟨_, rfl, own_nibP (own_nib _ _)⟩
  | 3, _ => exact ⟨_, rfl, own_nibP (own_nib _ _)⟩
  | 4, _ => exact ⟨_, rfl, own_nibP (own_nib _ _)⟩
  | 5, _ => exact ⟨_, rfl, own_nibP (own_nib _ _)⟩
  | 6, _ => exact ⟨_, rfl, own_nibP (own_nib _ _)⟩
  | 7, _ => exact ⟨_, rfl, own_nibP (own_nib _ _)⟩
  | 8, _ => exact ⟨_, rfl, own_nibP (own_nib _ _)⟩
theorem own_at9 {j : Int32} (h : 0 ≤ j.toInt ∧ j.toInt < 9) (b : Int64) {dv : Value} : [Value.double (f_v b (0 : Int32)), .double (f_v b (1 : Int32)), .double (f_v b (2 : Int32)), .double (f_v b (3 : Int32)), .double (f_v b (4 : Int32)), .double (f_v b (5 : Int32)), .double (f_v b (6 : Int32)), .double (f_v b (7 : Int32)), .double (f_v b (8 : Int32))].getD j.toNatClampNeg dv = .double (f_v b j) := by
  have h0 : j.toInt = 0 ∨ j.toInt = 1 ∨ j.toInt = 2 ∨ j.toInt = 3 ∨ j.toInt = 4 ∨ j.toInt = 5 ∨ j.toInt = 6 ∨ j.toInt = 7 ∨ j.toInt = 8 := by omega
  rcases h0 with h0 | h0 | h0 | h0 | h0 | h0 | h0 | h0 | h0
  · obtain rfl : j = (0 : Int32) := Int32.toInt_inj.mp (by rw [h0]; decide)
    rfl
  · obtain rfl : j = (1 : Int32) := Int32.toInt_inj.mp (by rw [h0]; decide)
    rfl
  · obtain rfl : j = (2 : Int32) := Int32.toInt_inj.mp (by rw [h0]; decide)
    rfl
  · obtain rfl : j = (3 : Int32) := Int32.toInt_inj.mp (by rw [h0]; decide)
    rfl
  · obtain rfl : j = (4 : Int32) := Int32.toInt_inj.mp (by rw [h0]; decide)
    rfl
  · obtain rfl : j = (5 : Int32) := Int32.toInt_inj.mp (by rw [h0]; decide)
    rfl
  · obtain rfl : j = (6 : Int32) := Int32.toInt_inj.mp (by rw [h0]; decide)
    rfl
  · obtain rfl : j = (7 : Int32) := Int32.toInt_inj.mp (by rw [h0]; decide)
    rfl
  · obtain rfl : j = (8 : Int32) := Int32.toInt_inj.mp (by rw [h0]; decide)
    rfl
theorem own_in9 {j : Int32} (h : 0 ≤ j.toInt ∧ j.toInt < 9) : ¬ j < 0 ∧ j < (9 : Int32) := by
  rw [Int32.lt_iff_toInt_lt, Int32.lt_iff_toInt_lt]
  have : (0 : Int32).toInt = 0 := by decide
  have : (9 : Int32).toInt = 9 := by decide
  omega
theorem own_ra1_0 (x : Int32) : 0 ≤ ((nW x * (1 : Int32)) + (0 : Int32)).toInt ∧ ((nW x * (1 : Int32)) + (0 : Int32)).toInt < 2 := by
  have h := own_wr x
  have h1 := c_imul (nW x) 1
  have h2 := c_iadd (nW x * 1) 0
  have r1 := rng32 (nW x * 1)
  have r2 := rng32 (nW x * 1 + 0)
  have z : (1 : Int32).toInt = 1 := by decide
  have z2 : (0 : Int32).toInt = 0 := by decide
  rw [z] at h1
  rw [z2] at h2
  have e1 : (nW x * 1).toInt = (nW x).toInt * 1 := by clear h2 r2; omega
  have b1 : 0 ≤ (nW x * 1).toInt ∧ (nW x * 1).toInt ≤ 64 := by clear h2 r2; omega
  have e2 : (nW x * 1 + 0).toInt = (nW x * 1).toInt + 0 := by clear h1 e1; omega
  clear h1 h2
  omega
theorem own_ia1_0 (x : Int32) : ¬ ((nW x * (1 : Int32)) + (0 : Int32)) < 0 ∧ ((nW x * (1 : Int32)) + (0 : Int32)) < (2 : Int32) := own_in2 (own_ra1_0 x)
theorem own_ea1_0 (x : Int32) (b : Int64) : [Value.double (f_v b (0 : Int32)), .double (f_v b (1 : Int32))].getD ((nW x * (1 : Int32)) + (0 : Int32)).toNatClampNeg (.double (0 : UInt64)) = .double (f_v b (nW x * (1 : Int32))) := by
  rw [own_at2 (own_ra1_0 x) b]
  rw [Int32.add_zero]
theorem own_rb1_0 (x : Int32) : 0 ≤ ((nD x * (1 : Int32)) + (0 : Int32)).toInt ∧ ((nD x * (1 : Int32)) + (0 : Int32)).toInt < 3 := by
  have h := own_dr x
  have h1 := c_imul (nD x) 1
  have h2 := c_iadd (nD x * 1) 0
  have r1 := rng32 (nD x * 1)
  have r2 := rng32 (nD x * 1 + 0)
  have z : (1 : Int32).toInt = 1 := by decide
  have z2 : (0 : Int32).toInt = 0 := by decide
  rw [z] at h1
  rw [z2] at h2
  have e1 : (nD x * 1).toInt = (nD x).toInt * 1 := by clear h2 r2; omega
  have b1 : 0 ≤ (nD x * 1).toInt ∧ (nD x * 1).toInt ≤ 64 := by clear h2 r2; omega
  have e2 : (nD x * 1 + 0).toInt = (nD x * 1).toInt + 0 := by clear h1 e1; omega
  clear h1 h2
  omega
theorem own_ib1_0 (x : Int32) : ¬ ((nD x * (1 : Int32)) + (0 : Int32)) < 0 ∧ ((nD x * (1 : Int32)) + (0 : Int32)) < (3 : Int32) := own_in3 (own_rb1_0 x)
theorem own_eb1_0 (x : Int32) (b : Int64) : [Value.double (f_v b (0 : Int32)), .double (f_v b (1 : Int32)), .double (f_v b (2 : Int32))].getD ((nD x * (1 : Int32)) + (0 : Int32)).toNatClampNeg (.double (0 : UInt64)) = .double (f_v b (nD x * (1 : Int32))) := by
  rw [own_at3 (own_rb1_0 x) b]
  rw [Int32.add_zero]
theorem own_ra2_0 (x : Int32) : 0 ≤ ((nW x * (2 : Int32)) + (0 : Int32)).toInt ∧ ((nW x * (2 : Int32)) + (0 : Int32)).toInt < 4 := by
  have h := own_wr x
  have h1 := c_imul (nW x) 2
  have h2 := c_iadd (nW x * 2) 0
  have r1 := rng32 (nW x * 2)
  have r2 := rng32 (nW x * 2 + 0)
  have z : (2 : Int32).toInt = 2 := by decide
  have z2 : (0 : Int32).toInt = 0 := by decide
  rw [z] at h1
  rw [z2] at h2
  have e1 : (nW x * 2).toInt = (nW x).toInt * 2 := by clear h2 r2; omega
  have b1 : 0 ≤ (nW x * 2).toInt ∧ (nW x * 2).toInt ≤ 64 := by clear h2 r2; omega
  have e2 : (nW x * 2 + 0).toInt = (nW x * 2).toInt + 0 := by clear h1 e1; omega
  clear h1 h2
  omega
theorem own_ia2_0 (x : Int32) : ¬ ((nW x * (2 : Int32)) + (0 : Int32)) < 0 ∧ ((nW x * (2 : Int32)) + (0 : Int32)) < (4 : Int32) := own_in4 (own_ra2_0 x)
theorem own_ea2_0 (x : Int32) (b : Int64) : [Value.double (f_v b (0 : Int32)), .double (f_v b (1 : Int32)), .double (f_v b (2 : Int32)), .double (f_v b (3 : Int32))].getD ((nW x * (2 : Int32)) + (0 : Int32)).toNatClampNeg (.double (0 : UInt64)) = .double (f_v b (nW x * (2 : Int32))) := by
  rw [own_at4 (own_ra2_0 x) b]
  rw [Int32.add_zero]
theorem own_rb2_0 (x : Int32) : 0 ≤ ((nD x * (2 : Int32)) + (0 : Int32)).toInt ∧ ((nD x * (2 : Int32)) + (0 : Int32)).toInt < 6 := by
  have h := own_dr x
  have h1 := c_imul (nD x) 2
  have h2 := c_iadd (nD x * 2) 0
  have r1 := rng32 (nD x * 2)
  have r2 := rng32 (nD x * 2 + 0)
  have z : (2 : Int32).toInt = 2 := by decide
  have z2 : (0 : Int32).toInt = 0 := by decide
  rw [z] at h1
  rw [z2] at h2
  have e1 : (nD x * 2).toInt = (nD x).toInt * 2 := by clear h2 r2; omega
  have b1 : 0 ≤ (nD x * 2).toInt ∧ (nD x * 2).toInt ≤ 64 := by clear h2 r2; omega
  have e2 : (nD x * 2 + 0).toInt = (nD x * 2).toInt + 0 := by clear h1 e1; omega
  clear h1 h2
  omega
theorem own_ib2_0 (x : Int32) : ¬ ((nD x * (2 : Int32)) + (0 : Int32)) < 0 ∧ ((nD x * (2 : Int32)) + (0 : Int32)) < (6 : Int32) := own_in6 (own_rb2_0 x)
theorem own_eb2_0 (x : Int32) (b : Int64) : [Value.double (f_v b (0 : Int32)), .double (f_v b (1 : Int32)), .double (f_v b (2 : Int32)), .double (f_v b (3 : Int32)), .double (f_v b (4 : Int32)), .double (f_v b (5 : Int32))].getD ((nD x * (2 : Int32)) + (0 : Int32)).toNatClampNeg (.double (0 : UInt64)) = .double (f_v b (nD x * (2 : Int32))) := by
  rw [own_at6 (own_rb2_0 x) b]
  rw [Int32.add_zero]
theorem own_ra2_1 (x : Int32) : 0 ≤ ((nW x * (2 : Int32)) + (1 : Int32)).toInt ∧ ((nW x * (2 : Int32)) + (1 : Int32)).toInt < 4 := by
  have h := own_wr x
  have h1 := c_imul (nW x) 2
  have h2 := c_iadd (nW x * 2) 1
  have r1 := rng32 (nW x * 2)
  have r2 := rng32 (nW x * 2 + 1)
  have z : (2 : Int32).toInt = 2 := by decide
  have z2 : (1 : Int32).toInt = 1 := by decide
  rw [z] at h1
  rw [z2] at h2
  have e1 : (nW x * 2).toInt = (nW x).toInt * 2 := by clear h2 r2; omega
  have b1 : 0 ≤ (nW x * 2).toInt ∧ (nW x * 2).toInt ≤ 64 := by clear h2 r2; omega
  have e2 : (nW x * 2 + 1).toInt = (nW x * 2).toInt + 1 := by clear h1 e1; omega
  clear h1 h2
  omega
theorem own_ia2_1 (x : Int32) : ¬ ((nW x * (2 : Int32)) + (1 : Int32)) < 0 ∧ ((nW x * (2 : Int32)) + (1 : Int32)) < (4 : Int32) := own_in4 (own_ra2_1 x)
theorem own_ea2_1 (x : Int32) (b : Int64) : [Value.double (f_v b (0 : Int32)), .double (f_v b (1 : Int32)), .double (f_v b (2 : Int32)), .double (f_v b (3 : Int32))].getD ((nW x * (2 : Int32)) + (1 : Int32)).toNatClampNeg (.double (0 : UInt64)) = .double (f_v b ((nW x * (2 : Int32)) + (1 : Int32))) := by
  rw [own_at4 (own_ra2_1 x) b]
theorem own_rb2_1 (x : Int32) : 0 ≤ ((nD x * (2 : Int32)) + (1 : Int32)).toInt ∧ ((nD x * (2 : Int32)) + (1 : Int32)).toInt < 6 := by
  have h := own_dr x
  have h1 := c_imul (nD x) 2
  have h2 := c_iadd (nD x * 2) 1
  have r1 := rng32 (nD x * 2)
  have r2 := rng32 (nD x * 2 + 1)
  have z : (2 : Int32).toInt = 2 := by decide
  have z2 : (1 : Int32).toInt = 1 := by decide
  rw [z] at h1
  rw [z2] at h2
  have e1 : (nD x * 2).toInt = (nD x).toInt * 2 := by clear h2 r2; omega
  have b1 : 0 ≤ (nD x * 2).toInt ∧ (nD x * 2).toInt ≤ 64 := by clear h2 r2; omega
  have e2 : (nD x * 2 + 1).toInt = (nD x * 2).toInt + 1 := by clear h1 e1; omega
  clear h1 h2
  omega
theorem own_ib2_1 (x : Int32) : ¬ ((nD x * (2 : Int32)) + (1 : Int32)) < 0 ∧ ((nD x * (2 : Int32)) + (1 : Int32)) < (6 : Int32) := own_in6 (own_rb2_1 x)
theorem own_eb2_1 (x : Int32) (b : Int64) : [Value.double (f_v b (0 : Int32)), .double (f_v b (1 : Int32)), .double (f_v b (2 : Int32)), .double (f_v b (3 : Int32)), .double (f_v b (4 : Int32)), .double (f_v b (5 : Int32))].getD ((nD x * (2 : Int32)) + (1 : Int32)).toNatClampNeg (.double (0 : UInt64)) = .double (f_v b ((nD x * (2 : Int32)) + (1 : Int32))) := by
  rw [own_at6 (own_rb2_1 x) b]
theorem own_ra3_0 (x : Int32) : 0 ≤ ((nW x * (3 : Int32)) + (0 : Int32)).toInt ∧ ((nW x * (3 : Int32)) + (0 : Int32)).toInt < 6 := by
  have h := own_wr x
  have h1 := c_imul (nW x) 3
  have h2 := c_iadd (nW x * 3) 0
  have r1 := rng32 (nW x * 3)
  have r2 := rng32 (nW x * 3 + 0)
  have z : (3 : Int32).toInt = 3 := by decide
  have z2 : (0 : Int32).toInt = 0 := by decide
  rw [z] at h1
  rw [z2] at h2
  have e1 : (nW x * 3).toInt = (nW x).toInt * 3 := by clear h2 r2; omega
  have b1 : 0 ≤ (nW x * 3).toInt ∧ (nW x * 3).toInt ≤ 64 := by clear h2 r2; omega
  have e2 : (nW x * 3 + 0).toInt = (nW x * 3).toInt + 0 := by clear h1 e1; omega
  clear h1 h2
  omega
theorem own_ia3_0 (x : Int32) : ¬ ((nW x * (3 : Int32)) + (0 : Int32)) < 0 ∧ ((nW x * (3 : Int32)) + (0 : Int32)) < (6 : Int32) := own_in6 (own_ra3_0 x)
theorem own_ea3_0 (x : Int32) (b : Int64) : [Value.double (f_v b (0 : Int32)), .double (f_v b (1 : Int32)), .double (f_v b (2 : Int32)), .double (f_v b (3 : Int32)), .double (f_v b (4 : Int32)), .double (f_v b (5 : Int32))].getD ((nW x * (3 : Int32)) + (0 : Int32)).toNatClampNeg (.double (0 : UInt64)) = .double (f_v b (nW x * (3 : Int32))) := by
  rw [own_at6 (own_ra3_0 x) b]
  rw [Int32.add_zero]
theorem own_rb3_0 (x : Int32) : 0 ≤ ((nD x * (3 : Int32)) + (0 : Int32)).toInt ∧ ((nD x * (3 : Int32)) + (0 : Int32)).toInt < 9 := by
  have h := own_dr x
  have h1 := c_imul (nD x) 3
  have h2 := c_iadd (nD x * 3) 0
  have r1 := rng32 (nD x * 3)
  have r2 := rng32 (nD x * 3 + 0)
  have z : (3 : Int32).toInt = 3 := by decide
  have z2 : (0 : Int32).toInt = 0 := by decide
  rw [z] at h1
  rw [z2] at h2
  have e1 : (nD x * 3).toInt = (nD x).toInt * 3 := by clear h2 r2; omega
  have b1 : 0 ≤ (nD x * 3).toInt ∧ (nD x * 3).toInt ≤ 64 := by clear h2 r2; omega
  have e2 : (nD x * 3 + 0).toInt = (nD x * 3).toInt + 0 := by clear h1 e1; omega
  clear h1 h2
  omega
theorem own_ib3_0 (x : Int32) : ¬ ((nD x * (3 : Int32)) + (0 : Int32)) < 0 ∧ ((nD x * (3 : Int32)) + (0 : Int32)) < (9 : Int32) := own_in9 (own_rb3_0 x)
theorem own_eb3_0 (x : Int32) (b : Int64) : [Value.double (f_v b (0 : Int32)), .double (f_v b (1 : Int32)), .double (f_v b (2 : Int32)), .double (f_v b (3 : Int32)), .double (f_v b (4 : Int32)), .double (f_v b (5 : Int32)), .double (f_v b (6 : Int32)), .double (f_v b (7 : Int32)), .double (f_v b (8 : Int32))].getD ((nD x * (3 : Int32)) + (0 : Int32)).toNatClampNeg (.double (0 : UInt64)) = .double (f_v b (nD x * (3 : Int32))) := by
  rw [own_at9 (own_rb3_0 x) b]
  rw [Int32.add_zero]
theorem own_ra3_1 (x : Int32) : 0 ≤ ((nW x * (3 : Int32)) + (1 : Int32)).toInt ∧ ((nW x * (3 : Int32)) + (1 : Int32)).toInt < 6 := by
  have h := own_wr x
  have h1 := c_imul (nW x) 3
  have h2 := c_iadd (nW x * 3) 1
  have r1 := rng32 (nW x * 3)
  have r2 := rng32 (nW x * 3 + 1)
  have z : (3 : Int32).toInt = 3 := by decide
  have z2 : (1 : Int32).toInt = 1 := by decide
  rw [z] at h1
  rw [z2] at h2
  have e1 : (nW x * 3).toInt = (nW x).toInt * 3 := by clear h2 r2; omega
  have b1 : 0 ≤ (nW x * 3).toInt ∧ (nW x * 3).toInt ≤ 64 := by clear h2 r2; omega
  have e2 : (nW x * 3 + 1).toInt = (nW x * 3).toInt + 1 := by clear h1 e1; omega
  clear h1 h2
  omega
theorem own_ia3_1 (x : Int32) : ¬ ((nW x * (3 : Int32)) + (1 : Int32)) < 0 ∧ ((nW x * (3 : Int32)) + (1 : Int32)) < (6 : Int32) := own_in6 (own_ra3_1 x)
theorem own_ea3_1 (x : Int32) (b : Int64) : [Value.double (f_v b (0 : Int32)), .double (f_v b (1 : Int32)), .double (f_v b (2 : Int32)), .double (f_v b (3 : Int32)), .double (f_v b (4 : Int32)), .double (f_v b (5 : Int32))].getD ((nW x * (3 : Int32)) + (1 : Int32)).toNatClampNeg (.double (0 : UInt64)) = .double (f_v b ((nW x * (3 : Int32)) + (1 : Int32))) := by
  rw [own_at6 (own_ra3_1 x) b]
theorem own_rb3_1 (x : Int32) : 0 ≤ ((nD x * (3 : Int32)) + (1 : Int32)).toInt ∧ ((nD x * (3 : Int32)) + (1 : Int32)).toInt < 9 := by
  have h := own_dr x
  have h1 := c_imul (nD x) 3
  have h2 := c_iadd (nD x * 3) 1
  have r1 := rng32 (nD x * 3)
  have r2 := rng32 (nD x * 3 + 1)
  have z : (3 : Int32).toInt = 3 := by decide
  have z2 : (1 : Int32).toInt = 1 := by decide
  rw [z] at h1
  rw [z2] at h2
  have e1 : (nD x * 3).toInt = (nD x).toInt * 3 := by clear h2 r2; omega
  have b1 : 0 ≤ (nD x * 3).toInt ∧ (nD x * 3).toInt ≤ 64 := by clear h2 r2; omega
  have e2 : (nD x * 3 + 1).toInt = (nD x * 3).toInt + 1 := by clear h1 e1; omega
  clear h1 h2
  omega
theorem own_ib3_1 (x : Int32) : ¬ ((nD x * (3 : Int32)) + (1 : Int32)) < 0 ∧ ((nD x * (3 : Int32)) + (1 : Int32)) < (9 : Int32) := own_in9 (own_rb3_1 x)
theorem own_eb3_1 (x : Int32) (b : Int64) : [Value.double (f_v b (0 : Int32)), .double (f_v b (1 : Int32)), .double (f_v b (2 : Int32)), .double (f_v b (3 : Int32)), .double (f_v b (4 : Int32)), .double (f_v b (5 : Int32)), .double (f_v b (6 : Int32)), .double (f_v b (7 : Int32)), .double (f_v b (8 : Int32))].getD ((nD x * (3 : Int32)) + (1 : Int32)).toNatClampNeg (.double (0 : UInt64)) = .double (f_v b ((nD x * (3 : Int32)) + (1 : Int32))) := by
  rw [own_at9 (own_rb3_1 x) b]
theorem own_ra3_2 (x : Int32) : 0 ≤ ((nW x * (3 : Int32)) + (2 : Int32)).toInt ∧ ((nW x * (3 : Int32)) + (2 : Int32)).toInt < 6 := by
  have h := own_wr x
  have h1 := c_imul (nW x) 3
  have h2 := c_iadd (nW x * 3) 2
  have r1 := rng32 (nW x * 3)
  have r2 := rng32 (nW x * 3 + 2)
  have z : (3 : Int32).toInt = 3 := by decide
  have z2 : (2 : Int32).toInt = 2 := by decide
  rw [z] at h1
  rw [z2] at h2
  have e1 : (nW x * 3).toInt = (nW x).toInt * 3 := by clear h2 r2; omega
  have b1 : 0 ≤ (nW x * 3).toInt ∧ (nW x * 3).toInt ≤ 64 := by clear h2 r2; omega
  have e2 : (nW x * 3 + 2).toInt = (nW x * 3).toInt + 2 := by clear h1 e1; omega
  clear h1 h2
  omega
theorem own_ia3_2 (x : Int32) : ¬ ((nW x * (3 : Int32)) + (2 : Int32)) < 0 ∧ ((nW x * (3 : Int32)) + (2 : Int32)) < (6 : Int32) := own_in6 (own_ra3_2 x)
theorem own_ea3_2 (x : Int32) (b : Int64) : [Value.double (f_v b (0 : Int32)), .double (f_v b (1 : Int32)), .double (f_v b (2 : Int32)), .double (f_v b (3 : Int32)), .double (f_v b (4 : Int32)), .double (f_v b (5 : Int32))].getD ((nW x * (3 : Int32)) + (2 : Int32)).toNatClampNeg (.double (0 : UInt64)) = .double (f_v b ((nW x * (3 : Int32)) + (2 : Int32))) := by
  rw [own_at6 (own_ra3_2 x) b]
theorem own_rb3_2 (x : Int32) : 0 ≤ ((nD x * (3 : Int32)) + (2 : Int32)).toInt ∧ ((nD x * (3 : Int32)) + (2 : Int32)).toInt < 9 := by
  have h := own_dr x
  have h1 := c_imul (nD x) 3
  have h2 := c_iadd (nD x * 3) 2
  have r1 := rng32 (nD x * 3)
  have r2 := rng32 (nD x * 3 + 2)
  have z : (3 : Int32).toInt = 3 := by decide
  have z2 : (2 : Int32).toInt = 2 := by decide
  rw [z] at h1
  rw [z2] at h2
  have e1 : (nD x * 3).toInt = (nD x).toInt * 3 := by clear h2 r2; omega
  have b1 : 0 ≤ (nD x * 3).toInt ∧ (nD x * 3).toInt ≤ 64 := by clear h2 r2; omega
  have e2 : (nD x * 3 + 2).toInt = (nD x * 3).toInt + 2 := by clear h1 e1; omega
  clear h1 h2
  omega
theorem own_ib3_2 (x : Int32) : ¬ ((nD x * (3 : Int32)) + (2 : Int32)) < 0 ∧ ((nD x * (3 : Int32)) + (2 : Int32)) < (9 : Int32) := own_in9 (own_rb3_2 x)
theorem own_eb3_2 (x : Int32) (b : Int64) : [Value.double (f_v b (0 : Int32)), .double (f_v b (1 : Int32)), .double (f_v b (2 : Int32)), .double (f_v b (3 : Int32)), .double (f_v b (4 : Int32)), .double (f_v b (5 : Int32)), .double (f_v b (6 : Int32)), .double (f_v b (7 : Int32)), .double (f_v b (8 : Int32))].getD ((nD x * (3 : Int32)) + (2 : Int32)).toNatClampNeg (.double (0 : UInt64)) = .double (f_v b ((nD x * (3 : Int32)) + (2 : Int32))) := by
  rw [own_at9 (own_rb3_2 x) b]

theorem d0_0 : decode method_3_code 0 = .ok (.iload_n 2, 1) := by decide +kernel
theorem d0_1 : decode method_3_code 1 = .ok (.iconst 2, 1) := by decide +kernel
theorem d0_2 : decode method_3_code 2 = .ok (.if_icmp .ne 23, 3) := by decide +kernel
theorem d0_5 : decode method_3_code 5 = .ok (.iconst 2, 1) := by decide +kernel
theorem d0_6 : decode method_3_code 6 = .ok (.newarray .double, 2) := by decide +kernel
theorem d0_8 : decode method_3_code 8 = .ok (.dup, 1) := by decide +kernel
theorem d0_9 : decode method_3_code 9 = .ok (.iconst 0, 1) := by decide +kernel
theorem d0_10 : decode method_3_code 10 = .ok (.lload_n 0, 1) := by decide +kernel
theorem d0_11 : decode method_3_code 11 = .ok (.iconst 0, 1) := by decide +kernel
theorem d0_12 : decode method_3_code 12 = .ok (.invokestatic 11, 3) := by decide +kernel
theorem d0_15 : decode method_3_code 15 = .ok (.dastore, 1) := by decide +kernel
theorem d0_16 : decode method_3_code 16 = .ok (.dup, 1) := by decide +kernel
theorem d0_17 : decode method_3_code 17 = .ok (.iconst 1, 1) := by decide +kernel
theorem d0_18 : decode method_3_code 18 = .ok (.lload_n 0, 1) := by decide +kernel
theorem d0_19 : decode method_3_code 19 = .ok (.iconst 1, 1) := by decide +kernel
theorem d0_20 : decode method_3_code 20 = .ok (.invokestatic 11, 3) := by decide +kernel
theorem d0_23 : decode method_3_code 23 = .ok (.dastore, 1) := by decide +kernel
theorem d0_24 : decode method_3_code 24 = .ok (.areturn, 1) := by decide +kernel
theorem d0_25 : decode method_3_code 25 = .ok (.iload_n 2, 1) := by decide +kernel
theorem d0_26 : decode method_3_code 26 = .ok (.iconst 3, 1) := by decide +kernel
theorem d0_27 : decode method_3_code 27 = .ok (.if_icmp .ne 31, 3) := by decide +kernel
theorem d0_30 : decode method_3_code 30 = .ok (.iconst 3, 1) := by decide +kernel
theorem d0_31 : decode method_3_code 31 = .ok (.newarray .double, 2) := by decide +kernel
theorem d0_33 : decode method_3_code 33 = .ok (.dup, 1) := by decide +kernel
theorem d0_34 : decode method_3_code 34 = .ok (.iconst 0, 1) := by decide +kernel
theorem d0_35 : decode method_3_code 35 = .ok (.lload_n 0, 1) := by decide +kernel
theorem d0_36 : decode method_3_code 36 = .ok (.iconst 0, 1) := by decide +kernel
theorem d0_37 : decode method_3_code 37 = .ok (.invokestatic 11, 3) := by decide +kernel
theorem d0_40 : decode method_3_code 40 = .ok (.dastore, 1) := by decide +kernel
theorem d0_41 : decode method_3_code 41 = .ok (.dup, 1) := by decide +kernel
theorem d0_42 : decode method_3_code 42 = .ok (.iconst 1, 1) := by decide +kernel
theorem d0_43 : decode method_3_code 43 = .ok (.lload_n 0, 1) := by decide +kernel
theorem d0_44 : decode method_3_code 44 = .ok (.iconst 1, 1) := by decide +kernel
theorem d0_45 : decode method_3_code 45 = .ok (.invokestatic 11, 3) := by decide +kernel
theorem d0_48 : decode method_3_code 48 = .ok (.dastore, 1) := by decide +kernel
theorem d0_49 : decode method_3_code 49 = .ok (.dup, 1) := by decide +kernel
theorem d0_50 : decode method_3_code 50 = .ok (.iconst 2, 1) := by decide +kernel
theorem d0_51 : decode method_3_code 51 = .ok (.lload_n 0, 1) := by decide +kernel
theorem d0_52 : decode method_3_code 52 = .ok (.iconst 2, 1) := by decide +kernel
theorem d0_53 : decode method_3_code 53 = .ok (.invokestatic 11, 3) := by decide +kernel
theorem d0_56 : decode method_3_code 56 = .ok (.dastore, 1) := by decide +kernel
theorem d0_57 : decode method_3_code 57 = .ok (.areturn, 1) := by decide +kernel
theorem d0_58 : decode method_3_code 58 = .ok (.iload_n 2, 1) := by decide +kernel
theorem d0_59 : decode method_3_code 59 = .ok (.iconst 4, 1) := by decide +kernel
theorem d0_60 : decode method_3_code 60 = .ok (.if_icmp .ne 39, 3) := by decide +kernel
theorem d0_63 : decode method_3_code 63 = .ok (.iconst 4, 1) := by decide +kernel
theorem d0_64 : decode method_3_code 64 = .ok (.newarray .double, 2) := by decide +kernel
theorem d0_66 : decode method_3_code 66 = .ok (.dup, 1) := by decide +kernel
theorem d0_67 : decode method_3_code 67 = .ok (.iconst 0, 1) := by decide +kernel
theorem d0_68 : decode method_3_code 68 = .ok (.lload_n 0, 1) := by decide +kernel
theorem d0_69 : decode method_3_code 69 = .ok (.iconst 0, 1) := by decide +kernel
theorem d0_70 : decode method_3_code 70 = .ok (.invokestatic 11, 3) := by decide +kernel
theorem d0_73 : decode method_3_code 73 = .ok (.dastore, 1) := by decide +kernel
theorem d0_74 : decode method_3_code 74 = .ok (.dup, 1) := by decide +kernel
theorem d0_75 : decode method_3_code 75 = .ok (.iconst 1, 1) := by decide +kernel
theorem d0_76 : decode method_3_code 76 = .ok (.lload_n 0, 1) := by decide +kernel
theorem d0_77 : decode method_3_code 77 = .ok (.iconst 1, 1) := by decide +kernel
theorem d0_78 : decode method_3_code 78 = .ok (.invokestatic 11, 3) := by decide +kernel
theorem d0_81 : decode method_3_code 81 = .ok (.dastore, 1) := by decide +kernel
theorem d0_82 : decode method_3_code 82 = .ok (.dup, 1) := by decide +kernel
theorem d0_83 : decode method_3_code 83 = .ok (.iconst 2, 1) := by decide +kernel
theorem d0_84 : decode method_3_code 84 = .ok (.lload_n 0, 1) := by decide +kernel
theorem d0_85 : decode method_3_code 85 = .ok (.iconst 2, 1) := by decide +kernel
theorem d0_86 : decode method_3_code 86 = .ok (.invokestatic 11, 3) := by decide +kernel
theorem d0_89 : decode method_3_code 89 = .ok (.dastore, 1) := by decide +kernel
theorem d0_90 : decode method_3_code 90 = .ok (.dup, 1) := by decide +kernel
theorem d0_91 : decode method_3_code 91 = .ok (.iconst 3, 1) := by decide +kernel
theorem d0_92 : decode method_3_code 92 = .ok (.lload_n 0, 1) := by decide +kernel
theorem d0_93 : decode method_3_code 93 = .ok (.iconst 3, 1) := by decide +kernel
theorem d0_94 : decode method_3_code 94 = .ok (.invokestatic 11, 3) := by decide +kernel
theorem d0_97 : decode method_3_code 97 = .ok (.dastore, 1) := by decide +kernel
theorem d0_98 : decode method_3_code 98 = .ok (.areturn, 1) := by decide +kernel
theorem d0_99 : decode method_3_code 99 = .ok (.iload_n 2, 1) := by decide +kernel
theorem d0_100 : decode method_3_code 100 = .ok (.bipush 6, 2) := by decide +kernel
theorem d0_102 : decode method_3_code 102 = .ok (.if_icmp .ne 56, 3) := by decide +kernel
theorem d0_105 : decode method_3_code 105 = .ok (.bipush 6, 2) := by decide +kernel
theorem d0_107 : decode method_3_code 107 = .ok (.newarray .double, 2) := by decide +kernel
theorem d0_109 : decode method_3_code 109 = .ok (.dup, 1) := by decide +kernel
theorem d0_110 : decode method_3_code 110 = .ok (.iconst 0, 1) := by decide +kernel
theorem d0_111 : decode method_3_code 111 = .ok (.lload_n 0, 1) := by decide +kernel
theorem d0_112 : decode method_3_code 112 = .ok (.iconst 0, 1) := by decide +kernel
theorem d0_113 : decode method_3_code 113 = .ok (.invokestatic 11, 3) := by decide +kernel
theorem d0_116 : decode method_3_code 116 = .ok (.dastore, 1) := by decide +kernel
theorem d0_117 : decode method_3_code 117 = .ok (.dup, 1) := by decide +kernel
theorem d0_118 : decode method_3_code 118 = .ok (.iconst 1, 1) := by decide +kernel
theorem d0_119 : decode method_3_code 119 = .ok (.lload_n 0, 1) := by decide +kernel
theorem d0_120 : decode method_3_code 120 = .ok (.iconst 1, 1) := by decide +kernel
theorem d0_121 : decode method_3_code 121 = .ok (.invokestatic 11, 3) := by decide +kernel
theorem d0_124 : decode method_3_code 124 = .ok (.dastore, 1) := by decide +kernel
theorem d0_125 : decode method_3_code 125 = .ok (.dup, 1) := by decide +kernel
theorem d0_126 : decode method_3_code 126 = .ok (.iconst 2, 1) := by decide +kernel
theorem d0_127 : decode method_3_code 127 = .ok (.lload_n 0, 1) := by decide +kernel
theorem d0_128 : decode method_3_code 128 = .ok (.iconst 2, 1) := by decide +kernel
theorem d0_129 : decode method_3_code 129 = .ok (.invokestatic 11, 3) := by decide +kernel
theorem d0_132 : decode method_3_code 132 = .ok (.dastore, 1) := by decide +kernel
theorem d0_133 : decode method_3_code 133 = .ok (.dup, 1) := by decide +kernel
theorem d0_134 : decode method_3_code 134 = .ok (.iconst 3, 1) := by decide +kernel
theorem d0_135 : decode method_3_code 135 = .ok (.lload_n 0, 1) := by decide +kernel
theorem d0_136 : decode method_3_code 136 = .ok (.iconst 3, 1) := by decide +kernel
theorem d0_137 : decode method_3_code 137 = .ok (.invokestatic 11, 3) := by decide +kernel
theorem d0_140 : decode method_3_code 140 = .ok (.dastore, 1) := by decide +kernel
theorem d0_141 : decode method_3_code 141 = .ok (.dup, 1) := by decide +kernel
theorem d0_142 : decode method_3_code 142 = .ok (.iconst 4, 1) := by decide +kernel
theorem d0_143 : decode method_3_code 143 = .ok (.lload_n 0, 1) := by decide +kernel
theorem d0_144 : decode method_3_code 144 = .ok (.iconst 4, 1) := by decide +kernel
theorem d0_145 : decode method_3_code 145 = .ok (.invokestatic 11, 3) := by decide +kernel
theorem d0_148 : decode method_3_code 148 = .ok (.dastore, 1) := by decide +kernel
theorem d0_149 : decode method_3_code 149 = .ok (.dup, 1) := by decide +kernel
theorem d0_150 : decode method_3_code 150 = .ok (.iconst 5, 1) := by decide +kernel
theorem d0_151 : decode method_3_code 151 = .ok (.lload_n 0, 1) := by decide +kernel
theorem d0_152 : decode method_3_code 152 = .ok (.iconst 5, 1) := by decide +kernel
theorem d0_153 : decode method_3_code 153 = .ok (.invokestatic 11, 3) := by decide +kernel
theorem d0_156 : decode method_3_code 156 = .ok (.dastore, 1) := by decide +kernel
theorem d0_157 : decode method_3_code 157 = .ok (.areturn, 1) := by decide +kernel
theorem d0_158 : decode method_3_code 158 = .ok (.bipush 9, 2) := by decide +kernel
theorem d0_160 : decode method_3_code 160 = .ok (.newarray .double, 2) := by decide +kernel
theorem d0_162 : decode method_3_code 162 = .ok (.dup, 1) := by decide +kernel
theorem d0_163 : decode method_3_code 163 = .ok (.iconst 0, 1) := by decide +kernel
theorem d0_164 : decode method_3_code 164 = .ok (.lload_n 0, 1) := by decide +kernel
theorem d0_165 : decode method_3_code 165 = .ok (.iconst 0, 1) := by decide +kernel
theorem d0_166 : decode method_3_code 166 = .ok (.invokestatic 11, 3) := by decide +kernel
theorem d0_169 : decode method_3_code 169 = .ok (.dastore, 1) := by decide +kernel
theorem d0_170 : decode method_3_code 170 = .ok (.dup, 1) := by decide +kernel
theorem d0_171 : decode method_3_code 171 = .ok (.iconst 1, 1) := by decide +kernel
theorem d0_172 : decode method_3_code 172 = .ok (.lload_n 0, 1) := by decide +kernel
theorem d0_173 : decode method_3_code 173 = .ok (.iconst 1, 1) := by decide +kernel
theorem d0_174 : decode method_3_code 174 = .ok (.invokestatic 11, 3) := by decide +kernel
theorem d0_177 : decode method_3_code 177 = .ok (.dastore, 1) := by decide +kernel
theorem d0_178 : decode method_3_code 178 = .ok (.dup, 1) := by decide +kernel
theorem d0_179 : decode method_3_code 179 = .ok (.iconst 2, 1) := by decide +kernel
theorem d0_180 : decode method_3_code 180 = .ok (.lload_n 0, 1) := by decide +kernel
theorem d0_181 : decode method_3_code 181 = .ok (.iconst 2, 1) := by decide +kernel
theorem d0_182 : decode method_3_code 182 = .ok (.invokestatic 11, 3) := by decide +kernel
theorem d0_185 : decode method_3_code 185 = .ok (.dastore, 1) := by decide +kernel
theorem d0_186 : decode method_3_code 186 = .ok (.dup, 1) := by decide +kernel
theorem d0_187 : decode method_3_code 187 = .ok (.iconst 3, 1) := by decide +kernel
theorem d0_188 : decode method_3_code 188 = .ok (.lload_n 0, 1) := by decide +kernel
theorem d0_189 : decode method_3_code 189 = .ok (.iconst 3, 1) := by decide +kernel
theorem d0_190 : decode method_3_code 190 = .ok (.invokestatic 11, 3) := by decide +kernel
theorem d0_193 : decode method_3_code 193 = .ok (.dastore, 1) := by decide +kernel
theorem d0_194 : decode method_3_code 194 = .ok (.dup, 1) := by decide +kernel
theorem d0_195 : decode method_3_code 195 = .ok (.iconst 4, 1) := by decide +kernel
theorem d0_196 : decode method_3_code 196 = .ok (.lload_n 0, 1) := by decide +kernel
theorem d0_197 : decode method_3_code 197 = .ok (.iconst 4, 1) := by decide +kernel
theorem d0_198 : decode method_3_code 198 = .ok (.invokestatic 11, 3) := by decide +kernel
theorem d0_201 : decode method_3_code 201 = .ok (.dastore, 1) := by decide +kernel
theorem d0_202 : decode method_3_code 202 = .ok (.dup, 1) := by decide +kernel
theorem d0_203 : decode method_3_code 203 = .ok (.iconst 5, 1) := by decide +kernel
theorem d0_204 : decode method_3_code 204 = .ok (.lload_n 0, 1) := by decide +kernel
theorem d0_205 : decode method_3_code 205 = .ok (.iconst 5, 1) := by decide +kernel
theorem d0_206 : decode method_3_code 206 = .ok (.invokestatic 11, 3) := by decide +kernel
theorem d0_209 : decode method_3_code 209 = .ok (.dastore, 1) := by decide +kernel
theorem d0_210 : decode method_3_code 210 = .ok (.dup, 1) := by decide +kernel
theorem d0_211 : decode method_3_code 211 = .ok (.bipush 6, 2) := by decide +kernel
theorem d0_213 : decode method_3_code 213 = .ok (.lload_n 0, 1) := by decide +kernel
theorem d0_214 : decode method_3_code 214 = .ok (.bipush 6, 2) := by decide +kernel
theorem d0_216 : decode method_3_code 216 = .ok (.invokestatic 11, 3) := by decide +kernel
theorem d0_219 : decode method_3_code 219 = .ok (.dastore, 1) := by decide +kernel
theorem d0_220 : decode method_3_code 220 = .ok (.dup, 1) := by decide +kernel
theorem d0_221 : decode method_3_code 221 = .ok (.bipush 7, 2) := by decide +kernel
theorem d0_223 : decode method_3_code 223 = .ok (.lload_n 0, 1) := by decide +kernel
theorem d0_224 : decode method_3_code 224 = .ok (.bipush 7, 2) := by decide +kernel
theorem d0_226 : decode method_3_code 226 = .ok (.invokestatic 11, 3) := by decide +kernel
theorem d0_229 : decode method_3_code 229 = .ok (.dastore, 1) := by decide +kernel
theorem d0_230 : decode method_3_code 230 = .ok (.dup, 1) := by decide +kernel
theorem d0_231 : decode method_3_code 231 = .ok (.bipush 8, 2) := by decide +kernel
theorem d0_233 : decode method_3_code 233 = .ok (.lload_n 0, 1) := by decide +kernel
theorem d0_234 : decode method_3_code 234 = .ok (.bipush 8, 2) := by decide +kernel
theorem d0_236 : decode method_3_code 236 = .ok (.invokestatic 11, 3) := by decide +kernel
theorem d0_239 : decode method_3_code 239 = .ok (.dastore, 1) := by decide +kernel
theorem d0_240 : decode method_3_code 240 = .ok (.areturn, 1) := by decide +kernel
theorem pd3 : parseMethodDescriptor "(JI)[D" = some ⟨[.long, .int], some (.array .double)⟩ := by decide +kernel
theorem pf_dr2 : plainFor (⟨"com/example/borrowed_prior/borrowedprior/model/TopicModelTermProbabilityPinLaw", "draw", "(JI)[D"⟩ : MethodName) = true := by first | exact plainFor_of_name (by first | (simp [plainName, overriddenIn, x]; done) | decide +kernel) | exact Jvm.Free.JP.mathPlain rfl (by decide +kernel) | decide +kernel
theorem ef_dr2 (m : MethodId) (xb : Int64) (xn : Int32) : entryFrame m #[(.long xb), (.int xn)] 3 = mkF m 0 #[.val (.long xb), .second, iv xn] [] := by first | (simp [entryFrame, mkF, argsToLocals, Value.category, maxLocals]; done) | rfl
def Q_dr2 (Z : State) (xb : Int64) (xn : Int32)  (h0 : Heap) (n0 : Nat) (v : Option Value) (h : Heap) (L : List Loc) : Prop := ∃ (ra : Addr) (rk : ClassId), v = some (.ref ra) ∧ Fr n0 L ∧ (Keep h0 h []) ∧ (Arv Z h ra rk .double (2 : Int32) [(.double (f_v xb (0 : Int32))), (.double (f_v xb (1 : Int32)))] (.double (0 : UInt64))) ∧ (h0.size ≤ ra)
set_option maxRecDepth 65536 in
set_option maxHeartbeats 40000000 in
theorem rm_dr2 (l : Launch) (Z : State) (a0 : Array Value) (hw : ∀ d ∈ tables_1, d.before a0 Z = true) (ws : List Jvm.Cond) (xb : Int64) (xn : Int32)  (h0 : Heap) (n0 : Nat) (Z0 : n0 ≤ h0.size) (hn : xn = (2 : Int32))  :
    MetFree l (⟨"com/example/borrowed_prior/borrowedprior/model/TopicModelTermProbabilityPinLaw", "draw", "(JI)[D"⟩ : MethodName) (head1 (Jvm.Cond.code (⟨"com/example/borrowed_prior/borrowedprior/model/TopicModelTermProbabilityPinLaw", "draw", "(JI)[D"⟩ : MethodName) method_3_code 3 (some (.array .double)) :: ws) ({ frames := 1, cells := 1, slots := 2, locals := 20 } : Room)) (fun a U => a = #[(.long xb), (.int xn)] ∧ Z.Warmed39 U.vm ∧ U.heap = h0) (fun _ _ _ _ _ => True) (fun _ U o U' => ∃ v L, o = .returned v ∧ Q_dr2 Z xb xn  h0 n0 v U'.heap L ∧ FrameEnd U o U' L ({ frames := 1, cells := 1, slots := 2, locals := 20 } : Room).cells ({ frames := 1, cells := 1, slots := 2, locals := 20 } : Room).slots) := by
  refine MetFree.of_bodySF pf_dr2 hisR ?_
  intro p e s m args below meth c s₁ Bd hml0 hP hK
  obtain ⟨rfl, hZ, hh⟩ := hP
  have hx := Bd.exec
  have hby := Bd.bytes
  have hml : c.maxLocals = 3 := hml0
  have hown : s.vm.findClass "com/example/borrowed_prior/borrowedprior/model/TopicModelTermProbabilityPinLaw" = some m.cls := findClass_of_methodNamed Bd.named
  have hnm := (name_of_methodNamed Bd.named Bd.method).1
  have X0 : Stand p l e ({ frames := 1, cells := 1, slots := 2, locals := 20 } : Room) s m #[(.long xb), (.int xn)] below meth c s₁ [] 0 0 := Stand.of_body Bd
  have e0 : s₁.heap = h0 := by rw [← hh, Bd.state]; rfl
  have N0 := Fr.nil n0
  obtain ⟨S0, hS0⟩ : ∃ z, z = s₁.setTop (entryFrame m #[(.long xb), (.int xn)] 3) := ⟨_, rfl⟩
  rw [← hS0]
  have g0 : Goes p e below S0 (s₁.setTop (mkF m 0 #[.val (.long xb), .second, iv xn] [])) := fun t k => by rw [hS0]; exact castTop (ef_dr2 m xb xn) k
  have g46 : Goes p e below S0 (s₁.setTop (mkF m 6 #[.val (.long xb), .second, iv xn] [(.int (2 : Int32))])) := fun t k => g0 t (by
    refine XS.iloadN X0.here hx rfl (hb hby d0_0) rfl ?_
    show Go p e below t s₁ m 1 #[.val (.long xb), .second, iv xn] [(.int xn)]
    refine XT.iconstV X0.here hx rfl (2 : Int32) (hb hby d0_1) (by decide) ?_
    show Go p e below t s₁ m 2 #[.val (.long xb), .second, iv xn] [(.int (2 : Int32)), (.int xn)]
    refine XS.icmpNo X0.here hx rfl (hb hby d0_2) rfl (XT.ii_ne_f hn) ?_
    show Go p e below t s₁ m 5 #[.val (.long xb), .second, iv xn] []
    refine XT.iconstV X0.here hx rfl (2 : Int32) (hb hby d0_5) (by decide) ?_
    show Go p e below t s₁ m 6 #[.val (.long xb), .second, iv xn] [(.int (2 : Int32))]
    exact k)
  obtain ⟨T47, h47, k47, X47, e47, E47, A47, st47⟩ := newP X0 hx hZ (hw _ (List.mem_of_getElem? (i := 8) rfl)) e0 (g := (mkF m 6 #[.val (.long xb), .second, iv xn] [(.int (2 : Int32))])) rfl (hb hby d0_6) rfl (by decide) (cap := 2) (by decide) (by decide) (by decide) (by decide)
  obtain ⟨b47, gb47⟩ : ∃ z, z = h0.size := ⟨_, rfl⟩
  have sz47 : h0.size ≤ b47 := Nat.le_trans (Nat.le_refl _) (Nat.le_of_eq gb47.symm)
  have ng47 : n0 ≤ b47 := Nat.le_trans Z0 sz47
  rw [← gb47] at A47 st47
  have V47 : Arv Z h47 b47 k47 .double (2 : Int32) [(.double (0 : UInt64)), (.double (0 : UInt64))] (.double (0 : UInt64)) := (Arv.new A47 (by decide)).pad (pad_rep [] (.double (0 : UInt64)) 2)
  have g48 : Goes p e below S0 (T47.setTop (mkF m 8 #[.val (.long xb), .second, iv xn] [(.ref b47)])) := fun t k => g46 t (st47 t k)
  have g49 : Goes p e below S0 (T47.setTop (mkF m 12 #[.val (.long xb), .second, iv xn] [(.int (0 : Int32)), (.long xb), (.int (0 : Int32)), (.ref b47), (.ref b47)])) := fun t k => g48 t (by
    refine XS.dup X47.here hx rfl (hb hby d0_8) rfl rfl ?_
    show Go p e below t T47 m 9 #[.val (.long xb), .second, iv xn] [(.ref b47), (.ref b47)]
    refine XT.iconstV X47.here hx rfl (0 : Int32) (hb hby d0_9) (by decide) ?_
    show Go p e below t T47 m 10 #[.val (.long xb), .second, iv xn] [(.int (0 : Int32)), (.ref b47), (.ref b47)]
    refine XS.lloadN X47.here hx rfl (hb hby d0_10) rfl ?_
    show Go p e below t T47 m 11 #[.val (.long xb), .second, iv xn] [(.long xb), (.int (0 : Int32)), (.ref b47), (.ref b47)]
    refine XT.iconstV X47.here hx rfl (0 : Int32) (hb hby d0_11) (by decide) ?_
    show Go p e below t T47 m 12 #[.val (.long xb), .second, iv xn] [(.int (0 : Int32)), (.long xb), (.int (0 : Int32)), (.ref b47), (.ref b47)]
    exact k)
  obtain ⟨_, _, ⟨T50, L50, k50, n50⟩, -, X50, ⟨Lc50, hQ50, l50, y50, z50⟩, st50⟩ := Jvm.LawKit.callS X47 hx (y := (⟨"com/example/borrowed_prior/borrowedprior/model/TopicModelTermProbabilityPinLaw", "v", "(JI)D"⟩ : MethodName)) hown (mvT hZ (hw _ (List.mem_of_getElem? (i := 9) rfl))) (mvT hZ (hw _ (List.mem_of_getElem? (i := 10) rfl))) (mvT hZ (hw _ (List.mem_of_getElem? (i := 6) rfl))) (mvT hZ (hw _ (List.mem_of_getElem? (i := 11) rfl))) (by decide) (backOf (W := 3) (rm_v l Z a0 hw [] xb (0 : Int32)  h47 n0 (Nat.le_trans Z0 (Nat.le_trans (Nat.le_refl _) E47.1)) ) hZ (hw _ (List.mem_of_getElem? (i := 11) rfl)) (hw _ (List.mem_of_getElem? (i := 6) rfl)) (by decide) (by decide)) (g := (mkF m 12 #[.val (.long xb), .second, iv xn] [(.int (0 : Int32)), (.long xb), (.int (0 : Int32)), (.ref b47), (.ref b47)])) rfl (by rw [hml]; rfl) (argsL := [(.long xb), (.int (0 : Int32))]) (rest := [(.int (0 : Int32)), (.ref b47), (.ref b47)]) (lenOf pd0 rfl) rfl (by show 2 * 0 + _ ≤ _; exact Nat.le_of_eq rfl) (hb hby d0_12) (fun _ _ => ⟨rfl, e47, (by decide : 1 + 0 ≤ _), (by decide : 2 + 0 ≤ _)⟩)
  dsimp only [Pt.U, Pt.locs, Pt.cells, Pt.slots] at X50 l50 y50 z50 st50 hQ50
  subst l50 y50 z50
  obtain ⟨rfl, N50, e50⟩ := hQ50
  have M50 := Fr.app N0 N50
  have g51 : Goes p e below S0 (T50.setTop (mkF m 15 #[.val (.long xb), .second, iv xn] [(.double (f_v xb (0 : Int32))), (.int (0 : Int32)), (.ref b47), (.ref b47)])) := fun t k => g49 t (st50 t k)
  obtain ⟨cl52, Ar52, q52, S52, M52, H52, G52⟩ := id V47
  obtain ⟨T53, h53, X53, e53, W53, st53⟩ := stD X50 hx hZ e50 Ar52 (j := (0 : Int32)) (inb_of S52 ⟨by decide, by decide⟩) (g := (mkF m 15 #[.val (.long xb), .second, iv xn] [(.double (f_v xb (0 : Int32))), (.int (0 : Int32)), (.ref b47), (.ref b47)])) rfl rfl (hb hby d0_15)
  have N53 := Fr.snoc X53 M50 ng47
  have V53 : Arv Z h53 b47 k47 .double (2 : Int32) [(.double (f_v xb (0 : Int32))), (.double (0 : UInt64))] (.double (0 : UInt64)) := Arv.set Ar52 q52 S52 M52 H52 G52 rfl W53 0 rfl (Nat.le_of_ble_eq_true rfl)
  have g54 : Goes p e below S0 (T53.setTop (mkF m 16 #[.val (.long xb), .second, iv xn] [(.ref b47)])) := fun t k => g51 t (st53 t k)
  have g55 : Goes p e below S0 (T53.setTop (mkF m 20 #[.val (.long xb), .second, iv xn] [(.int (1 : Int32)), (.long xb), (.int (1 : Int32)), (.ref b47), (.ref b47)])) := fun t k => g54 t (by
    refine XS.dup X53.here hx rfl (hb hby d0_16) rfl rfl ?_
    show Go p e below t T53 m 17 #[.val (.long xb), .second, iv xn] [(.ref b47), (.ref b47)]
    refine XT.iconstV X53.here hx rfl (1 : Int32) (hb hby d0_17) (by decide) ?_
    show Go p e below t T53 m 18 #[.val (.long xb), .second, iv xn] [(.int (1 : Int32)), (.ref b47), (.ref b47)]
    refine XS.lloadN X53.here hx rfl (hb hby d0_18) rfl ?_
    show Go p e below t T53 m 19 #[.val (.long xb), .second, iv xn] [(.long xb), (.int (1 : Int32)), (.ref b47), (.ref b47)]
    refine XT.iconstV X53.here hx rfl (1 : Int32) (hb hby d0_19) (by decide) ?_
    show Go p e below t T53 m 20 #[.val (.long xb), .second, iv xn] [(.int (1 : Int32)), (.long xb), (.int (1 : Int32)), (.ref b47), (.ref b47)]
    exact k)
  obtain ⟨_, _, ⟨T56, L56, k56, n56⟩, -, X56, ⟨Lc56, hQ56, l56, y56, z56⟩, st56⟩ := Jvm.LawKit.callS X53 hx (y := (⟨"com/example/borrowed_prior/borrowedprior/model/TopicModelTermProbabilityPinLaw", "v", "(JI)D"⟩ : MethodName)) hown (mvT hZ (hw _ (List.mem_of_getElem? (i := 9) rfl))) (mvT hZ (hw _ (List.mem_of_getElem? (i := 10) rfl))) (mvT hZ (hw _ (List.mem_of_getElem? (i := 6) rfl))) (mvT hZ (hw _ (List.mem_of_getElem? (i := 11) rfl))) (by decide) (backOf (W := 3) (rm_v l Z a0 hw [] xb (1 : Int32)  h53 n0 (Nat.le_trans Z0 (Nat.le_trans (Nat.le_trans (Nat.le_refl _) E47.1) (Nat.le_of_eq W53.size.symm))) ) hZ (hw _ (List.mem_of_getElem? (i := 11) rfl)) (hw _ (List.mem_of_getElem? (i := 6) rfl)) (by decide) (by decide)) (g := (mkF m 20 #[.val (.long xb), .second, iv xn] [(.int (1 : Int32)), (.long xb), (.int (1 : Int32)), (.ref b47), (.ref b47)])) rfl (by rw [hml]; rfl) (argsL := [(.long xb), (.int (1 : Int32))]) (rest := [(.int (1 : Int32)), (.ref b47), (.ref b47)]) (lenOf pd0 rfl) rfl (by show 2 * 0 + _ ≤ _; exact Nat.le_of_eq rfl) (hb hby d0_20) (fun _ _ => ⟨rfl, e53, (by decide : 1 + 0 ≤ _), (by decide : 2 + 0 ≤ _)⟩)
  dsimp only [Pt.U, Pt.locs, Pt.cells, Pt.slots] at X56 l56 y56 z56 st56 hQ56
  subst l56 y56 z56
  obtain ⟨rfl, N56, e56⟩ := hQ56
  have M56 := Fr.app N53 N56
  have g57 : Goes p e below S0 (T56.setTop (mkF m 23 #[.val (.long xb), .second, iv xn] [(.double (f_v xb (1 : Int32))), (.int (1 : Int32)), (.ref b47), (.ref b47)])) := fun t k => g55 t (st56 t k)
  obtain ⟨cl58, Ar58, q58, S58, M58, H58, G58⟩ := id V53
  obtain ⟨T59, h59, X59, e59, W59, st59⟩ := stD X56 hx hZ e56 Ar58 (j := (1 : Int32)) (inb_of S58 ⟨by decide, by decide⟩) (g := (mkF m 23 #[.val (.long xb), .second, iv xn] [(.double (f_v xb (1 : Int32))), (.int (1 : Int32)), (.ref b47), (.ref b47)])) rfl rfl (hb hby d0_23)
  have N59 := Fr.snoc X59 M56 ng47
  have V59 : Arv Z h59 b47 k47 .double (2 : Int32) [(.double (f_v xb (0 : Int32))), (.double (f_v xb (1 : Int32)))] (.double (0 : UInt64)) := Arv.set Ar58 q58 S58 M58 H58 G58 rfl W59 1 rfl (Nat.le_of_ble_eq_true rfl)
  have g60 : Goes p e below S0 (T59.setTop (mkF m 24 #[.val (.long xb), .second, iv xn] [(.ref b47)])) := fun t k => g57 t (st59 t k)
  obtain ⟨fs, hr, hrun, hended, hW, hsame⟩ := X59.leave (v := some (.ref b47)) (fun h => by rw [Bd.returns] at h; cases h)
  refine ⟨_, _, g60 _ (retOut X59 hx Bd.returns rfl (Or.inr (Or.inr (Or.inr (Or.inr ⟨rfl, rfl, rfl⟩)))) (hb hby d0_24) hr), hrun, hended, _, _, rfl, ?_, ⟨_, rfl⟩, hW, hsame.mono (by decide) (by decide)⟩
  show Q_dr2 Z xb xn  h0 n0 _ T59.heap _
  rw [e59]
  exact ⟨b47, k47, rfl, N59, ((((Keep.refl h0 []).ext E47).wr W53 (Or.inr sz47)).wr W59 (Or.inr sz47)), V59, sz47⟩
theorem pf_dr3 : plainFor (⟨"com/example/borrowed_prior/borrowedprior/model/TopicModelTermProbabilityPinLaw", "draw", "(JI)[D"⟩ : MethodName) = true := by first | exact plainFor_of_name (by first | (simp [plainName, overriddenIn, x]; done) | decide +kernel) | exact Jvm.Free.JP.mathPlain rfl (by decide +kernel) | decide +kernel
theorem ef_dr3 (m : MethodId) (xb : Int64) (xn : Int32) : entryFrame m #[(.long xb), (.int xn)] 3 = mkF m 0 #[.val (.long xb), .second, iv xn] [] := by first | (simp [entryFrame, mkF, argsToLocals, Value.category, maxLocals]; done) | rfl
def Q_dr3 (Z : State) (xb : Int64) (xn : Int32)  (h0 : Heap) (n0 : Nat) (v : Option Value) (h : Heap) (L : List Loc) : Prop := ∃ (ra : Addr) (rk : ClassId), v = some (.ref ra) ∧ Fr n0 L ∧ (Keep h0 h []) ∧ (Arv Z h ra rk .double (3 : Int32) [(.double (f_v xb (0 : Int32))), (.double (f_v xb (1 : Int32))), (.double (f_v xb (2 : Int32)))] (.double (0 : UInt64))) ∧ (h0.size ≤ ra)
set_option maxRecDepth 65536 in
set_option maxHeartbeats 40000000 in
theorem rm_dr3 (l : Launch) (Z : State) (a0 : Array Value) (hw : ∀ d ∈ tables_1, d.before a0 Z = true) (ws : List Jvm.Cond) (xb : Int64) (xn : Int32)  (h0 : Heap) (n0 : Nat) (Z0 : n0 ≤ h0.size) (hn : xn = (3 : Int32))  :
    MetFree l (⟨"com/example/borrowed_prior/borrowedprior/model/TopicModelTermProbabilityPinLaw", "draw", "(JI)[D"⟩ : MethodName) (head1 (Jvm.Cond.code (⟨"com/example/borrowed_prior/borrowedprior/model/TopicModelTermProbabilityPinLaw", "draw", "(JI)[D"⟩ : MethodName) method_3_code 3 (some (.array .double)) :: ws) ({ frames := 1, cells := 1, slots := 3, locals := 20 } : Room)) (fun a U => a = #[(.long xb), (.int xn)] ∧ Z.Warmed39 U.vm ∧ U.heap = h0) (fun _ _ _ _ _ => True) (fun _ U o U' => ∃ v L, o = .returned v ∧ Q_dr3 Z xb xn  h0 n0 v U'.heap L ∧ FrameEnd U o U' L ({ frames := 1, cells := 1, slots := 3, locals := 20 } : Room).cells ({ frames := 1, cells := 1, slots := 3, locals := 20 } : Room).slots) := by
  refine MetFree.of_bodySF pf_dr3 hisR ?_
  intro p e s m args below meth c s₁ Bd hml0 hP hK
  obtain ⟨rfl, hZ, hh⟩ := hP
  have hx := Bd.exec
  have hby := Bd.bytes
  have hml : c.maxLocals = 3 := hml0
  have hown : s.vm.findClass "com/example/borrowed_prior/borrowedprior/model/TopicModelTermProbabilityPinLaw" = some m.cls := findClass_of_methodNamed Bd.named
  have hnm := (name_of_methodNamed Bd.named Bd.method).1
  have X0 : Stand p l e ({ frames := 1, cells := 1, slots := 3, locals := 20 } : Room) s m #[(.long xb), (.int xn)] below meth c s₁ [] 0 0 := Stand.of_body Bd
  have e0 : s₁.heap = h0 := by rw [← hh, Bd.state]; rfl
  have N0 := Fr.nil n0
  obtain ⟨S0, hS0⟩ : ∃ z, z = s₁.setTop (entryFrame m #[(.long xb), (.int xn)] 3) := ⟨_, rfl⟩
  rw [← hS0]
  have g0 : Goes p e below S0 (s₁.setTop (mkF m 0 #[.val (.long xb), .second, iv xn] [])) := fun t k => by rw [hS0]; exact castTop (ef_dr3 m xb xn) k
  have g61 : Goes p e below S0 (s₁.setTop (mkF m 31 #[.val (.long xb), .second, iv xn] [(.int (3 : Int32))])) := fun t k => g0 t (by
    refine XS.iloadN X0.here hx rfl (hb hby d0_0) rfl ?_
    show Go p e below t s₁ m 1 #[.val (.long xb), .second, iv xn] [(.int xn)]
    refine XT.iconstV X0.here hx rfl (2 : Int32) (hb hby d0_1) (by decide) ?_
    show Go p e below t s₁ m 2 #[.val (.long xb), .second, iv xn] [(.int (2 : Int32)), (.int xn)]
    refine XS.icmpYes X0.here hx rfl (pc0 := 2) (pc' := 25) rfl (hb hby d0_2) rfl (XT.ii_ne_t (by rw [hn]; decide)) (by decide) (by decide) ?_
    show Go p e below t s₁ m 25 #[.val (.long xb), .second, iv xn] []
    refine XS.iloadN X0.here hx rfl (hb hby d0_25) rfl ?_
    show Go p e below t s₁ m 26 #[.val (.long xb), .second, iv xn] [(.int xn)]
    refine XT.iconstV X0.here hx rfl (3 : Int32) (hb hby d0_26) (by decide) ?_
    show Go p e below t s₁ m 27 #[.val (.long xb), .second, iv xn] [(.int (3 : Int32)), (.int xn)]
    refine XS.icmpNo X0.here hx rfl (hb hby d0_27) rfl (XT.ii_ne_f hn) ?_
    show Go p e below t s₁ m 30 #[.val (.long xb), .second, iv xn] []
    refine XT.iconstV X0.here hx rfl (3 : Int32) (hb hby d0_30) (by decide) ?_
    show Go p e below t s₁ m 31 #[.val (.long xb), .second, iv xn] [(.int (3 : Int32))]
    exact k)
  obtain ⟨T62, h62, k62, X62, e62, E62, A62, st62⟩ := newP X0 hx hZ (hw _ (List.mem_of_getElem? (i := 8) rfl)) e0 (g := (mkF m 31 #[.val (.long xb), .second, iv xn] [(.int (3 : Int32))])) rfl (hb hby d0_31) rfl (by decide) (cap := 3) (by decide) (by decide) (by decide) (by decide)
  obtain ⟨b62, gb62⟩ : ∃ z, z = h0.size := ⟨_, rfl⟩
  have sz62 : h0.size ≤ b62 := Nat.le_trans (Nat.le_refl _) (Nat.le_of_eq gb62.symm)
  have ng62 : n0 ≤ b62 := Nat.le_trans Z0 sz62
  rw [← gb62] at A62 st62
  have V62 : Arv Z h62 b62 k62 .double (3 : Int32) [(.double (0 : UInt64)), (.double (0 : UInt64)), (.double (0 : UInt64))] (.double (0 : UInt64)) := (Arv.new A62 (by decide)).pad (pad_rep [] (.double (0 : UInt64)) 3)
  have g63 : Goes p e below S0 (T62.setTop (mkF m 33 #[.val (.long xb), .second, iv xn] [(.ref b62)])) := fun t k => g61 t (st62 t k)
  have g64 : Goes p e below S0 (T62.setTop (mkF m 37 #[.val (.long xb), .second, iv xn] [(.int (0 : Int32)), (.long xb), (.int (0 : Int32)), (.ref b62), (.ref b62)])) := fun t k => g63 t (by
    refine XS.dup X62.here hx rfl (hb hby d0_33) rfl rfl ?_
    show Go p e below t T62 m 34 #[.val (.long xb), .second, iv xn] [(.ref b62), (.ref b62)]
    refine XT.iconstV X62.here hx rfl (0 : Int32) (hb hby d0_34) (by decide) ?_
    show Go p e below t T62 m 35 #[.val (.long xb), .second, iv xn] [(.int (0 : Int32)), (.ref b62), (.ref b62)]
    refine XS.lloadN X62.here hx rfl (hb hby d0_35) rfl ?_
    show Go p e below t T62 m 36 #[.val (.long xb), .second, iv xn] [(.long xb), (.int (0 : Int32)), (.ref b62), (.ref b62)]
    refine XT.iconstV X62.here hx rfl (0 : Int32) (hb hby d0_36) (by decide) ?_
    show Go p e below t T62 m 37 #[.val (.long xb), .second, iv xn] [(.int (0 : Int32)), (.long xb), (.int (0 : Int32)), (.ref b62), (.ref b62)]
    exact k)
  obtain ⟨_, _, ⟨T65, L65, k65, n65⟩, -, X65, ⟨Lc65, hQ65, l65, y65, z65⟩, st65⟩ := Jvm.LawKit.callS X62 hx (y := (⟨"com/example/borrowed_prior/borrowedprior/model/TopicModelTermProbabilityPinLaw", "v", "(JI)D"⟩ : MethodName)) hown (mvT hZ (hw _ (List.mem_of_getElem? (i := 9) rfl))) (mvT hZ (hw _ (List.mem_of_getElem? (i := 10) rfl))) (mvT hZ (hw _ (List.mem_of_getElem? (i := 6) rfl))) (mvT hZ (hw _ (List.mem_of_getElem? (i := 11) rfl))) (by decide) (backOf (W := 3) (rm_v l Z a0 hw [] xb (0 : Int32)  h62 n0 (Nat.le_trans Z0 (Nat.le_trans (Nat.le_refl _) E62.1)) ) hZ (hw _ (List.mem_of_getElem? (i := 11) rfl)) (hw _ (List.mem_of_getElem? (i := 6) rfl)) (by decide) (by decide)) (g := (mkF m 37 #[.val (.long xb), .second, iv xn] [(.int (0 : Int32)), (.long xb), (.int (0 : Int32)), (.ref b62), (.ref b62)])) rfl (by rw [hml]; rfl) (argsL := [(.long xb), (.int (0 : Int32))]) (rest := [(.int (0 : Int32)), (.ref b62), (.ref b62)]) (lenOf pd0 rfl) rfl (by show 2 * 0 + _ ≤ _; exact Nat.le_of_eq rfl) (hb hby d0_37) (fun _ _ => ⟨rfl, e62, (by decide : 1 + 0 ≤ _), (by decide : 3 + 0 ≤ _)⟩)
  dsimp only [Pt.U, Pt.locs, Pt.cells, Pt.slots] at X65 l65 y65 z65 st65 hQ65
  subst l65 y65 z65
  obtain ⟨rfl, N65, e65⟩ := hQ65
  have M65 := Fr.app N0 N65
  have g66 : Goes p e below S0 (T65.setTop (mkF m 40 #[.val (.long xb), .second, iv xn] [(.double (f_v xb (0 : Int32))), (.int (0 : Int32)), (.ref b62), (.ref b62)])) := fun t k => g64 t (st65 t k)
  obtain ⟨cl67, Ar67, q67, S67, M67, H67, G67⟩ := id V62
  obtain ⟨T68, h68, X68, e68, W68, st68⟩ := stD X65 hx hZ e65 Ar67 (j := (0 : Int32)) (inb_of S67 ⟨by decide, by decide⟩) (g := (mkF m 40 #[.val (.long xb), .second, iv xn] [(.double (f_v xb (0 : Int32))), (.int (0 : Int32)), (.ref b62), (.ref b62)])) rfl rfl (hb hby d0_40)
  have N68 := Fr.snoc X68 M65 ng62
  have V68 : Arv Z h68 b62 k62 .double (3 : Int32) [(.double (f_v xb (0 : Int32))), (.double (0 : UInt64)), (.double (0 : UInt64))] (.double (0 : UInt64)) := Arv.set Ar67 q67 S67 M67 H67 G67 rfl W68 0 rfl (Nat.le_of_ble_eq_true rfl)
  have g69 : Goes p e below S0 (T68.setTop (mkF m 41 #[.val (.long xb), .second, iv xn] [(.ref b62)])) := fun t k => g66 t (st68 t k)
  have g70 : Goes p e below S0 (T68.setTop (mkF m 45 #[.val (.long xb), .second, iv xn] [(.int (1 : Int32)), (.long xb), (.int (1 : Int32)), (.ref b62), (.ref b62)])) := fun t k => g69 t (by
    refine XS.dup X68.here hx rfl (hb hby d0_41) rfl rfl ?_
    show Go p e below t T68 m 42 #[.val (.long xb), .second, iv xn] [(.ref b62), (.ref b62)]
    refine XT.iconstV X68.here hx rfl (1 : Int32) (hb hby d0_42) (by decide) ?_
    show Go p e below t T68 m 43 #[.val (.long xb), .second, iv xn] [(.int (1 : Int32)), (.ref b62), (.ref b62)]
    refine XS.lloadN X68.here hx rfl (hb hby d0_43) rfl ?_
    show Go p e below t T68 m 44 #[.val (.long xb), .second, iv xn] [(.long xb), (.int (1 : Int32)), (.ref b62), (.ref b62)]
    refine XT.iconstV X68.here hx rfl (1 : Int32) (hb hby d0_44) (by decide) ?_
    show Go p e below t T68 m 45 #[.val (.long xb), .second, iv xn] [(.int (1 : Int32)), (.long xb), (.int (1 : Int32)), (.ref b62), (.ref b62)]
    exact k)
  obtain ⟨_, _, ⟨T71, L71, k71, n71⟩, -, X71, ⟨Lc71, hQ71, l71, y71, z71⟩, st71⟩ := Jvm.LawKit.callS X68 hx (y := (⟨"com/example/borrowed_prior/borrowedprior/model/TopicModelTermProbabilityPinLaw", "v", "(JI)D"⟩ : MethodName)) hown (mvT hZ (hw _ (List.mem_of_getElem? (i := 9) rfl))) (mvT hZ (hw _ (List.mem_of_getElem? (i := 10) rfl))) (mvT hZ (hw _ (List.mem_of_getElem? (i := 6) rfl))) (mvT hZ (hw _ (List.mem_of_getElem? (i := 11) rfl))) (by decide) (backOf (W := 3) (rm_v l Z a0 hw [] xb (1 : Int32)  h68 n0 (Nat.le_trans Z0 (Nat.le_trans (Nat.le_trans (Nat.le_refl _) E62.1) (Nat.le_of_eq W68.size.symm))) ) hZ (hw _ (List.mem_of_getElem? (i := 11) rfl)) (hw _ (List.mem_of_getElem? (i := 6) rfl)) (by decide) (by decide)) (g := (mkF m 45 #[.val (.long xb), .second, iv xn] [(.int (1 : Int32)), (.long xb), (.int (1 : Int32)), (.ref b62), (.ref b62)])) rfl (by rw [hml]; rfl) (argsL := [(.long xb), (.int (1 : Int32))]) (rest := [(.int (1 : Int32)), (.ref b62), (.ref b62)]) (lenOf pd0 rfl) rfl (by show 2 * 0 + _ ≤ _; exact Nat.le_of_eq rfl) (hb hby d0_45) (fun _ _ => ⟨rfl, e68, (by decide : 1 + 0 ≤ _), (by decide : 3 + 0 ≤ _)⟩)
  dsimp only [Pt.U, Pt.locs, Pt.cells, Pt.slots] at X71 l71 y71 z71 st71 hQ71
  subst l71 y71 z71
  obtain ⟨rfl, N71, e71⟩ := hQ71
  have M71 := Fr.app N68 N71
  have g72 : Goes p e below S0 (T71.setTop (mkF m 48 #[.val (.long xb), .second, iv xn] [(.double (f_v xb (1 : Int32))), (.int (1 : Int32)), (.ref b62), (.ref b62)])) := fun t k => g70 t (st71 t k)
  obtain ⟨cl73, Ar73, q73, S73, M73, H73, G73⟩ := id V68
  obtain ⟨T74, h74, X74, e74, W74, st74⟩ := stD X71 hx hZ e71 Ar73 (j := (1 : Int32)) (inb_of S73 ⟨by decide, by decide⟩) (g := (mkF m 48 #[.val (.long xb), .second, iv xn] [(.double (f_v xb (1 : Int32))), (.int (1 : Int32)), (.ref b62), (.ref b62)])) rfl rfl (hb hby d0_48)
  have N74 := Fr.snoc X74 M71 ng62
  have V74 : Arv Z h74 b62 k62 .double (3 : Int32) [(.double (f_v xb (0 : Int32))), (.double (f_v xb (1 : Int32))), (.double (0 : UInt64))] (.double (0 : UInt64)) := Arv.set Ar73 q73 S73 M73 H73 G73 rfl W74 1 rfl (Nat.le_of_ble_eq_true rfl)
  have g75 : Goes p e below S0 (T74.setTop (mkF m 49 #[.val (.long xb), .second, iv xn] [(.ref b62)])) := fun t k => g72 t (st74 t k)
  have g76 : Goes p e below S0 (T74.setTop (mkF m 53 #[.val (.long xb), .second, iv xn] [(.int (2 : Int32)), (.long xb), (.int (2 : Int32)), (.ref b62), (.ref b62)])) := fun t k => g75 t (by
    refine XS.dup X74.here hx rfl (hb hby d0_49) rfl rfl ?_
    show Go p e below t T74 m 50 #[.val (.long xb), .second, iv xn] [(.ref b62), (.ref b62)]
    refine XT.iconstV X74.here hx rfl (2 : Int32) (hb hby d0_50) (by decide) ?_
    show Go p e below t T74 m 51 #[.val (.long xb), .second, iv xn] [(.int (2 : Int32)), (.ref b62), (.ref b62)]
    refine XS.lloadN X74.here hx rfl (hb hby d0_51) rfl ?_
    show Go p e below t T74 m 52 #[.val (.long xb), .second, iv xn] [(.long xb), (.int (2 : Int32)), (.ref b62), (.ref b62)]
    refine XT.iconstV X74.here hx rfl (2 : Int32) (hb hby d0_52) (by decide) ?_
    show Go p e below t T74 m 53 #[.val (.long xb), .second, iv xn] [(.int (2 : Int32)), (.long xb), (.int (2 : Int32)), (.ref b62), (.ref b62)]
    exact k)
  obtain ⟨_, _, ⟨T77, L77, k77, n77⟩, -, X77, ⟨Lc77, hQ77, l77, y77, z77⟩, st77⟩ := Jvm.LawKit.callS X74 hx (y := (⟨"com/example/borrowed_prior/borrowedprior/model/TopicModelTermProbabilityPinLaw", "v", "(JI)D"⟩ : MethodName)) hown (mvT hZ (hw _ (List.mem_of_getElem? (i := 9) rfl))) (mvT hZ (hw _ (List.mem_of_getElem? (i := 10) rfl))) (mvT hZ (hw _ (List.mem_of_getElem? (i := 6) rfl))) (mvT hZ (hw _ (List.mem_of_getElem? (i := 11) rfl))) (by decide) (backOf (W := 3) (rm_v l Z a0 hw [] xb (2 : Int32)  h74 n0 (Nat.le_trans Z0 (Nat.le_trans (Nat.le_trans (Nat.le_trans (Nat.le_refl _) E62.1) (Nat.le_of_eq W68.size.symm)) (Nat.le_of_eq W74.size.symm))) ) hZ (hw _ (List.mem_of_getElem? (i := 11) rfl)) (hw _ (List.mem_of_getElem? (i := 6) rfl)) (by decide) (by decide)) (g := (mkF m 53 #[.val (.long xb), .second, iv xn] [(.int (2 : Int32)), (.long xb), (.int (2 : Int32)), (.ref b62), (.ref b62)])) rfl (by rw [hml]; rfl) (argsL := [(.long xb), (.int (2 : Int32))]) (rest := [(.int (2 : Int32)), (.ref b62), (.ref b62)]) (lenOf pd0 rfl) rfl (by show 2 * 0 + _ ≤ _; exact Nat.le_of_eq rfl) (hb hby d0_53) (fun _ _ => ⟨rfl, e74, (by decide : 1 + 0 ≤ _), (by decide : 3 + 0 ≤ _)⟩)
  dsimp only [Pt.U, Pt.locs, Pt.cells, Pt.slots] at X77 l77 y77 z77 st77 hQ77
  subst l77 y77 z77
  obtain ⟨rfl, N77, e77⟩ := hQ77
  have M77 := Fr.app N74 N77
  have g78 : Goes p e below S0 (T77.setTop (mkF m 56 #[.val (.long xb), .second, iv xn] [(.double (f_v xb (2 : Int32))), (.int (2 : Int32)), (.ref b62), (.ref b62)])) := fun t k => g76 t (st77 t k)
  obtain ⟨cl79, Ar79, q79, S79, M79, H79, G79⟩ := id V74
  obtain ⟨T80, h80, X80, e80, W80, st80⟩ := stD X77 hx hZ e77 Ar79 (j := (2 : Int32)) (inb_of S79 ⟨by decide, by decide⟩) (g := (mkF m 56 #[.val (.long xb), .second, iv xn] [(.double (f_v xb (2 : Int32))), (.int (2 : Int32)), (.ref b62), (.ref b62)])) rfl rfl (hb hby d0_56)
  have N80 := Fr.snoc X80 M77 ng62
  have V80 : Arv Z h80 b62 k62 .double (3 : Int32) [(.double (f_v xb (0 : Int32))), (.double (f_v xb (1 : Int32))), (.double (f_v xb (2 : Int32)))] (.double (0 : UInt64)) := Arv.set Ar79 q79 S79 M79 H79 G79 rfl W80 2 rfl (Nat.le_of_ble_eq_true rfl)
  have g81 : Goes p e below S0 (T80.setTop (mkF m 57 #[.val (.long xb), .second, iv xn] [(.ref b62)])) := fun t k => g78 t (st80 t k)
  obtain ⟨fs, hr, hrun, hended, hW, hsame⟩ := X80.leave (v := some (.ref b62)) (fun h => by rw [Bd.returns] at h; cases h)
  refine ⟨_, _, g81 _ (retOut X80 hx Bd.returns rfl (Or.inr (Or.inr (Or.inr (Or.inr ⟨rfl, rfl, rfl⟩)))) (hb hby d0_57) hr), hrun, hended, _, _, rfl, ?_, ⟨_, rfl⟩, hW, hsame.mono (by decide) (by decide)⟩
  show Q_dr3 Z xb xn  h0 n0 _ T80.heap _
  rw [e80]
  exact ⟨b62, k62, rfl, N80, (((((Keep.refl h0 []).ext E62).wr W68 (Or.inr sz62)).wr W74 (Or.inr sz62)).wr W80 (Or.inr sz62)), V80, sz62⟩
theorem pf_dr4 : plainFor (⟨"com/example/borrowed_prior/borrowedprior/model/TopicModelTermProbabilityPinLaw", "draw", "(JI)[D"⟩ : MethodName) = true := by first | exact plainFor_of_name (by first | (simp [plainName, overriddenIn, x]; done) | decide +kernel) | exact Jvm.Free.JP.mathPlain rfl (by decide +kernel) | decide +kernel
theorem ef_dr4 (m : MethodId) (xb : Int64) (xn : Int32) : entryFrame m #[(.long xb), (.int xn)] 3 = mkF m 0 #[.val (.long xb), .second, iv xn] [] := by first | (simp [entryFrame, mkF, argsToLocals, Value.category, maxLocals]; done) | rfl
def Q_dr4 (Z : State) (xb : Int64) (xn : Int32)  (h0 : Heap) (n0 : Nat) (v : Option Value) (h : Heap) (L : List Loc) : Prop := ∃ (ra : Addr) (rk : ClassId), v = some (.ref ra) ∧ Fr n0 L ∧ (Keep h0 h []) ∧ (Arv Z h ra rk .double (4 : Int32) [(.double (f_v xb (0 : Int32))), (.double (f_v xb (1 : Int32))), (.double (f_v xb (2 : Int32))), (.double (f_v xb (3 : Int32)))] (.double (0 : UInt64))) ∧ (h0.size ≤ ra)
set_option maxRecDepth 65536 in
set_option maxHeartbeats 40000000 in
theorem rm_dr4 (l : Launch) (Z : State) (a0 : Array Value) (hw : ∀ d ∈ tables_1, d.before a0 Z = true) (ws : List Jvm.Cond) (xb : Int64) (xn : Int32)  (h0 : Heap) (n0 : Nat) (Z0 : n0 ≤ h0.size) (hn : xn = (4 : Int32))  :
    MetFree l (⟨"com/example/borrowed_prior/borrowedprior/model/TopicModelTermProbabilityPinLaw", "draw", "(JI)[D"⟩ : MethodName) (head1 (Jvm.Cond.code (⟨"com/example/borrowed_prior/borrowedprior/model/TopicModelTermProbabilityPinLaw", "draw", "(JI)[D"⟩ : MethodName) method_3_code 3 (some (.array .double)) :: ws) ({ frames := 1, cells := 1, slots := 4, locals := 20 } : Room)) (fun a U => a = #[(.long xb), (.int xn)] ∧ Z.Warmed39 U.vm ∧ U.heap = h0) (fun _ _ _ _ _ => True) (fun _ U o U' => ∃ v L, o = .returned v ∧ Q_dr4 Z xb xn  h0 n0 v U'.heap L ∧ FrameEnd U o U' L ({ frames := 1, cells := 1, slots := 4, locals := 20 } : Room).cells ({ frames := 1, cells := 1, slots := 4, locals := 20 } : Room).slots) := by
  refine MetFree.of_bodySF pf_dr4 hisR ?_
  intro p e s m args below meth c s₁ Bd hml0 hP hK
  obtain ⟨rfl, hZ, hh⟩ := hP
  have hx := Bd.exec
  have hby := Bd.bytes
  have hml : c.maxLocals = 3 := hml0
  have hown : s.vm.findClass "com/example/borrowed_prior/borrowedprior/model/TopicModelTermProbabilityPinLaw" = some m.cls := findClass_of_methodNamed Bd.named
  have hnm := (name_of_methodNamed Bd.named Bd.method).1
  have X0 : Stand p l e ({ frames := 1, cells := 1, slots := 4, locals := 20 } : Room) s m #[(.long xb), (.int xn)] below meth c s₁ [] 0 0 := Stand.of_body Bd
  have e0 : s₁.heap = h0 := by rw [← hh, Bd.state]; rfl
  have N0 := Fr.nil n0
  obtain ⟨S0, hS0⟩ : ∃ z, z = s₁.setTop (entryFrame m #[(.long xb), (.int xn)] 3) := ⟨_, rfl⟩
  rw [← hS0]
  have g0 : Goes p e below S0 (s₁.setTop (mkF m 0 #[.val (.long xb), .second, iv xn] [])) := fun t k => by rw [hS0]; exact castTop (ef_dr4 m xb xn) k
  have g82 : Goes p e below S0 (s₁.setTop (mkF m 64 #[.val (.long xb), .second, iv xn] [(.int (4 : Int32))])) := fun t k => g0 t (by
    refine XS.iloadN X0.here hx rfl (hb hby d0_0) rfl ?_
    show Go p e below t s₁ m 1 #[.val (.long xb), .second, iv xn] [(.int xn)]
    refine XT.iconstV X0.here hx rfl (2 : Int32) (hb hby d0_1) (by decide) ?_
    show Go p e below t s₁ m 2 #[.val (.long xb), .second, iv xn] [(.int (2 : Int32)), (.int xn)]
    refine XS.icmpYes X0.here hx rfl (pc0 := 2) (pc' := 25) rfl (hb hby d0_2) rfl (XT.ii_ne_t (by rw [hn]; decide)) (by decide) (by decide) ?_
    show Go p e below t s₁ m 25 #[.val (.long xb), .second, iv xn] []
    refine XS.iloadN X0.here hx rfl (hb hby d0_25) rfl ?_
    show Go p e below t s₁ m 26 #[.val (.long xb), .second, iv xn] [(.int xn)]
    refine XT.iconstV X0.here hx rfl (3 : Int32) (hb hby d0_26) (by decide) ?_
    show Go p e below t s₁ m 27 #[.val (.long xb), .second, iv xn] [(.int (3 : Int32)), (.int xn)]
    refine XS.icmpYes X0.here hx rfl (pc0 := 27) (pc' := 58) rfl (hb hby d0_27) rfl (XT.ii_ne_t (by rw [hn]; decide)) (by decide) (by decide) ?_
    show Go p e below t s₁ m 58 #[.val (.long xb), .second, iv xn] []
    refine XS.iloadN X0.here hx rfl (hb hby d0_58) rfl ?_
    show Go p e below t s₁ m 59 #[.val (.long xb), .second, iv xn] [(.int xn)]
    refine XT.iconstV X0.here hx rfl (4 : Int32) (hb hby d0_59) (by decide) ?_
    show Go p e below t s₁ m 60 #[.val (.long xb), .second, iv xn] [(.int (4 : Int32)), (.int xn)]
    refine XS.icmpNo X0.here hx rfl (hb hby d0_60) rfl (XT.ii_ne_f hn) ?_
    show Go p e below t s₁ m 63 #[.val (.long xb), .second, iv xn] []
    refine XT.iconstV X0.here hx rfl (4 : Int32) (hb hby d0_63) (by decide) ?_
    show Go p e below t s₁ m 64 #[.val (.long xb), .second, iv xn] [(.int (4 : Int32))]
    exact k)
  obtain ⟨T83, h83, k83, X83, e83, E83, A83, st83⟩ := newP X0 hx hZ (hw _ (List.mem_of_getElem? (i := 8) rfl)) e0 (g := (mkF m 64 #[.val (.long xb), .second, iv xn] [(.int (4 : Int32))])) rfl (hb hby d0_64) rfl (by decide) (cap := 4) (by decide) (by decide) (by decide) (by decide)
  obtain ⟨b83, gb83⟩ : ∃ z, z = h0.size := ⟨_, rfl⟩
  have sz83 : h0.size ≤ b83 := Nat.le_trans (Nat.le_refl _) (Nat.le_of_eq gb83.symm)
  have ng83 : n0 ≤ b83 := Nat.le_trans Z0 sz83
  rw [← gb83] at A83 st83
  have V83 : Arv Z h83 b83 k83 .double (4 : Int32) [(.double (0 : UInt64)), (.double (0 : UInt64)), (.double (0 : UInt64)), (.double (0 : UInt64))] (.double (0 : UInt64)) := (Arv.new A83 (by decide)).pad (pad_rep [] (.double (0 : UInt64)) 4)
  have g84 : Goes p e below S0 (T83.setTop (mkF m 66 #[.val (.long xb), .second, iv xn] [(.ref b83)])) := fun t k => g82 t (st83 t k)
  have g85 : Goes p e below S0 (T83.setTop (mkF m 70 #[.val (.long xb), .second, iv xn] [(.int (0 : Int32)), (.long xb), (.int (0 : Int32)), (.ref b83), (.ref b83)])) := fun t k => g84 t (by
    refine XS.dup X83.here hx rfl (hb hby d0_66) rfl rfl ?_
    show Go p e below t T83 m 67 #[.val (.long xb), .second, iv xn] [(.ref b83), (.ref b83)]
    refine XT.iconstV X83.here hx rfl (0 : Int32) (hb hby d0_67) (by decide) ?_
    show Go p e below t T83 m 68 #[.val (.long xb), .second, iv xn] [(.int (0 : Int32)), (.ref b83), (.ref b83)]
    refine XS.lloadN X83.here hx rfl (hb hby d0_68) rfl ?_
    show Go p e below t T83 m 69 #[.val (.long xb), .second, iv xn] [(.long xb), (.int (0 : Int32)), (.ref b83), (.ref b83)]
    refine XT.iconstV X83.here hx rfl (0 : Int32) (hb hby d0_69) (by decide) ?_
    show Go p e below t T83 m 70 #[.val (.long xb), .second, iv xn] [(.int (0 : Int32)), (.long xb), (.int (0 : Int32)), (.ref b83), (.ref b83)]
    exact k)
  obtain ⟨_, _, ⟨T86, L86, k86, n86⟩, -, X86, ⟨Lc86, hQ86, l86, y86, z86⟩, st86⟩ := Jvm.LawKit.callS X83 hx (y := (⟨"com/example/borrowed_prior/borrowedprior/model/TopicModelTermProbabilityPinLaw", "v", "(JI)D"⟩ : MethodName)) hown (mvT hZ (hw _ (List.mem_of_getElem? (i := 9) rfl))) (mvT hZ (hw _ (List.mem_of_getElem? (i := 10) rfl))) (mvT hZ (hw _ (List.mem_of_getElem? (i := 6) rfl))) (mvT hZ (hw _ (List.mem_of_getElem? (i := 11) rfl))) (by decide) (backOf (W := 3) (rm_v l Z a0 hw [] xb (0 : Int32)  h83 n0 (Nat.le_trans Z0 (Nat.le_trans (Nat.le_refl _) E83.1)) ) hZ (hw _ (List.mem_of_getElem? (i := 11) rfl)) (hw _ (List.mem_of_getElem? (i := 6) rfl)) (by decide) (by decide)) (g := (mkF m 70 #[.val (.long xb), .second, iv xn] [(.int (0 : Int32)), (.long xb), (.int (0 : Int32)), (.ref b83), (.ref b83)])) rfl (by rw [hml]; rfl) (argsL := [(.long xb), (.int (0 : Int32))]) (rest := [(.int (0 : Int32)), (.ref b83), (.ref b83)]) (lenOf pd0 rfl) rfl (by show 2 * 0 + _ ≤ _; exact Nat.le_of_eq rfl) (hb hby d0_70) (fun _ _ => ⟨rfl, e83, (by decide : 1 + 0 ≤ _), (by decide : 4 + 0 ≤ _)⟩)
  dsimp only [Pt.U, Pt.locs, Pt.cells, Pt.slots] at X86 l86 y86 z86 st86 hQ86
  subst l86 y86 z86
  obtain ⟨rfl, N86, e86⟩ := hQ86
  have M86 := Fr.app N0 N86
  have g87 : Goes p e below S0 (T86.setTop (mkF m 73 #[.val (.long xb), .second, iv xn] [(.double (f_v xb (0 : Int32))), (.int (0 : Int32)), (.ref b83), (.ref b83)])) := fun t k => g85 t (st86 t k)
  obtain ⟨cl88, Ar88, q88, S88, M88, H88, G88⟩ := id V83
  obtain ⟨T89, h89, X89, e89, W89, st89⟩ := stD X86 hx hZ e86 Ar88 (j := (0 : Int32)) (inb_of S88 ⟨by decide, by decide⟩) (g := (mkF m 73 #[.val (.long xb), .second, iv xn] [(.double (f_v xb (0 : Int32))), (.int (0 : Int32)), (.ref b83), (.ref b83)])) rfl rfl (hb hby d0_73)
  have N89 := Fr.snoc X89 M86 ng83
  have V89 : Arv Z h89 b83 k83 .double (4 : Int32) [(.double (f_v xb (0 : Int32))), (.double (0 : UInt64)), (.double (0 : UInt64)), (.double (0 : UInt64))] (.double (0 : UInt64)) := Arv.set Ar88 q88 S88 M88 H88 G88 rfl W89 0 rfl (Nat.le_of_ble_eq_true rfl)
  have g90 : Goes p e below S0 (T89.setTop (mkF m 74 #[.val (.long xb), .second, iv xn] [(.ref b83)])) := fun t k => g87 t (st89 t k)
  have g91 : Goes p e below S0 (T89.setTop (mkF m 78 #[.val (.long xb), .second, iv xn] [(.int (1 : Int32)), (.long xb), (.int (1 : Int32)), (.ref b83), (.ref b83)])) := fun t k => g90 t (by
    refine XS.dup X89.here hx rfl (hb hby d0_74) rfl rfl ?_
    show Go p e below t T89 m 75 #[.val (.long xb), .second, iv xn] [(.ref b83), (.ref b83)]
    refine XT.iconstV X89.here hx rfl (1 : Int32) (hb hby d0_75) (by decide) ?_
    show Go p e below t T89 m 76 #[.val (.long xb), .second, iv xn] [(.int (1 : Int32)), (.ref b83), (.ref b83)]
    refine XS.lloadN X89.here hx rfl (hb hby d0_76) rfl ?_
    show Go p e below t T89 m 77 #[.val (.long xb), .second, iv xn] [(.long xb), (.int (1 : Int32)), (.ref b83), (.ref b83)]
    refine XT.iconstV X89.here hx rfl (1 : Int32) (hb hby d0_77) (by decide) ?_
    show Go p e below t T89 m 78 #[.val (.long xb), .second, iv xn] [(.int (1 : Int32)), (.long xb), (.int (1 : Int32)), (.ref b83), (.ref b83)]
    exact k)
  obtain ⟨_, _, ⟨T92, L92, k92, n92⟩, -, X92, ⟨Lc92, hQ92, l92, y92, z92⟩, st92⟩ := Jvm.LawKit.callS X89 hx (y := (⟨"com/example/borrowed_prior/borrowedprior/model/TopicModelTermProbabilityPinLaw", "v", "(JI)D"⟩ : MethodName)) hown (mvT hZ (hw _ (List.mem_of_getElem? (i := 9) rfl))) (mvT hZ (hw _ (List.mem_of_getElem? (i := 10) rfl))) (mvT hZ (hw _ (List.mem_of_getElem? (i := 6) rfl))) (mvT hZ (hw _ (List.mem_of_getElem? (i := 11) rfl))) (by decide) (backOf (W := 3) (rm_v l Z a0 hw [] xb (1 : Int32)  h89 n0 (Nat.le_trans Z0 (Nat.le_trans (Nat.le_trans (Nat.le_refl _) E83.1) (Nat.le_of_eq W89.size.symm))) ) hZ (hw _ (List.mem_of_getElem? (i := 11) rfl)) (hw _ (List.mem_of_getElem? (i := 6) rfl)) (by decide) (by decide)) (g := (mkF m 78 #[.val (.long xb), .second, iv xn] [(.int (1 : Int32)), (.long xb), (.int (1 : Int32)), (.ref b83), (.ref b83)])) rfl (by rw [hml]; rfl) (argsL := [(.long xb), (.int (1 : Int32))]) (rest := [(.int (1 : Int32)), (.ref b83), (.ref b83)]) (lenOf pd0 rfl) rfl (by show 2 * 0 + _ ≤ _; exact Nat.le_of_eq rfl) (hb hby d0_78) (fun _ _ => ⟨rfl, e89, (by decide : 1 + 0 ≤ _), (by decide : 4 + 0 ≤ _)⟩)
  dsimp only [Pt.U, Pt.locs, Pt.cells, Pt.slots] at X92 l92 y92 z92 st92 hQ92
  subst l92 y92 z92
  obtain ⟨rfl, N92, e92⟩ := hQ92
  have M92 := Fr.app N89 N92
  have g93 : Goes p e below S0 (T92.setTop (mkF m 81 #[.val (.long xb), .second, iv xn] [(.double (f_v xb (1 : Int32))), (.int (1 : Int32)), (.ref b83), (.ref b83)])) := fun t k => g91 t (st92 t k)
  obtain ⟨cl94, Ar94, q94, S94, M94, H94, G94⟩ := id V89
  obtain ⟨T95, h95, X95, e95, W95, st95⟩ := stD X92 hx hZ e92 Ar94 (j := (1 : Int32)) (inb_of S94 ⟨by decide, by decide⟩) (g := (mkF m 81 #[.val (.long xb), .second, iv xn] [(.double (f_v xb (1 : Int32))), (.int (1 : Int32)), (.ref b83), (.ref b83)])) rfl rfl (hb hby d0_81)
  have N95 := Fr.snoc X95 M92 ng83
  have V95 : Arv Z h95 b83 k83 .double (4 : Int32) [(.double (f_v xb (0 : Int32))), (.double (f_v xb (1 : Int32))), (.double (0 : UInt64)), (.double (0 : UInt64))] (.double (0 : UInt64)) := Arv.set Ar94 q94 S94 M94 H94 G94 rfl W95 1 rfl (Nat.le_of_ble_eq_true rfl)
  have g96 : Goes p e below S0 (T95.setTop (mkF m 82 #[.val (.long xb), .second, iv xn] [(.ref b83)])) := fun t k => g93 t (st95 t k)
  have g97 : Goes p e below S0 (T95.setTop (mkF m 86 #[.val (.long xb), .second, iv xn] [(.int (2 : Int32)), (.long xb), (.int (2 : Int32)), (.ref b83), (.ref b83)])) := fun t k => g96 t (by
    refine XS.dup X95.here hx rfl (hb hby d0_82) rfl rfl ?_
    show Go p e below t T95 m 83 #[.val (.long xb), .second, iv xn] [(.ref b83), (.ref b83)]
    refine XT.iconstV X95.here hx rfl (2 : Int32) (hb hby d0_83) (by decide) ?_
    show Go p e below t T95 m 84 #[.val (.long xb), .second, iv xn] [(.int (2 : Int32)), (.ref b83), (.ref b83)]
    refine XS.lloadN X95.here hx rfl (hb hby d0_84) rfl ?_
    show Go p e below t T95 m 85 #[.val (.long xb), .second, iv xn] [(.long xb), (.int (2 : Int32)), (.ref b83), (.ref b83)]
    refine XT.iconstV X95.here hx rfl (2 : Int32) (hb hby d0_85) (by decide) ?_
    show Go p e below t T95 m 86 #[.val (.long xb), .second, iv xn] [(.int (2 : Int32)), (.long xb), (.int (2 : Int32)), (.ref b83), (.ref b83)]
    exact k)
  obtain ⟨_, _, ⟨T98, L98, k98, n98⟩, -, X98, ⟨Lc98, hQ98, l98, y98, z98⟩, st98⟩ := Jvm.LawKit.callS X95 hx (y := (⟨"com/example/borrowed_prior/borrowedprior/model/TopicModelTermProbabilityPinLaw", "v", "(JI)D"⟩ : MethodName)) hown (mvT hZ (hw _ (List.mem_of_getElem? (i := 9) rfl))) (mvT hZ (hw _ (List.mem_of_getElem? (i := 10) rfl))) (mvT hZ (hw _ (List.mem_of_getElem? (i := 6) rfl))) (mvT hZ (hw _ (List.mem_of_getElem? (i := 11) rfl))) (by decide) (backOf (W := 3) (rm_v l Z a0 hw [] xb (2 : Int32)  h95 n0 (Nat.le_trans Z0 (Nat.le_trans (Nat.le_trans (Nat.le_trans (Nat.le_refl _) E83.1) (Nat.le_of_eq W89.size.symm)) (Nat.le_of_eq W95.size.symm))) ) hZ (hw _ (List.mem_of_getElem? (i := 11) rfl)) (hw _ (List.mem_of_getElem? (i := 6) rfl)) (by decide) (by decide)) (g := (mkF m 86 #[.val (.long xb), .second, iv xn] [(.int (2 : Int32)), (.long xb), (.int (2 : Int32)), (.ref b83), (.ref b83)])) rfl (by rw [hml]; rfl) (argsL := [(.long xb), (.int (2 : Int32))]) (rest := [(.int (2 : Int32)), (.ref b83), (.ref b83)]) (lenOf pd0 rfl) rfl (by show 2 * 0 + _ ≤ _; exact Nat.le_of_eq rfl) (hb hby d0_86) (fun _ _ => ⟨rfl, e95, (by decide : 1 + 0 ≤ _), (by decide : 4 + 0 ≤ _)⟩)
  dsimp only [Pt.U, Pt.locs, Pt.cells, Pt.slots] at X98 l98 y98 z98 st98 hQ98
  subst l98 y98 z98
  obtain ⟨rfl, N98, e98⟩ := hQ98
  have M98 := Fr.app N95 N98
  have g99 : Goes p e below S0 (T98.setTop (mkF m 89 #[.val (.long xb), .second, iv xn] [(.double (f_v xb (2 : Int32))), (.int (2 : Int32)), (.ref b83), (.ref b83)])) := fun t k => g97 t (st98 t k)
  obtain ⟨cl100, Ar100, q100, S100, M100, H100, G100⟩ := id V95
  obtain ⟨T101, h101, X101, e101, W101, st101⟩ := stD X98 hx hZ e98 Ar100 (j := (2 : Int32)) (inb_of S100 ⟨by decide, by decide⟩) (g := (mkF m 89 #[.val (.long xb), .second, iv xn] [(.double (f_v xb (2 : Int32))), (.int (2 : Int32)), (.ref b83), (.ref b83)])) rfl rfl (hb hby d0_89)
  have N101 := Fr.snoc X101 M98 ng83
  have V101 : Arv Z h101 b83 k83 .double (4 : Int32) [(.double (f_v xb (0 : Int32))), (.double (f_v xb (1 : Int32))), (.double (f_v xb (2 : Int32))), (.double (0 : UInt64))] (.double (0 : UInt64)) := Arv.set Ar100 q100 S100 M100 H100 G100 rfl W101 2 rfl (Nat.le_of_ble_eq_true rfl)
  have g102 : Goes p e below S0 (T101.setTop (mkF m 90 #[.val (.long xb), .second, iv xn] [(.ref b83)])) := fun t k => g99 t (st101 t k)
  have g103 : Goes p e below S0 (T101.setTop (mkF m 94 #[.val (.long xb), .second, iv xn] [(.int (3 : Int32)), (.long xb), (.int (3 : Int32)), (.ref b83), (.ref b83)])) := fun t k => g102 t (by
    refine XS.dup X101.here hx rfl (hb hby d0_90) rfl rfl ?_
    show Go p e below t T101 m 91 #[.val (.long xb), .second, iv xn] [(.ref b83), (.ref b83)]
    refine XT.iconstV X101.here hx rfl (3 : Int32) (hb hby d0_91) (by decide) ?_
    show Go p e below t T101 m 92 #[.val (.long xb), .second, iv xn] [(.int (3 : Int32)), (.ref b83), (.ref b83)]
    refine XS.lloadN X101.here hx rfl (hb hby d0_92) rfl ?_
    show Go p e below t T101 m 93 #[.val (.long xb), .second, iv xn] [(.long xb), (.int (3 : Int32)), (.ref b83), (.ref b83)]
    refine XT.iconstV X101.here hx rfl (3 : Int32) (hb hby d0_93) (by decide) ?_
    show Go p e below t T101 m 94 #[.val (.long xb), .second, iv xn] [(.int (3 : Int32)), (.long xb), (.int (3 : Int32)), (.ref b83), (.ref b83)]
    exact k)
  obtain ⟨_, _, ⟨T104, L104, k104, n104⟩, -, X104, ⟨Lc104, hQ104, l104, y104, z104⟩, st104⟩ := Jvm.LawKit.callS X101 hx (y := (⟨"com/example/borrowed_prior/borrowedprior/model/TopicModelTermProbabilityPinLaw", "v", "(JI)D"⟩ : MethodName)) hown (mvT hZ (hw _ (List.mem_of_getElem? (i := 9) rfl))) (mvT hZ (hw _ (List.mem_of_getElem? (i := 10) rfl))) (mvT hZ (hw _ (List.mem_of_getElem? (i := 6) rfl))) (mvT hZ (hw _ (List.mem_of_getElem? (i := 11) rfl))) (by decide) (backOf (W := 3) (rm_v l Z a0 hw [] xb (3 : Int32)  h101 n0 (Nat.le_trans Z0 (Nat.le_trans (Nat.le_trans (Nat.le_trans (Nat.le_trans (Nat.le_refl _) E83.1) (Nat.le_of_eq W89.size.symm)) (Nat.le_of_eq W95.size.symm)) (Nat.le_of_eq W101.size.symm))) ) hZ (hw _ (List.mem_of_getElem? (i := 11) rfl)) (hw _ (List.mem_of_getElem? (i := 6) rfl)) (by decide) (by decide)) (g := (mkF m 94 #[.val (.long xb), .second, iv xn] [(.int (3 : Int32)), (.long xb), (.int (3 : Int32)), (.ref b83), (.ref b83)])) rfl (by rw [hml]; rfl) (argsL := [(.long xb), (.int (3 : Int32))]) (rest := [(.int (3 : Int32)), (.ref b83), (.ref b83)]) (lenOf pd0 rfl) rfl (by show 2 * 0 + _ ≤ _; exact Nat.le_of_eq rfl) (hb hby d0_94) (fun _ _ => ⟨rfl, e101, (by decide : 1 + 0 ≤ _), (by decide : 4 + 0 ≤ _)⟩)
  dsimp only [Pt.U, Pt.locs, Pt.cells, Pt.slots] at X104 l104 y104 z104 st104 hQ104
  subst l104 y104 z104
  obtain ⟨rfl, N104, e104⟩ := hQ104
  have M104 := Fr.app N101 N104
  have g105 : Goes p e below S0 (T104.setTop (mkF m 97 #[.val (.long xb), .second, iv xn] [(.double (f_v xb (3 : Int32))), (.int (3 : Int32)), (.ref b83), (.ref b83)])) := fun t k => g103 t (st104 t k)
  obtain ⟨cl106, Ar106, q106, S106, M106, H106, G106⟩ := id V101
  obtain ⟨T107, h107, X107, e107, W107, st107⟩ := stD X104 hx hZ e104 Ar106 (j := (3 : Int32)) (inb_of S106 ⟨by decide, by decide⟩) (g := (mkF m 97 #[.val (.long xb), .second, iv xn] [(.double (f_v xb (3 : Int32))), (.int (3 : Int32)), (.ref b83), (.ref b83)])) rfl rfl (hb hby d0_97)
  have N107 := Fr.snoc X107 M104 ng83
  have V107 : Arv Z h107 b83 k83 .double (4 : Int32) [(.double (f_v xb (0 : Int32))), (.double (f_v xb (1 : Int32))), (.double (f_v xb (2 : Int32))), (.double (f_v xb (3 : Int32)))] (.double (0 : UInt64)) := Arv.set Ar106 q106 S106 M106 H106 G106 rfl W107 3 rfl (Nat.le_of_ble_eq_true rfl)
  have g108 : Goes p e below S0 (T107.setTop (mkF m 98 #[.val (.long xb), .second, iv xn] [(.ref b83)])) := fun t k => g105 t (st107 t k)
  obtain ⟨fs, hr, hrun, hended, hW, hsame⟩ := X107.leave (v := some (.ref b83)) (fun h => by rw [Bd.returns] at h; cases h)
  refine ⟨_, _, g108 _ (retOut X107 hx Bd.returns rfl (Or.inr (Or.inr (Or.inr (Or.inr ⟨rfl, rfl, rfl⟩)))) (hb hby d0_98) hr), hrun, hended, _, _, rfl, ?_, ⟨_, rfl⟩, hW, hsame.mono (by decide) (by decide)⟩
  show Q_dr4 Z xb xn  h0 n0 _ T107.heap _
  rw [e107]
  exact ⟨b83, k83, rfl, N107, ((((((Keep.refl h0 []).ext E83).wr W89 (Or.inr sz83)).wr W95 (Or.inr sz83)).wr W101 (Or.inr sz83)).wr W107 (Or.inr sz83)), V107, sz83⟩
theorem pf_dr6 : plainFor (⟨"com/example/borrowed_prior/borrowedprior/model/TopicModelTermProbabilityPinLaw", "draw", "(JI)[D"⟩ : MethodName) = true := by first | exact plainFor_of_name (by first | (simp [plainName, overriddenIn, x]; done) | decide +kernel) | exact Jvm.Free.JP.mathPlain rfl (by decide +kernel) | decide +kernel
theorem ef_dr6 (m : MethodId) (xb : Int64) (xn : Int32) : entryFrame m #[(.long xb), (.int xn)] 3 = mkF m 0 #[.val (.long xb), .second, iv xn] [] := by first | (simp [entryFrame, mkF, argsToLocals, Value.category, maxLocals]; done) | rfl
def Q_dr6 (Z : State) (xb : Int64) (xn : Int32)  (h0 : Heap) (n0 : Nat) (v : Option Value) (h : Heap) (L : List Loc) : Prop := ∃ (ra : Addr) (rk : ClassId), v = some (.ref ra) ∧ Fr n0 L ∧ (Keep h0 h []) ∧ (Arv Z h ra rk .double (6 : Int32) [(.double (f_v xb (0 : Int32))), (.double (f_v xb (1 : Int32))), (.double (f_v xb (2 : Int32))), (.double (f_v xb (3 : Int32))), (.double (f_v xb (4 : Int32))), (.double (f_v xb (5 : Int32)))] (.double (0 : UInt64))) ∧ (h0.size ≤ ra)
set_option maxRecDepth 65536 in
set_option maxHeartbeats 40000000 in
theorem rm_dr6 (l : Launch) (Z : State) (a0 : Array Value) (hw : ∀ d ∈ tables_1, d.before a0 Z = true) (ws : List Jvm.Cond) (xb : Int64) (xn : Int32)  (h0 : Heap) (n0 : Nat) (Z0 : n0 ≤ h0.size) (hn : xn = (6 : Int32))  :
    MetFree l (⟨"com/example/borrowed_prior/borrowedprior/model/TopicModelTermProbabilityPinLaw", "draw", "(JI)[D"⟩ : MethodName) (head1 (Jvm.Cond.code (⟨"com/example/borrowed_prior/borrowedprior/model/TopicModelTermProbabilityPinLaw", "draw", "(JI)[D"⟩ : MethodName) method_3_code 3 (some (.array .double)) :: ws) ({ frames := 1, cells := 1, slots := 6, locals := 20 } : Room)) (fun a U => a = #[(.long xb), (.int xn)] ∧ Z.Warmed39 U.vm ∧ U.heap = h0) (fun _ _ _ _ _ => True) (fun _ U o U' => ∃ v L, o = .returned v ∧ Q_dr6 Z xb xn  h0 n0 v U'.heap L ∧ FrameEnd U o U' L ({ frames := 1, cells := 1, slots := 6, locals := 20 } : Room).cells ({ frames := 1, cells := 1, slots := 6, locals := 20 } : Room).slots) := by
  refine MetFree.of_bodySF pf_dr6 hisR ?_
  intro p e s m args below meth c s₁ Bd hml0 hP hK
  obtain ⟨rfl, hZ, hh⟩ := hP
  have hx := Bd.exec
  have hby := Bd.bytes
  have hml : c.maxLocals = 3 := hml0
  have hown : s.vm.findClass "com/example/borrowed_prior/borrowedprior/model/TopicModelTermProbabilityPinLaw" = some m.cls := findClass_of_methodNamed Bd.named
  have hnm := (name_of_methodNamed Bd.named Bd.method).1
  have X0 : Stand p l e ({ frames := 1, cells := 1, slots := 6, locals := 20 } : Room) s m #[(.long xb), (.int xn)] below meth c s₁ [] 0 0 := Stand.of_body Bd
  have e0 : s₁.heap = h0 := by rw [← hh, Bd.state]; rfl
  have N0 := Fr.nil n0
  obtain ⟨S0, hS0⟩ : ∃ z, z = s₁.setTop (entryFrame m #[(.long xb), (.int xn)] 3) := ⟨_, rfl⟩
  rw [← hS0]
  have g0 : Goes p e below S0 (s₁.setTop (mkF m 0 #[.val (.long xb), .second, iv xn] [])) := fun t k => by rw [hS0]; exact castTop (ef_dr6 m xb xn) k
  have g109 : Goes p e below S0 (s₁.setTop (mkF m 107 #[.val (.long xb), .second, iv xn] [(.int (6 : Int32))])) := fun t k => g0 t (by
    refine XS.iloadN X0.here hx rfl (hb hby d0_0) rfl ?_
    show Go p e below t s₁ m 1 #[.val (.long xb), .second, iv xn] [(.int xn)]
    refine XT.iconstV X0.here hx rfl (2 : Int32) (hb hby d0_1) (by decide) ?_
    show Go p e below t s₁ m 2 #[.val (.long xb), .second, iv xn] [(.int (2 : Int32)), (.int xn)]
    refine XS.icmpYes X0.here hx rfl (pc0 := 2) (pc' := 25) rfl (hb hby d0_2) rfl (XT.ii_ne_t (by rw [hn]; decide)) (by decide) (by decide) ?_
    show Go p e below t s₁ m 25 #[.val (.long xb), .second, iv xn] []
    refine XS.iloadN X0.here hx rfl (hb hby d0_25) rfl ?_
    show Go p e below t s₁ m 26 #[.val (.long xb), .second, iv xn] [(.int xn)]
    refine XT.iconstV X0.here hx rfl (3 : Int32) (hb hby d0_26) (by decide) ?_
    show Go p e below t s₁ m 27 #[.val (.long xb), .second, iv xn] [(.int (3 : Int32)), (.int xn)]
    refine XS.icmpYes X0.here hx rfl (pc0 := 27) (pc' := 58) rfl (hb hby d0_27) rfl (XT.ii_ne_t (by rw [hn]; decide)) (by decide) (by decide) ?_
    show Go p e below t s₁ m 58 #[.val (.long xb), .second, iv xn] []
    refine XS.iloadN X0.here hx rfl (hb hby d0_58) rfl ?_
    show Go p e below t s₁ m 59 #[.val (.long xb), .second, iv xn] [(.int xn)]
    refine XT.iconstV X0.here hx rfl (4 : Int32) (hb hby d0_59) (by decide) ?_
    show Go p e below t s₁ m 60 #[.val (.long xb), .second, iv xn] [(.int (4 : Int32)), (.int xn)]
    refine XS.icmpYes X0.here hx rfl (pc0 := 60) (pc' := 99) rfl (hb hby d0_60) rfl (XT.ii_ne_t (by rw [hn]; decide)) (by decide) (by decide) ?_
    show Go p e below t s₁ m 99 #[.val (.long xb), .second, iv xn] []
    refine XS.iloadN X0.here hx rfl (hb hby d0_99) rfl ?_
    show Go p e below t s₁ m 100 #[.val (.long xb), .second, iv xn] [(.int xn)]
    refine XT.bipushV X0.here hx rfl (6 : Int32) (hb hby d0_100) (by decide) ?_
    show Go p e below t s₁ m 102 #[.val (.long xb), .second, iv xn] [(.int (6 : Int32)), (.int xn)]
    refine XS.icmpNo X0.here hx rfl (hb hby d0_102) rfl (XT.ii_ne_f hn) ?_
    show Go p e below t s₁ m 105 #[.val (.long xb), .second, iv xn] []
    refine XT.bipushV X0.here hx rfl (6 : Int32) (hb hby d0_105) (by decide) ?_
    show Go p e below t s₁ m 107 #[.val (.long xb), .second, iv xn] [(.int (6 : Int32))]
    exact k)
  obtain ⟨T110, h110, k110, X110, e110, E110, A110, st110⟩ := newP X0 hx hZ (hw _ (List.mem_of_getElem? (i := 8) rfl)) e0 (g := (mkF m 107 #[.val (.long xb), .second, iv xn] [(.int (6 : Int32))])) rfl (hb hby d0_107) rfl (by decide) (cap := 6) (by decide) (by decide) (by decide) (by decide)
  obtain ⟨b110, gb110⟩ : ∃ z, z = h0.size := ⟨_, rfl⟩
  have sz110 : h0.size ≤ b110 := Nat.le_trans (Nat.le_refl _) (Nat.le_of_eq gb110.symm)
  have ng110 : n0 ≤ b110 := Nat.le_trans Z0 sz110
  rw [← gb110] at A110 st110
  have V110 : Arv Z h110 b110 k110 .double (6 : Int32) [(.double (0 : UInt64)), (.double (0 : UInt64)), (.double (0 : UInt64)), (.double (0 : UInt64)), (.double (0 : UInt64)), (.double (0 : UInt64))] (.double (0 : UInt64)) := (Arv.new A110 (by decide)).pad (pad_rep [] (.double (0 : UInt64)) 6)
  have g111 : Goes p e below S0 (T110.setTop (mkF m 109 #[.val (.long xb), .second, iv xn] [(.ref b110)])) := fun t k => g109 t (st110 t k)
  have g112 : Goes p e below S0 (T110.setTop (mkF m 113 #[.val (.long xb), .second, iv xn] [(.int (0 : Int32)), (.long xb), (.int (0 : Int32)), (.ref b110), (.ref b110)])) := fun t k => g111 t (by
    refine XS.dup X110.here hx rfl (hb hby d0_109) rfl rfl ?_
    show Go p e below t T110 m 110 #[.val (.long xb), .second, iv xn] [(.ref b110), (.ref b110)]
    refine XT.iconstV X110.here hx rfl (0 : Int32) (hb hby d0_110) (by decide) ?_
    show Go p e below t T110 m 111 #[.val (.long xb), .second, iv xn] [(.int (0 : Int32)), (.ref b110), (.ref b110)]
    refine XS.lloadN X110.here hx rfl (hb hby d0_111) rfl ?_
    show Go p e below t T110 m 112 #[.val (.long xb), .second, iv xn] [(.long xb), (.int (0 : Int32)), (.ref b110), (.ref b110)]
    refine XT.iconstV X110.here hx rfl (0 : Int32) (hb hby d0_112) (by decide) ?_
    show Go p e below t T110 m 113 #[.val (.long xb), .second, iv xn] [(.int (0 : Int32)), (.long xb), (.int (0 : Int32)), (.ref b110), (.ref b110)]
    exact k)
  obtain ⟨_, _, ⟨T113, L113, k113, n113⟩, -, X113, ⟨Lc113, hQ113, l113, y113, z113⟩, st113⟩ := Jvm.LawKit.callS X110 hx (y := (⟨"com/example/borrowed_prior/borrowedprior/model/TopicModelTermProbabilityPinLaw", "v", "(JI)D"⟩ : MethodName)) hown (mvT hZ (hw _ (List.mem_of_getElem? (i := 9) rfl))) (mvT hZ (hw _ (List.mem_of_getElem? (i := 10) rfl))) (mvT hZ (hw _ (List.mem_of_getElem? (i := 6) rfl))) (mvT hZ (hw _ (List.mem_of_getElem? (i := 11) rfl))) (by decide) (backOf (W := 3) (rm_v l Z a0 hw [] xb (0 : Int32)  h110 n0 (Nat.le_trans Z0 (Nat.le_trans (Nat.le_refl _) E110.1)) ) hZ (hw _ (List.mem_of_getElem? (i := 11) rfl)) (hw _ (List.mem_of_getElem? (i := 6) rfl)) (by decide) (by decide)) (g := (mkF m 113 #[.val (.long xb), .second, iv xn] [(.int (0 : Int32)), (.long xb), (.int (0 : Int32)), (.ref b110), (.ref b110)])) rfl (by rw [hml]; rfl) (argsL := [(.long xb), (.int (0 : Int32))]) (rest := [(.int (0 : Int32)), (.ref b110), (.ref b110)]) (lenOf pd0 rfl) rfl (by show 2 * 0 + _ ≤ _; exact Nat.le_of_eq rfl) (hb hby d0_113) (fun _ _ => ⟨rfl, e110, (by decide : 1 + 0 ≤ _), (by decide : 6 + 0 ≤ _)⟩)
  dsimp only [Pt.U, Pt.locs, Pt.cells, Pt.slots] at X113 l113 y113 z113 st113 hQ113
  subst l113 y113 z113
  obtain ⟨rfl, N113, e113⟩ := hQ113
  have M113 := Fr.app N0 N113
  have g114 : Goes p e below S0 (T113.setTop (mkF m 116 #[.val (.long xb), .second, iv xn] [(.double (f_v xb (0 : Int32))), (.int (0 : Int32)), (.ref b110), (.ref b110)])) := fun t k => g112 t (st113 t k)
  obtain ⟨cl115, Ar115, q115, S115, M115, H115, G115⟩ := id V110
  obtain ⟨T116, h116, X116, e116, W116, st116⟩ := stD X113 hx hZ e113 Ar115 (j := (0 : Int32)) (inb_of S115 ⟨by decide, by decide⟩) (g := (mkF m 116 #[.val (.long xb), .second, iv xn] [(.double (f_v xb (0 : Int32))), (.int (0 : Int32)), (.ref b110), (.ref b110)])) rfl rfl (hb hby d0_116)
  have N116 := Fr.snoc X116 M113 ng110
  have V116 : Arv Z h116 b110 k110 .double (6 : Int32) [(.double (f_v xb (0 : Int32))), (.double (0 : UInt64)), (.double (0 : UInt64)), (.double (0 : UInt64)), (.double (0 : UInt64)), (.double (0 : UInt64))] (.double (0 : UInt64)) := Arv.set Ar115 q115 S115 M115 H115 G115 rfl W116 0 rfl (Nat.le_of_ble_eq_true rfl)
  have g117 : Goes p e below S0 (T116.setTop (mkF m 117 #[.val (.long xb), .second, iv xn] [(.ref b110)])) := fun t k => g114 t (st116 t k)
  have g118 : Goes p e below S0 (T116.setTop (mkF m 121 #[.val (.long xb), .second, iv xn] [(.int (1 : Int32)), (.long xb), (.int (1 : Int32)), (.ref b110), (.ref b110)])) := fun t k => g117 t (by
    refine XS.dup X116.here hx rfl (hb hby d0_117) rfl rfl ?_
    show Go p e below t T116 m 118 #[.val (.long xb), .second, iv xn] [(.ref b110), (.ref b110)]
    refine XT.iconstV X116.here hx rfl (1 : Int32) (hb hby d0_118) (by decide) ?_
    show Go p e below t T116 m 119 #[.val (.long xb), .second, iv xn] [(.int (1 : Int32)), (.ref b110), (.ref b110)]
    refine XS.lloadN X116.here hx rfl (hb hby d0_119) rfl ?_
    show Go p e below t T116 m 120 #[.val (.long xb), .second, iv xn] [(.long xb), (.int (1 : Int32)), (.ref b110), (.ref b110)]
    refine XT.iconstV X116.here hx rfl (1 : Int32) (hb hby d0_120) (by decide) ?_
    show Go p e below t T116 m 121 #[.val (.long xb), .second, iv xn] [(.int (1 : Int32)), (.long xb), (.int (1 : Int32)), (.ref b110), (.ref b110)]
    exact k)
  obtain ⟨_, _, ⟨T119, L119, k119, n119⟩, -, X119, ⟨Lc119, hQ119, l119, y119, z119⟩, st119⟩ := Jvm.LawKit.callS X116 hx (y := (⟨"com/example/borrowed_prior/borrowedprior/model/TopicModelTermProbabilityPinLaw", "v", "(JI)D"⟩ : MethodName)) hown (mvT hZ (hw _ (List.mem_of_getElem? (i := 9) rfl))) (mvT hZ (hw _ (List.mem_of_getElem? (i := 10) rfl))) (mvT hZ (hw _ (List.mem_of_getElem? (i := 6) rfl))) (mvT hZ (hw _ (List.mem_of_getElem? (i := 11) rfl))) (by decide) (backOf (W := 3) (rm_v l Z a0 hw [] xb (1 : Int32)  h116 n0 (Nat.le_trans Z0 (Nat.le_trans (Nat.le_trans (Nat.le_refl _) E110.1) (Nat.le_of_eq W116.size.symm))) ) hZ (hw _ (List.mem_of_getElem? (i := 11) rfl)) (hw _ (List.mem_of_getElem? (i := 6) rfl)) (by decide) (by decide)) (g := (mkF m 121 #[.val (.long xb), .second, iv xn] [(.int (1 : Int32)), (.long xb), (.int (1 : Int32)), (.ref b110), (.ref b110)])) rfl (by rw [hml]; rfl) (argsL := [(.long xb), (.int (1 : Int32))]) (rest := [(.int (1 : Int32)), (.ref b110), (.ref b110)]) (lenOf pd0 rfl) rfl (by show 2 * 0 + _ ≤ _; exact Nat.le_of_eq rfl) (hb hby d0_121) (fun _ _ => ⟨rfl, e116, (by decide : 1 + 0 ≤ _), (by decide : 6 + 0 ≤ _)⟩)
  dsimp only [Pt.U, Pt.locs, Pt.cells, Pt.slots] at X119 l119 y119 z119 st119 hQ119
  subst l119 y119 z119
  obtain ⟨rfl, N119, e119⟩ := hQ119
  have M119 := Fr.app N116 N119
  have g120 : Goes p e below S0 (T119.setTop (mkF m 124 #[.val (.long xb), .second, iv xn] [(.double (f_v xb (1 : Int32))), (.int (1 : Int32)), (.ref b110), (.ref b110)])) := fun t k => g118 t (st119 t k)
  obtain ⟨cl121, Ar121, q121, S121, M121, H121, G121⟩ := id V116
  obtain ⟨T122, h122, X122, e122, W122, st122⟩ := stD X119 hx hZ e119 Ar121 (j := (1 : Int32)) (inb_of S121 ⟨by decide, by decide⟩) (g := (mkF m 124 #[.val (.long xb), .second, iv xn] [(.double (f_v xb (1 : Int32))), (.int (1 : Int32)), (.ref b110), (.ref b110)])) rfl rfl (hb hby d0_124)
  have N122 := Fr.snoc X122 M119 ng110
  have V122 : Arv Z h122 b110 k110 .double (6 : Int32) [(.double (f_v xb (0 : Int32))), (.double (f_v xb (1 : Int32))), (.double (0 : UInt64)), (.double (0 : UInt64)), (.double (0 : UInt64)), (.double (0 : UInt64))] (.double (0 : UInt64)) := Arv.set Ar121 q121 S121 M121 H121 G121 rfl W122 1 rfl (Nat.le_of_ble_eq_true rfl)
  have g123 : Goes p e below S0 (T122.setTop (mkF m 125 #[.val (.long xb), .second, iv xn] [(.ref b110)])) := fun t k => g120 t (st122 t k)
  have g124 : Goes p e below S0 (T122.setTop (mkF m 129 #[.val (.long xb), .second, iv xn] [(.int (2 : Int32)), (.long xb), (.int (2 : Int32)), (.ref b110), (.ref b110)])) := fun t k => g123 t (by
    refine XS.dup X122.here hx rfl (hb hby d0_125) rfl rfl ?_
    show Go p e below t T122 m 126 #[.val (.long xb), .second, iv xn] [(.ref b110), (.ref b110)]
    refine XT.iconstV X122.here hx rfl (2 : Int32) (hb hby d0_126) (by decide) ?_
    show Go p e below t T122 m 127 #[.val (.long xb), .second, iv xn] [(.int (2 : Int32)), (.ref b110), (.ref b110)]
    refine XS.lloadN X122.here hx rfl (hb hby d0_127) rfl ?_
    show Go p e below t T122 m 128 #[.val (.long xb), .second, iv xn] [(.long xb), (.int (2 : Int32)), (.ref b110), (.ref b110)]
    refine XT.iconstV X122.here hx rfl (2 : Int32) (hb hby d0_128) (by decide) ?_
    show Go p e below t T122 m 129 #[.val (.long xb), .second, iv xn] [(.int (2 : Int32)), (.long xb), (.int (2 : Int32)), (.ref b110), (.ref b110)]
    exact k)
  obtain ⟨_, _, ⟨T125, L125, k125, n125⟩, -, X125, ⟨Lc125, hQ125, l125, y125, z125⟩, st125⟩ := Jvm.LawKit.callS X122 hx (y := (⟨"com/example/borrowed_prior/borrowedprior/model/TopicModelTermProbabilityPinLaw", "v", "(JI)D"⟩ : MethodName)) hown (mvT hZ (hw _ (List.mem_of_getElem? (i := 9) rfl))) (mvT hZ (hw _ (List.mem_of_getElem? (i := 10) rfl))) (mvT hZ (hw _ (List.mem_of_getElem? (i := 6) rfl))) (mvT hZ (hw _ (List.mem_of_getElem? (i := 11) rfl))) (by decide) (backOf (W := 3) (rm_v l Z a0 hw [] xb (2 : Int32)  h122 n0 (Nat.le_trans Z0 (Nat.le_trans (Nat.le_trans (Nat.le_trans (Nat.le_refl _) E110.1) (Nat.le_of_eq W116.size.symm)) (Nat.le_of_eq W122.size.symm))) ) hZ (hw _ (List.mem_of_getElem? (i := 11) rfl)) (hw _ (List.mem_of_getElem? (i := 6) rfl)) (by decide) (by decide)) (g := (mkF m 129 #[.val (.long xb), .second, iv xn] [(.int (2 : Int32)), (.long xb), (.int (2 : Int32)), (.ref b110), (.ref b110)])) rfl (by rw [hml]; rfl) (argsL := [(.long xb), (.int (2 : Int32))]) (rest := [(.int (2 : Int32)), (.ref b110), (.ref b110)]) (lenOf pd0 rfl) rfl (by show 2 * 0 + _ ≤ _; exact Nat.le_of_eq rfl) (hb hby d0_129) (fun _ _ => ⟨rfl, e122, (by decide : 1 + 0 ≤ _), (by decide : 6 + 0 ≤ _)⟩)
  dsimp only [Pt.U, Pt.locs, Pt.cells, Pt.slots] at X125 l125 y125 z125 st125 hQ125
  subst l125 y125 z125
  obtain ⟨rfl, N125, e125⟩ := hQ125
  have M125 := Fr.app N122 N125
  have g126 : Goes p e below S0 (T125.setTop (mkF m 132 #[.val (.long xb), .second, iv xn] [(.double (f_v xb (2 : Int32))), (.int (2 : Int32)), (.ref b110), (.ref b110)])) := fun t k => g124 t (st125 t k)
  obtain ⟨cl127, Ar127, q127, S127, M127, H127, G127⟩ := id V122
  obtain ⟨T128, h128, X128, e128, W128, st128⟩ := stD X125 hx hZ e125 Ar127 (j := (2 : Int32)) (inb_of S127 ⟨by decide, by decide⟩) (g := (mkF m 132 #[.val (.long xb), .second, iv xn] [(.double (f_v xb (2 : Int32))), (.int (2 : Int32)), (.ref b110), (.ref b110)])) rfl rfl (hb hby d0_132)
  have N128 := Fr.snoc X128 M125 ng110
  have V128 : Arv Z h128 b110 k110 .double (6 : Int32) [(.double (f_v xb (0 : Int32))), (.double (f_v xb (1 : Int32))), (.double (f_v xb (2 : Int32))), (.double (0 : UInt64)), (.double (0 : UInt64)), (.double (0 : UInt64))] (.double (0 : UInt64)) := Arv.set Ar127 q127 S127 M127 H127 G127 rfl W128 2 rfl (Nat.le_of_ble_eq_true rfl)
  have g129 : Goes p e below S0 (T128.setTop (mkF m 133 #[.val (.long xb), .second, iv xn] [(.ref b110)])) := fun t k => g126 t (st128 t k)
  have g130 : Goes p e below S0 (T128.setTop (mkF m 137 #[.val (.long xb), .second, iv xn] [(.int (3 : Int32)), (.long xb), (.int (3 : Int32)), (.ref b110), (.ref b110)])) := fun t k => g129 t (by
    refine XS.dup X128.here hx rfl (hb hby d0_133) rfl rfl ?_
    show Go p e below t T128 m 134 #[.val (.long xb), .second, iv xn] [(.ref b110), (.ref b110)]
    refine XT.iconstV X128.here hx rfl (3 : Int32) (hb hby d0_134) (by decide) ?_
    show Go p e below t T128 m 135 #[.val (.long xb), .second, iv xn] [(.int (3 : Int32)), (.ref b110), (.ref b110)]
    refine XS.lloadN X128.here hx rfl (hb hby d0_135) rfl ?_
    show Go p e below t T128 m 136 #[.val (.long xb), .second, iv xn] [(.long xb), (.int (3 : Int32)), (.ref b110), (.ref b110)]
    refine XT.iconstV X128.here hx rfl (3 : Int32) (hb hby d0_136) (by decide) ?_
    show Go p e below t T128 m 137 #[.val (.long xb), .second, iv xn] [(.int (3 : Int32)), (.long xb), (.int (3 : Int32)), (.ref b110), (.ref b110)]
    exact k)
  obtain ⟨_, _, ⟨T131, L131, k131, n131⟩, -, X131, ⟨Lc131, hQ131, l131, y131, z131⟩, st131⟩ := Jvm.LawKit.callS X128 hx (y := (⟨"com/example/borrowed_prior/borrowedprior/model/TopicModelTermProbabilityPinLaw", "v", "(JI)D"⟩ : MethodName)) hown (mvT hZ (hw _ (List.mem_of_getElem? (i := 9) rfl))) (mvT hZ (hw _ (List.mem_of_getElem? (i := 10) rfl))) (mvT hZ (hw _ (List.mem_of_getElem? (i := 6) rfl))) (mvT hZ (hw _ (List.mem_of_getElem? (i := 11) rfl))) (by decide) (backOf (W := 3) (rm_v l Z a0 hw [] xb (3 : Int32)  h128 n0 (Nat.le_trans Z0 (Nat.le_trans (Nat.le_trans (Nat.le_trans (Nat.le_trans (Nat.le_refl _) E110.1) (Nat.le_of_eq W116.size.symm)) (Nat.le_of_eq W122.size.symm)) (Nat.le_of_eq W128.size.symm))) ) hZ (hw _ (List.mem_of_getElem? (i := 11) rfl)) (hw _ (List.mem_of_getElem? (i := 6) rfl)) (by decide) (by decide)) (g := (mkF m 137 #[.val (.long xb), .second, iv xn] [(.int (3 : Int32)), (.long xb), (.int (3 : Int32)), (.ref b110), (.ref b110)])) rfl (by rw [hml]; rfl) (argsL := [(.long xb), (.int (3 : Int32))]) (rest := [(.int (3 : Int32)), (.ref b110), (.ref b110)]) (lenOf pd0 rfl) rfl (by show 2 * 0 + _ ≤ _; exact Nat.le_of_eq rfl) (hb hby d0_137) (fun _ _ => ⟨rfl, e128, (by decide : 1 + 0 ≤ _), (by decide : 6 + 0 ≤ _)⟩)
  dsimp only [Pt.U, Pt.locs, Pt.cells, Pt.slots] at X131 l131 y131 z131 st131 hQ131
  subst l131 y131 z131
  obtain ⟨rfl, N131, e131⟩ := hQ131
  have M131 := Fr.app N128 N131
  have g132 : Goes p e below S0 (T131.setTop (mkF m 140 #[.val (.long xb), .second, iv xn] [(.double (f_v xb (3 : Int32))), (.int (3 : Int32)), (.ref b110), (.ref b110)])) := fun t k => g130 t (st131 t k)
  obtain ⟨cl133, Ar133, q133, S133, M133, H133, G133⟩ := id V128
  obtain ⟨T134, h134, X134, e134, W134, st134⟩ := stD X131 hx hZ e131 Ar133 (j := (3 : Int32)) (inb_of S133 ⟨by decide, by decide⟩) (g := (mkF m 140 #[.val (.long xb), .second, iv xn] [(.double (f_v xb (3 : Int32))), (.int (3 : Int32)), (.ref b110), (.ref b110)])) rfl rfl (hb hby d0_140)
  have N134 := Fr.snoc X134 M131 ng110
  have V134 : Arv Z h134 b110 k110 .double (6 : Int32) [(.double (f_v xb (0 : Int32))), (.double (f_v xb (1 : Int32))), (.double (f_v xb (2 : Int32))), (.double (f_v xb (3 : Int32))), (.double (0 : UInt64)), (.double (0 : UInt64))] (.double (0 : UInt64)) := Arv.set Ar133 q133 S133 M133 H133 G133 rfl W134 3 rfl (Nat.le_of_ble_eq_true rfl)
  have g135 : Goes p e below S0 (T134.setTop (mkF m 141 #[.val (.long xb), .second, iv xn] [(.ref b110)])) := fun t k => g132 t (st134 t k)
  have g136 : Goes p e below S0 (T134.setTop (mkF m 145 #[.val (.long xb), .second, iv xn] [(.int (4 : Int32)), (.long xb), (.int (4 : Int32)), (.ref b110), (.ref b110)])) := fun t k => g135 t (by
    refine XS.dup X134.here hx rfl (hb hby d0_141) rfl rfl ?_
    show Go p e below t T134 m 142 #[.val (.long xb), .second, iv xn] [(.ref b110), (.ref b110)]
    refine XT.iconstV X134.here hx rfl (4 : Int32) (hb hby d0_142) (by decide) ?_
    show Go p e below t T134 m 143 #[.val (.long xb), .second, iv xn] [(.int (4 : Int32)), (.ref b110), (.ref b110)]
    refine XS.lloadN X134.here hx rfl (hb hby d0_143) rfl ?_
    show Go p e below t T134 m 144 #[.val (.long xb), .second, iv xn] [(.long xb), (.int (4 : Int32)), (.ref b110), (.ref b110)]
    refine XT.iconstV X134.here hx rfl (4 : Int32) (hb hby d0_144) (by decide) ?_
    show Go p e below t T134 m 145 #[.val (.long xb), .second, iv xn] [(.int (4 : Int32)), (.long xb), (.int (4 : Int32)), (.ref b110), (.ref b110)]
    exact k)
  obtain ⟨_, _, ⟨T137, L137, k137, n137⟩, -, X137, ⟨Lc137, hQ137, l137, y137, z137⟩, st137⟩ := Jvm.LawKit.callS X134 hx (y := (⟨"com/example/borrowed_prior/borrowedprior/model/TopicModelTermProbabilityPinLaw", "v", "(JI)D"⟩ : MethodName)) hown (mvT hZ (hw _ (List.mem_of_getElem? (i := 9) rfl))) (mvT hZ (hw _ (List.mem_of_getElem? (i := 10) rfl))) (mvT hZ (hw _ (List.mem_of_getElem? (i := 6) rfl))) (mvT hZ (hw _ (List.mem_of_getElem? (i := 11) rfl))) (by decide) (backOf (W := 3) (rm_v l Z a0 hw [] xb (4 : Int32)  h134 n0 (Nat.le_trans Z0 (Nat.le_trans (Nat.le_trans (Nat.le_trans (Nat.le_trans (Nat.le_trans (Nat.le_refl _) E110.1) (Nat.le_of_eq W116.size.symm)) (Nat.le_of_eq W122.size.symm)) (Nat.le_of_eq W128.size.symm)) (Nat.le_of_eq W134.size.symm))) ) hZ (hw _ (List.mem_of_getElem? (i := 11) rfl)) (hw _ (List.mem_of_getElem? (i := 6) rfl)) (by decide) (by decide)) (g := (mkF m 145 #[.val (.long xb), .second, iv xn] [(.int (4 : Int32)), (.long xb), (.int (4 : Int32)), (.ref b110), (.ref b110)])) rfl (by rw [hml]; rfl) (argsL := [(.long xb), (.int (4 : Int32))]) (rest := [(.int (4 : Int32)), (.ref b110), (.ref b110)]) (lenOf pd0 rfl) rfl (by show 2 * 0 + _ ≤ _; exact Nat.le_of_eq rfl) (hb hby d0_145) (fun _ _ => ⟨rfl, e134, (by decide : 1 + 0 ≤ _), (by decide : 6 + 0 ≤ _)⟩)
  dsimp only [Pt.U, Pt.locs, Pt.cells, Pt.slots] at X137 l137 y137 z137 st137 hQ137
  subst l137 y137 z137
  obtain ⟨rfl, N137, e137⟩ := hQ137
  have M137 := Fr.app N134 N137
  have g138 : Goes p e below S0 (T137.setTop (mkF m 148 #[.val (.long xb), .second, iv xn] [(.double (f_v xb (4 : Int32))), (.int (4 : Int32)), (.ref b110), (.ref b110)])) := fun t k => g136 t (st137 t k)
  obtain ⟨cl139, Ar139, q139, S139, M139, H139, G139⟩ := id V134
  obtain ⟨T140, h140, X140, e140, W140, st140⟩ := stD X137 hx hZ e137 Ar139 (j := (4 : Int32)) (inb_of S139 ⟨by decide, by decide⟩) (g := (mkF m 148 #[.val (.long xb), .second, iv xn] [(.double (f_v xb (4 : Int32))), (.int (4 : Int32)), (.ref b110), (.ref b110)])) rfl rfl (hb hby d0_148)
  have N140 := Fr.snoc X140 M137 ng110
  have V140 : Arv Z h140 b110 k110 .double (6 : Int32) [(.double (f_v xb (0 : Int32))), (.double (f_v xb (1 : Int32))), (.double (f_v xb (2 : Int32))), (.double (f_v xb (3 : Int32))), (.double (f_v xb (4 : Int32))), (.double (0 : UInt64))] (.double (0 : UInt64)) := Arv.set Ar139 q139 S139 M139 H139 G139 rfl W140 4 rfl (Nat.le_of_ble_eq_true rfl)
  have g141 : Goes p e below S0 (T140.setTop (mkF m 149 #[.val (.long xb), .second, iv xn] [(.ref b110)])) := fun t k => g138 t (st140 t k)
  have g142 : Goes p e below S0 (T140.setTop (mkF m 153 #[.val (.long xb), .second, iv xn] [(.int (5 : Int32)), (.long xb), (.int (5 : Int32)), (.ref b110), (.ref b110)])) := fun t k => g141 t (by
    refine XS.dup X140.here hx rfl (hb hby d0_149) rfl rfl ?_
    show Go p e below t T140 m 150 #[.val (.long xb), .second, iv xn] [(.ref b110), (.ref b110)]
    refine XT.iconstV X140.here hx rfl (5 : Int32) (hb hby d0_150) (by decide) ?_
    show Go p e below t T140 m 151 #[.val (.long xb), .second, iv xn] [(.int (5 : Int32)), (.ref b110), (.ref b110)]
    refine XS.lloadN X140.here hx rfl (hb hby d0_151) rfl ?_
    show Go p e below t T140 m 152 #[.val (.long xb), .second, iv xn] [(.long xb), (.int (5 : Int32)), (.ref b110), (.ref b110)]
    refine XT.iconstV X140.here hx rfl (5 : Int32) (hb hby d0_152) (by decide) ?_
    show Go p e below t T140 m 153 #[.val (.long xb), .second, iv xn] [(.int (5 : Int32)), (.long xb), (.int (5 : Int32)), (.ref b110), (.ref b110)]
    exact k)
  obtain ⟨_, _, ⟨T143, L143, k143, n143⟩, -, X143, ⟨Lc143, hQ143, l143, y143, z143⟩, st143⟩ := Jvm.LawKit.callS X140 hx (y := (⟨"com/example/borrowed_prior/borrowedprior/model/TopicModelTermProbabilityPinLaw", "v", "(JI)D"⟩ : MethodName)) hown (mvT hZ (hw _ (List.mem_of_getElem? (i := 9) rfl))) (mvT hZ (hw _ (List.mem_of_getElem? (i := 10) rfl))) (mvT hZ (hw _ (List.mem_of_getElem? (i := 6) rfl))) (mvT hZ (hw _ (List.mem_of_getElem? (i := 11) rfl))) (by decide) (backOf (W := 3) (rm_v l Z a0 hw [] xb (5 : Int32)  h140 n0 (Nat.le_trans Z0 (Nat.le_trans (Nat.le_trans (Nat.le_trans (Nat.le_trans (Nat.le_trans (Nat.le_trans (Nat.le_refl _) E110.1) (Nat.le_of_eq W116.size.symm)) (Nat.le_of_eq W122.size.symm)) (Nat.le_of_eq W128.size.symm)) (Nat.le_of_eq W134.size.symm)) (Nat.le_of_eq W140.size.symm))) ) hZ (hw _ (List.mem_of_getElem? (i := 11) rfl)) (hw _ (List.mem_of_getElem? (i := 6) rfl)) (by decide) (by decide)) (g := (mkF m 153 #[.val (.long xb), .second, iv xn] [(.int (5 : Int32)), (.long xb), (.int (5 : Int32)), (.ref b110), (.ref b110)])) rfl (by rw [hml]; rfl) (argsL := [(.long xb), (.int (5 : Int32))]) (rest := [(.int (5 : Int32)), (.ref b110), (.ref b110)]) (lenOf pd0 rfl) rfl (by show 2 * 0 + _ ≤ _; exact Nat.le_of_eq rfl) (hb hby d0_153) (fun _ _ => ⟨rfl, e140, (by decide : 1 + 0 ≤ _), (by decide : 6 + 0 ≤ _)⟩)
  dsimp only [Pt.U, Pt.locs, Pt.cells, Pt.slots] at X143 l143 y143 z143 st143 hQ143
  subst l143 y143 z143
  obtain ⟨rfl, N143, e143⟩ := hQ143
  have M143 := Fr.app N140 N143
  have g144 : Goes p e below S0 (T143.setTop (mkF m 156 #[.val (.long xb), .second, iv xn] [(.double (f_v xb (5 : Int32))), (.int (5 : Int32)), (.ref b110), (.ref b110)])) := fun t k => g142 t (st143 t k)
  obtain ⟨cl145, Ar145, q145, S145, M145, H145, G145⟩ := id V140
  obtain ⟨T146, h146, X146, e146, W146, st146⟩ := stD X143 hx hZ e143 Ar145 (j := (5 : Int32)) (inb_of S145 ⟨by decide, by decide⟩) (g := (mkF m 156 #[.val (.long xb), .second, iv xn] [(.double (f_v xb (5 : Int32))), (.int (5 : Int32)), (.ref b110), (.ref b110)])) rfl rfl (hb hby d0_156)
  have N146 := Fr.snoc X146 M143 ng110
  have V146 : Arv Z h146 b110 k110 .double (6 : Int32) [(.double (f_v xb (0 : Int32))), (.double (f_v xb (1 : Int32))), (.double (f_v xb (2 : Int32))), (.double (f_v xb (3 : Int32))), (.double (f_v xb (4 : Int32))), (.double (f_v xb (5 : Int32)))] (.double (0 : UInt64)) := Arv.set Ar145 q145 S145 M145 H145 G145 rfl W146 5 rfl (Nat.le_of_ble_eq_true rfl)
  have g147 : Goes p e below S0 (T146.setTop (mkF m 157 #[.val (.long xb), .second, iv xn] [(.ref b110)])) := fun t k => g144 t (st146 t k)
  obtain ⟨fs, hr, hrun, hended, hW, hsame⟩ := X146.leave (v := some (.ref b110)) (fun h => by rw [Bd.returns] at h; cases h)
  refine ⟨_, _, g147 _ (retOut X146 hx Bd.returns rfl (Or.inr (Or.inr (Or.inr (Or.inr ⟨rfl, rfl, rfl⟩)))) (hb hby d0_157) hr), hrun, hended, _, _, rfl, ?_, ⟨_, rfl⟩, hW, hsame.mono (by decide) (by decide)⟩
  show Q_dr6 Z xb xn  h0 n0 _ T146.heap _
  rw [e146]
  exact ⟨b110, k110, rfl, N146, ((((((((Keep.refl h0 []).ext E110).wr W116 (Or.inr sz110)).wr W122 (Or.inr sz110)).wr W128 (Or.inr sz110)).wr W134 (Or.inr sz110)).wr W140 (Or.inr sz110)).wr W146 (Or.inr sz110)), V146, sz110⟩
theorem pf_dr9 : plainFor (⟨"com/example/borrowed_prior/borrowedprior/model/TopicModelTermProbabilityPinLaw", "draw", "(JI)[D"⟩ : MethodName) = true := by first | exact plainFor_of_name (by first | (simp [plainName, overriddenIn, x]; done) | decide +kernel) | exact Jvm.Free.JP.mathPlain rfl (by decide +kernel) | decide +kernel
theorem ef_dr9 (m : MethodId) (xb : Int64) (xn : Int32) : entryFrame m #[(.long xb), (.int xn)] 3 = mkF m 0 #[.val (.long xb), .second, iv xn] [] := by first | (simp [entryFrame, mkF, argsToLocals, Value.category, maxLocals]; done) | rfl
def Q_dr9 (Z : State) (xb : Int64) (xn : Int32)  (h0 : Heap) (n0 : Nat) (v : Option Value) (h : Heap) (L : List Loc) : Prop := ∃ (ra : Addr) (rk : ClassId), v = some (.ref ra) ∧ Fr n0 L ∧ (Keep h0 h []) ∧ (Arv Z h ra rk .double (9 : Int32) [(.double (f_v xb (0 : Int32))), (.double (f_v xb (1 : Int32))), (.double (f_v xb (2 : Int32))), (.double (f_v xb (3 : Int32))), (.double (f_v xb (4 : Int32))), (.double (f_v xb (5 : Int32))), (.double (f_v xb (6 : Int32))), (.double (f_v xb (7 : Int32))), (.double (f_v xb (8 : Int32)))] (.double (0 : UInt64))) ∧ (h0.size ≤ ra)
set_option maxRecDepth 65536 in
set_option maxHeartbeats 40000000 in
theorem rm_dr9 (l : Launch) (Z : State) (a0 : Array Value) (hw : ∀ d ∈ tables_1, d.before a0 Z = true) (ws : List Jvm.Cond) (xb : Int64) (xn : Int32)  (h0 : Heap) (n0 : Nat) (Z0 : n0 ≤ h0.size) (hn : xn = (9 : Int32))  :
    MetFree l (⟨"com/example/borrowed_prior/borrowedprior/model/TopicModelTermProbabilityPinLaw", "draw", "(JI)[D"⟩ : MethodName) (head1 (Jvm.Cond.code (⟨"com/example/borrowed_prior/borrowedprior/model/TopicModelTermProbabilityPinLaw", "draw", "(JI)[D"⟩ : MethodName) method_3_code 3 (some (.array .double)) :: ws) ({ frames := 1, cells := 1, slots := 9, locals := 20 } : Room)) (fun a U => a = #[(.long xb), (.int xn)] ∧ Z.Warmed39 U.vm ∧ U.heap = h0) (fun _ _ _ _ _ => True) (fun _ U o U' => ∃ v L, o = .returned v ∧ Q_dr9 Z xb xn  h0 n0 v U'.heap L ∧ FrameEnd U o U' L ({ frames := 1, cells := 1, slots := 9, locals := 20 } : Room).cells ({ frames := 1, cells := 1, slots := 9, locals := 20 } : Room).slots) := by
  refine MetFree.of_bodySF pf_dr9 hisR ?_
  intro p e s m args below meth c s₁ Bd hml0 hP hK
  obtain ⟨rfl, hZ, hh⟩ := hP
  have hx := Bd.exec
  have hby := Bd.bytes
  have hml : c.maxLocals = 3 := hml0
  have hown : s.vm.findClass "com/example/borrowed_prior/borrowedprior/model/TopicModelTermProbabilityPinLaw" = some m.cls := findClass_of_methodNamed Bd.named
  have hnm := (name_of_methodNamed Bd.named Bd.method).1
  have X0 : Stand p l e ({ frames := 1, cells := 1, slots := 9, locals := 20 } : Room) s m #[(.long xb), (.int xn)] below meth c s₁ [] 0 0 := Stand.of_body Bd
  have e0 : s₁.heap = h0 := by rw [← hh, Bd.state]; rfl
  have N0 := Fr.nil n0
  obtain ⟨S0, hS0⟩ : ∃ z, z = s₁.setTop (entryFrame m #[(.long xb), (.int xn)] 3) := ⟨_, rfl⟩
  rw [← hS0]
  have g0 : Goes p e below S0 (s₁.setTop (mkF m 0 #[.val (.long xb), .second, iv xn] [])) := fun t k => by rw [hS0]; exact castTop (ef_dr9 m xb xn) k
  have g148 : Goes p e below S0 (s₁.setTop (mkF m 160 #[.val (.long xb), .second, iv xn] [(.int (9 : Int32))])) := fun t k => g0 t (by
    refine XS.iloadN X0.here hx rfl (hb hby d0_0) rfl ?_
    show Go p e below t s₁ m 1 #[.val (.long xb), .second, iv xn] [(.int xn)]
    refine XT.iconstV X0.here hx rfl (2 : Int32) (hb hby d0_1) (by decide) ?_
    show Go p e below t s₁ m 2 #[.val (.long xb), .second, iv xn] [(.int (2 : Int32)), (.int xn)]
    refine XS.icmpYes X0.here hx rfl (pc0 := 2) (pc' := 25) rfl (hb hby d0_2) rfl (XT.ii_ne_t (by rw [hn]; decide)) (by decide) (by decide) ?_
    show Go p e below t s₁ m 25 #[.val (.long xb), .second, iv xn] []
    refine XS.iloadN X0.here hx rfl (hb hby d0_25) rfl ?_
    show Go p e below t s₁ m 26 #[.val (.long xb), .second, iv xn] [(.int xn)]
    refine XT.iconstV X0.here hx rfl (3 : Int32) (hb hby d0_26) (by decide) ?_
    show Go p e below t s₁ m 27 #[.val (.long xb), .second, iv xn] [(.int (3 : Int32)), (.int xn)]
    refine XS.icmpYes X0.here hx rfl (pc0 := 27) (pc' := 58) rfl (hb hby d0_27) rfl (XT.ii_ne_t (by rw [hn]; decide)) (by decide) (by decide) ?_
    show Go p e below t s₁ m 58 #[.val (.long xb), .second, iv xn] []
    refine XS.iloadN X0.here hx rfl (hb hby d0_58) rfl ?_
    show Go p e below t s₁ m 59 #[.val (.long xb), .second, iv xn] [(.int xn)]
    refine XT.iconstV X0.here hx rfl (4 : Int32) (hb hby d0_59) (by decide) ?_
    show Go p e below t s₁ m 60 #[.val (.long xb), .second, iv xn] [(.int (4 : Int32)), (.int xn)]
    refine XS.icmpYes X0.here hx rfl (pc0 := 60) (pc' := 99) rfl (hb hby d0_60) rfl (XT.ii_ne_t (by rw [hn]; decide)) (by decide) (by decide) ?_
    show Go p e below t s₁ m 99 #[.val (.long xb), .second, iv xn] []
    refine XS.iloadN X0.here hx rfl (hb hby d0_99) rfl ?_
    show Go p e below t s₁ m 100 #[.val (.long xb), .second, iv xn] [(.int xn)]
    refine XT.bipushV X0.here hx rfl (6 : Int32) (hb hby d0_100) (by decide) ?_
    show Go p e below t s₁ m 102 #[.val (.long xb), .second, iv xn] [(.int (6 : Int32)), (.int xn)]
    refine XS.icmpYes X0.here hx rfl (pc0 := 102) (pc' := 158) rfl (hb hby d0_102) rfl (XT.ii_ne_t (by rw [hn]; decide)) (by decide) (by decide) ?_
    show Go p e below t s₁ m 158 #[.val (.long xb), .second, iv xn] []
    refine XT.bipushV X0.here hx rfl (9 : Int32) (hb hby d0_158) (by decide) ?_
    show Go p e below t s₁ m 160 #[.val (.long xb), .second, iv xn] [(.int (9 : Int32))]
    exact k)
  obtain ⟨T149, h149, k149, X149, e149, E149, A149, st149⟩ := newP X0 hx hZ (hw _ (List.mem_of_getElem? (i := 8) rfl)) e0 (g := (mkF m 160 #[.val (.long xb), .second, iv xn] [(.int (9 : Int32))])) rfl (hb hby d0_160) rfl (by decide) (cap := 9) (by decide) (by decide) (by decide) (by decide)
  obtain ⟨b149, gb149⟩ : ∃ z, z = h0.size := ⟨_, rfl⟩
  have sz149 : h0.size ≤ b149 := Nat.le_trans (Nat.le_refl _) (Nat.le_of_eq gb149.symm)
  have ng149 : n0 ≤ b149 := Nat.le_trans Z0 sz149
  rw [← gb149] at A149 st149
  have V149 : Arv Z h149 b149 k149 .double (9 : Int32) [(.double (0 : UInt64)), (.double (0 : UInt64)), (.double (0 : UInt64)), (.double (0 : UInt64)), (.double (0 : UInt64)), (.double (0 : UInt64)), (.double (0 : UInt64)), (.double (0 : UInt64)), (.double (0 : UInt64))] (.double (0 : UInt64)) := (Arv.new A149 (by decide)).pad (pad_rep [] (.double (0 : UInt64)) 9)
  have g150 : Goes p e below S0 (T149.setTop (mkF m 162 #[.val (.long xb), .second, iv xn] [(.ref b149)])) := fun t k => g148 t (st149 t k)
  have g151 : Goes p e below S0 (T149.setTop (mkF m 166 #[.val (.long xb), .second, iv xn] [(.int (0 : Int32)), (.long xb), (.int (0 : Int32)), (.ref b149), (.ref b149)])) := fun t k => g150 t (by
    refine XS.dup X149.here hx rfl (hb hby d0_162) rfl rfl ?_
    show Go p e below t T149 m 163 #[.val (.long xb), .second, iv xn] [(.ref b149), (.ref b149)]
    refine XT.iconstV X149.here hx rfl (0 : Int32) (hb hby d0_163) (by decide) ?_
    show Go p e below t T149 m 164 #[.val (.long xb), .second, iv xn] [(.int (0 : Int32)), (.ref b149), (.ref b149)]
    refine XS.lloadN X149.here hx rfl (hb hby d0_164) rfl ?_
    show Go p e below t T149 m 165 #[.val (.long xb), .second, iv xn] [(.long xb), (.int (0 : Int32)), (.ref b149), (.ref b149)]
    refine XT.iconstV X149.here hx rfl (0 : Int32) (hb hby d0_165) (by decide) ?_
    show Go p e below t T149 m 166 #[.val (.long xb), .second, iv xn] [(.int (0 : Int32)), (.long xb), (.int (0 : Int32)), (.ref b149), (.ref b149)]
    exact k)
  obtain ⟨_, _, ⟨T152, L152, k152, n152⟩, -, X152, ⟨Lc152, hQ152, l152, y152, z152⟩, st152⟩ := Jvm.LawKit.callS X149 hx (y := (⟨"com/example/borrowed_prior/borrowedprior/model/TopicModelTermProbabilityPinLaw", "v", "(JI)D"⟩ : MethodName)) hown (mvT hZ (hw _ (List.mem_of_getElem? (i := 9) rfl))) (mvT hZ (hw _ (List.mem_of_getElem? (i := 10) rfl))) (mvT hZ (hw _ (List.mem_of_getElem? (i := 6) rfl))) (mvT hZ (hw _ (List.mem_of_getElem? (i := 11) rfl))) (by decide) (backOf (W := 3) (rm_v l Z a0 hw [] xb (0 : Int32)  h149 n0 (Nat.le_trans Z0 (Nat.le_trans (Nat.le_refl _) E149.1)) ) hZ (hw _ (List.mem_of_getElem? (i := 11) rfl)) (hw _ (List.mem_of_getElem? (i := 6) rfl)) (by decide) (by decide)) (g := (mkF m 166 #[.val (.long xb), .second, iv xn] [(.int (0 : Int32)), (.long xb), (.int (0 : Int32)), (.ref b149), (.ref b149)])) rfl (by rw [hml]; rfl) (argsL := [(.long xb), (.int (0 : Int32))]) (rest := [(.int (0 : Int32)), (.ref b149), (.ref b149)]) (lenOf pd0 rfl) rfl (by show 2 * 0 + _ ≤ _; exact Nat.le_of_eq rfl) (hb hby d0_166) (fun _ _ => ⟨rfl, e149, (by decide : 1 + 0 ≤ _), (by decide : 9 + 0 ≤ _)⟩)
  dsimp only [Pt.U, Pt.locs, Pt.cells, Pt.slots] at X152 l152 y152 z152 st152 hQ152
  subst l152 y152 z152
  obtain ⟨rfl, N152, e152⟩ := hQ152
  have M152 := Fr.app N0 N152
  have g153 : Goes p e below S0 (T152.setTop (mkF m 169 #[.val (.long xb), .second, iv xn] [(.double (f_v xb (0 : Int32))), (.int (0 : Int32)), (.ref b149), (.ref b149)])) := fun t k => g151 t (st152 t k)
  obtain ⟨cl154, Ar154, q154, S154, M154, H154, G154⟩ := id V149
  obtain ⟨T155, h155, X155, e155, W155, st155⟩ := stD X152 hx hZ e152 Ar154 (j := (0 : Int32)) (inb_of S154 ⟨by decide, by decide⟩) (g := (mkF m 169 #[.val (.long xb), .second, iv xn] [(.double (f_v xb (0 : Int32))), (.int (0 : Int32)), (.ref b149), (.ref b149)])) rfl rfl (hb hby d0_169)
  have N155 := Fr.snoc X155 M152 ng149
  have V155 : Arv Z h155 b149 k149 .double (9 : Int32) [(.double (f_v xb (0 : Int32))), (.double (0 : UInt64)), (.double (0 : UInt64)), (.double (0 : UInt64)), (.double (0 : UInt64)), (.double (0 : UInt64)), (.double (0 : UInt64)), (.double (0 : UInt64)), (.double (0 : UInt64))] (.double (0 : UInt64)) := Arv.set Ar154 q154 S154 M154 H154 G154 rfl W155 0 rfl (Nat.le_of_ble_eq_true rfl)
  have g156 : Goes p e below S0 (T155.setTop (mkF m 170 #[.val (.long xb), .second, iv xn] [(.ref b149)])) := fun t k => g153 t (st155 t k)
  have g157 : Goes p e below S0 (T155.setTop (mkF m 174 #[.val (.long xb), .second, iv xn] [(.int (1 : Int32)), (.long xb), (.int (1 : Int32)), (.ref b149), (.ref b149)])) := fun t k => g156 t (by
    refine XS.dup X155.here hx rfl (hb hby d0_170) rfl rfl ?_
    show Go p e below t T155 m 171 #[.val (.long xb), .second, iv xn] [(.ref b149), (.ref b149)]
    refine XT.iconstV X155.here hx rfl (1 : Int32) (hb hby d0_171) (by decide) ?_
    show Go p e below t T155 m 172 #[.val (.long xb), .second, iv xn] [(.int (1 : Int32)), (.ref b149), (.ref b149)]
    refine XS.lloadN X155.here hx rfl (hb hby d0_172) rfl ?_
    show Go p e below t T155 m 173 #[.val (.long xb), .second, iv xn] [(.long xb), (.int (1 : Int32)), (.ref b149), (.ref b149)]
    refine XT.iconstV X155.here hx rfl (1 : Int32) (hb hby d0_173) (by decide) ?_
    show Go p e below t T155 m 174 #[.val (.long xb), .second, iv xn] [(.int (1 : Int32)), (.long xb), (.int (1 : Int32)), (.ref b149), (.ref b149)]
    exact k)
  obtain ⟨_, _, ⟨T158, L158, k158, n158⟩, -, X158, ⟨Lc158, hQ158, l158, y158, z158⟩, st158⟩ := Jvm.LawKit.callS X155 hx (y := (⟨"com/example/borrowed_prior/borrowedprior/model/TopicModelTermProbabilityPinLaw", "v", "(JI)D"⟩ : MethodName)) hown (mvT hZ (hw _ (List.mem_of_getElem? (i := 9) rfl))) (mvT hZ (hw _ (List.mem_of_getElem? (i := 10) rfl))) (mvT hZ (hw _ (List.mem_of_getElem? (i := 6) rfl))) (mvT hZ (hw _ (List.mem_of_getElem? (i := 11) rfl))) (by decide) (backOf (W := 3) (rm_v l Z a0 hw [] xb (1 : Int32)  h155 n0 (Nat.le_trans Z0 (Nat.le_trans (Nat.le_trans (Nat.le_refl _) E149.1) (Nat.le_of_eq W155.size.symm))) ) hZ (hw _ (List.mem_of_getElem? (i := 11) rfl)) (hw _ (List.mem_of_getElem? (i := 6) rfl)) (by decide) (by decide)) (g := (mkF m 174 #[.val (.long xb), .second, iv xn] [(.int (1 : Int32)), (.long xb), (.int (1 : Int32)), (.ref b149), (.ref b149)])) rfl (by rw [hml]; rfl) (argsL := [(.long xb), (.int (1 : Int32))]) (rest := [(.int (1 : Int32)), (.ref b149), (.ref b149)]) (lenOf pd0 rfl) rfl (by show 2 * 0 + _ ≤ _; exact Nat.le_of_eq rfl) (hb hby d0_174) (fun _ _ => ⟨rfl, e155, (by decide : 1 + 0 ≤ _), (by decide : 9 + 0 ≤ _)⟩)
  dsimp only [Pt.U, Pt.locs, Pt.cells, Pt.slots] at X158 l158 y158 z158 st158 hQ158
  subst l158 y158 z158
  obtain ⟨rfl, N158, e158⟩ := hQ158
  have M158 := Fr.app N155 N158
  have g159 : Goes p e below S0 (T158.setTop (mkF m 177 #[.val (.long xb), .second, iv xn] [(.double (f_v xb (1 : Int32))), (.int (1 : Int32)), (.ref b149), (.ref b149)])) := fun t k => g157 t (st158 t k)
  obtain ⟨cl160, Ar160, q160, S160, M160, H160, G160⟩ := id V155
  obtain ⟨T161, h161, X161, e161, W161, st161⟩ := stD X158 hx hZ e158 Ar160 (j := (1 : Int32)) (inb_of S160 ⟨by decide, by decide⟩) (g := (mkF m 177 #[.val (.long xb), .second, iv xn] [(.double (f_v xb (1 : Int32))), (.int (1 : Int32)), (.ref b149), (.ref b149)])) rfl rfl (hb hby d0_177)
  have N161 := Fr.snoc X161 M158 ng149
  have V161 : Arv Z h161 b149 k149 .double (9 : Int32) [(.double (f_v xb (0 : Int32))), (.double (f_v xb (1 : Int32))), (.double (0 : UInt64)), (.double (0 : UInt64)), (.double (0 : UInt64)), (.double (0 : UInt64)), (.double (0 : UInt64)), (.double (0 : UInt64)), (.double (0 : UInt64))] (.double (0 : UInt64)) := Arv.set Ar160 q160 S160 M160 H160 G160 rfl W161 1 rfl (Nat.le_of_ble_eq_true rfl)
  have g162 : Goes p e below S0 (T161.setTop (mkF m 178 #[.val (.long xb), .second, iv xn] [(.ref b149)])) := fun t k => g159 t (st161 t k)
  have g163 : Goes p e below S0 (T161.setTop (mkF m 182 #[.val (.long xb), .second, iv xn] [(.int (2 : Int32)), (.long xb), (.int (2 : Int32)), (.ref b149), (.ref b149)])) := fun t k => g162 t (by
    refine XS.dup X161.here hx rfl (hb hby d0_178) rfl rfl ?_
    show Go p e below t T161 m 179 #[.val (.long xb), .second, iv xn] [(.ref b149), (.ref b149)]
    refine XT.iconstV X161.here hx rfl (2 : Int32) (hb hby d0_179) (by decide) ?_
    show Go p e below t T161 m 180 #[.val (.long xb), .second, iv xn] [(.int (2 : Int32)), (.ref b149), (.ref b149)]
    refine XS.lloadN X161.here hx rfl (hb hby d0_180) rfl ?_
    show Go p e below t T161 m 181 #[.val (.long xb), .second, iv xn] [(.long xb), (.int (2 : Int32)), (.ref b149), (.ref b149)]
    refine XT.iconstV X161.here hx rfl (2 : Int32) (hb hby d0_181) (by decide) ?_
    show Go p e below t T161 m 182 #[.val (.long xb), .second, iv xn] [(.int (2 : Int32)), (.long xb), (.int (2 : Int32)), (.ref b149), (.ref b149)]
    exact k)
  obtain ⟨_, _, ⟨T164, L164, k164, n164⟩, -, X164, ⟨Lc164, hQ164, l164, y164, z164⟩, st164⟩ := Jvm.LawKit.callS X161 hx (y := (⟨"com/example/borrowed_prior/borrowedprior/model/TopicModelTermProbabilityPinLaw", "v", "(JI)D"⟩ : MethodName)) hown (mvT hZ (hw _ (List.mem_of_getElem? (i := 9) rfl))) (mvT hZ (hw _ (List.mem_of_getElem? (i := 10) rfl))) (mvT hZ (hw _ (List.mem_of_getElem? (i := 6) rfl))) (mvT hZ (hw _ (List.mem_of_getElem? (i := 11) rfl))) (by decide) (backOf (W := 3) (rm_v l Z a0 hw [] xb (2 : Int32)  h161 n0 (Nat.le_trans Z0 (Nat.le_trans (Nat.le_trans (Nat.le_trans (Nat.le_refl _) E149.1) (Nat.le_of_eq W155.size.symm)) (Nat.le_of_eq W161.size.symm))) ) hZ (hw _ (List.mem_of_getElem? (i := 11) rfl)) (hw _ (List.mem_of_getElem? (i := 6) rfl)) (by decide) (by decide)) (g := (mkF m 182 #[.val (.long xb), .second, iv xn] [(.int (2 : Int32)), (.long xb), (.int (2 : Int32)), (.ref b149), (.ref b149)])) rfl (by rw [hml]; rfl) (argsL := [(.long xb), (.int (2 : Int32))]) (rest := [(.int (2 : Int32)), (.ref b149), (.ref b149)]) (lenOf pd0 rfl) rfl (by show 2 * 0 + _ ≤ _; exact Nat.le_of_eq rfl) (hb hby d0_182) (fun _ _ => ⟨rfl, e161, (by decide : 1 + 0 ≤ _), (by decide : 9 + 0 ≤ _)⟩)
  dsimp only [Pt.U, Pt.locs, Pt.cells, Pt.slots] at X164 l164 y164 z164 st164 hQ164
  subst l164 y164 z164
  obtain ⟨rfl, N164, e164⟩ := hQ164
  have M164 := Fr.app N161 N164
  have g165 : Goes p e below S0 (T164.setTop (mkF m 185 #[.val (.long xb), .second, iv xn] [(.double (f_v xb (2 : Int32))), (.int (2 : Int32)), (.ref b149), (.ref b149)])) := fun t k => g163 t (st164 t k)
  obtain ⟨cl166, Ar166, q166, S166, M166, H166, G166⟩ := id V161
  obtain ⟨T167, h167, X167, e167, W167, st167⟩ := stD X164 hx hZ e164 Ar166 (j := (2 : Int32)) (inb_of S166 ⟨by decide, by decide⟩) (g := (mkF m 185 #[.val (.long xb), .second, iv xn] [(.double (f_v xb (2 : Int32))), (.int (2 : Int32)), (.ref b149), (.ref b149)])) rfl rfl (hb hby d0_185)
  have N167 := Fr.snoc X167 M164 ng149
  have V167 : Arv Z h167 b149 k149 .double (9 : Int32) [(.double (f_v xb (0 : Int32))), (.double (f_v xb (1 : Int32))), (.double (f_v xb (2 : Int32))), (.double (0 : UInt64)), (.double (0 : UInt64)), (.double (0 : UInt64)), (.double (0 : UInt64)), (.double (0 : UInt64)), (.double (0 : UInt64))] (.double (0 : UInt64)) := Arv.set Ar166 q166 S166 M166 H166 G166 rfl W167 2 rfl (Nat.le_of_ble_eq_true rfl)
  have g168 : Goes p e below S0 (T167.setTop (mkF m 186 #[.val (.long xb), .second, iv xn] [(.ref b149)])) := fun t k => g165 t (st167 t k)
  have g169 : Goes p e below S0 (T167.setTop (mkF m 190 #[.val (.long xb), .second, iv xn] [(.int (3 : Int32)), (.long xb), (.int (3 : Int32)), (.ref b149), (.ref b149)])) := fun t k => g168 t (by
    refine XS.dup X167.here hx rfl (hb hby d0_186) rfl rfl ?_
    show Go p e below t T167 m 187 #[.val (.long xb), .second, iv xn] [(.ref b149), (.ref b149)]
    refine XT.iconstV X167.here hx rfl (3 : Int32) (hb hby d0_187) (by decide) ?_
    show Go p e below t T167 m 188 #[.val (.long xb), .second, iv xn] [(.int (3 : Int32)), (.ref b149), (.ref b149)]
    refine XS.lloadN X167.here hx rfl (hb hby d0_188) rfl ?_
    show Go p e below t T167 m 189 #[.val (.long xb), .second, iv xn] [(.long xb), (.int (3 : Int32)), (.ref b149), (.ref b149)]
    refine XT.iconstV X167.here hx rfl (3 : Int32) (hb hby d0_189) (by decide) ?_
    show Go p e below t T167 m 190 #[.val (.long xb), .second, iv xn] [(.int (3 : Int32)), (.long xb), (.int (3 : Int32)), (.ref b149), (.ref b149)]
    exact k)
  obtain ⟨_, _, ⟨T170, L170, k170, n170⟩, -, X170, ⟨Lc170, hQ170, l170, y170, z170⟩, st170⟩ := Jvm.LawKit.callS X167 hx (y := (⟨"com/example/borrowed_prior/borrowedprior/model/TopicModelTermProbabilityPinLaw", "v", "(JI)D"⟩ : MethodName)) hown (mvT hZ (hw _ (List.mem_of_getElem? (i := 9) rfl))) (mvT hZ (hw _ (List.mem_of_getElem? (i := 10) rfl))) (mvT hZ (hw _ (List.mem_of_getElem? (i := 6) rfl))) (mvT hZ (hw _ (List.mem_of_getElem? (i := 11) rfl))) (by decide) (backOf (W := 3) (rm_v l Z a0 hw [] xb (3 : Int32)  h167 n0 (Nat.le_trans Z0 (Nat.le_trans (Nat.le_trans (Nat.le_trans (Nat.le_trans (Nat.le_refl _) E149.1) (Nat.le_of_eq W155.size.symm)) (Nat.le_of_eq W161.size.symm)) (Nat.le_of_eq W167.size.symm))) ) hZ (hw _ (List.mem_of_getElem? (i := 11) rfl)) (hw _ (List.mem_of_getElem? (i := 6) rfl)) (by decide) (by decide)) (g := (mkF m 190 #[.val (.long xb), .second, iv xn] [(.int (3 : Int32)), (.long xb), (.int (3 : Int32)), (.ref b149), (.ref b149)])) rfl (by rw [hml]; rfl) (argsL := [(.long xb), (.int (3 : Int32))]) (rest := [(.int (3 : Int32)), (.ref b149), (.ref b149)]) (lenOf pd0 rfl) rfl (by show 2 * 0 + _ ≤ _; exact Nat.le_of_eq rfl) (hb hby d0_190) (fun _ _ => ⟨rfl, e167, (by decide : 1 + 0 ≤ _), (by decide : 9 + 0 ≤ _)⟩)
  dsimp only [Pt.U, Pt.locs, Pt.cells, Pt.slots] at X170 l170 y170 z170 st170 hQ170
  subst l170 y170 z170
  obtain ⟨rfl, N170, e170⟩ := hQ170
  have M170 := Fr.app N167 N170
  have g171 : Goes p e below S0 (T170.setTop (mkF m 193 #[.val (.long xb), .second, iv xn] [(.double (f_v xb (3 : Int32))), (.int (3 : Int32)), (.ref b149), (.ref b149)])) := fun t k => g169 t (st170 t k)
  obtain ⟨cl172, Ar172, q172, S172, M172, H172, G172⟩ := id V167
  obtain ⟨T173, h173, X173, e173, W173, st173⟩ := stD X170 hx hZ e170 Ar172 (j := (3 : Int32)) (inb_of S172 ⟨by decide, by decide⟩) (g := (mkF m 193 #[.val (.long xb), .second, iv xn] [(.double (f_v xb (3 : Int32))), (.int (3 : Int32)), (.ref b149), (.ref b149)])) rfl rfl (hb hby d0_193)
  have N173 := Fr.snoc X173 M170 ng149
  have V173 : Arv Z h173 b149 k149 .double (9 : Int32) [(.double (f_v xb (0 : Int32))), (.double (f_v xb (1 : Int32))), (.double (f_v xb (2 : Int32))), (.double (f_v xb (3 : Int32))), (.double (0 : UInt64)), (.double (0 : UInt64)), (.double (0 : UInt64)), (.double (0 : UInt64)), (.double (0 : UInt64))] (.double (0 : UInt64)) := Arv.set Ar172 q172 S172 M172 H172 G172 rfl W173 3 rfl (Nat.le_of_ble_eq_true rfl)
  have g174 : Goes p e below S0 (T173.setTop (mkF m 194 #[.val (.long xb), .second, iv xn] [(.ref b149)])) := fun t k => g171 t (st173 t k)
  have g175 : Goes p e below S0 (T173.setTop (mkF m 198 #[.val (.long xb), .second, iv xn] [(.int (4 : Int32)), (.long xb), (.int (4 : Int32)), (.ref b149), (.ref b149)])) := fun t k => g174 t (by
    refine XS.dup X173.here hx rfl (hb hby d0_194) rfl rfl ?_
    show Go p e below t T173 m 195 #[.val (.long xb), .second, iv xn] [(.ref b149), (.ref b149)]
    refine XT.iconstV X173.here hx rfl (4 : Int32) (hb hby d0_195) (by decide) ?_
    show Go p e below t T173 m 196 #[.val (.long xb), .second, iv xn] [(.int (4 : Int32)), (.ref b149), (.ref b149)]
    refine XS.lloadN X173.here hx rfl (hb hby d0_196) rfl ?_
    show Go p e below t T173 m 197 #[.val (.long xb), .second, iv xn] [(.long xb), (.int (4 : Int32)), (.ref b149), (.ref b149)]
    refine XT.iconstV X173.here hx rfl (4 : Int32) (hb hby d0_197) (by decide) ?_
    show Go p e below t T173 m 198 #[.val (.long xb), .second, iv xn] [(.int (4 : Int32)), (.long xb), (.int (4 : Int32)), (.ref b149), (.ref b149)]
    exact k)
  obtain ⟨_, _, ⟨T176, L176, k176, n176⟩, -, X176, ⟨Lc176, hQ176, l176, y176, z176⟩, st176⟩ := Jvm.LawKit.callS X173 hx (y := (⟨"com/example/borrowed_prior/borrowedprior/model/TopicModelTermProbabilityPinLaw", "v", "(JI)D"⟩ : MethodName)) hown (mvT hZ (hw _ (List.mem_of_getElem? (i := 9) rfl))) (mvT hZ (hw _ (List.mem_of_getElem? (i := 10) rfl))) (mvT hZ (hw _ (List.mem_of_getElem? (i := 6) rfl))) (mvT hZ (hw _ (List.mem_of_getElem? (i := 11) rfl))) (by decide) (backOf (W := 3) (rm_v l Z a0 hw [] xb (4 : Int32)  h173 n0 (Nat.le_trans Z0 (Nat.le_trans (Nat.le_trans (Nat.le_trans (Nat.le_trans (Nat.le_trans (Nat.le_refl _) E149.1) (Nat.le_of_eq W155.size.symm)) (Nat.le_of_eq W161.size.symm)) (Nat.le_of_eq W167.size.symm)) (Nat.le_of_eq W173.size.symm))) ) hZ (hw _ (List.mem_of_getElem? (i := 11) rfl)) (hw _ (List.mem_of_getElem? (i := 6) rfl)) (by decide) (by decide)) (g := (mkF m 198 #[.val (.long xb), .second, iv xn] [(.int (4 : Int32)), (.long xb), (.int (4 : Int32)), (.ref b149), (.ref b149)])) rfl (by rw [hml]; rfl) (argsL := [(.long xb), (.int (4 : Int32))]) (rest := [(.int (4 : Int32)), (.ref b149), (.ref b149)]) (lenOf pd0 rfl) rfl (by show 2 * 0 + _ ≤ _; exact Nat.le_of_eq rfl) (hb hby d0_198) (fun _ _ => ⟨rfl, e173, (by decide : 1 + 0 ≤ _), (by decide : 9 + 0 ≤ _)⟩)
  dsimp only [Pt.U, Pt.locs, Pt.cells, Pt.slots] at X176 l176 y176 z176 st176 hQ176
  subst l176 y176 z176
  obtain ⟨rfl, N176, e176⟩ := hQ176
  have M176 := Fr.app N173 N176
  have g177 : Goes p e below S0 (T176.setTop (mkF m 201 #[.val (.long xb), .second, iv xn] [(.double (f_v xb (4 : Int32))), (.int (4 : Int32)), (.ref b149), (.ref b149)])) := fun t k => g175 t (st176 t k)
  obtain ⟨cl178, Ar178, q178, S178, M178, H178, G178⟩ := id V173
  obtain ⟨T179, h179, X179, e179, W179, st179⟩ := stD X176 hx hZ e176 Ar178 (j := (4 : Int32)) (inb_of S178 ⟨by decide, by decide⟩) (g := (mkF m 201 #[.val (.long xb), .second, iv xn] [(.double (f_v xb (4 : Int32))), (.int (4 : Int32)), (.ref b149), (.ref b149)])) rfl rfl (hb hby d0_201)
  have N179 := Fr.snoc X179 M176 ng149
  have V179 : Arv Z h179 b149 k149 .double (9 : Int32) [(.double (f_v xb (0 : Int32))), (.double (f_v xb (1 : Int32))), (.double (f_v xb (2 : Int32))), (.double (f_v xb (3 : Int32))), (.double (f_v xb (4 : Int32))), (.double (0 : UInt64)), (.double (0 : UInt64)), (.double (0 : UInt64)), (.double (0 : UInt64))] (.double (0 : UInt64)) := Arv.set Ar178 q178 S178 M178 H178 G178 rfl W179 4 rfl (Nat.le_of_ble_eq_true rfl)
  have g180 : Goes p e below S0 (T179.setTop (mkF m 202 #[.val (.long xb), .second, iv xn] [(.ref b149)])) := fun t k => g177 t (st179 t k)
  have g181 : Goes p e below S0 (T179.setTop (mkF m 206 #[.val (.long xb), .second, iv xn] [(.int (5 : Int32)), (.long xb), (.int (5 : Int32)), (.ref b149), (.ref b149)])) := fun t k => g180 t (by
    refine XS.dup X179.here hx rfl (hb hby d0_202) rfl rfl ?_
    show Go p e below t T179 m 203 #[.val (.long xb), .second, iv xn] [(.ref b149), (.ref b149)]
    refine XT.iconstV X179.here hx rfl (5 : Int32) (hb hby d0_203) (by decide) ?_
    show Go p e below t T179 m 204 #[.val (.long xb), .second, iv xn] [(.int (5 : Int32)), (.ref b149), (.ref b149)]
    refine XS.lloadN X179.here hx rfl (hb hby d0_204) rfl ?_
    show Go p e below t T179 m 205 #[.val (.long xb), .second, iv xn] [(.long xb), (.int (5 : Int32)), (.ref b149), (.ref b149)]
    refine XT.iconstV X179.here hx rfl (5 : Int32) (hb hby d0_205) (by decide) ?_
    show Go p e below t T179 m 206 #[.val (.long xb), .second, iv xn] [(.int (5 : Int32)), (.long xb), (.int (5 : Int32)), (.ref b149), (.ref b149)]
    exact k)
  obtain ⟨_, _, ⟨T182, L182, k182, n182⟩, -, X182, ⟨Lc182, hQ182, l182, y182, z182⟩, st182⟩ := Jvm.LawKit.callS X179 hx (y := (⟨"com/example/borrowed_prior/borrowedprior/model/TopicModelTermProbabilityPinLaw", "v", "(JI)D"⟩ : MethodName)) hown (mvT hZ (hw _ (List.mem_of_getElem? (i := 9) rfl))) (mvT hZ (hw _ (List.mem_of_getElem? (i := 10) rfl))) (mvT hZ (hw _ (List.mem_of_getElem? (i := 6) rfl))) (mvT hZ (hw _ (List.mem_of_getElem? (i := 11) rfl))) (by decide) (backOf (W := 3) (rm_v l Z a0 hw [] xb (5 : Int32)  h179 n0 (Nat.le_trans Z0 (Nat.le_trans (Nat.le_trans (Nat.le_trans (Nat.le_trans (Nat.le_trans (Nat.le_trans (Nat.le_refl _) E149.1) (Nat.le_of_eq W155.size.symm)) (Nat.le_of_eq W161.size.symm)) (Nat.le_of_eq W167.size.symm)) (Nat.le_of_eq W173.size.symm)) (Nat.le_of_eq W179.size.symm))) ) hZ (hw _ (List.mem_of_getElem? (i := 11) rfl)) (hw _ (List.mem_of_getElem? (i := 6) rfl)) (by decide) (by decide)) (g := (mkF m 206 #[.val (.long xb), .second, iv xn] [(.int (5 : Int32)), (.long xb), (.int (5 : Int32)), (.ref b149), (.ref b149)])) rfl (by rw [hml]; rfl) (argsL := [(.long xb), (.int (5 : Int32))]) (rest := [(.int (5 : Int32)), (.ref b149), (.ref b149)]) (lenOf pd0 rfl) rfl (by show 2 * 0 + _ ≤ _; exact Nat.le_of_eq rfl) (hb hby d0_206) (fun _ _ => ⟨rfl, e179, (by decide : 1 + 0 ≤ _), (by decide : 9 + 0 ≤ _)⟩)
  dsimp only [Pt.U, Pt.locs, Pt.cells, Pt.slots] at X182 l182 y182 z182 st182 hQ182
  subst l182 y182 z182
  obtain ⟨rfl, N182, e182⟩ := hQ182
  have M182 := Fr.app N179 N182
  have g183 : Goes p e below S0 (T182.setTop (mkF m 209 #[.val (.long xb), .second, iv xn] [(.double (f_v xb (5 : Int32))), (.int (5 : Int32)), (.ref b149), (.ref b149)])) := fun t k => g181 t (st182 t k)
  obtain ⟨cl184, Ar184, q184, S184, M184, H184, G184⟩ := id V179
  obtain ⟨T185, h185, X185, e185, W185, st185⟩ := stD X182 hx hZ e182 Ar184 (j := (5 : Int32)) (inb_of S184 ⟨by decide, by decide⟩) (g := (mkF m 209 #[.val (.long xb), .second, iv xn] [(.double (f_v xb (5 : Int32))), (.int (5 : Int32)), (.ref b149), (.ref b149)])) rfl rfl (hb hby d0_209)
  have N185 := Fr.snoc X185 M182 ng149
  have V185 : Arv Z h185 b149 k149 .double (9 : Int32) [(.double (f_v xb (0 : Int32))), (.double (f_v xb (1 : Int32))), (.double (f_v xb (2 : Int32))), (.double (f_v xb (3 : Int32))), (.double (f_v xb (4 : Int32))), (.double (f_v xb (5 : Int32))), (.double (0 : UInt64)), (.double (0 : UInt64)), (.double (0 : UInt64))] (.double (0 : UInt64)) := Arv.set Ar184 q184 S184 M184 H184 G184 rfl W185 5 rfl (Nat.le_of_ble_eq_true rfl)
  have g186 : Goes p e below S0 (T185.setTop (mkF m 210 #[.val (.long xb), .second, iv xn] [(.ref b149)])) := fun t k => g183 t (st185 t k)
  have g187 : Goes p e below S0 (T185.setTop (mkF m 216 #[.val (.long xb), .second, iv xn] [(.int (6 : Int32)), (.long xb), (.int (6 : Int32)), (.ref b149), (.ref b149)])) := fun t k => g186 t (by
    refine XS.dup X185.here hx rfl (hb hby d0_210) rfl rfl ?_
    show Go p e below t T185 m 211 #[.val (.long xb), .second, iv xn] [(.ref b149), (.ref b149)]
    refine XT.bipushV X185.here hx rfl (6 : Int32) (hb hby d0_211) (by decide) ?_
    show Go p e below t T185 m 213 #[.val (.long xb), .second, iv xn] [(.int (6 : Int32)), (.ref b149), (.ref b149)]
    refine XS.lloadN X185.here hx rfl (hb hby d0_213) rfl ?_
    show Go p e below t T185 m 214 #[.val (.long xb), .second, iv xn] [(.long xb), (.int (6 : Int32)), (.ref b149), (.ref b149)]
    refine XT.bipushV X185.here hx rfl (6 : Int32) (hb hby d0_214) (by decide) ?_
    show Go p e below t T185 m 216 #[.val (.long xb), .second, iv xn] [(.int (6 : Int32)), (.long xb), (.int (6 : Int32)), (.ref b149), (.ref b149)]
    exact k)
  obtain ⟨_, _, ⟨T188, L188, k188, n188⟩, -, X188, ⟨Lc188, hQ188, l188, y188, z188⟩, st188⟩ := Jvm.LawKit.callS X185 hx (y := (⟨"com/example/borrowed_prior/borrowedprior/model/TopicModelTermProbabilityPinLaw", "v", "(JI)D"⟩ : MethodName)) hown (mvT hZ (hw _ (List.mem_of_getElem? (i := 9) rfl))) (mvT hZ (hw _ (List.mem_of_getElem? (i := 10) rfl))) (mvT hZ (hw _ (List.mem_of_getElem? (i := 6) rfl))) (mvT hZ (hw _ (List.mem_of_getElem? (i := 11) rfl))) (by decide) (backOf (W := 3) (rm_v l Z a0 hw [] xb (6 : Int32)  h185 n0 (Nat.le_trans Z0 (Nat.le_trans (Nat.le_trans (Nat.le_trans (Nat.le_trans (Nat.le_trans (Nat.le_trans (Nat.le_trans (Nat.le_refl _) E149.1) (Nat.le_of_eq W155.size.symm)) (Nat.le_of_eq W161.size.symm)) (Nat.le_of_eq W167.size.symm)) (Nat.le_of_eq W173.size.symm)) (Nat.le_of_eq W179.size.symm)) (Nat.le_of_eq W185.size.symm))) ) hZ (hw _ (List.mem_of_getElem? (i := 11) rfl)) (hw _ (List.mem_of_getElem? (i := 6) rfl)) (by decide) (by decide)) (g := (mkF m 216 #[.val (.long xb), .second, iv xn] [(.int (6 : Int32)), (.long xb), (.int (6 : Int32)), (.ref b149), (.ref b149)])) rfl (by rw [hml]; rfl) (argsL := [(.long xb), (.int (6 : Int32))]) (rest := [(.int (6 : Int32)), (.ref b149), (.ref b149)]) (lenOf pd0 rfl) rfl (by show 2 * 0 + _ ≤ _; exact Nat.le_of_eq rfl) (hb hby d0_216) (fun _ _ => ⟨rfl, e185, (by decide : 1 + 0 ≤ _), (by decide : 9 + 0 ≤ _)⟩)
  dsimp only [Pt.U, Pt.locs, Pt.cells, Pt.slots] at X188 l188 y188 z188 st188 hQ188
  subst l188 y188 z188
  obtain ⟨rfl, N188, e188⟩ := hQ188
  have M188 := Fr.app N185 N188
  have g189 : Goes p e below S0 (T188.setTop (mkF m 219 #[.val (.long xb), .second, iv xn] [(.double (f_v xb (6 : Int32))), (.int (6 : Int32)), (.ref b149), (.ref b149)])) := fun t k => g187 t (st188 t k)
  obtain ⟨cl190, Ar190, q190, S190, M190, H190, G190⟩ := id V185
  obtain ⟨T191, h191, X191, e191, W191, st191⟩ := stD X188 hx hZ e188 Ar190 (j := (6 : Int32)) (inb_of S190 ⟨by decide, by decide⟩) (g := (mkF m 219 #[.val (.long xb), .second, iv xn] [(.double (f_v xb (6 : Int32))), (.int (6 : Int32)), (.ref b149), (.ref b149)])) rfl rfl (hb hby d0_219)
  have N191 := Fr.snoc X191 M188 ng149
  have V191 : Arv Z h191 b149 k149 .double (9 : Int32) [(.double (f_v xb (0 : Int32))), (.double (f_v xb (1 : Int32))), (.double (f_v xb (2 : Int32))), (.double (f_v xb (3 : Int32))), (.double (f_v xb (4 : Int32))), (.double (f_v xb (5 : Int32))), (.double (f_v xb (6 : Int32))), (.double (0 : UInt64)), (.double (0 : UInt64))] (.double (0 : UInt64)) := Arv.set Ar190 q190 S190 M190 H190 G190 rfl W191 6 rfl (Nat.le_of_ble_eq_true rfl)
  have g192 : Goes p e below S0 (T191.setTop (mkF m 220 #[.val (.long xb), .second, iv xn] [(.ref b149)])) := fun t k => g189 t (st191 t k)
  have g193 : Goes p e below S0 (T191.setTop (mkF m 226 #[.val (.long xb), .second, iv xn] [(.int (7 : Int32)), (.long xb), (.int (7 : Int32)), (.ref b149), (.ref b149)])) := fun t k => g192 t (by
    refine XS.dup X191.here hx rfl (hb hby d0_220) rfl rfl ?_
    show Go p e below t T191 m 221 #[.val (.long xb), .second, iv xn] [(.ref b149), (.ref b149)]
    refine XT.bipushV X191.here hx rfl (7 : Int32) (hb hby d0_221) (by decide) ?_
    show Go p e below t T191 m 223 #[.val (.long xb), .second, iv xn] [(.int (7 : Int32)), (.ref b149), (.ref b149)]
    refine XS.lloadN X191.here hx rfl (hb hby d0_223) rfl ?_
    show Go p e below t T191 m 224 #[.val (.long xb), .second, iv xn] [(.long xb), (.int (7 : Int32)), (.ref b149), (.ref b149)]
    refine XT.bipushV X191.here hx rfl (7 : Int32) (hb hby d0_224) (by decide) ?_
    show Go p e below t T191 m 226 #[.val (.long xb), .second, iv xn] [(.int (7 : Int32)), (.long xb), (.int (7 : Int32)), (.ref b149), (.ref b149)]
    exact k)
  obtain ⟨_, _, ⟨T194, L194, k194, n194⟩, -, X194, ⟨Lc194, hQ194, l194, y194, z194⟩, st194⟩ := Jvm.LawKit.callS X191 hx (y := (⟨"com/example/borrowed_prior/borrowedprior/model/TopicModelTermProbabilityPinLaw", "v", "(JI)D"⟩ : MethodName)) hown (mvT hZ (hw _ (List.mem_of_getElem? (i := 9) rfl))) (mvT hZ (hw _ (List.mem_of_getElem? (i := 10) rfl))) (mvT hZ (hw _ (List.mem_of_getElem? (i := 6) rfl))) (mvT hZ (hw _ (List.mem_of_getElem? (i := 11) rfl))) (by decide) (backOf (W := 3) (rm_v l Z a0 hw [] xb (7 : Int32)  h191 n0 (Nat.le_trans Z0 (Nat.le_trans (Nat.le_trans (Nat.le_trans (Nat.le_trans (Nat.le_trans (Nat.le_trans (Nat.le_trans (Nat.le_trans (Nat.le_refl _) E149.1) (Nat.le_of_eq W155.size.symm)) (Nat.le_of_eq W161.size.symm)) (Nat.le_of_eq W167.size.symm)) (Nat.le_of_eq W173.size.symm)) (Nat.le_of_eq W179.size.symm)) (Nat.le_of_eq W185.size.symm)) (Nat.le_of_eq W191.size.symm))) ) hZ (hw _ (List.mem_of_getElem? (i := 11) rfl)) (hw _ (List.mem_of_getElem? (i := 6) rfl)) (by decide) (by decide)) (g := (mkF m 226 #[.val (.long xb), .second, iv xn] [(.int (7 : Int32)), (.long xb), (.int (7 : Int32)), (.ref b149), (.ref b149)])) rfl (by rw [hml]; rfl) (argsL := [(.long xb), (.int (7 : Int32))]) (rest := [(.int (7 : Int32)), (.ref b149), (.ref b149)]) (lenOf pd0 rfl) rfl (by show 2 * 0 + _ ≤ _; exact Nat.le_of_eq rfl) (hb hby d0_226) (fun _ _ => ⟨rfl, e191, (by decide : 1 + 0 ≤ _), (by decide : 9 + 0 ≤ _)⟩)
  dsimp only [Pt.U, Pt.locs, Pt.cells, Pt.slots] at X194 l194 y194 z194 st194 hQ194
  subst l194 y194 z194
  obtain ⟨rfl, N194, e194⟩ := hQ194
  have M194 := Fr.app N191 N194
  have g195 : Goes p e below S0 (T194.setTop (mkF m 229 #[.val (.long xb), .second, iv xn] [(.double (f_v xb (7 : Int32))), (.int (7 : Int32)), (.ref b149), (.ref b149)])) := fun t k => g193 t (st194 t k)
  obtain ⟨cl196, Ar196, q196, S196, M196, H196, G196⟩ := id V191
  obtain ⟨T197, h197, X197, e197, W197, st197⟩ := stD X194 hx hZ e194 Ar196 (j := (7 : Int32)) (inb_of S196 ⟨by decide, by decide⟩) (g := (mkF m 229 #[.val (.long xb), .second, iv xn] [(.double (f_v xb (7 : Int32))), (.int (7 : Int32)), (.ref b149), (.ref b149)])) rfl rfl (hb hby d0_229)
  have N197 := Fr.snoc X197 M194 ng149
  have V197 : Arv Z h197 b149 k149 .double (9 : Int32) [(.double (f_v xb (0 : Int32))), (.double (f_v xb (1 : Int32))), (.double (f_v xb (2 : Int32))), (.double (f_v xb (3 : Int32))), (.double (f_v xb (4 : Int32))), (.double (f_v xb (5 : Int32))), (.double (f_v xb (6 : Int32))), (.double (f_v xb (7 : Int32))), (.double (0 : UInt64))] (.double (0 : UInt64)) := Arv.set Ar196 q196 S196 M196 H196 G196 rfl W197 7 rfl (Nat.le_of_ble_eq_true rfl)
  have g198 : Goes p e below S0 (T197.setTop (mkF m 230 #[.val (.long xb), .second, iv xn] [(.ref b149)])) := fun t k => g195 t (st197 t k)
  have g199 : Goes p e below S0 (T197.setTop (mkF m 236 #[.val (.long xb), .second, iv xn] [(.int (8 : Int32)), (.long xb), (.int (8 : Int32)), (.ref b149), (.ref b149)])) := fun t k => g198 t (by
    refine XS.dup X197.here hx rfl (hb hby d0_230) rfl rfl ?_
    show Go p e below t T197 m 231 #[.val (.long xb), .second, iv xn] [(.ref b149), (.ref b149)]
    refine XT.bipushV X197.here hx rfl (8 : Int32) (hb hby d0_231) (by decide) ?_
    show Go p e below t T197 m 233 #[.val (.long xb), .second, iv xn] [(.int (8 : Int32)), (.ref b149), (.ref b149)]
    refine XS.lloadN X197.here hx rfl (hb hby d0_233) rfl ?_
    show Go p e below t T197 m 234 #[.val (.long xb), .second, iv xn] [(.long xb), (.int (8 : Int32)), (.ref b149), (.ref b149)]
    refine XT.bipushV X197.here hx rfl (8 : Int32) (hb hby d0_234) (by decide) ?_
    show Go p e below t T197 m 236 #[.val (.long xb), .second, iv xn] [(.int (8 : Int32)), (.long xb), (.int (8 : Int32)), (.ref b149), (.ref b149)]
    exact k)
  obtain ⟨_, _, ⟨T200, L200, k200, n200⟩, -, X200, ⟨Lc200, hQ200, l200, y200, z200⟩, st200⟩ := Jvm.LawKit.callS X197 hx (y := (⟨"com/example/borrowed_prior/borrowedprior/model/TopicModelTermProbabilityPinLaw", "v", "(JI)D"⟩ : MethodName)) hown (mvT hZ (hw _ (List.mem_of_getElem? (i := 9) rfl))) (mvT hZ (hw _ (List.mem_of_getElem? (i := 10) rfl))) (mvT hZ (hw _ (List.mem_of_getElem? (i := 6) rfl))) (mvT hZ (hw _ (List.mem_of_getElem? (i := 11) rfl))) (by decide) (backOf (W := 3) (rm_v l Z a0 hw [] xb (8 : Int32)  h197 n0 (Nat.le_trans Z0 (Nat.le_trans (Nat.le_trans (Nat.le_trans (Nat.le_trans (Nat.le_trans (Nat.le_trans (Nat.le_trans (Nat.le_trans (Nat.le_trans (Nat.le_refl _) E149.1) (Nat.le_of_eq W155.size.symm)) (Nat.le_of_eq W161.size.symm)) (Nat.le_of_eq W167.size.symm)) (Nat.le_of_eq W173.size.symm)) (Nat.le_of_eq W179.size.symm)) (Nat.le_of_eq W185.size.symm)) (Nat.le_of_eq W191.size.symm)) (Nat.le_of_eq W197.size.symm))) ) hZ (hw _ (List.mem_of_getElem? (i := 11) rfl)) (hw _ (List.mem_of_getElem? (i := 6) rfl)) (by decide) (by decide)) (g := (mkF m 236 #[.val (.long xb), .second, iv xn] [(.int (8 : Int32)), (.long xb), (.int (8 : Int32)), (.ref b149), (.ref b149)])) rfl (by rw [hml]; rfl) (argsL := [(.long xb), (.int (8 : Int32))]) (rest := [(.int (8 : Int32)), (.ref b149), (.ref b149)]) (lenOf pd0 rfl) rfl (by show 2 * 0 + _ ≤ _; exact Nat.le_of_eq rfl) (hb hby d0_236) (fun _ _ => ⟨rfl, e197, (by decide : 1 + 0 ≤ _), (by decide : 9 + 0 ≤ _)⟩)
  dsimp only [Pt.U, Pt.locs, Pt.cells, Pt.slots] at X200 l200 y200 z200 st200 hQ200
  subst l200 y200 z200
  obtain ⟨rfl, N200, e200⟩ := hQ200
  have M200 := Fr.app N197 N200
  have g201 : Goes p e below S0 (T200.setTop (mkF m 239 #[.val (.long xb), .second, iv xn] [(.double (f_v xb (8 : Int32))), (.int (8 : Int32)), (.ref b149), (.ref b149)])) := fun t k => g199 t (st200 t k)
  obtain ⟨cl202, Ar202, q202, S202, M202, H202, G202⟩ := id V197
  obtain ⟨T203, h203, X203, e203, W203, st203⟩ := stD X200 hx hZ e200 Ar202 (j := (8 : Int32)) (inb_of S202 ⟨by decide, by decide⟩) (g := (mkF m 239 #[.val (.long xb), .second, iv xn] [(.double (f_v xb (8 : Int32))), (.int (8 : Int32)), (.ref b149), (.ref b149)])) rfl rfl (hb hby d0_239)
  have N203 := Fr.snoc X203 M200 ng149
  have V203 : Arv Z h203 b149 k149 .double (9 : Int32) [(.double (f_v xb (0 : Int32))), (.double (f_v xb (1 : Int32))), (.double (f_v xb (2 : Int32))), (.double (f_v xb (3 : Int32))), (.double (f_v xb (4 : Int32))), (.double (f_v xb (5 : Int32))), (.double (f_v xb (6 : Int32))), (.double (f_v xb (7 : Int32))), (.double (f_v xb (8 : Int32)))] (.double (0 : UInt64)) := Arv.set Ar202 q202 S202 M202 H202 G202 rfl W203 8 rfl (Nat.le_of_ble_eq_true rfl)
  have g204 : Goes p e below S0 (T203.setTop (mkF m 240 #[.val (.long xb), .second, iv xn] [(.ref b149)])) := fun t k => g201 t (st203 t k)
  obtain ⟨fs, hr, hrun, hended, hW, hsame⟩ := X203.leave (v := some (.ref b149)) (fun h => by rw [Bd.returns] at h; cases h)
  refine ⟨_, _, g204 _ (retOut X203 hx Bd.returns rfl (Or.inr (Or.inr (Or.inr (Or.inr ⟨rfl, rfl, rfl⟩)))) (hb hby d0_240) hr), hrun, hended, _, _, rfl, ?_, ⟨_, rfl⟩, hW, hsame.mono (by decide) (by decide)⟩
  show Q_dr9 Z xb xn  h0 n0 _ T203.heap _
  rw [e203]
  exact ⟨b149, k149, rfl, N203, (((((((((((Keep.refl h0 []).ext E149).wr W155 (Or.inr sz149)).wr W161 (Or.inr sz149)).wr W167 (Or.inr sz149)).wr W173 (Or.inr sz149)).wr W179 (Or.inr sz149)).wr W185 (Or.inr sz149)).wr W191 (Or.inr sz149)).wr W197 (Or.inr sz149)).wr W203 (Or.inr sz149)), V203, sz149⟩
theorem d5_0 : decode prog_37_method_10_code 0 = .ok (.iload_n 1, 1) := by decide +kernel
theorem d5_1 : decode prog_37_method_10_code 1 = .ok (.aload_n 0, 1) := by decide +kernel
theorem d5_2 : decode prog_37_method_10_code 2 = .ok (.getfield 24, 3) := by decide +kernel
theorem d5_5 : decode prog_37_method_10_code 5 = .ok (.imul, 1) := by decide +kernel
theorem d5_6 : decode prog_37_method_10_code 6 = .ok (.istore_n 3, 1) := by decide +kernel
theorem d5_7 : decode prog_37_method_10_code 7 = .ok (.iload_n 2, 1) := by decide +kernel
theorem d5_8 : decode prog_37_method_10_code 8 = .ok (.aload_n 0, 1) := by decide +kernel
theorem d5_9 : decode prog_37_method_10_code 9 = .ok (.getfield 24, 3) := by decide +kernel
theorem d5_12 : decode prog_37_method_10_code 12 = .ok (.imul, 1) := by decide +kernel
theorem d5_13 : decode prog_37_method_10_code 13 = .ok (.istore 4, 2) := by decide +kernel
theorem d5_15 : decode prog_37_method_10_code 15 = .ok (.dconst 0, 1) := by decide +kernel
theorem d5_16 : decode prog_37_method_10_code 16 = .ok (.dstore 5, 2) := by decide +kernel
theorem d5_18 : decode prog_37_method_10_code 18 = .ok (.iconst 0, 1) := by decide +kernel
theorem d5_19 : decode prog_37_method_10_code 19 = .ok (.istore 7, 2) := by decide +kernel
theorem d5_21 : decode prog_37_method_10_code 21 = .ok (.iload 7, 2) := by decide +kernel
theorem d5_23 : decode prog_37_method_10_code 23 = .ok (.aload_n 0, 1) := by decide +kernel
theorem d5_24 : decode prog_37_method_10_code 24 = .ok (.getfield 24, 3) := by decide +kernel
theorem d5_27 : decode prog_37_method_10_code 27 = .ok (.if_icmp .ge 34, 3) := by decide +kernel
theorem d5_30 : decode prog_37_method_10_code 30 = .ok (.dload 5, 2) := by decide +kernel
theorem d5_32 : decode prog_37_method_10_code 32 = .ok (.aload_n 0, 1) := by decide +kernel
theorem d5_33 : decode prog_37_method_10_code 33 = .ok (.getfield 42, 3) := by decide +kernel
theorem d5_36 : decode prog_37_method_10_code 36 = .ok (.iload 4, 2) := by decide +kernel
theorem d5_38 : decode prog_37_method_10_code 38 = .ok (.iload 7, 2) := by decide +kernel
theorem d5_40 : decode prog_37_method_10_code 40 = .ok (.iadd, 1) := by decide +kernel
theorem d5_41 : decode prog_37_method_10_code 41 = .ok (.daload, 1) := by decide +kernel
theorem d5_42 : decode prog_37_method_10_code 42 = .ok (.aload_n 0, 1) := by decide +kernel
theorem d5_43 : decode prog_37_method_10_code 43 = .ok (.getfield 38, 3) := by decide +kernel
theorem d5_46 : decode prog_37_method_10_code 46 = .ok (.iload_n 3, 1) := by decide +kernel
theorem d5_47 : decode prog_37_method_10_code 47 = .ok (.iload 7, 2) := by decide +kernel
theorem d5_49 : decode prog_37_method_10_code 49 = .ok (.iadd, 1) := by decide +kernel
theorem d5_50 : decode prog_37_method_10_code 50 = .ok (.daload, 1) := by decide +kernel
theorem d5_51 : decode prog_37_method_10_code 51 = .ok (.dmul, 1) := by decide +kernel
theorem d5_52 : decode prog_37_method_10_code 52 = .ok (.dadd, 1) := by decide +kernel
theorem d5_53 : decode prog_37_method_10_code 53 = .ok (.dstore 5, 2) := by decide +kernel
theorem d5_55 : decode prog_37_method_10_code 55 = .ok (.iinc 7 1, 3) := by decide +kernel
theorem d5_58 : decode prog_37_method_10_code 58 = .ok (.goto (-37), 3) := by decide +kernel
theorem d5_61 : decode prog_37_method_10_code 61 = .ok (.dload 5, 2) := by decide +kernel
theorem d5_63 : decode prog_37_method_10_code 63 = .ok (.dreturn, 1) := by decide +kernel
theorem pd4 : parseMethodDescriptor "(II)D" = some ⟨[.int, .int], some .double⟩ := by decide +kernel
theorem pf_tp1 : plainFor (⟨"com/example/borrowed_prior/borrowedprior/model/TopicModel", "termProbability", "(II)D"⟩ : MethodName) = true := by first | exact plainFor_of_name (by first | (simp [plainName, overriddenIn, x]; done) | decide +kernel) | exact Jvm.Free.JP.mathPlain rfl (by decide +kernel) | decide +kernel
theorem ef_tp1 (m : MethodId) (za : Addr) (xd : Int32) (xw : Int32) : entryFrame m #[(.ref za), (.int xd), (.int xw)] 8 = mkF m 0 #[rv za, iv xd, iv xw, .unset, .unset, .unset, .unset, .unset] [] := by first | (simp [entryFrame, mkF, argsToLocals, Value.category, maxLocals]; done) | rfl
def Q_tp1 (Z : State) (za : Addr) (xd : Int32) (xw : Int32) (pa : Addr) (da : Addr) (pk : ClassId) (pn : Int32) (pv : List Value) (pq : Value) (dk : ClassId) (dn : Int32) (dv : List Value) (dq : Value) (a0 : UInt64) (b0 : UInt64) (h0 : Heap) (n0 : Nat) (v : Option Value) (h : Heap) (L : List Loc) : Prop := v = some (.double (FP.dadd (0 : UInt64) (FP.dmul a0 b0))) ∧ Fr n0 L ∧ h = h0
set_option maxRecDepth 65536 in
set_option maxHeartbeats 40000000 in
theorem rm_tp1 (l : Launch) (Z : State) (a0 : Array Value) (hw : ∀ d ∈ tables_1, d.before a0 Z = true) (ws : List Jvm.Cond) (za : Addr) (xd : Int32) (xw : Int32) (pa : Addr) (da : Addr) (pk : ClassId) (pn : Int32) (pv : List Value) (pq : Value) (dk : ClassId) (dn : Int32) (dv : List Value) (dq : Value) (a0 : UInt64) (b0 : UInt64) (h0 : Heap) (n0 : Nat) (Z0 : n0 ≤ h0.size) (P0 : Fld Z h0 za "com/example/borrowed_prior/borrowedprior/model/TopicModel" "topicCount" "I" (.int (1 : Int32))) (P1 : Fld Z h0 za "com/example/borrowed_prior/borrowedprior/model/TopicModel" "termTopics" "[D" (.ref pa)) (P2 : Fld Z h0 za "com/example/borrowed_prior/borrowedprior/model/TopicModel" "documentTopics" "[D" (.ref da)) (P3 : Arv Z h0 pa pk .double pn pv pq) (P4 : Arv Z h0 da dk .double dn dv dq) (ia0 : ¬ ((xw * (1 : Int32)) + (0 : Int32)) < 0 ∧ ((xw * (1 : Int32)) + (0 : Int32)) < pn) (ea0 : pv.getD ((xw * (1 : Int32)) + (0 : Int32)).toNatClampNeg pq = .double a0) (ib0 : ¬ ((xd * (1 : Int32)) + (0 : Int32)) < 0 ∧ ((xd * (1 : Int32)) + (0 : Int32)) < dn) (eb0 : dv.getD ((xd * (1 : Int32)) + (0 : Int32)).toNatClampNeg dq = .double b0) (va0 : Nib a0) (vb0 : Nib b0)  :
    MetFree l (⟨"com/example/borrowed_prior/borrowedprior/model/TopicModel", "termProbability", "(II)D"⟩ : MethodName) (head1 (Jvm.Cond.code (⟨"com/example/borrowed_prior/borrowedprior/model/TopicModel", "termProbability", "(II)D"⟩ : MethodName) prog_37_method_10_code 8 (some .double) :: ws) ({ frames := 0, cells := 0, slots := 0, locals := 0 } : Room)) (fun a U => a = #[(.ref za), (.int xd), (.int xw)] ∧ Z.Warmed39 U.vm ∧ U.heap = h0) (fun _ _ _ _ _ => True) (fun _ U o U' => ∃ v L, o = .returned v ∧ Q_tp1 Z za xd xw pa da pk pn pv pq dk dn dv dq a0 b0 h0 n0 v U'.heap L ∧ FrameEnd U o U' L ({ frames := 0, cells := 0, slots := 0, locals := 0 } : Room).cells ({ frames := 0, cells := 0, slots := 0, locals := 0 } : Room).slots) := by
  refine MetFree.of_bodySF pf_tp1 hisR ?_
  intro p e s m args below meth c s₁ Bd hml0 hP hK
  obtain ⟨rfl, hZ, hh⟩ := hP
  have hx := Bd.exec
  have hby := Bd.bytes
  have hml : c.maxLocals = 8 := hml0
  have hown : s.vm.findClass "com/example/borrowed_prior/borrowedprior/model/TopicModel" = some m.cls := findClass_of_methodNamed Bd.named
  have hnm := (name_of_methodNamed Bd.named Bd.method).1
  have X0 : Stand p l e ({ frames := 0, cells := 0, slots := 0, locals := 0 } : Room) s m #[(.ref za), (.int xd), (.int xw)] below meth c s₁ [] 0 0 := Stand.of_body Bd
  have e0 : s₁.heap = h0 := by rw [← hh, Bd.state]; rfl
  have N0 := Fr.nil n0
  obtain ⟨S0, hS0⟩ : ∃ z, z = s₁.setTop (entryFrame m #[(.ref za), (.int xd), (.int xw)] 8) := ⟨_, rfl⟩
  rw [← hS0]
  have g0 : Goes p e below S0 (s₁.setTop (mkF m 0 #[rv za, iv xd, iv xw, .unset, .unset, .unset, .unset, .unset] [])) := fun t k => by rw [hS0]; exact castTop (ef_tp1 m za xd xw) k
  have g205 : Goes p e below S0 (s₁.setTop (mkF m 2 #[rv za, iv xd, iv xw, .unset, .unset, .unset, .unset, .unset] [(.ref za), (.int xd)])) := fun t k => g0 t (by
    refine XS.iloadN X0.here hx rfl (hb hby d5_0) rfl ?_
    show Go p e below t s₁ m 1 #[rv za, iv xd, iv xw, .unset, .unset, .unset, .unset, .unset] [(.int xd)]
    refine XS.aloadN X0.here hx rfl (hb hby d5_1) rfl rfl ?_
    show Go p e below t s₁ m 2 #[rv za, iv xd, iv xw, .unset, .unset, .unset, .unset, .unset] [(.ref za), (.int xd)]
    exact k)
  obtain ⟨T206, X206, e206, st206⟩ := getF X0 hx hZ hown (host := "") (Or.inl (hw _ (List.mem_of_getElem? (i := 23) rfl))) Via.refl e0 P0 (g := (mkF m 2 #[rv za, iv xd, iv xw, .unset, .unset, .unset, .unset, .unset] [(.ref za), (.int xd)])) rfl rfl (hb hby d5_2)
  have g207 : Goes p e below S0 (T206.setTop (mkF m 5 #[rv za, iv xd, iv xw, .unset, .unset, .unset, .unset, .unset] [(.int (1 : Int32)), (.int xd)])) := fun t k => g205 t (st206 t k)
  have g208 : Goes p e below S0 (T206.setTop (mkF m 9 #[rv za, iv xd, iv xw, iv (xd * (1 : Int32)), .unset, .unset, .unset, .unset] [(.ref za), (.int xw)])) := fun t k => g207 t (by
    refine XS.imul X206.here hx rfl (hb hby d5_5) rfl ?_
    show Go p e below t T206 m 6 #[rv za, iv xd, iv xw, .unset, .unset, .unset, .unset, .unset] [(.int (xd * (1 : Int32)))]
    refine XS.istoreN X206.here hx rfl (hb hby d5_6) rfl (l' := #[rv za, iv xd, iv xw, iv (xd * (1 : Int32)), .unset, .unset, .unset, .unset]) rfl ?_
    show Go p e below t T206 m 7 #[rv za, iv xd, iv xw, iv (xd * (1 : Int32)), .unset, .unset, .unset, .unset] []
    refine XS.iloadN X206.here hx rfl (hb hby d5_7) rfl ?_
    show Go p e below t T206 m 8 #[rv za, iv xd, iv xw, iv (xd * (1 : Int32)), .unset, .unset, .unset, .unset] [(.int xw)]
    refine XS.aloadN X206.here hx rfl (hb hby d5_8) rfl rfl ?_
    show Go p e below t T206 m 9 #[rv za, iv xd, iv xw, iv (xd * (1 : Int32)), .unset, .unset, .unset, .unset] [(.ref za), (.int xw)]
    exact k)
  obtain ⟨T209, X209, e209, st209⟩ := getF X206 hx hZ hown (host := "") (Or.inl (hw _ (List.mem_of_getElem? (i := 23) rfl))) Via.refl e206 P0 (g := (mkF m 9 #[rv za, iv xd, iv xw, iv (xd * (1 : Int32)), .unset, .unset, .unset, .unset] [(.ref za), (.int xw)])) rfl rfl (hb hby d5_9)
  have g210 : Goes p e below S0 (T209.setTop (mkF m 12 #[rv za, iv xd, iv xw, iv (xd * (1 : Int32)), .unset, .unset, .unset, .unset] [(.int (1 : Int32)), (.int xw)])) := fun t k => g208 t (st209 t k)
  have g211 : Goes p e below S0 (T209.setTop (mkF m 24 #[rv za, iv xd, iv xw, iv (xd * (1 : Int32)), iv (xw * (1 : Int32)), .val (.double (0 : UInt64)), .second, iv (0 : Int32)] [(.ref za), (.int (0 : Int32))])) := fun t k => g210 t (by
    refine XS.imul X209.here hx rfl (hb hby d5_12) rfl ?_
    show Go p e below t T209 m 13 #[rv za, iv xd, iv xw, iv (xd * (1 : Int32)), .unset, .unset, .unset, .unset] [(.int (xw * (1 : Int32)))]
    refine XS.istore X209.here hx rfl (hb hby d5_13) rfl (l' := #[rv za, iv xd, iv xw, iv (xd * (1 : Int32)), iv (xw * (1 : Int32)), .unset, .unset, .unset]) rfl ?_
    show Go p e below t T209 m 15 #[rv za, iv xd, iv xw, iv (xd * (1 : Int32)), iv (xw * (1 : Int32)), .unset, .unset, .unset] []
    refine XS.dconst0 X209.here hx rfl (hb hby d5_15) (v := (0 : UInt64)) rfl ?_
    show Go p e below t T209 m 16 #[rv za, iv xd, iv xw, iv (xd * (1 : Int32)), iv (xw * (1 : Int32)), .unset, .unset, .unset] [(.double (0 : UInt64))]
    refine XS.dstore X209.here hx rfl (hb hby d5_16) rfl (l' := #[rv za, iv xd, iv xw, iv (xd * (1 : Int32)), iv (xw * (1 : Int32)), .val (.double (0 : UInt64)), .second, .unset]) rfl ?_
    show Go p e below t T209 m 18 #[rv za, iv xd, iv xw, iv (xd * (1 : Int32)), iv (xw * (1 : Int32)), .val (.double (0 : UInt64)), .second, .unset] []
    refine XT.iconstV X209.here hx rfl (0 : Int32) (hb hby d5_18) (by decide) ?_
    show Go p e below t T209 m 19 #[rv za, iv xd, iv xw, iv (xd * (1 : Int32)), iv (xw * (1 : Int32)), .val (.double (0 : UInt64)), .second, .unset] [(.int (0 : Int32))]
    refine XS.istore X209.here hx rfl (hb hby d5_19) rfl (l' := #[rv za, iv xd, iv xw, iv (xd * (1 : Int32)), iv (xw * (1 : Int32)), .val (.double (0 : UInt64)), .second, iv (0 : Int32)]) rfl ?_
    show Go p e below t T209 m 21 #[rv za, iv xd, iv xw, iv (xd * (1 : Int32)), iv (xw * (1 : Int32)), .val (.double (0 : UInt64)), .second, iv (0 : Int32)] []
    refine XS.iload X209.here hx rfl (hb hby d5_21) rfl ?_
    show Go p e below t T209 m 23 #[rv za, iv xd, iv xw, iv (xd * (1 : Int32)), iv (xw * (1 : Int32)), .val (.double (0 : UInt64)), .second, iv (0 : Int32)] [(.int (0 : Int32))]
    refine XS.aloadN X209.here hx rfl (hb hby d5_23) rfl rfl ?_
    show Go p e below t T209 m 24 #[rv za, iv xd, iv xw, iv (xd * (1 : Int32)), iv (xw * (1 : Int32)), .val (.double (0 : UInt64)), .second, iv (0 : Int32)] [(.ref za), (.int (0 : Int32))]
    exact k)
  obtain ⟨T212, X212, e212, st212⟩ := getF X209 hx hZ hown (host := "") (Or.inl (hw _ (List.mem_of_getElem? (i := 23) rfl))) Via.refl e209 P0 (g := (mkF m 24 #[rv za, iv xd, iv xw, iv (xd * (1 : Int32)), iv (xw * (1 : Int32)), .val (.double (0 : UInt64)), .second, iv (0 : Int32)] [(.ref za), (.int (0 : Int32))])) rfl rfl (hb hby d5_24)
  have g213 : Goes p e below S0 (T212.setTop (mkF m 27 #[rv za, iv xd, iv xw, iv (xd * (1 : Int32)), iv (xw * (1 : Int32)), .val (.double (0 : UInt64)), .second, iv (0 : Int32)] [(.int (1 : Int32)), (.int (0 : Int32))])) := fun t k => g211 t (st212 t k)
  have g214 : Goes p e below S0 (T212.setTop (mkF m 33 #[rv za, iv xd, iv xw, iv (xd * (1 : Int32)), iv (xw * (1 : Int32)), .val (.double (0 : UInt64)), .second, iv (0 : Int32)] [(.ref za), (.double (0 : UInt64))])) := fun t k => g213 t (by
    refine XS.icmpNo X212.here hx rfl (hb hby d5_27) rfl (XT.ii_ge_f (by decide)) ?_
    show Go p e below t T212 m 30 #[rv za, iv xd, iv xw, iv (xd * (1 : Int32)), iv (xw * (1 : Int32)), .val (.double (0 : UInt64)), .second, iv (0 : Int32)] []
    refine XS.dload X212.here hx rfl (hb hby d5_30) rfl ?_
    show Go p e below t T212 m 32 #[rv za, iv xd, iv xw, iv (xd * (1 : Int32)), iv (xw * (1 : Int32)), .val (.double (0 : UInt64)), .second, iv (0 : Int32)] [(.double (0 : UInt64))]
    refine XS.aloadN X212.here hx rfl (hb hby d5_32) rfl rfl ?_
    show Go p e below t T212 m 33 #[rv za, iv xd, iv xw, iv (xd * (1 : Int32)), iv (xw * (1 : Int32)), .val (.double (0 : UInt64)), .second, iv (0 : Int32)] [(.ref za), (.double (0 : UInt64))]
    exact k)
  obtain ⟨T215, X215, e215, st215⟩ := getF X212 hx hZ hown (host := "") (Or.inl (hw _ (List.mem_of_getElem? (i := 33) rfl))) Via.refl e212 P1 (g := (mkF m 33 #[rv za, iv xd, iv xw, iv (xd * (1 : Int32)), iv (xw * (1 : Int32)), .val (.double (0 : UInt64)), .second, iv (0 : Int32)] [(.ref za), (.double (0 : UInt64))])) rfl rfl (hb hby d5_33)
  have g216 : Goes p e below S0 (T215.setTop (mkF m 36 #[rv za, iv xd, iv xw, iv (xd * (1 : Int32)), iv (xw * (1 : Int32)), .val (.double (0 : UInt64)), .second, iv (0 : Int32)] [(.ref pa), (.double (0 : UInt64))])) := fun t k => g214 t (st215 t k)
  have g217 : Goes p e below S0 (T215.setTop (mkF m 41 #[rv za, iv xd, iv xw, iv (xd * (1 : Int32)), iv (xw * (1 : Int32)), .val (.double (0 : UInt64)), .second, iv (0 : Int32)] [(.int ((xw * (1 : Int32)) + (0 : Int32))), (.ref pa), (.double (0 : UInt64))])) := fun t k => g216 t (by
    refine XS.iload X215.here hx rfl (hb hby d5_36) rfl ?_
    show Go p e below t T215 m 38 #[rv za, iv xd, iv xw, iv (xd * (1 : Int32)), iv (xw * (1 : Int32)), .val (.double (0 : UInt64)), .second, iv (0 : Int32)] [(.int (xw * (1 : Int32))), (.ref pa), (.double (0 : UInt64))]
    refine XS.iload X215.here hx rfl (hb hby d5_38) rfl ?_
    show Go p e below t T215 m 40 #[rv za, iv xd, iv xw, iv (xd * (1 : Int32)), iv (xw * (1 : Int32)), .val (.double (0 : UInt64)), .second, iv (0 : Int32)] [(.int (0 : Int32)), (.int (xw * (1 : Int32))), (.ref pa), (.double (0 : UInt64))]
    refine XS.iadd X215.here hx rfl (hb hby d5_40) rfl ?_
    show Go p e below t T215 m 41 #[rv za, iv xd, iv xw, iv (xd * (1 : Int32)), iv (xw * (1 : Int32)), .val (.double (0 : UInt64)), .second, iv (0 : Int32)] [(.int ((xw * (1 : Int32)) + (0 : Int32))), (.ref pa), (.double (0 : UInt64))]
    exact k)
  obtain ⟨cl218, Ar218, q218, S218, M218, H218, G218⟩ := id P3
  have g219 : Goes p e below S0 (T215.setTop (mkF m 43 #[rv za, iv xd, iv xw, iv (xd * (1 : Int32)), iv (xw * (1 : Int32)), .val (.double (0 : UInt64)), .second, iv (0 : Int32)] [(.ref za), (.double a0), (.double (0 : UInt64))])) := fun t k => g217 t (by
    refine X215.daload hx (j := ((xw * (1 : Int32)) + (0 : Int32))) (v := (.double a0)) (by rw [e215]; exact Ar218.1) (State.isArrayOf_alike hZ.alike Ar218.2.1) Ar218.2.2 (inb_of S218 ia0) (H218.at (inb_of S218 ia0) ea0) (g := (mkF m 41 #[rv za, iv xd, iv xw, iv (xd * (1 : Int32)), iv (xw * (1 : Int32)), .val (.double (0 : UInt64)), .second, iv (0 : Int32)] [(.int ((xw * (1 : Int32)) + (0 : Int32))), (.ref pa), (.double (0 : UInt64))])) rfl rfl (hb hby d5_41) _ ?_
    show Go p e below t T215 m 42 #[rv za, iv xd, iv xw, iv (xd * (1 : Int32)), iv (xw * (1 : Int32)), .val (.double (0 : UInt64)), .second, iv (0 : Int32)] [(.double a0), (.double (0 : UInt64))]
    refine XS.aloadN X215.here hx rfl (hb hby d5_42) rfl rfl ?_
    show Go p e below t T215 m 43 #[rv za, iv xd, iv xw, iv (xd * (1 : Int32)), iv (xw * (1 : Int32)), .val (.double (0 : UInt64)), .second, iv (0 : Int32)] [(.ref za), (.double a0), (.double (0 : UInt64))]
    exact k)
  obtain ⟨T220, X220, e220, st220⟩ := getF X215 hx hZ hown (host := "") (Or.inl (hw _ (List.mem_of_getElem? (i := 31) rfl))) Via.refl e215 P2 (g := (mkF m 43 #[rv za, iv xd, iv xw, iv (xd * (1 : Int32)), iv (xw * (1 : Int32)), .val (.double (0 : UInt64)), .second, iv (0 : Int32)] [(.ref za), (.double a0), (.double (0 : UInt64))])) rfl rfl (hb hby d5_43)
  have g221 : Goes p e below S0 (T220.setTop (mkF m 46 #[rv za, iv xd, iv xw, iv (xd * (1 : Int32)), iv (xw * (1 : Int32)), .val (.double (0 : UInt64)), .second, iv (0 : Int32)] [(.ref da), (.double a0), (.double (0 : UInt64))])) := fun t k => g219 t (st220 t k)
  have g222 : Goes p e below S0 (T220.setTop (mkF m 50 #[rv za, iv xd, iv xw, iv (xd * (1 : Int32)), iv (xw * (1 : Int32)), .val (.double (0 : UInt64)), .second, iv (0 : Int32)] [(.int ((xd * (1 : Int32)) + (0 : Int32))), (.ref da), (.double a0), (.double (0 : UInt64))])) := fun t k => g221 t (by
    refine XS.iloadN X220.here hx rfl (hb hby d5_46) rfl ?_
    show Go p e below t T220 m 47 #[rv za, iv xd, iv xw, iv (xd * (1 : Int32)), iv (xw * (1 : Int32)), .val (.double (0 : UInt64)), .second, iv (0 : Int32)] [(.int (xd * (1 : Int32))), (.ref da), (.double a0), (.double (0 : UInt64))]
    refine XS.iload X220.here hx rfl (hb hby d5_47) rfl ?_
    show Go p e below t T220 m 49 #[rv za, iv xd, iv xw, iv (xd * (1 : Int32)), iv (xw * (1 : Int32)), .val (.double (0 : UInt64)), .second, iv (0 : Int32)] [(.int (0 : Int32)), (.int (xd * (1 : Int32))), (.ref da), (.double a0), (.double (0 : UInt64))]
    refine XS.iadd X220.here hx rfl (hb hby d5_49) rfl ?_
    show Go p e below t T220 m 50 #[rv za, iv xd, iv xw, iv (xd * (1 : Int32)), iv (xw * (1 : Int32)), .val (.double (0 : UInt64)), .second, iv (0 : Int32)] [(.int ((xd * (1 : Int32)) + (0 : Int32))), (.ref da), (.double a0), (.double (0 : UInt64))]
    exact k)
  obtain ⟨cl223, Ar223, q223, S223, M223, H223, G223⟩ := id P4
  have g224 : Goes p e below S0 (T220.setTop (mkF m 24 #[rv za, iv xd, iv xw, iv (xd * (1 : Int32)), iv (xw * (1 : Int32)), .val (.double (FP.dadd (0 : UInt64) (FP.dmul a0 b0))), .second, iv (1 : Int32)] [(.ref za), (.int (1 : Int32))])) := fun t k => g222 t (by
    refine X220.daload hx (j := ((xd * (1 : Int32)) + (0 : Int32))) (v := (.double b0)) (by rw [e220]; exact Ar223.1) (State.isArrayOf_alike hZ.alike Ar223.2.1) Ar223.2.2 (inb_of S223 ib0) (H223.at (inb_of S223 ib0) eb0) (g := (mkF m 50 #[rv za, iv xd, iv xw, iv (xd * (1 : Int32)), iv (xw * (1 : Int32)), .val (.double (0 : UInt64)), .second, iv (0 : Int32)] [(.int ((xd * (1 : Int32)) + (0 : Int32))), (.ref da), (.double a0), (.double (0 : UInt64))])) rfl rfl (hb hby d5_50) _ ?_
    show Go p e below t T220 m 51 #[rv za, iv xd, iv xw, iv (xd * (1 : Int32)), iv (xw * (1 : Int32)), .val (.double (0 : UInt64)), .second, iv (0 : Int32)] [(.double b0), (.double a0), (.double (0 : UInt64))]
    refine XS.dmulS X220.here hx rfl (hb hby d5_51) rfl (Pr.nn (Pr.mul va0 vb0)) rfl ?_
    show Go p e below t T220 m 52 #[rv za, iv xd, iv xw, iv (xd * (1 : Int32)), iv (xw * (1 : Int32)), .val (.double (0 : UInt64)), .second, iv (0 : Int32)] [(.double (FP.dmul a0 b0)), (.double (0 : UInt64))]
    refine XS.daddS X220.here hx rfl (hb hby d5_52) rfl (Pr.nn (Pr.add Pr.zero (Pr.mul va0 vb0) (by decide))) rfl ?_
    show Go p e below t T220 m 53 #[rv za, iv xd, iv xw, iv (xd * (1 : Int32)), iv (xw * (1 : Int32)), .val (.double (0 : UInt64)), .second, iv (0 : Int32)] [(.double (FP.dadd (0 : UInt64) (FP.dmul a0 b0)))]
    refine XS.dstore X220.here hx rfl (hb hby d5_53) rfl (l' := #[rv za, iv xd, iv xw, iv (xd * (1 : Int32)), iv (xw * (1 : Int32)), .val (.double (FP.dadd (0 : UInt64) (FP.dmul a0 b0))), .second, iv (0 : Int32)]) rfl ?_
    show Go p e below t T220 m 55 #[rv za, iv xd, iv xw, iv (xd * (1 : Int32)), iv (xw * (1 : Int32)), .val (.double (FP.dadd (0 : UInt64) (FP.dmul a0 b0))), .second, iv (0 : Int32)] []
    refine XT.iincV X220.here hx rfl (1 : Int32) (hb hby d5_55) (by decide) rfl (l' := #[rv za, iv xd, iv xw, iv (xd * (1 : Int32)), iv (xw * (1 : Int32)), .val (.double (FP.dadd (0 : UInt64) (FP.dmul a0 b0))), .second, iv (1 : Int32)]) rfl ?_
    show Go p e below t T220 m 58 #[rv za, iv xd, iv xw, iv (xd * (1 : Int32)), iv (xw * (1 : Int32)), .val (.double (FP.dadd (0 : UInt64) (FP.dmul a0 b0))), .second, iv (1 : Int32)] []
    refine XS.goto X220.here hx rfl (pc0 := 58) (pc' := 21) rfl (hb hby d5_58) (by decide) (by decide) ?_
    show Go p e below t T220 m 21 #[rv za, iv xd, iv xw, iv (xd * (1 : Int32)), iv (xw * (1 : Int32)), .val (.double (FP.dadd (0 : UInt64) (FP.dmul a0 b0))), .second, iv (1 : Int32)] []
    refine XS.iload X220.here hx rfl (hb hby d5_21) rfl ?_
    show Go p e below t T220 m 23 #[rv za, iv xd, iv xw, iv (xd * (1 : Int32)), iv (xw * (1 : Int32)), .val (.double (FP.dadd (0 : UInt64) (FP.dmul a0 b0))), .second, iv (1 : Int32)] [(.int (1 : Int32))]
    refine XS.aloadN X220.here hx rfl (hb hby d5_23) rfl rfl ?_
    show Go p e below t T220 m 24 #[rv za, iv xd, iv xw, iv (xd * (1 : Int32)), iv (xw * (1 : Int32)), .val (.double (FP.dadd (0 : UInt64) (FP.dmul a0 b0))), .second, iv (1 : Int32)] [(.ref za), (.int (1 : Int32))]
    exact k)
  obtain ⟨T225, X225, e225, st225⟩ := getF X220 hx hZ hown (host := "") (Or.inl (hw _ (List.mem_of_getElem? (i := 23) rfl))) Via.refl e220 P0 (g := (mkF m 24 #[rv za, iv xd, iv xw, iv (xd * (1 : Int32)), iv (xw * (1 : Int32)), .val (.double (FP.dadd (0 : UInt64) (FP.dmul a0 b0))), .second, iv (1 : Int32)] [(.ref za), (.int (1 : Int32))])) rfl rfl (hb hby d5_24)
  have g226 : Goes p e below S0 (T225.setTop (mkF m 27 #[rv za, iv xd, iv xw, iv (xd * (1 : Int32)), iv (xw * (1 : Int32)), .val (.double (FP.dadd (0 : UInt64) (FP.dmul a0 b0))), .second, iv (1 : Int32)] [(.int (1 : Int32)), (.int (1 : Int32))])) := fun t k => g224 t (st225 t k)
  have g227 : Goes p e below S0 (T225.setTop (mkF m 63 #[rv za, iv xd, iv xw, iv (xd * (1 : Int32)), iv (xw * (1 : Int32)), .val (.double (FP.dadd (0 : UInt64) (FP.dmul a0 b0))), .second, iv (1 : Int32)] [(.double (FP.dadd (0 : UInt64) (FP.dmul a0 b0)))])) := fun t k => g226 t (by
    refine XS.icmpYes X225.here hx rfl (pc0 := 27) (pc' := 61) rfl (hb hby d5_27) rfl (XT.ii_ge_t (by decide)) (by decide) (by decide) ?_
    show Go p e below t T225 m 61 #[rv za, iv xd, iv xw, iv (xd * (1 : Int32)), iv (xw * (1 : Int32)), .val (.double (FP.dadd (0 : UInt64) (FP.dmul a0 b0))), .second, iv (1 : Int32)] []
    refine XS.dload X225.here hx rfl (hb hby d5_61) rfl ?_
    show Go p e below t T225 m 63 #[rv za, iv xd, iv xw, iv (xd * (1 : Int32)), iv (xw * (1 : Int32)), .val (.double (FP.dadd (0 : UInt64) (FP.dmul a0 b0))), .second, iv (1 : Int32)] [(.double (FP.dadd (0 : UInt64) (FP.dmul a0 b0)))]
    exact k)
  obtain ⟨fs, hr, hrun, hended, hW, hsame⟩ := X225.leave (v := some (.double (FP.dadd (0 : UInt64) (FP.dmul a0 b0)))) (fun h => by rw [Bd.returns] at h; cases h)
  refine ⟨_, _, g227 _ (retOut X225 hx Bd.returns rfl (Or.inr (Or.inr (Or.inl ⟨rfl, rfl, _, rfl⟩))) (hb hby d5_63) hr), hrun, hended, _, _, rfl, ?_, ⟨_, rfl⟩, hW, hsame.mono (by decide) (by decide)⟩
  show Q_tp1 Z za xd xw pa da pk pn pv pq dk dn dv dq a0 b0 h0 n0 _ T225.heap _
  rw [e225]
  exact ⟨rfl, N0, rfl⟩
theorem pf_tp2 : plainFor (⟨"com/example/borrowed_prior/borrowedprior/model/TopicModel", "termProbability", "(II)D"⟩ : MethodName) = true := by first | exact plainFor_of_name (by first | (simp [plainName, overriddenIn, x]; done) | decide +kernel) | exact Jvm.Free.JP.mathPlain rfl (by decide +kernel) | decide +kernel
theorem ef_tp2 (m : MethodId) (za : Addr) (xd : Int32) (xw : Int32) : entryFrame m #[(.ref za), (.int xd), (.int xw)] 8 = mkF m 0 #[rv za, iv xd, iv xw, .unset, .unset, .unset, .unset, .unset] [] := by first | (simp [entryFrame, mkF, argsToLocals, Value.category, maxLocals]; done) | rfl
def Q_tp2 (Z : State) (za : Addr) (xd : Int32) (xw : Int32) (pa : Addr) (da : Addr) (pk : ClassId) (pn : Int32) (pv : List Value) (pq : Value) (dk : ClassId) (dn : Int32) (dv : List Value) (dq : Value) (a0 : UInt64) (a1 : UInt64) (b0 : UInt64) (b1 : UInt64) (h0 : Heap) (n0 : Nat) (v : Option Value) (h : Heap) (L : List Loc) : Prop := v = some (.double (FP.dadd (FP.dadd (0 : UInt64) (FP.dmul a0 b0)) (FP.dmul a1 b1))) ∧ Fr n0 L ∧ h = h0
set_option maxRecDepth 65536 in
set_option maxHeartbeats 40000000 in
theorem rm_tp2 (l : Launch) (Z : State) (a0 : Array Value) (hw : ∀ d ∈ tables_1, d.before a0 Z = true) (ws : List Jvm.Cond) (za : Addr) (xd : Int32) (xw : Int32) (pa : Addr) (da : Addr) (pk : ClassId) (pn : Int32) (pv : List Value) (pq : Value) (dk : ClassId) (dn : Int32) (dv : List Value) (dq : Value) (a0 : UInt64) (a1 : UInt64) (b0 : UInt64) (b1 : UInt64) (h0 : Heap) (n0 : Nat) (Z0 : n0 ≤ h0.size) (P0 : Fld Z h0 za "com/example/borrowed_prior/borrowedprior/model/TopicModel" "topicCount" "I" (.int (2 : Int32))) (P1 : Fld Z h0 za "com/example/borrowed_prior/borrowedprior/model/TopicModel" "termTopics" "[D" (.ref pa)) (P2 : Fld Z h0 za "com/example/borrowed_prior/borrowedprior/model/TopicModel" "documentTopics" "[D" (.ref da)) (P3 : Arv Z h0 pa pk .double pn pv pq) (P4 : Arv Z h0 da dk .double dn dv dq) (ia0 : ¬ ((xw * (2 : Int32)) + (0 : Int32)) < 0 ∧ ((xw * (2 : Int32)) + (0 : Int32)) < pn) (ea0 : pv.getD ((xw * (2 : Int32)) + (0 : Int32)).toNatClampNeg pq = .double a0) (ib0 : ¬ ((xd * (2 : Int32)) + (0 : Int32)) < 0 ∧ ((xd * (2 : Int32)) + (0 : Int32)) < dn) (eb0 : dv.getD ((xd * (2 : Int32)) + (0 : Int32)).toNatClampNeg dq = .double b0) (va0 : Nib a0) (vb0 : Nib b0) (ia1 : ¬ ((xw * (2 : Int32)) + (1 : Int32)) < 0 ∧ ((xw * (2 : Int32)) + (1 : Int32)) < pn) (ea1 : pv.getD ((xw * (2 : Int32)) + (1 : Int32)).toNatClampNeg pq = .double a1) (ib1 : ¬ ((xd * (2 : Int32)) + (1 : Int32)) < 0 ∧ ((xd * (2 : Int32)) + (1 : Int32)) < dn) (eb1 : dv.getD ((xd * (2 : Int32)) + (1 : Int32)).toNatClampNeg dq = .double b1) (va1 : Nib a1) (vb1 : Nib b1)  :
    MetFree l (⟨"com/example/borrowed_prior/borrowedprior/model/TopicModel", "termProbability", "(II)D"⟩ : MethodName) (head1 (Jvm.Cond.code (⟨"com/example/borrowed_prior/borrowedprior/model/TopicModel", "termProbability", "(II)D"⟩ : MethodName) prog_37_method_10_code 8 (some .double) :: ws) ({ frames := 0, cells := 0, slots := 0, locals := 0 } : Room)) (fun a U => a = #[(.ref za), (.int xd), (.int xw)] ∧ Z.Warmed39 U.vm ∧ U.heap = h0) (fun _ _ _ _ _ => True) (fun _ U o U' => ∃ v L, o = .returned v ∧ Q_tp2 Z za xd xw pa da pk pn pv pq dk dn dv dq a0 a1 b0 b1 h0 n0 v U'.heap L ∧ FrameEnd U o U' L ({ frames := 0, cells := 0, slots := 0, locals := 0 } : Room).cells ({ frames := 0, cells := 0, slots := 0, locals := 0 } : Room).slots) := by
  refine MetFree.of_bodySF pf_tp2 hisR ?_
  intro p e s m args below meth c s₁ Bd hml0 hP hK
  obtain ⟨rfl, hZ, hh⟩ := hP
  have hx := Bd.exec
  have hby := Bd.bytes
  have hml : c.maxLocals = 8 := hml0
  have hown : s.vm.findClass "com/example/borrowed_prior/borrowedprior/model/TopicModel" = some m.cls := findClass_of_methodNamed Bd.named
  have hnm := (name_of_methodNamed Bd.named Bd.method).1
  have X0 : Stand p l e ({ frames := 0, cells := 0, slots := 0, locals := 0 } : Room) s m #[(.ref za), (.int xd), (.int xw)] below meth c s₁ [] 0 0 := Stand.of_body Bd
  have e0 : s₁.heap = h0 := by rw [← hh, Bd.state]; rfl
  have N0 := Fr.nil n0
  obtain ⟨S0, hS0⟩ : ∃ z, z = s₁.setTop (entryFrame m #[(.ref za), (.int xd), (.int xw)] 8) := ⟨_, rfl⟩
  rw [← hS0]
  have g0 : Goes p e below S0 (s₁.setTop (mkF m 0 #[rv za, iv xd, iv xw, .unset, .unset, .unset, .unset, .unset] [])) := fun t k => by rw [hS0]; exact castTop (ef_tp2 m za xd xw) k
  have g228 : Goes p e below S0 (s₁.setTop (mkF m 2 #[rv za, iv xd, iv xw, .unset, .unset, .unset, .unset, .unset] [(.ref za), (.int xd)])) := fun t k => g0 t (by
    refine XS.iloadN X0.here hx rfl (hb hby d5_0) rfl ?_
    show Go p e below t s₁ m 1 #[rv za, iv xd, iv xw, .unset, .unset, .unset, .unset, .unset] [(.int xd)]
    refine XS.aloadN X0.here hx rfl (hb hby d5_1) rfl rfl ?_
    show Go p e below t s₁ m 2 #[rv za, iv xd, iv xw, .unset, .unset, .unset, .unset, .unset] [(.ref za), (.int xd)]
    exact k)
  obtain ⟨T229, X229, e229, st229⟩ := getF X0 hx hZ hown (host := "") (Or.inl (hw _ (List.mem_of_getElem? (i := 23) rfl))) Via.refl e0 P0 (g := (mkF m 2 #[rv za, iv xd, iv xw, .unset, .unset, .unset, .unset, .unset] [(.ref za), (.int xd)])) rfl rfl (hb hby d5_2)
  have g230 : Goes p e below S0 (T229.setTop (mkF m 5 #[rv za, iv xd, iv xw, .unset, .unset, .unset, .unset, .unset] [(.int (2 : Int32)), (.int xd)])) := fun t k => g228 t (st229 t k)
  have g231 : Goes p e below S0 (T229.setTop (mkF m 9 #[rv za, iv xd, iv xw, iv (xd * (2 : Int32)), .unset, .unset, .unset, .unset] [(.ref za), (.int xw)])) := fun t k => g230 t (by
    refine XS.imul X229.here hx rfl (hb hby d5_5) rfl ?_
    show Go p e below t T229 m 6 #[rv za, iv xd, iv xw, .unset, .unset, .unset, .unset, .unset] [(.int (xd * (2 : Int32)))]
    refine XS.istoreN X229.here hx rfl (hb hby d5_6) rfl (l' := #[rv za, iv xd, iv xw, iv (xd * (2 : Int32)), .unset, .unset, .unset, .unset]) rfl ?_
    show Go p e below t T229 m 7 #[rv za, iv xd, iv xw, iv (xd * (2 : Int32)), .unset, .unset, .unset, .unset] []
    refine XS.iloadN X229.here hx rfl (hb hby d5_7) rfl ?_
    show Go p e below t T229 m 8 #[rv za, iv xd, iv xw, iv (xd * (2 : Int32)), .unset, .unset, .unset, .unset] [(.int xw)]
    refine XS.aloadN X229.here hx rfl (hb hby d5_8) rfl rfl ?_
    show Go p e below t T229 m 9 #[rv za, iv xd, iv xw, iv (xd * (2 : Int32)), .unset, .unset, .unset, .unset] [(.ref za), (.int xw)]
    exact k)
  obtain ⟨T232, X232, e232, st232⟩ := getF X229 hx hZ hown (host := "") (Or.inl (hw _ (List.mem_of_getElem? (i := 23) rfl))) Via.refl e229 P0 (g := (mkF m 9 #[rv za, iv xd, iv xw, iv (xd * (2 : Int32)), .unset, .unset, .unset, .unset] [(.ref za), (.int xw)])) rfl rfl (hb hby d5_9)
  have g233 : Goes p e below S0 (T232.setTop (mkF m 12 #[rv za, iv xd, iv xw, iv (xd * (2 : Int32)), .unset, .unset, .unset, .unset] [(.int (2 : Int32)), (.int xw)])) := fun t k => g231 t (st232 t k)
  have g234 : Goes p e below S0 (T232.setTop (mkF m 24 #[rv za, iv xd, iv xw, iv (xd * (2 : Int32)), iv (xw * (2 : Int32)), .val (.double (0 : UInt64)), .second, iv (0 : Int32)] [(.ref za), (.int (0 : Int32))])) := fun t k => g233 t (by
    refine XS.imul X232.here hx rfl (hb hby d5_12) rfl ?_
    show Go p e below t T232 m 13 #[rv za, iv xd, iv xw, iv (xd * (2 : Int32)), .unset, .unset, .unset, .unset] [(.int (xw * (2 : Int32)))]
    refine XS.istore X232.here hx rfl (hb hby d5_13) rfl (l' := #[rv za, iv xd, iv xw, iv (xd * (2 : Int32)), iv (xw * (2 : Int32)), .unset, .unset, .unset]) rfl ?_
    show Go p e below t T232 m 15 #[rv za, iv xd, iv xw, iv (xd * (2 : Int32)), iv (xw * (2 : Int32)), .unset, .unset, .unset] []
    refine XS.dconst0 X232.here hx rfl (hb hby d5_15) (v := (0 : UInt64)) rfl ?_
    show Go p e below t T232 m 16 #[rv za, iv xd, iv xw, iv (xd * (2 : Int32)), iv (xw * (2 : Int32)), .unset, .unset, .unset] [(.double (0 : UInt64))]
    refine XS.dstore X232.here hx rfl (hb hby d5_16) rfl (l' := #[rv za, iv xd, iv xw, iv (xd * (2 : Int32)), iv (xw * (2 : Int32)), .val (.double (0 : UInt64)), .second, .unset]) rfl ?_
    show Go p e below t T232 m 18 #[rv za, iv xd, iv xw, iv (xd * (2 : Int32)), iv (xw * (2 : Int32)), .val (.double (0 : UInt64)), .second, .unset] []
    refine XT.iconstV X232.here hx rfl (0 : Int32) (hb hby d5_18) (by decide) ?_
    show Go p e below t T232 m 19 #[rv za, iv xd, iv xw, iv (xd * (2 : Int32)), iv (xw * (2 : Int32)), .val (.double (0 : UInt64)), .second, .unset] [(.int (0 : Int32))]
    refine XS.istore X232.here hx rfl (hb hby d5_19) rfl (l' := #[rv za, iv xd, iv xw, iv (xd * (2 : Int32)), iv (xw * (2 : Int32)), .val (.double (0 : UInt64)), .second, iv (0 : Int32)]) rfl ?_
    show Go p e below t T232 m 21 #[rv za, iv xd, iv xw, iv (xd * (2 : Int32)), iv (xw * (2 : Int32)), .val (.double (0 : UInt64)), .second, iv (0 : Int32)] []
    refine XS.iload X232.here hx rfl (hb hby d5_21) rfl ?_
    show Go p e below t T232 m 23 #[rv za, iv xd, iv xw, iv (xd * (2 : Int32)), iv (xw * (2 : Int32)), .val (.double (0 : UInt64)), .second, iv (0 : Int32)] [(.int (0 : Int32))]
    refine XS.aloadN X232.here hx rfl (hb hby d5_23) rfl rfl ?_
    show Go p e below t T232 m 24 #[rv za, iv xd, iv xw, iv (xd * (2 : Int32)), iv (xw * (2 : Int32)), .val (.double (0 : UInt64)), .second, iv (0 : Int32)] [(.ref za), (.int (0 : Int32))]
    exact k)
  obtain ⟨T235, X235, e235, st235⟩ := getF X232 hx hZ hown (host := "") (Or.inl (hw _ (List.mem_of_getElem? (i := 23) rfl))) Via.refl e232 P0 (g := (mkF m 24 #[rv za, iv xd, iv xw, iv (xd * (2 : Int32)), iv (xw * (2 : Int32)), .val (.double (0 : UInt64)), .second, iv (0 : Int32)] [(.ref za), (.int (0 : Int32))])) rfl rfl (hb hby d5_24)
  have g236 : Goes p e below S0 (T235.setTop (mkF m 27 #[rv za, iv xd, iv xw, iv (xd * (2 : Int32)), iv (xw * (2 : Int32)), .val (.double (0 : UInt64)), .second, iv (0 : Int32)] [(.int (2 : Int32)), (.int (0 : Int32))])) := fun t k => g234 t (st235 t k)
  have g237 : Goes p e below S0 (T235.setTop (mkF m 33 #[rv za, iv xd, iv xw, iv (xd * (2 : Int32)), iv (xw * (2 : Int32)), .val (.double (0 : UInt64)), .second, iv (0 : Int32)] [(.ref za), (.double (0 : UInt64))])) := fun t k => g236 t (by
    refine XS.icmpNo X235.here hx rfl (hb hby d5_27) rfl (XT.ii_ge_f (by decide)) ?_
    show Go p e below t T235 m 30 #[rv za, iv xd, iv xw, iv (xd * (2 : Int32)), iv (xw * (2 : Int32)), .val (.double (0 : UInt64)), .second, iv (0 : Int32)] []
    refine XS.dload X235.here hx rfl (hb hby d5_30) rfl ?_
    show Go p e below t T235 m 32 #[rv za, iv xd, iv xw, iv (xd * (2 : Int32)), iv (xw * (2 : Int32)), .val (.double (0 : UInt64)), .second, iv (0 : Int32)] [(.double (0 : UInt64))]
    refine XS.aloadN X235.here hx rfl (hb hby d5_32) rfl rfl ?_
    show Go p e below t T235 m 33 #[rv za, iv xd, iv xw, iv (xd * (2 : Int32)), iv (xw * (2 : Int32)), .val (.double (0 : UInt64)), .second, iv (0 : Int32)] [(.ref za), (.double (0 : UInt64))]
    exact k)
  obtain ⟨T238, X238, e238, st238⟩ := getF X235 hx hZ hown (host := "") (Or.inl (hw _ (List.mem_of_getElem? (i := 33) rfl))) Via.refl e235 P1 (g := (mkF m 33 #[rv za, iv xd, iv xw, iv (xd * (2 : Int32)), iv (xw * (2 : Int32)), .val (.double (0 : UInt64)), .second, iv (0 : Int32)] [(.ref za), (.double (0 : UInt64))])) rfl rfl (hb hby d5_33)
  have g239 : Goes p e below S0 (T238.setTop (mkF m 36 #[rv za, iv xd, iv xw, iv (xd * (2 : Int32)), iv (xw * (2 : Int32)), .val (.double (0 : UInt64)), .second, iv (0 : Int32)] [(.ref pa), (.double (0 : UInt64))])) := fun t k => g237 t (st238 t k)
  have g240 : Goes p e below S0 (T238.setTop (mkF m 41 #[rv za, iv xd, iv xw, iv (xd * (2 : Int32)), iv (xw * (2 : Int32)), .val (.double (0 : UInt64)), .second, iv (0 : Int32)] [(.int ((xw * (2 : Int32)) + (0 : Int32))), (.ref pa), (.double (0 : UInt64))])) := fun t k => g239 t (by
    refine XS.iload X238.here hx rfl (hb hby d5_36) rfl ?_
    show Go p e below t T238 m 38 #[rv za, iv xd, iv xw, iv (xd * (2 : Int32)), iv (xw * (2 : Int32)), .val (.double (0 : UInt64)), .second, iv (0 : Int32)] [(.int (xw * (2 : Int32))), (.ref pa), (.double (0 : UInt64))]
    refine XS.iload X238.here hx rfl (hb hby d5_38) rfl ?_
    show Go p e below t T238 m 40 #[rv za, iv xd, iv xw, iv (xd * (2 : Int32)), iv (xw * (2 : Int32)), .val (.double (0 : UInt64)), .second, iv (0 : Int32)] [(.int (0 : Int32)), (.int (xw * (2 : Int32))), (.ref pa), (.double (0 : UInt64))]
    refine XS.iadd X238.here hx rfl (hb hby d5_40) rfl ?_
    show Go p e below t T238 m 41 #[rv za, iv xd, iv xw, iv (xd * (2 : Int32)), iv (xw * (2 : Int32)), .val (.double (0 : UInt64)), .second, iv (0 : Int32)] [(.int ((xw * (2 : Int32)) + (0 : Int32))), (.ref pa), (.double (0 : UInt64))]
    exact k)
  obtain ⟨cl241, Ar241, q241, S241, M241, H241, G241⟩ := id P3
  have g242 : Goes p e below S0 (T238.setTop (mkF m 43 #[rv za, iv xd, iv xw, iv (xd * (2 : Int32)), iv (xw * (2 : Int32)), .val (.double (0 : UInt64)), .second, iv (0 : Int32)] [(.ref za), (.double a0), (.double (0 : UInt64))])) := fun t k => g240 t (by
    refine X238.daload hx (j := ((xw * (2 : Int32)) + (0 : Int32))) (v := (.double a0)) (by rw [e238]; exact Ar241.1) (State.isArrayOf_alike hZ.alike Ar241.2.1) Ar241.2.2 (inb_of S241 ia0) (H241.at (inb_of S241 ia0) ea0) (g := (mkF m 41 #[rv za, iv xd, iv xw, iv (xd * (2 : Int32)), iv (xw * (2 : Int32)), .val (.double (0 : UInt64)), .second, iv (0 : Int32)] [(.int ((xw * (2 : Int32)) + (0 : Int32))), (.ref pa), (.double (0 : UInt64))])) rfl rfl (hb hby d5_41) _ ?_
    show Go p e below t T238 m 42 #[rv za, iv xd, iv xw, iv (xd * (2 : Int32)), iv (xw * (2 : Int32)), .val (.double (0 : UInt64)), .second, iv (0 : Int32)] [(.double a0), (.double (0 : UInt64))]
    refine XS.aloadN X238.here hx rfl (hb hby d5_42) rfl rfl ?_
    show Go p e below t T238 m 43 #[rv za, iv xd, iv xw, iv (xd * (2 : Int32)), iv (xw * (2 : Int32)), .val (.double (0 : UInt64)), .second, iv (0 : Int32)] [(.ref za), (.double a0), (.double (0 : UInt64))]
    exact k)
  obtain ⟨T243, X243, e243, st243⟩ := getF X238 hx hZ hown (host := "") (Or.inl (hw _ (List.mem_of_getElem? (i := 31) rfl))) Via.refl e238 P2 (g := (mkF m 43 #[rv za, iv xd, iv xw, iv (xd * (2 : Int32)), iv (xw * (2 : Int32)), .val (.double (0 : UInt64)), .second, iv (0 : Int32)] [(.ref za), (.double a0), (.double (0 : UInt64))])) rfl rfl (hb hby d5_43)
  have g244 : Goes p e below S0 (T243.setTop (mkF m 46 #[rv za, iv xd, iv xw, iv (xd * (2 : Int32)), iv (xw * (2 : Int32)), .val (.double (0 : UInt64)), .second, iv (0 : Int32)] [(.ref da), (.double a0), (.double (0 : UInt64))])) := fun t k => g242 t (st243 t k)
  have g245 : Goes p e below S0 (T243.setTop (mkF m 50 #[rv za, iv xd, iv xw, iv (xd * (2 : Int32)), iv (xw * (2 : Int32)), .val (.double (0 : UInt64)), .second, iv (0 : Int32)] [(.int ((xd * (2 : Int32)) + (0 : Int32))), (.ref da), (.double a0), (.double (0 : UInt64))])) := fun t k => g244 t (by
    refine XS.iloadN X243.here hx rfl (hb hby d5_46) rfl ?_
    show Go p e below t T243 m 47 #[rv za, iv xd, iv xw, iv (xd * (2 : Int32)), iv (xw * (2 : Int32)), .val (.double (0 : UInt64)), .second, iv (0 : Int32)] [(.int (xd * (2 : Int32))), (.ref da), (.double a0), (.double (0 : UInt64))]
    refine XS.iload X243.here hx rfl (hb hby d5_47) rfl ?_
    show Go p e below t T243 m 49 #[rv za, iv xd, iv xw, iv (xd * (2 : Int32)), iv (xw * (2 : Int32)), .val (.double (0 : UInt64)), .second, iv (0 : Int32)] [(.int (0 : Int32)), (.int (xd * (2 : Int32))), (.ref da), (.double a0), (.double (0 : UInt64))]
    refine XS.iadd X243.here hx rfl (hb hby d5_49) rfl ?_
    show Go p e below t T243 m 50 #[rv za, iv xd, iv xw, iv (xd * (2 : Int32)), iv (xw * (2 : Int32)), .val (.double (0 : UInt64)), .second, iv (0 : Int32)] [(.int ((xd * (2 : Int32)) + (0 : Int32))), (.ref da), (.double a0), (.double (0 : UInt64))]
    exact k)
  obtain ⟨cl246, Ar246, q246, S246, M246, H246, G246⟩ := id P4
  have g247 : Goes p e below S0 (T243.setTop (mkF m 24 #[rv za, iv xd, iv xw, iv (xd * (2 : Int32)), iv (xw * (2 : Int32)), .val (.double (FP.dadd (0 : UInt64) (FP.dmul a0 b0))), .second, iv (1 : Int32)] [(.ref za), (.int (1 : Int32))])) := fun t k => g245 t (by
    refine X243.daload hx (j := ((xd * (2 : Int32)) + (0 : Int32))) (v := (.double b0)) (by rw [e243]; exact Ar246.1) (State.isArrayOf_alike hZ.alike Ar246.2.1) Ar246.2.2 (inb_of S246 ib0) (H246.at (inb_of S246 ib0) eb0) (g := (mkF m 50 #[rv za, iv xd, iv xw, iv (xd * (2 : Int32)), iv (xw * (2 : Int32)), .val (.double (0 : UInt64)), .second, iv (0 : Int32)] [(.int ((xd * (2 : Int32)) + (0 : Int32))), (.ref da), (.double a0), (.double (0 : UInt64))])) rfl rfl (hb hby d5_50) _ ?_
    show Go p e below t T243 m 51 #[rv za, iv xd, iv xw, iv (xd * (2 : Int32)), iv (xw * (2 : Int32)), .val (.double (0 : UInt64)), .second, iv (0 : Int32)] [(.double b0), (.double a0), (.double (0 : UInt64))]
    refine XS.dmulS X243.here hx rfl (hb hby d5_51) rfl (Pr.nn (Pr.mul va0 vb0)) rfl ?_
    show Go p e below t T243 m 52 #[rv za, iv xd, iv xw, iv (xd * (2 : Int32)), iv (xw * (2 : Int32)), .val (.double (0 : UInt64)), .second, iv (0 : Int32)] [(.double (FP.dmul a0 b0)), (.double (0 : UInt64))]
    refine XS.daddS X243.here hx rfl (hb hby d5_52) rfl (Pr.nn (Pr.add Pr.zero (Pr.mul va0 vb0) (by decide))) rfl ?_
    show Go p e below t T243 m 53 #[rv za, iv xd, iv xw, iv (xd * (2 : Int32)), iv (xw * (2 : Int32)), .val (.double (0 : UInt64)), .second, iv (0 : Int32)] [(.double (FP.dadd (0 : UInt64) (FP.dmul a0 b0)))]
    refine XS.dstore X243.here hx rfl (hb hby d5_53) rfl (l' := #[rv za, iv xd, iv xw, iv (xd * (2 : Int32)), iv (xw * (2 : Int32)), .val (.double (FP.dadd (0 : UInt64) (FP.dmul a0 b0))), .second, iv (0 : Int32)]) rfl ?_
    show Go p e below t T243 m 55 #[rv za, iv xd, iv xw, iv (xd * (2 : Int32)), iv (xw * (2 : Int32)), .val (.double (FP.dadd (0 : UInt64) (FP.dmul a0 b0))), .second, iv (0 : Int32)] []
    refine XT.iincV X243.here hx rfl (1 : Int32) (hb hby d5_55) (by decide) rfl (l' := #[rv za, iv xd, iv xw, iv (xd * (2 : Int32)), iv (xw * (2 : Int32)), .val (.double (FP.dadd (0 : UInt64) (FP.dmul a0 b0))), .second, iv (1 : Int32)]) rfl ?_
    show Go p e below t T243 m 58 #[rv za, iv xd, iv xw, iv (xd * (2 : Int32)), iv (xw * (2 : Int32)), .val (.double (FP.dadd (0 : UInt64) (FP.dmul a0 b0))), .second, iv (1 : Int32)] []
    refine XS.goto X243.here hx rfl (pc0 := 58) (pc' := 21) rfl (hb hby d5_58) (by decide) (by decide) ?_
    show Go p e below t T243 m 21 #[rv za, iv xd, iv xw, iv (xd * (2 : Int32)), iv (xw * (2 : Int32)), .val (.double (FP.dadd (0 : UInt64) (FP.dmul a0 b0))), .second, iv (1 : Int32)] []
    refine XS.iload X243.here hx rfl (hb hby d5_21) rfl ?_
    show Go p e below t T243 m 23 #[rv za, iv xd, iv xw, iv (xd * (2 : Int32)), iv (xw * (2 : Int32)), .val (.double (FP.dadd (0 : UInt64) (FP.dmul a0 b0))), .second, iv (1 : Int32)] [(.int (1 : Int32))]
    refine XS.aloadN X243.here hx rfl (hb hby d5_23) rfl rfl ?_
    show Go p e below t T243 m 24 #[rv za, iv xd, iv xw, iv (xd * (2 : Int32)), iv (xw * (2 : Int32)), .val (.double (FP.dadd (0 : UInt64) (FP.dmul a0 b0))), .second, iv (1 : Int32)] [(.ref za), (.int (1 : Int32))]
    exact k)
  obtain ⟨T248, X248, e248, st248⟩ := getF X243 hx hZ hown (host := "") (Or.inl (hw _ (List.mem_of_getElem? (i := 23) rfl))) Via.refl e243 P0 (g := (mkF m 24 #[rv za, iv xd, iv xw, iv (xd * (2 : Int32)), iv (xw * (2 : Int32)), .val (.double (FP.dadd (0 : UInt64) (FP.dmul a0 b0))), .second, iv (1 : Int32)] [(.ref za), (.int (1 : Int32))])) rfl rfl (hb hby d5_24)
  have g249 : Goes p e below S0 (T248.setTop (mkF m 27 #[rv za, iv xd, iv xw, iv (xd * (2 : Int32)), iv (xw * (2 : Int32)), .val (.double (FP.dadd (0 : UInt64) (FP.dmul a0 b0))), .second, iv (1 : Int32)] [(.int (2 : Int32)), (.int (1 : Int32))])) := fun t k => g247 t (st248 t k)
  have g250 : Goes p e below S0 (T248.setTop (mkF m 33 #[rv za, iv xd, iv xw, iv (xd * (2 : Int32)), iv (xw * (2 : Int32)), .val (.double (FP.dadd (0 : UInt64) (FP.dmul a0 b0))), .second, iv (1 : Int32)] [(.ref za), (.double (FP.dadd (0 : UInt64) (FP.dmul a0 b0)))])) := fun t k => g249 t (by
    refine XS.icmpNo X248.here hx rfl (hb hby d5_27) rfl (XT.ii_ge_f (by decide)) ?_
    show Go p e below t T248 m 30 #[rv za, iv xd, iv xw, iv (xd * (2 : Int32)), iv (xw * (2 : Int32)), .val (.double (FP.dadd (0 : UInt64) (FP.dmul a0 b0))), .second, iv (1 : Int32)] []
    refine XS.dload X248.here hx rfl (hb hby d5_30) rfl ?_
    show Go p e below t T248 m 32 #[rv za, iv xd, iv xw, iv (xd * (2 : Int32)), iv (xw * (2 : Int32)), .val (.double (FP.dadd (0 : UInt64) (FP.dmul a0 b0))), .second, iv (1 : Int32)] [(.double (FP.dadd (0 : UInt64) (FP.dmul a0 b0)))]
    refine XS.aloadN X248.here hx rfl (hb hby d5_32) rfl rfl ?_
    show Go p e below t T248 m 33 #[rv za, iv xd, iv xw, iv (xd * (2 : Int32)), iv (xw * (2 : Int32)), .val (.double (FP.dadd (0 : UInt64) (FP.dmul a0 b0))), .second, iv (1 : Int32)] [(.ref za), (.double (FP.dadd (0 : UInt64) (FP.dmul a0 b0)))]
    exact k)
  obtain ⟨T251, X251, e251, st251⟩ := getF X248 hx hZ hown (host := "") (Or.inl (hw _ (List.mem_of_getElem? (i := 33) rfl))) Via.refl e248 P1 (g := (mkF m 33 #[rv za, iv xd, iv xw, iv (xd * (2 : Int32)), iv (xw * (2 : Int32)), .val (.double (FP.dadd (0 : UInt64) (FP.dmul a0 b0))), .second, iv (1 : Int32)] [(.ref za), (.double (FP.dadd (0 : UInt64) (FP.dmul a0 b0)))])) rfl rfl (hb hby d5_33)
  have g252 : Goes p e below S0 (T251.setTop (mkF m 36 #[rv za, iv xd, iv xw, iv (xd * (2 : Int32)), iv (xw * (2 : Int32)), .val (.double (FP.dadd (0 : UInt64) (FP.dmul a0 b0))), .second, iv (1 : Int32)] [(.ref pa), (.double (FP.dadd (0 : UInt64) (FP.dmul a0 b0)))])) := fun t k => g250 t (st251 t k)
  have g253 : Goes p e below S0 (T251.setTop (mkF m 41 #[rv za, iv xd, iv xw, iv (xd * (2 : Int32)), iv (xw * (2 : Int32)), .val (.double (FP.dadd (0 : UInt64) (FP.dmul a0 b0))), .second, iv (1 : Int32)] [(.int ((xw * (2 : Int32)) + (1 : Int32))), (.ref pa), (.double (FP.dadd (0 : UInt64) (FP.dmul a0 b0)))])) := fun t k => g252 t (by
    refine XS.iload X251.here hx rfl (hb hby d5_36) rfl ?_
    show Go p e below t T251 m 38 #[rv za, iv xd, iv xw, iv (xd * (2 : Int32)), iv (xw * (2 : Int32)), .val (.double (FP.dadd (0 : UInt64) (FP.dmul a0 b0))), .second, iv (1 : Int32)] [(.int (xw * (2 : Int32))), (.ref pa), (.double (FP.dadd (0 : UInt64) (FP.dmul a0 b0)))]
    refine XS.iload X251.here hx rfl (hb hby d5_38) rfl ?_
    show Go p e below t T251 m 40 #[rv za, iv xd, iv xw, iv (xd * (2 : Int32)), iv (xw * (2 : Int32)), .val (.double (FP.dadd (0 : UInt64) (FP.dmul a0 b0))), .second, iv (1 : Int32)] [(.int (1 : Int32)), (.int (xw * (2 : Int32))), (.ref pa), (.double (FP.dadd (0 : UInt64) (FP.dmul a0 b0)))]
    refine XS.iadd X251.here hx rfl (hb hby d5_40) rfl ?_
    show Go p e below t T251 m 41 #[rv za, iv xd, iv xw, iv (xd * (2 : Int32)), iv (xw * (2 : Int32)), .val (.double (FP.dadd (0 : UInt64) (FP.dmul a0 b0))), .second, iv (1 : Int32)] [(.int ((xw * (2 : Int32)) + (1 : Int32))), (.ref pa), (.double (FP.dadd (0 : UInt64) (FP.dmul a0 b0)))]
    exact k)
  obtain ⟨cl254, Ar254, q254, S254, M254, H254, G254⟩ := id P3
  have g255 : Goes p e below S0 (T251.setTop (mkF m 43 #[rv za, iv xd, iv xw, iv (xd * (2 : Int32)), iv (xw * (2 : Int32)), .val (.double (FP.dadd (0 : UInt64) (FP.dmul a0 b0))), .second, iv (1 : Int32)] [(.ref za), (.double a1), (.double (FP.dadd (0 : UInt64) (FP.dmul a0 b0)))])) := fun t k => g253 t (by
    refine X251.daload hx (j := ((xw * (2 : Int32)) + (1 : Int32))) (v := (.double a1)) (by rw [e251]; exact Ar254.1) (State.isArrayOf_alike hZ.alike Ar254.2.1) Ar254.2.2 (inb_of S254 ia1) (H254.at (inb_of S254 ia1) ea1) (g := (mkF m 41 #[rv za, iv xd, iv xw, iv (xd * (2 : Int32)), iv (xw * (2 : Int32)), .val (.double (FP.dadd (0 : UInt64) (FP.dmul a0 b0))), .second, iv (1 : Int32)] [(.int ((xw * (2 : Int32)) + (1 : Int32))), (.ref pa), (.double (FP.dadd (0 : UInt64) (FP.dmul a0 b0)))])) rfl rfl (hb hby d5_41) _ ?_
    show Go p e below t T251 m 42 #[rv za, iv xd, iv xw, iv (xd * (2 : Int32)), iv (xw * (2 : Int32)), .val (.double (FP.dadd (0 : UInt64) (FP.dmul a0 b0))), .second, iv (1 : Int32)] [(.double a1), (.double (FP.dadd (0 : UInt64) (FP.dmul a0 b0)))]
    refine XS.aloadN X251.here hx rfl (hb hby d5_42) rfl rfl ?_
    show Go p e below t T251 m 43 #[rv za, iv xd, iv xw, iv (xd * (2 : Int32)), iv (xw * (2 : Int32)), .val (.double (FP.dadd (0 : UInt64) (FP.dmul a0 b0))), .second, iv (1 : Int32)] [(.ref za), (.double a1), (.double (FP.dadd (0 : UInt64) (FP.dmul a0 b0)))]
    exact k)
  obtain ⟨T256, X256, e256, st256⟩ := getF X251 hx hZ hown (host := "") (Or.inl (hw _ (List.mem_of_getElem? (i := 31) rfl))) Via.refl e251 P2 (g := (mkF m 43 #[rv za, iv xd, iv xw, iv (xd * (2 : Int32)), iv (xw * (2 : Int32)), .val (.double (FP.dadd (0 : UInt64) (FP.dmul a0 b0))), .second, iv (1 : Int32)] [(.ref za), (.double a1), (.double (FP.dadd (0 : UInt64) (FP.dmul a0 b0)))])) rfl rfl (hb hby d5_43)
  have g257 : Goes p e below S0 (T256.setTop (mkF m 46 #[rv za, iv xd, iv xw, iv (xd * (2 : Int32)), iv (xw * (2 : Int32)), .val (.double (FP.dadd (0 : UInt64) (FP.dmul a0 b0))), .second, iv (1 : Int32)] [(.ref da), (.double a1), (.double (FP.dadd (0 : UInt64) (FP.dmul a0 b0)))])) := fun t k => g255 t (st256 t k)
  have g258 : Goes p e below S0 (T256.setTop (mkF m 50 #[rv za, iv xd, iv xw, iv (xd * (2 : Int32)), iv (xw * (2 : Int32)), .val (.double (FP.dadd (0 : UInt64) (FP.dmul a0 b0))), .second, iv (1 : Int32)] [(.int ((xd * (2 : Int32)) + (1 : Int32))), (.ref da), (.double a1), (.double (FP.dadd (0 : UInt64) (FP.dmul a0 b0)))])) := fun t k => g257 t (by
    refine XS.iloadN X256.here hx rfl (hb hby d5_46) rfl ?_
    show Go p e below t T256 m 47 #[rv za, iv xd, iv xw, iv (xd * (2 : Int32)), iv (xw * (2 : Int32)), .val (.double (FP.dadd (0 : UInt64) (FP.dmul a0 b0))), .second, iv (1 : Int32)] [(.int (xd * (2 : Int32))), (.ref da), (.double a1), (.double (FP.dadd (0 : UInt64) (FP.dmul a0 b0)))]
    refine XS.iload X256.here hx rfl (hb hby d5_47) rfl ?_
    show Go p e below t T256 m 49 #[rv za, iv xd, iv xw, iv (xd * (2 : Int32)), iv (xw * (2 : Int32)), .val (.double (FP.dadd (0 : UInt64) (FP.dmul a0 b0))), .second, iv (1 : Int32)] [(.int (1 : Int32)), (.int (xd * (2 : Int32))), (.ref da), (.double a1), (.double (FP.dadd (0 : UInt64) (FP.dmul a0 b0)))]
    refine XS.iadd X256.here hx rfl (hb hby d5_49) rfl ?_
    show Go p e below t T256 m 50 #[rv za, iv xd, iv xw, iv (xd * (2 : Int32)), iv (xw * (2 : Int32)), .val (.double (FP.dadd (0 : UInt64) (FP.dmul a0 b0))), .second, iv (1 : Int32)] [(.int ((xd * (2 : Int32)) + (1 : Int32))), (.ref da), (.double a1), (.double (FP.dadd (0 : UInt64) (FP.dmul a0 b0)))]
    exact k)
  obtain ⟨cl259, Ar259, q259, S259, M259, H259, G259⟩ := id P4
  have g260 : Goes p e below S0 (T256.setTop (mkF m 24 #[rv za, iv xd, iv xw, iv (xd * (2 : Int32)), iv (xw * (2 : Int32)), .val (.double (FP.dadd (FP.dadd (0 : UInt64) (FP.dmul a0 b0)) (FP.dmul a1 b1))), .second, iv (2 : Int32)] [(.ref za), (.int (2 : Int32))])) := fun t k => g258 t (by
    refine X256.daload hx (j := ((xd * (2 : Int32)) + (1 : Int32))) (v := (.double b1)) (by rw [e256]; exact Ar259.1) (State.isArrayOf_alike hZ.alike Ar259.2.1) Ar259.2.2 (inb_of S259 ib1) (H259.at (inb_of S259 ib1) eb1) (g := (mkF m 50 #[rv za, iv xd, iv xw, iv (xd * (2 : Int32)), iv (xw * (2 : Int32)), .val (.double (FP.dadd (0 : UInt64) (FP.dmul a0 b0))), .second, iv (1 : Int32)] [(.int ((xd * (2 : Int32)) + (1 : Int32))), (.ref da), (.double a1), (.double (FP.dadd (0 : UInt64) (FP.dmul a0 b0)))])) rfl rfl (hb hby d5_50) _ ?_
    show Go p e below t T256 m 51 #[rv za, iv xd, iv xw, iv (xd * (2 : Int32)), iv (xw * (2 : Int32)), .val (.double (FP.dadd (0 : UInt64) (FP.dmul a0 b0))), .second, iv (1 : Int32)] [(.double b1), (.double a1), (.double (FP.dadd (0 : UInt64) (FP.dmul a0 b0)))]
    refine XS.dmulS X256.here hx rfl (hb hby d5_51) rfl (Pr.nn (Pr.mul va1 vb1)) rfl ?_
    show Go p e below t T256 m 52 #[rv za, iv xd, iv xw, iv (xd * (2 : Int32)), iv (xw * (2 : Int32)), .val (.double (FP.dadd (0 : UInt64) (FP.dmul a0 b0))), .second, iv (1 : Int32)] [(.double (FP.dmul a1 b1)), (.double (FP.dadd (0 : UInt64) (FP.dmul a0 b0)))]
    refine XS.daddS X256.here hx rfl (hb hby d5_52) rfl (Pr.nn (Pr.add (Pr.add Pr.zero (Pr.mul va0 vb0) (by decide)) (Pr.mul va1 vb1) (by decide))) rfl ?_
    show Go p e below t T256 m 53 #[rv za, iv xd, iv xw, iv (xd * (2 : Int32)), iv (xw * (2 : Int32)), .val (.double (FP.dadd (0 : UInt64) (FP.dmul a0 b0))), .second, iv (1 : Int32)] [(.double (FP.dadd (FP.dadd (0 : UInt64) (FP.dmul a0 b0)) (FP.dmul a1 b1)))]
    refine XS.dstore X256.here hx rfl (hb hby d5_53) rfl (l' := #[rv za, iv xd, iv xw, iv (xd * (2 : Int32)), iv (xw * (2 : Int32)), .val (.double (FP.dadd (FP.dadd (0 : UInt64) (FP.dmul a0 b0)) (FP.dmul a1 b1))), .second, iv (1 : Int32)]) rfl ?_
    show Go p e below t T256 m 55 #[rv za, iv xd, iv xw, iv (xd * (2 : Int32)), iv (xw * (2 : Int32)), .val (.double (FP.dadd (FP.dadd (0 : UInt64) (FP.dmul a0 b0)) (FP.dmul a1 b1))), .second, iv (1 : Int32)] []
    refine XT.iincV X256.here hx rfl (1 : Int32) (hb hby d5_55) (by decide) rfl (l' := #[rv za, iv xd, iv xw, iv (xd * (2 : Int32)), iv (xw * (2 : Int32)), .val (.double (FP.dadd (FP.dadd (0 : UInt64) (FP.dmul a0 b0)) (FP.dmul a1 b1))), .second, iv (2 : Int32)]) rfl ?_
    show Go p e below t T256 m 58 #[rv za, iv xd, iv xw, iv (xd * (2 : Int32)), iv (xw * (2 : Int32)), .val (.double (FP.dadd (FP.dadd (0 : UInt64) (FP.dmul a0 b0)) (FP.dmul a1 b1))), .second, iv (2 : Int32)] []
    refine XS.goto X256.here hx rfl (pc0 := 58) (pc' := 21) rfl (hb hby d5_58) (by decide) (by decide) ?_
    show Go p e below t T256 m 21 #[rv za, iv xd, iv xw, iv (xd * (2 : Int32)), iv (xw * (2 : Int32)), .val (.double (FP.dadd (FP.dadd (0 : UInt64) (FP.dmul a0 b0)) (FP.dmul a1 b1))), .second, iv (2 : Int32)] []
    refine XS.iload X256.here hx rfl (hb hby d5_21) rfl ?_
    show Go p e below t T256 m 23 #[rv za, iv xd, iv xw, iv (xd * (2 : Int32)), iv (xw * (2 : Int32)), .val (.double (FP.dadd (FP.dadd (0 : UInt64) (FP.dmul a0 b0)) (FP.dmul a1 b1))), .second, iv (2 : Int32)] [(.int (2 : Int32))]
    refine XS.aloadN X256.here hx rfl (hb hby d5_23) rfl rfl ?_
    show Go p e below t T256 m 24 #[rv za, iv xd, iv xw, iv (xd * (2 : Int32)), iv (xw * (2 : Int32)), .val (.double (FP.dadd (FP.dadd (0 : UInt64) (FP.dmul a0 b0)) (FP.dmul a1 b1))), .second, iv (2 : Int32)] [(.ref za), (.int (2 : Int32))]
    exact k)
  obtain ⟨T261, X261, e261, st261⟩ := getF X256 hx hZ hown (host := "") (Or.inl (hw _ (List.mem_of_getElem? (i := 23) rfl))) Via.refl e256 P0 (g := (mkF m 24 #[rv za, iv xd, iv xw, iv (xd * (2 : Int32)), iv (xw * (2 : Int32)), .val (.double (FP.dadd (FP.dadd (0 : UInt64) (FP.dmul a0 b0)) (FP.dmul a1 b1))), .second, iv (2 : Int32)] [(.ref za), (.int (2 : Int32))])) rfl rfl (hb hby d5_24)
  have g262 : Goes p e below S0 (T261.setTop (mkF m 27 #[rv za, iv xd, iv xw, iv (xd * (2 : Int32)), iv (xw * (2 : Int32)), .val (.double (FP.dadd (FP.dadd (0 : UInt64) (FP.dmul a0 b0)) (FP.dmul a1 b1))), .second, iv (2 : Int32)] [(.int (2 : Int32)), (.int (2 : Int32))])) := fun t k => g260 t (st261 t k)
  have g263 : Goes p e below S0 (T261.setTop (mkF m 63 #[rv za, iv xd, iv xw, iv (xd * (2 : Int32)), iv (xw * (2 : Int32)), .val (.double (FP.dadd (FP.dadd (0 : UInt64) (FP.dmul a0 b0)) (FP.dmul a1 b1))), .second, iv (2 : Int32)] [(.double (FP.dadd (FP.dadd (0 : UInt64) (FP.dmul a0 b0)) (FP.dmul a1 b1)))])) := fun t k => g262 t (by
    refine XS.icmpYes X261.here hx rfl (pc0 := 27) (pc' := 61) rfl (hb hby d5_27) rfl (XT.ii_ge_t (by decide)) (by decide) (by decide) ?_
    show Go p e below t T261 m 61 #[rv za, iv xd, iv xw, iv (xd * (2 : Int32)), iv (xw * (2 : Int32)), .val (.double (FP.dadd (FP.dadd (0 : UInt64) (FP.dmul a0 b0)) (FP.dmul a1 b1))), .second, iv (2 : Int32)] []
    refine XS.dload X261.here hx rfl (hb hby d5_61) rfl ?_
    show Go p e below t T261 m 63 #[rv za, iv xd, iv xw, iv (xd * (2 : Int32)), iv (xw * (2 : Int32)), .val (.double (FP.dadd (FP.dadd (0 : UInt64) (FP.dmul a0 b0)) (FP.dmul a1 b1))), .second, iv (2 : Int32)] [(.double (FP.dadd (FP.dadd (0 : UInt64) (FP.dmul a0 b0)) (FP.dmul a1 b1)))]
    exact k)
  obtain ⟨fs, hr, hrun, hended, hW, hsame⟩ := X261.leave (v := some (.double (FP.dadd (FP.dadd (0 : UInt64) (FP.dmul a0 b0)) (FP.dmul a1 b1)))) (fun h => by rw [Bd.returns] at h; cases h)
  refine ⟨_, _, g263 _ (retOut X261 hx Bd.returns rfl (Or.inr (Or.inr (Or.inl ⟨rfl, rfl, _, rfl⟩))) (hb hby d5_63) hr), hrun, hended, _, _, rfl, ?_, ⟨_, rfl⟩, hW, hsame.mono (by decide) (by decide)⟩
  show Q_tp2 Z za xd xw pa da pk pn pv pq dk dn dv dq a0 a1 b0 b1 h0 n0 _ T261.heap _
  rw [e261]
  exact ⟨rfl, N0, rfl⟩
theorem pf_tp3 : plainFor (⟨"com/example/borrowed_prior/borrowedprior/model/TopicModel", "termProbability", "(II)D"⟩ : MethodName) = true := by first | exact plainFor_of_name (by first | (simp [plainName, overriddenIn, x]; done) | decide +kernel) | exact Jvm.Free.JP.mathPlain rfl (by decide +kernel) | decide +kernel
theorem ef_tp3 (m : MethodId) (za : Addr) (xd : Int32) (xw : Int32) : entryFrame m #[(.ref za), (.int xd), (.int xw)] 8 = mkF m 0 #[rv za, iv xd, iv xw, .unset, .unset, .unset, .unset, .unset] [] := by first | (simp [entryFrame, mkF, argsToLocals, Value.category, maxLocals]; done) | rfl
def Q_tp3 (Z : State) (za : Addr) (xd : Int32) (xw : Int32) (pa : Addr) (da : Addr) (pk : ClassId) (pn : Int32) (pv : List Value) (pq : Value) (dk : ClassId) (dn : Int32) (dv : List Value) (dq : Value) (a0 : UInt64) (a1 : UInt64) (a2 : UInt64) (b0 : UInt64) (b1 : UInt64) (b2 : UInt64) (h0 : Heap) (n0 : Nat) (v : Option Value) (h : Heap) (L : List Loc) : Prop := v = some (.double (FP.dadd (FP.dadd (FP.dadd (0 : UInt64) (FP.dmul a0 b0)) (FP.dmul a1 b1)) (FP.dmul a2 b2))) ∧ Fr n0 L ∧ h = h0
set_option maxRecDepth 65536 in
set_option maxHeartbeats 40000000 in
theorem rm_tp3 (l : Launch) (Z : State) (a0 : Array Value) (hw : ∀ d ∈ tables_1, d.before a0 Z = true) (ws : List Jvm.Cond) (za : Addr) (xd : Int32) (xw : Int32) (pa : Addr) (da : Addr) (pk : ClassId) (pn : Int32) (pv : List Value) (pq : Value) (dk : ClassId) (dn : Int32) (dv : List Value) (dq : Value) (a0 : UInt64) (a1 : UInt64) (a2 : UInt64) (b0 : UInt64) (b1 : UInt64) (b2 : UInt64) (h0 : Heap) (n0 : Nat) (Z0 : n0 ≤ h0.size) (P0 : Fld Z h0 za "com/example/borrowed_prior/borrowedprior/model/TopicModel" "topicCount" "I" (.int (3 : Int32))) (P1 : Fld Z h0 za "com/example/borrowed_prior/borrowedprior/model/TopicModel" "termTopics" "[D" (.ref pa)) (P2 : Fld Z h0 za "com/example/borrowed_prior/borrowedprior/model/TopicModel" "documentTopics" "[D" (.ref da)) (P3 : Arv Z h0 pa pk .double pn pv pq) (P4 : Arv Z h0 da dk .double dn dv dq) (ia0 : ¬ ((xw * (3 : Int32)) + (0 : Int32)) < 0 ∧ ((xw * (3 : Int32)) + (0 : Int32)) < pn) (ea0 : pv.getD ((xw * (3 : Int32)) + (0 : Int32)).toNatClampNeg pq = .double a0) (ib0 : ¬ ((xd * (3 : Int32)) + (0 : Int32)) < 0 ∧ ((xd * (3 : Int32)) + (0 : Int32)) < dn) (eb0 : dv.getD ((xd * (3 : Int32)) + (0 : Int32)).toNatClampNeg dq = .double b0) (va0 : Nib a0) (vb0 : Nib b0) (ia1 : ¬ ((xw * (3 : Int32)) + (1 : Int32)) < 0 ∧ ((xw * (3 : Int32)) + (1 : Int32)) < pn) (ea1 : pv.getD ((xw * (3 : Int32)) + (1 : Int32)).toNatClampNeg pq = .double a1) (ib1 : ¬ ((xd * (3 : Int32)) + (1 : Int32)) < 0 ∧ ((xd * (3 : Int32)) + (1 : Int32)) < dn) (eb1 : dv.getD ((xd * (3 : Int32)) + (1 : Int32)).toNatClampNeg dq = .double b1) (va1 : Nib a1) (vb1 : Nib b1) (ia2 : ¬ ((xw * (3 : Int32)) + (2 : Int32)) < 0 ∧ ((xw * (3 : Int32)) + (2 : Int32)) < pn) (ea2 : pv.getD ((xw * (3 : Int32)) + (2 : Int32)).toNatClampNeg pq = .double a2) (ib2 : ¬ ((xd * (3 : Int32)) + (2 : Int32)) < 0 ∧ ((xd * (3 : Int32)) + (2 : Int32)) < dn) (eb2 : dv.getD ((xd * (3 : Int32)) + (2 : Int32)).toNatClampNeg dq = .double b2) (va2 : Nib a2) (vb2 : Nib b2)  :
    MetFree l (⟨"com/example/borrowed_prior/borrowedprior/model/TopicModel", "termProbability", "(II)D"⟩ : MethodName) (head1 (Jvm.Cond.code (⟨"com/example/borrowed_prior/borrowedprior/model/TopicModel", "termProbability", "(II)D"⟩ : MethodName) prog_37_method_10_code 8 (some .double) :: ws) ({ frames := 0, cells := 0, slots := 0, locals := 0 } : Room)) (fun a U => a = #[(.ref za), (.int xd), (.int xw)] ∧ Z.Warmed39 U.vm ∧ U.heap = h0) (fun _ _ _ _ _ => True) (fun _ U o U' => ∃ v L, o = .returned v ∧ Q_tp3 Z za xd xw pa da pk pn pv pq dk dn dv dq a0 a1 a2 b0 b1 b2 h0 n0 v U'.heap L ∧ FrameEnd U o U' L ({ frames := 0, cells := 0, slots := 0, locals := 0 } : Room).cells ({ frames := 0, cells := 0, slots := 0, locals := 0 } : Room).slots) := by
  refine MetFree.of_bodySF pf_tp3 hisR ?_
  intro p e s m args below meth c s₁ Bd hml0 hP hK
  obtain ⟨rfl, hZ, hh⟩ := hP
  have hx := Bd.exec
  have hby := Bd.bytes
  have hml : c.maxLocals = 8 := hml0
  have hown : s.vm.findClass "com/example/borrowed_prior/borrowedprior/model/TopicModel" = some m.cls := findClass_of_methodNamed Bd.named
  have hnm := (name_of_methodNamed Bd.named Bd.method).1
  have X0 : Stand p l e ({ frames := 0, cells := 0, slots := 0, locals := 0 } : Room) s m #[(.ref za), (.int xd), (.int xw)] below meth c s₁ [] 0 0 := Stand.of_body Bd
  have e0 : s₁.heap = h0 := by rw [← hh, Bd.state]; rfl
  have N0 := Fr.nil n0
  obtain ⟨S0, hS0⟩ : ∃ z, z = s₁.setTop (entryFrame m #[(.ref za), (.int xd), (.int xw)] 8) := ⟨_, rfl⟩
  rw [← hS0]
  have g0 : Goes p e below S0 (s₁.setTop (mkF m 0 #[rv za, iv xd, iv xw, .unset, .unset, .unset, .unset, .unset] [])) := fun t k => by rw [hS0]; exact castTop (ef_tp3 m za xd xw) k
  have g264 : Goes p e below S0 (s₁.setTop (mkF m 2 #[rv za, iv xd, iv xw, .unset, .unset, .unset, .unset, .unset] [(.ref za), (.int xd)])) := fun t k => g0 t (by
    refine XS.iloadN X0.here hx rfl (hb hby d5_0) rfl ?_
    show Go p e below t s₁ m 1 #[rv za, iv xd, iv xw, .unset, .unset, .unset, .unset, .unset] [(.int xd)]
    refine XS.aloadN X0.here hx rfl (hb hby d5_1) rfl rfl ?_
    show Go p e below t s₁ m 2 #[rv za, iv xd, iv xw, .unset, .unset, .unset, .unset, .unset] [(.ref za), (.int xd)]
    exact k)
  obtain ⟨T265, X265, e265, st265⟩ := getF X0 hx hZ hown (host := "") (Or.inl (hw _ (List.mem_of_getElem? (i := 23) rfl))) Via.refl e0 P0 (g := (mkF m 2 #[rv za, iv xd, iv xw, .unset, .unset, .unset, .unset, .unset] [(.ref za), (.int xd)])) rfl rfl (hb hby d5_2)
  have g266 : Goes p e below S0 (T265.setTop (mkF m 5 #[rv za, iv xd, iv xw, .unset, .unset, .unset, .unset, .unset] [(.int (3 : Int32)), (.int xd)])) := fun t k => g264 t (st265 t k)
  have g267 : Goes p e below S0 (T265.setTop (mkF m 9 #[rv za, iv xd, iv xw, iv (xd * (3 : Int32)), .unset, .unset, .unset, .unset] [(.ref za), (.int xw)])) := fun t k => g266 t (by
    refine XS.imul X265.here hx rfl (hb hby d5_5) rfl ?_
    show Go p e below t T265 m 6 #[rv za, iv xd, iv xw, .unset, .unset, .unset, .unset, .unset] [(.int (xd * (3 : Int32)))]
    refine XS.istoreN X265.here hx rfl (hb hby d5_6) rfl (l' := #[rv za, iv xd, iv xw, iv (xd * (3 : Int32)), .unset, .unset, .unset, .unset]) rfl ?_
    show Go p e below t T265 m 7 #[rv za, iv xd, iv xw, iv (xd * (3 : Int32)), .unset, .unset, .unset, .unset] []
    refine XS.iloadN X265.here hx rfl (hb hby d5_7) rfl ?_
    show Go p e below t T265 m 8 #[rv za, iv xd, iv xw, iv (xd * (3 : Int32)), .unset, .unset, .unset, .unset] [(.int xw)]
    refine XS.aloadN X265.here hx rfl (hb hby d5_8) rfl rfl ?_
    show Go p e below t T265 m 9 #[rv za, iv xd, iv xw, iv (xd * (3 : Int32)), .unset, .unset, .unset, .unset] [(.ref za), (.int xw)]
    exact k)
  obtain ⟨T268, X268, e268, st268⟩ := getF X265 hx hZ hown (host := "") (Or.inl (hw _ (List.mem_of_getElem? (i := 23) rfl))) Via.refl e265 P0 (g := (mkF m 9 #[rv za, iv xd, iv xw, iv (xd * (3 : Int32)), .unset, .unset, .unset, .unset] [(.ref za), (.int xw)])) rfl rfl (hb hby d5_9)
  have g269 : Goes p e below S0 (T268.setTop (mkF m 12 #[rv za, iv xd, iv xw, iv (xd * (3 : Int32)), .unset, .unset, .unset, .unset] [(.int (3 : Int32)), (.int xw)])) := fun t k => g267 t (st268 t k)
  have g270 : Goes p e below S0 (T268.setTop (mkF m 24 #[rv za, iv xd, iv xw, iv (xd * (3 : Int32)), iv (xw * (3 : Int32)), .val (.double (0 : UInt64)), .second, iv (0 : Int32)] [(.ref za), (.int (0 : Int32))])) := fun t k => g269 t (by
    refine XS.imul X268.here hx rfl (hb hby d5_12) rfl ?_
    show Go p e below t T268 m 13 #[rv za, iv xd, iv xw, iv (xd * (3 : Int32)), .unset, .unset, .unset, .unset] [(.int (xw * (3 : Int32)))]
    refine XS.istore X268.here hx rfl (hb hby d5_13) rfl (l' := #[rv za, iv xd, iv xw, iv (xd * (3 : Int32)), iv (xw * (3 : Int32)), .unset, .unset, .unset]) rfl ?_
    show Go p e below t T268 m 15 #[rv za, iv xd, iv xw, iv (xd * (3 : Int32)), iv (xw * (3 : Int32)), .unset, .unset, .unset] []
    refine XS.dconst0 X268.here hx rfl (hb hby d5_15) (v := (0 : UInt64)) rfl ?_
    show Go p e below t T268 m 16 #[rv za, iv xd, iv xw, iv (xd * (3 : Int32)), iv (xw * (3 : Int32)), .unset, .unset, .unset] [(.double (0 : UInt64))]
    refine XS.dstore X268.here hx rfl (hb hby d5_16) rfl (l' := #[rv za, iv xd, iv xw, iv (xd * (3 : Int32)), iv (xw * (3 : Int32)), .val (.double (0 : UInt64)), .second, .unset]) rfl ?_
    show Go p e below t T268 m 18 #[rv za, iv xd, iv xw, iv (xd * (3 : Int32)), iv (xw * (3 : Int32)), .val (.double (0 : UInt64)), .second, .unset] []
    refine XT.iconstV X268.here hx rfl (0 : Int32) (hb hby d5_18) (by decide) ?_
    show Go p e below t T268 m 19 #[rv za, iv xd, iv xw, iv (xd * (3 : Int32)), iv (xw * (3 : Int32)), .val (.double (0 : UInt64)), .second, .unset] [(.int (0 : Int32))]
    refine XS.istore X268.here hx rfl (hb hby d5_19) rfl (l' := #[rv za, iv xd, iv xw, iv (xd * (3 : Int32)), iv (xw * (3 : Int32)), .val (.double (0 : UInt64)), .second, iv (0 : Int32)]) rfl ?_
    show Go p e below t T268 m 21 #[rv za, iv xd, iv xw, iv (xd * (3 : Int32)), iv (xw * (3 : Int32)), .val (.double (0 : UInt64)), .second, iv (0 : Int32)] []
    refine XS.iload X268.here hx rfl (hb hby d5_21) rfl ?_
    show Go p e below t T268 m 23 #[rv za, iv xd, iv xw, iv (xd * (3 : Int32)), iv (xw * (3 : Int32)), .val (.double (0 : UInt64)), .second, iv (0 : Int32)] [(.int (0 : Int32))]
    refine XS.aloadN X268.here hx rfl (hb hby d5_23) rfl rfl ?_
    show Go p e below t T268 m 24 #[rv za, iv xd, iv xw, iv (xd * (3 : Int32)), iv (xw * (3 : Int32)), .val (.double (0 : UInt64)), .second, iv (0 : Int32)] [(.ref za), (.int (0 : Int32))]
    exact k)
  obtain ⟨T271, X271, e271, st271⟩ := getF X268 hx hZ hown (host := "") (Or.inl (hw _ (List.mem_of_getElem? (i := 23) rfl))) Via.refl e268 P0 (g := (mkF m 24 #[rv za, iv xd, iv xw, iv (xd * (3 : Int32)), iv (xw * (3 : Int32)), .val (.double (0 : UInt64)), .second, iv (0 : Int32)] [(.ref za), (.int (0 : Int32))])) rfl rfl (hb hby d5_24)
  have g272 : Goes p e below S0 (T271.setTop (mkF m 27 #[rv za, iv xd, iv xw, iv (xd * (3 : Int32)), iv (xw * (3 : Int32)), .val (.double (0 : UInt64)), .second, iv (0 : Int32)] [(.int (3 : Int32)), (.int (0 : Int32))])) := fun t k => g270 t (st271 t k)
  have g273 : Goes p e below S0 (T271.setTop (mkF m 33 #[rv za, iv xd, iv xw, iv (xd * (3 : Int32)), iv (xw * (3 : Int32)), .val (.double (0 : UInt64)), .second, iv (0 : Int32)] [(.ref za), (.double (0 : UInt64))])) := fun t k => g272 t (by
    refine XS.icmpNo X271.here hx rfl (hb hby d5_27) rfl (XT.ii_ge_f (by decide)) ?_
    show Go p e below t T271 m 30 #[rv za, iv xd, iv xw, iv (xd * (3 : Int32)), iv (xw * (3 : Int32)), .val (.double (0 : UInt64)), .second, iv (0 : Int32)] []
    refine XS.dload X271.here hx rfl (hb hby d5_30) rfl ?_
    show Go p e below t T271 m 32 #[rv za, iv xd, iv xw, iv (xd * (3 : Int32)), iv (xw * (3 : Int32)), .val (.double (0 : UInt64)), .second, iv (0 : Int32)] [(.double (0 : UInt64))]
    refine XS.aloadN X271.here hx rfl (hb hby d5_32) rfl rfl ?_
    show Go p e below t T271 m 33 #[rv za, iv xd, iv xw, iv (xd * (3 : Int32)), iv (xw * (3 : Int32)), .val (.double (0 : UInt64)), .second, iv (0 : Int32)] [(.ref za), (.double (0 : UInt64))]
    exact k)
  obtain ⟨T274, X274, e274, st274⟩ := getF X271 hx hZ hown (host := "") (Or.inl (hw _ (List.mem_of_getElem? (i := 33) rfl))) Via.refl e271 P1 (g := (mkF m 33 #[rv za, iv xd, iv xw, iv (xd * (3 : Int32)), iv (xw * (3 : Int32)), .val (.double (0 : UInt64)), .second, iv (0 : Int32)] [(.ref za), (.double (0 : UInt64))])) rfl rfl (hb hby d5_33)
  have g275 : Goes p e below S0 (T274.setTop (mkF m 36 #[rv za, iv xd, iv xw, iv (xd * (3 : Int32)), iv (xw * (3 : Int32)), .val (.double (0 : UInt64)), .second, iv (0 : Int32)] [(.ref pa), (.double (0 : UInt64))])) := fun t k => g273 t (st274 t k)
  have g276 : Goes p e below S0 (T274.setTop (mkF m 41 #[rv za, iv xd, iv xw, iv (xd * (3 : Int32)), iv (xw * (3 : Int32)), .val (.double (0 : UInt64)), .second, iv (0 : Int32)] [(.int ((xw * (3 : Int32)) + (0 : Int32))), (.ref pa), (.double (0 : UInt64))])) := fun t k => g275 t (by
    refine XS.iload X274.here hx rfl (hb hby d5_36) rfl ?_
    show Go p e below t T274 m 38 #[rv za, iv xd, iv xw, iv (xd * (3 : Int32)), iv (xw * (3 : Int32)), .val (.double (0 : UInt64)), .second, iv (0 : Int32)] [(.int (xw * (3 : Int32))), (.ref pa), (.double (0 : UInt64))]
    refine XS.iload X274.here hx rfl (hb hby d5_38) rfl ?_
    show Go p e below t T274 m 40 #[rv za, iv xd, iv xw, iv (xd * (3 : Int32)), iv (xw * (3 : Int32)), .val (.double (0 : UInt64)), .second, iv (0 : Int32)] [(.int (0 : Int32)), (.int (xw * (3 : Int32))), (.ref pa), (.double (0 : UInt64))]
    refine XS.iadd X274.here hx rfl (hb hby d5_40) rfl ?_
    show Go p e below t T274 m 41 #[rv za, iv xd, iv xw, iv (xd * (3 : Int32)), iv (xw * (3 : Int32)), .val (.double (0 : UInt64)), .second, iv (0 : Int32)] [(.int ((xw * (3 : Int32)) + (0 : Int32))), (.ref pa), (.double (0 : UInt64))]
    exact k)
  obtain ⟨cl277, Ar277, q277, S277, M277, H277, G277⟩ := id P3
  have g278 : Goes p e below S0 (T274.setTop (mkF m 43 #[rv za, iv xd, iv xw, iv (xd * (3 : Int32)), iv (xw * (3 : Int32)), .val (.double (0 : UInt64)), .second, iv (0 : Int32)] [(.ref za), (.double a0), (.double (0 : UInt64))])) := fun t k => g276 t (by
    refine X274.daload hx (j := ((xw * (3 : Int32)) + (0 : Int32))) (v := (.double a0)) (by rw [e274]; exact Ar277.1) (State.isArrayOf_alike hZ.alike Ar277.2.1) Ar277.2.2 (inb_of S277 ia0) (H277.at (inb_of S277 ia0) ea0) (g := (mkF m 41 #[rv za, iv xd, iv xw, iv (xd * (3 : Int32)), iv (xw * (3 : Int32)), .val (.double (0 : UInt64)), .second, iv (0 : Int32)] [(.int ((xw * (3 : Int32)) + (0 : Int32))), (.ref pa), (.double (0 : UInt64))])) rfl rfl (hb hby d5_41) _ ?_
    show Go p e below t T274 m 42 #[rv za, iv xd, iv xw, iv (xd * (3 : Int32)), iv (xw * (3 : Int32)), .val (.double (0 : UInt64)), .second, iv (0 : Int32)] [(.double a0), (.double (0 : UInt64))]
    refine XS.aloadN X274.here hx rfl (hb hby d5_42) rfl rfl ?_
    show Go p e below t T274 m 43 #[rv za, iv xd, iv xw, iv (xd * (3 : Int32)), iv (xw * (3 : Int32)), .val (.double (0 : UInt64)), .second, iv (0 : Int32)] [(.ref za), (.double a0), (.double (0 : UInt64))]
    exact k)
  obtain ⟨T279, X279, e279, st279⟩ := getF X274 hx hZ hown (host := "") (Or.inl (hw _ (List.mem_of_getElem? (i := 31) rfl))) Via.refl e274 P2 (g := (mkF m 43 #[rv za, iv xd, iv xw, iv (xd * (3 : Int32)), iv (xw * (3 : Int32)), .val (.double (0 : UInt64)), .second, iv (0 : Int32)] [(.ref za), (.double a0), (.double (0 : UInt64))])) rfl rfl (hb hby d5_43)
  have g280 : Goes p e below S0 (T279.setTop (mkF m 46 #[rv za, iv xd, iv xw, iv (xd * (3 : Int32)), iv (xw * (3 : Int32)), .val (.double (0 : UInt64)), .second, iv (0 : Int32)] [(.ref da), (.double a0), (.double (0 : UInt64))])) := fun t k => g278 t (st279 t k)
  have g281 : Goes p e below S0 (T279.setTop (mkF m 50 #[rv za, iv xd, iv xw, iv (xd * (3 : Int32)), iv (xw * (3 : Int32)), .val (.double (0 : UInt64)), .second, iv (0 : Int32)] [(.int ((xd * (3 : Int32)) + (0 : Int32))), (.ref da), (.double a0), (.double (0 : UInt64))])) := fun t k => g280 t (by
    refine XS.iloadN X279.here hx rfl (hb hby d5_46) rfl ?_
    show Go p e below t T279 m 47 #[rv za, iv xd, iv xw, iv (xd * (3 : Int32)), iv (xw * (3 : Int32)), .val (.double (0 : UInt64)), .second, iv (0 : Int32)] [(.int (xd * (3 : Int32))), (.ref da), (.double a0), (.double (0 : UInt64))]
    refine XS.iload X279.here hx rfl (hb hby d5_47) rfl ?_
    show Go p e below t T279 m 49 #[rv za, iv xd, iv xw, iv (xd * (3 : Int32)), iv (xw * (3 : Int32)), .val (.double (0 : UInt64)), .second, iv (0 : Int32)] [(.int (0 : Int32)), (.int (xd * (3 : Int32))), (.ref da), (.double a0), (.double (0 : UInt64))]
    refine XS.iadd X279.here hx rfl (hb hby d5_49) rfl ?_
    show Go p e below t T279 m 50 #[rv za, iv xd, iv xw, iv (xd * (3 : Int32)), iv (xw * (3 : Int32)), .val (.double (0 : UInt64)), .second, iv (0 : Int32)] [(.int ((xd * (3 : Int32)) + (0 : Int32))), (.ref da), (.double a0), (.double (0 : UInt64))]
    exact k)
  obtain ⟨cl282, Ar282, q282, S282, M282, H282, G282⟩ := id P4
  have g283 : Goes p e below S0 (T279.setTop (mkF m 24 #[rv za, iv xd, iv xw, iv (xd * (3 : Int32)), iv (xw * (3 : Int32)), .val (.double (FP.dadd (0 : UInt64) (FP.dmul a0 b0))), .second, iv (1 : Int32)] [(.ref za), (.int (1 : Int32))])) := fun t k => g281 t (by
    refine X279.daload hx (j := ((xd * (3 : Int32)) + (0 : Int32))) (v := (.double b0)) (by rw [e279]; exact Ar282.1) (State.isArrayOf_alike hZ.alike Ar282.2.1) Ar282.2.2 (inb_of S282 ib0) (H282.at (inb_of S282 ib0) eb0) (g := (mkF m 50 #[rv za, iv xd, iv xw, iv (xd * (3 : Int32)), iv (xw * (3 : Int32)), .val (.double (0 : UInt64)), .second, iv (0 : Int32)] [(.int ((xd * (3 : Int32)) + (0 : Int32))), (.ref da), (.double a0), (.double (0 : UInt64))])) rfl rfl (hb hby d5_50) _ ?_
    show Go p e below t T279 m 51 #[rv za, iv xd, iv xw, iv (xd * (3 : Int32)), iv (xw * (3 : Int32)), .val (.double (0 : UInt64)), .second, iv (0 : Int32)] [(.double b0), (.double a0), (.double (0 : UInt64))]
    refine XS.dmulS X279.here hx rfl (hb hby d5_51) rfl (Pr.nn (Pr.mul va0 vb0)) rfl ?_
    show Go p e below t T279 m 52 #[rv za, iv xd, iv xw, iv (xd * (3 : Int32)), iv (xw * (3 : Int32)), .val (.double (0 : UInt64)), .second, iv (0 : Int32)] [(.double (FP.dmul a0 b0)), (.double (0 : UInt64))]
    refine XS.daddS X279.here hx rfl (hb hby d5_52) rfl (Pr.nn (Pr.add Pr.zero (Pr.mul va0 vb0) (by decide))) rfl ?_
    show Go p e below t T279 m 53 #[rv za, iv xd, iv xw, iv (xd * (3 : Int32)), iv (xw * (3 : Int32)), .val (.double (0 : UInt64)), .second, iv (0 : Int32)] [(.double (FP.dadd (0 : UInt64) (FP.dmul a0 b0)))]
    refine XS.dstore X279.here hx rfl (hb hby d5_53) rfl (l' := #[rv za, iv xd, iv xw, iv (xd * (3 : Int32)), iv (xw * (3 : Int32)), .val (.double (FP.dadd (0 : UInt64) (FP.dmul a0 b0))), .second, iv (0 : Int32)]) rfl ?_
    show Go p e below t T279 m 55 #[rv za, iv xd, iv xw, iv (xd * (3 : Int32)), iv (xw * (3 : Int32)), .val (.double (FP.dadd (0 : UInt64) (FP.dmul a0 b0))), .second, iv (0 : Int32)] []
    refine XT.iincV X279.here hx rfl (1 : Int32) (hb hby d5_55) (by decide) rfl (l' := #[rv za, iv xd, iv xw, iv (xd * (3 : Int32)), iv (xw * (3 : Int32)), .val (.double (FP.dadd (0 : UInt64) (FP.dmul a0 b0))), .second, iv (1 : Int32)]) rfl ?_
    show Go p e below t T279 m 58 #[rv za, iv xd, iv xw, iv (xd * (3 : Int32)), iv (xw * (3 : Int32)), .val (.double (FP.dadd (0 : UInt64) (FP.dmul a0 b0))), .second, iv (1 : Int32)] []
    refine XS.goto X279.here hx rfl (pc0 := 58) (pc' := 21) rfl (hb hby d5_58) (by decide) (by decide) ?_
    show Go p e below t T279 m 21 #[rv za, iv xd, iv xw, iv (xd * (3 : Int32)), iv (xw * (3 : Int32)), .val (.double (FP.dadd (0 : UInt64) (FP.dmul a0 b0))), .second, iv (1 : Int32)] []
    refine XS.iload X279.here hx rfl (hb hby d5_21) rfl ?_
    show Go p e below t T279 m 23 #[rv za, iv xd, iv xw, iv (xd * (3 : Int32)), iv (xw * (3 : Int32)), .val (.double (FP.dadd (0 : UInt64) (FP.dmul a0 b0))), .second, iv (1 : Int32)] [(.int (1 : Int32))]
    refine XS.aloadN X279.here hx rfl (hb hby d5_23) rfl rfl ?_
    show Go p e below t T279 m 24 #[rv za, iv xd, iv xw, iv (xd * (3 : Int32)), iv (xw * (3 : Int32)), .val (.double (FP.dadd (0 : UInt64) (FP.dmul a0 b0))), .second, iv (1 : Int32)] [(.ref za), (.int (1 : Int32))]
    exact k)
  obtain ⟨T284, X284, e284, st284⟩ := getF X279 hx hZ hown (host := "") (Or.inl (hw _ (List.mem_of_getElem? (i := 23) rfl))) Via.refl e279 P0 (g := (mkF m 24 #[rv za, iv xd, iv xw, iv (xd * (3 : Int32)), iv (xw * (3 : Int32)), .val (.double (FP.dadd (0 : UInt64) (FP.dmul a0 b0))), .second, iv (1 : Int32)] [(.ref za), (.int (1 : Int32))])) rfl rfl (hb hby d5_24)
  have g285 : Goes p e below S0 (T284.setTop (mkF m 27 #[rv za, iv xd, iv xw, iv (xd * (3 : Int32)), iv (xw * (3 : Int32)), .val (.double (FP.dadd (0 : UInt64) (FP.dmul a0 b0))), .second, iv (1 : Int32)] [(.int (3 : Int32)), (.int (1 : Int32))])) := fun t k => g283 t (st284 t k)
  have g286 : Goes p e below S0 (T284.setTop (mkF m 33 #[rv za, iv xd, iv xw, iv (xd * (3 : Int32)), iv (xw * (3 : Int32)), .val (.double (FP.dadd (0 : UInt64) (FP.dmul a0 b0))), .second, iv (1 : Int32)] [(.ref za), (.double (FP.dadd (0 : UInt64) (FP.dmul a0 b0)))])) := fun t k => g285 t (by
    refine XS.icmpNo X284.here hx rfl (hb hby d5_27) rfl (XT.ii_ge_f (by decide)) ?_
    show Go p e below t T284 m 30 #[rv za, iv xd, iv xw, iv (xd * (3 : Int32)), iv (xw * (3 : Int32)), .val (.double (FP.dadd (0 : UInt64) (FP.dmul a0 b0))), .second, iv (1 : Int32)] []
    refine XS.dload X284.here hx rfl (hb hby d5_30) rfl ?_
    show Go p e below t T284 m 32 #[rv za, iv xd, iv xw, iv (xd * (3 : Int32)), iv (xw * (3 : Int32)), .val (.double (FP.dadd (0 : UInt64) (FP.dmul a0 b0))), .second, iv (1 : Int32)] [(.double (FP.dadd (0 : UInt64) (FP.dmul a0 b0)))]
    refine XS.aloadN X284.here hx rfl (hb hby d5_32) rfl rfl ?_
    show Go p e below t T284 m 33 #[rv za, iv xd, iv xw, iv (xd * (3 : Int32)), iv (xw * (3 : Int32)), .val (.double (FP.dadd (0 : UInt64) (FP.dmul a0 b0))), .second, iv (1 : Int32)] [(.ref za), (.double (FP.dadd (0 : UInt64) (FP.dmul a0 b0)))]
    exact k)
  obtain ⟨T287, X287, e287, st287⟩ := getF X284 hx hZ hown (host := "") (Or.inl (hw _ (List.mem_of_getElem? (i := 33) rfl))) Via.refl e284 P1 (g := (mkF m 33 #[rv za, iv xd, iv xw, iv (xd * (3 : Int32)), iv (xw * (3 : Int32)), .val (.double (FP.dadd (0 : UInt64) (FP.dmul a0 b0))), .second, iv (1 : Int32)] [(.ref za), (.double (FP.dadd (0 : UInt64) (FP.dmul a0 b0)))])) rfl rfl (hb hby d5_33)
  have g288 : Goes p e below S0 (T287.setTop (mkF m 36 #[rv za, iv xd, iv xw, iv (xd * (3 : Int32)), iv (xw * (3 : Int32)), .val (.double (FP.dadd (0 : UInt64) (FP.dmul a0 b0))), .second, iv (1 : Int32)] [(.ref pa), (.double (FP.dadd (0 : UInt64) (FP.dmul a0 b0)))])) := fun t k => g286 t (st287 t k)
  have g289 : Goes p e below S0 (T287.setTop (mkF m 41 #[rv za, iv xd, iv xw, iv (xd * (3 : Int32)), iv (xw * (3 : Int32)), .val (.double (FP.dadd (0 : UInt64) (FP.dmul a0 b0))), .second, iv (1 : Int32)] [(.int ((xw * (3 : Int32)) + (1 : Int32))), (.ref pa), (.double (FP.dadd (0 : UInt64) (FP.dmul a0 b0)))])) := fun t k => g288 t (by
    refine XS.iload X287.here hx rfl (hb hby d5_36) rfl ?_
    show Go p e below t T287 m 38 #[rv za, iv xd, iv xw, iv (xd * (3 : Int32)), iv (xw * (3 : Int32)), .val (.double (FP.dadd (0 : UInt64) (FP.dmul a0 b0))), .second, iv (1 : Int32)] [(.int (xw * (3 : Int32))), (.ref pa), (.double (FP.dadd (0 : UInt64) (FP.dmul a0 b0)))]
    refine XS.iload X287.here hx rfl (hb hby d5_38) rfl ?_
    show Go p e below t T287 m 40 #[rv za, iv xd, iv xw, iv (xd * (3 : Int32)), iv (xw * (3 : Int32)), .val (.double (FP.dadd (0 : UInt64) (FP.dmul a0 b0))), .second, iv (1 : Int32)] [(.int (1 : Int32)), (.int (xw * (3 : Int32))), (.ref pa), (.double (FP.dadd (0 : UInt64) (FP.dmul a0 b0)))]
    refine XS.iadd X287.here hx rfl (hb hby d5_40) rfl ?_
    show Go p e below t T287 m 41 #[rv za, iv xd, iv xw, iv (xd * (3 : Int32)), iv (xw * (3 : Int32)), .val (.double (FP.dadd (0 : UInt64) (FP.dmul a0 b0))), .second, iv (1 : Int32)] [(.int ((xw * (3 : Int32)) + (1 : Int32))), (.ref pa), (.double (FP.dadd (0 : UInt64) (FP.dmul a0 b0)))]
    exact k)
  obtain ⟨cl290, Ar290, q290, S290, M290, H290, G290⟩ := id P3
  have g291 : Goes p e below S0 (T287.setTop (mkF m 43 #[rv za, iv xd, iv xw, iv (xd * (3 : Int32)), iv (xw * (3 : Int32)), .val (.double (FP.dadd (0 : UInt64) (FP.dmul a0 b0))), .second, iv (1 : Int32)] [(.ref za), (.double a1), (.double (FP.dadd (0 : UInt64) (FP.dmul a0 b0)))])) := fun t k => g289 t (by
    refine X287.daload hx (j := ((xw * (3 : Int32)) + (1 : Int32))) (v := (.double a1)) (by rw [e287]; exact Ar290.1) (State.isArrayOf_alike hZ.alike Ar290.2.1) Ar290.2.2 (inb_of S290 ia1) (H290.at (inb_of S290 ia1) ea1) (g := (mkF m 41 #[rv za, iv xd, iv xw, iv (xd * (3 : Int32)), iv (xw * (3 : Int32)), .val (.double (FP.dadd (0 : UInt64) (FP.dmul a0 b0))), .second, iv (1 : Int32)] [(.int ((xw * (3 : Int32)) + (1 : Int32))), (.ref pa), (.double (FP.dadd (0 : UInt64) (FP.dmul a0 b0)))])) rfl rfl (hb hby d5_41) _ ?_
    show Go p e below t T287 m 42 #[rv za, iv xd, iv xw, iv (xd * (3 : Int32)), iv (xw * (3 : Int32)), .val (.double (FP.dadd (0 : UInt64) (FP.dmul a0 b0))), .second, iv (1 : Int32)] [(.double a1), (.double (FP.dadd (0 : UInt64) (FP.dmul a0 b0)))]
    refine XS.aloadN X287.here hx rfl (hb hby d5_42) rfl rfl ?_
    show Go p e below t T287 m 43 #[rv za, iv xd, iv xw, iv (xd * (3 : Int32)), iv (xw * (3 : Int32)), .val (.double (FP.dadd (0 : UInt64) (FP.dmul a0 b0))), .second, iv (1 : Int32)] [(.ref za), (.double a1), (.double (FP.dadd (0 : UInt64) (FP.dmul a0 b0)))]
    exact k)
  obtain ⟨T292, X292, e292, st292⟩ := getF X287 hx hZ hown (host := "") (Or.inl (hw _ (List.mem_of_getElem? (i := 31) rfl))) Via.refl e287 P2 (g := (mkF m 43 #[rv za, iv xd, iv xw, iv (xd * (3 : Int32)), iv (xw * (3 : Int32)), .val (.double (FP.dadd (0 : UInt64) (FP.dmul a0 b0))), .second, iv (1 : Int32)] [(.ref za), (.double a1), (.double (FP.dadd (0 : UInt64) (FP.dmul a0 b0)))])) rfl rfl (hb hby d5_43)
  have g293 : Goes p e below S0 (T292.setTop (mkF m 46 #[rv za, iv xd, iv xw, iv (xd * (3 : Int32)), iv (xw * (3 : Int32)), .val (.double (FP.dadd (0 : UInt64) (FP.dmul a0 b0))), .second, iv (1 : Int32)] [(.ref da), (.double a1), (.double (FP.dadd (0 : UInt64) (FP.dmul a0 b0)))])) := fun t k => g291 t (st292 t k)
  have g294 : Goes p e below S0 (T292.setTop (mkF m 50 #[rv za, iv xd, iv xw, iv (xd * (3 : Int32)), iv (xw * (3 : Int32)), .val (.double (FP.dadd (0 : UInt64) (FP.dmul a0 b0))), .second, iv (1 : Int32)] [(.int ((xd * (3 : Int32)) + (1 : Int32))), (.ref da), (.double a1), (.double (FP.dadd (0 : UInt64) (FP.dmul a0 b0)))])) := fun t k => g293 t (by
    refine XS.iloadN X292.here hx rfl (hb hby d5_46) rfl ?_
    show Go p e below t T292 m 47 #[rv za, iv xd, iv xw, iv (xd * (3 : Int32)), iv (xw * (3 : Int32)), .val (.double (FP.dadd (0 : UInt64) (FP.dmul a0 b0))), .second, iv (1 : Int32)] [(.int (xd * (3 : Int32))), (.ref da), (.double a1), (.double (FP.dadd (0 : UInt64) (FP.dmul a0 b0)))]
    refine XS.iload X292.here hx rfl (hb hby d5_47) rfl ?_
    show Go p e below t T292 m 49 #[rv za, iv xd, iv xw, iv (xd * (3 : Int32)), iv (xw * (3 : Int32)), .val (.double (FP.dadd (0 : UInt64) (FP.dmul a0 b0))), .second, iv (1 : Int32)] [(.int (1 : Int32)), (.int (xd * (3 : Int32))), (.ref da), (.double a1), (.double (FP.dadd (0 : UInt64) (FP.dmul a0 b0)))]
    refine XS.iadd X292.here hx rfl (hb hby d5_49) rfl ?_
    show Go p e below t T292 m 50 #[rv za, iv xd, iv xw, iv (xd * (3 : Int32)), iv (xw * (3 : Int32)), .val (.double (FP.dadd (0 : UInt64) (FP.dmul a0 b0))), .second, iv (1 : Int32)] [(.int ((xd * (3 : Int32)) + (1 : Int32))), (.ref da), (.double a1), (.double (FP.dadd (0 : UInt64) (FP.dmul a0 b0)))]
    exact k)
  obtain ⟨cl295, Ar295, q295, S295, M295, H295, G295⟩ := id P4
  have g296 : Goes p e below S0 (T292.setTop (mkF m 24 #[rv za, iv xd, iv xw, iv (xd * (3 : Int32)), iv (xw * (3 : Int32)), .val (.double (FP.dadd (FP.dadd (0 : UInt64) (FP.dmul a0 b0)) (FP.dmul a1 b1))), .second, iv (2 : Int32)] [(.ref za), (.int (2 : Int32))])) := fun t k => g294 t (by
    refine X292.daload hx (j := ((xd * (3 : Int32)) + (1 : Int32))) (v := (.double b1)) (by rw [e292]; exact Ar295.1) (State.isArrayOf_alike hZ.alike Ar295.2.1) Ar295.2.2 (inb_of S295 ib1) (H295.at (inb_of S295 ib1) eb1) (g := (mkF m 50 #[rv za, iv xd, iv xw, iv (xd * (3 : Int32)), iv (xw * (3 : Int32)), .val (.double (FP.dadd (0 : UInt64) (FP.dmul a0 b0))), .second, iv (1 : Int32)] [(.int ((xd * (3 : Int32)) + (1 : Int32))), (.ref da), (.double a1), (.double (FP.dadd (0 : UInt64) (FP.dmul a0 b0)))])) rfl rfl (hb hby d5_50) _ ?_
    show Go p e below t T292 m 51 #[rv za, iv xd, iv xw, iv (xd * (3 : Int32)), iv (xw * (3 : Int32)), .val (.double (FP.dadd (0 : UInt64) (FP.dmul a0 b0))), .second, iv (1 : Int32)] [(.double b1), (.double a1), (.double (FP.dadd (0 : UInt64) (FP.dmul a0 b0)))]
    refine XS.dmulS X292.here hx rfl (hb hby d5_51) rfl (Pr.nn (Pr.mul va1 vb1)) rfl ?_
    show Go p e below t T292 m 52 #[rv za, iv xd, iv xw, iv (xd * (3 : Int32)), iv (xw * (3 : Int32)), .val (.double (FP.dadd (0 : UInt64) (FP.dmul a0 b0))), .second, iv (1 : Int32)] [(.double (FP.dmul a1 b1)), (.double (FP.dadd (0 : UInt64) (FP.dmul a0 b0)))]
    refine XS.daddS X292.here hx rfl (hb hby d5_52) rfl (Pr.nn (Pr.add (Pr.add Pr.zero (Pr.mul va0 vb0) (by decide)) (Pr.mul va1 vb1) (by decide))) rfl ?_
    show Go p e below t T292 m 53 #[rv za, iv xd, iv xw, iv (xd * (3 : Int32)), iv (xw * (3 : Int32)), .val (.double (FP.dadd (0 : UInt64) (FP.dmul a0 b0))), .second, iv (1 : Int32)] [(.double (FP.dadd (FP.dadd (0 : UInt64) (FP.dmul a0 b0)) (FP.dmul a1 b1)))]
    refine XS.dstore X292.here hx rfl (hb hby d5_53) rfl (l' := #[rv za, iv xd, iv xw, iv (xd * (3 : Int32)), iv (xw * (3 : Int32)), .val (.double (FP.dadd (FP.dadd (0 : UInt64) (FP.dmul a0 b0)) (FP.dmul a1 b1))), .second, iv (1 : Int32)]) rfl ?_
    show Go p e below t T292 m 55 #[rv za, iv xd, iv xw, iv (xd * (3 : Int32)), iv (xw * (3 : Int32)), .val (.double (FP.dadd (FP.dadd (0 : UInt64) (FP.dmul a0 b0)) (FP.dmul a1 b1))), .second, iv (1 : Int32)] []
    refine XT.iincV X292.here hx rfl (1 : Int32) (hb hby d5_55) (by decide) rfl (l' := #[rv za, iv xd, iv xw, iv (xd * (3 : Int32)), iv (xw * (3 : Int32)), .val (.double (FP.dadd (FP.dadd (0 : UInt64) (FP.dmul a0 b0)) (FP.dmul a1 b1))), .second, iv (2 : Int32)]) rfl ?_
    show Go p e below t T292 m 58 #[rv za, iv xd, iv xw, iv (xd * (3 : Int32)), iv (xw * (3 : Int32)), .val (.double (FP.dadd (FP.dadd (0 : UInt64) (FP.dmul a0 b0)) (FP.dmul a1 b1))), .second, iv (2 : Int32)] []
    refine XS.goto X292.here hx rfl (pc0 := 58) (pc' := 21) rfl (hb hby d5_58) (by decide) (by decide) ?_
    show Go p e below t T292 m 21 #[rv za, iv xd, iv xw, iv (xd * (3 : Int32)), iv (xw * (3 : Int32)), .val (.double (FP.dadd (FP.dadd (0 : UInt64) (FP.dmul a0 b0)) (FP.dmul a1 b1))), .second, iv (2 : Int32)] []
    refine XS.iload X292.here hx rfl (hb hby d5_21) rfl ?_
    show Go p e below t T292 m 23 #[rv za, iv xd, iv xw, iv (xd * (3 : Int32)), iv (xw * (3 : Int32)), .val (.double (FP.dadd (FP.dadd (0 : UInt64) (FP.dmul a0 b0)) (FP.dmul a1 b1))), .second, iv (2 : Int32)] [(.int (2 : Int32))]
    refine XS.aloadN X292.here hx rfl (hb hby d5_23) rfl rfl ?_
    show Go p e below t T292 m 24 #[rv za, iv xd, iv xw, iv (xd * (3 : Int32)), iv (xw * (3 : Int32)), .val (.double (FP.dadd (FP.dadd (0 : UInt64) (FP.dmul a0 b0)) (FP.dmul a1 b1))), .second, iv (2 : Int32)] [(.ref za), (.int (2 : Int32))]
    exact k)
  obtain ⟨T297, X297, e297, st297⟩ := getF X292 hx hZ hown (host := "") (Or.inl (hw _ (List.mem_of_getElem? (i := 23) rfl))) Via.refl e292 P0 (g := (mkF m 24 #[rv za, iv xd, iv xw, iv (xd * (3 : Int32)), iv (xw * (3 : Int32)), .val (.double (FP.dadd (FP.dadd (0 : UInt64) (FP.dmul a0 b0)) (FP.dmul a1 b1))), .second, iv (2 : Int32)] [(.ref za), (.int (2 : Int32))])) rfl rfl (hb hby d5_24)
  have g298 : Goes p e below S0 (T297.setTop (mkF m 27 #[rv za, iv xd, iv xw, iv (xd * (3 : Int32)), iv (xw * (3 : Int32)), .val (.double (FP.dadd (FP.dadd (0 : UInt64) (FP.dmul a0 b0)) (FP.dmul a1 b1))), .second, iv (2 : Int32)] [(.int (3 : Int32)), (.int (2 : Int32))])) := fun t k => g296 t (st297 t k)
  have g299 : Goes p e below S0 (T297.setTop (mkF m 33 #[rv za, iv xd, iv xw, iv (xd * (3 : Int32)), iv (xw * (3 : Int32)), .val (.double (FP.dadd (FP.dadd (0 : UInt64) (FP.dmul a0 b0)) (FP.dmul a1 b1))), .second, iv (2 : Int32)] [(.ref za), (.double (FP.dadd (FP.dadd (0 : UInt64) (FP.dmul a0 b0)) (FP.dmul a1 b1)))])) := fun t k => g298 t (by
    refine XS.icmpNo X297.here hx rfl (hb hby d5_27) rfl (XT.ii_ge_f (by decide)) ?_
    show Go p e below t T297 m 30 #[rv za, iv xd, iv xw, iv (xd * (3 : Int32)), iv (xw * (3 : Int32)), .val (.double (FP.dadd (FP.dadd (0 : UInt64) (FP.dmul a0 b0)) (FP.dmul a1 b1))), .second, iv (2 : Int32)] []
    refine XS.dload X297.here hx rfl (hb hby d5_30) rfl ?_
    show Go p e below t T297 m 32 #[rv za, iv xd, iv xw, iv (xd * (3 : Int32)), iv (xw * (3 : Int32)), .val (.double (FP.dadd (FP.dadd (0 : UInt64) (FP.dmul a0 b0)) (FP.dmul a1 b1))), .second, iv (2 : Int32)] [(.double (FP.dadd (FP.dadd (0 : UInt64) (FP.dmul a0 b0)) (FP.dmul a1 b1)))]
    refine XS.aloadN X297.here hx rfl (hb hby d5_32) rfl rfl ?_
    show Go p e below t T297 m 33 #[rv za, iv xd, iv xw, iv (xd * (3 : Int32)), iv (xw * (3 : Int32)), .val (.double (FP.dadd (FP.dadd (0 : UInt64) (FP.dmul a0 b0)) (FP.dmul a1 b1))), .second, iv (2 : Int32)] [(.ref za), (.double (FP.dadd (FP.dadd (0 : UInt64) (FP.dmul a0 b0)) (FP.dmul a1 b1)))]
    exact k)
  obtain ⟨T300, X300, e300, st300⟩ := getF X297 hx hZ hown (host := "") (Or.inl (hw _ (List.mem_of_getElem? (i := 33) rfl))) Via.refl e297 P1 (g := (mkF m 33 #[rv za, iv xd, iv xw, iv (xd * (3 : Int32)), iv (xw * (3 : Int32)), .val (.double (FP.dadd (FP.dadd (0 : UInt64) (FP.dmul a0 b0)) (FP.dmul a1 b1))), .second, iv (2 : Int32)] [(.ref za), (.double (FP.dadd (FP.dadd (0 : UInt64) (FP.dmul a0 b0)) (FP.dmul a1 b1)))])) rfl rfl (hb hby d5_33)
  have g301 : Goes p e below S0 (T300.setTop (mkF m 36 #[rv za, iv xd, iv xw, iv (xd * (3 : Int32)), iv (xw * (3 : Int32)), .val (.double (FP.dadd (FP.dadd (0 : UInt64) (FP.dmul a0 b0)) (FP.dmul a1 b1))), .second, iv (2 : Int32)] [(.ref pa), (.double (FP.dadd (FP.dadd (0 : UInt64) (FP.dmul a0 b0)) (FP.dmul a1 b1)))])) := fun t k => g299 t (st300 t k)
  have g302 : Goes p e below S0 (T300.setTop (mkF m 41 #[rv za, iv xd, iv xw, iv (xd * (3 : Int32)), iv (xw * (3 : Int32)), .val (.double (FP.dadd (FP.dadd (0 : UInt64) (FP.dmul a0 b0)) (FP.dmul a1 b1))), .second, iv (2 : Int32)] [(.int ((xw * (3 : Int32)) + (2 : Int32))), (.ref pa), (.double (FP.dadd (FP.dadd (0 : UInt64) (FP.dmul a0 b0)) (FP.dmul a1 b1)))])) := fun t k => g301 t (by
    refine XS.iload X300.here hx rfl (hb hby d5_36) rfl ?_
    show Go p e below t T300 m 38 #[rv za, iv xd, iv xw, iv (xd * (3 : Int32)), iv (xw * (3 : Int32)), .val (.double (FP.dadd (FP.dadd (0 : UInt64) (FP.dmul a0 b0)) (FP.dmul a1 b1))), .second, iv (2 : Int32)] [(.int (xw * (3 : Int32))), (.ref pa), (.double (FP.dadd (FP.dadd (0 : UInt64) (FP.dmul a0 b0)) (FP.dmul a1 b1)))]
    refine XS.iload X300.here hx rfl (hb hby d5_38) rfl ?_
    show Go p e below t T300 m 40 #[rv za, iv xd, iv xw, iv (xd * (3 : Int32)), iv (xw * (3 : Int32)), .val (.double (FP.dadd (FP.dadd (0 : UInt64) (FP.dmul a0 b0)) (FP.dmul a1 b1))), .second, iv (2 : Int32)] [(.int (2 : Int32)), (.int (xw * (3 : Int32))), (.ref pa), (.double (FP.dadd (FP.dadd (0 : UInt64) (FP.dmul a0 b0)) (FP.dmul a1 b1)))]
    refine XS.iadd X300.here hx rfl (hb hby d5_40) rfl ?_
    show Go p e below t T300 m 41 #[rv za, iv xd, iv xw, iv (xd * (3 : Int32)), iv (xw * (3 : Int32)), .val (.double (FP.dadd (FP.dadd (0 : UInt64) (FP.dmul a0 b0)) (FP.dmul a1 b1))), .second, iv (2 : Int32)] [(.int ((xw * (3 : Int32)) + (2 : Int32))), (.ref pa), (.double (FP.dadd (FP.dadd (0 : UInt64) (FP.dmul a0 b0)) (FP.dmul a1 b1)))]
    exact k)
  obtain ⟨cl303, Ar303, q303, S303, M303, H303, G303⟩ := id P3
  have g304 : Goes p e below S0 (T300.setTop (mkF m 43 #[rv za, iv xd, iv xw, iv (xd * (3 : Int32)), iv (xw * (3 : Int32)), .val (.double (FP.dadd (FP.dadd (0 : UInt64) (FP.dmul a0 b0)) (FP.dmul a1 b1))), .second, iv (2 : Int32)] [(.ref za), (.double a2), (.double (FP.dadd (FP.dadd (0 : UInt64) (FP.dmul a0 b0)) (FP.dmul a1 b1)))])) := fun t k => g302 t (by
    refine X300.daload hx (j := ((xw * (3 : Int32)) + (2 : Int32))) (v := (.double a2)) (by rw [e300]; exact Ar303.1) (State.isArrayOf_alike hZ.alike Ar303.2.1) Ar303.2.2 (inb_of S303 ia2) (H303.at (inb_of S303 ia2) ea2) (g := (mkF m 41 #[rv za, iv xd, iv xw, iv (xd * (3 : Int32)), iv (xw * (3 : Int32)), .val (.double (FP.dadd (FP.dadd (0 : UInt64) (FP.dmul a0 b0)) (FP.dmul a1 b1))), .second, iv (2 : Int32)] [(.int ((xw * (3 : Int32)) + (2 : Int32))), (.ref pa), (.double (FP.dadd (FP.dadd (0 : UInt64) (FP.dmul a0 b0)) (FP.dmul a1 b1)))])) rfl rfl (hb hby d5_41) _ ?_
    show Go p e below t T300 m 42 #[rv za, iv xd, iv xw, iv (xd * (3 : Int32)), iv (xw * (3 : Int32)), .val (.double (FP.dadd (FP.dadd (0 : UInt64) (FP.dmul a0 b0)) (FP.dmul a1 b1))), .second, iv (2 : Int32)] [(.double a2), (.double (FP.dadd (FP.dadd (0 : UInt64) (FP.dmul a0 b0)) (FP.dmul a1 b1)))]
    refine XS.aloadN X300.here hx rfl (hb hby d5_42) rfl rfl ?_
    show Go p e below t T300 m 43 #[rv za, iv xd, iv xw, iv (xd * (3 : Int32)), iv (xw * (3 : Int32)), .val (.double (FP.dadd (FP.dadd (0 : UInt64) (FP.dmul a0 b0)) (FP.dmul a1 b1))), .second, iv (2 : Int32)] [(.ref za), (.double a2), (.double (FP.dadd (FP.dadd (0 : UInt64) (FP.dmul a0 b0)) (FP.dmul a1 b1)))]
    exact k)
  obtain ⟨T305, X305, e305, st305⟩ := getF X300 hx hZ hown (host := "") (Or.inl (hw _ (List.mem_of_getElem? (i := 31) rfl))) Via.refl e300 P2 (g := (mkF m 43 #[rv za, iv xd, iv xw, iv (xd * (3 : Int32)), iv (xw * (3 : Int32)), .val (.double (FP.dadd (FP.dadd (0 : UInt64) (FP.dmul a0 b0)) (FP.dmul a1 b1))), .second, iv (2 : Int32)] [(.ref za), (.double a2), (.double (FP.dadd (FP.dadd (0 : UInt64) (FP.dmul a0 b0)) (FP.dmul a1 b1)))])) rfl rfl (hb hby d5_43)
  have g306 : Goes p e below S0 (T305.setTop (mkF m 46 #[rv za, iv xd, iv xw, iv (xd * (3 : Int32)), iv (xw * (3 : Int32)), .val (.double (FP.dadd (FP.dadd (0 : UInt64) (FP.dmul a0 b0)) (FP.dmul a1 b1))), .second, iv (2 : Int32)] [(.ref da), (.double a2), (.double (FP.dadd (FP.dadd (0 : UInt64) (FP.dmul a0 b0)) (FP.dmul a1 b1)))])) := fun t k => g304 t (st305 t k)
  have g307 : Goes p e below S0 (T305.setTop (mkF m 50 #[rv za, iv xd, iv xw, iv (xd * (3 : Int32)), iv (xw * (3 : Int32)), .val (.double (FP.dadd (FP.dadd (0 : UInt64) (FP.dmul a0 b0)) (FP.dmul a1 b1))), .second, iv (2 : Int32)] [(.int ((xd * (3 : Int32)) + (2 : Int32))), (.ref da), (.double a2), (.double (FP.dadd (FP.dadd (0 : UInt64) (FP.dmul a0 b0)) (FP.dmul a1 b1)))])) := fun t k => g306 t (by
    refine XS.iloadN X305.here hx rfl (hb hby d5_46) rfl ?_
    show Go p e below t T305 m 47 #[rv za, iv xd, iv xw, iv (xd * (3 : Int32)), iv (xw * (3 : Int32)), .val (.double (FP.dadd (FP.dadd (0 : UInt64) (FP.dmul a0 b0)) (FP.dmul a1 b1))), .second, iv (2 : Int32)] [(.int (xd * (3 : Int32))), (.ref da), (.double a2), (.double (FP.dadd (FP.dadd (0 : UInt64) (FP.dmul a0 b0)) (FP.dmul a1 b1)))]
    refine XS.iload X305.here hx rfl (hb hby d5_47) rfl ?_
    show Go p e below t T305 m 49 #[rv za, iv xd, iv xw, iv (xd * (3 : Int32)), iv (xw * (3 : Int32)), .val (.double (FP.dadd (FP.dadd (0 : UInt64) (FP.dmul a0 b0)) (FP.dmul a1 b1))), .second, iv (2 : Int32)] [(.int (2 : Int32)), (.int (xd * (3 : Int32))), (.ref da), (.double a2), (.double (FP.dadd (FP.dadd (0 : UInt64) (FP.dmul a0 b0)) (FP.dmul a1 b1)))]
    refine XS.iadd X305.here hx rfl (hb hby d5_49) rfl ?_
    show Go p e below t T305 m 50 #[rv za, iv xd, iv xw, iv (xd * (3 : Int32)), iv (xw * (3 : Int32)), .val (.double (FP.dadd (FP.dadd (0 : UInt64) (FP.dmul a0 b0)) (FP.dmul a1 b1))), .second, iv (2 : Int32)] [(.int ((xd * (3 : Int32)) + (2 : Int32))), (.ref da), (.double a2), (.double (FP.dadd (FP.dadd (0 : UInt64) (FP.dmul a0 b0)) (FP.dmul a1 b1)))]
    exact k)
  obtain ⟨cl308, Ar308, q308, S308, M308, H308, G308⟩ := id P4
  have g309 : Goes p e below S0 (T305.setTop (mkF m 24 #[rv za, iv xd, iv xw, iv (xd * (3 : Int32)), iv (xw * (3 : Int32)), .val (.double (FP.dadd (FP.dadd (FP.dadd (0 : UInt64) (FP.dmul a0 b0)) (FP.dmul a1 b1)) (FP.dmul a2 b2))), .second, iv (3 : Int32)] [(.ref za), (.int (3 : Int32))])) := fun t k => g307 t (by
    refine X305.daload hx (j := ((xd * (3 : Int32)) + (2 : Int32))) (v := (.double b2)) (by rw [e305]; exact Ar308.1) (State.isArrayOf_alike hZ.alike Ar308.2.1) Ar308.2.2 (inb_of S308 ib2) (H308.at (inb_of S308 ib2) eb2) (g := (mkF m 50 #[rv za, iv xd, iv xw, iv (xd * (3 : Int32)), iv (xw * (3 : Int32)), .val (.double (FP.dadd (FP.dadd (0 : UInt64) (FP.dmul a0 b0)) (FP.dmul a1 b1))), .second, iv (2 : Int32)] [(.int ((xd * (3 : Int32)) + (2 : Int32))), (.ref da), (.double a2), (.double (FP.dadd (FP.dadd (0 : UInt64) (FP.dmul a0 b0)) (FP.dmul a1 b1)))])) rfl rfl (hb hby d5_50) _ ?_
    show Go p e below t T305 m 51 #[rv za, iv xd, iv xw, iv (xd * (3 : Int32)), iv (xw * (3 : Int32)), .val (.double (FP.dadd (FP.dadd (0 : UInt64) (FP.dmul a0 b0)) (FP.dmul a1 b1))), .second, iv (2 : Int32)] [(.double b2), (.double a2), (.double (FP.dadd (FP.dadd (0 : UInt64) (FP.dmul a0 b0)) (FP.dmul a1 b1)))]
    refine XS.dmulS X305.here hx rfl (hb hby d5_51) rfl (Pr.nn (Pr.mul va2 vb2)) rfl ?_
    show Go p e below t T305 m 52 #[rv za, iv xd, iv xw, iv (xd * (3 : Int32)), iv (xw * (3 : Int32)), .val (.double (FP.dadd (FP.dadd (0 : UInt64) (FP.dmul a0 b0)) (FP.dmul a1 b1))), .second, iv (2 : Int32)] [(.double (FP.dmul a2 b2)), (.double (FP.dadd (FP.dadd (0 : UInt64) (FP.dmul a0 b0)) (FP.dmul a1 b1)))]
    refine XS.daddS X305.here hx rfl (hb hby d5_52) rfl (Pr.nn (Pr.add (Pr.add (Pr.add Pr.zero (Pr.mul va0 vb0) (by decide)) (Pr.mul va1 vb1) (by decide)) (Pr.mul va2 vb2) (by decide))) rfl ?_
    show Go p e below t T305 m 53 #[rv za, iv xd, iv xw, iv (xd * (3 : Int32)), iv (xw * (3 : Int32)), .val (.double (FP.dadd (FP.dadd (0 : UInt64) (FP.dmul a0 b0)) (FP.dmul a1 b1))), .second, iv (2 : Int32)] [(.double (FP.dadd (FP.dadd (FP.dadd (0 : UInt64) (FP.dmul a0 b0)) (FP.dmul a1 b1)) (FP.dmul a2 b2)))]
    refine XS.dstore X305.here hx rfl (hb hby d5_53) rfl (l' := #[rv za, iv xd, iv xw, iv (xd * (3 : Int32)), iv (xw * (3 : Int32)), .val (.double (FP.dadd (FP.dadd (FP.dadd (0 : UInt64) (FP.dmul a0 b0)) (FP.dmul a1 b1)) (FP.dmul a2 b2))), .second, iv (2 : Int32)]) rfl ?_
    show Go p e below t T305 m 55 #[rv za, iv xd, iv xw, iv (xd * (3 : Int32)), iv (xw * (3 : Int32)), .val (.double (FP.dadd (FP.dadd (FP.dadd (0 : UInt64) (FP.dmul a0 b0)) (FP.dmul a1 b1)) (FP.dmul a2 b2))), .second, iv (2 : Int32)] []
    refine XT.iincV X305.here hx rfl (1 : Int32) (hb hby d5_55) (by decide) rfl (l' := #[rv za, iv xd, iv xw, iv (xd * (3 : Int32)), iv (xw * (3 : Int32)), .val (.double (FP.dadd (FP.dadd (FP.dadd (0 : UInt64) (FP.dmul a0 b0)) (FP.dmul a1 b1)) (FP.dmul a2 b2))), .second, iv (3 : Int32)]) rfl ?_
    show Go p e below t T305 m 58 #[rv za, iv xd, iv xw, iv (xd * (3 : Int32)), iv (xw * (3 : Int32)), .val (.double (FP.dadd (FP.dadd (FP.dadd (0 : UInt64) (FP.dmul a0 b0)) (FP.dmul a1 b1)) (FP.dmul a2 b2))), .second, iv (3 : Int32)] []
    refine XS.goto X305.here hx rfl (pc0 := 58) (pc' := 21) rfl (hb hby d5_58) (by decide) (by decide) ?_
    show Go p e below t T305 m 21 #[rv za, iv xd, iv xw, iv (xd * (3 : Int32)), iv (xw * (3 : Int32)), .val (.double (FP.dadd (FP.dadd (FP.dadd (0 : UInt64) (FP.dmul a0 b0)) (FP.dmul a1 b1)) (FP.dmul a2 b2))), .second, iv (3 : Int32)] []
    refine XS.iload X305.here hx rfl (hb hby d5_21) rfl ?_
    show Go p e below t T305 m 23 #[rv za, iv xd, iv xw, iv (xd * (3 : Int32)), iv (xw * (3 : Int32)), .val (.double (FP.dadd (FP.dadd (FP.dadd (0 : UInt64) (FP.dmul a0 b0)) (FP.dmul a1 b1)) (FP.dmul a2 b2))), .second, iv (3 : Int32)] [(.int (3 : Int32))]
    refine XS.aloadN X305.here hx rfl (hb hby d5_23) rfl rfl ?_
    show Go p e below t T305 m 24 #[rv za, iv xd, iv xw, iv (xd * (3 : Int32)), iv (xw * (3 : Int32)), .val (.double (FP.dadd (FP.dadd (FP.dadd (0 : UInt64) (FP.dmul a0 b0)) (FP.dmul a1 b1)) (FP.dmul a2 b2))), .second, iv (3 : Int32)] [(.ref za), (.int (3 : Int32))]
    exact k)
  obtain ⟨T310, X310, e310, st310⟩ := getF X305 hx hZ hown (host := "") (Or.inl (hw _ (List.mem_of_getElem? (i := 23) rfl))) Via.refl e305 P0 (g := (mkF m 24 #[rv za, iv xd, iv xw, iv (xd * (3 : Int32)), iv (xw * (3 : Int32)), .val (.double (FP.dadd (FP.dadd (FP.dadd (0 : UInt64) (FP.dmul a0 b0)) (FP.dmul a1 b1)) (FP.dmul a2 b2))), .second, iv (3 : Int32)] [(.ref za), (.int (3 : Int32))])) rfl rfl (hb hby d5_24)
  have g311 : Goes p e below S0 (T310.setTop (mkF m 27 #[rv za, iv xd, iv xw, iv (xd * (3 : Int32)), iv (xw * (3 : Int32)), .val (.double (FP.dadd (FP.dadd (FP.dadd (0 : UInt64) (FP.dmul a0 b0)) (FP.dmul a1 b1)) (FP.dmul a2 b2))), .second, iv (3 : Int32)] [(.int (3 : Int32)), (.int (3 : Int32))])) := fun t k => g309 t (st310 t k)
  have g312 : Goes p e below S0 (T310.setTop (mkF m 63 #[rv za, iv xd, iv xw, iv (xd * (3 : Int32)), iv (xw * (3 : Int32)), .val (.double (FP.dadd (FP.dadd (FP.dadd (0 : UInt64) (FP.dmul a0 b0)) (FP.dmul a1 b1)) (FP.dmul a2 b2))), .second, iv (3 : Int32)] [(.double (FP.dadd (FP.dadd (FP.dadd (0 : UInt64) (FP.dmul a0 b0)) (FP.dmul a1 b1)) (FP.dmul a2 b2)))])) := fun t k => g311 t (by
    refine XS.icmpYes X310.here hx rfl (pc0 := 27) (pc' := 61) rfl (hb hby d5_27) rfl (XT.ii_ge_t (by decide)) (by decide) (by decide) ?_
    show Go p e below t T310 m 61 #[rv za, iv xd, iv xw, iv (xd * (3 : Int32)), iv (xw * (3 : Int32)), .val (.double (FP.dadd (FP.dadd (FP.dadd (0 : UInt64) (FP.dmul a0 b0)) (FP.dmul a1 b1)) (FP.dmul a2 b2))), .second, iv (3 : Int32)] []
    refine XS.dload X310.here hx rfl (hb hby d5_61) rfl ?_
    show Go p e below t T310 m 63 #[rv za, iv xd, iv xw, iv (xd * (3 : Int32)), iv (xw * (3 : Int32)), .val (.double (FP.dadd (FP.dadd (FP.dadd (0 : UInt64) (FP.dmul a0 b0)) (FP.dmul a1 b1)) (FP.dmul a2 b2))), .second, iv (3 : Int32)] [(.double (FP.dadd (FP.dadd (FP.dadd (0 : UInt64) (FP.dmul a0 b0)) (FP.dmul a1 b1)) (FP.dmul a2 b2)))]
    exact k)
  obtain ⟨fs, hr, hrun, hended, hW, hsame⟩ := X310.leave (v := some (.double (FP.dadd (FP.dadd (FP.dadd (0 : UInt64) (FP.dmul a0 b0)) (FP.dmul a1 b1)) (FP.dmul a2 b2)))) (fun h => by rw [Bd.returns] at h; cases h)
  refine ⟨_, _, g312 _ (retOut X310 hx Bd.returns rfl (Or.inr (Or.inr (Or.inl ⟨rfl, rfl, _, rfl⟩))) (hb hby d5_63) hr), hrun, hended, _, _, rfl, ?_, ⟨_, rfl⟩, hW, hsame.mono (by decide) (by decide)⟩
  show Q_tp3 Z za xd xw pa da pk pn pv pq dk dn dv dq a0 a1 a2 b0 b1 b2 h0 n0 _ T310.heap _
  rw [e310]
  exact ⟨rfl, N0, rfl⟩
theorem pd5 : parseMethodDescriptor "(IIIJJ)Z" = some ⟨[.int, .int, .int, .long, .long], some .boolean⟩ := by decide +kernel
theorem pf_law : plainFor x = true := by first | exact plainFor_of_name (by first | (simp [plainName, overriddenIn, x]; done) | decide +kernel) | exact Jvm.Free.JP.mathPlain rfl (by decide +kernel) | decide +kernel
theorem ef_law (m : MethodId) (i0 : Int32) (i1 : Int32) (i2 : Int32) (i3 : Int64) (i4 : Int64) : entryFrame m #[(.int i0), (.int i1), (.int i2), (.long i3), (.long i4)] maxLocals = mkF m 0 #[iv i0, iv i1, iv i2, .val (.long i3), .second, .val (.long i4), .second, .unset, .unset, .unset, .unset, .unset, .unset] [] := by first | (simp [entryFrame, mkF, argsToLocals, Value.category, maxLocals]; done) | rfl
def f_law (i0 : Int32) (i1 : Int32) (i2 : Int32) (i3 : Int64) (i4 : Int64) : Int32 := 1
def Q_law (Z : State) (i0 : Int32) (i1 : Int32) (i2 : Int32) (i3 : Int64) (i4 : Int64)  (h0 : Heap) (n0 : Nat) (v : Option Value) (h : Heap) (L : List Loc) : Prop := v = some (.int (f_law i0 i1 i2 i3 i4)) ∧ Fr n0 L
set_option maxRecDepth 65536 in
set_option maxHeartbeats 40000000 in
theorem rm_law (l : Launch) (Z : State) (a0 : Array Value) (hw : ∀ d ∈ tables_1, d.before a0 Z = true) (ws : List Jvm.Cond) (i0 : Int32) (i1 : Int32) (i2 : Int32) (i3 : Int64) (i4 : Int64)  (h0 : Heap) (n0 : Nat) (Z0 : n0 ≤ h0.size)   :
    MetFree l x (head1 (Jvm.Cond.code x code maxLocals ret :: ws) room_1) (fun a U => a = #[(.int i0), (.int i1), (.int i2), (.long i3), (.long i4)] ∧ Z.Warmed39 U.vm ∧ U.heap = h0) (fun _ _ _ _ _ => True) (fun _ U o U' => ∃ v L, o = .returned v ∧ Q_law Z i0 i1 i2 i3 i4  h0 n0 v U'.heap L ∧ FrameEnd U o U' L 16 128) := by
  refine MetFree.of_bodySF pf_law hisR ?_
  intro p e s m args below meth c s₁ Bd hml0 hP hK
  obtain ⟨rfl, hZ, hh⟩ := hP
  have hx := Bd.exec
  have hby := Bd.bytes
  have hml : c.maxLocals = 13 := hml0
  have hown : s.vm.findClass "com/example/borrowed_prior/borrowedprior/model/TopicModelTermProbabilityPinLaw" = some m.cls := findClass_of_methodNamed Bd.named
  have hnm := (name_of_methodNamed Bd.named Bd.method).1
  have X0 : Stand p l e room_1 s m #[(.int i0), (.int i1), (.int i2), (.long i3), (.long i4)] below meth c s₁ [] 0 0 := Stand.of_body Bd
  have e0 : s₁.heap = h0 := by rw [← hh, Bd.state]; rfl
  have N0 := Fr.nil n0
  obtain ⟨S0, hS0⟩ : ∃ z, z = s₁.setTop (entryFrame m #[(.int i0), (.int i1), (.int i2), (.long i3), (.long i4)] maxLocals) := ⟨_, rfl⟩
  rw [← hS0]
  have g0 : Goes p e below S0 (s₁.setTop (mkF m 0 #[iv i0, iv i1, iv i2, .val (.long i3), .second, .val (.long i4), .second, .unset, .unset, .unset, .unset, .unset, .unset] [])) := fun t k => by rw [hS0]; exact castTop (ef_law m i0 i1 i2 i3 i4) k
  have g313 : Goes p e below S0 (s₁.setTop (mkF m 10 #[iv i0, iv i1, iv i2, .val (.long i3), .second, .val (.long i4), .second, iv (nK i0), .unset, .unset, .unset, .unset, .unset] [])) := fun t k => g0 t (by
    refine XT.iconstV X0.here hx rfl (1 : Int32) (hb hby at_0) (by decide) ?_
    show Go p e below t s₁ m 1 #[iv i0, iv i1, iv i2, .val (.long i3), .second, .val (.long i4), .second, .unset, .unset, .unset, .unset, .unset, .unset] [(.int (1 : Int32))]
    refine XS.iloadN X0.here hx rfl (hb hby at_1) rfl ?_
    show Go p e below t s₁ m 2 #[iv i0, iv i1, iv i2, .val (.long i3), .second, .val (.long i4), .second, .unset, .unset, .unset, .unset, .unset, .unset] [(.int i0), (.int (1 : Int32))]
    refine Jvm.Stand.ldcI X0 hx hown (mvT hZ (hw _ (List.mem_of_getElem? (i := 0) rfl))) (g := (mkF m 2 #[iv i0, iv i1, iv i2, .val (.long i3), .second, .val (.long i4), .second, .unset, .unset, .unset, .unset, .unset, .unset] [(.int i0), (.int (1 : Int32))])) rfl (hb hby at_2) ?_
    show Go p e below t s₁ m 4 #[iv i0, iv i1, iv i2, .val (.long i3), .second, .val (.long i4), .second, .unset, .unset, .unset, .unset, .unset, .unset] [(.int (2147483647 : Int32)), (.int i0), (.int (1 : Int32))]
    refine XS.iand X0.here hx rfl (hb hby at_4) rfl ?_
    show Go p e below t s₁ m 5 #[iv i0, iv i1, iv i2, .val (.long i3), .second, .val (.long i4), .second, .unset, .unset, .unset, .unset, .unset, .unset] [(.int (i0 &&& (2147483647 : Int32))), (.int (1 : Int32))]
    refine XT.iconstV X0.here hx rfl (3 : Int32) (hb hby at_5) (by decide) ?_
    show Go p e below t s₁ m 6 #[iv i0, iv i1, iv i2, .val (.long i3), .second, .val (.long i4), .second, .unset, .unset, .unset, .unset, .unset, .unset] [(.int (3 : Int32)), (.int (i0 &&& (2147483647 : Int32))), (.int (1 : Int32))]
    refine iremM X0 hx rfl (hb hby at_6) rfl (by decide) ?_
    show Go p e below t s₁ m 7 #[iv i0, iv i1, iv i2, .val (.long i3), .second, .val (.long i4), .second, .unset, .unset, .unset, .unset, .unset, .unset] [(.int ((i0 &&& (2147483647 : Int32)) % (3 : Int32))), (.int (1 : Int32))]
    refine XS.iadd X0.here hx rfl (hb hby at_7) rfl ?_
    show Go p e below t s₁ m 8 #[iv i0, iv i1, iv i2, .val (.long i3), .second, .val (.long i4), .second, .unset, .unset, .unset, .unset, .unset, .unset] [(.int ((1 : Int32) + ((i0 &&& (2147483647 : Int32)) % (3 : Int32))))]
    refine XS.istore X0.here hx rfl (hb hby at_8) rfl (l' := #[iv i0, iv i1, iv i2, .val (.long i3), .second, .val (.long i4), .second, iv (nK i0), .unset, .unset, .unset, .unset, .unset]) rfl ?_
    show Go p e below t s₁ m 10 #[iv i0, iv i1, iv i2, .val (.long i3), .second, .val (.long i4), .second, iv (nK i0), .unset, .unset, .unset, .unset, .unset] []
    exact k)
  obtain ⟨n1, hn1⟩ : ∃ z, z = (nK i0) := ⟨_, rfl⟩
  rw [← hn1] at g313
  rcases (hn1 ▸ own_k3 i0 : n1 = 1 ∨ n1 = 2 ∨ n1 = 3) with rfl | rfl | rfl
  · skip
    have g314 : Goes p e below S0 (s₁.setTop (mkF m 23 #[iv i0, iv i1, iv i2, .val (.long i3), .second, .val (.long i4), .second, iv (1 : Int32), iv (nD i1), iv (nW i2), .unset, .unset, .unset] [])) := fun t k => g313 t (by
      refine XS.iloadN X0.here hx rfl (hb hby at_10) rfl ?_
      show Go p e below t s₁ m 11 #[iv i0, iv i1, iv i2, .val (.long i3), .second, .val (.long i4), .second, iv (1 : Int32), .unset, .unset, .unset, .unset, .unset] [(.int i1)]
      refine Jvm.Stand.ldcI X0 hx hown (mvT hZ (hw _ (List.mem_of_getElem? (i := 0) rfl))) (g := (mkF m 11 #[iv i0, iv i1, iv i2, .val (.long i3), .second, .val (.long i4), .second, iv (1 : Int32), .unset, .unset, .unset, .unset, .unset] [(.int i1)])) rfl (hb hby at_11) ?_
      show Go p e below t s₁ m 13 #[iv i0, iv i1, iv i2, .val (.long i3), .second, .val (.long i4), .second, iv (1 : Int32), .unset, .unset, .unset, .unset, .unset] [(.int (2147483647 : Int32)), (.int i1)]
      refine XS.iand X0.here hx rfl (hb hby at_13) rfl ?_
      show Go p e below t s₁ m 14 #[iv i0, iv i1, iv i2, .val (.long i3), .second, .val (.long i4), .second, iv (1 : Int32), .unset, .unset, .unset, .unset, .unset] [(.int (i1 &&& (2147483647 : Int32)))]
      refine XT.iconstV X0.here hx rfl (3 : Int32) (hb hby at_14) (by decide) ?_
      show Go p e below t s₁ m 15 #[iv i0, iv i1, iv i2, .val (.long i3), .second, .val (.long i4), .second, iv (1 : Int32), .unset, .unset, .unset, .unset, .unset] [(.int (3 : Int32)), (.int (i1 &&& (2147483647 : Int32)))]
      refine iremM X0 hx rfl (hb hby at_15) rfl (by decide) ?_
      show Go p e below t s₁ m 16 #[iv i0, iv i1, iv i2, .val (.long i3), .second, .val (.long i4), .second, iv (1 : Int32), .unset, .unset, .unset, .unset, .unset] [(.int ((i1 &&& (2147483647 : Int32)) % (3 : Int32)))]
      refine XS.istore X0.here hx rfl (hb hby at_16) rfl (l' := #[iv i0, iv i1, iv i2, .val (.long i3), .second, .val (.long i4), .second, iv (1 : Int32), iv (nD i1), .unset, .unset, .unset, .unset]) rfl ?_
      show Go p e below t s₁ m 18 #[iv i0, iv i1, iv i2, .val (.long i3), .second, .val (.long i4), .second, iv (1 : Int32), iv (nD i1), .unset, .unset, .unset, .unset] []
      refine XS.iloadN X0.here hx rfl (hb hby at_18) rfl ?_
      show Go p e below t s₁ m 19 #[iv i0, iv i1, iv i2, .val (.long i3), .second, .val (.long i4), .second, iv (1 : Int32), iv (nD i1), .unset, .unset, .unset, .unset] [(.int i2)]
      refine XT.iconstV X0.here hx rfl (1 : Int32) (hb hby at_19) (by decide) ?_
      show Go p e below t s₁ m 20 #[iv i0, iv i1, iv i2, .val (.long i3), .second, .val (.long i4), .second, iv (1 : Int32), iv (nD i1), .unset, .unset, .unset, .unset] [(.int (1 : Int32)), (.int i2)]
      refine XS.iand X0.here hx rfl (hb hby at_20) rfl ?_
      show Go p e below t s₁ m 21 #[iv i0, iv i1, iv i2, .val (.long i3), .second, .val (.long i4), .second, iv (1 : Int32), iv (nD i1), .unset, .unset, .unset, .unset] [(.int (i2 &&& (1 : Int32)))]
      refine XS.istore X0.here hx rfl (hb hby at_21) rfl (l' := #[iv i0, iv i1, iv i2, .val (.long i3), .second, .val (.long i4), .second, iv (1 : Int32), iv (nD i1), iv (nW i2), .unset, .unset, .unset]) rfl ?_
      show Go p e below t s₁ m 23 #[iv i0, iv i1, iv i2, .val (.long i3), .second, .val (.long i4), .second, iv (1 : Int32), iv (nD i1), iv (nW i2), .unset, .unset, .unset] []
      exact k)
    obtain ⟨T315, h315, X315, e315, E315, A315, D315, -, st315⟩ := newO X0 hx hZ hown (hw _ (List.mem_of_getElem? (i := 1) rfl)) (hw _ (List.mem_of_getElem? (i := 2) rfl)) (hw _ (List.mem_of_getElem? (i := 3) rfl)) e0 (g := (mkF m 23 #[iv i0, iv i1, iv i2, .val (.long i3), .second, .val (.long i4), .second, iv (1 : Int32), iv (nD i1), iv (nW i2), .unset, .unset, .unset] [])) rfl (hb hby at_23) (by decide) (by decide)
    obtain ⟨b315, gb315⟩ : ∃ z, z = h0.size := ⟨_, rfl⟩
    have sz315 : h0.size ≤ b315 := Nat.le_trans (Nat.le_refl _) (Nat.le_of_eq gb315.symm)
    have ng315 : n0 ≤ b315 := Nat.le_trans Z0 sz315
    rw [← gb315] at A315 D315 st315
    have F315_316 : Fld Z h315 b315 "com/example/borrowed_prior/borrowedprior/model/TopicModel" "topicCount" "I" (.int (0 : Int32)) := D315 (Or.inr (hw _ (List.mem_of_getElem? (i := 24) rfl))) (ty := .int) (by decide)
    have F315_317 : Fld Z h315 b315 "com/example/borrowed_prior/borrowedprior/model/TopicModel" "documentCount" "I" (.int (0 : Int32)) := D315 (Or.inr (hw _ (List.mem_of_getElem? (i := 26) rfl))) (ty := .int) (by decide)
    have F315_318 : Fld Z h315 b315 "com/example/borrowed_prior/borrowedprior/model/TopicModel" "termCount" "I" (.int (0 : Int32)) := D315 (Or.inr (hw _ (List.mem_of_getElem? (i := 28) rfl))) (ty := .int) (by decide)
    have F315_319 : Fld Z h315 b315 "com/example/borrowed_prior/borrowedprior/model/TopicModel" "tokenCount" "J" (.long (0 : Int64)) := D315 (Or.inr (hw _ (List.mem_of_getElem? (i := 30) rfl))) (ty := .long) (by decide)
    have F315_320 : Fld Z h315 b315 "com/example/borrowed_prior/borrowedprior/model/TopicModel" "documentTopics" "[D" .null := D315 (Or.inr (hw _ (List.mem_of_getElem? (i := 32) rfl))) (ty := (.array .double)) (by decide)
    have F315_321 : Fld Z h315 b315 "com/example/borrowed_prior/borrowedprior/model/TopicModel" "termTopics" "[D" .null := D315 (Or.inr (hw _ (List.mem_of_getElem? (i := 34) rfl))) (ty := (.array .double)) (by decide)
    have g322 : Goes p e below S0 (T315.setTop (mkF m 26 #[iv i0, iv i1, iv i2, .val (.long i3), .second, .val (.long i4), .second, iv (1 : Int32), iv (nD i1), iv (nW i2), .unset, .unset, .unset] [(.ref b315)])) := fun t k => g314 t (st315 t k)
    have g323 : Goes p e below S0 (T315.setTop (mkF m 37 #[iv i0, iv i1, iv i2, .val (.long i3), .second, .val (.long i4), .second, iv (1 : Int32), iv (nD i1), iv (nW i2), .unset, .unset, .unset] [(.int (3 : Int32)), (.long i3), (.long (0 : Int64)), (.int (2 : Int32)), (.int (3 : Int32)), (.int (1 : Int32)), (.ref b315), (.ref b315)])) := fun t k => g322 t (by
      refine XS.dup X315.here hx rfl (hb hby at_26) rfl rfl ?_
      show Go p e below t T315 m 27 #[iv i0, iv i1, iv i2, .val (.long i3), .second, .val (.long i4), .second, iv (1 : Int32), iv (nD i1), iv (nW i2), .unset, .unset, .unset] [(.ref b315), (.ref b315)]
      refine XS.iload X315.here hx rfl (hb hby at_27) rfl ?_
      show Go p e below t T315 m 29 #[iv i0, iv i1, iv i2, .val (.long i3), .second, .val (.long i4), .second, iv (1 : Int32), iv (nD i1), iv (nW i2), .unset, .unset, .unset] [(.int (1 : Int32)), (.ref b315), (.ref b315)]
      refine XT.iconstV X315.here hx rfl (3 : Int32) (hb hby at_29) (by decide) ?_
      show Go p e below t T315 m 30 #[iv i0, iv i1, iv i2, .val (.long i3), .second, .val (.long i4), .second, iv (1 : Int32), iv (nD i1), iv (nW i2), .unset, .unset, .unset] [(.int (3 : Int32)), (.int (1 : Int32)), (.ref b315), (.ref b315)]
      refine XT.iconstV X315.here hx rfl (2 : Int32) (hb hby at_30) (by decide) ?_
      show Go p e below t T315 m 31 #[iv i0, iv i1, iv i2, .val (.long i3), .second, .val (.long i4), .second, iv (1 : Int32), iv (nD i1), iv (nW i2), .unset, .unset, .unset] [(.int (2 : Int32)), (.int (3 : Int32)), (.int (1 : Int32)), (.ref b315), (.ref b315)]
      refine XT.lconstV X315.here hx rfl (0 : Int64) (hb hby at_31) (by decide) ?_
      show Go p e below t T315 m 32 #[iv i0, iv i1, iv i2, .val (.long i3), .second, .val (.long i4), .second, iv (1 : Int32), iv (nD i1), iv (nW i2), .unset, .unset, .unset] [(.long (0 : Int64)), (.int (2 : Int32)), (.int (3 : Int32)), (.int (1 : Int32)), (.ref b315), (.ref b315)]
      refine XS.lloadN X315.here hx rfl (hb hby at_32) rfl ?_
      show Go p e below t T315 m 33 #[iv i0, iv i1, iv i2, .val (.long i3), .second, .val (.long i4), .second, iv (1 : Int32), iv (nD i1), iv (nW i2), .unset, .unset, .unset] [(.long i3), (.long (0 : Int64)), (.int (2 : Int32)), (.int (3 : Int32)), (.int (1 : Int32)), (.ref b315), (.ref b315)]
      refine XT.iconstV X315.here hx rfl (3 : Int32) (hb hby at_33) (by decide) ?_
      show Go p e below t T315 m 34 #[iv i0, iv i1, iv i2, .val (.long i3), .second, .val (.long i4), .second, iv (1 : Int32), iv (nD i1), iv (nW i2), .unset, .unset, .unset] [(.int (3 : Int32)), (.long i3), (.long (0 : Int64)), (.int (2 : Int32)), (.int (3 : Int32)), (.int (1 : Int32)), (.ref b315), (.ref b315)]
      refine XS.iload X315.here hx rfl (hb hby at_34) rfl ?_
      show Go p e below t T315 m 36 #[iv i0, iv i1, iv i2, .val (.long i3), .second, .val (.long i4), .second, iv (1 : Int32), iv (nD i1), iv (nW i2), .unset, .unset, .unset] [(.int (1 : Int32)), (.int (3 : Int32)), (.long i3), (.long (0 : Int64)), (.int (2 : Int32)), (.int (3 : Int32)), (.int (1 : Int32)), (.ref b315), (.ref b315)]
      refine XS.imul X315.here hx rfl (hb hby at_36) rfl ?_
      rw [show ((3 : Int32) * (1 : Int32)) = (3 : Int32) by decide]
      show Go p e below t T315 m 37 #[iv i0, iv i1, iv i2, .val (.long i3), .second, .val (.long i4), .second, iv (1 : Int32), iv (nD i1), iv (nW i2), .unset, .unset, .unset] [(.int (3 : Int32)), (.long i3), (.long (0 : Int64)), (.int (2 : Int32)), (.int (3 : Int32)), (.int (1 : Int32)), (.ref b315), (.ref b315)]
      exact k)
    obtain ⟨_, _, ⟨T324, L324, k324, n324⟩, -, X324, ⟨Lc324, hQ324, l324, y324, z324⟩, st324⟩ := Jvm.LawKit.callS X315 hx (y := (⟨"com/example/borrowed_prior/borrowedprior/model/TopicModelTermProbabilityPinLaw", "draw", "(JI)[D"⟩ : MethodName)) hown (mvT hZ (hw _ (List.mem_of_getElem? (i := 4) rfl))) (mvT hZ (hw _ (List.mem_of_getElem? (i := 5) rfl))) (mvT hZ (hw _ (List.mem_of_getElem? (i := 6) rfl))) (mvT hZ (hw _ (List.mem_of_getElem? (i := 7) rfl))) (by decide) (backOf (W := 7) (rm_dr3 l Z a0 hw [] i3 (3 : Int32)  h315 n0 (Nat.le_trans Z0 (Nat.le_trans (Nat.le_refl _) E315.1)) rfl) hZ (hw _ (List.mem_of_getElem? (i := 7) rfl)) (hw _ (List.mem_of_getElem? (i := 6) rfl)) (by decide) (by decide)) (g := (mkF m 37 #[iv i0, iv i1, iv i2, .val (.long i3), .second, .val (.long i4), .second, iv (1 : Int32), iv (nD i1), iv (nW i2), .unset, .unset, .unset] [(.int (3 : Int32)), (.long i3), (.long (0 : Int64)), (.int (2 : Int32)), (.int (3 : Int32)), (.int (1 : Int32)), (.ref b315), (.ref b315)])) rfl (by rw [hml]; rfl) (argsL := [(.long i3), (.int (3 : Int32))]) (rest := [(.long (0 : Int64)), (.int (2 : Int32)), (.int (3 : Int32)), (.int (1 : Int32)), (.ref b315), (.ref b315)]) (lenOf pd3 rfl) rfl (by show 2 * 0 + _ ≤ _; exact Nat.le_of_eq rfl) (hb hby at_37) (fun _ _ => ⟨rfl, e315, (by decide : 1 + 1 ≤ _), (by decide : 6 + 3 ≤ _)⟩)
    dsimp only [Pt.U, Pt.locs, Pt.cells, Pt.slots] at X324 l324 y324 z324 st324 hQ324
    subst l324 y324 z324
    obtain ⟨ra_324, rk_324, rfl, N324, R324_0, R324_1, R324_2⟩ := hQ324
    have M324 := Fr.app N0 N324
    have sz324_2 : h0.size ≤ ra_324 := Nat.le_trans (Nat.le_trans (Nat.le_refl _) E315.1) R324_2
    have ng324_2 : n0 ≤ ra_324 := Nat.le_trans Z0 sz324_2
    have g325 : Goes p e below S0 (T324.setTop (mkF m 40 #[iv i0, iv i1, iv i2, .val (.long i3), .second, .val (.long i4), .second, iv (1 : Int32), iv (nD i1), iv (nW i2), .unset, .unset, .unset] [(.ref ra_324), (.long (0 : Int64)), (.int (2 : Int32)), (.int (3 : Int32)), (.int (1 : Int32)), (.ref b315), (.ref b315)])) := fun t k => g323 t (st324 t k)
    have g326 : Goes p e below S0 (T324.setTop (mkF m 46 #[iv i0, iv i1, iv i2, .val (.long i3), .second, .val (.long i4), .second, iv (1 : Int32), iv (nD i1), iv (nW i2), .unset, .unset, .unset] [(.int (2 : Int32)), (.long i4), (.ref ra_324), (.long (0 : Int64)), (.int (2 : Int32)), (.int (3 : Int32)), (.int (1 : Int32)), (.ref b315), (.ref b315)])) := fun t k => g325 t (by
      refine XS.lload X324.here hx rfl (hb hby at_40) rfl ?_
      show Go p e below t T324 m 42 #[iv i0, iv i1, iv i2, .val (.long i3), .second, .val (.long i4), .second, iv (1 : Int32), iv (nD i1), iv (nW i2), .unset, .unset, .unset] [(.long i4), (.ref ra_324), (.long (0 : Int64)), (.int (2 : Int32)), (.int (3 : Int32)), (.int (1 : Int32)), (.ref b315), (.ref b315)]
      refine XT.iconstV X324.here hx rfl (2 : Int32) (hb hby at_42) (by decide) ?_
      show Go p e below t T324 m 43 #[iv i0, iv i1, iv i2, .val (.long i3), .second, .val (.long i4), .second, iv (1 : Int32), iv (nD i1), iv (nW i2), .unset, .unset, .unset] [(.int (2 : Int32)), (.long i4), (.ref ra_324), (.long (0 : Int64)), (.int (2 : Int32)), (.int (3 : Int32)), (.int (1 : Int32)), (.ref b315), (.ref b315)]
      refine XS.iload X324.here hx rfl (hb hby at_43) rfl ?_
      show Go p e below t T324 m 45 #[iv i0, iv i1, iv i2, .val (.long i3), .second, .val (.long i4), .second, iv (1 : Int32), iv (nD i1), iv (nW i2), .unset, .unset, .unset] [(.int (1 : Int32)), (.int (2 : Int32)), (.long i4), (.ref ra_324), (.long (0 : Int64)), (.int (2 : Int32)), (.int (3 : Int32)), (.int (1 : Int32)), (.ref b315), (.ref b315)]
      refine XS.imul X324.here hx rfl (hb hby at_45) rfl ?_
      rw [show ((2 : Int32) * (1 : Int32)) = (2 : Int32) by decide]
      show Go p e below t T324 m 46 #[iv i0, iv i1, iv i2, .val (.long i3), .second, .val (.long i4), .second, iv (1 : Int32), iv (nD i1), iv (nW i2), .unset, .unset, .unset] [(.int (2 : Int32)), (.long i4), (.ref ra_324), (.long (0 : Int64)), (.int (2 : Int32)), (.int (3 : Int32)), (.int (1 : Int32)), (.ref b315), (.ref b315)]
      exact k)
    obtain ⟨_, _, ⟨T327, L327, k327, n327⟩, -, X327, ⟨Lc327, hQ327, l327, y327, z327⟩, st327⟩ := Jvm.LawKit.callS X324 hx (y := (⟨"com/example/borrowed_prior/borrowedprior/model/TopicModelTermProbabilityPinLaw", "draw", "(JI)[D"⟩ : MethodName)) hown (mvT hZ (hw _ (List.mem_of_getElem? (i := 4) rfl))) (mvT hZ (hw _ (List.mem_of_getElem? (i := 5) rfl))) (mvT hZ (hw _ (List.mem_of_getElem? (i := 6) rfl))) (mvT hZ (hw _ (List.mem_of_getElem? (i := 7) rfl))) (by decide) (backOf (W := 8) (rm_dr2 l Z a0 hw [] i4 (2 : Int32)  T324.heap n0 (Nat.le_trans Z0 (Nat.le_trans (Nat.le_trans (Nat.le_refl _) E315.1) R324_0.1)) rfl) hZ (hw _ (List.mem_of_getElem? (i := 7) rfl)) (hw _ (List.mem_of_getElem? (i := 6) rfl)) (by decide) (by decide)) (g := (mkF m 46 #[iv i0, iv i1, iv i2, .val (.long i3), .second, .val (.long i4), .second, iv (1 : Int32), iv (nD i1), iv (nW i2), .unset, .unset, .unset] [(.int (2 : Int32)), (.long i4), (.ref ra_324), (.long (0 : Int64)), (.int (2 : Int32)), (.int (3 : Int32)), (.int (1 : Int32)), (.ref b315), (.ref b315)])) rfl (by rw [hml]; rfl) (argsL := [(.long i4), (.int (2 : Int32))]) (rest := [(.ref ra_324), (.long (0 : Int64)), (.int (2 : Int32)), (.int (3 : Int32)), (.int (1 : Int32)), (.ref b315), (.ref b315)]) (lenOf pd3 rfl) rfl (by show 2 * 0 + _ ≤ _; exact Nat.le_of_eq rfl) (hb hby at_46) (fun _ _ => ⟨rfl, rfl, (by decide : 2 + 1 ≤ _), (by decide : 9 + 2 ≤ _)⟩)
    dsimp only [Pt.U, Pt.locs, Pt.cells, Pt.slots] at X327 l327 y327 z327 st327 hQ327
    subst l327 y327 z327
    obtain ⟨ra_327, rk_327, rfl, N327, R327_0, R327_1, R327_2⟩ := hQ327
    have M327 := Fr.app M324 N327
    have sz327_2 : h0.size ≤ ra_327 := Nat.le_trans (Nat.le_trans (Nat.le_trans (Nat.le_refl _) E315.1) R324_0.1) R327_2
    have ng327_2 : n0 ≤ ra_327 := Nat.le_trans Z0 sz327_2
    have g328 : Goes p e below S0 (T327.setTop (mkF m 49 #[iv i0, iv i1, iv i2, .val (.long i3), .second, .val (.long i4), .second, iv (1 : Int32), iv (nD i1), iv (nW i2), .unset, .unset, .unset] [(.ref ra_327), (.ref ra_324), (.long (0 : Int64)), (.int (2 : Int32)), (.int (3 : Int32)), (.int (1 : Int32)), (.ref b315), (.ref b315)])) := fun t k => g326 t (st327 t k)
    obtain ⟨_, _, ⟨T329, L329, k329, n329⟩, -, X329, ⟨Lc329, hQ329, l329, y329, z329⟩, st329⟩ := X327.specialBack hx (y := (⟨"com/example/borrowed_prior/borrowedprior/model/TopicModel", "<init>", "(IIIJ[D[D)V"⟩ : MethodName)) rfl hown (mvT hZ (hw _ (List.mem_of_getElem? (i := 14) rfl))) (mvT hZ (hw _ (List.mem_of_getElem? (i := 15) rfl))) (mvT hZ (hw _ (List.mem_of_getElem? (i := 16) rfl))) (by decide) (backOf (W := 1) (rm_tin l Z a0 hw [] b315 (1 : Int32) (3 : Int32) (2 : Int32) (0 : Int64) ra_324 ra_327 rk_324 (3 : Int32) [(.double (f_v i3 (0 : Int32))), (.double (f_v i3 (1 : Int32))), (.double (f_v i3 (2 : Int32)))] (.double (0 : UInt64)) rk_327 (2 : Int32) [(.double (f_v i4 (0 : Int32))), (.double (f_v i4 (1 : Int32)))] (.double (0 : UInt64)) T327.heap n0 (Nat.le_trans Z0 (Nat.le_trans (Nat.le_trans (Nat.le_trans (Nat.le_refl _) E315.1) R324_0.1) R327_0.1)) ((A315.keep R324_0).keep R327_0) ((F315_316.keep R324_0 nin0).keep R327_0 nin0) ((F315_317.keep R324_0 nin0).keep R327_0 nin0) ((F315_318.keep R324_0 nin0).keep R327_0 nin0) ((F315_319.keep R324_0 nin0).keep R327_0 nin0) ((F315_320.keep R324_0 nin0).keep R327_0 nin0) ((F315_321.keep R324_0 nin0).keep R327_0 nin0) ng315 (R324_1.keep R327_0 nin0) R327_1 (by decide) (by decide) (by decide) (by decide) (by decide) (by decide) (own_p3 i3) (own_p2 i4) (by decide) (by decide)) hZ (hw _ (List.mem_of_getElem? (i := 16) rfl)) (hw _ (List.mem_of_getElem? (i := 3) rfl)) (by decide) (by decide)) (g := (mkF m 49 #[iv i0, iv i1, iv i2, .val (.long i3), .second, .val (.long i4), .second, iv (1 : Int32), iv (nD i1), iv (nW i2), .unset, .unset, .unset] [(.ref ra_327), (.ref ra_324), (.long (0 : Int64)), (.int (2 : Int32)), (.int (3 : Int32)), (.int (1 : Int32)), (.ref b315), (.ref b315)])) rfl (by rw [hml]; rfl) (Steps.refl _) (a := b315) (argsL := [(.int (1 : Int32)), (.int (3 : Int32)), (.int (2 : Int32)), (.long (0 : Int64)), (.ref ra_324), (.ref ra_327)]) (rest := [(.ref b315)]) (lenOf pd2 rfl) rfl (by show 2 * 0 + _ ≤ _; exact Nat.le_of_eq rfl) (hb hby at_49) (fun _ _ => ⟨rfl, rfl, (by decide : 3 + 0 ≤ _), (by decide : 11 + 0 ≤ _)⟩)
    dsimp only [Pt.U, Pt.locs, Pt.cells, Pt.slots] at X329 l329 y329 z329 st329 hQ329
    subst l329 y329 z329
    obtain ⟨rfl, N329, R329_0, R329_1, R329_2, R329_3, R329_4, R329_5, R329_6, R329_7⟩ := hQ329
    have M329 := Fr.app M327 N329
    have g330 : Goes p e below S0 (T329.setTop (mkF m 52 #[iv i0, iv i1, iv i2, .val (.long i3), .second, .val (.long i4), .second, iv (1 : Int32), iv (nD i1), iv (nW i2), .unset, .unset, .unset] [(.ref b315)])) := fun t k => g328 t (st329.trans k)
    have g331 : Goes p e below S0 (T329.setTop (mkF m 61 #[iv i0, iv i1, iv i2, .val (.long i3), .second, .val (.long i4), .second, iv (1 : Int32), iv (nD i1), iv (nW i2), rv b315, .unset, .unset] [(.int ((nW i2) * (1 : Int32))), (.long i4)])) := fun t k => g330 t (by
      refine XS.astore X329.here hx rfl (hb hby at_52) rfl rfl (l' := #[iv i0, iv i1, iv i2, .val (.long i3), .second, .val (.long i4), .second, iv (1 : Int32), iv (nD i1), iv (nW i2), rv b315, .unset, .unset]) rfl ?_
      show Go p e below t T329 m 54 #[iv i0, iv i1, iv i2, .val (.long i3), .second, .val (.long i4), .second, iv (1 : Int32), iv (nD i1), iv (nW i2), rv b315, .unset, .unset] []
      refine XS.lload X329.here hx rfl (hb hby at_54) rfl ?_
      show Go p e below t T329 m 56 #[iv i0, iv i1, iv i2, .val (.long i3), .second, .val (.long i4), .second, iv (1 : Int32), iv (nD i1), iv (nW i2), rv b315, .unset, .unset] [(.long i4)]
      refine XS.iload X329.here hx rfl (hb hby at_56) rfl ?_
      show Go p e below t T329 m 58 #[iv i0, iv i1, iv i2, .val (.long i3), .second, .val (.long i4), .second, iv (1 : Int32), iv (nD i1), iv (nW i2), rv b315, .unset, .unset] [(.int (nW i2)), (.long i4)]
      refine XS.iload X329.here hx rfl (hb hby at_58) rfl ?_
      show Go p e below t T329 m 60 #[iv i0, iv i1, iv i2, .val (.long i3), .second, .val (.long i4), .second, iv (1 : Int32), iv (nD i1), iv (nW i2), rv b315, .unset, .unset] [(.int (1 : Int32)), (.int (nW i2)), (.long i4)]
      refine XS.imul X329.here hx rfl (hb hby at_60) rfl ?_
      show Go p e below t T329 m 61 #[iv i0, iv i1, iv i2, .val (.long i3), .second, .val (.long i4), .second, iv (1 : Int32), iv (nD i1), iv (nW i2), rv b315, .unset, .unset] [(.int ((nW i2) * (1 : Int32))), (.long i4)]
      exact k)
    obtain ⟨_, _, ⟨T332, L332, k332, n332⟩, -, X332, ⟨Lc332, hQ332, l332, y332, z332⟩, st332⟩ := Jvm.LawKit.callS X329 hx (y := (⟨"com/example/borrowed_prior/borrowedprior/model/TopicModelTermProbabilityPinLaw", "v", "(JI)D"⟩ : MethodName)) hown (mvT hZ (hw _ (List.mem_of_getElem? (i := 9) rfl))) (mvT hZ (hw _ (List.mem_of_getElem? (i := 10) rfl))) (mvT hZ (hw _ (List.mem_of_getElem? (i := 6) rfl))) (mvT hZ (hw _ (List.mem_of_getElem? (i := 11) rfl))) (by decide) (backOf (W := 0) (rm_v l Z a0 hw [] i4 ((nW i2) * (1 : Int32))  T329.heap n0 (Nat.le_trans Z0 (Nat.le_trans (Nat.le_trans (Nat.le_trans (Nat.le_trans (Nat.le_refl _) E315.1) R324_0.1) R327_0.1) R329_0.1)) ) hZ (hw _ (List.mem_of_getElem? (i := 11) rfl)) (hw _ (List.mem_of_getElem? (i := 6) rfl)) (by decide) (by decide)) (g := (mkF m 61 #[iv i0, iv i1, iv i2, .val (.long i3), .second, .val (.long i4), .second, iv (1 : Int32), iv (nD i1), iv (nW i2), rv b315, .unset, .unset] [(.int ((nW i2) * (1 : Int32))), (.long i4)])) rfl (by rw [hml]; rfl) (argsL := [(.long i4), (.int ((nW i2) * (1 : Int32)))]) (rest := []) (lenOf pd0 rfl) rfl (by show 2 * 0 + _ ≤ _; exact Nat.le_of_eq rfl) (hb hby at_61) (fun _ _ => ⟨rfl, rfl, (by decide : 3 + 0 ≤ _), (by decide : 11 + 0 ≤ _)⟩)
    dsimp only [Pt.U, Pt.locs, Pt.cells, Pt.slots] at X332 l332 y332 z332 st332 hQ332
    subst l332 y332 z332
    obtain ⟨rfl, N332, e332⟩ := hQ332
    have M332 := Fr.app M329 N332
    have g333 : Goes p e below S0 (T332.setTop (mkF m 64 #[iv i0, iv i1, iv i2, .val (.long i3), .second, .val (.long i4), .second, iv (1 : Int32), iv (nD i1), iv (nW i2), rv b315, .unset, .unset] [(.double (f_v i4 ((nW i2) * (1 : Int32))))])) := fun t k => g331 t (st332 t k)
    have g334 : Goes p e below S0 (T332.setTop (mkF m 70 #[iv i0, iv i1, iv i2, .val (.long i3), .second, .val (.long i4), .second, iv (1 : Int32), iv (nD i1), iv (nW i2), rv b315, .unset, .unset] [(.int ((nD i1) * (1 : Int32))), (.long i3), (.double (f_v i4 ((nW i2) * (1 : Int32))))])) := fun t k => g333 t (by
      refine XS.lloadN X332.here hx rfl (hb hby at_64) rfl ?_
      show Go p e below t T332 m 65 #[iv i0, iv i1, iv i2, .val (.long i3), .second, .val (.long i4), .second, iv (1 : Int32), iv (nD i1), iv (nW i2), rv b315, .unset, .unset] [(.long i3), (.double (f_v i4 ((nW i2) * (1 : Int32))))]
      refine XS.iload X332.here hx rfl (hb hby at_65) rfl ?_
      show Go p e below t T332 m 67 #[iv i0, iv i1, iv i2, .val (.long i3), .second, .val (.long i4), .second, iv (1 : Int32), iv (nD i1), iv (nW i2), rv b315, .unset, .unset] [(.int (nD i1)), (.long i3), (.double (f_v i4 ((nW i2) * (1 : Int32))))]
      refine XS.iload X332.here hx rfl (hb hby at_67) rfl ?_
      show Go p e below t T332 m 69 #[iv i0, iv i1, iv i2, .val (.long i3), .second, .val (.long i4), .second, iv (1 : Int32), iv (nD i1), iv (nW i2), rv b315, .unset, .unset] [(.int (1 : Int32)), (.int (nD i1)), (.long i3), (.double (f_v i4 ((nW i2) * (1 : Int32))))]
      refine XS.imul X332.here hx rfl (hb hby at_69) rfl ?_
      show Go p e below t T332 m 70 #[iv i0, iv i1, iv i2, .val (.long i3), .second, .val (.long i4), .second, iv (1 : Int32), iv (nD i1), iv (nW i2), rv b315, .unset, .unset] [(.int ((nD i1) * (1 : Int32))), (.long i3), (.double (f_v i4 ((nW i2) * (1 : Int32))))]
      exact k)
    obtain ⟨_, _, ⟨T335, L335, k335, n335⟩, -, X335, ⟨Lc335, hQ335, l335, y335, z335⟩, st335⟩ := Jvm.LawKit.callS X332 hx (y := (⟨"com/example/borrowed_prior/borrowedprior/model/TopicModelTermProbabilityPinLaw", "v", "(JI)D"⟩ : MethodName)) hown (mvT hZ (hw _ (List.mem_of_getElem? (i := 9) rfl))) (mvT hZ (hw _ (List.mem_of_getElem? (i := 10) rfl))) (mvT hZ (hw _ (List.mem_of_getElem? (i := 6) rfl))) (mvT hZ (hw _ (List.mem_of_getElem? (i := 11) rfl))) (by decide) (backOf (W := 2) (rm_v l Z a0 hw [] i3 ((nD i1) * (1 : Int32))  T329.heap n0 (Nat.le_trans Z0 (Nat.le_trans (Nat.le_trans (Nat.le_trans (Nat.le_trans (Nat.le_refl _) E315.1) R324_0.1) R327_0.1) R329_0.1)) ) hZ (hw _ (List.mem_of_getElem? (i := 11) rfl)) (hw _ (List.mem_of_getElem? (i := 6) rfl)) (by decide) (by decide)) (g := (mkF m 70 #[iv i0, iv i1, iv i2, .val (.long i3), .second, .val (.long i4), .second, iv (1 : Int32), iv (nD i1), iv (nW i2), rv b315, .unset, .unset] [(.int ((nD i1) * (1 : Int32))), (.long i3), (.double (f_v i4 ((nW i2) * (1 : Int32))))])) rfl (by rw [hml]; rfl) (argsL := [(.long i3), (.int ((nD i1) * (1 : Int32)))]) (rest := [(.double (f_v i4 ((nW i2) * (1 : Int32))))]) (lenOf pd0 rfl) rfl (by show 2 * 0 + _ ≤ _; exact Nat.le_of_eq rfl) (hb hby at_70) (fun _ _ => ⟨rfl, e332, (by decide : 3 + 0 ≤ _), (by decide : 11 + 0 ≤ _)⟩)
    dsimp only [Pt.U, Pt.locs, Pt.cells, Pt.slots] at X335 l335 y335 z335 st335 hQ335
    subst l335 y335 z335
    obtain ⟨rfl, N335, e335⟩ := hQ335
    have M335 := Fr.app M332 N335
    have g336 : Goes p e below S0 (T335.setTop (mkF m 73 #[iv i0, iv i1, iv i2, .val (.long i3), .second, .val (.long i4), .second, iv (1 : Int32), iv (nD i1), iv (nW i2), rv b315, .unset, .unset] [(.double (f_v i3 ((nD i1) * (1 : Int32)))), (.double (f_v i4 ((nW i2) * (1 : Int32))))])) := fun t k => g334 t (st335 t k)
    have g337 : Goes p e below S0 (T335.setTop (mkF m 152 #[iv i0, iv i1, iv i2, .val (.long i3), .second, .val (.long i4), .second, iv (1 : Int32), iv (nD i1), iv (nW i2), rv b315, .val (.double (FP.dmul (f_v i4 ((nW i2) * (1 : Int32))) (f_v i3 ((nD i1) * (1 : Int32))))), .second] [(.int (nW i2)), (.int (nD i1)), (.ref b315)])) := fun t k => g336 t (by
      refine XS.dmulS X335.here hx rfl (hb hby at_73) rfl (Pr.nn (Pr.mul (own_nib _ _) (own_nib _ _))) rfl ?_
      show Go p e below t T335 m 74 #[iv i0, iv i1, iv i2, .val (.long i3), .second, .val (.long i4), .second, iv (1 : Int32), iv (nD i1), iv (nW i2), rv b315, .unset, .unset] [(.double (FP.dmul (f_v i4 ((nW i2) * (1 : Int32))) (f_v i3 ((nD i1) * (1 : Int32)))))]
      refine XS.dstore X335.here hx rfl (hb hby at_74) rfl (l' := #[iv i0, iv i1, iv i2, .val (.long i3), .second, .val (.long i4), .second, iv (1 : Int32), iv (nD i1), iv (nW i2), rv b315, .val (.double (FP.dmul (f_v i4 ((nW i2) * (1 : Int32))) (f_v i3 ((nD i1) * (1 : Int32))))), .second]) rfl ?_
      show Go p e below t T335 m 76 #[iv i0, iv i1, iv i2, .val (.long i3), .second, .val (.long i4), .second, iv (1 : Int32), iv (nD i1), iv (nW i2), rv b315, .val (.double (FP.dmul (f_v i4 ((nW i2) * (1 : Int32))) (f_v i3 ((nD i1) * (1 : Int32))))), .second] []
      refine XS.iload X335.here hx rfl (hb hby at_76) rfl ?_
      show Go p e below t T335 m 78 #[iv i0, iv i1, iv i2, .val (.long i3), .second, .val (.long i4), .second, iv (1 : Int32), iv (nD i1), iv (nW i2), rv b315, .val (.double (FP.dmul (f_v i4 ((nW i2) * (1 : Int32))) (f_v i3 ((nD i1) * (1 : Int32))))), .second] [(.int (1 : Int32))]
      refine XT.iconstV X335.here hx rfl (2 : Int32) (hb hby at_78) (by decide) ?_
      show Go p e below t T335 m 79 #[iv i0, iv i1, iv i2, .val (.long i3), .second, .val (.long i4), .second, iv (1 : Int32), iv (nD i1), iv (nW i2), rv b315, .val (.double (FP.dmul (f_v i4 ((nW i2) * (1 : Int32))) (f_v i3 ((nD i1) * (1 : Int32))))), .second] [(.int (2 : Int32)), (.int (1 : Int32))]
      refine XS.icmpYes X335.here hx rfl (pc0 := 79) (pc' := 111) rfl (hb hby at_79) rfl (XT.ii_lt_t (by decide)) (by decide) (by decide) ?_
      show Go p e below t T335 m 111 #[iv i0, iv i1, iv i2, .val (.long i3), .second, .val (.long i4), .second, iv (1 : Int32), iv (nD i1), iv (nW i2), rv b315, .val (.double (FP.dmul (f_v i4 ((nW i2) * (1 : Int32))) (f_v i3 ((nD i1) * (1 : Int32))))), .second] []
      refine XS.iload X335.here hx rfl (hb hby at_111) rfl ?_
      show Go p e below t T335 m 113 #[iv i0, iv i1, iv i2, .val (.long i3), .second, .val (.long i4), .second, iv (1 : Int32), iv (nD i1), iv (nW i2), rv b315, .val (.double (FP.dmul (f_v i4 ((nW i2) * (1 : Int32))) (f_v i3 ((nD i1) * (1 : Int32))))), .second] [(.int (1 : Int32))]
      refine XT.iconstV X335.here hx rfl (3 : Int32) (hb hby at_113) (by decide) ?_
      show Go p e below t T335 m 114 #[iv i0, iv i1, iv i2, .val (.long i3), .second, .val (.long i4), .second, iv (1 : Int32), iv (nD i1), iv (nW i2), rv b315, .val (.double (FP.dmul (f_v i4 ((nW i2) * (1 : Int32))) (f_v i3 ((nD i1) * (1 : Int32))))), .second] [(.int (3 : Int32)), (.int (1 : Int32))]
      refine XS.icmpYes X335.here hx rfl (pc0 := 114) (pc' := 146) rfl (hb hby at_114) rfl (XT.ii_lt_t (by decide)) (by decide) (by decide) ?_
      show Go p e below t T335 m 146 #[iv i0, iv i1, iv i2, .val (.long i3), .second, .val (.long i4), .second, iv (1 : Int32), iv (nD i1), iv (nW i2), rv b315, .val (.double (FP.dmul (f_v i4 ((nW i2) * (1 : Int32))) (f_v i3 ((nD i1) * (1 : Int32))))), .second] []
      refine XS.aload X335.here hx rfl (hb hby at_146) rfl rfl ?_
      show Go p e below t T335 m 148 #[iv i0, iv i1, iv i2, .val (.long i3), .second, .val (.long i4), .second, iv (1 : Int32), iv (nD i1), iv (nW i2), rv b315, .val (.double (FP.dmul (f_v i4 ((nW i2) * (1 : Int32))) (f_v i3 ((nD i1) * (1 : Int32))))), .second] [(.ref b315)]
      refine XS.iload X335.here hx rfl (hb hby at_148) rfl ?_
      show Go p e below t T335 m 150 #[iv i0, iv i1, iv i2, .val (.long i3), .second, .val (.long i4), .second, iv (1 : Int32), iv (nD i1), iv (nW i2), rv b315, .val (.double (FP.dmul (f_v i4 ((nW i2) * (1 : Int32))) (f_v i3 ((nD i1) * (1 : Int32))))), .second] [(.int (nD i1)), (.ref b315)]
      refine XS.iload X335.here hx rfl (hb hby at_150) rfl ?_
      show Go p e below t T335 m 152 #[iv i0, iv i1, iv i2, .val (.long i3), .second, .val (.long i4), .second, iv (1 : Int32), iv (nD i1), iv (nW i2), rv b315, .val (.double (FP.dmul (f_v i4 ((nW i2) * (1 : Int32))) (f_v i3 ((nD i1) * (1 : Int32))))), .second] [(.int (nW i2)), (.int (nD i1)), (.ref b315)]
      exact k)
    obtain ⟨cq338, kq338, q338a, q338b, q338c⟩ := isOf hZ e335 R329_1
    obtain ⟨_, _, ⟨T338, L338, k338, n338⟩, -, X338, ⟨Lc338, hQ338, l338, y338, z338⟩, st338⟩ := X335.virtualBack hx (y := (⟨"com/example/borrowed_prior/borrowedprior/model/TopicModel", "termProbability", "(II)D"⟩ : MethodName)) (z := (⟨"com/example/borrowed_prior/borrowedprior/model/TopicModel", "termProbability", "(II)D"⟩ : MethodName)) hown (mvT hZ (hw _ (List.mem_of_getElem? (i := 35) rfl))) (mvT hZ (hw _ (List.mem_of_getElem? (i := 36) rfl))) (notFace_of_selects (args := #[]) (mvT hZ (hw _ (List.mem_of_getElem? (i := 38) rfl)))) (mvT hZ (hw _ (List.mem_of_getElem? (i := 38) rfl))) (mvT hZ (hw _ (List.mem_of_getElem? (i := 37) rfl))) (by decide) (backOf (W := 0) (rm_tp1 l Z a0 hw [] b315 (nD i1) (nW i2) ra_327 ra_324 rk_327 (2 : Int32) [(.double (f_v i4 (0 : Int32))), (.double (f_v i4 (1 : Int32)))] (.double (0 : UInt64)) rk_324 (3 : Int32) [(.double (f_v i3 (0 : Int32))), (.double (f_v i3 (1 : Int32))), (.double (f_v i3 (2 : Int32)))] (.double (0 : UInt64)) (f_v i4 ((nW i2) * (1 : Int32))) (f_v i3 ((nD i1) * (1 : Int32))) T329.heap n0 (Nat.le_trans Z0 (Nat.le_trans (Nat.le_trans (Nat.le_trans (Nat.le_trans (Nat.le_refl _) E315.1) R324_0.1) R327_0.1) R329_0.1)) R329_2 R329_7 R329_6 (R327_1.keep R329_0 (ninS (Ne.symm (Nat.ne_of_lt (Nat.lt_of_lt_of_le (A315.keep R324_0).lt R327_2))) nin0)) ((R324_1.keep R327_0 nin0).keep R329_0 (ninS (Ne.symm (Nat.ne_of_lt (Nat.lt_of_lt_of_le A315.lt R324_2))) nin0)) (own_ia1_0 i2) (own_ea1_0 i2 i4) (own_ib1_0 i1) (own_eb1_0 i1 i3) (own_nib _ _) (own_nib _ _)) hZ (hw _ (List.mem_of_getElem? (i := 39) rfl)) (hw _ (List.mem_of_getElem? (i := 3) rfl)) (by decide) (by decide)) q338a q338c (g := (mkF m 152 #[iv i0, iv i1, iv i2, .val (.long i3), .second, .val (.long i4), .second, iv (1 : Int32), iv (nD i1), iv (nW i2), rv b315, .val (.double (FP.dmul (f_v i4 ((nW i2) * (1 : Int32))) (f_v i3 ((nD i1) * (1 : Int32))))), .second] [(.int (nW i2)), (.int (nD i1)), (.ref b315)])) rfl (by rw [hml]; rfl) (Steps.refl _) (argsL := [(.int (nD i1)), (.int (nW i2))]) (rest := []) (lenOf pd4 rfl) rfl (by show 2 * 0 + _ ≤ _; exact Nat.le_of_eq rfl) (hb hby at_152) (fun _ _ => ⟨rfl, e335, (by decide : 3 + 0 ≤ _), (by decide : 11 + 0 ≤ _)⟩)
    dsimp only [Pt.U, Pt.locs, Pt.cells, Pt.slots] at X338 l338 y338 z338 st338 hQ338
    subst l338 y338 z338
    obtain ⟨rfl, N338, R338_0⟩ := hQ338
    have M338 := Fr.app M335 N338
    have g339 : Goes p e below S0 (T338.setTop (mkF m 155 #[iv i0, iv i1, iv i2, .val (.long i3), .second, .val (.long i4), .second, iv (1 : Int32), iv (nD i1), iv (nW i2), rv b315, .val (.double (FP.dmul (f_v i4 ((nW i2) * (1 : Int32))) (f_v i3 ((nD i1) * (1 : Int32))))), .second] [(.double (FP.dadd (0 : UInt64) (FP.dmul (f_v i4 ((nW i2) * (1 : Int32))) (f_v i3 ((nD i1) * (1 : Int32))))))])) := fun t k => g337 t (st338.trans k)
    have g340 : Goes p e below S0 (T338.setTop (mkF m 166 #[iv i0, iv i1, iv i2, .val (.long i3), .second, .val (.long i4), .second, iv (1 : Int32), iv (nD i1), iv (nW i2), rv b315, .val (.double (FP.dmul (f_v i4 ((nW i2) * (1 : Int32))) (f_v i3 ((nD i1) * (1 : Int32))))), .second] [(.int (1 : Int32))])) := fun t k => g339 t (by
      refine XS.dload X338.here hx rfl (hb hby at_155) rfl ?_
      show Go p e below t T338 m 157 #[iv i0, iv i1, iv i2, .val (.long i3), .second, .val (.long i4), .second, iv (1 : Int32), iv (nD i1), iv (nW i2), rv b315, .val (.double (FP.dmul (f_v i4 ((nW i2) * (1 : Int32))) (f_v i3 ((nD i1) * (1 : Int32))))), .second] [(.double (FP.dmul (f_v i4 ((nW i2) * (1 : Int32))) (f_v i3 ((nD i1) * (1 : Int32))))), (.double (FP.dadd (0 : UInt64) (FP.dmul (f_v i4 ((nW i2) * (1 : Int32))) (f_v i3 ((nD i1) * (1 : Int32))))))]
      refine XS.dcmpS X338.here hx rfl (hb hby at_157) rfl rfl ?_
      show Go p e below t T338 m 158 #[iv i0, iv i1, iv i2, .val (.long i3), .second, .val (.long i4), .second, iv (1 : Int32), iv (nD i1), iv (nW i2), rv b315, .val (.double (FP.dmul (f_v i4 ((nW i2) * (1 : Int32))) (f_v i3 ((nD i1) * (1 : Int32))))), .second] [(.int (cmpValue (FP.dcmp (FP.dadd (0 : UInt64) (FP.dmul (f_v i4 ((nW i2) * (1 : Int32))) (f_v i3 ((nD i1) * (1 : Int32))))) (FP.dmul (f_v i4 ((nW i2) * (1 : Int32))) (f_v i3 ((nD i1) * (1 : Int32))))) .l))]
      refine XS.ifNo X338.here hx rfl (hb hby at_158) rfl (dc_l_ne_f (own_k1e (own_nib _ _) (own_nib _ _))) ?_
      show Go p e below t T338 m 161 #[iv i0, iv i1, iv i2, .val (.long i3), .second, .val (.long i4), .second, iv (1 : Int32), iv (nD i1), iv (nW i2), rv b315, .val (.double (FP.dmul (f_v i4 ((nW i2) * (1 : Int32))) (f_v i3 ((nD i1) * (1 : Int32))))), .second] []
      refine XT.iconstV X338.here hx rfl (1 : Int32) (hb hby at_161) (by decide) ?_
      show Go p e below t T338 m 162 #[iv i0, iv i1, iv i2, .val (.long i3), .second, .val (.long i4), .second, iv (1 : Int32), iv (nD i1), iv (nW i2), rv b315, .val (.double (FP.dmul (f_v i4 ((nW i2) * (1 : Int32))) (f_v i3 ((nD i1) * (1 : Int32))))), .second] [(.int (1 : Int32))]
      refine XS.goto X338.here hx rfl (pc0 := 162) (pc' := 166) rfl (hb hby at_162) (by decide) (by decide) ?_
      show Go p e below t T338 m 166 #[iv i0, iv i1, iv i2, .val (.long i3), .second, .val (.long i4), .second, iv (1 : Int32), iv (nD i1), iv (nW i2), rv b315, .val (.double (FP.dmul (f_v i4 ((nW i2) * (1 : Int32))) (f_v i3 ((nD i1) * (1 : Int32))))), .second] [(.int (1 : Int32))]
      exact k)
    obtain ⟨fs, hr, hrun, hended, hW, hsame⟩ := X338.leave (v := some (.int (1 : Int32))) (fun h => by rw [Bd.returns] at h; cases h)
    refine ⟨_, _, g340 _ (retN X338 hx (t := .boolean) Bd.returns (by simp) (hb hby at_166) hr), hrun, hended, _, _, rfl, ?_, ⟨_, rfl⟩, hW, hsame.mono (by decide) (by decide)⟩
    show Q_law Z i0 i1 i2 i3 i4  h0 n0 _ T338.heap _
    rw [R338_0]
    exact ⟨rfl, M338⟩
  · skip
    have g341 : Goes p e below S0 (s₁.setTop (mkF m 23 #[iv i0, iv i1, iv i2, .val (.long i3), .second, .val (.long i4), .second, iv (2 : Int32), iv (nD i1), iv (nW i2), .unset, .unset, .unset] [])) := fun t k => g313 t (by
      refine XS.iloadN X0.here hx rfl (hb hby at_10) rfl ?_
      show Go p e below t s₁ m 11 #[iv i0, iv i1, iv i2, .val (.long i3), .second, .val (.long i4), .second, iv (2 : Int32), .unset, .unset, .unset, .unset, .unset] [(.int i1)]
      refine Jvm.Stand.ldcI X0 hx hown (mvT hZ (hw _ (List.mem_of_getElem? (i := 0) rfl))) (g := (mkF m 11 #[iv i0, iv i1, iv i2, .val (.long i3), .second, .val (.long i4), .second, iv (2 : Int32), .unset, .unset, .unset, .unset, .unset] [(.int i1)])) rfl (hb hby at_11) ?_
      show Go p e below t s₁ m 13 #[iv i0, iv i1, iv i2, .val (.long i3), .second, .val (.long i4), .second, iv (2 : Int32), .unset, .unset, .unset, .unset, .unset] [(.int (2147483647 : Int32)), (.int i1)]
      refine XS.iand X0.here hx rfl (hb hby at_13) rfl ?_
      show Go p e below t s₁ m 14 #[iv i0, iv i1, iv i2, .val (.long i3), .second, .val (.long i4), .second, iv (2 : Int32), .unset, .unset, .unset, .unset, .unset] [(.int (i1 &&& (2147483647 : Int32)))]
      refine XT.iconstV X0.here hx rfl (3 : Int32) (hb hby at_14) (by decide) ?_
      show Go p e below t s₁ m 15 #[iv i0, iv i1, iv i2, .val (.long i3), .second, .val (.long i4), .second, iv (2 : Int32), .unset, .unset, .unset, .unset, .unset] [(.int (3 : Int32)), (.int (i1 &&& (2147483647 : Int32)))]
      refine iremM X0 hx rfl (hb hby at_15) rfl (by decide) ?_
      show Go p e below t s₁ m 16 #[iv i0, iv i1, iv i2, .val (.long i3), .second, .val (.long i4), .second, iv (2 : Int32), .unset, .unset, .unset, .unset, .unset] [(.int ((i1 &&& (2147483647 : Int32)) % (3 : Int32)))]
      refine XS.istore X0.here hx rfl (hb hby at_16) rfl (l' := #[iv i0, iv i1, iv i2, .val (.long i3), .second, .val (.long i4), .second, iv (2 : Int32), iv (nD i1), .unset, .unset, .unset, .unset]) rfl ?_
      show Go p e below t s₁ m 18 #[iv i0, iv i1, iv i2, .val (.long i3), .second, .val (.long i4), .second, iv (2 : Int32), iv (nD i1), .unset, .unset, .unset, .unset] []
      refine XS.iloadN X0.here hx rfl (hb hby at_18) rfl ?_
      show Go p e below t s₁ m 19 #[iv i0, iv i1, iv i2, .val (.long i3), .second, .val (.long i4), .second, iv (2 : Int32), iv (nD i1), .unset, .unset, .unset, .unset] [(.int i2)]
      refine XT.iconstV X0.here hx rfl (1 : Int32) (hb hby at_19) (by decide) ?_
      show Go p e below t s₁ m 20 #[iv i0, iv i1, iv i2, .val (.long i3), .second, .val (.long i4), .second, iv (2 : Int32), iv (nD i1), .unset, .unset, .unset, .unset] [(.int (1 : Int32)), (.int i2)]
      refine XS.iand X0.here hx rfl (hb hby at_20) rfl ?_
      show Go p e below t s₁ m 21 #[iv i0, iv i1, iv i2, .val (.long i3), .second, .val (.long i4), .second, iv (2 : Int32), iv (nD i1), .unset, .unset, .unset, .unset] [(.int (i2 &&& (1 : Int32)))]
      refine XS.istore X0.here hx rfl (hb hby at_21) rfl (l' := #[iv i0, iv i1, iv i2, .val (.long i3), .second, .val (.long i4), .second, iv (2 : Int32), iv (nD i1), iv (nW i2), .unset, .unset, .unset]) rfl ?_
      show Go p e below t s₁ m 23 #[iv i0, iv i1, iv i2, .val (.long i3), .second, .val (.long i4), .second, iv (2 : Int32), iv (nD i1), iv (nW i2), .unset, .unset, .unset] []
      exact k)
    obtain ⟨T342, h342, X342, e342, E342, A342, D342, -, st342⟩ := newO X0 hx hZ hown (hw _ (List.mem_of_getElem? (i := 1) rfl)) (hw _ (List.mem_of_getElem? (i := 2) rfl)) (hw _ (List.mem_of_getElem? (i := 3) rfl)) e0 (g := (mkF m 23 #[iv i0, iv i1, iv i2, .val (.long i3), .second, .val (.long i4), .second, iv (2 : Int32), iv (nD i1), iv (nW i2), .unset, .unset, .unset] [])) rfl (hb hby at_23) (by decide) (by decide)
    obtain ⟨b342, gb342⟩ : ∃ z, z = h0.size := ⟨_, rfl⟩
    have sz342 : h0.size ≤ b342 := Nat.le_trans (Nat.le_refl _) (Nat.le_of_eq gb342.symm)
    have ng342 : n0 ≤ b342 := Nat.le_trans Z0 sz342
    rw [← gb342] at A342 D342 st342
    have F342_343 : Fld Z h342 b342 "com/example/borrowed_prior/borrowedprior/model/TopicModel" "topicCount" "I" (.int (0 : Int32)) := D342 (Or.inr (hw _ (List.mem_of_getElem? (i := 24) rfl))) (ty := .int) (by decide)
    have F342_344 : Fld Z h342 b342 "com/example/borrowed_prior/borrowedprior/model/TopicModel" "documentCount" "I" (.int (0 : Int32)) := D342 (Or.inr (hw _ (List.mem_of_getElem? (i := 26) rfl))) (ty := .int) (by decide)
    have F342_345 : Fld Z h342 b342 "com/example/borrowed_prior/borrowedprior/model/TopicModel" "termCount" "I" (.int (0 : Int32)) := D342 (Or.inr (hw _ (List.mem_of_getElem? (i := 28) rfl))) (ty := .int) (by decide)
    have F342_346 : Fld Z h342 b342 "com/example/borrowed_prior/borrowedprior/model/TopicModel" "tokenCount" "J" (.long (0 : Int64)) := D342 (Or.inr (hw _ (List.mem_of_getElem? (i := 30) rfl))) (ty := .long) (by decide)
    have F342_347 : Fld Z h342 b342 "com/example/borrowed_prior/borrowedprior/model/TopicModel" "documentTopics" "[D" .null := D342 (Or.inr (hw _ (List.mem_of_getElem? (i := 32) rfl))) (ty := (.array .double)) (by decide)
    have F342_348 : Fld Z h342 b342 "com/example/borrowed_prior/borrowedprior/model/TopicModel" "termTopics" "[D" .null := D342 (Or.inr (hw _ (List.mem_of_getElem? (i := 34) rfl))) (ty := (.array .double)) (by decide)
    have g349 : Goes p e below S0 (T342.setTop (mkF m 26 #[iv i0, iv i1, iv i2, .val (.long i3), .second, .val (.long i4), .second, iv (2 : Int32), iv (nD i1), iv (nW i2), .unset, .unset, .unset] [(.ref b342)])) := fun t k => g341 t (st342 t k)
    have g350 : Goes p e below S0 (T342.setTop (mkF m 37 #[iv i0, iv i1, iv i2, .val (.long i3), .second, .val (.long i4), .second, iv (2 : Int32), iv (nD i1), iv (nW i2), .unset, .unset, .unset] [(.int (6 : Int32)), (.long i3), (.long (0 : Int64)), (.int (2 : Int32)), (.int (3 : Int32)), (.int (2 : Int32)), (.ref b342), (.ref b342)])) := fun t k => g349 t (by
      refine XS.dup X342.here hx rfl (hb hby at_26) rfl rfl ?_
      show Go p e below t T342 m 27 #[iv i0, iv i1, iv i2, .val (.long i3), .second, .val (.long i4), .second, iv (2 : Int32), iv (nD i1), iv (nW i2), .unset, .unset, .unset] [(.ref b342), (.ref b342)]
      refine XS.iload X342.here hx rfl (hb hby at_27) rfl ?_
      show Go p e below t T342 m 29 #[iv i0, iv i1, iv i2, .val (.long i3), .second, .val (.long i4), .second, iv (2 : Int32), iv (nD i1), iv (nW i2), .unset, .unset, .unset] [(.int (2 : Int32)), (.ref b342), (.ref b342)]
      refine XT.iconstV X342.here hx rfl (3 : Int32) (hb hby at_29) (by decide) ?_
      show Go p e below t T342 m 30 #[iv i0, iv i1, iv i2, .val (.long i3), .second, .val (.long i4), .second, iv (2 : Int32), iv (nD i1), iv (nW i2), .unset, .unset, .unset] [(.int (3 : Int32)), (.int (2 : Int32)), (.ref b342), (.ref b342)]
      refine XT.iconstV X342.here hx rfl (2 : Int32) (hb hby at_30) (by decide) ?_
      show Go p e below t T342 m 31 #[iv i0, iv i1, iv i2, .val (.long i3), .second, .val (.long i4), .second, iv (2 : Int32), iv (nD i1), iv (nW i2), .unset, .unset, .unset] [(.int (2 : Int32)), (.int (3 : Int32)), (.int (2 : Int32)), (.ref b342), (.ref b342)]
      refine XT.lconstV X342.here hx rfl (0 : Int64) (hb hby at_31) (by decide) ?_
      show Go p e below t T342 m 32 #[iv i0, iv i1, iv i2, .val (.long i3), .second, .val (.long i4), .second, iv (2 : Int32), iv (nD i1), iv (nW i2), .unset, .unset, .unset] [(.long (0 : Int64)), (.int (2 : Int32)), (.int (3 : Int32)), (.int (2 : Int32)), (.ref b342), (.ref b342)]
      refine XS.lloadN X342.here hx rfl (hb hby at_32) rfl ?_
      show Go p e below t T342 m 33 #[iv i0, iv i1, iv i2, .val (.long i3), .second, .val (.long i4), .second, iv (2 : Int32), iv (nD i1), iv (nW i2), .unset, .unset, .unset] [(.long i3), (.long (0 : Int64)), (.int (2 : Int32)), (.int (3 : Int32)), (.int (2 : Int32)), (.ref b342), (.ref b342)]
      refine XT.iconstV X342.here hx rfl (3 : Int32) (hb hby at_33) (by decide) ?_
      show Go p e below t T342 m 34 #[iv i0, iv i1, iv i2, .val (.long i3), .second, .val (.long i4), .second, iv (2 : Int32), iv (nD i1), iv (nW i2), .unset, .unset, .unset] [(.int (3 : Int32)), (.long i3), (.long (0 : Int64)), (.int (2 : Int32)), (.int (3 : Int32)), (.int (2 : Int32)), (.ref b342), (.ref b342)]
      refine XS.iload X342.here hx rfl (hb hby at_34) rfl ?_
      show Go p e below t T342 m 36 #[iv i0, iv i1, iv i2, .val (.long i3), .second, .val (.long i4), .second, iv (2 : Int32), iv (nD i1), iv (nW i2), .unset, .unset, .unset] [(.int (2 : Int32)), (.int (3 : Int32)), (.long i3), (.long (0 : Int64)), (.int (2 : Int32)), (.int (3 : Int32)), (.int (2 : Int32)), (.ref b342), (.ref b342)]
      refine XS.imul X342.here hx rfl (hb hby at_36) rfl ?_
      rw [show ((3 : Int32) * (2 : Int32)) = (6 : Int32) by decide]
      show Go p e below t T342 m 37 #[iv i0, iv i1, iv i2, .val (.long i3), .second, .val (.long i4), .second, iv (2 : Int32), iv (nD i1), iv (nW i2), .unset, .unset, .unset] [(.int (6 : Int32)), (.long i3), (.long (0 : Int64)), (.int (2 : Int32)), (.int (3 : Int32)), (.int (2 : Int32)), (.ref b342), (.ref b342)]
      exact k)
    obtain ⟨_, _, ⟨T351, L351, k351, n351⟩, -, X351, ⟨Lc351, hQ351, l351, y351, z351⟩, st351⟩ := Jvm.LawKit.callS X342 hx (y := (⟨"com/example/borrowed_prior/borrowedprior/model/TopicModelTermProbabilityPinLaw", "draw", "(JI)[D"⟩ : MethodName)) hown (mvT hZ (hw _ (List.mem_of_getElem? (i := 4) rfl))) (mvT hZ (hw _ (List.mem_of_getElem? (i := 5) rfl))) (mvT hZ (hw _ (List.mem_of_getElem? (i := 6) rfl))) (mvT hZ (hw _ (List.mem_of_getElem? (i := 7) rfl))) (by decide) (backOf (W := 7) (rm_dr6 l Z a0 hw [] i3 (6 : Int32)  h342 n0 (Nat.le_trans Z0 (Nat.le_trans (Nat.le_refl _) E342.1)) rfl) hZ (hw _ (List.mem_of_getElem? (i := 7) rfl)) (hw _ (List.mem_of_getElem? (i := 6) rfl)) (by decide) (by decide)) (g := (mkF m 37 #[iv i0, iv i1, iv i2, .val (.long i3), .second, .val (.long i4), .second, iv (2 : Int32), iv (nD i1), iv (nW i2), .unset, .unset, .unset] [(.int (6 : Int32)), (.long i3), (.long (0 : Int64)), (.int (2 : Int32)), (.int (3 : Int32)), (.int (2 : Int32)), (.ref b342), (.ref b342)])) rfl (by rw [hml]; rfl) (argsL := [(.long i3), (.int (6 : Int32))]) (rest := [(.long (0 : Int64)), (.int (2 : Int32)), (.int (3 : Int32)), (.int (2 : Int32)), (.ref b342), (.ref b342)]) (lenOf pd3 rfl) rfl (by show 2 * 0 + _ ≤ _; exact Nat.le_of_eq rfl) (hb hby at_37) (fun _ _ => ⟨rfl, e342, (by decide : 1 + 1 ≤ _), (by decide : 6 + 6 ≤ _)⟩)
    dsimp only [Pt.U, Pt.locs, Pt.cells, Pt.slots] at X351 l351 y351 z351 st351 hQ351
    subst l351 y351 z351
    obtain ⟨ra_351, rk_351, rfl, N351, R351_0, R351_1, R351_2⟩ := hQ351
    have M351 := Fr.app N0 N351
    have sz351_2 : h0.size ≤ ra_351 := Nat.le_trans (Nat.le_trans (Nat.le_refl _) E342.1) R351_2
    have ng351_2 : n0 ≤ ra_351 := Nat.le_trans Z0 sz351_2
    have g352 : Goes p e below S0 (T351.setTop (mkF m 40 #[iv i0, iv i1, iv i2, .val (.long i3), .second, .val (.long i4), .second, iv (2 : Int32), iv (nD i1), iv (nW i2), .unset, .unset, .unset] [(.ref ra_351), (.long (0 : Int64)), (.int (2 : Int32)), (.int (3 : Int32)), (.int (2 : Int32)), (.ref b342), (.ref b342)])) := fun t k => g350 t (st351 t k)
    have g353 : Goes p e below S0 (T351.setTop (mkF m 46 #[iv i0, iv i1, iv i2, .val (.long i3), .second, .val (.long i4), .second, iv (2 : Int32), iv (nD i1), iv (nW i2), .unset, .unset, .unset] [(.int (4 : Int32)), (.long i4), (.ref ra_351), (.long (0 : Int64)), (.int (2 : Int32)), (.int (3 : Int32)), (.int (2 : Int32)), (.ref b342), (.ref b342)])) := fun t k => g352 t (by
      refine XS.lload X351.here hx rfl (hb hby at_40) rfl ?_
      show Go p e below t T351 m 42 #[iv i0, iv i1, iv i2, .val (.long i3), .second, .val (.long i4), .second, iv (2 : Int32), iv (nD i1), iv (nW i2), .unset, .unset, .unset] [(.long i4), (.ref ra_351), (.long (0 : Int64)), (.int (2 : Int32)), (.int (3 : Int32)), (.int (2 : Int32)), (.ref b342), (.ref b342)]
      refine XT.iconstV X351.here hx rfl (2 : Int32) (hb hby at_42) (by decide) ?_
      show Go p e below t T351 m 43 #[iv i0, iv i1, iv i2, .val (.long i3), .second, .val (.long i4), .second, iv (2 : Int32), iv (nD i1), iv (nW i2), .unset, .unset, .unset] [(.int (2 : Int32)), (.long i4), (.ref ra_351), (.long (0 : Int64)), (.int (2 : Int32)), (.int (3 : Int32)), (.int (2 : Int32)), (.ref b342), (.ref b342)]
      refine XS.iload X351.here hx rfl (hb hby at_43) rfl ?_
      show Go p e below t T351 m 45 #[iv i0, iv i1, iv i2, .val (.long i3), .second, .val (.long i4), .second, iv (2 : Int32), iv (nD i1), iv (nW i2), .unset, .unset, .unset] [(.int (2 : Int32)), (.int (2 : Int32)), (.long i4), (.ref ra_351), (.long (0 : Int64)), (.int (2 : Int32)), (.int (3 : Int32)), (.int (2 : Int32)), (.ref b342), (.ref b342)]
      refine XS.imul X351.here hx rfl (hb hby at_45) rfl ?_
      rw [show ((2 : Int32) * (2 : Int32)) = (4 : Int32) by decide]
      show Go p e below t T351 m 46 #[iv i0, iv i1, iv i2, .val (.long i3), .second, .val (.long i4), .second, iv (2 : Int32), iv (nD i1), iv (nW i2), .unset, .unset, .unset] [(.int (4 : Int32)), (.long i4), (.ref ra_351), (.long (0 : Int64)), (.int (2 : Int32)), (.int (3 : Int32)), (.int (2 : Int32)), (.ref b342), (.ref b342)]
      exact k)
    obtain ⟨_, _, ⟨T354, L354, k354, n354⟩, -, X354, ⟨Lc354, hQ354, l354, y354, z354⟩, st354⟩ := Jvm.LawKit.callS X351 hx (y := (⟨"com/example/borrowed_prior/borrowedprior/model/TopicModelTermProbabilityPinLaw", "draw", "(JI)[D"⟩ : MethodName)) hown (mvT hZ (hw _ (List.mem_of_getElem? (i := 4) rfl))) (mvT hZ (hw _ (List.mem_of_getElem? (i := 5) rfl))) (mvT hZ (hw _ (List.mem_of_getElem? (i := 6) rfl))) (mvT hZ (hw _ (List.mem_of_getElem? (i := 7) rfl))) (by decide) (backOf (W := 8) (rm_dr4 l Z a0 hw [] i4 (4 : Int32)  T351.heap n0 (Nat.le_trans Z0 (Nat.le_trans (Nat.le_trans (Nat.le_refl _) E342.1) R351_0.1)) rfl) hZ (hw _ (List.mem_of_getElem? (i := 7) rfl)) (hw _ (List.mem_of_getElem? (i := 6) rfl)) (by decide) (by decide)) (g := (mkF m 46 #[iv i0, iv i1, iv i2, .val (.long i3), .second, .val (.long i4), .second, iv (2 : Int32), iv (nD i1), iv (nW i2), .unset, .unset, .unset] [(.int (4 : Int32)), (.long i4), (.ref ra_351), (.long (0 : Int64)), (.int (2 : Int32)), (.int (3 : Int32)), (.int (2 : Int32)), (.ref b342), (.ref b342)])) rfl (by rw [hml]; rfl) (argsL := [(.long i4), (.int (4 : Int32))]) (rest := [(.ref ra_351), (.long (0 : Int64)), (.int (2 : Int32)), (.int (3 : Int32)), (.int (2 : Int32)), (.ref b342), (.ref b342)]) (lenOf pd3 rfl) rfl (by show 2 * 0 + _ ≤ _; exact Nat.le_of_eq rfl) (hb hby at_46) (fun _ _ => ⟨rfl, rfl, (by decide : 2 + 1 ≤ _), (by decide : 12 + 4 ≤ _)⟩)
    dsimp only [Pt.U, Pt.locs, Pt.cells, Pt.slots] at X354 l354 y354 z354 st354 hQ354
    subst l354 y354 z354
    obtain ⟨ra_354, rk_354, rfl, N354, R354_0, R354_1, R354_2⟩ := hQ354
    have M354 := Fr.app M351 N354
    have sz354_2 : h0.size ≤ ra_354 := Nat.le_trans (Nat.le_trans (Nat.le_trans (Nat.le_refl _) E342.1) R351_0.1) R354_2
    have ng354_2 : n0 ≤ ra_354 := Nat.le_trans Z0 sz354_2
    have g355 : Goes p e below S0 (T354.setTop (mkF m 49 #[iv i0, iv i1, iv i2, .val (.long i3), .second, .val (.long i4), .second, iv (2 : Int32), iv (nD i1), iv (nW i2), .unset, .unset, .unset] [(.ref ra_354), (.ref ra_351), (.long (0 : Int64)), (.int (2 : Int32)), (.int (3 : Int32)), (.int (2 : Int32)), (.ref b342), (.ref b342)])) := fun t k => g353 t (st354 t k)
    obtain ⟨_, _, ⟨T356, L356, k356, n356⟩, -, X356, ⟨Lc356, hQ356, l356, y356, z356⟩, st356⟩ := X354.specialBack hx (y := (⟨"com/example/borrowed_prior/borrowedprior/model/TopicModel", "<init>", "(IIIJ[D[D)V"⟩ : MethodName)) rfl hown (mvT hZ (hw _ (List.mem_of_getElem? (i := 14) rfl))) (mvT hZ (hw _ (List.mem_of_getElem? (i := 15) rfl))) (mvT hZ (hw _ (List.mem_of_getElem? (i := 16) rfl))) (by decide) (backOf (W := 1) (rm_tin l Z a0 hw [] b342 (2 : Int32) (3 : Int32) (2 : Int32) (0 : Int64) ra_351 ra_354 rk_351 (6 : Int32) [(.double (f_v i3 (0 : Int32))), (.double (f_v i3 (1 : Int32))), (.double (f_v i3 (2 : Int32))), (.double (f_v i3 (3 : Int32))), (.double (f_v i3 (4 : Int32))), (.double (f_v i3 (5 : Int32)))] (.double (0 : UInt64)) rk_354 (4 : Int32) [(.double (f_v i4 (0 : Int32))), (.double (f_v i4 (1 : Int32))), (.double (f_v i4 (2 : Int32))), (.double (f_v i4 (3 : Int32)))] (.double (0 : UInt64)) T354.heap n0 (Nat.le_trans Z0 (Nat.le_trans (Nat.le_trans (Nat.le_trans (Nat.le_refl _) E342.1) R351_0.1) R354_0.1)) ((A342.keep R351_0).keep R354_0) ((F342_343.keep R351_0 nin0).keep R354_0 nin0) ((F342_344.keep R351_0 nin0).keep R354_0 nin0) ((F342_345.keep R351_0 nin0).keep R354_0 nin0) ((F342_346.keep R351_0 nin0).keep R354_0 nin0) ((F342_347.keep R351_0 nin0).keep R354_0 nin0) ((F342_348.keep R351_0 nin0).keep R354_0 nin0) ng342 (R351_1.keep R354_0 nin0) R354_1 (by decide) (by decide) (by decide) (by decide) (by decide) (by decide) (own_p6 i3) (own_p4 i4) (by decide) (by decide)) hZ (hw _ (List.mem_of_getElem? (i := 16) rfl)) (hw _ (List.mem_of_getElem? (i := 3) rfl)) (by decide) (by decide)) (g := (mkF m 49 #[iv i0, iv i1, iv i2, .val (.long i3), .second, .val (.long i4), .second, iv (2 : Int32), iv (nD i1), iv (nW i2), .unset, .unset, .unset] [(.ref ra_354), (.ref ra_351), (.long (0 : Int64)), (.int (2 : Int32)), (.int (3 : Int32)), (.int (2 : Int32)), (.ref b342), (.ref b342)])) rfl (by rw [hml]; rfl) (Steps.refl _) (a := b342) (argsL := [(.int (2 : Int32)), (.int (3 : Int32)), (.int (2 : Int32)), (.long (0 : Int64)), (.ref ra_351), (.ref ra_354)]) (rest := [(.ref b342)]) (lenOf pd2 rfl) rfl (by show 2 * 0 + _ ≤ _; exact Nat.le_of_eq rfl) (hb hby at_49) (fun _ _ => ⟨rfl, rfl, (by decide : 3 + 0 ≤ _), (by decide : 16 + 0 ≤ _)⟩)
    dsimp only [Pt.U, Pt.locs, Pt.cells, Pt.slots] at X356 l356 y356 z356 st356 hQ356
    subst l356 y356 z356
    obtain ⟨rfl, N356, R356_0, R356_1, R356_2, R356_3, R356_4, R356_5, R356_6, R356_7⟩ := hQ356
    have M356 := Fr.app M354 N356
    have g357 : Goes p e below S0 (T356.setTop (mkF m 52 #[iv i0, iv i1, iv i2, .val (.long i3), .second, .val (.long i4), .second, iv (2 : Int32), iv (nD i1), iv (nW i2), .unset, .unset, .unset] [(.ref b342)])) := fun t k => g355 t (st356.trans k)
    have g358 : Goes p e below S0 (T356.setTop (mkF m 61 #[iv i0, iv i1, iv i2, .val (.long i3), .second, .val (.long i4), .second, iv (2 : Int32), iv (nD i1), iv (nW i2), rv b342, .unset, .unset] [(.int ((nW i2) * (2 : Int32))), (.long i4)])) := fun t k => g357 t (by
      refine XS.astore X356.here hx rfl (hb hby at_52) rfl rfl (l' := #[iv i0, iv i1, iv i2, .val (.long i3), .second, .val (.long i4), .second, iv (2 : Int32), iv (nD i1), iv (nW i2), rv b342, .unset, .unset]) rfl ?_
      show Go p e below t T356 m 54 #[iv i0, iv i1, iv i2, .val (.long i3), .second, .val (.long i4), .second, iv (2 : Int32), iv (nD i1), iv (nW i2), rv b342, .unset, .unset] []
      refine XS.lload X356.here hx rfl (hb hby at_54) rfl ?_
      show Go p e below t T356 m 56 #[iv i0, iv i1, iv i2, .val (.long i3), .second, .val (.long i4), .second, iv (2 : Int32), iv (nD i1), iv (nW i2), rv b342, .unset, .unset] [(.long i4)]
      refine XS.iload X356.here hx rfl (hb hby at_56) rfl ?_
      show Go p e below t T356 m 58 #[iv i0, iv i1, iv i2, .val (.long i3), .second, .val (.long i4), .second, iv (2 : Int32), iv (nD i1), iv (nW i2), rv b342, .unset, .unset] [(.int (nW i2)), (.long i4)]
      refine XS.iload X356.here hx rfl (hb hby at_58) rfl ?_
      show Go p e below t T356 m 60 #[iv i0, iv i1, iv i2, .val (.long i3), .second, .val (.long i4), .second, iv (2 : Int32), iv (nD i1), iv (nW i2), rv b342, .unset, .unset] [(.int (2 : Int32)), (.int (nW i2)), (.long i4)]
      refine XS.imul X356.here hx rfl (hb hby at_60) rfl ?_
      show Go p e below t T356 m 61 #[iv i0, iv i1, iv i2, .val (.long i3), .second, .val (.long i4), .second, iv (2 : Int32), iv (nD i1), iv (nW i2), rv b342, .unset, .unset] [(.int ((nW i2) * (2 : Int32))), (.long i4)]
      exact k)
    obtain ⟨_, _, ⟨T359, L359, k359, n359⟩, -, X359, ⟨Lc359, hQ359, l359, y359, z359⟩, st359⟩ := Jvm.LawKit.callS X356 hx (y := (⟨"com/example/borrowed_prior/borrowedprior/model/TopicModelTermProbabilityPinLaw", "v", "(JI)D"⟩ : MethodName)) hown (mvT hZ (hw _ (List.mem_of_getElem? (i := 9) rfl))) (mvT hZ (hw _ (List.mem_of_getElem? (i := 10) rfl))) (mvT hZ (hw _ (List.mem_of_getElem? (i := 6) rfl))) (mvT hZ (hw _ (List.mem_of_getElem? (i := 11) rfl))) (by decide) (backOf (W := 0) (rm_v l Z a0 hw [] i4 ((nW i2) * (2 : Int32))  T356.heap n0 (Nat.le_trans Z0 (Nat.le_trans (Nat.le_trans (Nat.le_trans (Nat.le_trans (Nat.le_refl _) E342.1) R351_0.1) R354_0.1) R356_0.1)) ) hZ (hw _ (List.mem_of_getElem? (i := 11) rfl)) (hw _ (List.mem_of_getElem? (i := 6) rfl)) (by decide) (by decide)) (g := (mkF m 61 #[iv i0, iv i1, iv i2, .val (.long i3), .second, .val (.long i4), .second, iv (2 : Int32), iv (nD i1), iv (nW i2), rv b342, .unset, .unset] [(.int ((nW i2) * (2 : Int32))), (.long i4)])) rfl (by rw [hml]; rfl) (argsL := [(.long i4), (.int ((nW i2) * (2 : Int32)))]) (rest := []) (lenOf pd0 rfl) rfl (by show 2 * 0 + _ ≤ _; exact Nat.le_of_eq rfl) (hb hby at_61) (fun _ _ => ⟨rfl, rfl, (by decide : 3 + 0 ≤ _), (by decide : 16 + 0 ≤ _)⟩)
    dsimp only [Pt.U, Pt.locs, Pt.cells, Pt.slots] at X359 l359 y359 z359 st359 hQ359
    subst l359 y359 z359
    obtain ⟨rfl, N359, e359⟩ := hQ359
    have M359 := Fr.app M356 N359
    have g360 : Goes p e below S0 (T359.setTop (mkF m 64 #[iv i0, iv i1, iv i2, .val (.long i3), .second, .val (.long i4), .second, iv (2 : Int32), iv (nD i1), iv (nW i2), rv b342, .unset, .unset] [(.double (f_v i4 ((nW i2) * (2 : Int32))))])) := fun t k => g358 t (st359 t k)
    have g361 : Goes p e below S0 (T359.setTop (mkF m 70 #[iv i0, iv i1, iv i2, .val (.long i3), .second, .val (.long i4), .second, iv (2 : Int32), iv (nD i1), iv (nW i2), rv b342, .unset, .unset] [(.int ((nD i1) * (2 : Int32))), (.long i3), (.double (f_v i4 ((nW i2) * (2 : Int32))))])) := fun t k => g360 t (by
      refine XS.lloadN X359.here hx rfl (hb hby at_64) rfl ?_
      show Go p e below t T359 m 65 #[iv i0, iv i1, iv i2, .val (.long i3), .second, .val (.long i4), .second, iv (2 : Int32), iv (nD i1), iv (nW i2), rv b342, .unset, .unset] [(.long i3), (.double (f_v i4 ((nW i2) * (2 : Int32))))]
      refine XS.iload X359.here hx rfl (hb hby at_65) rfl ?_
      show Go p e below t T359 m 67 #[iv i0, iv i1, iv i2, .val (.long i3), .second, .val (.long i4), .second, iv (2 : Int32), iv (nD i1), iv (nW i2), rv b342, .unset, .unset] [(.int (nD i1)), (.long i3), (.double (f_v i4 ((nW i2) * (2 : Int32))))]
      refine XS.iload X359.here hx rfl (hb hby at_67) rfl ?_
      show Go p e below t T359 m 69 #[iv i0, iv i1, iv i2, .val (.long i3), .second, .val (.long i4), .second, iv (2 : Int32), iv (nD i1), iv (nW i2), rv b342, .unset, .unset] [(.int (2 : Int32)), (.int (nD i1)), (.long i3), (.double (f_v i4 ((nW i2) * (2 : Int32))))]
      refine XS.imul X359.here hx rfl (hb hby at_69) rfl ?_
      show Go p e below t T359 m 70 #[iv i0, iv i1, iv i2, .val (.long i3), .second, .val (.long i4), .second, iv (2 : Int32), iv (nD i1), iv (nW i2), rv b342, .unset, .unset] [(.int ((nD i1) * (2 : Int32))), (.long i3), (.double (f_v i4 ((nW i2) * (2 : Int32))))]
      exact k)
    obtain ⟨_, _, ⟨T362, L362, k362, n362⟩, -, X362, ⟨Lc362, hQ362, l362, y362, z362⟩, st362⟩ := Jvm.LawKit.callS X359 hx (y := (⟨"com/example/borrowed_prior/borrowedprior/model/TopicModelTermProbabilityPinLaw", "v", "(JI)D"⟩ : MethodName)) hown (mvT hZ (hw _ (List.mem_of_getElem? (i := 9) rfl))) (mvT hZ (hw _ (List.mem_of_getElem? (i := 10) rfl))) (mvT hZ (hw _ (List.mem_of_getElem? (i := 6) rfl))) (mvT hZ (hw _ (List.mem_of_getElem? (i := 11) rfl))) (by decide) (backOf (W := 2) (rm_v l Z a0 hw [] i3 ((nD i1) * (2 : Int32))  T356.heap n0 (Nat.le_trans Z0 (Nat.le_trans (Nat.le_trans (Nat.le_trans (Nat.le_trans (Nat.le_refl _) E342.1) R351_0.1) R354_0.1) R356_0.1)) ) hZ (hw _ (List.mem_of_getElem? (i := 11) rfl)) (hw _ (List.mem_of_getElem? (i := 6) rfl)) (by decide) (by decide)) (g := (mkF m 70 #[iv i0, iv i1, iv i2, .val (.long i3), .second, .val (.long i4), .second, iv (2 : Int32), iv (nD i1), iv (nW i2), rv b342, .unset, .unset] [(.int ((nD i1) * (2 : Int32))), (.long i3), (.double (f_v i4 ((nW i2) * (2 : Int32))))])) rfl (by rw [hml]; rfl) (argsL := [(.long i3), (.int ((nD i1) * (2 : Int32)))]) (rest := [(.double (f_v i4 ((nW i2) * (2 : Int32))))]) (lenOf pd0 rfl) rfl (by show 2 * 0 + _ ≤ _; exact Nat.le_of_eq rfl) (hb hby at_70) (fun _ _ => ⟨rfl, e359, (by decide : 3 + 0 ≤ _), (by decide : 16 + 0 ≤ _)⟩)
    dsimp only [Pt.U, Pt.locs, Pt.cells, Pt.slots] at X362 l362 y362 z362 st362 hQ362
    subst l362 y362 z362
    obtain ⟨rfl, N362, e362⟩ := hQ362
    have M362 := Fr.app M359 N362
    have g363 : Goes p e below S0 (T362.setTop (mkF m 73 #[iv i0, iv i1, iv i2, .val (.long i3), .second, .val (.long i4), .second, iv (2 : Int32), iv (nD i1), iv (nW i2), rv b342, .unset, .unset] [(.double (f_v i3 ((nD i1) * (2 : Int32)))), (.double (f_v i4 ((nW i2) * (2 : Int32))))])) := fun t k => g361 t (st362 t k)
    have g364 : Goes p e below S0 (T362.setTop (mkF m 93 #[iv i0, iv i1, iv i2, .val (.long i3), .second, .val (.long i4), .second, iv (2 : Int32), iv (nD i1), iv (nW i2), rv b342, .val (.double (FP.dmul (f_v i4 ((nW i2) * (2 : Int32))) (f_v i3 ((nD i1) * (2 : Int32))))), .second] [(.int (((nW i2) * (2 : Int32)) + (1 : Int32))), (.long i4), (.double (FP.dmul (f_v i4 ((nW i2) * (2 : Int32))) (f_v i3 ((nD i1) * (2 : Int32)))))])) := fun t k => g363 t (by
      refine XS.dmulS X362.here hx rfl (hb hby at_73) rfl (Pr.nn (Pr.mul (own_nib _ _) (own_nib _ _))) rfl ?_
      show Go p e below t T362 m 74 #[iv i0, iv i1, iv i2, .val (.long i3), .second, .val (.long i4), .second, iv (2 : Int32), iv (nD i1), iv (nW i2), rv b342, .unset, .unset] [(.double (FP.dmul (f_v i4 ((nW i2) * (2 : Int32))) (f_v i3 ((nD i1) * (2 : Int32)))))]
      refine XS.dstore X362.here hx rfl (hb hby at_74) rfl (l' := #[iv i0, iv i1, iv i2, .val (.long i3), .second, .val (.long i4), .second, iv (2 : Int32), iv (nD i1), iv (nW i2), rv b342, .val (.double (FP.dmul (f_v i4 ((nW i2) * (2 : Int32))) (f_v i3 ((nD i1) * (2 : Int32))))), .second]) rfl ?_
      show Go p e below t T362 m 76 #[iv i0, iv i1, iv i2, .val (.long i3), .second, .val (.long i4), .second, iv (2 : Int32), iv (nD i1), iv (nW i2), rv b342, .val (.double (FP.dmul (f_v i4 ((nW i2) * (2 : Int32))) (f_v i3 ((nD i1) * (2 : Int32))))), .second] []
      refine XS.iload X362.here hx rfl (hb hby at_76) rfl ?_
      show Go p e below t T362 m 78 #[iv i0, iv i1, iv i2, .val (.long i3), .second, .val (.long i4), .second, iv (2 : Int32), iv (nD i1), iv (nW i2), rv b342, .val (.double (FP.dmul (f_v i4 ((nW i2) * (2 : Int32))) (f_v i3 ((nD i1) * (2 : Int32))))), .second] [(.int (2 : Int32))]
      refine XT.iconstV X362.here hx rfl (2 : Int32) (hb hby at_78) (by decide) ?_
      show Go p e below t T362 m 79 #[iv i0, iv i1, iv i2, .val (.long i3), .second, .val (.long i4), .second, iv (2 : Int32), iv (nD i1), iv (nW i2), rv b342, .val (.double (FP.dmul (f_v i4 ((nW i2) * (2 : Int32))) (f_v i3 ((nD i1) * (2 : Int32))))), .second] [(.int (2 : Int32)), (.int (2 : Int32))]
      refine XS.icmpNo X362.here hx rfl (hb hby at_79) rfl (XT.ii_lt_f (by decide)) ?_
      show Go p e below t T362 m 82 #[iv i0, iv i1, iv i2, .val (.long i3), .second, .val (.long i4), .second, iv (2 : Int32), iv (nD i1), iv (nW i2), rv b342, .val (.double (FP.dmul (f_v i4 ((nW i2) * (2 : Int32))) (f_v i3 ((nD i1) * (2 : Int32))))), .second] []
      refine XS.dload X362.here hx rfl (hb hby at_82) rfl ?_
      show Go p e below t T362 m 84 #[iv i0, iv i1, iv i2, .val (.long i3), .second, .val (.long i4), .second, iv (2 : Int32), iv (nD i1), iv (nW i2), rv b342, .val (.double (FP.dmul (f_v i4 ((nW i2) * (2 : Int32))) (f_v i3 ((nD i1) * (2 : Int32))))), .second] [(.double (FP.dmul (f_v i4 ((nW i2) * (2 : Int32))) (f_v i3 ((nD i1) * (2 : Int32)))))]
      refine XS.lload X362.here hx rfl (hb hby at_84) rfl ?_
      show Go p e below t T362 m 86 #[iv i0, iv i1, iv i2, .val (.long i3), .second, .val (.long i4), .second, iv (2 : Int32), iv (nD i1), iv (nW i2), rv b342, .val (.double (FP.dmul (f_v i4 ((nW i2) * (2 : Int32))) (f_v i3 ((nD i1) * (2 : Int32))))), .second] [(.long i4), (.double (FP.dmul (f_v i4 ((nW i2) * (2 : Int32))) (f_v i3 ((nD i1) * (2 : Int32)))))]
      refine XS.iload X362.here hx rfl (hb hby at_86) rfl ?_
      show Go p e below t T362 m 88 #[iv i0, iv i1, iv i2, .val (.long i3), .second, .val (.long i4), .second, iv (2 : Int32), iv (nD i1), iv (nW i2), rv b342, .val (.double (FP.dmul (f_v i4 ((nW i2) * (2 : Int32))) (f_v i3 ((nD i1) * (2 : Int32))))), .second] [(.int (nW i2)), (.long i4), (.double (FP.dmul (f_v i4 ((nW i2) * (2 : Int32))) (f_v i3 ((nD i1) * (2 : Int32)))))]
      refine XS.iload X362.here hx rfl (hb hby at_88) rfl ?_
      show Go p e below t T362 m 90 #[iv i0, iv i1, iv i2, .val (.long i3), .second, .val (.long i4), .second, iv (2 : Int32), iv (nD i1), iv (nW i2), rv b342, .val (.double (FP.dmul (f_v i4 ((nW i2) * (2 : Int32))) (f_v i3 ((nD i1) * (2 : Int32))))), .second] [(.int (2 : Int32)), (.int (nW i2)), (.long i4), (.double (FP.dmul (f_v i4 ((nW i2) * (2 : Int32))) (f_v i3 ((nD i1) * (2 : Int32)))))]
      refine XS.imul X362.here hx rfl (hb hby at_90) rfl ?_
      show Go p e below t T362 m 91 #[iv i0, iv i1, iv i2, .val (.long i3), .second, .val (.long i4), .second, iv (2 : Int32), iv (nD i1), iv (nW i2), rv b342, .val (.double (FP.dmul (f_v i4 ((nW i2) * (2 : Int32))) (f_v i3 ((nD i1) * (2 : Int32))))), .second] [(.int ((nW i2) * (2 : Int32))), (.long i4), (.double (FP.dmul (f_v i4 ((nW i2) * (2 : Int32))) (f_v i3 ((nD i1) * (2 : Int32)))))]
      refine XT.iconstV X362.here hx rfl (1 : Int32) (hb hby at_91) (by decide) ?_
      show Go p e below t T362 m 92 #[iv i0, iv i1, iv i2, .val (.long i3), .second, .val (.long i4), .second, iv (2 : Int32), iv (nD i1), iv (nW i2), rv b342, .val (.double (FP.dmul (f_v i4 ((nW i2) * (2 : Int32))) (f_v i3 ((nD i1) * (2 : Int32))))), .second] [(.int (1 : Int32)), (.int ((nW i2) * (2 : Int32))), (.long i4), (.double (FP.dmul (f_v i4 ((nW i2) * (2 : Int32))) (f_v i3 ((nD i1) * (2 : Int32)))))]
      refine XS.iadd X362.here hx rfl (hb hby at_92) rfl ?_
      show Go p e below t T362 m 93 #[iv i0, iv i1, iv i2, .val (.long i3), .second, .val (.long i4), .second, iv (2 : Int32), iv (nD i1), iv (nW i2), rv b342, .val (.double (FP.dmul (f_v i4 ((nW i2) * (2 : Int32))) (f_v i3 ((nD i1) * (2 : Int32))))), .second] [(.int (((nW i2) * (2 : Int32)) + (1 : Int32))), (.long i4), (.double (FP.dmul (f_v i4 ((nW i2) * (2 : Int32))) (f_v i3 ((nD i1) * (2 : Int32)))))]
      exact k)
    obtain ⟨_, _, ⟨T365, L365, k365, n365⟩, -, X365, ⟨Lc365, hQ365, l365, y365, z365⟩, st365⟩ := Jvm.LawKit.callS X362 hx (y := (⟨"com/example/borrowed_prior/borrowedprior/model/TopicModelTermProbabilityPinLaw", "v", "(JI)D"⟩ : MethodName)) hown (mvT hZ (hw _ (List.mem_of_getElem? (i := 9) rfl))) (mvT hZ (hw _ (List.mem_of_getElem? (i := 10) rfl))) (mvT hZ (hw _ (List.mem_of_getElem? (i := 6) rfl))) (mvT hZ (hw _ (List.mem_of_getElem? (i := 11) rfl))) (by decide) (backOf (W := 2) (rm_v l Z a0 hw [] i4 (((nW i2) * (2 : Int32)) + (1 : Int32))  T356.heap n0 (Nat.le_trans Z0 (Nat.le_trans (Nat.le_trans (Nat.le_trans (Nat.le_trans (Nat.le_refl _) E342.1) R351_0.1) R354_0.1) R356_0.1)) ) hZ (hw _ (List.mem_of_getElem? (i := 11) rfl)) (hw _ (List.mem_of_getElem? (i := 6) rfl)) (by decide) (by decide)) (g := (mkF m 93 #[iv i0, iv i1, iv i2, .val (.long i3), .second, .val (.long i4), .second, iv (2 : Int32), iv (nD i1), iv (nW i2), rv b342, .val (.double (FP.dmul (f_v i4 ((nW i2) * (2 : Int32))) (f_v i3 ((nD i1) * (2 : Int32))))), .second] [(.int (((nW i2) * (2 : Int32)) + (1 : Int32))), (.long i4), (.double (FP.dmul (f_v i4 ((nW i2) * (2 : Int32))) (f_v i3 ((nD i1) * (2 : Int32)))))])) rfl (by rw [hml]; rfl) (argsL := [(.long i4), (.int (((nW i2) * (2 : Int32)) + (1 : Int32)))]) (rest := [(.double (FP.dmul (f_v i4 ((nW i2) * (2 : Int32))) (f_v i3 ((nD i1) * (2 : Int32)))))]) (lenOf pd0 rfl) rfl (by show 2 * 0 + _ ≤ _; exact Nat.le_of_eq rfl) (hb hby at_93) (fun _ _ => ⟨rfl, e362, (by decide : 3 + 0 ≤ _), (by decide : 16 + 0 ≤ _)⟩)
    dsimp only [Pt.U, Pt.locs, Pt.cells, Pt.slots] at X365 l365 y365 z365 st365 hQ365
    subst l365 y365 z365
    obtain ⟨rfl, N365, e365⟩ := hQ365
    have M365 := Fr.app M362 N365
    have g366 : Goes p e below S0 (T365.setTop (mkF m 96 #[iv i0, iv i1, iv i2, .val (.long i3), .second, .val (.long i4), .second, iv (2 : Int32), iv (nD i1), iv (nW i2), rv b342, .val (.double (FP.dmul (f_v i4 ((nW i2) * (2 : Int32))) (f_v i3 ((nD i1) * (2 : Int32))))), .second] [(.double (f_v i4 (((nW i2) * (2 : Int32)) + (1 : Int32)))), (.double (FP.dmul (f_v i4 ((nW i2) * (2 : Int32))) (f_v i3 ((nD i1) * (2 : Int32)))))])) := fun t k => g364 t (st365 t k)
    have g367 : Goes p e below S0 (T365.setTop (mkF m 104 #[iv i0, iv i1, iv i2, .val (.long i3), .second, .val (.long i4), .second, iv (2 : Int32), iv (nD i1), iv (nW i2), rv b342, .val (.double (FP.dmul (f_v i4 ((nW i2) * (2 : Int32))) (f_v i3 ((nD i1) * (2 : Int32))))), .second] [(.int (((nD i1) * (2 : Int32)) + (1 : Int32))), (.long i3), (.double (f_v i4 (((nW i2) * (2 : Int32)) + (1 : Int32)))), (.double (FP.dmul (f_v i4 ((nW i2) * (2 : Int32))) (f_v i3 ((nD i1) * (2 : Int32)))))])) := fun t k => g366 t (by
      refine XS.lloadN X365.here hx rfl (hb hby at_96) rfl ?_
      show Go p e below t T365 m 97 #[iv i0, iv i1, iv i2, .val (.long i3), .second, .val (.long i4), .second, iv (2 : Int32), iv (nD i1), iv (nW i2), rv b342, .val (.double (FP.dmul (f_v i4 ((nW i2) * (2 : Int32))) (f_v i3 ((nD i1) * (2 : Int32))))), .second] [(.long i3), (.double (f_v i4 (((nW i2) * (2 : Int32)) + (1 : Int32)))), (.double (FP.dmul (f_v i4 ((nW i2) * (2 : Int32))) (f_v i3 ((nD i1) * (2 : Int32)))))]
      refine XS.iload X365.here hx rfl (hb hby at_97) rfl ?_
      show Go p e below t T365 m 99 #[iv i0, iv i1, iv i2, .val (.long i3), .second, .val (.long i4), .second, iv (2 : Int32), iv (nD i1), iv (nW i2), rv b342, .val (.double (FP.dmul (f_v i4 ((nW i2) * (2 : Int32))) (f_v i3 ((nD i1) * (2 : Int32))))), .second] [(.int (nD i1)), (.long i3), (.double (f_v i4 (((nW i2) * (2 : Int32)) + (1 : Int32)))), (.double (FP.dmul (f_v i4 ((nW i2) * (2 : Int32))) (f_v i3 ((nD i1) * (2 : Int32)))))]
      refine XS.iload X365.here hx rfl (hb hby at_99) rfl ?_
      show Go p e below t T365 m 101 #[iv i0, iv i1, iv i2, .val (.long i3), .second, .val (.long i4), .second, iv (2 : Int32), iv (nD i1), iv (nW i2), rv b342, .val (.double (FP.dmul (f_v i4 ((nW i2) * (2 : Int32))) (f_v i3 ((nD i1) * (2 : Int32))))), .second] [(.int (2 : Int32)), (.int (nD i1)), (.long i3), (.double (f_v i4 (((nW i2) * (2 : Int32)) + (1 : Int32)))), (.double (FP.dmul (f_v i4 ((nW i2) * (2 : Int32))) (f_v i3 ((nD i1) * (2 : Int32)))))]
      refine XS.imul X365.here hx rfl (hb hby at_101) rfl ?_
      show Go p e below t T365 m 102 #[iv i0, iv i1, iv i2, .val (.long i3), .second, .val (.long i4), .second, iv (2 : Int32), iv (nD i1), iv (nW i2), rv b342, .val (.double (FP.dmul (f_v i4 ((nW i2) * (2 : Int32))) (f_v i3 ((nD i1) * (2 : Int32))))), .second] [(.int ((nD i1) * (2 : Int32))), (.long i3), (.double (f_v i4 (((nW i2) * (2 : Int32)) + (1 : Int32)))), (.double (FP.dmul (f_v i4 ((nW i2) * (2 : Int32))) (f_v i3 ((nD i1) * (2 : Int32)))))]
      refine XT.iconstV X365.here hx rfl (1 : Int32) (hb hby at_102) (by decide) ?_
      show Go p e below t T365 m 103 #[iv i0, iv i1, iv i2, .val (.long i3), .second, .val (.long i4), .second, iv (2 : Int32), iv (nD i1), iv (nW i2), rv b342, .val (.double (FP.dmul (f_v i4 ((nW i2) * (2 : Int32))) (f_v i3 ((nD i1) * (2 : Int32))))), .second] [(.int (1 : Int32)), (.int ((nD i1) * (2 : Int32))), (.long i3), (.double (f_v i4 (((nW i2) * (2 : Int32)) + (1 : Int32)))), (.double (FP.dmul (f_v i4 ((nW i2) * (2 : Int32))) (f_v i3 ((nD i1) * (2 : Int32)))))]
      refine XS.iadd X365.here hx rfl (hb hby at_103) rfl ?_
      show Go p e below t T365 m 104 #[iv i0, iv i1, iv i2, .val (.long i3), .second, .val (.long i4), .second, iv (2 : Int32), iv (nD i1), iv (nW i2), rv b342, .val (.double (FP.dmul (f_v i4 ((nW i2) * (2 : Int32))) (f_v i3 ((nD i1) * (2 : Int32))))), .second] [(.int (((nD i1) * (2 : Int32)) + (1 : Int32))), (.long i3), (.double (f_v i4 (((nW i2) * (2 : Int32)) + (1 : Int32)))), (.double (FP.dmul (f_v i4 ((nW i2) * (2 : Int32))) (f_v i3 ((nD i1) * (2 : Int32)))))]
      exact k)
    obtain ⟨_, _, ⟨T368, L368, k368, n368⟩, -, X368, ⟨Lc368, hQ368, l368, y368, z368⟩, st368⟩ := Jvm.LawKit.callS X365 hx (y := (⟨"com/example/borrowed_prior/borrowedprior/model/TopicModelTermProbabilityPinLaw", "v", "(JI)D"⟩ : MethodName)) hown (mvT hZ (hw _ (List.mem_of_getElem? (i := 9) rfl))) (mvT hZ (hw _ (List.mem_of_getElem? (i := 10) rfl))) (mvT hZ (hw _ (List.mem_of_getElem? (i := 6) rfl))) (mvT hZ (hw _ (List.mem_of_getElem? (i := 11) rfl))) (by decide) (backOf (W := 4) (rm_v l Z a0 hw [] i3 (((nD i1) * (2 : Int32)) + (1 : Int32))  T356.heap n0 (Nat.le_trans Z0 (Nat.le_trans (Nat.le_trans (Nat.le_trans (Nat.le_trans (Nat.le_refl _) E342.1) R351_0.1) R354_0.1) R356_0.1)) ) hZ (hw _ (List.mem_of_getElem? (i := 11) rfl)) (hw _ (List.mem_of_getElem? (i := 6) rfl)) (by decide) (by decide)) (g := (mkF m 104 #[iv i0, iv i1, iv i2, .val (.long i3), .second, .val (.long i4), .second, iv (2 : Int32), iv (nD i1), iv (nW i2), rv b342, .val (.double (FP.dmul (f_v i4 ((nW i2) * (2 : Int32))) (f_v i3 ((nD i1) * (2 : Int32))))), .second] [(.int (((nD i1) * (2 : Int32)) + (1 : Int32))), (.long i3), (.double (f_v i4 (((nW i2) * (2 : Int32)) + (1 : Int32)))), (.double (FP.dmul (f_v i4 ((nW i2) * (2 : Int32))) (f_v i3 ((nD i1) * (2 : Int32)))))])) rfl (by rw [hml]; rfl) (argsL := [(.long i3), (.int (((nD i1) * (2 : Int32)) + (1 : Int32)))]) (rest := [(.double (f_v i4 (((nW i2) * (2 : Int32)) + (1 : Int32)))), (.double (FP.dmul (f_v i4 ((nW i2) * (2 : Int32))) (f_v i3 ((nD i1) * (2 : Int32)))))]) (lenOf pd0 rfl) rfl (by show 2 * 0 + _ ≤ _; exact Nat.le_of_eq rfl) (hb hby at_104) (fun _ _ => ⟨rfl, e365, (by decide : 3 + 0 ≤ _), (by decide : 16 + 0 ≤ _)⟩)
    dsimp only [Pt.U, Pt.locs, Pt.cells, Pt.slots] at X368 l368 y368 z368 st368 hQ368
    subst l368 y368 z368
    obtain ⟨rfl, N368, e368⟩ := hQ368
    have M368 := Fr.app M365 N368
    have g369 : Goes p e below S0 (T368.setTop (mkF m 107 #[iv i0, iv i1, iv i2, .val (.long i3), .second, .val (.long i4), .second, iv (2 : Int32), iv (nD i1), iv (nW i2), rv b342, .val (.double (FP.dmul (f_v i4 ((nW i2) * (2 : Int32))) (f_v i3 ((nD i1) * (2 : Int32))))), .second] [(.double (f_v i3 (((nD i1) * (2 : Int32)) + (1 : Int32)))), (.double (f_v i4 (((nW i2) * (2 : Int32)) + (1 : Int32)))), (.double (FP.dmul (f_v i4 ((nW i2) * (2 : Int32))) (f_v i3 ((nD i1) * (2 : Int32)))))])) := fun t k => g367 t (st368 t k)
    have g370 : Goes p e below S0 (T368.setTop (mkF m 152 #[iv i0, iv i1, iv i2, .val (.long i3), .second, .val (.long i4), .second, iv (2 : Int32), iv (nD i1), iv (nW i2), rv b342, .val (.double (FP.dadd (FP.dmul (f_v i4 ((nW i2) * (2 : Int32))) (f_v i3 ((nD i1) * (2 : Int32)))) (FP.dmul (f_v i4 (((nW i2) * (2 : Int32)) + (1 : Int32))) (f_v i3 (((nD i1) * (2 : Int32)) + (1 : Int32)))))), .second] [(.int (nW i2)), (.int (nD i1)), (.ref b342)])) := fun t k => g369 t (by
      refine XS.dmulS X368.here hx rfl (hb hby at_107) rfl (Pr.nn (Pr.mul (own_nib _ _) (own_nib _ _))) rfl ?_
      show Go p e below t T368 m 108 #[iv i0, iv i1, iv i2, .val (.long i3), .second, .val (.long i4), .second, iv (2 : Int32), iv (nD i1), iv (nW i2), rv b342, .val (.double (FP.dmul (f_v i4 ((nW i2) * (2 : Int32))) (f_v i3 ((nD i1) * (2 : Int32))))), .second] [(.double (FP.dmul (f_v i4 (((nW i2) * (2 : Int32)) + (1 : Int32))) (f_v i3 (((nD i1) * (2 : Int32)) + (1 : Int32))))), (.double (FP.dmul (f_v i4 ((nW i2) * (2 : Int32))) (f_v i3 ((nD i1) * (2 : Int32)))))]
      refine XS.daddS X368.here hx rfl (hb hby at_108) rfl (Pr.nn (Pr.add (Pr.mul (own_nib _ _) (own_nib _ _)) (Pr.mul (own_nib _ _) (own_nib _ _)) (by decide))) rfl ?_
      show Go p e below t T368 m 109 #[iv i0, iv i1, iv i2, .val (.long i3), .second, .val (.long i4), .second, iv (2 : Int32), iv (nD i1), iv (nW i2), rv b342, .val (.double (FP.dmul (f_v i4 ((nW i2) * (2 : Int32))) (f_v i3 ((nD i1) * (2 : Int32))))), .second] [(.double (FP.dadd (FP.dmul (f_v i4 ((nW i2) * (2 : Int32))) (f_v i3 ((nD i1) * (2 : Int32)))) (FP.dmul (f_v i4 (((nW i2) * (2 : Int32)) + (1 : Int32))) (f_v i3 (((nD i1) * (2 : Int32)) + (1 : Int32))))))]
      refine XS.dstore X368.here hx rfl (hb hby at_109) rfl (l' := #[iv i0, iv i1, iv i2, .val (.long i3), .second, .val (.long i4), .second, iv (2 : Int32), iv (nD i1), iv (nW i2), rv b342, .val (.double (FP.dadd (FP.dmul (f_v i4 ((nW i2) * (2 : Int32))) (f_v i3 ((nD i1) * (2 : Int32)))) (FP.dmul (f_v i4 (((nW i2) * (2 : Int32)) + (1 : Int32))) (f_v i3 (((nD i1) * (2 : Int32)) + (1 : Int32)))))), .second]) rfl ?_
      show Go p e below t T368 m 111 #[iv i0, iv i1, iv i2, .val (.long i3), .second, .val (.long i4), .second, iv (2 : Int32), iv (nD i1), iv (nW i2), rv b342, .val (.double (FP.dadd (FP.dmul (f_v i4 ((nW i2) * (2 : Int32))) (f_v i3 ((nD i1) * (2 : Int32)))) (FP.dmul (f_v i4 (((nW i2) * (2 : Int32)) + (1 : Int32))) (f_v i3 (((nD i1) * (2 : Int32)) + (1 : Int32)))))), .second] []
      refine XS.iload X368.here hx rfl (hb hby at_111) rfl ?_
      show Go p e below t T368 m 113 #[iv i0, iv i1, iv i2, .val (.long i3), .second, .val (.long i4), .second, iv (2 : Int32), iv (nD i1), iv (nW i2), rv b342, .val (.double (FP.dadd (FP.dmul (f_v i4 ((nW i2) * (2 : Int32))) (f_v i3 ((nD i1) * (2 : Int32)))) (FP.dmul (f_v i4 (((nW i2) * (2 : Int32)) + (1 : Int32))) (f_v i3 (((nD i1) * (2 : Int32)) + (1 : Int32)))))), .second] [(.int (2 : Int32))]
      refine XT.iconstV X368.here hx rfl (3 : Int32) (hb hby at_113) (by decide) ?_
      show Go p e below t T368 m 114 #[iv i0, iv i1, iv i2, .val (.long i3), .second, .val (.long i4), .second, iv (2 : Int32), iv (nD i1), iv (nW i2), rv b342, .val (.double (FP.dadd (FP.dmul (f_v i4 ((nW i2) * (2 : Int32))) (f_v i3 ((nD i1) * (2 : Int32)))) (FP.dmul (f_v i4 (((nW i2) * (2 : Int32)) + (1 : Int32))) (f_v i3 (((nD i1) * (2 : Int32)) + (1 : Int32)))))), .second] [(.int (3 : Int32)), (.int (2 : Int32))]
      refine XS.icmpYes X368.here hx rfl (pc0 := 114) (pc' := 146) rfl (hb hby at_114) rfl (XT.ii_lt_t (by decide)) (by decide) (by decide) ?_
      show Go p e below t T368 m 146 #[iv i0, iv i1, iv i2, .val (.long i3), .second, .val (.long i4), .second, iv (2 : Int32), iv (nD i1), iv (nW i2), rv b342, .val (.double (FP.dadd (FP.dmul (f_v i4 ((nW i2) * (2 : Int32))) (f_v i3 ((nD i1) * (2 : Int32)))) (FP.dmul (f_v i4 (((nW i2) * (2 : Int32)) + (1 : Int32))) (f_v i3 (((nD i1) * (2 : Int32)) + (1 : Int32)))))), .second] []
      refine XS.aload X368.here hx rfl (hb hby at_146) rfl rfl ?_
      show Go p e below t T368 m 148 #[iv i0, iv i1, iv i2, .val (.long i3), .second, .val (.long i4), .second, iv (2 : Int32), iv (nD i1), iv (nW i2), rv b342, .val (.double (FP.dadd (FP.dmul (f_v i4 ((nW i2) * (2 : Int32))) (f_v i3 ((nD i1) * (2 : Int32)))) (FP.dmul (f_v i4 (((nW i2) * (2 : Int32)) + (1 : Int32))) (f_v i3 (((nD i1) * (2 : Int32)) + (1 : Int32)))))), .second] [(.ref b342)]
      refine XS.iload X368.here hx rfl (hb hby at_148) rfl ?_
      show Go p e below t T368 m 150 #[iv i0, iv i1, iv i2, .val (.long i3), .second, .val (.long i4), .second, iv (2 : Int32), iv (nD i1), iv (nW i2), rv b342, .val (.double (FP.dadd (FP.dmul (f_v i4 ((nW i2) * (2 : Int32))) (f_v i3 ((nD i1) * (2 : Int32)))) (FP.dmul (f_v i4 (((nW i2) * (2 : Int32)) + (1 : Int32))) (f_v i3 (((nD i1) * (2 : Int32)) + (1 : Int32)))))), .second] [(.int (nD i1)), (.ref b342)]
      refine XS.iload X368.here hx rfl (hb hby at_150) rfl ?_
      show Go p e below t T368 m 152 #[iv i0, iv i1, iv i2, .val (.long i3), .second, .val (.long i4), .second, iv (2 : Int32), iv (nD i1), iv (nW i2), rv b342, .val (.double (FP.dadd (FP.dmul (f_v i4 ((nW i2) * (2 : Int32))) (f_v i3 ((nD i1) * (2 : Int32)))) (FP.dmul (f_v i4 (((nW i2) * (2 : Int32)) + (1 : Int32))) (f_v i3 (((nD i1) * (2 : Int32)) + (1 : Int32)))))), .second] [(.int (nW i2)), (.int (nD i1)), (.ref b342)]
      exact k)
    obtain ⟨cq371, kq371, q371a, q371b, q371c⟩ := isOf hZ e368 R356_1
    obtain ⟨_, _, ⟨T371, L371, k371, n371⟩, -, X371, ⟨Lc371, hQ371, l371, y371, z371⟩, st371⟩ := X368.virtualBack hx (y := (⟨"com/example/borrowed_prior/borrowedprior/model/TopicModel", "termProbability", "(II)D"⟩ : MethodName)) (z := (⟨"com/example/borrowed_prior/borrowedprior/model/TopicModel", "termProbability", "(II)D"⟩ : MethodName)) hown (mvT hZ (hw _ (List.mem_of_getElem? (i := 35) rfl))) (mvT hZ (hw _ (List.mem_of_getElem? (i := 36) rfl))) (notFace_of_selects (args := #[]) (mvT hZ (hw _ (List.mem_of_getElem? (i := 38) rfl)))) (mvT hZ (hw _ (List.mem_of_getElem? (i := 38) rfl))) (mvT hZ (hw _ (List.mem_of_getElem? (i := 37) rfl))) (by decide) (backOf (W := 0) (rm_tp2 l Z a0 hw [] b342 (nD i1) (nW i2) ra_354 ra_351 rk_354 (4 : Int32) [(.double (f_v i4 (0 : Int32))), (.double (f_v i4 (1 : Int32))), (.double (f_v i4 (2 : Int32))), (.double (f_v i4 (3 : Int32)))] (.double (0 : UInt64)) rk_351 (6 : Int32) [(.double (f_v i3 (0 : Int32))), (.double (f_v i3 (1 : Int32))), (.double (f_v i3 (2 : Int32))), (.double (f_v i3 (3 : Int32))), (.double (f_v i3 (4 : Int32))), (.double (f_v i3 (5 : Int32)))] (.double (0 : UInt64)) (f_v i4 ((nW i2) * (2 : Int32))) (f_v i4 (((nW i2) * (2 : Int32)) + (1 : Int32))) (f_v i3 ((nD i1) * (2 : Int32))) (f_v i3 (((nD i1) * (2 : Int32)) + (1 : Int32))) T356.heap n0 (Nat.le_trans Z0 (Nat.le_trans (Nat.le_trans (Nat.le_trans (Nat.le_trans (Nat.le_refl _) E342.1) R351_0.1) R354_0.1) R356_0.1)) R356_2 R356_7 R356_6 (R354_1.keep R356_0 (ninS (Ne.symm (Nat.ne_of_lt (Nat.lt_of_lt_of_le (A342.keep R351_0).lt R354_2))) nin0)) ((R351_1.keep R354_0 nin0).keep R356_0 (ninS (Ne.symm (Nat.ne_of_lt (Nat.lt_of_lt_of_le A342.lt R351_2))) nin0)) (own_ia2_0 i2) (own_ea2_0 i2 i4) (own_ib2_0 i1) (own_eb2_0 i1 i3) (own_nib _ _) (own_nib _ _) (own_ia2_1 i2) (own_ea2_1 i2 i4) (own_ib2_1 i1) (own_eb2_1 i1 i3) (own_nib _ _) (own_nib _ _)) hZ (hw _ (List.mem_of_getElem? (i := 39) rfl)) (hw _ (List.mem_of_getElem? (i := 3) rfl)) (by decide) (by decide)) q371a q371c (g := (mkF m 152 #[iv i0, iv i1, iv i2, .val (.long i3), .second, .val (.long i4), .second, iv (2 : Int32), iv (nD i1), iv (nW i2), rv b342, .val (.double (FP.dadd (FP.dmul (f_v i4 ((nW i2) * (2 : Int32))) (f_v i3 ((nD i1) * (2 : Int32)))) (FP.dmul (f_v i4 (((nW i2) * (2 : Int32)) + (1 : Int32))) (f_v i3 (((nD i1) * (2 : Int32)) + (1 : Int32)))))), .second] [(.int (nW i2)), (.int (nD i1)), (.ref b342)])) rfl (by rw [hml]; rfl) (Steps.refl _) (argsL := [(.int (nD i1)), (.int (nW i2))]) (rest := []) (lenOf pd4 rfl) rfl (by show 2 * 0 + _ ≤ _; exact Nat.le_of_eq rfl) (hb hby at_152) (fun _ _ => ⟨rfl, e368, (by decide : 3 + 0 ≤ _), (by decide : 16 + 0 ≤ _)⟩)
    dsimp only [Pt.U, Pt.locs, Pt.cells, Pt.slots] at X371 l371 y371 z371 st371 hQ371
    subst l371 y371 z371
    obtain ⟨rfl, N371, R371_0⟩ := hQ371
    have M371 := Fr.app M368 N371
    have g372 : Goes p e below S0 (T371.setTop (mkF m 155 #[iv i0, iv i1, iv i2, .val (.long i3), .second, .val (.long i4), .second, iv (2 : Int32), iv (nD i1), iv (nW i2), rv b342, .val (.double (FP.dadd (FP.dmul (f_v i4 ((nW i2) * (2 : Int32))) (f_v i3 ((nD i1) * (2 : Int32)))) (FP.dmul (f_v i4 (((nW i2) * (2 : Int32)) + (1 : Int32))) (f_v i3 (((nD i1) * (2 : Int32)) + (1 : Int32)))))), .second] [(.double (FP.dadd (FP.dadd (0 : UInt64) (FP.dmul (f_v i4 ((nW i2) * (2 : Int32))) (f_v i3 ((nD i1) * (2 : Int32))))) (FP.dmul (f_v i4 (((nW i2) * (2 : Int32)) + (1 : Int32))) (f_v i3 (((nD i1) * (2 : Int32)) + (1 : Int32))))))])) := fun t k => g370 t (st371.trans k)
    have g373 : Goes p e below S0 (T371.setTop (mkF m 166 #[iv i0, iv i1, iv i2, .val (.long i3), .second, .val (.long i4), .second, iv (2 : Int32), iv (nD i1), iv (nW i2), rv b342, .val (.double (FP.dadd (FP.dmul (f_v i4 ((nW i2) * (2 : Int32))) (f_v i3 ((nD i1) * (2 : Int32)))) (FP.dmul (f_v i4 (((nW i2) * (2 : Int32)) + (1 : Int32))) (f_v i3 (((nD i1) * (2 : Int32)) + (1 : Int32)))))), .second] [(.int (1 : Int32))])) := fun t k => g372 t (by
      refine XS.dload X371.here hx rfl (hb hby at_155) rfl ?_
      show Go p e below t T371 m 157 #[iv i0, iv i1, iv i2, .val (.long i3), .second, .val (.long i4), .second, iv (2 : Int32), iv (nD i1), iv (nW i2), rv b342, .val (.double (FP.dadd (FP.dmul (f_v i4 ((nW i2) * (2 : Int32))) (f_v i3 ((nD i1) * (2 : Int32)))) (FP.dmul (f_v i4 (((nW i2) * (2 : Int32)) + (1 : Int32))) (f_v i3 (((nD i1) * (2 : Int32)) + (1 : Int32)))))), .second] [(.double (FP.dadd (FP.dmul (f_v i4 ((nW i2) * (2 : Int32))) (f_v i3 ((nD i1) * (2 : Int32)))) (FP.dmul (f_v i4 (((nW i2) * (2 : Int32)) + (1 : Int32))) (f_v i3 (((nD i1) * (2 : Int32)) + (1 : Int32)))))), (.double (FP.dadd (FP.dadd (0 : UInt64) (FP.dmul (f_v i4 ((nW i2) * (2 : Int32))) (f_v i3 ((nD i1) * (2 : Int32))))) (FP.dmul (f_v i4 (((nW i2) * (2 : Int32)) + (1 : Int32))) (f_v i3 (((nD i1) * (2 : Int32)) + (1 : Int32))))))]
      refine XS.dcmpS X371.here hx rfl (hb hby at_157) rfl rfl ?_
      show Go p e below t T371 m 158 #[iv i0, iv i1, iv i2, .val (.long i3), .second, .val (.long i4), .second, iv (2 : Int32), iv (nD i1), iv (nW i2), rv b342, .val (.double (FP.dadd (FP.dmul (f_v i4 ((nW i2) * (2 : Int32))) (f_v i3 ((nD i1) * (2 : Int32)))) (FP.dmul (f_v i4 (((nW i2) * (2 : Int32)) + (1 : Int32))) (f_v i3 (((nD i1) * (2 : Int32)) + (1 : Int32)))))), .second] [(.int (cmpValue (FP.dcmp (FP.dadd (FP.dadd (0 : UInt64) (FP.dmul (f_v i4 ((nW i2) * (2 : Int32))) (f_v i3 ((nD i1) * (2 : Int32))))) (FP.dmul (f_v i4 (((nW i2) * (2 : Int32)) + (1 : Int32))) (f_v i3 (((nD i1) * (2 : Int32)) + (1 : Int32))))) (FP.dadd (FP.dmul (f_v i4 ((nW i2) * (2 : Int32))) (f_v i3 ((nD i1) * (2 : Int32)))) (FP.dmul (f_v i4 (((nW i2) * (2 : Int32)) + (1 : Int32))) (f_v i3 (((nD i1) * (2 : Int32)) + (1 : Int32)))))) .l))]
      refine XS.ifNo X371.here hx rfl (hb hby at_158) rfl (dc_l_ne_f (own_k2e (own_nib _ _) (own_nib _ _) (own_nib _ _) (own_nib _ _))) ?_
      show Go p e below t T371 m 161 #[iv i0, iv i1, iv i2, .val (.long i3), .second, .val (.long i4), .second, iv (2 : Int32), iv (nD i1), iv (nW i2), rv b342, .val (.double (FP.dadd (FP.dmul (f_v i4 ((nW i2) * (2 : Int32))) (f_v i3 ((nD i1) * (2 : Int32)))) (FP.dmul (f_v i4 (((nW i2) * (2 : Int32)) + (1 : Int32))) (f_v i3 (((nD i1) * (2 : Int32)) + (1 : Int32)))))), .second] []
      refine XT.iconstV X371.here hx rfl (1 : Int32) (hb hby at_161) (by decide) ?_
      show Go p e below t T371 m 162 #[iv i0, iv i1, iv i2, .val (.long i3), .second, .val (.long i4), .second, iv (2 : Int32), iv (nD i1), iv (nW i2), rv b342, .val (.double (FP.dadd (FP.dmul (f_v i4 ((nW i2) * (2 : Int32))) (f_v i3 ((nD i1) * (2 : Int32)))) (FP.dmul (f_v i4 (((nW i2) * (2 : Int32)) + (1 : Int32))) (f_v i3 (((nD i1) * (2 : Int32)) + (1 : Int32)))))), .second] [(.int (1 : Int32))]
      refine XS.goto X371.here hx rfl (pc0 := 162) (pc' := 166) rfl (hb hby at_162) (by decide) (by decide) ?_
      show Go p e below t T371 m 166 #[iv i0, iv i1, iv i2, .val (.long i3), .second, .val (.long i4), .second, iv (2 : Int32), iv (nD i1), iv (nW i2), rv b342, .val (.double (FP.dadd (FP.dmul (f_v i4 ((nW i2) * (2 : Int32))) (f_v i3 ((nD i1) * (2 : Int32)))) (FP.dmul (f_v i4 (((nW i2) * (2 : Int32)) + (1 : Int32))) (f_v i3 (((nD i1) * (2 : Int32)) + (1 : Int32)))))), .second] [(.int (1 : Int32))]
      exact k)
    obtain ⟨fs, hr, hrun, hended, hW, hsame⟩ := X371.leave (v := some (.int (1 : Int32))) (fun h => by rw [Bd.returns] at h; cases h)
    refine ⟨_, _, g373 _ (retN X371 hx (t := .boolean) Bd.returns (by simp) (hb hby at_166) hr), hrun, hended, _, _, rfl, ?_, ⟨_, rfl⟩, hW, hsame.mono (by decide) (by decide)⟩
    show Q_law Z i0 i1 i2 i3 i4  h0 n0 _ T371.heap _
    rw [R371_0]
    exact ⟨rfl, M371⟩
  · skip
    have g374 : Goes p e below S0 (s₁.setTop (mkF m 23 #[iv i0, iv i1, iv i2, .val (.long i3), .second, .val (.long i4), .second, iv (3 : Int32), iv (nD i1), iv (nW i2), .unset, .unset, .unset] [])) := fun t k => g313 t (by
      refine XS.iloadN X0.here hx rfl (hb hby at_10) rfl ?_
      show Go p e below t s₁ m 11 #[iv i0, iv i1, iv i2, .val (.long i3), .second, .val (.long i4), .second, iv (3 : Int32), .unset, .unset, .unset, .unset, .unset] [(.int i1)]
      refine Jvm.Stand.ldcI X0 hx hown (mvT hZ (hw _ (List.mem_of_getElem? (i := 0) rfl))) (g := (mkF m 11 #[iv i0, iv i1, iv i2, .val (.long i3), .second, .val (.long i4), .second, iv (3 : Int32), .unset, .unset, .unset, .unset, .unset] [(.int i1)])) rfl (hb hby at_11) ?_
      show Go p e below t s₁ m 13 #[iv i0, iv i1, iv i2, .val (.long i3), .second, .val (.long i4), .second, iv (3 : Int32), .unset, .unset, .unset, .unset, .unset] [(.int (2147483647 : Int32)), (.int i1)]
      refine XS.iand X0.here hx rfl (hb hby at_13) rfl ?_
      show Go p e below t s₁ m 14 #[iv i0, iv i1, iv i2, .val (.long i3), .second, .val (.long i4), .second, iv (3 : Int32), .unset, .unset, .unset, .unset, .unset] [(.int (i1 &&& (2147483647 : Int32)))]
      refine XT.iconstV X0.here hx rfl (3 : Int32) (hb hby at_14) (by decide) ?_
      show Go p e below t s₁ m 15 #[iv i0, iv i1, iv i2, .val (.long i3), .second, .val (.long i4), .second, iv (3 : Int32), .unset, .unset, .unset, .unset, .unset] [(.int (3 : Int32)), (.int (i1 &&& (2147483647 : Int32)))]
      refine iremM X0 hx rfl (hb hby at_15) rfl (by decide) ?_
      show Go p e below t s₁ m 16 #[iv i0, iv i1, iv i2, .val (.long i3), .second, .val (.long i4), .second, iv (3 : Int32), .unset, .unset, .unset, .unset, .unset] [(.int ((i1 &&& (2147483647 : Int32)) % (3 : Int32)))]
      refine XS.istore X0.here hx rfl (hb hby at_16) rfl (l' := #[iv i0, iv i1, iv i2, .val (.long i3), .second, .val (.long i4), .second, iv (3 : Int32), iv (nD i1), .unset, .unset, .unset, .unset]) rfl ?_
      show Go p e below t s₁ m 18 #[iv i0, iv i1, iv i2, .val (.long i3), .second, .val (.long i4), .second, iv (3 : Int32), iv (nD i1), .unset, .unset, .unset, .unset] []
      refine XS.iloadN X0.here hx rfl (hb hby at_18) rfl ?_
      show Go p e below t s₁ m 19 #[iv i0, iv i1, iv i2, .val (.long i3), .second, .val (.long i4), .second, iv (3 : Int32), iv (nD i1), .unset, .unset, .unset, .unset] [(.int i2)]
      refine XT.iconstV X0.here hx rfl (1 : Int32) (hb hby at_19) (by decide) ?_
      show Go p e below t s₁ m 20 #[iv i0, iv i1, iv i2, .val (.long i3), .second, .val (.long i4), .second, iv (3 : Int32), iv (nD i1), .unset, .unset, .unset, .unset] [(.int (1 : Int32)), (.int i2)]
      refine XS.iand X0.here hx rfl (hb hby at_20) rfl ?_
      show Go p e below t s₁ m 21 #[iv i0, iv i1, iv i2, .val (.long i3), .second, .val (.long i4), .second, iv (3 : Int32), iv (nD i1), .unset, .unset, .unset, .unset] [(.int (i2 &&& (1 : Int32)))]
      refine XS.istore X0.here hx rfl (hb hby at_21) rfl (l' := #[iv i0, iv i1, iv i2, .val (.long i3), .second, .val (.long i4), .second, iv (3 : Int32), iv (nD i1), iv (nW i2), .unset, .unset, .unset]) rfl ?_
      show Go p e below t s₁ m 23 #[iv i0, iv i1, iv i2, .val (.long i3), .second, .val (.long i4), .second, iv (3 : Int32), iv (nD i1), iv (nW i2), .unset, .unset, .unset] []
      exact k)
    obtain ⟨T375, h375, X375, e375, E375, A375, D375, -, st375⟩ := newO X0 hx hZ hown (hw _ (List.mem_of_getElem? (i := 1) rfl)) (hw _ (List.mem_of_getElem? (i := 2) rfl)) (hw _ (List.mem_of_getElem? (i := 3) rfl)) e0 (g := (mkF m 23 #[iv i0, iv i1, iv i2, .val (.long i3), .second, .val (.long i4), .second, iv (3 : Int32), iv (nD i1), iv (nW i2), .unset, .unset, .unset] [])) rfl (hb hby at_23) (by decide) (by decide)
    obtain ⟨b375, gb375⟩ : ∃ z, z = h0.size := ⟨_, rfl⟩
    have sz375 : h0.size ≤ b375 := Nat.le_trans (Nat.le_refl _) (Nat.le_of_eq gb375.symm)
    have ng375 : n0 ≤ b375 := Nat.le_trans Z0 sz375
    rw [← gb375] at A375 D375 st375
    have F375_376 : Fld Z h375 b375 "com/example/borrowed_prior/borrowedprior/model/TopicModel" "topicCount" "I" (.int (0 : Int32)) := D375 (Or.inr (hw _ (List.mem_of_getElem? (i := 24) rfl))) (ty := .int) (by decide)
    have F375_377 : Fld Z h375 b375 "com/example/borrowed_prior/borrowedprior/model/TopicModel" "documentCount" "I" (.int (0 : Int32)) := D375 (Or.inr (hw _ (List.mem_of_getElem? (i := 26) rfl))) (ty := .int) (by decide)
    have F375_378 : Fld Z h375 b375 "com/example/borrowed_prior/borrowedprior/model/TopicModel" "termCount" "I" (.int (0 : Int32)) := D375 (Or.inr (hw _ (List.mem_of_getElem? (i := 28) rfl))) (ty := .int) (by decide)
    have F375_379 : Fld Z h375 b375 "com/example/borrowed_prior/borrowedprior/model/TopicModel" "tokenCount" "J" (.long (0 : Int64)) := D375 (Or.inr (hw _ (List.mem_of_getElem? (i := 30) rfl))) (ty := .long) (by decide)
    have F375_380 : Fld Z h375 b375 "com/example/borrowed_prior/borrowedprior/model/TopicModel" "documentTopics" "[D" .null := D375 (Or.inr (hw _ (List.mem_of_getElem? (i := 32) rfl))) (ty := (.array .double)) (by decide)
    have F375_381 : Fld Z h375 b375 "com/example/borrowed_prior/borrowedprior/model/TopicModel" "termTopics" "[D" .null := D375 (Or.inr (hw _ (List.mem_of_getElem? (i := 34) rfl))) (ty := (.array .double)) (by decide)
    have g382 : Goes p e below S0 (T375.setTop (mkF m 26 #[iv i0, iv i1, iv i2, .val (.long i3), .second, .val (.long i4), .second, iv (3 : Int32), iv (nD i1), iv (nW i2), .unset, .unset, .unset] [(.ref b375)])) := fun t k => g374 t (st375 t k)
    have g383 : Goes p e below S0 (T375.setTop (mkF m 37 #[iv i0, iv i1, iv i2, .val (.long i3), .second, .val (.long i4), .second, iv (3 : Int32), iv (nD i1), iv (nW i2), .unset, .unset, .unset] [(.int (9 : Int32)), (.long i3), (.long (0 : Int64)), (.int (2 : Int32)), (.int (3 : Int32)), (.int (3 : Int32)), (.ref b375), (.ref b375)])) := fun t k => g382 t (by
      refine XS.dup X375.here hx rfl (hb hby at_26) rfl rfl ?_
      show Go p e below t T375 m 27 #[iv i0, iv i1, iv i2, .val (.long i3), .second, .val (.long i4), .second, iv (3 : Int32), iv (nD i1), iv (nW i2), .unset, .unset, .unset] [(.ref b375), (.ref b375)]
      refine XS.iload X375.here hx rfl (hb hby at_27) rfl ?_
      show Go p e below t T375 m 29 #[iv i0, iv i1, iv i2, .val (.long i3), .second, .val (.long i4), .second, iv (3 : Int32), iv (nD i1), iv (nW i2), .unset, .unset, .unset] [(.int (3 : Int32)), (.ref b375), (.ref b375)]
      refine XT.iconstV X375.here hx rfl (3 : Int32) (hb hby at_29) (by decide) ?_
      show Go p e below t T375 m 30 #[iv i0, iv i1, iv i2, .val (.long i3), .second, .val (.long i4), .second, iv (3 : Int32), iv (nD i1), iv (nW i2), .unset, .unset, .unset] [(.int (3 : Int32)), (.int (3 : Int32)), (.ref b375), (.ref b375)]
      refine XT.iconstV X375.here hx rfl (2 : Int32) (hb hby at_30) (by decide) ?_
      show Go p e below t T375 m 31 #[iv i0, iv i1, iv i2, .val (.long i3), .second, .val (.long i4), .second, iv (3 : Int32), iv (nD i1), iv (nW i2), .unset, .unset, .unset] [(.int (2 : Int32)), (.int (3 : Int32)), (.int (3 : Int32)), (.ref b375), (.ref b375)]
      refine XT.lconstV X375.here hx rfl (0 : Int64) (hb hby at_31) (by decide) ?_
      show Go p e below t T375 m 32 #[iv i0, iv i1, iv i2, .val (.long i3), .second, .val (.long i4), .second, iv (3 : Int32), iv (nD i1), iv (nW i2), .unset, .unset, .unset] [(.long (0 : Int64)), (.int (2 : Int32)), (.int (3 : Int32)), (.int (3 : Int32)), (.ref b375), (.ref b375)]
      refine XS.lloadN X375.here hx rfl (hb hby at_32) rfl ?_
      show Go p e below t T375 m 33 #[iv i0, iv i1, iv i2, .val (.long i3), .second, .val (.long i4), .second, iv (3 : Int32), iv (nD i1), iv (nW i2), .unset, .unset, .unset] [(.long i3), (.long (0 : Int64)), (.int (2 : Int32)), (.int (3 : Int32)), (.int (3 : Int32)), (.ref b375), (.ref b375)]
      refine XT.iconstV X375.here hx rfl (3 : Int32) (hb hby at_33) (by decide) ?_
      show Go p e below t T375 m 34 #[iv i0, iv i1, iv i2, .val (.long i3), .second, .val (.long i4), .second, iv (3 : Int32), iv (nD i1), iv (nW i2), .unset, .unset, .unset] [(.int (3 : Int32)), (.long i3), (.long (0 : Int64)), (.int (2 : Int32)), (.int (3 : Int32)), (.int (3 : Int32)), (.ref b375), (.ref b375)]
      refine XS.iload X375.here hx rfl (hb hby at_34) rfl ?_
      show Go p e below t T375 m 36 #[iv i0, iv i1, iv i2, .val (.long i3), .second, .val (.long i4), .second, iv (3 : Int32), iv (nD i1), iv (nW i2), .unset, .unset, .unset] [(.int (3 : Int32)), (.int (3 : Int32)), (.long i3), (.long (0 : Int64)), (.int (2 : Int32)), (.int (3 : Int32)), (.int (3 : Int32)), (.ref b375), (.ref b375)]
      refine XS.imul X375.here hx rfl (hb hby at_36) rfl ?_
      rw [show ((3 : Int32) * (3 : Int32)) = (9 : Int32) by decide]
      show Go p e below t T375 m 37 #[iv i0, iv i1, iv i2, .val (.long i3), .second, .val (.long i4), .second, iv (3 : Int32), iv (nD i1), iv (nW i2), .unset, .unset, .unset] [(.int (9 : Int32)), (.long i3), (.long (0 : Int64)), (.int (2 : Int32)), (.int (3 : Int32)), (.int (3 : Int32)), (.ref b375), (.ref b375)]
      exact k)
    obtain ⟨_, _, ⟨T384, L384, k384, n384⟩, -, X384, ⟨Lc384, hQ384, l384, y384, z384⟩, st384⟩ := Jvm.LawKit.callS X375 hx (y := (⟨"com/example/borrowed_prior/borrowedprior/model/TopicModelTermProbabilityPinLaw", "draw", "(JI)[D"⟩ : MethodName)) hown (mvT hZ (hw _ (List.mem_of_getElem? (i := 4) rfl))) (mvT hZ (hw _ (List.mem_of_getElem? (i := 5) rfl))) (mvT hZ (hw _ (List.mem_of_getElem? (i := 6) rfl))) (mvT hZ (hw _ (List.mem_of_getElem? (i := 7) rfl))) (by decide) (backOf (W := 7) (rm_dr9 l Z a0 hw [] i3 (9 : Int32)  h375 n0 (Nat.le_trans Z0 (Nat.le_trans (Nat.le_refl _) E375.1)) rfl) hZ (hw _ (List.mem_of_getElem? (i := 7) rfl)) (hw _ (List.mem_of_getElem? (i := 6) rfl)) (by decide) (by decide)) (g := (mkF m 37 #[iv i0, iv i1, iv i2, .val (.long i3), .second, .val (.long i4), .second, iv (3 : Int32), iv (nD i1), iv (nW i2), .unset, .unset, .unset] [(.int (9 : Int32)), (.long i3), (.long (0 : Int64)), (.int (2 : Int32)), (.int (3 : Int32)), (.int (3 : Int32)), (.ref b375), (.ref b375)])) rfl (by rw [hml]; rfl) (argsL := [(.long i3), (.int (9 : Int32))]) (rest := [(.long (0 : Int64)), (.int (2 : Int32)), (.int (3 : Int32)), (.int (3 : Int32)), (.ref b375), (.ref b375)]) (lenOf pd3 rfl) rfl (by show 2 * 0 + _ ≤ _; exact Nat.le_of_eq rfl) (hb hby at_37) (fun _ _ => ⟨rfl, e375, (by decide : 1 + 1 ≤ _), (by decide : 6 + 9 ≤ _)⟩)
    dsimp only [Pt.U, Pt.locs, Pt.cells, Pt.slots] at X384 l384 y384 z384 st384 hQ384
    subst l384 y384 z384
    obtain ⟨ra_384, rk_384, rfl, N384, R384_0, R384_1, R384_2⟩ := hQ384
    have M384 := Fr.app N0 N384
    have sz384_2 : h0.size ≤ ra_384 := Nat.le_trans (Nat.le_trans (Nat.le_refl _) E375.1) R384_2
    have ng384_2 : n0 ≤ ra_384 := Nat.le_trans Z0 sz384_2
    have g385 : Goes p e below S0 (T384.setTop (mkF m 40 #[iv i0, iv i1, iv i2, .val (.long i3), .second, .val (.long i4), .second, iv (3 : Int32), iv (nD i1), iv (nW i2), .unset, .unset, .unset] [(.ref ra_384), (.long (0 : Int64)), (.int (2 : Int32)), (.int (3 : Int32)), (.int (3 : Int32)), (.ref b375), (.ref b375)])) := fun t k => g383 t (st384 t k)
    have g386 : Goes p e below S0 (T384.setTop (mkF m 46 #[iv i0, iv i1, iv i2, .val (.long i3), .second, .val (.long i4), .second, iv (3 : Int32), iv (nD i1), iv (nW i2), .unset, .unset, .unset] [(.int (6 : Int32)), (.long i4), (.ref ra_384), (.long (0 : Int64)), (.int (2 : Int32)), (.int (3 : Int32)), (.int (3 : Int32)), (.ref b375), (.ref b375)])) := fun t k => g385 t (by
      refine XS.lload X384.here hx rfl (hb hby at_40) rfl ?_
      show Go p e below t T384 m 42 #[iv i0, iv i1, iv i2, .val (.long i3), .second, .val (.long i4), .second, iv (3 : Int32), iv (nD i1), iv (nW i2), .unset, .unset, .unset] [(.long i4), (.ref ra_384), (.long (0 : Int64)), (.int (2 : Int32)), (.int (3 : Int32)), (.int (3 : Int32)), (.ref b375), (.ref b375)]
      refine XT.iconstV X384.here hx rfl (2 : Int32) (hb hby at_42) (by decide) ?_
      show Go p e below t T384 m 43 #[iv i0, iv i1, iv i2, .val (.long i3), .second, .val (.long i4), .second, iv (3 : Int32), iv (nD i1), iv (nW i2), .unset, .unset, .unset] [(.int (2 : Int32)), (.long i4), (.ref ra_384), (.long (0 : Int64)), (.int (2 : Int32)), (.int (3 : Int32)), (.int (3 : Int32)), (.ref b375), (.ref b375)]
      refine XS.iload X384.here hx rfl (hb hby at_43) rfl ?_
      show Go p e below t T384 m 45 #[iv i0, iv i1, iv i2, .val (.long i3), .second, .val (.long i4), .second, iv (3 : Int32), iv (nD i1), iv (nW i2), .unset, .unset, .unset] [(.int (3 : Int32)), (.int (2 : Int32)), (.long i4), (.ref ra_384), (.long (0 : Int64)), (.int (2 : Int32)), (.int (3 : Int32)), (.int (3 : Int32)), (.ref b375), (.ref b375)]
      refine XS.imul X384.here hx rfl (hb hby at_45) rfl ?_
      rw [show ((2 : Int32) * (3 : Int32)) = (6 : Int32) by decide]
      show Go p e below t T384 m 46 #[iv i0, iv i1, iv i2, .val (.long i3), .second, .val (.long i4), .second, iv (3 : Int32), iv (nD i1), iv (nW i2), .unset, .unset, .unset] [(.int (6 : Int32)), (.long i4), (.ref ra_384), (.long (0 : Int64)), (.int (2 : Int32)), (.int (3 : Int32)), (.int (3 : Int32)), (.ref b375), (.ref b375)]
      exact k)
    obtain ⟨_, _, ⟨T387, L387, k387, n387⟩, -, X387, ⟨Lc387, hQ387, l387, y387, z387⟩, st387⟩ := Jvm.LawKit.callS X384 hx (y := (⟨"com/example/borrowed_prior/borrowedprior/model/TopicModelTermProbabilityPinLaw", "draw", "(JI)[D"⟩ : MethodName)) hown (mvT hZ (hw _ (List.mem_of_getElem? (i := 4) rfl))) (mvT hZ (hw _ (List.mem_of_getElem? (i := 5) rfl))) (mvT hZ (hw _ (List.mem_of_getElem? (i := 6) rfl))) (mvT hZ (hw _ (List.mem_of_getElem? (i := 7) rfl))) (by decide) (backOf (W := 8) (rm_dr6 l Z a0 hw [] i4 (6 : Int32)  T384.heap n0 (Nat.le_trans Z0 (Nat.le_trans (Nat.le_trans (Nat.le_refl _) E375.1) R384_0.1)) rfl) hZ (hw _ (List.mem_of_getElem? (i := 7) rfl)) (hw _ (List.mem_of_getElem? (i := 6) rfl)) (by decide) (by decide)) (g := (mkF m 46 #[iv i0, iv i1, iv i2, .val (.long i3), .second, .val (.long i4), .second, iv (3 : Int32), iv (nD i1), iv (nW i2), .unset, .unset, .unset] [(.int (6 : Int32)), (.long i4), (.ref ra_384), (.long (0 : Int64)), (.int (2 : Int32)), (.int (3 : Int32)), (.int (3 : Int32)), (.ref b375), (.ref b375)])) rfl (by rw [hml]; rfl) (argsL := [(.long i4), (.int (6 : Int32))]) (rest := [(.ref ra_384), (.long (0 : Int64)), (.int (2 : Int32)), (.int (3 : Int32)), (.int (3 : Int32)), (.ref b375), (.ref b375)]) (lenOf pd3 rfl) rfl (by show 2 * 0 + _ ≤ _; exact Nat.le_of_eq rfl) (hb hby at_46) (fun _ _ => ⟨rfl, rfl, (by decide : 2 + 1 ≤ _), (by decide : 15 + 6 ≤ _)⟩)
    dsimp only [Pt.U, Pt.locs, Pt.cells, Pt.slots] at X387 l387 y387 z387 st387 hQ387
    subst l387 y387 z387
    obtain ⟨ra_387, rk_387, rfl, N387, R387_0, R387_1, R387_2⟩ := hQ387
    have M387 := Fr.app M384 N387
    have sz387_2 : h0.size ≤ ra_387 := Nat.le_trans (Nat.le_trans (Nat.le_trans (Nat.le_refl _) E375.1) R384_0.1) R387_2
    have ng387_2 : n0 ≤ ra_387 := Nat.le_trans Z0 sz387_2
    have g388 : Goes p e below S0 (T387.setTop (mkF m 49 #[iv i0, iv i1, iv i2, .val (.long i3), .second, .val (.long i4), .second, iv (3 : Int32), iv (nD i1), iv (nW i2), .unset, .unset, .unset] [(.ref ra_387), (.ref ra_384), (.long (0 : Int64)), (.int (2 : Int32)), (.int (3 : Int32)), (.int (3 : Int32)), (.ref b375), (.ref b375)])) := fun t k => g386 t (st387 t k)
    obtain ⟨_, _, ⟨T389, L389, k389, n389⟩, -, X389, ⟨Lc389, hQ389, l389, y389, z389⟩, st389⟩ := X387.specialBack hx (y := (⟨"com/example/borrowed_prior/borrowedprior/model/TopicModel", "<init>", "(IIIJ[D[D)V"⟩ : MethodName)) rfl hown (mvT hZ (hw _ (List.mem_of_getElem? (i := 14) rfl))) (mvT hZ (hw _ (List.mem_of_getElem? (i := 15) rfl))) (mvT hZ (hw _ (List.mem_of_getElem? (i := 16) rfl))) (by decide) (backOf (W := 1) (rm_tin l Z a0 hw [] b375 (3 : Int32) (3 : Int32) (2 : Int32) (0 : Int64) ra_384 ra_387 rk_384 (9 : Int32) [(.double (f_v i3 (0 : Int32))), (.double (f_v i3 (1 : Int32))), (.double (f_v i3 (2 : Int32))), (.double (f_v i3 (3 : Int32))), (.double (f_v i3 (4 : Int32))), (.double (f_v i3 (5 : Int32))), (.double (f_v i3 (6 : Int32))), (.double (f_v i3 (7 : Int32))), (.double (f_v i3 (8 : Int32)))] (.double (0 : UInt64)) rk_387 (6 : Int32) [(.double (f_v i4 (0 : Int32))), (.double (f_v i4 (1 : Int32))), (.double (f_v i4 (2 : Int32))), (.double (f_v i4 (3 : Int32))), (.double (f_v i4 (4 : Int32))), (.double (f_v i4 (5 : Int32)))] (.double (0 : UInt64)) T387.heap n0 (Nat.le_trans Z0 (Nat.le_trans (Nat.le_trans (Nat.le_trans (Nat.le_refl _) E375.1) R384_0.1) R387_0.1)) ((A375.keep R384_0).keep R387_0) ((F375_376.keep R384_0 nin0).keep R387_0 nin0) ((F375_377.keep R384_0 nin0).keep R387_0 nin0) ((F375_378.keep R384_0 nin0).keep R387_0 nin0) ((F375_379.keep R384_0 nin0).keep R387_0 nin0) ((F375_380.keep R384_0 nin0).keep R387_0 nin0) ((F375_381.keep R384_0 nin0).keep R387_0 nin0) ng375 (R384_1.keep R387_0 nin0) R387_1 (by decide) (by decide) (by decide) (by decide) (by decide) (by decide) (own_p9 i3) (own_p6 i4) (by decide) (by decide)) hZ (hw _ (List.mem_of_getElem? (i := 16) rfl)) (hw _ (List.mem_of_getElem? (i := 3) rfl)) (by decide) (by decide)) (g := (mkF m 49 #[iv i0, iv i1, iv i2, .val (.long i3), .second, .val (.long i4), .second, iv (3 : Int32), iv (nD i1), iv (nW i2), .unset, .unset, .unset] [(.ref ra_387), (.ref ra_384), (.long (0 : Int64)), (.int (2 : Int32)), (.int (3 : Int32)), (.int (3 : Int32)), (.ref b375), (.ref b375)])) rfl (by rw [hml]; rfl) (Steps.refl _) (a := b375) (argsL := [(.int (3 : Int32)), (.int (3 : Int32)), (.int (2 : Int32)), (.long (0 : Int64)), (.ref ra_384), (.ref ra_387)]) (rest := [(.ref b375)]) (lenOf pd2 rfl) rfl (by show 2 * 0 + _ ≤ _; exact Nat.le_of_eq rfl) (hb hby at_49) (fun _ _ => ⟨rfl, rfl, (by decide : 3 + 0 ≤ _), (by decide : 21 + 0 ≤ _)⟩)
    dsimp only [Pt.U, Pt.locs, Pt.cells, Pt.slots] at X389 l389 y389 z389 st389 hQ389
    subst l389 y389 z389
    obtain ⟨rfl, N389, R389_0, R389_1, R389_2, R389_3, R389_4, R389_5, R389_6, R389_7⟩ := hQ389
    have M389 := Fr.app M387 N389
    have g390 : Goes p e below S0 (T389.setTop (mkF m 52 #[iv i0, iv i1, iv i2, .val (.long i3), .second, .val (.long i4), .second, iv (3 : Int32), iv (nD i1), iv (nW i2), .unset, .unset, .unset] [(.ref b375)])) := fun t k => g388 t (st389.trans k)
    have g391 : Goes p e below S0 (T389.setTop (mkF m 61 #[iv i0, iv i1, iv i2, .val (.long i3), .second, .val (.long i4), .second, iv (3 : Int32), iv (nD i1), iv (nW i2), rv b375, .unset, .unset] [(.int ((nW i2) * (3 : Int32))), (.long i4)])) := fun t k => g390 t (by
      refine XS.astore X389.here hx rfl (hb hby at_52) rfl rfl (l' := #[iv i0, iv i1, iv i2, .val (.long i3), .second, .val (.long i4), .second, iv (3 : Int32), iv (nD i1), iv (nW i2), rv b375, .unset, .unset]) rfl ?_
      show Go p e below t T389 m 54 #[iv i0, iv i1, iv i2, .val (.long i3), .second, .val (.long i4), .second, iv (3 : Int32), iv (nD i1), iv (nW i2), rv b375, .unset, .unset] []
      refine XS.lload X389.here hx rfl (hb hby at_54) rfl ?_
      show Go p e below t T389 m 56 #[iv i0, iv i1, iv i2, .val (.long i3), .second, .val (.long i4), .second, iv (3 : Int32), iv (nD i1), iv (nW i2), rv b375, .unset, .unset] [(.long i4)]
      refine XS.iload X389.here hx rfl (hb hby at_56) rfl ?_
      show Go p e below t T389 m 58 #[iv i0, iv i1, iv i2, .val (.long i3), .second, .val (.long i4), .second, iv (3 : Int32), iv (nD i1), iv (nW i2), rv b375, .unset, .unset] [(.int (nW i2)), (.long i4)]
      refine XS.iload X389.here hx rfl (hb hby at_58) rfl ?_
      show Go p e below t T389 m 60 #[iv i0, iv i1, iv i2, .val (.long i3), .second, .val (.long i4), .second, iv (3 : Int32), iv (nD i1), iv (nW i2), rv b375, .unset, .unset] [(.int (3 : Int32)), (.int (nW i2)), (.long i4)]
      refine XS.imul X389.here hx rfl (hb hby at_60) rfl ?_
      show Go p e below t T389 m 61 #[iv i0, iv i1, iv i2, .val (.long i3), .second, .val (.long i4), .second, iv (3 : Int32), iv (nD i1), iv (nW i2), rv b375, .unset, .unset] [(.int ((nW i2) * (3 : Int32))), (.long i4)]
      exact k)
    obtain ⟨_, _, ⟨T392, L392, k392, n392⟩, -, X392, ⟨Lc392, hQ392, l392, y392, z392⟩, st392⟩ := Jvm.LawKit.callS X389 hx (y := (⟨"com/example/borrowed_prior/borrowedprior/model/TopicModelTermProbabilityPinLaw", "v", "(JI)D"⟩ : MethodName)) hown (mvT hZ (hw _ (List.mem_of_getElem? (i := 9) rfl))) (mvT hZ (hw _ (List.mem_of_getElem? (i := 10) rfl))) (mvT hZ (hw _ (List.mem_of_getElem? (i := 6) rfl))) (mvT hZ (hw _ (List.mem_of_getElem? (i := 11) rfl))) (by decide) (backOf (W := 0) (rm_v l Z a0 hw [] i4 ((nW i2) * (3 : Int32))  T389.heap n0 (Nat.le_trans Z0 (Nat.le_trans (Nat.le_trans (Nat.le_trans (Nat.le_trans (Nat.le_refl _) E375.1) R384_0.1) R387_0.1) R389_0.1)) ) hZ (hw _ (List.mem_of_getElem? (i := 11) rfl)) (hw _ (List.mem_of_getElem? (i := 6) rfl)) (by decide) (by decide)) (g := (mkF m 61 #[iv i0, iv i1, iv i2, .val (.long i3), .second, .val (.long i4), .second, iv (3 : Int32), iv (nD i1), iv (nW i2), rv b375, .unset, .unset] [(.int ((nW i2) * (3 : Int32))), (.long i4)])) rfl (by rw [hml]; rfl) (argsL := [(.long i4), (.int ((nW i2) * (3 : Int32)))]) (rest := []) (lenOf pd0 rfl) rfl (by show 2 * 0 + _ ≤ _; exact Nat.le_of_eq rfl) (hb hby at_61) (fun _ _ => ⟨rfl, rfl, (by decide : 3 + 0 ≤ _), (by decide : 21 + 0 ≤ _)⟩)
    dsimp only [Pt.U, Pt.locs, Pt.cells, Pt.slots] at X392 l392 y392 z392 st392 hQ392
    subst l392 y392 z392
    obtain ⟨rfl, N392, e392⟩ := hQ392
    have M392 := Fr.app M389 N392
    have g393 : Goes p e below S0 (T392.setTop (mkF m 64 #[iv i0, iv i1, iv i2, .val (.long i3), .second, .val (.long i4), .second, iv (3 : Int32), iv (nD i1), iv (nW i2), rv b375, .unset, .unset] [(.double (f_v i4 ((nW i2) * (3 : Int32))))])) := fun t k => g391 t (st392 t k)
    have g394 : Goes p e below S0 (T392.setTop (mkF m 70 #[iv i0, iv i1, iv i2, .val (.long i3), .second, .val (.long i4), .second, iv (3 : Int32), iv (nD i1), iv (nW i2), rv b375, .unset, .unset] [(.int ((nD i1) * (3 : Int32))), (.long i3), (.double (f_v i4 ((nW i2) * (3 : Int32))))])) := fun t k => g393 t (by
      refine XS.lloadN X392.here hx rfl (hb hby at_64) rfl ?_
      show Go p e below t T392 m 65 #[iv i0, iv i1, iv i2, .val (.long i3), .second, .val (.long i4), .second, iv (3 : Int32), iv (nD i1), iv (nW i2), rv b375, .unset, .unset] [(.long i3), (.double (f_v i4 ((nW i2) * (3 : Int32))))]
      refine XS.iload X392.here hx rfl (hb hby at_65) rfl ?_
      show Go p e below t T392 m 67 #[iv i0, iv i1, iv i2, .val (.long i3), .second, .val (.long i4), .second, iv (3 : Int32), iv (nD i1), iv (nW i2), rv b375, .unset, .unset] [(.int (nD i1)), (.long i3), (.double (f_v i4 ((nW i2) * (3 : Int32))))]
      refine XS.iload X392.here hx rfl (hb hby at_67) rfl ?_
      show Go p e below t T392 m 69 #[iv i0, iv i1, iv i2, .val (.long i3), .second, .val (.long i4), .second, iv (3 : Int32), iv (nD i1), iv (nW i2), rv b375, .unset, .unset] [(.int (3 : Int32)), (.int (nD i1)), (.long i3), (.double (f_v i4 ((nW i2) * (3 : Int32))))]
      refine XS.imul X392.here hx rfl (hb hby at_69) rfl ?_
      show Go p e below t T392 m 70 #[iv i0, iv i1, iv i2, .val (.long i3), .second, .val (.long i4), .second, iv (3 : Int32), iv (nD i1), iv (nW i2), rv b375, .unset, .unset] [(.int ((nD i1) * (3 : Int32))), (.long i3), (.double (f_v i4 ((nW i2) * (3 : Int32))))]
      exact k)
    obtain ⟨_, _, ⟨T395, L395, k395, n395⟩, -, X395, ⟨Lc395, hQ395, l395, y395, z395⟩, st395⟩ := Jvm.LawKit.callS X392 hx (y := (⟨"com/example/borrowed_prior/borrowedprior/model/TopicModelTermProbabilityPinLaw", "v", "(JI)D"⟩ : MethodName)) hown (mvT hZ (hw _ (List.mem_of_getElem? (i := 9) rfl))) (mvT hZ (hw _ (List.mem_of_getElem? (i := 10) rfl))) (mvT hZ (hw _ (List.mem_of_getElem? (i := 6) rfl))) (mvT hZ (hw _ (List.mem_of_getElem? (i := 11) rfl))) (by decide) (backOf (W := 2) (rm_v l Z a0 hw [] i3 ((nD i1) * (3 : Int32))  T389.heap n0 (Nat.le_trans Z0 (Nat.le_trans (Nat.le_trans (Nat.le_trans (Nat.le_trans (Nat.le_refl _) E375.1) R384_0.1) R387_0.1) R389_0.1)) ) hZ (hw _ (List.mem_of_getElem? (i := 11) rfl)) (hw _ (List.mem_of_getElem? (i := 6) rfl)) (by decide) (by decide)) (g := (mkF m 70 #[iv i0, iv i1, iv i2, .val (.long i3), .second, .val (.long i4), .second, iv (3 : Int32), iv (nD i1), iv (nW i2), rv b375, .unset, .unset] [(.int ((nD i1) * (3 : Int32))), (.long i3), (.double (f_v i4 ((nW i2) * (3 : Int32))))])) rfl (by rw [hml]; rfl) (argsL := [(.long i3), (.int ((nD i1) * (3 : Int32)))]) (rest := [(.double (f_v i4 ((nW i2) * (3 : Int32))))]) (lenOf pd0 rfl) rfl (by show 2 * 0 + _ ≤ _; exact Nat.le_of_eq rfl) (hb hby at_70) (fun _ _ => ⟨rfl, e392, (by decide : 3 + 0 ≤ _), (by decide : 21 + 0 ≤ _)⟩)
    dsimp only [Pt.U, Pt.locs, Pt.cells, Pt.slots] at X395 l395 y395 z395 st395 hQ395
    subst l395 y395 z395
    obtain ⟨rfl, N395, e395⟩ := hQ395
    have M395 := Fr.app M392 N395
    have g396 : Goes p e below S0 (T395.setTop (mkF m 73 #[iv i0, iv i1, iv i2, .val (.long i3), .second, .val (.long i4), .second, iv (3 : Int32), iv (nD i1), iv (nW i2), rv b375, .unset, .unset] [(.double (f_v i3 ((nD i1) * (3 : Int32)))), (.double (f_v i4 ((nW i2) * (3 : Int32))))])) := fun t k => g394 t (st395 t k)
    have g397 : Goes p e below S0 (T395.setTop (mkF m 93 #[iv i0, iv i1, iv i2, .val (.long i3), .second, .val (.long i4), .second, iv (3 : Int32), iv (nD i1), iv (nW i2), rv b375, .val (.double (FP.dmul (f_v i4 ((nW i2) * (3 : Int32))) (f_v i3 ((nD i1) * (3 : Int32))))), .second] [(.int (((nW i2) * (3 : Int32)) + (1 : Int32))), (.long i4), (.double (FP.dmul (f_v i4 ((nW i2) * (3 : Int32))) (f_v i3 ((nD i1) * (3 : Int32)))))])) := fun t k => g396 t (by
      refine XS.dmulS X395.here hx rfl (hb hby at_73) rfl (Pr.nn (Pr.mul (own_nib _ _) (own_nib _ _))) rfl ?_
      show Go p e below t T395 m 74 #[iv i0, iv i1, iv i2, .val (.long i3), .second, .val (.long i4), .second, iv (3 : Int32), iv (nD i1), iv (nW i2), rv b375, .unset, .unset] [(.double (FP.dmul (f_v i4 ((nW i2) * (3 : Int32))) (f_v i3 ((nD i1) * (3 : Int32)))))]
      refine XS.dstore X395.here hx rfl (hb hby at_74) rfl (l' := #[iv i0, iv i1, iv i2, .val (.long i3), .second, .val (.long i4), .second, iv (3 : Int32), iv (nD i1), iv (nW i2), rv b375, .val (.double (FP.dmul (f_v i4 ((nW i2) * (3 : Int32))) (f_v i3 ((nD i1) * (3 : Int32))))), .second]) rfl ?_
      show Go p e below t T395 m 76 #[iv i0, iv i1, iv i2, .val (.long i3), .second, .val (.long i4), .second, iv (3 : Int32), iv (nD i1), iv (nW i2), rv b375, .val (.double (FP.dmul (f_v i4 ((nW i2) * (3 : Int32))) (f_v i3 ((nD i1) * (3 : Int32))))), .second] []
      refine XS.iload X395.here hx rfl (hb hby at_76) rfl ?_
      show Go p e below t T395 m 78 #[iv i0, iv i1, iv i2, .val (.long i3), .second, .val (.long i4), .second, iv (3 : Int32), iv (nD i1), iv (nW i2), rv b375, .val (.double (FP.dmul (f_v i4 ((nW i2) * (3 : Int32))) (f_v i3 ((nD i1) * (3 : Int32))))), .second] [(.int (3 : Int32))]
      refine XT.iconstV X395.here hx rfl (2 : Int32) (hb hby at_78) (by decide) ?_
      show Go p e below t T395 m 79 #[iv i0, iv i1, iv i2, .val (.long i3), .second, .val (.long i4), .second, iv (3 : Int32), iv (nD i1), iv (nW i2), rv b375, .val (.double (FP.dmul (f_v i4 ((nW i2) * (3 : Int32))) (f_v i3 ((nD i1) * (3 : Int32))))), .second] [(.int (2 : Int32)), (.int (3 : Int32))]
      refine XS.icmpNo X395.here hx rfl (hb hby at_79) rfl (XT.ii_lt_f (by decide)) ?_
      show Go p e below t T395 m 82 #[iv i0, iv i1, iv i2, .val (.long i3), .second, .val (.long i4), .second, iv (3 : Int32), iv (nD i1), iv (nW i2), rv b375, .val (.double (FP.dmul (f_v i4 ((nW i2) * (3 : Int32))) (f_v i3 ((nD i1) * (3 : Int32))))), .second] []
      refine XS.dload X395.here hx rfl (hb hby at_82) rfl ?_
      show Go p e below t T395 m 84 #[iv i0, iv i1, iv i2, .val (.long i3), .second, .val (.long i4), .second, iv (3 : Int32), iv (nD i1), iv (nW i2), rv b375, .val (.double (FP.dmul (f_v i4 ((nW i2) * (3 : Int32))) (f_v i3 ((nD i1) * (3 : Int32))))), .second] [(.double (FP.dmul (f_v i4 ((nW i2) * (3 : Int32))) (f_v i3 ((nD i1) * (3 : Int32)))))]
      refine XS.lload X395.here hx rfl (hb hby at_84) rfl ?_
      show Go p e below t T395 m 86 #[iv i0, iv i1, iv i2, .val (.long i3), .second, .val (.long i4), .second, iv (3 : Int32), iv (nD i1), iv (nW i2), rv b375, .val (.double (FP.dmul (f_v i4 ((nW i2) * (3 : Int32))) (f_v i3 ((nD i1) * (3 : Int32))))), .second] [(.long i4), (.double (FP.dmul (f_v i4 ((nW i2) * (3 : Int32))) (f_v i3 ((nD i1) * (3 : Int32)))))]
      refine XS.iload X395.here hx rfl (hb hby at_86) rfl ?_
      show Go p e below t T395 m 88 #[iv i0, iv i1, iv i2, .val (.long i3), .second, .val (.long i4), .second, iv (3 : Int32), iv (nD i1), iv (nW i2), rv b375, .val (.double (FP.dmul (f_v i4 ((nW i2) * (3 : Int32))) (f_v i3 ((nD i1) * (3 : Int32))))), .second] [(.int (nW i2)), (.long i4), (.double (FP.dmul (f_v i4 ((nW i2) * (3 : Int32))) (f_v i3 ((nD i1) * (3 : Int32)))))]
      refine XS.iload X395.here hx rfl (hb hby at_88) rfl ?_
      show Go p e below t T395 m 90 #[iv i0, iv i1, iv i2, .val (.long i3), .second, .val (.long i4), .second, iv (3 : Int32), iv (nD i1), iv (nW i2), rv b375, .val (.double (FP.dmul (f_v i4 ((nW i2) * (3 : Int32))) (f_v i3 ((nD i1) * (3 : Int32))))), .second] [(.int (3 : Int32)), (.int (nW i2)), (.long i4), (.double (FP.dmul (f_v i4 ((nW i2) * (3 : Int32))) (f_v i3 ((nD i1) * (3 : Int32)))))]
      refine XS.imul X395.here hx rfl (hb hby at_90) rfl ?_
      show Go p e below t T395 m 91 #[iv i0, iv i1, iv i2, .val (.long i3), .second, .val (.long i4), .second, iv (3 : Int32), iv (nD i1), iv (nW i2), rv b375, .val (.double (FP.dmul (f_v i4 ((nW i2) * (3 : Int32))) (f_v i3 ((nD i1) * (3 : Int32))))), .second] [(.int ((nW i2) * (3 : Int32))), (.long i4), (.double (FP.dmul (f_v i4 ((nW i2) * (3 : Int32))) (f_v i3 ((nD i1) * (3 : Int32)))))]
      refine XT.iconstV X395.here hx rfl (1 : Int32) (hb hby at_91) (by decide) ?_
      show Go p e below t T395 m 92 #[iv i0, iv i1, iv i2, .val (.long i3), .second, .val (.long i4), .second, iv (3 : Int32), iv (nD i1), iv (nW i2), rv b375, .val (.double (FP.dmul (f_v i4 ((nW i2) * (3 : Int32))) (f_v i3 ((nD i1) * (3 : Int32))))), .second] [(.int (1 : Int32)), (.int ((nW i2) * (3 : Int32))), (.long i4), (.double (FP.dmul (f_v i4 ((nW i2) * (3 : Int32))) (f_v i3 ((nD i1) * (3 : Int32)))))]
      refine XS.iadd X395.here hx rfl (hb hby at_92) rfl ?_
      show Go p e below t T395 m 93 #[iv i0, iv i1, iv i2, .val (.long i3), .second, .val (.long i4), .second, iv (3 : Int32), iv (nD i1), iv (nW i2), rv b375, .val (.double (FP.dmul (f_v i4 ((nW i2) * (3 : Int32))) (f_v i3 ((nD i1) * (3 : Int32))))), .second] [(.int (((nW i2) * (3 : Int32)) + (1 : Int32))), (.long i4), (.double (FP.dmul (f_v i4 ((nW i2) * (3 : Int32))) (f_v i3 ((nD i1) * (3 : Int32)))))]
      exact k)
    obtain ⟨_, _, ⟨T398, L398, k398, n398⟩, -, X398, ⟨Lc398, hQ398, l398, y398, z398⟩, st398⟩ := Jvm.LawKit.callS X395 hx (y := (⟨"com/example/borrowed_prior/borrowedprior/model/TopicModelTermProbabilityPinLaw", "v", "(JI)D"⟩ : MethodName)) hown (mvT hZ (hw _ (List.mem_of_getElem? (i := 9) rfl))) (mvT hZ (hw _ (List.mem_of_getElem? (i := 10) rfl))) (mvT hZ (hw _ (List.mem_of_getElem? (i := 6) rfl))) (mvT hZ (hw _ (List.mem_of_getElem? (i := 11) rfl))) (by decide) (backOf (W := 2) (rm_v l Z a0 hw [] i4 (((nW i2) * (3 : Int32)) + (1 : Int32))  T389.heap n0 (Nat.le_trans Z0 (Nat.le_trans (Nat.le_trans (Nat.le_trans (Nat.le_trans (Nat.le_refl _) E375.1) R384_0.1) R387_0.1) R389_0.1)) ) hZ (hw _ (List.mem_of_getElem? (i := 11) rfl)) (hw _ (List.mem_of_getElem? (i := 6) rfl)) (by decide) (by decide)) (g := (mkF m 93 #[iv i0, iv i1, iv i2, .val (.long i3), .second, .val (.long i4), .second, iv (3 : Int32), iv (nD i1), iv (nW i2), rv b375, .val (.double (FP.dmul (f_v i4 ((nW i2) * (3 : Int32))) (f_v i3 ((nD i1) * (3 : Int32))))), .second] [(.int (((nW i2) * (3 : Int32)) + (1 : Int32))), (.long i4), (.double (FP.dmul (f_v i4 ((nW i2) * (3 : Int32))) (f_v i3 ((nD i1) * (3 : Int32)))))])) rfl (by rw [hml]; rfl) (argsL := [(.long i4), (.int (((nW i2) * (3 : Int32)) + (1 : Int32)))]) (rest := [(.double (FP.dmul (f_v i4 ((nW i2) * (3 : Int32))) (f_v i3 ((nD i1) * (3 : Int32)))))]) (lenOf pd0 rfl) rfl (by show 2 * 0 + _ ≤ _; exact Nat.le_of_eq rfl) (hb hby at_93) (fun _ _ => ⟨rfl, e395, (by decide : 3 + 0 ≤ _), (by decide : 21 + 0 ≤ _)⟩)
    dsimp only [Pt.U, Pt.locs, Pt.cells, Pt.slots] at X398 l398 y398 z398 st398 hQ398
    subst l398 y398 z398
    obtain ⟨rfl, N398, e398⟩ := hQ398
    have M398 := Fr.app M395 N398
    have g399 : Goes p e below S0 (T398.setTop (mkF m 96 #[iv i0, iv i1, iv i2, .val (.long i3), .second, .val (.long i4), .second, iv (3 : Int32), iv (nD i1), iv (nW i2), rv b375, .val (.double (FP.dmul (f_v i4 ((nW i2) * (3 : Int32))) (f_v i3 ((nD i1) * (3 : Int32))))), .second] [(.double (f_v i4 (((nW i2) * (3 : Int32)) + (1 : Int32)))), (.double (FP.dmul (f_v i4 ((nW i2) * (3 : Int32))) (f_v i3 ((nD i1) * (3 : Int32)))))])) := fun t k => g397 t (st398 t k)
    have g400 : Goes p e below S0 (T398.setTop (mkF m 104 #[iv i0, iv i1, iv i2, .val (.long i3), .second, .val (.long i4), .second, iv (3 : Int32), iv (nD i1), iv (nW i2), rv b375, .val (.double (FP.dmul (f_v i4 ((nW i2) * (3 : Int32))) (f_v i3 ((nD i1) * (3 : Int32))))), .second] [(.int (((nD i1) * (3 : Int32)) + (1 : Int32))), (.long i3), (.double (f_v i4 (((nW i2) * (3 : Int32)) + (1 : Int32)))), (.double (FP.dmul (f_v i4 ((nW i2) * (3 : Int32))) (f_v i3 ((nD i1) * (3 : Int32)))))])) := fun t k => g399 t (by
      refine XS.lloadN X398.here hx rfl (hb hby at_96) rfl ?_
      show Go p e below t T398 m 97 #[iv i0, iv i1, iv i2, .val (.long i3), .second, .val (.long i4), .second, iv (3 : Int32), iv (nD i1), iv (nW i2), rv b375, .val (.double (FP.dmul (f_v i4 ((nW i2) * (3 : Int32))) (f_v i3 ((nD i1) * (3 : Int32))))), .second] [(.long i3), (.double (f_v i4 (((nW i2) * (3 : Int32)) + (1 : Int32)))), (.double (FP.dmul (f_v i4 ((nW i2) * (3 : Int32))) (f_v i3 ((nD i1) * (3 : Int32)))))]
      refine XS.iload X398.here hx rfl (hb hby at_97) rfl ?_
      show Go p e below t T398 m 99 #[iv i0, iv i1, iv i2, .val (.long i3), .second, .val (.long i4), .second, iv (3 : Int32), iv (nD i1), iv (nW i2), rv b375, .val (.double (FP.dmul (f_v i4 ((nW i2) * (3 : Int32))) (f_v i3 ((nD i1) * (3 : Int32))))), .second] [(.int (nD i1)), (.long i3), (.double (f_v i4 (((nW i2) * (3 : Int32)) + (1 : Int32)))), (.double (FP.dmul (f_v i4 ((nW i2) * (3 : Int32))) (f_v i3 ((nD i1) * (3 : Int32)))))]
      refine XS.iload X398.here hx rfl (hb hby at_99) rfl ?_
      show Go p e below t T398 m 101 #[iv i0, iv i1, iv i2, .val (.long i3), .second, .val (.long i4), .second, iv (3 : Int32), iv (nD i1), iv (nW i2), rv b375, .val (.double (FP.dmul (f_v i4 ((nW i2) * (3 : Int32))) (f_v i3 ((nD i1) * (3 : Int32))))), .second] [(.int (3 : Int32)), (.int (nD i1)), (.long i3), (.double (f_v i4 (((nW i2) * (3 : Int32)) + (1 : Int32)))), (.double (FP.dmul (f_v i4 ((nW i2) * (3 : Int32))) (f_v i3 ((nD i1) * (3 : Int32)))))]
      refine XS.imul X398.here hx rfl (hb hby at_101) rfl ?_
      show Go p e below t T398 m 102 #[iv i0, iv i1, iv i2, .val (.long i3), .second, .val (.long i4), .second, iv (3 : Int32), iv (nD i1), iv (nW i2), rv b375, .val (.double (FP.dmul (f_v i4 ((nW i2) * (3 : Int32))) (f_v i3 ((nD i1) * (3 : Int32))))), .second] [(.int ((nD i1) * (3 : Int32))), (.long i3), (.double (f_v i4 (((nW i2) * (3 : Int32)) + (1 : Int32)))), (.double (FP.dmul (f_v i4 ((nW i2) * (3 : Int32))) (f_v i3 ((nD i1) * (3 : Int32)))))]
      refine XT.iconstV X398.here hx rfl (1 : Int32) (hb hby at_102) (by decide) ?_
      show Go p e below t T398 m 103 #[iv i0, iv i1, iv i2, .val (.long i3), .second, .val (.long i4), .second, iv (3 : Int32), iv (nD i1), iv (nW i2), rv b375, .val (.double (FP.dmul (f_v i4 ((nW i2) * (3 : Int32))) (f_v i3 ((nD i1) * (3 : Int32))))), .second] [(.int (1 : Int32)), (.int ((nD i1) * (3 : Int32))), (.long i3), (.double (f_v i4 (((nW i2) * (3 : Int32)) + (1 : Int32)))), (.double (FP.dmul (f_v i4 ((nW i2) * (3 : Int32))) (f_v i3 ((nD i1) * (3 : Int32)))))]
      refine XS.iadd X398.here hx rfl (hb hby at_103) rfl ?_
      show Go p e below t T398 m 104 #[iv i0, iv i1, iv i2, .val (.long i3), .second, .val (.long i4), .second, iv (3 : Int32), iv (nD i1), iv (nW i2), rv b375, .val (.double (FP.dmul (f_v i4 ((nW i2) * (3 : Int32))) (f_v i3 ((nD i1) * (3 : Int32))))), .second] [(.int (((nD i1) * (3 : Int32)) + (1 : Int32))), (.long i3), (.double (f_v i4 (((nW i2) * (3 : Int32)) + (1 : Int32)))), (.double (FP.dmul (f_v i4 ((nW i2) * (3 : Int32))) (f_v i3 ((nD i1) * (3 : Int32)))))]
      exact k)
    obtain ⟨_, _, ⟨T401, L401, k401, n401⟩, -, X401, ⟨Lc401, hQ401, l401, y401, z401⟩, st401⟩ := Jvm.LawKit.callS X398 hx (y := (⟨"com/example/borrowed_prior/borrowedprior/model/TopicModelTermProbabilityPinLaw", "v", "(JI)D"⟩ : MethodName)) hown (mvT hZ (hw _ (List.mem_of_getElem? (i := 9) rfl))) (mvT hZ (hw _ (List.mem_of_getElem? (i := 10) rfl))) (mvT hZ (hw _ (List.mem_of_getElem? (i := 6) rfl))) (mvT hZ (hw _ (List.mem_of_getElem? (i := 11) rfl))) (by decide) (backOf (W := 4) (rm_v l Z a0 hw [] i3 (((nD i1) * (3 : Int32)) + (1 : Int32))  T389.heap n0 (Nat.le_trans Z0 (Nat.le_trans (Nat.le_trans (Nat.le_trans (Nat.le_trans (Nat.le_refl _) E375.1) R384_0.1) R387_0.1) R389_0.1)) ) hZ (hw _ (List.mem_of_getElem? (i := 11) rfl)) (hw _ (List.mem_of_getElem? (i := 6) rfl)) (by decide) (by decide)) (g := (mkF m 104 #[iv i0, iv i1, iv i2, .val (.long i3), .second, .val (.long i4), .second, iv (3 : Int32), iv (nD i1), iv (nW i2), rv b375, .val (.double (FP.dmul (f_v i4 ((nW i2) * (3 : Int32))) (f_v i3 ((nD i1) * (3 : Int32))))), .second] [(.int (((nD i1) * (3 : Int32)) + (1 : Int32))), (.long i3), (.double (f_v i4 (((nW i2) * (3 : Int32)) + (1 : Int32)))), (.double (FP.dmul (f_v i4 ((nW i2) * (3 : Int32))) (f_v i3 ((nD i1) * (3 : Int32)))))])) rfl (by rw [hml]; rfl) (argsL := [(.long i3), (.int (((nD i1) * (3 : Int32)) + (1 : Int32)))]) (rest := [(.double (f_v i4 (((nW i2) * (3 : Int32)) + (1 : Int32)))), (.double (FP.dmul (f_v i4 ((nW i2) * (3 : Int32))) (f_v i3 ((nD i1) * (3 : Int32)))))]) (lenOf pd0 rfl) rfl (by show 2 * 0 + _ ≤ _; exact Nat.le_of_eq rfl) (hb hby at_104) (fun _ _ => ⟨rfl, e398, (by decide : 3 + 0 ≤ _), (by decide : 21 + 0 ≤ _)⟩)
    dsimp only [Pt.U, Pt.locs, Pt.cells, Pt.slots] at X401 l401 y401 z401 st401 hQ401
    subst l401 y401 z401
    obtain ⟨rfl, N401, e401⟩ := hQ401
    have M401 := Fr.app M398 N401
    have g402 : Goes p e below S0 (T401.setTop (mkF m 107 #[iv i0, iv i1, iv i2, .val (.long i3), .second, .val (.long i4), .second, iv (3 : Int32), iv (nD i1), iv (nW i2), rv b375, .val (.double (FP.dmul (f_v i4 ((nW i2) * (3 : Int32))) (f_v i3 ((nD i1) * (3 : Int32))))), .second] [(.double (f_v i3 (((nD i1) * (3 : Int32)) + (1 : Int32)))), (.double (f_v i4 (((nW i2) * (3 : Int32)) + (1 : Int32)))), (.double (FP.dmul (f_v i4 ((nW i2) * (3 : Int32))) (f_v i3 ((nD i1) * (3 : Int32)))))])) := fun t k => g400 t (st401 t k)
    have g403 : Goes p e below S0 (T401.setTop (mkF m 128 #[iv i0, iv i1, iv i2, .val (.long i3), .second, .val (.long i4), .second, iv (3 : Int32), iv (nD i1), iv (nW i2), rv b375, .val (.double (FP.dadd (FP.dmul (f_v i4 ((nW i2) * (3 : Int32))) (f_v i3 ((nD i1) * (3 : Int32)))) (FP.dmul (f_v i4 (((nW i2) * (3 : Int32)) + (1 : Int32))) (f_v i3 (((nD i1) * (3 : Int32)) + (1 : Int32)))))), .second] [(.int (((nW i2) * (3 : Int32)) + (2 : Int32))), (.long i4), (.double (FP.dadd (FP.dmul (f_v i4 ((nW i2) * (3 : Int32))) (f_v i3 ((nD i1) * (3 : Int32)))) (FP.dmul (f_v i4 (((nW i2) * (3 : Int32)) + (1 : Int32))) (f_v i3 (((nD i1) * (3 : Int32)) + (1 : Int32))))))])) := fun t k => g402 t (by
      refine XS.dmulS X401.here hx rfl (hb hby at_107) rfl (Pr.nn (Pr.mul (own_nib _ _) (own_nib _ _))) rfl ?_
      show Go p e below t T401 m 108 #[iv i0, iv i1, iv i2, .val (.long i3), .second, .val (.long i4), .second, iv (3 : Int32), iv (nD i1), iv (nW i2), rv b375, .val (.double (FP.dmul (f_v i4 ((nW i2) * (3 : Int32))) (f_v i3 ((nD i1) * (3 : Int32))))), .second] [(.double (FP.dmul (f_v i4 (((nW i2) * (3 : Int32)) + (1 : Int32))) (f_v i3 (((nD i1) * (3 : Int32)) + (1 : Int32))))), (.double (FP.dmul (f_v i4 ((nW i2) * (3 : Int32))) (f_v i3 ((nD i1) * (3 : Int32)))))]
      refine XS.daddS X401.here hx rfl (hb hby at_108) rfl (Pr.nn (Pr.add (Pr.mul (own_nib _ _) (own_nib _ _)) (Pr.mul (own_nib _ _) (own_nib _ _)) (by decide))) rfl ?_
      show Go p e below t T401 m 109 #[iv i0, iv i1, iv i2, .val (.long i3), .second, .val (.long i4), .second, iv (3 : Int32), iv (nD i1), iv (nW i2), rv b375, .val (.double (FP.dmul (f_v i4 ((nW i2) * (3 : Int32))) (f_v i3 ((nD i1) * (3 : Int32))))), .second] [(.double (FP.dadd (FP.dmul (f_v i4 ((nW i2) * (3 : Int32))) (f_v i3 ((nD i1) * (3 : Int32)))) (FP.dmul (f_v i4 (((nW i2) * (3 : Int32)) + (1 : Int32))) (f_v i3 (((nD i1) * (3 : Int32)) + (1 : Int32))))))]
      refine XS.dstore X401.here hx rfl (hb hby at_109) rfl (l' := #[iv i0, iv i1, iv i2, .val (.long i3), .second, .val (.long i4), .second, iv (3 : Int32), iv (nD i1), iv (nW i2), rv b375, .val (.double (FP.dadd (FP.dmul (f_v i4 ((nW i2) * (3 : Int32))) (f_v i3 ((nD i1) * (3 : Int32)))) (FP.dmul (f_v i4 (((nW i2) * (3 : Int32)) + (1 : Int32))) (f_v i3 (((nD i1) * (3 : Int32)) + (1 : Int32)))))), .second]) rfl ?_
      show Go p e below t T401 m 111 #[iv i0, iv i1, iv i2, .val (.long i3), .second, .val (.long i4), .second, iv (3 : Int32), iv (nD i1), iv (nW i2), rv b375, .val (.double (FP.dadd (FP.dmul (f_v i4 ((nW i2) * (3 : Int32))) (f_v i3 ((nD i1) * (3 : Int32)))) (FP.dmul (f_v i4 (((nW i2) * (3 : Int32)) + (1 : Int32))) (f_v i3 (((nD i1) * (3 : Int32)) + (1 : Int32)))))), .second] []
      refine XS.iload X401.here hx rfl (hb hby at_111) rfl ?_
      show Go p e below t T401 m 113 #[iv i0, iv i1, iv i2, .val (.long i3), .second, .val (.long i4), .second, iv (3 : Int32), iv (nD i1), iv (nW i2), rv b375, .val (.double (FP.dadd (FP.dmul (f_v i4 ((nW i2) * (3 : Int32))) (f_v i3 ((nD i1) * (3 : Int32)))) (FP.dmul (f_v i4 (((nW i2) * (3 : Int32)) + (1 : Int32))) (f_v i3 (((nD i1) * (3 : Int32)) + (1 : Int32)))))), .second] [(.int (3 : Int32))]
      refine XT.iconstV X401.here hx rfl (3 : Int32) (hb hby at_113) (by decide) ?_
      show Go p e below t T401 m 114 #[iv i0, iv i1, iv i2, .val (.long i3), .second, .val (.long i4), .second, iv (3 : Int32), iv (nD i1), iv (nW i2), rv b375, .val (.double (FP.dadd (FP.dmul (f_v i4 ((nW i2) * (3 : Int32))) (f_v i3 ((nD i1) * (3 : Int32)))) (FP.dmul (f_v i4 (((nW i2) * (3 : Int32)) + (1 : Int32))) (f_v i3 (((nD i1) * (3 : Int32)) + (1 : Int32)))))), .second] [(.int (3 : Int32)), (.int (3 : Int32))]
      refine XS.icmpNo X401.here hx rfl (hb hby at_114) rfl (XT.ii_lt_f (by decide)) ?_
      show Go p e below t T401 m 117 #[iv i0, iv i1, iv i2, .val (.long i3), .second, .val (.long i4), .second, iv (3 : Int32), iv (nD i1), iv (nW i2), rv b375, .val (.double (FP.dadd (FP.dmul (f_v i4 ((nW i2) * (3 : Int32))) (f_v i3 ((nD i1) * (3 : Int32)))) (FP.dmul (f_v i4 (((nW i2) * (3 : Int32)) + (1 : Int32))) (f_v i3 (((nD i1) * (3 : Int32)) + (1 : Int32)))))), .second] []
      refine XS.dload X401.here hx rfl (hb hby at_117) rfl ?_
      show Go p e below t T401 m 119 #[iv i0, iv i1, iv i2, .val (.long i3), .second, .val (.long i4), .second, iv (3 : Int32), iv (nD i1), iv (nW i2), rv b375, .val (.double (FP.dadd (FP.dmul (f_v i4 ((nW i2) * (3 : Int32))) (f_v i3 ((nD i1) * (3 : Int32)))) (FP.dmul (f_v i4 (((nW i2) * (3 : Int32)) + (1 : Int32))) (f_v i3 (((nD i1) * (3 : Int32)) + (1 : Int32)))))), .second] [(.double (FP.dadd (FP.dmul (f_v i4 ((nW i2) * (3 : Int32))) (f_v i3 ((nD i1) * (3 : Int32)))) (FP.dmul (f_v i4 (((nW i2) * (3 : Int32)) + (1 : Int32))) (f_v i3 (((nD i1) * (3 : Int32)) + (1 : Int32))))))]
      refine XS.lload X401.here hx rfl (hb hby at_119) rfl ?_
      show Go p e below t T401 m 121 #[iv i0, iv i1, iv i2, .val (.long i3), .second, .val (.long i4), .second, iv (3 : Int32), iv (nD i1), iv (nW i2), rv b375, .val (.double (FP.dadd (FP.dmul (f_v i4 ((nW i2) * (3 : Int32))) (f_v i3 ((nD i1) * (3 : Int32)))) (FP.dmul (f_v i4 (((nW i2) * (3 : Int32)) + (1 : Int32))) (f_v i3 (((nD i1) * (3 : Int32)) + (1 : Int32)))))), .second] [(.long i4), (.double (FP.dadd (FP.dmul (f_v i4 ((nW i2) * (3 : Int32))) (f_v i3 ((nD i1) * (3 : Int32)))) (FP.dmul (f_v i4 (((nW i2) * (3 : Int32)) + (1 : Int32))) (f_v i3 (((nD i1) * (3 : Int32)) + (1 : Int32))))))]
      refine XS.iload X401.here hx rfl (hb hby at_121) rfl ?_
      show Go p e below t T401 m 123 #[iv i0, iv i1, iv i2, .val (.long i3), .second, .val (.long i4), .second, iv (3 : Int32), iv (nD i1), iv (nW i2), rv b375, .val (.double (FP.dadd (FP.dmul (f_v i4 ((nW i2) * (3 : Int32))) (f_v i3 ((nD i1) * (3 : Int32)))) (FP.dmul (f_v i4 (((nW i2) * (3 : Int32)) + (1 : Int32))) (f_v i3 (((nD i1) * (3 : Int32)) + (1 : Int32)))))), .second] [(.int (nW i2)), (.long i4), (.double (FP.dadd (FP.dmul (f_v i4 ((nW i2) * (3 : Int32))) (f_v i3 ((nD i1) * (3 : Int32)))) (FP.dmul (f_v i4 (((nW i2) * (3 : Int32)) + (1 : Int32))) (f_v i3 (((nD i1) * (3 : Int32)) + (1 : Int32))))))]
      refine XS.iload X401.here hx rfl (hb hby at_123) rfl ?_
      show Go p e below t T401 m 125 #[iv i0, iv i1, iv i2, .val (.long i3), .second, .val (.long i4), .second, iv (3 : Int32), iv (nD i1), iv (nW i2), rv b375, .val (.double (FP.dadd (FP.dmul (f_v i4 ((nW i2) * (3 : Int32))) (f_v i3 ((nD i1) * (3 : Int32)))) (FP.dmul (f_v i4 (((nW i2) * (3 : Int32)) + (1 : Int32))) (f_v i3 (((nD i1) * (3 : Int32)) + (1 : Int32)))))), .second] [(.int (3 : Int32)), (.int (nW i2)), (.long i4), (.double (FP.dadd (FP.dmul (f_v i4 ((nW i2) * (3 : Int32))) (f_v i3 ((nD i1) * (3 : Int32)))) (FP.dmul (f_v i4 (((nW i2) * (3 : Int32)) + (1 : Int32))) (f_v i3 (((nD i1) * (3 : Int32)) + (1 : Int32))))))]
      refine XS.imul X401.here hx rfl (hb hby at_125) rfl ?_
      show Go p e below t T401 m 126 #[iv i0, iv i1, iv i2, .val (.long i3), .second, .val (.long i4), .second, iv (3 : Int32), iv (nD i1), iv (nW i2), rv b375, .val (.double (FP.dadd (FP.dmul (f_v i4 ((nW i2) * (3 : Int32))) (f_v i3 ((nD i1) * (3 : Int32)))) (FP.dmul (f_v i4 (((nW i2) * (3 : Int32)) + (1 : Int32))) (f_v i3 (((nD i1) * (3 : Int32)) + (1 : Int32)))))), .second] [(.int ((nW i2) * (3 : Int32))), (.long i4), (.double (FP.dadd (FP.dmul (f_v i4 ((nW i2) * (3 : Int32))) (f_v i3 ((nD i1) * (3 : Int32)))) (FP.dmul (f_v i4 (((nW i2) * (3 : Int32)) + (1 : Int32))) (f_v i3 (((nD i1) * (3 : Int32)) + (1 : Int32))))))]
      refine XT.iconstV X401.here hx rfl (2 : Int32) (hb hby at_126) (by decide) ?_
      show Go p e below t T401 m 127 #[iv i0, iv i1, iv i2, .val (.long i3), .second, .val (.long i4), .second, iv (3 : Int32), iv (nD i1), iv (nW i2), rv b375, .val (.double (FP.dadd (FP.dmul (f_v i4 ((nW i2) * (3 : Int32))) (f_v i3 ((nD i1) * (3 : Int32)))) (FP.dmul (f_v i4 (((nW i2) * (3 : Int32)) + (1 : Int32))) (f_v i3 (((nD i1) * (3 : Int32)) + (1 : Int32)))))), .second] [(.int (2 : Int32)), (.int ((nW i2) * (3 : Int32))), (.long i4), (.double (FP.dadd (FP.dmul (f_v i4 ((nW i2) * (3 : Int32))) (f_v i3 ((nD i1) * (3 : Int32)))) (FP.dmul (f_v i4 (((nW i2) * (3 : Int32)) + (1 : Int32))) (f_v i3 (((nD i1) * (3 : Int32)) + (1 : Int32))))))]
      refine XS.iadd X401.here hx rfl (hb hby at_127) rfl ?_
      show Go p e below t T401 m 128 #[iv i0, iv i1, iv i2, .val (.long i3), .second, .val (.long i4), .second, iv (3 : Int32), iv (nD i1), iv (nW i2), rv b375, .val (.double (FP.dadd (FP.dmul (f_v i4 ((nW i2) * (3 : Int32))) (f_v i3 ((nD i1) * (3 : Int32)))) (FP.dmul (f_v i4 (((nW i2) * (3 : Int32)) + (1 : Int32))) (f_v i3 (((nD i1) * (3 : Int32)) + (1 : Int32)))))), .second] [(.int (((nW i2) * (3 : Int32)) + (2 : Int32))), (.long i4), (.double (FP.dadd (FP.dmul (f_v i4 ((nW i2) * (3 : Int32))) (f_v i3 ((nD i1) * (3 : Int32)))) (FP.dmul (f_v i4 (((nW i2) * (3 : Int32)) + (1 : Int32))) (f_v i3 (((nD i1) * (3 : Int32)) + (1 : Int32))))))]
      exact k)
    obtain ⟨_, _, ⟨T404, L404, k404, n404⟩, -, X404, ⟨Lc404, hQ404, l404, y404, z404⟩, st404⟩ := Jvm.LawKit.callS X401 hx (y := (⟨"com/example/borrowed_prior/borrowedprior/model/TopicModelTermProbabilityPinLaw", "v", "(JI)D"⟩ : MethodName)) hown (mvT hZ (hw _ (List.mem_of_getElem? (i := 9) rfl))) (mvT hZ (hw _ (List.mem_of_getElem? (i := 10) rfl))) (mvT hZ (hw _ (List.mem_of_getElem? (i := 6) rfl))) (mvT hZ (hw _ (List.mem_of_getElem? (i := 11) rfl))) (by decide) (backOf (W := 2) (rm_v l Z a0 hw [] i4 (((nW i2) * (3 : Int32)) + (2 : Int32))  T389.heap n0 (Nat.le_trans Z0 (Nat.le_trans (Nat.le_trans (Nat.le_trans (Nat.le_trans (Nat.le_refl _) E375.1) R384_0.1) R387_0.1) R389_0.1)) ) hZ (hw _ (List.mem_of_getElem? (i := 11) rfl)) (hw _ (List.mem_of_getElem? (i := 6) rfl)) (by decide) (by decide)) (g := (mkF m 128 #[iv i0, iv i1, iv i2, .val (.long i3), .second, .val (.long i4), .second, iv (3 : Int32), iv (nD i1), iv (nW i2), rv b375, .val (.double (FP.dadd (FP.dmul (f_v i4 ((nW i2) * (3 : Int32))) (f_v i3 ((nD i1) * (3 : Int32)))) (FP.dmul (f_v i4 (((nW i2) * (3 : Int32)) + (1 : Int32))) (f_v i3 (((nD i1) * (3 : Int32)) + (1 : Int32)))))), .second] [(.int (((nW i2) * (3 : Int32)) + (2 : Int32))), (.long i4), (.double (FP.dadd (FP.dmul (f_v i4 ((nW i2) * (3 : Int32))) (f_v i3 ((nD i1) * (3 : Int32)))) (FP.dmul (f_v i4 (((nW i2) * (3 : Int32)) + (1 : Int32))) (f_v i3 (((nD i1) * (3 : Int32)) + (1 : Int32))))))])) rfl (by rw [hml]; rfl) (argsL := [(.long i4), (.int (((nW i2) * (3 : Int32)) + (2 : Int32)))]) (rest := [(.double (FP.dadd (FP.dmul (f_v i4 ((nW i2) * (3 : Int32))) (f_v i3 ((nD i1) * (3 : Int32)))) (FP.dmul (f_v i4 (((nW i2) * (3 : Int32)) + (1 : Int32))) (f_v i3 (((nD i1) * (3 : Int32)) + (1 : Int32))))))]) (lenOf pd0 rfl) rfl (by show 2 * 0 + _ ≤ _; exact Nat.le_of_eq rfl) (hb hby at_128) (fun _ _ => ⟨rfl, e401, (by decide : 3 + 0 ≤ _), (by decide : 21 + 0 ≤ _)⟩)
    dsimp only [Pt.U, Pt.locs, Pt.cells, Pt.slots] at X404 l404 y404 z404 st404 hQ404
    subst l404 y404 z404
    obtain ⟨rfl, N404, e404⟩ := hQ404
    have M404 := Fr.app M401 N404
    have g405 : Goes p e below S0 (T404.setTop (mkF m 131 #[iv i0, iv i1, iv i2, .val (.long i3), .second, .val (.long i4), .second, iv (3 : Int32), iv (nD i1), iv (nW i2), rv b375, .val (.double (FP.dadd (FP.dmul (f_v i4 ((nW i2) * (3 : Int32))) (f_v i3 ((nD i1) * (3 : Int32)))) (FP.dmul (f_v i4 (((nW i2) * (3 : Int32)) + (1 : Int32))) (f_v i3 (((nD i1) * (3 : Int32)) + (1 : Int32)))))), .second] [(.double (f_v i4 (((nW i2) * (3 : Int32)) + (2 : Int32)))), (.double (FP.dadd (FP.dmul (f_v i4 ((nW i2) * (3 : Int32))) (f_v i3 ((nD i1) * (3 : Int32)))) (FP.dmul (f_v i4 (((nW i2) * (3 : Int32)) + (1 : Int32))) (f_v i3 (((nD i1) * (3 : Int32)) + (1 : Int32))))))])) := fun t k => g403 t (st404 t k)
    have g406 : Goes p e below S0 (T404.setTop (mkF m 139 #[iv i0, iv i1, iv i2, .val (.long i3), .second, .val (.long i4), .second, iv (3 : Int32), iv (nD i1), iv (nW i2), rv b375, .val (.double (FP.dadd (FP.dmul (f_v i4 ((nW i2) * (3 : Int32))) (f_v i3 ((nD i1) * (3 : Int32)))) (FP.dmul (f_v i4 (((nW i2) * (3 : Int32)) + (1 : Int32))) (f_v i3 (((nD i1) * (3 : Int32)) + (1 : Int32)))))), .second] [(.int (((nD i1) * (3 : Int32)) + (2 : Int32))), (.long i3), (.double (f_v i4 (((nW i2) * (3 : Int32)) + (2 : Int32)))), (.double (FP.dadd (FP.dmul (f_v i4 ((nW i2) * (3 : Int32))) (f_v i3 ((nD i1) * (3 : Int32)))) (FP.dmul (f_v i4 (((nW i2) * (3 : Int32)) + (1 : Int32))) (f_v i3 (((nD i1) * (3 : Int32)) + (1 : Int32))))))])) := fun t k => g405 t (by
      refine XS.lloadN X404.here hx rfl (hb hby at_131) rfl ?_
      show Go p e below t T404 m 132 #[iv i0, iv i1, iv i2, .val (.long i3), .second, .val (.long i4), .second, iv (3 : Int32), iv (nD i1), iv (nW i2), rv b375, .val (.double (FP.dadd (FP.dmul (f_v i4 ((nW i2) * (3 : Int32))) (f_v i3 ((nD i1) * (3 : Int32)))) (FP.dmul (f_v i4 (((nW i2) * (3 : Int32)) + (1 : Int32))) (f_v i3 (((nD i1) * (3 : Int32)) + (1 : Int32)))))), .second] [(.long i3), (.double (f_v i4 (((nW i2) * (3 : Int32)) + (2 : Int32)))), (.double (FP.dadd (FP.dmul (f_v i4 ((nW i2) * (3 : Int32))) (f_v i3 ((nD i1) * (3 : Int32)))) (FP.dmul (f_v i4 (((nW i2) * (3 : Int32)) + (1 : Int32))) (f_v i3 (((nD i1) * (3 : Int32)) + (1 : Int32))))))]
      refine XS.iload X404.here hx rfl (hb hby at_132) rfl ?_
      show Go p e below t T404 m 134 #[iv i0, iv i1, iv i2, .val (.long i3), .second, .val (.long i4), .second, iv (3 : Int32), iv (nD i1), iv (nW i2), rv b375, .val (.double (FP.dadd (FP.dmul (f_v i4 ((nW i2) * (3 : Int32))) (f_v i3 ((nD i1) * (3 : Int32)))) (FP.dmul (f_v i4 (((nW i2) * (3 : Int32)) + (1 : Int32))) (f_v i3 (((nD i1) * (3 : Int32)) + (1 : Int32)))))), .second] [(.int (nD i1)), (.long i3), (.double (f_v i4 (((nW i2) * (3 : Int32)) + (2 : Int32)))), (.double (FP.dadd (FP.dmul (f_v i4 ((nW i2) * (3 : Int32))) (f_v i3 ((nD i1) * (3 : Int32)))) (FP.dmul (f_v i4 (((nW i2) * (3 : Int32)) + (1 : Int32))) (f_v i3 (((nD i1) * (3 : Int32)) + (1 : Int32))))))]
      refine XS.iload X404.here hx rfl (hb hby at_134) rfl ?_
      show Go p e below t T404 m 136 #[iv i0, iv i1, iv i2, .val (.long i3), .second, .val (.long i4), .second, iv (3 : Int32), iv (nD i1), iv (nW i2), rv b375, .val (.double (FP.dadd (FP.dmul (f_v i4 ((nW i2) * (3 : Int32))) (f_v i3 ((nD i1) * (3 : Int32)))) (FP.dmul (f_v i4 (((nW i2) * (3 : Int32)) + (1 : Int32))) (f_v i3 (((nD i1) * (3 : Int32)) + (1 : Int32)))))), .second] [(.int (3 : Int32)), (.int (nD i1)), (.long i3), (.double (f_v i4 (((nW i2) * (3 : Int32)) + (2 : Int32)))), (.double (FP.dadd (FP.dmul (f_v i4 ((nW i2) * (3 : Int32))) (f_v i3 ((nD i1) * (3 : Int32)))) (FP.dmul (f_v i4 (((nW i2) * (3 : Int32)) + (1 : Int32))) (f_v i3 (((nD i1) * (3 : Int32)) + (1 : Int32))))))]
      refine XS.imul X404.here hx rfl (hb hby at_136) rfl ?_
      show Go p e below t T404 m 137 #[iv i0, iv i1, iv i2, .val (.long i3), .second, .val (.long i4), .second, iv (3 : Int32), iv (nD i1), iv (nW i2), rv b375, .val (.double (FP.dadd (FP.dmul (f_v i4 ((nW i2) * (3 : Int32))) (f_v i3 ((nD i1) * (3 : Int32)))) (FP.dmul (f_v i4 (((nW i2) * (3 : Int32)) + (1 : Int32))) (f_v i3 (((nD i1) * (3 : Int32)) + (1 : Int32)))))), .second] [(.int ((nD i1) * (3 : Int32))), (.long i3), (.double (f_v i4 (((nW i2) * (3 : Int32)) + (2 : Int32)))), (.double (FP.dadd (FP.dmul (f_v i4 ((nW i2) * (3 : Int32))) (f_v i3 ((nD i1) * (3 : Int32)))) (FP.dmul (f_v i4 (((nW i2) * (3 : Int32)) + (1 : Int32))) (f_v i3 (((nD i1) * (3 : Int32)) + (1 : Int32))))))]
      refine XT.iconstV X404.here hx rfl (2 : Int32) (hb hby at_137) (by decide) ?_
      show Go p e below t T404 m 138 #[iv i0, iv i1, iv i2, .val (.long i3), .second, .val (.long i4), .second, iv (3 : Int32), iv (nD i1), iv (nW i2), rv b375, .val (.double (FP.dadd (FP.dmul (f_v i4 ((nW i2) * (3 : Int32))) (f_v i3 ((nD i1) * (3 : Int32)))) (FP.dmul (f_v i4 (((nW i2) * (3 : Int32)) + (1 : Int32))) (f_v i3 (((nD i1) * (3 : Int32)) + (1 : Int32)))))), .second] [(.int (2 : Int32)), (.int ((nD i1) * (3 : Int32))), (.long i3), (.double (f_v i4 (((nW i2) * (3 : Int32)) + (2 : Int32)))), (.double (FP.dadd (FP.dmul (f_v i4 ((nW i2) * (3 : Int32))) (f_v i3 ((nD i1) * (3 : Int32)))) (FP.dmul (f_v i4 (((nW i2) * (3 : Int32)) + (1 : Int32))) (f_v i3 (((nD i1) * (3 : Int32)) + (1 : Int32))))))]
      refine XS.iadd X404.here hx rfl (hb hby at_138) rfl ?_
      show Go p e below t T404 m 139 #[iv i0, iv i1, iv i2, .val (.long i3), .second, .val (.long i4), .second, iv (3 : Int32), iv (nD i1), iv (nW i2), rv b375, .val (.double (FP.dadd (FP.dmul (f_v i4 ((nW i2) * (3 : Int32))) (f_v i3 ((nD i1) * (3 : Int32)))) (FP.dmul (f_v i4 (((nW i2) * (3 : Int32)) + (1 : Int32))) (f_v i3 (((nD i1) * (3 : Int32)) + (1 : Int32)))))), .second] [(.int (((nD i1) * (3 : Int32)) + (2 : Int32))), (.long i3), (.double (f_v i4 (((nW i2) * (3 : Int32)) + (2 : Int32)))), (.double (FP.dadd (FP.dmul (f_v i4 ((nW i2) * (3 : Int32))) (f_v i3 ((nD i1) * (3 : Int32)))) (FP.dmul (f_v i4 (((nW i2) * (3 : Int32)) + (1 : Int32))) (f_v i3 (((nD i1) * (3 : Int32)) + (1 : Int32))))))]
      exact k)
    obtain ⟨_, _, ⟨T407, L407, k407, n407⟩, -, X407, ⟨Lc407, hQ407, l407, y407, z407⟩, st407⟩ := Jvm.LawKit.callS X404 hx (y := (⟨"com/example/borrowed_prior/borrowedprior/model/TopicModelTermProbabilityPinLaw", "v", "(JI)D"⟩ : MethodName)) hown (mvT hZ (hw _ (List.mem_of_getElem? (i := 9) rfl))) (mvT hZ (hw _ (List.mem_of_getElem? (i := 10) rfl))) (mvT hZ (hw _ (List.mem_of_getElem? (i := 6) rfl))) (mvT hZ (hw _ (List.mem_of_getElem? (i := 11) rfl))) (by decide) (backOf (W := 4) (rm_v l Z a0 hw [] i3 (((nD i1) * (3 : Int32)) + (2 : Int32))  T389.heap n0 (Nat.le_trans Z0 (Nat.le_trans (Nat.le_trans (Nat.le_trans (Nat.le_trans (Nat.le_refl _) E375.1) R384_0.1) R387_0.1) R389_0.1)) ) hZ (hw _ (List.mem_of_getElem? (i := 11) rfl)) (hw _ (List.mem_of_getElem? (i := 6) rfl)) (by decide) (by decide)) (g := (mkF m 139 #[iv i0, iv i1, iv i2, .val (.long i3), .second, .val (.long i4), .second, iv (3 : Int32), iv (nD i1), iv (nW i2), rv b375, .val (.double (FP.dadd (FP.dmul (f_v i4 ((nW i2) * (3 : Int32))) (f_v i3 ((nD i1) * (3 : Int32)))) (FP.dmul (f_v i4 (((nW i2) * (3 : Int32)) + (1 : Int32))) (f_v i3 (((nD i1) * (3 : Int32)) + (1 : Int32)))))), .second] [(.int (((nD i1) * (3 : Int32)) + (2 : Int32))), (.long i3), (.double (f_v i4 (((nW i2) * (3 : Int32)) + (2 : Int32)))), (.double (FP.dadd (FP.dmul (f_v i4 ((nW i2) * (3 : Int32))) (f_v i3 ((nD i1) * (3 : Int32)))) (FP.dmul (f_v i4 (((nW i2) * (3 : Int32)) + (1 : Int32))) (f_v i3 (((nD i1) * (3 : Int32)) + (1 : Int32))))))])) rfl (by rw [hml]; rfl) (argsL := [(.long i3), (.int (((nD i1) * (3 : Int32)) + (2 : Int32)))]) (rest := [(.double (f_v i4 (((nW i2) * (3 : Int32)) + (2 : Int32)))), (.double (FP.dadd (FP.dmul (f_v i4 ((nW i2) * (3 : Int32))) (f_v i3 ((nD i1) * (3 : Int32)))) (FP.dmul (f_v i4 (((nW i2) * (3 : Int32)) + (1 : Int32))) (f_v i3 (((nD i1) * (3 : Int32)) + (1 : Int32))))))]) (lenOf pd0 rfl) rfl (by show 2 * 0 + _ ≤ _; exact Nat.le_of_eq rfl) (hb hby at_139) (fun _ _ => ⟨rfl, e404, (by decide : 3 + 0 ≤ _), (by decide : 21 + 0 ≤ _)⟩)
    dsimp only [Pt.U, Pt.locs, Pt.cells, Pt.slots] at X407 l407 y407 z407 st407 hQ407
    subst l407 y407 z407
    obtain ⟨rfl, N407, e407⟩ := hQ407
    have M407 := Fr.app M404 N407
    have g408 : Goes p e below S0 (T407.setTop (mkF m 142 #[iv i0, iv i1, iv i2, .val (.long i3), .second, .val (.long i4), .second, iv (3 : Int32), iv (nD i1), iv (nW i2), rv b375, .val (.double (FP.dadd (FP.dmul (f_v i4 ((nW i2) * (3 : Int32))) (f_v i3 ((nD i1) * (3 : Int32)))) (FP.dmul (f_v i4 (((nW i2) * (3 : Int32)) + (1 : Int32))) (f_v i3 (((nD i1) * (3 : Int32)) + (1 : Int32)))))), .second] [(.double (f_v i3 (((nD i1) * (3 : Int32)) + (2 : Int32)))), (.double (f_v i4 (((nW i2) * (3 : Int32)) + (2 : Int32)))), (.double (FP.dadd (FP.dmul (f_v i4 ((nW i2) * (3 : Int32))) (f_v i3 ((nD i1) * (3 : Int32)))) (FP.dmul (f_v i4 (((nW i2) * (3 : Int32)) + (1 : Int32))) (f_v i3 (((nD i1) * (3 : Int32)) + (1 : Int32))))))])) := fun t k => g406 t (st407 t k)
    have g409 : Goes p e below S0 (T407.setTop (mkF m 152 #[iv i0, iv i1, iv i2, .val (.long i3), .second, .val (.long i4), .second, iv (3 : Int32), iv (nD i1), iv (nW i2), rv b375, .val (.double (FP.dadd (FP.dadd (FP.dmul (f_v i4 ((nW i2) * (3 : Int32))) (f_v i3 ((nD i1) * (3 : Int32)))) (FP.dmul (f_v i4 (((nW i2) * (3 : Int32)) + (1 : Int32))) (f_v i3 (((nD i1) * (3 : Int32)) + (1 : Int32))))) (FP.dmul (f_v i4 (((nW i2) * (3 : Int32)) + (2 : Int32))) (f_v i3 (((nD i1) * (3 : Int32)) + (2 : Int32)))))), .second] [(.int (nW i2)), (.int (nD i1)), (.ref b375)])) := fun t k => g408 t (by
      refine XS.dmulS X407.here hx rfl (hb hby at_142) rfl (Pr.nn (Pr.mul (own_nib _ _) (own_nib _ _))) rfl ?_
      show Go p e below t T407 m 143 #[iv i0, iv i1, iv i2, .val (.long i3), .second, .val (.long i4), .second, iv (3 : Int32), iv (nD i1), iv (nW i2), rv b375, .val (.double (FP.dadd (FP.dmul (f_v i4 ((nW i2) * (3 : Int32))) (f_v i3 ((nD i1) * (3 : Int32)))) (FP.dmul (f_v i4 (((nW i2) * (3 : Int32)) + (1 : Int32))) (f_v i3 (((nD i1) * (3 : Int32)) + (1 : Int32)))))), .second] [(.double (FP.dmul (f_v i4 (((nW i2) * (3 : Int32)) + (2 : Int32))) (f_v i3 (((nD i1) * (3 : Int32)) + (2 : Int32))))), (.double (FP.dadd (FP.dmul (f_v i4 ((nW i2) * (3 : Int32))) (f_v i3 ((nD i1) * (3 : Int32)))) (FP.dmul (f_v i4 (((nW i2) * (3 : Int32)) + (1 : Int32))) (f_v i3 (((nD i1) * (3 : Int32)) + (1 : Int32))))))]
      refine XS.daddS X407.here hx rfl (hb hby at_143) rfl (Pr.nn (Pr.add (Pr.add (Pr.mul (own_nib _ _) (own_nib _ _)) (Pr.mul (own_nib _ _) (own_nib _ _)) (by decide)) (Pr.mul (own_nib _ _) (own_nib _ _)) (by decide))) rfl ?_
      show Go p e below t T407 m 144 #[iv i0, iv i1, iv i2, .val (.long i3), .second, .val (.long i4), .second, iv (3 : Int32), iv (nD i1), iv (nW i2), rv b375, .val (.double (FP.dadd (FP.dmul (f_v i4 ((nW i2) * (3 : Int32))) (f_v i3 ((nD i1) * (3 : Int32)))) (FP.dmul (f_v i4 (((nW i2) * (3 : Int32)) + (1 : Int32))) (f_v i3 (((nD i1) * (3 : Int32)) + (1 : Int32)))))), .second] [(.double (FP.dadd (FP.dadd (FP.dmul (f_v i4 ((nW i2) * (3 : Int32))) (f_v i3 ((nD i1) * (3 : Int32)))) (FP.dmul (f_v i4 (((nW i2) * (3 : Int32)) + (1 : Int32))) (f_v i3 (((nD i1) * (3 : Int32)) + (1 : Int32))))) (FP.dmul (f_v i4 (((nW i2) * (3 : Int32)) + (2 : Int32))) (f_v i3 (((nD i1) * (3 : Int32)) + (2 : Int32))))))]
      refine XS.dstore X407.here hx rfl (hb hby at_144) rfl (l' := #[iv i0, iv i1, iv i2, .val (.long i3), .second, .val (.long i4), .second, iv (3 : Int32), iv (nD i1), iv (nW i2), rv b375, .val (.double (FP.dadd (FP.dadd (FP.dmul (f_v i4 ((nW i2) * (3 : Int32))) (f_v i3 ((nD i1) * (3 : Int32)))) (FP.dmul (f_v i4 (((nW i2) * (3 : Int32)) + (1 : Int32))) (f_v i3 (((nD i1) * (3 : Int32)) + (1 : Int32))))) (FP.dmul (f_v i4 (((nW i2) * (3 : Int32)) + (2 : Int32))) (f_v i3 (((nD i1) * (3 : Int32)) + (2 : Int32)))))), .second]) rfl ?_
      show Go p e below t T407 m 146 #[iv i0, iv i1, iv i2, .val (.long i3), .second, .val (.long i4), .second, iv (3 : Int32), iv (nD i1), iv (nW i2), rv b375, .val (.double (FP.dadd (FP.dadd (FP.dmul (f_v i4 ((nW i2) * (3 : Int32))) (f_v i3 ((nD i1) * (3 : Int32)))) (FP.dmul (f_v i4 (((nW i2) * (3 : Int32)) + (1 : Int32))) (f_v i3 (((nD i1) * (3 : Int32)) + (1 : Int32))))) (FP.dmul (f_v i4 (((nW i2) * (3 : Int32)) + (2 : Int32))) (f_v i3 (((nD i1) * (3 : Int32)) + (2 : Int32)))))), .second] []
      refine XS.aload X407.here hx rfl (hb hby at_146) rfl rfl ?_
      show Go p e below t T407 m 148 #[iv i0, iv i1, iv i2, .val (.long i3), .second, .val (.long i4), .second, iv (3 : Int32), iv (nD i1), iv (nW i2), rv b375, .val (.double (FP.dadd (FP.dadd (FP.dmul (f_v i4 ((nW i2) * (3 : Int32))) (f_v i3 ((nD i1) * (3 : Int32)))) (FP.dmul (f_v i4 (((nW i2) * (3 : Int32)) + (1 : Int32))) (f_v i3 (((nD i1) * (3 : Int32)) + (1 : Int32))))) (FP.dmul (f_v i4 (((nW i2) * (3 : Int32)) + (2 : Int32))) (f_v i3 (((nD i1) * (3 : Int32)) + (2 : Int32)))))), .second] [(.ref b375)]
      refine XS.iload X407.here hx rfl (hb hby at_148) rfl ?_
      show Go p e below t T407 m 150 #[iv i0, iv i1, iv i2, .val (.long i3), .second, .val (.long i4), .second, iv (3 : Int32), iv (nD i1), iv (nW i2), rv b375, .val (.double (FP.dadd (FP.dadd (FP.dmul (f_v i4 ((nW i2) * (3 : Int32))) (f_v i3 ((nD i1) * (3 : Int32)))) (FP.dmul (f_v i4 (((nW i2) * (3 : Int32)) + (1 : Int32))) (f_v i3 (((nD i1) * (3 : Int32)) + (1 : Int32))))) (FP.dmul (f_v i4 (((nW i2) * (3 : Int32)) + (2 : Int32))) (f_v i3 (((nD i1) * (3 : Int32)) + (2 : Int32)))))), .second] [(.int (nD i1)), (.ref b375)]
      refine XS.iload X407.here hx rfl (hb hby at_150) rfl ?_
      show Go p e below t T407 m 152 #[iv i0, iv i1, iv i2, .val (.long i3), .second, .val (.long i4), .second, iv (3 : Int32), iv (nD i1), iv (nW i2), rv b375, .val (.double (FP.dadd (FP.dadd (FP.dmul (f_v i4 ((nW i2) * (3 : Int32))) (f_v i3 ((nD i1) * (3 : Int32)))) (FP.dmul (f_v i4 (((nW i2) * (3 : Int32)) + (1 : Int32))) (f_v i3 (((nD i1) * (3 : Int32)) + (1 : Int32))))) (FP.dmul (f_v i4 (((nW i2) * (3 : Int32)) + (2 : Int32))) (f_v i3 (((nD i1) * (3 : Int32)) + (2 : Int32)))))), .second] [(.int (nW i2)), (.int (nD i1)), (.ref b375)]
      exact k)
    obtain ⟨cq410, kq410, q410a, q410b, q410c⟩ := isOf hZ e407 R389_1
    obtain ⟨_, _, ⟨T410, L410, k410, n410⟩, -, X410, ⟨Lc410, hQ410, l410, y410, z410⟩, st410⟩ := X407.virtualBack hx (y := (⟨"com/example/borrowed_prior/borrowedprior/model/TopicModel", "termProbability", "(II)D"⟩ : MethodName)) (z := (⟨"com/example/borrowed_prior/borrowedprior/model/TopicModel", "termProbability", "(II)D"⟩ : MethodName)) hown (mvT hZ (hw _ (List.mem_of_getElem? (i := 35) rfl))) (mvT hZ (hw _ (List.mem_of_getElem? (i := 36) rfl))) (notFace_of_selects (args := #[]) (mvT hZ (hw _ (List.mem_of_getElem? (i := 38) rfl)))) (mvT hZ (hw _ (List.mem_of_getElem? (i := 38) rfl))) (mvT hZ (hw _ (List.mem_of_getElem? (i := 37) rfl))) (by decide) (backOf (W := 0) (rm_tp3 l Z a0 hw [] b375 (nD i1) (nW i2) ra_387 ra_384 rk_387 (6 : Int32) [(.double (f_v i4 (0 : Int32))), (.double (f_v i4 (1 : Int32))), (.double (f_v i4 (2 : Int32))), (.double (f_v i4 (3 : Int32))), (.double (f_v i4 (4 : Int32))), (.double (f_v i4 (5 : Int32)))] (.double (0 : UInt64)) rk_384 (9 : Int32) [(.double (f_v i3 (0 : Int32))), (.double (f_v i3 (1 : Int32))), (.double (f_v i3 (2 : Int32))), (.double (f_v i3 (3 : Int32))), (.double (f_v i3 (4 : Int32))), (.double (f_v i3 (5 : Int32))), (.double (f_v i3 (6 : Int32))), (.double (f_v i3 (7 : Int32))), (.double (f_v i3 (8 : Int32)))] (.double (0 : UInt64)) (f_v i4 ((nW i2) * (3 : Int32))) (f_v i4 (((nW i2) * (3 : Int32)) + (1 : Int32))) (f_v i4 (((nW i2) * (3 : Int32)) + (2 : Int32))) (f_v i3 ((nD i1) * (3 : Int32))) (f_v i3 (((nD i1) * (3 : Int32)) + (1 : Int32))) (f_v i3 (((nD i1) * (3 : Int32)) + (2 : Int32))) T389.heap n0 (Nat.le_trans Z0 (Nat.le_trans (Nat.le_trans (Nat.le_trans (Nat.le_trans (Nat.le_refl _) E375.1) R384_0.1) R387_0.1) R389_0.1)) R389_2 R389_7 R389_6 (R387_1.keep R389_0 (ninS (Ne.symm (Nat.ne_of_lt (Nat.lt_of_lt_of_le (A375.keep R384_0).lt R387_2))) nin0)) ((R384_1.keep R387_0 nin0).keep R389_0 (ninS (Ne.symm (Nat.ne_of_lt (Nat.lt_of_lt_of_le A375.lt R384_2))) nin0)) (own_ia3_0 i2) (own_ea3_0 i2 i4) (own_ib3_0 i1) (own_eb3_0 i1 i3) (own_nib _ _) (own_nib _ _) (own_ia3_1 i2) (own_ea3_1 i2 i4) (own_ib3_1 i1) (own_eb3_1 i1 i3) (own_nib _ _) (own_nib _ _) (own_ia3_2 i2) (own_ea3_2 i2 i4) (own_ib3_2 i1) (own_eb3_2 i1 i3) (own_nib _ _) (own_nib _ _)) hZ (hw _ (List.mem_of_getElem? (i := 39) rfl)) (hw _ (List.mem_of_getElem? (i := 3) rfl)) (by decide) (by decide)) q410a q410c (g := (mkF m 152 #[iv i0, iv i1, iv i2, .val (.long i3), .second, .val (.long i4), .second, iv (3 : Int32), iv (nD i1), iv (nW i2), rv b375, .val (.double (FP.dadd (FP.dadd (FP.dmul (f_v i4 ((nW i2) * (3 : Int32))) (f_v i3 ((nD i1) * (3 : Int32)))) (FP.dmul (f_v i4 (((nW i2) * (3 : Int32)) + (1 : Int32))) (f_v i3 (((nD i1) * (3 : Int32)) + (1 : Int32))))) (FP.dmul (f_v i4 (((nW i2) * (3 : Int32)) + (2 : Int32))) (f_v i3 (((nD i1) * (3 : Int32)) + (2 : Int32)))))), .second] [(.int (nW i2)), (.int (nD i1)), (.ref b375)])) rfl (by rw [hml]; rfl) (Steps.refl _) (argsL := [(.int (nD i1)), (.int (nW i2))]) (rest := []) (lenOf pd4 rfl) rfl (by show 2 * 0 + _ ≤ _; exact Nat.le_of_eq rfl) (hb hby at_152) (fun _ _ => ⟨rfl, e407, (by decide : 3 + 0 ≤ _), (by decide : 21 + 0 ≤ _)⟩)
    dsimp only [Pt.U, Pt.locs, Pt.cells, Pt.slots] at X410 l410 y410 z410 st410 hQ410
    subst l410 y410 z410
    obtain ⟨rfl, N410, R410_0⟩ := hQ410
    have M410 := Fr.app M407 N410
    have g411 : Goes p e below S0 (T410.setTop (mkF m 155 #[iv i0, iv i1, iv i2, .val (.long i3), .second, .val (.long i4), .second, iv (3 : Int32), iv (nD i1), iv (nW i2), rv b375, .val (.double (FP.dadd (FP.dadd (FP.dmul (f_v i4 ((nW i2) * (3 : Int32))) (f_v i3 ((nD i1) * (3 : Int32)))) (FP.dmul (f_v i4 (((nW i2) * (3 : Int32)) + (1 : Int32))) (f_v i3 (((nD i1) * (3 : Int32)) + (1 : Int32))))) (FP.dmul (f_v i4 (((nW i2) * (3 : Int32)) + (2 : Int32))) (f_v i3 (((nD i1) * (3 : Int32)) + (2 : Int32)))))), .second] [(.double (FP.dadd (FP.dadd (FP.dadd (0 : UInt64) (FP.dmul (f_v i4 ((nW i2) * (3 : Int32))) (f_v i3 ((nD i1) * (3 : Int32))))) (FP.dmul (f_v i4 (((nW i2) * (3 : Int32)) + (1 : Int32))) (f_v i3 (((nD i1) * (3 : Int32)) + (1 : Int32))))) (FP.dmul (f_v i4 (((nW i2) * (3 : Int32)) + (2 : Int32))) (f_v i3 (((nD i1) * (3 : Int32)) + (2 : Int32))))))])) := fun t k => g409 t (st410.trans k)
    have g412 : Goes p e below S0 (T410.setTop (mkF m 166 #[iv i0, iv i1, iv i2, .val (.long i3), .second, .val (.long i4), .second, iv (3 : Int32), iv (nD i1), iv (nW i2), rv b375, .val (.double (FP.dadd (FP.dadd (FP.dmul (f_v i4 ((nW i2) * (3 : Int32))) (f_v i3 ((nD i1) * (3 : Int32)))) (FP.dmul (f_v i4 (((nW i2) * (3 : Int32)) + (1 : Int32))) (f_v i3 (((nD i1) * (3 : Int32)) + (1 : Int32))))) (FP.dmul (f_v i4 (((nW i2) * (3 : Int32)) + (2 : Int32))) (f_v i3 (((nD i1) * (3 : Int32)) + (2 : Int32)))))), .second] [(.int (1 : Int32))])) := fun t k => g411 t (by
      refine XS.dload X410.here hx rfl (hb hby at_155) rfl ?_
      show Go p e below t T410 m 157 #[iv i0, iv i1, iv i2, .val (.long i3), .second, .val (.long i4), .second, iv (3 : Int32), iv (nD i1), iv (nW i2), rv b375, .val (.double (FP.dadd (FP.dadd (FP.dmul (f_v i4 ((nW i2) * (3 : Int32))) (f_v i3 ((nD i1) * (3 : Int32)))) (FP.dmul (f_v i4 (((nW i2) * (3 : Int32)) + (1 : Int32))) (f_v i3 (((nD i1) * (3 : Int32)) + (1 : Int32))))) (FP.dmul (f_v i4 (((nW i2) * (3 : Int32)) + (2 : Int32))) (f_v i3 (((nD i1) * (3 : Int32)) + (2 : Int32)))))), .second] [(.double (FP.dadd (FP.dadd (FP.dmul (f_v i4 ((nW i2) * (3 : Int32))) (f_v i3 ((nD i1) * (3 : Int32)))) (FP.dmul (f_v i4 (((nW i2) * (3 : Int32)) + (1 : Int32))) (f_v i3 (((nD i1) * (3 : Int32)) + (1 : Int32))))) (FP.dmul (f_v i4 (((nW i2) * (3 : Int32)) + (2 : Int32))) (f_v i3 (((nD i1) * (3 : Int32)) + (2 : Int32)))))), (.double (FP.dadd (FP.dadd (FP.dadd (0 : UInt64) (FP.dmul (f_v i4 ((nW i2) * (3 : Int32))) (f_v i3 ((nD i1) * (3 : Int32))))) (FP.dmul (f_v i4 (((nW i2) * (3 : Int32)) + (1 : Int32))) (f_v i3 (((nD i1) * (3 : Int32)) + (1 : Int32))))) (FP.dmul (f_v i4 (((nW i2) * (3 : Int32)) + (2 : Int32))) (f_v i3 (((nD i1) * (3 : Int32)) + (2 : Int32))))))]
      refine XS.dcmpS X410.here hx rfl (hb hby at_157) rfl rfl ?_
      show Go p e below t T410 m 158 #[iv i0, iv i1, iv i2, .val (.long i3), .second, .val (.long i4), .second, iv (3 : Int32), iv (nD i1), iv (nW i2), rv b375, .val (.double (FP.dadd (FP.dadd (FP.dmul (f_v i4 ((nW i2) * (3 : Int32))) (f_v i3 ((nD i1) * (3 : Int32)))) (FP.dmul (f_v i4 (((nW i2) * (3 : Int32)) + (1 : Int32))) (f_v i3 (((nD i1) * (3 : Int32)) + (1 : Int32))))) (FP.dmul (f_v i4 (((nW i2) * (3 : Int32)) + (2 : Int32))) (f_v i3 (((nD i1) * (3 : Int32)) + (2 : Int32)))))), .second] [(.int (cmpValue (FP.dcmp (FP.dadd (FP.dadd (FP.dadd (0 : UInt64) (FP.dmul (f_v i4 ((nW i2) * (3 : Int32))) (f_v i3 ((nD i1) * (3 : Int32))))) (FP.dmul (f_v i4 (((nW i2) * (3 : Int32)) + (1 : Int32))) (f_v i3 (((nD i1) * (3 : Int32)) + (1 : Int32))))) (FP.dmul (f_v i4 (((nW i2) * (3 : Int32)) + (2 : Int32))) (f_v i3 (((nD i1) * (3 : Int32)) + (2 : Int32))))) (FP.dadd (FP.dadd (FP.dmul (f_v i4 ((nW i2) * (3 : Int32))) (f_v i3 ((nD i1) * (3 : Int32)))) (FP.dmul (f_v i4 (((nW i2) * (3 : Int32)) + (1 : Int32))) (f_v i3 (((nD i1) * (3 : Int32)) + (1 : Int32))))) (FP.dmul (f_v i4 (((nW i2) * (3 : Int32)) + (2 : Int32))) (f_v i3 (((nD i1) * (3 : Int32)) + (2 : Int32)))))) .l))]
      refine XS.ifNo X410.here hx rfl (hb hby at_158) rfl (dc_l_ne_f (own_k3e (own_nib _ _) (own_nib _ _) (own_nib _ _) (own_nib _ _) (own_nib _ _) (own_nib _ _))) ?_
      show Go p e below t T410 m 161 #[iv i0, iv i1, iv i2, .val (.long i3), .second, .val (.long i4), .second, iv (3 : Int32), iv (nD i1), iv (nW i2), rv b375, .val (.double (FP.dadd (FP.dadd (FP.dmul (f_v i4 ((nW i2) * (3 : Int32))) (f_v i3 ((nD i1) * (3 : Int32)))) (FP.dmul (f_v i4 (((nW i2) * (3 : Int32)) + (1 : Int32))) (f_v i3 (((nD i1) * (3 : Int32)) + (1 : Int32))))) (FP.dmul (f_v i4 (((nW i2) * (3 : Int32)) + (2 : Int32))) (f_v i3 (((nD i1) * (3 : Int32)) + (2 : Int32)))))), .second] []
      refine XT.iconstV X410.here hx rfl (1 : Int32) (hb hby at_161) (by decide) ?_
      show Go p e below t T410 m 162 #[iv i0, iv i1, iv i2, .val (.long i3), .second, .val (.long i4), .second, iv (3 : Int32), iv (nD i1), iv (nW i2), rv b375, .val (.double (FP.dadd (FP.dadd (FP.dmul (f_v i4 ((nW i2) * (3 : Int32))) (f_v i3 ((nD i1) * (3 : Int32)))) (FP.dmul (f_v i4 (((nW i2) * (3 : Int32)) + (1 : Int32))) (f_v i3 (((nD i1) * (3 : Int32)) + (1 : Int32))))) (FP.dmul (f_v i4 (((nW i2) * (3 : Int32)) + (2 : Int32))) (f_v i3 (((nD i1) * (3 : Int32)) + (2 : Int32)))))), .second] [(.int (1 : Int32))]
      refine XS.goto X410.here hx rfl (pc0 := 162) (pc' := 166) rfl (hb hby at_162) (by decide) (by decide) ?_
      show Go p e below t T410 m 166 #[iv i0, iv i1, iv i2, .val (.long i3), .second, .val (.long i4), .second, iv (3 : Int32), iv (nD i1), iv (nW i2), rv b375, .val (.double (FP.dadd (FP.dadd (FP.dmul (f_v i4 ((nW i2) * (3 : Int32))) (f_v i3 ((nD i1) * (3 : Int32)))) (FP.dmul (f_v i4 (((nW i2) * (3 : Int32)) + (1 : Int32))) (f_v i3 (((nD i1) * (3 : Int32)) + (1 : Int32))))) (FP.dmul (f_v i4 (((nW i2) * (3 : Int32)) + (2 : Int32))) (f_v i3 (((nD i1) * (3 : Int32)) + (2 : Int32)))))), .second] [(.int (1 : Int32))]
      exact k)
    obtain ⟨fs, hr, hrun, hended, hW, hsame⟩ := X410.leave (v := some (.int (1 : Int32))) (fun h => by rw [Bd.returns] at h; cases h)
    refine ⟨_, _, g412 _ (retN X410 hx (t := .boolean) Bd.returns (by simp) (hb hby at_166) hr), hrun, hended, _, _, rfl, ?_, ⟨_, rfl⟩, hW, hsame.mono (by decide) (by decide)⟩
    show Q_law Z i0 i1 i2 i3 i4  h0 n0 _ T410.heap _
    rw [R410_0]
    exact ⟨rfl, M410⟩
theorem own_one (a b c : Int32) (d e : Int64) : f_law a b c d e = 1 := rfl
set_option maxRecDepth 65536 in
set_option maxHeartbeats 40000000 in
theorem comes_1 {Post : Tables → Env → Array Value → State → Outcome → State → Prop} (hpost : ∀ tb e args s v u, (limb_1_1.after args s (.returned v) u = true ∧ limb_1_2.after args s (.returned v) u = true ∧ True) → FrameEnd s (.returned v) u (Jvm.fieldLocs frame_1_writes args s ++ Jvm.arrayLocs frame_1_arrays args s ++ Jvm.staticLocs frame_1_statics s) 16 128 → Post tb e args s (.returned v) u) :
    ArmFor flags0 classFile x code maxLocals ret World_1 tables_1 room_1 Calls_1 rest_1 Pre_1 Post := by
  intro l hfl _ _ p e ha hc hk s m args below hf hA hF happ hP
  obtain ⟨hcalls, hrest, hpre⟩ := hP
  obtain ⟨-, -, -, hnamed, -, -, -, hat⟩ := (Spec.applies_iff hf).mp happ
  obtain ⟨hg, hn⟩ := and_e (Cond.before_iff.mp (show (Jvm.Cond.and given_1 narrow_1).before args s = true from hpre))
  obtain ⟨hcount, q0⟩ := and_e hg
  obtain ⟨b0, q1⟩ := and_e q0
  obtain ⟨b1, q2⟩ := and_e q1
  obtain ⟨b2, q3⟩ := and_e q2
  obtain ⟨b3, q4⟩ := and_e q3
  have b4 := q4
  obtain ⟨w0, w1, w2, w3, w4, rfl⟩ : ∃ w0 w1 w2 w3 w4 : Value, args = #[w0, w1, w2, w3, w4] := by
    have hs : args.size = 5 := by simpa [Cond.value, given_1] using hcount
    obtain ⟨L⟩ := args
    match L, hs with
    | [w0, w1, w2, w3, w4], _ => exact ⟨w0, w1, w2, w3, w4, rfl⟩
  have hw := fun d (hd : d ∈ tables_1) => atoms_spec (ws := Jvm.Cond.code x code maxLocals ret :: tables_1) hat d (List.mem_cons_of_mem _ hd)
  have hfit : Fit s := fun {y c} hc i hi => by
    obtain ⟨ha, rfl⟩ := Array.getElem?_eq_some_iff.mp hc
    have q := List.all_eq_true.mp ((Array.all_eq_true_iff_forall_mem.mp hF) _ (Array.getElem_mem ha)) i (List.mem_range.mpr hi)
    simpa [Array.getElem?_eq_getElem hi] using q
  obtain ⟨i0, r0⟩ := is_v b0
  obtain rfl : w0 = (.int i0) := Option.some.inj r0
  obtain ⟨i1, r1⟩ := is_v b1
  obtain rfl : w1 = (.int i1) := Option.some.inj r1
  obtain ⟨i2, r2⟩ := is_v b2
  obtain rfl : w2 = (.int i2) := Option.some.inj r2
  obtain ⟨i3, r3⟩ := isL_v b3
  obtain rfl : w3 = (.long i3) := Option.some.inj r3
  obtain ⟨i4, r4⟩ := isL_v b4
  obtain rfl : w4 = (.long i4) := Option.some.inj r4
  obtain ⟨n, o, h1, h2, h3, v, L, rfl, ⟨hv, N⟩, hq⟩ := rm_law l s _ hw tables_1 i0 i1 i2 i3 i4  s.heap s.heap.size (Nat.le_refl _)  p e ha hc hk s m _ below hf ((Spec.applies_iff_loose hf).mp happ).1 ⟨rfl, State.Warmed39.refl s, rfl⟩ trivial
  obtain rfl : v = some (.int 1) := by rw [hv, own_one]
  refine ⟨n, _, h1, h2, h3, hpost _ _ _ _ _ _ ⟨Cond.after_iff.mpr rfl, Cond.after_iff.mpr (eq_i res_at (Term.int_eval (1)) rfl), trivial⟩ ⟨hq.1, hq.2.1, (hq.2.2.sift fun y hy => Or.inr (N y hy)).mono (by decide) (by decide)⟩⟩
theorem main_1_1 : Claimed_1_1 := comes_1 fun _ _ _ _ _ _ h hF => ⟨h.1, hF⟩
theorem main_1_2 : Claimed_1_2 := comes_1 fun _ _ _ _ _ _ h hF => ⟨h.2.1, hF⟩
end Jvm.Pilot.@@N@@
namespace Jvm.Pilot.@@N@@
open Jvm Jvm.ClassFile Sem Op Lib Jvm.Free Jvm.Stand Jvm.Pilot.@@N@@.Jvm.D
/-! MADE BY PROGRAM (witnessworld.py) out of the Statement's table words and the real class files: 11 classes; the members and pool entries that the words name. The judged class is class 1, her method 3. -/
namespace start1
open Jvm.ClassFile
def u (s : String) : CpInfo := .utf8 (stringToUtf16 s)
/-- a pool by its gaps: so many unusable entries, then the entry; so many at the end -/
def gap : Nat → List CpInfo → List CpInfo
  | 0, r => r
  | n + 1, r => .unusable :: gap n r
def poolList (es : List (Nat × CpInfo)) (last : Nat) : List CpInfo := es.foldr (fun e r => gap e.1 (e.2 :: r)) (gap last [])
def pool (es : List (Nat × CpInfo)) (last : Nat) : Array CpInfo := ⟨poolList es last⟩
def fileOf (pool : Array CpInfo) (this : Nat) (attrs : Array Attribute := #[]) (ms : Array MethodInfo := #[]) (fl : Nat := 33) (sup : Nat := 0) (ifs : Array Nat := #[]) (fds : Array FieldInfo := #[]) : ClassFile where
  minorVersion := 0
  majorVersion := 65
  constantPool := pool
  accessFlags := fl
  thisClass := this
  superClass := sup
  interfaces := ifs
  fields := fds
  methods := ms
  attributes := attrs
def plain (name : String) (sup : Option ClassId) : Class where
  name := name
  kind := .ordinary
  loader := none
  accessFlags := 33
  super := sup
  interfaces := #[]
  cf := none
  fields := #[]
  methods := #[]
  instanceTypes := #[]
  staticTypes := #[]
  resolved := #[]
  callSites := []
  init := .initialized
  statics := none
  mirror := none

def pool0 : Array CpInfo := pool [(5, u "<init>"), (0, u "()V"), (1, .class_ 10), (1, u "java/lang/Object")] 113

def k0c0 : Code := { maxStack := 0, maxLocals := 1, code := object_method_1_code, exceptionTable := #[], attributes := #[] }
def k0m0 : Method := { name := "<init>", desc := "()V", sig := { parameters := [], returnType := none }, accessFlags := 1, code := some k0c0 }
/-- java/lang/Object -/
def k0 : Class := { plain "java/lang/Object" none with
  accessFlags := 33
  interfaces := #[]
  cf := some (fileOf pool0 8 #[] #[{ accessFlags := 1, nameIndex := 5, descriptorIndex := 6, attributes := #[] }] 33 0 #[] #[])
  fields := #[]
  methods := #[k0m0]
  instanceTypes := #[]
  staticTypes := #[]
  resolved := Array.replicate 124 none
  statics := none }

def pool1 : Array CpInfo := pool [(2, .class_ 4), (1, u "java/lang/Object"), (0, u "<init>"), (0, u "()V"), (0, .long 15), (1, .double 4625196817309499392), (1, .methodref 12 13), (0, .class_ 14), (0, .nameAndType 15 16), (0, u "com/example/borrowed_prior/borrowedprior/model/TopicModelTermProbabilityPinLaw"), (0, u "v"), (0, u "(JI)D"), (0, .integer 2147483647), (0, .class_ 19), (0, u "com/example/borrowed_prior/borrowedprior/model/TopicModel"), (0, .methodref 12 21), (0, .nameAndType 22 23), (0, u "draw"), (0, u "(JI)[D"), (0, .methodref 18 25), (0, .nameAndType 5 26), (0, u "(IIIJ[D[D)V"), (0, .methodref 18 28), (0, .nameAndType 29 30), (0, u "termProbability"), (0, u "(II)D"), (3, u "law"), (0, u "(IIIJJ)Z")] 2

def k1m0 : Method := { name := "<init>", desc := "()V", sig := { parameters := [], returnType := none }, accessFlags := 1, code := none }
def k1c1 : Code := { maxStack := 4, maxLocals := 3, code := method_2_code, exceptionTable := #[], attributes := #[] }
def k1m1 : Method := { name := "v", desc := "(JI)D", sig := { parameters := [.long, .int], returnType := some .double }, accessFlags := 10, code := some k1c1 }
def k1c2 : Code := { maxStack := 6, maxLocals := 3, code := method_3_code, exceptionTable := #[], attributes := #[] }
def k1m2 : Method := { name := "draw", desc := "(JI)[D", sig := { parameters := [.long, .int], returnType := some (.array .double) }, accessFlags := 10, code := some k1c2 }
def k1c3 : Code := { maxStack := 12, maxLocals := 13, code := code, exceptionTable := #[], attributes := #[] }
def k1m3 : Method := { name := "law", desc := "(IIIJJ)Z", sig := { parameters := [.int, .int, .int, .long, .long], returnType := some .boolean }, accessFlags := 9, code := some k1c3 }
/-- com/example/borrowed_prior/borrowedprior/model/TopicModelTermProbabilityPinLaw -/
def k1 : Class := { plain "com/example/borrowed_prior/borrowedprior/model/TopicModelTermProbabilityPinLaw" (some 0) with
  accessFlags := 49
  interfaces := #[]
  cf := some (fileOf pool1 12 #[] #[{ accessFlags := 1, nameIndex := 5, descriptorIndex := 6, attributes := #[] }, { accessFlags := 10, nameIndex := 15, descriptorIndex := 16, attributes := #[] }, { accessFlags := 10, nameIndex := 22, descriptorIndex := 23, attributes := #[] }, { accessFlags := 9, nameIndex := 34, descriptorIndex := 35, attributes := #[] }] 49 2 #[] #[])
  fields := #[]
  methods := #[k1m0, k1m1, k1m2, k1m3]
  instanceTypes := #[]
  staticTypes := #[]
  resolved := Array.replicate 38 none
  statics := none }

def pool2 : Array CpInfo := pool [(1, .methodref 2 3), (0, .class_ 4), (0, .nameAndType 5 6), (0, u "java/lang/Object"), (0, u "<init>"), (0, u "()V"), (11, .methodref 19 20), (0, .class_ 21), (0, .nameAndType 22 23), (0, u "com/example/borrowed_prior/borrowedprior/model/TopicModel"), (0, u "requireProbabilities"), (0, u "([D)V"), (0, .fieldref 19 25), (0, .nameAndType 26 27), (0, u "topicCount"), (0, u "I"), (0, .fieldref 19 29), (0, .nameAndType 30 27), (0, u "documentCount"), (0, .fieldref 19 32), (0, .nameAndType 33 27), (0, u "termCount"), (0, .fieldref 19 35), (0, .nameAndType 36 37), (0, u "tokenCount"), (0, u "J"), (0, .fieldref 19 39), (0, .nameAndType 40 41), (0, u "documentTopics"), (0, u "[D"), (0, .fieldref 19 43), (0, .nameAndType 44 41), (0, u "termTopics"), (51, u "(II)D"), (8, u "(IIIJ[D[D)V"), (20, u "termProbability")] 23

def k2c0 : Code := { maxStack := 7, maxLocals := 8, code := prog_37_method_1_code, exceptionTable := #[], attributes := #[] }
def k2m0 : Method := { name := "<init>", desc := "(IIIJ[D[D)V", sig := { parameters := [.int, .int, .int, .long, (.array .double), (.array .double)], returnType := none }, accessFlags := 1, code := some k2c0 }
def k2c1 : Code := { maxStack := 7, maxLocals := 8, code := prog_37_method_10_code, exceptionTable := #[], attributes := #[] }
def k2m1 : Method := { name := "termProbability", desc := "(II)D", sig := { parameters := [.int, .int], returnType := some .double }, accessFlags := 1, code := some k2c1 }
def k2c2 : Code := { maxStack := 4, maxLocals := 6, code := prog_37_method_12_code, exceptionTable := #[], attributes := #[] }
def k2m2 : Method := { name := "requireProbabilities", desc := "([D)V", sig := { parameters := [(.array .double)], returnType := none }, accessFlags := 10, code := some k2c2 }
/-- com/example/borrowed_prior/borrowedprior/model/TopicModel -/
def k2 : Class := { plain "com/example/borrowed_prior/borrowedprior/model/TopicModel" (some 0) with
  accessFlags := 49
  interfaces := #[]
  cf := some (fileOf pool2 19 #[] #[{ accessFlags := 1, nameIndex := 5, descriptorIndex := 105, attributes := #[] }, { accessFlags := 1, nameIndex := 126, descriptorIndex := 96, attributes := #[] }, { accessFlags := 10, nameIndex := 22, descriptorIndex := 23, attributes := #[] }] 49 2 #[] #[{ accessFlags := 18, nameIndex := 26, descriptorIndex := 27, attributes := #[] }, { accessFlags := 18, nameIndex := 30, descriptorIndex := 27, attributes := #[] }, { accessFlags := 18, nameIndex := 33, descriptorIndex := 27, attributes := #[] }, { accessFlags := 18, nameIndex := 36, descriptorIndex := 37, attributes := #[] }, { accessFlags := 18, nameIndex := 40, descriptorIndex := 41, attributes := #[] }, { accessFlags := 18, nameIndex := 44, descriptorIndex := 41, attributes := #[] }])
  fields := #[{ name := "topicCount", type := .int, accessFlags := 18, slot := 0, constantValue := 0 }, { name := "documentCount", type := .int, accessFlags := 18, slot := 1, constantValue := 0 }, { name := "termCount", type := .int, accessFlags := 18, slot := 2, constantValue := 0 }, { name := "tokenCount", type := .long, accessFlags := 18, slot := 3, constantValue := 0 }, { name := "documentTopics", type := (.array .double), accessFlags := 18, slot := 4, constantValue := 0 }, { name := "termTopics", type := (.array .double), accessFlags := 18, slot := 5, constantValue := 0 }]
  methods := #[k2m0, k2m1, k2m2]
  instanceTypes := #[.int, .int, .int, .long, (.array .double), (.array .double)]
  staticTypes := #[]
  resolved := Array.replicate 150 none
  statics := none }

def pool3 : Array CpInfo := pool [(1, u "java/lang/Cloneable"), (0, .class_ 1), (0, u "java/lang/Object"), (0, .class_ 3)] 3

/-- java/lang/Cloneable -/
def k3 : Class := { plain "java/lang/Cloneable" (some 0) with
  accessFlags := 1537
  interfaces := #[]
  cf := some (fileOf pool3 2 #[] #[] 1537 4 #[] #[])
  fields := #[]
  methods := #[]
  instanceTypes := #[]
  staticTypes := #[]
  resolved := Array.replicate 8 none
  statics := none }

def pool4 : Array CpInfo := pool [(1, u "java/io/Serializable"), (0, .class_ 1), (0, u "java/lang/Object"), (0, .class_ 3)] 3

/-- java/io/Serializable -/
def k4 : Class := { plain "java/io/Serializable" (some 0) with
  accessFlags := 1537
  interfaces := #[]
  cf := some (fileOf pool4 2 #[] #[] 1537 4 #[] #[])
  fields := #[]
  methods := #[]
  instanceTypes := #[]
  staticTypes := #[]
  resolved := Array.replicate 8 none
  statics := none }

/-- the primitive byte -/
def k5 : Class := { plain "byte" none with kind := .primitive 'B', accessFlags := 0x411 }
/-- [B -/
def k6 : Class := { plain "[B" (some 0) with kind := .array 5 .byte, interfaces := #[3, 4], accessFlags := 1041 }

/-- the primitive double -/
def k7 : Class := { plain "double" none with kind := .primitive 'D', accessFlags := 0x411 }
/-- [D -/
def k8 : Class := { plain "[D" (some 0) with kind := .array 7 .double, interfaces := #[3, 4], accessFlags := 1041 }

/-- the primitive int -/
def k9 : Class := { plain "int" none with kind := .primitive 'I', accessFlags := 0x411 }
/-- [I -/
def k10 : Class := { plain "[I" (some 0) with kind := .array 9 .int, interfaces := #[3, 4], accessFlags := 1041 }

def heap : Heap := #[]
def classes : Array Class := #[k0, k1, k2, k3, k4, k5, k6, k7, k8, k9, k10]
def interned : List (Array UInt16 × Addr) := []
def slotsUsed : Nat := 0
def theMethod : MethodId := ⟨1, 3⟩
def args0 : Array Value := #[.int 5, .int 7, .int 9, .long 11, .long 13]
def aboutOver (below : List Frame) : State where
  vm := { classes := classes, interned := interned.toArray }
  heap := heap
  slotsUsed := slotsUsed
  threads := #[{ frames := .invoking theMethod args0 :: below }]
def below0 : List Frame := [.native { method := ⟨0, 0⟩, args := #[] }]
def about1 : State := aboutOver below0
def p0 : Program := .bare "" "" ""
def e0 : Env := launch0.env 0 0 0
theorem w_frames : about1.frames = Frame.invoking theMethod args0 :: below0 := rfl
set_option maxRecDepth 65536 in
theorem w_args : argsFit about1.vm theMethod args0 = true := by decide +kernel
set_option maxRecDepth 65536 in
theorem w_heap : heapFits about1 = true := by decide +kernel
set_option maxRecDepth 65536 in
theorem w_runnable : about1.curStatus? = some .runnable := by decide +kernel
set_option maxRecDepth 65536 in
theorem w_alone : about1.alone = true := by decide +kernel
set_option maxRecDepth 65536 in
theorem w_named : about1.methodNamed? x = some theMethod := by decide +kernel
set_option maxRecDepth 65536 in
theorem w_hears : about1.hears theMethod below0 = true := by decide +kernel
set_option maxRecDepth 65536 in
theorem w_ripe : about1.ripe theMethod args0 below0 = true := by decide +kernel
theorem w_running : about1.status = .running := rfl
set_option maxRecDepth 65536 in
theorem w_room : about1.hasRoom e0.platform room_1 = true :=
  launch0.hasRoom_least _ room_1 (by decide +kernel) (by decide +kernel) (by decide +kernel) (by decide +kernel) (by decide +kernel) (by decide +kernel)
theorem allAtoms_all (ts : List Jvm.Cond) (a : Array Jvm.Value) (st : Jvm.State) : (allAtoms ts).before a st = ts.all (fun c => c.before a st) := by
  induction ts with
  | nil => rfl
  | cons c t ih =>
    show (Jvm.Cond.and c (allAtoms t)).before a st = _
    rw [Jvm.Cond.before_and, ih, List.all_cons]
def words1 : List Jvm.Cond := Jvm.Cond.code x code maxLocals ret :: tables_1
/-- a 'code' word, met by the world's own term for the bytes: nothing is compared byte by byte -/
theorem code_word {y : MethodName} {bytes : ByteArray} {mx : Nat} {rt : Option FieldType} {a : Array Value} {s : State} {m : MethodId} {meth : Method} {c : Code} (h1 : s.methodNamed? y = some m) (h2 : s.vm.method? m = some meth) (h3 : meth.code = some c) (h4 : c.code = bytes)
    (h5 : (c.maxLocals == mx && c.exceptionTable.isEmpty && decide (c.maxStack ≤ mostOperands) && decide (meth.sig.returnType = rt) && !meth.locks && decide (parseMethodDescriptor y.desc = some meth.sig)) = true) : (Jvm.Cond.code y bytes mx rt).before a s = true := by
  simp only [Bool.and_eq_true, beq_iff_eq, Bool.not_eq_true', decide_eq_true_eq] at h5
  obtain ⟨⟨⟨⟨⟨g1, g2⟩, g3⟩, g4⟩, g5⟩, g6⟩ := h5
  simp [Cond.before, Cond.holds, Cond.value, h1, h2, h3, h4, g1, g2, g3, g4, g5, g6]
def isCode : Jvm.Cond → Bool
  | .code _ _ _ _ => true
  | _ => false
theorem all_split {L : List Jvm.Cond} {P : Jvm.Cond → Bool} (h1 : L.all (fun c => isCode c || P c) = true) (h2 : ∀ c ∈ L.filter isCode, P c = true) : L.all P = true := by
  refine List.all_eq_true.mpr fun c hc => ?_
  have h := List.all_eq_true.mp h1 c hc
  rcases Bool.eq_false_or_eq_true (isCode c) with hi | hi
  · exact h2 c (List.mem_filter.mpr ⟨hc, hi⟩)
  · simpa [hi] using h
set_option maxRecDepth 65536 in
theorem w_c0 : (Jvm.Cond.code x code maxLocals ret).before args0 about1 = true := code_word (m := ⟨1, 3⟩) (meth := k1m3) (c := k1c3) (by decide +kernel) rfl rfl rfl (by decide +kernel)
set_option maxRecDepth 65536 in
theorem w_c1 : (Jvm.Cond.code ({ cls := "com/example/borrowed_prior/borrowedprior/model/TopicModelTermProbabilityPinLaw", name := "draw", desc := "(JI)[D" } : Jvm.MethodName) method_3_code (3 : Nat) (Option.some (Jvm.ClassFile.FieldType.array Jvm.ClassFile.FieldType.double))).before args0 about1 = true := code_word (m := ⟨1, 2⟩) (meth := k1m2) (c := k1c2) (by decide +kernel) rfl rfl rfl (by decide +kernel)
set_option maxRecDepth 65536 in
theorem w_c2 : (Jvm.Cond.code ({ cls := "com/example/borrowed_prior/borrowedprior/model/TopicModelTermProbabilityPinLaw", name := "v", desc := "(JI)D" } : Jvm.MethodName) method_2_code (3 : Nat) (Option.some Jvm.ClassFile.FieldType.double)).before args0 about1 = true := code_word (m := ⟨1, 1⟩) (meth := k1m1) (c := k1c1) (by decide +kernel) rfl rfl rfl (by decide +kernel)
set_option maxRecDepth 65536 in
theorem w_c3 : (Jvm.Cond.code ({ cls := "com/example/borrowed_prior/borrowedprior/model/TopicModel", name := "<init>", desc := "(IIIJ[D[D)V" } : Jvm.MethodName) prog_37_method_1_code (8 : Nat) (Option.none : Option Jvm.ClassFile.FieldType)).before args0 about1 = true := code_word (m := ⟨2, 0⟩) (meth := k2m0) (c := k2c0) (by decide +kernel) rfl rfl rfl (by decide +kernel)
set_option maxRecDepth 65536 in
theorem w_c4 : (Jvm.Cond.code ({ cls := "java/lang/Object", name := "<init>", desc := "()V" } : Jvm.MethodName) object_method_1_code (1 : Nat) (Option.none : Option Jvm.ClassFile.FieldType)).before args0 about1 = true := code_word (m := ⟨0, 0⟩) (meth := k0m0) (c := k0c0) (by decide +kernel) rfl rfl rfl (by decide +kernel)
set_option maxRecDepth 65536 in
theorem w_c5 : (Jvm.Cond.code ({ cls := "com/example/borrowed_prior/borrowedprior/model/TopicModel", name := "requireProbabilities", desc := "([D)V" } : Jvm.MethodName) prog_37_method_12_code (6 : Nat) (Option.none : Option Jvm.ClassFile.FieldType)).before args0 about1 = true := code_word (m := ⟨2, 2⟩) (meth := k2m2) (c := k2c2) (by decide +kernel) rfl rfl rfl (by decide +kernel)
set_option maxRecDepth 65536 in
theorem w_c6 : (Jvm.Cond.code ({ cls := "com/example/borrowed_prior/borrowedprior/model/TopicModel", name := "termProbability", desc := "(II)D" } : Jvm.MethodName) prog_37_method_10_code (8 : Nat) (Option.some Jvm.ClassFile.FieldType.double)).before args0 about1 = true := code_word (m := ⟨2, 1⟩) (meth := k2m1) (c := k2c1) (by decide +kernel) rfl rfl rfl (by decide +kernel)
def codes1 : List Jvm.Cond := [Jvm.Cond.code x code maxLocals ret, Jvm.Cond.code ({ cls := "com/example/borrowed_prior/borrowedprior/model/TopicModelTermProbabilityPinLaw", name := "draw", desc := "(JI)[D" } : Jvm.MethodName) method_3_code (3 : Nat) (Option.some (Jvm.ClassFile.FieldType.array Jvm.ClassFile.FieldType.double)), Jvm.Cond.code ({ cls := "com/example/borrowed_prior/borrowedprior/model/TopicModelTermProbabilityPinLaw", name := "v", desc := "(JI)D" } : Jvm.MethodName) method_2_code (3 : Nat) (Option.some Jvm.ClassFile.FieldType.double), Jvm.Cond.code ({ cls := "com/example/borrowed_prior/borrowedprior/model/TopicModel", name := "<init>", desc := "(IIIJ[D[D)V" } : Jvm.MethodName) prog_37_method_1_code (8 : Nat) (Option.none : Option Jvm.ClassFile.FieldType), Jvm.Cond.code ({ cls := "java/lang/Object", name := "<init>", desc := "()V" } : Jvm.MethodName) object_method_1_code (1 : Nat) (Option.none : Option Jvm.ClassFile.FieldType), Jvm.Cond.code ({ cls := "com/example/borrowed_prior/borrowedprior/model/TopicModel", name := "requireProbabilities", desc := "([D)V" } : Jvm.MethodName) prog_37_method_12_code (6 : Nat) (Option.none : Option Jvm.ClassFile.FieldType), Jvm.Cond.code ({ cls := "com/example/borrowed_prior/borrowedprior/model/TopicModel", name := "termProbability", desc := "(II)D" } : Jvm.MethodName) prog_37_method_10_code (8 : Nat) (Option.some Jvm.ClassFile.FieldType.double)]
set_option maxRecDepth 65536 in
theorem codes_eq : words1.filter isCode = codes1 := rfl
theorem w_codes : ∀ c ∈ words1.filter isCode, c.before args0 about1 = true := by
  rw [codes_eq]
  intro c hc
  simp only [codes1, List.mem_cons, List.not_mem_nil, or_false] at hc
  rcases hc with rfl | rfl | rfl | rfl | rfl | rfl | rfl
  · exact w_c0
  · exact w_c1
  · exact w_c2
  · exact w_c3
  · exact w_c4
  · exact w_c5
  · exact w_c6
set_option maxRecDepth 65536 in
theorem w_t1 : (words1.take 24).all (fun c => isCode c || c.before args0 about1) = true := by decide +kernel
set_option maxRecDepth 65536 in
theorem w_t2 : (words1.drop 24).all (fun c => isCode c || c.before args0 about1) = true := by decide +kernel
theorem w_tables : (allAtoms (Jvm.Cond.code x code maxLocals ret :: tables_1)).before args0 about1 = true := by
  rw [allAtoms_all]
  show words1.all (fun c => c.before args0 about1) = true
  refine all_split ?_ w_codes
  rw [← List.take_append_drop 24 words1, List.all_append, w_t1, w_t2]
  rfl
set_option maxRecDepth 65536 in
theorem w_case : (Jvm.Cond.and given_1 narrow_1).before args0 about1 = true := by decide +kernel
theorem w_applies : (headSpec (Jvm.Cond.code x code maxLocals ret :: tables_1) room_1).applies x e0.platform about1 = true :=
  (Spec.applies_iff w_frames).mpr ⟨w_running, w_runnable, w_alone, w_named, w_hears, w_ripe, w_room, w_tables⟩
theorem atStart : AtStart classFile x code maxLocals ret World_1 tables_1 room_1 Calls_1 rest_1 Pre_1 launch0 p0 e0 about1 theMethod args0 below0 :=
  ⟨lists_1, trivial, launch0.admits_env _ _ _, launch0.least_env, fairChoices_fair.cas, fairChoices_fair.clock, w_frames, w_args, w_heap, w_applies, trivial, trivial, w_case⟩
end start1
theorem witness_1 : WitnessClaimed_1 := ⟨start1.p0, start1.e0, start1.about1, start1.theMethod, start1.args0, start1.below0, start1.atStart⟩
end Jvm.Pilot.@@N@@
