import JvmDerived
import JvmDerived.Pilot.@@N@@Statement
import JvmDerived.Pilot.@@N@@Code
set_option linter.unusedVariables false
set_option linter.unusedSimpArgs false
namespace Jvm.OwnFP
open Jvm.FP Jvm.FP.Core
/-- a double's value in units of the least double, 2^-1074 -/
abbrev Zv (a : UInt64) : Int := zval b64 (val64 a)
theorem fin_ne {a : UInt64} (h : DFin a) : val64 a ≠ .nan := by
  obtain ⟨s, c, q, h⟩ := h; rw [h]; exact Datum.noConfusion
theorem mul_ne {a b : UInt64} (ha : DFin a) (hb : DFin b) : val64 (FP.dmul a b) ≠ .nan :=
  Jvm.Free.Fl.val64_no.mp (Jvm.Free.Fl.dmul_out (Jvm.Free.Fl.fin64_core.mpr ha) (Jvm.Free.Fl.fin64_core.mpr hb))
theorem add_ne {a b : UInt64} (ha : DFin a) (hb : DFin b) : val64 (FP.dadd a b) ≠ .nan :=
  Jvm.Free.Fl.val64_no.mp (Jvm.Free.Fl.dadd_out (Jvm.Free.Fl.fin64_core.mpr ha).noNaN (Jvm.Free.Fl.fin64_core.mpr hb))
theorem sub_ne {a b : UInt64} (ha : DFin a) (hb : DFin b) : val64 (FP.dsub a b) ≠ .nan :=
  Jvm.Free.Fl.val64_no.mp (Jvm.Free.Fl.dsub_out (Jvm.Free.Fl.fin64_core.mpr ha).noNaN (Jvm.Free.Fl.fin64_core.mpr hb))
theorem fin_of {r U V : UInt64} (hr : val64 r ≠ .nan) (hU : DFin U) (hV : DFin V) (h1 : Zv U ≤ Zv r) (h2 : Zv r ≤ Zv V) : DFin r := by
  have uU := hU.zval_lt
  have uV := hV.zval_lt
  have aU : (Zv U).natAbs = zmag b64 (val64 U) := natAbs_signed _ _
  have aV : (Zv V).natAbs = zmag b64 (val64 V) := natAbs_signed _ _
  have ar : (Zv r).natAbs = zmag b64 (val64 r) := natAbs_signed _ _
  cases e : val64 r with
  | nan => exact absurd e hr
  | fin s c q => exact ⟨s, c, q, e⟩
  | inf s =>
    have e2 : zmag b64 (val64 r) = b64.tails * 2 ^ (b64.exps - 2) := by rw [e]; rfl
    rw [e2] at ar
    generalize b64.tails * 2 ^ (b64.exps - 2) = top at *
    omega
theorem dmul_le {a b V : UInt64} (ha : DFin a) (hb : DFin b) (hV : val64 V ≠ .nan) (h : Zv a * Zv b ≤ Zv V * (one64 : Int)) : Zv (FP.dmul a b) ≤ Zv V := by
  obtain ⟨s, c, q, ea⟩ := ha
  obtain ⟨t, d, r, eb⟩ := hb
  have fa := val64_fits a
  have fb := val64_fits b
  unfold Zv at h ⊢
  rw [ea] at fa h
  rw [eb] at fb h
  obtain ⟨p1, p2, p3⟩ := product_units fa fb
  rw [val64_dmul, ea, eb, p1]
  have hq := qmin_neg good_b64
  refine zval_round_le good_b64 (val64_fits V) hV (e0 := 2 * b64.qmin) (by omega) p2 ?_
  rw [p3, signed_xor, show (b64.qmin - 2 * b64.qmin).toNat = (-b64.qmin).toNat by omega, pow_qmin64]
  exact h
theorem dmul_ge {a b V : UInt64} (ha : DFin a) (hb : DFin b) (hV : val64 V ≠ .nan) (h : Zv V * (one64 : Int) ≤ Zv a * Zv b) : Zv V ≤ Zv (FP.dmul a b) := by
  obtain ⟨s, c, q, ea⟩ := ha
  obtain ⟨t, d, r, eb⟩ := hb
  have fa := val64_fits a
  have fb := val64_fits b
  unfold Zv at h ⊢
  rw [ea] at fa h
  rw [eb] at fb h
  obtain ⟨p1, p2, p3⟩ := product_units fa fb
  rw [val64_dmul, ea, eb, p1]
  have hq := qmin_neg good_b64
  refine zval_round_ge good_b64 (val64_fits V) hV (e0 := 2 * b64.qmin) (by omega) p2 ?_
  rw [p3, signed_xor, show (b64.qmin - 2 * b64.qmin).toNat = (-b64.qmin).toNat by omega, pow_qmin64]
  exact h
theorem dadd_le {a b V : UInt64} (ha : DFin a) (hb : DFin b) (hV : val64 V ≠ .nan) (h : Zv a + Zv b ≤ Zv V) : Zv (FP.dadd a b) ≤ Zv V := by
  unfold Zv at h ⊢
  rw [val64_dadd]; exact sum_le good_b64 ha hb (val64_fits a) (val64_fits b) (val64_fits V) hV h
theorem dadd_ge {a b V : UInt64} (ha : DFin a) (hb : DFin b) (hV : val64 V ≠ .nan) (h : Zv V ≤ Zv a + Zv b) : Zv V ≤ Zv (FP.dadd a b) := by
  unfold Zv at h ⊢
  rw [val64_dadd]; exact sum_ge good_b64 ha hb (val64_fits a) (val64_fits b) (val64_fits V) hV h
theorem neg_fin {a : UInt64} (h : DFin a) : DFin (FP.dneg a) := by
  obtain ⟨s, c, q, h⟩ := h
  exact ⟨!s, c, q, by rw [FP.val64_dneg, h]; rfl⟩
theorem Zv_neg (a : UInt64) : Zv (FP.dneg a) = -Zv a := by unfold Zv; rw [FP.val64_dneg, zval_negate]
theorem cneg_fin {a : UInt64} (h : DFin a) : DFin (Core.dneg a) := by
  obtain ⟨s, c, q, h⟩ := h
  exact ⟨!s, c, q, by rw [Core.val64_dneg, h]; rfl⟩
theorem Zv_cneg (a : UInt64) : Zv (Core.dneg a) = -Zv a := by unfold Zv; rw [Core.val64_dneg, zval_negate]
theorem dsub_le {a b V : UInt64} (ha : DFin a) (hb : DFin b) (hV : val64 V ≠ .nan) (h : Zv a - Zv b ≤ Zv V) : Zv (FP.dsub a b) ≤ Zv V := by
  show Zv (Core.dsub a b) ≤ _
  rw [Core.dsub_eq]; exact dadd_le ha (cneg_fin hb) hV (by rw [Zv_cneg]; omega)
theorem dsub_ge {a b V : UInt64} (ha : DFin a) (hb : DFin b) (hV : val64 V ≠ .nan) (h : Zv V ≤ Zv a - Zv b) : Zv V ≤ Zv (FP.dsub a b) := by
  show _ ≤ Zv (Core.dsub a b)
  rw [Core.dsub_eq]; exact dadd_ge ha (cneg_fin hb) hV (by rw [Zv_cneg]; omega)
/-- where the exact value is a double's, it is the result's -/
theorem dmul_eq {a b V : UInt64} (ha : DFin a) (hb : DFin b) (hV : DFin V) (h : Zv a * Zv b = Zv V * (one64 : Int)) : DFin (FP.dmul a b) ∧ Zv (FP.dmul a b) = Zv V := by
  have h1 := dmul_le ha hb (fin_ne hV) (Int.le_of_eq h)
  have h2 := dmul_ge ha hb (fin_ne hV) (Int.le_of_eq h.symm)
  exact ⟨fin_of (mul_ne ha hb) hV hV h2 h1, Int.le_antisymm h1 h2⟩
theorem dadd_eq {a b V : UInt64} (ha : DFin a) (hb : DFin b) (hV : DFin V) (h : Zv a + Zv b = Zv V) : DFin (FP.dadd a b) ∧ Zv (FP.dadd a b) = Zv V := by
  have h1 := dadd_le ha hb (fin_ne hV) (Int.le_of_eq h)
  have h2 := dadd_ge ha hb (fin_ne hV) (Int.le_of_eq h.symm)
  exact ⟨fin_of (add_ne ha hb) hV hV h2 h1, Int.le_antisymm h1 h2⟩
theorem dsub_eq {a b V : UInt64} (ha : DFin a) (hb : DFin b) (hV : DFin V) (h : Zv a - Zv b = Zv V) : DFin (FP.dsub a b) ∧ Zv (FP.dsub a b) = Zv V := by
  have h1 := dsub_le ha hb (fin_ne hV) (Int.le_of_eq h)
  have h2 := dsub_ge ha hb (fin_ne hV) (Int.le_of_eq h.symm)
  exact ⟨fin_of (sub_ne ha hb) hV hV h2 h1, Int.le_antisymm h1 h2⟩
theorem signed_self (N : Int) (k : Nat) : signed (decide (N < 0)) (N.natAbs * k) = N * (k : Int) := by
  rw [signed_mul]
  congr 1
  unfold signed
  by_cases h : N < 0 <;> simp [h] <;> omega
/-- every N * 2^k units, N of up to 53 digits, is a double -/
theorem rep (N : Int) (k : Nat) (hN : N.natAbs < 2 ^ 53) (hk : k ≤ 2045) : ∃ V, DFin V ∧ Zv V = N * ((2 ^ k : Nat) : Int) := by
  have q1 := qmin_b64
  have q2 : b64.qmax = 971 := by decide
  obtain ⟨c', q', h1, h2⟩ := round_exact good_b64 (decide (N < 0)) (c := N.natAbs) (q := (k : Int) - 1074) hN (by omega) (by omega)
  have hv : val64 (of64 (round b64 (.fin (decide (N < 0)) N.natAbs ((k : Int) - 1074)))) = .fin (decide (N < 0)) c' q' := by
    rw [val64_of64 (round_fits good_b64 _), h1]
  refine ⟨_, ⟨_, _, _, hv⟩, ?_⟩
  unfold Zv
  rw [hv]
  show signed (decide (N < 0)) (inUnits c' q' b64.qmin) = _
  rw [h2, q1]
  unfold inUnits
  rw [show ((k : Int) - 1074 - -1074).toNat = k by omega]
  exact signed_self N _
/-- the double a is N * 2^(k - 1074) -/
def Val (a : UInt64) (N : Int) (k : Nat) : Prop := DFin a ∧ Zv a = N * ((2 ^ k : Nat) : Int)
theorem one_pow : (one64 : Int) = ((2 ^ 1074 : Nat) : Int) := rfl
theorem Val.of_int {i : Int} {a : UInt64} (h : DInt i a) : Val a i 1074 := by
  refine ⟨?_, (DInt_zval h).trans (by rw [one_pow])⟩
  unfold DInt at h
  cases e : val64 a with
  | nan => rw [e] at h; exact h.elim
  | inf s => rw [e] at h; exact h.elim
  | fin s c q => exact ⟨s, c, q, e⟩
theorem Val.i2d (n : Int32) : Val (FP.i2d n) n.toInt 1074 := Val.of_int (i2d_int n)
theorem Val.l2d {n : Int64} (h : n.toInt.natAbs ≤ 2 ^ 53) : Val (FP.l2d n) n.toInt 1074 := Val.of_int (l2d_int h)
theorem Val.neg {a : UInt64} {N : Int} {k : Nat} (h : Val a N k) : Val (FP.dneg a) (-N) k := ⟨neg_fin h.1, by rw [Zv_neg, h.2, Int.neg_mul]⟩
theorem pow_cast (k j : Nat) : ((2 ^ (k + j) : Nat) : Int) = ((2 ^ k : Nat) : Int) * ((2 ^ j : Nat) : Int) := by
  rw [Nat.pow_add, Int.natCast_mul]
theorem Val.mul {a b : UInt64} {N M : Int} {k j i : Nat} (ha : Val a N k) (hb : Val b M j) (hN : (N * M).natAbs < 2 ^ 53) (hi : k + j = i + 1074) (hk : i ≤ 2045) : Val (FP.dmul a b) (N * M) i := by
  obtain ⟨V, fV, zV⟩ := rep (N * M) i hN hk
  obtain ⟨h1, h2⟩ := dmul_eq ha.1 hb.1 fV (by
    rw [ha.2, hb.2, zV, one_pow, Int.mul_assoc (N * M), ← pow_cast, ← hi, pow_cast, Int.mul_assoc N M, Int.mul_assoc N, Int.mul_left_comm _ M])
  exact ⟨h1, h2.trans zV⟩
theorem Val.add {a b : UInt64} {N M : Int} {k : Nat} (ha : Val a N k) (hb : Val b M k) (hN : (N + M).natAbs < 2 ^ 53) (hk : k ≤ 2045) : Val (FP.dadd a b) (N + M) k := by
  obtain ⟨V, fV, zV⟩ := rep (N + M) k hN hk
  obtain ⟨h1, h2⟩ := dadd_eq ha.1 hb.1 fV (by rw [ha.2, hb.2, zV, Int.add_mul])
  exact ⟨h1, h2.trans zV⟩
theorem Val.sub {a b : UInt64} {N M : Int} {k : Nat} (ha : Val a N k) (hb : Val b M k) (hN : (N - M).natAbs < 2 ^ 53) (hk : k ≤ 2045) : Val (FP.dsub a b) (N - M) k := by
  obtain ⟨V, fV, zV⟩ := rep (N - M) k hN hk
  obtain ⟨h1, h2⟩ := dsub_eq ha.1 hb.1 fV (by rw [ha.2, hb.2, zV, Int.sub_mul])
  exact ⟨h1, h2.trans zV⟩
theorem pow_pos' (k : Nat) : (0 : Int) < ((2 ^ k : Nat) : Int) := by have := Nat.two_pow_pos k; omega
theorem Val.cmp {a b : UInt64} {N M : Int} {k : Nat} (ha : Val a N k) (hb : Val b M k) : FP.dcmp a b = some (compare N M) := by
  have h : FP.dcmp a b = some (compare (Zv a) (Zv b)) := dcmp_zval (fin_ne ha.1) (fin_ne hb.1)
  rw [h, ha.2, hb.2, compare_mul_pos _ _ _ (pow_pos' k)]
theorem Val.scale {a : UInt64} {N : Int} {k : Nat} (j : Nat) (ha : Val a N (k + j)) : Val a (N * ((2 ^ j : Nat) : Int)) k :=
  ⟨ha.1, by rw [ha.2, pow_cast, Int.mul_assoc, Int.mul_comm ((2 ^ k : Nat) : Int)]⟩
theorem lt_iff {a b : UInt64} (ha : DFin a) (hb : DFin b) : FP.dcmp a b = some .lt ↔ Zv a < Zv b :=
  ⟨fun h => (dcmp_lt.mp h).2.2, fun h => dcmp_lt.mpr ⟨fin_ne ha, fin_ne hb, h⟩⟩
theorem eq_iff {a b : UInt64} (ha : DFin a) (hb : DFin b) : FP.dcmp a b = some .eq ↔ Zv a = Zv b :=
  ⟨fun h => (dcmp_eq.mp h).2.2, fun h => dcmp_eq.mpr ⟨fin_ne ha, fin_ne hb, h⟩⟩
theorem le_iff {a b : UInt64} (ha : DFin a) (hb : DFin b) : (FP.dcmp a b = some .lt ∨ FP.dcmp a b = some .eq) ↔ Zv a ≤ Zv b := by
  rw [lt_iff ha hb, eq_iff ha hb]; omega
theorem dfin_const {a : UInt64} (h : a.toNat % 9223372036854775808 < 9218868437227405312) : DFin a := (Core.fin_bits a).mpr h
end Jvm.OwnFP
namespace Jvm.OwnFP
open Jvm.FP Jvm.FP.Core
theorem ratio_units {s t : Bool} {c d : Nat} {q r : Int} (fa : Core.fits b64 (.fin s c q)) (fb : Core.fits b64 (.fin t d r)) :
    2 * b64.qmin - r ≤ b64.qmin ∧ 2 * b64.qmin - r ≤ q - r ∧ inUnits c (q - r) (2 * b64.qmin - r) = zmag b64 (.fin s c q) * one64 ∧
    ∀ m : Nat, m * 2 ^ (b64.qmin - (2 * b64.qmin - r)).toNat * d = m * zmag b64 (.fin t d r) := by
  have h1 : b64.qmin ≤ q := fa.2.1
  have h2 : b64.qmin ≤ r := fb.2.1
  have hq := qmin_neg good_b64
  refine ⟨by omega, by omega, ?_, fun m => ?_⟩
  · show c * 2 ^ (q - r - (2 * b64.qmin - r)).toNat = c * 2 ^ (q - b64.qmin).toNat * one64
    rw [← pow_qmin64, Nat.mul_assoc, ← Nat.pow_add]
    congr 2; omega
  · show m * 2 ^ (b64.qmin - (2 * b64.qmin - r)).toNat * d = m * (d * 2 ^ (r - b64.qmin).toNat)
    rw [show (b64.qmin - (2 * b64.qmin - r)).toNat = (r - b64.qmin).toNat by omega, Nat.mul_assoc, Nat.mul_comm d]
theorem div_form {a b : UInt64} (hb : 0 < Zv b) {s t : Bool} {c d : Nat} {q r : Int} (ea : val64 a = .fin s c q) (eb : val64 b = .fin t d r) :
    0 < d ∧ t = false ∧ val64 (FP.ddiv a b) = roundRatio b64 s c d (q - r) := by
  have hd : d ≠ 0 := by
    intro hd
    unfold Zv at hb
    rw [eb, hd] at hb
    have : zval b64 (.fin t 0 r) = 0 := by
      show signed t (0 * _) = 0
      rw [Nat.zero_mul]; exact signed_zero t
    omega
  have ht : t = false := by
    cases t with
    | false => rfl
    | true =>
      exfalso
      unfold Zv at hb
      rw [eb] at hb
      have : zval b64 (.fin true d r) = -((zmag b64 (.fin true d r) : Nat) : Int) := rfl
      omega
  subst ht
  refine ⟨by omega, rfl, ?_⟩
  rw [val64_ddiv, ea, eb]
  show (if d = 0 then _ else roundRatio b64 (s != false) c d (q - r)) = _
  rw [if_neg hd]
  cases s <;> rfl
theorem zsgn {s : Bool} {c : Nat} {q : Int} : zval b64 (.fin s c q) = signed s (zmag b64 (.fin s c q)) := rfl
theorem zval_rr (s : Bool) (A B : Nat) (e : Int) : zval b64 (roundRatio b64 s A B e) = signed s (zmag b64 (roundRatio b64 s A B e)) := by
  unfold zval; rw [sgn_roundRatio]
theorem zmag_of (V : UInt64) : (0 ≤ Zv V → ((zmag b64 (val64 V) : Nat) : Int) = Zv V) ∧ (Zv V ≤ 0 → ((zmag b64 (val64 V) : Nat) : Int) = -Zv V) := by
  have h : Zv V = signed (sgn (val64 V)) (zmag b64 (val64 V)) := rfl
  cases hs : sgn (val64 V) <;> rw [hs] at h <;> simp only [signed, if_true, Bool.false_eq_true, if_false] at h <;> omega
theorem ddiv_le {a b V : UInt64} (ha : DFin a) (hb : DFin b) (hb0 : 0 < Zv b) (hV : val64 V ≠ .nan) (h : Zv a * (one64 : Int) ≤ Zv V * Zv b) : Zv (FP.ddiv a b) ≤ Zv V := by
  obtain ⟨s, c, q, ea⟩ := ha
  obtain ⟨t, d, r, eb⟩ := hb
  obtain ⟨hd, rfl, e⟩ := div_form hb0 ea eb
  have fa := val64_fits a
  have fb := val64_fits b
  rw [ea] at fa
  rw [eb] at fb
  obtain ⟨u1, u2, u3, u4⟩ := ratio_units fa fb
  obtain ⟨v1, v2⟩ := zmag_of V
  have za : Zv a = signed s (zmag b64 (.fin s c q)) := by unfold Zv; rw [ea]; rfl
  have zb : Zv b = ((zmag b64 (.fin false d r) : Nat) : Int) := by unfold Zv; rw [eb]; rfl
  rw [zb] at h hb0
  rw [za] at h
  show zval b64 (val64 (FP.ddiv a b)) ≤ Zv V
  rw [e, zval_rr]
  have op := one64_pos
  cases s with
  | false =>
    simp only [signed, Bool.false_eq_true, if_false] at h ⊢
    have hV0 : 0 ≤ Zv V := Int.not_lt.mp fun hn => by
      have : Zv V * ((zmag b64 (.fin false d r) : Nat) : Int) < 0 := Int.mul_neg_of_neg_of_pos hn hb0
      have : (0 : Int) ≤ ((zmag b64 (.fin false c q) : Nat) : Int) * (one64 : Int) := Int.mul_nonneg (by omega) (by omega)
      omega
    have := zmag_roundRatio_le good_b64 (s := false) (A := c) (B := d) (e := q - r) hd (val64_fits V) hV u1 u2 (by
      rw [u3, u4]
      rw [← v1 hV0] at h
      exact Int.ofNat_le.mp (by rw [Int.natCast_mul, Int.natCast_mul]; exact h))
    have := v1 hV0
    omega
  | true =>
    simp only [signed, if_true] at h ⊢
    by_cases hV0 : 0 ≤ Zv V
    · omega
    · have hv := v2 (by omega)
      have := zmag_roundRatio_ge good_b64 (s := true) (A := c) (B := d) (e := q - r) hd (val64_fits V) u1 u2 (by
        rw [u3, u4]
        refine Int.ofNat_le.mp ?_
        rw [Int.natCast_mul, Int.natCast_mul, hv, Int.neg_mul]
        rw [Int.neg_mul] at h
        omega)
      omega
theorem neg_ddiv (a b : UInt64) : Zv (FP.ddiv (Core.dneg a) b) = -Zv (FP.ddiv a b) := by
  show Zv (Core.ddiv (Core.dneg a) b) = _
  rw [Core.ddiv_dneg, Zv_cneg]
theorem ddiv_ge {a b V : UInt64} (ha : DFin a) (hb : DFin b) (hb0 : 0 < Zv b) (hV : val64 V ≠ .nan) (h : Zv V * Zv b ≤ Zv a * (one64 : Int)) : Zv V ≤ Zv (FP.ddiv a b) := by
  have := ddiv_le (a := Core.dneg a) (b := b) (V := Core.dneg V) (cneg_fin ha) hb hb0 (by rw [Core.val64_dneg]; exact negate_ne_nan hV) (by rw [Zv_cneg, Zv_cneg, Int.neg_mul, Int.neg_mul]; omega)
  rw [neg_ddiv, Zv_cneg] at this
  omega
theorem div_ne {a b : UInt64} (ha : DFin a) (hb : DFin b) (hb0 : 0 < Zv b) : val64 (FP.ddiv a b) ≠ .nan := by
  obtain ⟨s, c, q, ea⟩ := ha
  obtain ⟨t, d, r, eb⟩ := hb
  obtain ⟨hd, rfl, e⟩ := div_form hb0 ea eb
  rw [e]; exact roundRatio_ne_nan _ _ _ _ _
theorem ddiv_eq {a b V : UInt64} (ha : DFin a) (hb : DFin b) (hb0 : 0 < Zv b) (hV : DFin V) (h : Zv a * (one64 : Int) = Zv V * Zv b) : DFin (FP.ddiv a b) ∧ Zv (FP.ddiv a b) = Zv V := by
  have h1 := ddiv_le ha hb hb0 (fin_ne hV) (Int.le_of_eq h)
  have h2 := ddiv_ge ha hb hb0 (fin_ne hV) (Int.le_of_eq h.symm)
  exact ⟨fin_of (div_ne ha hb hb0) hV hV h2 h1, Int.le_antisymm h1 h2⟩
/-- a quotient by a power of two -/
theorem Val.div2 {a b : UInt64} {N : Int} {k i : Nat} (ha : Val a N k) (hb : Val b 1 i) (hN : N.natAbs < 2 ^ 53) {j : Nat} (hi : k + 1074 = j + i) (hj : j ≤ 2045) : Val (FP.ddiv a b) N j := by
  obtain ⟨V, fV, zV⟩ := rep N j hN hj
  have hb0 : 0 < Zv b := by rw [hb.2, Int.one_mul]; exact pow_pos' i
  obtain ⟨h1, h2⟩ := ddiv_eq ha.1 hb.1 hb0 fV (by rw [ha.2, hb.2, zV, one_pow, Int.one_mul, Int.mul_assoc, Int.mul_assoc, ← pow_cast, ← pow_cast, hi])
  exact ⟨h1, h2.trans zV⟩
end Jvm.OwnFP
namespace Jvm.Pilot.@@N@@
open Jvm Jvm.ClassFile Sem Op Lib Jvm.Free Jvm.Stand Jvm.LawKit Jvm.RoadKit Bundle Jvm.Pilot.@@N@@.Jvm.D
abbrev Go (p : Program) (e : Env) (below : List Frame) (t T : State) (m : MethodId) (pc : Nat) (ls : Array Slot) (st : List Value) : Prop := Steps p.tables e below (T.setTop (mkF m pc ls st)) t
/-- from A the run comes to B -/
def Goes (p : Program) (e : Env) (below : List Frame) (A B : State) : Prop := ∀ t, Steps p.tables e below B t → Steps p.tables e below A t
abbrev dLt (x y : UInt64) : Prop := FP.dcmp x y = some .lt
abbrev dEq (x y : UInt64) : Prop := FP.dcmp x y = some .eq
abbrev dLe (x y : UInt64) : Prop := FP.dcmp x y = some .lt ∨ FP.dcmp x y = some .eq
abbrev fLt (x y : UInt32) : Prop := FP.fcmp x y = some .lt
abbrev fEq (x y : UInt32) : Prop := FP.fcmp x y = some .eq
abbrev fLe (x y : UInt32) : Prop := FP.fcmp x y = some .lt ∨ FP.fcmp x y = some .eq
theorem Sta.keepO {Z : State} {h h' : Heap} {C n d : String} {v : Value} {ws : List Addr} (F : Sta Z h C n d v) (K : Keep h h' ws) (q : ∀ x ∈ ws, ∀ cell : Cell, h[x]? = some cell → cell.vm.isStatics = false) : Sta Z h' C n d v := by
  obtain ⟨cf, i, k, f, st, cell, h1, h2, h3, h4, h5, h6, h7⟩ := F
  refine ⟨cf, i, k, f, st, cell, h1, h2, h3, h4, K.2.1 _ _ h5 fun hm => ?_, h6, h7⟩
  rw [q _ hm _ h5] at h6; cases h6
theorem own_swap (o : Option Ordering) : o.map Ordering.swap = some .lt ↔ o = some .gt := by rcases o with _ | (_ | _ | _) <;> simp [Ordering.swap]
theorem own_swapE (o : Option Ordering) : o.map Ordering.swap = some .eq ↔ o = some .eq := by rcases o with _ | (_ | _ | _) <;> simp [Ordering.swap]
theorem own_dgt (x y : UInt64) : dLt y x ↔ FP.dcmp x y = some .gt := by
  show FP.Core.dcmp y x = some .lt ↔ FP.Core.dcmp x y = some .gt
  rw [FP.Core.dcmp_swap x y]; exact own_swap _
theorem own_dge (x y : UInt64) : dLe y x ↔ (FP.dcmp x y = some .gt ∨ FP.dcmp x y = some .eq) := by
  show (FP.Core.dcmp y x = some .lt ∨ FP.Core.dcmp y x = some .eq) ↔ (FP.Core.dcmp x y = some .gt ∨ FP.Core.dcmp x y = some .eq)
  rw [FP.Core.dcmp_swap x y, own_swap, own_swapE]
theorem own_fgt (x y : UInt32) : fLt y x ↔ FP.fcmp x y = some .gt := by
  show FP.Core.fcmp y x = some .lt ↔ FP.Core.fcmp x y = some .gt
  rw [FP.Core.fcmp_swap x y]; exact own_swap _
theorem own_fge (x y : UInt32) : fLe y x ↔ (FP.fcmp x y = some .gt ∨ FP.fcmp x y = some .eq) := by
  show (FP.Core.fcmp y x = some .lt ∨ FP.Core.fcmp y x = some .eq) ↔ (FP.Core.fcmp x y = some .gt ∨ FP.Core.fcmp x y = some .eq)
  rw [FP.Core.fcmp_swap x y, own_swap, own_swapE]
theorem own_c (o : Option Ordering) :
    (o = some .lt → ifCond.holds .ge (cmpValue o .g) = false ∧ ifCond.holds .lt (cmpValue o .g) = true) ∧
    (¬ o = some .lt → ifCond.holds .ge (cmpValue o .g) = true ∧ ifCond.holds .lt (cmpValue o .g) = false) ∧
    ((o = some .lt ∨ o = some .eq) → ifCond.holds .gt (cmpValue o .g) = false ∧ ifCond.holds .le (cmpValue o .g) = true) ∧
    (¬ (o = some .lt ∨ o = some .eq) → ifCond.holds .gt (cmpValue o .g) = true ∧ ifCond.holds .le (cmpValue o .g) = false) ∧
    (o = some .gt → ifCond.holds .le (cmpValue o .l) = false ∧ ifCond.holds .gt (cmpValue o .l) = true) ∧
    (¬ o = some .gt → ifCond.holds .le (cmpValue o .l) = true ∧ ifCond.holds .gt (cmpValue o .l) = false) ∧
    ((o = some .gt ∨ o = some .eq) → ifCond.holds .lt (cmpValue o .l) = false ∧ ifCond.holds .ge (cmpValue o .l) = true) ∧
    (¬ (o = some .gt ∨ o = some .eq) → ifCond.holds .lt (cmpValue o .l) = true ∧ ifCond.holds .ge (cmpValue o .l) = false) ∧
    (o = some .eq → ∀ q, ifCond.holds .ne (cmpValue o q) = false ∧ ifCond.holds .eq (cmpValue o q) = true) ∧
    (¬ o = some .eq → ∀ q, ifCond.holds .ne (cmpValue o q) = true ∧ ifCond.holds .eq (cmpValue o q) = false) := by
  refine ⟨?_, ?_, ?_, ?_, ?_, ?_, ?_, ?_, ?_, ?_⟩ <;> rcases o with _ | (_ | _ | _) <;> first | (intro h; exact ⟨by decide, by decide⟩) | (intro h q; cases q <;> exact ⟨by decide, by decide⟩) | (intro h; simp at h; done) | (intro h; exact absurd rfl h) | (intro h; exact absurd (Or.inl rfl) h) | (intro h; exact absurd (Or.inr rfl) h)
theorem dc_g_ge_f {x y : UInt64} (h : dLt x y) : ifCond.holds .ge (cmpValue (FP.dcmp x y) .g) = false := ((own_c _).1 h).1
theorem dc_g_ge_t {x y : UInt64} (h : ¬ dLt x y) : ifCond.holds .ge (cmpValue (FP.dcmp x y) .g) = true := ((own_c _).2.1 h).1
theorem dc_g_lt_t {x y : UInt64} (h : dLt x y) : ifCond.holds .lt (cmpValue (FP.dcmp x y) .g) = true := ((own_c _).1 h).2
theorem dc_g_lt_f {x y : UInt64} (h : ¬ dLt x y) : ifCond.holds .lt (cmpValue (FP.dcmp x y) .g) = false := ((own_c _).2.1 h).2
theorem dc_g_gt_f {x y : UInt64} (h : dLe x y) : ifCond.holds .gt (cmpValue (FP.dcmp x y) .g) = false := ((own_c _).2.2.1 h).1
theorem dc_g_gt_t {x y : UInt64} (h : ¬ dLe x y) : ifCond.holds .gt (cmpValue (FP.dcmp x y) .g) = true := ((own_c _).2.2.2.1 h).1
theorem dc_g_le_t {x y : UInt64} (h : dLe x y) : ifCond.holds .le (cmpValue (FP.dcmp x y) .g) = true := ((own_c _).2.2.1 h).2
theorem dc_g_le_f {x y : UInt64} (h : ¬ dLe x y) : ifCond.holds .le (cmpValue (FP.dcmp x y) .g) = false := ((own_c _).2.2.2.1 h).2
theorem dc_l_le_f {x y : UInt64} (h : dLt y x) : ifCond.holds .le (cmpValue (FP.dcmp x y) .l) = false := ((own_c _).2.2.2.2.1 ((own_dgt x y).mp h)).1
theorem dc_l_le_t {x y : UInt64} (h : ¬ dLt y x) : ifCond.holds .le (cmpValue (FP.dcmp x y) .l) = true := ((own_c _).2.2.2.2.2.1 (fun q => h ((own_dgt x y).mpr q))).1
theorem dc_l_gt_t {x y : UInt64} (h : dLt y x) : ifCond.holds .gt (cmpValue (FP.dcmp x y) .l) = true := ((own_c _).2.2.2.2.1 ((own_dgt x y).mp h)).2
theorem dc_l_gt_f {x y : UInt64} (h : ¬ dLt y x) : ifCond.holds .gt (cmpValue (FP.dcmp x y) .l) = false := ((own_c _).2.2.2.2.2.1 (fun q => h ((own_dgt x y).mpr q))).2
theorem dc_l_lt_f {x y : UInt64} (h : dLe y x) : ifCond.holds .lt (cmpValue (FP.dcmp x y) .l) = false := ((own_c _).2.2.2.2.2.2.1 ((own_dge x y).mp h)).1
theorem dc_l_lt_t {x y : UInt64} (h : ¬ dLe y x) : ifCond.holds .lt (cmpValue (FP.dcmp x y) .l) = true := ((own_c _).2.2.2.2.2.2.2.1 (fun q => h ((own_dge x y).mpr q))).1
theorem dc_l_ge_t {x y : UInt64} (h : dLe y x) : ifCond.holds .ge (cmpValue (FP.dcmp x y) .l) = true := ((own_c _).2.2.2.2.2.2.1 ((own_dge x y).mp h)).2
theorem dc_l_ge_f {x y : UInt64} (h : ¬ dLe y x) : ifCond.holds .ge (cmpValue (FP.dcmp x y) .l) = false := ((own_c _).2.2.2.2.2.2.2.1 (fun q => h ((own_dge x y).mpr q))).2
theorem dc_l_ne_f {x y : UInt64} (h : dEq x y) : ifCond.holds .ne (cmpValue (FP.dcmp x y) .l) = false := ((own_c _).2.2.2.2.2.2.2.2.1 h _).1
theorem dc_l_ne_t {x y : UInt64} (h : ¬ dEq x y) : ifCond.holds .ne (cmpValue (FP.dcmp x y) .l) = true := ((own_c _).2.2.2.2.2.2.2.2.2 h _).1
theorem dc_l_eq_t {x y : UInt64} (h : dEq x y) : ifCond.holds .eq (cmpValue (FP.dcmp x y) .l) = true := ((own_c _).2.2.2.2.2.2.2.2.1 h _).2
theorem dc_l_eq_f {x y : UInt64} (h : ¬ dEq x y) : ifCond.holds .eq (cmpValue (FP.dcmp x y) .l) = false := ((own_c _).2.2.2.2.2.2.2.2.2 h _).2
theorem dc_g_ne_f {x y : UInt64} (h : dEq x y) : ifCond.holds .ne (cmpValue (FP.dcmp x y) .g) = false := ((own_c _).2.2.2.2.2.2.2.2.1 h _).1
theorem dc_g_ne_t {x y : UInt64} (h : ¬ dEq x y) : ifCond.holds .ne (cmpValue (FP.dcmp x y) .g) = true := ((own_c _).2.2.2.2.2.2.2.2.2 h _).1
theorem dc_g_eq_t {x y : UInt64} (h : dEq x y) : ifCond.holds .eq (cmpValue (FP.dcmp x y) .g) = true := ((own_c _).2.2.2.2.2.2.2.2.1 h _).2
theorem dc_g_eq_f {x y : UInt64} (h : ¬ dEq x y) : ifCond.holds .eq (cmpValue (FP.dcmp x y) .g) = false := ((own_c _).2.2.2.2.2.2.2.2.2 h _).2
theorem fc_g_ge_f {x y : UInt32} (h : fLt x y) : ifCond.holds .ge (cmpValue (FP.fcmp x y) .g) = false := ((own_c _).1 h).1
theorem fc_g_ge_t {x y : UInt32} (h : ¬ fLt x y) : ifCond.holds .ge (cmpValue (FP.fcmp x y) .g) = true := ((own_c _).2.1 h).1
theorem fc_g_lt_t {x y : UInt32} (h : fLt x y) : ifCond.holds .lt (cmpValue (FP.fcmp x y) .g) = true := ((own_c _).1 h).2
theorem fc_g_lt_f {x y : UInt32} (h : ¬ fLt x y) : ifCond.holds .lt (cmpValue (FP.fcmp x y) .g) = false := ((own_c _).2.1 h).2
theorem fc_g_gt_f {x y : UInt32} (h : fLe x y) : ifCond.holds .gt (cmpValue (FP.fcmp x y) .g) = false := ((own_c _).2.2.1 h).1
theorem fc_g_gt_t {x y : UInt32} (h : ¬ fLe x y) : ifCond.holds .gt (cmpValue (FP.fcmp x y) .g) = true := ((own_c _).2.2.2.1 h).1
theorem fc_g_le_t {x y : UInt32} (h : fLe x y) : ifCond.holds .le (cmpValue (FP.fcmp x y) .g) = true := ((own_c _).2.2.1 h).2
theorem fc_g_le_f {x y : UInt32} (h : ¬ fLe x y) : ifCond.holds .le (cmpValue (FP.fcmp x y) .g) = false := ((own_c _).2.2.2.1 h).2
theorem fc_l_le_f {x y : UInt32} (h : fLt y x) : ifCond.holds .le (cmpValue (FP.fcmp x y) .l) = false := ((own_c _).2.2.2.2.1 ((own_fgt x y).mp h)).1
theorem fc_l_le_t {x y : UInt32} (h : ¬ fLt y x) : ifCond.holds .le (cmpValue (FP.fcmp x y) .l) = true := ((own_c _).2.2.2.2.2.1 (fun q => h ((own_fgt x y).mpr q))).1
theorem fc_l_gt_t {x y : UInt32} (h : fLt y x) : ifCond.holds .gt (cmpValue (FP.fcmp x y) .l) = true := ((own_c _).2.2.2.2.1 ((own_fgt x y).mp h)).2
theorem fc_l_gt_f {x y : UInt32} (h : ¬ fLt y x) : ifCond.holds .gt (cmpValue (FP.fcmp x y) .l) = false := ((own_c _).2.2.2.2.2.1 (fun q => h ((own_fgt x y).mpr q))).2
theorem fc_l_lt_f {x y : UInt32} (h : fLe y x) : ifCond.holds .lt (cmpValue (FP.fcmp x y) .l) = false := ((own_c _).2.2.2.2.2.2.1 ((own_fge x y).mp h)).1
theorem fc_l_lt_t {x y : UInt32} (h : ¬ fLe y x) : ifCond.holds .lt (cmpValue (FP.fcmp x y) .l) = true := ((own_c _).2.2.2.2.2.2.2.1 (fun q => h ((own_fge x y).mpr q))).1
theorem fc_l_ge_t {x y : UInt32} (h : fLe y x) : ifCond.holds .ge (cmpValue (FP.fcmp x y) .l) = true := ((own_c _).2.2.2.2.2.2.1 ((own_fge x y).mp h)).2
theorem fc_l_ge_f {x y : UInt32} (h : ¬ fLe y x) : ifCond.holds .ge (cmpValue (FP.fcmp x y) .l) = false := ((own_c _).2.2.2.2.2.2.2.1 (fun q => h ((own_fge x y).mpr q))).2
theorem fc_l_ne_f {x y : UInt32} (h : fEq x y) : ifCond.holds .ne (cmpValue (FP.fcmp x y) .l) = false := ((own_c _).2.2.2.2.2.2.2.2.1 h _).1
theorem fc_l_ne_t {x y : UInt32} (h : ¬ fEq x y) : ifCond.holds .ne (cmpValue (FP.fcmp x y) .l) = true := ((own_c _).2.2.2.2.2.2.2.2.2 h _).1
theorem fc_l_eq_t {x y : UInt32} (h : fEq x y) : ifCond.holds .eq (cmpValue (FP.fcmp x y) .l) = true := ((own_c _).2.2.2.2.2.2.2.2.1 h _).2
theorem fc_l_eq_f {x y : UInt32} (h : ¬ fEq x y) : ifCond.holds .eq (cmpValue (FP.fcmp x y) .l) = false := ((own_c _).2.2.2.2.2.2.2.2.2 h _).2
theorem fc_g_ne_f {x y : UInt32} (h : fEq x y) : ifCond.holds .ne (cmpValue (FP.fcmp x y) .g) = false := ((own_c _).2.2.2.2.2.2.2.2.1 h _).1
theorem fc_g_ne_t {x y : UInt32} (h : ¬ fEq x y) : ifCond.holds .ne (cmpValue (FP.fcmp x y) .g) = true := ((own_c _).2.2.2.2.2.2.2.2.2 h _).1
theorem fc_g_eq_t {x y : UInt32} (h : fEq x y) : ifCond.holds .eq (cmpValue (FP.fcmp x y) .g) = true := ((own_c _).2.2.2.2.2.2.2.2.1 h _).2
theorem fc_g_eq_f {x y : UInt32} (h : ¬ fEq x y) : ifCond.holds .eq (cmpValue (FP.fcmp x y) .g) = false := ((own_c _).2.2.2.2.2.2.2.2.2 h _).2

theorem own_irr (x : Int32) : ¬ x < x := by rw [Int32.lt_iff_toInt_lt]; omega
theorem own_ntl {j n : Int32} (h0 : ¬ j < 0) (h : j < n) : j.toNatClampNeg < n.toNatClampNeg := by
  rw [Int32.lt_iff_toInt_lt] at h h0
  have z : (0 : Int32).toInt = 0 := by decide
  have a := nat_of (j := j) (by rw [Int32.lt_iff_toInt_lt]; exact h0)
  have b := nat_of (j := n) (by rw [Int32.lt_iff_toInt_lt]; omega)
  omega
theorem own_inc {j n : Int32} (h : j < n) : (j + 1).toInt = j.toInt + 1 := by
  rw [Int32.lt_iff_toInt_lt] at h
  have h1 := c_iadd j 1
  have h2 := rng32 (j + 1)
  have h3 := rng32 n
  have h4 := rng32 j
  have z : (1 : Int32).toInt = 1 := by decide
  omega
/-- every component is a probability -/
def Prob (n : Int32) (vs : List Value) (d : Value) : Prop := ∀ i, i < n.toNatClampNeg → ∃ x : UInt64, vs.getD i d = .double x ∧ dLe (0 : UInt64) x ∧ dLe x (4607182418800017408 : UInt64)
def Sc (s4 s5 : Slot) : Prop := (s4 = .unset ∧ s5 = .unset) ∨ ∃ y : UInt64, s4 = .val (.double y) ∧ s5 = .second


section Own
open Jvm.OwnFP
theorem own_vz (k : Nat) : Val (0 : UInt64) 0 k := by
  have h := Val.i2d 0
  rw [show FP.i2d 0 = (0 : UInt64) by decide +kernel] at h
  exact ⟨h.1, by rw [h.2, show (0 : Int32).toInt = 0 by decide, Int.zero_mul, Int.zero_mul]⟩
theorem own_v1 : Val (4607182418800017408 : UInt64) 1 1074 := Val.of_int FP.Core.dint_one
theorem own_cmp {N M : Int} (h : N ≤ M) : compare N M = .lt ∨ compare N M = .eq := by
  rw [FP.Core.compare_lt_iff, FP.Core.compare_eq_iff]; omega
theorem own_prob {a : UInt64} {N : Int} {j : Nat} (h : Val a N (1074 - j)) (hj : j ≤ 1074) (h0 : 0 ≤ N) (h1 : N ≤ ((2 ^ j : Nat) : Int)) : dLe (0 : UInt64) a ∧ dLe a (4607182418800017408 : UInt64) := by
  have hv : Val (4607182418800017408 : UInt64) (1 * ((2 ^ j : Nat) : Int)) (1074 - j) := Val.scale j (by rw [Nat.sub_add_cancel hj]; exact own_v1)
  unfold dLe
  rw [(own_vz (1074 - j)).cmp h, h.cmp hv]
  exact ⟨by simpa using own_cmp h0, by simpa using own_cmp (N := N) (M := 1 * ((2 ^ j : Nat) : Int)) (by omega)⟩
end Own

theorem own_nn (a : Int32) : Jvm.Free.Fl.NoNaN64 (FP.ddiv (FP.i2d a) (4643211215818981376 : UInt64)) := Jvm.Free.Fl.ddiv_out (Jvm.Free.Fl.i2d_fin _).noNaN (by unfold Jvm.Free.Fl.Fin64; decide) (by unfold Jvm.Free.Fl.Nz64; decide)
theorem d1_0 : decode method_3_code 0 = .ok (.iload_n 0, 1) := by decide +kernel
theorem d1_1 : decode method_3_code 1 = .ok (.bipush 8, 2) := by decide +kernel
theorem d1_3 : decode method_3_code 3 = .ok (.imul, 1) := by decide +kernel
theorem d1_4 : decode method_3_code 4 = .ok (.iload_n 1, 1) := by decide +kernel
theorem d1_5 : decode method_3_code 5 = .ok (.iadd, 1) := by decide +kernel
theorem d1_6 : decode method_3_code 6 = .ok (.iconst 1, 1) := by decide +kernel
theorem d1_7 : decode method_3_code 7 = .ok (.iadd, 1) := by decide +kernel
theorem d1_8 : decode method_3_code 8 = .ok (.bipush 64, 2) := by decide +kernel
theorem d1_10 : decode method_3_code 10 = .ok (.iload_n 2, 1) := by decide +kernel
theorem d1_11 : decode method_3_code 11 = .ok (.imul, 1) := by decide +kernel
theorem d1_12 : decode method_3_code 12 = .ok (.iadd, 1) := by decide +kernel
theorem d1_13 : decode method_3_code 13 = .ok (.i2d, 1) := by decide +kernel
theorem d1_14 : decode method_3_code 14 = .ok (.ldc2_w 31, 3) := by decide +kernel
theorem d1_17 : decode method_3_code 17 = .ok (.ddiv, 1) := by decide +kernel
theorem d1_18 : decode method_3_code 18 = .ok (.dreturn, 1) := by decide +kernel
theorem pd0 : parseMethodDescriptor "(III)D" = some ⟨[.int, .int, .int], some .double⟩ := by decide +kernel
theorem pf_sh : plainFor (⟨"com/example/borrowed_prior/borrowedprior/model/TopicModelDocumentTopicPinLaw", "share", "(III)D"⟩ : MethodName) = true := by first | exact plainFor_of_name (by first | (simp [plainName, overriddenIn, x]; done) | decide +kernel) | exact Jvm.Free.JP.mathPlain rfl (by decide +kernel) | decide +kernel
theorem ef_sh (m : MethodId) (xd : Int32) (xk : Int32) (xs : Int32) : entryFrame m #[(.int xd), (.int xk), (.int xs)] 3 = mkF m 0 #[iv xd, iv xk, iv xs] [] := by first | (simp [entryFrame, mkF, argsToLocals, Value.category, maxLocals]; done) | rfl
def f_sh (xd : Int32) (xk : Int32) (xs : Int32) : UInt64 := (FP.ddiv (FP.i2d ((((xd * (8 : Int32)) + xk) + (1 : Int32)) + ((64 : Int32) * xs))) (4643211215818981376 : UInt64))
def Q_sh (Z : State) (xd : Int32) (xk : Int32) (xs : Int32)  (h0 : Heap) (n0 : Nat) (v : Option Value) (h : Heap) (L : List Loc) : Prop := v = some (.double (f_sh xd xk xs)) ∧ Fr n0 L ∧ h = h0
set_option maxRecDepth 65536 in
set_option maxHeartbeats 40000000 in
theorem rm_sh (l : Launch) (Z : State) (a0 : Array Value) (hw : ∀ d ∈ tables_1, d.before a0 Z = true) (ws : List Jvm.Cond) (xd : Int32) (xk : Int32) (xs : Int32)  (h0 : Heap) (n0 : Nat) (Z0 : n0 ≤ h0.size)   :
    MetFree l (⟨"com/example/borrowed_prior/borrowedprior/model/TopicModelDocumentTopicPinLaw", "share", "(III)D"⟩ : MethodName) (head1 (Jvm.Cond.code (⟨"com/example/borrowed_prior/borrowedprior/model/TopicModelDocumentTopicPinLaw", "share", "(III)D"⟩ : MethodName) method_3_code 3 (some .double) :: ws) ({ frames := 0, cells := 0, slots := 0, locals := 0 } : Room)) (fun a U => a = #[(.int xd), (.int xk), (.int xs)] ∧ Z.Warmed39 U.vm ∧ U.heap = h0) (fun _ _ _ _ _ => True) (fun _ U o U' => ∃ v L, o = .returned v ∧ Q_sh Z xd xk xs  h0 n0 v U'.heap L ∧ FrameEnd U o U' L ({ frames := 0, cells := 0, slots := 0, locals := 0 } : Room).cells ({ frames := 0, cells := 0, slots := 0, locals := 0 } : Room).slots) := by
  refine MetFree.of_bodySF pf_sh hisR ?_
  intro p e s m args below meth c s₁ Bd hml0 hP hK
  obtain ⟨rfl, hZ, hh⟩ := hP
  have hx := Bd.exec
  have hby := Bd.bytes
  have hml : c.maxLocals = 3 := hml0
  have hown : s.vm.findClass "com/example/borrowed_prior/borrowedprior/model/TopicModelDocumentTopicPinLaw" = some m.cls := findClass_of_methodNamed Bd.named
  have hnm := (name_of_methodNamed Bd.named Bd.method).1
  have X0 : Stand p l e ({ frames := 0, cells := 0, slots := 0, locals := 0 } : Room) s m #[(.int xd), (.int xk), (.int xs)] below meth c s₁ [] 0 0 := Stand.of_body Bd
  have e0 : s₁.heap = h0 := by rw [← hh, Bd.state]; rfl
  have N0 := Fr.nil n0
  obtain ⟨S0, hS0⟩ : ∃ z, z = s₁.setTop (entryFrame m #[(.int xd), (.int xk), (.int xs)] 3) := ⟨_, rfl⟩
  rw [← hS0]
  have g0 : Goes p e below S0 (s₁.setTop (mkF m 0 #[iv xd, iv xk, iv xs] [])) := fun t k => by rw [hS0]; exact castTop (ef_sh m xd xk xs) k
  have g1 : Goes p e below S0 (s₁.setTop (mkF m 18 #[iv xd, iv xk, iv xs] [(.double (FP.ddiv (FP.i2d ((((xd * (8 : Int32)) + xk) + (1 : Int32)) + ((64 : Int32) * xs))) (4643211215818981376 : UInt64)))])) := fun t k => g0 t (by
    refine XS.iloadN X0.here hx rfl (hb hby d1_0) rfl ?_
    show Go p e below t s₁ m 1 #[iv xd, iv xk, iv xs] [(.int xd)]
    refine XT.bipushV X0.here hx rfl (8 : Int32) (hb hby d1_1) (by decide) ?_
    show Go p e below t s₁ m 3 #[iv xd, iv xk, iv xs] [(.int (8 : Int32)), (.int xd)]
    refine XS.imul X0.here hx rfl (hb hby d1_3) rfl ?_
    show Go p e below t s₁ m 4 #[iv xd, iv xk, iv xs] [(.int (xd * (8 : Int32)))]
    refine XS.iloadN X0.here hx rfl (hb hby d1_4) rfl ?_
    show Go p e below t s₁ m 5 #[iv xd, iv xk, iv xs] [(.int xk), (.int (xd * (8 : Int32)))]
    refine XS.iadd X0.here hx rfl (hb hby d1_5) rfl ?_
    show Go p e below t s₁ m 6 #[iv xd, iv xk, iv xs] [(.int ((xd * (8 : Int32)) + xk))]
    refine XT.iconstV X0.here hx rfl (1 : Int32) (hb hby d1_6) (by decide) ?_
    show Go p e below t s₁ m 7 #[iv xd, iv xk, iv xs] [(.int (1 : Int32)), (.int ((xd * (8 : Int32)) + xk))]
    refine XS.iadd X0.here hx rfl (hb hby d1_7) rfl ?_
    show Go p e below t s₁ m 8 #[iv xd, iv xk, iv xs] [(.int (((xd * (8 : Int32)) + xk) + (1 : Int32)))]
    refine XT.bipushV X0.here hx rfl (64 : Int32) (hb hby d1_8) (by decide) ?_
    show Go p e below t s₁ m 10 #[iv xd, iv xk, iv xs] [(.int (64 : Int32)), (.int (((xd * (8 : Int32)) + xk) + (1 : Int32)))]
    refine XS.iloadN X0.here hx rfl (hb hby d1_10) rfl ?_
    show Go p e below t s₁ m 11 #[iv xd, iv xk, iv xs] [(.int xs), (.int (64 : Int32)), (.int (((xd * (8 : Int32)) + xk) + (1 : Int32)))]
    refine XS.imul X0.here hx rfl (hb hby d1_11) rfl ?_
    show Go p e below t s₁ m 12 #[iv xd, iv xk, iv xs] [(.int ((64 : Int32) * xs)), (.int (((xd * (8 : Int32)) + xk) + (1 : Int32)))]
    refine XS.iadd X0.here hx rfl (hb hby d1_12) rfl ?_
    show Go p e below t s₁ m 13 #[iv xd, iv xk, iv xs] [(.int ((((xd * (8 : Int32)) + xk) + (1 : Int32)) + ((64 : Int32) * xs)))]
    refine XS.i2dS X0.here hx rfl (hb hby d1_13) rfl rfl ?_
    show Go p e below t s₁ m 14 #[iv xd, iv xk, iv xs] [(.double (FP.i2d ((((xd * (8 : Int32)) + xk) + (1 : Int32)) + ((64 : Int32) * xs))))]
    refine X0.ldc2DoubleC hx hown (mvT hZ (hw _ (List.mem_of_getElem? (i := 9) rfl))) (g := (mkF m 14 #[iv xd, iv xk, iv xs] [(.double (FP.i2d ((((xd * (8 : Int32)) + xk) + (1 : Int32)) + ((64 : Int32) * xs))))])) rfl (hb hby d1_14) _ ?_
    show Go p e below t s₁ m 17 #[iv xd, iv xk, iv xs] [(.double (4643211215818981376 : UInt64)), (.double (FP.i2d ((((xd * (8 : Int32)) + xk) + (1 : Int32)) + ((64 : Int32) * xs))))]
    refine XS.ddivS X0.here hx rfl (hb hby d1_17) rfl (own_nn _) rfl ?_
    show Go p e below t s₁ m 18 #[iv xd, iv xk, iv xs] [(.double (FP.ddiv (FP.i2d ((((xd * (8 : Int32)) + xk) + (1 : Int32)) + ((64 : Int32) * xs))) (4643211215818981376 : UInt64)))]
    exact k)
  obtain ⟨fs, hr, hrun, hended, hW, hsame⟩ := X0.leave (v := some (.double (FP.ddiv (FP.i2d ((((xd * (8 : Int32)) + xk) + (1 : Int32)) + ((64 : Int32) * xs))) (4643211215818981376 : UInt64)))) (fun h => by rw [Bd.returns] at h; cases h)
  refine ⟨_, _, g1 _ (retOut X0 hx Bd.returns rfl (Or.inr (Or.inr (Or.inl ⟨rfl, rfl, _, rfl⟩))) (hb hby d1_18) hr), hrun, hended, _, _, rfl, ?_, ⟨_, rfl⟩, hW, hsame.mono (by decide) (by decide)⟩
  show Q_sh Z xd xk xs  h0 n0 _ s₁.heap _
  rw [e0]
  exact ⟨rfl, N0, rfl⟩
theorem d4_0 : decode prog_37_method_12_code 0 = .ok (.aload_n 0, 1) := by decide +kernel
theorem d4_1 : decode prog_37_method_12_code 1 = .ok (.astore_n 1, 1) := by decide +kernel
theorem d4_2 : decode prog_37_method_12_code 2 = .ok (.aload_n 1, 1) := by decide +kernel
theorem d4_3 : decode prog_37_method_12_code 3 = .ok (.arraylength, 1) := by decide +kernel
theorem d4_4 : decode prog_37_method_12_code 4 = .ok (.istore_n 2, 1) := by decide +kernel
theorem d4_5 : decode prog_37_method_12_code 5 = .ok (.iconst 0, 1) := by decide +kernel
theorem d4_6 : decode prog_37_method_12_code 6 = .ok (.istore_n 3, 1) := by decide +kernel
theorem d4_7 : decode prog_37_method_12_code 7 = .ok (.iload_n 3, 1) := by decide +kernel
theorem d4_8 : decode prog_37_method_12_code 8 = .ok (.iload_n 2, 1) := by decide +kernel
theorem d4_9 : decode prog_37_method_12_code 9 = .ok (.if_icmp .ge 43, 3) := by decide +kernel
theorem d4_12 : decode prog_37_method_12_code 12 = .ok (.aload_n 1, 1) := by decide +kernel
theorem d4_13 : decode prog_37_method_12_code 13 = .ok (.iload_n 3, 1) := by decide +kernel
theorem d4_14 : decode prog_37_method_12_code 14 = .ok (.daload, 1) := by decide +kernel
theorem d4_15 : decode prog_37_method_12_code 15 = .ok (.dstore 4, 2) := by decide +kernel
theorem d4_17 : decode prog_37_method_12_code 17 = .ok (.dload 4, 2) := by decide +kernel
theorem d4_19 : decode prog_37_method_12_code 19 = .ok (.dconst 0, 1) := by decide +kernel
theorem d4_20 : decode prog_37_method_12_code 20 = .ok (.dcmp .l, 1) := by decide +kernel
theorem d4_21 : decode prog_37_method_12_code 21 = .ok (.ifCond .lt 10, 3) := by decide +kernel
theorem d4_24 : decode prog_37_method_12_code 24 = .ok (.dload 4, 2) := by decide +kernel
theorem d4_26 : decode prog_37_method_12_code 26 = .ok (.dconst 1, 1) := by decide +kernel
theorem d4_27 : decode prog_37_method_12_code 27 = .ok (.dcmp .g, 1) := by decide +kernel
theorem d4_28 : decode prog_37_method_12_code 28 = .ok (.ifCond .le 18, 3) := by decide +kernel
theorem d4_31 : decode prog_37_method_12_code 31 = .ok (.new 7, 3) := by decide +kernel
theorem d4_34 : decode prog_37_method_12_code 34 = .ok (.dup, 1) := by decide +kernel
theorem d4_35 : decode prog_37_method_12_code 35 = .ok (.dload 4, 2) := by decide +kernel
theorem d4_37 : decode prog_37_method_12_code 37 = .ok (.invokedynamic 115, 5) := by decide +kernel
theorem d4_42 : decode prog_37_method_12_code 42 = .ok (.invokespecial 13, 3) := by decide +kernel
theorem d4_45 : decode prog_37_method_12_code 45 = .ok (.athrow, 1) := by decide +kernel
theorem d4_46 : decode prog_37_method_12_code 46 = .ok (.iinc 3 1, 3) := by decide +kernel
theorem d4_49 : decode prog_37_method_12_code 49 = .ok (.goto (-42), 3) := by decide +kernel
theorem d4_52 : decode prog_37_method_12_code 52 = .ok (.return_, 1) := by decide +kernel
theorem pd1 : parseMethodDescriptor "([D)V" = some ⟨[(.array .double)], none⟩ := by decide +kernel
theorem pf_req : plainFor (⟨"com/example/borrowed_prior/borrowedprior/model/TopicModel", "requireProbabilities", "([D)V"⟩ : MethodName) = true := by first | exact plainFor_of_name (by first | (simp [plainName, overriddenIn, x]; done) | decide +kernel) | exact Jvm.Free.JP.mathPlain rfl (by decide +kernel) | decide +kernel
theorem ef_req (m : MethodId) (qa : Addr) : entryFrame m #[(.ref qa)] 6 = mkF m 0 #[rv qa, .unset, .unset, .unset, .unset, .unset] [] := by first | (simp [entryFrame, mkF, argsToLocals, Value.category, maxLocals]; done) | rfl
def Q_req (Z : State) (qa : Addr) (zk : ClassId) (zn : Int32) (zv : List Value) (zd : Value) (h0 : Heap) (n0 : Nat) (v : Option Value) (h : Heap) (L : List Loc) : Prop := v = none ∧ Fr n0 L ∧ h = h0
set_option maxRecDepth 65536 in
set_option maxHeartbeats 40000000 in
theorem rm_req (l : Launch) (Z : State) (a0 : Array Value) (hw : ∀ d ∈ tables_1, d.before a0 Z = true) (ws : List Jvm.Cond) (qa : Addr) (zk : ClassId) (zn : Int32) (zv : List Value) (zd : Value) (h0 : Heap) (n0 : Nat) (Z0 : n0 ≤ h0.size) (P0 : Arv Z h0 qa zk .double zn zv zd) (hp : Prob zn zv zd) (hz : 0 ≤ zn.toInt)  :
    MetFree l (⟨"com/example/borrowed_prior/borrowedprior/model/TopicModel", "requireProbabilities", "([D)V"⟩ : MethodName) (head1 (Jvm.Cond.code (⟨"com/example/borrowed_prior/borrowedprior/model/TopicModel", "requireProbabilities", "([D)V"⟩ : MethodName) prog_37_method_12_code 6 none :: ws) ({ frames := 0, cells := 0, slots := 0, locals := 0 } : Room)) (fun a U => a = #[(.ref qa)] ∧ Z.Warmed39 U.vm ∧ U.heap = h0) (fun _ _ _ _ _ => True) (fun _ U o U' => ∃ v L, o = .returned v ∧ Q_req Z qa zk zn zv zd h0 n0 v U'.heap L ∧ FrameEnd U o U' L ({ frames := 0, cells := 0, slots := 0, locals := 0 } : Room).cells ({ frames := 0, cells := 0, slots := 0, locals := 0 } : Room).slots) := by
  refine MetFree.of_bodySF pf_req hisR ?_
  intro p e s m args below meth c s₁ Bd hml0 hP hK
  obtain ⟨rfl, hZ, hh⟩ := hP
  have hx := Bd.exec
  have hby := Bd.bytes
  have hml : c.maxLocals = 6 := hml0
  have hown : s.vm.findClass "com/example/borrowed_prior/borrowedprior/model/TopicModel" = some m.cls := findClass_of_methodNamed Bd.named
  have hnm := (name_of_methodNamed Bd.named Bd.method).1
  have X0 : Stand p l e ({ frames := 0, cells := 0, slots := 0, locals := 0 } : Room) s m #[(.ref qa)] below meth c s₁ [] 0 0 := Stand.of_body Bd
  have e0 : s₁.heap = h0 := by rw [← hh, Bd.state]; rfl
  have N0 := Fr.nil n0
  obtain ⟨S0, hS0⟩ : ∃ z, z = s₁.setTop (entryFrame m #[(.ref qa)] 6) := ⟨_, rfl⟩
  rw [← hS0]
  have g0 : Goes p e below S0 (s₁.setTop (mkF m 0 #[rv qa, .unset, .unset, .unset, .unset, .unset] [])) := fun t k => by rw [hS0]; exact castTop (ef_req m qa) k
  have g2 : Goes p e below S0 (s₁.setTop (mkF m 3 #[rv qa, rv qa, .unset, .unset, .unset, .unset] [(.ref qa)])) := fun t k => g0 t (by
    refine XS.aloadN X0.here hx rfl (hb hby d4_0) rfl rfl ?_
    show Go p e below t s₁ m 1 #[rv qa, .unset, .unset, .unset, .unset, .unset] [(.ref qa)]
    refine XS.astoreN X0.here hx rfl (hb hby d4_1) rfl rfl (l' := #[rv qa, rv qa, .unset, .unset, .unset, .unset]) rfl ?_
    show Go p e below t s₁ m 2 #[rv qa, rv qa, .unset, .unset, .unset, .unset] []
    refine XS.aloadN X0.here hx rfl (hb hby d4_2) rfl rfl ?_
    show Go p e below t s₁ m 3 #[rv qa, rv qa, .unset, .unset, .unset, .unset] [(.ref qa)]
    exact k)
  obtain ⟨cl3, Ar3, q3, S3, M3, H3, G3⟩ := id P0
  have g4 : Goes p e below S0 (s₁.setTop (mkF m 7 #[rv qa, rv qa, iv zn, iv (0 : Int32), .unset, .unset] [])) := fun t k => g2 t (by
    refine X0.arraylength hx (by rw [e0]; exact Ar3.1) (State.isArrayOf_alike hZ.alike Ar3.2.1) (g := (mkF m 3 #[rv qa, rv qa, .unset, .unset, .unset, .unset] [(.ref qa)])) rfl rfl (hb hby d4_3) _ ?_
    rw [len_of S3 M3]
    show Go p e below t s₁ m 4 #[rv qa, rv qa, .unset, .unset, .unset, .unset] [(.int zn)]
    refine XS.istoreN X0.here hx rfl (hb hby d4_4) rfl (l' := #[rv qa, rv qa, iv zn, .unset, .unset, .unset]) rfl ?_
    show Go p e below t s₁ m 5 #[rv qa, rv qa, iv zn, .unset, .unset, .unset] []
    refine XT.iconstV X0.here hx rfl (0 : Int32) (hb hby d4_5) (by decide) ?_
    show Go p e below t s₁ m 6 #[rv qa, rv qa, iv zn, .unset, .unset, .unset] [(.int (0 : Int32))]
    refine XS.istoreN X0.here hx rfl (hb hby d4_6) rfl (l' := #[rv qa, rv qa, iv zn, iv (0 : Int32), .unset, .unset]) rfl ?_
    show Go p e below t s₁ m 7 #[rv qa, rv qa, iv zn, iv (0 : Int32), .unset, .unset] []
    exact k)
  have turn : ∀ (j : Int32) (s4 s5 : Slot), Sc s4 s5 → ¬ j < 0 → j < zn → ∃ x : UInt64, Goes p e below (s₁.setTop (mkF m 7 #[rv qa, rv qa, iv zn, iv j, s4, s5] [])) (s₁.setTop (mkF m 7 #[rv qa, rv qa, iv zn, iv (j + (1 : Int32)), .val (.double x), .second] [])) := by
    intro j s4 s5 hs hj0 hj
    obtain ⟨x, ex, e1, e2⟩ := hp j.toNatClampNeg (own_ntl hj0 hj)
    refine ⟨x, ?_⟩
    rcases hs with ⟨rfl, rfl⟩ | ⟨y, rfl, rfl⟩
    · skip
      have g5 : Goes p e below (s₁.setTop (mkF m 7 #[rv qa, rv qa, iv zn, iv j, .unset, .unset] [])) (s₁.setTop (mkF m 7 #[rv qa, rv qa, iv zn, iv j, .unset, .unset] [])) := fun t k => k
      have g6 : Goes p e below (s₁.setTop (mkF m 7 #[rv qa, rv qa, iv zn, iv j, .unset, .unset] [])) (s₁.setTop (mkF m 14 #[rv qa, rv qa, iv zn, iv j, .unset, .unset] [(.int j), (.ref qa)])) := fun t k => g5 t (by
        refine XS.iloadN X0.here hx rfl (hb hby d4_7) rfl ?_
        show Go p e below t s₁ m 8 #[rv qa, rv qa, iv zn, iv j, .unset, .unset] [(.int j)]
        refine XS.iloadN X0.here hx rfl (hb hby d4_8) rfl ?_
        show Go p e below t s₁ m 9 #[rv qa, rv qa, iv zn, iv j, .unset, .unset] [(.int zn), (.int j)]
        refine XS.icmpNo X0.here hx rfl (hb hby d4_9) rfl (XT.ii_ge_f hj) ?_
        show Go p e below t s₁ m 12 #[rv qa, rv qa, iv zn, iv j, .unset, .unset] []
        refine XS.aloadN X0.here hx rfl (hb hby d4_12) rfl rfl ?_
        show Go p e below t s₁ m 13 #[rv qa, rv qa, iv zn, iv j, .unset, .unset] [(.ref qa)]
        refine XS.iloadN X0.here hx rfl (hb hby d4_13) rfl ?_
        show Go p e below t s₁ m 14 #[rv qa, rv qa, iv zn, iv j, .unset, .unset] [(.int j), (.ref qa)]
        exact k)
      obtain ⟨cl7, Ar7, q7, S7, M7, H7, G7⟩ := id P0
      have g8 : Goes p e below (s₁.setTop (mkF m 7 #[rv qa, rv qa, iv zn, iv j, .unset, .unset] [])) (s₁.setTop (mkF m 7 #[rv qa, rv qa, iv zn, iv (j + (1 : Int32)), .val (.double x), .second] [])) := fun t k => g6 t (by
        refine X0.daload hx (j := j) (v := (.double x)) (by rw [e0]; exact Ar7.1) (State.isArrayOf_alike hZ.alike Ar7.2.1) Ar7.2.2 (inb_of S7 ⟨hj0, hj⟩) (H7.at (inb_of S7 ⟨hj0, hj⟩) ex) (g := (mkF m 14 #[rv qa, rv qa, iv zn, iv j, .unset, .unset] [(.int j), (.ref qa)])) rfl rfl (hb hby d4_14) _ ?_
        show Go p e below t s₁ m 15 #[rv qa, rv qa, iv zn, iv j, .unset, .unset] [(.double x)]
        refine XS.dstore X0.here hx rfl (hb hby d4_15) rfl (l' := #[rv qa, rv qa, iv zn, iv j, .val (.double x), .second]) rfl ?_
        show Go p e below t s₁ m 17 #[rv qa, rv qa, iv zn, iv j, .val (.double x), .second] []
        refine XS.dload X0.here hx rfl (hb hby d4_17) rfl ?_
        show Go p e below t s₁ m 19 #[rv qa, rv qa, iv zn, iv j, .val (.double x), .second] [(.double x)]
        refine XS.dconst0 X0.here hx rfl (hb hby d4_19) (v := (0 : UInt64)) rfl ?_
        show Go p e below t s₁ m 20 #[rv qa, rv qa, iv zn, iv j, .val (.double x), .second] [(.double (0 : UInt64)), (.double x)]
        refine XS.dcmpS X0.here hx rfl (hb hby d4_20) rfl rfl ?_
        show Go p e below t s₁ m 21 #[rv qa, rv qa, iv zn, iv j, .val (.double x), .second] [(.int (cmpValue (FP.dcmp x (0 : UInt64)) .l))]
        refine XS.ifNo X0.here hx rfl (hb hby d4_21) rfl (dc_l_lt_f e1) ?_
        show Go p e below t s₁ m 24 #[rv qa, rv qa, iv zn, iv j, .val (.double x), .second] []
        refine XS.dload X0.here hx rfl (hb hby d4_24) rfl ?_
        show Go p e below t s₁ m 26 #[rv qa, rv qa, iv zn, iv j, .val (.double x), .second] [(.double x)]
        refine XS.dconst1 X0.here hx rfl (hb hby d4_26) (v := (4607182418800017408 : UInt64)) rfl ?_
        show Go p e below t s₁ m 27 #[rv qa, rv qa, iv zn, iv j, .val (.double x), .second] [(.double (4607182418800017408 : UInt64)), (.double x)]
        refine XS.dcmpS X0.here hx rfl (hb hby d4_27) rfl rfl ?_
        show Go p e below t s₁ m 28 #[rv qa, rv qa, iv zn, iv j, .val (.double x), .second] [(.int (cmpValue (FP.dcmp x (4607182418800017408 : UInt64)) .g))]
        refine XS.ifYes X0.here hx rfl (pc0 := 28) (pc' := 46) rfl (hb hby d4_28) rfl (dc_g_le_t e2) (by decide) (by decide) ?_
        show Go p e below t s₁ m 46 #[rv qa, rv qa, iv zn, iv j, .val (.double x), .second] []
        refine XT.iincV X0.here hx rfl (1 : Int32) (hb hby d4_46) (by decide) rfl (l' := #[rv qa, rv qa, iv zn, iv (j + (1 : Int32)), .val (.double x), .second]) rfl ?_
        show Go p e below t s₁ m 49 #[rv qa, rv qa, iv zn, iv (j + (1 : Int32)), .val (.double x), .second] []
        refine XS.goto X0.here hx rfl (pc0 := 49) (pc' := 7) rfl (hb hby d4_49) (by decide) (by decide) ?_
        show Go p e below t s₁ m 7 #[rv qa, rv qa, iv zn, iv (j + (1 : Int32)), .val (.double x), .second] []
        exact k)
      exact g8
    · skip
      have g9 : Goes p e below (s₁.setTop (mkF m 7 #[rv qa, rv qa, iv zn, iv j, .val (.double y), .second] [])) (s₁.setTop (mkF m 7 #[rv qa, rv qa, iv zn, iv j, .val (.double y), .second] [])) := fun t k => k
      have g10 : Goes p e below (s₁.setTop (mkF m 7 #[rv qa, rv qa, iv zn, iv j, .val (.double y), .second] [])) (s₁.setTop (mkF m 14 #[rv qa, rv qa, iv zn, iv j, .val (.double y), .second] [(.int j), (.ref qa)])) := fun t k => g9 t (by
        refine XS.iloadN X0.here hx rfl (hb hby d4_7) rfl ?_
        show Go p e below t s₁ m 8 #[rv qa, rv qa, iv zn, iv j, .val (.double y), .second] [(.int j)]
        refine XS.iloadN X0.here hx rfl (hb hby d4_8) rfl ?_
        show Go p e below t s₁ m 9 #[rv qa, rv qa, iv zn, iv j, .val (.double y), .second] [(.int zn), (.int j)]
        refine XS.icmpNo X0.here hx rfl (hb hby d4_9) rfl (XT.ii_ge_f hj) ?_
        show Go p e below t s₁ m 12 #[rv qa, rv qa, iv zn, iv j, .val (.double y), .second] []
        refine XS.aloadN X0.here hx rfl (hb hby d4_12) rfl rfl ?_
        show Go p e below t s₁ m 13 #[rv qa, rv qa, iv zn, iv j, .val (.double y), .second] [(.ref qa)]
        refine XS.iloadN X0.here hx rfl (hb hby d4_13) rfl ?_
        show Go p e below t s₁ m 14 #[rv qa, rv qa, iv zn, iv j, .val (.double y), .second] [(.int j), (.ref qa)]
        exact k)
      obtain ⟨cl11, Ar11, q11, S11, M11, H11, G11⟩ := id P0
      have g12 : Goes p e below (s₁.setTop (mkF m 7 #[rv qa, rv qa, iv zn, iv j, .val (.double y), .second] [])) (s₁.setTop (mkF m 7 #[rv qa, rv qa, iv zn, iv (j + (1 : Int32)), .val (.double x), .second] [])) := fun t k => g10 t (by
        refine X0.daload hx (j := j) (v := (.double x)) (by rw [e0]; exact Ar11.1) (State.isArrayOf_alike hZ.alike Ar11.2.1) Ar11.2.2 (inb_of S11 ⟨hj0, hj⟩) (H11.at (inb_of S11 ⟨hj0, hj⟩) ex) (g := (mkF m 14 #[rv qa, rv qa, iv zn, iv j, .val (.double y), .second] [(.int j), (.ref qa)])) rfl rfl (hb hby d4_14) _ ?_
        show Go p e below t s₁ m 15 #[rv qa, rv qa, iv zn, iv j, .val (.double y), .second] [(.double x)]
        refine XS.dstore X0.here hx rfl (hb hby d4_15) rfl (l' := #[rv qa, rv qa, iv zn, iv j, .val (.double x), .second]) rfl ?_
        show Go p e below t s₁ m 17 #[rv qa, rv qa, iv zn, iv j, .val (.double x), .second] []
        refine XS.dload X0.here hx rfl (hb hby d4_17) rfl ?_
        show Go p e below t s₁ m 19 #[rv qa, rv qa, iv zn, iv j, .val (.double x), .second] [(.double x)]
        refine XS.dconst0 X0.here hx rfl (hb hby d4_19) (v := (0 : UInt64)) rfl ?_
        show Go p e below t s₁ m 20 #[rv qa, rv qa, iv zn, iv j, .val (.double x), .second] [(.double (0 : UInt64)), (.double x)]
        refine XS.dcmpS X0.here hx rfl (hb hby d4_20) rfl rfl ?_
        show Go p e below t s₁ m 21 #[rv qa, rv qa, iv zn, iv j, .val (.double x), .second] [(.int (cmpValue (FP.dcmp x (0 : UInt64)) .l))]
        refine XS.ifNo X0.here hx rfl (hb hby d4_21) rfl (dc_l_lt_f e1) ?_
        show Go p e below t s₁ m 24 #[rv qa, rv qa, iv zn, iv j, .val (.double x), .second] []
        refine XS.dload X0.here hx rfl (hb hby d4_24) rfl ?_
        show Go p e below t s₁ m 26 #[rv qa, rv qa, iv zn, iv j, .val (.double x), .second] [(.double x)]
        refine XS.dconst1 X0.here hx rfl (hb hby d4_26) (v := (4607182418800017408 : UInt64)) rfl ?_
        show Go p e below t s₁ m 27 #[rv qa, rv qa, iv zn, iv j, .val (.double x), .second] [(.double (4607182418800017408 : UInt64)), (.double x)]
        refine XS.dcmpS X0.here hx rfl (hb hby d4_27) rfl rfl ?_
        show Go p e below t s₁ m 28 #[rv qa, rv qa, iv zn, iv j, .val (.double x), .second] [(.int (cmpValue (FP.dcmp x (4607182418800017408 : UInt64)) .g))]
        refine XS.ifYes X0.here hx rfl (pc0 := 28) (pc' := 46) rfl (hb hby d4_28) rfl (dc_g_le_t e2) (by decide) (by decide) ?_
        show Go p e below t s₁ m 46 #[rv qa, rv qa, iv zn, iv j, .val (.double x), .second] []
        refine XT.iincV X0.here hx rfl (1 : Int32) (hb hby d4_46) (by decide) rfl (l' := #[rv qa, rv qa, iv zn, iv (j + (1 : Int32)), .val (.double x), .second]) rfl ?_
        show Go p e below t s₁ m 49 #[rv qa, rv qa, iv zn, iv (j + (1 : Int32)), .val (.double x), .second] []
        refine XS.goto X0.here hx rfl (pc0 := 49) (pc' := 7) rfl (hb hby d4_49) (by decide) (by decide) ?_
        show Go p e below t s₁ m 7 #[rv qa, rv qa, iv zn, iv (j + (1 : Int32)), .val (.double x), .second] []
        exact k)
      exact g12
  have loop : ∀ (k : Nat) (j : Int32) (s4 s5 : Slot), Sc s4 s5 → j.toInt = zn.toInt - k → 0 ≤ j.toInt → ∃ (t4 t5 : Slot), Goes p e below (s₁.setTop (mkF m 7 #[rv qa, rv qa, iv zn, iv j, s4, s5] [])) (s₁.setTop (mkF m 7 #[rv qa, rv qa, iv zn, iv zn, t4, t5] [])) := by
    intro k
    induction k with
    | zero =>
      intro j s4 s5 hs hk h0
      obtain rfl : j = zn := Int32.toInt_inj.mp (by omega)
      exact ⟨s4, s5, fun t k => k⟩
    | succ k ih =>
      intro j s4 s5 hs hk h0
      have z : (0 : Int32).toInt = 0 := by decide
      have hj : j < zn := by rw [Int32.lt_iff_toInt_lt]; omega
      obtain ⟨x, hg⟩ := turn j s4 s5 hs (by rw [Int32.lt_iff_toInt_lt]; omega) hj
      have hi := own_inc hj
      obtain ⟨t4, t5, hg2⟩ := ih (j + (1 : Int32)) (.val (.double x)) .second (Or.inr ⟨x, rfl, rfl⟩) (by omega) (by omega)
      exact ⟨t4, t5, fun t k => hg t (hg2 t k)⟩
  obtain ⟨t4, t5, hend⟩ := loop zn.toInt.toNat (0 : Int32) .unset .unset (Or.inl ⟨rfl, rfl⟩) (by have z : (0 : Int32).toInt = 0 := (by decide); omega) (by decide)
  have g13 : Goes p e below S0 (s₁.setTop (mkF m 7 #[rv qa, rv qa, iv zn, iv zn, t4, t5] [])) := fun t k => g4 t (hend t k)
  have g14 : Goes p e below S0 (s₁.setTop (mkF m 52 #[rv qa, rv qa, iv zn, iv zn, t4, t5] [])) := fun t k => g13 t (by
    refine XS.iloadN X0.here hx rfl (hb hby d4_7) rfl ?_
    show Go p e below t s₁ m 8 #[rv qa, rv qa, iv zn, iv zn, t4, t5] [(.int zn)]
    refine XS.iloadN X0.here hx rfl (hb hby d4_8) rfl ?_
    show Go p e below t s₁ m 9 #[rv qa, rv qa, iv zn, iv zn, t4, t5] [(.int zn), (.int zn)]
    refine XS.icmpYes X0.here hx rfl (pc0 := 9) (pc' := 52) rfl (hb hby d4_9) rfl (XT.ii_ge_t (own_irr zn)) (by decide) (by decide) ?_
    show Go p e below t s₁ m 52 #[rv qa, rv qa, iv zn, iv zn, t4, t5] []
    exact k)
  obtain ⟨fs, hr, hrun, hended, hW, hsame⟩ := X0.leave (v := none) (fun _ => rfl)
  refine ⟨_, _, g14 _ (X0.returnOut hx Bd.returns (hb hby d4_52) hr), hrun, hended, _, _, rfl, ?_, ⟨_, rfl⟩, hW, hsame.mono (by decide) (by decide)⟩
  show Q_req Z qa zk zn zv zd h0 n0 _ s₁.heap _
  rw [e0]
  exact ⟨rfl, N0, rfl⟩
theorem d2_0 : decode prog_37_method_1_code 0 = .ok (.aload_n 0, 1) := by decide +kernel
theorem d2_1 : decode prog_37_method_1_code 1 = .ok (.invokespecial 1, 3) := by decide +kernel
theorem d2_4 : decode prog_37_method_1_code 4 = .ok (.iload_n 1, 1) := by decide +kernel
theorem d2_5 : decode prog_37_method_1_code 5 = .ok (.iconst 1, 1) := by decide +kernel
theorem d2_6 : decode prog_37_method_1_code 6 = .ok (.if_icmp .lt 18, 3) := by decide +kernel
theorem d2_9 : decode prog_37_method_1_code 9 = .ok (.iload_n 2, 1) := by decide +kernel
theorem d2_10 : decode prog_37_method_1_code 10 = .ok (.ifCond .lt 14, 3) := by decide +kernel
theorem d2_13 : decode prog_37_method_1_code 13 = .ok (.iload_n 3, 1) := by decide +kernel
theorem d2_14 : decode prog_37_method_1_code 14 = .ok (.ifCond .lt 10, 3) := by decide +kernel
theorem d2_17 : decode prog_37_method_1_code 17 = .ok (.lload 4, 2) := by decide +kernel
theorem d2_19 : decode prog_37_method_1_code 19 = .ok (.lconst 0, 1) := by decide +kernel
theorem d2_20 : decode prog_37_method_1_code 20 = .ok (.lcmp, 1) := by decide +kernel
theorem d2_21 : decode prog_37_method_1_code 21 = .ok (.ifCond .ge 21, 3) := by decide +kernel
theorem d2_24 : decode prog_37_method_1_code 24 = .ok (.new 7, 3) := by decide +kernel
theorem d2_27 : decode prog_37_method_1_code 27 = .ok (.dup, 1) := by decide +kernel
theorem d2_28 : decode prog_37_method_1_code 28 = .ok (.iload_n 1, 1) := by decide +kernel
theorem d2_29 : decode prog_37_method_1_code 29 = .ok (.iload_n 2, 1) := by decide +kernel
theorem d2_30 : decode prog_37_method_1_code 30 = .ok (.iload_n 3, 1) := by decide +kernel
theorem d2_31 : decode prog_37_method_1_code 31 = .ok (.lload 4, 2) := by decide +kernel
theorem d2_33 : decode prog_37_method_1_code 33 = .ok (.invokedynamic 9, 5) := by decide +kernel
theorem d2_38 : decode prog_37_method_1_code 38 = .ok (.invokespecial 13, 3) := by decide +kernel
theorem d2_41 : decode prog_37_method_1_code 41 = .ok (.athrow, 1) := by decide +kernel
theorem d2_42 : decode prog_37_method_1_code 42 = .ok (.aload 6, 2) := by decide +kernel
theorem d2_44 : decode prog_37_method_1_code 44 = .ok (.arraylength, 1) := by decide +kernel
theorem d2_45 : decode prog_37_method_1_code 45 = .ok (.i2l, 1) := by decide +kernel
theorem d2_46 : decode prog_37_method_1_code 46 = .ok (.iload_n 2, 1) := by decide +kernel
theorem d2_47 : decode prog_37_method_1_code 47 = .ok (.i2l, 1) := by decide +kernel
theorem d2_48 : decode prog_37_method_1_code 48 = .ok (.iload_n 1, 1) := by decide +kernel
theorem d2_49 : decode prog_37_method_1_code 49 = .ok (.i2l, 1) := by decide +kernel
theorem d2_50 : decode prog_37_method_1_code 50 = .ok (.lmul, 1) := by decide +kernel
theorem d2_51 : decode prog_37_method_1_code 51 = .ok (.lcmp, 1) := by decide +kernel
theorem d2_52 : decode prog_37_method_1_code 52 = .ok (.ifCond .ne 16, 3) := by decide +kernel
theorem d2_55 : decode prog_37_method_1_code 55 = .ok (.aload 7, 2) := by decide +kernel
theorem d2_57 : decode prog_37_method_1_code 57 = .ok (.arraylength, 1) := by decide +kernel
theorem d2_58 : decode prog_37_method_1_code 58 = .ok (.i2l, 1) := by decide +kernel
theorem d2_59 : decode prog_37_method_1_code 59 = .ok (.iload_n 3, 1) := by decide +kernel
theorem d2_60 : decode prog_37_method_1_code 60 = .ok (.i2l, 1) := by decide +kernel
theorem d2_61 : decode prog_37_method_1_code 61 = .ok (.iload_n 1, 1) := by decide +kernel
theorem d2_62 : decode prog_37_method_1_code 62 = .ok (.i2l, 1) := by decide +kernel
theorem d2_63 : decode prog_37_method_1_code 63 = .ok (.lmul, 1) := by decide +kernel
theorem d2_64 : decode prog_37_method_1_code 64 = .ok (.lcmp, 1) := by decide +kernel
theorem d2_65 : decode prog_37_method_1_code 65 = .ok (.ifCond .eq 13, 3) := by decide +kernel
theorem d2_68 : decode prog_37_method_1_code 68 = .ok (.new 7, 3) := by decide +kernel
theorem d2_71 : decode prog_37_method_1_code 71 = .ok (.dup, 1) := by decide +kernel
theorem d2_72 : decode prog_37_method_1_code 72 = .ok (.ldc 16, 2) := by decide +kernel
theorem d2_74 : decode prog_37_method_1_code 74 = .ok (.invokespecial 13, 3) := by decide +kernel
theorem d2_77 : decode prog_37_method_1_code 77 = .ok (.athrow, 1) := by decide +kernel
theorem d2_78 : decode prog_37_method_1_code 78 = .ok (.aload 6, 2) := by decide +kernel
theorem d2_80 : decode prog_37_method_1_code 80 = .ok (.invokestatic 18, 3) := by decide +kernel
theorem d2_83 : decode prog_37_method_1_code 83 = .ok (.aload 7, 2) := by decide +kernel
theorem d2_85 : decode prog_37_method_1_code 85 = .ok (.invokestatic 18, 3) := by decide +kernel
theorem d2_88 : decode prog_37_method_1_code 88 = .ok (.aload_n 0, 1) := by decide +kernel
theorem d2_89 : decode prog_37_method_1_code 89 = .ok (.iload_n 1, 1) := by decide +kernel
theorem d2_90 : decode prog_37_method_1_code 90 = .ok (.putfield 24, 3) := by decide +kernel
theorem d2_93 : decode prog_37_method_1_code 93 = .ok (.aload_n 0, 1) := by decide +kernel
theorem d2_94 : decode prog_37_method_1_code 94 = .ok (.iload_n 2, 1) := by decide +kernel
theorem d2_95 : decode prog_37_method_1_code 95 = .ok (.putfield 28, 3) := by decide +kernel
theorem d2_98 : decode prog_37_method_1_code 98 = .ok (.aload_n 0, 1) := by decide +kernel
theorem d2_99 : decode prog_37_method_1_code 99 = .ok (.iload_n 3, 1) := by decide +kernel
theorem d2_100 : decode prog_37_method_1_code 100 = .ok (.putfield 31, 3) := by decide +kernel
theorem d2_103 : decode prog_37_method_1_code 103 = .ok (.aload_n 0, 1) := by decide +kernel
theorem d2_104 : decode prog_37_method_1_code 104 = .ok (.lload 4, 2) := by decide +kernel
theorem d2_106 : decode prog_37_method_1_code 106 = .ok (.putfield 34, 3) := by decide +kernel
theorem d2_109 : decode prog_37_method_1_code 109 = .ok (.aload_n 0, 1) := by decide +kernel
theorem d2_110 : decode prog_37_method_1_code 110 = .ok (.aload 6, 2) := by decide +kernel
theorem d2_112 : decode prog_37_method_1_code 112 = .ok (.putfield 38, 3) := by decide +kernel
theorem d2_115 : decode prog_37_method_1_code 115 = .ok (.aload_n 0, 1) := by decide +kernel
theorem d2_116 : decode prog_37_method_1_code 116 = .ok (.aload 7, 2) := by decide +kernel
theorem d2_118 : decode prog_37_method_1_code 118 = .ok (.putfield 42, 3) := by decide +kernel
theorem d2_121 : decode prog_37_method_1_code 121 = .ok (.return_, 1) := by decide +kernel
theorem pd2 : parseMethodDescriptor "(IIIJ[D[D)V" = some ⟨[.int, .int, .int, .long, (.array .double), (.array .double)], none⟩ := by decide +kernel
theorem pf_tin : plainFor (⟨"com/example/borrowed_prior/borrowedprior/model/TopicModel", "<init>", "(IIIJ[D[D)V"⟩ : MethodName) = true := by first | exact plainFor_of_name (by first | (simp [plainName, overriddenIn, x]; done) | decide +kernel) | exact Jvm.Free.JP.mathPlain rfl (by decide +kernel) | decide +kernel
theorem ef_tin (m : MethodId) (ta : Addr) (tk : Int32) (td : Int32) (tw : Int32) (tt : Int64) (da : Addr) (pa : Addr) : entryFrame m #[(.ref ta), (.int tk), (.int td), (.int tw), (.long tt), (.ref da), (.ref pa)] 8 = mkF m 0 #[rv ta, iv tk, iv td, iv tw, .val (.long tt), .second, rv da, rv pa] [] := by first | (simp [entryFrame, mkF, argsToLocals, Value.category, maxLocals]; done) | rfl
def Q_tin (Z : State) (ta : Addr) (tk : Int32) (td : Int32) (tw : Int32) (tt : Int64) (da : Addr) (pa : Addr) (dk : ClassId) (dn : Int32) (dv : List Value) (dd : Value) (pk : ClassId) (pn : Int32) (pv : List Value) (pq : Value) (h0 : Heap) (n0 : Nat) (v : Option Value) (h : Heap) (L : List Loc) : Prop := v = none ∧ Fr n0 L ∧ (Keep h0 h [ta]) ∧ (Exa Z h ta "com/example/borrowed_prior/borrowedprior/model/TopicModel") ∧ (Fld Z h ta "com/example/borrowed_prior/borrowedprior/model/TopicModel" "topicCount" "I" (.int tk)) ∧ (Fld Z h ta "com/example/borrowed_prior/borrowedprior/model/TopicModel" "documentCount" "I" (.int td)) ∧ (Fld Z h ta "com/example/borrowed_prior/borrowedprior/model/TopicModel" "termCount" "I" (.int tw)) ∧ (Fld Z h ta "com/example/borrowed_prior/borrowedprior/model/TopicModel" "tokenCount" "J" (.long tt)) ∧ (Fld Z h ta "com/example/borrowed_prior/borrowedprior/model/TopicModel" "documentTopics" "[D" (.ref da)) ∧ (Fld Z h ta "com/example/borrowed_prior/borrowedprior/model/TopicModel" "termTopics" "[D" (.ref pa))
set_option maxRecDepth 65536 in
set_option maxHeartbeats 40000000 in
theorem rm_tin (l : Launch) (Z : State) (a0 : Array Value) (hw : ∀ d ∈ tables_1, d.before a0 Z = true) (ws : List Jvm.Cond) (ta : Addr) (tk : Int32) (td : Int32) (tw : Int32) (tt : Int64) (da : Addr) (pa : Addr) (dk : ClassId) (dn : Int32) (dv : List Value) (dd : Value) (pk : ClassId) (pn : Int32) (pv : List Value) (pq : Value) (h0 : Heap) (n0 : Nat) (Z0 : n0 ≤ h0.size) (P0 : Exa Z h0 ta "com/example/borrowed_prior/borrowedprior/model/TopicModel") (P1 : Fld Z h0 ta "com/example/borrowed_prior/borrowedprior/model/TopicModel" "topicCount" "I" (.int (0 : Int32))) (P2 : Fld Z h0 ta "com/example/borrowed_prior/borrowedprior/model/TopicModel" "documentCount" "I" (.int (0 : Int32))) (P3 : Fld Z h0 ta "com/example/borrowed_prior/borrowedprior/model/TopicModel" "termCount" "I" (.int (0 : Int32))) (P4 : Fld Z h0 ta "com/example/borrowed_prior/borrowedprior/model/TopicModel" "tokenCount" "J" (.long (0 : Int64))) (P5 : Fld Z h0 ta "com/example/borrowed_prior/borrowedprior/model/TopicModel" "documentTopics" "[D" .null) (P6 : Fld Z h0 ta "com/example/borrowed_prior/borrowedprior/model/TopicModel" "termTopics" "[D" .null) (P7 : n0 ≤ ta) (P8 : Arv Z h0 da dk .double dn dv dd) (P9 : Arv Z h0 pa pk .double pn pv pq) (h1 : ¬ (tk < (1 : Int32))) (h2 : ¬ (td < 0)) (h3 : ¬ (tw < 0)) (h4 : ¬ (tt < (0 : Int64))) (h5 : (dn).toInt64 = ((td).toInt64 * (tk).toInt64)) (h6 : (pn).toInt64 = ((tw).toInt64 * (tk).toInt64)) (h7 : Prob dn dv dd) (h8 : Prob pn pv pq) (h9 : 0 ≤ dn.toInt) (h10 : 0 ≤ pn.toInt)  :
    MetFree l (⟨"com/example/borrowed_prior/borrowedprior/model/TopicModel", "<init>", "(IIIJ[D[D)V"⟩ : MethodName) (head1 (Jvm.Cond.code (⟨"com/example/borrowed_prior/borrowedprior/model/TopicModel", "<init>", "(IIIJ[D[D)V"⟩ : MethodName) prog_37_method_1_code 8 none :: ws) ({ frames := 2, cells := 0, slots := 0, locals := 30 } : Room)) (fun a U => a = #[(.ref ta), (.int tk), (.int td), (.int tw), (.long tt), (.ref da), (.ref pa)] ∧ Z.Warmed39 U.vm ∧ U.heap = h0) (fun _ _ _ _ _ => True) (fun _ U o U' => ∃ v L, o = .returned v ∧ Q_tin Z ta tk td tw tt da pa dk dn dv dd pk pn pv pq h0 n0 v U'.heap L ∧ FrameEnd U o U' L ({ frames := 2, cells := 0, slots := 0, locals := 30 } : Room).cells ({ frames := 2, cells := 0, slots := 0, locals := 30 } : Room).slots) := by
  refine MetFree.of_bodySF pf_tin hisR ?_
  intro p e s m args below meth c s₁ Bd hml0 hP hK
  obtain ⟨rfl, hZ, hh⟩ := hP
  have hx := Bd.exec
  have hby := Bd.bytes
  have hml : c.maxLocals = 8 := hml0
  have hown : s.vm.findClass "com/example/borrowed_prior/borrowedprior/model/TopicModel" = some m.cls := findClass_of_methodNamed Bd.named
  have hnm := (name_of_methodNamed Bd.named Bd.method).1
  have X0 : Stand p l e ({ frames := 2, cells := 0, slots := 0, locals := 30 } : Room) s m #[(.ref ta), (.int tk), (.int td), (.int tw), (.long tt), (.ref da), (.ref pa)] below meth c s₁ [] 0 0 := Stand.of_body Bd
  have e0 : s₁.heap = h0 := by rw [← hh, Bd.state]; rfl
  have N0 := Fr.nil n0
  obtain ⟨S0, hS0⟩ : ∃ z, z = s₁.setTop (entryFrame m #[(.ref ta), (.int tk), (.int td), (.int tw), (.long tt), (.ref da), (.ref pa)] 8) := ⟨_, rfl⟩
  rw [← hS0]
  have g0 : Goes p e below S0 (s₁.setTop (mkF m 0 #[rv ta, iv tk, iv td, iv tw, .val (.long tt), .second, rv da, rv pa] [])) := fun t k => by rw [hS0]; exact castTop (ef_tin m ta tk td tw tt da pa) k
  have g15 : Goes p e below S0 (s₁.setTop (mkF m 1 #[rv ta, iv tk, iv td, iv tw, .val (.long tt), .second, rv da, rv pa] [(.ref ta)])) := fun t k => g0 t (by
    refine XS.aloadN X0.here hx rfl (hb hby d2_0) rfl rfl ?_
    show Go p e below t s₁ m 1 #[rv ta, iv tk, iv td, iv tw, .val (.long tt), .second, rv da, rv pa] [(.ref ta)]
    exact k)
  obtain ⟨T16, X16, e16, st16⟩ := initO X0 hx hZ hown (hw _ (List.mem_of_getElem? (i := 17) rfl)) (hw _ (List.mem_of_getElem? (i := 18) rfl)) (hw _ (List.mem_of_getElem? (i := 19) rfl)) e0 (g := (mkF m 1 #[rv ta, iv tk, iv td, iv tw, .val (.long tt), .second, rv da, rv pa] [(.ref ta)])) rfl (by rw [hml]; rfl) rfl (hb hby d2_1) (by decide) (W := 0) (by show 2 * 0 + _ ≤ _; exact Nat.le_of_eq rfl) (by decide)
  have g17 : Goes p e below S0 (T16.setTop (mkF m 4 #[rv ta, iv tk, iv td, iv tw, .val (.long tt), .second, rv da, rv pa] [])) := fun t k => g15 t (st16 t k)
  have g18 : Goes p e below S0 (T16.setTop (mkF m 44 #[rv ta, iv tk, iv td, iv tw, .val (.long tt), .second, rv da, rv pa] [(.ref da)])) := fun t k => g17 t (by
    refine XS.iloadN X16.here hx rfl (hb hby d2_4) rfl ?_
    show Go p e below t T16 m 5 #[rv ta, iv tk, iv td, iv tw, .val (.long tt), .second, rv da, rv pa] [(.int tk)]
    refine XT.iconstV X16.here hx rfl (1 : Int32) (hb hby d2_5) (by decide) ?_
    show Go p e below t T16 m 6 #[rv ta, iv tk, iv td, iv tw, .val (.long tt), .second, rv da, rv pa] [(.int (1 : Int32)), (.int tk)]
    refine XS.icmpNo X16.here hx rfl (hb hby d2_6) rfl (XT.ii_lt_f h1) ?_
    show Go p e below t T16 m 9 #[rv ta, iv tk, iv td, iv tw, .val (.long tt), .second, rv da, rv pa] []
    refine XS.iloadN X16.here hx rfl (hb hby d2_9) rfl ?_
    show Go p e below t T16 m 10 #[rv ta, iv tk, iv td, iv tw, .val (.long tt), .second, rv da, rv pa] [(.int td)]
    refine XS.ifNo X16.here hx rfl (hb hby d2_10) rfl (XT.i0_lt_f h2) ?_
    show Go p e below t T16 m 13 #[rv ta, iv tk, iv td, iv tw, .val (.long tt), .second, rv da, rv pa] []
    refine XS.iloadN X16.here hx rfl (hb hby d2_13) rfl ?_
    show Go p e below t T16 m 14 #[rv ta, iv tk, iv td, iv tw, .val (.long tt), .second, rv da, rv pa] [(.int tw)]
    refine XS.ifNo X16.here hx rfl (hb hby d2_14) rfl (XT.i0_lt_f h3) ?_
    show Go p e below t T16 m 17 #[rv ta, iv tk, iv td, iv tw, .val (.long tt), .second, rv da, rv pa] []
    refine XS.lload X16.here hx rfl (hb hby d2_17) rfl ?_
    show Go p e below t T16 m 19 #[rv ta, iv tk, iv td, iv tw, .val (.long tt), .second, rv da, rv pa] [(.long tt)]
    refine XT.lconstV X16.here hx rfl (0 : Int64) (hb hby d2_19) (by decide) ?_
    show Go p e below t T16 m 20 #[rv ta, iv tk, iv td, iv tw, .val (.long tt), .second, rv da, rv pa] [(.long (0 : Int64)), (.long tt)]
    refine XS.lcmp X16.here hx rfl (hb hby d2_20) rfl ?_
    show Go p e below t T16 m 21 #[rv ta, iv tk, iv td, iv tw, .val (.long tt), .second, rv da, rv pa] [(.int (lcmpW tt (0 : Int64)))]
    refine XS.ifYes X16.here hx rfl (pc0 := 21) (pc' := 42) rfl (hb hby d2_21) rfl (XT.ll_ge_t h4) (by decide) (by decide) ?_
    show Go p e below t T16 m 42 #[rv ta, iv tk, iv td, iv tw, .val (.long tt), .second, rv da, rv pa] []
    refine XS.aload X16.here hx rfl (hb hby d2_42) rfl rfl ?_
    show Go p e below t T16 m 44 #[rv ta, iv tk, iv td, iv tw, .val (.long tt), .second, rv da, rv pa] [(.ref da)]
    exact k)
  obtain ⟨cl19, Ar19, q19, S19, M19, H19, G19⟩ := id P8
  have g20 : Goes p e below S0 (T16.setTop (mkF m 57 #[rv ta, iv tk, iv td, iv tw, .val (.long tt), .second, rv da, rv pa] [(.ref pa)])) := fun t k => g18 t (by
    refine X16.arraylength hx (by rw [e16]; exact Ar19.1) (State.isArrayOf_alike hZ.alike Ar19.2.1) (g := (mkF m 44 #[rv ta, iv tk, iv td, iv tw, .val (.long tt), .second, rv da, rv pa] [(.ref da)])) rfl rfl (hb hby d2_44) _ ?_
    rw [len_of S19 M19]
    show Go p e below t T16 m 45 #[rv ta, iv tk, iv td, iv tw, .val (.long tt), .second, rv da, rv pa] [(.int dn)]
    refine XS.i2l X16.here hx rfl (hb hby d2_45) rfl ?_
    show Go p e below t T16 m 46 #[rv ta, iv tk, iv td, iv tw, .val (.long tt), .second, rv da, rv pa] [(.long ((dn).toInt64))]
    refine XS.iloadN X16.here hx rfl (hb hby d2_46) rfl ?_
    show Go p e below t T16 m 47 #[rv ta, iv tk, iv td, iv tw, .val (.long tt), .second, rv da, rv pa] [(.int td), (.long ((dn).toInt64))]
    refine XS.i2l X16.here hx rfl (hb hby d2_47) rfl ?_
    show Go p e below t T16 m 48 #[rv ta, iv tk, iv td, iv tw, .val (.long tt), .second, rv da, rv pa] [(.long ((td).toInt64)), (.long ((dn).toInt64))]
    refine XS.iloadN X16.here hx rfl (hb hby d2_48) rfl ?_
    show Go p e below t T16 m 49 #[rv ta, iv tk, iv td, iv tw, .val (.long tt), .second, rv da, rv pa] [(.int tk), (.long ((td).toInt64)), (.long ((dn).toInt64))]
    refine XS.i2l X16.here hx rfl (hb hby d2_49) rfl ?_
    show Go p e below t T16 m 50 #[rv ta, iv tk, iv td, iv tw, .val (.long tt), .second, rv da, rv pa] [(.long ((tk).toInt64)), (.long ((td).toInt64)), (.long ((dn).toInt64))]
    refine XS.lmul X16.here hx rfl (hb hby d2_50) rfl ?_
    show Go p e below t T16 m 51 #[rv ta, iv tk, iv td, iv tw, .val (.long tt), .second, rv da, rv pa] [(.long (((td).toInt64) * ((tk).toInt64))), (.long ((dn).toInt64))]
    refine XS.lcmp X16.here hx rfl (hb hby d2_51) rfl ?_
    show Go p e below t T16 m 52 #[rv ta, iv tk, iv td, iv tw, .val (.long tt), .second, rv da, rv pa] [(.int (lcmpW ((dn).toInt64) (((td).toInt64) * ((tk).toInt64))))]
    refine XS.ifNo X16.here hx rfl (hb hby d2_52) rfl (XT.ll_ne_f h5) ?_
    show Go p e below t T16 m 55 #[rv ta, iv tk, iv td, iv tw, .val (.long tt), .second, rv da, rv pa] []
    refine XS.aload X16.here hx rfl (hb hby d2_55) rfl rfl ?_
    show Go p e below t T16 m 57 #[rv ta, iv tk, iv td, iv tw, .val (.long tt), .second, rv da, rv pa] [(.ref pa)]
    exact k)
  obtain ⟨cl21, Ar21, q21, S21, M21, H21, G21⟩ := id P9
  have g22 : Goes p e below S0 (T16.setTop (mkF m 80 #[rv ta, iv tk, iv td, iv tw, .val (.long tt), .second, rv da, rv pa] [(.ref da)])) := fun t k => g20 t (by
    refine X16.arraylength hx (by rw [e16]; exact Ar21.1) (State.isArrayOf_alike hZ.alike Ar21.2.1) (g := (mkF m 57 #[rv ta, iv tk, iv td, iv tw, .val (.long tt), .second, rv da, rv pa] [(.ref pa)])) rfl rfl (hb hby d2_57) _ ?_
    rw [len_of S21 M21]
    show Go p e below t T16 m 58 #[rv ta, iv tk, iv td, iv tw, .val (.long tt), .second, rv da, rv pa] [(.int pn)]
    refine XS.i2l X16.here hx rfl (hb hby d2_58) rfl ?_
    show Go p e below t T16 m 59 #[rv ta, iv tk, iv td, iv tw, .val (.long tt), .second, rv da, rv pa] [(.long ((pn).toInt64))]
    refine XS.iloadN X16.here hx rfl (hb hby d2_59) rfl ?_
    show Go p e below t T16 m 60 #[rv ta, iv tk, iv td, iv tw, .val (.long tt), .second, rv da, rv pa] [(.int tw), (.long ((pn).toInt64))]
    refine XS.i2l X16.here hx rfl (hb hby d2_60) rfl ?_
    show Go p e below t T16 m 61 #[rv ta, iv tk, iv td, iv tw, .val (.long tt), .second, rv da, rv pa] [(.long ((tw).toInt64)), (.long ((pn).toInt64))]
    refine XS.iloadN X16.here hx rfl (hb hby d2_61) rfl ?_
    show Go p e below t T16 m 62 #[rv ta, iv tk, iv td, iv tw, .val (.long tt), .second, rv da, rv pa] [(.int tk), (.long ((tw).toInt64)), (.long ((pn).toInt64))]
    refine XS.i2l X16.here hx rfl (hb hby d2_62) rfl ?_
    show Go p e below t T16 m 63 #[rv ta, iv tk, iv td, iv tw, .val (.long tt), .second, rv da, rv pa] [(.long ((tk).toInt64)), (.long ((tw).toInt64)), (.long ((pn).toInt64))]
    refine XS.lmul X16.here hx rfl (hb hby d2_63) rfl ?_
    show Go p e below t T16 m 64 #[rv ta, iv tk, iv td, iv tw, .val (.long tt), .second, rv da, rv pa] [(.long (((tw).toInt64) * ((tk).toInt64))), (.long ((pn).toInt64))]
    refine XS.lcmp X16.here hx rfl (hb hby d2_64) rfl ?_
    show Go p e below t T16 m 65 #[rv ta, iv tk, iv td, iv tw, .val (.long tt), .second, rv da, rv pa] [(.int (lcmpW ((pn).toInt64) (((tw).toInt64) * ((tk).toInt64))))]
    refine XS.ifYes X16.here hx rfl (pc0 := 65) (pc' := 78) rfl (hb hby d2_65) rfl (XT.ll_eq_t h6) (by decide) (by decide) ?_
    show Go p e below t T16 m 78 #[rv ta, iv tk, iv td, iv tw, .val (.long tt), .second, rv da, rv pa] []
    refine XS.aload X16.here hx rfl (hb hby d2_78) rfl rfl ?_
    show Go p e below t T16 m 80 #[rv ta, iv tk, iv td, iv tw, .val (.long tt), .second, rv da, rv pa] [(.ref da)]
    exact k)
  obtain ⟨_, _, ⟨T23, L23, k23, n23⟩, -, X23, ⟨Lc23, hQ23, l23, y23, z23⟩, st23⟩ := Jvm.LawKit.callS X16 hx (y := (⟨"com/example/borrowed_prior/borrowedprior/model/TopicModel", "requireProbabilities", "([D)V"⟩ : MethodName)) hown (mvT hZ (hw _ (List.mem_of_getElem? (i := 20) rfl))) (mvT hZ (hw _ (List.mem_of_getElem? (i := 21) rfl))) (mvT hZ (hw _ (List.mem_of_getElem? (i := 12) rfl))) (mvT hZ (hw _ (List.mem_of_getElem? (i := 22) rfl))) (by decide) (backOf (W := 0) (rm_req l Z a0 hw [] da dk dn dv dd h0 n0 Z0 P8 h7 h9) hZ (hw _ (List.mem_of_getElem? (i := 22) rfl)) (hw _ (List.mem_of_getElem? (i := 12) rfl)) (by decide) (by decide)) (g := (mkF m 80 #[rv ta, iv tk, iv td, iv tw, .val (.long tt), .second, rv da, rv pa] [(.ref da)])) rfl (by rw [hml]; rfl) (argsL := [(.ref da)]) (rest := []) (lenOf pd1 rfl) rfl (by show 2 * 0 + _ ≤ _; exact Nat.le_of_eq rfl) (hb hby d2_80) (fun _ _ => ⟨rfl, e16, (by decide : 0 + 0 ≤ _), (by decide : 0 + 0 ≤ _)⟩)
  dsimp only [Pt.U, Pt.locs, Pt.cells, Pt.slots] at X23 l23 y23 z23 st23 hQ23
  subst l23 y23 z23
  obtain ⟨rfl, N23, R23_0⟩ := hQ23
  have M23 := Fr.app N0 N23
  have g24 : Goes p e below S0 (T23.setTop (mkF m 83 #[rv ta, iv tk, iv td, iv tw, .val (.long tt), .second, rv da, rv pa] [])) := fun t k => g22 t (st23 t k)
  have g25 : Goes p e below S0 (T23.setTop (mkF m 85 #[rv ta, iv tk, iv td, iv tw, .val (.long tt), .second, rv da, rv pa] [(.ref pa)])) := fun t k => g24 t (by
    refine XS.aload X23.here hx rfl (hb hby d2_83) rfl rfl ?_
    show Go p e below t T23 m 85 #[rv ta, iv tk, iv td, iv tw, .val (.long tt), .second, rv da, rv pa] [(.ref pa)]
    exact k)
  obtain ⟨_, _, ⟨T26, L26, k26, n26⟩, -, X26, ⟨Lc26, hQ26, l26, y26, z26⟩, st26⟩ := Jvm.LawKit.callS X23 hx (y := (⟨"com/example/borrowed_prior/borrowedprior/model/TopicModel", "requireProbabilities", "([D)V"⟩ : MethodName)) hown (mvT hZ (hw _ (List.mem_of_getElem? (i := 20) rfl))) (mvT hZ (hw _ (List.mem_of_getElem? (i := 21) rfl))) (mvT hZ (hw _ (List.mem_of_getElem? (i := 12) rfl))) (mvT hZ (hw _ (List.mem_of_getElem? (i := 22) rfl))) (by decide) (backOf (W := 0) (rm_req l Z a0 hw [] pa pk pn pv pq h0 n0 Z0 P9 h8 h10) hZ (hw _ (List.mem_of_getElem? (i := 22) rfl)) (hw _ (List.mem_of_getElem? (i := 12) rfl)) (by decide) (by decide)) (g := (mkF m 85 #[rv ta, iv tk, iv td, iv tw, .val (.long tt), .second, rv da, rv pa] [(.ref pa)])) rfl (by rw [hml]; rfl) (argsL := [(.ref pa)]) (rest := []) (lenOf pd1 rfl) rfl (by show 2 * 0 + _ ≤ _; exact Nat.le_of_eq rfl) (hb hby d2_85) (fun _ _ => ⟨rfl, R23_0, (by decide : 0 + 0 ≤ _), (by decide : 0 + 0 ≤ _)⟩)
  dsimp only [Pt.U, Pt.locs, Pt.cells, Pt.slots] at X26 l26 y26 z26 st26 hQ26
  subst l26 y26 z26
  obtain ⟨rfl, N26, R26_0⟩ := hQ26
  have M26 := Fr.app M23 N26
  have g27 : Goes p e below S0 (T26.setTop (mkF m 88 #[rv ta, iv tk, iv td, iv tw, .val (.long tt), .second, rv da, rv pa] [])) := fun t k => g25 t (st26 t k)
  have g28 : Goes p e below S0 (T26.setTop (mkF m 90 #[rv ta, iv tk, iv td, iv tw, .val (.long tt), .second, rv da, rv pa] [(.int tk), (.ref ta)])) := fun t k => g27 t (by
    refine XS.aloadN X26.here hx rfl (hb hby d2_88) rfl rfl ?_
    show Go p e below t T26 m 89 #[rv ta, iv tk, iv td, iv tw, .val (.long tt), .second, rv da, rv pa] [(.ref ta)]
    refine XS.iloadN X26.here hx rfl (hb hby d2_89) rfl ?_
    show Go p e below t T26 m 90 #[rv ta, iv tk, iv td, iv tw, .val (.long tt), .second, rv da, rv pa] [(.int tk), (.ref ta)]
    exact k)
  obtain ⟨T29, h29, X29, e29, W29, st29⟩ := putF X26 hx hZ hown (host := "") (Or.inl (hw _ (List.mem_of_getElem? (i := 23) rfl))) Via.refl R26_0 P1 P0 (Or.inr ⟨(hw _ (List.mem_of_getElem? (i := 24) rfl)), rfl, hnm⟩) (hw _ (List.mem_of_getElem? (i := 11) rfl)) (ty := .int) (by decide) rfl rfl (g := (mkF m 90 #[rv ta, iv tk, iv td, iv tw, .val (.long tt), .second, rv da, rv pa] [(.int tk), (.ref ta)])) rfl rfl (hb hby d2_90)
  have N29 := Fr.snoc X29 M26 P7
  have Fw29 := Fld.same W29 P1
  have g30 : Goes p e below S0 (T29.setTop (mkF m 93 #[rv ta, iv tk, iv td, iv tw, .val (.long tt), .second, rv da, rv pa] [])) := fun t k => g28 t (st29 t k)
  have g31 : Goes p e below S0 (T29.setTop (mkF m 95 #[rv ta, iv tk, iv td, iv tw, .val (.long tt), .second, rv da, rv pa] [(.int td), (.ref ta)])) := fun t k => g30 t (by
    refine XS.aloadN X29.here hx rfl (hb hby d2_93) rfl rfl ?_
    show Go p e below t T29 m 94 #[rv ta, iv tk, iv td, iv tw, .val (.long tt), .second, rv da, rv pa] [(.ref ta)]
    refine XS.iloadN X29.here hx rfl (hb hby d2_94) rfl ?_
    show Go p e below t T29 m 95 #[rv ta, iv tk, iv td, iv tw, .val (.long tt), .second, rv da, rv pa] [(.int td), (.ref ta)]
    exact k)
  obtain ⟨T32, h32, X32, e32, W32, st32⟩ := putF X29 hx hZ hown (host := "") (Or.inl (hw _ (List.mem_of_getElem? (i := 25) rfl))) Via.refl e29 (P2.other W29 (Or.inr (slot_ne (Or.inr (hw _ (List.mem_of_getElem? (i := 26) rfl))) (Or.inr (hw _ (List.mem_of_getElem? (i := 24) rfl))) (by decide) (t := .int) (t' := .int) (by decide) (by decide)))) (P0.wr W29) (Or.inr ⟨(hw _ (List.mem_of_getElem? (i := 26) rfl)), rfl, hnm⟩) (hw _ (List.mem_of_getElem? (i := 11) rfl)) (ty := .int) (by decide) rfl rfl (g := (mkF m 95 #[rv ta, iv tk, iv td, iv tw, .val (.long tt), .second, rv da, rv pa] [(.int td), (.ref ta)])) rfl rfl (hb hby d2_95)
  have N32 := Fr.snoc X32 N29 P7
  have Fw32 := Fld.same W32 (P2.other W29 (Or.inr (slot_ne (Or.inr (hw _ (List.mem_of_getElem? (i := 26) rfl))) (Or.inr (hw _ (List.mem_of_getElem? (i := 24) rfl))) (by decide) (t := .int) (t' := .int) (by decide) (by decide))))
  have g33 : Goes p e below S0 (T32.setTop (mkF m 98 #[rv ta, iv tk, iv td, iv tw, .val (.long tt), .second, rv da, rv pa] [])) := fun t k => g31 t (st32 t k)
  have g34 : Goes p e below S0 (T32.setTop (mkF m 100 #[rv ta, iv tk, iv td, iv tw, .val (.long tt), .second, rv da, rv pa] [(.int tw), (.ref ta)])) := fun t k => g33 t (by
    refine XS.aloadN X32.here hx rfl (hb hby d2_98) rfl rfl ?_
    show Go p e below t T32 m 99 #[rv ta, iv tk, iv td, iv tw, .val (.long tt), .second, rv da, rv pa] [(.ref ta)]
    refine XS.iloadN X32.here hx rfl (hb hby d2_99) rfl ?_
    show Go p e below t T32 m 100 #[rv ta, iv tk, iv td, iv tw, .val (.long tt), .second, rv da, rv pa] [(.int tw), (.ref ta)]
    exact k)
  obtain ⟨T35, h35, X35, e35, W35, st35⟩ := putF X32 hx hZ hown (host := "") (Or.inl (hw _ (List.mem_of_getElem? (i := 27) rfl))) Via.refl e32 ((P3.other W29 (Or.inr (slot_ne (Or.inr (hw _ (List.mem_of_getElem? (i := 28) rfl))) (Or.inr (hw _ (List.mem_of_getElem? (i := 24) rfl))) (by decide) (t := .int) (t' := .int) (by decide) (by decide)))).other W32 (Or.inr (slot_ne (Or.inr (hw _ (List.mem_of_getElem? (i := 28) rfl))) (Or.inr (hw _ (List.mem_of_getElem? (i := 26) rfl))) (by decide) (t := .int) (t' := .int) (by decide) (by decide)))) ((P0.wr W29).wr W32) (Or.inr ⟨(hw _ (List.mem_of_getElem? (i := 28) rfl)), rfl, hnm⟩) (hw _ (List.mem_of_getElem? (i := 11) rfl)) (ty := .int) (by decide) rfl rfl (g := (mkF m 100 #[rv ta, iv tk, iv td, iv tw, .val (.long tt), .second, rv da, rv pa] [(.int tw), (.ref ta)])) rfl rfl (hb hby d2_100)
  have N35 := Fr.snoc X35 N32 P7
  have Fw35 := Fld.same W35 ((P3.other W29 (Or.inr (slot_ne (Or.inr (hw _ (List.mem_of_getElem? (i := 28) rfl))) (Or.inr (hw _ (List.mem_of_getElem? (i := 24) rfl))) (by decide) (t := .int) (t' := .int) (by decide) (by decide)))).other W32 (Or.inr (slot_ne (Or.inr (hw _ (List.mem_of_getElem? (i := 28) rfl))) (Or.inr (hw _ (List.mem_of_getElem? (i := 26) rfl))) (by decide) (t := .int) (t' := .int) (by decide) (by decide))))
  have g36 : Goes p e below S0 (T35.setTop (mkF m 103 #[rv ta, iv tk, iv td, iv tw, .val (.long tt), .second, rv da, rv pa] [])) := fun t k => g34 t (st35 t k)
  have g37 : Goes p e below S0 (T35.setTop (mkF m 106 #[rv ta, iv tk, iv td, iv tw, .val (.long tt), .second, rv da, rv pa] [(.long tt), (.ref ta)])) := fun t k => g36 t (by
    refine XS.aloadN X35.here hx rfl (hb hby d2_103) rfl rfl ?_
    show Go p e below t T35 m 104 #[rv ta, iv tk, iv td, iv tw, .val (.long tt), .second, rv da, rv pa] [(.ref ta)]
    refine XS.lload X35.here hx rfl (hb hby d2_104) rfl ?_
    show Go p e below t T35 m 106 #[rv ta, iv tk, iv td, iv tw, .val (.long tt), .second, rv da, rv pa] [(.long tt), (.ref ta)]
    exact k)
  obtain ⟨T38, h38, X38, e38, W38, st38⟩ := putF X35 hx hZ hown (host := "") (Or.inl (hw _ (List.mem_of_getElem? (i := 29) rfl))) Via.refl e35 (((P4.other W29 (Or.inr (slot_ne (Or.inr (hw _ (List.mem_of_getElem? (i := 30) rfl))) (Or.inr (hw _ (List.mem_of_getElem? (i := 24) rfl))) (by decide) (t := .long) (t' := .int) (by decide) (by decide)))).other W32 (Or.inr (slot_ne (Or.inr (hw _ (List.mem_of_getElem? (i := 30) rfl))) (Or.inr (hw _ (List.mem_of_getElem? (i := 26) rfl))) (by decide) (t := .long) (t' := .int) (by decide) (by decide)))).other W35 (Or.inr (slot_ne (Or.inr (hw _ (List.mem_of_getElem? (i := 30) rfl))) (Or.inr (hw _ (List.mem_of_getElem? (i := 28) rfl))) (by decide) (t := .long) (t' := .int) (by decide) (by decide)))) (((P0.wr W29).wr W32).wr W35) (Or.inr ⟨(hw _ (List.mem_of_getElem? (i := 30) rfl)), rfl, hnm⟩) (hw _ (List.mem_of_getElem? (i := 11) rfl)) (ty := .long) (by decide) rfl rfl (g := (mkF m 106 #[rv ta, iv tk, iv td, iv tw, .val (.long tt), .second, rv da, rv pa] [(.long tt), (.ref ta)])) rfl rfl (hb hby d2_106)
  have N38 := Fr.snoc X38 N35 P7
  have Fw38 := Fld.same W38 (((P4.other W29 (Or.inr (slot_ne (Or.inr (hw _ (List.mem_of_getElem? (i := 30) rfl))) (Or.inr (hw _ (List.mem_of_getElem? (i := 24) rfl))) (by decide) (t := .long) (t' := .int) (by decide) (by decide)))).other W32 (Or.inr (slot_ne (Or.inr (hw _ (List.mem_of_getElem? (i := 30) rfl))) (Or.inr (hw _ (List.mem_of_getElem? (i := 26) rfl))) (by decide) (t := .long) (t' := .int) (by decide) (by decide)))).other W35 (Or.inr (slot_ne (Or.inr (hw _ (List.mem_of_getElem? (i := 30) rfl))) (Or.inr (hw _ (List.mem_of_getElem? (i := 28) rfl))) (by decide) (t := .long) (t' := .int) (by decide) (by decide))))
  have g39 : Goes p e below S0 (T38.setTop (mkF m 109 #[rv ta, iv tk, iv td, iv tw, .val (.long tt), .second, rv da, rv pa] [])) := fun t k => g37 t (st38 t k)
  have g40 : Goes p e below S0 (T38.setTop (mkF m 112 #[rv ta, iv tk, iv td, iv tw, .val (.long tt), .second, rv da, rv pa] [(.ref da), (.ref ta)])) := fun t k => g39 t (by
    refine XS.aloadN X38.here hx rfl (hb hby d2_109) rfl rfl ?_
    show Go p e below t T38 m 110 #[rv ta, iv tk, iv td, iv tw, .val (.long tt), .second, rv da, rv pa] [(.ref ta)]
    refine XS.aload X38.here hx rfl (hb hby d2_110) rfl rfl ?_
    show Go p e below t T38 m 112 #[rv ta, iv tk, iv td, iv tw, .val (.long tt), .second, rv da, rv pa] [(.ref da), (.ref ta)]
    exact k)
  obtain ⟨T41, h41, X41, e41, W41, st41⟩ := putF X38 hx hZ hown (host := "") (Or.inl (hw _ (List.mem_of_getElem? (i := 31) rfl))) Via.refl e38 ((((P5.other W29 (Or.inr (slot_ne (Or.inr (hw _ (List.mem_of_getElem? (i := 32) rfl))) (Or.inr (hw _ (List.mem_of_getElem? (i := 24) rfl))) (by decide) (t := (.array .double)) (t' := .int) (by decide) (by decide)))).other W32 (Or.inr (slot_ne (Or.inr (hw _ (List.mem_of_getElem? (i := 32) rfl))) (Or.inr (hw _ (List.mem_of_getElem? (i := 26) rfl))) (by decide) (t := (.array .double)) (t' := .int) (by decide) (by decide)))).other W35 (Or.inr (slot_ne (Or.inr (hw _ (List.mem_of_getElem? (i := 32) rfl))) (Or.inr (hw _ (List.mem_of_getElem? (i := 28) rfl))) (by decide) (t := (.array .double)) (t' := .int) (by decide) (by decide)))).other W38 (Or.inr (slot_ne (Or.inr (hw _ (List.mem_of_getElem? (i := 32) rfl))) (Or.inr (hw _ (List.mem_of_getElem? (i := 30) rfl))) (by decide) (t := (.array .double)) (t' := .long) (by decide) (by decide)))) ((((P0.wr W29).wr W32).wr W35).wr W38) (Or.inr ⟨(hw _ (List.mem_of_getElem? (i := 32) rfl)), rfl, hnm⟩) (hw _ (List.mem_of_getElem? (i := 11) rfl)) (ty := (.array .double)) (by decide) rfl rfl (g := (mkF m 112 #[rv ta, iv tk, iv td, iv tw, .val (.long tt), .second, rv da, rv pa] [(.ref da), (.ref ta)])) rfl rfl (hb hby d2_112)
  have N41 := Fr.snoc X41 N38 P7
  have Fw41 := Fld.same W41 ((((P5.other W29 (Or.inr (slot_ne (Or.inr (hw _ (List.mem_of_getElem? (i := 32) rfl))) (Or.inr (hw _ (List.mem_of_getElem? (i := 24) rfl))) (by decide) (t := (.array .double)) (t' := .int) (by decide) (by decide)))).other W32 (Or.inr (slot_ne (Or.inr (hw _ (List.mem_of_getElem? (i := 32) rfl))) (Or.inr (hw _ (List.mem_of_getElem? (i := 26) rfl))) (by decide) (t := (.array .double)) (t' := .int) (by decide) (by decide)))).other W35 (Or.inr (slot_ne (Or.inr (hw _ (List.mem_of_getElem? (i := 32) rfl))) (Or.inr (hw _ (List.mem_of_getElem? (i := 28) rfl))) (by decide) (t := (.array .double)) (t' := .int) (by decide) (by decide)))).other W38 (Or.inr (slot_ne (Or.inr (hw _ (List.mem_of_getElem? (i := 32) rfl))) (Or.inr (hw _ (List.mem_of_getElem? (i := 30) rfl))) (by decide) (t := (.array .double)) (t' := .long) (by decide) (by decide))))
  have g42 : Goes p e below S0 (T41.setTop (mkF m 115 #[rv ta, iv tk, iv td, iv tw, .val (.long tt), .second, rv da, rv pa] [])) := fun t k => g40 t (st41 t k)
  have g43 : Goes p e below S0 (T41.setTop (mkF m 118 #[rv ta, iv tk, iv td, iv tw, .val (.long tt), .second, rv da, rv pa] [(.ref pa), (.ref ta)])) := fun t k => g42 t (by
    refine XS.aloadN X41.here hx rfl (hb hby d2_115) rfl rfl ?_
    show Go p e below t T41 m 116 #[rv ta, iv tk, iv td, iv tw, .val (.long tt), .second, rv da, rv pa] [(.ref ta)]
    refine XS.aload X41.here hx rfl (hb hby d2_116) rfl rfl ?_
    show Go p e below t T41 m 118 #[rv ta, iv tk, iv td, iv tw, .val (.long tt), .second, rv da, rv pa] [(.ref pa), (.ref ta)]
    exact k)
  obtain ⟨T44, h44, X44, e44, W44, st44⟩ := putF X41 hx hZ hown (host := "") (Or.inl (hw _ (List.mem_of_getElem? (i := 33) rfl))) Via.refl e41 (((((P6.other W29 (Or.inr (slot_ne (Or.inr (hw _ (List.mem_of_getElem? (i := 34) rfl))) (Or.inr (hw _ (List.mem_of_getElem? (i := 24) rfl))) (by decide) (t := (.array .double)) (t' := .int) (by decide) (by decide)))).other W32 (Or.inr (slot_ne (Or.inr (hw _ (List.mem_of_getElem? (i := 34) rfl))) (Or.inr (hw _ (List.mem_of_getElem? (i := 26) rfl))) (by decide) (t := (.array .double)) (t' := .int) (by decide) (by decide)))).other W35 (Or.inr (slot_ne (Or.inr (hw _ (List.mem_of_getElem? (i := 34) rfl))) (Or.inr (hw _ (List.mem_of_getElem? (i := 28) rfl))) (by decide) (t := (.array .double)) (t' := .int) (by decide) (by decide)))).other W38 (Or.inr (slot_ne (Or.inr (hw _ (List.mem_of_getElem? (i := 34) rfl))) (Or.inr (hw _ (List.mem_of_getElem? (i := 30) rfl))) (by decide) (t := (.array .double)) (t' := .long) (by decide) (by decide)))).other W41 (Or.inr (slot_ne (Or.inr (hw _ (List.mem_of_getElem? (i := 34) rfl))) (Or.inr (hw _ (List.mem_of_getElem? (i := 32) rfl))) (by decide) (t := (.array .double)) (t' := (.array .double)) (by decide) (by decide)))) (((((P0.wr W29).wr W32).wr W35).wr W38).wr W41) (Or.inr ⟨(hw _ (List.mem_of_getElem? (i := 34) rfl)), rfl, hnm⟩) (hw _ (List.mem_of_getElem? (i := 11) rfl)) (ty := (.array .double)) (by decide) rfl rfl (g := (mkF m 118 #[rv ta, iv tk, iv td, iv tw, .val (.long tt), .second, rv da, rv pa] [(.ref pa), (.ref ta)])) rfl rfl (hb hby d2_118)
  have N44 := Fr.snoc X44 N41 P7
  have Fw44 := Fld.same W44 (((((P6.other W29 (Or.inr (slot_ne (Or.inr (hw _ (List.mem_of_getElem? (i := 34) rfl))) (Or.inr (hw _ (List.mem_of_getElem? (i := 24) rfl))) (by decide) (t := (.array .double)) (t' := .int) (by decide) (by decide)))).other W32 (Or.inr (slot_ne (Or.inr (hw _ (List.mem_of_getElem? (i := 34) rfl))) (Or.inr (hw _ (List.mem_of_getElem? (i := 26) rfl))) (by decide) (t := (.array .double)) (t' := .int) (by decide) (by decide)))).other W35 (Or.inr (slot_ne (Or.inr (hw _ (List.mem_of_getElem? (i := 34) rfl))) (Or.inr (hw _ (List.mem_of_getElem? (i := 28) rfl))) (by decide) (t := (.array .double)) (t' := .int) (by decide) (by decide)))).other W38 (Or.inr (slot_ne (Or.inr (hw _ (List.mem_of_getElem? (i := 34) rfl))) (Or.inr (hw _ (List.mem_of_getElem? (i := 30) rfl))) (by decide) (t := (.array .double)) (t' := .long) (by decide) (by decide)))).other W41 (Or.inr (slot_ne (Or.inr (hw _ (List.mem_of_getElem? (i := 34) rfl))) (Or.inr (hw _ (List.mem_of_getElem? (i := 32) rfl))) (by decide) (t := (.array .double)) (t' := (.array .double)) (by decide) (by decide))))
  have g45 : Goes p e below S0 (T44.setTop (mkF m 121 #[rv ta, iv tk, iv td, iv tw, .val (.long tt), .second, rv da, rv pa] [])) := fun t k => g43 t (st44 t k)
  obtain ⟨fs, hr, hrun, hended, hW, hsame⟩ := X44.leave (v := none) (fun _ => rfl)
  refine ⟨_, _, g45 _ (X44.returnOut hx Bd.returns (hb hby d2_121) hr), hrun, hended, _, _, rfl, ?_, ⟨_, rfl⟩, hW, hsame.mono (by decide) (by decide)⟩
  show Q_tin Z ta tk td tw tt da pa dk dn dv dd pk pn pv pq h0 n0 _ T44.heap _
  rw [e44]
  exact ⟨rfl, N44, (((((((Keep.refl h0 [ta]).wr W29 (Or.inl (List.mem_of_getElem? (i := 0) rfl))).wr W32 (Or.inl (List.mem_of_getElem? (i := 0) rfl))).wr W35 (Or.inl (List.mem_of_getElem? (i := 0) rfl))).wr W38 (Or.inl (List.mem_of_getElem? (i := 0) rfl))).wr W41 (Or.inl (List.mem_of_getElem? (i := 0) rfl))).wr W44 (Or.inl (List.mem_of_getElem? (i := 0) rfl))), ((((((P0.wr W29).wr W32).wr W35).wr W38).wr W41).wr W44), (((((Fw29.other W32 (Or.inr (slot_ne (Or.inr (hw _ (List.mem_of_getElem? (i := 24) rfl))) (Or.inr (hw _ (List.mem_of_getElem? (i := 26) rfl))) (by decide) (t := .int) (t' := .int) (by decide) (by decide)))).other W35 (Or.inr (slot_ne (Or.inr (hw _ (List.mem_of_getElem? (i := 24) rfl))) (Or.inr (hw _ (List.mem_of_getElem? (i := 28) rfl))) (by decide) (t := .int) (t' := .int) (by decide) (by decide)))).other W38 (Or.inr (slot_ne (Or.inr (hw _ (List.mem_of_getElem? (i := 24) rfl))) (Or.inr (hw _ (List.mem_of_getElem? (i := 30) rfl))) (by decide) (t := .int) (t' := .long) (by decide) (by decide)))).other W41 (Or.inr (slot_ne (Or.inr (hw _ (List.mem_of_getElem? (i := 24) rfl))) (Or.inr (hw _ (List.mem_of_getElem? (i := 32) rfl))) (by decide) (t := .int) (t' := (.array .double)) (by decide) (by decide)))).other W44 (Or.inr (slot_ne (Or.inr (hw _ (List.mem_of_getElem? (i := 24) rfl))) (Or.inr (hw _ (List.mem_of_getElem? (i := 34) rfl))) (by decide) (t := .int) (t' := (.array .double)) (by decide) (by decide)))), ((((Fw32.other W35 (Or.inr (slot_ne (Or.inr (hw _ (List.mem_of_getElem? (i := 26) rfl))) (Or.inr (hw _ (List.mem_of_getElem? (i := 28) rfl))) (by decide) (t := .int) (t' := .int) (by decide) (by decide)))).other W38 (Or.inr (slot_ne (Or.inr (hw _ (List.mem_of_getElem? (i := 26) rfl))) (Or.inr (hw _ (List.mem_of_getElem? (i := 30) rfl))) (by decide) (t := .int) (t' := .long) (by decide) (by decide)))).other W41 (Or.inr (slot_ne (Or.inr (hw _ (List.mem_of_getElem? (i := 26) rfl))) (Or.inr (hw _ (List.mem_of_getElem? (i := 32) rfl))) (by decide) (t := .int) (t' := (.array .double)) (by decide) (by decide)))).other W44 (Or.inr (slot_ne (Or.inr (hw _ (List.mem_of_getElem? (i := 26) rfl))) (Or.inr (hw _ (List.mem_of_getElem? (i := 34) rfl))) (by decide) (t := .int) (t' := (.array .double)) (by decide) (by decide)))), (((Fw35.other W38 (Or.inr (slot_ne (Or.inr (hw _ (List.mem_of_getElem? (i := 28) rfl))) (Or.inr (hw _ (List.mem_of_getElem? (i := 30) rfl))) (by decide) (t := .int) (t' := .long) (by decide) (by decide)))).other W41 (Or.inr (slot_ne (Or.inr (hw _ (List.mem_of_getElem? (i := 28) rfl))) (Or.inr (hw _ (List.mem_of_getElem? (i := 32) rfl))) (by decide) (t := .int) (t' := (.array .double)) (by decide) (by decide)))).other W44 (Or.inr (slot_ne (Or.inr (hw _ (List.mem_of_getElem? (i := 28) rfl))) (Or.inr (hw _ (List.mem_of_getElem? (i := 34) rfl))) (by decide) (t := .int) (t' := (.array .double)) (by decide) (by decide)))), ((Fw38.other W41 (Or.inr (slot_ne (Or.inr (hw _ (List.mem_of_getElem? (i := 30) rfl))) (Or.inr (hw _ (List.mem_of_getElem? (i := 32) rfl))) (by decide) (t := .long) (t' := (.array .double)) (by decide) (by decide)))).other W44 (Or.inr (slot_ne (Or.inr (hw _ (List.mem_of_getElem? (i := 30) rfl))) (Or.inr (hw _ (List.mem_of_getElem? (i := 34) rfl))) (by decide) (t := .long) (t' := (.array .double)) (by decide) (by decide)))), (Fw41.other W44 (Or.inr (slot_ne (Or.inr (hw _ (List.mem_of_getElem? (i := 32) rfl))) (Or.inr (hw _ (List.mem_of_getElem? (i := 34) rfl))) (by decide) (t := (.array .double)) (t' := (.array .double)) (by decide) (by decide)))), Fw44⟩
theorem d5_0 : decode prog_37_method_8_code 0 = .ok (.aload_n 0, 1) := by decide +kernel
theorem d5_1 : decode prog_37_method_8_code 1 = .ok (.getfield 38, 3) := by decide +kernel
theorem d5_4 : decode prog_37_method_8_code 4 = .ok (.iload_n 1, 1) := by decide +kernel
theorem d5_5 : decode prog_37_method_8_code 5 = .ok (.aload_n 0, 1) := by decide +kernel
theorem d5_6 : decode prog_37_method_8_code 6 = .ok (.getfield 24, 3) := by decide +kernel
theorem d5_9 : decode prog_37_method_8_code 9 = .ok (.imul, 1) := by decide +kernel
theorem d5_10 : decode prog_37_method_8_code 10 = .ok (.iload_n 2, 1) := by decide +kernel
theorem d5_11 : decode prog_37_method_8_code 11 = .ok (.iadd, 1) := by decide +kernel
theorem d5_12 : decode prog_37_method_8_code 12 = .ok (.daload, 1) := by decide +kernel
theorem d5_13 : decode prog_37_method_8_code 13 = .ok (.dreturn, 1) := by decide +kernel
theorem pd3 : parseMethodDescriptor "(II)D" = some ⟨[.int, .int], some .double⟩ := by decide +kernel
theorem pf_dt : plainFor (⟨"com/example/borrowed_prior/borrowedprior/model/TopicModel", "documentTopic", "(II)D"⟩ : MethodName) = true := by first | exact plainFor_of_name (by first | (simp [plainName, overriddenIn, x]; done) | decide +kernel) | exact Jvm.Free.JP.mathPlain rfl (by decide +kernel) | decide +kernel
theorem ef_dt (m : MethodId) (za : Addr) (xa : Int32) (xb : Int32) : entryFrame m #[(.ref za), (.int xa), (.int xb)] 3 = mkF m 0 #[rv za, iv xa, iv xb] [] := by first | (simp [entryFrame, mkF, argsToLocals, Value.category, maxLocals]; done) | rfl
def Q_dt (Z : State) (za : Addr) (xa : Int32) (xb : Int32) (tk : Int32) (pa : Addr) (pk : ClassId) (pn : Int32) (pv : List Value) (pq : Value) (x : UInt64) (h0 : Heap) (n0 : Nat) (v : Option Value) (h : Heap) (L : List Loc) : Prop := v = some (.double x) ∧ Fr n0 L ∧ h = h0
set_option maxRecDepth 65536 in
set_option maxHeartbeats 40000000 in
theorem rm_dt (l : Launch) (Z : State) (a0 : Array Value) (hw : ∀ d ∈ tables_1, d.before a0 Z = true) (ws : List Jvm.Cond) (za : Addr) (xa : Int32) (xb : Int32) (tk : Int32) (pa : Addr) (pk : ClassId) (pn : Int32) (pv : List Value) (pq : Value) (x : UInt64) (h0 : Heap) (n0 : Nat) (Z0 : n0 ≤ h0.size) (P0 : Fld Z h0 za "com/example/borrowed_prior/borrowedprior/model/TopicModel" "topicCount" "I" (.int tk)) (P1 : Fld Z h0 za "com/example/borrowed_prior/borrowedprior/model/TopicModel" "documentTopics" "[D" (.ref pa)) (P2 : Arv Z h0 pa pk .double pn pv pq) (hin : ¬ ((xa * tk) + xb) < 0 ∧ ((xa * tk) + xb) < pn) (hx1 : pv.getD ((xa * tk) + xb).toNatClampNeg pq = .double x)  :
    MetFree l (⟨"com/example/borrowed_prior/borrowedprior/model/TopicModel", "documentTopic", "(II)D"⟩ : MethodName) (head1 (Jvm.Cond.code (⟨"com/example/borrowed_prior/borrowedprior/model/TopicModel", "documentTopic", "(II)D"⟩ : MethodName) prog_37_method_8_code 3 (some .double) :: ws) ({ frames := 0, cells := 0, slots := 0, locals := 0 } : Room)) (fun a U => a = #[(.ref za), (.int xa), (.int xb)] ∧ Z.Warmed39 U.vm ∧ U.heap = h0) (fun _ _ _ _ _ => True) (fun _ U o U' => ∃ v L, o = .returned v ∧ Q_dt Z za xa xb tk pa pk pn pv pq x h0 n0 v U'.heap L ∧ FrameEnd U o U' L ({ frames := 0, cells := 0, slots := 0, locals := 0 } : Room).cells ({ frames := 0, cells := 0, slots := 0, locals := 0 } : Room).slots) := by
  refine MetFree.of_bodySF pf_dt hisR ?_
  intro p e s m args below meth c s₁ Bd hml0 hP hK
  obtain ⟨rfl, hZ, hh⟩ := hP
  have hx := Bd.exec
  have hby := Bd.bytes
  have hml : c.maxLocals = 3 := hml0
  have hown : s.vm.findClass "com/example/borrowed_prior/borrowedprior/model/TopicModel" = some m.cls := findClass_of_methodNamed Bd.named
  have hnm := (name_of_methodNamed Bd.named Bd.method).1
  have X0 : Stand p l e ({ frames := 0, cells := 0, slots := 0, locals := 0 } : Room) s m #[(.ref za), (.int xa), (.int xb)] below meth c s₁ [] 0 0 := Stand.of_body Bd
  have e0 : s₁.heap = h0 := by rw [← hh, Bd.state]; rfl
  have N0 := Fr.nil n0
  obtain ⟨S0, hS0⟩ : ∃ z, z = s₁.setTop (entryFrame m #[(.ref za), (.int xa), (.int xb)] 3) := ⟨_, rfl⟩
  rw [← hS0]
  have g0 : Goes p e below S0 (s₁.setTop (mkF m 0 #[rv za, iv xa, iv xb] [])) := fun t k => by rw [hS0]; exact castTop (ef_dt m za xa xb) k
  have g46 : Goes p e below S0 (s₁.setTop (mkF m 1 #[rv za, iv xa, iv xb] [(.ref za)])) := fun t k => g0 t (by
    refine XS.aloadN X0.here hx rfl (hb hby d5_0) rfl rfl ?_
    show Go p e below t s₁ m 1 #[rv za, iv xa, iv xb] [(.ref za)]
    exact k)
  obtain ⟨T47, X47, e47, st47⟩ := getF X0 hx hZ hown (host := "") (Or.inl (hw _ (List.mem_of_getElem? (i := 31) rfl))) Via.refl e0 P1 (g := (mkF m 1 #[rv za, iv xa, iv xb] [(.ref za)])) rfl rfl (hb hby d5_1)
  have g48 : Goes p e below S0 (T47.setTop (mkF m 4 #[rv za, iv xa, iv xb] [(.ref pa)])) := fun t k => g46 t (st47 t k)
  have g49 : Goes p e below S0 (T47.setTop (mkF m 6 #[rv za, iv xa, iv xb] [(.ref za), (.int xa), (.ref pa)])) := fun t k => g48 t (by
    refine XS.iloadN X47.here hx rfl (hb hby d5_4) rfl ?_
    show Go p e below t T47 m 5 #[rv za, iv xa, iv xb] [(.int xa), (.ref pa)]
    refine XS.aloadN X47.here hx rfl (hb hby d5_5) rfl rfl ?_
    show Go p e below t T47 m 6 #[rv za, iv xa, iv xb] [(.ref za), (.int xa), (.ref pa)]
    exact k)
  obtain ⟨T50, X50, e50, st50⟩ := getF X47 hx hZ hown (host := "") (Or.inl (hw _ (List.mem_of_getElem? (i := 23) rfl))) Via.refl e47 P0 (g := (mkF m 6 #[rv za, iv xa, iv xb] [(.ref za), (.int xa), (.ref pa)])) rfl rfl (hb hby d5_6)
  have g51 : Goes p e below S0 (T50.setTop (mkF m 9 #[rv za, iv xa, iv xb] [(.int tk), (.int xa), (.ref pa)])) := fun t k => g49 t (st50 t k)
  have g52 : Goes p e below S0 (T50.setTop (mkF m 12 #[rv za, iv xa, iv xb] [(.int ((xa * tk) + xb)), (.ref pa)])) := fun t k => g51 t (by
    refine XS.imul X50.here hx rfl (hb hby d5_9) rfl ?_
    show Go p e below t T50 m 10 #[rv za, iv xa, iv xb] [(.int (xa * tk)), (.ref pa)]
    refine XS.iloadN X50.here hx rfl (hb hby d5_10) rfl ?_
    show Go p e below t T50 m 11 #[rv za, iv xa, iv xb] [(.int xb), (.int (xa * tk)), (.ref pa)]
    refine XS.iadd X50.here hx rfl (hb hby d5_11) rfl ?_
    show Go p e below t T50 m 12 #[rv za, iv xa, iv xb] [(.int ((xa * tk) + xb)), (.ref pa)]
    exact k)
  obtain ⟨cl53, Ar53, q53, S53, M53, H53, G53⟩ := id P2
  have g54 : Goes p e below S0 (T50.setTop (mkF m 13 #[rv za, iv xa, iv xb] [(.double x)])) := fun t k => g52 t (by
    refine X50.daload hx (j := ((xa * tk) + xb)) (v := (.double x)) (by rw [e50]; exact Ar53.1) (State.isArrayOf_alike hZ.alike Ar53.2.1) Ar53.2.2 (inb_of S53 hin) (H53.at (inb_of S53 hin) hx1) (g := (mkF m 12 #[rv za, iv xa, iv xb] [(.int ((xa * tk) + xb)), (.ref pa)])) rfl rfl (hb hby d5_12) _ ?_
    show Go p e below t T50 m 13 #[rv za, iv xa, iv xb] [(.double x)]
    exact k)
  obtain ⟨fs, hr, hrun, hended, hW, hsame⟩ := X50.leave (v := some (.double x)) (fun h => by rw [Bd.returns] at h; cases h)
  refine ⟨_, _, g54 _ (retOut X50 hx Bd.returns rfl (Or.inr (Or.inr (Or.inl ⟨rfl, rfl, _, rfl⟩))) (hb hby d5_13) hr), hrun, hended, _, _, rfl, ?_, ⟨_, rfl⟩, hW, hsame.mono (by decide) (by decide)⟩
  show Q_dt Z za xa xb tk pa pk pn pv pq x h0 n0 _ T50.heap _
  rw [e50]
  exact ⟨rfl, N0, rfl⟩
def S1 (zv : List Value) (i kc s : Int32) : List Value := zv.set i.toNatClampNeg (.double (f_sh (i / kc) (i % kc) s))
def L16 : List Value := List.replicate 16 (.double (0 : UInt64))
theorem Arv.beyond {Z : State} {h : Heap} {a : Addr} {k : ClassId} {ty : FieldType} {n : Int32} {vs : List Value} {d v : Value} {i : Nat} (F : Arv Z h a k ty n vs d) (q : n.toNatClampNeg ≤ i) : Arv Z h a k ty n (vs.set i v) d := by
  obtain ⟨c, A, r1, r2, r3, H, G⟩ := F
  have e : ∀ j, j < c.slots.size → (vs.set i v).getD j d = vs.getD j d := fun j hj => by
    rw [List.getD_eq_getElem?_getD, List.getD_eq_getElem?_getD, List.getElem?_set_ne (by omega)]
  exact ⟨c, A, r1, r2, r3, fun j hj => by rw [e j hj]; exact H j hj, fun j hj => by rw [e j hj]; exact G j hj⟩
theorem own_nle {j n : Int32} (h0 : ¬ j < 0) (h : ¬ j < n) (hn : ¬ n < 0) : n.toNatClampNeg ≤ j.toNatClampNeg := by
  have a := nat_of h0
  have b := nat_of hn
  rw [Int32.lt_iff_toInt_lt] at h
  omega

theorem d0_0 : decode method_4_code 0 = .ok (.iload_n 1, 1) := by decide +kernel
theorem d0_1 : decode method_4_code 1 = .ok (.aload_n 0, 1) := by decide +kernel
theorem d0_2 : decode method_4_code 2 = .ok (.arraylength, 1) := by decide +kernel
theorem d0_3 : decode method_4_code 3 = .ok (.if_icmp .ge 16, 3) := by decide +kernel
theorem d0_6 : decode method_4_code 6 = .ok (.aload_n 0, 1) := by decide +kernel
theorem d0_7 : decode method_4_code 7 = .ok (.iload_n 1, 1) := by decide +kernel
theorem d0_8 : decode method_4_code 8 = .ok (.iload_n 1, 1) := by decide +kernel
theorem d0_9 : decode method_4_code 9 = .ok (.iload_n 2, 1) := by decide +kernel
theorem d0_10 : decode method_4_code 10 = .ok (.idiv, 1) := by decide +kernel
theorem d0_11 : decode method_4_code 11 = .ok (.iload_n 1, 1) := by decide +kernel
theorem d0_12 : decode method_4_code 12 = .ok (.iload_n 2, 1) := by decide +kernel
theorem d0_13 : decode method_4_code 13 = .ok (.irem, 1) := by decide +kernel
theorem d0_14 : decode method_4_code 14 = .ok (.iload_n 3, 1) := by decide +kernel
theorem d0_15 : decode method_4_code 15 = .ok (.invokestatic 27, 3) := by decide +kernel
theorem d0_18 : decode method_4_code 18 = .ok (.dastore, 1) := by decide +kernel
theorem d0_19 : decode method_4_code 19 = .ok (.return_, 1) := by decide +kernel
theorem pd4 : parseMethodDescriptor "([DIII)V" = some ⟨[(.array .double), .int, .int, .int], none⟩ := by decide +kernel
theorem pf_put : plainFor (⟨"com/example/borrowed_prior/borrowedprior/model/TopicModelDocumentTopicPinLaw", "put", "([DIII)V"⟩ : MethodName) = true := by first | exact plainFor_of_name (by first | (simp [plainName, overriddenIn, x]; done) | decide +kernel) | exact Jvm.Free.JP.mathPlain rfl (by decide +kernel) | decide +kernel
theorem ef_put (m : MethodId) (qa : Addr) (xi : Int32) (kc : Int32) (xs : Int32) : entryFrame m #[(.ref qa), (.int xi), (.int kc), (.int xs)] 4 = mkF m 0 #[rv qa, iv xi, iv kc, iv xs] [] := by first | (simp [entryFrame, mkF, argsToLocals, Value.category, maxLocals]; done) | rfl
def Q_put (Z : State) (qa : Addr) (xi : Int32) (kc : Int32) (xs : Int32) (zk : ClassId) (zn : Int32) (zv : List Value) (zd : Value) (h0 : Heap) (n0 : Nat) (v : Option Value) (h : Heap) (L : List Loc) : Prop := v = none ∧ Fr n0 L ∧ (Keep h0 h [qa]) ∧ (Arv Z h qa zk .double zn (S1 zv xi kc xs) zd)
set_option maxRecDepth 65536 in
set_option maxHeartbeats 40000000 in
theorem rm_put (l : Launch) (Z : State) (a0 : Array Value) (hw : ∀ d ∈ tables_1, d.before a0 Z = true) (ws : List Jvm.Cond) (qa : Addr) (xi : Int32) (kc : Int32) (xs : Int32) (zk : ClassId) (zn : Int32) (zv : List Value) (zd : Value) (h0 : Heap) (n0 : Nat) (Z0 : n0 ≤ h0.size) (P0 : Arv Z h0 qa zk .double zn zv zd) (P1 : n0 ≤ qa) (hl : xi.toNatClampNeg < zv.length) (hxi : ¬ xi < 0) (hkc : kc ≠ 0) (hzn : ¬ zn < 0)  :
    MetFree l (⟨"com/example/borrowed_prior/borrowedprior/model/TopicModelDocumentTopicPinLaw", "put", "([DIII)V"⟩ : MethodName) (head1 (Jvm.Cond.code (⟨"com/example/borrowed_prior/borrowedprior/model/TopicModelDocumentTopicPinLaw", "put", "([DIII)V"⟩ : MethodName) method_4_code 4 none :: ws) ({ frames := 1, cells := 0, slots := 0, locals := 20 } : Room)) (fun a U => a = #[(.ref qa), (.int xi), (.int kc), (.int xs)] ∧ Z.Warmed39 U.vm ∧ U.heap = h0) (fun _ _ _ _ _ => True) (fun _ U o U' => ∃ v L, o = .returned v ∧ Q_put Z qa xi kc xs zk zn zv zd h0 n0 v U'.heap L ∧ FrameEnd U o U' L ({ frames := 1, cells := 0, slots := 0, locals := 20 } : Room).cells ({ frames := 1, cells := 0, slots := 0, locals := 20 } : Room).slots) := by
  refine MetFree.of_bodySF pf_put hisR ?_
  intro p e s m args below meth c s₁ Bd hml0 hP hK
  obtain ⟨rfl, hZ, hh⟩ := hP
  have hx := Bd.exec
  have hby := Bd.bytes
  have hml : c.maxLocals = 4 := hml0
  have hown : s.vm.findClass "com/example/borrowed_prior/borrowedprior/model/TopicModelDocumentTopicPinLaw" = some m.cls := findClass_of_methodNamed Bd.named
  have hnm := (name_of_methodNamed Bd.named Bd.method).1
  have X0 : Stand p l e ({ frames := 1, cells := 0, slots := 0, locals := 20 } : Room) s m #[(.ref qa), (.int xi), (.int kc), (.int xs)] below meth c s₁ [] 0 0 := Stand.of_body Bd
  have e0 : s₁.heap = h0 := by rw [← hh, Bd.state]; rfl
  have N0 := Fr.nil n0
  obtain ⟨S0, hS0⟩ : ∃ z, z = s₁.setTop (entryFrame m #[(.ref qa), (.int xi), (.int kc), (.int xs)] 4) := ⟨_, rfl⟩
  rw [← hS0]
  have g0 : Goes p e below S0 (s₁.setTop (mkF m 0 #[rv qa, iv xi, iv kc, iv xs] [])) := fun t k => by rw [hS0]; exact castTop (ef_put m qa xi kc xs) k
  have g55 : Goes p e below S0 (s₁.setTop (mkF m 2 #[rv qa, iv xi, iv kc, iv xs] [(.ref qa), (.int xi)])) := fun t k => g0 t (by
    refine XS.iloadN X0.here hx rfl (hb hby d0_0) rfl ?_
    show Go p e below t s₁ m 1 #[rv qa, iv xi, iv kc, iv xs] [(.int xi)]
    refine XS.aloadN X0.here hx rfl (hb hby d0_1) rfl rfl ?_
    show Go p e below t s₁ m 2 #[rv qa, iv xi, iv kc, iv xs] [(.ref qa), (.int xi)]
    exact k)
  obtain ⟨cl56, Ar56, q56, S56, M56, H56, G56⟩ := id P0
  have g57 : Goes p e below S0 (s₁.setTop (mkF m 3 #[rv qa, iv xi, iv kc, iv xs] [(.int zn), (.int xi)])) := fun t k => g55 t (by
    refine X0.arraylength hx (by rw [e0]; exact Ar56.1) (State.isArrayOf_alike hZ.alike Ar56.2.1) (g := (mkF m 2 #[rv qa, iv xi, iv kc, iv xs] [(.ref qa), (.int xi)])) rfl rfl (hb hby d0_2) _ ?_
    rw [len_of S56 M56]
    show Go p e below t s₁ m 3 #[rv qa, iv xi, iv kc, iv xs] [(.int zn), (.int xi)]
    exact k)
  by_cases h58 : xi < zn
  · skip
    have g59 : Goes p e below S0 (s₁.setTop (mkF m 15 #[rv qa, iv xi, iv kc, iv xs] [(.int xs), (.int (xi % kc)), (.int (xi / kc)), (.int xi), (.ref qa)])) := fun t k => g57 t (by
      refine XS.icmpNo X0.here hx rfl (hb hby d0_3) rfl (XT.ii_ge_f h58) ?_
      show Go p e below t s₁ m 6 #[rv qa, iv xi, iv kc, iv xs] []
      refine XS.aloadN X0.here hx rfl (hb hby d0_6) rfl rfl ?_
      show Go p e below t s₁ m 7 #[rv qa, iv xi, iv kc, iv xs] [(.ref qa)]
      refine XS.iloadN X0.here hx rfl (hb hby d0_7) rfl ?_
      show Go p e below t s₁ m 8 #[rv qa, iv xi, iv kc, iv xs] [(.int xi), (.ref qa)]
      refine XS.iloadN X0.here hx rfl (hb hby d0_8) rfl ?_
      show Go p e below t s₁ m 9 #[rv qa, iv xi, iv kc, iv xs] [(.int xi), (.int xi), (.ref qa)]
      refine XS.iloadN X0.here hx rfl (hb hby d0_9) rfl ?_
      show Go p e below t s₁ m 10 #[rv qa, iv xi, iv kc, iv xs] [(.int kc), (.int xi), (.int xi), (.ref qa)]
      refine XS.idiv X0.here hx rfl (hb hby d0_10) rfl hkc ?_
      show Go p e below t s₁ m 11 #[rv qa, iv xi, iv kc, iv xs] [(.int (xi / kc)), (.int xi), (.ref qa)]
      refine XS.iloadN X0.here hx rfl (hb hby d0_11) rfl ?_
      show Go p e below t s₁ m 12 #[rv qa, iv xi, iv kc, iv xs] [(.int xi), (.int (xi / kc)), (.int xi), (.ref qa)]
      refine XS.iloadN X0.here hx rfl (hb hby d0_12) rfl ?_
      show Go p e below t s₁ m 13 #[rv qa, iv xi, iv kc, iv xs] [(.int kc), (.int xi), (.int (xi / kc)), (.int xi), (.ref qa)]
      refine iremM X0 hx rfl (hb hby d0_13) rfl hkc ?_
      show Go p e below t s₁ m 14 #[rv qa, iv xi, iv kc, iv xs] [(.int (xi % kc)), (.int (xi / kc)), (.int xi), (.ref qa)]
      refine XS.iloadN X0.here hx rfl (hb hby d0_14) rfl ?_
      show Go p e below t s₁ m 15 #[rv qa, iv xi, iv kc, iv xs] [(.int xs), (.int (xi % kc)), (.int (xi / kc)), (.int xi), (.ref qa)]
      exact k)
    obtain ⟨_, _, ⟨T60, L60, k60, n60⟩, -, X60, ⟨Lc60, hQ60, l60, y60, z60⟩, st60⟩ := Jvm.LawKit.callS X0 hx (y := (⟨"com/example/borrowed_prior/borrowedprior/model/TopicModelDocumentTopicPinLaw", "share", "(III)D"⟩ : MethodName)) hown (mvT hZ (hw _ (List.mem_of_getElem? (i := 6) rfl))) (mvT hZ (hw _ (List.mem_of_getElem? (i := 7) rfl))) (mvT hZ (hw _ (List.mem_of_getElem? (i := 4) rfl))) (mvT hZ (hw _ (List.mem_of_getElem? (i := 8) rfl))) (by decide) (backOf (W := 2) (rm_sh l Z a0 hw [] (xi / kc) (xi % kc) xs  h0 n0 Z0 ) hZ (hw _ (List.mem_of_getElem? (i := 8) rfl)) (hw _ (List.mem_of_getElem? (i := 4) rfl)) (by decide) (by decide)) (g := (mkF m 15 #[rv qa, iv xi, iv kc, iv xs] [(.int xs), (.int (xi % kc)), (.int (xi / kc)), (.int xi), (.ref qa)])) rfl (by rw [hml]; rfl) (argsL := [(.int (xi / kc)), (.int (xi % kc)), (.int xs)]) (rest := [(.int xi), (.ref qa)]) (lenOf pd0 rfl) rfl (by show 2 * 0 + _ ≤ _; exact Nat.le_of_eq rfl) (hb hby d0_15) (fun _ _ => ⟨rfl, e0, (by decide : 0 + 0 ≤ _), (by decide : 0 + 0 ≤ _)⟩)
    dsimp only [Pt.U, Pt.locs, Pt.cells, Pt.slots] at X60 l60 y60 z60 st60 hQ60
    subst l60 y60 z60
    obtain ⟨rfl, N60, e60⟩ := hQ60
    have M60 := Fr.app N0 N60
    have g61 : Goes p e below S0 (T60.setTop (mkF m 18 #[rv qa, iv xi, iv kc, iv xs] [(.double (f_sh (xi / kc) (xi % kc) xs)), (.int xi), (.ref qa)])) := fun t k => g59 t (st60 t k)
    obtain ⟨cl62, Ar62, q62, S62, M62, H62, G62⟩ := id P0
    obtain ⟨T63, h63, X63, e63, W63, st63⟩ := stD X60 hx hZ e60 Ar62 (j := xi) (inb_of S62 ⟨hxi, h58⟩) (g := (mkF m 18 #[rv qa, iv xi, iv kc, iv xs] [(.double (f_sh (xi / kc) (xi % kc) xs)), (.int xi), (.ref qa)])) rfl rfl (hb hby d0_18)
    have N63 := Fr.snoc X63 M60 P1
    have V63 : Arv Z h63 qa zk .double zn (S1 zv xi kc xs) zd := Arv.set Ar62 q62 S62 M62 H62 G62 rfl W63 xi.toNatClampNeg rfl hl
    have g64 : Goes p e below S0 (T63.setTop (mkF m 19 #[rv qa, iv xi, iv kc, iv xs] [])) := fun t k => g61 t (st63 t k)
    obtain ⟨fs, hr, hrun, hended, hW, hsame⟩ := X63.leave (v := none) (fun _ => rfl)
    refine ⟨_, _, g64 _ (X63.returnOut hx Bd.returns (hb hby d0_19) hr), hrun, hended, _, _, rfl, ?_, ⟨_, rfl⟩, hW, hsame.mono (by decide) (by decide)⟩
    show Q_put Z qa xi kc xs zk zn zv zd h0 n0 _ T63.heap _
    rw [e63]
    exact ⟨rfl, N63, ((Keep.refl h0 [qa]).wr W63 (Or.inl (List.mem_of_getElem? (i := 0) rfl))), V63⟩
  · skip
    have g65 : Goes p e below S0 (s₁.setTop (mkF m 19 #[rv qa, iv xi, iv kc, iv xs] [])) := fun t k => g57 t (by
      refine XS.icmpYes X0.here hx rfl (pc0 := 3) (pc' := 19) rfl (hb hby d0_3) rfl (XT.ii_ge_t h58) (by decide) (by decide) ?_
      show Go p e below t s₁ m 19 #[rv qa, iv xi, iv kc, iv xs] []
      exact k)
    have Vb66 : Arv Z h0 qa zk .double zn (S1 zv xi kc xs) zd := Arv.beyond P0 (own_nle hxi h58 hzn)
    obtain ⟨fs, hr, hrun, hended, hW, hsame⟩ := X0.leave (v := none) (fun _ => rfl)
    refine ⟨_, _, g65 _ (X0.returnOut hx Bd.returns (hb hby d0_19) hr), hrun, hended, _, _, rfl, ?_, ⟨_, rfl⟩, hW, hsame.mono (by decide) (by decide)⟩
    show Q_put Z qa xi kc xs zk zn zv zd h0 n0 _ s₁.heap _
    rw [e0]
    exact ⟨rfl, N0, (Keep.refl h0 [qa]), Vb66⟩
def nK (a : Int32) : Int32 := 1 + (a &&& 3)
def nC (b : Int32) : Int32 := 1 + (b &&& 3)
def nD (c b : Int32) : Int32 := (c &&& 2147483647) % nC b
def nE (d a : Int32) : Int32 := (d &&& 2147483647) % nK a
def nS (e : Int32) : Int32 := e &&& 3
def nW (e : Int32) : Int32 := (e.toUInt32 >>> ((2 : Int32) &&& 31).toUInt32).toInt32 &&& 3
def nN (a b : Int32) : Int32 := nC b * nK a
def nP (a e : Int32) : Int32 := nW e * nK a
theorem own_z0 : (0 : Int32).toInt = 0 := by decide
theorem own_z1 : (1 : Int32).toInt = 1 := by decide
theorem own_m3 (x : Int32) : 0 ≤ (x &&& 3).toInt ∧ (x &&& 3).toInt < 4 := by
  have := c_mask x 3 2 (by decide) (by decide)
  omega
theorem own_kr (a : Int32) : 1 ≤ (nK a).toInt ∧ (nK a).toInt ≤ 4 := by
  have h := own_m3 a
  have h1 := c_iadd 1 (a &&& 3)
  have h2 := rng32 (1 + (a &&& 3))
  have z := own_z1
  unfold nK; omega
theorem own_cr (a : Int32) : 1 ≤ (nC a).toInt ∧ (nC a).toInt ≤ 4 := own_kr a
theorem own_sr (a : Int32) : 0 ≤ (nS a).toInt ∧ (nS a).toInt < 4 := own_m3 a
theorem own_wr (a : Int32) : 0 ≤ (nW a).toInt ∧ (nW a).toInt < 4 := own_m3 _
theorem own_dr (c b : Int32) : 0 ≤ (nD c b).toInt ∧ (nD c b).toInt < (nC b).toInt := by
  have h := (c_iremV (c &&& 2147483647) (nC b)).1 (c_and c 2147483647 (by decide)).1 (by have := own_cr b; omega)
  exact ⟨h.1, h.2.1⟩
theorem own_er (d a : Int32) : 0 ≤ (nE d a).toInt ∧ (nE d a).toInt < (nK a).toInt := by
  have h := (c_iremV (d &&& 2147483647) (nK a)).1 (c_and d 2147483647 (by decide)).1 (by have := own_kr a; omega)
  exact ⟨h.1, h.2.1⟩
theorem own_pm {x y : Int} (hx : 0 ≤ x ∧ x ≤ 4) (hy : 1 ≤ y ∧ y ≤ 4) : 0 ≤ x * y ∧ x * y ≤ 4 * x := by
  refine ⟨Int.mul_nonneg hx.1 (by omega), ?_⟩
  have := Int.mul_le_mul_of_nonneg_left hy.2 hx.1
  omega
theorem own_nv (a b : Int32) : (nN a b).toInt = (nC b).toInt * (nK a).toInt := by
  have h := own_pm (x := (nC b).toInt) (y := (nK a).toInt) (by have := own_cr b; omega) (own_kr a)
  have h1 := c_imul (nC b) (nK a)
  have h2 := rng32 (nC b * nK a)
  have := own_cr b
  unfold nN
  generalize (nC b).toInt * (nK a).toInt = w at *
  omega
theorem own_pv (a e : Int32) : (nP a e).toInt = (nW e).toInt * (nK a).toInt := by
  have h := own_pm (x := (nW e).toInt) (y := (nK a).toInt) (by have := own_wr e; omega) (own_kr a)
  have h1 := c_imul (nW e) (nK a)
  have h2 := rng32 (nW e * nK a)
  have := own_wr e
  unfold nP
  generalize (nW e).toInt * (nK a).toInt = w at *
  omega
theorem own_nr (a b : Int32) : 0 ≤ (nN a b).toInt ∧ (nN a b).toInt ≤ 16 := by
  have h := own_pm (x := (nC b).toInt) (y := (nK a).toInt) (by have := own_cr b; omega) (own_kr a)
  have := own_cr b
  rw [own_nv]; omega
theorem own_pr (a e : Int32) : 0 ≤ (nP a e).toInt ∧ (nP a e).toInt ≤ 12 := by
  have h := own_pm (x := (nW e).toInt) (y := (nK a).toInt) (by have := own_wr e; omega) (own_kr a)
  have := own_wr e
  rw [own_pv]; omega
theorem own_n0 (a b : Int32) : 0 ≤ (nN a b).toInt := (own_nr a b).1
theorem own_m0 (a e : Int32) : 0 ≤ (nP a e).toInt := (own_pr a e).1
theorem own_nneg (a b : Int32) : ¬ (nN a b) < 0 := by rw [Int32.lt_iff_toInt_lt, own_z0]; have := own_nr a b; omega
theorem own_pneg (a e : Int32) : ¬ (nP a e) < 0 := by rw [Int32.lt_iff_toInt_lt, own_z0]; have := own_pr a e; omega
theorem own_ncap (a b : Int32) : (nN a b).toNatClampNeg ≤ 16 := by have := nat_of (own_nneg a b); have := own_nr a b; omega
theorem own_pcap (a e : Int32) : (nP a e).toNatClampNeg ≤ 12 := by have := nat_of (own_pneg a e); have := own_pr a e; omega
theorem own_kz (a : Int32) : nK a ≠ 0 := fun h => by have := own_kr a; rw [h, own_z0] at this; omega
theorem own_cz (a : Int32) : nC a ≠ 0 := own_kz a
theorem own_k1 (a : Int32) : ¬ ((nK a) < (1 : Int32)) := by rw [Int32.lt_iff_toInt_lt, own_z1]; have := own_kr a; omega
theorem own_c0 (a : Int32) : ¬ ((nC a) < 0) := by rw [Int32.lt_iff_toInt_lt, own_z0]; have := own_cr a; omega
theorem own_w0 (a : Int32) : ¬ ((nW a) < 0) := by rw [Int32.lt_iff_toInt_lt, own_z0]; have := own_wr a; omega
theorem own_tok (a : Int64) : ¬ ((a &&& (9223372036854775807 : Int64)) < (0 : Int64)) := by
  have h := c_maskL a 9223372036854775807 63 (by decide) (by decide)
  have z : (0 : Int64).toInt = 0 := by decide
  rw [Int64.lt_iff_toInt_lt]; omega
theorem own_h5 (a b : Int32) : (nN a b).toInt64 = ((nC b).toInt64 * (nK a).toInt64) := Int64.toInt_inj.mp (by rw [XT.wideMul, c_i2l, own_nv])
theorem own_h6 (a e : Int32) : (nP a e).toInt64 = ((nW e).toInt64 * (nK a).toInt64) := Int64.toInt_inj.mp (by rw [XT.wideMul, c_i2l, own_pv])
section Own
open Jvm.OwnFP
theorem own_v256 : Val (4643211215818981376 : UInt64) 1 1082 := ⟨dfin_const (by decide), by decide +kernel⟩
theorem own_shP {d k s : Int32} (hd : 0 ≤ d.toInt ∧ d.toInt < 4) (hk : 0 ≤ k.toInt ∧ k.toInt < 4) (hs : 0 ≤ s.toInt ∧ s.toInt < 4) : dLe (0 : UInt64) (f_sh d k s) ∧ dLe (f_sh d k s) (4607182418800017408 : UInt64) := by
  have z8 : (8 : Int32).toInt = 8 := by decide
  have z64 : (64 : Int32).toInt = 64 := by decide
  have z1 := own_z1
  have h1 := c_imul d 8
  have h2 := c_iadd (d * 8) k
  have h3 := c_iadd ((d * 8) + k) 1
  have h4 := c_imul 64 s
  have h5 := c_iadd (((d * 8) + k) + 1) (64 * s)
  have r1 := rng32 (d * 8)
  have r2 := rng32 ((d * 8) + k)
  have r3 := rng32 (((d * 8) + k) + 1)
  have r4 := rng32 (64 * s)
  have r5 := rng32 ((((d * 8) + k) + 1) + (64 * s))
  rw [z8] at h1
  rw [z64] at h4
  have e : ((((d * 8) + k) + 1) + (64 * s)).toInt = d.toInt * 8 + k.toInt + 1 + 64 * s.toInt := by omega
  have hv := (Val.i2d ((((d * 8) + k) + 1) + (64 * s))).div2 own_v256 (by omega) (j := 1074 - 8) rfl (by decide)
  exact own_prob hv (by decide) (by omega) (by rw [show ((2 ^ 8 : Nat) : Int) = 256 by decide]; omega)
end Own
theorem own_pz (n : Int32) : Prob n [] (.double (0 : UInt64)) := fun i _ => ⟨0, rfl, by decide +kernel, by decide +kernel⟩
theorem own_self (i j s : Int32) : dEq (f_sh i j s) (f_sh i j s) := FP.Core.dcmp_self (Jvm.Free.Fl.val64_no.mp (own_nn _))
theorem own_t0 : (0 : Int32).toNatClampNeg = 0 := by decide
theorem own_t1 : (1 : Int32).toNatClampNeg = 1 := by decide
theorem own_t2 : (2 : Int32).toNatClampNeg = 2 := by decide
theorem own_t3 : (3 : Int32).toNatClampNeg = 3 := by decide
theorem own_t4 : (4 : Int32).toNatClampNeg = 4 := by decide
theorem own_t5 : (5 : Int32).toNatClampNeg = 5 := by decide
theorem own_t6 : (6 : Int32).toNatClampNeg = 6 := by decide
theorem own_t7 : (7 : Int32).toNatClampNeg = 7 := by decide
theorem own_t8 : (8 : Int32).toNatClampNeg = 8 := by decide
theorem own_t9 : (9 : Int32).toNatClampNeg = 9 := by decide
theorem own_t10 : (10 : Int32).toNatClampNeg = 10 := by decide
theorem own_t11 : (11 : Int32).toNatClampNeg = 11 := by decide
theorem own_t12 : (12 : Int32).toNatClampNeg = 12 := by decide
theorem own_t13 : (13 : Int32).toNatClampNeg = 13 := by decide
theorem own_t14 : (14 : Int32).toNatClampNeg = 14 := by decide
theorem own_t15 : (15 : Int32).toNatClampNeg = 15 := by decide
theorem own_L16 : L16 = [.double (0 : UInt64), .double (0 : UInt64), .double (0 : UInt64), .double (0 : UInt64), .double (0 : UInt64), .double (0 : UInt64), .double (0 : UInt64), .double (0 : UInt64), .double (0 : UInt64), .double (0 : UInt64), .double (0 : UInt64), .double (0 : UInt64), .double (0 : UInt64), .double (0 : UInt64), .double (0 : UInt64), .double (0 : UInt64)] := rfl
theorem own_list16 (kc s : Int32) : (S1 (S1 (S1 (S1 (S1 (S1 (S1 (S1 (S1 (S1 (S1 (S1 (S1 (S1 (S1 (S1 L16 (0 : Int32) kc s) (1 : Int32) kc s) (2 : Int32) kc s) (3 : Int32) kc s) (4 : Int32) kc s) (5 : Int32) kc s) (6 : Int32) kc s) (7 : Int32) kc s) (8 : Int32) kc s) (9 : Int32) kc s) (10 : Int32) kc s) (11 : Int32) kc s) (12 : Int32) kc s) (13 : Int32) kc s) (14 : Int32) kc s) (15 : Int32) kc s) = [.double (f_sh ((0 : Int32) / kc) ((0 : Int32) % kc) s), .double (f_sh ((1 : Int32) / kc) ((1 : Int32) % kc) s), .double (f_sh ((2 : Int32) / kc) ((2 : Int32) % kc) s), .double (f_sh ((3 : Int32) / kc) ((3 : Int32) % kc) s), .double (f_sh ((4 : Int32) / kc) ((4 : Int32) % kc) s), .double (f_sh ((5 : Int32) / kc) ((5 : Int32) % kc) s), .double (f_sh ((6 : Int32) / kc) ((6 : Int32) % kc) s), .double (f_sh ((7 : Int32) / kc) ((7 : Int32) % kc) s), .double (f_sh ((8 : Int32) / kc) ((8 : Int32) % kc) s), .double (f_sh ((9 : Int32) / kc) ((9 : Int32) % kc) s), .double (f_sh ((10 : Int32) / kc) ((10 : Int32) % kc) s), .double (f_sh ((11 : Int32) / kc) ((11 : Int32) % kc) s), .double (f_sh ((12 : Int32) / kc) ((12 : Int32) % kc) s), .double (f_sh ((13 : Int32) / kc) ((13 : Int32) % kc) s), .double (f_sh ((14 : Int32) / kc) ((14 : Int32) % kc) s), .double (f_sh ((15 : Int32) / kc) ((15 : Int32) % kc) s)] := by
  simp only [S1, own_L16, own_t0, own_t1, own_t2, own_t3, own_t4, own_t5, own_t6, own_t7, own_t8, own_t9, own_t10, own_t11, own_t12, own_t13, own_t14, own_t15, List.set_cons_zero, List.set_cons_succ]
set_option maxHeartbeats 4000000 in
theorem own_at16 {j : Int32} (h : 0 ≤ j.toInt ∧ j.toInt < 16) (kc s : Int32) {dv : Value} : (S1 (S1 (S1 (S1 (S1 (S1 (S1 (S1 (S1 (S1 (S1 (S1 (S1 (S1 (S1 (S1 L16 (0 : Int32) kc s) (1 : Int32) kc s) (2 : Int32) kc s) (3 : Int32) kc s) (4 : Int32) kc s) (5 : Int32) kc s) (6 : Int32) kc s) (7 : Int32) kc s) (8 : Int32) kc s) (9 : Int32) kc s) (10 : Int32) kc s) (11 : Int32) kc s) (12 : Int32) kc s) (13 : Int32) kc s) (14 : Int32) kc s) (15 : Int32) kc s).getD j.toNatClampNeg dv = .double (f_sh (j / kc) (j % kc) s) := by
  rw [own_list16]
  have h0 : j.toInt = 0 ∨ j.toInt = 1 ∨ j.toInt = 2 ∨ j.toInt = 3 ∨ j.toInt = 4 ∨ j.toInt = 5 ∨ j.toInt = 6 ∨ j.toInt = 7 ∨ j.toInt = 8 ∨ j.toInt = 9 ∨ j.toInt = 10 ∨ j.toInt = 11 ∨ j.toInt = 12 ∨ j.toInt = 13 ∨ j.toInt = 14 ∨ j.toInt = 15 := by omega
  rcases h0 with h0 | h0 | h0 | h0 | h0 | h0 | h0 | h0 | h0 | h0 | h0 | h0 | h0 | h0 | h0 | h0
  · obtain rfl : j = (0 : Int32) := Int32.toInt_inj.mp (by rw [h0]; decide)
    rw [own_t0]; rfl
  · obtain rfl : j = (1 : Int32) := Int32.toInt_inj.mp (by rw [h0]; decide)
    rw [own_t1]; rfl
  · obtain rfl : j = (2 : Int32) := Int32.toInt_inj.mp (by rw [h0]; decide)
    rw [own_t2]; rfl
  · obtain rfl : j = (3 : Int32) := Int32.toInt_inj.mp (by rw [h0]; decide)
    rw [own_t3]; rfl
  · obtain rfl : j = (4 : Int32) := Int32.toInt_inj.mp (by rw [h0]; decide)
    rw [own_t4]; rfl
  · obtain rfl : j = (5 : Int32) := Int32.toInt_inj.mp (by rw [h0]; decide)
    rw [own_t5]; rfl
  · obtain rfl : j = (6 : Int32) := Int32.toInt_inj.mp (by rw [h0]; decide)
    rw [own_t6]; rfl
  · obtain rfl : j = (7 : Int32) := Int32.toInt_inj.mp (by rw [h0]; decide)
    rw [own_t7]; rfl
  · obtain rfl : j = (8 : Int32) := Int32.toInt_inj.mp (by rw [h0]; decide)
    rw [own_t8]; rfl
  · obtain rfl : j = (9 : Int32) := Int32.toInt_inj.mp (by rw [h0]; decide)
    rw [own_t9]; rfl
  · obtain rfl : j = (10 : Int32) := Int32.toInt_inj.mp (by rw [h0]; decide)
    rw [own_t10]; rfl
  · obtain rfl : j = (11 : Int32) := Int32.toInt_inj.mp (by rw [h0]; decide)
    rw [own_t11]; rfl
  · obtain rfl : j = (12 : Int32) := Int32.toInt_inj.mp (by rw [h0]; decide)
    rw [own_t12]; rfl
  · obtain rfl : j = (13 : Int32) := Int32.toInt_inj.mp (by rw [h0]; decide)
    rw [own_t13]; rfl
  · obtain rfl : j = (14 : Int32) := Int32.toInt_inj.mp (by rw [h0]; decide)
    rw [own_t14]; rfl
  · obtain rfl : j = (15 : Int32) := Int32.toInt_inj.mp (by rw [h0]; decide)
    rw [own_t15]; rfl
theorem own_split {j k : Int32} (hk : 1 ≤ k.toInt ∧ k.toInt ≤ 4) (h : 0 ≤ j.toInt ∧ j.toInt < 16) : (j / k).toInt = j.toInt / k.toInt ∧ (j % k).toInt = j.toInt % k.toInt := by
  have hn : k ≠ -1 := fun q => by rw [q] at hk; have : (-1 : Int32).toInt = -1 := by decide
                                  omega
  exact ⟨(c_idiv j k k.toInt rfl hn).1 h.1, (c_irem j k k.toInt rfl).1 h.1⟩
theorem own_p16 (a b e : Int32) : Prob (nN a b) (S1 (S1 (S1 (S1 (S1 (S1 (S1 (S1 (S1 (S1 (S1 (S1 (S1 (S1 (S1 (S1 L16 (0 : Int32) (nK a) (nS e)) (1 : Int32) (nK a) (nS e)) (2 : Int32) (nK a) (nS e)) (3 : Int32) (nK a) (nS e)) (4 : Int32) (nK a) (nS e)) (5 : Int32) (nK a) (nS e)) (6 : Int32) (nK a) (nS e)) (7 : Int32) (nK a) (nS e)) (8 : Int32) (nK a) (nS e)) (9 : Int32) (nK a) (nS e)) (10 : Int32) (nK a) (nS e)) (11 : Int32) (nK a) (nS e)) (12 : Int32) (nK a) (nS e)) (13 : Int32) (nK a) (nS e)) (14 : Int32) (nK a) (nS e)) (15 : Int32) (nK a) (nS e)) (.double (0 : UInt64)) := by
  intro i hi
  have hn := own_nr a b
  have h1 := nat_of (own_nneg a b)
  have hk := own_kr a
  have hc := own_cr b
  have hv := own_nv a b
  obtain ⟨j, hj⟩ : ∃ j : Int32, j = Int32.ofNat i := ⟨_, rfl⟩
  have ej : j.toInt = i := by rw [hj, Int32.toInt_ofNat', show Int32.size = 4294967296 from rfl, Int.bmod_eq_of_le (by omega) (by omega)]
  have h0 : ¬ j < 0 := by rw [Int32.lt_iff_toInt_lt, own_z0]; omega
  have en : j.toNatClampNeg = i := by have := nat_of h0; omega
  rw [← en, own_at16 (by omega) (nK a) (nS e)]
  obtain ⟨s1, s2⟩ := own_split (j := j) hk (by omega)
  refine ⟨_, rfl, own_shP ⟨?_, ?_⟩ ⟨?_, ?_⟩ (own_sr e)⟩
  · rw [s1]; exact Int.ediv_nonneg (by omega) (by omega)
  · rw [s1]
    refine Int.ediv_lt_of_lt_mul (by omega) ?_
    have : (nC b).toInt * (nK a).toInt ≤ 4 * (nK a).toInt := Int.mul_le_mul_of_nonneg_right hc.2 (by omega)
    omega
  · rw [s2]; exact Int.emod_nonneg _ (by omega)
  · rw [s2]; have := Int.emod_lt_of_pos j.toInt (show 0 < (nK a).toInt by omega); omega
theorem own_jv (a b c d : Int32) : (((nD c b) * (nK a)) + (nE d a)).toInt = (nD c b).toInt * (nK a).toInt + (nE d a).toInt ∧ (nD c b).toInt * (nK a).toInt + (nE d a).toInt < (nN a b).toInt ∧ 0 ≤ (nD c b).toInt * (nK a).toInt + (nE d a).toInt := by
  have hd := own_dr c b
  have he := own_er d a
  have hk := own_kr a
  have hc := own_cr b
  have hn := own_nr a b
  have hv := own_nv a b
  have hp := own_pm (x := (nD c b).toInt) (y := (nK a).toInt) (by omega) hk
  have h1 := c_imul (nD c b) (nK a)
  have r1 := rng32 ((nD c b) * (nK a))
  have h2 := c_iadd ((nD c b) * (nK a)) (nE d a)
  have r2 := rng32 (((nD c b) * (nK a)) + (nE d a))
  have hl : ((nD c b).toInt + 1) * (nK a).toInt ≤ (nC b).toInt * (nK a).toInt := Int.mul_le_mul_of_nonneg_right (by omega) (by omega)
  rw [Int.add_mul, Int.one_mul] at hl
  generalize (nD c b).toInt * (nK a).toInt = w at *
  omega
theorem own_jin (a b c d : Int32) : ¬ (((nD c b) * (nK a)) + (nE d a)) < 0 ∧ (((nD c b) * (nK a)) + (nE d a)) < (nN a b) := by
  obtain ⟨h1, h2, h3⟩ := own_jv a b c d
  rw [Int32.lt_iff_toInt_lt, Int32.lt_iff_toInt_lt, own_z0]; omega
theorem own_jat (a b c d e : Int32) : (S1 (S1 (S1 (S1 (S1 (S1 (S1 (S1 (S1 (S1 (S1 (S1 (S1 (S1 (S1 (S1 L16 (0 : Int32) (nK a) (nS e)) (1 : Int32) (nK a) (nS e)) (2 : Int32) (nK a) (nS e)) (3 : Int32) (nK a) (nS e)) (4 : Int32) (nK a) (nS e)) (5 : Int32) (nK a) (nS e)) (6 : Int32) (nK a) (nS e)) (7 : Int32) (nK a) (nS e)) (8 : Int32) (nK a) (nS e)) (9 : Int32) (nK a) (nS e)) (10 : Int32) (nK a) (nS e)) (11 : Int32) (nK a) (nS e)) (12 : Int32) (nK a) (nS e)) (13 : Int32) (nK a) (nS e)) (14 : Int32) (nK a) (nS e)) (15 : Int32) (nK a) (nS e)).getD (((nD c b) * (nK a)) + (nE d a)).toNatClampNeg (.double (0 : UInt64)) = .double (f_sh (nD c b) (nE d a) (nS e)) := by
  obtain ⟨h1, h2, h3⟩ := own_jv a b c d
  have hn := own_nr a b
  have hk := own_kr a
  have he := own_er d a
  rw [own_at16 (by omega) (nK a) (nS e)]
  obtain ⟨s1, s2⟩ := own_split (j := (((nD c b) * (nK a)) + (nE d a))) hk (by omega)
  have e1 : (((nD c b) * (nK a)) + (nE d a)) / nK a = nD c b := Int32.toInt_inj.mp (by
    rw [s1, h1, Int.add_comm, Int.add_mul_ediv_right _ _ (by omega), Int.ediv_eq_zero_of_lt he.1 he.2, Int.zero_add])
  have e2 : (((nD c b) * (nK a)) + (nE d a)) % nK a = nE d a := Int32.toInt_inj.mp (by
    rw [s2, h1, Int.add_comm, Int.add_mul_emod_self_right, Int.emod_eq_of_lt he.1 he.2])
  rw [e1, e2]

theorem pd5 : parseMethodDescriptor "(IIIIIJ)Z" = some ⟨[.int, .int, .int, .int, .int, .long], some .boolean⟩ := by decide +kernel
theorem pf_law : plainFor x = true := by first | exact plainFor_of_name (by first | (simp [plainName, overriddenIn, x]; done) | decide +kernel) | exact Jvm.Free.JP.mathPlain rfl (by decide +kernel) | decide +kernel
theorem ef_law (m : MethodId) (i0 : Int32) (i1 : Int32) (i2 : Int32) (i3 : Int32) (i4 : Int32) (i5 : Int64) : entryFrame m #[(.int i0), (.int i1), (.int i2), (.int i3), (.int i4), (.long i5)] maxLocals = mkF m 0 #[iv i0, iv i1, iv i2, iv i3, iv i4, .val (.long i5), .second, .unset, .unset, .unset, .unset, .unset, .unset, .unset, .unset, .unset] [] := by first | (simp [entryFrame, mkF, argsToLocals, Value.category, maxLocals]; done) | rfl
def f_law (i0 : Int32) (i1 : Int32) (i2 : Int32) (i3 : Int32) (i4 : Int32) (i5 : Int64) : Int32 := 1
def Q_law (Z : State) (i0 : Int32) (i1 : Int32) (i2 : Int32) (i3 : Int32) (i4 : Int32) (i5 : Int64)  (h0 : Heap) (n0 : Nat) (v : Option Value) (h : Heap) (L : List Loc) : Prop := v = some (.int (f_law i0 i1 i2 i3 i4 i5)) ∧ Fr n0 L
set_option maxRecDepth 65536 in
set_option maxHeartbeats 40000000 in
theorem rm_law (l : Launch) (Z : State) (a0 : Array Value) (hw : ∀ d ∈ tables_1, d.before a0 Z = true) (ws : List Jvm.Cond) (i0 : Int32) (i1 : Int32) (i2 : Int32) (i3 : Int32) (i4 : Int32) (i5 : Int64)  (h0 : Heap) (n0 : Nat) (Z0 : n0 ≤ h0.size)   :
    MetFree l x (head1 (Jvm.Cond.code x code maxLocals ret :: ws) room_1) (fun a U => a = #[(.int i0), (.int i1), (.int i2), (.int i3), (.int i4), (.long i5)] ∧ Z.Warmed39 U.vm ∧ U.heap = h0) (fun _ _ _ _ _ => True) (fun _ U o U' => ∃ v L, o = .returned v ∧ Q_law Z i0 i1 i2 i3 i4 i5  h0 n0 v U'.heap L ∧ FrameEnd U o U' L 16 192) := by
  refine MetFree.of_bodySF pf_law hisR ?_
  intro p e s m args below meth c s₁ Bd hml0 hP hK
  obtain ⟨rfl, hZ, hh⟩ := hP
  have hx := Bd.exec
  have hby := Bd.bytes
  have hml : c.maxLocals = 16 := hml0
  have hown : s.vm.findClass "com/example/borrowed_prior/borrowedprior/model/TopicModelDocumentTopicPinLaw" = some m.cls := findClass_of_methodNamed Bd.named
  have hnm := (name_of_methodNamed Bd.named Bd.method).1
  have X0 : Stand p l e room_1 s m #[(.int i0), (.int i1), (.int i2), (.int i3), (.int i4), (.long i5)] below meth c s₁ [] 0 0 := Stand.of_body Bd
  have e0 : s₁.heap = h0 := by rw [← hh, Bd.state]; rfl
  have N0 := Fr.nil n0
  obtain ⟨S0, hS0⟩ : ∃ z, z = s₁.setTop (entryFrame m #[(.int i0), (.int i1), (.int i2), (.int i3), (.int i4), (.long i5)] maxLocals) := ⟨_, rfl⟩
  rw [← hS0]
  have g0 : Goes p e below S0 (s₁.setTop (mkF m 0 #[iv i0, iv i1, iv i2, iv i3, iv i4, .val (.long i5), .second, .unset, .unset, .unset, .unset, .unset, .unset, .unset, .unset, .unset] [])) := fun t k => by rw [hS0]; exact castTop (ef_law m i0 i1 i2 i3 i4 i5) k
  have g67 : Goes p e below S0 (s₁.setTop (mkF m 51 #[iv i0, iv i1, iv i2, iv i3, iv i4, .val (.long i5), .second, iv (nK i0), iv (nC i1), iv (nD i2 i1), iv (nE i3 i0), iv (nS i4), iv (nW i4), .unset, .unset, .unset] [(.int (nN i0 i1))])) := fun t k => g0 t (by
    refine XT.iconstV X0.here hx rfl (1 : Int32) (hb hby at_0) (by decide) ?_
    show Go p e below t s₁ m 1 #[iv i0, iv i1, iv i2, iv i3, iv i4, .val (.long i5), .second, .unset, .unset, .unset, .unset, .unset, .unset, .unset, .unset, .unset] [(.int (1 : Int32))]
    refine XS.iloadN X0.here hx rfl (hb hby at_1) rfl ?_
    show Go p e below t s₁ m 2 #[iv i0, iv i1, iv i2, iv i3, iv i4, .val (.long i5), .second, .unset, .unset, .unset, .unset, .unset, .unset, .unset, .unset, .unset] [(.int i0), (.int (1 : Int32))]
    refine XT.iconstV X0.here hx rfl (3 : Int32) (hb hby at_2) (by decide) ?_
    show Go p e below t s₁ m 3 #[iv i0, iv i1, iv i2, iv i3, iv i4, .val (.long i5), .second, .unset, .unset, .unset, .unset, .unset, .unset, .unset, .unset, .unset] [(.int (3 : Int32)), (.int i0), (.int (1 : Int32))]
    refine XS.iand X0.here hx rfl (hb hby at_3) rfl ?_
    show Go p e below t s₁ m 4 #[iv i0, iv i1, iv i2, iv i3, iv i4, .val (.long i5), .second, .unset, .unset, .unset, .unset, .unset, .unset, .unset, .unset, .unset] [(.int (i0 &&& (3 : Int32))), (.int (1 : Int32))]
    refine XS.iadd X0.here hx rfl (hb hby at_4) rfl ?_
    show Go p e below t s₁ m 5 #[iv i0, iv i1, iv i2, iv i3, iv i4, .val (.long i5), .second, .unset, .unset, .unset, .unset, .unset, .unset, .unset, .unset, .unset] [(.int ((1 : Int32) + (i0 &&& (3 : Int32))))]
    refine XS.istore X0.here hx rfl (hb hby at_5) rfl (l' := #[iv i0, iv i1, iv i2, iv i3, iv i4, .val (.long i5), .second, iv (nK i0), .unset, .unset, .unset, .unset, .unset, .unset, .unset, .unset]) rfl ?_
    show Go p e below t s₁ m 7 #[iv i0, iv i1, iv i2, iv i3, iv i4, .val (.long i5), .second, iv (nK i0), .unset, .unset, .unset, .unset, .unset, .unset, .unset, .unset] []
    refine XT.iconstV X0.here hx rfl (1 : Int32) (hb hby at_7) (by decide) ?_
    show Go p e below t s₁ m 8 #[iv i0, iv i1, iv i2, iv i3, iv i4, .val (.long i5), .second, iv (nK i0), .unset, .unset, .unset, .unset, .unset, .unset, .unset, .unset] [(.int (1 : Int32))]
    refine XS.iloadN X0.here hx rfl (hb hby at_8) rfl ?_
    show Go p e below t s₁ m 9 #[iv i0, iv i1, iv i2, iv i3, iv i4, .val (.long i5), .second, iv (nK i0), .unset, .unset, .unset, .unset, .unset, .unset, .unset, .unset] [(.int i1), (.int (1 : Int32))]
    refine XT.iconstV X0.here hx rfl (3 : Int32) (hb hby at_9) (by decide) ?_
    show Go p e below t s₁ m 10 #[iv i0, iv i1, iv i2, iv i3, iv i4, .val (.long i5), .second, iv (nK i0), .unset, .unset, .unset, .unset, .unset, .unset, .unset, .unset] [(.int (3 : Int32)), (.int i1), (.int (1 : Int32))]
    refine XS.iand X0.here hx rfl (hb hby at_10) rfl ?_
    show Go p e below t s₁ m 11 #[iv i0, iv i1, iv i2, iv i3, iv i4, .val (.long i5), .second, iv (nK i0), .unset, .unset, .unset, .unset, .unset, .unset, .unset, .unset] [(.int (i1 &&& (3 : Int32))), (.int (1 : Int32))]
    refine XS.iadd X0.here hx rfl (hb hby at_11) rfl ?_
    show Go p e below t s₁ m 12 #[iv i0, iv i1, iv i2, iv i3, iv i4, .val (.long i5), .second, iv (nK i0), .unset, .unset, .unset, .unset, .unset, .unset, .unset, .unset] [(.int ((1 : Int32) + (i1 &&& (3 : Int32))))]
    refine XS.istore X0.here hx rfl (hb hby at_12) rfl (l' := #[iv i0, iv i1, iv i2, iv i3, iv i4, .val (.long i5), .second, iv (nK i0), iv (nC i1), .unset, .unset, .unset, .unset, .unset, .unset, .unset]) rfl ?_
    show Go p e below t s₁ m 14 #[iv i0, iv i1, iv i2, iv i3, iv i4, .val (.long i5), .second, iv (nK i0), iv (nC i1), .unset, .unset, .unset, .unset, .unset, .unset, .unset] []
    refine XS.iloadN X0.here hx rfl (hb hby at_14) rfl ?_
    show Go p e below t s₁ m 15 #[iv i0, iv i1, iv i2, iv i3, iv i4, .val (.long i5), .second, iv (nK i0), iv (nC i1), .unset, .unset, .unset, .unset, .unset, .unset, .unset] [(.int i2)]
    refine Jvm.Stand.ldcI X0 hx hown (mvT hZ (hw _ (List.mem_of_getElem? (i := 0) rfl))) (g := (mkF m 15 #[iv i0, iv i1, iv i2, iv i3, iv i4, .val (.long i5), .second, iv (nK i0), iv (nC i1), .unset, .unset, .unset, .unset, .unset, .unset, .unset] [(.int i2)])) rfl (hb hby at_15) ?_
    show Go p e below t s₁ m 17 #[iv i0, iv i1, iv i2, iv i3, iv i4, .val (.long i5), .second, iv (nK i0), iv (nC i1), .unset, .unset, .unset, .unset, .unset, .unset, .unset] [(.int (2147483647 : Int32)), (.int i2)]
    refine XS.iand X0.here hx rfl (hb hby at_17) rfl ?_
    show Go p e below t s₁ m 18 #[iv i0, iv i1, iv i2, iv i3, iv i4, .val (.long i5), .second, iv (nK i0), iv (nC i1), .unset, .unset, .unset, .unset, .unset, .unset, .unset] [(.int (i2 &&& (2147483647 : Int32)))]
    refine XS.iload X0.here hx rfl (hb hby at_18) rfl ?_
    show Go p e below t s₁ m 20 #[iv i0, iv i1, iv i2, iv i3, iv i4, .val (.long i5), .second, iv (nK i0), iv (nC i1), .unset, .unset, .unset, .unset, .unset, .unset, .unset] [(.int (nC i1)), (.int (i2 &&& (2147483647 : Int32)))]
    refine iremM X0 hx rfl (hb hby at_20) rfl (own_cz i1) ?_
    show Go p e below t s₁ m 21 #[iv i0, iv i1, iv i2, iv i3, iv i4, .val (.long i5), .second, iv (nK i0), iv (nC i1), .unset, .unset, .unset, .unset, .unset, .unset, .unset] [(.int ((i2 &&& (2147483647 : Int32)) % (nC i1)))]
    refine XS.istore X0.here hx rfl (hb hby at_21) rfl (l' := #[iv i0, iv i1, iv i2, iv i3, iv i4, .val (.long i5), .second, iv (nK i0), iv (nC i1), iv (nD i2 i1), .unset, .unset, .unset, .unset, .unset, .unset]) rfl ?_
    show Go p e below t s₁ m 23 #[iv i0, iv i1, iv i2, iv i3, iv i4, .val (.long i5), .second, iv (nK i0), iv (nC i1), iv (nD i2 i1), .unset, .unset, .unset, .unset, .unset, .unset] []
    refine XS.iloadN X0.here hx rfl (hb hby at_23) rfl ?_
    show Go p e below t s₁ m 24 #[iv i0, iv i1, iv i2, iv i3, iv i4, .val (.long i5), .second, iv (nK i0), iv (nC i1), iv (nD i2 i1), .unset, .unset, .unset, .unset, .unset, .unset] [(.int i3)]
    refine Jvm.Stand.ldcI X0 hx hown (mvT hZ (hw _ (List.mem_of_getElem? (i := 0) rfl))) (g := (mkF m 24 #[iv i0, iv i1, iv i2, iv i3, iv i4, .val (.long i5), .second, iv (nK i0), iv (nC i1), iv (nD i2 i1), .unset, .unset, .unset, .unset, .unset, .unset] [(.int i3)])) rfl (hb hby at_24) ?_
    show Go p e below t s₁ m 26 #[iv i0, iv i1, iv i2, iv i3, iv i4, .val (.long i5), .second, iv (nK i0), iv (nC i1), iv (nD i2 i1), .unset, .unset, .unset, .unset, .unset, .unset] [(.int (2147483647 : Int32)), (.int i3)]
    refine XS.iand X0.here hx rfl (hb hby at_26) rfl ?_
    show Go p e below t s₁ m 27 #[iv i0, iv i1, iv i2, iv i3, iv i4, .val (.long i5), .second, iv (nK i0), iv (nC i1), iv (nD i2 i1), .unset, .unset, .unset, .unset, .unset, .unset] [(.int (i3 &&& (2147483647 : Int32)))]
    refine XS.iload X0.here hx rfl (hb hby at_27) rfl ?_
    show Go p e below t s₁ m 29 #[iv i0, iv i1, iv i2, iv i3, iv i4, .val (.long i5), .second, iv (nK i0), iv (nC i1), iv (nD i2 i1), .unset, .unset, .unset, .unset, .unset, .unset] [(.int (nK i0)), (.int (i3 &&& (2147483647 : Int32)))]
    refine iremM X0 hx rfl (hb hby at_29) rfl (own_kz i0) ?_
    show Go p e below t s₁ m 30 #[iv i0, iv i1, iv i2, iv i3, iv i4, .val (.long i5), .second, iv (nK i0), iv (nC i1), iv (nD i2 i1), .unset, .unset, .unset, .unset, .unset, .unset] [(.int ((i3 &&& (2147483647 : Int32)) % (nK i0)))]
    refine XS.istore X0.here hx rfl (hb hby at_30) rfl (l' := #[iv i0, iv i1, iv i2, iv i3, iv i4, .val (.long i5), .second, iv (nK i0), iv (nC i1), iv (nD i2 i1), iv (nE i3 i0), .unset, .unset, .unset, .unset, .unset]) rfl ?_
    show Go p e below t s₁ m 32 #[iv i0, iv i1, iv i2, iv i3, iv i4, .val (.long i5), .second, iv (nK i0), iv (nC i1), iv (nD i2 i1), iv (nE i3 i0), .unset, .unset, .unset, .unset, .unset] []
    refine XS.iload X0.here hx rfl (hb hby at_32) rfl ?_
    show Go p e below t s₁ m 34 #[iv i0, iv i1, iv i2, iv i3, iv i4, .val (.long i5), .second, iv (nK i0), iv (nC i1), iv (nD i2 i1), iv (nE i3 i0), .unset, .unset, .unset, .unset, .unset] [(.int i4)]
    refine XT.iconstV X0.here hx rfl (3 : Int32) (hb hby at_34) (by decide) ?_
    show Go p e below t s₁ m 35 #[iv i0, iv i1, iv i2, iv i3, iv i4, .val (.long i5), .second, iv (nK i0), iv (nC i1), iv (nD i2 i1), iv (nE i3 i0), .unset, .unset, .unset, .unset, .unset] [(.int (3 : Int32)), (.int i4)]
    refine XS.iand X0.here hx rfl (hb hby at_35) rfl ?_
    show Go p e below t s₁ m 36 #[iv i0, iv i1, iv i2, iv i3, iv i4, .val (.long i5), .second, iv (nK i0), iv (nC i1), iv (nD i2 i1), iv (nE i3 i0), .unset, .unset, .unset, .unset, .unset] [(.int (i4 &&& (3 : Int32)))]
    refine XS.istore X0.here hx rfl (hb hby at_36) rfl (l' := #[iv i0, iv i1, iv i2, iv i3, iv i4, .val (.long i5), .second, iv (nK i0), iv (nC i1), iv (nD i2 i1), iv (nE i3 i0), iv (nS i4), .unset, .unset, .unset, .unset]) rfl ?_
    show Go p e below t s₁ m 38 #[iv i0, iv i1, iv i2, iv i3, iv i4, .val (.long i5), .second, iv (nK i0), iv (nC i1), iv (nD i2 i1), iv (nE i3 i0), iv (nS i4), .unset, .unset, .unset, .unset] []
    refine XS.iload X0.here hx rfl (hb hby at_38) rfl ?_
    show Go p e below t s₁ m 40 #[iv i0, iv i1, iv i2, iv i3, iv i4, .val (.long i5), .second, iv (nK i0), iv (nC i1), iv (nD i2 i1), iv (nE i3 i0), iv (nS i4), .unset, .unset, .unset, .unset] [(.int i4)]
    refine XT.iconstV X0.here hx rfl (2 : Int32) (hb hby at_40) (by decide) ?_
    show Go p e below t s₁ m 41 #[iv i0, iv i1, iv i2, iv i3, iv i4, .val (.long i5), .second, iv (nK i0), iv (nC i1), iv (nD i2 i1), iv (nE i3 i0), iv (nS i4), .unset, .unset, .unset, .unset] [(.int (2 : Int32)), (.int i4)]
    refine XS.iushr X0.here hx rfl (hb hby at_41) rfl ?_
    show Go p e below t s₁ m 42 #[iv i0, iv i1, iv i2, iv i3, iv i4, .val (.long i5), .second, iv (nK i0), iv (nC i1), iv (nD i2 i1), iv (nE i3 i0), iv (nS i4), .unset, .unset, .unset, .unset] [(.int (((i4).toUInt32 >>> ((2 : Int32) &&& 31).toUInt32).toInt32))]
    refine XT.iconstV X0.here hx rfl (3 : Int32) (hb hby at_42) (by decide) ?_
    show Go p e below t s₁ m 43 #[iv i0, iv i1, iv i2, iv i3, iv i4, .val (.long i5), .second, iv (nK i0), iv (nC i1), iv (nD i2 i1), iv (nE i3 i0), iv (nS i4), .unset, .unset, .unset, .unset] [(.int (3 : Int32)), (.int (((i4).toUInt32 >>> ((2 : Int32) &&& 31).toUInt32).toInt32))]
    refine XS.iand X0.here hx rfl (hb hby at_43) rfl ?_
    show Go p e below t s₁ m 44 #[iv i0, iv i1, iv i2, iv i3, iv i4, .val (.long i5), .second, iv (nK i0), iv (nC i1), iv (nD i2 i1), iv (nE i3 i0), iv (nS i4), .unset, .unset, .unset, .unset] [(.int ((((i4).toUInt32 >>> ((2 : Int32) &&& 31).toUInt32).toInt32) &&& (3 : Int32)))]
    refine XS.istore X0.here hx rfl (hb hby at_44) rfl (l' := #[iv i0, iv i1, iv i2, iv i3, iv i4, .val (.long i5), .second, iv (nK i0), iv (nC i1), iv (nD i2 i1), iv (nE i3 i0), iv (nS i4), iv (nW i4), .unset, .unset, .unset]) rfl ?_
    show Go p e below t s₁ m 46 #[iv i0, iv i1, iv i2, iv i3, iv i4, .val (.long i5), .second, iv (nK i0), iv (nC i1), iv (nD i2 i1), iv (nE i3 i0), iv (nS i4), iv (nW i4), .unset, .unset, .unset] []
    refine XS.iload X0.here hx rfl (hb hby at_46) rfl ?_
    show Go p e below t s₁ m 48 #[iv i0, iv i1, iv i2, iv i3, iv i4, .val (.long i5), .second, iv (nK i0), iv (nC i1), iv (nD i2 i1), iv (nE i3 i0), iv (nS i4), iv (nW i4), .unset, .unset, .unset] [(.int (nC i1))]
    refine XS.iload X0.here hx rfl (hb hby at_48) rfl ?_
    show Go p e below t s₁ m 50 #[iv i0, iv i1, iv i2, iv i3, iv i4, .val (.long i5), .second, iv (nK i0), iv (nC i1), iv (nD i2 i1), iv (nE i3 i0), iv (nS i4), iv (nW i4), .unset, .unset, .unset] [(.int (nK i0)), (.int (nC i1))]
    refine XS.imul X0.here hx rfl (hb hby at_50) rfl ?_
    show Go p e below t s₁ m 51 #[iv i0, iv i1, iv i2, iv i3, iv i4, .val (.long i5), .second, iv (nK i0), iv (nC i1), iv (nD i2 i1), iv (nE i3 i0), iv (nS i4), iv (nW i4), .unset, .unset, .unset] [(.int ((nC i1) * (nK i0)))]
    show Go p e below t s₁ m 51 #[iv i0, iv i1, iv i2, iv i3, iv i4, .val (.long i5), .second, iv (nK i0), iv (nC i1), iv (nD i2 i1), iv (nE i3 i0), iv (nS i4), iv (nW i4), .unset, .unset, .unset] [(.int (nN i0 i1))]
    exact k)
  obtain ⟨T68, h68, k68, X68, e68, E68, A68, st68⟩ := newP X0 hx hZ (hw _ (List.mem_of_getElem? (i := 1) rfl)) e0 (g := (mkF m 51 #[iv i0, iv i1, iv i2, iv i3, iv i4, .val (.long i5), .second, iv (nK i0), iv (nC i1), iv (nD i2 i1), iv (nE i3 i0), iv (nS i4), iv (nW i4), .unset, .unset, .unset] [(.int (nN i0 i1))])) rfl (hb hby at_51) rfl (own_nneg i0 i1) (cap := 16) (own_ncap i0 i1) (by decide) (by decide) (by decide)
  obtain ⟨b68, gb68⟩ : ∃ z, z = h0.size := ⟨_, rfl⟩
  have sz68 : h0.size ≤ b68 := Nat.le_trans (Nat.le_refl _) (Nat.le_of_eq gb68.symm)
  have ng68 : n0 ≤ b68 := Nat.le_trans Z0 sz68
  rw [← gb68] at A68 st68
  have V68 : Arv Z h68 b68 k68 .double (nN i0 i1) [] (.double (0 : UInt64)) := (Arv.new A68 (own_nneg i0 i1))
  have g69 : Goes p e below S0 (T68.setTop (mkF m 53 #[iv i0, iv i1, iv i2, iv i3, iv i4, .val (.long i5), .second, iv (nK i0), iv (nC i1), iv (nD i2 i1), iv (nE i3 i0), iv (nS i4), iv (nW i4), .unset, .unset, .unset] [(.ref b68)])) := fun t k => g67 t (st68 t k)
  have Vp70 : Arv Z h68 b68 k68 .double (nN i0 i1) L16 (.double (0 : UInt64)) := V68.pad (pad_rep [] (.double (0 : UInt64)) 16)
  have g71 : Goes p e below S0 (T68.setTop (mkF m 60 #[iv i0, iv i1, iv i2, iv i3, iv i4, .val (.long i5), .second, iv (nK i0), iv (nC i1), iv (nD i2 i1), iv (nE i3 i0), iv (nS i4), iv (nW i4), rv b68, .unset, .unset] [(.int (nP i0 i4))])) := fun t k => g69 t (by
    refine XS.astore X68.here hx rfl (hb hby at_53) rfl rfl (l' := #[iv i0, iv i1, iv i2, iv i3, iv i4, .val (.long i5), .second, iv (nK i0), iv (nC i1), iv (nD i2 i1), iv (nE i3 i0), iv (nS i4), iv (nW i4), rv b68, .unset, .unset]) rfl ?_
    show Go p e below t T68 m 55 #[iv i0, iv i1, iv i2, iv i3, iv i4, .val (.long i5), .second, iv (nK i0), iv (nC i1), iv (nD i2 i1), iv (nE i3 i0), iv (nS i4), iv (nW i4), rv b68, .unset, .unset] []
    refine XS.iload X68.here hx rfl (hb hby at_55) rfl ?_
    show Go p e below t T68 m 57 #[iv i0, iv i1, iv i2, iv i3, iv i4, .val (.long i5), .second, iv (nK i0), iv (nC i1), iv (nD i2 i1), iv (nE i3 i0), iv (nS i4), iv (nW i4), rv b68, .unset, .unset] [(.int (nW i4))]
    refine XS.iload X68.here hx rfl (hb hby at_57) rfl ?_
    show Go p e below t T68 m 59 #[iv i0, iv i1, iv i2, iv i3, iv i4, .val (.long i5), .second, iv (nK i0), iv (nC i1), iv (nD i2 i1), iv (nE i3 i0), iv (nS i4), iv (nW i4), rv b68, .unset, .unset] [(.int (nK i0)), (.int (nW i4))]
    refine XS.imul X68.here hx rfl (hb hby at_59) rfl ?_
    show Go p e below t T68 m 60 #[iv i0, iv i1, iv i2, iv i3, iv i4, .val (.long i5), .second, iv (nK i0), iv (nC i1), iv (nD i2 i1), iv (nE i3 i0), iv (nS i4), iv (nW i4), rv b68, .unset, .unset] [(.int ((nW i4) * (nK i0)))]
    show Go p e below t T68 m 60 #[iv i0, iv i1, iv i2, iv i3, iv i4, .val (.long i5), .second, iv (nK i0), iv (nC i1), iv (nD i2 i1), iv (nE i3 i0), iv (nS i4), iv (nW i4), rv b68, .unset, .unset] [(.int (nP i0 i4))]
    exact k)
  obtain ⟨T72, h72, k72, X72, e72, E72, A72, st72⟩ := newP X68 hx hZ (hw _ (List.mem_of_getElem? (i := 1) rfl)) e68 (g := (mkF m 60 #[iv i0, iv i1, iv i2, iv i3, iv i4, .val (.long i5), .second, iv (nK i0), iv (nC i1), iv (nD i2 i1), iv (nE i3 i0), iv (nS i4), iv (nW i4), rv b68, .unset, .unset] [(.int (nP i0 i4))])) rfl (hb hby at_60) rfl (own_pneg i0 i4) (cap := 12) (own_pcap i0 i4) (by decide) (by decide) (by decide)
  obtain ⟨b72, gb72⟩ : ∃ z, z = h68.size := ⟨_, rfl⟩
  have sz72 : h0.size ≤ b72 := Nat.le_trans (Nat.le_trans (Nat.le_refl _) E68.1) (Nat.le_of_eq gb72.symm)
  have ng72 : n0 ≤ b72 := Nat.le_trans Z0 sz72
  rw [← gb72] at A72 st72
  have V72 : Arv Z h72 b72 k72 .double (nP i0 i4) [] (.double (0 : UInt64)) := (Arv.new A72 (own_pneg i0 i4))
  have g73 : Goes p e below S0 (T72.setTop (mkF m 62 #[iv i0, iv i1, iv i2, iv i3, iv i4, .val (.long i5), .second, iv (nK i0), iv (nC i1), iv (nD i2 i1), iv (nE i3 i0), iv (nS i4), iv (nW i4), rv b68, .unset, .unset] [(.ref b72)])) := fun t k => g71 t (st72 t k)
  have g74 : Goes p e below S0 (T72.setTop (mkF m 71 #[iv i0, iv i1, iv i2, iv i3, iv i4, .val (.long i5), .second, iv (nK i0), iv (nC i1), iv (nD i2 i1), iv (nE i3 i0), iv (nS i4), iv (nW i4), rv b68, rv b72, .unset] [(.int (nS i4)), (.int (nK i0)), (.int (0 : Int32)), (.ref b68)])) := fun t k => g73 t (by
    refine XS.astore X72.here hx rfl (hb hby at_62) rfl rfl (l' := #[iv i0, iv i1, iv i2, iv i3, iv i4, .val (.long i5), .second, iv (nK i0), iv (nC i1), iv (nD i2 i1), iv (nE i3 i0), iv (nS i4), iv (nW i4), rv b68, rv b72, .unset]) rfl ?_
    show Go p e below t T72 m 64 #[iv i0, iv i1, iv i2, iv i3, iv i4, .val (.long i5), .second, iv (nK i0), iv (nC i1), iv (nD i2 i1), iv (nE i3 i0), iv (nS i4), iv (nW i4), rv b68, rv b72, .unset] []
    refine XS.aload X72.here hx rfl (hb hby at_64) rfl rfl ?_
    show Go p e below t T72 m 66 #[iv i0, iv i1, iv i2, iv i3, iv i4, .val (.long i5), .second, iv (nK i0), iv (nC i1), iv (nD i2 i1), iv (nE i3 i0), iv (nS i4), iv (nW i4), rv b68, rv b72, .unset] [(.ref b68)]
    refine XT.iconstV X72.here hx rfl (0 : Int32) (hb hby at_66) (by decide) ?_
    show Go p e below t T72 m 67 #[iv i0, iv i1, iv i2, iv i3, iv i4, .val (.long i5), .second, iv (nK i0), iv (nC i1), iv (nD i2 i1), iv (nE i3 i0), iv (nS i4), iv (nW i4), rv b68, rv b72, .unset] [(.int (0 : Int32)), (.ref b68)]
    refine XS.iload X72.here hx rfl (hb hby at_67) rfl ?_
    show Go p e below t T72 m 69 #[iv i0, iv i1, iv i2, iv i3, iv i4, .val (.long i5), .second, iv (nK i0), iv (nC i1), iv (nD i2 i1), iv (nE i3 i0), iv (nS i4), iv (nW i4), rv b68, rv b72, .unset] [(.int (nK i0)), (.int (0 : Int32)), (.ref b68)]
    refine XS.iload X72.here hx rfl (hb hby at_69) rfl ?_
    show Go p e below t T72 m 71 #[iv i0, iv i1, iv i2, iv i3, iv i4, .val (.long i5), .second, iv (nK i0), iv (nC i1), iv (nD i2 i1), iv (nE i3 i0), iv (nS i4), iv (nW i4), rv b68, rv b72, .unset] [(.int (nS i4)), (.int (nK i0)), (.int (0 : Int32)), (.ref b68)]
    exact k)
  obtain ⟨_, _, ⟨T75, L75, k75, n75⟩, -, X75, ⟨Lc75, hQ75, l75, y75, z75⟩, st75⟩ := Jvm.LawKit.callS X72 hx (y := (⟨"com/example/borrowed_prior/borrowedprior/model/TopicModelDocumentTopicPinLaw", "put", "([DIII)V"⟩ : MethodName)) hown (mvT hZ (hw _ (List.mem_of_getElem? (i := 2) rfl))) (mvT hZ (hw _ (List.mem_of_getElem? (i := 3) rfl))) (mvT hZ (hw _ (List.mem_of_getElem? (i := 4) rfl))) (mvT hZ (hw _ (List.mem_of_getElem? (i := 5) rfl))) (by decide) (backOf (W := 0) (rm_put l Z a0 hw [] b68 (0 : Int32) (nK i0) (nS i4) k68 (nN i0 i1) L16 (.double (0 : UInt64)) h72 n0 (Nat.le_trans Z0 (Nat.le_trans (Nat.le_trans (Nat.le_refl _) E68.1) E72.1)) (Vp70.ext E72) ng68 (by simp only [S1, List.length_set, L16, List.length_replicate]; decide) (by decide) (own_kz i0) (own_nneg i0 i1)) hZ (hw _ (List.mem_of_getElem? (i := 5) rfl)) (hw _ (List.mem_of_getElem? (i := 4) rfl)) (by decide) (by decide)) (g := (mkF m 71 #[iv i0, iv i1, iv i2, iv i3, iv i4, .val (.long i5), .second, iv (nK i0), iv (nC i1), iv (nD i2 i1), iv (nE i3 i0), iv (nS i4), iv (nW i4), rv b68, rv b72, .unset] [(.int (nS i4)), (.int (nK i0)), (.int (0 : Int32)), (.ref b68)])) rfl (by rw [hml]; rfl) (argsL := [(.ref b68), (.int (0 : Int32)), (.int (nK i0)), (.int (nS i4))]) (rest := []) (lenOf pd4 rfl) rfl (by show 2 * 0 + _ ≤ _; exact Nat.le_of_eq rfl) (hb hby at_71) (fun _ _ => ⟨rfl, e72, (by decide : 2 + 0 ≤ _), (by decide : 28 + 0 ≤ _)⟩)
  dsimp only [Pt.U, Pt.locs, Pt.cells, Pt.slots] at X75 l75 y75 z75 st75 hQ75
  subst l75 y75 z75
  obtain ⟨rfl, N75, R75_0, R75_1⟩ := hQ75
  have M75 := Fr.app N0 N75
  have g76 : Goes p e below S0 (T75.setTop (mkF m 74 #[iv i0, iv i1, iv i2, iv i3, iv i4, .val (.long i5), .second, iv (nK i0), iv (nC i1), iv (nD i2 i1), iv (nE i3 i0), iv (nS i4), iv (nW i4), rv b68, rv b72, .unset] [])) := fun t k => g74 t (st75 t k)
  have g77 : Goes p e below S0 (T75.setTop (mkF m 81 #[iv i0, iv i1, iv i2, iv i3, iv i4, .val (.long i5), .second, iv (nK i0), iv (nC i1), iv (nD i2 i1), iv (nE i3 i0), iv (nS i4), iv (nW i4), rv b68, rv b72, .unset] [(.int (nS i4)), (.int (nK i0)), (.int (1 : Int32)), (.ref b68)])) := fun t k => g76 t (by
    refine XS.aload X75.here hx rfl (hb hby at_74) rfl rfl ?_
    show Go p e below t T75 m 76 #[iv i0, iv i1, iv i2, iv i3, iv i4, .val (.long i5), .second, iv (nK i0), iv (nC i1), iv (nD i2 i1), iv (nE i3 i0), iv (nS i4), iv (nW i4), rv b68, rv b72, .unset] [(.ref b68)]
    refine XT.iconstV X75.here hx rfl (1 : Int32) (hb hby at_76) (by decide) ?_
    show Go p e below t T75 m 77 #[iv i0, iv i1, iv i2, iv i3, iv i4, .val (.long i5), .second, iv (nK i0), iv (nC i1), iv (nD i2 i1), iv (nE i3 i0), iv (nS i4), iv (nW i4), rv b68, rv b72, .unset] [(.int (1 : Int32)), (.ref b68)]
    refine XS.iload X75.here hx rfl (hb hby at_77) rfl ?_
    show Go p e below t T75 m 79 #[iv i0, iv i1, iv i2, iv i3, iv i4, .val (.long i5), .second, iv (nK i0), iv (nC i1), iv (nD i2 i1), iv (nE i3 i0), iv (nS i4), iv (nW i4), rv b68, rv b72, .unset] [(.int (nK i0)), (.int (1 : Int32)), (.ref b68)]
    refine XS.iload X75.here hx rfl (hb hby at_79) rfl ?_
    show Go p e below t T75 m 81 #[iv i0, iv i1, iv i2, iv i3, iv i4, .val (.long i5), .second, iv (nK i0), iv (nC i1), iv (nD i2 i1), iv (nE i3 i0), iv (nS i4), iv (nW i4), rv b68, rv b72, .unset] [(.int (nS i4)), (.int (nK i0)), (.int (1 : Int32)), (.ref b68)]
    exact k)
  obtain ⟨_, _, ⟨T78, L78, k78, n78⟩, -, X78, ⟨Lc78, hQ78, l78, y78, z78⟩, st78⟩ := Jvm.LawKit.callS X75 hx (y := (⟨"com/example/borrowed_prior/borrowedprior/model/TopicModelDocumentTopicPinLaw", "put", "([DIII)V"⟩ : MethodName)) hown (mvT hZ (hw _ (List.mem_of_getElem? (i := 2) rfl))) (mvT hZ (hw _ (List.mem_of_getElem? (i := 3) rfl))) (mvT hZ (hw _ (List.mem_of_getElem? (i := 4) rfl))) (mvT hZ (hw _ (List.mem_of_getElem? (i := 5) rfl))) (by decide) (backOf (W := 0) (rm_put l Z a0 hw [] b68 (1 : Int32) (nK i0) (nS i4) k68 (nN i0 i1) (S1 L16 (0 : Int32) (nK i0) (nS i4)) (.double (0 : UInt64)) T75.heap n0 (Nat.le_trans Z0 (Nat.le_trans (Nat.le_trans (Nat.le_trans (Nat.le_refl _) E68.1) E72.1) R75_0.1)) R75_1 ng68 (by simp only [S1, List.length_set, L16, List.length_replicate]; decide) (by decide) (own_kz i0) (own_nneg i0 i1)) hZ (hw _ (List.mem_of_getElem? (i := 5) rfl)) (hw _ (List.mem_of_getElem? (i := 4) rfl)) (by decide) (by decide)) (g := (mkF m 81 #[iv i0, iv i1, iv i2, iv i3, iv i4, .val (.long i5), .second, iv (nK i0), iv (nC i1), iv (nD i2 i1), iv (nE i3 i0), iv (nS i4), iv (nW i4), rv b68, rv b72, .unset] [(.int (nS i4)), (.int (nK i0)), (.int (1 : Int32)), (.ref b68)])) rfl (by rw [hml]; rfl) (argsL := [(.ref b68), (.int (1 : Int32)), (.int (nK i0)), (.int (nS i4))]) (rest := []) (lenOf pd4 rfl) rfl (by show 2 * 0 + _ ≤ _; exact Nat.le_of_eq rfl) (hb hby at_81) (fun _ _ => ⟨rfl, rfl, (by decide : 2 + 0 ≤ _), (by decide : 28 + 0 ≤ _)⟩)
  dsimp only [Pt.U, Pt.locs, Pt.cells, Pt.slots] at X78 l78 y78 z78 st78 hQ78
  subst l78 y78 z78
  obtain ⟨rfl, N78, R78_0, R78_1⟩ := hQ78
  have M78 := Fr.app M75 N78
  have g79 : Goes p e below S0 (T78.setTop (mkF m 84 #[iv i0, iv i1, iv i2, iv i3, iv i4, .val (.long i5), .second, iv (nK i0), iv (nC i1), iv (nD i2 i1), iv (nE i3 i0), iv (nS i4), iv (nW i4), rv b68, rv b72, .unset] [])) := fun t k => g77 t (st78 t k)
  have g80 : Goes p e below S0 (T78.setTop (mkF m 91 #[iv i0, iv i1, iv i2, iv i3, iv i4, .val (.long i5), .second, iv (nK i0), iv (nC i1), iv (nD i2 i1), iv (nE i3 i0), iv (nS i4), iv (nW i4), rv b68, rv b72, .unset] [(.int (nS i4)), (.int (nK i0)), (.int (2 : Int32)), (.ref b68)])) := fun t k => g79 t (by
    refine XS.aload X78.here hx rfl (hb hby at_84) rfl rfl ?_
    show Go p e below t T78 m 86 #[iv i0, iv i1, iv i2, iv i3, iv i4, .val (.long i5), .second, iv (nK i0), iv (nC i1), iv (nD i2 i1), iv (nE i3 i0), iv (nS i4), iv (nW i4), rv b68, rv b72, .unset] [(.ref b68)]
    refine XT.iconstV X78.here hx rfl (2 : Int32) (hb hby at_86) (by decide) ?_
    show Go p e below t T78 m 87 #[iv i0, iv i1, iv i2, iv i3, iv i4, .val (.long i5), .second, iv (nK i0), iv (nC i1), iv (nD i2 i1), iv (nE i3 i0), iv (nS i4), iv (nW i4), rv b68, rv b72, .unset] [(.int (2 : Int32)), (.ref b68)]
    refine XS.iload X78.here hx rfl (hb hby at_87) rfl ?_
    show Go p e below t T78 m 89 #[iv i0, iv i1, iv i2, iv i3, iv i4, .val (.long i5), .second, iv (nK i0), iv (nC i1), iv (nD i2 i1), iv (nE i3 i0), iv (nS i4), iv (nW i4), rv b68, rv b72, .unset] [(.int (nK i0)), (.int (2 : Int32)), (.ref b68)]
    refine XS.iload X78.here hx rfl (hb hby at_89) rfl ?_
    show Go p e below t T78 m 91 #[iv i0, iv i1, iv i2, iv i3, iv i4, .val (.long i5), .second, iv (nK i0), iv (nC i1), iv (nD i2 i1), iv (nE i3 i0), iv (nS i4), iv (nW i4), rv b68, rv b72, .unset] [(.int (nS i4)), (.int (nK i0)), (.int (2 : Int32)), (.ref b68)]
    exact k)
  obtain ⟨_, _, ⟨T81, L81, k81, n81⟩, -, X81, ⟨Lc81, hQ81, l81, y81, z81⟩, st81⟩ := Jvm.LawKit.callS X78 hx (y := (⟨"com/example/borrowed_prior/borrowedprior/model/TopicModelDocumentTopicPinLaw", "put", "([DIII)V"⟩ : MethodName)) hown (mvT hZ (hw _ (List.mem_of_getElem? (i := 2) rfl))) (mvT hZ (hw _ (List.mem_of_getElem? (i := 3) rfl))) (mvT hZ (hw _ (List.mem_of_getElem? (i := 4) rfl))) (mvT hZ (hw _ (List.mem_of_getElem? (i := 5) rfl))) (by decide) (backOf (W := 0) (rm_put l Z a0 hw [] b68 (2 : Int32) (nK i0) (nS i4) k68 (nN i0 i1) (S1 (S1 L16 (0 : Int32) (nK i0) (nS i4)) (1 : Int32) (nK i0) (nS i4)) (.double (0 : UInt64)) T78.heap n0 (Nat.le_trans Z0 (Nat.le_trans (Nat.le_trans (Nat.le_trans (Nat.le_trans (Nat.le_refl _) E68.1) E72.1) R75_0.1) R78_0.1)) R78_1 ng68 (by simp only [S1, List.length_set, L16, List.length_replicate]; decide) (by decide) (own_kz i0) (own_nneg i0 i1)) hZ (hw _ (List.mem_of_getElem? (i := 5) rfl)) (hw _ (List.mem_of_getElem? (i := 4) rfl)) (by decide) (by decide)) (g := (mkF m 91 #[iv i0, iv i1, iv i2, iv i3, iv i4, .val (.long i5), .second, iv (nK i0), iv (nC i1), iv (nD i2 i1), iv (nE i3 i0), iv (nS i4), iv (nW i4), rv b68, rv b72, .unset] [(.int (nS i4)), (.int (nK i0)), (.int (2 : Int32)), (.ref b68)])) rfl (by rw [hml]; rfl) (argsL := [(.ref b68), (.int (2 : Int32)), (.int (nK i0)), (.int (nS i4))]) (rest := []) (lenOf pd4 rfl) rfl (by show 2 * 0 + _ ≤ _; exact Nat.le_of_eq rfl) (hb hby at_91) (fun _ _ => ⟨rfl, rfl, (by decide : 2 + 0 ≤ _), (by decide : 28 + 0 ≤ _)⟩)
  dsimp only [Pt.U, Pt.locs, Pt.cells, Pt.slots] at X81 l81 y81 z81 st81 hQ81
  subst l81 y81 z81
  obtain ⟨rfl, N81, R81_0, R81_1⟩ := hQ81
  have M81 := Fr.app M78 N81
  have g82 : Goes p e below S0 (T81.setTop (mkF m 94 #[iv i0, iv i1, iv i2, iv i3, iv i4, .val (.long i5), .second, iv (nK i0), iv (nC i1), iv (nD i2 i1), iv (nE i3 i0), iv (nS i4), iv (nW i4), rv b68, rv b72, .unset] [])) := fun t k => g80 t (st81 t k)
  have g83 : Goes p e below S0 (T81.setTop (mkF m 101 #[iv i0, iv i1, iv i2, iv i3, iv i4, .val (.long i5), .second, iv (nK i0), iv (nC i1), iv (nD i2 i1), iv (nE i3 i0), iv (nS i4), iv (nW i4), rv b68, rv b72, .unset] [(.int (nS i4)), (.int (nK i0)), (.int (3 : Int32)), (.ref b68)])) := fun t k => g82 t (by
    refine XS.aload X81.here hx rfl (hb hby at_94) rfl rfl ?_
    show Go p e below t T81 m 96 #[iv i0, iv i1, iv i2, iv i3, iv i4, .val (.long i5), .second, iv (nK i0), iv (nC i1), iv (nD i2 i1), iv (nE i3 i0), iv (nS i4), iv (nW i4), rv b68, rv b72, .unset] [(.ref b68)]
    refine XT.iconstV X81.here hx rfl (3 : Int32) (hb hby at_96) (by decide) ?_
    show Go p e below t T81 m 97 #[iv i0, iv i1, iv i2, iv i3, iv i4, .val (.long i5), .second, iv (nK i0), iv (nC i1), iv (nD i2 i1), iv (nE i3 i0), iv (nS i4), iv (nW i4), rv b68, rv b72, .unset] [(.int (3 : Int32)), (.ref b68)]
    refine XS.iload X81.here hx rfl (hb hby at_97) rfl ?_
    show Go p e below t T81 m 99 #[iv i0, iv i1, iv i2, iv i3, iv i4, .val (.long i5), .second, iv (nK i0), iv (nC i1), iv (nD i2 i1), iv (nE i3 i0), iv (nS i4), iv (nW i4), rv b68, rv b72, .unset] [(.int (nK i0)), (.int (3 : Int32)), (.ref b68)]
    refine XS.iload X81.here hx rfl (hb hby at_99) rfl ?_
    show Go p e below t T81 m 101 #[iv i0, iv i1, iv i2, iv i3, iv i4, .val (.long i5), .second, iv (nK i0), iv (nC i1), iv (nD i2 i1), iv (nE i3 i0), iv (nS i4), iv (nW i4), rv b68, rv b72, .unset] [(.int (nS i4)), (.int (nK i0)), (.int (3 : Int32)), (.ref b68)]
    exact k)
  obtain ⟨_, _, ⟨T84, L84, k84, n84⟩, -, X84, ⟨Lc84, hQ84, l84, y84, z84⟩, st84⟩ := Jvm.LawKit.callS X81 hx (y := (⟨"com/example/borrowed_prior/borrowedprior/model/TopicModelDocumentTopicPinLaw", "put", "([DIII)V"⟩ : MethodName)) hown (mvT hZ (hw _ (List.mem_of_getElem? (i := 2) rfl))) (mvT hZ (hw _ (List.mem_of_getElem? (i := 3) rfl))) (mvT hZ (hw _ (List.mem_of_getElem? (i := 4) rfl))) (mvT hZ (hw _ (List.mem_of_getElem? (i := 5) rfl))) (by decide) (backOf (W := 0) (rm_put l Z a0 hw [] b68 (3 : Int32) (nK i0) (nS i4) k68 (nN i0 i1) (S1 (S1 (S1 L16 (0 : Int32) (nK i0) (nS i4)) (1 : Int32) (nK i0) (nS i4)) (2 : Int32) (nK i0) (nS i4)) (.double (0 : UInt64)) T81.heap n0 (Nat.le_trans Z0 (Nat.le_trans (Nat.le_trans (Nat.le_trans (Nat.le_trans (Nat.le_trans (Nat.le_refl _) E68.1) E72.1) R75_0.1) R78_0.1) R81_0.1)) R81_1 ng68 (by simp only [S1, List.length_set, L16, List.length_replicate]; decide) (by decide) (own_kz i0) (own_nneg i0 i1)) hZ (hw _ (List.mem_of_getElem? (i := 5) rfl)) (hw _ (List.mem_of_getElem? (i := 4) rfl)) (by decide) (by decide)) (g := (mkF m 101 #[iv i0, iv i1, iv i2, iv i3, iv i4, .val (.long i5), .second, iv (nK i0), iv (nC i1), iv (nD i2 i1), iv (nE i3 i0), iv (nS i4), iv (nW i4), rv b68, rv b72, .unset] [(.int (nS i4)), (.int (nK i0)), (.int (3 : Int32)), (.ref b68)])) rfl (by rw [hml]; rfl) (argsL := [(.ref b68), (.int (3 : Int32)), (.int (nK i0)), (.int (nS i4))]) (rest := []) (lenOf pd4 rfl) rfl (by show 2 * 0 + _ ≤ _; exact Nat.le_of_eq rfl) (hb hby at_101) (fun _ _ => ⟨rfl, rfl, (by decide : 2 + 0 ≤ _), (by decide : 28 + 0 ≤ _)⟩)
  dsimp only [Pt.U, Pt.locs, Pt.cells, Pt.slots] at X84 l84 y84 z84 st84 hQ84
  subst l84 y84 z84
  obtain ⟨rfl, N84, R84_0, R84_1⟩ := hQ84
  have M84 := Fr.app M81 N84
  have g85 : Goes p e below S0 (T84.setTop (mkF m 104 #[iv i0, iv i1, iv i2, iv i3, iv i4, .val (.long i5), .second, iv (nK i0), iv (nC i1), iv (nD i2 i1), iv (nE i3 i0), iv (nS i4), iv (nW i4), rv b68, rv b72, .unset] [])) := fun t k => g83 t (st84 t k)
  have g86 : Goes p e below S0 (T84.setTop (mkF m 111 #[iv i0, iv i1, iv i2, iv i3, iv i4, .val (.long i5), .second, iv (nK i0), iv (nC i1), iv (nD i2 i1), iv (nE i3 i0), iv (nS i4), iv (nW i4), rv b68, rv b72, .unset] [(.int (nS i4)), (.int (nK i0)), (.int (4 : Int32)), (.ref b68)])) := fun t k => g85 t (by
    refine XS.aload X84.here hx rfl (hb hby at_104) rfl rfl ?_
    show Go p e below t T84 m 106 #[iv i0, iv i1, iv i2, iv i3, iv i4, .val (.long i5), .second, iv (nK i0), iv (nC i1), iv (nD i2 i1), iv (nE i3 i0), iv (nS i4), iv (nW i4), rv b68, rv b72, .unset] [(.ref b68)]
    refine XT.iconstV X84.here hx rfl (4 : Int32) (hb hby at_106) (by decide) ?_
    show Go p e below t T84 m 107 #[iv i0, iv i1, iv i2, iv i3, iv i4, .val (.long i5), .second, iv (nK i0), iv (nC i1), iv (nD i2 i1), iv (nE i3 i0), iv (nS i4), iv (nW i4), rv b68, rv b72, .unset] [(.int (4 : Int32)), (.ref b68)]
    refine XS.iload X84.here hx rfl (hb hby at_107) rfl ?_
    show Go p e below t T84 m 109 #[iv i0, iv i1, iv i2, iv i3, iv i4, .val (.long i5), .second, iv (nK i0), iv (nC i1), iv (nD i2 i1), iv (nE i3 i0), iv (nS i4), iv (nW i4), rv b68, rv b72, .unset] [(.int (nK i0)), (.int (4 : Int32)), (.ref b68)]
    refine XS.iload X84.here hx rfl (hb hby at_109) rfl ?_
    show Go p e below t T84 m 111 #[iv i0, iv i1, iv i2, iv i3, iv i4, .val (.long i5), .second, iv (nK i0), iv (nC i1), iv (nD i2 i1), iv (nE i3 i0), iv (nS i4), iv (nW i4), rv b68, rv b72, .unset] [(.int (nS i4)), (.int (nK i0)), (.int (4 : Int32)), (.ref b68)]
    exact k)
  obtain ⟨_, _, ⟨T87, L87, k87, n87⟩, -, X87, ⟨Lc87, hQ87, l87, y87, z87⟩, st87⟩ := Jvm.LawKit.callS X84 hx (y := (⟨"com/example/borrowed_prior/borrowedprior/model/TopicModelDocumentTopicPinLaw", "put", "([DIII)V"⟩ : MethodName)) hown (mvT hZ (hw _ (List.mem_of_getElem? (i := 2) rfl))) (mvT hZ (hw _ (List.mem_of_getElem? (i := 3) rfl))) (mvT hZ (hw _ (List.mem_of_getElem? (i := 4) rfl))) (mvT hZ (hw _ (List.mem_of_getElem? (i := 5) rfl))) (by decide) (backOf (W := 0) (rm_put l Z a0 hw [] b68 (4 : Int32) (nK i0) (nS i4) k68 (nN i0 i1) (S1 (S1 (S1 (S1 L16 (0 : Int32) (nK i0) (nS i4)) (1 : Int32) (nK i0) (nS i4)) (2 : Int32) (nK i0) (nS i4)) (3 : Int32) (nK i0) (nS i4)) (.double (0 : UInt64)) T84.heap n0 (Nat.le_trans Z0 (Nat.le_trans (Nat.le_trans (Nat.le_trans (Nat.le_trans (Nat.le_trans (Nat.le_trans (Nat.le_refl _) E68.1) E72.1) R75_0.1) R78_0.1) R81_0.1) R84_0.1)) R84_1 ng68 (by simp only [S1, List.length_set, L16, List.length_replicate]; decide) (by decide) (own_kz i0) (own_nneg i0 i1)) hZ (hw _ (List.mem_of_getElem? (i := 5) rfl)) (hw _ (List.mem_of_getElem? (i := 4) rfl)) (by decide) (by decide)) (g := (mkF m 111 #[iv i0, iv i1, iv i2, iv i3, iv i4, .val (.long i5), .second, iv (nK i0), iv (nC i1), iv (nD i2 i1), iv (nE i3 i0), iv (nS i4), iv (nW i4), rv b68, rv b72, .unset] [(.int (nS i4)), (.int (nK i0)), (.int (4 : Int32)), (.ref b68)])) rfl (by rw [hml]; rfl) (argsL := [(.ref b68), (.int (4 : Int32)), (.int (nK i0)), (.int (nS i4))]) (rest := []) (lenOf pd4 rfl) rfl (by show 2 * 0 + _ ≤ _; exact Nat.le_of_eq rfl) (hb hby at_111) (fun _ _ => ⟨rfl, rfl, (by decide : 2 + 0 ≤ _), (by decide : 28 + 0 ≤ _)⟩)
  dsimp only [Pt.U, Pt.locs, Pt.cells, Pt.slots] at X87 l87 y87 z87 st87 hQ87
  subst l87 y87 z87
  obtain ⟨rfl, N87, R87_0, R87_1⟩ := hQ87
  have M87 := Fr.app M84 N87
  have g88 : Goes p e below S0 (T87.setTop (mkF m 114 #[iv i0, iv i1, iv i2, iv i3, iv i4, .val (.long i5), .second, iv (nK i0), iv (nC i1), iv (nD i2 i1), iv (nE i3 i0), iv (nS i4), iv (nW i4), rv b68, rv b72, .unset] [])) := fun t k => g86 t (st87 t k)
  have g89 : Goes p e below S0 (T87.setTop (mkF m 121 #[iv i0, iv i1, iv i2, iv i3, iv i4, .val (.long i5), .second, iv (nK i0), iv (nC i1), iv (nD i2 i1), iv (nE i3 i0), iv (nS i4), iv (nW i4), rv b68, rv b72, .unset] [(.int (nS i4)), (.int (nK i0)), (.int (5 : Int32)), (.ref b68)])) := fun t k => g88 t (by
    refine XS.aload X87.here hx rfl (hb hby at_114) rfl rfl ?_
    show Go p e below t T87 m 116 #[iv i0, iv i1, iv i2, iv i3, iv i4, .val (.long i5), .second, iv (nK i0), iv (nC i1), iv (nD i2 i1), iv (nE i3 i0), iv (nS i4), iv (nW i4), rv b68, rv b72, .unset] [(.ref b68)]
    refine XT.iconstV X87.here hx rfl (5 : Int32) (hb hby at_116) (by decide) ?_
    show Go p e below t T87 m 117 #[iv i0, iv i1, iv i2, iv i3, iv i4, .val (.long i5), .second, iv (nK i0), iv (nC i1), iv (nD i2 i1), iv (nE i3 i0), iv (nS i4), iv (nW i4), rv b68, rv b72, .unset] [(.int (5 : Int32)), (.ref b68)]
    refine XS.iload X87.here hx rfl (hb hby at_117) rfl ?_
    show Go p e below t T87 m 119 #[iv i0, iv i1, iv i2, iv i3, iv i4, .val (.long i5), .second, iv (nK i0), iv (nC i1), iv (nD i2 i1), iv (nE i3 i0), iv (nS i4), iv (nW i4), rv b68, rv b72, .unset] [(.int (nK i0)), (.int (5 : Int32)), (.ref b68)]
    refine XS.iload X87.here hx rfl (hb hby at_119) rfl ?_
    show Go p e below t T87 m 121 #[iv i0, iv i1, iv i2, iv i3, iv i4, .val (.long i5), .second, iv (nK i0), iv (nC i1), iv (nD i2 i1), iv (nE i3 i0), iv (nS i4), iv (nW i4), rv b68, rv b72, .unset] [(.int (nS i4)), (.int (nK i0)), (.int (5 : Int32)), (.ref b68)]
    exact k)
  obtain ⟨_, _, ⟨T90, L90, k90, n90⟩, -, X90, ⟨Lc90, hQ90, l90, y90, z90⟩, st90⟩ := Jvm.LawKit.callS X87 hx (y := (⟨"com/example/borrowed_prior/borrowedprior/model/TopicModelDocumentTopicPinLaw", "put", "([DIII)V"⟩ : MethodName)) hown (mvT hZ (hw _ (List.mem_of_getElem? (i := 2) rfl))) (mvT hZ (hw _ (List.mem_of_getElem? (i := 3) rfl))) (mvT hZ (hw _ (List.mem_of_getElem? (i := 4) rfl))) (mvT hZ (hw _ (List.mem_of_getElem? (i := 5) rfl))) (by decide) (backOf (W := 0) (rm_put l Z a0 hw [] b68 (5 : Int32) (nK i0) (nS i4) k68 (nN i0 i1) (S1 (S1 (S1 (S1 (S1 L16 (0 : Int32) (nK i0) (nS i4)) (1 : Int32) (nK i0) (nS i4)) (2 : Int32) (nK i0) (nS i4)) (3 : Int32) (nK i0) (nS i4)) (4 : Int32) (nK i0) (nS i4)) (.double (0 : UInt64)) T87.heap n0 (Nat.le_trans Z0 (Nat.le_trans (Nat.le_trans (Nat.le_trans (Nat.le_trans (Nat.le_trans (Nat.le_trans (Nat.le_trans (Nat.le_refl _) E68.1) E72.1) R75_0.1) R78_0.1) R81_0.1) R84_0.1) R87_0.1)) R87_1 ng68 (by simp only [S1, List.length_set, L16, List.length_replicate]; decide) (by decide) (own_kz i0) (own_nneg i0 i1)) hZ (hw _ (List.mem_of_getElem? (i := 5) rfl)) (hw _ (List.mem_of_getElem? (i := 4) rfl)) (by decide) (by decide)) (g := (mkF m 121 #[iv i0, iv i1, iv i2, iv i3, iv i4, .val (.long i5), .second, iv (nK i0), iv (nC i1), iv (nD i2 i1), iv (nE i3 i0), iv (nS i4), iv (nW i4), rv b68, rv b72, .unset] [(.int (nS i4)), (.int (nK i0)), (.int (5 : Int32)), (.ref b68)])) rfl (by rw [hml]; rfl) (argsL := [(.ref b68), (.int (5 : Int32)), (.int (nK i0)), (.int (nS i4))]) (rest := []) (lenOf pd4 rfl) rfl (by show 2 * 0 + _ ≤ _; exact Nat.le_of_eq rfl) (hb hby at_121) (fun _ _ => ⟨rfl, rfl, (by decide : 2 + 0 ≤ _), (by decide : 28 + 0 ≤ _)⟩)
  dsimp only [Pt.U, Pt.locs, Pt.cells, Pt.slots] at X90 l90 y90 z90 st90 hQ90
  subst l90 y90 z90
  obtain ⟨rfl, N90, R90_0, R90_1⟩ := hQ90
  have M90 := Fr.app M87 N90
  have g91 : Goes p e below S0 (T90.setTop (mkF m 124 #[iv i0, iv i1, iv i2, iv i3, iv i4, .val (.long i5), .second, iv (nK i0), iv (nC i1), iv (nD i2 i1), iv (nE i3 i0), iv (nS i4), iv (nW i4), rv b68, rv b72, .unset] [])) := fun t k => g89 t (st90 t k)
  have g92 : Goes p e below S0 (T90.setTop (mkF m 132 #[iv i0, iv i1, iv i2, iv i3, iv i4, .val (.long i5), .second, iv (nK i0), iv (nC i1), iv (nD i2 i1), iv (nE i3 i0), iv (nS i4), iv (nW i4), rv b68, rv b72, .unset] [(.int (nS i4)), (.int (nK i0)), (.int (6 : Int32)), (.ref b68)])) := fun t k => g91 t (by
    refine XS.aload X90.here hx rfl (hb hby at_124) rfl rfl ?_
    show Go p e below t T90 m 126 #[iv i0, iv i1, iv i2, iv i3, iv i4, .val (.long i5), .second, iv (nK i0), iv (nC i1), iv (nD i2 i1), iv (nE i3 i0), iv (nS i4), iv (nW i4), rv b68, rv b72, .unset] [(.ref b68)]
    refine XT.bipushV X90.here hx rfl (6 : Int32) (hb hby at_126) (by decide) ?_
    show Go p e below t T90 m 128 #[iv i0, iv i1, iv i2, iv i3, iv i4, .val (.long i5), .second, iv (nK i0), iv (nC i1), iv (nD i2 i1), iv (nE i3 i0), iv (nS i4), iv (nW i4), rv b68, rv b72, .unset] [(.int (6 : Int32)), (.ref b68)]
    refine XS.iload X90.here hx rfl (hb hby at_128) rfl ?_
    show Go p e below t T90 m 130 #[iv i0, iv i1, iv i2, iv i3, iv i4, .val (.long i5), .second, iv (nK i0), iv (nC i1), iv (nD i2 i1), iv (nE i3 i0), iv (nS i4), iv (nW i4), rv b68, rv b72, .unset] [(.int (nK i0)), (.int (6 : Int32)), (.ref b68)]
    refine XS.iload X90.here hx rfl (hb hby at_130) rfl ?_
    show Go p e below t T90 m 132 #[iv i0, iv i1, iv i2, iv i3, iv i4, .val (.long i5), .second, iv (nK i0), iv (nC i1), iv (nD i2 i1), iv (nE i3 i0), iv (nS i4), iv (nW i4), rv b68, rv b72, .unset] [(.int (nS i4)), (.int (nK i0)), (.int (6 : Int32)), (.ref b68)]
    exact k)
  obtain ⟨_, _, ⟨T93, L93, k93, n93⟩, -, X93, ⟨Lc93, hQ93, l93, y93, z93⟩, st93⟩ := Jvm.LawKit.callS X90 hx (y := (⟨"com/example/borrowed_prior/borrowedprior/model/TopicModelDocumentTopicPinLaw", "put", "([DIII)V"⟩ : MethodName)) hown (mvT hZ (hw _ (List.mem_of_getElem? (i := 2) rfl))) (mvT hZ (hw _ (List.mem_of_getElem? (i := 3) rfl))) (mvT hZ (hw _ (List.mem_of_getElem? (i := 4) rfl))) (mvT hZ (hw _ (List.mem_of_getElem? (i := 5) rfl))) (by decide) (backOf (W := 0) (rm_put l Z a0 hw [] b68 (6 : Int32) (nK i0) (nS i4) k68 (nN i0 i1) (S1 (S1 (S1 (S1 (S1 (S1 L16 (0 : Int32) (nK i0) (nS i4)) (1 : Int32) (nK i0) (nS i4)) (2 : Int32) (nK i0) (nS i4)) (3 : Int32) (nK i0) (nS i4)) (4 : Int32) (nK i0) (nS i4)) (5 : Int32) (nK i0) (nS i4)) (.double (0 : UInt64)) T90.heap n0 (Nat.le_trans Z0 (Nat.le_trans (Nat.le_trans (Nat.le_trans (Nat.le_trans (Nat.le_trans (Nat.le_trans (Nat.le_trans (Nat.le_trans (Nat.le_refl _) E68.1) E72.1) R75_0.1) R78_0.1) R81_0.1) R84_0.1) R87_0.1) R90_0.1)) R90_1 ng68 (by simp only [S1, List.length_set, L16, List.length_replicate]; decide) (by decide) (own_kz i0) (own_nneg i0 i1)) hZ (hw _ (List.mem_of_getElem? (i := 5) rfl)) (hw _ (List.mem_of_getElem? (i := 4) rfl)) (by decide) (by decide)) (g := (mkF m 132 #[iv i0, iv i1, iv i2, iv i3, iv i4, .val (.long i5), .second, iv (nK i0), iv (nC i1), iv (nD i2 i1), iv (nE i3 i0), iv (nS i4), iv (nW i4), rv b68, rv b72, .unset] [(.int (nS i4)), (.int (nK i0)), (.int (6 : Int32)), (.ref b68)])) rfl (by rw [hml]; rfl) (argsL := [(.ref b68), (.int (6 : Int32)), (.int (nK i0)), (.int (nS i4))]) (rest := []) (lenOf pd4 rfl) rfl (by show 2 * 0 + _ ≤ _; exact Nat.le_of_eq rfl) (hb hby at_132) (fun _ _ => ⟨rfl, rfl, (by decide : 2 + 0 ≤ _), (by decide : 28 + 0 ≤ _)⟩)
  dsimp only [Pt.U, Pt.locs, Pt.cells, Pt.slots] at X93 l93 y93 z93 st93 hQ93
  subst l93 y93 z93
  obtain ⟨rfl, N93, R93_0, R93_1⟩ := hQ93
  have M93 := Fr.app M90 N93
  have g94 : Goes p e below S0 (T93.setTop (mkF m 135 #[iv i0, iv i1, iv i2, iv i3, iv i4, .val (.long i5), .second, iv (nK i0), iv (nC i1), iv (nD i2 i1), iv (nE i3 i0), iv (nS i4), iv (nW i4), rv b68, rv b72, .unset] [])) := fun t k => g92 t (st93 t k)
  have g95 : Goes p e below S0 (T93.setTop (mkF m 143 #[iv i0, iv i1, iv i2, iv i3, iv i4, .val (.long i5), .second, iv (nK i0), iv (nC i1), iv (nD i2 i1), iv (nE i3 i0), iv (nS i4), iv (nW i4), rv b68, rv b72, .unset] [(.int (nS i4)), (.int (nK i0)), (.int (7 : Int32)), (.ref b68)])) := fun t k => g94 t (by
    refine XS.aload X93.here hx rfl (hb hby at_135) rfl rfl ?_
    show Go p e below t T93 m 137 #[iv i0, iv i1, iv i2, iv i3, iv i4, .val (.long i5), .second, iv (nK i0), iv (nC i1), iv (nD i2 i1), iv (nE i3 i0), iv (nS i4), iv (nW i4), rv b68, rv b72, .unset] [(.ref b68)]
    refine XT.bipushV X93.here hx rfl (7 : Int32) (hb hby at_137) (by decide) ?_
    show Go p e below t T93 m 139 #[iv i0, iv i1, iv i2, iv i3, iv i4, .val (.long i5), .second, iv (nK i0), iv (nC i1), iv (nD i2 i1), iv (nE i3 i0), iv (nS i4), iv (nW i4), rv b68, rv b72, .unset] [(.int (7 : Int32)), (.ref b68)]
    refine XS.iload X93.here hx rfl (hb hby at_139) rfl ?_
    show Go p e below t T93 m 141 #[iv i0, iv i1, iv i2, iv i3, iv i4, .val (.long i5), .second, iv (nK i0), iv (nC i1), iv (nD i2 i1), iv (nE i3 i0), iv (nS i4), iv (nW i4), rv b68, rv b72, .unset] [(.int (nK i0)), (.int (7 : Int32)), (.ref b68)]
    refine XS.iload X93.here hx rfl (hb hby at_141) rfl ?_
    show Go p e below t T93 m 143 #[iv i0, iv i1, iv i2, iv i3, iv i4, .val (.long i5), .second, iv (nK i0), iv (nC i1), iv (nD i2 i1), iv (nE i3 i0), iv (nS i4), iv (nW i4), rv b68, rv b72, .unset] [(.int (nS i4)), (.int (nK i0)), (.int (7 : Int32)), (.ref b68)]
    exact k)
  obtain ⟨_, _, ⟨T96, L96, k96, n96⟩, -, X96, ⟨Lc96, hQ96, l96, y96, z96⟩, st96⟩ := Jvm.LawKit.callS X93 hx (y := (⟨"com/example/borrowed_prior/borrowedprior/model/TopicModelDocumentTopicPinLaw", "put", "([DIII)V"⟩ : MethodName)) hown (mvT hZ (hw _ (List.mem_of_getElem? (i := 2) rfl))) (mvT hZ (hw _ (List.mem_of_getElem? (i := 3) rfl))) (mvT hZ (hw _ (List.mem_of_getElem? (i := 4) rfl))) (mvT hZ (hw _ (List.mem_of_getElem? (i := 5) rfl))) (by decide) (backOf (W := 0) (rm_put l Z a0 hw [] b68 (7 : Int32) (nK i0) (nS i4) k68 (nN i0 i1) (S1 (S1 (S1 (S1 (S1 (S1 (S1 L16 (0 : Int32) (nK i0) (nS i4)) (1 : Int32) (nK i0) (nS i4)) (2 : Int32) (nK i0) (nS i4)) (3 : Int32) (nK i0) (nS i4)) (4 : Int32) (nK i0) (nS i4)) (5 : Int32) (nK i0) (nS i4)) (6 : Int32) (nK i0) (nS i4)) (.double (0 : UInt64)) T93.heap n0 (Nat.le_trans Z0 (Nat.le_trans (Nat.le_trans (Nat.le_trans (Nat.le_trans (Nat.le_trans (Nat.le_trans (Nat.le_trans (Nat.le_trans (Nat.le_trans (Nat.le_refl _) E68.1) E72.1) R75_0.1) R78_0.1) R81_0.1) R84_0.1) R87_0.1) R90_0.1) R93_0.1)) R93_1 ng68 (by simp only [S1, List.length_set, L16, List.length_replicate]; decide) (by decide) (own_kz i0) (own_nneg i0 i1)) hZ (hw _ (List.mem_of_getElem? (i := 5) rfl)) (hw _ (List.mem_of_getElem? (i := 4) rfl)) (by decide) (by decide)) (g := (mkF m 143 #[iv i0, iv i1, iv i2, iv i3, iv i4, .val (.long i5), .second, iv (nK i0), iv (nC i1), iv (nD i2 i1), iv (nE i3 i0), iv (nS i4), iv (nW i4), rv b68, rv b72, .unset] [(.int (nS i4)), (.int (nK i0)), (.int (7 : Int32)), (.ref b68)])) rfl (by rw [hml]; rfl) (argsL := [(.ref b68), (.int (7 : Int32)), (.int (nK i0)), (.int (nS i4))]) (rest := []) (lenOf pd4 rfl) rfl (by show 2 * 0 + _ ≤ _; exact Nat.le_of_eq rfl) (hb hby at_143) (fun _ _ => ⟨rfl, rfl, (by decide : 2 + 0 ≤ _), (by decide : 28 + 0 ≤ _)⟩)
  dsimp only [Pt.U, Pt.locs, Pt.cells, Pt.slots] at X96 l96 y96 z96 st96 hQ96
  subst l96 y96 z96
  obtain ⟨rfl, N96, R96_0, R96_1⟩ := hQ96
  have M96 := Fr.app M93 N96
  have g97 : Goes p e below S0 (T96.setTop (mkF m 146 #[iv i0, iv i1, iv i2, iv i3, iv i4, .val (.long i5), .second, iv (nK i0), iv (nC i1), iv (nD i2 i1), iv (nE i3 i0), iv (nS i4), iv (nW i4), rv b68, rv b72, .unset] [])) := fun t k => g95 t (st96 t k)
  have g98 : Goes p e below S0 (T96.setTop (mkF m 154 #[iv i0, iv i1, iv i2, iv i3, iv i4, .val (.long i5), .second, iv (nK i0), iv (nC i1), iv (nD i2 i1), iv (nE i3 i0), iv (nS i4), iv (nW i4), rv b68, rv b72, .unset] [(.int (nS i4)), (.int (nK i0)), (.int (8 : Int32)), (.ref b68)])) := fun t k => g97 t (by
    refine XS.aload X96.here hx rfl (hb hby at_146) rfl rfl ?_
    show Go p e below t T96 m 148 #[iv i0, iv i1, iv i2, iv i3, iv i4, .val (.long i5), .second, iv (nK i0), iv (nC i1), iv (nD i2 i1), iv (nE i3 i0), iv (nS i4), iv (nW i4), rv b68, rv b72, .unset] [(.ref b68)]
    refine XT.bipushV X96.here hx rfl (8 : Int32) (hb hby at_148) (by decide) ?_
    show Go p e below t T96 m 150 #[iv i0, iv i1, iv i2, iv i3, iv i4, .val (.long i5), .second, iv (nK i0), iv (nC i1), iv (nD i2 i1), iv (nE i3 i0), iv (nS i4), iv (nW i4), rv b68, rv b72, .unset] [(.int (8 : Int32)), (.ref b68)]
    refine XS.iload X96.here hx rfl (hb hby at_150) rfl ?_
    show Go p e below t T96 m 152 #[iv i0, iv i1, iv i2, iv i3, iv i4, .val (.long i5), .second, iv (nK i0), iv (nC i1), iv (nD i2 i1), iv (nE i3 i0), iv (nS i4), iv (nW i4), rv b68, rv b72, .unset] [(.int (nK i0)), (.int (8 : Int32)), (.ref b68)]
    refine XS.iload X96.here hx rfl (hb hby at_152) rfl ?_
    show Go p e below t T96 m 154 #[iv i0, iv i1, iv i2, iv i3, iv i4, .val (.long i5), .second, iv (nK i0), iv (nC i1), iv (nD i2 i1), iv (nE i3 i0), iv (nS i4), iv (nW i4), rv b68, rv b72, .unset] [(.int (nS i4)), (.int (nK i0)), (.int (8 : Int32)), (.ref b68)]
    exact k)
  obtain ⟨_, _, ⟨T99, L99, k99, n99⟩, -, X99, ⟨Lc99, hQ99, l99, y99, z99⟩, st99⟩ := Jvm.LawKit.callS X96 hx (y := (⟨"com/example/borrowed_prior/borrowedprior/model/TopicModelDocumentTopicPinLaw", "put", "([DIII)V"⟩ : MethodName)) hown (mvT hZ (hw _ (List.mem_of_getElem? (i := 2) rfl))) (mvT hZ (hw _ (List.mem_of_getElem? (i := 3) rfl))) (mvT hZ (hw _ (List.mem_of_getElem? (i := 4) rfl))) (mvT hZ (hw _ (List.mem_of_getElem? (i := 5) rfl))) (by decide) (backOf (W := 0) (rm_put l Z a0 hw [] b68 (8 : Int32) (nK i0) (nS i4) k68 (nN i0 i1) (S1 (S1 (S1 (S1 (S1 (S1 (S1 (S1 L16 (0 : Int32) (nK i0) (nS i4)) (1 : Int32) (nK i0) (nS i4)) (2 : Int32) (nK i0) (nS i4)) (3 : Int32) (nK i0) (nS i4)) (4 : Int32) (nK i0) (nS i4)) (5 : Int32) (nK i0) (nS i4)) (6 : Int32) (nK i0) (nS i4)) (7 : Int32) (nK i0) (nS i4)) (.double (0 : UInt64)) T96.heap n0 (Nat.le_trans Z0 (Nat.le_trans (Nat.le_trans (Nat.le_trans (Nat.le_trans (Nat.le_trans (Nat.le_trans (Nat.le_trans (Nat.le_trans (Nat.le_trans (Nat.le_trans (Nat.le_refl _) E68.1) E72.1) R75_0.1) R78_0.1) R81_0.1) R84_0.1) R87_0.1) R90_0.1) R93_0.1) R96_0.1)) R96_1 ng68 (by simp only [S1, List.length_set, L16, List.length_replicate]; decide) (by decide) (own_kz i0) (own_nneg i0 i1)) hZ (hw _ (List.mem_of_getElem? (i := 5) rfl)) (hw _ (List.mem_of_getElem? (i := 4) rfl)) (by decide) (by decide)) (g := (mkF m 154 #[iv i0, iv i1, iv i2, iv i3, iv i4, .val (.long i5), .second, iv (nK i0), iv (nC i1), iv (nD i2 i1), iv (nE i3 i0), iv (nS i4), iv (nW i4), rv b68, rv b72, .unset] [(.int (nS i4)), (.int (nK i0)), (.int (8 : Int32)), (.ref b68)])) rfl (by rw [hml]; rfl) (argsL := [(.ref b68), (.int (8 : Int32)), (.int (nK i0)), (.int (nS i4))]) (rest := []) (lenOf pd4 rfl) rfl (by show 2 * 0 + _ ≤ _; exact Nat.le_of_eq rfl) (hb hby at_154) (fun _ _ => ⟨rfl, rfl, (by decide : 2 + 0 ≤ _), (by decide : 28 + 0 ≤ _)⟩)
  dsimp only [Pt.U, Pt.locs, Pt.cells, Pt.slots] at X99 l99 y99 z99 st99 hQ99
  subst l99 y99 z99
  obtain ⟨rfl, N99, R99_0, R99_1⟩ := hQ99
  have M99 := Fr.app M96 N99
  have g100 : Goes p e below S0 (T99.setTop (mkF m 157 #[iv i0, iv i1, iv i2, iv i3, iv i4, .val (.long i5), .second, iv (nK i0), iv (nC i1), iv (nD i2 i1), iv (nE i3 i0), iv (nS i4), iv (nW i4), rv b68, rv b72, .unset] [])) := fun t k => g98 t (st99 t k)
  have g101 : Goes p e below S0 (T99.setTop (mkF m 165 #[iv i0, iv i1, iv i2, iv i3, iv i4, .val (.long i5), .second, iv (nK i0), iv (nC i1), iv (nD i2 i1), iv (nE i3 i0), iv (nS i4), iv (nW i4), rv b68, rv b72, .unset] [(.int (nS i4)), (.int (nK i0)), (.int (9 : Int32)), (.ref b68)])) := fun t k => g100 t (by
    refine XS.aload X99.here hx rfl (hb hby at_157) rfl rfl ?_
    show Go p e below t T99 m 159 #[iv i0, iv i1, iv i2, iv i3, iv i4, .val (.long i5), .second, iv (nK i0), iv (nC i1), iv (nD i2 i1), iv (nE i3 i0), iv (nS i4), iv (nW i4), rv b68, rv b72, .unset] [(.ref b68)]
    refine XT.bipushV X99.here hx rfl (9 : Int32) (hb hby at_159) (by decide) ?_
    show Go p e below t T99 m 161 #[iv i0, iv i1, iv i2, iv i3, iv i4, .val (.long i5), .second, iv (nK i0), iv (nC i1), iv (nD i2 i1), iv (nE i3 i0), iv (nS i4), iv (nW i4), rv b68, rv b72, .unset] [(.int (9 : Int32)), (.ref b68)]
    refine XS.iload X99.here hx rfl (hb hby at_161) rfl ?_
    show Go p e below t T99 m 163 #[iv i0, iv i1, iv i2, iv i3, iv i4, .val (.long i5), .second, iv (nK i0), iv (nC i1), iv (nD i2 i1), iv (nE i3 i0), iv (nS i4), iv (nW i4), rv b68, rv b72, .unset] [(.int (nK i0)), (.int (9 : Int32)), (.ref b68)]
    refine XS.iload X99.here hx rfl (hb hby at_163) rfl ?_
    show Go p e below t T99 m 165 #[iv i0, iv i1, iv i2, iv i3, iv i4, .val (.long i5), .second, iv (nK i0), iv (nC i1), iv (nD i2 i1), iv (nE i3 i0), iv (nS i4), iv (nW i4), rv b68, rv b72, .unset] [(.int (nS i4)), (.int (nK i0)), (.int (9 : Int32)), (.ref b68)]
    exact k)
  obtain ⟨_, _, ⟨T102, L102, k102, n102⟩, -, X102, ⟨Lc102, hQ102, l102, y102, z102⟩, st102⟩ := Jvm.LawKit.callS X99 hx (y := (⟨"com/example/borrowed_prior/borrowedprior/model/TopicModelDocumentTopicPinLaw", "put", "([DIII)V"⟩ : MethodName)) hown (mvT hZ (hw _ (List.mem_of_getElem? (i := 2) rfl))) (mvT hZ (hw _ (List.mem_of_getElem? (i := 3) rfl))) (mvT hZ (hw _ (List.mem_of_getElem? (i := 4) rfl))) (mvT hZ (hw _ (List.mem_of_getElem? (i := 5) rfl))) (by decide) (backOf (W := 0) (rm_put l Z a0 hw [] b68 (9 : Int32) (nK i0) (nS i4) k68 (nN i0 i1) (S1 (S1 (S1 (S1 (S1 (S1 (S1 (S1 (S1 L16 (0 : Int32) (nK i0) (nS i4)) (1 : Int32) (nK i0) (nS i4)) (2 : Int32) (nK i0) (nS i4)) (3 : Int32) (nK i0) (nS i4)) (4 : Int32) (nK i0) (nS i4)) (5 : Int32) (nK i0) (nS i4)) (6 : Int32) (nK i0) (nS i4)) (7 : Int32) (nK i0) (nS i4)) (8 : Int32) (nK i0) (nS i4)) (.double (0 : UInt64)) T99.heap n0 (Nat.le_trans Z0 (Nat.le_trans (Nat.le_trans (Nat.le_trans (Nat.le_trans (Nat.le_trans (Nat.le_trans (Nat.le_trans (Nat.le_trans (Nat.le_trans (Nat.le_trans (Nat.le_trans (Nat.le_refl _) E68.1) E72.1) R75_0.1) R78_0.1) R81_0.1) R84_0.1) R87_0.1) R90_0.1) R93_0.1) R96_0.1) R99_0.1)) R99_1 ng68 (by simp only [S1, List.length_set, L16, List.length_replicate]; decide) (by decide) (own_kz i0) (own_nneg i0 i1)) hZ (hw _ (List.mem_of_getElem? (i := 5) rfl)) (hw _ (List.mem_of_getElem? (i := 4) rfl)) (by decide) (by decide)) (g := (mkF m 165 #[iv i0, iv i1, iv i2, iv i3, iv i4, .val (.long i5), .second, iv (nK i0), iv (nC i1), iv (nD i2 i1), iv (nE i3 i0), iv (nS i4), iv (nW i4), rv b68, rv b72, .unset] [(.int (nS i4)), (.int (nK i0)), (.int (9 : Int32)), (.ref b68)])) rfl (by rw [hml]; rfl) (argsL := [(.ref b68), (.int (9 : Int32)), (.int (nK i0)), (.int (nS i4))]) (rest := []) (lenOf pd4 rfl) rfl (by show 2 * 0 + _ ≤ _; exact Nat.le_of_eq rfl) (hb hby at_165) (fun _ _ => ⟨rfl, rfl, (by decide : 2 + 0 ≤ _), (by decide : 28 + 0 ≤ _)⟩)
  dsimp only [Pt.U, Pt.locs, Pt.cells, Pt.slots] at X102 l102 y102 z102 st102 hQ102
  subst l102 y102 z102
  obtain ⟨rfl, N102, R102_0, R102_1⟩ := hQ102
  have M102 := Fr.app M99 N102
  have g103 : Goes p e below S0 (T102.setTop (mkF m 168 #[iv i0, iv i1, iv i2, iv i3, iv i4, .val (.long i5), .second, iv (nK i0), iv (nC i1), iv (nD i2 i1), iv (nE i3 i0), iv (nS i4), iv (nW i4), rv b68, rv b72, .unset] [])) := fun t k => g101 t (st102 t k)
  have g104 : Goes p e below S0 (T102.setTop (mkF m 176 #[iv i0, iv i1, iv i2, iv i3, iv i4, .val (.long i5), .second, iv (nK i0), iv (nC i1), iv (nD i2 i1), iv (nE i3 i0), iv (nS i4), iv (nW i4), rv b68, rv b72, .unset] [(.int (nS i4)), (.int (nK i0)), (.int (10 : Int32)), (.ref b68)])) := fun t k => g103 t (by
    refine XS.aload X102.here hx rfl (hb hby at_168) rfl rfl ?_
    show Go p e below t T102 m 170 #[iv i0, iv i1, iv i2, iv i3, iv i4, .val (.long i5), .second, iv (nK i0), iv (nC i1), iv (nD i2 i1), iv (nE i3 i0), iv (nS i4), iv (nW i4), rv b68, rv b72, .unset] [(.ref b68)]
    refine XT.bipushV X102.here hx rfl (10 : Int32) (hb hby at_170) (by decide) ?_
    show Go p e below t T102 m 172 #[iv i0, iv i1, iv i2, iv i3, iv i4, .val (.long i5), .second, iv (nK i0), iv (nC i1), iv (nD i2 i1), iv (nE i3 i0), iv (nS i4), iv (nW i4), rv b68, rv b72, .unset] [(.int (10 : Int32)), (.ref b68)]
    refine XS.iload X102.here hx rfl (hb hby at_172) rfl ?_
    show Go p e below t T102 m 174 #[iv i0, iv i1, iv i2, iv i3, iv i4, .val (.long i5), .second, iv (nK i0), iv (nC i1), iv (nD i2 i1), iv (nE i3 i0), iv (nS i4), iv (nW i4), rv b68, rv b72, .unset] [(.int (nK i0)), (.int (10 : Int32)), (.ref b68)]
    refine XS.iload X102.here hx rfl (hb hby at_174) rfl ?_
    show Go p e below t T102 m 176 #[iv i0, iv i1, iv i2, iv i3, iv i4, .val (.long i5), .second, iv (nK i0), iv (nC i1), iv (nD i2 i1), iv (nE i3 i0), iv (nS i4), iv (nW i4), rv b68, rv b72, .unset] [(.int (nS i4)), (.int (nK i0)), (.int (10 : Int32)), (.ref b68)]
    exact k)
  obtain ⟨_, _, ⟨T105, L105, k105, n105⟩, -, X105, ⟨Lc105, hQ105, l105, y105, z105⟩, st105⟩ := Jvm.LawKit.callS X102 hx (y := (⟨"com/example/borrowed_prior/borrowedprior/model/TopicModelDocumentTopicPinLaw", "put", "([DIII)V"⟩ : MethodName)) hown (mvT hZ (hw _ (List.mem_of_getElem? (i := 2) rfl))) (mvT hZ (hw _ (List.mem_of_getElem? (i := 3) rfl))) (mvT hZ (hw _ (List.mem_of_getElem? (i := 4) rfl))) (mvT hZ (hw _ (List.mem_of_getElem? (i := 5) rfl))) (by decide) (backOf (W := 0) (rm_put l Z a0 hw [] b68 (10 : Int32) (nK i0) (nS i4) k68 (nN i0 i1) (S1 (S1 (S1 (S1 (S1 (S1 (S1 (S1 (S1 (S1 L16 (0 : Int32) (nK i0) (nS i4)) (1 : Int32) (nK i0) (nS i4)) (2 : Int32) (nK i0) (nS i4)) (3 : Int32) (nK i0) (nS i4)) (4 : Int32) (nK i0) (nS i4)) (5 : Int32) (nK i0) (nS i4)) (6 : Int32) (nK i0) (nS i4)) (7 : Int32) (nK i0) (nS i4)) (8 : Int32) (nK i0) (nS i4)) (9 : Int32) (nK i0) (nS i4)) (.double (0 : UInt64)) T102.heap n0 (Nat.le_trans Z0 (Nat.le_trans (Nat.le_trans (Nat.le_trans (Nat.le_trans (Nat.le_trans (Nat.le_trans (Nat.le_trans (Nat.le_trans (Nat.le_trans (Nat.le_trans (Nat.le_trans (Nat.le_trans (Nat.le_refl _) E68.1) E72.1) R75_0.1) R78_0.1) R81_0.1) R84_0.1) R87_0.1) R90_0.1) R93_0.1) R96_0.1) R99_0.1) R102_0.1)) R102_1 ng68 (by simp only [S1, List.length_set, L16, List.length_replicate]; decide) (by decide) (own_kz i0) (own_nneg i0 i1)) hZ (hw _ (List.mem_of_getElem? (i := 5) rfl)) (hw _ (List.mem_of_getElem? (i := 4) rfl)) (by decide) (by decide)) (g := (mkF m 176 #[iv i0, iv i1, iv i2, iv i3, iv i4, .val (.long i5), .second, iv (nK i0), iv (nC i1), iv (nD i2 i1), iv (nE i3 i0), iv (nS i4), iv (nW i4), rv b68, rv b72, .unset] [(.int (nS i4)), (.int (nK i0)), (.int (10 : Int32)), (.ref b68)])) rfl (by rw [hml]; rfl) (argsL := [(.ref b68), (.int (10 : Int32)), (.int (nK i0)), (.int (nS i4))]) (rest := []) (lenOf pd4 rfl) rfl (by show 2 * 0 + _ ≤ _; exact Nat.le_of_eq rfl) (hb hby at_176) (fun _ _ => ⟨rfl, rfl, (by decide : 2 + 0 ≤ _), (by decide : 28 + 0 ≤ _)⟩)
  dsimp only [Pt.U, Pt.locs, Pt.cells, Pt.slots] at X105 l105 y105 z105 st105 hQ105
  subst l105 y105 z105
  obtain ⟨rfl, N105, R105_0, R105_1⟩ := hQ105
  have M105 := Fr.app M102 N105
  have g106 : Goes p e below S0 (T105.setTop (mkF m 179 #[iv i0, iv i1, iv i2, iv i3, iv i4, .val (.long i5), .second, iv (nK i0), iv (nC i1), iv (nD i2 i1), iv (nE i3 i0), iv (nS i4), iv (nW i4), rv b68, rv b72, .unset] [])) := fun t k => g104 t (st105 t k)
  have g107 : Goes p e below S0 (T105.setTop (mkF m 187 #[iv i0, iv i1, iv i2, iv i3, iv i4, .val (.long i5), .second, iv (nK i0), iv (nC i1), iv (nD i2 i1), iv (nE i3 i0), iv (nS i4), iv (nW i4), rv b68, rv b72, .unset] [(.int (nS i4)), (.int (nK i0)), (.int (11 : Int32)), (.ref b68)])) := fun t k => g106 t (by
    refine XS.aload X105.here hx rfl (hb hby at_179) rfl rfl ?_
    show Go p e below t T105 m 181 #[iv i0, iv i1, iv i2, iv i3, iv i4, .val (.long i5), .second, iv (nK i0), iv (nC i1), iv (nD i2 i1), iv (nE i3 i0), iv (nS i4), iv (nW i4), rv b68, rv b72, .unset] [(.ref b68)]
    refine XT.bipushV X105.here hx rfl (11 : Int32) (hb hby at_181) (by decide) ?_
    show Go p e below t T105 m 183 #[iv i0, iv i1, iv i2, iv i3, iv i4, .val (.long i5), .second, iv (nK i0), iv (nC i1), iv (nD i2 i1), iv (nE i3 i0), iv (nS i4), iv (nW i4), rv b68, rv b72, .unset] [(.int (11 : Int32)), (.ref b68)]
    refine XS.iload X105.here hx rfl (hb hby at_183) rfl ?_
    show Go p e below t T105 m 185 #[iv i0, iv i1, iv i2, iv i3, iv i4, .val (.long i5), .second, iv (nK i0), iv (nC i1), iv (nD i2 i1), iv (nE i3 i0), iv (nS i4), iv (nW i4), rv b68, rv b72, .unset] [(.int (nK i0)), (.int (11 : Int32)), (.ref b68)]
    refine XS.iload X105.here hx rfl (hb hby at_185) rfl ?_
    show Go p e below t T105 m 187 #[iv i0, iv i1, iv i2, iv i3, iv i4, .val (.long i5), .second, iv (nK i0), iv (nC i1), iv (nD i2 i1), iv (nE i3 i0), iv (nS i4), iv (nW i4), rv b68, rv b72, .unset] [(.int (nS i4)), (.int (nK i0)), (.int (11 : Int32)), (.ref b68)]
    exact k)
  obtain ⟨_, _, ⟨T108, L108, k108, n108⟩, -, X108, ⟨Lc108, hQ108, l108, y108, z108⟩, st108⟩ := Jvm.LawKit.callS X105 hx (y := (⟨"com/example/borrowed_prior/borrowedprior/model/TopicModelDocumentTopicPinLaw", "put", "([DIII)V"⟩ : MethodName)) hown (mvT hZ (hw _ (List.mem_of_getElem? (i := 2) rfl))) (mvT hZ (hw _ (List.mem_of_getElem? (i := 3) rfl))) (mvT hZ (hw _ (List.mem_of_getElem? (i := 4) rfl))) (mvT hZ (hw _ (List.mem_of_getElem? (i := 5) rfl))) (by decide) (backOf (W := 0) (rm_put l Z a0 hw [] b68 (11 : Int32) (nK i0) (nS i4) k68 (nN i0 i1) (S1 (S1 (S1 (S1 (S1 (S1 (S1 (S1 (S1 (S1 (S1 L16 (0 : Int32) (nK i0) (nS i4)) (1 : Int32) (nK i0) (nS i4)) (2 : Int32) (nK i0) (nS i4)) (3 : Int32) (nK i0) (nS i4)) (4 : Int32) (nK i0) (nS i4)) (5 : Int32) (nK i0) (nS i4)) (6 : Int32) (nK i0) (nS i4)) (7 : Int32) (nK i0) (nS i4)) (8 : Int32) (nK i0) (nS i4)) (9 : Int32) (nK i0) (nS i4)) (10 : Int32) (nK i0) (nS i4)) (.double (0 : UInt64)) T105.heap n0 (Nat.le_trans Z0 (Nat.le_trans (Nat.le_trans (Nat.le_trans (Nat.le_trans (Nat.le_trans (Nat.le_trans (Nat.le_trans (Nat.le_trans (Nat.le_trans (Nat.le_trans (Nat.le_trans (Nat.le_trans (Nat.le_trans (Nat.le_refl _) E68.1) E72.1) R75_0.1) R78_0.1) R81_0.1) R84_0.1) R87_0.1) R90_0.1) R93_0.1) R96_0.1) R99_0.1) R102_0.1) R105_0.1)) R105_1 ng68 (by simp only [S1, List.length_set, L16, List.length_replicate]; decide) (by decide) (own_kz i0) (own_nneg i0 i1)) hZ (hw _ (List.mem_of_getElem? (i := 5) rfl)) (hw _ (List.mem_of_getElem? (i := 4) rfl)) (by decide) (by decide)) (g := (mkF m 187 #[iv i0, iv i1, iv i2, iv i3, iv i4, .val (.long i5), .second, iv (nK i0), iv (nC i1), iv (nD i2 i1), iv (nE i3 i0), iv (nS i4), iv (nW i4), rv b68, rv b72, .unset] [(.int (nS i4)), (.int (nK i0)), (.int (11 : Int32)), (.ref b68)])) rfl (by rw [hml]; rfl) (argsL := [(.ref b68), (.int (11 : Int32)), (.int (nK i0)), (.int (nS i4))]) (rest := []) (lenOf pd4 rfl) rfl (by show 2 * 0 + _ ≤ _; exact Nat.le_of_eq rfl) (hb hby at_187) (fun _ _ => ⟨rfl, rfl, (by decide : 2 + 0 ≤ _), (by decide : 28 + 0 ≤ _)⟩)
  dsimp only [Pt.U, Pt.locs, Pt.cells, Pt.slots] at X108 l108 y108 z108 st108 hQ108
  subst l108 y108 z108
  obtain ⟨rfl, N108, R108_0, R108_1⟩ := hQ108
  have M108 := Fr.app M105 N108
  have g109 : Goes p e below S0 (T108.setTop (mkF m 190 #[iv i0, iv i1, iv i2, iv i3, iv i4, .val (.long i5), .second, iv (nK i0), iv (nC i1), iv (nD i2 i1), iv (nE i3 i0), iv (nS i4), iv (nW i4), rv b68, rv b72, .unset] [])) := fun t k => g107 t (st108 t k)
  have g110 : Goes p e below S0 (T108.setTop (mkF m 198 #[iv i0, iv i1, iv i2, iv i3, iv i4, .val (.long i5), .second, iv (nK i0), iv (nC i1), iv (nD i2 i1), iv (nE i3 i0), iv (nS i4), iv (nW i4), rv b68, rv b72, .unset] [(.int (nS i4)), (.int (nK i0)), (.int (12 : Int32)), (.ref b68)])) := fun t k => g109 t (by
    refine XS.aload X108.here hx rfl (hb hby at_190) rfl rfl ?_
    show Go p e below t T108 m 192 #[iv i0, iv i1, iv i2, iv i3, iv i4, .val (.long i5), .second, iv (nK i0), iv (nC i1), iv (nD i2 i1), iv (nE i3 i0), iv (nS i4), iv (nW i4), rv b68, rv b72, .unset] [(.ref b68)]
    refine XT.bipushV X108.here hx rfl (12 : Int32) (hb hby at_192) (by decide) ?_
    show Go p e below t T108 m 194 #[iv i0, iv i1, iv i2, iv i3, iv i4, .val (.long i5), .second, iv (nK i0), iv (nC i1), iv (nD i2 i1), iv (nE i3 i0), iv (nS i4), iv (nW i4), rv b68, rv b72, .unset] [(.int (12 : Int32)), (.ref b68)]
    refine XS.iload X108.here hx rfl (hb hby at_194) rfl ?_
    show Go p e below t T108 m 196 #[iv i0, iv i1, iv i2, iv i3, iv i4, .val (.long i5), .second, iv (nK i0), iv (nC i1), iv (nD i2 i1), iv (nE i3 i0), iv (nS i4), iv (nW i4), rv b68, rv b72, .unset] [(.int (nK i0)), (.int (12 : Int32)), (.ref b68)]
    refine XS.iload X108.here hx rfl (hb hby at_196) rfl ?_
    show Go p e below t T108 m 198 #[iv i0, iv i1, iv i2, iv i3, iv i4, .val (.long i5), .second, iv (nK i0), iv (nC i1), iv (nD i2 i1), iv (nE i3 i0), iv (nS i4), iv (nW i4), rv b68, rv b72, .unset] [(.int (nS i4)), (.int (nK i0)), (.int (12 : Int32)), (.ref b68)]
    exact k)
  obtain ⟨_, _, ⟨T111, L111, k111, n111⟩, -, X111, ⟨Lc111, hQ111, l111, y111, z111⟩, st111⟩ := Jvm.LawKit.callS X108 hx (y := (⟨"com/example/borrowed_prior/borrowedprior/model/TopicModelDocumentTopicPinLaw", "put", "([DIII)V"⟩ : MethodName)) hown (mvT hZ (hw _ (List.mem_of_getElem? (i := 2) rfl))) (mvT hZ (hw _ (List.mem_of_getElem? (i := 3) rfl))) (mvT hZ (hw _ (List.mem_of_getElem? (i := 4) rfl))) (mvT hZ (hw _ (List.mem_of_getElem? (i := 5) rfl))) (by decide) (backOf (W := 0) (rm_put l Z a0 hw [] b68 (12 : Int32) (nK i0) (nS i4) k68 (nN i0 i1) (S1 (S1 (S1 (S1 (S1 (S1 (S1 (S1 (S1 (S1 (S1 (S1 L16 (0 : Int32) (nK i0) (nS i4)) (1 : Int32) (nK i0) (nS i4)) (2 : Int32) (nK i0) (nS i4)) (3 : Int32) (nK i0) (nS i4)) (4 : Int32) (nK i0) (nS i4)) (5 : Int32) (nK i0) (nS i4)) (6 : Int32) (nK i0) (nS i4)) (7 : Int32) (nK i0) (nS i4)) (8 : Int32) (nK i0) (nS i4)) (9 : Int32) (nK i0) (nS i4)) (10 : Int32) (nK i0) (nS i4)) (11 : Int32) (nK i0) (nS i4)) (.double (0 : UInt64)) T108.heap n0 (Nat.le_trans Z0 (Nat.le_trans (Nat.le_trans (Nat.le_trans (Nat.le_trans (Nat.le_trans (Nat.le_trans (Nat.le_trans (Nat.le_trans (Nat.le_trans (Nat.le_trans (Nat.le_trans (Nat.le_trans (Nat.le_trans (Nat.le_trans (Nat.le_refl _) E68.1) E72.1) R75_0.1) R78_0.1) R81_0.1) R84_0.1) R87_0.1) R90_0.1) R93_0.1) R96_0.1) R99_0.1) R102_0.1) R105_0.1) R108_0.1)) R108_1 ng68 (by simp only [S1, List.length_set, L16, List.length_replicate]; decide) (by decide) (own_kz i0) (own_nneg i0 i1)) hZ (hw _ (List.mem_of_getElem? (i := 5) rfl)) (hw _ (List.mem_of_getElem? (i := 4) rfl)) (by decide) (by decide)) (g := (mkF m 198 #[iv i0, iv i1, iv i2, iv i3, iv i4, .val (.long i5), .second, iv (nK i0), iv (nC i1), iv (nD i2 i1), iv (nE i3 i0), iv (nS i4), iv (nW i4), rv b68, rv b72, .unset] [(.int (nS i4)), (.int (nK i0)), (.int (12 : Int32)), (.ref b68)])) rfl (by rw [hml]; rfl) (argsL := [(.ref b68), (.int (12 : Int32)), (.int (nK i0)), (.int (nS i4))]) (rest := []) (lenOf pd4 rfl) rfl (by show 2 * 0 + _ ≤ _; exact Nat.le_of_eq rfl) (hb hby at_198) (fun _ _ => ⟨rfl, rfl, (by decide : 2 + 0 ≤ _), (by decide : 28 + 0 ≤ _)⟩)
  dsimp only [Pt.U, Pt.locs, Pt.cells, Pt.slots] at X111 l111 y111 z111 st111 hQ111
  subst l111 y111 z111
  obtain ⟨rfl, N111, R111_0, R111_1⟩ := hQ111
  have M111 := Fr.app M108 N111
  have g112 : Goes p e below S0 (T111.setTop (mkF m 201 #[iv i0, iv i1, iv i2, iv i3, iv i4, .val (.long i5), .second, iv (nK i0), iv (nC i1), iv (nD i2 i1), iv (nE i3 i0), iv (nS i4), iv (nW i4), rv b68, rv b72, .unset] [])) := fun t k => g110 t (st111 t k)
  have g113 : Goes p e below S0 (T111.setTop (mkF m 209 #[iv i0, iv i1, iv i2, iv i3, iv i4, .val (.long i5), .second, iv (nK i0), iv (nC i1), iv (nD i2 i1), iv (nE i3 i0), iv (nS i4), iv (nW i4), rv b68, rv b72, .unset] [(.int (nS i4)), (.int (nK i0)), (.int (13 : Int32)), (.ref b68)])) := fun t k => g112 t (by
    refine XS.aload X111.here hx rfl (hb hby at_201) rfl rfl ?_
    show Go p e below t T111 m 203 #[iv i0, iv i1, iv i2, iv i3, iv i4, .val (.long i5), .second, iv (nK i0), iv (nC i1), iv (nD i2 i1), iv (nE i3 i0), iv (nS i4), iv (nW i4), rv b68, rv b72, .unset] [(.ref b68)]
    refine XT.bipushV X111.here hx rfl (13 : Int32) (hb hby at_203) (by decide) ?_
    show Go p e below t T111 m 205 #[iv i0, iv i1, iv i2, iv i3, iv i4, .val (.long i5), .second, iv (nK i0), iv (nC i1), iv (nD i2 i1), iv (nE i3 i0), iv (nS i4), iv (nW i4), rv b68, rv b72, .unset] [(.int (13 : Int32)), (.ref b68)]
    refine XS.iload X111.here hx rfl (hb hby at_205) rfl ?_
    show Go p e below t T111 m 207 #[iv i0, iv i1, iv i2, iv i3, iv i4, .val (.long i5), .second, iv (nK i0), iv (nC i1), iv (nD i2 i1), iv (nE i3 i0), iv (nS i4), iv (nW i4), rv b68, rv b72, .unset] [(.int (nK i0)), (.int (13 : Int32)), (.ref b68)]
    refine XS.iload X111.here hx rfl (hb hby at_207) rfl ?_
    show Go p e below t T111 m 209 #[iv i0, iv i1, iv i2, iv i3, iv i4, .val (.long i5), .second, iv (nK i0), iv (nC i1), iv (nD i2 i1), iv (nE i3 i0), iv (nS i4), iv (nW i4), rv b68, rv b72, .unset] [(.int (nS i4)), (.int (nK i0)), (.int (13 : Int32)), (.ref b68)]
    exact k)
  obtain ⟨_, _, ⟨T114, L114, k114, n114⟩, -, X114, ⟨Lc114, hQ114, l114, y114, z114⟩, st114⟩ := Jvm.LawKit.callS X111 hx (y := (⟨"com/example/borrowed_prior/borrowedprior/model/TopicModelDocumentTopicPinLaw", "put", "([DIII)V"⟩ : MethodName)) hown (mvT hZ (hw _ (List.mem_of_getElem? (i := 2) rfl))) (mvT hZ (hw _ (List.mem_of_getElem? (i := 3) rfl))) (mvT hZ (hw _ (List.mem_of_getElem? (i := 4) rfl))) (mvT hZ (hw _ (List.mem_of_getElem? (i := 5) rfl))) (by decide) (backOf (W := 0) (rm_put l Z a0 hw [] b68 (13 : Int32) (nK i0) (nS i4) k68 (nN i0 i1) (S1 (S1 (S1 (S1 (S1 (S1 (S1 (S1 (S1 (S1 (S1 (S1 (S1 L16 (0 : Int32) (nK i0) (nS i4)) (1 : Int32) (nK i0) (nS i4)) (2 : Int32) (nK i0) (nS i4)) (3 : Int32) (nK i0) (nS i4)) (4 : Int32) (nK i0) (nS i4)) (5 : Int32) (nK i0) (nS i4)) (6 : Int32) (nK i0) (nS i4)) (7 : Int32) (nK i0) (nS i4)) (8 : Int32) (nK i0) (nS i4)) (9 : Int32) (nK i0) (nS i4)) (10 : Int32) (nK i0) (nS i4)) (11 : Int32) (nK i0) (nS i4)) (12 : Int32) (nK i0) (nS i4)) (.double (0 : UInt64)) T111.heap n0 (Nat.le_trans Z0 (Nat.le_trans (Nat.le_trans (Nat.le_trans (Nat.le_trans (Nat.le_trans (Nat.le_trans (Nat.le_trans (Nat.le_trans (Nat.le_trans (Nat.le_trans (Nat.le_trans (Nat.le_trans (Nat.le_trans (Nat.le_trans (Nat.le_trans (Nat.le_refl _) E68.1) E72.1) R75_0.1) R78_0.1) R81_0.1) R84_0.1) R87_0.1) R90_0.1) R93_0.1) R96_0.1) R99_0.1) R102_0.1) R105_0.1) R108_0.1) R111_0.1)) R111_1 ng68 (by simp only [S1, List.length_set, L16, List.length_replicate]; decide) (by decide) (own_kz i0) (own_nneg i0 i1)) hZ (hw _ (List.mem_of_getElem? (i := 5) rfl)) (hw _ (List.mem_of_getElem? (i := 4) rfl)) (by decide) (by decide)) (g := (mkF m 209 #[iv i0, iv i1, iv i2, iv i3, iv i4, .val (.long i5), .second, iv (nK i0), iv (nC i1), iv (nD i2 i1), iv (nE i3 i0), iv (nS i4), iv (nW i4), rv b68, rv b72, .unset] [(.int (nS i4)), (.int (nK i0)), (.int (13 : Int32)), (.ref b68)])) rfl (by rw [hml]; rfl) (argsL := [(.ref b68), (.int (13 : Int32)), (.int (nK i0)), (.int (nS i4))]) (rest := []) (lenOf pd4 rfl) rfl (by show 2 * 0 + _ ≤ _; exact Nat.le_of_eq rfl) (hb hby at_209) (fun _ _ => ⟨rfl, rfl, (by decide : 2 + 0 ≤ _), (by decide : 28 + 0 ≤ _)⟩)
  dsimp only [Pt.U, Pt.locs, Pt.cells, Pt.slots] at X114 l114 y114 z114 st114 hQ114
  subst l114 y114 z114
  obtain ⟨rfl, N114, R114_0, R114_1⟩ := hQ114
  have M114 := Fr.app M111 N114
  have g115 : Goes p e below S0 (T114.setTop (mkF m 212 #[iv i0, iv i1, iv i2, iv i3, iv i4, .val (.long i5), .second, iv (nK i0), iv (nC i1), iv (nD i2 i1), iv (nE i3 i0), iv (nS i4), iv (nW i4), rv b68, rv b72, .unset] [])) := fun t k => g113 t (st114 t k)
  have g116 : Goes p e below S0 (T114.setTop (mkF m 220 #[iv i0, iv i1, iv i2, iv i3, iv i4, .val (.long i5), .second, iv (nK i0), iv (nC i1), iv (nD i2 i1), iv (nE i3 i0), iv (nS i4), iv (nW i4), rv b68, rv b72, .unset] [(.int (nS i4)), (.int (nK i0)), (.int (14 : Int32)), (.ref b68)])) := fun t k => g115 t (by
    refine XS.aload X114.here hx rfl (hb hby at_212) rfl rfl ?_
    show Go p e below t T114 m 214 #[iv i0, iv i1, iv i2, iv i3, iv i4, .val (.long i5), .second, iv (nK i0), iv (nC i1), iv (nD i2 i1), iv (nE i3 i0), iv (nS i4), iv (nW i4), rv b68, rv b72, .unset] [(.ref b68)]
    refine XT.bipushV X114.here hx rfl (14 : Int32) (hb hby at_214) (by decide) ?_
    show Go p e below t T114 m 216 #[iv i0, iv i1, iv i2, iv i3, iv i4, .val (.long i5), .second, iv (nK i0), iv (nC i1), iv (nD i2 i1), iv (nE i3 i0), iv (nS i4), iv (nW i4), rv b68, rv b72, .unset] [(.int (14 : Int32)), (.ref b68)]
    refine XS.iload X114.here hx rfl (hb hby at_216) rfl ?_
    show Go p e below t T114 m 218 #[iv i0, iv i1, iv i2, iv i3, iv i4, .val (.long i5), .second, iv (nK i0), iv (nC i1), iv (nD i2 i1), iv (nE i3 i0), iv (nS i4), iv (nW i4), rv b68, rv b72, .unset] [(.int (nK i0)), (.int (14 : Int32)), (.ref b68)]
    refine XS.iload X114.here hx rfl (hb hby at_218) rfl ?_
    show Go p e below t T114 m 220 #[iv i0, iv i1, iv i2, iv i3, iv i4, .val (.long i5), .second, iv (nK i0), iv (nC i1), iv (nD i2 i1), iv (nE i3 i0), iv (nS i4), iv (nW i4), rv b68, rv b72, .unset] [(.int (nS i4)), (.int (nK i0)), (.int (14 : Int32)), (.ref b68)]
    exact k)
  obtain ⟨_, _, ⟨T117, L117, k117, n117⟩, -, X117, ⟨Lc117, hQ117, l117, y117, z117⟩, st117⟩ := Jvm.LawKit.callS X114 hx (y := (⟨"com/example/borrowed_prior/borrowedprior/model/TopicModelDocumentTopicPinLaw", "put", "([DIII)V"⟩ : MethodName)) hown (mvT hZ (hw _ (List.mem_of_getElem? (i := 2) rfl))) (mvT hZ (hw _ (List.mem_of_getElem? (i := 3) rfl))) (mvT hZ (hw _ (List.mem_of_getElem? (i := 4) rfl))) (mvT hZ (hw _ (List.mem_of_getElem? (i := 5) rfl))) (by decide) (backOf (W := 0) (rm_put l Z a0 hw [] b68 (14 : Int32) (nK i0) (nS i4) k68 (nN i0 i1) (S1 (S1 (S1 (S1 (S1 (S1 (S1 (S1 (S1 (S1 (S1 (S1 (S1 (S1 L16 (0 : Int32) (nK i0) (nS i4)) (1 : Int32) (nK i0) (nS i4)) (2 : Int32) (nK i0) (nS i4)) (3 : Int32) (nK i0) (nS i4)) (4 : Int32) (nK i0) (nS i4)) (5 : Int32) (nK i0) (nS i4)) (6 : Int32) (nK i0) (nS i4)) (7 : Int32) (nK i0) (nS i4)) (8 : Int32) (nK i0) (nS i4)) (9 : Int32) (nK i0) (nS i4)) (10 : Int32) (nK i0) (nS i4)) (11 : Int32) (nK i0) (nS i4)) (12 : Int32) (nK i0) (nS i4)) (13 : Int32) (nK i0) (nS i4)) (.double (0 : UInt64)) T114.heap n0 (Nat.le_trans Z0 (Nat.le_trans (Nat.le_trans (Nat.le_trans (Nat.le_trans (Nat.le_trans (Nat.le_trans (Nat.le_trans (Nat.le_trans (Nat.le_trans (Nat.le_trans (Nat.le_trans (Nat.le_trans (Nat.le_trans (Nat.le_trans (Nat.le_trans (Nat.le_trans (Nat.le_refl _) E68.1) E72.1) R75_0.1) R78_0.1) R81_0.1) R84_0.1) R87_0.1) R90_0.1) R93_0.1) R96_0.1) R99_0.1) R102_0.1) R105_0.1) R108_0.1) R111_0.1) R114_0.1)) R114_1 ng68 (by simp only [S1, List.length_set, L16, List.length_replicate]; decide) (by decide) (own_kz i0) (own_nneg i0 i1)) hZ (hw _ (List.mem_of_getElem? (i := 5) rfl)) (hw _ (List.mem_of_getElem? (i := 4) rfl)) (by decide) (by decide)) (g := (mkF m 220 #[iv i0, iv i1, iv i2, iv i3, iv i4, .val (.long i5), .second, iv (nK i0), iv (nC i1), iv (nD i2 i1), iv (nE i3 i0), iv (nS i4), iv (nW i4), rv b68, rv b72, .unset] [(.int (nS i4)), (.int (nK i0)), (.int (14 : Int32)), (.ref b68)])) rfl (by rw [hml]; rfl) (argsL := [(.ref b68), (.int (14 : Int32)), (.int (nK i0)), (.int (nS i4))]) (rest := []) (lenOf pd4 rfl) rfl (by show 2 * 0 + _ ≤ _; exact Nat.le_of_eq rfl) (hb hby at_220) (fun _ _ => ⟨rfl, rfl, (by decide : 2 + 0 ≤ _), (by decide : 28 + 0 ≤ _)⟩)
  dsimp only [Pt.U, Pt.locs, Pt.cells, Pt.slots] at X117 l117 y117 z117 st117 hQ117
  subst l117 y117 z117
  obtain ⟨rfl, N117, R117_0, R117_1⟩ := hQ117
  have M117 := Fr.app M114 N117
  have g118 : Goes p e below S0 (T117.setTop (mkF m 223 #[iv i0, iv i1, iv i2, iv i3, iv i4, .val (.long i5), .second, iv (nK i0), iv (nC i1), iv (nD i2 i1), iv (nE i3 i0), iv (nS i4), iv (nW i4), rv b68, rv b72, .unset] [])) := fun t k => g116 t (st117 t k)
  have g119 : Goes p e below S0 (T117.setTop (mkF m 231 #[iv i0, iv i1, iv i2, iv i3, iv i4, .val (.long i5), .second, iv (nK i0), iv (nC i1), iv (nD i2 i1), iv (nE i3 i0), iv (nS i4), iv (nW i4), rv b68, rv b72, .unset] [(.int (nS i4)), (.int (nK i0)), (.int (15 : Int32)), (.ref b68)])) := fun t k => g118 t (by
    refine XS.aload X117.here hx rfl (hb hby at_223) rfl rfl ?_
    show Go p e below t T117 m 225 #[iv i0, iv i1, iv i2, iv i3, iv i4, .val (.long i5), .second, iv (nK i0), iv (nC i1), iv (nD i2 i1), iv (nE i3 i0), iv (nS i4), iv (nW i4), rv b68, rv b72, .unset] [(.ref b68)]
    refine XT.bipushV X117.here hx rfl (15 : Int32) (hb hby at_225) (by decide) ?_
    show Go p e below t T117 m 227 #[iv i0, iv i1, iv i2, iv i3, iv i4, .val (.long i5), .second, iv (nK i0), iv (nC i1), iv (nD i2 i1), iv (nE i3 i0), iv (nS i4), iv (nW i4), rv b68, rv b72, .unset] [(.int (15 : Int32)), (.ref b68)]
    refine XS.iload X117.here hx rfl (hb hby at_227) rfl ?_
    show Go p e below t T117 m 229 #[iv i0, iv i1, iv i2, iv i3, iv i4, .val (.long i5), .second, iv (nK i0), iv (nC i1), iv (nD i2 i1), iv (nE i3 i0), iv (nS i4), iv (nW i4), rv b68, rv b72, .unset] [(.int (nK i0)), (.int (15 : Int32)), (.ref b68)]
    refine XS.iload X117.here hx rfl (hb hby at_229) rfl ?_
    show Go p e below t T117 m 231 #[iv i0, iv i1, iv i2, iv i3, iv i4, .val (.long i5), .second, iv (nK i0), iv (nC i1), iv (nD i2 i1), iv (nE i3 i0), iv (nS i4), iv (nW i4), rv b68, rv b72, .unset] [(.int (nS i4)), (.int (nK i0)), (.int (15 : Int32)), (.ref b68)]
    exact k)
  obtain ⟨_, _, ⟨T120, L120, k120, n120⟩, -, X120, ⟨Lc120, hQ120, l120, y120, z120⟩, st120⟩ := Jvm.LawKit.callS X117 hx (y := (⟨"com/example/borrowed_prior/borrowedprior/model/TopicModelDocumentTopicPinLaw", "put", "([DIII)V"⟩ : MethodName)) hown (mvT hZ (hw _ (List.mem_of_getElem? (i := 2) rfl))) (mvT hZ (hw _ (List.mem_of_getElem? (i := 3) rfl))) (mvT hZ (hw _ (List.mem_of_getElem? (i := 4) rfl))) (mvT hZ (hw _ (List.mem_of_getElem? (i := 5) rfl))) (by decide) (backOf (W := 0) (rm_put l Z a0 hw [] b68 (15 : Int32) (nK i0) (nS i4) k68 (nN i0 i1) (S1 (S1 (S1 (S1 (S1 (S1 (S1 (S1 (S1 (S1 (S1 (S1 (S1 (S1 (S1 L16 (0 : Int32) (nK i0) (nS i4)) (1 : Int32) (nK i0) (nS i4)) (2 : Int32) (nK i0) (nS i4)) (3 : Int32) (nK i0) (nS i4)) (4 : Int32) (nK i0) (nS i4)) (5 : Int32) (nK i0) (nS i4)) (6 : Int32) (nK i0) (nS i4)) (7 : Int32) (nK i0) (nS i4)) (8 : Int32) (nK i0) (nS i4)) (9 : Int32) (nK i0) (nS i4)) (10 : Int32) (nK i0) (nS i4)) (11 : Int32) (nK i0) (nS i4)) (12 : Int32) (nK i0) (nS i4)) (13 : Int32) (nK i0) (nS i4)) (14 : Int32) (nK i0) (nS i4)) (.double (0 : UInt64)) T117.heap n0 (Nat.le_trans Z0 (Nat.le_trans (Nat.le_trans (Nat.le_trans (Nat.le_trans (Nat.le_trans (Nat.le_trans (Nat.le_trans (Nat.le_trans (Nat.le_trans (Nat.le_trans (Nat.le_trans (Nat.le_trans (Nat.le_trans (Nat.le_trans (Nat.le_trans (Nat.le_trans (Nat.le_trans (Nat.le_refl _) E68.1) E72.1) R75_0.1) R78_0.1) R81_0.1) R84_0.1) R87_0.1) R90_0.1) R93_0.1) R96_0.1) R99_0.1) R102_0.1) R105_0.1) R108_0.1) R111_0.1) R114_0.1) R117_0.1)) R117_1 ng68 (by simp only [S1, List.length_set, L16, List.length_replicate]; decide) (by decide) (own_kz i0) (own_nneg i0 i1)) hZ (hw _ (List.mem_of_getElem? (i := 5) rfl)) (hw _ (List.mem_of_getElem? (i := 4) rfl)) (by decide) (by decide)) (g := (mkF m 231 #[iv i0, iv i1, iv i2, iv i3, iv i4, .val (.long i5), .second, iv (nK i0), iv (nC i1), iv (nD i2 i1), iv (nE i3 i0), iv (nS i4), iv (nW i4), rv b68, rv b72, .unset] [(.int (nS i4)), (.int (nK i0)), (.int (15 : Int32)), (.ref b68)])) rfl (by rw [hml]; rfl) (argsL := [(.ref b68), (.int (15 : Int32)), (.int (nK i0)), (.int (nS i4))]) (rest := []) (lenOf pd4 rfl) rfl (by show 2 * 0 + _ ≤ _; exact Nat.le_of_eq rfl) (hb hby at_231) (fun _ _ => ⟨rfl, rfl, (by decide : 2 + 0 ≤ _), (by decide : 28 + 0 ≤ _)⟩)
  dsimp only [Pt.U, Pt.locs, Pt.cells, Pt.slots] at X120 l120 y120 z120 st120 hQ120
  subst l120 y120 z120
  obtain ⟨rfl, N120, R120_0, R120_1⟩ := hQ120
  have M120 := Fr.app M117 N120
  have g121 : Goes p e below S0 (T120.setTop (mkF m 234 #[iv i0, iv i1, iv i2, iv i3, iv i4, .val (.long i5), .second, iv (nK i0), iv (nC i1), iv (nD i2 i1), iv (nE i3 i0), iv (nS i4), iv (nW i4), rv b68, rv b72, .unset] [])) := fun t k => g119 t (st120 t k)
  obtain ⟨T122, h122, X122, e122, E122, A122, D122, -, st122⟩ := newO X120 hx hZ hown (hw _ (List.mem_of_getElem? (i := 10) rfl)) (hw _ (List.mem_of_getElem? (i := 11) rfl)) (hw _ (List.mem_of_getElem? (i := 12) rfl)) rfl (g := (mkF m 234 #[iv i0, iv i1, iv i2, iv i3, iv i4, .val (.long i5), .second, iv (nK i0), iv (nC i1), iv (nD i2 i1), iv (nE i3 i0), iv (nS i4), iv (nW i4), rv b68, rv b72, .unset] [])) rfl (hb hby at_234) (by decide) (by decide)
  obtain ⟨b122, gb122⟩ : ∃ z, z = T120.heap.size := ⟨_, rfl⟩
  have sz122 : h0.size ≤ b122 := Nat.le_trans (Nat.le_trans (Nat.le_trans (Nat.le_trans (Nat.le_trans (Nat.le_trans (Nat.le_trans (Nat.le_trans (Nat.le_trans (Nat.le_trans (Nat.le_trans (Nat.le_trans (Nat.le_trans (Nat.le_trans (Nat.le_trans (Nat.le_trans (Nat.le_trans (Nat.le_trans (Nat.le_trans (Nat.le_refl _) E68.1) E72.1) R75_0.1) R78_0.1) R81_0.1) R84_0.1) R87_0.1) R90_0.1) R93_0.1) R96_0.1) R99_0.1) R102_0.1) R105_0.1) R108_0.1) R111_0.1) R114_0.1) R117_0.1) R120_0.1) (Nat.le_of_eq gb122.symm)
  have ng122 : n0 ≤ b122 := Nat.le_trans Z0 sz122
  rw [← gb122] at A122 D122 st122
  have F122_123 : Fld Z h122 b122 "com/example/borrowed_prior/borrowedprior/model/TopicModel" "topicCount" "I" (.int (0 : Int32)) := D122 (Or.inr (hw _ (List.mem_of_getElem? (i := 24) rfl))) (ty := .int) (by decide)
  have F122_124 : Fld Z h122 b122 "com/example/borrowed_prior/borrowedprior/model/TopicModel" "documentCount" "I" (.int (0 : Int32)) := D122 (Or.inr (hw _ (List.mem_of_getElem? (i := 26) rfl))) (ty := .int) (by decide)
  have F122_125 : Fld Z h122 b122 "com/example/borrowed_prior/borrowedprior/model/TopicModel" "termCount" "I" (.int (0 : Int32)) := D122 (Or.inr (hw _ (List.mem_of_getElem? (i := 28) rfl))) (ty := .int) (by decide)
  have F122_126 : Fld Z h122 b122 "com/example/borrowed_prior/borrowedprior/model/TopicModel" "tokenCount" "J" (.long (0 : Int64)) := D122 (Or.inr (hw _ (List.mem_of_getElem? (i := 30) rfl))) (ty := .long) (by decide)
  have F122_127 : Fld Z h122 b122 "com/example/borrowed_prior/borrowedprior/model/TopicModel" "documentTopics" "[D" .null := D122 (Or.inr (hw _ (List.mem_of_getElem? (i := 32) rfl))) (ty := (.array .double)) (by decide)
  have F122_128 : Fld Z h122 b122 "com/example/borrowed_prior/borrowedprior/model/TopicModel" "termTopics" "[D" .null := D122 (Or.inr (hw _ (List.mem_of_getElem? (i := 34) rfl))) (ty := (.array .double)) (by decide)
  have g129 : Goes p e below S0 (T122.setTop (mkF m 237 #[iv i0, iv i1, iv i2, iv i3, iv i4, .val (.long i5), .second, iv (nK i0), iv (nC i1), iv (nD i2 i1), iv (nE i3 i0), iv (nS i4), iv (nW i4), rv b68, rv b72, .unset] [(.ref b122)])) := fun t k => g121 t (st122 t k)
  have g130 : Goes p e below S0 (T122.setTop (mkF m 254 #[iv i0, iv i1, iv i2, iv i3, iv i4, .val (.long i5), .second, iv (nK i0), iv (nC i1), iv (nD i2 i1), iv (nE i3 i0), iv (nS i4), iv (nW i4), rv b68, rv b72, .unset] [(.ref b72), (.ref b68), (.long (i5 &&& (9223372036854775807 : Int64))), (.int (nW i4)), (.int (nC i1)), (.int (nK i0)), (.ref b122), (.ref b122)])) := fun t k => g129 t (by
    refine XS.dup X122.here hx rfl (hb hby at_237) rfl rfl ?_
    show Go p e below t T122 m 238 #[iv i0, iv i1, iv i2, iv i3, iv i4, .val (.long i5), .second, iv (nK i0), iv (nC i1), iv (nD i2 i1), iv (nE i3 i0), iv (nS i4), iv (nW i4), rv b68, rv b72, .unset] [(.ref b122), (.ref b122)]
    refine XS.iload X122.here hx rfl (hb hby at_238) rfl ?_
    show Go p e below t T122 m 240 #[iv i0, iv i1, iv i2, iv i3, iv i4, .val (.long i5), .second, iv (nK i0), iv (nC i1), iv (nD i2 i1), iv (nE i3 i0), iv (nS i4), iv (nW i4), rv b68, rv b72, .unset] [(.int (nK i0)), (.ref b122), (.ref b122)]
    refine XS.iload X122.here hx rfl (hb hby at_240) rfl ?_
    show Go p e below t T122 m 242 #[iv i0, iv i1, iv i2, iv i3, iv i4, .val (.long i5), .second, iv (nK i0), iv (nC i1), iv (nD i2 i1), iv (nE i3 i0), iv (nS i4), iv (nW i4), rv b68, rv b72, .unset] [(.int (nC i1)), (.int (nK i0)), (.ref b122), (.ref b122)]
    refine XS.iload X122.here hx rfl (hb hby at_242) rfl ?_
    show Go p e below t T122 m 244 #[iv i0, iv i1, iv i2, iv i3, iv i4, .val (.long i5), .second, iv (nK i0), iv (nC i1), iv (nD i2 i1), iv (nE i3 i0), iv (nS i4), iv (nW i4), rv b68, rv b72, .unset] [(.int (nW i4)), (.int (nC i1)), (.int (nK i0)), (.ref b122), (.ref b122)]
    refine XS.lload X122.here hx rfl (hb hby at_244) rfl ?_
    show Go p e below t T122 m 246 #[iv i0, iv i1, iv i2, iv i3, iv i4, .val (.long i5), .second, iv (nK i0), iv (nC i1), iv (nD i2 i1), iv (nE i3 i0), iv (nS i4), iv (nW i4), rv b68, rv b72, .unset] [(.long i5), (.int (nW i4)), (.int (nC i1)), (.int (nK i0)), (.ref b122), (.ref b122)]
    refine Jvm.Stand.ldc2J X122 hx hown (mvT hZ (hw _ (List.mem_of_getElem? (i := 13) rfl))) (g := (mkF m 246 #[iv i0, iv i1, iv i2, iv i3, iv i4, .val (.long i5), .second, iv (nK i0), iv (nC i1), iv (nD i2 i1), iv (nE i3 i0), iv (nS i4), iv (nW i4), rv b68, rv b72, .unset] [(.long i5), (.int (nW i4)), (.int (nC i1)), (.int (nK i0)), (.ref b122), (.ref b122)])) rfl (hb hby at_246) ?_
    show Go p e below t T122 m 249 #[iv i0, iv i1, iv i2, iv i3, iv i4, .val (.long i5), .second, iv (nK i0), iv (nC i1), iv (nD i2 i1), iv (nE i3 i0), iv (nS i4), iv (nW i4), rv b68, rv b72, .unset] [(.long (9223372036854775807 : Int64)), (.long i5), (.int (nW i4)), (.int (nC i1)), (.int (nK i0)), (.ref b122), (.ref b122)]
    refine XS.land X122.here hx rfl (hb hby at_249) rfl ?_
    show Go p e below t T122 m 250 #[iv i0, iv i1, iv i2, iv i3, iv i4, .val (.long i5), .second, iv (nK i0), iv (nC i1), iv (nD i2 i1), iv (nE i3 i0), iv (nS i4), iv (nW i4), rv b68, rv b72, .unset] [(.long (i5 &&& (9223372036854775807 : Int64))), (.int (nW i4)), (.int (nC i1)), (.int (nK i0)), (.ref b122), (.ref b122)]
    refine XS.aload X122.here hx rfl (hb hby at_250) rfl rfl ?_
    show Go p e below t T122 m 252 #[iv i0, iv i1, iv i2, iv i3, iv i4, .val (.long i5), .second, iv (nK i0), iv (nC i1), iv (nD i2 i1), iv (nE i3 i0), iv (nS i4), iv (nW i4), rv b68, rv b72, .unset] [(.ref b68), (.long (i5 &&& (9223372036854775807 : Int64))), (.int (nW i4)), (.int (nC i1)), (.int (nK i0)), (.ref b122), (.ref b122)]
    refine XS.aload X122.here hx rfl (hb hby at_252) rfl rfl ?_
    show Go p e below t T122 m 254 #[iv i0, iv i1, iv i2, iv i3, iv i4, .val (.long i5), .second, iv (nK i0), iv (nC i1), iv (nD i2 i1), iv (nE i3 i0), iv (nS i4), iv (nW i4), rv b68, rv b72, .unset] [(.ref b72), (.ref b68), (.long (i5 &&& (9223372036854775807 : Int64))), (.int (nW i4)), (.int (nC i1)), (.int (nK i0)), (.ref b122), (.ref b122)]
    exact k)
  obtain ⟨_, _, ⟨T131, L131, k131, n131⟩, -, X131, ⟨Lc131, hQ131, l131, y131, z131⟩, st131⟩ := X122.specialBack hx (y := (⟨"com/example/borrowed_prior/borrowedprior/model/TopicModel", "<init>", "(IIIJ[D[D)V"⟩ : MethodName)) rfl hown (mvT hZ (hw _ (List.mem_of_getElem? (i := 14) rfl))) (mvT hZ (hw _ (List.mem_of_getElem? (i := 15) rfl))) (mvT hZ (hw _ (List.mem_of_getElem? (i := 16) rfl))) (by decide) (backOf (W := 1) (rm_tin l Z a0 hw [] b122 (nK i0) (nC i1) (nW i4) (i5 &&& (9223372036854775807 : Int64)) b68 b72 k68 (nN i0 i1) (S1 (S1 (S1 (S1 (S1 (S1 (S1 (S1 (S1 (S1 (S1 (S1 (S1 (S1 (S1 (S1 L16 (0 : Int32) (nK i0) (nS i4)) (1 : Int32) (nK i0) (nS i4)) (2 : Int32) (nK i0) (nS i4)) (3 : Int32) (nK i0) (nS i4)) (4 : Int32) (nK i0) (nS i4)) (5 : Int32) (nK i0) (nS i4)) (6 : Int32) (nK i0) (nS i4)) (7 : Int32) (nK i0) (nS i4)) (8 : Int32) (nK i0) (nS i4)) (9 : Int32) (nK i0) (nS i4)) (10 : Int32) (nK i0) (nS i4)) (11 : Int32) (nK i0) (nS i4)) (12 : Int32) (nK i0) (nS i4)) (13 : Int32) (nK i0) (nS i4)) (14 : Int32) (nK i0) (nS i4)) (15 : Int32) (nK i0) (nS i4)) (.double (0 : UInt64)) k72 (nP i0 i4) [] (.double (0 : UInt64)) h122 n0 (Nat.le_trans Z0 (Nat.le_trans (Nat.le_trans (Nat.le_trans (Nat.le_trans (Nat.le_trans (Nat.le_trans (Nat.le_trans (Nat.le_trans (Nat.le_trans (Nat.le_trans (Nat.le_trans (Nat.le_trans (Nat.le_trans (Nat.le_trans (Nat.le_trans (Nat.le_trans (Nat.le_trans (Nat.le_trans (Nat.le_trans (Nat.le_refl _) E68.1) E72.1) R75_0.1) R78_0.1) R81_0.1) R84_0.1) R87_0.1) R90_0.1) R93_0.1) R96_0.1) R99_0.1) R102_0.1) R105_0.1) R108_0.1) R111_0.1) R114_0.1) R117_0.1) R120_0.1) E122.1)) A122 F122_123 F122_124 F122_125 F122_126 F122_127 F122_128 ng122 (R120_1.ext E122) (((((((((((((((((V72.keep R75_0 (ninS (Ne.symm (Nat.ne_of_lt (Nat.lt_of_lt_of_le Vp70.lt (Nat.le_of_eq gb72.symm)))) nin0)).keep R78_0 (ninS (Ne.symm (Nat.ne_of_lt (Nat.lt_of_lt_of_le Vp70.lt (Nat.le_of_eq gb72.symm)))) nin0)).keep R81_0 (ninS (Ne.symm (Nat.ne_of_lt (Nat.lt_of_lt_of_le Vp70.lt (Nat.le_of_eq gb72.symm)))) nin0)).keep R84_0 (ninS (Ne.symm (Nat.ne_of_lt (Nat.lt_of_lt_of_le Vp70.lt (Nat.le_of_eq gb72.symm)))) nin0)).keep R87_0 (ninS (Ne.symm (Nat.ne_of_lt (Nat.lt_of_lt_of_le Vp70.lt (Nat.le_of_eq gb72.symm)))) nin0)).keep R90_0 (ninS (Ne.symm (Nat.ne_of_lt (Nat.lt_of_lt_of_le Vp70.lt (Nat.le_of_eq gb72.symm)))) nin0)).keep R93_0 (ninS (Ne.symm (Nat.ne_of_lt (Nat.lt_of_lt_of_le Vp70.lt (Nat.le_of_eq gb72.symm)))) nin0)).keep R96_0 (ninS (Ne.symm (Nat.ne_of_lt (Nat.lt_of_lt_of_le Vp70.lt (Nat.le_of_eq gb72.symm)))) nin0)).keep R99_0 (ninS (Ne.symm (Nat.ne_of_lt (Nat.lt_of_lt_of_le Vp70.lt (Nat.le_of_eq gb72.symm)))) nin0)).keep R102_0 (ninS (Ne.symm (Nat.ne_of_lt (Nat.lt_of_lt_of_le Vp70.lt (Nat.le_of_eq gb72.symm)))) nin0)).keep R105_0 (ninS (Ne.symm (Nat.ne_of_lt (Nat.lt_of_lt_of_le Vp70.lt (Nat.le_of_eq gb72.symm)))) nin0)).keep R108_0 (ninS (Ne.symm (Nat.ne_of_lt (Nat.lt_of_lt_of_le Vp70.lt (Nat.le_of_eq gb72.symm)))) nin0)).keep R111_0 (ninS (Ne.symm (Nat.ne_of_lt (Nat.lt_of_lt_of_le Vp70.lt (Nat.le_of_eq gb72.symm)))) nin0)).keep R114_0 (ninS (Ne.symm (Nat.ne_of_lt (Nat.lt_of_lt_of_le Vp70.lt (Nat.le_of_eq gb72.symm)))) nin0)).keep R117_0 (ninS (Ne.symm (Nat.ne_of_lt (Nat.lt_of_lt_of_le Vp70.lt (Nat.le_of_eq gb72.symm)))) nin0)).keep R120_0 (ninS (Ne.symm (Nat.ne_of_lt (Nat.lt_of_lt_of_le Vp70.lt (Nat.le_of_eq gb72.symm)))) nin0)).ext E122) (own_k1 i0) (own_c0 i1) (own_w0 i4) (own_tok i5) (own_h5 i0 i1) (own_h6 i0 i4) (own_p16 i0 i1 i4) (own_pz _) (own_n0 i0 i1) (own_m0 i0 i4)) hZ (hw _ (List.mem_of_getElem? (i := 16) rfl)) (hw _ (List.mem_of_getElem? (i := 12) rfl)) (by decide) (by decide)) (g := (mkF m 254 #[iv i0, iv i1, iv i2, iv i3, iv i4, .val (.long i5), .second, iv (nK i0), iv (nC i1), iv (nD i2 i1), iv (nE i3 i0), iv (nS i4), iv (nW i4), rv b68, rv b72, .unset] [(.ref b72), (.ref b68), (.long (i5 &&& (9223372036854775807 : Int64))), (.int (nW i4)), (.int (nC i1)), (.int (nK i0)), (.ref b122), (.ref b122)])) rfl (by rw [hml]; rfl) (Steps.refl _) (a := b122) (argsL := [(.int (nK i0)), (.int (nC i1)), (.int (nW i4)), (.long (i5 &&& (9223372036854775807 : Int64))), (.ref b68), (.ref b72)]) (rest := [(.ref b122)]) (lenOf pd2 rfl) rfl (by show 2 * 0 + _ ≤ _; exact Nat.le_of_eq rfl) (hb hby at_254) (fun _ _ => ⟨rfl, e122, (by decide : 3 + 0 ≤ _), (by decide : 34 + 0 ≤ _)⟩)
  dsimp only [Pt.U, Pt.locs, Pt.cells, Pt.slots] at X131 l131 y131 z131 st131 hQ131
  subst l131 y131 z131
  obtain ⟨rfl, N131, R131_0, R131_1, R131_2, R131_3, R131_4, R131_5, R131_6, R131_7⟩ := hQ131
  have M131 := Fr.app M120 N131
  have g132 : Goes p e below S0 (T131.setTop (mkF m 257 #[iv i0, iv i1, iv i2, iv i3, iv i4, .val (.long i5), .second, iv (nK i0), iv (nC i1), iv (nD i2 i1), iv (nE i3 i0), iv (nS i4), iv (nW i4), rv b68, rv b72, .unset] [(.ref b122)])) := fun t k => g130 t (st131.trans k)
  have g133 : Goes p e below S0 (T131.setTop (mkF m 265 #[iv i0, iv i1, iv i2, iv i3, iv i4, .val (.long i5), .second, iv (nK i0), iv (nC i1), iv (nD i2 i1), iv (nE i3 i0), iv (nS i4), iv (nW i4), rv b68, rv b72, rv b122] [(.int (nE i3 i0)), (.int (nD i2 i1)), (.ref b122)])) := fun t k => g132 t (by
    refine XS.astore X131.here hx rfl (hb hby at_257) rfl rfl (l' := #[iv i0, iv i1, iv i2, iv i3, iv i4, .val (.long i5), .second, iv (nK i0), iv (nC i1), iv (nD i2 i1), iv (nE i3 i0), iv (nS i4), iv (nW i4), rv b68, rv b72, rv b122]) rfl ?_
    show Go p e below t T131 m 259 #[iv i0, iv i1, iv i2, iv i3, iv i4, .val (.long i5), .second, iv (nK i0), iv (nC i1), iv (nD i2 i1), iv (nE i3 i0), iv (nS i4), iv (nW i4), rv b68, rv b72, rv b122] []
    refine XS.aload X131.here hx rfl (hb hby at_259) rfl rfl ?_
    show Go p e below t T131 m 261 #[iv i0, iv i1, iv i2, iv i3, iv i4, .val (.long i5), .second, iv (nK i0), iv (nC i1), iv (nD i2 i1), iv (nE i3 i0), iv (nS i4), iv (nW i4), rv b68, rv b72, rv b122] [(.ref b122)]
    refine XS.iload X131.here hx rfl (hb hby at_261) rfl ?_
    show Go p e below t T131 m 263 #[iv i0, iv i1, iv i2, iv i3, iv i4, .val (.long i5), .second, iv (nK i0), iv (nC i1), iv (nD i2 i1), iv (nE i3 i0), iv (nS i4), iv (nW i4), rv b68, rv b72, rv b122] [(.int (nD i2 i1)), (.ref b122)]
    refine XS.iload X131.here hx rfl (hb hby at_263) rfl ?_
    show Go p e below t T131 m 265 #[iv i0, iv i1, iv i2, iv i3, iv i4, .val (.long i5), .second, iv (nK i0), iv (nC i1), iv (nD i2 i1), iv (nE i3 i0), iv (nS i4), iv (nW i4), rv b68, rv b72, rv b122] [(.int (nE i3 i0)), (.int (nD i2 i1)), (.ref b122)]
    exact k)
  obtain ⟨cq134, kq134, q134a, q134b, q134c⟩ := isOf hZ rfl R131_1
  obtain ⟨_, _, ⟨T134, L134, k134, n134⟩, -, X134, ⟨Lc134, hQ134, l134, y134, z134⟩, st134⟩ := X131.virtualBack hx (y := (⟨"com/example/borrowed_prior/borrowedprior/model/TopicModel", "documentTopic", "(II)D"⟩ : MethodName)) (z := (⟨"com/example/borrowed_prior/borrowedprior/model/TopicModel", "documentTopic", "(II)D"⟩ : MethodName)) hown (mvT hZ (hw _ (List.mem_of_getElem? (i := 35) rfl))) (mvT hZ (hw _ (List.mem_of_getElem? (i := 36) rfl))) (notFace_of_selects (args := #[]) (mvT hZ (hw _ (List.mem_of_getElem? (i := 38) rfl)))) (mvT hZ (hw _ (List.mem_of_getElem? (i := 38) rfl))) (mvT hZ (hw _ (List.mem_of_getElem? (i := 37) rfl))) (by decide) (backOf (W := 0) (rm_dt l Z a0 hw [] b122 (nD i2 i1) (nE i3 i0) (nK i0) b68 k68 (nN i0 i1) (S1 (S1 (S1 (S1 (S1 (S1 (S1 (S1 (S1 (S1 (S1 (S1 (S1 (S1 (S1 (S1 L16 (0 : Int32) (nK i0) (nS i4)) (1 : Int32) (nK i0) (nS i4)) (2 : Int32) (nK i0) (nS i4)) (3 : Int32) (nK i0) (nS i4)) (4 : Int32) (nK i0) (nS i4)) (5 : Int32) (nK i0) (nS i4)) (6 : Int32) (nK i0) (nS i4)) (7 : Int32) (nK i0) (nS i4)) (8 : Int32) (nK i0) (nS i4)) (9 : Int32) (nK i0) (nS i4)) (10 : Int32) (nK i0) (nS i4)) (11 : Int32) (nK i0) (nS i4)) (12 : Int32) (nK i0) (nS i4)) (13 : Int32) (nK i0) (nS i4)) (14 : Int32) (nK i0) (nS i4)) (15 : Int32) (nK i0) (nS i4)) (.double (0 : UInt64)) (f_sh (nD i2 i1) (nE i3 i0) (nS i4)) T131.heap n0 (Nat.le_trans Z0 (Nat.le_trans (Nat.le_trans (Nat.le_trans (Nat.le_trans (Nat.le_trans (Nat.le_trans (Nat.le_trans (Nat.le_trans (Nat.le_trans (Nat.le_trans (Nat.le_trans (Nat.le_trans (Nat.le_trans (Nat.le_trans (Nat.le_trans (Nat.le_trans (Nat.le_trans (Nat.le_trans (Nat.le_trans (Nat.le_trans (Nat.le_refl _) E68.1) E72.1) R75_0.1) R78_0.1) R81_0.1) R84_0.1) R87_0.1) R90_0.1) R93_0.1) R96_0.1) R99_0.1) R102_0.1) R105_0.1) R108_0.1) R111_0.1) R114_0.1) R117_0.1) R120_0.1) E122.1) R131_0.1)) R131_2 R131_6 ((R120_1.ext E122).keep R131_0 (ninS (Nat.ne_of_lt (Nat.lt_of_lt_of_le R120_1.lt (Nat.le_of_eq gb122.symm))) nin0)) (own_jin i0 i1 i2 i3) (own_jat i0 i1 i2 i3 i4)) hZ (hw _ (List.mem_of_getElem? (i := 39) rfl)) (hw _ (List.mem_of_getElem? (i := 12) rfl)) (by decide) (by decide)) q134a q134c (g := (mkF m 265 #[iv i0, iv i1, iv i2, iv i3, iv i4, .val (.long i5), .second, iv (nK i0), iv (nC i1), iv (nD i2 i1), iv (nE i3 i0), iv (nS i4), iv (nW i4), rv b68, rv b72, rv b122] [(.int (nE i3 i0)), (.int (nD i2 i1)), (.ref b122)])) rfl (by rw [hml]; rfl) (Steps.refl _) (argsL := [(.int (nD i2 i1)), (.int (nE i3 i0))]) (rest := []) (lenOf pd3 rfl) rfl (by show 2 * 0 + _ ≤ _; exact Nat.le_of_eq rfl) (hb hby at_265) (fun _ _ => ⟨rfl, rfl, (by decide : 3 + 0 ≤ _), (by decide : 34 + 0 ≤ _)⟩)
  dsimp only [Pt.U, Pt.locs, Pt.cells, Pt.slots] at X134 l134 y134 z134 st134 hQ134
  subst l134 y134 z134
  obtain ⟨rfl, N134, R134_0⟩ := hQ134
  have M134 := Fr.app M131 N134
  have g135 : Goes p e below S0 (T134.setTop (mkF m 268 #[iv i0, iv i1, iv i2, iv i3, iv i4, .val (.long i5), .second, iv (nK i0), iv (nC i1), iv (nD i2 i1), iv (nE i3 i0), iv (nS i4), iv (nW i4), rv b68, rv b72, rv b122] [(.double (f_sh (nD i2 i1) (nE i3 i0) (nS i4)))])) := fun t k => g133 t (st134.trans k)
  have g136 : Goes p e below S0 (T134.setTop (mkF m 274 #[iv i0, iv i1, iv i2, iv i3, iv i4, .val (.long i5), .second, iv (nK i0), iv (nC i1), iv (nD i2 i1), iv (nE i3 i0), iv (nS i4), iv (nW i4), rv b68, rv b72, rv b122] [(.int (nS i4)), (.int (nE i3 i0)), (.int (nD i2 i1)), (.double (f_sh (nD i2 i1) (nE i3 i0) (nS i4)))])) := fun t k => g135 t (by
    refine XS.iload X134.here hx rfl (hb hby at_268) rfl ?_
    show Go p e below t T134 m 270 #[iv i0, iv i1, iv i2, iv i3, iv i4, .val (.long i5), .second, iv (nK i0), iv (nC i1), iv (nD i2 i1), iv (nE i3 i0), iv (nS i4), iv (nW i4), rv b68, rv b72, rv b122] [(.int (nD i2 i1)), (.double (f_sh (nD i2 i1) (nE i3 i0) (nS i4)))]
    refine XS.iload X134.here hx rfl (hb hby at_270) rfl ?_
    show Go p e below t T134 m 272 #[iv i0, iv i1, iv i2, iv i3, iv i4, .val (.long i5), .second, iv (nK i0), iv (nC i1), iv (nD i2 i1), iv (nE i3 i0), iv (nS i4), iv (nW i4), rv b68, rv b72, rv b122] [(.int (nE i3 i0)), (.int (nD i2 i1)), (.double (f_sh (nD i2 i1) (nE i3 i0) (nS i4)))]
    refine XS.iload X134.here hx rfl (hb hby at_272) rfl ?_
    show Go p e below t T134 m 274 #[iv i0, iv i1, iv i2, iv i3, iv i4, .val (.long i5), .second, iv (nK i0), iv (nC i1), iv (nD i2 i1), iv (nE i3 i0), iv (nS i4), iv (nW i4), rv b68, rv b72, rv b122] [(.int (nS i4)), (.int (nE i3 i0)), (.int (nD i2 i1)), (.double (f_sh (nD i2 i1) (nE i3 i0) (nS i4)))]
    exact k)
  obtain ⟨_, _, ⟨T137, L137, k137, n137⟩, -, X137, ⟨Lc137, hQ137, l137, y137, z137⟩, st137⟩ := Jvm.LawKit.callS X134 hx (y := (⟨"com/example/borrowed_prior/borrowedprior/model/TopicModelDocumentTopicPinLaw", "share", "(III)D"⟩ : MethodName)) hown (mvT hZ (hw _ (List.mem_of_getElem? (i := 6) rfl))) (mvT hZ (hw _ (List.mem_of_getElem? (i := 7) rfl))) (mvT hZ (hw _ (List.mem_of_getElem? (i := 4) rfl))) (mvT hZ (hw _ (List.mem_of_getElem? (i := 8) rfl))) (by decide) (backOf (W := 2) (rm_sh l Z a0 hw [] (nD i2 i1) (nE i3 i0) (nS i4)  T131.heap n0 (Nat.le_trans Z0 (Nat.le_trans (Nat.le_trans (Nat.le_trans (Nat.le_trans (Nat.le_trans (Nat.le_trans (Nat.le_trans (Nat.le_trans (Nat.le_trans (Nat.le_trans (Nat.le_trans (Nat.le_trans (Nat.le_trans (Nat.le_trans (Nat.le_trans (Nat.le_trans (Nat.le_trans (Nat.le_trans (Nat.le_trans (Nat.le_trans (Nat.le_refl _) E68.1) E72.1) R75_0.1) R78_0.1) R81_0.1) R84_0.1) R87_0.1) R90_0.1) R93_0.1) R96_0.1) R99_0.1) R102_0.1) R105_0.1) R108_0.1) R111_0.1) R114_0.1) R117_0.1) R120_0.1) E122.1) R131_0.1)) ) hZ (hw _ (List.mem_of_getElem? (i := 8) rfl)) (hw _ (List.mem_of_getElem? (i := 4) rfl)) (by decide) (by decide)) (g := (mkF m 274 #[iv i0, iv i1, iv i2, iv i3, iv i4, .val (.long i5), .second, iv (nK i0), iv (nC i1), iv (nD i2 i1), iv (nE i3 i0), iv (nS i4), iv (nW i4), rv b68, rv b72, rv b122] [(.int (nS i4)), (.int (nE i3 i0)), (.int (nD i2 i1)), (.double (f_sh (nD i2 i1) (nE i3 i0) (nS i4)))])) rfl (by rw [hml]; rfl) (argsL := [(.int (nD i2 i1)), (.int (nE i3 i0)), (.int (nS i4))]) (rest := [(.double (f_sh (nD i2 i1) (nE i3 i0) (nS i4)))]) (lenOf pd0 rfl) rfl (by show 2 * 0 + _ ≤ _; exact Nat.le_of_eq rfl) (hb hby at_274) (fun _ _ => ⟨rfl, R134_0, (by decide : 3 + 0 ≤ _), (by decide : 34 + 0 ≤ _)⟩)
  dsimp only [Pt.U, Pt.locs, Pt.cells, Pt.slots] at X137 l137 y137 z137 st137 hQ137
  subst l137 y137 z137
  obtain ⟨rfl, N137, e137⟩ := hQ137
  have M137 := Fr.app M134 N137
  have g138 : Goes p e below S0 (T137.setTop (mkF m 277 #[iv i0, iv i1, iv i2, iv i3, iv i4, .val (.long i5), .second, iv (nK i0), iv (nC i1), iv (nD i2 i1), iv (nE i3 i0), iv (nS i4), iv (nW i4), rv b68, rv b72, rv b122] [(.double (f_sh (nD i2 i1) (nE i3 i0) (nS i4))), (.double (f_sh (nD i2 i1) (nE i3 i0) (nS i4)))])) := fun t k => g136 t (st137 t k)
  have g139 : Goes p e below S0 (T137.setTop (mkF m 286 #[iv i0, iv i1, iv i2, iv i3, iv i4, .val (.long i5), .second, iv (nK i0), iv (nC i1), iv (nD i2 i1), iv (nE i3 i0), iv (nS i4), iv (nW i4), rv b68, rv b72, rv b122] [(.int (1 : Int32))])) := fun t k => g138 t (by
    refine XS.dcmpS X137.here hx rfl (hb hby at_277) rfl rfl ?_
    show Go p e below t T137 m 278 #[iv i0, iv i1, iv i2, iv i3, iv i4, .val (.long i5), .second, iv (nK i0), iv (nC i1), iv (nD i2 i1), iv (nE i3 i0), iv (nS i4), iv (nW i4), rv b68, rv b72, rv b122] [(.int (cmpValue (FP.dcmp (f_sh (nD i2 i1) (nE i3 i0) (nS i4)) (f_sh (nD i2 i1) (nE i3 i0) (nS i4))) .l))]
    refine XS.ifNo X137.here hx rfl (hb hby at_278) rfl (dc_l_ne_f (own_self _ _ _)) ?_
    show Go p e below t T137 m 281 #[iv i0, iv i1, iv i2, iv i3, iv i4, .val (.long i5), .second, iv (nK i0), iv (nC i1), iv (nD i2 i1), iv (nE i3 i0), iv (nS i4), iv (nW i4), rv b68, rv b72, rv b122] []
    refine XT.iconstV X137.here hx rfl (1 : Int32) (hb hby at_281) (by decide) ?_
    show Go p e below t T137 m 282 #[iv i0, iv i1, iv i2, iv i3, iv i4, .val (.long i5), .second, iv (nK i0), iv (nC i1), iv (nD i2 i1), iv (nE i3 i0), iv (nS i4), iv (nW i4), rv b68, rv b72, rv b122] [(.int (1 : Int32))]
    refine XS.goto X137.here hx rfl (pc0 := 282) (pc' := 286) rfl (hb hby at_282) (by decide) (by decide) ?_
    show Go p e below t T137 m 286 #[iv i0, iv i1, iv i2, iv i3, iv i4, .val (.long i5), .second, iv (nK i0), iv (nC i1), iv (nD i2 i1), iv (nE i3 i0), iv (nS i4), iv (nW i4), rv b68, rv b72, rv b122] [(.int (1 : Int32))]
    exact k)
  obtain ⟨fs, hr, hrun, hended, hW, hsame⟩ := X137.leave (v := some (.int (1 : Int32))) (fun h => by rw [Bd.returns] at h; cases h)
  refine ⟨_, _, g139 _ (retN X137 hx (t := .boolean) Bd.returns (by simp) (hb hby at_286) hr), hrun, hended, _, _, rfl, ?_, ⟨_, rfl⟩, hW, hsame.mono (by decide) (by decide)⟩
  show Q_law Z i0 i1 i2 i3 i4 i5  h0 n0 _ T137.heap _
  rw [e137]
  exact ⟨rfl, M137⟩
theorem own_one (a b c d e : Int32) (f : Int64) : f_law a b c d e f = 1 := rfl
set_option maxRecDepth 65536 in
set_option maxHeartbeats 40000000 in
theorem comes_1 {Post : Tables → Env → Array Value → State → Outcome → State → Prop} (hpost : ∀ tb e args s v u, (limb_1_1.after args s (.returned v) u = true ∧ limb_1_2.after args s (.returned v) u = true ∧ True) → FrameEnd s (.returned v) u (Jvm.fieldLocs frame_1_writes args s ++ Jvm.arrayLocs frame_1_arrays args s ++ Jvm.staticLocs frame_1_statics s) 16 192 → Post tb e args s (.returned v) u) :
    ArmFor flags0 classFile x code maxLocals ret World_1 tables_1 room_1 Calls_1 rest_1 Pre_1 Post := by
  intro l hfl _ _ p e ha hc hk s m args below hf hA hF happ hP
  obtain ⟨hcalls, hrest, hpre⟩ := hP
  obtain ⟨-, -, -, hnamed, -, -, -, hat⟩ := (Spec.applies_iff hf).mp happ
  obtain ⟨hg, hn⟩ := and_e (Cond.before_iff.mp (show (Jvm.Cond.and given_1 narrow_1).before args s = true from hpre))
  obtain ⟨hcount, q0⟩ := and_e hg
  obtain ⟨b0, q1⟩ := and_e q0
  obtain ⟨b1, q2⟩ := and_e q1
  obtain ⟨b2, q3⟩ := and_e q2
  obtain ⟨b3, q4⟩ := and_e q3
  obtain ⟨b4, q5⟩ := and_e q4
  have b5 := q5
  obtain ⟨w0, w1, w2, w3, w4, w5, rfl⟩ : ∃ w0 w1 w2 w3 w4 w5 : Value, args = #[w0, w1, w2, w3, w4, w5] := by
    have hs : args.size = 6 := by simpa [Cond.value, given_1] using hcount
    obtain ⟨L⟩ := args
    match L, hs with
    | [w0, w1, w2, w3, w4, w5], _ => exact ⟨w0, w1, w2, w3, w4, w5, rfl⟩
  have hw := fun d (hd : d ∈ tables_1) => atoms_spec (ws := Jvm.Cond.code x code maxLocals ret :: tables_1) hat d (List.mem_cons_of_mem _ hd)
  have hfit : Fit s := fun {y c} hc i hi => by
    obtain ⟨ha, rfl⟩ := Array.getElem?_eq_some_iff.mp hc
    have q := List.all_eq_true.mp ((Array.all_eq_true_iff_forall_mem.mp hF) _ (Array.getElem_mem ha)) i (List.mem_range.mpr hi)
    simpa [Array.getElem?_eq_getElem hi] using q
  obtain ⟨i0, r0⟩ := is_v b0
  obtain rfl : w0 = (.int i0) := Option.some.inj r0
  obtain ⟨i1, r1⟩ := is_v b1
  obtain rfl : w1 = (.int i1) := Option.some.inj r1
  obtain ⟨i2, r2⟩ := is_v b2
  obtain rfl : w2 = (.int i2) := Option.some.inj r2
  obtain ⟨i3, r3⟩ := is_v b3
  obtain rfl : w3 = (.int i3) := Option.some.inj r3
  obtain ⟨i4, r4⟩ := is_v b4
  obtain rfl : w4 = (.int i4) := Option.some.inj r4
  obtain ⟨i5, r5⟩ := isL_v b5
  obtain rfl : w5 = (.long i5) := Option.some.inj r5
  obtain ⟨n, o, h1, h2, h3, v, L, rfl, ⟨hv, N⟩, hq⟩ := rm_law l s _ hw tables_1 i0 i1 i2 i3 i4 i5  s.heap s.heap.size (Nat.le_refl _)  p e ha hc hk s m _ below hf ((Spec.applies_iff_loose hf).mp happ).1 ⟨rfl, State.Warmed39.refl s, rfl⟩ trivial
  obtain rfl : v = some (.int 1) := by rw [hv, own_one]
  refine ⟨n, _, h1, h2, h3, hpost _ _ _ _ _ _ ⟨Cond.after_iff.mpr rfl, Cond.after_iff.mpr (eq_i res_at (Term.int_eval (1)) rfl), trivial⟩ ⟨hq.1, hq.2.1, (hq.2.2.sift fun y hy => Or.inr (N y hy)).mono (by decide) (by decide)⟩⟩
theorem main_1_1 : Claimed_1_1 := comes_1 fun _ _ _ _ _ _ h hF => ⟨h.1, hF⟩
theorem main_1_2 : Claimed_1_2 := comes_1 fun _ _ _ _ _ _ h hF => ⟨h.2.1, hF⟩
end Jvm.Pilot.@@N@@
namespace Jvm.Pilot.@@N@@
open Jvm Jvm.ClassFile Sem Op Lib Jvm.Free Jvm.Stand Jvm.Pilot.@@N@@.Jvm.D
/-! MADE BY PROGRAM (witnessworld.py) out of the Statement's table words and the real class files: 11 classes; the members and pool entries that the words name. The judged class is class 1, her method 1. -/
namespace start1
open Jvm.ClassFile
def u (s : String) : CpInfo := .utf8 (stringToUtf16 s)
/-- a pool by its gaps: so many unusable entries, then the entry; so many at the end -/
def gap : Nat → List CpInfo → List CpInfo
  | 0, r => r
  | n + 1, r => .unusable :: gap n r
def poolList (es : List (Nat × CpInfo)) (last : Nat) : List CpInfo := es.foldr (fun e r => gap e.1 (e.2 :: r)) (gap last [])
def pool (es : List (Nat × CpInfo)) (last : Nat) : Array CpInfo := ⟨poolList es last⟩
def fileOf (pool : Array CpInfo) (this : Nat) (attrs : Array Attribute := #[]) (ms : Array MethodInfo := #[]) (fl : Nat := 33) (sup : Nat := 0) (ifs : Array Nat := #[]) (fds : Array FieldInfo := #[]) : ClassFile where
  minorVersion := 0
  majorVersion := 65
  constantPool := pool
  accessFlags := fl
  thisClass := this
  superClass := sup
  interfaces := ifs
  fields := fds
  methods := ms
  attributes := attrs
def plain (name : String) (sup : Option ClassId) : Class where
  name := name
  kind := .ordinary
  loader := none
  accessFlags := 33
  super := sup
  interfaces := #[]
  cf := none
  fields := #[]
  methods := #[]
  instanceTypes := #[]
  staticTypes := #[]
  resolved := #[]
  callSites := []
  init := .initialized
  statics := none
  mirror := none

def pool0 : Array CpInfo := pool [(5, u "<init>"), (0, u "()V"), (1, .class_ 10), (1, u "java/lang/Object")] 113

def k0c0 : Code := { maxStack := 0, maxLocals := 1, code := object_method_1_code, exceptionTable := #[], attributes := #[] }
def k0m0 : Method := { name := "<init>", desc := "()V", sig := { parameters := [], returnType := none }, accessFlags := 1, code := some k0c0 }
/-- java/lang/Object -/
def k0 : Class := { plain "java/lang/Object" none with
  accessFlags := 33
  interfaces := #[]
  cf := some (fileOf pool0 8 #[] #[{ accessFlags := 1, nameIndex := 5, descriptorIndex := 6, attributes := #[] }] 33 0 #[] #[])
  fields := #[]
  methods := #[k0m0]
  instanceTypes := #[]
  staticTypes := #[]
  resolved := Array.replicate 124 none
  statics := none }

def pool1 : Array CpInfo := pool [(2, .class_ 4), (1, u "java/lang/Object"), (0, u "<init>"), (0, u "()V"), (0, .integer 2147483647), (0, .methodref 9 10), (0, .class_ 11), (0, .nameAndType 12 13), (0, u "com/example/borrowed_prior/borrowedprior/model/TopicModelDocumentTopicPinLaw"), (0, u "put"), (0, u "([DIII)V"), (0, .class_ 15), (0, u "com/example/borrowed_prior/borrowedprior/model/TopicModel"), (2, .long 9223372036854775807), (1, .methodref 14 21), (0, .nameAndType 5 22), (0, u "(IIIJ[D[D)V"), (0, .methodref 14 24), (0, .nameAndType 25 26), (0, u "documentTopic"), (0, u "(II)D"), (0, .methodref 9 28), (0, .nameAndType 29 30), (0, u "share"), (0, u "(III)D"), (0, .double 4643211215818981376), (3, u "law"), (0, u "(IIIIIJ)Z")] 5

def k1m0 : Method := { name := "<init>", desc := "()V", sig := { parameters := [], returnType := none }, accessFlags := 1, code := none }
def k1c1 : Code := { maxStack := 9, maxLocals := 16, code := code, exceptionTable := #[], attributes := #[] }
def k1m1 : Method := { name := "law", desc := "(IIIIIJ)Z", sig := { parameters := [.int, .int, .int, .int, .int, .long], returnType := some .boolean }, accessFlags := 9, code := some k1c1 }
def k1c2 : Code := { maxStack := 4, maxLocals := 3, code := method_3_code, exceptionTable := #[], attributes := #[] }
def k1m2 : Method := { name := "share", desc := "(III)D", sig := { parameters := [.int, .int, .int], returnType := some .double }, accessFlags := 10, code := some k1c2 }
def k1c3 : Code := { maxStack := 5, maxLocals := 4, code := method_4_code, exceptionTable := #[], attributes := #[] }
def k1m3 : Method := { name := "put", desc := "([DIII)V", sig := { parameters := [(.array .double), .int, .int, .int], returnType := none }, accessFlags := 10, code := some k1c3 }
/-- com/example/borrowed_prior/borrowedprior/model/TopicModelDocumentTopicPinLaw -/
def k1 : Class := { plain "com/example/borrowed_prior/borrowedprior/model/TopicModelDocumentTopicPinLaw" (some 0) with
  accessFlags := 49
  interfaces := #[]
  cf := some (fileOf pool1 9 #[] #[{ accessFlags := 1, nameIndex := 5, descriptorIndex := 6, attributes := #[] }, { accessFlags := 9, nameIndex := 35, descriptorIndex := 36, attributes := #[] }, { accessFlags := 10, nameIndex := 29, descriptorIndex := 30, attributes := #[] }, { accessFlags := 10, nameIndex := 12, descriptorIndex := 13, attributes := #[] }] 49 2 #[] #[])
  fields := #[]
  methods := #[k1m0, k1m1, k1m2, k1m3]
  instanceTypes := #[]
  staticTypes := #[]
  resolved := Array.replicate 42 none
  statics := none }

def pool2 : Array CpInfo := pool [(1, .methodref 2 3), (0, .class_ 4), (0, .nameAndType 5 6), (0, u "java/lang/Object"), (0, u "<init>"), (0, u "()V"), (11, .methodref 19 20), (0, .class_ 21), (0, .nameAndType 22 23), (0, u "com/example/borrowed_prior/borrowedprior/model/TopicModel"), (0, u "requireProbabilities"), (0, u "([D)V"), (0, .fieldref 19 25), (0, .nameAndType 26 27), (0, u "topicCount"), (0, u "I"), (0, .fieldref 19 29), (0, .nameAndType 30 27), (0, u "documentCount"), (0, .fieldref 19 32), (0, .nameAndType 33 27), (0, u "termCount"), (0, .fieldref 19 35), (0, .nameAndType 36 37), (0, u "tokenCount"), (0, u "J"), (0, .fieldref 19 39), (0, .nameAndType 40 41), (0, u "documentTopics"), (0, u "[D"), (0, .fieldref 19 43), (0, .nameAndType 44 41), (0, u "termTopics"), (50, u "documentTopic"), (0, u "(II)D"), (8, u "(IIIJ[D[D)V")] 44

def k2c0 : Code := { maxStack := 7, maxLocals := 8, code := prog_37_method_1_code, exceptionTable := #[], attributes := #[] }
def k2m0 : Method := { name := "<init>", desc := "(IIIJ[D[D)V", sig := { parameters := [.int, .int, .int, .long, (.array .double), (.array .double)], returnType := none }, accessFlags := 1, code := some k2c0 }
def k2c1 : Code := { maxStack := 3, maxLocals := 3, code := prog_37_method_8_code, exceptionTable := #[], attributes := #[] }
def k2m1 : Method := { name := "documentTopic", desc := "(II)D", sig := { parameters := [.int, .int], returnType := some .double }, accessFlags := 1, code := some k2c1 }
def k2c2 : Code := { maxStack := 4, maxLocals := 6, code := prog_37_method_12_code, exceptionTable := #[], attributes := #[] }
def k2m2 : Method := { name := "requireProbabilities", desc := "([D)V", sig := { parameters := [(.array .double)], returnType := none }, accessFlags := 10, code := some k2c2 }
/-- com/example/borrowed_prior/borrowedprior/model/TopicModel -/
def k2 : Class := { plain "com/example/borrowed_prior/borrowedprior/model/TopicModel" (some 0) with
  accessFlags := 49
  interfaces := #[]
  cf := some (fileOf pool2 19 #[] #[{ accessFlags := 1, nameIndex := 5, descriptorIndex := 105, attributes := #[] }, { accessFlags := 1, nameIndex := 95, descriptorIndex := 96, attributes := #[] }, { accessFlags := 10, nameIndex := 22, descriptorIndex := 23, attributes := #[] }] 49 2 #[] #[{ accessFlags := 18, nameIndex := 26, descriptorIndex := 27, attributes := #[] }, { accessFlags := 18, nameIndex := 30, descriptorIndex := 27, attributes := #[] }, { accessFlags := 18, nameIndex := 33, descriptorIndex := 27, attributes := #[] }, { accessFlags := 18, nameIndex := 36, descriptorIndex := 37, attributes := #[] }, { accessFlags := 18, nameIndex := 40, descriptorIndex := 41, attributes := #[] }, { accessFlags := 18, nameIndex := 44, descriptorIndex := 41, attributes := #[] }])
  fields := #[{ name := "topicCount", type := .int, accessFlags := 18, slot := 0, constantValue := 0 }, { name := "documentCount", type := .int, accessFlags := 18, slot := 1, constantValue := 0 }, { name := "termCount", type := .int, accessFlags := 18, slot := 2, constantValue := 0 }, { name := "tokenCount", type := .long, accessFlags := 18, slot := 3, constantValue := 0 }, { name := "documentTopics", type := (.array .double), accessFlags := 18, slot := 4, constantValue := 0 }, { name := "termTopics", type := (.array .double), accessFlags := 18, slot := 5, constantValue := 0 }]
  methods := #[k2m0, k2m1, k2m2]
  instanceTypes := #[.int, .int, .int, .long, (.array .double), (.array .double)]
  staticTypes := #[]
  resolved := Array.replicate 150 none
  statics := none }

def pool3 : Array CpInfo := pool [(1, u "java/lang/Cloneable"), (0, .class_ 1), (0, u "java/lang/Object"), (0, .class_ 3)] 3

/-- java/lang/Cloneable -/
def k3 : Class := { plain "java/lang/Cloneable" (some 0) with
  accessFlags := 1537
  interfaces := #[]
  cf := some (fileOf pool3 2 #[] #[] 1537 4 #[] #[])
  fields := #[]
  methods := #[]
  instanceTypes := #[]
  staticTypes := #[]
  resolved := Array.replicate 8 none
  statics := none }

def pool4 : Array CpInfo := pool [(1, u "java/io/Serializable"), (0, .class_ 1), (0, u "java/lang/Object"), (0, .class_ 3)] 3

/-- java/io/Serializable -/
def k4 : Class := { plain "java/io/Serializable" (some 0) with
  accessFlags := 1537
  interfaces := #[]
  cf := some (fileOf pool4 2 #[] #[] 1537 4 #[] #[])
  fields := #[]
  methods := #[]
  instanceTypes := #[]
  staticTypes := #[]
  resolved := Array.replicate 8 none
  statics := none }

/-- the primitive byte -/
def k5 : Class := { plain "byte" none with kind := .primitive 'B', accessFlags := 0x411 }
/-- [B -/
def k6 : Class := { plain "[B" (some 0) with kind := .array 5 .byte, interfaces := #[3, 4], accessFlags := 1041 }

/-- the primitive double -/
def k7 : Class := { plain "double" none with kind := .primitive 'D', accessFlags := 0x411 }
/-- [D -/
def k8 : Class := { plain "[D" (some 0) with kind := .array 7 .double, interfaces := #[3, 4], accessFlags := 1041 }

/-- the primitive int -/
def k9 : Class := { plain "int" none with kind := .primitive 'I', accessFlags := 0x411 }
/-- [I -/
def k10 : Class := { plain "[I" (some 0) with kind := .array 9 .int, interfaces := #[3, 4], accessFlags := 1041 }

def heap : Heap := #[]
def classes : Array Class := #[k0, k1, k2, k3, k4, k5, k6, k7, k8, k9, k10]
def interned : List (Array UInt16 × Addr) := []
def slotsUsed : Nat := 0
def theMethod : MethodId := ⟨1, 1⟩
def args0 : Array Value := #[.int 5, .int 7, .int 9, .int 11, .int 13, .long 15]
def aboutOver (below : List Frame) : State where
  vm := { classes := classes, interned := interned.toArray }
  heap := heap
  slotsUsed := slotsUsed
  threads := #[{ frames := .invoking theMethod args0 :: below }]
def below0 : List Frame := [.native { method := ⟨0, 0⟩, args := #[] }]
def about1 : State := aboutOver below0
def p0 : Program := .bare "" "" ""
def e0 : Env := launch0.env 0 0 0
theorem w_frames : about1.frames = Frame.invoking theMethod args0 :: below0 := rfl
set_option maxRecDepth 65536 in
theorem w_args : argsFit about1.vm theMethod args0 = true := by decide +kernel
set_option maxRecDepth 65536 in
theorem w_heap : heapFits about1 = true := by decide +kernel
set_option maxRecDepth 65536 in
theorem w_runnable : about1.curStatus? = some .runnable := by decide +kernel
set_option maxRecDepth 65536 in
theorem w_alone : about1.alone = true := by decide +kernel
set_option maxRecDepth 65536 in
theorem w_named : about1.methodNamed? x = some theMethod := by decide +kernel
set_option maxRecDepth 65536 in
theorem w_hears : about1.hears theMethod below0 = true := by decide +kernel
set_option maxRecDepth 65536 in
theorem w_ripe : about1.ripe theMethod args0 below0 = true := by decide +kernel
theorem w_running : about1.status = .running := rfl
set_option maxRecDepth 65536 in
theorem w_room : about1.hasRoom e0.platform room_1 = true :=
  launch0.hasRoom_least _ room_1 (by decide +kernel) (by decide +kernel) (by decide +kernel) (by decide +kernel) (by decide +kernel) (by decide +kernel)
theorem allAtoms_all (ts : List Jvm.Cond) (a : Array Jvm.Value) (st : Jvm.State) : (allAtoms ts).before a st = ts.all (fun c => c.before a st) := by
  induction ts with
  | nil => rfl
  | cons c t ih =>
    show (Jvm.Cond.and c (allAtoms t)).before a st = _
    rw [Jvm.Cond.before_and, ih, List.all_cons]
def words1 : List Jvm.Cond := Jvm.Cond.code x code maxLocals ret :: tables_1
/-- a 'code' word, met by the world's own term for the bytes: nothing is compared byte by byte -/
theorem code_word {y : MethodName} {bytes : ByteArray} {mx : Nat} {rt : Option FieldType} {a : Array Value} {s : State} {m : MethodId} {meth : Method} {c : Code} (h1 : s.methodNamed? y = some m) (h2 : s.vm.method? m = some meth) (h3 : meth.code = some c) (h4 : c.code = bytes)
    (h5 : (c.maxLocals == mx && c.exceptionTable.isEmpty && decide (c.maxStack ≤ mostOperands) && decide (meth.sig.returnType = rt) && !meth.locks && decide (parseMethodDescriptor y.desc = some meth.sig)) = true) : (Jvm.Cond.code y bytes mx rt).before a s = true := by
  simp only [Bool.and_eq_true, beq_iff_eq, Bool.not_eq_true', decide_eq_true_eq] at h5
  obtain ⟨⟨⟨⟨⟨g1, g2⟩, g3⟩, g4⟩, g5⟩, g6⟩ := h5
  simp [Cond.before, Cond.holds, Cond.value, h1, h2, h3, h4, g1, g2, g3, g4, g5, g6]
def isCode : Jvm.Cond → Bool
  | .code _ _ _ _ => true
  | _ => false
theorem all_split {L : List Jvm.Cond} {P : Jvm.Cond → Bool} (h1 : L.all (fun c => isCode c || P c) = true) (h2 : ∀ c ∈ L.filter isCode, P c = true) : L.all P = true := by
  refine List.all_eq_true.mpr fun c hc => ?_
  have h := List.all_eq_true.mp h1 c hc
  rcases Bool.eq_false_or_eq_true (isCode c) with hi | hi
  · exact h2 c (List.mem_filter.mpr ⟨hc, hi⟩)
  · simpa [hi] using h
set_option maxRecDepth 65536 in
theorem w_c0 : (Jvm.Cond.code x code maxLocals ret).before args0 about1 = true := code_word (m := ⟨1, 1⟩) (meth := k1m1) (c := k1c1) (by decide +kernel) rfl rfl rfl (by decide +kernel)
set_option maxRecDepth 65536 in
theorem w_c1 : (Jvm.Cond.code ({ cls := "com/example/borrowed_prior/borrowedprior/model/TopicModelDocumentTopicPinLaw", name := "put", desc := "([DIII)V" } : Jvm.MethodName) method_4_code (4 : Nat) (Option.none : Option Jvm.ClassFile.FieldType)).before args0 about1 = true := code_word (m := ⟨1, 3⟩) (meth := k1m3) (c := k1c3) (by decide +kernel) rfl rfl rfl (by decide +kernel)
set_option maxRecDepth 65536 in
theorem w_c2 : (Jvm.Cond.code ({ cls := "com/example/borrowed_prior/borrowedprior/model/TopicModelDocumentTopicPinLaw", name := "share", desc := "(III)D" } : Jvm.MethodName) method_3_code (3 : Nat) (Option.some Jvm.ClassFile.FieldType.double)).before args0 about1 = true := code_word (m := ⟨1, 2⟩) (meth := k1m2) (c := k1c2) (by decide +kernel) rfl rfl rfl (by decide +kernel)
set_option maxRecDepth 65536 in
theorem w_c3 : (Jvm.Cond.code ({ cls := "com/example/borrowed_prior/borrowedprior/model/TopicModel", name := "<init>", desc := "(IIIJ[D[D)V" } : Jvm.MethodName) prog_37_method_1_code (8 : Nat) (Option.none : Option Jvm.ClassFile.FieldType)).before args0 about1 = true := code_word (m := ⟨2, 0⟩) (meth := k2m0) (c := k2c0) (by decide +kernel) rfl rfl rfl (by decide +kernel)
set_option maxRecDepth 65536 in
theorem w_c4 : (Jvm.Cond.code ({ cls := "java/lang/Object", name := "<init>", desc := "()V" } : Jvm.MethodName) object_method_1_code (1 : Nat) (Option.none : Option Jvm.ClassFile.FieldType)).before args0 about1 = true := code_word (m := ⟨0, 0⟩) (meth := k0m0) (c := k0c0) (by decide +kernel) rfl rfl rfl (by decide +kernel)
set_option maxRecDepth 65536 in
theorem w_c5 : (Jvm.Cond.code ({ cls := "com/example/borrowed_prior/borrowedprior/model/TopicModel", name := "requireProbabilities", desc := "([D)V" } : Jvm.MethodName) prog_37_method_12_code (6 : Nat) (Option.none : Option Jvm.ClassFile.FieldType)).before args0 about1 = true := code_word (m := ⟨2, 2⟩) (meth := k2m2) (c := k2c2) (by decide +kernel) rfl rfl rfl (by decide +kernel)
set_option maxRecDepth 65536 in
theorem w_c6 : (Jvm.Cond.code ({ cls := "com/example/borrowed_prior/borrowedprior/model/TopicModel", name := "documentTopic", desc := "(II)D" } : Jvm.MethodName) prog_37_method_8_code (3 : Nat) (Option.some Jvm.ClassFile.FieldType.double)).before args0 about1 = true := code_word (m := ⟨2, 1⟩) (meth := k2m1) (c := k2c1) (by decide +kernel) rfl rfl rfl (by decide +kernel)
def codes1 : List Jvm.Cond := [Jvm.Cond.code x code maxLocals ret, Jvm.Cond.code ({ cls := "com/example/borrowed_prior/borrowedprior/model/TopicModelDocumentTopicPinLaw", name := "put", desc := "([DIII)V" } : Jvm.MethodName) method_4_code (4 : Nat) (Option.none : Option Jvm.ClassFile.FieldType), Jvm.Cond.code ({ cls := "com/example/borrowed_prior/borrowedprior/model/TopicModelDocumentTopicPinLaw", name := "share", desc := "(III)D" } : Jvm.MethodName) method_3_code (3 : Nat) (Option.some Jvm.ClassFile.FieldType.double), Jvm.Cond.code ({ cls := "com/example/borrowed_prior/borrowedprior/model/TopicModel", name := "<init>", desc := "(IIIJ[D[D)V" } : Jvm.MethodName) prog_37_method_1_code (8 : Nat) (Option.none : Option Jvm.ClassFile.FieldType), Jvm.Cond.code ({ cls := "java/lang/Object", name := "<init>", desc := "()V" } : Jvm.MethodName) object_method_1_code (1 : Nat) (Option.none : Option Jvm.ClassFile.FieldType), Jvm.Cond.code ({ cls := "com/example/borrowed_prior/borrowedprior/model/TopicModel", name := "requireProbabilities", desc := "([D)V" } : Jvm.MethodName) prog_37_method_12_code (6 : Nat) (Option.none : Option Jvm.ClassFile.FieldType), Jvm.Cond.code ({ cls := "com/example/borrowed_prior/borrowedprior/model/TopicModel", name := "documentTopic", desc := "(II)D" } : Jvm.MethodName) prog_37_method_8_code (3 : Nat) (Option.some Jvm.ClassFile.FieldType.double)]
set_option maxRecDepth 65536 in
theorem codes_eq : words1.filter isCode = codes1 := rfl
theorem w_codes : ∀ c ∈ words1.filter isCode, c.before args0 about1 = true := by
  rw [codes_eq]
  intro c hc
  simp only [codes1, List.mem_cons, List.not_mem_nil, or_false] at hc
  rcases hc with rfl | rfl | rfl | rfl | rfl | rfl | rfl
  · exact w_c0
  · exact w_c1
  · exact w_c2
  · exact w_c3
  · exact w_c4
  · exact w_c5
  · exact w_c6
set_option maxRecDepth 65536 in
theorem w_t1 : (words1.take 24).all (fun c => isCode c || c.before args0 about1) = true := by decide +kernel
set_option maxRecDepth 65536 in
theorem w_t2 : (words1.drop 24).all (fun c => isCode c || c.before args0 about1) = true := by decide +kernel
theorem w_tables : (allAtoms (Jvm.Cond.code x code maxLocals ret :: tables_1)).before args0 about1 = true := by
  rw [allAtoms_all]
  show words1.all (fun c => c.before args0 about1) = true
  refine all_split ?_ w_codes
  rw [← List.take_append_drop 24 words1, List.all_append, w_t1, w_t2]
  rfl
set_option maxRecDepth 65536 in
theorem w_case : (Jvm.Cond.and given_1 narrow_1).before args0 about1 = true := by decide +kernel
theorem w_applies : (headSpec (Jvm.Cond.code x code maxLocals ret :: tables_1) room_1).applies x e0.platform about1 = true :=
  (Spec.applies_iff w_frames).mpr ⟨w_running, w_runnable, w_alone, w_named, w_hears, w_ripe, w_room, w_tables⟩
theorem atStart : AtStart classFile x code maxLocals ret World_1 tables_1 room_1 Calls_1 rest_1 Pre_1 launch0 p0 e0 about1 theMethod args0 below0 :=
  ⟨lists_1, trivial, launch0.admits_env _ _ _, launch0.least_env, fairChoices_fair.cas, fairChoices_fair.clock, w_frames, w_args, w_heap, w_applies, trivial, trivial, w_case⟩
end start1
theorem witness_1 : WitnessClaimed_1 := ⟨start1.p0, start1.e0, start1.about1, start1.theMethod, start1.args0, start1.below0, start1.atStart⟩
end Jvm.Pilot.@@N@@
