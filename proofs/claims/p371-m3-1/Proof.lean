import JvmDerived
import JvmDerived.Pilot.@@N@@Statement
import JvmDerived.Pilot.@@N@@Code
set_option linter.unusedVariables false
set_option linter.unusedSimpArgs false
namespace Jvm.OwnFP
open Jvm.FP Jvm.FP.Core
/-- a double's value in units of the least double, 2^-1074 -/
abbrev Zv (a : UInt64) : Int := zval b64 (val64 a)
theorem fin_ne {a : UInt64} (h : DFin a) : val64 a ≠ .nan := by
  obtain ⟨s, c, q, h⟩ := h; rw [h]; exact Datum.noConfusion
theorem mul_ne {a b : UInt64} (ha : DFin a) (hb : DFin b) : val64 (FP.dmul a b) ≠ .nan :=
  Jvm.Free.Fl.val64_no.mp (Jvm.Free.Fl.dmul_out (Jvm.Free.Fl.fin64_core.mpr ha) (Jvm.Free.Fl.fin64_core.mpr hb))
theorem add_ne {a b : UInt64} (ha : DFin a) (hb : DFin b) : val64 (FP.dadd a b) ≠ .nan :=
  Jvm.Free.Fl.val64_no.mp (Jvm.Free.Fl.dadd_out (Jvm.Free.Fl.fin64_core.mpr ha).noNaN (Jvm.Free.Fl.fin64_core.mpr hb))
theorem sub_ne {a b : UInt64} (ha : DFin a) (hb : DFin b) : val64 (FP.dsub a b) ≠ .nan :=
  Jvm.Free.Fl.val64_no.mp (Jvm.Free.Fl.dsub_out (Jvm.Free.Fl.fin64_core.mpr ha).noNaN (Jvm.Free.Fl.fin64_core.mpr hb))
theorem fin_of {r U V : UInt64} (hr : val64 r ≠ .nan) (hU : DFin U) (hV : DFin V) (h1 : Zv U ≤ Zv r) (h2 : Zv r ≤ Zv V) : DFin r := by
  have uU := hU.zval_lt
  have uV := hV.zval_lt
  have aU : (Zv U).natAbs = zmag b64 (val64 U) := natAbs_signed _ _
  have aV : (Zv V).natAbs = zmag b64 (val64 V) := natAbs_signed _ _
  have ar : (Zv r).natAbs = zmag b64 (val64 r) := natAbs_signed _ _
  cases e : val64 r with
  | nan => exact absurd e hr
  | fin s c q => exact ⟨s, c, q, e⟩
  | inf s =>
    have e2 : zmag b64 (val64 r) = b64.tails * 2 ^ (b64.exps - 2) := by rw [e]; rfl
    rw [e2] at ar
    generalize b64.tails * 2 ^ (b64.exps - 2) = top at *
    omega
theorem dmul_le {a b V : UInt64} (ha : DFin a) (hb : DFin b) (hV : val64 V ≠ .nan) (h : Zv a * Zv b ≤ Zv V * (one64 : Int)) : Zv (FP.dmul a b) ≤ Zv V := by
  obtain ⟨s, c, q, ea⟩ := ha
  obtain ⟨t, d, r, eb⟩ := hb
  have fa := val64_fits a
  have fb := val64_fits b
  unfold Zv at h ⊢
  rw [ea] at fa h
  rw [eb] at fb h
  obtain ⟨p1, p2, p3⟩ := product_units fa fb
  rw [val64_dmul, ea, eb, p1]
  have hq := qmin_neg good_b64
  refine zval_round_le good_b64 (val64_fits V) hV (e0 := 2 * b64.qmin) (by omega) p2 ?_
  rw [p3, signed_xor, show (b64.qmin - 2 * b64.qmin).toNat = (-b64.qmin).toNat by omega, pow_qmin64]
  exact h
theorem dmul_ge {a b V : UInt64} (ha : DFin a) (hb : DFin b) (hV : val64 V ≠ .nan) (h : Zv V * (one64 : Int) ≤ Zv a * Zv b) : Zv V ≤ Zv (FP.dmul a b) := by
  obtain ⟨s, c, q, ea⟩ := ha
  obtain ⟨t, d, r, eb⟩ := hb
  have fa := val64_fits a
  have fb := val64_fits b
  unfold Zv at h ⊢
  rw [ea] at fa h
  rw [eb] at fb h
  obtain ⟨p1, p2, p3⟩ := product_units fa fb
  rw [val64_dmul, ea, eb, p1]
  have hq := qmin_neg good_b64
  refine zval_round_ge good_b64 (val64_fits V) hV (e0 := 2 * b64.qmin) (by omega) p2 ?_
  rw [p3, signed_xor, show (b64.qmin - 2 * b64.qmin).toNat = (-b64.qmin).toNat by omega, pow_qmin64]
  exact h
theorem dadd_le {a b V : UInt64} (ha : DFin a) (hb : DFin b) (hV : val64 V ≠ .nan) (h : Zv a + Zv b ≤ Zv V) : Zv (FP.dadd a b) ≤ Zv V := by
  unfold Zv at h ⊢
  rw [val64_dadd]; exact sum_le good_b64 ha hb (val64_fits a) (val64_fits b) (val64_fits V) hV h
theorem dadd_ge {a b V : UInt64} (ha : DFin a) (hb : DFin b) (hV : val64 V ≠ .nan) (h : Zv V ≤ Zv a + Zv b) : Zv V ≤ Zv (FP.dadd a b) := by
  unfold Zv at h ⊢
  rw [val64_dadd]; exact sum_ge good_b64 ha hb (val64_fits a) (val64_fits b) (val64_fits V) hV h
theorem neg_fin {a : UInt64} (h : DFin a) : DFin (FP.dneg a) := by
  obtain ⟨s, c, q, h⟩ := h
  exact ⟨!s, c, q, by rw [FP.val64_dneg, h]; rfl⟩
theorem Zv_neg (a : UInt64) : Zv (FP.dneg a) = -Zv a := by unfold Zv; rw [FP.val64_dneg, zval_negate]
theorem cneg_fin {a : UInt64} (h : DFin a) : DFin (Core.dneg a) := by
  obtain ⟨s, c, q, h⟩ := h
  exact ⟨!s, c, q, by rw [Core.val64_dneg, h]; rfl⟩
theorem Zv_cneg (a : UInt64) : Zv (Core.dneg a) = -Zv a := by unfold Zv; rw [Core.val64_dneg, zval_negate]
theorem dsub_le {a b V : UInt64} (ha : DFin a) (hb : DFin b) (hV : val64 V ≠ .nan) (h : Zv a - Zv b ≤ Zv V) : Zv (FP.dsub a b) ≤ Zv V := by
  show Zv (Core.dsub a b) ≤ _
  rw [Core.dsub_eq]; exact dadd_le ha (cneg_fin hb) hV (by rw [Zv_cneg]; omega)
theorem dsub_ge {a b V : UInt64} (ha : DFin a) (hb : DFin b) (hV : val64 V ≠ .nan) (h : Zv V ≤ Zv a - Zv b) : Zv V ≤ Zv (FP.dsub a b) := by
  show _ ≤ Zv (Core.dsub a b)
  rw [Core.dsub_eq]; exact dadd_ge ha (cneg_fin hb) hV (by rw [Zv_cneg]; omega)
/-- where the exact value is a double's, it is the result's -/
theorem dmul_eq {a b V : UInt64} (ha : DFin a) (hb : DFin b) (hV : DFin V) (h : Zv a * Zv b = Zv V * (one64 : Int)) : DFin (FP.dmul a b) ∧ Zv (FP.dmul a b) = Zv V := by
  have h1 := dmul_le ha hb (fin_ne hV) (Int.le_of_eq h)
  have h2 := dmul_ge ha hb (fin_ne hV) (Int.le_of_eq h.symm)
  exact ⟨fin_of (mul_ne ha hb) hV hV h2 h1, Int.le_antisymm h1 h2⟩
theorem dadd_eq {a b V : UInt64} (ha : DFin a) (hb : DFin b) (hV : DFin V) (h : Zv a + Zv b = Zv V) : DFin (FP.dadd a b) ∧ Zv (FP.dadd a b) = Zv V := by
  have h1 := dadd_le ha hb (fin_ne hV) (Int.le_of_eq h)
  have h2 := dadd_ge ha hb (fin_ne hV) (Int.le_of_eq h.symm)
  exact ⟨fin_of (add_ne ha hb) hV hV h2 h1, Int.le_antisymm h1 h2⟩
theorem dsub_eq {a b V : UInt64} (ha : DFin a) (hb : DFin b) (hV : DFin V) (h : Zv a - Zv b = Zv V) : DFin (FP.dsub a b) ∧ Zv (FP.dsub a b) = Zv V := by
  have h1 := dsub_le ha hb (fin_ne hV) (Int.le_of_eq h)
  have h2 := dsub_ge ha hb (fin_ne hV) (Int.le_of_eq h.symm)
  exact ⟨fin_of (sub_ne ha hb) hV hV h2 h1, Int.le_antisymm h1 h2⟩
theorem signed_self (N : Int) (k : Nat) : signed (decide (N < 0)) (N.natAbs * k) = N * (k : Int) := by
  rw [signed_mul]
  congr 1
  unfold signed
  by_cases h : N < 0 <;> simp [h] <;> omega
/-- every N * 2^k units, N of up to 53 digits, is a double -/
theorem rep (N : Int) (k : Nat) (hN : N.natAbs < 2 ^ 53) (hk : k ≤ 2045) : ∃ V, DFin V ∧ Zv V = N * ((2 ^ k : Nat) : Int) := by
  have q1 := qmin_b64
  have q2 : b64.qmax = 971 := by decide
  obtain ⟨c', q', h1, h2⟩ := round_exact good_b64 (decide (N < 0)) (c := N.natAbs) (q := (k : Int) - 1074) hN (by omega) (by omega)
  have hv : val64 (of64 (round b64 (.fin (decide (N < 0)) N.natAbs ((k : Int) - 1074)))) = .fin (decide (N < 0)) c' q' := by
    rw [val64_of64 (round_fits good_b64 _), h1]
  refine ⟨_, ⟨_, _, _, hv⟩, ?_⟩
  unfold Zv
  rw [hv]
  show signed (decide (N < 0)) (inUnits c' q' b64.qmin) = _
  rw [h2, q1]
  unfold inUnits
  rw [show ((k : Int) - 1074 - -1074).toNat = k by omega]
  exact signed_self N _
/-- the double a is N * 2^(k - 1074) -/
def Val (a : UInt64) (N : Int) (k : Nat) : Prop := DFin a ∧ Zv a = N * ((2 ^ k : Nat) : Int)
theorem one_pow : (one64 : Int) = ((2 ^ 1074 : Nat) : Int) := rfl
theorem Val.of_int {i : Int} {a : UInt64} (h : DInt i a) : Val a i 1074 := by
  refine ⟨?_, (DInt_zval h).trans (by rw [one_pow])⟩
  unfold DInt at h
  cases e : val64 a with
  | nan => rw [e] at h; exact h.elim
  | inf s => rw [e] at h; exact h.elim
  | fin s c q => exact ⟨s, c, q, e⟩
theorem Val.i2d (n : Int32) : Val (FP.i2d n) n.toInt 1074 := Val.of_int (i2d_int n)
theorem Val.l2d {n : Int64} (h : n.toInt.natAbs ≤ 2 ^ 53) : Val (FP.l2d n) n.toInt 1074 := Val.of_int (l2d_int h)
theorem Val.neg {a : UInt64} {N : Int} {k : Nat} (h : Val a N k) : Val (FP.dneg a) (-N) k := ⟨neg_fin h.1, by rw [Zv_neg, h.2, Int.neg_mul]⟩
theorem pow_cast (k j : Nat) : ((2 ^ (k + j) : Nat) : Int) = ((2 ^ k : Nat) : Int) * ((2 ^ j : Nat) : Int) := by
  rw [Nat.pow_add, Int.natCast_mul]
theorem Val.mul {a b : UInt64} {N M : Int} {k j i : Nat} (ha : Val a N k) (hb : Val b M j) (hN : (N * M).natAbs < 2 ^ 53) (hi : k + j = i + 1074) (hk : i ≤ 2045) : Val (FP.dmul a b) (N * M) i := by
  obtain ⟨V, fV, zV⟩ := rep (N * M) i hN hk
  obtain ⟨h1, h2⟩ := dmul_eq ha.1 hb.1 fV (by
    rw [ha.2, hb.2, zV, one_pow, Int.mul_assoc (N * M), ← pow_cast, ← hi, pow_cast, Int.mul_assoc N M, Int.mul_assoc N, Int.mul_left_comm _ M])
  exact ⟨h1, h2.trans zV⟩
theorem Val.add {a b : UInt64} {N M : Int} {k : Nat} (ha : Val a N k) (hb : Val b M k) (hN : (N + M).natAbs < 2 ^ 53) (hk : k ≤ 2045) : Val (FP.dadd a b) (N + M) k := by
  obtain ⟨V, fV, zV⟩ := rep (N + M) k hN hk
  obtain ⟨h1, h2⟩ := dadd_eq ha.1 hb.1 fV (by rw [ha.2, hb.2, zV, Int.add_mul])
  exact ⟨h1, h2.trans zV⟩
theorem Val.sub {a b : UInt64} {N M : Int} {k : Nat} (ha : Val a N k) (hb : Val b M k) (hN : (N - M).natAbs < 2 ^ 53) (hk : k ≤ 2045) : Val (FP.dsub a b) (N - M) k := by
  obtain ⟨V, fV, zV⟩ := rep (N - M) k hN hk
  obtain ⟨h1, h2⟩ := dsub_eq ha.1 hb.1 fV (by rw [ha.2, hb.2, zV, Int.sub_mul])
  exact ⟨h1, h2.trans zV⟩
theorem pow_pos' (k : Nat) : (0 : Int) < ((2 ^ k : Nat) : Int) := by have := Nat.two_pow_pos k; omega
theorem Val.cmp {a b : UInt64} {N M : Int} {k : Nat} (ha : Val a N k) (hb : Val b M k) : FP.dcmp a b = some (compare N M) := by
  have h : FP.dcmp a b = some (compare (Zv a) (Zv b)) := dcmp_zval (fin_ne ha.1) (fin_ne hb.1)
  rw [h, ha.2, hb.2, compare_mul_pos _ _ _ (pow_pos' k)]
theorem Val.scale {a : UInt64} {N : Int} {k : Nat} (j : Nat) (ha : Val a N (k + j)) : Val a (N * ((2 ^ j : Nat) : Int)) k :=
  ⟨ha.1, by rw [ha.2, pow_cast, Int.mul_assoc, Int.mul_comm ((2 ^ k : Nat) : Int)]⟩
theorem lt_iff {a b : UInt64} (ha : DFin a) (hb : DFin b) : FP.dcmp a b = some .lt ↔ Zv a < Zv b :=
  ⟨fun h => (dcmp_lt.mp h).2.2, fun h => dcmp_lt.mpr ⟨fin_ne ha, fin_ne hb, h⟩⟩
theorem eq_iff {a b : UInt64} (ha : DFin a) (hb : DFin b) : FP.dcmp a b = some .eq ↔ Zv a = Zv b :=
  ⟨fun h => (dcmp_eq.mp h).2.2, fun h => dcmp_eq.mpr ⟨fin_ne ha, fin_ne hb, h⟩⟩
theorem le_iff {a b : UInt64} (ha : DFin a) (hb : DFin b) : (FP.dcmp a b = some .lt ∨ FP.dcmp a b = some .eq) ↔ Zv a ≤ Zv b := by
  rw [lt_iff ha hb, eq_iff ha hb]; omega
theorem dfin_const {a : UInt64} (h : a.toNat % 9223372036854775808 < 9218868437227405312) : DFin a := (Core.fin_bits a).mpr h
end Jvm.OwnFP
namespace Jvm.OwnFP
open Jvm.FP Jvm.FP.Core
theorem ratio_units {s t : Bool} {c d : Nat} {q r : Int} (fa : Core.fits b64 (.fin s c q)) (fb : Core.fits b64 (.fin t d r)) :
    2 * b64.qmin - r ≤ b64.qmin ∧ 2 * b64.qmin - r ≤ q - r ∧ inUnits c (q - r) (2 * b64.qmin - r) = zmag b64 (.fin s c q) * one64 ∧
    ∀ m : Nat, m * 2 ^ (b64.qmin - (2 * b64.qmin - r)).toNat * d = m * zmag b64 (.fin t d r) := by
  have h1 : b64.qmin ≤ q := fa.2.1
  have h2 : b64.qmin ≤ r := fb.2.1
  have hq := qmin_neg good_b64
  refine ⟨by omega, by omega, ?_, fun m => ?_⟩
  · show c * 2 ^ (q - r - (2 * b64.qmin - r)).toNat = c * 2 ^ (q - b64.qmin).toNat * one64
    rw [← pow_qmin64, Nat.mul_assoc, ← Nat.pow_add]
    congr 2; omega
  · show m * 2 ^ (b64.qmin - (2 * b64.qmin - r)).toNat * d = m * (d * 2 ^ (r - b64.qmin).toNat)
    rw [show (b64.qmin - (2 * b64.qmin - r)).toNat = (r - b64.qmin).toNat by omega, Nat.mul_assoc, Nat.mul_comm d]
theorem div_form {a b : UInt64} (hb : 0 < Zv b) {s t : Bool} {c d : Nat} {q r : Int} (ea : val64 a = .fin s c q) (eb : val64 b = .fin t d r) :
    0 < d ∧ t = false ∧ val64 (FP.ddiv a b) = roundRatio b64 s c d (q - r) := by
  have hd : d ≠ 0 := by
    intro hd
    unfold Zv at hb
    rw [eb, hd] at hb
    have : zval b64 (.fin t 0 r) = 0 := by
      show signed t (0 * _) = 0
      rw [Nat.zero_mul]; exact signed_zero t
    omega
  have ht : t = false := by
    cases t with
    | false => rfl
    | true =>
      exfalso
      unfold Zv at hb
      rw [eb] at hb
      have : zval b64 (.fin true d r) = -((zmag b64 (.fin true d r) : Nat) : Int) := rfl
      omega
  subst ht
  refine ⟨by omega, rfl, ?_⟩
  rw [val64_ddiv, ea, eb]
  show (if d = 0 then _ else roundRatio b64 (s != false) c d (q - r)) = _
  rw [if_neg hd]
  cases s <;> rfl
theorem zsgn {s : Bool} {c : Nat} {q : Int} : zval b64 (.fin s c q) = signed s (zmag b64 (.fin s c q)) := rfl
theorem zval_rr (s : Bool) (A B : Nat) (e : Int) : zval b64 (roundRatio b64 s A B e) = signed s (zmag b64 (roundRatio b64 s A B e)) := by
  unfold zval; rw [sgn_roundRatio]
theorem zmag_of (V : UInt64) : (0 ≤ Zv V → ((zmag b64 (val64 V) : Nat) : Int) = Zv V) ∧ (Zv V ≤ 0 → ((zmag b64 (val64 V) : Nat) : Int) = -Zv V) := by
  have h : Zv V = signed (sgn (val64 V)) (zmag b64 (val64 V)) := rfl
  cases hs : sgn (val64 V) <;> rw [hs] at h <;> simp only [signed, if_true, Bool.false_eq_true, if_false] at h <;> omega
theorem ddiv_le {a b V : UInt64} (ha : DFin a) (hb : DFin b) (hb0 : 0 < Zv b) (hV : val64 V ≠ .nan) (h : Zv a * (one64 : Int) ≤ Zv V * Zv b) : Zv (FP.ddiv a b) ≤ Zv V := by
  obtain ⟨s, c, q, ea⟩ := ha
  obtain ⟨t, d, r, eb⟩ := hb
  obtain ⟨hd, rfl, e⟩ := div_form hb0 ea eb
  have fa := val64_fits a
  have fb := val64_fits b
  rw [ea] at fa
  rw [eb] at fb
  obtain ⟨u1, u2, u3, u4⟩ := ratio_units fa fb
  obtain ⟨v1, v2⟩ := zmag_of V
  have za : Zv a = signed s (zmag b64 (.fin s c q)) := by unfold Zv; rw [ea]; rfl
  have zb : Zv b = ((zmag b64 (.fin false d r) : Nat) : Int) := by unfold Zv; rw [eb]; rfl
  rw [zb] at h hb0
  rw [za] at h
  show zval b64 (val64 (FP.ddiv a b)) ≤ Zv V
  rw [e, zval_rr]
  have op := one64_pos
  cases s with
  | false =>
    simp only [signed, Bool.false_eq_true, if_false] at h ⊢
    have hV0 : 0 ≤ Zv V := Int.not_lt.mp fun hn => by
      have : Zv V * ((zmag b64 (.fin false d r) : Nat) : Int) < 0 := Int.mul_neg_of_neg_of_pos hn hb0
      have : (0 : Int) ≤ ((zmag b64 (.fin false c q) : Nat) : Int) * (one64 : Int) := Int.mul_nonneg (by omega) (by omega)
      omega
    have := zmag_roundRatio_le good_b64 (s := false) (A := c) (B := d) (e := q - r) hd (val64_fits V) hV u1 u2 (by
      rw [u3, u4]
      rw [← v1 hV0] at h
      exact Int.ofNat_le.mp (by rw [Int.natCast_mul, Int.natCast_mul]; exact h))
    have := v1 hV0
    omega
  | true =>
    simp only [signed, if_true] at h ⊢
    by_cases hV0 : 0 ≤ Zv V
    · omega
    · have hv := v2 (by omega)
      have := zmag_roundRatio_ge good_b64 (s := true) (A := c) (B := d) (e := q - r) hd (val64_fits V) u1 u2 (by
        rw [u3, u4]
        refine Int.ofNat_le.mp ?_
        rw [Int.natCast_mul, Int.natCast_mul, hv, Int.neg_mul]
        rw [Int.neg_mul] at h
        omega)
      omega
theorem neg_ddiv (a b : UInt64) : Zv (FP.ddiv (Core.dneg a) b) = -Zv (FP.ddiv a b) := by
  show Zv (Core.ddiv (Core.dneg a) b) = _
  rw [Core.ddiv_dneg, Zv_cneg]
theorem ddiv_ge {a b V : UInt64} (ha : DFin a) (hb : DFin b) (hb0 : 0 < Zv b) (hV : val64 V ≠ .nan) (h : Zv V * Zv b ≤ Zv a * (one64 : Int)) : Zv V ≤ Zv (FP.ddiv a b) := by
  have := ddiv_le (a := Core.dneg a) (b := b) (V := Core.dneg V) (cneg_fin ha) hb hb0 (by rw [Core.val64_dneg]; exact negate_ne_nan hV) (by rw [Zv_cneg, Zv_cneg, Int.neg_mul, Int.neg_mul]; omega)
  rw [neg_ddiv, Zv_cneg] at this
  omega
theorem div_ne {a b : UInt64} (ha : DFin a) (hb : DFin b) (hb0 : 0 < Zv b) : val64 (FP.ddiv a b) ≠ .nan := by
  obtain ⟨s, c, q, ea⟩ := ha
  obtain ⟨t, d, r, eb⟩ := hb
  obtain ⟨hd, rfl, e⟩ := div_form hb0 ea eb
  rw [e]; exact roundRatio_ne_nan _ _ _ _ _
theorem ddiv_eq {a b V : UInt64} (ha : DFin a) (hb : DFin b) (hb0 : 0 < Zv b) (hV : DFin V) (h : Zv a * (one64 : Int) = Zv V * Zv b) : DFin (FP.ddiv a b) ∧ Zv (FP.ddiv a b) = Zv V := by
  have h1 := ddiv_le ha hb hb0 (fin_ne hV) (Int.le_of_eq h)
  have h2 := ddiv_ge ha hb hb0 (fin_ne hV) (Int.le_of_eq h.symm)
  exact ⟨fin_of (div_ne ha hb hb0) hV hV h2 h1, Int.le_antisymm h1 h2⟩
/-- a quotient by a power of two -/
theorem Val.div2 {a b : UInt64} {N : Int} {k i : Nat} (ha : Val a N k) (hb : Val b 1 i) (hN : N.natAbs < 2 ^ 53) {j : Nat} (hi : k + 1074 = j + i) (hj : j ≤ 2045) : Val (FP.ddiv a b) N j := by
  obtain ⟨V, fV, zV⟩ := rep N j hN hj
  have hb0 : 0 < Zv b := by rw [hb.2, Int.one_mul]; exact pow_pos' i
  obtain ⟨h1, h2⟩ := ddiv_eq ha.1 hb.1 hb0 fV (by rw [ha.2, hb.2, zV, one_pow, Int.one_mul, Int.mul_assoc, Int.mul_assoc, ← pow_cast, ← pow_cast, hi])
  exact ⟨h1, h2.trans zV⟩
end Jvm.OwnFP
namespace Jvm.Pilot.@@N@@
open Jvm Jvm.ClassFile Sem Op Lib Jvm.Free Jvm.Stand Jvm.LawKit Jvm.RoadKit Bundle Jvm.Pilot.@@N@@.Jvm.D
abbrev Go (p : Program) (e : Env) (below : List Frame) (t T : State) (m : MethodId) (pc : Nat) (ls : Array Slot) (st : List Value) : Prop := Steps p.tables e below (T.setTop (mkF m pc ls st)) t
/-- from A the run comes to B -/
def Goes (p : Program) (e : Env) (below : List Frame) (A B : State) : Prop := ∀ t, Steps p.tables e below B t → Steps p.tables e below A t
abbrev dLt (x y : UInt64) : Prop := FP.dcmp x y = some .lt
abbrev dEq (x y : UInt64) : Prop := FP.dcmp x y = some .eq
abbrev dLe (x y : UInt64) : Prop := FP.dcmp x y = some .lt ∨ FP.dcmp x y = some .eq
abbrev fLt (x y : UInt32) : Prop := FP.fcmp x y = some .lt
abbrev fEq (x y : UInt32) : Prop := FP.fcmp x y = some .eq
abbrev fLe (x y : UInt32) : Prop := FP.fcmp x y = some .lt ∨ FP.fcmp x y = some .eq
theorem Sta.keepO {Z : State} {h h' : Heap} {C n d : String} {v : Value} {ws : List Addr} (F : Sta Z h C n d v) (K : Keep h h' ws) (q : ∀ x ∈ ws, ∀ cell : Cell, h[x]? = some cell → cell.vm.isStatics = false) : Sta Z h' C n d v := by
  obtain ⟨cf, i, k, f, st, cell, h1, h2, h3, h4, h5, h6, h7⟩ := F
  refine ⟨cf, i, k, f, st, cell, h1, h2, h3, h4, K.2.1 _ _ h5 fun hm => ?_, h6, h7⟩
  rw [q _ hm _ h5] at h6; cases h6
theorem own_swap (o : Option Ordering) : o.map Ordering.swap = some .lt ↔ o = some .gt := by rcases o with _ | (_ | _ | _) <;> simp [Ordering.swap]
theorem own_swapE (o : Option Ordering) : o.map Ordering.swap = some .eq ↔ o = some .eq := by rcases o with _ | (_ | _ | _) <;> simp [Ordering.swap]
theorem own_dgt (x y : UInt64) : dLt y x ↔ FP.dcmp x y = some .gt := by
  show FP.Core.dcmp y x = some .lt ↔ FP.Core.dcmp x y = some .gt
  rw [FP.Core.dcmp_swap x y]; exact own_swap _
theorem own_dge (x y : UInt64) : dLe y x ↔ (FP.dcmp x y = some .gt ∨ FP.dcmp x y = some .eq) := by
  show (FP.Core.dcmp y x = some .lt ∨ FP.Core.dcmp y x = some .eq) ↔ (FP.Core.dcmp x y = some .gt ∨ FP.Core.dcmp x y = some .eq)
  rw [FP.Core.dcmp_swap x y, own_swap, own_swapE]
theorem own_fgt (x y : UInt32) : fLt y x ↔ FP.fcmp x y = some .gt := by
  show FP.Core.fcmp y x = some .lt ↔ FP.Core.fcmp x y = some .gt
  rw [FP.Core.fcmp_swap x y]; exact own_swap _
theorem own_fge (x y : UInt32) : fLe y x ↔ (FP.fcmp x y = some .gt ∨ FP.fcmp x y = some .eq) := by
  show (FP.Core.fcmp y x = some .lt ∨ FP.Core.fcmp y x = some .eq) ↔ (FP.Core.fcmp x y = some .gt ∨ FP.Core.fcmp x y = some .eq)
  rw [FP.Core.fcmp_swap x y, own_swap, own_swapE]
theorem own_c (o : Option Ordering) :
    (o = some .lt → ifCond.holds .ge (cmpValue o .g) = false ∧ ifCond.holds .lt (cmpValue o .g) = true) ∧
    (¬ o = some .lt → ifCond.holds .ge (cmpValue o .g) = true ∧ ifCond.holds .lt (cmpValue o .g) = false) ∧
    ((o = some .lt ∨ o = some .eq) → ifCond.holds .gt (cmpValue o .g) = false ∧ ifCond.holds .le (cmpValue o .g) = true) ∧
    (¬ (o = some .lt ∨ o = some .eq) → ifCond.holds .gt (cmpValue o .g) = true ∧ ifCond.holds .le (cmpValue o .g) = false) ∧
    (o = some .gt → ifCond.holds .le (cmpValue o .l) = false ∧ ifCond.holds .gt (cmpValue o .l) = true) ∧
    (¬ o = some .gt → ifCond.holds .le (cmpValue o .l) = true ∧ ifCond.holds .gt (cmpValue o .l) = false) ∧
    ((o = some .gt ∨ o = some .eq) → ifCond.holds .lt (cmpValue o .l) = false ∧ ifCond.holds .ge (cmpValue o .l) = true) ∧
    (¬ (o = some .gt ∨ o = some .eq) → ifCond.holds .lt (cmpValue o .l) = true ∧ ifCond.holds .ge (cmpValue o .l) = false) ∧
    (o = some .eq → ∀ q, ifCond.holds .ne (cmpValue o q) = false ∧ ifCond.holds .eq (cmpValue o q) = true) ∧
    (¬ o = some .eq → ∀ q, ifCond.holds .ne (cmpValue o q) = true ∧ ifCond.holds .eq (cmpValue o q) = false) := by
  refine ⟨?_, ?_, ?_, ?_, ?_, ?_, ?_, ?_, ?_, ?_⟩ <;> rcases o with _ | (_ | _ | _) <;> first | (intro h; exact ⟨by decide, by decide⟩) | (intro h q; cases q <;> exact ⟨by decide, by decide⟩) | (intro h; simp at h; done) | (intro h; exact absurd rfl h) | (intro h; exact absurd (Or.inl rfl) h) | (intro h; exact absurd (Or.inr rfl) h)
theorem dc_g_ge_f {x y : UInt64} (h : dLt x y) : ifCond.holds .ge (cmpValue (FP.dcmp x y) .g) = false := ((own_c _).1 h).1
theorem dc_g_ge_t {x y : UInt64} (h : ¬ dLt x y) : ifCond.holds .ge (cmpValue (FP.dcmp x y) .g) = true := ((own_c _).2.1 h).1
theorem dc_g_lt_t {x y : UInt64} (h : dLt x y) : ifCond.holds .lt (cmpValue (FP.dcmp x y) .g) = true := ((own_c _).1 h).2
theorem dc_g_lt_f {x y : UInt64} (h : ¬ dLt x y) : ifCond.holds .lt (cmpValue (FP.dcmp x y) .g) = false := ((own_c _).2.1 h).2
theorem dc_g_gt_f {x y : UInt64} (h : dLe x y) : ifCond.holds .gt (cmpValue (FP.dcmp x y) .g) = false := ((own_c _).2.2.1 h).1
theorem dc_g_gt_t {x y : UInt64} (h : ¬ dLe x y) : ifCond.holds .gt (cmpValue (FP.dcmp x y) .g) = true := ((own_c _).2.2.2.1 h).1
theorem dc_g_le_t {x y : UInt64} (h : dLe x y) : ifCond.holds .le (cmpValue (FP.dcmp x y) .g) = true := ((own_c _).2.2.1 h).2
theorem dc_g_le_f {x y : UInt64} (h : ¬ dLe x y) : ifCond.holds .le (cmpValue (FP.dcmp x y) .g) = false := ((own_c _).2.2.2.1 h).2
theorem dc_l_le_f {x y : UInt64} (h : dLt y x) : ifCond.holds .le (cmpValue (FP.dcmp x y) .l) = false := ((own_c _).2.2.2.2.1 ((own_dgt x y).mp h)).1
theorem dc_l_le_t {x y : UInt64} (h : ¬ dLt y x) : ifCond.holds .le (cmpValue (FP.dcmp x y) .l) = true := ((own_c _).2.2.2.2.2.1 (fun q => h ((own_dgt x y).mpr q))).1
theorem dc_l_gt_t {x y : UInt64} (h : dLt y x) : ifCond.holds .gt (cmpValue (FP.dcmp x y) .l) = true := ((own_c _).2.2.2.2.1 ((own_dgt x y).mp h)).2
theorem dc_l_gt_f {x y : UInt64} (h : ¬ dLt y x) : ifCond.holds .gt (cmpValue (FP.dcmp x y) .l) = false := ((own_c _).2.2.2.2.2.1 (fun q => h ((own_dgt x y).mpr q))).2
theorem dc_l_lt_f {x y : UInt64} (h : dLe y x) : ifCond.holds .lt (cmpValue (FP.dcmp x y) .l) = false := ((own_c _).2.2.2.2.2.2.1 ((own_dge x y).mp h)).1
theorem dc_l_lt_t {x y : UInt64} (h : ¬ dLe y x) : ifCond.holds .lt (cmpValue (FP.dcmp x y) .l) = true := ((own_c _).2.2.2.2.2.2.2.1 (fun q => h ((own_dge x y).mpr q))).1
theorem dc_l_ge_t {x y : UInt64} (h : dLe y x) : ifCond.holds .ge (cmpValue (FP.dcmp x y) .l) = true := ((own_c _).2.2.2.2.2.2.1 ((own_dge x y).mp h)).2
theorem dc_l_ge_f {x y : UInt64} (h : ¬ dLe y x) : ifCond.holds .ge (cmpValue (FP.dcmp x y) .l) = false := ((own_c _).2.2.2.2.2.2.2.1 (fun q => h ((own_dge x y).mpr q))).2
theorem dc_l_ne_f {x y : UInt64} (h : dEq x y) : ifCond.holds .ne (cmpValue (FP.dcmp x y) .l) = false := ((own_c _).2.2.2.2.2.2.2.2.1 h _).1
theorem dc_l_ne_t {x y : UInt64} (h : ¬ dEq x y) : ifCond.holds .ne (cmpValue (FP.dcmp x y) .l) = true := ((own_c _).2.2.2.2.2.2.2.2.2 h _).1
theorem dc_l_eq_t {x y : UInt64} (h : dEq x y) : ifCond.holds .eq (cmpValue (FP.dcmp x y) .l) = true := ((own_c _).2.2.2.2.2.2.2.2.1 h _).2
theorem dc_l_eq_f {x y : UInt64} (h : ¬ dEq x y) : ifCond.holds .eq (cmpValue (FP.dcmp x y) .l) = false := ((own_c _).2.2.2.2.2.2.2.2.2 h _).2
theorem dc_g_ne_f {x y : UInt64} (h : dEq x y) : ifCond.holds .ne (cmpValue (FP.dcmp x y) .g) = false := ((own_c _).2.2.2.2.2.2.2.2.1 h _).1
theorem dc_g_ne_t {x y : UInt64} (h : ¬ dEq x y) : ifCond.holds .ne (cmpValue (FP.dcmp x y) .g) = true := ((own_c _).2.2.2.2.2.2.2.2.2 h _).1
theorem dc_g_eq_t {x y : UInt64} (h : dEq x y) : ifCond.holds .eq (cmpValue (FP.dcmp x y) .g) = true := ((own_c _).2.2.2.2.2.2.2.2.1 h _).2
theorem dc_g_eq_f {x y : UInt64} (h : ¬ dEq x y) : ifCond.holds .eq (cmpValue (FP.dcmp x y) .g) = false := ((own_c _).2.2.2.2.2.2.2.2.2 h _).2
theorem fc_g_ge_f {x y : UInt32} (h : fLt x y) : ifCond.holds .ge (cmpValue (FP.fcmp x y) .g) = false := ((own_c _).1 h).1
theorem fc_g_ge_t {x y : UInt32} (h : ¬ fLt x y) : ifCond.holds .ge (cmpValue (FP.fcmp x y) .g) = true := ((own_c _).2.1 h).1
theorem fc_g_lt_t {x y : UInt32} (h : fLt x y) : ifCond.holds .lt (cmpValue (FP.fcmp x y) .g) = true := ((own_c _).1 h).2
theorem fc_g_lt_f {x y : UInt32} (h : ¬ fLt x y) : ifCond.holds .lt (cmpValue (FP.fcmp x y) .g) = false := ((own_c _).2.1 h).2
theorem fc_g_gt_f {x y : UInt32} (h : fLe x y) : ifCond.holds .gt (cmpValue (FP.fcmp x y) .g) = false := ((own_c _).2.2.1 h).1
theorem fc_g_gt_t {x y : UInt32} (h : ¬ fLe x y) : ifCond.holds .gt (cmpValue (FP.fcmp x y) .g) = true := ((own_c _).2.2.2.1 h).1
theorem fc_g_le_t {x y : UInt32} (h : fLe x y) : ifCond.holds .le (cmpValue (FP.fcmp x y) .g) = true := ((own_c _).2.2.1 h).2
theorem fc_g_le_f {x y : UInt32} (h : ¬ fLe x y) : ifCond.holds .le (cmpValue (FP.fcmp x y) .g) = false := ((own_c _).2.2.2.1 h).2
theorem fc_l_le_f {x y : UInt32} (h : fLt y x) : ifCond.holds .le (cmpValue (FP.fcmp x y) .l) = false := ((own_c _).2.2.2.2.1 ((own_fgt x y).mp h)).1
theorem fc_l_le_t {x y : UInt32} (h : ¬ fLt y x) : ifCond.holds .le (cmpValue (FP.fcmp x y) .l) = true := ((own_c _).2.2.2.2.2.1 (fun q => h ((own_fgt x y).mpr q))).1
theorem fc_l_gt_t {x y : UInt32} (h : fLt y x) : ifCond.holds .gt (cmpValue (FP.fcmp x y) .l) = true := ((own_c _).2.2.2.2.1 ((own_fgt x y).mp h)).2
theorem fc_l_gt_f {x y : UInt32} (h : ¬ fLt y x) : ifCond.holds .gt (cmpValue (FP.fcmp x y) .l) = false := ((own_c _).2.2.2.2.2.1 (fun q => h ((own_fgt x y).mpr q))).2
theorem fc_l_lt_f {x y : UInt32} (h : fLe y x) : ifCond.holds .lt (cmpValue (FP.fcmp x y) .l) = false := ((own_c _).2.2.2.2.2.2.1 ((own_fge x y).mp h)).1
theorem fc_l_lt_t {x y : UInt32} (h : ¬ fLe y x) : ifCond.holds .lt (cmpValue (FP.fcmp x y) .l) = true := ((own_c _).2.2.2.2.2.2.2.1 (fun q => h ((own_fge x y).mpr q))).1
theorem fc_l_ge_t {x y : UInt32} (h : fLe y x) : ifCond.holds .ge (cmpValue (FP.fcmp x y) .l) = true := ((own_c _).2.2.2.2.2.2.1 ((own_fge x y).mp h)).2
theorem fc_l_ge_f {x y : UInt32} (h : ¬ fLe y x) : ifCond.holds .ge (cmpValue (FP.fcmp x y) .l) = false := ((own_c _).2.2.2.2.2.2.2.1 (fun q => h ((own_fge x y).mpr q))).2
theorem fc_l_ne_f {x y : UInt32} (h : fEq x y) : ifCond.holds .ne (cmpValue (FP.fcmp x y) .l) = false := ((own_c _).2.2.2.2.2.2.2.2.1 h _).1
theorem fc_l_ne_t {x y : UInt32} (h : ¬ fEq x y) : ifCond.holds .ne (cmpValue (FP.fcmp x y) .l) = true := ((own_c _).2.2.2.2.2.2.2.2.2 h _).1
theorem fc_l_eq_t {x y : UInt32} (h : fEq x y) : ifCond.holds .eq (cmpValue (FP.fcmp x y) .l) = true := ((own_c _).2.2.2.2.2.2.2.2.1 h _).2
theorem fc_l_eq_f {x y : UInt32} (h : ¬ fEq x y) : ifCond.holds .eq (cmpValue (FP.fcmp x y) .l) = false := ((own_c _).2.2.2.2.2.2.2.2.2 h _).2
theorem fc_g_ne_f {x y : UInt32} (h : fEq x y) : ifCond.holds .ne (cmpValue (FP.fcmp x y) .g) = false := ((own_c _).2.2.2.2.2.2.2.2.1 h _).1
theorem fc_g_ne_t {x y : UInt32} (h : ¬ fEq x y) : ifCond.holds .ne (cmpValue (FP.fcmp x y) .g) = true := ((own_c _).2.2.2.2.2.2.2.2.2 h _).1
theorem fc_g_eq_t {x y : UInt32} (h : fEq x y) : ifCond.holds .eq (cmpValue (FP.fcmp x y) .g) = true := ((own_c _).2.2.2.2.2.2.2.2.1 h _).2
theorem fc_g_eq_f {x y : UInt32} (h : ¬ fEq x y) : ifCond.holds .eq (cmpValue (FP.fcmp x y) .g) = false := ((own_c _).2.2.2.2.2.2.2.2.2 h _).2

theorem own_irr (x : Int32) : ¬ x < x := by rw [Int32.lt_iff_toInt_lt]; omega
theorem own_ntl {j n : Int32} (h0 : ¬ j < 0) (h : j < n) : j.toNatClampNeg < n.toNatClampNeg := by
  rw [Int32.lt_iff_toInt_lt] at h h0
  have z : (0 : Int32).toInt = 0 := by decide
  have a := nat_of (j := j) (by rw [Int32.lt_iff_toInt_lt]; exact h0)
  have b := nat_of (j := n) (by rw [Int32.lt_iff_toInt_lt]; omega)
  omega
theorem own_inc {j n : Int32} (h : j < n) : (j + 1).toInt = j.toInt + 1 := by
  rw [Int32.lt_iff_toInt_lt] at h
  have h1 := c_iadd j 1
  have h2 := rng32 (j + 1)
  have h3 := rng32 n
  have h4 := rng32 j
  have z : (1 : Int32).toInt = 1 := by decide
  omega
/-- every component is a probability -/
def Prob (n : Int32) (vs : List Value) (d : Value) : Prop := ∀ i, i < n.toNatClampNeg → ∃ x : UInt64, vs.getD i d = .double x ∧ dLe (0 : UInt64) x ∧ dLe x (4607182418800017408 : UInt64)
def Sc (s4 s5 : Slot) : Prop := (s4 = .unset ∧ s5 = .unset) ∨ ∃ y : UInt64, s4 = .val (.double y) ∧ s5 = .second


section Own
open Jvm.OwnFP
theorem own_vz (k : Nat) : Val (0 : UInt64) 0 k := by
  have h := Val.i2d 0
  rw [show FP.i2d 0 = (0 : UInt64) by decide +kernel] at h
  exact ⟨h.1, by rw [h.2, show (0 : Int32).toInt = 0 by decide, Int.zero_mul, Int.zero_mul]⟩
theorem own_v1 : Val (4607182418800017408 : UInt64) 1 1074 := Val.of_int FP.Core.dint_one
theorem own_cmp {N M : Int} (h : N ≤ M) : compare N M = .lt ∨ compare N M = .eq := by
  rw [FP.Core.compare_lt_iff, FP.Core.compare_eq_iff]; omega
theorem own_prob {a : UInt64} {N : Int} {j : Nat} (h : Val a N (1074 - j)) (hj : j ≤ 1074) (h0 : 0 ≤ N) (h1 : N ≤ ((2 ^ j : Nat) : Int)) : dLe (0 : UInt64) a ∧ dLe a (4607182418800017408 : UInt64) := by
  have hv : Val (4607182418800017408 : UInt64) (1 * ((2 ^ j : Nat) : Int)) (1074 - j) := Val.scale j (by rw [Nat.sub_add_cancel hj]; exact own_v1)
  unfold dLe
  rw [(own_vz (1074 - j)).cmp h, h.cmp hv]
  exact ⟨by simpa using own_cmp h0, by simpa using own_cmp (N := N) (M := 1 * ((2 ^ j : Nat) : Int)) (by omega)⟩
end Own

theorem own_nn (a : Int32) : Jvm.Free.Fl.NoNaN64 (FP.ddiv (FP.i2d a) (4643211215818981376 : UInt64)) := Jvm.Free.Fl.ddiv_out (Jvm.Free.Fl.i2d_fin _).noNaN (by unfold Jvm.Free.Fl.Fin64; decide) (by unfold Jvm.Free.Fl.Nz64; decide)
theorem d0_0 : decode method_2_code 0 = .ok (.iload_n 0, 1) := by decide +kernel
theorem d0_1 : decode method_2_code 1 = .ok (.bipush 37, 2) := by decide +kernel
theorem d0_3 : decode method_2_code 3 = .ok (.imul, 1) := by decide +kernel
theorem d0_4 : decode method_2_code 4 = .ok (.iload_n 1, 1) := by decide +kernel
theorem d0_5 : decode method_2_code 5 = .ok (.iadd, 1) := by decide +kernel
theorem d0_6 : decode method_2_code 6 = .ok (.sipush 255, 3) := by decide +kernel
theorem d0_9 : decode method_2_code 9 = .ok (.iand, 1) := by decide +kernel
theorem d0_10 : decode method_2_code 10 = .ok (.i2d, 1) := by decide +kernel
theorem d0_11 : decode method_2_code 11 = .ok (.ldc2_w 7, 3) := by decide +kernel
theorem d0_14 : decode method_2_code 14 = .ok (.ddiv, 1) := by decide +kernel
theorem d0_15 : decode method_2_code 15 = .ok (.dreturn, 1) := by decide +kernel
theorem pd0 : parseMethodDescriptor "(II)D" = some ⟨[.int, .int], some .double⟩ := by decide +kernel
theorem pf_val : plainFor (⟨"com/example/borrowed_prior/borrowedprior/model/TopicModelTopicTermPinLaw", "val", "(II)D"⟩ : MethodName) = true := by first | exact plainFor_of_name (by first | (simp [plainName, overriddenIn, x]; done) | decide +kernel) | exact Jvm.Free.JP.mathPlain rfl (by decide +kernel) | decide +kernel
theorem ef_val (m : MethodId) (xi : Int32) (xs : Int32) : entryFrame m #[(.int xi), (.int xs)] 2 = mkF m 0 #[iv xi, iv xs] [] := by first | (simp [entryFrame, mkF, argsToLocals, Value.category, maxLocals]; done) | rfl
def f_val (xi : Int32) (xs : Int32) : UInt64 := (FP.ddiv (FP.i2d (((xi * (37 : Int32)) + xs) &&& (255 : Int32))) (4643211215818981376 : UInt64))
def Q_val (Z : State) (xi : Int32) (xs : Int32)  (h0 : Heap) (n0 : Nat) (v : Option Value) (h : Heap) (L : List Loc) : Prop := v = some (.double (f_val xi xs)) ∧ Fr n0 L ∧ h = h0
set_option maxRecDepth 65536 in
set_option maxHeartbeats 40000000 in
theorem rm_val (l : Launch) (Z : State) (a0 : Array Value) (hw : ∀ d ∈ tables_1, d.before a0 Z = true) (ws : List Jvm.Cond) (xi : Int32) (xs : Int32)  (h0 : Heap) (n0 : Nat) (Z0 : n0 ≤ h0.size)   :
    MetFree l (⟨"com/example/borrowed_prior/borrowedprior/model/TopicModelTopicTermPinLaw", "val", "(II)D"⟩ : MethodName) (head1 (Jvm.Cond.code (⟨"com/example/borrowed_prior/borrowedprior/model/TopicModelTopicTermPinLaw", "val", "(II)D"⟩ : MethodName) method_2_code 2 (some .double) :: ws) ({ frames := 0, cells := 0, slots := 0, locals := 0 } : Room)) (fun a U => a = #[(.int xi), (.int xs)] ∧ Z.Warmed39 U.vm ∧ U.heap = h0) (fun _ _ _ _ _ => True) (fun _ U o U' => ∃ v L, o = .returned v ∧ Q_val Z xi xs  h0 n0 v U'.heap L ∧ FrameEnd U o U' L ({ frames := 0, cells := 0, slots := 0, locals := 0 } : Room).cells ({ frames := 0, cells := 0, slots := 0, locals := 0 } : Room).slots) := by
  refine MetFree.of_bodySF pf_val hisR ?_
  intro p e s m args below meth c s₁ Bd hml0 hP hK
  obtain ⟨rfl, hZ, hh⟩ := hP
  have hx := Bd.exec
  have hby := Bd.bytes
  have hml : c.maxLocals = 2 := hml0
  have hown : s.vm.findClass "com/example/borrowed_prior/borrowedprior/model/TopicModelTopicTermPinLaw" = some m.cls := findClass_of_methodNamed Bd.named
  have hnm := (name_of_methodNamed Bd.named Bd.method).1
  have X0 : Stand p l e ({ frames := 0, cells := 0, slots := 0, locals := 0 } : Room) s m #[(.int xi), (.int xs)] below meth c s₁ [] 0 0 := Stand.of_body Bd
  have e0 : s₁.heap = h0 := by rw [← hh, Bd.state]; rfl
  have N0 := Fr.nil n0
  obtain ⟨S0, hS0⟩ : ∃ z, z = s₁.setTop (entryFrame m #[(.int xi), (.int xs)] 2) := ⟨_, rfl⟩
  rw [← hS0]
  have g0 : Goes p e below S0 (s₁.setTop (mkF m 0 #[iv xi, iv xs] [])) := fun t k => by rw [hS0]; exact castTop (ef_val m xi xs) k
  have g1 : Goes p e below S0 (s₁.setTop (mkF m 15 #[iv xi, iv xs] [(.double (FP.ddiv (FP.i2d (((xi * (37 : Int32)) + xs) &&& (255 : Int32))) (4643211215818981376 : UInt64)))])) := fun t k => g0 t (by
    refine XS.iloadN X0.here hx rfl (hb hby d0_0) rfl ?_
    show Go p e below t s₁ m 1 #[iv xi, iv xs] [(.int xi)]
    refine XT.bipushV X0.here hx rfl (37 : Int32) (hb hby d0_1) (by decide) ?_
    show Go p e below t s₁ m 3 #[iv xi, iv xs] [(.int (37 : Int32)), (.int xi)]
    refine XS.imul X0.here hx rfl (hb hby d0_3) rfl ?_
    show Go p e below t s₁ m 4 #[iv xi, iv xs] [(.int (xi * (37 : Int32)))]
    refine XS.iloadN X0.here hx rfl (hb hby d0_4) rfl ?_
    show Go p e below t s₁ m 5 #[iv xi, iv xs] [(.int xs), (.int (xi * (37 : Int32)))]
    refine XS.iadd X0.here hx rfl (hb hby d0_5) rfl ?_
    show Go p e below t s₁ m 6 #[iv xi, iv xs] [(.int ((xi * (37 : Int32)) + xs))]
    refine XT.sipushV X0.here hx rfl (255 : Int32) (hb hby d0_6) (by decide) ?_
    show Go p e below t s₁ m 9 #[iv xi, iv xs] [(.int (255 : Int32)), (.int ((xi * (37 : Int32)) + xs))]
    refine XS.iand X0.here hx rfl (hb hby d0_9) rfl ?_
    show Go p e below t s₁ m 10 #[iv xi, iv xs] [(.int (((xi * (37 : Int32)) + xs) &&& (255 : Int32)))]
    refine XS.i2dS X0.here hx rfl (hb hby d0_10) rfl rfl ?_
    show Go p e below t s₁ m 11 #[iv xi, iv xs] [(.double (FP.i2d (((xi * (37 : Int32)) + xs) &&& (255 : Int32))))]
    refine X0.ldc2DoubleC hx hown (mvT hZ (hw _ (List.mem_of_getElem? (i := 6) rfl))) (g := (mkF m 11 #[iv xi, iv xs] [(.double (FP.i2d (((xi * (37 : Int32)) + xs) &&& (255 : Int32))))])) rfl (hb hby d0_11) _ ?_
    show Go p e below t s₁ m 14 #[iv xi, iv xs] [(.double (4643211215818981376 : UInt64)), (.double (FP.i2d (((xi * (37 : Int32)) + xs) &&& (255 : Int32))))]
    refine XS.ddivS X0.here hx rfl (hb hby d0_14) rfl (own_nn _) rfl ?_
    show Go p e below t s₁ m 15 #[iv xi, iv xs] [(.double (FP.ddiv (FP.i2d (((xi * (37 : Int32)) + xs) &&& (255 : Int32))) (4643211215818981376 : UInt64)))]
    exact k)
  obtain ⟨fs, hr, hrun, hended, hW, hsame⟩ := X0.leave (v := some (.double (FP.ddiv (FP.i2d (((xi * (37 : Int32)) + xs) &&& (255 : Int32))) (4643211215818981376 : UInt64)))) (fun h => by rw [Bd.returns] at h; cases h)
  refine ⟨_, _, g1 _ (retOut X0 hx Bd.returns rfl (Or.inr (Or.inr (Or.inl ⟨rfl, rfl, _, rfl⟩))) (hb hby d0_15) hr), hrun, hended, _, _, rfl, ?_, ⟨_, rfl⟩, hW, hsame.mono (by decide) (by decide)⟩
  show Q_val Z xi xs  h0 n0 _ s₁.heap _
  rw [e0]
  exact ⟨rfl, N0, rfl⟩
theorem d3_0 : decode prog_37_method_12_code 0 = .ok (.aload_n 0, 1) := by decide +kernel
theorem d3_1 : decode prog_37_method_12_code 1 = .ok (.astore_n 1, 1) := by decide +kernel
theorem d3_2 : decode prog_37_method_12_code 2 = .ok (.aload_n 1, 1) := by decide +kernel
theorem d3_3 : decode prog_37_method_12_code 3 = .ok (.arraylength, 1) := by decide +kernel
theorem d3_4 : decode prog_37_method_12_code 4 = .ok (.istore_n 2, 1) := by decide +kernel
theorem d3_5 : decode prog_37_method_12_code 5 = .ok (.iconst 0, 1) := by decide +kernel
theorem d3_6 : decode prog_37_method_12_code 6 = .ok (.istore_n 3, 1) := by decide +kernel
theorem d3_7 : decode prog_37_method_12_code 7 = .ok (.iload_n 3, 1) := by decide +kernel
theorem d3_8 : decode prog_37_method_12_code 8 = .ok (.iload_n 2, 1) := by decide +kernel
theorem d3_9 : decode prog_37_method_12_code 9 = .ok (.if_icmp .ge 43, 3) := by decide +kernel
theorem d3_12 : decode prog_37_method_12_code 12 = .ok (.aload_n 1, 1) := by decide +kernel
theorem d3_13 : decode prog_37_method_12_code 13 = .ok (.iload_n 3, 1) := by decide +kernel
theorem d3_14 : decode prog_37_method_12_code 14 = .ok (.daload, 1) := by decide +kernel
theorem d3_15 : decode prog_37_method_12_code 15 = .ok (.dstore 4, 2) := by decide +kernel
theorem d3_17 : decode prog_37_method_12_code 17 = .ok (.dload 4, 2) := by decide +kernel
theorem d3_19 : decode prog_37_method_12_code 19 = .ok (.dconst 0, 1) := by decide +kernel
theorem d3_20 : decode prog_37_method_12_code 20 = .ok (.dcmp .l, 1) := by decide +kernel
theorem d3_21 : decode prog_37_method_12_code 21 = .ok (.ifCond .lt 10, 3) := by decide +kernel
theorem d3_24 : decode prog_37_method_12_code 24 = .ok (.dload 4, 2) := by decide +kernel
theorem d3_26 : decode prog_37_method_12_code 26 = .ok (.dconst 1, 1) := by decide +kernel
theorem d3_27 : decode prog_37_method_12_code 27 = .ok (.dcmp .g, 1) := by decide +kernel
theorem d3_28 : decode prog_37_method_12_code 28 = .ok (.ifCond .le 18, 3) := by decide +kernel
theorem d3_31 : decode prog_37_method_12_code 31 = .ok (.new 7, 3) := by decide +kernel
theorem d3_34 : decode prog_37_method_12_code 34 = .ok (.dup, 1) := by decide +kernel
theorem d3_35 : decode prog_37_method_12_code 35 = .ok (.dload 4, 2) := by decide +kernel
theorem d3_37 : decode prog_37_method_12_code 37 = .ok (.invokedynamic 115, 5) := by decide +kernel
theorem d3_42 : decode prog_37_method_12_code 42 = .ok (.invokespecial 13, 3) := by decide +kernel
theorem d3_45 : decode prog_37_method_12_code 45 = .ok (.athrow, 1) := by decide +kernel
theorem d3_46 : decode prog_37_method_12_code 46 = .ok (.iinc 3 1, 3) := by decide +kernel
theorem d3_49 : decode prog_37_method_12_code 49 = .ok (.goto (-42), 3) := by decide +kernel
theorem d3_52 : decode prog_37_method_12_code 52 = .ok (.return_, 1) := by decide +kernel
theorem pd1 : parseMethodDescriptor "([D)V" = some ⟨[(.array .double)], none⟩ := by decide +kernel
theorem pf_req : plainFor (⟨"com/example/borrowed_prior/borrowedprior/model/TopicModel", "requireProbabilities", "([D)V"⟩ : MethodName) = true := by first | exact plainFor_of_name (by first | (simp [plainName, overriddenIn, x]; done) | decide +kernel) | exact Jvm.Free.JP.mathPlain rfl (by decide +kernel) | decide +kernel
theorem ef_req (m : MethodId) (qa : Addr) : entryFrame m #[(.ref qa)] 6 = mkF m 0 #[rv qa, .unset, .unset, .unset, .unset, .unset] [] := by first | (simp [entryFrame, mkF, argsToLocals, Value.category, maxLocals]; done) | rfl
def Q_req (Z : State) (qa : Addr) (zk : ClassId) (zn : Int32) (zv : List Value) (zd : Value) (h0 : Heap) (n0 : Nat) (v : Option Value) (h : Heap) (L : List Loc) : Prop := v = none ∧ Fr n0 L ∧ h = h0
set_option maxRecDepth 65536 in
set_option maxHeartbeats 40000000 in
theorem rm_req (l : Launch) (Z : State) (a0 : Array Value) (hw : ∀ d ∈ tables_1, d.before a0 Z = true) (ws : List Jvm.Cond) (qa : Addr) (zk : ClassId) (zn : Int32) (zv : List Value) (zd : Value) (h0 : Heap) (n0 : Nat) (Z0 : n0 ≤ h0.size) (P0 : Arv Z h0 qa zk .double zn zv zd) (hp : Prob zn zv zd) (hz : 0 ≤ zn.toInt)  :
    MetFree l (⟨"com/example/borrowed_prior/borrowedprior/model/TopicModel", "requireProbabilities", "([D)V"⟩ : MethodName) (head1 (Jvm.Cond.code (⟨"com/example/borrowed_prior/borrowedprior/model/TopicModel", "requireProbabilities", "([D)V"⟩ : MethodName) prog_37_method_12_code 6 none :: ws) ({ frames := 0, cells := 0, slots := 0, locals := 0 } : Room)) (fun a U => a = #[(.ref qa)] ∧ Z.Warmed39 U.vm ∧ U.heap = h0) (fun _ _ _ _ _ => True) (fun _ U o U' => ∃ v L, o = .returned v ∧ Q_req Z qa zk zn zv zd h0 n0 v U'.heap L ∧ FrameEnd U o U' L ({ frames := 0, cells := 0, slots := 0, locals := 0 } : Room).cells ({ frames := 0, cells := 0, slots := 0, locals := 0 } : Room).slots) := by
  refine MetFree.of_bodySF pf_req hisR ?_
  intro p e s m args below meth c s₁ Bd hml0 hP hK
  obtain ⟨rfl, hZ, hh⟩ := hP
  have hx := Bd.exec
  have hby := Bd.bytes
  have hml : c.maxLocals = 6 := hml0
  have hown : s.vm.findClass "com/example/borrowed_prior/borrowedprior/model/TopicModel" = some m.cls := findClass_of_methodNamed Bd.named
  have hnm := (name_of_methodNamed Bd.named Bd.method).1
  have X0 : Stand p l e ({ frames := 0, cells := 0, slots := 0, locals := 0 } : Room) s m #[(.ref qa)] below meth c s₁ [] 0 0 := Stand.of_body Bd
  have e0 : s₁.heap = h0 := by rw [← hh, Bd.state]; rfl
  have N0 := Fr.nil n0
  obtain ⟨S0, hS0⟩ : ∃ z, z = s₁.setTop (entryFrame m #[(.ref qa)] 6) := ⟨_, rfl⟩
  rw [← hS0]
  have g0 : Goes p e below S0 (s₁.setTop (mkF m 0 #[rv qa, .unset, .unset, .unset, .unset, .unset] [])) := fun t k => by rw [hS0]; exact castTop (ef_req m qa) k
  have g2 : Goes p e below S0 (s₁.setTop (mkF m 3 #[rv qa, rv qa, .unset, .unset, .unset, .unset] [(.ref qa)])) := fun t k => g0 t (by
    refine XS.aloadN X0.here hx rfl (hb hby d3_0) rfl rfl ?_
    show Go p e below t s₁ m 1 #[rv qa, .unset, .unset, .unset, .unset, .unset] [(.ref qa)]
    refine XS.astoreN X0.here hx rfl (hb hby d3_1) rfl rfl (l' := #[rv qa, rv qa, .unset, .unset, .unset, .unset]) rfl ?_
    show Go p e below t s₁ m 2 #[rv qa, rv qa, .unset, .unset, .unset, .unset] []
    refine XS.aloadN X0.here hx rfl (hb hby d3_2) rfl rfl ?_
    show Go p e below t s₁ m 3 #[rv qa, rv qa, .unset, .unset, .unset, .unset] [(.ref qa)]
    exact k)
  obtain ⟨cl3, Ar3, q3, S3, M3, H3, G3⟩ := id P0
  have g4 : Goes p e below S0 (s₁.setTop (mkF m 7 #[rv qa, rv qa, iv zn, iv (0 : Int32), .unset, .unset] [])) := fun t k => g2 t (by
    refine X0.arraylength hx (by rw [e0]; exact Ar3.1) (State.isArrayOf_alike hZ.alike Ar3.2.1) (g := (mkF m 3 #[rv qa, rv qa, .unset, .unset, .unset, .unset] [(.ref qa)])) rfl rfl (hb hby d3_3) _ ?_
    rw [len_of S3 M3]
    show Go p e below t s₁ m 4 #[rv qa, rv qa, .unset, .unset, .unset, .unset] [(.int zn)]
    refine XS.istoreN X0.here hx rfl (hb hby d3_4) rfl (l' := #[rv qa, rv qa, iv zn, .unset, .unset, .unset]) rfl ?_
    show Go p e below t s₁ m 5 #[rv qa, rv qa, iv zn, .unset, .unset, .unset] []
    refine XT.iconstV X0.here hx rfl (0 : Int32) (hb hby d3_5) (by decide) ?_
    show Go p e below t s₁ m 6 #[rv qa, rv qa, iv zn, .unset, .unset, .unset] [(.int (0 : Int32))]
    refine XS.istoreN X0.here hx rfl (hb hby d3_6) rfl (l' := #[rv qa, rv qa, iv zn, iv (0 : Int32), .unset, .unset]) rfl ?_
    show Go p e below t s₁ m 7 #[rv qa, rv qa, iv zn, iv (0 : Int32), .unset, .unset] []
    exact k)
  have turn : ∀ (j : Int32) (s4 s5 : Slot), Sc s4 s5 → ¬ j < 0 → j < zn → ∃ x : UInt64, Goes p e below (s₁.setTop (mkF m 7 #[rv qa, rv qa, iv zn, iv j, s4, s5] [])) (s₁.setTop (mkF m 7 #[rv qa, rv qa, iv zn, iv (j + (1 : Int32)), .val (.double x), .second] [])) := by
    intro j s4 s5 hs hj0 hj
    obtain ⟨x, ex, e1, e2⟩ := hp j.toNatClampNeg (own_ntl hj0 hj)
    refine ⟨x, ?_⟩
    rcases hs with ⟨rfl, rfl⟩ | ⟨y, rfl, rfl⟩
    · skip
      have g5 : Goes p e below (s₁.setTop (mkF m 7 #[rv qa, rv qa, iv zn, iv j, .unset, .unset] [])) (s₁.setTop (mkF m 7 #[rv qa, rv qa, iv zn, iv j, .unset, .unset] [])) := fun t k => k
      have g6 : Goes p e below (s₁.setTop (mkF m 7 #[rv qa, rv qa, iv zn, iv j, .unset, .unset] [])) (s₁.setTop (mkF m 14 #[rv qa, rv qa, iv zn, iv j, .unset, .unset] [(.int j), (.ref qa)])) := fun t k => g5 t (by
        refine XS.iloadN X0.here hx rfl (hb hby d3_7) rfl ?_
        show Go p e below t s₁ m 8 #[rv qa, rv qa, iv zn, iv j, .unset, .unset] [(.int j)]
        refine XS.iloadN X0.here hx rfl (hb hby d3_8) rfl ?_
        show Go p e below t s₁ m 9 #[rv qa, rv qa, iv zn, iv j, .unset, .unset] [(.int zn), (.int j)]
        refine XS.icmpNo X0.here hx rfl (hb hby d3_9) rfl (XT.ii_ge_f hj) ?_
        show Go p e below t s₁ m 12 #[rv qa, rv qa, iv zn, iv j, .unset, .unset] []
        refine XS.aloadN X0.here hx rfl (hb hby d3_12) rfl rfl ?_
        show Go p e below t s₁ m 13 #[rv qa, rv qa, iv zn, iv j, .unset, .unset] [(.ref qa)]
        refine XS.iloadN X0.here hx rfl (hb hby d3_13) rfl ?_
        show Go p e below t s₁ m 14 #[rv qa, rv qa, iv zn, iv j, .unset, .unset] [(.int j), (.ref qa)]
        exact k)
      obtain ⟨cl7, Ar7, q7, S7, M7, H7, G7⟩ := id P0
      have g8 : Goes p e below (s₁.setTop (mkF m 7 #[rv qa, rv qa, iv zn, iv j, .unset, .unset] [])) (s₁.setTop (mkF m 7 #[rv qa, rv qa, iv zn, iv (j + (1 : Int32)), .val (.double x), .second] [])) := fun t k => g6 t (by
        refine X0.daload hx (j := j) (v := (.double x)) (by rw [e0]; exact Ar7.1) (State.isArrayOf_alike hZ.alike Ar7.2.1) Ar7.2.2 (inb_of S7 ⟨hj0, hj⟩) (H7.at (inb_of S7 ⟨hj0, hj⟩) ex) (g := (mkF m 14 #[rv qa, rv qa, iv zn, iv j, .unset, .unset] [(.int j), (.ref qa)])) rfl rfl (hb hby d3_14) _ ?_
        show Go p e below t s₁ m 15 #[rv qa, rv qa, iv zn, iv j, .unset, .unset] [(.double x)]
        refine XS.dstore X0.here hx rfl (hb hby d3_15) rfl (l' := #[rv qa, rv qa, iv zn, iv j, .val (.double x), .second]) rfl ?_
        show Go p e below t s₁ m 17 #[rv qa, rv qa, iv zn, iv j, .val (.double x), .second] []
        refine XS.dload X0.here hx rfl (hb hby d3_17) rfl ?_
        show Go p e below t s₁ m 19 #[rv qa, rv qa, iv zn, iv j, .val (.double x), .second] [(.double x)]
        refine XS.dconst0 X0.here hx rfl (hb hby d3_19) (v := (0 : UInt64)) rfl ?_
        show Go p e below t s₁ m 20 #[rv qa, rv qa, iv zn, iv j, .val (.double x), .second] [(.double (0 : UInt64)), (.double x)]
        refine XS.dcmpS X0.here hx rfl (hb hby d3_20) rfl rfl ?_
        show Go p e below t s₁ m 21 #[rv qa, rv qa, iv zn, iv j, .val (.double x), .second] [(.int (cmpValue (FP.dcmp x (0 : UInt64)) .l))]
        refine XS.ifNo X0.here hx rfl (hb hby d3_21) rfl (dc_l_lt_f e1) ?_
        show Go p e below t s₁ m 24 #[rv qa, rv qa, iv zn, iv j, .val (.double x), .second] []
        refine XS.dload X0.here hx rfl (hb hby d3_24) rfl ?_
        show Go p e below t s₁ m 26 #[rv qa, rv qa, iv zn, iv j, .val (.double x), .second] [(.double x)]
        refine XS.dconst1 X0.here hx rfl (hb hby d3_26) (v := (4607182418800017408 : UInt64)) rfl ?_
        show Go p e below t s₁ m 27 #[rv qa, rv qa, iv zn, iv j, .val (.double x), .second] [(.double (4607182418800017408 : UInt64)), (.double x)]
        refine XS.dcmpS X0.here hx rfl (hb hby d3_27) rfl rfl ?_
        show Go p e below t s₁ m 28 #[rv qa, rv qa, iv zn, iv j, .val (.double x), .second] [(.int (cmpValue (FP.dcmp x (4607182418800017408 : UInt64)) .g))]
        refine XS.ifYes X0.here hx rfl (pc0 := 28) (pc' := 46) rfl (hb hby d3_28) rfl (dc_g_le_t e2) (by decide) (by decide) ?_
        show Go p e below t s₁ m 46 #[rv qa, rv qa, iv zn, iv j, .val (.double x), .second] []
        refine XT.iincV X0.here hx rfl (1 : Int32) (hb hby d3_46) (by decide) rfl (l' := #[rv qa, rv qa, iv zn, iv (j + (1 : Int32)), .val (.double x), .second]) rfl ?_
        show Go p e below t s₁ m 49 #[rv qa, rv qa, iv zn, iv (j + (1 : Int32)), .val (.double x), .second] []
        refine XS.goto X0.here hx rfl (pc0 := 49) (pc' := 7) rfl (hb hby d3_49) (by decide) (by decide) ?_
        show Go p e below t s₁ m 7 #[rv qa, rv qa, iv zn, iv (j + (1 : Int32)), .val (.double x), .second] []
        exact k)
      exact g8
    · skip
      have g9 : Goes p e below (s₁.setTop (mkF m 7 #[rv qa, rv qa, iv zn, iv j, .val (.double y), .second] [])) (s₁.setTop (mkF m 7 #[rv qa, rv qa, iv zn, iv j, .val (.double y), .second] [])) := fun t k => k
      have g10 : Goes p e below (s₁.setTop (mkF m 7 #[rv qa, rv qa, iv zn, iv j, .val (.double y), .second] [])) (s₁.setTop (mkF m 14 #[rv qa, rv qa, iv zn, iv j, .val (.double y), .second] [(.int j), (.ref qa)])) := fun t k => g9 t (by
        refine XS.iloadN X0.here hx rfl (hb hby d3_7) rfl ?_
        show Go p e below t s₁ m 8 #[rv qa, rv qa, iv zn, iv j, .val (.double y), .second] [(.int j)]
        refine XS.iloadN X0.here hx rfl (hb hby d3_8) rfl ?_
        show Go p e below t s₁ m 9 #[rv qa, rv qa, iv zn, iv j, .val (.double y), .second] [(.int zn), (.int j)]
        refine XS.icmpNo X0.here hx rfl (hb hby d3_9) rfl (XT.ii_ge_f hj) ?_
        show Go p e below t s₁ m 12 #[rv qa, rv qa, iv zn, iv j, .val (.double y), .second] []
        refine XS.aloadN X0.here hx rfl (hb hby d3_12) rfl rfl ?_
        show Go p e below t s₁ m 13 #[rv qa, rv qa, iv zn, iv j, .val (.double y), .second] [(.ref qa)]
        refine XS.iloadN X0.here hx rfl (hb hby d3_13) rfl ?_
        show Go p e below t s₁ m 14 #[rv qa, rv qa, iv zn, iv j, .val (.double y), .second] [(.int j), (.ref qa)]
        exact k)
      obtain ⟨cl11, Ar11, q11, S11, M11, H11, G11⟩ := id P0
      have g12 : Goes p e below (s₁.setTop (mkF m 7 #[rv qa, rv qa, iv zn, iv j, .val (.double y), .second] [])) (s₁.setTop (mkF m 7 #[rv qa, rv qa, iv zn, iv (j + (1 : Int32)), .val (.double x), .second] [])) := fun t k => g10 t (by
        refine X0.daload hx (j := j) (v := (.double x)) (by rw [e0]; exact Ar11.1) (State.isArrayOf_alike hZ.alike Ar11.2.1) Ar11.2.2 (inb_of S11 ⟨hj0, hj⟩) (H11.at (inb_of S11 ⟨hj0, hj⟩) ex) (g := (mkF m 14 #[rv qa, rv qa, iv zn, iv j, .val (.double y), .second] [(.int j), (.ref qa)])) rfl rfl (hb hby d3_14) _ ?_
        show Go p e below t s₁ m 15 #[rv qa, rv qa, iv zn, iv j, .val (.double y), .second] [(.double x)]
        refine XS.dstore X0.here hx rfl (hb hby d3_15) rfl (l' := #[rv qa, rv qa, iv zn, iv j, .val (.double x), .second]) rfl ?_
        show Go p e below t s₁ m 17 #[rv qa, rv qa, iv zn, iv j, .val (.double x), .second] []
        refine XS.dload X0.here hx rfl (hb hby d3_17) rfl ?_
        show Go p e below t s₁ m 19 #[rv qa, rv qa, iv zn, iv j, .val (.double x), .second] [(.double x)]
        refine XS.dconst0 X0.here hx rfl (hb hby d3_19) (v := (0 : UInt64)) rfl ?_
        show Go p e below t s₁ m 20 #[rv qa, rv qa, iv zn, iv j, .val (.double x), .second] [(.double (0 : UInt64)), (.double x)]
        refine XS.dcmpS X0.here hx rfl (hb hby d3_20) rfl rfl ?_
        show Go p e below t s₁ m 21 #[rv qa, rv qa, iv zn, iv j, .val (.double x), .second] [(.int (cmpValue (FP.dcmp x (0 : UInt64)) .l))]
        refine XS.ifNo X0.here hx rfl (hb hby d3_21) rfl (dc_l_lt_f e1) ?_
        show Go p e below t s₁ m 24 #[rv qa, rv qa, iv zn, iv j, .val (.double x), .second] []
        refine XS.dload X0.here hx rfl (hb hby d3_24) rfl ?_
        show Go p e below t s₁ m 26 #[rv qa, rv qa, iv zn, iv j, .val (.double x), .second] [(.double x)]
        refine XS.dconst1 X0.here hx rfl (hb hby d3_26) (v := (4607182418800017408 : UInt64)) rfl ?_
        show Go p e below t s₁ m 27 #[rv qa, rv qa, iv zn, iv j, .val (.double x), .second] [(.double (4607182418800017408 : UInt64)), (.double x)]
        refine XS.dcmpS X0.here hx rfl (hb hby d3_27) rfl rfl ?_
        show Go p e below t s₁ m 28 #[rv qa, rv qa, iv zn, iv j, .val (.double x), .second] [(.int (cmpValue (FP.dcmp x (4607182418800017408 : UInt64)) .g))]
        refine XS.ifYes X0.here hx rfl (pc0 := 28) (pc' := 46) rfl (hb hby d3_28) rfl (dc_g_le_t e2) (by decide) (by decide) ?_
        show Go p e below t s₁ m 46 #[rv qa, rv qa, iv zn, iv j, .val (.double x), .second] []
        refine XT.iincV X0.here hx rfl (1 : Int32) (hb hby d3_46) (by decide) rfl (l' := #[rv qa, rv qa, iv zn, iv (j + (1 : Int32)), .val (.double x), .second]) rfl ?_
        show Go p e below t s₁ m 49 #[rv qa, rv qa, iv zn, iv (j + (1 : Int32)), .val (.double x), .second] []
        refine XS.goto X0.here hx rfl (pc0 := 49) (pc' := 7) rfl (hb hby d3_49) (by decide) (by decide) ?_
        show Go p e below t s₁ m 7 #[rv qa, rv qa, iv zn, iv (j + (1 : Int32)), .val (.double x), .second] []
        exact k)
      exact g12
  have loop : ∀ (k : Nat) (j : Int32) (s4 s5 : Slot), Sc s4 s5 → j.toInt = zn.toInt - k → 0 ≤ j.toInt → ∃ (t4 t5 : Slot), Goes p e below (s₁.setTop (mkF m 7 #[rv qa, rv qa, iv zn, iv j, s4, s5] [])) (s₁.setTop (mkF m 7 #[rv qa, rv qa, iv zn, iv zn, t4, t5] [])) := by
    intro k
    induction k with
    | zero =>
      intro j s4 s5 hs hk h0
      obtain rfl : j = zn := Int32.toInt_inj.mp (by omega)
      exact ⟨s4, s5, fun t k => k⟩
    | succ k ih =>
      intro j s4 s5 hs hk h0
      have z : (0 : Int32).toInt = 0 := by decide
      have hj : j < zn := by rw [Int32.lt_iff_toInt_lt]; omega
      obtain ⟨x, hg⟩ := turn j s4 s5 hs (by rw [Int32.lt_iff_toInt_lt]; omega) hj
      have hi := own_inc hj
      obtain ⟨t4, t5, hg2⟩ := ih (j + (1 : Int32)) (.val (.double x)) .second (Or.inr ⟨x, rfl, rfl⟩) (by omega) (by omega)
      exact ⟨t4, t5, fun t k => hg t (hg2 t k)⟩
  obtain ⟨t4, t5, hend⟩ := loop zn.toInt.toNat (0 : Int32) .unset .unset (Or.inl ⟨rfl, rfl⟩) (by have z : (0 : Int32).toInt = 0 := (by decide); omega) (by decide)
  have g13 : Goes p e below S0 (s₁.setTop (mkF m 7 #[rv qa, rv qa, iv zn, iv zn, t4, t5] [])) := fun t k => g4 t (hend t k)
  have g14 : Goes p e below S0 (s₁.setTop (mkF m 52 #[rv qa, rv qa, iv zn, iv zn, t4, t5] [])) := fun t k => g13 t (by
    refine XS.iloadN X0.here hx rfl (hb hby d3_7) rfl ?_
    show Go p e below t s₁ m 8 #[rv qa, rv qa, iv zn, iv zn, t4, t5] [(.int zn)]
    refine XS.iloadN X0.here hx rfl (hb hby d3_8) rfl ?_
    show Go p e below t s₁ m 9 #[rv qa, rv qa, iv zn, iv zn, t4, t5] [(.int zn), (.int zn)]
    refine XS.icmpYes X0.here hx rfl (pc0 := 9) (pc' := 52) rfl (hb hby d3_9) rfl (XT.ii_ge_t (own_irr zn)) (by decide) (by decide) ?_
    show Go p e below t s₁ m 52 #[rv qa, rv qa, iv zn, iv zn, t4, t5] []
    exact k)
  obtain ⟨fs, hr, hrun, hended, hW, hsame⟩ := X0.leave (v := none) (fun _ => rfl)
  refine ⟨_, _, g14 _ (X0.returnOut hx Bd.returns (hb hby d3_52) hr), hrun, hended, _, _, rfl, ?_, ⟨_, rfl⟩, hW, hsame.mono (by decide) (by decide)⟩
  show Q_req Z qa zk zn zv zd h0 n0 _ s₁.heap _
  rw [e0]
  exact ⟨rfl, N0, rfl⟩
theorem d1_0 : decode prog_37_method_1_code 0 = .ok (.aload_n 0, 1) := by decide +kernel
theorem d1_1 : decode prog_37_method_1_code 1 = .ok (.invokespecial 1, 3) := by decide +kernel
theorem d1_4 : decode prog_37_method_1_code 4 = .ok (.iload_n 1, 1) := by decide +kernel
theorem d1_5 : decode prog_37_method_1_code 5 = .ok (.iconst 1, 1) := by decide +kernel
theorem d1_6 : decode prog_37_method_1_code 6 = .ok (.if_icmp .lt 18, 3) := by decide +kernel
theorem d1_9 : decode prog_37_method_1_code 9 = .ok (.iload_n 2, 1) := by decide +kernel
theorem d1_10 : decode prog_37_method_1_code 10 = .ok (.ifCond .lt 14, 3) := by decide +kernel
theorem d1_13 : decode prog_37_method_1_code 13 = .ok (.iload_n 3, 1) := by decide +kernel
theorem d1_14 : decode prog_37_method_1_code 14 = .ok (.ifCond .lt 10, 3) := by decide +kernel
theorem d1_17 : decode prog_37_method_1_code 17 = .ok (.lload 4, 2) := by decide +kernel
theorem d1_19 : decode prog_37_method_1_code 19 = .ok (.lconst 0, 1) := by decide +kernel
theorem d1_20 : decode prog_37_method_1_code 20 = .ok (.lcmp, 1) := by decide +kernel
theorem d1_21 : decode prog_37_method_1_code 21 = .ok (.ifCond .ge 21, 3) := by decide +kernel
theorem d1_24 : decode prog_37_method_1_code 24 = .ok (.new 7, 3) := by decide +kernel
theorem d1_27 : decode prog_37_method_1_code 27 = .ok (.dup, 1) := by decide +kernel
theorem d1_28 : decode prog_37_method_1_code 28 = .ok (.iload_n 1, 1) := by decide +kernel
theorem d1_29 : decode prog_37_method_1_code 29 = .ok (.iload_n 2, 1) := by decide +kernel
theorem d1_30 : decode prog_37_method_1_code 30 = .ok (.iload_n 3, 1) := by decide +kernel
theorem d1_31 : decode prog_37_method_1_code 31 = .ok (.lload 4, 2) := by decide +kernel
theorem d1_33 : decode prog_37_method_1_code 33 = .ok (.invokedynamic 9, 5) := by decide +kernel
theorem d1_38 : decode prog_37_method_1_code 38 = .ok (.invokespecial 13, 3) := by decide +kernel
theorem d1_41 : decode prog_37_method_1_code 41 = .ok (.athrow, 1) := by decide +kernel
theorem d1_42 : decode prog_37_method_1_code 42 = .ok (.aload 6, 2) := by decide +kernel
theorem d1_44 : decode prog_37_method_1_code 44 = .ok (.arraylength, 1) := by decide +kernel
theorem d1_45 : decode prog_37_method_1_code 45 = .ok (.i2l, 1) := by decide +kernel
theorem d1_46 : decode prog_37_method_1_code 46 = .ok (.iload_n 2, 1) := by decide +kernel
theorem d1_47 : decode prog_37_method_1_code 47 = .ok (.i2l, 1) := by decide +kernel
theorem d1_48 : decode prog_37_method_1_code 48 = .ok (.iload_n 1, 1) := by decide +kernel
theorem d1_49 : decode prog_37_method_1_code 49 = .ok (.i2l, 1) := by decide +kernel
theorem d1_50 : decode prog_37_method_1_code 50 = .ok (.lmul, 1) := by decide +kernel
theorem d1_51 : decode prog_37_method_1_code 51 = .ok (.lcmp, 1) := by decide +kernel
theorem d1_52 : decode prog_37_method_1_code 52 = .ok (.ifCond .ne 16, 3) := by decide +kernel
theorem d1_55 : decode prog_37_method_1_code 55 = .ok (.aload 7, 2) := by decide +kernel
theorem d1_57 : decode prog_37_method_1_code 57 = .ok (.arraylength, 1) := by decide +kernel
theorem d1_58 : decode prog_37_method_1_code 58 = .ok (.i2l, 1) := by decide +kernel
theorem d1_59 : decode prog_37_method_1_code 59 = .ok (.iload_n 3, 1) := by decide +kernel
theorem d1_60 : decode prog_37_method_1_code 60 = .ok (.i2l, 1) := by decide +kernel
theorem d1_61 : decode prog_37_method_1_code 61 = .ok (.iload_n 1, 1) := by decide +kernel
theorem d1_62 : decode prog_37_method_1_code 62 = .ok (.i2l, 1) := by decide +kernel
theorem d1_63 : decode prog_37_method_1_code 63 = .ok (.lmul, 1) := by decide +kernel
theorem d1_64 : decode prog_37_method_1_code 64 = .ok (.lcmp, 1) := by decide +kernel
theorem d1_65 : decode prog_37_method_1_code 65 = .ok (.ifCond .eq 13, 3) := by decide +kernel
theorem d1_68 : decode prog_37_method_1_code 68 = .ok (.new 7, 3) := by decide +kernel
theorem d1_71 : decode prog_37_method_1_code 71 = .ok (.dup, 1) := by decide +kernel
theorem d1_72 : decode prog_37_method_1_code 72 = .ok (.ldc 16, 2) := by decide +kernel
theorem d1_74 : decode prog_37_method_1_code 74 = .ok (.invokespecial 13, 3) := by decide +kernel
theorem d1_77 : decode prog_37_method_1_code 77 = .ok (.athrow, 1) := by decide +kernel
theorem d1_78 : decode prog_37_method_1_code 78 = .ok (.aload 6, 2) := by decide +kernel
theorem d1_80 : decode prog_37_method_1_code 80 = .ok (.invokestatic 18, 3) := by decide +kernel
theorem d1_83 : decode prog_37_method_1_code 83 = .ok (.aload 7, 2) := by decide +kernel
theorem d1_85 : decode prog_37_method_1_code 85 = .ok (.invokestatic 18, 3) := by decide +kernel
theorem d1_88 : decode prog_37_method_1_code 88 = .ok (.aload_n 0, 1) := by decide +kernel
theorem d1_89 : decode prog_37_method_1_code 89 = .ok (.iload_n 1, 1) := by decide +kernel
theorem d1_90 : decode prog_37_method_1_code 90 = .ok (.putfield 24, 3) := by decide +kernel
theorem d1_93 : decode prog_37_method_1_code 93 = .ok (.aload_n 0, 1) := by decide +kernel
theorem d1_94 : decode prog_37_method_1_code 94 = .ok (.iload_n 2, 1) := by decide +kernel
theorem d1_95 : decode prog_37_method_1_code 95 = .ok (.putfield 28, 3) := by decide +kernel
theorem d1_98 : decode prog_37_method_1_code 98 = .ok (.aload_n 0, 1) := by decide +kernel
theorem d1_99 : decode prog_37_method_1_code 99 = .ok (.iload_n 3, 1) := by decide +kernel
theorem d1_100 : decode prog_37_method_1_code 100 = .ok (.putfield 31, 3) := by decide +kernel
theorem d1_103 : decode prog_37_method_1_code 103 = .ok (.aload_n 0, 1) := by decide +kernel
theorem d1_104 : decode prog_37_method_1_code 104 = .ok (.lload 4, 2) := by decide +kernel
theorem d1_106 : decode prog_37_method_1_code 106 = .ok (.putfield 34, 3) := by decide +kernel
theorem d1_109 : decode prog_37_method_1_code 109 = .ok (.aload_n 0, 1) := by decide +kernel
theorem d1_110 : decode prog_37_method_1_code 110 = .ok (.aload 6, 2) := by decide +kernel
theorem d1_112 : decode prog_37_method_1_code 112 = .ok (.putfield 38, 3) := by decide +kernel
theorem d1_115 : decode prog_37_method_1_code 115 = .ok (.aload_n 0, 1) := by decide +kernel
theorem d1_116 : decode prog_37_method_1_code 116 = .ok (.aload 7, 2) := by decide +kernel
theorem d1_118 : decode prog_37_method_1_code 118 = .ok (.putfield 42, 3) := by decide +kernel
theorem d1_121 : decode prog_37_method_1_code 121 = .ok (.return_, 1) := by decide +kernel
theorem pd2 : parseMethodDescriptor "(IIIJ[D[D)V" = some ⟨[.int, .int, .int, .long, (.array .double), (.array .double)], none⟩ := by decide +kernel
theorem pf_tin : plainFor (⟨"com/example/borrowed_prior/borrowedprior/model/TopicModel", "<init>", "(IIIJ[D[D)V"⟩ : MethodName) = true := by first | exact plainFor_of_name (by first | (simp [plainName, overriddenIn, x]; done) | decide +kernel) | exact Jvm.Free.JP.mathPlain rfl (by decide +kernel) | decide +kernel
theorem ef_tin (m : MethodId) (ta : Addr) (tk : Int32) (td : Int32) (tw : Int32) (tt : Int64) (da : Addr) (pa : Addr) : entryFrame m #[(.ref ta), (.int tk), (.int td), (.int tw), (.long tt), (.ref da), (.ref pa)] 8 = mkF m 0 #[rv ta, iv tk, iv td, iv tw, .val (.long tt), .second, rv da, rv pa] [] := by first | (simp [entryFrame, mkF, argsToLocals, Value.category, maxLocals]; done) | rfl
def Q_tin (Z : State) (ta : Addr) (tk : Int32) (td : Int32) (tw : Int32) (tt : Int64) (da : Addr) (pa : Addr) (dk : ClassId) (dn : Int32) (dv : List Value) (dd : Value) (pk : ClassId) (pn : Int32) (pv : List Value) (pq : Value) (h0 : Heap) (n0 : Nat) (v : Option Value) (h : Heap) (L : List Loc) : Prop := v = none ∧ Fr n0 L ∧ (Keep h0 h [ta]) ∧ (Exa Z h ta "com/example/borrowed_prior/borrowedprior/model/TopicModel") ∧ (Fld Z h ta "com/example/borrowed_prior/borrowedprior/model/TopicModel" "topicCount" "I" (.int tk)) ∧ (Fld Z h ta "com/example/borrowed_prior/borrowedprior/model/TopicModel" "documentCount" "I" (.int td)) ∧ (Fld Z h ta "com/example/borrowed_prior/borrowedprior/model/TopicModel" "termCount" "I" (.int tw)) ∧ (Fld Z h ta "com/example/borrowed_prior/borrowedprior/model/TopicModel" "tokenCount" "J" (.long tt)) ∧ (Fld Z h ta "com/example/borrowed_prior/borrowedprior/model/TopicModel" "documentTopics" "[D" (.ref da)) ∧ (Fld Z h ta "com/example/borrowed_prior/borrowedprior/model/TopicModel" "termTopics" "[D" (.ref pa))
set_option maxRecDepth 65536 in
set_option maxHeartbeats 40000000 in
theorem rm_tin (l : Launch) (Z : State) (a0 : Array Value) (hw : ∀ d ∈ tables_1, d.before a0 Z = true) (ws : List Jvm.Cond) (ta : Addr) (tk : Int32) (td : Int32) (tw : Int32) (tt : Int64) (da : Addr) (pa : Addr) (dk : ClassId) (dn : Int32) (dv : List Value) (dd : Value) (pk : ClassId) (pn : Int32) (pv : List Value) (pq : Value) (h0 : Heap) (n0 : Nat) (Z0 : n0 ≤ h0.size) (P0 : Exa Z h0 ta "com/example/borrowed_prior/borrowedprior/model/TopicModel") (P1 : Fld Z h0 ta "com/example/borrowed_prior/borrowedprior/model/TopicModel" "topicCount" "I" (.int (0 : Int32))) (P2 : Fld Z h0 ta "com/example/borrowed_prior/borrowedprior/model/TopicModel" "documentCount" "I" (.int (0 : Int32))) (P3 : Fld Z h0 ta "com/example/borrowed_prior/borrowedprior/model/TopicModel" "termCount" "I" (.int (0 : Int32))) (P4 : Fld Z h0 ta "com/example/borrowed_prior/borrowedprior/model/TopicModel" "tokenCount" "J" (.long (0 : Int64))) (P5 : Fld Z h0 ta "com/example/borrowed_prior/borrowedprior/model/TopicModel" "documentTopics" "[D" .null) (P6 : Fld Z h0 ta "com/example/borrowed_prior/borrowedprior/model/TopicModel" "termTopics" "[D" .null) (P7 : n0 ≤ ta) (P8 : Arv Z h0 da dk .double dn dv dd) (P9 : Arv Z h0 pa pk .double pn pv pq) (h1 : ¬ (tk < (1 : Int32))) (h2 : ¬ (td < 0)) (h3 : ¬ (tw < 0)) (h4 : ¬ (tt < (0 : Int64))) (h5 : (dn).toInt64 = ((td).toInt64 * (tk).toInt64)) (h6 : (pn).toInt64 = ((tw).toInt64 * (tk).toInt64)) (h7 : Prob dn dv dd) (h8 : Prob pn pv pq) (h9 : 0 ≤ dn.toInt) (h10 : 0 ≤ pn.toInt)  :
    MetFree l (⟨"com/example/borrowed_prior/borrowedprior/model/TopicModel", "<init>", "(IIIJ[D[D)V"⟩ : MethodName) (head1 (Jvm.Cond.code (⟨"com/example/borrowed_prior/borrowedprior/model/TopicModel", "<init>", "(IIIJ[D[D)V"⟩ : MethodName) prog_37_method_1_code 8 none :: ws) ({ frames := 2, cells := 0, slots := 0, locals := 30 } : Room)) (fun a U => a = #[(.ref ta), (.int tk), (.int td), (.int tw), (.long tt), (.ref da), (.ref pa)] ∧ Z.Warmed39 U.vm ∧ U.heap = h0) (fun _ _ _ _ _ => True) (fun _ U o U' => ∃ v L, o = .returned v ∧ Q_tin Z ta tk td tw tt da pa dk dn dv dd pk pn pv pq h0 n0 v U'.heap L ∧ FrameEnd U o U' L ({ frames := 2, cells := 0, slots := 0, locals := 30 } : Room).cells ({ frames := 2, cells := 0, slots := 0, locals := 30 } : Room).slots) := by
  refine MetFree.of_bodySF pf_tin hisR ?_
  intro p e s m args below meth c s₁ Bd hml0 hP hK
  obtain ⟨rfl, hZ, hh⟩ := hP
  have hx := Bd.exec
  have hby := Bd.bytes
  have hml : c.maxLocals = 8 := hml0
  have hown : s.vm.findClass "com/example/borrowed_prior/borrowedprior/model/TopicModel" = some m.cls := findClass_of_methodNamed Bd.named
  have hnm := (name_of_methodNamed Bd.named Bd.method).1
  have X0 : Stand p l e ({ frames := 2, cells := 0, slots := 0, locals := 30 } : Room) s m #[(.ref ta), (.int tk), (.int td), (.int tw), (.long tt), (.ref da), (.ref pa)] below meth c s₁ [] 0 0 := Stand.of_body Bd
  have e0 : s₁.heap = h0 := by rw [← hh, Bd.state]; rfl
  have N0 := Fr.nil n0
  obtain ⟨S0, hS0⟩ : ∃ z, z = s₁.setTop (entryFrame m #[(.ref ta), (.int tk), (.int td), (.int tw), (.long tt), (.ref da), (.ref pa)] 8) := ⟨_, rfl⟩
  rw [← hS0]
  have g0 : Goes p e below S0 (s₁.setTop (mkF m 0 #[rv ta, iv tk, iv td, iv tw, .val (.long tt), .second, rv da, rv pa] [])) := fun t k => by rw [hS0]; exact castTop (ef_tin m ta tk td tw tt da pa) k
  have g15 : Goes p e below S0 (s₁.setTop (mkF m 1 #[rv ta, iv tk, iv td, iv tw, .val (.long tt), .second, rv da, rv pa] [(.ref ta)])) := fun t k => g0 t (by
    refine XS.aloadN X0.here hx rfl (hb hby d1_0) rfl rfl ?_
    show Go p e below t s₁ m 1 #[rv ta, iv tk, iv td, iv tw, .val (.long tt), .second, rv da, rv pa] [(.ref ta)]
    exact k)
  obtain ⟨T16, X16, e16, st16⟩ := initO X0 hx hZ hown (hw _ (List.mem_of_getElem? (i := 14) rfl)) (hw _ (List.mem_of_getElem? (i := 15) rfl)) (hw _ (List.mem_of_getElem? (i := 16) rfl)) e0 (g := (mkF m 1 #[rv ta, iv tk, iv td, iv tw, .val (.long tt), .second, rv da, rv pa] [(.ref ta)])) rfl (by rw [hml]; rfl) rfl (hb hby d1_1) (by decide) (W := 0) (by show 2 * 0 + _ ≤ _; exact Nat.le_of_eq rfl) (by decide)
  have g17 : Goes p e below S0 (T16.setTop (mkF m 4 #[rv ta, iv tk, iv td, iv tw, .val (.long tt), .second, rv da, rv pa] [])) := fun t k => g15 t (st16 t k)
  have g18 : Goes p e below S0 (T16.setTop (mkF m 44 #[rv ta, iv tk, iv td, iv tw, .val (.long tt), .second, rv da, rv pa] [(.ref da)])) := fun t k => g17 t (by
    refine XS.iloadN X16.here hx rfl (hb hby d1_4) rfl ?_
    show Go p e below t T16 m 5 #[rv ta, iv tk, iv td, iv tw, .val (.long tt), .second, rv da, rv pa] [(.int tk)]
    refine XT.iconstV X16.here hx rfl (1 : Int32) (hb hby d1_5) (by decide) ?_
    show Go p e below t T16 m 6 #[rv ta, iv tk, iv td, iv tw, .val (.long tt), .second, rv da, rv pa] [(.int (1 : Int32)), (.int tk)]
    refine XS.icmpNo X16.here hx rfl (hb hby d1_6) rfl (XT.ii_lt_f h1) ?_
    show Go p e below t T16 m 9 #[rv ta, iv tk, iv td, iv tw, .val (.long tt), .second, rv da, rv pa] []
    refine XS.iloadN X16.here hx rfl (hb hby d1_9) rfl ?_
    show Go p e below t T16 m 10 #[rv ta, iv tk, iv td, iv tw, .val (.long tt), .second, rv da, rv pa] [(.int td)]
    refine XS.ifNo X16.here hx rfl (hb hby d1_10) rfl (XT.i0_lt_f h2) ?_
    show Go p e below t T16 m 13 #[rv ta, iv tk, iv td, iv tw, .val (.long tt), .second, rv da, rv pa] []
    refine XS.iloadN X16.here hx rfl (hb hby d1_13) rfl ?_
    show Go p e below t T16 m 14 #[rv ta, iv tk, iv td, iv tw, .val (.long tt), .second, rv da, rv pa] [(.int tw)]
    refine XS.ifNo X16.here hx rfl (hb hby d1_14) rfl (XT.i0_lt_f h3) ?_
    show Go p e below t T16 m 17 #[rv ta, iv tk, iv td, iv tw, .val (.long tt), .second, rv da, rv pa] []
    refine XS.lload X16.here hx rfl (hb hby d1_17) rfl ?_
    show Go p e below t T16 m 19 #[rv ta, iv tk, iv td, iv tw, .val (.long tt), .second, rv da, rv pa] [(.long tt)]
    refine XT.lconstV X16.here hx rfl (0 : Int64) (hb hby d1_19) (by decide) ?_
    show Go p e below t T16 m 20 #[rv ta, iv tk, iv td, iv tw, .val (.long tt), .second, rv da, rv pa] [(.long (0 : Int64)), (.long tt)]
    refine XS.lcmp X16.here hx rfl (hb hby d1_20) rfl ?_
    show Go p e below t T16 m 21 #[rv ta, iv tk, iv td, iv tw, .val (.long tt), .second, rv da, rv pa] [(.int (lcmpW tt (0 : Int64)))]
    refine XS.ifYes X16.here hx rfl (pc0 := 21) (pc' := 42) rfl (hb hby d1_21) rfl (XT.ll_ge_t h4) (by decide) (by decide) ?_
    show Go p e below t T16 m 42 #[rv ta, iv tk, iv td, iv tw, .val (.long tt), .second, rv da, rv pa] []
    refine XS.aload X16.here hx rfl (hb hby d1_42) rfl rfl ?_
    show Go p e below t T16 m 44 #[rv ta, iv tk, iv td, iv tw, .val (.long tt), .second, rv da, rv pa] [(.ref da)]
    exact k)
  obtain ⟨cl19, Ar19, q19, S19, M19, H19, G19⟩ := id P8
  have g20 : Goes p e below S0 (T16.setTop (mkF m 57 #[rv ta, iv tk, iv td, iv tw, .val (.long tt), .second, rv da, rv pa] [(.ref pa)])) := fun t k => g18 t (by
    refine X16.arraylength hx (by rw [e16]; exact Ar19.1) (State.isArrayOf_alike hZ.alike Ar19.2.1) (g := (mkF m 44 #[rv ta, iv tk, iv td, iv tw, .val (.long tt), .second, rv da, rv pa] [(.ref da)])) rfl rfl (hb hby d1_44) _ ?_
    rw [len_of S19 M19]
    show Go p e below t T16 m 45 #[rv ta, iv tk, iv td, iv tw, .val (.long tt), .second, rv da, rv pa] [(.int dn)]
    refine XS.i2l X16.here hx rfl (hb hby d1_45) rfl ?_
    show Go p e below t T16 m 46 #[rv ta, iv tk, iv td, iv tw, .val (.long tt), .second, rv da, rv pa] [(.long ((dn).toInt64))]
    refine XS.iloadN X16.here hx rfl (hb hby d1_46) rfl ?_
    show Go p e below t T16 m 47 #[rv ta, iv tk, iv td, iv tw, .val (.long tt), .second, rv da, rv pa] [(.int td), (.long ((dn).toInt64))]
    refine XS.i2l X16.here hx rfl (hb hby d1_47) rfl ?_
    show Go p e below t T16 m 48 #[rv ta, iv tk, iv td, iv tw, .val (.long tt), .second, rv da, rv pa] [(.long ((td).toInt64)), (.long ((dn).toInt64))]
    refine XS.iloadN X16.here hx rfl (hb hby d1_48) rfl ?_
    show Go p e below t T16 m 49 #[rv ta, iv tk, iv td, iv tw, .val (.long tt), .second, rv da, rv pa] [(.int tk), (.long ((td).toInt64)), (.long ((dn).toInt64))]
    refine XS.i2l X16.here hx rfl (hb hby d1_49) rfl ?_
    show Go p e below t T16 m 50 #[rv ta, iv tk, iv td, iv tw, .val (.long tt), .second, rv da, rv pa] [(.long ((tk).toInt64)), (.long ((td).toInt64)), (.long ((dn).toInt64))]
    refine XS.lmul X16.here hx rfl (hb hby d1_50) rfl ?_
    show Go p e below t T16 m 51 #[rv ta, iv tk, iv td, iv tw, .val (.long tt), .second, rv da, rv pa] [(.long (((td).toInt64) * ((tk).toInt64))), (.long ((dn).toInt64))]
    refine XS.lcmp X16.here hx rfl (hb hby d1_51) rfl ?_
    show Go p e below t T16 m 52 #[rv ta, iv tk, iv td, iv tw, .val (.long tt), .second, rv da, rv pa] [(.int (lcmpW ((dn).toInt64) (((td).toInt64) * ((tk).toInt64))))]
    refine XS.ifNo X16.here hx rfl (hb hby d1_52) rfl (XT.ll_ne_f h5) ?_
    show Go p e below t T16 m 55 #[rv ta, iv tk, iv td, iv tw, .val (.long tt), .second, rv da, rv pa] []
    refine XS.aload X16.here hx rfl (hb hby d1_55) rfl rfl ?_
    show Go p e below t T16 m 57 #[rv ta, iv tk, iv td, iv tw, .val (.long tt), .second, rv da, rv pa] [(.ref pa)]
    exact k)
  obtain ⟨cl21, Ar21, q21, S21, M21, H21, G21⟩ := id P9
  have g22 : Goes p e below S0 (T16.setTop (mkF m 80 #[rv ta, iv tk, iv td, iv tw, .val (.long tt), .second, rv da, rv pa] [(.ref da)])) := fun t k => g20 t (by
    refine X16.arraylength hx (by rw [e16]; exact Ar21.1) (State.isArrayOf_alike hZ.alike Ar21.2.1) (g := (mkF m 57 #[rv ta, iv tk, iv td, iv tw, .val (.long tt), .second, rv da, rv pa] [(.ref pa)])) rfl rfl (hb hby d1_57) _ ?_
    rw [len_of S21 M21]
    show Go p e below t T16 m 58 #[rv ta, iv tk, iv td, iv tw, .val (.long tt), .second, rv da, rv pa] [(.int pn)]
    refine XS.i2l X16.here hx rfl (hb hby d1_58) rfl ?_
    show Go p e below t T16 m 59 #[rv ta, iv tk, iv td, iv tw, .val (.long tt), .second, rv da, rv pa] [(.long ((pn).toInt64))]
    refine XS.iloadN X16.here hx rfl (hb hby d1_59) rfl ?_
    show Go p e below t T16 m 60 #[rv ta, iv tk, iv td, iv tw, .val (.long tt), .second, rv da, rv pa] [(.int tw), (.long ((pn).toInt64))]
    refine XS.i2l X16.here hx rfl (hb hby d1_60) rfl ?_
    show Go p e below t T16 m 61 #[rv ta, iv tk, iv td, iv tw, .val (.long tt), .second, rv da, rv pa] [(.long ((tw).toInt64)), (.long ((pn).toInt64))]
    refine XS.iloadN X16.here hx rfl (hb hby d1_61) rfl ?_
    show Go p e below t T16 m 62 #[rv ta, iv tk, iv td, iv tw, .val (.long tt), .second, rv da, rv pa] [(.int tk), (.long ((tw).toInt64)), (.long ((pn).toInt64))]
    refine XS.i2l X16.here hx rfl (hb hby d1_62) rfl ?_
    show Go p e below t T16 m 63 #[rv ta, iv tk, iv td, iv tw, .val (.long tt), .second, rv da, rv pa] [(.long ((tk).toInt64)), (.long ((tw).toInt64)), (.long ((pn).toInt64))]
    refine XS.lmul X16.here hx rfl (hb hby d1_63) rfl ?_
    show Go p e below t T16 m 64 #[rv ta, iv tk, iv td, iv tw, .val (.long tt), .second, rv da, rv pa] [(.long (((tw).toInt64) * ((tk).toInt64))), (.long ((pn).toInt64))]
    refine XS.lcmp X16.here hx rfl (hb hby d1_64) rfl ?_
    show Go p e below t T16 m 65 #[rv ta, iv tk, iv td, iv tw, .val (.long tt), .second, rv da, rv pa] [(.int (lcmpW ((pn).toInt64) (((tw).toInt64) * ((tk).toInt64))))]
    refine XS.ifYes X16.here hx rfl (pc0 := 65) (pc' := 78) rfl (hb hby d1_65) rfl (XT.ll_eq_t h6) (by decide) (by decide) ?_
    show Go p e below t T16 m 78 #[rv ta, iv tk, iv td, iv tw, .val (.long tt), .second, rv da, rv pa] []
    refine XS.aload X16.here hx rfl (hb hby d1_78) rfl rfl ?_
    show Go p e below t T16 m 80 #[rv ta, iv tk, iv td, iv tw, .val (.long tt), .second, rv da, rv pa] [(.ref da)]
    exact k)
  obtain ⟨_, _, ⟨T23, L23, k23, n23⟩, -, X23, ⟨Lc23, hQ23, l23, y23, z23⟩, st23⟩ := Jvm.LawKit.callS X16 hx (y := (⟨"com/example/borrowed_prior/borrowedprior/model/TopicModel", "requireProbabilities", "([D)V"⟩ : MethodName)) hown (mvT hZ (hw _ (List.mem_of_getElem? (i := 17) rfl))) (mvT hZ (hw _ (List.mem_of_getElem? (i := 18) rfl))) (mvT hZ (hw _ (List.mem_of_getElem? (i := 9) rfl))) (mvT hZ (hw _ (List.mem_of_getElem? (i := 19) rfl))) (by decide) (backOf (W := 0) (rm_req l Z a0 hw [] da dk dn dv dd h0 n0 Z0 P8 h7 h9) hZ (hw _ (List.mem_of_getElem? (i := 19) rfl)) (hw _ (List.mem_of_getElem? (i := 9) rfl)) (by decide) (by decide)) (g := (mkF m 80 #[rv ta, iv tk, iv td, iv tw, .val (.long tt), .second, rv da, rv pa] [(.ref da)])) rfl (by rw [hml]; rfl) (argsL := [(.ref da)]) (rest := []) (lenOf pd1 rfl) rfl (by show 2 * 0 + _ ≤ _; exact Nat.le_of_eq rfl) (hb hby d1_80) (fun _ _ => ⟨rfl, e16, (by decide : 0 + 0 ≤ _), (by decide : 0 + 0 ≤ _)⟩)
  dsimp only [Pt.U, Pt.locs, Pt.cells, Pt.slots] at X23 l23 y23 z23 st23 hQ23
  subst l23 y23 z23
  obtain ⟨rfl, N23, R23_0⟩ := hQ23
  have M23 := Fr.app N0 N23
  have g24 : Goes p e below S0 (T23.setTop (mkF m 83 #[rv ta, iv tk, iv td, iv tw, .val (.long tt), .second, rv da, rv pa] [])) := fun t k => g22 t (st23 t k)
  have g25 : Goes p e below S0 (T23.setTop (mkF m 85 #[rv ta, iv tk, iv td, iv tw, .val (.long tt), .second, rv da, rv pa] [(.ref pa)])) := fun t k => g24 t (by
    refine XS.aload X23.here hx rfl (hb hby d1_83) rfl rfl ?_
    show Go p e below t T23 m 85 #[rv ta, iv tk, iv td, iv tw, .val (.long tt), .second, rv da, rv pa] [(.ref pa)]
    exact k)
  obtain ⟨_, _, ⟨T26, L26, k26, n26⟩, -, X26, ⟨Lc26, hQ26, l26, y26, z26⟩, st26⟩ := Jvm.LawKit.callS X23 hx (y := (⟨"com/example/borrowed_prior/borrowedprior/model/TopicModel", "requireProbabilities", "([D)V"⟩ : MethodName)) hown (mvT hZ (hw _ (List.mem_of_getElem? (i := 17) rfl))) (mvT hZ (hw _ (List.mem_of_getElem? (i := 18) rfl))) (mvT hZ (hw _ (List.mem_of_getElem? (i := 9) rfl))) (mvT hZ (hw _ (List.mem_of_getElem? (i := 19) rfl))) (by decide) (backOf (W := 0) (rm_req l Z a0 hw [] pa pk pn pv pq h0 n0 Z0 P9 h8 h10) hZ (hw _ (List.mem_of_getElem? (i := 19) rfl)) (hw _ (List.mem_of_getElem? (i := 9) rfl)) (by decide) (by decide)) (g := (mkF m 85 #[rv ta, iv tk, iv td, iv tw, .val (.long tt), .second, rv da, rv pa] [(.ref pa)])) rfl (by rw [hml]; rfl) (argsL := [(.ref pa)]) (rest := []) (lenOf pd1 rfl) rfl (by show 2 * 0 + _ ≤ _; exact Nat.le_of_eq rfl) (hb hby d1_85) (fun _ _ => ⟨rfl, R23_0, (by decide : 0 + 0 ≤ _), (by decide : 0 + 0 ≤ _)⟩)
  dsimp only [Pt.U, Pt.locs, Pt.cells, Pt.slots] at X26 l26 y26 z26 st26 hQ26
  subst l26 y26 z26
  obtain ⟨rfl, N26, R26_0⟩ := hQ26
  have M26 := Fr.app M23 N26
  have g27 : Goes p e below S0 (T26.setTop (mkF m 88 #[rv ta, iv tk, iv td, iv tw, .val (.long tt), .second, rv da, rv pa] [])) := fun t k => g25 t (st26 t k)
  have g28 : Goes p e below S0 (T26.setTop (mkF m 90 #[rv ta, iv tk, iv td, iv tw, .val (.long tt), .second, rv da, rv pa] [(.int tk), (.ref ta)])) := fun t k => g27 t (by
    refine XS.aloadN X26.here hx rfl (hb hby d1_88) rfl rfl ?_
    show Go p e below t T26 m 89 #[rv ta, iv tk, iv td, iv tw, .val (.long tt), .second, rv da, rv pa] [(.ref ta)]
    refine XS.iloadN X26.here hx rfl (hb hby d1_89) rfl ?_
    show Go p e below t T26 m 90 #[rv ta, iv tk, iv td, iv tw, .val (.long tt), .second, rv da, rv pa] [(.int tk), (.ref ta)]
    exact k)
  obtain ⟨T29, h29, X29, e29, W29, st29⟩ := putF X26 hx hZ hown (host := "") (Or.inl (hw _ (List.mem_of_getElem? (i := 20) rfl))) Via.refl R26_0 P1 P0 (Or.inr ⟨(hw _ (List.mem_of_getElem? (i := 21) rfl)), rfl, hnm⟩) (hw _ (List.mem_of_getElem? (i := 8) rfl)) (ty := .int) (by decide) rfl rfl (g := (mkF m 90 #[rv ta, iv tk, iv td, iv tw, .val (.long tt), .second, rv da, rv pa] [(.int tk), (.ref ta)])) rfl rfl (hb hby d1_90)
  have N29 := Fr.snoc X29 M26 P7
  have Fw29 := Fld.same W29 P1
  have g30 : Goes p e below S0 (T29.setTop (mkF m 93 #[rv ta, iv tk, iv td, iv tw, .val (.long tt), .second, rv da, rv pa] [])) := fun t k => g28 t (st29 t k)
  have g31 : Goes p e below S0 (T29.setTop (mkF m 95 #[rv ta, iv tk, iv td, iv tw, .val (.long tt), .second, rv da, rv pa] [(.int td), (.ref ta)])) := fun t k => g30 t (by
    refine XS.aloadN X29.here hx rfl (hb hby d1_93) rfl rfl ?_
    show Go p e below t T29 m 94 #[rv ta, iv tk, iv td, iv tw, .val (.long tt), .second, rv da, rv pa] [(.ref ta)]
    refine XS.iloadN X29.here hx rfl (hb hby d1_94) rfl ?_
    show Go p e below t T29 m 95 #[rv ta, iv tk, iv td, iv tw, .val (.long tt), .second, rv da, rv pa] [(.int td), (.ref ta)]
    exact k)
  obtain ⟨T32, h32, X32, e32, W32, st32⟩ := putF X29 hx hZ hown (host := "") (Or.inl (hw _ (List.mem_of_getElem? (i := 22) rfl))) Via.refl e29 (P2.other W29 (Or.inr (slot_ne (Or.inr (hw _ (List.mem_of_getElem? (i := 23) rfl))) (Or.inr (hw _ (List.mem_of_getElem? (i := 21) rfl))) (by decide) (t := .int) (t' := .int) (by decide) (by decide)))) (P0.wr W29) (Or.inr ⟨(hw _ (List.mem_of_getElem? (i := 23) rfl)), rfl, hnm⟩) (hw _ (List.mem_of_getElem? (i := 8) rfl)) (ty := .int) (by decide) rfl rfl (g := (mkF m 95 #[rv ta, iv tk, iv td, iv tw, .val (.long tt), .second, rv da, rv pa] [(.int td), (.ref ta)])) rfl rfl (hb hby d1_95)
  have N32 := Fr.snoc X32 N29 P7
  have Fw32 := Fld.same W32 (P2.other W29 (Or.inr (slot_ne (Or.inr (hw _ (List.mem_of_getElem? (i := 23) rfl))) (Or.inr (hw _ (List.mem_of_getElem? (i := 21) rfl))) (by decide) (t := .int) (t' := .int) (by decide) (by decide))))
  have g33 : Goes p e below S0 (T32.setTop (mkF m 98 #[rv ta, iv tk, iv td, iv tw, .val (.long tt), .second, rv da, rv pa] [])) := fun t k => g31 t (st32 t k)
  have g34 : Goes p e below S0 (T32.setTop (mkF m 100 #[rv ta, iv tk, iv td, iv tw, .val (.long tt), .second, rv da, rv pa] [(.int tw), (.ref ta)])) := fun t k => g33 t (by
    refine XS.aloadN X32.here hx rfl (hb hby d1_98) rfl rfl ?_
    show Go p e below t T32 m 99 #[rv ta, iv tk, iv td, iv tw, .val (.long tt), .second, rv da, rv pa] [(.ref ta)]
    refine XS.iloadN X32.here hx rfl (hb hby d1_99) rfl ?_
    show Go p e below t T32 m 100 #[rv ta, iv tk, iv td, iv tw, .val (.long tt), .second, rv da, rv pa] [(.int tw), (.ref ta)]
    exact k)
  obtain ⟨T35, h35, X35, e35, W35, st35⟩ := putF X32 hx hZ hown (host := "") (Or.inl (hw _ (List.mem_of_getElem? (i := 24) rfl))) Via.refl e32 ((P3.other W29 (Or.inr (slot_ne (Or.inr (hw _ (List.mem_of_getElem? (i := 25) rfl))) (Or.inr (hw _ (List.mem_of_getElem? (i := 21) rfl))) (by decide) (t := .int) (t' := .int) (by decide) (by decide)))).other W32 (Or.inr (slot_ne (Or.inr (hw _ (List.mem_of_getElem? (i := 25) rfl))) (Or.inr (hw _ (List.mem_of_getElem? (i := 23) rfl))) (by decide) (t := .int) (t' := .int) (by decide) (by decide)))) ((P0.wr W29).wr W32) (Or.inr ⟨(hw _ (List.mem_of_getElem? (i := 25) rfl)), rfl, hnm⟩) (hw _ (List.mem_of_getElem? (i := 8) rfl)) (ty := .int) (by decide) rfl rfl (g := (mkF m 100 #[rv ta, iv tk, iv td, iv tw, .val (.long tt), .second, rv da, rv pa] [(.int tw), (.ref ta)])) rfl rfl (hb hby d1_100)
  have N35 := Fr.snoc X35 N32 P7
  have Fw35 := Fld.same W35 ((P3.other W29 (Or.inr (slot_ne (Or.inr (hw _ (List.mem_of_getElem? (i := 25) rfl))) (Or.inr (hw _ (List.mem_of_getElem? (i := 21) rfl))) (by decide) (t := .int) (t' := .int) (by decide) (by decide)))).other W32 (Or.inr (slot_ne (Or.inr (hw _ (List.mem_of_getElem? (i := 25) rfl))) (Or.inr (hw _ (List.mem_of_getElem? (i := 23) rfl))) (by decide) (t := .int) (t' := .int) (by decide) (by decide))))
  have g36 : Goes p e below S0 (T35.setTop (mkF m 103 #[rv ta, iv tk, iv td, iv tw, .val (.long tt), .second, rv da, rv pa] [])) := fun t k => g34 t (st35 t k)
  have g37 : Goes p e below S0 (T35.setTop (mkF m 106 #[rv ta, iv tk, iv td, iv tw, .val (.long tt), .second, rv da, rv pa] [(.long tt), (.ref ta)])) := fun t k => g36 t (by
    refine XS.aloadN X35.here hx rfl (hb hby d1_103) rfl rfl ?_
    show Go p e below t T35 m 104 #[rv ta, iv tk, iv td, iv tw, .val (.long tt), .second, rv da, rv pa] [(.ref ta)]
    refine XS.lload X35.here hx rfl (hb hby d1_104) rfl ?_
    show Go p e below t T35 m 106 #[rv ta, iv tk, iv td, iv tw, .val (.long tt), .second, rv da, rv pa] [(.long tt), (.ref ta)]
    exact k)
  obtain ⟨T38, h38, X38, e38, W38, st38⟩ := putF X35 hx hZ hown (host := "") (Or.inl (hw _ (List.mem_of_getElem? (i := 26) rfl))) Via.refl e35 (((P4.other W29 (Or.inr (slot_ne (Or.inr (hw _ (List.mem_of_getElem? (i := 27) rfl))) (Or.inr (hw _ (List.mem_of_getElem? (i := 21) rfl))) (by decide) (t := .long) (t' := .int) (by decide) (by decide)))).other W32 (Or.inr (slot_ne (Or.inr (hw _ (List.mem_of_getElem? (i := 27) rfl))) (Or.inr (hw _ (List.mem_of_getElem? (i := 23) rfl))) (by decide) (t := .long) (t' := .int) (by decide) (by decide)))).other W35 (Or.inr (slot_ne (Or.inr (hw _ (List.mem_of_getElem? (i := 27) rfl))) (Or.inr (hw _ (List.mem_of_getElem? (i := 25) rfl))) (by decide) (t := .long) (t' := .int) (by decide) (by decide)))) (((P0.wr W29).wr W32).wr W35) (Or.inr ⟨(hw _ (List.mem_of_getElem? (i := 27) rfl)), rfl, hnm⟩) (hw _ (List.mem_of_getElem? (i := 8) rfl)) (ty := .long) (by decide) rfl rfl (g := (mkF m 106 #[rv ta, iv tk, iv td, iv tw, .val (.long tt), .second, rv da, rv pa] [(.long tt), (.ref ta)])) rfl rfl (hb hby d1_106)
  have N38 := Fr.snoc X38 N35 P7
  have Fw38 := Fld.same W38 (((P4.other W29 (Or.inr (slot_ne (Or.inr (hw _ (List.mem_of_getElem? (i := 27) rfl))) (Or.inr (hw _ (List.mem_of_getElem? (i := 21) rfl))) (by decide) (t := .long) (t' := .int) (by decide) (by decide)))).other W32 (Or.inr (slot_ne (Or.inr (hw _ (List.mem_of_getElem? (i := 27) rfl))) (Or.inr (hw _ (List.mem_of_getElem? (i := 23) rfl))) (by decide) (t := .long) (t' := .int) (by decide) (by decide)))).other W35 (Or.inr (slot_ne (Or.inr (hw _ (List.mem_of_getElem? (i := 27) rfl))) (Or.inr (hw _ (List.mem_of_getElem? (i := 25) rfl))) (by decide) (t := .long) (t' := .int) (by decide) (by decide))))
  have g39 : Goes p e below S0 (T38.setTop (mkF m 109 #[rv ta, iv tk, iv td, iv tw, .val (.long tt), .second, rv da, rv pa] [])) := fun t k => g37 t (st38 t k)
  have g40 : Goes p e below S0 (T38.setTop (mkF m 112 #[rv ta, iv tk, iv td, iv tw, .val (.long tt), .second, rv da, rv pa] [(.ref da), (.ref ta)])) := fun t k => g39 t (by
    refine XS.aloadN X38.here hx rfl (hb hby d1_109) rfl rfl ?_
    show Go p e below t T38 m 110 #[rv ta, iv tk, iv td, iv tw, .val (.long tt), .second, rv da, rv pa] [(.ref ta)]
    refine XS.aload X38.here hx rfl (hb hby d1_110) rfl rfl ?_
    show Go p e below t T38 m 112 #[rv ta, iv tk, iv td, iv tw, .val (.long tt), .second, rv da, rv pa] [(.ref da), (.ref ta)]
    exact k)
  obtain ⟨T41, h41, X41, e41, W41, st41⟩ := putF X38 hx hZ hown (host := "") (Or.inl (hw _ (List.mem_of_getElem? (i := 28) rfl))) Via.refl e38 ((((P5.other W29 (Or.inr (slot_ne (Or.inr (hw _ (List.mem_of_getElem? (i := 29) rfl))) (Or.inr (hw _ (List.mem_of_getElem? (i := 21) rfl))) (by decide) (t := (.array .double)) (t' := .int) (by decide) (by decide)))).other W32 (Or.inr (slot_ne (Or.inr (hw _ (List.mem_of_getElem? (i := 29) rfl))) (Or.inr (hw _ (List.mem_of_getElem? (i := 23) rfl))) (by decide) (t := (.array .double)) (t' := .int) (by decide) (by decide)))).other W35 (Or.inr (slot_ne (Or.inr (hw _ (List.mem_of_getElem? (i := 29) rfl))) (Or.inr (hw _ (List.mem_of_getElem? (i := 25) rfl))) (by decide) (t := (.array .double)) (t' := .int) (by decide) (by decide)))).other W38 (Or.inr (slot_ne (Or.inr (hw _ (List.mem_of_getElem? (i := 29) rfl))) (Or.inr (hw _ (List.mem_of_getElem? (i := 27) rfl))) (by decide) (t := (.array .double)) (t' := .long) (by decide) (by decide)))) ((((P0.wr W29).wr W32).wr W35).wr W38) (Or.inr ⟨(hw _ (List.mem_of_getElem? (i := 29) rfl)), rfl, hnm⟩) (hw _ (List.mem_of_getElem? (i := 8) rfl)) (ty := (.array .double)) (by decide) rfl rfl (g := (mkF m 112 #[rv ta, iv tk, iv td, iv tw, .val (.long tt), .second, rv da, rv pa] [(.ref da), (.ref ta)])) rfl rfl (hb hby d1_112)
  have N41 := Fr.snoc X41 N38 P7
  have Fw41 := Fld.same W41 ((((P5.other W29 (Or.inr (slot_ne (Or.inr (hw _ (List.mem_of_getElem? (i := 29) rfl))) (Or.inr (hw _ (List.mem_of_getElem? (i := 21) rfl))) (by decide) (t := (.array .double)) (t' := .int) (by decide) (by decide)))).other W32 (Or.inr (slot_ne (Or.inr (hw _ (List.mem_of_getElem? (i := 29) rfl))) (Or.inr (hw _ (List.mem_of_getElem? (i := 23) rfl))) (by decide) (t := (.array .double)) (t' := .int) (by decide) (by decide)))).other W35 (Or.inr (slot_ne (Or.inr (hw _ (List.mem_of_getElem? (i := 29) rfl))) (Or.inr (hw _ (List.mem_of_getElem? (i := 25) rfl))) (by decide) (t := (.array .double)) (t' := .int) (by decide) (by decide)))).other W38 (Or.inr (slot_ne (Or.inr (hw _ (List.mem_of_getElem? (i := 29) rfl))) (Or.inr (hw _ (List.mem_of_getElem? (i := 27) rfl))) (by decide) (t := (.array .double)) (t' := .long) (by decide) (by decide))))
  have g42 : Goes p e below S0 (T41.setTop (mkF m 115 #[rv ta, iv tk, iv td, iv tw, .val (.long tt), .second, rv da, rv pa] [])) := fun t k => g40 t (st41 t k)
  have g43 : Goes p e below S0 (T41.setTop (mkF m 118 #[rv ta, iv tk, iv td, iv tw, .val (.long tt), .second, rv da, rv pa] [(.ref pa), (.ref ta)])) := fun t k => g42 t (by
    refine XS.aloadN X41.here hx rfl (hb hby d1_115) rfl rfl ?_
    show Go p e below t T41 m 116 #[rv ta, iv tk, iv td, iv tw, .val (.long tt), .second, rv da, rv pa] [(.ref ta)]
    refine XS.aload X41.here hx rfl (hb hby d1_116) rfl rfl ?_
    show Go p e below t T41 m 118 #[rv ta, iv tk, iv td, iv tw, .val (.long tt), .second, rv da, rv pa] [(.ref pa), (.ref ta)]
    exact k)
  obtain ⟨T44, h44, X44, e44, W44, st44⟩ := putF X41 hx hZ hown (host := "") (Or.inl (hw _ (List.mem_of_getElem? (i := 30) rfl))) Via.refl e41 (((((P6.other W29 (Or.inr (slot_ne (Or.inr (hw _ (List.mem_of_getElem? (i := 31) rfl))) (Or.inr (hw _ (List.mem_of_getElem? (i := 21) rfl))) (by decide) (t := (.array .double)) (t' := .int) (by decide) (by decide)))).other W32 (Or.inr (slot_ne (Or.inr (hw _ (List.mem_of_getElem? (i := 31) rfl))) (Or.inr (hw _ (List.mem_of_getElem? (i := 23) rfl))) (by decide) (t := (.array .double)) (t' := .int) (by decide) (by decide)))).other W35 (Or.inr (slot_ne (Or.inr (hw _ (List.mem_of_getElem? (i := 31) rfl))) (Or.inr (hw _ (List.mem_of_getElem? (i := 25) rfl))) (by decide) (t := (.array .double)) (t' := .int) (by decide) (by decide)))).other W38 (Or.inr (slot_ne (Or.inr (hw _ (List.mem_of_getElem? (i := 31) rfl))) (Or.inr (hw _ (List.mem_of_getElem? (i := 27) rfl))) (by decide) (t := (.array .double)) (t' := .long) (by decide) (by decide)))).other W41 (Or.inr (slot_ne (Or.inr (hw _ (List.mem_of_getElem? (i := 31) rfl))) (Or.inr (hw _ (List.mem_of_getElem? (i := 29) rfl))) (by decide) (t := (.array .double)) (t' := (.array .double)) (by decide) (by decide)))) (((((P0.wr W29).wr W32).wr W35).wr W38).wr W41) (Or.inr ⟨(hw _ (List.mem_of_getElem? (i := 31) rfl)), rfl, hnm⟩) (hw _ (List.mem_of_getElem? (i := 8) rfl)) (ty := (.array .double)) (by decide) rfl rfl (g := (mkF m 118 #[rv ta, iv tk, iv td, iv tw, .val (.long tt), .second, rv da, rv pa] [(.ref pa), (.ref ta)])) rfl rfl (hb hby d1_118)
  have N44 := Fr.snoc X44 N41 P7
  have Fw44 := Fld.same W44 (((((P6.other W29 (Or.inr (slot_ne (Or.inr (hw _ (List.mem_of_getElem? (i := 31) rfl))) (Or.inr (hw _ (List.mem_of_getElem? (i := 21) rfl))) (by decide) (t := (.array .double)) (t' := .int) (by decide) (by decide)))).other W32 (Or.inr (slot_ne (Or.inr (hw _ (List.mem_of_getElem? (i := 31) rfl))) (Or.inr (hw _ (List.mem_of_getElem? (i := 23) rfl))) (by decide) (t := (.array .double)) (t' := .int) (by decide) (by decide)))).other W35 (Or.inr (slot_ne (Or.inr (hw _ (List.mem_of_getElem? (i := 31) rfl))) (Or.inr (hw _ (List.mem_of_getElem? (i := 25) rfl))) (by decide) (t := (.array .double)) (t' := .int) (by decide) (by decide)))).other W38 (Or.inr (slot_ne (Or.inr (hw _ (List.mem_of_getElem? (i := 31) rfl))) (Or.inr (hw _ (List.mem_of_getElem? (i := 27) rfl))) (by decide) (t := (.array .double)) (t' := .long) (by decide) (by decide)))).other W41 (Or.inr (slot_ne (Or.inr (hw _ (List.mem_of_getElem? (i := 31) rfl))) (Or.inr (hw _ (List.mem_of_getElem? (i := 29) rfl))) (by decide) (t := (.array .double)) (t' := (.array .double)) (by decide) (by decide))))
  have g45 : Goes p e below S0 (T44.setTop (mkF m 121 #[rv ta, iv tk, iv td, iv tw, .val (.long tt), .second, rv da, rv pa] [])) := fun t k => g43 t (st44 t k)
  obtain ⟨fs, hr, hrun, hended, hW, hsame⟩ := X44.leave (v := none) (fun _ => rfl)
  refine ⟨_, _, g45 _ (X44.returnOut hx Bd.returns (hb hby d1_121) hr), hrun, hended, _, _, rfl, ?_, ⟨_, rfl⟩, hW, hsame.mono (by decide) (by decide)⟩
  show Q_tin Z ta tk td tw tt da pa dk dn dv dd pk pn pv pq h0 n0 _ T44.heap _
  rw [e44]
  exact ⟨rfl, N44, (((((((Keep.refl h0 [ta]).wr W29 (Or.inl (List.mem_of_getElem? (i := 0) rfl))).wr W32 (Or.inl (List.mem_of_getElem? (i := 0) rfl))).wr W35 (Or.inl (List.mem_of_getElem? (i := 0) rfl))).wr W38 (Or.inl (List.mem_of_getElem? (i := 0) rfl))).wr W41 (Or.inl (List.mem_of_getElem? (i := 0) rfl))).wr W44 (Or.inl (List.mem_of_getElem? (i := 0) rfl))), ((((((P0.wr W29).wr W32).wr W35).wr W38).wr W41).wr W44), (((((Fw29.other W32 (Or.inr (slot_ne (Or.inr (hw _ (List.mem_of_getElem? (i := 21) rfl))) (Or.inr (hw _ (List.mem_of_getElem? (i := 23) rfl))) (by decide) (t := .int) (t' := .int) (by decide) (by decide)))).other W35 (Or.inr (slot_ne (Or.inr (hw _ (List.mem_of_getElem? (i := 21) rfl))) (Or.inr (hw _ (List.mem_of_getElem? (i := 25) rfl))) (by decide) (t := .int) (t' := .int) (by decide) (by decide)))).other W38 (Or.inr (slot_ne (Or.inr (hw _ (List.mem_of_getElem? (i := 21) rfl))) (Or.inr (hw _ (List.mem_of_getElem? (i := 27) rfl))) (by decide) (t := .int) (t' := .long) (by decide) (by decide)))).other W41 (Or.inr (slot_ne (Or.inr (hw _ (List.mem_of_getElem? (i := 21) rfl))) (Or.inr (hw _ (List.mem_of_getElem? (i := 29) rfl))) (by decide) (t := .int) (t' := (.array .double)) (by decide) (by decide)))).other W44 (Or.inr (slot_ne (Or.inr (hw _ (List.mem_of_getElem? (i := 21) rfl))) (Or.inr (hw _ (List.mem_of_getElem? (i := 31) rfl))) (by decide) (t := .int) (t' := (.array .double)) (by decide) (by decide)))), ((((Fw32.other W35 (Or.inr (slot_ne (Or.inr (hw _ (List.mem_of_getElem? (i := 23) rfl))) (Or.inr (hw _ (List.mem_of_getElem? (i := 25) rfl))) (by decide) (t := .int) (t' := .int) (by decide) (by decide)))).other W38 (Or.inr (slot_ne (Or.inr (hw _ (List.mem_of_getElem? (i := 23) rfl))) (Or.inr (hw _ (List.mem_of_getElem? (i := 27) rfl))) (by decide) (t := .int) (t' := .long) (by decide) (by decide)))).other W41 (Or.inr (slot_ne (Or.inr (hw _ (List.mem_of_getElem? (i := 23) rfl))) (Or.inr (hw _ (List.mem_of_getElem? (i := 29) rfl))) (by decide) (t := .int) (t' := (.array .double)) (by decide) (by decide)))).other W44 (Or.inr (slot_ne (Or.inr (hw _ (List.mem_of_getElem? (i := 23) rfl))) (Or.inr (hw _ (List.mem_of_getElem? (i := 31) rfl))) (by decide) (t := .int) (t' := (.array .double)) (by decide) (by decide)))), (((Fw35.other W38 (Or.inr (slot_ne (Or.inr (hw _ (List.mem_of_getElem? (i := 25) rfl))) (Or.inr (hw _ (List.mem_of_getElem? (i := 27) rfl))) (by decide) (t := .int) (t' := .long) (by decide) (by decide)))).other W41 (Or.inr (slot_ne (Or.inr (hw _ (List.mem_of_getElem? (i := 25) rfl))) (Or.inr (hw _ (List.mem_of_getElem? (i := 29) rfl))) (by decide) (t := .int) (t' := (.array .double)) (by decide) (by decide)))).other W44 (Or.inr (slot_ne (Or.inr (hw _ (List.mem_of_getElem? (i := 25) rfl))) (Or.inr (hw _ (List.mem_of_getElem? (i := 31) rfl))) (by decide) (t := .int) (t' := (.array .double)) (by decide) (by decide)))), ((Fw38.other W41 (Or.inr (slot_ne (Or.inr (hw _ (List.mem_of_getElem? (i := 27) rfl))) (Or.inr (hw _ (List.mem_of_getElem? (i := 29) rfl))) (by decide) (t := .long) (t' := (.array .double)) (by decide) (by decide)))).other W44 (Or.inr (slot_ne (Or.inr (hw _ (List.mem_of_getElem? (i := 27) rfl))) (Or.inr (hw _ (List.mem_of_getElem? (i := 31) rfl))) (by decide) (t := .long) (t' := (.array .double)) (by decide) (by decide)))), (Fw41.other W44 (Or.inr (slot_ne (Or.inr (hw _ (List.mem_of_getElem? (i := 29) rfl))) (Or.inr (hw _ (List.mem_of_getElem? (i := 31) rfl))) (by decide) (t := (.array .double)) (t' := (.array .double)) (by decide) (by decide)))), Fw44⟩
theorem d4_0 : decode prog_37_method_9_code 0 = .ok (.aload_n 0, 1) := by decide +kernel
theorem d4_1 : decode prog_37_method_9_code 1 = .ok (.getfield 42, 3) := by decide +kernel
theorem d4_4 : decode prog_37_method_9_code 4 = .ok (.iload_n 2, 1) := by decide +kernel
theorem d4_5 : decode prog_37_method_9_code 5 = .ok (.aload_n 0, 1) := by decide +kernel
theorem d4_6 : decode prog_37_method_9_code 6 = .ok (.getfield 24, 3) := by decide +kernel
theorem d4_9 : decode prog_37_method_9_code 9 = .ok (.imul, 1) := by decide +kernel
theorem d4_10 : decode prog_37_method_9_code 10 = .ok (.iload_n 1, 1) := by decide +kernel
theorem d4_11 : decode prog_37_method_9_code 11 = .ok (.iadd, 1) := by decide +kernel
theorem d4_12 : decode prog_37_method_9_code 12 = .ok (.daload, 1) := by decide +kernel
theorem d4_13 : decode prog_37_method_9_code 13 = .ok (.dreturn, 1) := by decide +kernel
theorem pf_tt : plainFor (⟨"com/example/borrowed_prior/borrowedprior/model/TopicModel", "topicTerm", "(II)D"⟩ : MethodName) = true := by first | exact plainFor_of_name (by first | (simp [plainName, overriddenIn, x]; done) | decide +kernel) | exact Jvm.Free.JP.mathPlain rfl (by decide +kernel) | decide +kernel
theorem ef_tt (m : MethodId) (za : Addr) (xa : Int32) (xb : Int32) : entryFrame m #[(.ref za), (.int xa), (.int xb)] 3 = mkF m 0 #[rv za, iv xa, iv xb] [] := by first | (simp [entryFrame, mkF, argsToLocals, Value.category, maxLocals]; done) | rfl
def Q_tt (Z : State) (za : Addr) (xa : Int32) (xb : Int32) (tk : Int32) (pa : Addr) (pk : ClassId) (pn : Int32) (pv : List Value) (pq : Value) (x : UInt64) (h0 : Heap) (n0 : Nat) (v : Option Value) (h : Heap) (L : List Loc) : Prop := v = some (.double x) ∧ Fr n0 L ∧ h = h0
set_option maxRecDepth 65536 in
set_option maxHeartbeats 40000000 in
theorem rm_tt (l : Launch) (Z : State) (a0 : Array Value) (hw : ∀ d ∈ tables_1, d.before a0 Z = true) (ws : List Jvm.Cond) (za : Addr) (xa : Int32) (xb : Int32) (tk : Int32) (pa : Addr) (pk : ClassId) (pn : Int32) (pv : List Value) (pq : Value) (x : UInt64) (h0 : Heap) (n0 : Nat) (Z0 : n0 ≤ h0.size) (P0 : Fld Z h0 za "com/example/borrowed_prior/borrowedprior/model/TopicModel" "topicCount" "I" (.int tk)) (P1 : Fld Z h0 za "com/example/borrowed_prior/borrowedprior/model/TopicModel" "termTopics" "[D" (.ref pa)) (P2 : Arv Z h0 pa pk .double pn pv pq) (hin : ¬ ((xb * tk) + xa) < 0 ∧ ((xb * tk) + xa) < pn) (hx1 : pv.getD ((xb * tk) + xa).toNatClampNeg pq = .double x)  :
    MetFree l (⟨"com/example/borrowed_prior/borrowedprior/model/TopicModel", "topicTerm", "(II)D"⟩ : MethodName) (head1 (Jvm.Cond.code (⟨"com/example/borrowed_prior/borrowedprior/model/TopicModel", "topicTerm", "(II)D"⟩ : MethodName) prog_37_method_9_code 3 (some .double) :: ws) ({ frames := 0, cells := 0, slots := 0, locals := 0 } : Room)) (fun a U => a = #[(.ref za), (.int xa), (.int xb)] ∧ Z.Warmed39 U.vm ∧ U.heap = h0) (fun _ _ _ _ _ => True) (fun _ U o U' => ∃ v L, o = .returned v ∧ Q_tt Z za xa xb tk pa pk pn pv pq x h0 n0 v U'.heap L ∧ FrameEnd U o U' L ({ frames := 0, cells := 0, slots := 0, locals := 0 } : Room).cells ({ frames := 0, cells := 0, slots := 0, locals := 0 } : Room).slots) := by
  refine MetFree.of_bodySF pf_tt hisR ?_
  intro p e s m args below meth c s₁ Bd hml0 hP hK
  obtain ⟨rfl, hZ, hh⟩ := hP
  have hx := Bd.exec
  have hby := Bd.bytes
  have hml : c.maxLocals = 3 := hml0
  have hown : s.vm.findClass "com/example/borrowed_prior/borrowedprior/model/TopicModel" = some m.cls := findClass_of_methodNamed Bd.named
  have hnm := (name_of_methodNamed Bd.named Bd.method).1
  have X0 : Stand p l e ({ frames := 0, cells := 0, slots := 0, locals := 0 } : Room) s m #[(.ref za), (.int xa), (.int xb)] below meth c s₁ [] 0 0 := Stand.of_body Bd
  have e0 : s₁.heap = h0 := by rw [← hh, Bd.state]; rfl
  have N0 := Fr.nil n0
  obtain ⟨S0, hS0⟩ : ∃ z, z = s₁.setTop (entryFrame m #[(.ref za), (.int xa), (.int xb)] 3) := ⟨_, rfl⟩
  rw [← hS0]
  have g0 : Goes p e below S0 (s₁.setTop (mkF m 0 #[rv za, iv xa, iv xb] [])) := fun t k => by rw [hS0]; exact castTop (ef_tt m za xa xb) k
  have g46 : Goes p e below S0 (s₁.setTop (mkF m 1 #[rv za, iv xa, iv xb] [(.ref za)])) := fun t k => g0 t (by
    refine XS.aloadN X0.here hx rfl (hb hby d4_0) rfl rfl ?_
    show Go p e below t s₁ m 1 #[rv za, iv xa, iv xb] [(.ref za)]
    exact k)
  obtain ⟨T47, X47, e47, st47⟩ := getF X0 hx hZ hown (host := "") (Or.inl (hw _ (List.mem_of_getElem? (i := 30) rfl))) Via.refl e0 P1 (g := (mkF m 1 #[rv za, iv xa, iv xb] [(.ref za)])) rfl rfl (hb hby d4_1)
  have g48 : Goes p e below S0 (T47.setTop (mkF m 4 #[rv za, iv xa, iv xb] [(.ref pa)])) := fun t k => g46 t (st47 t k)
  have g49 : Goes p e below S0 (T47.setTop (mkF m 6 #[rv za, iv xa, iv xb] [(.ref za), (.int xb), (.ref pa)])) := fun t k => g48 t (by
    refine XS.iloadN X47.here hx rfl (hb hby d4_4) rfl ?_
    show Go p e below t T47 m 5 #[rv za, iv xa, iv xb] [(.int xb), (.ref pa)]
    refine XS.aloadN X47.here hx rfl (hb hby d4_5) rfl rfl ?_
    show Go p e below t T47 m 6 #[rv za, iv xa, iv xb] [(.ref za), (.int xb), (.ref pa)]
    exact k)
  obtain ⟨T50, X50, e50, st50⟩ := getF X47 hx hZ hown (host := "") (Or.inl (hw _ (List.mem_of_getElem? (i := 20) rfl))) Via.refl e47 P0 (g := (mkF m 6 #[rv za, iv xa, iv xb] [(.ref za), (.int xb), (.ref pa)])) rfl rfl (hb hby d4_6)
  have g51 : Goes p e below S0 (T50.setTop (mkF m 9 #[rv za, iv xa, iv xb] [(.int tk), (.int xb), (.ref pa)])) := fun t k => g49 t (st50 t k)
  have g52 : Goes p e below S0 (T50.setTop (mkF m 12 #[rv za, iv xa, iv xb] [(.int ((xb * tk) + xa)), (.ref pa)])) := fun t k => g51 t (by
    refine XS.imul X50.here hx rfl (hb hby d4_9) rfl ?_
    show Go p e below t T50 m 10 #[rv za, iv xa, iv xb] [(.int (xb * tk)), (.ref pa)]
    refine XS.iloadN X50.here hx rfl (hb hby d4_10) rfl ?_
    show Go p e below t T50 m 11 #[rv za, iv xa, iv xb] [(.int xa), (.int (xb * tk)), (.ref pa)]
    refine XS.iadd X50.here hx rfl (hb hby d4_11) rfl ?_
    show Go p e below t T50 m 12 #[rv za, iv xa, iv xb] [(.int ((xb * tk) + xa)), (.ref pa)]
    exact k)
  obtain ⟨cl53, Ar53, q53, S53, M53, H53, G53⟩ := id P2
  have g54 : Goes p e below S0 (T50.setTop (mkF m 13 #[rv za, iv xa, iv xb] [(.double x)])) := fun t k => g52 t (by
    refine X50.daload hx (j := ((xb * tk) + xa)) (v := (.double x)) (by rw [e50]; exact Ar53.1) (State.isArrayOf_alike hZ.alike Ar53.2.1) Ar53.2.2 (inb_of S53 hin) (H53.at (inb_of S53 hin) hx1) (g := (mkF m 12 #[rv za, iv xa, iv xb] [(.int ((xb * tk) + xa)), (.ref pa)])) rfl rfl (hb hby d4_12) _ ?_
    show Go p e below t T50 m 13 #[rv za, iv xa, iv xb] [(.double x)]
    exact k)
  obtain ⟨fs, hr, hrun, hended, hW, hsame⟩ := X50.leave (v := some (.double x)) (fun h => by rw [Bd.returns] at h; cases h)
  refine ⟨_, _, g54 _ (retOut X50 hx Bd.returns rfl (Or.inr (Or.inr (Or.inl ⟨rfl, rfl, _, rfl⟩))) (hb hby d4_13) hr), hrun, hended, _, _, rfl, ?_, ⟨_, rfl⟩, hW, hsame.mono (by decide) (by decide)⟩
  show Q_tt Z za xa xb tk pa pk pn pv pq x h0 n0 _ T50.heap _
  rw [e50]
  exact ⟨rfl, N0, rfl⟩
def nH (a : Int32) : Int32 := a &&& 3
def own_sel (a b c d i : Int32) : Int32 := if i = 0 then a else if i = 1 then b else if i = 2 then c else d
theorem own_in {i : Int32} (h : 0 ≤ i.toInt ∧ i.toInt < 4) : ¬ i < 0 ∧ i < 4 := by
  rw [Int32.lt_iff_toInt_lt, Int32.lt_iff_toInt_lt]
  have : (0 : Int32).toInt = 0 := by decide
  have : (4 : Int32).toInt = 4 := by decide
  omega
theorem own_four {i : Int32} (h : 0 ≤ i.toInt ∧ i.toInt < 4) : i = 0 ∨ i = 1 ∨ i = 2 ∨ i = 3 := by
  have h0 : i.toInt = 0 ∨ i.toInt = 1 ∨ i.toInt = 2 ∨ i.toInt = 3 := by omega
  rcases h0 with h0 | h0 | h0 | h0
  · exact Or.inl (Int32.toInt_inj.mp (by rw [h0]; decide))
  · exact Or.inr (Or.inl (Int32.toInt_inj.mp (by rw [h0]; decide)))
  · exact Or.inr (Or.inr (Or.inl (Int32.toInt_inj.mp (by rw [h0]; decide))))
  · exact Or.inr (Or.inr (Or.inr (Int32.toInt_inj.mp (by rw [h0]; decide))))
theorem own_at {i : Int32} (h : 0 ≤ i.toInt ∧ i.toInt < 4) (a b c d : Int32) {dv : Value} : [Value.int a, Value.int b, Value.int c, Value.int d].getD i.toNatClampNeg dv = .int (own_sel a b c d i) := by
  rcases own_four h with rfl | rfl | rfl | rfl <;> rfl
theorem own_b (x : Int32) : 0 ≤ (nH x).toInt ∧ (nH x).toInt < 4 := by
  have := c_mask x 3 2 (by decide) (by decide)
  unfold nH; omega
theorem own_k4 {i : Int32} (h : 0 ≤ i.toInt ∧ i.toInt < 4) : own_sel 1 2 3 6 i = 1 ∨ own_sel 1 2 3 6 i = 2 ∨ own_sel 1 2 3 6 i = 3 ∨ own_sel 1 2 3 6 i = 6 := by
  rcases own_four h with rfl | rfl | rfl | rfl <;> decide
theorem own_tok (a : Int64) : ¬ ((a &&& (9223372036854775807 : Int64)) < (0 : Int64)) := by
  have h := c_maskL a 9223372036854775807 63 (by decide) (by decide)
  have z : (0 : Int64).toInt = 0 := by decide
  rw [Int64.lt_iff_toInt_lt]; omega
theorem own_p0 (vs : List Value) (d : Value) : Prob (0 : Int32) vs d := fun i h => absurd h (by have h' : (0 : Int32).toNatClampNeg = 0 := (by decide); omega)
section Own
open Jvm.OwnFP
theorem own_v256 : Val (4643211215818981376 : UInt64) 1 1082 := ⟨dfin_const (by decide), by decide +kernel⟩
theorem own_valP (i s : Int32) : dLe (0 : UInt64) (f_val i s) ∧ dLe (f_val i s) (4607182418800017408 : UInt64) := by
  have h := c_mask ((i * 37) + s) 255 8 (by decide) (by decide)
  have hv := (Val.i2d (((i * 37) + s) &&& 255)).div2 own_v256 (by omega) (j := 1074 - 8) rfl (by decide)
  exact own_prob hv (by decide) (by omega) (by rw [show ((2 ^ 8 : Nat) : Int) = 256 by decide]; omega)
end Own
theorem own_p6 (s : Int32) : Prob (6 : Int32) [.double (f_val (0 : Int32) s), .double (f_val (1 : Int32) s), .double (f_val (2 : Int32) s), .double (f_val (3 : Int32) s), .double (f_val (4 : Int32) s), .double (f_val (5 : Int32) s)] (.double (0 : UInt64)) := by
  intro i hi
  have z : (6 : Int32).toNatClampNeg = 6 := by decide
  rw [z] at hi
  match i, hi with
  | 0, _ => exact ⟨_, rfl, own_valP _ _⟩
  | 1, _ => exact ⟨_, rfl, own_valP _ _⟩
  | 2, _ => exact ⟨_, rfl, own_valP _ _⟩
  | 3, _ => exact ⟨_, rfl, own_valP _ _⟩
  | 4, _ => exact ⟨_, rfl, own_valP _ _⟩
  | 5, _ => exact ⟨_, rfl, own_valP _ _⟩
theorem own_self (i s : Int32) : dEq (f_val i s) (f_val i s) := FP.Core.dcmp_self (Jvm.Free.Fl.val64_no.mp (own_nn _))
theorem own_six {i : Int32} (h : 0 ≤ i.toInt ∧ i.toInt < 6) : i = 0 ∨ i = 1 ∨ i = 2 ∨ i = 3 ∨ i = 4 ∨ i = 5 := by
  have h0 : i.toInt = 0 ∨ i.toInt = 1 ∨ i.toInt = 2 ∨ i.toInt = 3 ∨ i.toInt = 4 ∨ i.toInt = 5 := by omega
  rcases h0 with h0 | h0 | h0 | h0 | h0 | h0
  · exact Or.inl (Int32.toInt_inj.mp (by rw [h0]; decide))
  · exact Or.inr (Or.inl (Int32.toInt_inj.mp (by rw [h0]; decide)))
  · exact Or.inr (Or.inr (Or.inl (Int32.toInt_inj.mp (by rw [h0]; decide))))
  · exact Or.inr (Or.inr (Or.inr (Or.inl (Int32.toInt_inj.mp (by rw [h0]; decide)))))
  · exact Or.inr (Or.inr (Or.inr (Or.inr (Or.inl (Int32.toInt_inj.mp (by rw [h0]; decide))))))
  · exact Or.inr (Or.inr (Or.inr (Or.inr (Or.inr (Int32.toInt_inj.mp (by rw [h0]; decide))))))
theorem own_at6 {i : Int32} (h : 0 ≤ i.toInt ∧ i.toInt < 6) (s : Int32) {dv : Value} : [Value.double (f_val (0 : Int32) s), .double (f_val (1 : Int32) s), .double (f_val (2 : Int32) s), .double (f_val (3 : Int32) s), .double (f_val (4 : Int32) s), .double (f_val (5 : Int32) s)].getD i.toNatClampNeg dv = .double (f_val i s) := by
  rcases own_six h with rfl | rfl | rfl | rfl | rfl | rfl <;> rfl
theorem own_in6 {i : Int32} (h : 0 ≤ i.toInt ∧ i.toInt < 6) : ¬ i < 0 ∧ i < (6 : Int32) := by
  rw [Int32.lt_iff_toInt_lt, Int32.lt_iff_toInt_lt]
  have : (0 : Int32).toInt = 0 := by decide
  have : (6 : Int32).toInt = 6 := by decide
  omega
def nA1 (a : Int32) : Int32 := (a &&& 2147483647) % 1
def nB1 (b : Int32) : Int32 := (b &&& 2147483647) % 6
def nJ1 (a b : Int32) : Int32 := (nB1 b * 1) + nA1 a
theorem own_jr1 (a b : Int32) : 0 ≤ (nJ1 a b).toInt ∧ (nJ1 a b).toInt < 6 := by
  have ha := (c_irem (a &&& 2147483647) 1 1 (by decide)).1 (c_and a 2147483647 (by decide)).1
  have hb := (c_irem (b &&& 2147483647) 6 6 (by decide)).1 (c_and b 2147483647 (by decide)).1
  have za : (nA1 a).toInt = (a &&& 2147483647).toInt % 1 := ha
  have zb : (nB1 b).toInt = (b &&& 2147483647).toInt % 6 := hb
  have h1 := c_imul (nB1 b) 1
  have h2 := c_iadd (nB1 b * 1) (nA1 a)
  have r1 := rng32 (nB1 b * 1)
  have r2 := rng32 (nB1 b * 1 + nA1 a)
  have z : (1 : Int32).toInt = 1 := by decide
  rw [z] at h1
  have e1 : (nB1 b * 1).toInt = (nB1 b).toInt * 1 := by clear h2 r2; omega
  have b1 : 0 ≤ (nB1 b * 1).toInt ∧ (nB1 b * 1).toInt ≤ 64 := by clear h2 r2; omega
  have e2 : (nB1 b * 1 + (nA1 a)).toInt = (nB1 b * 1).toInt + (nA1 a).toInt := by clear h1 e1; omega
  unfold nJ1
  clear h1 h2
  omega
theorem own_jin1 (a b : Int32) : ¬ ((nB1 b * (1 : Int32)) + nA1 a) < 0 ∧ ((nB1 b * (1 : Int32)) + nA1 a) < (6 : Int32) := own_in6 (own_jr1 a b)
theorem own_jat1 (a b s : Int32) : [Value.double (f_val (0 : Int32) s), .double (f_val (1 : Int32) s), .double (f_val (2 : Int32) s), .double (f_val (3 : Int32) s), .double (f_val (4 : Int32) s), .double (f_val (5 : Int32) s)].getD ((nB1 b * (1 : Int32)) + nA1 a).toNatClampNeg (.double (0 : UInt64)) = .double (f_val (nJ1 a b) s) := own_at6 (own_jr1 a b) s
def nA2 (a : Int32) : Int32 := (a &&& 2147483647) % 2
def nB2 (b : Int32) : Int32 := (b &&& 2147483647) % 3
def nJ2 (a b : Int32) : Int32 := (nB2 b * 2) + nA2 a
theorem own_jr2 (a b : Int32) : 0 ≤ (nJ2 a b).toInt ∧ (nJ2 a b).toInt < 6 := by
  have ha := (c_irem (a &&& 2147483647) 2 2 (by decide)).1 (c_and a 2147483647 (by decide)).1
  have hb := (c_irem (b &&& 2147483647) 3 3 (by decide)).1 (c_and b 2147483647 (by decide)).1
  have za : (nA2 a).toInt = (a &&& 2147483647).toInt % 2 := ha
  have zb : (nB2 b).toInt = (b &&& 2147483647).toInt % 3 := hb
  have h1 := c_imul (nB2 b) 2
  have h2 := c_iadd (nB2 b * 2) (nA2 a)
  have r1 := rng32 (nB2 b * 2)
  have r2 := rng32 (nB2 b * 2 + nA2 a)
  have z : (2 : Int32).toInt = 2 := by decide
  rw [z] at h1
  have e1 : (nB2 b * 2).toInt = (nB2 b).toInt * 2 := by clear h2 r2; omega
  have b1 : 0 ≤ (nB2 b * 2).toInt ∧ (nB2 b * 2).toInt ≤ 64 := by clear h2 r2; omega
  have e2 : (nB2 b * 2 + (nA2 a)).toInt = (nB2 b * 2).toInt + (nA2 a).toInt := by clear h1 e1; omega
  unfold nJ2
  clear h1 h2
  omega
theorem own_jin2 (a b : Int32) : ¬ ((nB2 b * (2 : Int32)) + nA2 a) < 0 ∧ ((nB2 b * (2 : Int32)) + nA2 a) < (6 : Int32) := own_in6 (own_jr2 a b)
theorem own_jat2 (a b s : Int32) : [Value.double (f_val (0 : Int32) s), .double (f_val (1 : Int32) s), .double (f_val (2 : Int32) s), .double (f_val (3 : Int32) s), .double (f_val (4 : Int32) s), .double (f_val (5 : Int32) s)].getD ((nB2 b * (2 : Int32)) + nA2 a).toNatClampNeg (.double (0 : UInt64)) = .double (f_val (nJ2 a b) s) := own_at6 (own_jr2 a b) s
def nA3 (a : Int32) : Int32 := (a &&& 2147483647) % 3
def nB3 (b : Int32) : Int32 := (b &&& 2147483647) % 2
def nJ3 (a b : Int32) : Int32 := (nB3 b * 3) + nA3 a
theorem own_jr3 (a b : Int32) : 0 ≤ (nJ3 a b).toInt ∧ (nJ3 a b).toInt < 6 := by
  have ha := (c_irem (a &&& 2147483647) 3 3 (by decide)).1 (c_and a 2147483647 (by decide)).1
  have hb := (c_irem (b &&& 2147483647) 2 2 (by decide)).1 (c_and b 2147483647 (by decide)).1
  have za : (nA3 a).toInt = (a &&& 2147483647).toInt % 3 := ha
  have zb : (nB3 b).toInt = (b &&& 2147483647).toInt % 2 := hb
  have h1 := c_imul (nB3 b) 3
  have h2 := c_iadd (nB3 b * 3) (nA3 a)
  have r1 := rng32 (nB3 b * 3)
  have r2 := rng32 (nB3 b * 3 + nA3 a)
  have z : (3 : Int32).toInt = 3 := by decide
  rw [z] at h1
  have e1 : (nB3 b * 3).toInt = (nB3 b).toInt * 3 := by clear h2 r2; omega
  have b1 : 0 ≤ (nB3 b * 3).toInt ∧ (nB3 b * 3).toInt ≤ 64 := by clear h2 r2; omega
  have e2 : (nB3 b * 3 + (nA3 a)).toInt = (nB3 b * 3).toInt + (nA3 a).toInt := by clear h1 e1; omega
  unfold nJ3
  clear h1 h2
  omega
theorem own_jin3 (a b : Int32) : ¬ ((nB3 b * (3 : Int32)) + nA3 a) < 0 ∧ ((nB3 b * (3 : Int32)) + nA3 a) < (6 : Int32) := own_in6 (own_jr3 a b)
theorem own_jat3 (a b s : Int32) : [Value.double (f_val (0 : Int32) s), .double (f_val (1 : Int32) s), .double (f_val (2 : Int32) s), .double (f_val (3 : Int32) s), .double (f_val (4 : Int32) s), .double (f_val (5 : Int32) s)].getD ((nB3 b * (3 : Int32)) + nA3 a).toNatClampNeg (.double (0 : UInt64)) = .double (f_val (nJ3 a b) s) := own_at6 (own_jr3 a b) s
def nA6 (a : Int32) : Int32 := (a &&& 2147483647) % 6
def nB6 (b : Int32) : Int32 := (b &&& 2147483647) % 1
def nJ6 (a b : Int32) : Int32 := (nB6 b * 6) + nA6 a
theorem own_jr6 (a b : Int32) : 0 ≤ (nJ6 a b).toInt ∧ (nJ6 a b).toInt < 6 := by
  have ha := (c_irem (a &&& 2147483647) 6 6 (by decide)).1 (c_and a 2147483647 (by decide)).1
  have hb := (c_irem (b &&& 2147483647) 1 1 (by decide)).1 (c_and b 2147483647 (by decide)).1
  have za : (nA6 a).toInt = (a &&& 2147483647).toInt % 6 := ha
  have zb : (nB6 b).toInt = (b &&& 2147483647).toInt % 1 := hb
  have h1 := c_imul (nB6 b) 6
  have h2 := c_iadd (nB6 b * 6) (nA6 a)
  have r1 := rng32 (nB6 b * 6)
  have r2 := rng32 (nB6 b * 6 + nA6 a)
  have z : (6 : Int32).toInt = 6 := by decide
  rw [z] at h1
  have e1 : (nB6 b * 6).toInt = (nB6 b).toInt * 6 := by clear h2 r2; omega
  have b1 : 0 ≤ (nB6 b * 6).toInt ∧ (nB6 b * 6).toInt ≤ 64 := by clear h2 r2; omega
  have e2 : (nB6 b * 6 + (nA6 a)).toInt = (nB6 b * 6).toInt + (nA6 a).toInt := by clear h1 e1; omega
  unfold nJ6
  clear h1 h2
  omega
theorem own_jin6 (a b : Int32) : ¬ ((nB6 b * (6 : Int32)) + nA6 a) < 0 ∧ ((nB6 b * (6 : Int32)) + nA6 a) < (6 : Int32) := own_in6 (own_jr6 a b)
theorem own_jat6 (a b s : Int32) : [Value.double (f_val (0 : Int32) s), .double (f_val (1 : Int32) s), .double (f_val (2 : Int32) s), .double (f_val (3 : Int32) s), .double (f_val (4 : Int32) s), .double (f_val (5 : Int32) s)].getD ((nB6 b * (6 : Int32)) + nA6 a).toNatClampNeg (.double (0 : UInt64)) = .double (f_val (nJ6 a b) s) := own_at6 (own_jr6 a b) s

theorem pd3 : parseMethodDescriptor "(IIIIJ)Z" = some ⟨[.int, .int, .int, .int, .long], some .boolean⟩ := by decide +kernel
theorem pf_law : plainFor x = true := by first | exact plainFor_of_name (by first | (simp [plainName, overriddenIn, x]; done) | decide +kernel) | exact Jvm.Free.JP.mathPlain rfl (by decide +kernel) | decide +kernel
theorem ef_law (m : MethodId) (i0 : Int32) (i1 : Int32) (i2 : Int32) (i3 : Int32) (i4 : Int64) : entryFrame m #[(.int i0), (.int i1), (.int i2), (.int i3), (.long i4)] maxLocals = mkF m 0 #[iv i0, iv i1, iv i2, iv i3, .val (.long i4), .second, .unset, .unset, .unset, .unset, .unset, .unset, .unset] [] := by first | (simp [entryFrame, mkF, argsToLocals, Value.category, maxLocals]; done) | rfl
def f_law (i0 : Int32) (i1 : Int32) (i2 : Int32) (i3 : Int32) (i4 : Int64) : Int32 := 1
def Q_law (Z : State) (i0 : Int32) (i1 : Int32) (i2 : Int32) (i3 : Int32) (i4 : Int64)  (h0 : Heap) (n0 : Nat) (v : Option Value) (h : Heap) (L : List Loc) : Prop := v = some (.int (f_law i0 i1 i2 i3 i4)) ∧ Fr n0 L
set_option maxRecDepth 65536 in
set_option maxHeartbeats 40000000 in
theorem rm_law (l : Launch) (Z : State) (a0 : Array Value) (hw : ∀ d ∈ tables_1, d.before a0 Z = true) (ws : List Jvm.Cond) (i0 : Int32) (i1 : Int32) (i2 : Int32) (i3 : Int32) (i4 : Int64)  (h0 : Heap) (n0 : Nat) (Z0 : n0 ≤ h0.size)   :
    MetFree l x (head1 (Jvm.Cond.code x code maxLocals ret :: ws) room_1) (fun a U => a = #[(.int i0), (.int i1), (.int i2), (.int i3), (.long i4)] ∧ Z.Warmed39 U.vm ∧ U.heap = h0) (fun _ _ _ _ _ => True) (fun _ U o U' => ∃ v L, o = .returned v ∧ Q_law Z i0 i1 i2 i3 i4  h0 n0 v U'.heap L ∧ FrameEnd U o U' L 16 128) := by
  refine MetFree.of_bodySF pf_law hisR ?_
  intro p e s m args below meth c s₁ Bd hml0 hP hK
  obtain ⟨rfl, hZ, hh⟩ := hP
  have hx := Bd.exec
  have hby := Bd.bytes
  have hml : c.maxLocals = 13 := hml0
  have hown : s.vm.findClass "com/example/borrowed_prior/borrowedprior/model/TopicModelTopicTermPinLaw" = some m.cls := findClass_of_methodNamed Bd.named
  have hnm := (name_of_methodNamed Bd.named Bd.method).1
  have X0 : Stand p l e room_1 s m #[(.int i0), (.int i1), (.int i2), (.int i3), (.long i4)] below meth c s₁ [] 0 0 := Stand.of_body Bd
  have e0 : s₁.heap = h0 := by rw [← hh, Bd.state]; rfl
  have N0 := Fr.nil n0
  obtain ⟨S0, hS0⟩ : ∃ z, z = s₁.setTop (entryFrame m #[(.int i0), (.int i1), (.int i2), (.int i3), (.long i4)] maxLocals) := ⟨_, rfl⟩
  rw [← hS0]
  have g0 : Goes p e below S0 (s₁.setTop (mkF m 0 #[iv i0, iv i1, iv i2, iv i3, .val (.long i4), .second, .unset, .unset, .unset, .unset, .unset, .unset, .unset] [])) := fun t k => by rw [hS0]; exact castTop (ef_law m i0 i1 i2 i3 i4) k
  have g55 : Goes p e below S0 (s₁.setTop (mkF m 1 #[iv i0, iv i1, iv i2, iv i3, .val (.long i4), .second, .unset, .unset, .unset, .unset, .unset, .unset, .unset] [(.int (4 : Int32))])) := fun t k => g0 t (by
    refine XT.iconstV X0.here hx rfl (4 : Int32) (hb hby at_0) (by decide) ?_
    show Go p e below t s₁ m 1 #[iv i0, iv i1, iv i2, iv i3, .val (.long i4), .second, .unset, .unset, .unset, .unset, .unset, .unset, .unset] [(.int (4 : Int32))]
    exact k)
  obtain ⟨T56, h56, k56, X56, e56, E56, A56, st56⟩ := newP X0 hx hZ (hw _ (List.mem_of_getElem? (i := 0) rfl)) e0 (g := (mkF m 1 #[iv i0, iv i1, iv i2, iv i3, .val (.long i4), .second, .unset, .unset, .unset, .unset, .unset, .unset, .unset] [(.int (4 : Int32))])) rfl (hb hby at_1) rfl (by decide) (cap := 4) (by decide) (by decide) (by decide) (by decide)
  obtain ⟨b56, gb56⟩ : ∃ z, z = h0.size := ⟨_, rfl⟩
  have sz56 : h0.size ≤ b56 := Nat.le_trans (Nat.le_refl _) (Nat.le_of_eq gb56.symm)
  have ng56 : n0 ≤ b56 := Nat.le_trans Z0 sz56
  rw [← gb56] at A56 st56
  have V56 : Arv Z h56 b56 k56 .int (4 : Int32) [(.int (0 : Int32)), (.int (0 : Int32)), (.int (0 : Int32)), (.int (0 : Int32))] (.int (0 : Int32)) := (Arv.new A56 (by decide)).pad (pad_rep [] (.int (0 : Int32)) 4)
  have g57 : Goes p e below S0 (T56.setTop (mkF m 3 #[iv i0, iv i1, iv i2, iv i3, .val (.long i4), .second, .unset, .unset, .unset, .unset, .unset, .unset, .unset] [(.ref b56)])) := fun t k => g55 t (st56 t k)
  have g58 : Goes p e below S0 (T56.setTop (mkF m 6 #[iv i0, iv i1, iv i2, iv i3, .val (.long i4), .second, .unset, .unset, .unset, .unset, .unset, .unset, .unset] [(.int (1 : Int32)), (.int (0 : Int32)), (.ref b56), (.ref b56)])) := fun t k => g57 t (by
    refine XS.dup X56.here hx rfl (hb hby at_3) rfl rfl ?_
    show Go p e below t T56 m 4 #[iv i0, iv i1, iv i2, iv i3, .val (.long i4), .second, .unset, .unset, .unset, .unset, .unset, .unset, .unset] [(.ref b56), (.ref b56)]
    refine XT.iconstV X56.here hx rfl (0 : Int32) (hb hby at_4) (by decide) ?_
    show Go p e below t T56 m 5 #[iv i0, iv i1, iv i2, iv i3, .val (.long i4), .second, .unset, .unset, .unset, .unset, .unset, .unset, .unset] [(.int (0 : Int32)), (.ref b56), (.ref b56)]
    refine XT.iconstV X56.here hx rfl (1 : Int32) (hb hby at_5) (by decide) ?_
    show Go p e below t T56 m 6 #[iv i0, iv i1, iv i2, iv i3, .val (.long i4), .second, .unset, .unset, .unset, .unset, .unset, .unset, .unset] [(.int (1 : Int32)), (.int (0 : Int32)), (.ref b56), (.ref b56)]
    exact k)
  obtain ⟨cl59, Ar59, q59, S59, M59, H59, G59⟩ := id V56
  obtain ⟨T60, h60, X60, e60, W60, st60⟩ := stI X56 hx hZ e56 Ar59 (j := (0 : Int32)) (inb_of S59 ⟨by decide, by decide⟩) (g := (mkF m 6 #[iv i0, iv i1, iv i2, iv i3, .val (.long i4), .second, .unset, .unset, .unset, .unset, .unset, .unset, .unset] [(.int (1 : Int32)), (.int (0 : Int32)), (.ref b56), (.ref b56)])) rfl rfl (hb hby at_6)
  have N60 := Fr.snoc X60 N0 ng56
  have V60 : Arv Z h60 b56 k56 .int (4 : Int32) [(.int (1 : Int32)), (.int (0 : Int32)), (.int (0 : Int32)), (.int (0 : Int32))] (.int (0 : Int32)) := Arv.set Ar59 q59 S59 M59 H59 G59 rfl W60 0 rfl (Nat.le_of_ble_eq_true rfl)
  have g61 : Goes p e below S0 (T60.setTop (mkF m 7 #[iv i0, iv i1, iv i2, iv i3, .val (.long i4), .second, .unset, .unset, .unset, .unset, .unset, .unset, .unset] [(.ref b56)])) := fun t k => g58 t (st60 t k)
  have g62 : Goes p e below S0 (T60.setTop (mkF m 10 #[iv i0, iv i1, iv i2, iv i3, .val (.long i4), .second, .unset, .unset, .unset, .unset, .unset, .unset, .unset] [(.int (2 : Int32)), (.int (1 : Int32)), (.ref b56), (.ref b56)])) := fun t k => g61 t (by
    refine XS.dup X60.here hx rfl (hb hby at_7) rfl rfl ?_
    show Go p e below t T60 m 8 #[iv i0, iv i1, iv i2, iv i3, .val (.long i4), .second, .unset, .unset, .unset, .unset, .unset, .unset, .unset] [(.ref b56), (.ref b56)]
    refine XT.iconstV X60.here hx rfl (1 : Int32) (hb hby at_8) (by decide) ?_
    show Go p e below t T60 m 9 #[iv i0, iv i1, iv i2, iv i3, .val (.long i4), .second, .unset, .unset, .unset, .unset, .unset, .unset, .unset] [(.int (1 : Int32)), (.ref b56), (.ref b56)]
    refine XT.iconstV X60.here hx rfl (2 : Int32) (hb hby at_9) (by decide) ?_
    show Go p e below t T60 m 10 #[iv i0, iv i1, iv i2, iv i3, .val (.long i4), .second, .unset, .unset, .unset, .unset, .unset, .unset, .unset] [(.int (2 : Int32)), (.int (1 : Int32)), (.ref b56), (.ref b56)]
    exact k)
  obtain ⟨cl63, Ar63, q63, S63, M63, H63, G63⟩ := id V60
  obtain ⟨T64, h64, X64, e64, W64, st64⟩ := stI X60 hx hZ e60 Ar63 (j := (1 : Int32)) (inb_of S63 ⟨by decide, by decide⟩) (g := (mkF m 10 #[iv i0, iv i1, iv i2, iv i3, .val (.long i4), .second, .unset, .unset, .unset, .unset, .unset, .unset, .unset] [(.int (2 : Int32)), (.int (1 : Int32)), (.ref b56), (.ref b56)])) rfl rfl (hb hby at_10)
  have N64 := Fr.snoc X64 N60 ng56
  have V64 : Arv Z h64 b56 k56 .int (4 : Int32) [(.int (1 : Int32)), (.int (2 : Int32)), (.int (0 : Int32)), (.int (0 : Int32))] (.int (0 : Int32)) := Arv.set Ar63 q63 S63 M63 H63 G63 rfl W64 1 rfl (Nat.le_of_ble_eq_true rfl)
  have g65 : Goes p e below S0 (T64.setTop (mkF m 11 #[iv i0, iv i1, iv i2, iv i3, .val (.long i4), .second, .unset, .unset, .unset, .unset, .unset, .unset, .unset] [(.ref b56)])) := fun t k => g62 t (st64 t k)
  have g66 : Goes p e below S0 (T64.setTop (mkF m 14 #[iv i0, iv i1, iv i2, iv i3, .val (.long i4), .second, .unset, .unset, .unset, .unset, .unset, .unset, .unset] [(.int (3 : Int32)), (.int (2 : Int32)), (.ref b56), (.ref b56)])) := fun t k => g65 t (by
    refine XS.dup X64.here hx rfl (hb hby at_11) rfl rfl ?_
    show Go p e below t T64 m 12 #[iv i0, iv i1, iv i2, iv i3, .val (.long i4), .second, .unset, .unset, .unset, .unset, .unset, .unset, .unset] [(.ref b56), (.ref b56)]
    refine XT.iconstV X64.here hx rfl (2 : Int32) (hb hby at_12) (by decide) ?_
    show Go p e below t T64 m 13 #[iv i0, iv i1, iv i2, iv i3, .val (.long i4), .second, .unset, .unset, .unset, .unset, .unset, .unset, .unset] [(.int (2 : Int32)), (.ref b56), (.ref b56)]
    refine XT.iconstV X64.here hx rfl (3 : Int32) (hb hby at_13) (by decide) ?_
    show Go p e below t T64 m 14 #[iv i0, iv i1, iv i2, iv i3, .val (.long i4), .second, .unset, .unset, .unset, .unset, .unset, .unset, .unset] [(.int (3 : Int32)), (.int (2 : Int32)), (.ref b56), (.ref b56)]
    exact k)
  obtain ⟨cl67, Ar67, q67, S67, M67, H67, G67⟩ := id V64
  obtain ⟨T68, h68, X68, e68, W68, st68⟩ := stI X64 hx hZ e64 Ar67 (j := (2 : Int32)) (inb_of S67 ⟨by decide, by decide⟩) (g := (mkF m 14 #[iv i0, iv i1, iv i2, iv i3, .val (.long i4), .second, .unset, .unset, .unset, .unset, .unset, .unset, .unset] [(.int (3 : Int32)), (.int (2 : Int32)), (.ref b56), (.ref b56)])) rfl rfl (hb hby at_14)
  have N68 := Fr.snoc X68 N64 ng56
  have V68 : Arv Z h68 b56 k56 .int (4 : Int32) [(.int (1 : Int32)), (.int (2 : Int32)), (.int (3 : Int32)), (.int (0 : Int32))] (.int (0 : Int32)) := Arv.set Ar67 q67 S67 M67 H67 G67 rfl W68 2 rfl (Nat.le_of_ble_eq_true rfl)
  have g69 : Goes p e below S0 (T68.setTop (mkF m 15 #[iv i0, iv i1, iv i2, iv i3, .val (.long i4), .second, .unset, .unset, .unset, .unset, .unset, .unset, .unset] [(.ref b56)])) := fun t k => g66 t (st68 t k)
  have g70 : Goes p e below S0 (T68.setTop (mkF m 19 #[iv i0, iv i1, iv i2, iv i3, .val (.long i4), .second, .unset, .unset, .unset, .unset, .unset, .unset, .unset] [(.int (6 : Int32)), (.int (3 : Int32)), (.ref b56), (.ref b56)])) := fun t k => g69 t (by
    refine XS.dup X68.here hx rfl (hb hby at_15) rfl rfl ?_
    show Go p e below t T68 m 16 #[iv i0, iv i1, iv i2, iv i3, .val (.long i4), .second, .unset, .unset, .unset, .unset, .unset, .unset, .unset] [(.ref b56), (.ref b56)]
    refine XT.iconstV X68.here hx rfl (3 : Int32) (hb hby at_16) (by decide) ?_
    show Go p e below t T68 m 17 #[iv i0, iv i1, iv i2, iv i3, .val (.long i4), .second, .unset, .unset, .unset, .unset, .unset, .unset, .unset] [(.int (3 : Int32)), (.ref b56), (.ref b56)]
    refine XT.bipushV X68.here hx rfl (6 : Int32) (hb hby at_17) (by decide) ?_
    show Go p e below t T68 m 19 #[iv i0, iv i1, iv i2, iv i3, .val (.long i4), .second, .unset, .unset, .unset, .unset, .unset, .unset, .unset] [(.int (6 : Int32)), (.int (3 : Int32)), (.ref b56), (.ref b56)]
    exact k)
  obtain ⟨cl71, Ar71, q71, S71, M71, H71, G71⟩ := id V68
  obtain ⟨T72, h72, X72, e72, W72, st72⟩ := stI X68 hx hZ e68 Ar71 (j := (3 : Int32)) (inb_of S71 ⟨by decide, by decide⟩) (g := (mkF m 19 #[iv i0, iv i1, iv i2, iv i3, .val (.long i4), .second, .unset, .unset, .unset, .unset, .unset, .unset, .unset] [(.int (6 : Int32)), (.int (3 : Int32)), (.ref b56), (.ref b56)])) rfl rfl (hb hby at_19)
  have N72 := Fr.snoc X72 N68 ng56
  have V72 : Arv Z h72 b56 k56 .int (4 : Int32) [(.int (1 : Int32)), (.int (2 : Int32)), (.int (3 : Int32)), (.int (6 : Int32))] (.int (0 : Int32)) := Arv.set Ar71 q71 S71 M71 H71 G71 rfl W72 3 rfl (Nat.le_of_ble_eq_true rfl)
  have g73 : Goes p e below S0 (T72.setTop (mkF m 20 #[iv i0, iv i1, iv i2, iv i3, .val (.long i4), .second, .unset, .unset, .unset, .unset, .unset, .unset, .unset] [(.ref b56)])) := fun t k => g70 t (st72 t k)
  have g74 : Goes p e below S0 (T72.setTop (mkF m 27 #[iv i0, iv i1, iv i2, iv i3, .val (.long i4), .second, rv b56, .unset, .unset, .unset, .unset, .unset, .unset] [(.int (nH i0)), (.ref b56)])) := fun t k => g73 t (by
    refine XS.astore X72.here hx rfl (hb hby at_20) rfl rfl (l' := #[iv i0, iv i1, iv i2, iv i3, .val (.long i4), .second, rv b56, .unset, .unset, .unset, .unset, .unset, .unset]) rfl ?_
    show Go p e below t T72 m 22 #[iv i0, iv i1, iv i2, iv i3, .val (.long i4), .second, rv b56, .unset, .unset, .unset, .unset, .unset, .unset] []
    refine XS.aload X72.here hx rfl (hb hby at_22) rfl rfl ?_
    show Go p e below t T72 m 24 #[iv i0, iv i1, iv i2, iv i3, .val (.long i4), .second, rv b56, .unset, .unset, .unset, .unset, .unset, .unset] [(.ref b56)]
    refine XS.iloadN X72.here hx rfl (hb hby at_24) rfl ?_
    show Go p e below t T72 m 25 #[iv i0, iv i1, iv i2, iv i3, .val (.long i4), .second, rv b56, .unset, .unset, .unset, .unset, .unset, .unset] [(.int i0), (.ref b56)]
    refine XT.iconstV X72.here hx rfl (3 : Int32) (hb hby at_25) (by decide) ?_
    show Go p e below t T72 m 26 #[iv i0, iv i1, iv i2, iv i3, .val (.long i4), .second, rv b56, .unset, .unset, .unset, .unset, .unset, .unset] [(.int (3 : Int32)), (.int i0), (.ref b56)]
    refine XS.iand X72.here hx rfl (hb hby at_26) rfl ?_
    show Go p e below t T72 m 27 #[iv i0, iv i1, iv i2, iv i3, .val (.long i4), .second, rv b56, .unset, .unset, .unset, .unset, .unset, .unset] [(.int (i0 &&& (3 : Int32))), (.ref b56)]
    show Go p e below t T72 m 27 #[iv i0, iv i1, iv i2, iv i3, .val (.long i4), .second, rv b56, .unset, .unset, .unset, .unset, .unset, .unset] [(.int (nH i0)), (.ref b56)]
    exact k)
  obtain ⟨cl75, Ar75, q75, S75, M75, H75, G75⟩ := id V72
  have g76 : Goes p e below S0 (T72.setTop (mkF m 30 #[iv i0, iv i1, iv i2, iv i3, .val (.long i4), .second, rv b56, iv (own_sel 1 2 3 6 (nH i0)), .unset, .unset, .unset, .unset, .unset] [])) := fun t k => g74 t (by
    refine X72.iaload hx (j := (nH i0)) (v := (.int (own_sel 1 2 3 6 (nH i0)))) (by rw [e72]; exact Ar75.1) (State.isArrayOf_alike hZ.alike Ar75.2.1) Ar75.2.2 (inb_of S75 (own_in (own_b i0))) (H75.at (inb_of S75 (own_in (own_b i0))) (own_at (own_b i0) _ _ _ _)) (g := (mkF m 27 #[iv i0, iv i1, iv i2, iv i3, .val (.long i4), .second, rv b56, .unset, .unset, .unset, .unset, .unset, .unset] [(.int (nH i0)), (.ref b56)])) rfl rfl (hb hby at_27) _ ?_
    show Go p e below t T72 m 28 #[iv i0, iv i1, iv i2, iv i3, .val (.long i4), .second, rv b56, .unset, .unset, .unset, .unset, .unset, .unset] [(.int (own_sel 1 2 3 6 (nH i0)))]
    refine XS.istore X72.here hx rfl (hb hby at_28) rfl (l' := #[iv i0, iv i1, iv i2, iv i3, .val (.long i4), .second, rv b56, iv (own_sel 1 2 3 6 (nH i0)), .unset, .unset, .unset, .unset, .unset]) rfl ?_
    show Go p e below t T72 m 30 #[iv i0, iv i1, iv i2, iv i3, .val (.long i4), .second, rv b56, iv (own_sel 1 2 3 6 (nH i0)), .unset, .unset, .unset, .unset, .unset] []
    exact k)
  obtain ⟨n1, hn1⟩ : ∃ z, z = (own_sel 1 2 3 6 (nH i0)) := ⟨_, rfl⟩
  rw [← hn1] at g76
  rcases (hn1 ▸ own_k4 (own_b i0) : n1 = 1 ∨ n1 = 2 ∨ n1 = 3 ∨ n1 = 6) with rfl | rfl | rfl | rfl
  · skip
    have g77 : Goes p e below S0 (T72.setTop (mkF m 39 #[iv i0, iv i1, iv i2, iv i3, .val (.long i4), .second, rv b56, iv (1 : Int32), iv (6 : Int32), .unset, .unset, .unset, .unset] [(.int (6 : Int32))])) := fun t k => g76 t (by
      refine XT.bipushV X72.here hx rfl (6 : Int32) (hb hby at_30) (by decide) ?_
      show Go p e below t T72 m 32 #[iv i0, iv i1, iv i2, iv i3, .val (.long i4), .second, rv b56, iv (1 : Int32), .unset, .unset, .unset, .unset, .unset] [(.int (6 : Int32))]
      refine XS.iload X72.here hx rfl (hb hby at_32) rfl ?_
      show Go p e below t T72 m 34 #[iv i0, iv i1, iv i2, iv i3, .val (.long i4), .second, rv b56, iv (1 : Int32), .unset, .unset, .unset, .unset, .unset] [(.int (1 : Int32)), (.int (6 : Int32))]
      refine XS.idiv X72.here hx rfl (hb hby at_34) rfl (by decide) ?_
      rw [show ((6 : Int32) / (1 : Int32)) = (6 : Int32) by decide]
      show Go p e below t T72 m 35 #[iv i0, iv i1, iv i2, iv i3, .val (.long i4), .second, rv b56, iv (1 : Int32), .unset, .unset, .unset, .unset, .unset] [(.int (6 : Int32))]
      refine XS.istore X72.here hx rfl (hb hby at_35) rfl (l' := #[iv i0, iv i1, iv i2, iv i3, .val (.long i4), .second, rv b56, iv (1 : Int32), iv (6 : Int32), .unset, .unset, .unset, .unset]) rfl ?_
      show Go p e below t T72 m 37 #[iv i0, iv i1, iv i2, iv i3, .val (.long i4), .second, rv b56, iv (1 : Int32), iv (6 : Int32), .unset, .unset, .unset, .unset] []
      refine XT.bipushV X72.here hx rfl (6 : Int32) (hb hby at_37) (by decide) ?_
      show Go p e below t T72 m 39 #[iv i0, iv i1, iv i2, iv i3, .val (.long i4), .second, rv b56, iv (1 : Int32), iv (6 : Int32), .unset, .unset, .unset, .unset] [(.int (6 : Int32))]
      exact k)
    obtain ⟨T78, h78, k78, X78, e78, E78, A78, st78⟩ := newP X72 hx hZ (hw _ (List.mem_of_getElem? (i := 1) rfl)) e72 (g := (mkF m 39 #[iv i0, iv i1, iv i2, iv i3, .val (.long i4), .second, rv b56, iv (1 : Int32), iv (6 : Int32), .unset, .unset, .unset, .unset] [(.int (6 : Int32))])) rfl (hb hby at_39) rfl (by decide) (cap := 6) (by decide) (by decide) (by decide) (by decide)
    obtain ⟨b78, gb78⟩ : ∃ z, z = h72.size := ⟨_, rfl⟩
    have sz78 : h0.size ≤ b78 := Nat.le_trans (Nat.le_trans (Nat.le_trans (Nat.le_trans (Nat.le_trans (Nat.le_trans (Nat.le_refl _) E56.1) (Nat.le_of_eq W60.size.symm)) (Nat.le_of_eq W64.size.symm)) (Nat.le_of_eq W68.size.symm)) (Nat.le_of_eq W72.size.symm)) (Nat.le_of_eq gb78.symm)
    have ng78 : n0 ≤ b78 := Nat.le_trans Z0 sz78
    rw [← gb78] at A78 st78
    have V78 : Arv Z h78 b78 k78 .double (6 : Int32) [(.double (0 : UInt64)), (.double (0 : UInt64)), (.double (0 : UInt64)), (.double (0 : UInt64)), (.double (0 : UInt64)), (.double (0 : UInt64))] (.double (0 : UInt64)) := (Arv.new A78 (by decide)).pad (pad_rep [] (.double (0 : UInt64)) 6)
    have g79 : Goes p e below S0 (T78.setTop (mkF m 41 #[iv i0, iv i1, iv i2, iv i3, .val (.long i4), .second, rv b56, iv (1 : Int32), iv (6 : Int32), .unset, .unset, .unset, .unset] [(.ref b78)])) := fun t k => g77 t (st78 t k)
    have g80 : Goes p e below S0 (T78.setTop (mkF m 48 #[iv i0, iv i1, iv i2, iv i3, .val (.long i4), .second, rv b56, iv (1 : Int32), iv (6 : Int32), rv b78, .unset, .unset, .unset] [(.int i3), (.int (0 : Int32)), (.int (0 : Int32)), (.ref b78)])) := fun t k => g79 t (by
      refine XS.astore X78.here hx rfl (hb hby at_41) rfl rfl (l' := #[iv i0, iv i1, iv i2, iv i3, .val (.long i4), .second, rv b56, iv (1 : Int32), iv (6 : Int32), rv b78, .unset, .unset, .unset]) rfl ?_
      show Go p e below t T78 m 43 #[iv i0, iv i1, iv i2, iv i3, .val (.long i4), .second, rv b56, iv (1 : Int32), iv (6 : Int32), rv b78, .unset, .unset, .unset] []
      refine XS.aload X78.here hx rfl (hb hby at_43) rfl rfl ?_
      show Go p e below t T78 m 45 #[iv i0, iv i1, iv i2, iv i3, .val (.long i4), .second, rv b56, iv (1 : Int32), iv (6 : Int32), rv b78, .unset, .unset, .unset] [(.ref b78)]
      refine XT.iconstV X78.here hx rfl (0 : Int32) (hb hby at_45) (by decide) ?_
      show Go p e below t T78 m 46 #[iv i0, iv i1, iv i2, iv i3, .val (.long i4), .second, rv b56, iv (1 : Int32), iv (6 : Int32), rv b78, .unset, .unset, .unset] [(.int (0 : Int32)), (.ref b78)]
      refine XT.iconstV X78.here hx rfl (0 : Int32) (hb hby at_46) (by decide) ?_
      show Go p e below t T78 m 47 #[iv i0, iv i1, iv i2, iv i3, .val (.long i4), .second, rv b56, iv (1 : Int32), iv (6 : Int32), rv b78, .unset, .unset, .unset] [(.int (0 : Int32)), (.int (0 : Int32)), (.ref b78)]
      refine XS.iloadN X78.here hx rfl (hb hby at_47) rfl ?_
      show Go p e below t T78 m 48 #[iv i0, iv i1, iv i2, iv i3, .val (.long i4), .second, rv b56, iv (1 : Int32), iv (6 : Int32), rv b78, .unset, .unset, .unset] [(.int i3), (.int (0 : Int32)), (.int (0 : Int32)), (.ref b78)]
      exact k)
    obtain ⟨_, _, ⟨T81, L81, k81, n81⟩, -, X81, ⟨Lc81, hQ81, l81, y81, z81⟩, st81⟩ := Jvm.LawKit.callS X78 hx (y := (⟨"com/example/borrowed_prior/borrowedprior/model/TopicModelTopicTermPinLaw", "val", "(II)D"⟩ : MethodName)) hown (mvT hZ (hw _ (List.mem_of_getElem? (i := 2) rfl))) (mvT hZ (hw _ (List.mem_of_getElem? (i := 3) rfl))) (mvT hZ (hw _ (List.mem_of_getElem? (i := 4) rfl))) (mvT hZ (hw _ (List.mem_of_getElem? (i := 5) rfl))) (by decide) (backOf (W := 2) (rm_val l Z a0 hw [] (0 : Int32) i3  h78 n0 (Nat.le_trans Z0 (Nat.le_trans (Nat.le_trans (Nat.le_trans (Nat.le_trans (Nat.le_trans (Nat.le_trans (Nat.le_refl _) E56.1) (Nat.le_of_eq W60.size.symm)) (Nat.le_of_eq W64.size.symm)) (Nat.le_of_eq W68.size.symm)) (Nat.le_of_eq W72.size.symm)) E78.1)) ) hZ (hw _ (List.mem_of_getElem? (i := 5) rfl)) (hw _ (List.mem_of_getElem? (i := 4) rfl)) (by decide) (by decide)) (g := (mkF m 48 #[iv i0, iv i1, iv i2, iv i3, .val (.long i4), .second, rv b56, iv (1 : Int32), iv (6 : Int32), rv b78, .unset, .unset, .unset] [(.int i3), (.int (0 : Int32)), (.int (0 : Int32)), (.ref b78)])) rfl (by rw [hml]; rfl) (argsL := [(.int (0 : Int32)), (.int i3)]) (rest := [(.int (0 : Int32)), (.ref b78)]) (lenOf pd0 rfl) rfl (by show 2 * 0 + _ ≤ _; exact Nat.le_of_eq rfl) (hb hby at_48) (fun _ _ => ⟨rfl, e78, (by decide : 2 + 0 ≤ _), (by decide : 10 + 0 ≤ _)⟩)
    dsimp only [Pt.U, Pt.locs, Pt.cells, Pt.slots] at X81 l81 y81 z81 st81 hQ81
    subst l81 y81 z81
    obtain ⟨rfl, N81, e81⟩ := hQ81
    have M81 := Fr.app N72 N81
    have g82 : Goes p e below S0 (T81.setTop (mkF m 51 #[iv i0, iv i1, iv i2, iv i3, .val (.long i4), .second, rv b56, iv (1 : Int32), iv (6 : Int32), rv b78, .unset, .unset, .unset] [(.double (f_val (0 : Int32) i3)), (.int (0 : Int32)), (.ref b78)])) := fun t k => g80 t (st81 t k)
    obtain ⟨cl83, Ar83, q83, S83, M83, H83, G83⟩ := id V78
    obtain ⟨T84, h84, X84, e84, W84, st84⟩ := stD X81 hx hZ e81 Ar83 (j := (0 : Int32)) (inb_of S83 ⟨by decide, by decide⟩) (g := (mkF m 51 #[iv i0, iv i1, iv i2, iv i3, .val (.long i4), .second, rv b56, iv (1 : Int32), iv (6 : Int32), rv b78, .unset, .unset, .unset] [(.double (f_val (0 : Int32) i3)), (.int (0 : Int32)), (.ref b78)])) rfl rfl (hb hby at_51)
    have N84 := Fr.snoc X84 M81 ng78
    have V84 : Arv Z h84 b78 k78 .double (6 : Int32) [(.double (f_val (0 : Int32) i3)), (.double (0 : UInt64)), (.double (0 : UInt64)), (.double (0 : UInt64)), (.double (0 : UInt64)), (.double (0 : UInt64))] (.double (0 : UInt64)) := Arv.set Ar83 q83 S83 M83 H83 G83 rfl W84 0 rfl (Nat.le_of_ble_eq_true rfl)
    have g85 : Goes p e below S0 (T84.setTop (mkF m 52 #[iv i0, iv i1, iv i2, iv i3, .val (.long i4), .second, rv b56, iv (1 : Int32), iv (6 : Int32), rv b78, .unset, .unset, .unset] [])) := fun t k => g82 t (st84 t k)
    have g86 : Goes p e below S0 (T84.setTop (mkF m 57 #[iv i0, iv i1, iv i2, iv i3, .val (.long i4), .second, rv b56, iv (1 : Int32), iv (6 : Int32), rv b78, .unset, .unset, .unset] [(.int i3), (.int (1 : Int32)), (.int (1 : Int32)), (.ref b78)])) := fun t k => g85 t (by
      refine XS.aload X84.here hx rfl (hb hby at_52) rfl rfl ?_
      show Go p e below t T84 m 54 #[iv i0, iv i1, iv i2, iv i3, .val (.long i4), .second, rv b56, iv (1 : Int32), iv (6 : Int32), rv b78, .unset, .unset, .unset] [(.ref b78)]
      refine XT.iconstV X84.here hx rfl (1 : Int32) (hb hby at_54) (by decide) ?_
      show Go p e below t T84 m 55 #[iv i0, iv i1, iv i2, iv i3, .val (.long i4), .second, rv b56, iv (1 : Int32), iv (6 : Int32), rv b78, .unset, .unset, .unset] [(.int (1 : Int32)), (.ref b78)]
      refine XT.iconstV X84.here hx rfl (1 : Int32) (hb hby at_55) (by decide) ?_
      show Go p e below t T84 m 56 #[iv i0, iv i1, iv i2, iv i3, .val (.long i4), .second, rv b56, iv (1 : Int32), iv (6 : Int32), rv b78, .unset, .unset, .unset] [(.int (1 : Int32)), (.int (1 : Int32)), (.ref b78)]
      refine XS.iloadN X84.here hx rfl (hb hby at_56) rfl ?_
      show Go p e below t T84 m 57 #[iv i0, iv i1, iv i2, iv i3, .val (.long i4), .second, rv b56, iv (1 : Int32), iv (6 : Int32), rv b78, .unset, .unset, .unset] [(.int i3), (.int (1 : Int32)), (.int (1 : Int32)), (.ref b78)]
      exact k)
    obtain ⟨_, _, ⟨T87, L87, k87, n87⟩, -, X87, ⟨Lc87, hQ87, l87, y87, z87⟩, st87⟩ := Jvm.LawKit.callS X84 hx (y := (⟨"com/example/borrowed_prior/borrowedprior/model/TopicModelTopicTermPinLaw", "val", "(II)D"⟩ : MethodName)) hown (mvT hZ (hw _ (List.mem_of_getElem? (i := 2) rfl))) (mvT hZ (hw _ (List.mem_of_getElem? (i := 3) rfl))) (mvT hZ (hw _ (List.mem_of_getElem? (i := 4) rfl))) (mvT hZ (hw _ (List.mem_of_getElem? (i := 5) rfl))) (by decide) (backOf (W := 2) (rm_val l Z a0 hw [] (1 : Int32) i3  h84 n0 (Nat.le_trans Z0 (Nat.le_trans (Nat.le_trans (Nat.le_trans (Nat.le_trans (Nat.le_trans (Nat.le_trans (Nat.le_trans (Nat.le_refl _) E56.1) (Nat.le_of_eq W60.size.symm)) (Nat.le_of_eq W64.size.symm)) (Nat.le_of_eq W68.size.symm)) (Nat.le_of_eq W72.size.symm)) E78.1) (Nat.le_of_eq W84.size.symm))) ) hZ (hw _ (List.mem_of_getElem? (i := 5) rfl)) (hw _ (List.mem_of_getElem? (i := 4) rfl)) (by decide) (by decide)) (g := (mkF m 57 #[iv i0, iv i1, iv i2, iv i3, .val (.long i4), .second, rv b56, iv (1 : Int32), iv (6 : Int32), rv b78, .unset, .unset, .unset] [(.int i3), (.int (1 : Int32)), (.int (1 : Int32)), (.ref b78)])) rfl (by rw [hml]; rfl) (argsL := [(.int (1 : Int32)), (.int i3)]) (rest := [(.int (1 : Int32)), (.ref b78)]) (lenOf pd0 rfl) rfl (by show 2 * 0 + _ ≤ _; exact Nat.le_of_eq rfl) (hb hby at_57) (fun _ _ => ⟨rfl, e84, (by decide : 2 + 0 ≤ _), (by decide : 10 + 0 ≤ _)⟩)
    dsimp only [Pt.U, Pt.locs, Pt.cells, Pt.slots] at X87 l87 y87 z87 st87 hQ87
    subst l87 y87 z87
    obtain ⟨rfl, N87, e87⟩ := hQ87
    have M87 := Fr.app N84 N87
    have g88 : Goes p e below S0 (T87.setTop (mkF m 60 #[iv i0, iv i1, iv i2, iv i3, .val (.long i4), .second, rv b56, iv (1 : Int32), iv (6 : Int32), rv b78, .unset, .unset, .unset] [(.double (f_val (1 : Int32) i3)), (.int (1 : Int32)), (.ref b78)])) := fun t k => g86 t (st87 t k)
    obtain ⟨cl89, Ar89, q89, S89, M89, H89, G89⟩ := id V84
    obtain ⟨T90, h90, X90, e90, W90, st90⟩ := stD X87 hx hZ e87 Ar89 (j := (1 : Int32)) (inb_of S89 ⟨by decide, by decide⟩) (g := (mkF m 60 #[iv i0, iv i1, iv i2, iv i3, .val (.long i4), .second, rv b56, iv (1 : Int32), iv (6 : Int32), rv b78, .unset, .unset, .unset] [(.double (f_val (1 : Int32) i3)), (.int (1 : Int32)), (.ref b78)])) rfl rfl (hb hby at_60)
    have N90 := Fr.snoc X90 M87 ng78
    have V90 : Arv Z h90 b78 k78 .double (6 : Int32) [(.double (f_val (0 : Int32) i3)), (.double (f_val (1 : Int32) i3)), (.double (0 : UInt64)), (.double (0 : UInt64)), (.double (0 : UInt64)), (.double (0 : UInt64))] (.double (0 : UInt64)) := Arv.set Ar89 q89 S89 M89 H89 G89 rfl W90 1 rfl (Nat.le_of_ble_eq_true rfl)
    have g91 : Goes p e below S0 (T90.setTop (mkF m 61 #[iv i0, iv i1, iv i2, iv i3, .val (.long i4), .second, rv b56, iv (1 : Int32), iv (6 : Int32), rv b78, .unset, .unset, .unset] [])) := fun t k => g88 t (st90 t k)
    have g92 : Goes p e below S0 (T90.setTop (mkF m 66 #[iv i0, iv i1, iv i2, iv i3, .val (.long i4), .second, rv b56, iv (1 : Int32), iv (6 : Int32), rv b78, .unset, .unset, .unset] [(.int i3), (.int (2 : Int32)), (.int (2 : Int32)), (.ref b78)])) := fun t k => g91 t (by
      refine XS.aload X90.here hx rfl (hb hby at_61) rfl rfl ?_
      show Go p e below t T90 m 63 #[iv i0, iv i1, iv i2, iv i3, .val (.long i4), .second, rv b56, iv (1 : Int32), iv (6 : Int32), rv b78, .unset, .unset, .unset] [(.ref b78)]
      refine XT.iconstV X90.here hx rfl (2 : Int32) (hb hby at_63) (by decide) ?_
      show Go p e below t T90 m 64 #[iv i0, iv i1, iv i2, iv i3, .val (.long i4), .second, rv b56, iv (1 : Int32), iv (6 : Int32), rv b78, .unset, .unset, .unset] [(.int (2 : Int32)), (.ref b78)]
      refine XT.iconstV X90.here hx rfl (2 : Int32) (hb hby at_64) (by decide) ?_
      show Go p e below t T90 m 65 #[iv i0, iv i1, iv i2, iv i3, .val (.long i4), .second, rv b56, iv (1 : Int32), iv (6 : Int32), rv b78, .unset, .unset, .unset] [(.int (2 : Int32)), (.int (2 : Int32)), (.ref b78)]
      refine XS.iloadN X90.here hx rfl (hb hby at_65) rfl ?_
      show Go p e below t T90 m 66 #[iv i0, iv i1, iv i2, iv i3, .val (.long i4), .second, rv b56, iv (1 : Int32), iv (6 : Int32), rv b78, .unset, .unset, .unset] [(.int i3), (.int (2 : Int32)), (.int (2 : Int32)), (.ref b78)]
      exact k)
    obtain ⟨_, _, ⟨T93, L93, k93, n93⟩, -, X93, ⟨Lc93, hQ93, l93, y93, z93⟩, st93⟩ := Jvm.LawKit.callS X90 hx (y := (⟨"com/example/borrowed_prior/borrowedprior/model/TopicModelTopicTermPinLaw", "val", "(II)D"⟩ : MethodName)) hown (mvT hZ (hw _ (List.mem_of_getElem? (i := 2) rfl))) (mvT hZ (hw _ (List.mem_of_getElem? (i := 3) rfl))) (mvT hZ (hw _ (List.mem_of_getElem? (i := 4) rfl))) (mvT hZ (hw _ (List.mem_of_getElem? (i := 5) rfl))) (by decide) (backOf (W := 2) (rm_val l Z a0 hw [] (2 : Int32) i3  h90 n0 (Nat.le_trans Z0 (Nat.le_trans (Nat.le_trans (Nat.le_trans (Nat.le_trans (Nat.le_trans (Nat.le_trans (Nat.le_trans (Nat.le_trans (Nat.le_refl _) E56.1) (Nat.le_of_eq W60.size.symm)) (Nat.le_of_eq W64.size.symm)) (Nat.le_of_eq W68.size.symm)) (Nat.le_of_eq W72.size.symm)) E78.1) (Nat.le_of_eq W84.size.symm)) (Nat.le_of_eq W90.size.symm))) ) hZ (hw _ (List.mem_of_getElem? (i := 5) rfl)) (hw _ (List.mem_of_getElem? (i := 4) rfl)) (by decide) (by decide)) (g := (mkF m 66 #[iv i0, iv i1, iv i2, iv i3, .val (.long i4), .second, rv b56, iv (1 : Int32), iv (6 : Int32), rv b78, .unset, .unset, .unset] [(.int i3), (.int (2 : Int32)), (.int (2 : Int32)), (.ref b78)])) rfl (by rw [hml]; rfl) (argsL := [(.int (2 : Int32)), (.int i3)]) (rest := [(.int (2 : Int32)), (.ref b78)]) (lenOf pd0 rfl) rfl (by show 2 * 0 + _ ≤ _; exact Nat.le_of_eq rfl) (hb hby at_66) (fun _ _ => ⟨rfl, e90, (by decide : 2 + 0 ≤ _), (by decide : 10 + 0 ≤ _)⟩)
    dsimp only [Pt.U, Pt.locs, Pt.cells, Pt.slots] at X93 l93 y93 z93 st93 hQ93
    subst l93 y93 z93
    obtain ⟨rfl, N93, e93⟩ := hQ93
    have M93 := Fr.app N90 N93
    have g94 : Goes p e below S0 (T93.setTop (mkF m 69 #[iv i0, iv i1, iv i2, iv i3, .val (.long i4), .second, rv b56, iv (1 : Int32), iv (6 : Int32), rv b78, .unset, .unset, .unset] [(.double (f_val (2 : Int32) i3)), (.int (2 : Int32)), (.ref b78)])) := fun t k => g92 t (st93 t k)
    obtain ⟨cl95, Ar95, q95, S95, M95, H95, G95⟩ := id V90
    obtain ⟨T96, h96, X96, e96, W96, st96⟩ := stD X93 hx hZ e93 Ar95 (j := (2 : Int32)) (inb_of S95 ⟨by decide, by decide⟩) (g := (mkF m 69 #[iv i0, iv i1, iv i2, iv i3, .val (.long i4), .second, rv b56, iv (1 : Int32), iv (6 : Int32), rv b78, .unset, .unset, .unset] [(.double (f_val (2 : Int32) i3)), (.int (2 : Int32)), (.ref b78)])) rfl rfl (hb hby at_69)
    have N96 := Fr.snoc X96 M93 ng78
    have V96 : Arv Z h96 b78 k78 .double (6 : Int32) [(.double (f_val (0 : Int32) i3)), (.double (f_val (1 : Int32) i3)), (.double (f_val (2 : Int32) i3)), (.double (0 : UInt64)), (.double (0 : UInt64)), (.double (0 : UInt64))] (.double (0 : UInt64)) := Arv.set Ar95 q95 S95 M95 H95 G95 rfl W96 2 rfl (Nat.le_of_ble_eq_true rfl)
    have g97 : Goes p e below S0 (T96.setTop (mkF m 70 #[iv i0, iv i1, iv i2, iv i3, .val (.long i4), .second, rv b56, iv (1 : Int32), iv (6 : Int32), rv b78, .unset, .unset, .unset] [])) := fun t k => g94 t (st96 t k)
    have g98 : Goes p e below S0 (T96.setTop (mkF m 75 #[iv i0, iv i1, iv i2, iv i3, .val (.long i4), .second, rv b56, iv (1 : Int32), iv (6 : Int32), rv b78, .unset, .unset, .unset] [(.int i3), (.int (3 : Int32)), (.int (3 : Int32)), (.ref b78)])) := fun t k => g97 t (by
      refine XS.aload X96.here hx rfl (hb hby at_70) rfl rfl ?_
      show Go p e below t T96 m 72 #[iv i0, iv i1, iv i2, iv i3, .val (.long i4), .second, rv b56, iv (1 : Int32), iv (6 : Int32), rv b78, .unset, .unset, .unset] [(.ref b78)]
      refine XT.iconstV X96.here hx rfl (3 : Int32) (hb hby at_72) (by decide) ?_
      show Go p e below t T96 m 73 #[iv i0, iv i1, iv i2, iv i3, .val (.long i4), .second, rv b56, iv (1 : Int32), iv (6 : Int32), rv b78, .unset, .unset, .unset] [(.int (3 : Int32)), (.ref b78)]
      refine XT.iconstV X96.here hx rfl (3 : Int32) (hb hby at_73) (by decide) ?_
      show Go p e below t T96 m 74 #[iv i0, iv i1, iv i2, iv i3, .val (.long i4), .second, rv b56, iv (1 : Int32), iv (6 : Int32), rv b78, .unset, .unset, .unset] [(.int (3 : Int32)), (.int (3 : Int32)), (.ref b78)]
      refine XS.iloadN X96.here hx rfl (hb hby at_74) rfl ?_
      show Go p e below t T96 m 75 #[iv i0, iv i1, iv i2, iv i3, .val (.long i4), .second, rv b56, iv (1 : Int32), iv (6 : Int32), rv b78, .unset, .unset, .unset] [(.int i3), (.int (3 : Int32)), (.int (3 : Int32)), (.ref b78)]
      exact k)
    obtain ⟨_, _, ⟨T99, L99, k99, n99⟩, -, X99, ⟨Lc99, hQ99, l99, y99, z99⟩, st99⟩ := Jvm.LawKit.callS X96 hx (y := (⟨"com/example/borrowed_prior/borrowedprior/model/TopicModelTopicTermPinLaw", "val", "(II)D"⟩ : MethodName)) hown (mvT hZ (hw _ (List.mem_of_getElem? (i := 2) rfl))) (mvT hZ (hw _ (List.mem_of_getElem? (i := 3) rfl))) (mvT hZ (hw _ (List.mem_of_getElem? (i := 4) rfl))) (mvT hZ (hw _ (List.mem_of_getElem? (i := 5) rfl))) (by decide) (backOf (W := 2) (rm_val l Z a0 hw [] (3 : Int32) i3  h96 n0 (Nat.le_trans Z0 (Nat.le_trans (Nat.le_trans (Nat.le_trans (Nat.le_trans (Nat.le_trans (Nat.le_trans (Nat.le_trans (Nat.le_trans (Nat.le_trans (Nat.le_refl _) E56.1) (Nat.le_of_eq W60.size.symm)) (Nat.le_of_eq W64.size.symm)) (Nat.le_of_eq W68.size.symm)) (Nat.le_of_eq W72.size.symm)) E78.1) (Nat.le_of_eq W84.size.symm)) (Nat.le_of_eq W90.size.symm)) (Nat.le_of_eq W96.size.symm))) ) hZ (hw _ (List.mem_of_getElem? (i := 5) rfl)) (hw _ (List.mem_of_getElem? (i := 4) rfl)) (by decide) (by decide)) (g := (mkF m 75 #[iv i0, iv i1, iv i2, iv i3, .val (.long i4), .second, rv b56, iv (1 : Int32), iv (6 : Int32), rv b78, .unset, .unset, .unset] [(.int i3), (.int (3 : Int32)), (.int (3 : Int32)), (.ref b78)])) rfl (by rw [hml]; rfl) (argsL := [(.int (3 : Int32)), (.int i3)]) (rest := [(.int (3 : Int32)), (.ref b78)]) (lenOf pd0 rfl) rfl (by show 2 * 0 + _ ≤ _; exact Nat.le_of_eq rfl) (hb hby at_75) (fun _ _ => ⟨rfl, e96, (by decide : 2 + 0 ≤ _), (by decide : 10 + 0 ≤ _)⟩)
    dsimp only [Pt.U, Pt.locs, Pt.cells, Pt.slots] at X99 l99 y99 z99 st99 hQ99
    subst l99 y99 z99
    obtain ⟨rfl, N99, e99⟩ := hQ99
    have M99 := Fr.app N96 N99
    have g100 : Goes p e below S0 (T99.setTop (mkF m 78 #[iv i0, iv i1, iv i2, iv i3, .val (.long i4), .second, rv b56, iv (1 : Int32), iv (6 : Int32), rv b78, .unset, .unset, .unset] [(.double (f_val (3 : Int32) i3)), (.int (3 : Int32)), (.ref b78)])) := fun t k => g98 t (st99 t k)
    obtain ⟨cl101, Ar101, q101, S101, M101, H101, G101⟩ := id V96
    obtain ⟨T102, h102, X102, e102, W102, st102⟩ := stD X99 hx hZ e99 Ar101 (j := (3 : Int32)) (inb_of S101 ⟨by decide, by decide⟩) (g := (mkF m 78 #[iv i0, iv i1, iv i2, iv i3, .val (.long i4), .second, rv b56, iv (1 : Int32), iv (6 : Int32), rv b78, .unset, .unset, .unset] [(.double (f_val (3 : Int32) i3)), (.int (3 : Int32)), (.ref b78)])) rfl rfl (hb hby at_78)
    have N102 := Fr.snoc X102 M99 ng78
    have V102 : Arv Z h102 b78 k78 .double (6 : Int32) [(.double (f_val (0 : Int32) i3)), (.double (f_val (1 : Int32) i3)), (.double (f_val (2 : Int32) i3)), (.double (f_val (3 : Int32) i3)), (.double (0 : UInt64)), (.double (0 : UInt64))] (.double (0 : UInt64)) := Arv.set Ar101 q101 S101 M101 H101 G101 rfl W102 3 rfl (Nat.le_of_ble_eq_true rfl)
    have g103 : Goes p e below S0 (T102.setTop (mkF m 79 #[iv i0, iv i1, iv i2, iv i3, .val (.long i4), .second, rv b56, iv (1 : Int32), iv (6 : Int32), rv b78, .unset, .unset, .unset] [])) := fun t k => g100 t (st102 t k)
    have g104 : Goes p e below S0 (T102.setTop (mkF m 84 #[iv i0, iv i1, iv i2, iv i3, .val (.long i4), .second, rv b56, iv (1 : Int32), iv (6 : Int32), rv b78, .unset, .unset, .unset] [(.int i3), (.int (4 : Int32)), (.int (4 : Int32)), (.ref b78)])) := fun t k => g103 t (by
      refine XS.aload X102.here hx rfl (hb hby at_79) rfl rfl ?_
      show Go p e below t T102 m 81 #[iv i0, iv i1, iv i2, iv i3, .val (.long i4), .second, rv b56, iv (1 : Int32), iv (6 : Int32), rv b78, .unset, .unset, .unset] [(.ref b78)]
      refine XT.iconstV X102.here hx rfl (4 : Int32) (hb hby at_81) (by decide) ?_
      show Go p e below t T102 m 82 #[iv i0, iv i1, iv i2, iv i3, .val (.long i4), .second, rv b56, iv (1 : Int32), iv (6 : Int32), rv b78, .unset, .unset, .unset] [(.int (4 : Int32)), (.ref b78)]
      refine XT.iconstV X102.here hx rfl (4 : Int32) (hb hby at_82) (by decide) ?_
      show Go p e below t T102 m 83 #[iv i0, iv i1, iv i2, iv i3, .val (.long i4), .second, rv b56, iv (1 : Int32), iv (6 : Int32), rv b78, .unset, .unset, .unset] [(.int (4 : Int32)), (.int (4 : Int32)), (.ref b78)]
      refine XS.iloadN X102.here hx rfl (hb hby at_83) rfl ?_
      show Go p e below t T102 m 84 #[iv i0, iv i1, iv i2, iv i3, .val (.long i4), .second, rv b56, iv (1 : Int32), iv (6 : Int32), rv b78, .unset, .unset, .unset] [(.int i3), (.int (4 : Int32)), (.int (4 : Int32)), (.ref b78)]
      exact k)
    obtain ⟨_, _, ⟨T105, L105, k105, n105⟩, -, X105, ⟨Lc105, hQ105, l105, y105, z105⟩, st105⟩ := Jvm.LawKit.callS X102 hx (y := (⟨"com/example/borrowed_prior/borrowedprior/model/TopicModelTopicTermPinLaw", "val", "(II)D"⟩ : MethodName)) hown (mvT hZ (hw _ (List.mem_of_getElem? (i := 2) rfl))) (mvT hZ (hw _ (List.mem_of_getElem? (i := 3) rfl))) (mvT hZ (hw _ (List.mem_of_getElem? (i := 4) rfl))) (mvT hZ (hw _ (List.mem_of_getElem? (i := 5) rfl))) (by decide) (backOf (W := 2) (rm_val l Z a0 hw [] (4 : Int32) i3  h102 n0 (Nat.le_trans Z0 (Nat.le_trans (Nat.le_trans (Nat.le_trans (Nat.le_trans (Nat.le_trans (Nat.le_trans (Nat.le_trans (Nat.le_trans (Nat.le_trans (Nat.le_trans (Nat.le_refl _) E56.1) (Nat.le_of_eq W60.size.symm)) (Nat.le_of_eq W64.size.symm)) (Nat.le_of_eq W68.size.symm)) (Nat.le_of_eq W72.size.symm)) E78.1) (Nat.le_of_eq W84.size.symm)) (Nat.le_of_eq W90.size.symm)) (Nat.le_of_eq W96.size.symm)) (Nat.le_of_eq W102.size.symm))) ) hZ (hw _ (List.mem_of_getElem? (i := 5) rfl)) (hw _ (List.mem_of_getElem? (i := 4) rfl)) (by decide) (by decide)) (g := (mkF m 84 #[iv i0, iv i1, iv i2, iv i3, .val (.long i4), .second, rv b56, iv (1 : Int32), iv (6 : Int32), rv b78, .unset, .unset, .unset] [(.int i3), (.int (4 : Int32)), (.int (4 : Int32)), (.ref b78)])) rfl (by rw [hml]; rfl) (argsL := [(.int (4 : Int32)), (.int i3)]) (rest := [(.int (4 : Int32)), (.ref b78)]) (lenOf pd0 rfl) rfl (by show 2 * 0 + _ ≤ _; exact Nat.le_of_eq rfl) (hb hby at_84) (fun _ _ => ⟨rfl, e102, (by decide : 2 + 0 ≤ _), (by decide : 10 + 0 ≤ _)⟩)
    dsimp only [Pt.U, Pt.locs, Pt.cells, Pt.slots] at X105 l105 y105 z105 st105 hQ105
    subst l105 y105 z105
    obtain ⟨rfl, N105, e105⟩ := hQ105
    have M105 := Fr.app N102 N105
    have g106 : Goes p e below S0 (T105.setTop (mkF m 87 #[iv i0, iv i1, iv i2, iv i3, .val (.long i4), .second, rv b56, iv (1 : Int32), iv (6 : Int32), rv b78, .unset, .unset, .unset] [(.double (f_val (4 : Int32) i3)), (.int (4 : Int32)), (.ref b78)])) := fun t k => g104 t (st105 t k)
    obtain ⟨cl107, Ar107, q107, S107, M107, H107, G107⟩ := id V102
    obtain ⟨T108, h108, X108, e108, W108, st108⟩ := stD X105 hx hZ e105 Ar107 (j := (4 : Int32)) (inb_of S107 ⟨by decide, by decide⟩) (g := (mkF m 87 #[iv i0, iv i1, iv i2, iv i3, .val (.long i4), .second, rv b56, iv (1 : Int32), iv (6 : Int32), rv b78, .unset, .unset, .unset] [(.double (f_val (4 : Int32) i3)), (.int (4 : Int32)), (.ref b78)])) rfl rfl (hb hby at_87)
    have N108 := Fr.snoc X108 M105 ng78
    have V108 : Arv Z h108 b78 k78 .double (6 : Int32) [(.double (f_val (0 : Int32) i3)), (.double (f_val (1 : Int32) i3)), (.double (f_val (2 : Int32) i3)), (.double (f_val (3 : Int32) i3)), (.double (f_val (4 : Int32) i3)), (.double (0 : UInt64))] (.double (0 : UInt64)) := Arv.set Ar107 q107 S107 M107 H107 G107 rfl W108 4 rfl (Nat.le_of_ble_eq_true rfl)
    have g109 : Goes p e below S0 (T108.setTop (mkF m 88 #[iv i0, iv i1, iv i2, iv i3, .val (.long i4), .second, rv b56, iv (1 : Int32), iv (6 : Int32), rv b78, .unset, .unset, .unset] [])) := fun t k => g106 t (st108 t k)
    have g110 : Goes p e below S0 (T108.setTop (mkF m 93 #[iv i0, iv i1, iv i2, iv i3, .val (.long i4), .second, rv b56, iv (1 : Int32), iv (6 : Int32), rv b78, .unset, .unset, .unset] [(.int i3), (.int (5 : Int32)), (.int (5 : Int32)), (.ref b78)])) := fun t k => g109 t (by
      refine XS.aload X108.here hx rfl (hb hby at_88) rfl rfl ?_
      show Go p e below t T108 m 90 #[iv i0, iv i1, iv i2, iv i3, .val (.long i4), .second, rv b56, iv (1 : Int32), iv (6 : Int32), rv b78, .unset, .unset, .unset] [(.ref b78)]
      refine XT.iconstV X108.here hx rfl (5 : Int32) (hb hby at_90) (by decide) ?_
      show Go p e below t T108 m 91 #[iv i0, iv i1, iv i2, iv i3, .val (.long i4), .second, rv b56, iv (1 : Int32), iv (6 : Int32), rv b78, .unset, .unset, .unset] [(.int (5 : Int32)), (.ref b78)]
      refine XT.iconstV X108.here hx rfl (5 : Int32) (hb hby at_91) (by decide) ?_
      show Go p e below t T108 m 92 #[iv i0, iv i1, iv i2, iv i3, .val (.long i4), .second, rv b56, iv (1 : Int32), iv (6 : Int32), rv b78, .unset, .unset, .unset] [(.int (5 : Int32)), (.int (5 : Int32)), (.ref b78)]
      refine XS.iloadN X108.here hx rfl (hb hby at_92) rfl ?_
      show Go p e below t T108 m 93 #[iv i0, iv i1, iv i2, iv i3, .val (.long i4), .second, rv b56, iv (1 : Int32), iv (6 : Int32), rv b78, .unset, .unset, .unset] [(.int i3), (.int (5 : Int32)), (.int (5 : Int32)), (.ref b78)]
      exact k)
    obtain ⟨_, _, ⟨T111, L111, k111, n111⟩, -, X111, ⟨Lc111, hQ111, l111, y111, z111⟩, st111⟩ := Jvm.LawKit.callS X108 hx (y := (⟨"com/example/borrowed_prior/borrowedprior/model/TopicModelTopicTermPinLaw", "val", "(II)D"⟩ : MethodName)) hown (mvT hZ (hw _ (List.mem_of_getElem? (i := 2) rfl))) (mvT hZ (hw _ (List.mem_of_getElem? (i := 3) rfl))) (mvT hZ (hw _ (List.mem_of_getElem? (i := 4) rfl))) (mvT hZ (hw _ (List.mem_of_getElem? (i := 5) rfl))) (by decide) (backOf (W := 2) (rm_val l Z a0 hw [] (5 : Int32) i3  h108 n0 (Nat.le_trans Z0 (Nat.le_trans (Nat.le_trans (Nat.le_trans (Nat.le_trans (Nat.le_trans (Nat.le_trans (Nat.le_trans (Nat.le_trans (Nat.le_trans (Nat.le_trans (Nat.le_trans (Nat.le_refl _) E56.1) (Nat.le_of_eq W60.size.symm)) (Nat.le_of_eq W64.size.symm)) (Nat.le_of_eq W68.size.symm)) (Nat.le_of_eq W72.size.symm)) E78.1) (Nat.le_of_eq W84.size.symm)) (Nat.le_of_eq W90.size.symm)) (Nat.le_of_eq W96.size.symm)) (Nat.le_of_eq W102.size.symm)) (Nat.le_of_eq W108.size.symm))) ) hZ (hw _ (List.mem_of_getElem? (i := 5) rfl)) (hw _ (List.mem_of_getElem? (i := 4) rfl)) (by decide) (by decide)) (g := (mkF m 93 #[iv i0, iv i1, iv i2, iv i3, .val (.long i4), .second, rv b56, iv (1 : Int32), iv (6 : Int32), rv b78, .unset, .unset, .unset] [(.int i3), (.int (5 : Int32)), (.int (5 : Int32)), (.ref b78)])) rfl (by rw [hml]; rfl) (argsL := [(.int (5 : Int32)), (.int i3)]) (rest := [(.int (5 : Int32)), (.ref b78)]) (lenOf pd0 rfl) rfl (by show 2 * 0 + _ ≤ _; exact Nat.le_of_eq rfl) (hb hby at_93) (fun _ _ => ⟨rfl, e108, (by decide : 2 + 0 ≤ _), (by decide : 10 + 0 ≤ _)⟩)
    dsimp only [Pt.U, Pt.locs, Pt.cells, Pt.slots] at X111 l111 y111 z111 st111 hQ111
    subst l111 y111 z111
    obtain ⟨rfl, N111, e111⟩ := hQ111
    have M111 := Fr.app N108 N111
    have g112 : Goes p e below S0 (T111.setTop (mkF m 96 #[iv i0, iv i1, iv i2, iv i3, .val (.long i4), .second, rv b56, iv (1 : Int32), iv (6 : Int32), rv b78, .unset, .unset, .unset] [(.double (f_val (5 : Int32) i3)), (.int (5 : Int32)), (.ref b78)])) := fun t k => g110 t (st111 t k)
    obtain ⟨cl113, Ar113, q113, S113, M113, H113, G113⟩ := id V108
    obtain ⟨T114, h114, X114, e114, W114, st114⟩ := stD X111 hx hZ e111 Ar113 (j := (5 : Int32)) (inb_of S113 ⟨by decide, by decide⟩) (g := (mkF m 96 #[iv i0, iv i1, iv i2, iv i3, .val (.long i4), .second, rv b56, iv (1 : Int32), iv (6 : Int32), rv b78, .unset, .unset, .unset] [(.double (f_val (5 : Int32) i3)), (.int (5 : Int32)), (.ref b78)])) rfl rfl (hb hby at_96)
    have N114 := Fr.snoc X114 M111 ng78
    have V114 : Arv Z h114 b78 k78 .double (6 : Int32) [(.double (f_val (0 : Int32) i3)), (.double (f_val (1 : Int32) i3)), (.double (f_val (2 : Int32) i3)), (.double (f_val (3 : Int32) i3)), (.double (f_val (4 : Int32) i3)), (.double (f_val (5 : Int32) i3))] (.double (0 : UInt64)) := Arv.set Ar113 q113 S113 M113 H113 G113 rfl W114 5 rfl (Nat.le_of_ble_eq_true rfl)
    have g115 : Goes p e below S0 (T114.setTop (mkF m 97 #[iv i0, iv i1, iv i2, iv i3, .val (.long i4), .second, rv b56, iv (1 : Int32), iv (6 : Int32), rv b78, .unset, .unset, .unset] [])) := fun t k => g112 t (st114 t k)
    obtain ⟨T116, h116, X116, e116, E116, A116, D116, -, st116⟩ := newO X114 hx hZ hown (hw _ (List.mem_of_getElem? (i := 7) rfl)) (hw _ (List.mem_of_getElem? (i := 8) rfl)) (hw _ (List.mem_of_getElem? (i := 9) rfl)) e114 (g := (mkF m 97 #[iv i0, iv i1, iv i2, iv i3, .val (.long i4), .second, rv b56, iv (1 : Int32), iv (6 : Int32), rv b78, .unset, .unset, .unset] [])) rfl (hb hby at_97) (by decide) (by decide)
    obtain ⟨b116, gb116⟩ : ∃ z, z = h114.size := ⟨_, rfl⟩
    have sz116 : h0.size ≤ b116 := Nat.le_trans (Nat.le_trans (Nat.le_trans (Nat.le_trans (Nat.le_trans (Nat.le_trans (Nat.le_trans (Nat.le_trans (Nat.le_trans (Nat.le_trans (Nat.le_trans (Nat.le_trans (Nat.le_trans (Nat.le_refl _) E56.1) (Nat.le_of_eq W60.size.symm)) (Nat.le_of_eq W64.size.symm)) (Nat.le_of_eq W68.size.symm)) (Nat.le_of_eq W72.size.symm)) E78.1) (Nat.le_of_eq W84.size.symm)) (Nat.le_of_eq W90.size.symm)) (Nat.le_of_eq W96.size.symm)) (Nat.le_of_eq W102.size.symm)) (Nat.le_of_eq W108.size.symm)) (Nat.le_of_eq W114.size.symm)) (Nat.le_of_eq gb116.symm)
    have ng116 : n0 ≤ b116 := Nat.le_trans Z0 sz116
    rw [← gb116] at A116 D116 st116
    have F116_117 : Fld Z h116 b116 "com/example/borrowed_prior/borrowedprior/model/TopicModel" "topicCount" "I" (.int (0 : Int32)) := D116 (Or.inr (hw _ (List.mem_of_getElem? (i := 21) rfl))) (ty := .int) (by decide)
    have F116_118 : Fld Z h116 b116 "com/example/borrowed_prior/borrowedprior/model/TopicModel" "documentCount" "I" (.int (0 : Int32)) := D116 (Or.inr (hw _ (List.mem_of_getElem? (i := 23) rfl))) (ty := .int) (by decide)
    have F116_119 : Fld Z h116 b116 "com/example/borrowed_prior/borrowedprior/model/TopicModel" "termCount" "I" (.int (0 : Int32)) := D116 (Or.inr (hw _ (List.mem_of_getElem? (i := 25) rfl))) (ty := .int) (by decide)
    have F116_120 : Fld Z h116 b116 "com/example/borrowed_prior/borrowedprior/model/TopicModel" "tokenCount" "J" (.long (0 : Int64)) := D116 (Or.inr (hw _ (List.mem_of_getElem? (i := 27) rfl))) (ty := .long) (by decide)
    have F116_121 : Fld Z h116 b116 "com/example/borrowed_prior/borrowedprior/model/TopicModel" "documentTopics" "[D" .null := D116 (Or.inr (hw _ (List.mem_of_getElem? (i := 29) rfl))) (ty := (.array .double)) (by decide)
    have F116_122 : Fld Z h116 b116 "com/example/borrowed_prior/borrowedprior/model/TopicModel" "termTopics" "[D" .null := D116 (Or.inr (hw _ (List.mem_of_getElem? (i := 31) rfl))) (ty := (.array .double)) (by decide)
    have g123 : Goes p e below S0 (T116.setTop (mkF m 100 #[iv i0, iv i1, iv i2, iv i3, .val (.long i4), .second, rv b56, iv (1 : Int32), iv (6 : Int32), rv b78, .unset, .unset, .unset] [(.ref b116)])) := fun t k => g115 t (st116 t k)
    have g124 : Goes p e below S0 (T116.setTop (mkF m 113 #[iv i0, iv i1, iv i2, iv i3, .val (.long i4), .second, rv b56, iv (1 : Int32), iv (6 : Int32), rv b78, .unset, .unset, .unset] [(.int (0 : Int32)), (.long (i4 &&& (9223372036854775807 : Int64))), (.int (6 : Int32)), (.int (0 : Int32)), (.int (1 : Int32)), (.ref b116), (.ref b116)])) := fun t k => g123 t (by
      refine XS.dup X116.here hx rfl (hb hby at_100) rfl rfl ?_
      show Go p e below t T116 m 101 #[iv i0, iv i1, iv i2, iv i3, .val (.long i4), .second, rv b56, iv (1 : Int32), iv (6 : Int32), rv b78, .unset, .unset, .unset] [(.ref b116), (.ref b116)]
      refine XS.iload X116.here hx rfl (hb hby at_101) rfl ?_
      show Go p e below t T116 m 103 #[iv i0, iv i1, iv i2, iv i3, .val (.long i4), .second, rv b56, iv (1 : Int32), iv (6 : Int32), rv b78, .unset, .unset, .unset] [(.int (1 : Int32)), (.ref b116), (.ref b116)]
      refine XT.iconstV X116.here hx rfl (0 : Int32) (hb hby at_103) (by decide) ?_
      show Go p e below t T116 m 104 #[iv i0, iv i1, iv i2, iv i3, .val (.long i4), .second, rv b56, iv (1 : Int32), iv (6 : Int32), rv b78, .unset, .unset, .unset] [(.int (0 : Int32)), (.int (1 : Int32)), (.ref b116), (.ref b116)]
      refine XS.iload X116.here hx rfl (hb hby at_104) rfl ?_
      show Go p e below t T116 m 106 #[iv i0, iv i1, iv i2, iv i3, .val (.long i4), .second, rv b56, iv (1 : Int32), iv (6 : Int32), rv b78, .unset, .unset, .unset] [(.int (6 : Int32)), (.int (0 : Int32)), (.int (1 : Int32)), (.ref b116), (.ref b116)]
      refine XS.lload X116.here hx rfl (hb hby at_106) rfl ?_
      show Go p e below t T116 m 108 #[iv i0, iv i1, iv i2, iv i3, .val (.long i4), .second, rv b56, iv (1 : Int32), iv (6 : Int32), rv b78, .unset, .unset, .unset] [(.long i4), (.int (6 : Int32)), (.int (0 : Int32)), (.int (1 : Int32)), (.ref b116), (.ref b116)]
      refine Jvm.Stand.ldc2J X116 hx hown (mvT hZ (hw _ (List.mem_of_getElem? (i := 10) rfl))) (g := (mkF m 108 #[iv i0, iv i1, iv i2, iv i3, .val (.long i4), .second, rv b56, iv (1 : Int32), iv (6 : Int32), rv b78, .unset, .unset, .unset] [(.long i4), (.int (6 : Int32)), (.int (0 : Int32)), (.int (1 : Int32)), (.ref b116), (.ref b116)])) rfl (hb hby at_108) ?_
      show Go p e below t T116 m 111 #[iv i0, iv i1, iv i2, iv i3, .val (.long i4), .second, rv b56, iv (1 : Int32), iv (6 : Int32), rv b78, .unset, .unset, .unset] [(.long (9223372036854775807 : Int64)), (.long i4), (.int (6 : Int32)), (.int (0 : Int32)), (.int (1 : Int32)), (.ref b116), (.ref b116)]
      refine XS.land X116.here hx rfl (hb hby at_111) rfl ?_
      show Go p e below t T116 m 112 #[iv i0, iv i1, iv i2, iv i3, .val (.long i4), .second, rv b56, iv (1 : Int32), iv (6 : Int32), rv b78, .unset, .unset, .unset] [(.long (i4 &&& (9223372036854775807 : Int64))), (.int (6 : Int32)), (.int (0 : Int32)), (.int (1 : Int32)), (.ref b116), (.ref b116)]
      refine XT.iconstV X116.here hx rfl (0 : Int32) (hb hby at_112) (by decide) ?_
      show Go p e below t T116 m 113 #[iv i0, iv i1, iv i2, iv i3, .val (.long i4), .second, rv b56, iv (1 : Int32), iv (6 : Int32), rv b78, .unset, .unset, .unset] [(.int (0 : Int32)), (.long (i4 &&& (9223372036854775807 : Int64))), (.int (6 : Int32)), (.int (0 : Int32)), (.int (1 : Int32)), (.ref b116), (.ref b116)]
      exact k)
    obtain ⟨T125, h125, k125, X125, e125, E125, A125, st125⟩ := newP X116 hx hZ (hw _ (List.mem_of_getElem? (i := 1) rfl)) e116 (g := (mkF m 113 #[iv i0, iv i1, iv i2, iv i3, .val (.long i4), .second, rv b56, iv (1 : Int32), iv (6 : Int32), rv b78, .unset, .unset, .unset] [(.int (0 : Int32)), (.long (i4 &&& (9223372036854775807 : Int64))), (.int (6 : Int32)), (.int (0 : Int32)), (.int (1 : Int32)), (.ref b116), (.ref b116)])) rfl (hb hby at_113) rfl (by decide) (cap := 0) (by decide) (by decide) (by decide) (by decide)
    obtain ⟨b125, gb125⟩ : ∃ z, z = h116.size := ⟨_, rfl⟩
    have sz125 : h0.size ≤ b125 := Nat.le_trans (Nat.le_trans (Nat.le_trans (Nat.le_trans (Nat.le_trans (Nat.le_trans (Nat.le_trans (Nat.le_trans (Nat.le_trans (Nat.le_trans (Nat.le_trans (Nat.le_trans (Nat.le_trans (Nat.le_trans (Nat.le_refl _) E56.1) (Nat.le_of_eq W60.size.symm)) (Nat.le_of_eq W64.size.symm)) (Nat.le_of_eq W68.size.symm)) (Nat.le_of_eq W72.size.symm)) E78.1) (Nat.le_of_eq W84.size.symm)) (Nat.le_of_eq W90.size.symm)) (Nat.le_of_eq W96.size.symm)) (Nat.le_of_eq W102.size.symm)) (Nat.le_of_eq W108.size.symm)) (Nat.le_of_eq W114.size.symm)) E116.1) (Nat.le_of_eq gb125.symm)
    have ng125 : n0 ≤ b125 := Nat.le_trans Z0 sz125
    rw [← gb125] at A125 st125
    have V125 : Arv Z h125 b125 k125 .double (0 : Int32) [] (.double (0 : UInt64)) := (Arv.new A125 (by decide)).pad (pad_rep [] (.double (0 : UInt64)) 0)
    have g126 : Goes p e below S0 (T125.setTop (mkF m 115 #[iv i0, iv i1, iv i2, iv i3, .val (.long i4), .second, rv b56, iv (1 : Int32), iv (6 : Int32), rv b78, .unset, .unset, .unset] [(.ref b125), (.long (i4 &&& (9223372036854775807 : Int64))), (.int (6 : Int32)), (.int (0 : Int32)), (.int (1 : Int32)), (.ref b116), (.ref b116)])) := fun t k => g124 t (st125 t k)
    have g127 : Goes p e below S0 (T125.setTop (mkF m 117 #[iv i0, iv i1, iv i2, iv i3, .val (.long i4), .second, rv b56, iv (1 : Int32), iv (6 : Int32), rv b78, .unset, .unset, .unset] [(.ref b78), (.ref b125), (.long (i4 &&& (9223372036854775807 : Int64))), (.int (6 : Int32)), (.int (0 : Int32)), (.int (1 : Int32)), (.ref b116), (.ref b116)])) := fun t k => g126 t (by
      refine XS.aload X125.here hx rfl (hb hby at_115) rfl rfl ?_
      show Go p e below t T125 m 117 #[iv i0, iv i1, iv i2, iv i3, .val (.long i4), .second, rv b56, iv (1 : Int32), iv (6 : Int32), rv b78, .unset, .unset, .unset] [(.ref b78), (.ref b125), (.long (i4 &&& (9223372036854775807 : Int64))), (.int (6 : Int32)), (.int (0 : Int32)), (.int (1 : Int32)), (.ref b116), (.ref b116)]
      exact k)
    obtain ⟨_, _, ⟨T128, L128, k128, n128⟩, -, X128, ⟨Lc128, hQ128, l128, y128, z128⟩, st128⟩ := X125.specialBack hx (y := (⟨"com/example/borrowed_prior/borrowedprior/model/TopicModel", "<init>", "(IIIJ[D[D)V"⟩ : MethodName)) rfl hown (mvT hZ (hw _ (List.mem_of_getElem? (i := 11) rfl))) (mvT hZ (hw _ (List.mem_of_getElem? (i := 12) rfl))) (mvT hZ (hw _ (List.mem_of_getElem? (i := 13) rfl))) (by decide) (backOf (W := 1) (rm_tin l Z a0 hw [] b116 (1 : Int32) (0 : Int32) (6 : Int32) (i4 &&& (9223372036854775807 : Int64)) b125 b78 k125 (0 : Int32) [] (.double (0 : UInt64)) k78 (6 : Int32) [(.double (f_val (0 : Int32) i3)), (.double (f_val (1 : Int32) i3)), (.double (f_val (2 : Int32) i3)), (.double (f_val (3 : Int32) i3)), (.double (f_val (4 : Int32) i3)), (.double (f_val (5 : Int32) i3))] (.double (0 : UInt64)) h125 n0 (Nat.le_trans Z0 (Nat.le_trans (Nat.le_trans (Nat.le_trans (Nat.le_trans (Nat.le_trans (Nat.le_trans (Nat.le_trans (Nat.le_trans (Nat.le_trans (Nat.le_trans (Nat.le_trans (Nat.le_trans (Nat.le_trans (Nat.le_trans (Nat.le_refl _) E56.1) (Nat.le_of_eq W60.size.symm)) (Nat.le_of_eq W64.size.symm)) (Nat.le_of_eq W68.size.symm)) (Nat.le_of_eq W72.size.symm)) E78.1) (Nat.le_of_eq W84.size.symm)) (Nat.le_of_eq W90.size.symm)) (Nat.le_of_eq W96.size.symm)) (Nat.le_of_eq W102.size.symm)) (Nat.le_of_eq W108.size.symm)) (Nat.le_of_eq W114.size.symm)) E116.1) E125.1)) (A116.ext E125) (F116_117.ext E125) (F116_118.ext E125) (F116_119.ext E125) (F116_120.ext E125) (F116_121.ext E125) (F116_122.ext E125) ng116 V125 ((V114.ext E116).ext E125) (by decide) (by decide) (by decide) (own_tok i4) (by decide) (by decide) (own_p0 _ _) (own_p6 i3) (by decide) (by decide)) hZ (hw _ (List.mem_of_getElem? (i := 13) rfl)) (hw _ (List.mem_of_getElem? (i := 9) rfl)) (by decide) (by decide)) (g := (mkF m 117 #[iv i0, iv i1, iv i2, iv i3, .val (.long i4), .second, rv b56, iv (1 : Int32), iv (6 : Int32), rv b78, .unset, .unset, .unset] [(.ref b78), (.ref b125), (.long (i4 &&& (9223372036854775807 : Int64))), (.int (6 : Int32)), (.int (0 : Int32)), (.int (1 : Int32)), (.ref b116), (.ref b116)])) rfl (by rw [hml]; rfl) (Steps.refl _) (a := b116) (argsL := [(.int (1 : Int32)), (.int (0 : Int32)), (.int (6 : Int32)), (.long (i4 &&& (9223372036854775807 : Int64))), (.ref b125), (.ref b78)]) (rest := [(.ref b116)]) (lenOf pd2 rfl) rfl (by show 2 * 0 + _ ≤ _; exact Nat.le_of_eq rfl) (hb hby at_117) (fun _ _ => ⟨rfl, e125, (by decide : 4 + 0 ≤ _), (by decide : 16 + 0 ≤ _)⟩)
    dsimp only [Pt.U, Pt.locs, Pt.cells, Pt.slots] at X128 l128 y128 z128 st128 hQ128
    subst l128 y128 z128
    obtain ⟨rfl, N128, R128_0, R128_1, R128_2, R128_3, R128_4, R128_5, R128_6, R128_7⟩ := hQ128
    have M128 := Fr.app N114 N128
    have g129 : Goes p e below S0 (T128.setTop (mkF m 120 #[iv i0, iv i1, iv i2, iv i3, .val (.long i4), .second, rv b56, iv (1 : Int32), iv (6 : Int32), rv b78, .unset, .unset, .unset] [(.ref b116)])) := fun t k => g127 t (st128.trans k)
    have g130 : Goes p e below S0 (T128.setTop (mkF m 146 #[iv i0, iv i1, iv i2, iv i3, .val (.long i4), .second, rv b56, iv (1 : Int32), iv (6 : Int32), rv b78, rv b116, iv (nA1 i1), iv (nB1 i2)] [(.int (nB1 i2)), (.int (nA1 i1)), (.ref b116)])) := fun t k => g129 t (by
      refine XS.astore X128.here hx rfl (hb hby at_120) rfl rfl (l' := #[iv i0, iv i1, iv i2, iv i3, .val (.long i4), .second, rv b56, iv (1 : Int32), iv (6 : Int32), rv b78, rv b116, .unset, .unset]) rfl ?_
      show Go p e below t T128 m 122 #[iv i0, iv i1, iv i2, iv i3, .val (.long i4), .second, rv b56, iv (1 : Int32), iv (6 : Int32), rv b78, rv b116, .unset, .unset] []
      refine XS.iloadN X128.here hx rfl (hb hby at_122) rfl ?_
      show Go p e below t T128 m 123 #[iv i0, iv i1, iv i2, iv i3, .val (.long i4), .second, rv b56, iv (1 : Int32), iv (6 : Int32), rv b78, rv b116, .unset, .unset] [(.int i1)]
      refine Jvm.Stand.ldcI X128 hx hown (mvT hZ (hw _ (List.mem_of_getElem? (i := 32) rfl))) (g := (mkF m 123 #[iv i0, iv i1, iv i2, iv i3, .val (.long i4), .second, rv b56, iv (1 : Int32), iv (6 : Int32), rv b78, rv b116, .unset, .unset] [(.int i1)])) rfl (hb hby at_123) ?_
      show Go p e below t T128 m 125 #[iv i0, iv i1, iv i2, iv i3, .val (.long i4), .second, rv b56, iv (1 : Int32), iv (6 : Int32), rv b78, rv b116, .unset, .unset] [(.int (2147483647 : Int32)), (.int i1)]
      refine XS.iand X128.here hx rfl (hb hby at_125) rfl ?_
      show Go p e below t T128 m 126 #[iv i0, iv i1, iv i2, iv i3, .val (.long i4), .second, rv b56, iv (1 : Int32), iv (6 : Int32), rv b78, rv b116, .unset, .unset] [(.int (i1 &&& (2147483647 : Int32)))]
      refine XS.iload X128.here hx rfl (hb hby at_126) rfl ?_
      show Go p e below t T128 m 128 #[iv i0, iv i1, iv i2, iv i3, .val (.long i4), .second, rv b56, iv (1 : Int32), iv (6 : Int32), rv b78, rv b116, .unset, .unset] [(.int (1 : Int32)), (.int (i1 &&& (2147483647 : Int32)))]
      refine iremM X128 hx rfl (hb hby at_128) rfl (by decide) ?_
      show Go p e below t T128 m 129 #[iv i0, iv i1, iv i2, iv i3, .val (.long i4), .second, rv b56, iv (1 : Int32), iv (6 : Int32), rv b78, rv b116, .unset, .unset] [(.int ((i1 &&& (2147483647 : Int32)) % (1 : Int32)))]
      refine XS.istore X128.here hx rfl (hb hby at_129) rfl (l' := #[iv i0, iv i1, iv i2, iv i3, .val (.long i4), .second, rv b56, iv (1 : Int32), iv (6 : Int32), rv b78, rv b116, iv (nA1 i1), .unset]) rfl ?_
      show Go p e below t T128 m 131 #[iv i0, iv i1, iv i2, iv i3, .val (.long i4), .second, rv b56, iv (1 : Int32), iv (6 : Int32), rv b78, rv b116, iv (nA1 i1), .unset] []
      refine XS.iloadN X128.here hx rfl (hb hby at_131) rfl ?_
      show Go p e below t T128 m 132 #[iv i0, iv i1, iv i2, iv i3, .val (.long i4), .second, rv b56, iv (1 : Int32), iv (6 : Int32), rv b78, rv b116, iv (nA1 i1), .unset] [(.int i2)]
      refine Jvm.Stand.ldcI X128 hx hown (mvT hZ (hw _ (List.mem_of_getElem? (i := 32) rfl))) (g := (mkF m 132 #[iv i0, iv i1, iv i2, iv i3, .val (.long i4), .second, rv b56, iv (1 : Int32), iv (6 : Int32), rv b78, rv b116, iv (nA1 i1), .unset] [(.int i2)])) rfl (hb hby at_132) ?_
      show Go p e below t T128 m 134 #[iv i0, iv i1, iv i2, iv i3, .val (.long i4), .second, rv b56, iv (1 : Int32), iv (6 : Int32), rv b78, rv b116, iv (nA1 i1), .unset] [(.int (2147483647 : Int32)), (.int i2)]
      refine XS.iand X128.here hx rfl (hb hby at_134) rfl ?_
      show Go p e below t T128 m 135 #[iv i0, iv i1, iv i2, iv i3, .val (.long i4), .second, rv b56, iv (1 : Int32), iv (6 : Int32), rv b78, rv b116, iv (nA1 i1), .unset] [(.int (i2 &&& (2147483647 : Int32)))]
      refine XS.iload X128.here hx rfl (hb hby at_135) rfl ?_
      show Go p e below t T128 m 137 #[iv i0, iv i1, iv i2, iv i3, .val (.long i4), .second, rv b56, iv (1 : Int32), iv (6 : Int32), rv b78, rv b116, iv (nA1 i1), .unset] [(.int (6 : Int32)), (.int (i2 &&& (2147483647 : Int32)))]
      refine iremM X128 hx rfl (hb hby at_137) rfl (by decide) ?_
      show Go p e below t T128 m 138 #[iv i0, iv i1, iv i2, iv i3, .val (.long i4), .second, rv b56, iv (1 : Int32), iv (6 : Int32), rv b78, rv b116, iv (nA1 i1), .unset] [(.int ((i2 &&& (2147483647 : Int32)) % (6 : Int32)))]
      refine XS.istore X128.here hx rfl (hb hby at_138) rfl (l' := #[iv i0, iv i1, iv i2, iv i3, .val (.long i4), .second, rv b56, iv (1 : Int32), iv (6 : Int32), rv b78, rv b116, iv (nA1 i1), iv (nB1 i2)]) rfl ?_
      show Go p e below t T128 m 140 #[iv i0, iv i1, iv i2, iv i3, .val (.long i4), .second, rv b56, iv (1 : Int32), iv (6 : Int32), rv b78, rv b116, iv (nA1 i1), iv (nB1 i2)] []
      refine XS.aload X128.here hx rfl (hb hby at_140) rfl rfl ?_
      show Go p e below t T128 m 142 #[iv i0, iv i1, iv i2, iv i3, .val (.long i4), .second, rv b56, iv (1 : Int32), iv (6 : Int32), rv b78, rv b116, iv (nA1 i1), iv (nB1 i2)] [(.ref b116)]
      refine XS.iload X128.here hx rfl (hb hby at_142) rfl ?_
      show Go p e below t T128 m 144 #[iv i0, iv i1, iv i2, iv i3, .val (.long i4), .second, rv b56, iv (1 : Int32), iv (6 : Int32), rv b78, rv b116, iv (nA1 i1), iv (nB1 i2)] [(.int (nA1 i1)), (.ref b116)]
      refine XS.iload X128.here hx rfl (hb hby at_144) rfl ?_
      show Go p e below t T128 m 146 #[iv i0, iv i1, iv i2, iv i3, .val (.long i4), .second, rv b56, iv (1 : Int32), iv (6 : Int32), rv b78, rv b116, iv (nA1 i1), iv (nB1 i2)] [(.int (nB1 i2)), (.int (nA1 i1)), (.ref b116)]
      exact k)
    obtain ⟨cq131, kq131, q131a, q131b, q131c⟩ := isOf hZ rfl R128_1
    obtain ⟨_, _, ⟨T131, L131, k131, n131⟩, -, X131, ⟨Lc131, hQ131, l131, y131, z131⟩, st131⟩ := X128.virtualBack hx (y := (⟨"com/example/borrowed_prior/borrowedprior/model/TopicModel", "topicTerm", "(II)D"⟩ : MethodName)) (z := (⟨"com/example/borrowed_prior/borrowedprior/model/TopicModel", "topicTerm", "(II)D"⟩ : MethodName)) hown (mvT hZ (hw _ (List.mem_of_getElem? (i := 33) rfl))) (mvT hZ (hw _ (List.mem_of_getElem? (i := 34) rfl))) (notFace_of_selects (args := #[]) (mvT hZ (hw _ (List.mem_of_getElem? (i := 36) rfl)))) (mvT hZ (hw _ (List.mem_of_getElem? (i := 36) rfl))) (mvT hZ (hw _ (List.mem_of_getElem? (i := 35) rfl))) (by decide) (backOf (W := 0) (rm_tt l Z a0 hw [] b116 (nA1 i1) (nB1 i2) (1 : Int32) b78 k78 (6 : Int32) [(.double (f_val (0 : Int32) i3)), (.double (f_val (1 : Int32) i3)), (.double (f_val (2 : Int32) i3)), (.double (f_val (3 : Int32) i3)), (.double (f_val (4 : Int32) i3)), (.double (f_val (5 : Int32) i3))] (.double (0 : UInt64)) (f_val (nJ1 i1 i2) i3) T128.heap n0 (Nat.le_trans Z0 (Nat.le_trans (Nat.le_trans (Nat.le_trans (Nat.le_trans (Nat.le_trans (Nat.le_trans (Nat.le_trans (Nat.le_trans (Nat.le_trans (Nat.le_trans (Nat.le_trans (Nat.le_trans (Nat.le_trans (Nat.le_trans (Nat.le_trans (Nat.le_refl _) E56.1) (Nat.le_of_eq W60.size.symm)) (Nat.le_of_eq W64.size.symm)) (Nat.le_of_eq W68.size.symm)) (Nat.le_of_eq W72.size.symm)) E78.1) (Nat.le_of_eq W84.size.symm)) (Nat.le_of_eq W90.size.symm)) (Nat.le_of_eq W96.size.symm)) (Nat.le_of_eq W102.size.symm)) (Nat.le_of_eq W108.size.symm)) (Nat.le_of_eq W114.size.symm)) E116.1) E125.1) R128_0.1)) R128_2 R128_7 (((V114.ext E116).ext E125).keep R128_0 (ninS (Nat.ne_of_lt (Nat.lt_of_lt_of_le V114.lt (Nat.le_of_eq gb116.symm))) nin0)) (own_jin1 i1 i2) (own_jat1 i1 i2 i3)) hZ (hw _ (List.mem_of_getElem? (i := 37) rfl)) (hw _ (List.mem_of_getElem? (i := 9) rfl)) (by decide) (by decide)) q131a q131c (g := (mkF m 146 #[iv i0, iv i1, iv i2, iv i3, .val (.long i4), .second, rv b56, iv (1 : Int32), iv (6 : Int32), rv b78, rv b116, iv (nA1 i1), iv (nB1 i2)] [(.int (nB1 i2)), (.int (nA1 i1)), (.ref b116)])) rfl (by rw [hml]; rfl) (Steps.refl _) (argsL := [(.int (nA1 i1)), (.int (nB1 i2))]) (rest := []) (lenOf pd0 rfl) rfl (by show 2 * 0 + _ ≤ _; exact Nat.le_of_eq rfl) (hb hby at_146) (fun _ _ => ⟨rfl, rfl, (by decide : 4 + 0 ≤ _), (by decide : 16 + 0 ≤ _)⟩)
    dsimp only [Pt.U, Pt.locs, Pt.cells, Pt.slots] at X131 l131 y131 z131 st131 hQ131
    subst l131 y131 z131
    obtain ⟨rfl, N131, R131_0⟩ := hQ131
    have M131 := Fr.app M128 N131
    have g132 : Goes p e below S0 (T131.setTop (mkF m 149 #[iv i0, iv i1, iv i2, iv i3, .val (.long i4), .second, rv b56, iv (1 : Int32), iv (6 : Int32), rv b78, rv b116, iv (nA1 i1), iv (nB1 i2)] [(.double (f_val (nJ1 i1 i2) i3))])) := fun t k => g130 t (st131.trans k)
    have g133 : Goes p e below S0 (T131.setTop (mkF m 158 #[iv i0, iv i1, iv i2, iv i3, .val (.long i4), .second, rv b56, iv (1 : Int32), iv (6 : Int32), rv b78, rv b116, iv (nA1 i1), iv (nB1 i2)] [(.int i3), (.int (nJ1 i1 i2)), (.double (f_val (nJ1 i1 i2) i3))])) := fun t k => g132 t (by
      refine XS.iload X131.here hx rfl (hb hby at_149) rfl ?_
      show Go p e below t T131 m 151 #[iv i0, iv i1, iv i2, iv i3, .val (.long i4), .second, rv b56, iv (1 : Int32), iv (6 : Int32), rv b78, rv b116, iv (nA1 i1), iv (nB1 i2)] [(.int (nB1 i2)), (.double (f_val (nJ1 i1 i2) i3))]
      refine XS.iload X131.here hx rfl (hb hby at_151) rfl ?_
      show Go p e below t T131 m 153 #[iv i0, iv i1, iv i2, iv i3, .val (.long i4), .second, rv b56, iv (1 : Int32), iv (6 : Int32), rv b78, rv b116, iv (nA1 i1), iv (nB1 i2)] [(.int (1 : Int32)), (.int (nB1 i2)), (.double (f_val (nJ1 i1 i2) i3))]
      refine XS.imul X131.here hx rfl (hb hby at_153) rfl ?_
      show Go p e below t T131 m 154 #[iv i0, iv i1, iv i2, iv i3, .val (.long i4), .second, rv b56, iv (1 : Int32), iv (6 : Int32), rv b78, rv b116, iv (nA1 i1), iv (nB1 i2)] [(.int ((nB1 i2) * (1 : Int32))), (.double (f_val (nJ1 i1 i2) i3))]
      refine XS.iload X131.here hx rfl (hb hby at_154) rfl ?_
      show Go p e below t T131 m 156 #[iv i0, iv i1, iv i2, iv i3, .val (.long i4), .second, rv b56, iv (1 : Int32), iv (6 : Int32), rv b78, rv b116, iv (nA1 i1), iv (nB1 i2)] [(.int (nA1 i1)), (.int ((nB1 i2) * (1 : Int32))), (.double (f_val (nJ1 i1 i2) i3))]
      refine XS.iadd X131.here hx rfl (hb hby at_156) rfl ?_
      show Go p e below t T131 m 157 #[iv i0, iv i1, iv i2, iv i3, .val (.long i4), .second, rv b56, iv (1 : Int32), iv (6 : Int32), rv b78, rv b116, iv (nA1 i1), iv (nB1 i2)] [(.int (((nB1 i2) * (1 : Int32)) + (nA1 i1))), (.double (f_val (nJ1 i1 i2) i3))]
      show Go p e below t T131 m 157 #[iv i0, iv i1, iv i2, iv i3, .val (.long i4), .second, rv b56, iv (1 : Int32), iv (6 : Int32), rv b78, rv b116, iv (nA1 i1), iv (nB1 i2)] [(.int (nJ1 i1 i2)), (.double (f_val (nJ1 i1 i2) i3))]
      refine XS.iloadN X131.here hx rfl (hb hby at_157) rfl ?_
      show Go p e below t T131 m 158 #[iv i0, iv i1, iv i2, iv i3, .val (.long i4), .second, rv b56, iv (1 : Int32), iv (6 : Int32), rv b78, rv b116, iv (nA1 i1), iv (nB1 i2)] [(.int i3), (.int (nJ1 i1 i2)), (.double (f_val (nJ1 i1 i2) i3))]
      exact k)
    obtain ⟨_, _, ⟨T134, L134, k134, n134⟩, -, X134, ⟨Lc134, hQ134, l134, y134, z134⟩, st134⟩ := Jvm.LawKit.callS X131 hx (y := (⟨"com/example/borrowed_prior/borrowedprior/model/TopicModelTopicTermPinLaw", "val", "(II)D"⟩ : MethodName)) hown (mvT hZ (hw _ (List.mem_of_getElem? (i := 2) rfl))) (mvT hZ (hw _ (List.mem_of_getElem? (i := 3) rfl))) (mvT hZ (hw _ (List.mem_of_getElem? (i := 4) rfl))) (mvT hZ (hw _ (List.mem_of_getElem? (i := 5) rfl))) (by decide) (backOf (W := 2) (rm_val l Z a0 hw [] (nJ1 i1 i2) i3  T128.heap n0 (Nat.le_trans Z0 (Nat.le_trans (Nat.le_trans (Nat.le_trans (Nat.le_trans (Nat.le_trans (Nat.le_trans (Nat.le_trans (Nat.le_trans (Nat.le_trans (Nat.le_trans (Nat.le_trans (Nat.le_trans (Nat.le_trans (Nat.le_trans (Nat.le_trans (Nat.le_refl _) E56.1) (Nat.le_of_eq W60.size.symm)) (Nat.le_of_eq W64.size.symm)) (Nat.le_of_eq W68.size.symm)) (Nat.le_of_eq W72.size.symm)) E78.1) (Nat.le_of_eq W84.size.symm)) (Nat.le_of_eq W90.size.symm)) (Nat.le_of_eq W96.size.symm)) (Nat.le_of_eq W102.size.symm)) (Nat.le_of_eq W108.size.symm)) (Nat.le_of_eq W114.size.symm)) E116.1) E125.1) R128_0.1)) ) hZ (hw _ (List.mem_of_getElem? (i := 5) rfl)) (hw _ (List.mem_of_getElem? (i := 4) rfl)) (by decide) (by decide)) (g := (mkF m 158 #[iv i0, iv i1, iv i2, iv i3, .val (.long i4), .second, rv b56, iv (1 : Int32), iv (6 : Int32), rv b78, rv b116, iv (nA1 i1), iv (nB1 i2)] [(.int i3), (.int (nJ1 i1 i2)), (.double (f_val (nJ1 i1 i2) i3))])) rfl (by rw [hml]; rfl) (argsL := [(.int (nJ1 i1 i2)), (.int i3)]) (rest := [(.double (f_val (nJ1 i1 i2) i3))]) (lenOf pd0 rfl) rfl (by show 2 * 0 + _ ≤ _; exact Nat.le_of_eq rfl) (hb hby at_158) (fun _ _ => ⟨rfl, R131_0, (by decide : 4 + 0 ≤ _), (by decide : 16 + 0 ≤ _)⟩)
    dsimp only [Pt.U, Pt.locs, Pt.cells, Pt.slots] at X134 l134 y134 z134 st134 hQ134
    subst l134 y134 z134
    obtain ⟨rfl, N134, e134⟩ := hQ134
    have M134 := Fr.app M131 N134
    have g135 : Goes p e below S0 (T134.setTop (mkF m 161 #[iv i0, iv i1, iv i2, iv i3, .val (.long i4), .second, rv b56, iv (1 : Int32), iv (6 : Int32), rv b78, rv b116, iv (nA1 i1), iv (nB1 i2)] [(.double (f_val (nJ1 i1 i2) i3)), (.double (f_val (nJ1 i1 i2) i3))])) := fun t k => g133 t (st134 t k)
    have g136 : Goes p e below S0 (T134.setTop (mkF m 170 #[iv i0, iv i1, iv i2, iv i3, .val (.long i4), .second, rv b56, iv (1 : Int32), iv (6 : Int32), rv b78, rv b116, iv (nA1 i1), iv (nB1 i2)] [(.int (1 : Int32))])) := fun t k => g135 t (by
      refine XS.dcmpS X134.here hx rfl (hb hby at_161) rfl rfl ?_
      show Go p e below t T134 m 162 #[iv i0, iv i1, iv i2, iv i3, .val (.long i4), .second, rv b56, iv (1 : Int32), iv (6 : Int32), rv b78, rv b116, iv (nA1 i1), iv (nB1 i2)] [(.int (cmpValue (FP.dcmp (f_val (nJ1 i1 i2) i3) (f_val (nJ1 i1 i2) i3)) .l))]
      refine XS.ifNo X134.here hx rfl (hb hby at_162) rfl (dc_l_ne_f (own_self _ _)) ?_
      show Go p e below t T134 m 165 #[iv i0, iv i1, iv i2, iv i3, .val (.long i4), .second, rv b56, iv (1 : Int32), iv (6 : Int32), rv b78, rv b116, iv (nA1 i1), iv (nB1 i2)] []
      refine XT.iconstV X134.here hx rfl (1 : Int32) (hb hby at_165) (by decide) ?_
      show Go p e below t T134 m 166 #[iv i0, iv i1, iv i2, iv i3, .val (.long i4), .second, rv b56, iv (1 : Int32), iv (6 : Int32), rv b78, rv b116, iv (nA1 i1), iv (nB1 i2)] [(.int (1 : Int32))]
      refine XS.goto X134.here hx rfl (pc0 := 166) (pc' := 170) rfl (hb hby at_166) (by decide) (by decide) ?_
      show Go p e below t T134 m 170 #[iv i0, iv i1, iv i2, iv i3, .val (.long i4), .second, rv b56, iv (1 : Int32), iv (6 : Int32), rv b78, rv b116, iv (nA1 i1), iv (nB1 i2)] [(.int (1 : Int32))]
      exact k)
    obtain ⟨fs, hr, hrun, hended, hW, hsame⟩ := X134.leave (v := some (.int (1 : Int32))) (fun h => by rw [Bd.returns] at h; cases h)
    refine ⟨_, _, g136 _ (retN X134 hx (t := .boolean) Bd.returns (by simp) (hb hby at_170) hr), hrun, hended, _, _, rfl, ?_, ⟨_, rfl⟩, hW, hsame.mono (by decide) (by decide)⟩
    show Q_law Z i0 i1 i2 i3 i4  h0 n0 _ T134.heap _
    rw [e134]
    exact ⟨rfl, M134⟩
  · skip
    have g137 : Goes p e below S0 (T72.setTop (mkF m 39 #[iv i0, iv i1, iv i2, iv i3, .val (.long i4), .second, rv b56, iv (2 : Int32), iv (3 : Int32), .unset, .unset, .unset, .unset] [(.int (6 : Int32))])) := fun t k => g76 t (by
      refine XT.bipushV X72.here hx rfl (6 : Int32) (hb hby at_30) (by decide) ?_
      show Go p e below t T72 m 32 #[iv i0, iv i1, iv i2, iv i3, .val (.long i4), .second, rv b56, iv (2 : Int32), .unset, .unset, .unset, .unset, .unset] [(.int (6 : Int32))]
      refine XS.iload X72.here hx rfl (hb hby at_32) rfl ?_
      show Go p e below t T72 m 34 #[iv i0, iv i1, iv i2, iv i3, .val (.long i4), .second, rv b56, iv (2 : Int32), .unset, .unset, .unset, .unset, .unset] [(.int (2 : Int32)), (.int (6 : Int32))]
      refine XS.idiv X72.here hx rfl (hb hby at_34) rfl (by decide) ?_
      rw [show ((6 : Int32) / (2 : Int32)) = (3 : Int32) by decide]
      show Go p e below t T72 m 35 #[iv i0, iv i1, iv i2, iv i3, .val (.long i4), .second, rv b56, iv (2 : Int32), .unset, .unset, .unset, .unset, .unset] [(.int (3 : Int32))]
      refine XS.istore X72.here hx rfl (hb hby at_35) rfl (l' := #[iv i0, iv i1, iv i2, iv i3, .val (.long i4), .second, rv b56, iv (2 : Int32), iv (3 : Int32), .unset, .unset, .unset, .unset]) rfl ?_
      show Go p e below t T72 m 37 #[iv i0, iv i1, iv i2, iv i3, .val (.long i4), .second, rv b56, iv (2 : Int32), iv (3 : Int32), .unset, .unset, .unset, .unset] []
      refine XT.bipushV X72.here hx rfl (6 : Int32) (hb hby at_37) (by decide) ?_
      show Go p e below t T72 m 39 #[iv i0, iv i1, iv i2, iv i3, .val (.long i4), .second, rv b56, iv (2 : Int32), iv (3 : Int32), .unset, .unset, .unset, .unset] [(.int (6 : Int32))]
      exact k)
    obtain ⟨T138, h138, k138, X138, e138, E138, A138, st138⟩ := newP X72 hx hZ (hw _ (List.mem_of_getElem? (i := 1) rfl)) e72 (g := (mkF m 39 #[iv i0, iv i1, iv i2, iv i3, .val (.long i4), .second, rv b56, iv (2 : Int32), iv (3 : Int32), .unset, .unset, .unset, .unset] [(.int (6 : Int32))])) rfl (hb hby at_39) rfl (by decide) (cap := 6) (by decide) (by decide) (by decide) (by decide)
    obtain ⟨b138, gb138⟩ : ∃ z, z = h72.size := ⟨_, rfl⟩
    have sz138 : h0.size ≤ b138 := Nat.le_trans (Nat.le_trans (Nat.le_trans (Nat.le_trans (Nat.le_trans (Nat.le_trans (Nat.le_refl _) E56.1) (Nat.le_of_eq W60.size.symm)) (Nat.le_of_eq W64.size.symm)) (Nat.le_of_eq W68.size.symm)) (Nat.le_of_eq W72.size.symm)) (Nat.le_of_eq gb138.symm)
    have ng138 : n0 ≤ b138 := Nat.le_trans Z0 sz138
    rw [← gb138] at A138 st138
    have V138 : Arv Z h138 b138 k138 .double (6 : Int32) [(.double (0 : UInt64)), (.double (0 : UInt64)), (.double (0 : UInt64)), (.double (0 : UInt64)), (.double (0 : UInt64)), (.double (0 : UInt64))] (.double (0 : UInt64)) := (Arv.new A138 (by decide)).pad (pad_rep [] (.double (0 : UInt64)) 6)
    have g139 : Goes p e below S0 (T138.setTop (mkF m 41 #[iv i0, iv i1, iv i2, iv i3, .val (.long i4), .second, rv b56, iv (2 : Int32), iv (3 : Int32), .unset, .unset, .unset, .unset] [(.ref b138)])) := fun t k => g137 t (st138 t k)
    have g140 : Goes p e below S0 (T138.setTop (mkF m 48 #[iv i0, iv i1, iv i2, iv i3, .val (.long i4), .second, rv b56, iv (2 : Int32), iv (3 : Int32), rv b138, .unset, .unset, .unset] [(.int i3), (.int (0 : Int32)), (.int (0 : Int32)), (.ref b138)])) := fun t k => g139 t (by
      refine XS.astore X138.here hx rfl (hb hby at_41) rfl rfl (l' := #[iv i0, iv i1, iv i2, iv i3, .val (.long i4), .second, rv b56, iv (2 : Int32), iv (3 : Int32), rv b138, .unset, .unset, .unset]) rfl ?_
      show Go p e below t T138 m 43 #[iv i0, iv i1, iv i2, iv i3, .val (.long i4), .second, rv b56, iv (2 : Int32), iv (3 : Int32), rv b138, .unset, .unset, .unset] []
      refine XS.aload X138.here hx rfl (hb hby at_43) rfl rfl ?_
      show Go p e below t T138 m 45 #[iv i0, iv i1, iv i2, iv i3, .val (.long i4), .second, rv b56, iv (2 : Int32), iv (3 : Int32), rv b138, .unset, .unset, .unset] [(.ref b138)]
      refine XT.iconstV X138.here hx rfl (0 : Int32) (hb hby at_45) (by decide) ?_
      show Go p e below t T138 m 46 #[iv i0, iv i1, iv i2, iv i3, .val (.long i4), .second, rv b56, iv (2 : Int32), iv (3 : Int32), rv b138, .unset, .unset, .unset] [(.int (0 : Int32)), (.ref b138)]
      refine XT.iconstV X138.here hx rfl (0 : Int32) (hb hby at_46) (by decide) ?_
      show Go p e below t T138 m 47 #[iv i0, iv i1, iv i2, iv i3, .val (.long i4), .second, rv b56, iv (2 : Int32), iv (3 : Int32), rv b138, .unset, .unset, .unset] [(.int (0 : Int32)), (.int (0 : Int32)), (.ref b138)]
      refine XS.iloadN X138.here hx rfl (hb hby at_47) rfl ?_
      show Go p e below t T138 m 48 #[iv i0, iv i1, iv i2, iv i3, .val (.long i4), .second, rv b56, iv (2 : Int32), iv (3 : Int32), rv b138, .unset, .unset, .unset] [(.int i3), (.int (0 : Int32)), (.int (0 : Int32)), (.ref b138)]
      exact k)
    obtain ⟨_, _, ⟨T141, L141, k141, n141⟩, -, X141, ⟨Lc141, hQ141, l141, y141, z141⟩, st141⟩ := Jvm.LawKit.callS X138 hx (y := (⟨"com/example/borrowed_prior/borrowedprior/model/TopicModelTopicTermPinLaw", "val", "(II)D"⟩ : MethodName)) hown (mvT hZ (hw _ (List.mem_of_getElem? (i := 2) rfl))) (mvT hZ (hw _ (List.mem_of_getElem? (i := 3) rfl))) (mvT hZ (hw _ (List.mem_of_getElem? (i := 4) rfl))) (mvT hZ (hw _ (List.mem_of_getElem? (i := 5) rfl))) (by decide) (backOf (W := 2) (rm_val l Z a0 hw [] (0 : Int32) i3  h138 n0 (Nat.le_trans Z0 (Nat.le_trans (Nat.le_trans (Nat.le_trans (Nat.le_trans (Nat.le_trans (Nat.le_trans (Nat.le_refl _) E56.1) (Nat.le_of_eq W60.size.symm)) (Nat.le_of_eq W64.size.symm)) (Nat.le_of_eq W68.size.symm)) (Nat.le_of_eq W72.size.symm)) E138.1)) ) hZ (hw _ (List.mem_of_getElem? (i := 5) rfl)) (hw _ (List.mem_of_getElem? (i := 4) rfl)) (by decide) (by decide)) (g := (mkF m 48 #[iv i0, iv i1, iv i2, iv i3, .val (.long i4), .second, rv b56, iv (2 : Int32), iv (3 : Int32), rv b138, .unset, .unset, .unset] [(.int i3), (.int (0 : Int32)), (.int (0 : Int32)), (.ref b138)])) rfl (by rw [hml]; rfl) (argsL := [(.int (0 : Int32)), (.int i3)]) (rest := [(.int (0 : Int32)), (.ref b138)]) (lenOf pd0 rfl) rfl (by show 2 * 0 + _ ≤ _; exact Nat.le_of_eq rfl) (hb hby at_48) (fun _ _ => ⟨rfl, e138, (by decide : 2 + 0 ≤ _), (by decide : 10 + 0 ≤ _)⟩)
    dsimp only [Pt.U, Pt.locs, Pt.cells, Pt.slots] at X141 l141 y141 z141 st141 hQ141
    subst l141 y141 z141
    obtain ⟨rfl, N141, e141⟩ := hQ141
    have M141 := Fr.app N72 N141
    have g142 : Goes p e below S0 (T141.setTop (mkF m 51 #[iv i0, iv i1, iv i2, iv i3, .val (.long i4), .second, rv b56, iv (2 : Int32), iv (3 : Int32), rv b138, .unset, .unset, .unset] [(.double (f_val (0 : Int32) i3)), (.int (0 : Int32)), (.ref b138)])) := fun t k => g140 t (st141 t k)
    obtain ⟨cl143, Ar143, q143, S143, M143, H143, G143⟩ := id V138
    obtain ⟨T144, h144, X144, e144, W144, st144⟩ := stD X141 hx hZ e141 Ar143 (j := (0 : Int32)) (inb_of S143 ⟨by decide, by decide⟩) (g := (mkF m 51 #[iv i0, iv i1, iv i2, iv i3, .val (.long i4), .second, rv b56, iv (2 : Int32), iv (3 : Int32), rv b138, .unset, .unset, .unset] [(.double (f_val (0 : Int32) i3)), (.int (0 : Int32)), (.ref b138)])) rfl rfl (hb hby at_51)
    have N144 := Fr.snoc X144 M141 ng138
    have V144 : Arv Z h144 b138 k138 .double (6 : Int32) [(.double (f_val (0 : Int32) i3)), (.double (0 : UInt64)), (.double (0 : UInt64)), (.double (0 : UInt64)), (.double (0 : UInt64)), (.double (0 : UInt64))] (.double (0 : UInt64)) := Arv.set Ar143 q143 S143 M143 H143 G143 rfl W144 0 rfl (Nat.le_of_ble_eq_true rfl)
    have g145 : Goes p e below S0 (T144.setTop (mkF m 52 #[iv i0, iv i1, iv i2, iv i3, .val (.long i4), .second, rv b56, iv (2 : Int32), iv (3 : Int32), rv b138, .unset, .unset, .unset] [])) := fun t k => g142 t (st144 t k)
    have g146 : Goes p e below S0 (T144.setTop (mkF m 57 #[iv i0, iv i1, iv i2, iv i3, .val (.long i4), .second, rv b56, iv (2 : Int32), iv (3 : Int32), rv b138, .unset, .unset, .unset] [(.int i3), (.int (1 : Int32)), (.int (1 : Int32)), (.ref b138)])) := fun t k => g145 t (by
      refine XS.aload X144.here hx rfl (hb hby at_52) rfl rfl ?_
      show Go p e below t T144 m 54 #[iv i0, iv i1, iv i2, iv i3, .val (.long i4), .second, rv b56, iv (2 : Int32), iv (3 : Int32), rv b138, .unset, .unset, .unset] [(.ref b138)]
      refine XT.iconstV X144.here hx rfl (1 : Int32) (hb hby at_54) (by decide) ?_
      show Go p e below t T144 m 55 #[iv i0, iv i1, iv i2, iv i3, .val (.long i4), .second, rv b56, iv (2 : Int32), iv (3 : Int32), rv b138, .unset, .unset, .unset] [(.int (1 : Int32)), (.ref b138)]
      refine XT.iconstV X144.here hx rfl (1 : Int32) (hb hby at_55) (by decide) ?_
      show Go p e below t T144 m 56 #[iv i0, iv i1, iv i2, iv i3, .val (.long i4), .second, rv b56, iv (2 : Int32), iv (3 : Int32), rv b138, .unset, .unset, .unset] [(.int (1 : Int32)), (.int (1 : Int32)), (.ref b138)]
      refine XS.iloadN X144.here hx rfl (hb hby at_56) rfl ?_
      show Go p e below t T144 m 57 #[iv i0, iv i1, iv i2, iv i3, .val (.long i4), .second, rv b56, iv (2 : Int32), iv (3 : Int32), rv b138, .unset, .unset, .unset] [(.int i3), (.int (1 : Int32)), (.int (1 : Int32)), (.ref b138)]
      exact k)
    obtain ⟨_, _, ⟨T147, L147, k147, n147⟩, -, X147, ⟨Lc147, hQ147, l147, y147, z147⟩, st147⟩ := Jvm.LawKit.callS X144 hx (y := (⟨"com/example/borrowed_prior/borrowedprior/model/TopicModelTopicTermPinLaw", "val", "(II)D"⟩ : MethodName)) hown (mvT hZ (hw _ (List.mem_of_getElem? (i := 2) rfl))) (mvT hZ (hw _ (List.mem_of_getElem? (i := 3) rfl))) (mvT hZ (hw _ (List.mem_of_getElem? (i := 4) rfl))) (mvT hZ (hw _ (List.mem_of_getElem? (i := 5) rfl))) (by decide) (backOf (W := 2) (rm_val l Z a0 hw [] (1 : Int32) i3  h144 n0 (Nat.le_trans Z0 (Nat.le_trans (Nat.le_trans (Nat.le_trans (Nat.le_trans (Nat.le_trans (Nat.le_trans (Nat.le_trans (Nat.le_refl _) E56.1) (Nat.le_of_eq W60.size.symm)) (Nat.le_of_eq W64.size.symm)) (Nat.le_of_eq W68.size.symm)) (Nat.le_of_eq W72.size.symm)) E138.1) (Nat.le_of_eq W144.size.symm))) ) hZ (hw _ (List.mem_of_getElem? (i := 5) rfl)) (hw _ (List.mem_of_getElem? (i := 4) rfl)) (by decide) (by decide)) (g := (mkF m 57 #[iv i0, iv i1, iv i2, iv i3, .val (.long i4), .second, rv b56, iv (2 : Int32), iv (3 : Int32), rv b138, .unset, .unset, .unset] [(.int i3), (.int (1 : Int32)), (.int (1 : Int32)), (.ref b138)])) rfl (by rw [hml]; rfl) (argsL := [(.int (1 : Int32)), (.int i3)]) (rest := [(.int (1 : Int32)), (.ref b138)]) (lenOf pd0 rfl) rfl (by show 2 * 0 + _ ≤ _; exact Nat.le_of_eq rfl) (hb hby at_57) (fun _ _ => ⟨rfl, e144, (by decide : 2 + 0 ≤ _), (by decide : 10 + 0 ≤ _)⟩)
    dsimp only [Pt.U, Pt.locs, Pt.cells, Pt.slots] at X147 l147 y147 z147 st147 hQ147
    subst l147 y147 z147
    obtain ⟨rfl, N147, e147⟩ := hQ147
    have M147 := Fr.app N144 N147
    have g148 : Goes p e below S0 (T147.setTop (mkF m 60 #[iv i0, iv i1, iv i2, iv i3, .val (.long i4), .second, rv b56, iv (2 : Int32), iv (3 : Int32), rv b138, .unset, .unset, .unset] [(.double (f_val (1 : Int32) i3)), (.int (1 : Int32)), (.ref b138)])) := fun t k => g146 t (st147 t k)
    obtain ⟨cl149, Ar149, q149, S149, M149, H149, G149⟩ := id V144
    obtain ⟨T150, h150, X150, e150, W150, st150⟩ := stD X147 hx hZ e147 Ar149 (j := (1 : Int32)) (inb_of S149 ⟨by decide, by decide⟩) (g := (mkF m 60 #[iv i0, iv i1, iv i2, iv i3, .val (.long i4), .second, rv b56, iv (2 : Int32), iv (3 : Int32), rv b138, .unset, .unset, .unset] [(.double (f_val (1 : Int32) i3)), (.int (1 : Int32)), (.ref b138)])) rfl rfl (hb hby at_60)
    have N150 := Fr.snoc X150 M147 ng138
    have V150 : Arv Z h150 b138 k138 .double (6 : Int32) [(.double (f_val (0 : Int32) i3)), (.double (f_val (1 : Int32) i3)), (.double (0 : UInt64)), (.double (0 : UInt64)), (.double (0 : UInt64)), (.double (0 : UInt64))] (.double (0 : UInt64)) := Arv.set Ar149 q149 S149 M149 H149 G149 rfl W150 1 rfl (Nat.le_of_ble_eq_true rfl)
    have g151 : Goes p e below S0 (T150.setTop (mkF m 61 #[iv i0, iv i1, iv i2, iv i3, .val (.long i4), .second, rv b56, iv (2 : Int32), iv (3 : Int32), rv b138, .unset, .unset, .unset] [])) := fun t k => g148 t (st150 t k)
    have g152 : Goes p e below S0 (T150.setTop (mkF m 66 #[iv i0, iv i1, iv i2, iv i3, .val (.long i4), .second, rv b56, iv (2 : Int32), iv (3 : Int32), rv b138, .unset, .unset, .unset] [(.int i3), (.int (2 : Int32)), (.int (2 : Int32)), (.ref b138)])) := fun t k => g151 t (by
      refine XS.aload X150.here hx rfl (hb hby at_61) rfl rfl ?_
      show Go p e below t T150 m 63 #[iv i0, iv i1, iv i2, iv i3, .val (.long i4), .second, rv b56, iv (2 : Int32), iv (3 : Int32), rv b138, .unset, .unset, .unset] [(.ref b138)]
      refine XT.iconstV X150.here hx rfl (2 : Int32) (hb hby at_63) (by decide) ?_
      show Go p e below t T150 m 64 #[iv i0, iv i1, iv i2, iv i3, .val (.long i4), .second, rv b56, iv (2 : Int32), iv (3 : Int32), rv b138, .unset, .unset, .unset] [(.int (2 : Int32)), (.ref b138)]
      refine XT.iconstV X150.here hx rfl (2 : Int32) (hb hby at_64) (by decide) ?_
      show Go p e below t T150 m 65 #[iv i0, iv i1, iv i2, iv i3, .val (.long i4), .second, rv b56, iv (2 : Int32), iv (3 : Int32), rv b138, .unset, .unset, .unset] [(.int (2 : Int32)), (.int (2 : Int32)), (.ref b138)]
      refine XS.iloadN X150.here hx rfl (hb hby at_65) rfl ?_
      show Go p e below t T150 m 66 #[iv i0, iv i1, iv i2, iv i3, .val (.long i4), .second, rv b56, iv (2 : Int32), iv (3 : Int32), rv b138, .unset, .unset, .unset] [(.int i3), (.int (2 : Int32)), (.int (2 : Int32)), (.ref b138)]
      exact k)
    obtain ⟨_, _, ⟨T153, L153, k153, n153⟩, -, X153, ⟨Lc153, hQ153, l153, y153, z153⟩, st153⟩ := Jvm.LawKit.callS X150 hx (y := (⟨"com/example/borrowed_prior/borrowedprior/model/TopicModelTopicTermPinLaw", "val", "(II)D"⟩ : MethodName)) hown (mvT hZ (hw _ (List.mem_of_getElem? (i := 2) rfl))) (mvT hZ (hw _ (List.mem_of_getElem? (i := 3) rfl))) (mvT hZ (hw _ (List.mem_of_getElem? (i := 4) rfl))) (mvT hZ (hw _ (List.mem_of_getElem? (i := 5) rfl))) (by decide) (backOf (W := 2) (rm_val l Z a0 hw [] (2 : Int32) i3  h150 n0 (Nat.le_trans Z0 (Nat.le_trans (Nat.le_trans (Nat.le_trans (Nat.le_trans (Nat.le_trans (Nat.le_trans (Nat.le_trans (Nat.le_trans (Nat.le_refl _) E56.1) (Nat.le_of_eq W60.size.symm)) (Nat.le_of_eq W64.size.symm)) (Nat.le_of_eq W68.size.symm)) (Nat.le_of_eq W72.size.symm)) E138.1) (Nat.le_of_eq W144.size.symm)) (Nat.le_of_eq W150.size.symm))) ) hZ (hw _ (List.mem_of_getElem? (i := 5) rfl)) (hw _ (List.mem_of_getElem? (i := 4) rfl)) (by decide) (by decide)) (g := (mkF m 66 #[iv i0, iv i1, iv i2, iv i3, .val (.long i4), .second, rv b56, iv (2 : Int32), iv (3 : Int32), rv b138, .unset, .unset, .unset] [(.int i3), (.int (2 : Int32)), (.int (2 : Int32)), (.ref b138)])) rfl (by rw [hml]; rfl) (argsL := [(.int (2 : Int32)), (.int i3)]) (rest := [(.int (2 : Int32)), (.ref b138)]) (lenOf pd0 rfl) rfl (by show 2 * 0 + _ ≤ _; exact Nat.le_of_eq rfl) (hb hby at_66) (fun _ _ => ⟨rfl, e150, (by decide : 2 + 0 ≤ _), (by decide : 10 + 0 ≤ _)⟩)
    dsimp only [Pt.U, Pt.locs, Pt.cells, Pt.slots] at X153 l153 y153 z153 st153 hQ153
    subst l153 y153 z153
    obtain ⟨rfl, N153, e153⟩ := hQ153
    have M153 := Fr.app N150 N153
    have g154 : Goes p e below S0 (T153.setTop (mkF m 69 #[iv i0, iv i1, iv i2, iv i3, .val (.long i4), .second, rv b56, iv (2 : Int32), iv (3 : Int32), rv b138, .unset, .unset, .unset] [(.double (f_val (2 : Int32) i3)), (.int (2 : Int32)), (.ref b138)])) := fun t k => g152 t (st153 t k)
    obtain ⟨cl155, Ar155, q155, S155, M155, H155, G155⟩ := id V150
    obtain ⟨T156, h156, X156, e156, W156, st156⟩ := stD X153 hx hZ e153 Ar155 (j := (2 : Int32)) (inb_of S155 ⟨by decide, by decide⟩) (g := (mkF m 69 #[iv i0, iv i1, iv i2, iv i3, .val (.long i4), .second, rv b56, iv (2 : Int32), iv (3 : Int32), rv b138, .unset, .unset, .unset] [(.double (f_val (2 : Int32) i3)), (.int (2 : Int32)), (.ref b138)])) rfl rfl (hb hby at_69)
    have N156 := Fr.snoc X156 M153 ng138
    have V156 : Arv Z h156 b138 k138 .double (6 : Int32) [(.double (f_val (0 : Int32) i3)), (.double (f_val (1 : Int32) i3)), (.double (f_val (2 : Int32) i3)), (.double (0 : UInt64)), (.double (0 : UInt64)), (.double (0 : UInt64))] (.double (0 : UInt64)) := Arv.set Ar155 q155 S155 M155 H155 G155 rfl W156 2 rfl (Nat.le_of_ble_eq_true rfl)
    have g157 : Goes p e below S0 (T156.setTop (mkF m 70 #[iv i0, iv i1, iv i2, iv i3, .val (.long i4), .second, rv b56, iv (2 : Int32), iv (3 : Int32), rv b138, .unset, .unset, .unset] [])) := fun t k => g154 t (st156 t k)
    have g158 : Goes p e below S0 (T156.setTop (mkF m 75 #[iv i0, iv i1, iv i2, iv i3, .val (.long i4), .second, rv b56, iv (2 : Int32), iv (3 : Int32), rv b138, .unset, .unset, .unset] [(.int i3), (.int (3 : Int32)), (.int (3 : Int32)), (.ref b138)])) := fun t k => g157 t (by
      refine XS.aload X156.here hx rfl (hb hby at_70) rfl rfl ?_
      show Go p e below t T156 m 72 #[iv i0, iv i1, iv i2, iv i3, .val (.long i4), .second, rv b56, iv (2 : Int32), iv (3 : Int32), rv b138, .unset, .unset, .unset] [(.ref b138)]
      refine XT.iconstV X156.here hx rfl (3 : Int32) (hb hby at_72) (by decide) ?_
      show Go p e below t T156 m 73 #[iv i0, iv i1, iv i2, iv i3, .val (.long i4), .second, rv b56, iv (2 : Int32), iv (3 : Int32), rv b138, .unset, .unset, .unset] [(.int (3 : Int32)), (.ref b138)]
      refine XT.iconstV X156.here hx rfl (3 : Int32) (hb hby at_73) (by decide) ?_
      show Go p e below t T156 m 74 #[iv i0, iv i1, iv i2, iv i3, .val (.long i4), .second, rv b56, iv (2 : Int32), iv (3 : Int32), rv b138, .unset, .unset, .unset] [(.int (3 : Int32)), (.int (3 : Int32)), (.ref b138)]
      refine XS.iloadN X156.here hx rfl (hb hby at_74) rfl ?_
      show Go p e below t T156 m 75 #[iv i0, iv i1, iv i2, iv i3, .val (.long i4), .second, rv b56, iv (2 : Int32), iv (3 : Int32), rv b138, .unset, .unset, .unset] [(.int i3), (.int (3 : Int32)), (.int (3 : Int32)), (.ref b138)]
      exact k)
    obtain ⟨_, _, ⟨T159, L159, k159, n159⟩, -, X159, ⟨Lc159, hQ159, l159, y159, z159⟩, st159⟩ := Jvm.LawKit.callS X156 hx (y := (⟨"com/example/borrowed_prior/borrowedprior/model/TopicModelTopicTermPinLaw", "val", "(II)D"⟩ : MethodName)) hown (mvT hZ (hw _ (List.mem_of_getElem? (i := 2) rfl))) (mvT hZ (hw _ (List.mem_of_getElem? (i := 3) rfl))) (mvT hZ (hw _ (List.mem_of_getElem? (i := 4) rfl))) (mvT hZ (hw _ (List.mem_of_getElem? (i := 5) rfl))) (by decide) (backOf (W := 2) (rm_val l Z a0 hw [] (3 : Int32) i3  h156 n0 (Nat.le_trans Z0 (Nat.le_trans (Nat.le_trans (Nat.le_trans (Nat.le_trans (Nat.le_trans (Nat.le_trans (Nat.le_trans (Nat.le_trans (Nat.le_trans (Nat.le_refl _) E56.1) (Nat.le_of_eq W60.size.symm)) (Nat.le_of_eq W64.size.symm)) (Nat.le_of_eq W68.size.symm)) (Nat.le_of_eq W72.size.symm)) E138.1) (Nat.le_of_eq W144.size.symm)) (Nat.le_of_eq W150.size.symm)) (Nat.le_of_eq W156.size.symm))) ) hZ (hw _ (List.mem_of_getElem? (i := 5) rfl)) (hw _ (List.mem_of_getElem? (i := 4) rfl)) (by decide) (by decide)) (g := (mkF m 75 #[iv i0, iv i1, iv i2, iv i3, .val (.long i4), .second, rv b56, iv (2 : Int32), iv (3 : Int32), rv b138, .unset, .unset, .unset] [(.int i3), (.int (3 : Int32)), (.int (3 : Int32)), (.ref b138)])) rfl (by rw [hml]; rfl) (argsL := [(.int (3 : Int32)), (.int i3)]) (rest := [(.int (3 : Int32)), (.ref b138)]) (lenOf pd0 rfl) rfl (by show 2 * 0 + _ ≤ _; exact Nat.le_of_eq rfl) (hb hby at_75) (fun _ _ => ⟨rfl, e156, (by decide : 2 + 0 ≤ _), (by decide : 10 + 0 ≤ _)⟩)
    dsimp only [Pt.U, Pt.locs, Pt.cells, Pt.slots] at X159 l159 y159 z159 st159 hQ159
    subst l159 y159 z159
    obtain ⟨rfl, N159, e159⟩ := hQ159
    have M159 := Fr.app N156 N159
    have g160 : Goes p e below S0 (T159.setTop (mkF m 78 #[iv i0, iv i1, iv i2, iv i3, .val (.long i4), .second, rv b56, iv (2 : Int32), iv (3 : Int32), rv b138, .unset, .unset, .unset] [(.double (f_val (3 : Int32) i3)), (.int (3 : Int32)), (.ref b138)])) := fun t k => g158 t (st159 t k)
    obtain ⟨cl161, Ar161, q161, S161, M161, H161, G161⟩ := id V156
    obtain ⟨T162, h162, X162, e162, W162, st162⟩ := stD X159 hx hZ e159 Ar161 (j := (3 : Int32)) (inb_of S161 ⟨by decide, by decide⟩) (g := (mkF m 78 #[iv i0, iv i1, iv i2, iv i3, .val (.long i4), .second, rv b56, iv (2 : Int32), iv (3 : Int32), rv b138, .unset, .unset, .unset] [(.double (f_val (3 : Int32) i3)), (.int (3 : Int32)), (.ref b138)])) rfl rfl (hb hby at_78)
    have N162 := Fr.snoc X162 M159 ng138
    have V162 : Arv Z h162 b138 k138 .double (6 : Int32) [(.double (f_val (0 : Int32) i3)), (.double (f_val (1 : Int32) i3)), (.double (f_val (2 : Int32) i3)), (.double (f_val (3 : Int32) i3)), (.double (0 : UInt64)), (.double (0 : UInt64))] (.double (0 : UInt64)) := Arv.set Ar161 q161 S161 M161 H161 G161 rfl W162 3 rfl (Nat.le_of_ble_eq_true rfl)
    have g163 : Goes p e below S0 (T162.setTop (mkF m 79 #[iv i0, iv i1, iv i2, iv i3, .val (.long i4), .second, rv b56, iv (2 : Int32), iv (3 : Int32), rv b138, .unset, .unset, .unset] [])) := fun t k => g160 t (st162 t k)
    have g164 : Goes p e below S0 (T162.setTop (mkF m 84 #[iv i0, iv i1, iv i2, iv i3, .val (.long i4), .second, rv b56, iv (2 : Int32), iv (3 : Int32), rv b138, .unset, .unset, .unset] [(.int i3), (.int (4 : Int32)), (.int (4 : Int32)), (.ref b138)])) := fun t k => g163 t (by
      refine XS.aload X162.here hx rfl (hb hby at_79) rfl rfl ?_
      show Go p e below t T162 m 81 #[iv i0, iv i1, iv i2, iv i3, .val (.long i4), .second, rv b56, iv (2 : Int32), iv (3 : Int32), rv b138, .unset, .unset, .unset] [(.ref b138)]
      refine XT.iconstV X162.here hx rfl (4 : Int32) (hb hby at_81) (by decide) ?_
      show Go p e below t T162 m 82 #[iv i0, iv i1, iv i2, iv i3, .val (.long i4), .second, rv b56, iv (2 : Int32), iv (3 : Int32), rv b138, .unset, .unset, .unset] [(.int (4 : Int32)), (.ref b138)]
      refine XT.iconstV X162.here hx rfl (4 : Int32) (hb hby at_82) (by decide) ?_
      show Go p e below t T162 m 83 #[iv i0, iv i1, iv i2, iv i3, .val (.long i4), .second, rv b56, iv (2 : Int32), iv (3 : Int32), rv b138, .unset, .unset, .unset] [(.int (4 : Int32)), (.int (4 : Int32)), (.ref b138)]
      refine XS.iloadN X162.here hx rfl (hb hby at_83) rfl ?_
      show Go p e below t T162 m 84 #[iv i0, iv i1, iv i2, iv i3, .val (.long i4), .second, rv b56, iv (2 : Int32), iv (3 : Int32), rv b138, .unset, .unset, .unset] [(.int i3), (.int (4 : Int32)), (.int (4 : Int32)), (.ref b138)]
      exact k)
    obtain ⟨_, _, ⟨T165, L165, k165, n165⟩, -, X165, ⟨Lc165, hQ165, l165, y165, z165⟩, st165⟩ := Jvm.LawKit.callS X162 hx (y := (⟨"com/example/borrowed_prior/borrowedprior/model/TopicModelTopicTermPinLaw", "val", "(II)D"⟩ : MethodName)) hown (mvT hZ (hw _ (List.mem_of_getElem? (i := 2) rfl))) (mvT hZ (hw _ (List.mem_of_getElem? (i := 3) rfl))) (mvT hZ (hw _ (List.mem_of_getElem? (i := 4) rfl))) (mvT hZ (hw _ (List.mem_of_getElem? (i := 5) rfl))) (by decide) (backOf (W := 2) (rm_val l Z a0 hw [] (4 : Int32) i3  h162 n0 (Nat.le_trans Z0 (Nat.le_trans (Nat.le_trans (Nat.le_trans (Nat.le_trans (Nat.le_trans (Nat.le_trans (Nat.le_trans (Nat.le_trans (Nat.le_trans (Nat.le_trans (Nat.le_refl _) E56.1) (Nat.le_of_eq W60.size.symm)) (Nat.le_of_eq W64.size.symm)) (Nat.le_of_eq W68.size.symm)) (Nat.le_of_eq W72.size.symm)) E138.1) (Nat.le_of_eq W144.size.symm)) (Nat.le_of_eq W150.size.symm)) (Nat.le_of_eq W156.size.symm)) (Nat.le_of_eq W162.size.symm))) ) hZ (hw _ (List.mem_of_getElem? (i := 5) rfl)) (hw _ (List.mem_of_getElem? (i := 4) rfl)) (by decide) (by decide)) (g := (mkF m 84 #[iv i0, iv i1, iv i2, iv i3, .val (.long i4), .second, rv b56, iv (2 : Int32), iv (3 : Int32), rv b138, .unset, .unset, .unset] [(.int i3), (.int (4 : Int32)), (.int (4 : Int32)), (.ref b138)])) rfl (by rw [hml]; rfl) (argsL := [(.int (4 : Int32)), (.int i3)]) (rest := [(.int (4 : Int32)), (.ref b138)]) (lenOf pd0 rfl) rfl (by show 2 * 0 + _ ≤ _; exact Nat.le_of_eq rfl) (hb hby at_84) (fun _ _ => ⟨rfl, e162, (by decide : 2 + 0 ≤ _), (by decide : 10 + 0 ≤ _)⟩)
    dsimp only [Pt.U, Pt.locs, Pt.cells, Pt.slots] at X165 l165 y165 z165 st165 hQ165
    subst l165 y165 z165
    obtain ⟨rfl, N165, e165⟩ := hQ165
    have M165 := Fr.app N162 N165
    have g166 : Goes p e below S0 (T165.setTop (mkF m 87 #[iv i0, iv i1, iv i2, iv i3, .val (.long i4), .second, rv b56, iv (2 : Int32), iv (3 : Int32), rv b138, .unset, .unset, .unset] [(.double (f_val (4 : Int32) i3)), (.int (4 : Int32)), (.ref b138)])) := fun t k => g164 t (st165 t k)
    obtain ⟨cl167, Ar167, q167, S167, M167, H167, G167⟩ := id V162
    obtain ⟨T168, h168, X168, e168, W168, st168⟩ := stD X165 hx hZ e165 Ar167 (j := (4 : Int32)) (inb_of S167 ⟨by decide, by decide⟩) (g := (mkF m 87 #[iv i0, iv i1, iv i2, iv i3, .val (.long i4), .second, rv b56, iv (2 : Int32), iv (3 : Int32), rv b138, .unset, .unset, .unset] [(.double (f_val (4 : Int32) i3)), (.int (4 : Int32)), (.ref b138)])) rfl rfl (hb hby at_87)
    have N168 := Fr.snoc X168 M165 ng138
    have V168 : Arv Z h168 b138 k138 .double (6 : Int32) [(.double (f_val (0 : Int32) i3)), (.double (f_val (1 : Int32) i3)), (.double (f_val (2 : Int32) i3)), (.double (f_val (3 : Int32) i3)), (.double (f_val (4 : Int32) i3)), (.double (0 : UInt64))] (.double (0 : UInt64)) := Arv.set Ar167 q167 S167 M167 H167 G167 rfl W168 4 rfl (Nat.le_of_ble_eq_true rfl)
    have g169 : Goes p e below S0 (T168.setTop (mkF m 88 #[iv i0, iv i1, iv i2, iv i3, .val (.long i4), .second, rv b56, iv (2 : Int32), iv (3 : Int32), rv b138, .unset, .unset, .unset] [])) := fun t k => g166 t (st168 t k)
    have g170 : Goes p e below S0 (T168.setTop (mkF m 93 #[iv i0, iv i1, iv i2, iv i3, .val (.long i4), .second, rv b56, iv (2 : Int32), iv (3 : Int32), rv b138, .unset, .unset, .unset] [(.int i3), (.int (5 : Int32)), (.int (5 : Int32)), (.ref b138)])) := fun t k => g169 t (by
      refine XS.aload X168.here hx rfl (hb hby at_88) rfl rfl ?_
      show Go p e below t T168 m 90 #[iv i0, iv i1, iv i2, iv i3, .val (.long i4), .second, rv b56, iv (2 : Int32), iv (3 : Int32), rv b138, .unset, .unset, .unset] [(.ref b138)]
      refine XT.iconstV X168.here hx rfl (5 : Int32) (hb hby at_90) (by decide) ?_
      show Go p e below t T168 m 91 #[iv i0, iv i1, iv i2, iv i3, .val (.long i4), .second, rv b56, iv (2 : Int32), iv (3 : Int32), rv b138, .unset, .unset, .unset] [(.int (5 : Int32)), (.ref b138)]
      refine XT.iconstV X168.here hx rfl (5 : Int32) (hb hby at_91) (by decide) ?_
      show Go p e below t T168 m 92 #[iv i0, iv i1, iv i2, iv i3, .val (.long i4), .second, rv b56, iv (2 : Int32), iv (3 : Int32), rv b138, .unset, .unset, .unset] [(.int (5 : Int32)), (.int (5 : Int32)), (.ref b138)]
      refine XS.iloadN X168.here hx rfl (hb hby at_92) rfl ?_
      show Go p e below t T168 m 93 #[iv i0, iv i1, iv i2, iv i3, .val (.long i4), .second, rv b56, iv (2 : Int32), iv (3 : Int32), rv b138, .unset, .unset, .unset] [(.int i3), (.int (5 : Int32)), (.int (5 : Int32)), (.ref b138)]
      exact k)
    obtain ⟨_, _, ⟨T171, L171, k171, n171⟩, -, X171, ⟨Lc171, hQ171, l171, y171, z171⟩, st171⟩ := Jvm.LawKit.callS X168 hx (y := (⟨"com/example/borrowed_prior/borrowedprior/model/TopicModelTopicTermPinLaw", "val", "(II)D"⟩ : MethodName)) hown (mvT hZ (hw _ (List.mem_of_getElem? (i := 2) rfl))) (mvT hZ (hw _ (List.mem_of_getElem? (i := 3) rfl))) (mvT hZ (hw _ (List.mem_of_getElem? (i := 4) rfl))) (mvT hZ (hw _ (List.mem_of_getElem? (i := 5) rfl))) (by decide) (backOf (W := 2) (rm_val l Z a0 hw [] (5 : Int32) i3  h168 n0 (Nat.le_trans Z0 (Nat.le_trans (Nat.le_trans (Nat.le_trans (Nat.le_trans (Nat.le_trans (Nat.le_trans (Nat.le_trans (Nat.le_trans (Nat.le_trans (Nat.le_trans (Nat.le_trans (Nat.le_refl _) E56.1) (Nat.le_of_eq W60.size.symm)) (Nat.le_of_eq W64.size.symm)) (Nat.le_of_eq W68.size.symm)) (Nat.le_of_eq W72.size.symm)) E138.1) (Nat.le_of_eq W144.size.symm)) (Nat.le_of_eq W150.size.symm)) (Nat.le_of_eq W156.size.symm)) (Nat.le_of_eq W162.size.symm)) (Nat.le_of_eq W168.size.symm))) ) hZ (hw _ (List.mem_of_getElem? (i := 5) rfl)) (hw _ (List.mem_of_getElem? (i := 4) rfl)) (by decide) (by decide)) (g := (mkF m 93 #[iv i0, iv i1, iv i2, iv i3, .val (.long i4), .second, rv b56, iv (2 : Int32), iv (3 : Int32), rv b138, .unset, .unset, .unset] [(.int i3), (.int (5 : Int32)), (.int (5 : Int32)), (.ref b138)])) rfl (by rw [hml]; rfl) (argsL := [(.int (5 : Int32)), (.int i3)]) (rest := [(.int (5 : Int32)), (.ref b138)]) (lenOf pd0 rfl) rfl (by show 2 * 0 + _ ≤ _; exact Nat.le_of_eq rfl) (hb hby at_93) (fun _ _ => ⟨rfl, e168, (by decide : 2 + 0 ≤ _), (by decide : 10 + 0 ≤ _)⟩)
    dsimp only [Pt.U, Pt.locs, Pt.cells, Pt.slots] at X171 l171 y171 z171 st171 hQ171
    subst l171 y171 z171
    obtain ⟨rfl, N171, e171⟩ := hQ171
    have M171 := Fr.app N168 N171
    have g172 : Goes p e below S0 (T171.setTop (mkF m 96 #[iv i0, iv i1, iv i2, iv i3, .val (.long i4), .second, rv b56, iv (2 : Int32), iv (3 : Int32), rv b138, .unset, .unset, .unset] [(.double (f_val (5 : Int32) i3)), (.int (5 : Int32)), (.ref b138)])) := fun t k => g170 t (st171 t k)
    obtain ⟨cl173, Ar173, q173, S173, M173, H173, G173⟩ := id V168
    obtain ⟨T174, h174, X174, e174, W174, st174⟩ := stD X171 hx hZ e171 Ar173 (j := (5 : Int32)) (inb_of S173 ⟨by decide, by decide⟩) (g := (mkF m 96 #[iv i0, iv i1, iv i2, iv i3, .val (.long i4), .second, rv b56, iv (2 : Int32), iv (3 : Int32), rv b138, .unset, .unset, .unset] [(.double (f_val (5 : Int32) i3)), (.int (5 : Int32)), (.ref b138)])) rfl rfl (hb hby at_96)
    have N174 := Fr.snoc X174 M171 ng138
    have V174 : Arv Z h174 b138 k138 .double (6 : Int32) [(.double (f_val (0 : Int32) i3)), (.double (f_val (1 : Int32) i3)), (.double (f_val (2 : Int32) i3)), (.double (f_val (3 : Int32) i3)), (.double (f_val (4 : Int32) i3)), (.double (f_val (5 : Int32) i3))] (.double (0 : UInt64)) := Arv.set Ar173 q173 S173 M173 H173 G173 rfl W174 5 rfl (Nat.le_of_ble_eq_true rfl)
    have g175 : Goes p e below S0 (T174.setTop (mkF m 97 #[iv i0, iv i1, iv i2, iv i3, .val (.long i4), .second, rv b56, iv (2 : Int32), iv (3 : Int32), rv b138, .unset, .unset, .unset] [])) := fun t k => g172 t (st174 t k)
    obtain ⟨T176, h176, X176, e176, E176, A176, D176, -, st176⟩ := newO X174 hx hZ hown (hw _ (List.mem_of_getElem? (i := 7) rfl)) (hw _ (List.mem_of_getElem? (i := 8) rfl)) (hw _ (List.mem_of_getElem? (i := 9) rfl)) e174 (g := (mkF m 97 #[iv i0, iv i1, iv i2, iv i3, .val (.long i4), .second, rv b56, iv (2 : Int32), iv (3 : Int32), rv b138, .unset, .unset, .unset] [])) rfl (hb hby at_97) (by decide) (by decide)
    obtain ⟨b176, gb176⟩ : ∃ z, z = h174.size := ⟨_, rfl⟩
    have sz176 : h0.size ≤ b176 := Nat.le_trans (Nat.le_trans (Nat.le_trans (Nat.le_trans (Nat.le_trans (Nat.le_trans (Nat.le_trans (Nat.le_trans (Nat.le_trans (Nat.le_trans (Nat.le_trans (Nat.le_trans (Nat.le_trans (Nat.le_refl _) E56.1) (Nat.le_of_eq W60.size.symm)) (Nat.le_of_eq W64.size.symm)) (Nat.le_of_eq W68.size.symm)) (Nat.le_of_eq W72.size.symm)) E138.1) (Nat.le_of_eq W144.size.symm)) (Nat.le_of_eq W150.size.symm)) (Nat.le_of_eq W156.size.symm)) (Nat.le_of_eq W162.size.symm)) (Nat.le_of_eq W168.size.symm)) (Nat.le_of_eq W174.size.symm)) (Nat.le_of_eq gb176.symm)
    have ng176 : n0 ≤ b176 := Nat.le_trans Z0 sz176
    rw [← gb176] at A176 D176 st176
    have F176_177 : Fld Z h176 b176 "com/example/borrowed_prior/borrowedprior/model/TopicModel" "topicCount" "I" (.int (0 : Int32)) := D176 (Or.inr (hw _ (List.mem_of_getElem? (i := 21) rfl))) (ty := .int) (by decide)
    have F176_178 : Fld Z h176 b176 "com/example/borrowed_prior/borrowedprior/model/TopicModel" "documentCount" "I" (.int (0 : Int32)) := D176 (Or.inr (hw _ (List.mem_of_getElem? (i := 23) rfl))) (ty := .int) (by decide)
    have F176_179 : Fld Z h176 b176 "com/example/borrowed_prior/borrowedprior/model/TopicModel" "termCount" "I" (.int (0 : Int32)) := D176 (Or.inr (hw _ (List.mem_of_getElem? (i := 25) rfl))) (ty := .int) (by decide)
    have F176_180 : Fld Z h176 b176 "com/example/borrowed_prior/borrowedprior/model/TopicModel" "tokenCount" "J" (.long (0 : Int64)) := D176 (Or.inr (hw _ (List.mem_of_getElem? (i := 27) rfl))) (ty := .long) (by decide)
    have F176_181 : Fld Z h176 b176 "com/example/borrowed_prior/borrowedprior/model/TopicModel" "documentTopics" "[D" .null := D176 (Or.inr (hw _ (List.mem_of_getElem? (i := 29) rfl))) (ty := (.array .double)) (by decide)
    have F176_182 : Fld Z h176 b176 "com/example/borrowed_prior/borrowedprior/model/TopicModel" "termTopics" "[D" .null := D176 (Or.inr (hw _ (List.mem_of_getElem? (i := 31) rfl))) (ty := (.array .double)) (by decide)
    have g183 : Goes p e below S0 (T176.setTop (mkF m 100 #[iv i0, iv i1, iv i2, iv i3, .val (.long i4), .second, rv b56, iv (2 : Int32), iv (3 : Int32), rv b138, .unset, .unset, .unset] [(.ref b176)])) := fun t k => g175 t (st176 t k)
    have g184 : Goes p e below S0 (T176.setTop (mkF m 113 #[iv i0, iv i1, iv i2, iv i3, .val (.long i4), .second, rv b56, iv (2 : Int32), iv (3 : Int32), rv b138, .unset, .unset, .unset] [(.int (0 : Int32)), (.long (i4 &&& (9223372036854775807 : Int64))), (.int (3 : Int32)), (.int (0 : Int32)), (.int (2 : Int32)), (.ref b176), (.ref b176)])) := fun t k => g183 t (by
      refine XS.dup X176.here hx rfl (hb hby at_100) rfl rfl ?_
      show Go p e below t T176 m 101 #[iv i0, iv i1, iv i2, iv i3, .val (.long i4), .second, rv b56, iv (2 : Int32), iv (3 : Int32), rv b138, .unset, .unset, .unset] [(.ref b176), (.ref b176)]
      refine XS.iload X176.here hx rfl (hb hby at_101) rfl ?_
      show Go p e below t T176 m 103 #[iv i0, iv i1, iv i2, iv i3, .val (.long i4), .second, rv b56, iv (2 : Int32), iv (3 : Int32), rv b138, .unset, .unset, .unset] [(.int (2 : Int32)), (.ref b176), (.ref b176)]
      refine XT.iconstV X176.here hx rfl (0 : Int32) (hb hby at_103) (by decide) ?_
      show Go p e below t T176 m 104 #[iv i0, iv i1, iv i2, iv i3, .val (.long i4), .second, rv b56, iv (2 : Int32), iv (3 : Int32), rv b138, .unset, .unset, .unset] [(.int (0 : Int32)), (.int (2 : Int32)), (.ref b176), (.ref b176)]
      refine XS.iload X176.here hx rfl (hb hby at_104) rfl ?_
      show Go p e below t T176 m 106 #[iv i0, iv i1, iv i2, iv i3, .val (.long i4), .second, rv b56, iv (2 : Int32), iv (3 : Int32), rv b138, .unset, .unset, .unset] [(.int (3 : Int32)), (.int (0 : Int32)), (.int (2 : Int32)), (.ref b176), (.ref b176)]
      refine XS.lload X176.here hx rfl (hb hby at_106) rfl ?_
      show Go p e below t T176 m 108 #[iv i0, iv i1, iv i2, iv i3, .val (.long i4), .second, rv b56, iv (2 : Int32), iv (3 : Int32), rv b138, .unset, .unset, .unset] [(.long i4), (.int (3 : Int32)), (.int (0 : Int32)), (.int (2 : Int32)), (.ref b176), (.ref b176)]
      refine Jvm.Stand.ldc2J X176 hx hown (mvT hZ (hw _ (List.mem_of_getElem? (i := 10) rfl))) (g := (mkF m 108 #[iv i0, iv i1, iv i2, iv i3, .val (.long i4), .second, rv b56, iv (2 : Int32), iv (3 : Int32), rv b138, .unset, .unset, .unset] [(.long i4), (.int (3 : Int32)), (.int (0 : Int32)), (.int (2 : Int32)), (.ref b176), (.ref b176)])) rfl (hb hby at_108) ?_
      show Go p e below t T176 m 111 #[iv i0, iv i1, iv i2, iv i3, .val (.long i4), .second, rv b56, iv (2 : Int32), iv (3 : Int32), rv b138, .unset, .unset, .unset] [(.long (9223372036854775807 : Int64)), (.long i4), (.int (3 : Int32)), (.int (0 : Int32)), (.int (2 : Int32)), (.ref b176), (.ref b176)]
      refine XS.land X176.here hx rfl (hb hby at_111) rfl ?_
      show Go p e below t T176 m 112 #[iv i0, iv i1, iv i2, iv i3, .val (.long i4), .second, rv b56, iv (2 : Int32), iv (3 : Int32), rv b138, .unset, .unset, .unset] [(.long (i4 &&& (9223372036854775807 : Int64))), (.int (3 : Int32)), (.int (0 : Int32)), (.int (2 : Int32)), (.ref b176), (.ref b176)]
      refine XT.iconstV X176.here hx rfl (0 : Int32) (hb hby at_112) (by decide) ?_
      show Go p e below t T176 m 113 #[iv i0, iv i1, iv i2, iv i3, .val (.long i4), .second, rv b56, iv (2 : Int32), iv (3 : Int32), rv b138, .unset, .unset, .unset] [(.int (0 : Int32)), (.long (i4 &&& (9223372036854775807 : Int64))), (.int (3 : Int32)), (.int (0 : Int32)), (.int (2 : Int32)), (.ref b176), (.ref b176)]
      exact k)
    obtain ⟨T185, h185, k185, X185, e185, E185, A185, st185⟩ := newP X176 hx hZ (hw _ (List.mem_of_getElem? (i := 1) rfl)) e176 (g := (mkF m 113 #[iv i0, iv i1, iv i2, iv i3, .val (.long i4), .second, rv b56, iv (2 : Int32), iv (3 : Int32), rv b138, .unset, .unset, .unset] [(.int (0 : Int32)), (.long (i4 &&& (9223372036854775807 : Int64))), (.int (3 : Int32)), (.int (0 : Int32)), (.int (2 : Int32)), (.ref b176), (.ref b176)])) rfl (hb hby at_113) rfl (by decide) (cap := 0) (by decide) (by decide) (by decide) (by decide)
    obtain ⟨b185, gb185⟩ : ∃ z, z = h176.size := ⟨_, rfl⟩
    have sz185 : h0.size ≤ b185 := Nat.le_trans (Nat.le_trans (Nat.le_trans (Nat.le_trans (Nat.le_trans (Nat.le_trans (Nat.le_trans (Nat.le_trans (Nat.le_trans (Nat.le_trans (Nat.le_trans (Nat.le_trans (Nat.le_trans (Nat.le_trans (Nat.le_refl _) E56.1) (Nat.le_of_eq W60.size.symm)) (Nat.le_of_eq W64.size.symm)) (Nat.le_of_eq W68.size.symm)) (Nat.le_of_eq W72.size.symm)) E138.1) (Nat.le_of_eq W144.size.symm)) (Nat.le_of_eq W150.size.symm)) (Nat.le_of_eq W156.size.symm)) (Nat.le_of_eq W162.size.symm)) (Nat.le_of_eq W168.size.symm)) (Nat.le_of_eq W174.size.symm)) E176.1) (Nat.le_of_eq gb185.symm)
    have ng185 : n0 ≤ b185 := Nat.le_trans Z0 sz185
    rw [← gb185] at A185 st185
    have V185 : Arv Z h185 b185 k185 .double (0 : Int32) [] (.double (0 : UInt64)) := (Arv.new A185 (by decide)).pad (pad_rep [] (.double (0 : UInt64)) 0)
    have g186 : Goes p e below S0 (T185.setTop (mkF m 115 #[iv i0, iv i1, iv i2, iv i3, .val (.long i4), .second, rv b56, iv (2 : Int32), iv (3 : Int32), rv b138, .unset, .unset, .unset] [(.ref b185), (.long (i4 &&& (9223372036854775807 : Int64))), (.int (3 : Int32)), (.int (0 : Int32)), (.int (2 : Int32)), (.ref b176), (.ref b176)])) := fun t k => g184 t (st185 t k)
    have g187 : Goes p e below S0 (T185.setTop (mkF m 117 #[iv i0, iv i1, iv i2, iv i3, .val (.long i4), .second, rv b56, iv (2 : Int32), iv (3 : Int32), rv b138, .unset, .unset, .unset] [(.ref b138), (.ref b185), (.long (i4 &&& (9223372036854775807 : Int64))), (.int (3 : Int32)), (.int (0 : Int32)), (.int (2 : Int32)), (.ref b176), (.ref b176)])) := fun t k => g186 t (by
      refine XS.aload X185.here hx rfl (hb hby at_115) rfl rfl ?_
      show Go p e below t T185 m 117 #[iv i0, iv i1, iv i2, iv i3, .val (.long i4), .second, rv b56, iv (2 : Int32), iv (3 : Int32), rv b138, .unset, .unset, .unset] [(.ref b138), (.ref b185), (.long (i4 &&& (9223372036854775807 : Int64))), (.int (3 : Int32)), (.int (0 : Int32)), (.int (2 : Int32)), (.ref b176), (.ref b176)]
      exact k)
    obtain ⟨_, _, ⟨T188, L188, k188, n188⟩, -, X188, ⟨Lc188, hQ188, l188, y188, z188⟩, st188⟩ := X185.specialBack hx (y := (⟨"com/example/borrowed_prior/borrowedprior/model/TopicModel", "<init>", "(IIIJ[D[D)V"⟩ : MethodName)) rfl hown (mvT hZ (hw _ (List.mem_of_getElem? (i := 11) rfl))) (mvT hZ (hw _ (List.mem_of_getElem? (i := 12) rfl))) (mvT hZ (hw _ (List.mem_of_getElem? (i := 13) rfl))) (by decide) (backOf (W := 1) (rm_tin l Z a0 hw [] b176 (2 : Int32) (0 : Int32) (3 : Int32) (i4 &&& (9223372036854775807 : Int64)) b185 b138 k185 (0 : Int32) [] (.double (0 : UInt64)) k138 (6 : Int32) [(.double (f_val (0 : Int32) i3)), (.double (f_val (1 : Int32) i3)), (.double (f_val (2 : Int32) i3)), (.double (f_val (3 : Int32) i3)), (.double (f_val (4 : Int32) i3)), (.double (f_val (5 : Int32) i3))] (.double (0 : UInt64)) h185 n0 (Nat.le_trans Z0 (Nat.le_trans (Nat.le_trans (Nat.le_trans (Nat.le_trans (Nat.le_trans (Nat.le_trans (Nat.le_trans (Nat.le_trans (Nat.le_trans (Nat.le_trans (Nat.le_trans (Nat.le_trans (Nat.le_trans (Nat.le_trans (Nat.le_refl _) E56.1) (Nat.le_of_eq W60.size.symm)) (Nat.le_of_eq W64.size.symm)) (Nat.le_of_eq W68.size.symm)) (Nat.le_of_eq W72.size.symm)) E138.1) (Nat.le_of_eq W144.size.symm)) (Nat.le_of_eq W150.size.symm)) (Nat.le_of_eq W156.size.symm)) (Nat.le_of_eq W162.size.symm)) (Nat.le_of_eq W168.size.symm)) (Nat.le_of_eq W174.size.symm)) E176.1) E185.1)) (A176.ext E185) (F176_177.ext E185) (F176_178.ext E185) (F176_179.ext E185) (F176_180.ext E185) (F176_181.ext E185) (F176_182.ext E185) ng176 V185 ((V174.ext E176).ext E185) (by decide) (by decide) (by decide) (own_tok i4) (by decide) (by decide) (own_p0 _ _) (own_p6 i3) (by decide) (by decide)) hZ (hw _ (List.mem_of_getElem? (i := 13) rfl)) (hw _ (List.mem_of_getElem? (i := 9) rfl)) (by decide) (by decide)) (g := (mkF m 117 #[iv i0, iv i1, iv i2, iv i3, .val (.long i4), .second, rv b56, iv (2 : Int32), iv (3 : Int32), rv b138, .unset, .unset, .unset] [(.ref b138), (.ref b185), (.long (i4 &&& (9223372036854775807 : Int64))), (.int (3 : Int32)), (.int (0 : Int32)), (.int (2 : Int32)), (.ref b176), (.ref b176)])) rfl (by rw [hml]; rfl) (Steps.refl _) (a := b176) (argsL := [(.int (2 : Int32)), (.int (0 : Int32)), (.int (3 : Int32)), (.long (i4 &&& (9223372036854775807 : Int64))), (.ref b185), (.ref b138)]) (rest := [(.ref b176)]) (lenOf pd2 rfl) rfl (by show 2 * 0 + _ ≤ _; exact Nat.le_of_eq rfl) (hb hby at_117) (fun _ _ => ⟨rfl, e185, (by decide : 4 + 0 ≤ _), (by decide : 16 + 0 ≤ _)⟩)
    dsimp only [Pt.U, Pt.locs, Pt.cells, Pt.slots] at X188 l188 y188 z188 st188 hQ188
    subst l188 y188 z188
    obtain ⟨rfl, N188, R188_0, R188_1, R188_2, R188_3, R188_4, R188_5, R188_6, R188_7⟩ := hQ188
    have M188 := Fr.app N174 N188
    have g189 : Goes p e below S0 (T188.setTop (mkF m 120 #[iv i0, iv i1, iv i2, iv i3, .val (.long i4), .second, rv b56, iv (2 : Int32), iv (3 : Int32), rv b138, .unset, .unset, .unset] [(.ref b176)])) := fun t k => g187 t (st188.trans k)
    have g190 : Goes p e below S0 (T188.setTop (mkF m 146 #[iv i0, iv i1, iv i2, iv i3, .val (.long i4), .second, rv b56, iv (2 : Int32), iv (3 : Int32), rv b138, rv b176, iv (nA2 i1), iv (nB2 i2)] [(.int (nB2 i2)), (.int (nA2 i1)), (.ref b176)])) := fun t k => g189 t (by
      refine XS.astore X188.here hx rfl (hb hby at_120) rfl rfl (l' := #[iv i0, iv i1, iv i2, iv i3, .val (.long i4), .second, rv b56, iv (2 : Int32), iv (3 : Int32), rv b138, rv b176, .unset, .unset]) rfl ?_
      show Go p e below t T188 m 122 #[iv i0, iv i1, iv i2, iv i3, .val (.long i4), .second, rv b56, iv (2 : Int32), iv (3 : Int32), rv b138, rv b176, .unset, .unset] []
      refine XS.iloadN X188.here hx rfl (hb hby at_122) rfl ?_
      show Go p e below t T188 m 123 #[iv i0, iv i1, iv i2, iv i3, .val (.long i4), .second, rv b56, iv (2 : Int32), iv (3 : Int32), rv b138, rv b176, .unset, .unset] [(.int i1)]
      refine Jvm.Stand.ldcI X188 hx hown (mvT hZ (hw _ (List.mem_of_getElem? (i := 32) rfl))) (g := (mkF m 123 #[iv i0, iv i1, iv i2, iv i3, .val (.long i4), .second, rv b56, iv (2 : Int32), iv (3 : Int32), rv b138, rv b176, .unset, .unset] [(.int i1)])) rfl (hb hby at_123) ?_
      show Go p e below t T188 m 125 #[iv i0, iv i1, iv i2, iv i3, .val (.long i4), .second, rv b56, iv (2 : Int32), iv (3 : Int32), rv b138, rv b176, .unset, .unset] [(.int (2147483647 : Int32)), (.int i1)]
      refine XS.iand X188.here hx rfl (hb hby at_125) rfl ?_
      show Go p e below t T188 m 126 #[iv i0, iv i1, iv i2, iv i3, .val (.long i4), .second, rv b56, iv (2 : Int32), iv (3 : Int32), rv b138, rv b176, .unset, .unset] [(.int (i1 &&& (2147483647 : Int32)))]
      refine XS.iload X188.here hx rfl (hb hby at_126) rfl ?_
      show Go p e below t T188 m 128 #[iv i0, iv i1, iv i2, iv i3, .val (.long i4), .second, rv b56, iv (2 : Int32), iv (3 : Int32), rv b138, rv b176, .unset, .unset] [(.int (2 : Int32)), (.int (i1 &&& (2147483647 : Int32)))]
      refine iremM X188 hx rfl (hb hby at_128) rfl (by decide) ?_
      show Go p e below t T188 m 129 #[iv i0, iv i1, iv i2, iv i3, .val (.long i4), .second, rv b56, iv (2 : Int32), iv (3 : Int32), rv b138, rv b176, .unset, .unset] [(.int ((i1 &&& (2147483647 : Int32)) % (2 : Int32)))]
      refine XS.istore X188.here hx rfl (hb hby at_129) rfl (l' := #[iv i0, iv i1, iv i2, iv i3, .val (.long i4), .second, rv b56, iv (2 : Int32), iv (3 : Int32), rv b138, rv b176, iv (nA2 i1), .unset]) rfl ?_
      show Go p e below t T188 m 131 #[iv i0, iv i1, iv i2, iv i3, .val (.long i4), .second, rv b56, iv (2 : Int32), iv (3 : Int32), rv b138, rv b176, iv (nA2 i1), .unset] []
      refine XS.iloadN X188.here hx rfl (hb hby at_131) rfl ?_
      show Go p e below t T188 m 132 #[iv i0, iv i1, iv i2, iv i3, .val (.long i4), .second, rv b56, iv (2 : Int32), iv (3 : Int32), rv b138, rv b176, iv (nA2 i1), .unset] [(.int i2)]
      refine Jvm.Stand.ldcI X188 hx hown (mvT hZ (hw _ (List.mem_of_getElem? (i := 32) rfl))) (g := (mkF m 132 #[iv i0, iv i1, iv i2, iv i3, .val (.long i4), .second, rv b56, iv (2 : Int32), iv (3 : Int32), rv b138, rv b176, iv (nA2 i1), .unset] [(.int i2)])) rfl (hb hby at_132) ?_
      show Go p e below t T188 m 134 #[iv i0, iv i1, iv i2, iv i3, .val (.long i4), .second, rv b56, iv (2 : Int32), iv (3 : Int32), rv b138, rv b176, iv (nA2 i1), .unset] [(.int (2147483647 : Int32)), (.int i2)]
      refine XS.iand X188.here hx rfl (hb hby at_134) rfl ?_
      show Go p e below t T188 m 135 #[iv i0, iv i1, iv i2, iv i3, .val (.long i4), .second, rv b56, iv (2 : Int32), iv (3 : Int32), rv b138, rv b176, iv (nA2 i1), .unset] [(.int (i2 &&& (2147483647 : Int32)))]
      refine XS.iload X188.here hx rfl (hb hby at_135) rfl ?_
      show Go p e below t T188 m 137 #[iv i0, iv i1, iv i2, iv i3, .val (.long i4), .second, rv b56, iv (2 : Int32), iv (3 : Int32), rv b138, rv b176, iv (nA2 i1), .unset] [(.int (3 : Int32)), (.int (i2 &&& (2147483647 : Int32)))]
      refine iremM X188 hx rfl (hb hby at_137) rfl (by decide) ?_
      show Go p e below t T188 m 138 #[iv i0, iv i1, iv i2, iv i3, .val (.long i4), .second, rv b56, iv (2 : Int32), iv (3 : Int32), rv b138, rv b176, iv (nA2 i1), .unset] [(.int ((i2 &&& (2147483647 : Int32)) % (3 : Int32)))]
      refine XS.istore X188.here hx rfl (hb hby at_138) rfl (l' := #[iv i0, iv i1, iv i2, iv i3, .val (.long i4), .second, rv b56, iv (2 : Int32), iv (3 : Int32), rv b138, rv b176, iv (nA2 i1), iv (nB2 i2)]) rfl ?_
      show Go p e below t T188 m 140 #[iv i0, iv i1, iv i2, iv i3, .val (.long i4), .second, rv b56, iv (2 : Int32), iv (3 : Int32), rv b138, rv b176, iv (nA2 i1), iv (nB2 i2)] []
      refine XS.aload X188.here hx rfl (hb hby at_140) rfl rfl ?_
      show Go p e below t T188 m 142 #[iv i0, iv i1, iv i2, iv i3, .val (.long i4), .second, rv b56, iv (2 : Int32), iv (3 : Int32), rv b138, rv b176, iv (nA2 i1), iv (nB2 i2)] [(.ref b176)]
      refine XS.iload X188.here hx rfl (hb hby at_142) rfl ?_
      show Go p e below t T188 m 144 #[iv i0, iv i1, iv i2, iv i3, .val (.long i4), .second, rv b56, iv (2 : Int32), iv (3 : Int32), rv b138, rv b176, iv (nA2 i1), iv (nB2 i2)] [(.int (nA2 i1)), (.ref b176)]
      refine XS.iload X188.here hx rfl (hb hby at_144) rfl ?_
      show Go p e below t T188 m 146 #[iv i0, iv i1, iv i2, iv i3, .val (.long i4), .second, rv b56, iv (2 : Int32), iv (3 : Int32), rv b138, rv b176, iv (nA2 i1), iv (nB2 i2)] [(.int (nB2 i2)), (.int (nA2 i1)), (.ref b176)]
      exact k)
    obtain ⟨cq191, kq191, q191a, q191b, q191c⟩ := isOf hZ rfl R188_1
    obtain ⟨_, _, ⟨T191, L191, k191, n191⟩, -, X191, ⟨Lc191, hQ191, l191, y191, z191⟩, st191⟩ := X188.virtualBack hx (y := (⟨"com/example/borrowed_prior/borrowedprior/model/TopicModel", "topicTerm", "(II)D"⟩ : MethodName)) (z := (⟨"com/example/borrowed_prior/borrowedprior/model/TopicModel", "topicTerm", "(II)D"⟩ : MethodName)) hown (mvT hZ (hw _ (List.mem_of_getElem? (i := 33) rfl))) (mvT hZ (hw _ (List.mem_of_getElem? (i := 34) rfl))) (notFace_of_selects (args := #[]) (mvT hZ (hw _ (List.mem_of_getElem? (i := 36) rfl)))) (mvT hZ (hw _ (List.mem_of_getElem? (i := 36) rfl))) (mvT hZ (hw _ (List.mem_of_getElem? (i := 35) rfl))) (by decide) (backOf (W := 0) (rm_tt l Z a0 hw [] b176 (nA2 i1) (nB2 i2) (2 : Int32) b138 k138 (6 : Int32) [(.double (f_val (0 : Int32) i3)), (.double (f_val (1 : Int32) i3)), (.double (f_val (2 : Int32) i3)), (.double (f_val (3 : Int32) i3)), (.double (f_val (4 : Int32) i3)), (.double (f_val (5 : Int32) i3))] (.double (0 : UInt64)) (f_val (nJ2 i1 i2) i3) T188.heap n0 (Nat.le_trans Z0 (Nat.le_trans (Nat.le_trans (Nat.le_trans (Nat.le_trans (Nat.le_trans (Nat.le_trans (Nat.le_trans (Nat.le_trans (Nat.le_trans (Nat.le_trans (Nat.le_trans (Nat.le_trans (Nat.le_trans (Nat.le_trans (Nat.le_trans (Nat.le_refl _) E56.1) (Nat.le_of_eq W60.size.symm)) (Nat.le_of_eq W64.size.symm)) (Nat.le_of_eq W68.size.symm)) (Nat.le_of_eq W72.size.symm)) E138.1) (Nat.le_of_eq W144.size.symm)) (Nat.le_of_eq W150.size.symm)) (Nat.le_of_eq W156.size.symm)) (Nat.le_of_eq W162.size.symm)) (Nat.le_of_eq W168.size.symm)) (Nat.le_of_eq W174.size.symm)) E176.1) E185.1) R188_0.1)) R188_2 R188_7 (((V174.ext E176).ext E185).keep R188_0 (ninS (Nat.ne_of_lt (Nat.lt_of_lt_of_le V174.lt (Nat.le_of_eq gb176.symm))) nin0)) (own_jin2 i1 i2) (own_jat2 i1 i2 i3)) hZ (hw _ (List.mem_of_getElem? (i := 37) rfl)) (hw _ (List.mem_of_getElem? (i := 9) rfl)) (by decide) (by decide)) q191a q191c (g := (mkF m 146 #[iv i0, iv i1, iv i2, iv i3, .val (.long i4), .second, rv b56, iv (2 : Int32), iv (3 : Int32), rv b138, rv b176, iv (nA2 i1), iv (nB2 i2)] [(.int (nB2 i2)), (.int (nA2 i1)), (.ref b176)])) rfl (by rw [hml]; rfl) (Steps.refl _) (argsL := [(.int (nA2 i1)), (.int (nB2 i2))]) (rest := []) (lenOf pd0 rfl) rfl (by show 2 * 0 + _ ≤ _; exact Nat.le_of_eq rfl) (hb hby at_146) (fun _ _ => ⟨rfl, rfl, (by decide : 4 + 0 ≤ _), (by decide : 16 + 0 ≤ _)⟩)
    dsimp only [Pt.U, Pt.locs, Pt.cells, Pt.slots] at X191 l191 y191 z191 st191 hQ191
    subst l191 y191 z191
    obtain ⟨rfl, N191, R191_0⟩ := hQ191
    have M191 := Fr.app M188 N191
    have g192 : Goes p e below S0 (T191.setTop (mkF m 149 #[iv i0, iv i1, iv i2, iv i3, .val (.long i4), .second, rv b56, iv (2 : Int32), iv (3 : Int32), rv b138, rv b176, iv (nA2 i1), iv (nB2 i2)] [(.double (f_val (nJ2 i1 i2) i3))])) := fun t k => g190 t (st191.trans k)
    have g193 : Goes p e below S0 (T191.setTop (mkF m 158 #[iv i0, iv i1, iv i2, iv i3, .val (.long i4), .second, rv b56, iv (2 : Int32), iv (3 : Int32), rv b138, rv b176, iv (nA2 i1), iv (nB2 i2)] [(.int i3), (.int (nJ2 i1 i2)), (.double (f_val (nJ2 i1 i2) i3))])) := fun t k => g192 t (by
      refine XS.iload X191.here hx rfl (hb hby at_149) rfl ?_
      show Go p e below t T191 m 151 #[iv i0, iv i1, iv i2, iv i3, .val (.long i4), .second, rv b56, iv (2 : Int32), iv (3 : Int32), rv b138, rv b176, iv (nA2 i1), iv (nB2 i2)] [(.int (nB2 i2)), (.double (f_val (nJ2 i1 i2) i3))]
      refine XS.iload X191.here hx rfl (hb hby at_151) rfl ?_
      show Go p e below t T191 m 153 #[iv i0, iv i1, iv i2, iv i3, .val (.long i4), .second, rv b56, iv (2 : Int32), iv (3 : Int32), rv b138, rv b176, iv (nA2 i1), iv (nB2 i2)] [(.int (2 : Int32)), (.int (nB2 i2)), (.double (f_val (nJ2 i1 i2) i3))]
      refine XS.imul X191.here hx rfl (hb hby at_153) rfl ?_
      show Go p e below t T191 m 154 #[iv i0, iv i1, iv i2, iv i3, .val (.long i4), .second, rv b56, iv (2 : Int32), iv (3 : Int32), rv b138, rv b176, iv (nA2 i1), iv (nB2 i2)] [(.int ((nB2 i2) * (2 : Int32))), (.double (f_val (nJ2 i1 i2) i3))]
      refine XS.iload X191.here hx rfl (hb hby at_154) rfl ?_
      show Go p e below t T191 m 156 #[iv i0, iv i1, iv i2, iv i3, .val (.long i4), .second, rv b56, iv (2 : Int32), iv (3 : Int32), rv b138, rv b176, iv (nA2 i1), iv (nB2 i2)] [(.int (nA2 i1)), (.int ((nB2 i2) * (2 : Int32))), (.double (f_val (nJ2 i1 i2) i3))]
      refine XS.iadd X191.here hx rfl (hb hby at_156) rfl ?_
      show Go p e below t T191 m 157 #[iv i0, iv i1, iv i2, iv i3, .val (.long i4), .second, rv b56, iv (2 : Int32), iv (3 : Int32), rv b138, rv b176, iv (nA2 i1), iv (nB2 i2)] [(.int (((nB2 i2) * (2 : Int32)) + (nA2 i1))), (.double (f_val (nJ2 i1 i2) i3))]
      show Go p e below t T191 m 157 #[iv i0, iv i1, iv i2, iv i3, .val (.long i4), .second, rv b56, iv (2 : Int32), iv (3 : Int32), rv b138, rv b176, iv (nA2 i1), iv (nB2 i2)] [(.int (nJ2 i1 i2)), (.double (f_val (nJ2 i1 i2) i3))]
      refine XS.iloadN X191.here hx rfl (hb hby at_157) rfl ?_
      show Go p e below t T191 m 158 #[iv i0, iv i1, iv i2, iv i3, .val (.long i4), .second, rv b56, iv (2 : Int32), iv (3 : Int32), rv b138, rv b176, iv (nA2 i1), iv (nB2 i2)] [(.int i3), (.int (nJ2 i1 i2)), (.double (f_val (nJ2 i1 i2) i3))]
      exact k)
    obtain ⟨_, _, ⟨T194, L194, k194, n194⟩, -, X194, ⟨Lc194, hQ194, l194, y194, z194⟩, st194⟩ := Jvm.LawKit.callS X191 hx (y := (⟨"com/example/borrowed_prior/borrowedprior/model/TopicModelTopicTermPinLaw", "val", "(II)D"⟩ : MethodName)) hown (mvT hZ (hw _ (List.mem_of_getElem? (i := 2) rfl))) (mvT hZ (hw _ (List.mem_of_getElem? (i := 3) rfl))) (mvT hZ (hw _ (List.mem_of_getElem? (i := 4) rfl))) (mvT hZ (hw _ (List.mem_of_getElem? (i := 5) rfl))) (by decide) (backOf (W := 2) (rm_val l Z a0 hw [] (nJ2 i1 i2) i3  T188.heap n0 (Nat.le_trans Z0 (Nat.le_trans (Nat.le_trans (Nat.le_trans (Nat.le_trans (Nat.le_trans (Nat.le_trans (Nat.le_trans (Nat.le_trans (Nat.le_trans (Nat.le_trans (Nat.le_trans (Nat.le_trans (Nat.le_trans (Nat.le_trans (Nat.le_trans (Nat.le_refl _) E56.1) (Nat.le_of_eq W60.size.symm)) (Nat.le_of_eq W64.size.symm)) (Nat.le_of_eq W68.size.symm)) (Nat.le_of_eq W72.size.symm)) E138.1) (Nat.le_of_eq W144.size.symm)) (Nat.le_of_eq W150.size.symm)) (Nat.le_of_eq W156.size.symm)) (Nat.le_of_eq W162.size.symm)) (Nat.le_of_eq W168.size.symm)) (Nat.le_of_eq W174.size.symm)) E176.1) E185.1) R188_0.1)) ) hZ (hw _ (List.mem_of_getElem? (i := 5) rfl)) (hw _ (List.mem_of_getElem? (i := 4) rfl)) (by decide) (by decide)) (g := (mkF m 158 #[iv i0, iv i1, iv i2, iv i3, .val (.long i4), .second, rv b56, iv (2 : Int32), iv (3 : Int32), rv b138, rv b176, iv (nA2 i1), iv (nB2 i2)] [(.int i3), (.int (nJ2 i1 i2)), (.double (f_val (nJ2 i1 i2) i3))])) rfl (by rw [hml]; rfl) (argsL := [(.int (nJ2 i1 i2)), (.int i3)]) (rest := [(.double (f_val (nJ2 i1 i2) i3))]) (lenOf pd0 rfl) rfl (by show 2 * 0 + _ ≤ _; exact Nat.le_of_eq rfl) (hb hby at_158) (fun _ _ => ⟨rfl, R191_0, (by decide : 4 + 0 ≤ _), (by decide : 16 + 0 ≤ _)⟩)
    dsimp only [Pt.U, Pt.locs, Pt.cells, Pt.slots] at X194 l194 y194 z194 st194 hQ194
    subst l194 y194 z194
    obtain ⟨rfl, N194, e194⟩ := hQ194
    have M194 := Fr.app M191 N194
    have g195 : Goes p e below S0 (T194.setTop (mkF m 161 #[iv i0, iv i1, iv i2, iv i3, .val (.long i4), .second, rv b56, iv (2 : Int32), iv (3 : Int32), rv b138, rv b176, iv (nA2 i1), iv (nB2 i2)] [(.double (f_val (nJ2 i1 i2) i3)), (.double (f_val (nJ2 i1 i2) i3))])) := fun t k => g193 t (st194 t k)
    have g196 : Goes p e below S0 (T194.setTop (mkF m 170 #[iv i0, iv i1, iv i2, iv i3, .val (.long i4), .second, rv b56, iv (2 : Int32), iv (3 : Int32), rv b138, rv b176, iv (nA2 i1), iv (nB2 i2)] [(.int (1 : Int32))])) := fun t k => g195 t (by
      refine XS.dcmpS X194.here hx rfl (hb hby at_161) rfl rfl ?_
      show Go p e below t T194 m 162 #[iv i0, iv i1, iv i2, iv i3, .val (.long i4), .second, rv b56, iv (2 : Int32), iv (3 : Int32), rv b138, rv b176, iv (nA2 i1), iv (nB2 i2)] [(.int (cmpValue (FP.dcmp (f_val (nJ2 i1 i2) i3) (f_val (nJ2 i1 i2) i3)) .l))]
      refine XS.ifNo X194.here hx rfl (hb hby at_162) rfl (dc_l_ne_f (own_self _ _)) ?_
      show Go p e below t T194 m 165 #[iv i0, iv i1, iv i2, iv i3, .val (.long i4), .second, rv b56, iv (2 : Int32), iv (3 : Int32), rv b138, rv b176, iv (nA2 i1), iv (nB2 i2)] []
      refine XT.iconstV X194.here hx rfl (1 : Int32) (hb hby at_165) (by decide) ?_
      show Go p e below t T194 m 166 #[iv i0, iv i1, iv i2, iv i3, .val (.long i4), .second, rv b56, iv (2 : Int32), iv (3 : Int32), rv b138, rv b176, iv (nA2 i1), iv (nB2 i2)] [(.int (1 : Int32))]
      refine XS.goto X194.here hx rfl (pc0 := 166) (pc' := 170) rfl (hb hby at_166) (by decide) (by decide) ?_
      show Go p e below t T194 m 170 #[iv i0, iv i1, iv i2, iv i3, .val (.long i4), .second, rv b56, iv (2 : Int32), iv (3 : Int32), rv b138, rv b176, iv (nA2 i1), iv (nB2 i2)] [(.int (1 : Int32))]
      exact k)
    obtain ⟨fs, hr, hrun, hended, hW, hsame⟩ := X194.leave (v := some (.int (1 : Int32))) (fun h => by rw [Bd.returns] at h; cases h)
    refine ⟨_, _, g196 _ (retN X194 hx (t := .boolean) Bd.returns (by simp) (hb hby at_170) hr), hrun, hended, _, _, rfl, ?_, ⟨_, rfl⟩, hW, hsame.mono (by decide) (by decide)⟩
    show Q_law Z i0 i1 i2 i3 i4  h0 n0 _ T194.heap _
    rw [e194]
    exact ⟨rfl, M194⟩
  · skip
    have g197 : Goes p e below S0 (T72.setTop (mkF m 39 #[iv i0, iv i1, iv i2, iv i3, .val (.long i4), .second, rv b56, iv (3 : Int32), iv (2 : Int32), .unset, .unset, .unset, .unset] [(.int (6 : Int32))])) := fun t k => g76 t (by
      refine XT.bipushV X72.here hx rfl (6 : Int32) (hb hby at_30) (by decide) ?_
      show Go p e below t T72 m 32 #[iv i0, iv i1, iv i2, iv i3, .val (.long i4), .second, rv b56, iv (3 : Int32), .unset, .unset, .unset, .unset, .unset] [(.int (6 : Int32))]
      refine XS.iload X72.here hx rfl (hb hby at_32) rfl ?_
      show Go p e below t T72 m 34 #[iv i0, iv i1, iv i2, iv i3, .val (.long i4), .second, rv b56, iv (3 : Int32), .unset, .unset, .unset, .unset, .unset] [(.int (3 : Int32)), (.int (6 : Int32))]
      refine XS.idiv X72.here hx rfl (hb hby at_34) rfl (by decide) ?_
      rw [show ((6 : Int32) / (3 : Int32)) = (2 : Int32) by decide]
      show Go p e below t T72 m 35 #[iv i0, iv i1, iv i2, iv i3, .val (.long i4), .second, rv b56, iv (3 : Int32), .unset, .unset, .unset, .unset, .unset] [(.int (2 : Int32))]
      refine XS.istore X72.here hx rfl (hb hby at_35) rfl (l' := #[iv i0, iv i1, iv i2, iv i3, .val (.long i4), .second, rv b56, iv (3 : Int32), iv (2 : Int32), .unset, .unset, .unset, .unset]) rfl ?_
      show Go p e below t T72 m 37 #[iv i0, iv i1, iv i2, iv i3, .val (.long i4), .second, rv b56, iv (3 : Int32), iv (2 : Int32), .unset, .unset, .unset, .unset] []
      refine XT.bipushV X72.here hx rfl (6 : Int32) (hb hby at_37) (by decide) ?_
      show Go p e below t T72 m 39 #[iv i0, iv i1, iv i2, iv i3, .val (.long i4), .second, rv b56, iv (3 : Int32), iv (2 : Int32), .unset, .unset, .unset, .unset] [(.int (6 : Int32))]
      exact k)
    obtain ⟨T198, h198, k198, X198, e198, E198, A198, st198⟩ := newP X72 hx hZ (hw _ (List.mem_of_getElem? (i := 1) rfl)) e72 (g := (mkF m 39 #[iv i0, iv i1, iv i2, iv i3, .val (.long i4), .second, rv b56, iv (3 : Int32), iv (2 : Int32), .unset, .unset, .unset, .unset] [(.int (6 : Int32))])) rfl (hb hby at_39) rfl (by decide) (cap := 6) (by decide) (by decide) (by decide) (by decide)
    obtain ⟨b198, gb198⟩ : ∃ z, z = h72.size := ⟨_, rfl⟩
    have sz198 : h0.size ≤ b198 := Nat.le_trans (Nat.le_trans (Nat.le_trans (Nat.le_trans (Nat.le_trans (Nat.le_trans (Nat.le_refl _) E56.1) (Nat.le_of_eq W60.size.symm)) (Nat.le_of_eq W64.size.symm)) (Nat.le_of_eq W68.size.symm)) (Nat.le_of_eq W72.size.symm)) (Nat.le_of_eq gb198.symm)
    have ng198 : n0 ≤ b198 := Nat.le_trans Z0 sz198
    rw [← gb198] at A198 st198
    have V198 : Arv Z h198 b198 k198 .double (6 : Int32) [(.double (0 : UInt64)), (.double (0 : UInt64)), (.double (0 : UInt64)), (.double (0 : UInt64)), (.double (0 : UInt64)), (.double (0 : UInt64))] (.double (0 : UInt64)) := (Arv.new A198 (by decide)).pad (pad_rep [] (.double (0 : UInt64)) 6)
    have g199 : Goes p e below S0 (T198.setTop (mkF m 41 #[iv i0, iv i1, iv i2, iv i3, .val (.long i4), .second, rv b56, iv (3 : Int32), iv (2 : Int32), .unset, .unset, .unset, .unset] [(.ref b198)])) := fun t k => g197 t (st198 t k)
    have g200 : Goes p e below S0 (T198.setTop (mkF m 48 #[iv i0, iv i1, iv i2, iv i3, .val (.long i4), .second, rv b56, iv (3 : Int32), iv (2 : Int32), rv b198, .unset, .unset, .unset] [(.int i3), (.int (0 : Int32)), (.int (0 : Int32)), (.ref b198)])) := fun t k => g199 t (by
      refine XS.astore X198.here hx rfl (hb hby at_41) rfl rfl (l' := #[iv i0, iv i1, iv i2, iv i3, .val (.long i4), .second, rv b56, iv (3 : Int32), iv (2 : Int32), rv b198, .unset, .unset, .unset]) rfl ?_
      show Go p e below t T198 m 43 #[iv i0, iv i1, iv i2, iv i3, .val (.long i4), .second, rv b56, iv (3 : Int32), iv (2 : Int32), rv b198, .unset, .unset, .unset] []
      refine XS.aload X198.here hx rfl (hb hby at_43) rfl rfl ?_
      show Go p e below t T198 m 45 #[iv i0, iv i1, iv i2, iv i3, .val (.long i4), .second, rv b56, iv (3 : Int32), iv (2 : Int32), rv b198, .unset, .unset, .unset] [(.ref b198)]
      refine XT.iconstV X198.here hx rfl (0 : Int32) (hb hby at_45) (by decide) ?_
      show Go p e below t T198 m 46 #[iv i0, iv i1, iv i2, iv i3, .val (.long i4), .second, rv b56, iv (3 : Int32), iv (2 : Int32), rv b198, .unset, .unset, .unset] [(.int (0 : Int32)), (.ref b198)]
      refine XT.iconstV X198.here hx rfl (0 : Int32) (hb hby at_46) (by decide) ?_
      show Go p e below t T198 m 47 #[iv i0, iv i1, iv i2, iv i3, .val (.long i4), .second, rv b56, iv (3 : Int32), iv (2 : Int32), rv b198, .unset, .unset, .unset] [(.int (0 : Int32)), (.int (0 : Int32)), (.ref b198)]
      refine XS.iloadN X198.here hx rfl (hb hby at_47) rfl ?_
      show Go p e below t T198 m 48 #[iv i0, iv i1, iv i2, iv i3, .val (.long i4), .second, rv b56, iv (3 : Int32), iv (2 : Int32), rv b198, .unset, .unset, .unset] [(.int i3), (.int (0 : Int32)), (.int (0 : Int32)), (.ref b198)]
      exact k)
    obtain ⟨_, _, ⟨T201, L201, k201, n201⟩, -, X201, ⟨Lc201, hQ201, l201, y201, z201⟩, st201⟩ := Jvm.LawKit.callS X198 hx (y := (⟨"com/example/borrowed_prior/borrowedprior/model/TopicModelTopicTermPinLaw", "val", "(II)D"⟩ : MethodName)) hown (mvT hZ (hw _ (List.mem_of_getElem? (i := 2) rfl))) (mvT hZ (hw _ (List.mem_of_getElem? (i := 3) rfl))) (mvT hZ (hw _ (List.mem_of_getElem? (i := 4) rfl))) (mvT hZ (hw _ (List.mem_of_getElem? (i := 5) rfl))) (by decide) (backOf (W := 2) (rm_val l Z a0 hw [] (0 : Int32) i3  h198 n0 (Nat.le_trans Z0 (Nat.le_trans (Nat.le_trans (Nat.le_trans (Nat.le_trans (Nat.le_trans (Nat.le_trans (Nat.le_refl _) E56.1) (Nat.le_of_eq W60.size.symm)) (Nat.le_of_eq W64.size.symm)) (Nat.le_of_eq W68.size.symm)) (Nat.le_of_eq W72.size.symm)) E198.1)) ) hZ (hw _ (List.mem_of_getElem? (i := 5) rfl)) (hw _ (List.mem_of_getElem? (i := 4) rfl)) (by decide) (by decide)) (g := (mkF m 48 #[iv i0, iv i1, iv i2, iv i3, .val (.long i4), .second, rv b56, iv (3 : Int32), iv (2 : Int32), rv b198, .unset, .unset, .unset] [(.int i3), (.int (0 : Int32)), (.int (0 : Int32)), (.ref b198)])) rfl (by rw [hml]; rfl) (argsL := [(.int (0 : Int32)), (.int i3)]) (rest := [(.int (0 : Int32)), (.ref b198)]) (lenOf pd0 rfl) rfl (by show 2 * 0 + _ ≤ _; exact Nat.le_of_eq rfl) (hb hby at_48) (fun _ _ => ⟨rfl, e198, (by decide : 2 + 0 ≤ _), (by decide : 10 + 0 ≤ _)⟩)
    dsimp only [Pt.U, Pt.locs, Pt.cells, Pt.slots] at X201 l201 y201 z201 st201 hQ201
    subst l201 y201 z201
    obtain ⟨rfl, N201, e201⟩ := hQ201
    have M201 := Fr.app N72 N201
    have g202 : Goes p e below S0 (T201.setTop (mkF m 51 #[iv i0, iv i1, iv i2, iv i3, .val (.long i4), .second, rv b56, iv (3 : Int32), iv (2 : Int32), rv b198, .unset, .unset, .unset] [(.double (f_val (0 : Int32) i3)), (.int (0 : Int32)), (.ref b198)])) := fun t k => g200 t (st201 t k)
    obtain ⟨cl203, Ar203, q203, S203, M203, H203, G203⟩ := id V198
    obtain ⟨T204, h204, X204, e204, W204, st204⟩ := stD X201 hx hZ e201 Ar203 (j := (0 : Int32)) (inb_of S203 ⟨by decide, by decide⟩) (g := (mkF m 51 #[iv i0, iv i1, iv i2, iv i3, .val (.long i4), .second, rv b56, iv (3 : Int32), iv (2 : Int32), rv b198, .unset, .unset, .unset] [(.double (f_val (0 : Int32) i3)), (.int (0 : Int32)), (.ref b198)])) rfl rfl (hb hby at_51)
    have N204 := Fr.snoc X204 M201 ng198
    have V204 : Arv Z h204 b198 k198 .double (6 : Int32) [(.double (f_val (0 : Int32) i3)), (.double (0 : UInt64)), (.double (0 : UInt64)), (.double (0 : UInt64)), (.double (0 : UInt64)), (.double (0 : UInt64))] (.double (0 : UInt64)) := Arv.set Ar203 q203 S203 M203 H203 G203 rfl W204 0 rfl (Nat.le_of_ble_eq_true rfl)
    have g205 : Goes p e below S0 (T204.setTop (mkF m 52 #[iv i0, iv i1, iv i2, iv i3, .val (.long i4), .second, rv b56, iv (3 : Int32), iv (2 : Int32), rv b198, .unset, .unset, .unset] [])) := fun t k => g202 t (st204 t k)
    have g206 : Goes p e below S0 (T204.setTop (mkF m 57 #[iv i0, iv i1, iv i2, iv i3, .val (.long i4), .second, rv b56, iv (3 : Int32), iv (2 : Int32), rv b198, .unset, .unset, .unset] [(.int i3), (.int (1 : Int32)), (.int (1 : Int32)), (.ref b198)])) := fun t k => g205 t (by
      refine XS.aload X204.here hx rfl (hb hby at_52) rfl rfl ?_
      show Go p e below t T204 m 54 #[iv i0, iv i1, iv i2, iv i3, .val (.long i4), .second, rv b56, iv (3 : Int32), iv (2 : Int32), rv b198, .unset, .unset, .unset] [(.ref b198)]
      refine XT.iconstV X204.here hx rfl (1 : Int32) (hb hby at_54) (by decide) ?_
      show Go p e below t T204 m 55 #[iv i0, iv i1, iv i2, iv i3, .val (.long i4), .second, rv b56, iv (3 : Int32), iv (2 : Int32), rv b198, .unset, .unset, .unset] [(.int (1 : Int32)), (.ref b198)]
      refine XT.iconstV X204.here hx rfl (1 : Int32) (hb hby at_55) (by decide) ?_
      show Go p e below t T204 m 56 #[iv i0, iv i1, iv i2, iv i3, .val (.long i4), .second, rv b56, iv (3 : Int32), iv (2 : Int32), rv b198, .unset, .unset, .unset] [(.int (1 : Int32)), (.int (1 : Int32)), (.ref b198)]
      refine XS.iloadN X204.here hx rfl (hb hby at_56) rfl ?_
      show Go p e below t T204 m 57 #[iv i0, iv i1, iv i2, iv i3, .val (.long i4), .second, rv b56, iv (3 : Int32), iv (2 : Int32), rv b198, .unset, .unset, .unset] [(.int i3), (.int (1 : Int32)), (.int (1 : Int32)), (.ref b198)]
      exact k)
    obtain ⟨_, _, ⟨T207, L207, k207, n207⟩, -, X207, ⟨Lc207, hQ207, l207, y207, z207⟩, st207⟩ := Jvm.LawKit.callS X204 hx (y := (⟨"com/example/borrowed_prior/borrowedprior/model/TopicModelTopicTermPinLaw", "val", "(II)D"⟩ : MethodName)) hown (mvT hZ (hw _ (List.mem_of_getElem? (i := 2) rfl))) (mvT hZ (hw _ (List.mem_of_getElem? (i := 3) rfl))) (mvT hZ (hw _ (List.mem_of_getElem? (i := 4) rfl))) (mvT hZ (hw _ (List.mem_of_getElem? (i := 5) rfl))) (by decide) (backOf (W := 2) (rm_val l Z a0 hw [] (1 : Int32) i3  h204 n0 (Nat.le_trans Z0 (Nat.le_trans (Nat.le_trans (Nat.le_trans (Nat.le_trans (Nat.le_trans (Nat.le_trans (Nat.le_trans (Nat.le_refl _) E56.1) (Nat.le_of_eq W60.size.symm)) (Nat.le_of_eq W64.size.symm)) (Nat.le_of_eq W68.size.symm)) (Nat.le_of_eq W72.size.symm)) E198.1) (Nat.le_of_eq W204.size.symm))) ) hZ (hw _ (List.mem_of_getElem? (i := 5) rfl)) (hw _ (List.mem_of_getElem? (i := 4) rfl)) (by decide) (by decide)) (g := (mkF m 57 #[iv i0, iv i1, iv i2, iv i3, .val (.long i4), .second, rv b56, iv (3 : Int32), iv (2 : Int32), rv b198, .unset, .unset, .unset] [(.int i3), (.int (1 : Int32)), (.int (1 : Int32)), (.ref b198)])) rfl (by rw [hml]; rfl) (argsL := [(.int (1 : Int32)), (.int i3)]) (rest := [(.int (1 : Int32)), (.ref b198)]) (lenOf pd0 rfl) rfl (by show 2 * 0 + _ ≤ _; exact Nat.le_of_eq rfl) (hb hby at_57) (fun _ _ => ⟨rfl, e204, (by decide : 2 + 0 ≤ _), (by decide : 10 + 0 ≤ _)⟩)
    dsimp only [Pt.U, Pt.locs, Pt.cells, Pt.slots] at X207 l207 y207 z207 st207 hQ207
    subst l207 y207 z207
    obtain ⟨rfl, N207, e207⟩ := hQ207
    have M207 := Fr.app N204 N207
    have g208 : Goes p e below S0 (T207.setTop (mkF m 60 #[iv i0, iv i1, iv i2, iv i3, .val (.long i4), .second, rv b56, iv (3 : Int32), iv (2 : Int32), rv b198, .unset, .unset, .unset] [(.double (f_val (1 : Int32) i3)), (.int (1 : Int32)), (.ref b198)])) := fun t k => g206 t (st207 t k)
    obtain ⟨cl209, Ar209, q209, S209, M209, H209, G209⟩ := id V204
    obtain ⟨T210, h210, X210, e210, W210, st210⟩ := stD X207 hx hZ e207 Ar209 (j := (1 : Int32)) (inb_of S209 ⟨by decide, by decide⟩) (g := (mkF m 60 #[iv i0, iv i1, iv i2, iv i3, .val (.long i4), .second, rv b56, iv (3 : Int32), iv (2 : Int32), rv b198, .unset, .unset, .unset] [(.double (f_val (1 : Int32) i3)), (.int (1 : Int32)), (.ref b198)])) rfl rfl (hb hby at_60)
    have N210 := Fr.snoc X210 M207 ng198
    have V210 : Arv Z h210 b198 k198 .double (6 : Int32) [(.double (f_val (0 : Int32) i3)), (.double (f_val (1 : Int32) i3)), (.double (0 : UInt64)), (.double (0 : UInt64)), (.double (0 : UInt64)), (.double (0 : UInt64))] (.double (0 : UInt64)) := Arv.set Ar209 q209 S209 M209 H209 G209 rfl W210 1 rfl (Nat.le_of_ble_eq_true rfl)
    have g211 : Goes p e below S0 (T210.setTop (mkF m 61 #[iv i0, iv i1, iv i2, iv i3, .val (.long i4), .second, rv b56, iv (3 : Int32), iv (2 : Int32), rv b198, .unset, .unset, .unset] [])) := fun t k => g208 t (st210 t k)
    have g212 : Goes p e below S0 (T210.setTop (mkF m 66 #[iv i0, iv i1, iv i2, iv i3, .val (.long i4), .second, rv b56, iv (3 : Int32), iv (2 : Int32), rv b198, .unset, .unset, .unset] [(.int i3), (.int (2 : Int32)), (.int (2 : Int32)), (.ref b198)])) := fun t k => g211 t (by
      refine XS.aload X210.here hx rfl (hb hby at_61) rfl rfl ?_
      show Go p e below t T210 m 63 #[iv i0, iv i1, iv i2, iv i3, .val (.long i4), .second, rv b56, iv (3 : Int32), iv (2 : Int32), rv b198, .unset, .unset, .unset] [(.ref b198)]
      refine XT.iconstV X210.here hx rfl (2 : Int32) (hb hby at_63) (by decide) ?_
      show Go p e below t T210 m 64 #[iv i0, iv i1, iv i2, iv i3, .val (.long i4), .second, rv b56, iv (3 : Int32), iv (2 : Int32), rv b198, .unset, .unset, .unset] [(.int (2 : Int32)), (.ref b198)]
      refine XT.iconstV X210.here hx rfl (2 : Int32) (hb hby at_64) (by decide) ?_
      show Go p e below t T210 m 65 #[iv i0, iv i1, iv i2, iv i3, .val (.long i4), .second, rv b56, iv (3 : Int32), iv (2 : Int32), rv b198, .unset, .unset, .unset] [(.int (2 : Int32)), (.int (2 : Int32)), (.ref b198)]
      refine XS.iloadN X210.here hx rfl (hb hby at_65) rfl ?_
      show Go p e below t T210 m 66 #[iv i0, iv i1, iv i2, iv i3, .val (.long i4), .second, rv b56, iv (3 : Int32), iv (2 : Int32), rv b198, .unset, .unset, .unset] [(.int i3), (.int (2 : Int32)), (.int (2 : Int32)), (.ref b198)]
      exact k)
    obtain ⟨_, _, ⟨T213, L213, k213, n213⟩, -, X213, ⟨Lc213, hQ213, l213, y213, z213⟩, st213⟩ := Jvm.LawKit.callS X210 hx (y := (⟨"com/example/borrowed_prior/borrowedprior/model/TopicModelTopicTermPinLaw", "val", "(II)D"⟩ : MethodName)) hown (mvT hZ (hw _ (List.mem_of_getElem? (i := 2) rfl))) (mvT hZ (hw _ (List.mem_of_getElem? (i := 3) rfl))) (mvT hZ (hw _ (List.mem_of_getElem? (i := 4) rfl))) (mvT hZ (hw _ (List.mem_of_getElem? (i := 5) rfl))) (by decide) (backOf (W := 2) (rm_val l Z a0 hw [] (2 : Int32) i3  h210 n0 (Nat.le_trans Z0 (Nat.le_trans (Nat.le_trans (Nat.le_trans (Nat.le_trans (Nat.le_trans (Nat.le_trans (Nat.le_trans (Nat.le_trans (Nat.le_refl _) E56.1) (Nat.le_of_eq W60.size.symm)) (Nat.le_of_eq W64.size.symm)) (Nat.le_of_eq W68.size.symm)) (Nat.le_of_eq W72.size.symm)) E198.1) (Nat.le_of_eq W204.size.symm)) (Nat.le_of_eq W210.size.symm))) ) hZ (hw _ (List.mem_of_getElem? (i := 5) rfl)) (hw _ (List.mem_of_getElem? (i := 4) rfl)) (by decide) (by decide)) (g := (mkF m 66 #[iv i0, iv i1, iv i2, iv i3, .val (.long i4), .second, rv b56, iv (3 : Int32), iv (2 : Int32), rv b198, .unset, .unset, .unset] [(.int i3), (.int (2 : Int32)), (.int (2 : Int32)), (.ref b198)])) rfl (by rw [hml]; rfl) (argsL := [(.int (2 : Int32)), (.int i3)]) (rest := [(.int (2 : Int32)), (.ref b198)]) (lenOf pd0 rfl) rfl (by show 2 * 0 + _ ≤ _; exact Nat.le_of_eq rfl) (hb hby at_66) (fun _ _ => ⟨rfl, e210, (by decide : 2 + 0 ≤ _), (by decide : 10 + 0 ≤ _)⟩)
    dsimp only [Pt.U, Pt.locs, Pt.cells, Pt.slots] at X213 l213 y213 z213 st213 hQ213
    subst l213 y213 z213
    obtain ⟨rfl, N213, e213⟩ := hQ213
    have M213 := Fr.app N210 N213
    have g214 : Goes p e below S0 (T213.setTop (mkF m 69 #[iv i0, iv i1, iv i2, iv i3, .val (.long i4), .second, rv b56, iv (3 : Int32), iv (2 : Int32), rv b198, .unset, .unset, .unset] [(.double (f_val (2 : Int32) i3)), (.int (2 : Int32)), (.ref b198)])) := fun t k => g212 t (st213 t k)
    obtain ⟨cl215, Ar215, q215, S215, M215, H215, G215⟩ := id V210
    obtain ⟨T216, h216, X216, e216, W216, st216⟩ := stD X213 hx hZ e213 Ar215 (j := (2 : Int32)) (inb_of S215 ⟨by decide, by decide⟩) (g := (mkF m 69 #[iv i0, iv i1, iv i2, iv i3, .val (.long i4), .second, rv b56, iv (3 : Int32), iv (2 : Int32), rv b198, .unset, .unset, .unset] [(.double (f_val (2 : Int32) i3)), (.int (2 : Int32)), (.ref b198)])) rfl rfl (hb hby at_69)
    have N216 := Fr.snoc X216 M213 ng198
    have V216 : Arv Z h216 b198 k198 .double (6 : Int32) [(.double (f_val (0 : Int32) i3)), (.double (f_val (1 : Int32) i3)), (.double (f_val (2 : Int32) i3)), (.double (0 : UInt64)), (.double (0 : UInt64)), (.double (0 : UInt64))] (.double (0 : UInt64)) := Arv.set Ar215 q215 S215 M215 H215 G215 rfl W216 2 rfl (Nat.le_of_ble_eq_true rfl)
    have g217 : Goes p e below S0 (T216.setTop (mkF m 70 #[iv i0, iv i1, iv i2, iv i3, .val (.long i4), .second, rv b56, iv (3 : Int32), iv (2 : Int32), rv b198, .unset, .unset, .unset] [])) := fun t k => g214 t (st216 t k)
    have g218 : Goes p e below S0 (T216.setTop (mkF m 75 #[iv i0, iv i1, iv i2, iv i3, .val (.long i4), .second, rv b56, iv (3 : Int32), iv (2 : Int32), rv b198, .unset, .unset, .unset] [(.int i3), (.int (3 : Int32)), (.int (3 : Int32)), (.ref b198)])) := fun t k => g217 t (by
      refine XS.aload X216.here hx rfl (hb hby at_70) rfl rfl ?_
      show Go p e below t T216 m 72 #[iv i0, iv i1, iv i2, iv i3, .val (.long i4), .second, rv b56, iv (3 : Int32), iv (2 : Int32), rv b198, .unset, .unset, .unset] [(.ref b198)]
      refine XT.iconstV X216.here hx rfl (3 : Int32) (hb hby at_72) (by decide) ?_
      show Go p e below t T216 m 73 #[iv i0, iv i1, iv i2, iv i3, .val (.long i4), .second, rv b56, iv (3 : Int32), iv (2 : Int32), rv b198, .unset, .unset, .unset] [(.int (3 : Int32)), (.ref b198)]
      refine XT.iconstV X216.here hx rfl (3 : Int32) (hb hby at_73) (by decide) ?_
      show Go p e below t T216 m 74 #[iv i0, iv i1, iv i2, iv i3, .val (.long i4), .second, rv b56, iv (3 : Int32), iv (2 : Int32), rv b198, .unset, .unset, .unset] [(.int (3 : Int32)), (.int (3 : Int32)), (.ref b198)]
      refine XS.iloadN X216.here hx rfl (hb hby at_74) rfl ?_
      show Go p e below t T216 m 75 #[iv i0, iv i1, iv i2, iv i3, .val (.long i4), .second, rv b56, iv (3 : Int32), iv (2 : Int32), rv b198, .unset, .unset, .unset] [(.int i3), (.int (3 : Int32)), (.int (3 : Int32)), (.ref b198)]
      exact k)
    obtain ⟨_, _, ⟨T219, L219, k219, n219⟩, -, X219, ⟨Lc219, hQ219, l219, y219, z219⟩, st219⟩ := Jvm.LawKit.callS X216 hx (y := (⟨"com/example/borrowed_prior/borrowedprior/model/TopicModelTopicTermPinLaw", "val", "(II)D"⟩ : MethodName)) hown (mvT hZ (hw _ (List.mem_of_getElem? (i := 2) rfl))) (mvT hZ (hw _ (List.mem_of_getElem? (i := 3) rfl))) (mvT hZ (hw _ (List.mem_of_getElem? (i := 4) rfl))) (mvT hZ (hw _ (List.mem_of_getElem? (i := 5) rfl))) (by decide) (backOf (W := 2) (rm_val l Z a0 hw [] (3 : Int32) i3  h216 n0 (Nat.le_trans Z0 (Nat.le_trans (Nat.le_trans (Nat.le_trans (Nat.le_trans (Nat.le_trans (Nat.le_trans (Nat.le_trans (Nat.le_trans (Nat.le_trans (Nat.le_refl _) E56.1) (Nat.le_of_eq W60.size.symm)) (Nat.le_of_eq W64.size.symm)) (Nat.le_of_eq W68.size.symm)) (Nat.le_of_eq W72.size.symm)) E198.1) (Nat.le_of_eq W204.size.symm)) (Nat.le_of_eq W210.size.symm)) (Nat.le_of_eq W216.size.symm))) ) hZ (hw _ (List.mem_of_getElem? (i := 5) rfl)) (hw _ (List.mem_of_getElem? (i := 4) rfl)) (by decide) (by decide)) (g := (mkF m 75 #[iv i0, iv i1, iv i2, iv i3, .val (.long i4), .second, rv b56, iv (3 : Int32), iv (2 : Int32), rv b198, .unset, .unset, .unset] [(.int i3), (.int (3 : Int32)), (.int (3 : Int32)), (.ref b198)])) rfl (by rw [hml]; rfl) (argsL := [(.int (3 : Int32)), (.int i3)]) (rest := [(.int (3 : Int32)), (.ref b198)]) (lenOf pd0 rfl) rfl (by show 2 * 0 + _ ≤ _; exact Nat.le_of_eq rfl) (hb hby at_75) (fun _ _ => ⟨rfl, e216, (by decide : 2 + 0 ≤ _), (by decide : 10 + 0 ≤ _)⟩)
    dsimp only [Pt.U, Pt.locs, Pt.cells, Pt.slots] at X219 l219 y219 z219 st219 hQ219
    subst l219 y219 z219
    obtain ⟨rfl, N219, e219⟩ := hQ219
    have M219 := Fr.app N216 N219
    have g220 : Goes p e below S0 (T219.setTop (mkF m 78 #[iv i0, iv i1, iv i2, iv i3, .val (.long i4), .second, rv b56, iv (3 : Int32), iv (2 : Int32), rv b198, .unset, .unset, .unset] [(.double (f_val (3 : Int32) i3)), (.int (3 : Int32)), (.ref b198)])) := fun t k => g218 t (st219 t k)
    obtain ⟨cl221, Ar221, q221, S221, M221, H221, G221⟩ := id V216
    obtain ⟨T222, h222, X222, e222, W222, st222⟩ := stD X219 hx hZ e219 Ar221 (j := (3 : Int32)) (inb_of S221 ⟨by decide, by decide⟩) (g := (mkF m 78 #[iv i0, iv i1, iv i2, iv i3, .val (.long i4), .second, rv b56, iv (3 : Int32), iv (2 : Int32), rv b198, .unset, .unset, .unset] [(.double (f_val (3 : Int32) i3)), (.int (3 : Int32)), (.ref b198)])) rfl rfl (hb hby at_78)
    have N222 := Fr.snoc X222 M219 ng198
    have V222 : Arv Z h222 b198 k198 .double (6 : Int32) [(.double (f_val (0 : Int32) i3)), (.double (f_val (1 : Int32) i3)), (.double (f_val (2 : Int32) i3)), (.double (f_val (3 : Int32) i3)), (.double (0 : UInt64)), (.double (0 : UInt64))] (.double (0 : UInt64)) := Arv.set Ar221 q221 S221 M221 H221 G221 rfl W222 3 rfl (Nat.le_of_ble_eq_true rfl)
    have g223 : Goes p e below S0 (T222.setTop (mkF m 79 #[iv i0, iv i1, iv i2, iv i3, .val (.long i4), .second, rv b56, iv (3 : Int32), iv (2 : Int32), rv b198, .unset, .unset, .unset] [])) := fun t k => g220 t (st222 t k)
    have g224 : Goes p e below S0 (T222.setTop (mkF m 84 #[iv i0, iv i1, iv i2, iv i3, .val (.long i4), .second, rv b56, iv (3 : Int32), iv (2 : Int32), rv b198, .unset, .unset, .unset] [(.int i3), (.int (4 : Int32)), (.int (4 : Int32)), (.ref b198)])) := fun t k => g223 t (by
      refine XS.aload X222.here hx rfl (hb hby at_79) rfl rfl ?_
      show Go p e below t T222 m 81 #[iv i0, iv i1, iv i2, iv i3, .val (.long i4), .second, rv b56, iv (3 : Int32), iv (2 : Int32), rv b198, .unset, .unset, .unset] [(.ref b198)]
      refine XT.iconstV X222.here hx rfl (4 : Int32) (hb hby at_81) (by decide) ?_
      show Go p e below t T222 m 82 #[iv i0, iv i1, iv i2, iv i3, .val (.long i4), .second, rv b56, iv (3 : Int32), iv (2 : Int32), rv b198, .unset, .unset, .unset] [(.int (4 : Int32)), (.ref b198)]
      refine XT.iconstV X222.here hx rfl (4 : Int32) (hb hby at_82) (by decide) ?_
      show Go p e below t T222 m 83 #[iv i0, iv i1, iv i2, iv i3, .val (.long i4), .second, rv b56, iv (3 : Int32), iv (2 : Int32), rv b198, .unset, .unset, .unset] [(.int (4 : Int32)), (.int (4 : Int32)), (.ref b198)]
      refine XS.iloadN X222.here hx rfl (hb hby at_83) rfl ?_
      show Go p e below t T222 m 84 #[iv i0, iv i1, iv i2, iv i3, .val (.long i4), .second, rv b56, iv (3 : Int32), iv (2 : Int32), rv b198, .unset, .unset, .unset] [(.int i3), (.int (4 : Int32)), (.int (4 : Int32)), (.ref b198)]
      exact k)
    obtain ⟨_, _, ⟨T225, L225, k225, n225⟩, -, X225, ⟨Lc225, hQ225, l225, y225, z225⟩, st225⟩ := Jvm.LawKit.callS X222 hx (y := (⟨"com/example/borrowed_prior/borrowedprior/model/TopicModelTopicTermPinLaw", "val", "(II)D"⟩ : MethodName)) hown (mvT hZ (hw _ (List.mem_of_getElem? (i := 2) rfl))) (mvT hZ (hw _ (List.mem_of_getElem? (i := 3) rfl))) (mvT hZ (hw _ (List.mem_of_getElem? (i := 4) rfl))) (mvT hZ (hw _ (List.mem_of_getElem? (i := 5) rfl))) (by decide) (backOf (W := 2) (rm_val l Z a0 hw [] (4 : Int32) i3  h222 n0 (Nat.le_trans Z0 (Nat.le_trans (Nat.le_trans (Nat.le_trans (Nat.le_trans (Nat.le_trans (Nat.le_trans (Nat.le_trans (Nat.le_trans (Nat.le_trans (Nat.le_trans (Nat.le_refl _) E56.1) (Nat.le_of_eq W60.size.symm)) (Nat.le_of_eq W64.size.symm)) (Nat.le_of_eq W68.size.symm)) (Nat.le_of_eq W72.size.symm)) E198.1) (Nat.le_of_eq W204.size.symm)) (Nat.le_of_eq W210.size.symm)) (Nat.le_of_eq W216.size.symm)) (Nat.le_of_eq W222.size.symm))) ) hZ (hw _ (List.mem_of_getElem? (i := 5) rfl)) (hw _ (List.mem_of_getElem? (i := 4) rfl)) (by decide) (by decide)) (g := (mkF m 84 #[iv i0, iv i1, iv i2, iv i3, .val (.long i4), .second, rv b56, iv (3 : Int32), iv (2 : Int32), rv b198, .unset, .unset, .unset] [(.int i3), (.int (4 : Int32)), (.int (4 : Int32)), (.ref b198)])) rfl (by rw [hml]; rfl) (argsL := [(.int (4 : Int32)), (.int i3)]) (rest := [(.int (4 : Int32)), (.ref b198)]) (lenOf pd0 rfl) rfl (by show 2 * 0 + _ ≤ _; exact Nat.le_of_eq rfl) (hb hby at_84) (fun _ _ => ⟨rfl, e222, (by decide : 2 + 0 ≤ _), (by decide : 10 + 0 ≤ _)⟩)
    dsimp only [Pt.U, Pt.locs, Pt.cells, Pt.slots] at X225 l225 y225 z225 st225 hQ225
    subst l225 y225 z225
    obtain ⟨rfl, N225, e225⟩ := hQ225
    have M225 := Fr.app N222 N225
    have g226 : Goes p e below S0 (T225.setTop (mkF m 87 #[iv i0, iv i1, iv i2, iv i3, .val (.long i4), .second, rv b56, iv (3 : Int32), iv (2 : Int32), rv b198, .unset, .unset, .unset] [(.double (f_val (4 : Int32) i3)), (.int (4 : Int32)), (.ref b198)])) := fun t k => g224 t (st225 t k)
    obtain ⟨cl227, Ar227, q227, S227, M227, H227, G227⟩ := id V222
    obtain ⟨T228, h228, X228, e228, W228, st228⟩ := stD X225 hx hZ e225 Ar227 (j := (4 : Int32)) (inb_of S227 ⟨by decide, by decide⟩) (g := (mkF m 87 #[iv i0, iv i1, iv i2, iv i3, .val (.long i4), .second, rv b56, iv (3 : Int32), iv (2 : Int32), rv b198, .unset, .unset, .unset] [(.double (f_val (4 : Int32) i3)), (.int (4 : Int32)), (.ref b198)])) rfl rfl (hb hby at_87)
    have N228 := Fr.snoc X228 M225 ng198
    have V228 : Arv Z h228 b198 k198 .double (6 : Int32) [(.double (f_val (0 : Int32) i3)), (.double (f_val (1 : Int32) i3)), (.double (f_val (2 : Int32) i3)), (.double (f_val (3 : Int32) i3)), (.double (f_val (4 : Int32) i3)), (.double (0 : UInt64))] (.double (0 : UInt64)) := Arv.set Ar227 q227 S227 M227 H227 G227 rfl W228 4 rfl (Nat.le_of_ble_eq_true rfl)
    have g229 : Goes p e below S0 (T228.setTop (mkF m 88 #[iv i0, iv i1, iv i2, iv i3, .val (.long i4), .second, rv b56, iv (3 : Int32), iv (2 : Int32), rv b198, .unset, .unset, .unset] [])) := fun t k => g226 t (st228 t k)
    have g230 : Goes p e below S0 (T228.setTop (mkF m 93 #[iv i0, iv i1, iv i2, iv i3, .val (.long i4), .second, rv b56, iv (3 : Int32), iv (2 : Int32), rv b198, .unset, .unset, .unset] [(.int i3), (.int (5 : Int32)), (.int (5 : Int32)), (.ref b198)])) := fun t k => g229 t (by
      refine XS.aload X228.here hx rfl (hb hby at_88) rfl rfl ?_
      show Go p e below t T228 m 90 #[iv i0, iv i1, iv i2, iv i3, .val (.long i4), .second, rv b56, iv (3 : Int32), iv (2 : Int32), rv b198, .unset, .unset, .unset] [(.ref b198)]
      refine XT.iconstV X228.here hx rfl (5 : Int32) (hb hby at_90) (by decide) ?_
      show Go p e below t T228 m 91 #[iv i0, iv i1, iv i2, iv i3, .val (.long i4), .second, rv b56, iv (3 : Int32), iv (2 : Int32), rv b198, .unset, .unset, .unset] [(.int (5 : Int32)), (.ref b198)]
      refine XT.iconstV X228.here hx rfl (5 : Int32) (hb hby at_91) (by decide) ?_
      show Go p e below t T228 m 92 #[iv i0, iv i1, iv i2, iv i3, .val (.long i4), .second, rv b56, iv (3 : Int32), iv (2 : Int32), rv b198, .unset, .unset, .unset] [(.int (5 : Int32)), (.int (5 : Int32)), (.ref b198)]
      refine XS.iloadN X228.here hx rfl (hb hby at_92) rfl ?_
      show Go p e below t T228 m 93 #[iv i0, iv i1, iv i2, iv i3, .val (.long i4), .second, rv b56, iv (3 : Int32), iv (2 : Int32), rv b198, .unset, .unset, .unset] [(.int i3), (.int (5 : Int32)), (.int (5 : Int32)), (.ref b198)]
      exact k)
    obtain ⟨_, _, ⟨T231, L231, k231, n231⟩, -, X231, ⟨Lc231, hQ231, l231, y231, z231⟩, st231⟩ := Jvm.LawKit.callS X228 hx (y := (⟨"com/example/borrowed_prior/borrowedprior/model/TopicModelTopicTermPinLaw", "val", "(II)D"⟩ : MethodName)) hown (mvT hZ (hw _ (List.mem_of_getElem? (i := 2) rfl))) (mvT hZ (hw _ (List.mem_of_getElem? (i := 3) rfl))) (mvT hZ (hw _ (List.mem_of_getElem? (i := 4) rfl))) (mvT hZ (hw _ (List.mem_of_getElem? (i := 5) rfl))) (by decide) (backOf (W := 2) (rm_val l Z a0 hw [] (5 : Int32) i3  h228 n0 (Nat.le_trans Z0 (Nat.le_trans (Nat.le_trans (Nat.le_trans (Nat.le_trans (Nat.le_trans (Nat.le_trans (Nat.le_trans (Nat.le_trans (Nat.le_trans (Nat.le_trans (Nat.le_trans (Nat.le_refl _) E56.1) (Nat.le_of_eq W60.size.symm)) (Nat.le_of_eq W64.size.symm)) (Nat.le_of_eq W68.size.symm)) (Nat.le_of_eq W72.size.symm)) E198.1) (Nat.le_of_eq W204.size.symm)) (Nat.le_of_eq W210.size.symm)) (Nat.le_of_eq W216.size.symm)) (Nat.le_of_eq W222.size.symm)) (Nat.le_of_eq W228.size.symm))) ) hZ (hw _ (List.mem_of_getElem? (i := 5) rfl)) (hw _ (List.mem_of_getElem? (i := 4) rfl)) (by decide) (by decide)) (g := (mkF m 93 #[iv i0, iv i1, iv i2, iv i3, .val (.long i4), .second, rv b56, iv (3 : Int32), iv (2 : Int32), rv b198, .unset, .unset, .unset] [(.int i3), (.int (5 : Int32)), (.int (5 : Int32)), (.ref b198)])) rfl (by rw [hml]; rfl) (argsL := [(.int (5 : Int32)), (.int i3)]) (rest := [(.int (5 : Int32)), (.ref b198)]) (lenOf pd0 rfl) rfl (by show 2 * 0 + _ ≤ _; exact Nat.le_of_eq rfl) (hb hby at_93) (fun _ _ => ⟨rfl, e228, (by decide : 2 + 0 ≤ _), (by decide : 10 + 0 ≤ _)⟩)
    dsimp only [Pt.U, Pt.locs, Pt.cells, Pt.slots] at X231 l231 y231 z231 st231 hQ231
    subst l231 y231 z231
    obtain ⟨rfl, N231, e231⟩ := hQ231
    have M231 := Fr.app N228 N231
    have g232 : Goes p e below S0 (T231.setTop (mkF m 96 #[iv i0, iv i1, iv i2, iv i3, .val (.long i4), .second, rv b56, iv (3 : Int32), iv (2 : Int32), rv b198, .unset, .unset, .unset] [(.double (f_val (5 : Int32) i3)), (.int (5 : Int32)), (.ref b198)])) := fun t k => g230 t (st231 t k)
    obtain ⟨cl233, Ar233, q233, S233, M233, H233, G233⟩ := id V228
    obtain ⟨T234, h234, X234, e234, W234, st234⟩ := stD X231 hx hZ e231 Ar233 (j := (5 : Int32)) (inb_of S233 ⟨by decide, by decide⟩) (g := (mkF m 96 #[iv i0, iv i1, iv i2, iv i3, .val (.long i4), .second, rv b56, iv (3 : Int32), iv (2 : Int32), rv b198, .unset, .unset, .unset] [(.double (f_val (5 : Int32) i3)), (.int (5 : Int32)), (.ref b198)])) rfl rfl (hb hby at_96)
    have N234 := Fr.snoc X234 M231 ng198
    have V234 : Arv Z h234 b198 k198 .double (6 : Int32) [(.double (f_val (0 : Int32) i3)), (.double (f_val (1 : Int32) i3)), (.double (f_val (2 : Int32) i3)), (.double (f_val (3 : Int32) i3)), (.double (f_val (4 : Int32) i3)), (.double (f_val (5 : Int32) i3))] (.double (0 : UInt64)) := Arv.set Ar233 q233 S233 M233 H233 G233 rfl W234 5 rfl (Nat.le_of_ble_eq_true rfl)
    have g235 : Goes p e below S0 (T234.setTop (mkF m 97 #[iv i0, iv i1, iv i2, iv i3, .val (.long i4), .second, rv b56, iv (3 : Int32), iv (2 : Int32), rv b198, .unset, .unset, .unset] [])) := fun t k => g232 t (st234 t k)
    obtain ⟨T236, h236, X236, e236, E236, A236, D236, -, st236⟩ := newO X234 hx hZ hown (hw _ (List.mem_of_getElem? (i := 7) rfl)) (hw _ (List.mem_of_getElem? (i := 8) rfl)) (hw _ (List.mem_of_getElem? (i := 9) rfl)) e234 (g := (mkF m 97 #[iv i0, iv i1, iv i2, iv i3, .val (.long i4), .second, rv b56, iv (3 : Int32), iv (2 : Int32), rv b198, .unset, .unset, .unset] [])) rfl (hb hby at_97) (by decide) (by decide)
    obtain ⟨b236, gb236⟩ : ∃ z, z = h234.size := ⟨_, rfl⟩
    have sz236 : h0.size ≤ b236 := Nat.le_trans (Nat.le_trans (Nat.le_trans (Nat.le_trans (Nat.le_trans (Nat.le_trans (Nat.le_trans (Nat.le_trans (Nat.le_trans (Nat.le_trans (Nat.le_trans (Nat.le_trans (Nat.le_trans (Nat.le_refl _) E56.1) (Nat.le_of_eq W60.size.symm)) (Nat.le_of_eq W64.size.symm)) (Nat.le_of_eq W68.size.symm)) (Nat.le_of_eq W72.size.symm)) E198.1) (Nat.le_of_eq W204.size.symm)) (Nat.le_of_eq W210.size.symm)) (Nat.le_of_eq W216.size.symm)) (Nat.le_of_eq W222.size.symm)) (Nat.le_of_eq W228.size.symm)) (Nat.le_of_eq W234.size.symm)) (Nat.le_of_eq gb236.symm)
    have ng236 : n0 ≤ b236 := Nat.le_trans Z0 sz236
    rw [← gb236] at A236 D236 st236
    have F236_237 : Fld Z h236 b236 "com/example/borrowed_prior/borrowedprior/model/TopicModel" "topicCount" "I" (.int (0 : Int32)) := D236 (Or.inr (hw _ (List.mem_of_getElem? (i := 21) rfl))) (ty := .int) (by decide)
    have F236_238 : Fld Z h236 b236 "com/example/borrowed_prior/borrowedprior/model/TopicModel" "documentCount" "I" (.int (0 : Int32)) := D236 (Or.inr (hw _ (List.mem_of_getElem? (i := 23) rfl))) (ty := .int) (by decide)
    have F236_239 : Fld Z h236 b236 "com/example/borrowed_prior/borrowedprior/model/TopicModel" "termCount" "I" (.int (0 : Int32)) := D236 (Or.inr (hw _ (List.mem_of_getElem? (i := 25) rfl))) (ty := .int) (by decide)
    have F236_240 : Fld Z h236 b236 "com/example/borrowed_prior/borrowedprior/model/TopicModel" "tokenCount" "J" (.long (0 : Int64)) := D236 (Or.inr (hw _ (List.mem_of_getElem? (i := 27) rfl))) (ty := .long) (by decide)
    have F236_241 : Fld Z h236 b236 "com/example/borrowed_prior/borrowedprior/model/TopicModel" "documentTopics" "[D" .null := D236 (Or.inr (hw _ (List.mem_of_getElem? (i := 29) rfl))) (ty := (.array .double)) (by decide)
    have F236_242 : Fld Z h236 b236 "com/example/borrowed_prior/borrowedprior/model/TopicModel" "termTopics" "[D" .null := D236 (Or.inr (hw _ (List.mem_of_getElem? (i := 31) rfl))) (ty := (.array .double)) (by decide)
    have g243 : Goes p e below S0 (T236.setTop (mkF m 100 #[iv i0, iv i1, iv i2, iv i3, .val (.long i4), .second, rv b56, iv (3 : Int32), iv (2 : Int32), rv b198, .unset, .unset, .unset] [(.ref b236)])) := fun t k => g235 t (st236 t k)
    have g244 : Goes p e below S0 (T236.setTop (mkF m 113 #[iv i0, iv i1, iv i2, iv i3, .val (.long i4), .second, rv b56, iv (3 : Int32), iv (2 : Int32), rv b198, .unset, .unset, .unset] [(.int (0 : Int32)), (.long (i4 &&& (9223372036854775807 : Int64))), (.int (2 : Int32)), (.int (0 : Int32)), (.int (3 : Int32)), (.ref b236), (.ref b236)])) := fun t k => g243 t (by
      refine XS.dup X236.here hx rfl (hb hby at_100) rfl rfl ?_
      show Go p e below t T236 m 101 #[iv i0, iv i1, iv i2, iv i3, .val (.long i4), .second, rv b56, iv (3 : Int32), iv (2 : Int32), rv b198, .unset, .unset, .unset] [(.ref b236), (.ref b236)]
      refine XS.iload X236.here hx rfl (hb hby at_101) rfl ?_
      show Go p e below t T236 m 103 #[iv i0, iv i1, iv i2, iv i3, .val (.long i4), .second, rv b56, iv (3 : Int32), iv (2 : Int32), rv b198, .unset, .unset, .unset] [(.int (3 : Int32)), (.ref b236), (.ref b236)]
      refine XT.iconstV X236.here hx rfl (0 : Int32) (hb hby at_103) (by decide) ?_
      show Go p e below t T236 m 104 #[iv i0, iv i1, iv i2, iv i3, .val (.long i4), .second, rv b56, iv (3 : Int32), iv (2 : Int32), rv b198, .unset, .unset, .unset] [(.int (0 : Int32)), (.int (3 : Int32)), (.ref b236), (.ref b236)]
      refine XS.iload X236.here hx rfl (hb hby at_104) rfl ?_
      show Go p e below t T236 m 106 #[iv i0, iv i1, iv i2, iv i3, .val (.long i4), .second, rv b56, iv (3 : Int32), iv (2 : Int32), rv b198, .unset, .unset, .unset] [(.int (2 : Int32)), (.int (0 : Int32)), (.int (3 : Int32)), (.ref b236), (.ref b236)]
      refine XS.lload X236.here hx rfl (hb hby at_106) rfl ?_
      show Go p e below t T236 m 108 #[iv i0, iv i1, iv i2, iv i3, .val (.long i4), .second, rv b56, iv (3 : Int32), iv (2 : Int32), rv b198, .unset, .unset, .unset] [(.long i4), (.int (2 : Int32)), (.int (0 : Int32)), (.int (3 : Int32)), (.ref b236), (.ref b236)]
      refine Jvm.Stand.ldc2J X236 hx hown (mvT hZ (hw _ (List.mem_of_getElem? (i := 10) rfl))) (g := (mkF m 108 #[iv i0, iv i1, iv i2, iv i3, .val (.long i4), .second, rv b56, iv (3 : Int32), iv (2 : Int32), rv b198, .unset, .unset, .unset] [(.long i4), (.int (2 : Int32)), (.int (0 : Int32)), (.int (3 : Int32)), (.ref b236), (.ref b236)])) rfl (hb hby at_108) ?_
      show Go p e below t T236 m 111 #[iv i0, iv i1, iv i2, iv i3, .val (.long i4), .second, rv b56, iv (3 : Int32), iv (2 : Int32), rv b198, .unset, .unset, .unset] [(.long (9223372036854775807 : Int64)), (.long i4), (.int (2 : Int32)), (.int (0 : Int32)), (.int (3 : Int32)), (.ref b236), (.ref b236)]
      refine XS.land X236.here hx rfl (hb hby at_111) rfl ?_
      show Go p e below t T236 m 112 #[iv i0, iv i1, iv i2, iv i3, .val (.long i4), .second, rv b56, iv (3 : Int32), iv (2 : Int32), rv b198, .unset, .unset, .unset] [(.long (i4 &&& (9223372036854775807 : Int64))), (.int (2 : Int32)), (.int (0 : Int32)), (.int (3 : Int32)), (.ref b236), (.ref b236)]
      refine XT.iconstV X236.here hx rfl (0 : Int32) (hb hby at_112) (by decide) ?_
      show Go p e below t T236 m 113 #[iv i0, iv i1, iv i2, iv i3, .val (.long i4), .second, rv b56, iv (3 : Int32), iv (2 : Int32), rv b198, .unset, .unset, .unset] [(.int (0 : Int32)), (.long (i4 &&& (9223372036854775807 : Int64))), (.int (2 : Int32)), (.int (0 : Int32)), (.int (3 : Int32)), (.ref b236), (.ref b236)]
      exact k)
    obtain ⟨T245, h245, k245, X245, e245, E245, A245, st245⟩ := newP X236 hx hZ (hw _ (List.mem_of_getElem? (i := 1) rfl)) e236 (g := (mkF m 113 #[iv i0, iv i1, iv i2, iv i3, .val (.long i4), .second, rv b56, iv (3 : Int32), iv (2 : Int32), rv b198, .unset, .unset, .unset] [(.int (0 : Int32)), (.long (i4 &&& (9223372036854775807 : Int64))), (.int (2 : Int32)), (.int (0 : Int32)), (.int (3 : Int32)), (.ref b236), (.ref b236)])) rfl (hb hby at_113) rfl (by decide) (cap := 0) (by decide) (by decide) (by decide) (by decide)
    obtain ⟨b245, gb245⟩ : ∃ z, z = h236.size := ⟨_, rfl⟩
    have sz245 : h0.size ≤ b245 := Nat.le_trans (Nat.le_trans (Nat.le_trans (Nat.le_trans (Nat.le_trans (Nat.le_trans (Nat.le_trans (Nat.le_trans (Nat.le_trans (Nat.le_trans (Nat.le_trans (Nat.le_trans (Nat.le_trans (Nat.le_trans (Nat.le_refl _) E56.1) (Nat.le_of_eq W60.size.symm)) (Nat.le_of_eq W64.size.symm)) (Nat.le_of_eq W68.size.symm)) (Nat.le_of_eq W72.size.symm)) E198.1) (Nat.le_of_eq W204.size.symm)) (Nat.le_of_eq W210.size.symm)) (Nat.le_of_eq W216.size.symm)) (Nat.le_of_eq W222.size.symm)) (Nat.le_of_eq W228.size.symm)) (Nat.le_of_eq W234.size.symm)) E236.1) (Nat.le_of_eq gb245.symm)
    have ng245 : n0 ≤ b245 := Nat.le_trans Z0 sz245
    rw [← gb245] at A245 st245
    have V245 : Arv Z h245 b245 k245 .double (0 : Int32) [] (.double (0 : UInt64)) := (Arv.new A245 (by decide)).pad (pad_rep [] (.double (0 : UInt64)) 0)
    have g246 : Goes p e below S0 (T245.setTop (mkF m 115 #[iv i0, iv i1, iv i2, iv i3, .val (.long i4), .second, rv b56, iv (3 : Int32), iv (2 : Int32), rv b198, .unset, .unset, .unset] [(.ref b245), (.long (i4 &&& (9223372036854775807 : Int64))), (.int (2 : Int32)), (.int (0 : Int32)), (.int (3 : Int32)), (.ref b236), (.ref b236)])) := fun t k => g244 t (st245 t k)
    have g247 : Goes p e below S0 (T245.setTop (mkF m 117 #[iv i0, iv i1, iv i2, iv i3, .val (.long i4), .second, rv b56, iv (3 : Int32), iv (2 : Int32), rv b198, .unset, .unset, .unset] [(.ref b198), (.ref b245), (.long (i4 &&& (9223372036854775807 : Int64))), (.int (2 : Int32)), (.int (0 : Int32)), (.int (3 : Int32)), (.ref b236), (.ref b236)])) := fun t k => g246 t (by
      refine XS.aload X245.here hx rfl (hb hby at_115) rfl rfl ?_
      show Go p e below t T245 m 117 #[iv i0, iv i1, iv i2, iv i3, .val (.long i4), .second, rv b56, iv (3 : Int32), iv (2 : Int32), rv b198, .unset, .unset, .unset] [(.ref b198), (.ref b245), (.long (i4 &&& (9223372036854775807 : Int64))), (.int (2 : Int32)), (.int (0 : Int32)), (.int (3 : Int32)), (.ref b236), (.ref b236)]
      exact k)
    obtain ⟨_, _, ⟨T248, L248, k248, n248⟩, -, X248, ⟨Lc248, hQ248, l248, y248, z248⟩, st248⟩ := X245.specialBack hx (y := (⟨"com/example/borrowed_prior/borrowedprior/model/TopicModel", "<init>", "(IIIJ[D[D)V"⟩ : MethodName)) rfl hown (mvT hZ (hw _ (List.mem_of_getElem? (i := 11) rfl))) (mvT hZ (hw _ (List.mem_of_getElem? (i := 12) rfl))) (mvT hZ (hw _ (List.mem_of_getElem? (i := 13) rfl))) (by decide) (backOf (W := 1) (rm_tin l Z a0 hw [] b236 (3 : Int32) (0 : Int32) (2 : Int32) (i4 &&& (9223372036854775807 : Int64)) b245 b198 k245 (0 : Int32) [] (.double (0 : UInt64)) k198 (6 : Int32) [(.double (f_val (0 : Int32) i3)), (.double (f_val (1 : Int32) i3)), (.double (f_val (2 : Int32) i3)), (.double (f_val (3 : Int32) i3)), (.double (f_val (4 : Int32) i3)), (.double (f_val (5 : Int32) i3))] (.double (0 : UInt64)) h245 n0 (Nat.le_trans Z0 (Nat.le_trans (Nat.le_trans (Nat.le_trans (Nat.le_trans (Nat.le_trans (Nat.le_trans (Nat.le_trans (Nat.le_trans (Nat.le_trans (Nat.le_trans (Nat.le_trans (Nat.le_trans (Nat.le_trans (Nat.le_trans (Nat.le_refl _) E56.1) (Nat.le_of_eq W60.size.symm)) (Nat.le_of_eq W64.size.symm)) (Nat.le_of_eq W68.size.symm)) (Nat.le_of_eq W72.size.symm)) E198.1) (Nat.le_of_eq W204.size.symm)) (Nat.le_of_eq W210.size.symm)) (Nat.le_of_eq W216.size.symm)) (Nat.le_of_eq W222.size.symm)) (Nat.le_of_eq W228.size.symm)) (Nat.le_of_eq W234.size.symm)) E236.1) E245.1)) (A236.ext E245) (F236_237.ext E245) (F236_238.ext E245) (F236_239.ext E245) (F236_240.ext E245) (F236_241.ext E245) (F236_242.ext E245) ng236 V245 ((V234.ext E236).ext E245) (by decide) (by decide) (by decide) (own_tok i4) (by decide) (by decide) (own_p0 _ _) (own_p6 i3) (by decide) (by decide)) hZ (hw _ (List.mem_of_getElem? (i := 13) rfl)) (hw _ (List.mem_of_getElem? (i := 9) rfl)) (by decide) (by decide)) (g := (mkF m 117 #[iv i0, iv i1, iv i2, iv i3, .val (.long i4), .second, rv b56, iv (3 : Int32), iv (2 : Int32), rv b198, .unset, .unset, .unset] [(.ref b198), (.ref b245), (.long (i4 &&& (9223372036854775807 : Int64))), (.int (2 : Int32)), (.int (0 : Int32)), (.int (3 : Int32)), (.ref b236), (.ref b236)])) rfl (by rw [hml]; rfl) (Steps.refl _) (a := b236) (argsL := [(.int (3 : Int32)), (.int (0 : Int32)), (.int (2 : Int32)), (.long (i4 &&& (9223372036854775807 : Int64))), (.ref b245), (.ref b198)]) (rest := [(.ref b236)]) (lenOf pd2 rfl) rfl (by show 2 * 0 + _ ≤ _; exact Nat.le_of_eq rfl) (hb hby at_117) (fun _ _ => ⟨rfl, e245, (by decide : 4 + 0 ≤ _), (by decide : 16 + 0 ≤ _)⟩)
    dsimp only [Pt.U, Pt.locs, Pt.cells, Pt.slots] at X248 l248 y248 z248 st248 hQ248
    subst l248 y248 z248
    obtain ⟨rfl, N248, R248_0, R248_1, R248_2, R248_3, R248_4, R248_5, R248_6, R248_7⟩ := hQ248
    have M248 := Fr.app N234 N248
    have g249 : Goes p e below S0 (T248.setTop (mkF m 120 #[iv i0, iv i1, iv i2, iv i3, .val (.long i4), .second, rv b56, iv (3 : Int32), iv (2 : Int32), rv b198, .unset, .unset, .unset] [(.ref b236)])) := fun t k => g247 t (st248.trans k)
    have g250 : Goes p e below S0 (T248.setTop (mkF m 146 #[iv i0, iv i1, iv i2, iv i3, .val (.long i4), .second, rv b56, iv (3 : Int32), iv (2 : Int32), rv b198, rv b236, iv (nA3 i1), iv (nB3 i2)] [(.int (nB3 i2)), (.int (nA3 i1)), (.ref b236)])) := fun t k => g249 t (by
      refine XS.astore X248.here hx rfl (hb hby at_120) rfl rfl (l' := #[iv i0, iv i1, iv i2, iv i3, .val (.long i4), .second, rv b56, iv (3 : Int32), iv (2 : Int32), rv b198, rv b236, .unset, .unset]) rfl ?_
      show Go p e below t T248 m 122 #[iv i0, iv i1, iv i2, iv i3, .val (.long i4), .second, rv b56, iv (3 : Int32), iv (2 : Int32), rv b198, rv b236, .unset, .unset] []
      refine XS.iloadN X248.here hx rfl (hb hby at_122) rfl ?_
      show Go p e below t T248 m 123 #[iv i0, iv i1, iv i2, iv i3, .val (.long i4), .second, rv b56, iv (3 : Int32), iv (2 : Int32), rv b198, rv b236, .unset, .unset] [(.int i1)]
      refine Jvm.Stand.ldcI X248 hx hown (mvT hZ (hw _ (List.mem_of_getElem? (i := 32) rfl))) (g := (mkF m 123 #[iv i0, iv i1, iv i2, iv i3, .val (.long i4), .second, rv b56, iv (3 : Int32), iv (2 : Int32), rv b198, rv b236, .unset, .unset] [(.int i1)])) rfl (hb hby at_123) ?_
      show Go p e below t T248 m 125 #[iv i0, iv i1, iv i2, iv i3, .val (.long i4), .second, rv b56, iv (3 : Int32), iv (2 : Int32), rv b198, rv b236, .unset, .unset] [(.int (2147483647 : Int32)), (.int i1)]
      refine XS.iand X248.here hx rfl (hb hby at_125) rfl ?_
      show Go p e below t T248 m 126 #[iv i0, iv i1, iv i2, iv i3, .val (.long i4), .second, rv b56, iv (3 : Int32), iv (2 : Int32), rv b198, rv b236, .unset, .unset] [(.int (i1 &&& (2147483647 : Int32)))]
      refine XS.iload X248.here hx rfl (hb hby at_126) rfl ?_
      show Go p e below t T248 m 128 #[iv i0, iv i1, iv i2, iv i3, .val (.long i4), .second, rv b56, iv (3 : Int32), iv (2 : Int32), rv b198, rv b236, .unset, .unset] [(.int (3 : Int32)), (.int (i1 &&& (2147483647 : Int32)))]
      refine iremM X248 hx rfl (hb hby at_128) rfl (by decide) ?_
      show Go p e below t T248 m 129 #[iv i0, iv i1, iv i2, iv i3, .val (.long i4), .second, rv b56, iv (3 : Int32), iv (2 : Int32), rv b198, rv b236, .unset, .unset] [(.int ((i1 &&& (2147483647 : Int32)) % (3 : Int32)))]
      refine XS.istore X248.here hx rfl (hb hby at_129) rfl (l' := #[iv i0, iv i1, iv i2, iv i3, .val (.long i4), .second, rv b56, iv (3 : Int32), iv (2 : Int32), rv b198, rv b236, iv (nA3 i1), .unset]) rfl ?_
      show Go p e below t T248 m 131 #[iv i0, iv i1, iv i2, iv i3, .val (.long i4), .second, rv b56, iv (3 : Int32), iv (2 : Int32), rv b198, rv b236, iv (nA3 i1), .unset] []
      refine XS.iloadN X248.here hx rfl (hb hby at_131) rfl ?_
      show Go p e below t T248 m 132 #[iv i0, iv i1, iv i2, iv i3, .val (.long i4), .second, rv b56, iv (3 : Int32), iv (2 : Int32), rv b198, rv b236, iv (nA3 i1), .unset] [(.int i2)]
      refine Jvm.Stand.ldcI X248 hx hown (mvT hZ (hw _ (List.mem_of_getElem? (i := 32) rfl))) (g := (mkF m 132 #[iv i0, iv i1, iv i2, iv i3, .val (.long i4), .second, rv b56, iv (3 : Int32), iv (2 : Int32), rv b198, rv b236, iv (nA3 i1), .unset] [(.int i2)])) rfl (hb hby at_132) ?_
      show Go p e below t T248 m 134 #[iv i0, iv i1, iv i2, iv i3, .val (.long i4), .second, rv b56, iv (3 : Int32), iv (2 : Int32), rv b198, rv b236, iv (nA3 i1), .unset] [(.int (2147483647 : Int32)), (.int i2)]
      refine XS.iand X248.here hx rfl (hb hby at_134) rfl ?_
      show Go p e below t T248 m 135 #[iv i0, iv i1, iv i2, iv i3, .val (.long i4), .second, rv b56, iv (3 : Int32), iv (2 : Int32), rv b198, rv b236, iv (nA3 i1), .unset] [(.int (i2 &&& (2147483647 : Int32)))]
      refine XS.iload X248.here hx rfl (hb hby at_135) rfl ?_
      show Go p e below t T248 m 137 #[iv i0, iv i1, iv i2, iv i3, .val (.long i4), .second, rv b56, iv (3 : Int32), iv (2 : Int32), rv b198, rv b236, iv (nA3 i1), .unset] [(.int (2 : Int32)), (.int (i2 &&& (2147483647 : Int32)))]
      refine iremM X248 hx rfl (hb hby at_137) rfl (by decide) ?_
      show Go p e below t T248 m 138 #[iv i0, iv i1, iv i2, iv i3, .val (.long i4), .second, rv b56, iv (3 : Int32), iv (2 : Int32), rv b198, rv b236, iv (nA3 i1), .unset] [(.int ((i2 &&& (2147483647 : Int32)) % (2 : Int32)))]
      refine XS.istore X248.here hx rfl (hb hby at_138) rfl (l' := #[iv i0, iv i1, iv i2, iv i3, .val (.long i4), .second, rv b56, iv (3 : Int32), iv (2 : Int32), rv b198, rv b236, iv (nA3 i1), iv (nB3 i2)]) rfl ?_
      show Go p e below t T248 m 140 #[iv i0, iv i1, iv i2, iv i3, .val (.long i4), .second, rv b56, iv (3 : Int32), iv (2 : Int32), rv b198, rv b236, iv (nA3 i1), iv (nB3 i2)] []
      refine XS.aload X248.here hx rfl (hb hby at_140) rfl rfl ?_
      show Go p e below t T248 m 142 #[iv i0, iv i1, iv i2, iv i3, .val (.long i4), .second, rv b56, iv (3 : Int32), iv (2 : Int32), rv b198, rv b236, iv (nA3 i1), iv (nB3 i2)] [(.ref b236)]
      refine XS.iload X248.here hx rfl (hb hby at_142) rfl ?_
      show Go p e below t T248 m 144 #[iv i0, iv i1, iv i2, iv i3, .val (.long i4), .second, rv b56, iv (3 : Int32), iv (2 : Int32), rv b198, rv b236, iv (nA3 i1), iv (nB3 i2)] [(.int (nA3 i1)), (.ref b236)]
      refine XS.iload X248.here hx rfl (hb hby at_144) rfl ?_
      show Go p e below t T248 m 146 #[iv i0, iv i1, iv i2, iv i3, .val (.long i4), .second, rv b56, iv (3 : Int32), iv (2 : Int32), rv b198, rv b236, iv (nA3 i1), iv (nB3 i2)] [(.int (nB3 i2)), (.int (nA3 i1)), (.ref b236)]
      exact k)
    obtain ⟨cq251, kq251, q251a, q251b, q251c⟩ := isOf hZ rfl R248_1
    obtain ⟨_, _, ⟨T251, L251, k251, n251⟩, -, X251, ⟨Lc251, hQ251, l251, y251, z251⟩, st251⟩ := X248.virtualBack hx (y := (⟨"com/example/borrowed_prior/borrowedprior/model/TopicModel", "topicTerm", "(II)D"⟩ : MethodName)) (z := (⟨"com/example/borrowed_prior/borrowedprior/model/TopicModel", "topicTerm", "(II)D"⟩ : MethodName)) hown (mvT hZ (hw _ (List.mem_of_getElem? (i := 33) rfl))) (mvT hZ (hw _ (List.mem_of_getElem? (i := 34) rfl))) (notFace_of_selects (args := #[]) (mvT hZ (hw _ (List.mem_of_getElem? (i := 36) rfl)))) (mvT hZ (hw _ (List.mem_of_getElem? (i := 36) rfl))) (mvT hZ (hw _ (List.mem_of_getElem? (i := 35) rfl))) (by decide) (backOf (W := 0) (rm_tt l Z a0 hw [] b236 (nA3 i1) (nB3 i2) (3 : Int32) b198 k198 (6 : Int32) [(.double (f_val (0 : Int32) i3)), (.double (f_val (1 : Int32) i3)), (.double (f_val (2 : Int32) i3)), (.double (f_val (3 : Int32) i3)), (.double (f_val (4 : Int32) i3)), (.double (f_val (5 : Int32) i3))] (.double (0 : UInt64)) (f_val (nJ3 i1 i2) i3) T248.heap n0 (Nat.le_trans Z0 (Nat.le_trans (Nat.le_trans (Nat.le_trans (Nat.le_trans (Nat.le_trans (Nat.le_trans (Nat.le_trans (Nat.le_trans (Nat.le_trans (Nat.le_trans (Nat.le_trans (Nat.le_trans (Nat.le_trans (Nat.le_trans (Nat.le_trans (Nat.le_refl _) E56.1) (Nat.le_of_eq W60.size.symm)) (Nat.le_of_eq W64.size.symm)) (Nat.le_of_eq W68.size.symm)) (Nat.le_of_eq W72.size.symm)) E198.1) (Nat.le_of_eq W204.size.symm)) (Nat.le_of_eq W210.size.symm)) (Nat.le_of_eq W216.size.symm)) (Nat.le_of_eq W222.size.symm)) (Nat.le_of_eq W228.size.symm)) (Nat.le_of_eq W234.size.symm)) E236.1) E245.1) R248_0.1)) R248_2 R248_7 (((V234.ext E236).ext E245).keep R248_0 (ninS (Nat.ne_of_lt (Nat.lt_of_lt_of_le V234.lt (Nat.le_of_eq gb236.symm))) nin0)) (own_jin3 i1 i2) (own_jat3 i1 i2 i3)) hZ (hw _ (List.mem_of_getElem? (i := 37) rfl)) (hw _ (List.mem_of_getElem? (i := 9) rfl)) (by decide) (by decide)) q251a q251c (g := (mkF m 146 #[iv i0, iv i1, iv i2, iv i3, .val (.long i4), .second, rv b56, iv (3 : Int32), iv (2 : Int32), rv b198, rv b236, iv (nA3 i1), iv (nB3 i2)] [(.int (nB3 i2)), (.int (nA3 i1)), (.ref b236)])) rfl (by rw [hml]; rfl) (Steps.refl _) (argsL := [(.int (nA3 i1)), (.int (nB3 i2))]) (rest := []) (lenOf pd0 rfl) rfl (by show 2 * 0 + _ ≤ _; exact Nat.le_of_eq rfl) (hb hby at_146) (fun _ _ => ⟨rfl, rfl, (by decide : 4 + 0 ≤ _), (by decide : 16 + 0 ≤ _)⟩)
    dsimp only [Pt.U, Pt.locs, Pt.cells, Pt.slots] at X251 l251 y251 z251 st251 hQ251
    subst l251 y251 z251
    obtain ⟨rfl, N251, R251_0⟩ := hQ251
    have M251 := Fr.app M248 N251
    have g252 : Goes p e below S0 (T251.setTop (mkF m 149 #[iv i0, iv i1, iv i2, iv i3, .val (.long i4), .second, rv b56, iv (3 : Int32), iv (2 : Int32), rv b198, rv b236, iv (nA3 i1), iv (nB3 i2)] [(.double (f_val (nJ3 i1 i2) i3))])) := fun t k => g250 t (st251.trans k)
    have g253 : Goes p e below S0 (T251.setTop (mkF m 158 #[iv i0, iv i1, iv i2, iv i3, .val (.long i4), .second, rv b56, iv (3 : Int32), iv (2 : Int32), rv b198, rv b236, iv (nA3 i1), iv (nB3 i2)] [(.int i3), (.int (nJ3 i1 i2)), (.double (f_val (nJ3 i1 i2) i3))])) := fun t k => g252 t (by
      refine XS.iload X251.here hx rfl (hb hby at_149) rfl ?_
      show Go p e below t T251 m 151 #[iv i0, iv i1, iv i2, iv i3, .val (.long i4), .second, rv b56, iv (3 : Int32), iv (2 : Int32), rv b198, rv b236, iv (nA3 i1), iv (nB3 i2)] [(.int (nB3 i2)), (.double (f_val (nJ3 i1 i2) i3))]
      refine XS.iload X251.here hx rfl (hb hby at_151) rfl ?_
      show Go p e below t T251 m 153 #[iv i0, iv i1, iv i2, iv i3, .val (.long i4), .second, rv b56, iv (3 : Int32), iv (2 : Int32), rv b198, rv b236, iv (nA3 i1), iv (nB3 i2)] [(.int (3 : Int32)), (.int (nB3 i2)), (.double (f_val (nJ3 i1 i2) i3))]
      refine XS.imul X251.here hx rfl (hb hby at_153) rfl ?_
      show Go p e below t T251 m 154 #[iv i0, iv i1, iv i2, iv i3, .val (.long i4), .second, rv b56, iv (3 : Int32), iv (2 : Int32), rv b198, rv b236, iv (nA3 i1), iv (nB3 i2)] [(.int ((nB3 i2) * (3 : Int32))), (.double (f_val (nJ3 i1 i2) i3))]
      refine XS.iload X251.here hx rfl (hb hby at_154) rfl ?_
      show Go p e below t T251 m 156 #[iv i0, iv i1, iv i2, iv i3, .val (.long i4), .second, rv b56, iv (3 : Int32), iv (2 : Int32), rv b198, rv b236, iv (nA3 i1), iv (nB3 i2)] [(.int (nA3 i1)), (.int ((nB3 i2) * (3 : Int32))), (.double (f_val (nJ3 i1 i2) i3))]
      refine XS.iadd X251.here hx rfl (hb hby at_156) rfl ?_
      show Go p e below t T251 m 157 #[iv i0, iv i1, iv i2, iv i3, .val (.long i4), .second, rv b56, iv (3 : Int32), iv (2 : Int32), rv b198, rv b236, iv (nA3 i1), iv (nB3 i2)] [(.int (((nB3 i2) * (3 : Int32)) + (nA3 i1))), (.double (f_val (nJ3 i1 i2) i3))]
      show Go p e below t T251 m 157 #[iv i0, iv i1, iv i2, iv i3, .val (.long i4), .second, rv b56, iv (3 : Int32), iv (2 : Int32), rv b198, rv b236, iv (nA3 i1), iv (nB3 i2)] [(.int (nJ3 i1 i2)), (.double (f_val (nJ3 i1 i2) i3))]
      refine XS.iloadN X251.here hx rfl (hb hby at_157) rfl ?_
      show Go p e below t T251 m 158 #[iv i0, iv i1, iv i2, iv i3, .val (.long i4), .second, rv b56, iv (3 : Int32), iv (2 : Int32), rv b198, rv b236, iv (nA3 i1), iv (nB3 i2)] [(.int i3), (.int (nJ3 i1 i2)), (.double (f_val (nJ3 i1 i2) i3))]
      exact k)
    obtain ⟨_, _, ⟨T254, L254, k254, n254⟩, -, X254, ⟨Lc254, hQ254, l254, y254, z254⟩, st254⟩ := Jvm.LawKit.callS X251 hx (y := (⟨"com/example/borrowed_prior/borrowedprior/model/TopicModelTopicTermPinLaw", "val", "(II)D"⟩ : MethodName)) hown (mvT hZ (hw _ (List.mem_of_getElem? (i := 2) rfl))) (mvT hZ (hw _ (List.mem_of_getElem? (i := 3) rfl))) (mvT hZ (hw _ (List.mem_of_getElem? (i := 4) rfl))) (mvT hZ (hw _ (List.mem_of_getElem? (i := 5) rfl))) (by decide) (backOf (W := 2) (rm_val l Z a0 hw [] (nJ3 i1 i2) i3  T248.heap n0 (Nat.le_trans Z0 (Nat.le_trans (Nat.le_trans (Nat.le_trans (Nat.le_trans (Nat.le_trans (Nat.le_trans (Nat.le_trans (Nat.le_trans (Nat.le_trans (Nat.le_trans (Nat.le_trans (Nat.le_trans (Nat.le_trans (Nat.le_trans (Nat.le_trans (Nat.le_refl _) E56.1) (Nat.le_of_eq W60.size.symm)) (Nat.le_of_eq W64.size.symm)) (Nat.le_of_eq W68.size.symm)) (Nat.le_of_eq W72.size.symm)) E198.1) (Nat.le_of_eq W204.size.symm)) (Nat.le_of_eq W210.size.symm)) (Nat.le_of_eq W216.size.symm)) (Nat.le_of_eq W222.size.symm)) (Nat.le_of_eq W228.size.symm)) (Nat.le_of_eq W234.size.symm)) E236.1) E245.1) R248_0.1)) ) hZ (hw _ (List.mem_of_getElem? (i := 5) rfl)) (hw _ (List.mem_of_getElem? (i := 4) rfl)) (by decide) (by decide)) (g := (mkF m 158 #[iv i0, iv i1, iv i2, iv i3, .val (.long i4), .second, rv b56, iv (3 : Int32), iv (2 : Int32), rv b198, rv b236, iv (nA3 i1), iv (nB3 i2)] [(.int i3), (.int (nJ3 i1 i2)), (.double (f_val (nJ3 i1 i2) i3))])) rfl (by rw [hml]; rfl) (argsL := [(.int (nJ3 i1 i2)), (.int i3)]) (rest := [(.double (f_val (nJ3 i1 i2) i3))]) (lenOf pd0 rfl) rfl (by show 2 * 0 + _ ≤ _; exact Nat.le_of_eq rfl) (hb hby at_158) (fun _ _ => ⟨rfl, R251_0, (by decide : 4 + 0 ≤ _), (by decide : 16 + 0 ≤ _)⟩)
    dsimp only [Pt.U, Pt.locs, Pt.cells, Pt.slots] at X254 l254 y254 z254 st254 hQ254
    subst l254 y254 z254
    obtain ⟨rfl, N254, e254⟩ := hQ254
    have M254 := Fr.app M251 N254
    have g255 : Goes p e below S0 (T254.setTop (mkF m 161 #[iv i0, iv i1, iv i2, iv i3, .val (.long i4), .second, rv b56, iv (3 : Int32), iv (2 : Int32), rv b198, rv b236, iv (nA3 i1), iv (nB3 i2)] [(.double (f_val (nJ3 i1 i2) i3)), (.double (f_val (nJ3 i1 i2) i3))])) := fun t k => g253 t (st254 t k)
    have g256 : Goes p e below S0 (T254.setTop (mkF m 170 #[iv i0, iv i1, iv i2, iv i3, .val (.long i4), .second, rv b56, iv (3 : Int32), iv (2 : Int32), rv b198, rv b236, iv (nA3 i1), iv (nB3 i2)] [(.int (1 : Int32))])) := fun t k => g255 t (by
      refine XS.dcmpS X254.here hx rfl (hb hby at_161) rfl rfl ?_
      show Go p e below t T254 m 162 #[iv i0, iv i1, iv i2, iv i3, .val (.long i4), .second, rv b56, iv (3 : Int32), iv (2 : Int32), rv b198, rv b236, iv (nA3 i1), iv (nB3 i2)] [(.int (cmpValue (FP.dcmp (f_val (nJ3 i1 i2) i3) (f_val (nJ3 i1 i2) i3)) .l))]
      refine XS.ifNo X254.here hx rfl (hb hby at_162) rfl (dc_l_ne_f (own_self _ _)) ?_
      show Go p e below t T254 m 165 #[iv i0, iv i1, iv i2, iv i3, .val (.long i4), .second, rv b56, iv (3 : Int32), iv (2 : Int32), rv b198, rv b236, iv (nA3 i1), iv (nB3 i2)] []
      refine XT.iconstV X254.here hx rfl (1 : Int32) (hb hby at_165) (by decide) ?_
      show Go p e below t T254 m 166 #[iv i0, iv i1, iv i2, iv i3, .val (.long i4), .second, rv b56, iv (3 : Int32), iv (2 : Int32), rv b198, rv b236, iv (nA3 i1), iv (nB3 i2)] [(.int (1 : Int32))]
      refine XS.goto X254.here hx rfl (pc0 := 166) (pc' := 170) rfl (hb hby at_166) (by decide) (by decide) ?_
      show Go p e below t T254 m 170 #[iv i0, iv i1, iv i2, iv i3, .val (.long i4), .second, rv b56, iv (3 : Int32), iv (2 : Int32), rv b198, rv b236, iv (nA3 i1), iv (nB3 i2)] [(.int (1 : Int32))]
      exact k)
    obtain ⟨fs, hr, hrun, hended, hW, hsame⟩ := X254.leave (v := some (.int (1 : Int32))) (fun h => by rw [Bd.returns] at h; cases h)
    refine ⟨_, _, g256 _ (retN X254 hx (t := .boolean) Bd.returns (by simp) (hb hby at_170) hr), hrun, hended, _, _, rfl, ?_, ⟨_, rfl⟩, hW, hsame.mono (by decide) (by decide)⟩
    show Q_law Z i0 i1 i2 i3 i4  h0 n0 _ T254.heap _
    rw [e254]
    exact ⟨rfl, M254⟩
  · skip
    have g257 : Goes p e below S0 (T72.setTop (mkF m 39 #[iv i0, iv i1, iv i2, iv i3, .val (.long i4), .second, rv b56, iv (6 : Int32), iv (1 : Int32), .unset, .unset, .unset, .unset] [(.int (6 : Int32))])) := fun t k => g76 t (by
      refine XT.bipushV X72.here hx rfl (6 : Int32) (hb hby at_30) (by decide) ?_
      show Go p e below t T72 m 32 #[iv i0, iv i1, iv i2, iv i3, .val (.long i4), .second, rv b56, iv (6 : Int32), .unset, .unset, .unset, .unset, .unset] [(.int (6 : Int32))]
      refine XS.iload X72.here hx rfl (hb hby at_32) rfl ?_
      show Go p e below t T72 m 34 #[iv i0, iv i1, iv i2, iv i3, .val (.long i4), .second, rv b56, iv (6 : Int32), .unset, .unset, .unset, .unset, .unset] [(.int (6 : Int32)), (.int (6 : Int32))]
      refine XS.idiv X72.here hx rfl (hb hby at_34) rfl (by decide) ?_
      rw [show ((6 : Int32) / (6 : Int32)) = (1 : Int32) by decide]
      show Go p e below t T72 m 35 #[iv i0, iv i1, iv i2, iv i3, .val (.long i4), .second, rv b56, iv (6 : Int32), .unset, .unset, .unset, .unset, .unset] [(.int (1 : Int32))]
      refine XS.istore X72.here hx rfl (hb hby at_35) rfl (l' := #[iv i0, iv i1, iv i2, iv i3, .val (.long i4), .second, rv b56, iv (6 : Int32), iv (1 : Int32), .unset, .unset, .unset, .unset]) rfl ?_
      show Go p e below t T72 m 37 #[iv i0, iv i1, iv i2, iv i3, .val (.long i4), .second, rv b56, iv (6 : Int32), iv (1 : Int32), .unset, .unset, .unset, .unset] []
      refine XT.bipushV X72.here hx rfl (6 : Int32) (hb hby at_37) (by decide) ?_
      show Go p e below t T72 m 39 #[iv i0, iv i1, iv i2, iv i3, .val (.long i4), .second, rv b56, iv (6 : Int32), iv (1 : Int32), .unset, .unset, .unset, .unset] [(.int (6 : Int32))]
      exact k)
    obtain ⟨T258, h258, k258, X258, e258, E258, A258, st258⟩ := newP X72 hx hZ (hw _ (List.mem_of_getElem? (i := 1) rfl)) e72 (g := (mkF m 39 #[iv i0, iv i1, iv i2, iv i3, .val (.long i4), .second, rv b56, iv (6 : Int32), iv (1 : Int32), .unset, .unset, .unset, .unset] [(.int (6 : Int32))])) rfl (hb hby at_39) rfl (by decide) (cap := 6) (by decide) (by decide) (by decide) (by decide)
    obtain ⟨b258, gb258⟩ : ∃ z, z = h72.size := ⟨_, rfl⟩
    have sz258 : h0.size ≤ b258 := Nat.le_trans (Nat.le_trans (Nat.le_trans (Nat.le_trans (Nat.le_trans (Nat.le_trans (Nat.le_refl _) E56.1) (Nat.le_of_eq W60.size.symm)) (Nat.le_of_eq W64.size.symm)) (Nat.le_of_eq W68.size.symm)) (Nat.le_of_eq W72.size.symm)) (Nat.le_of_eq gb258.symm)
    have ng258 : n0 ≤ b258 := Nat.le_trans Z0 sz258
    rw [← gb258] at A258 st258
    have V258 : Arv Z h258 b258 k258 .double (6 : Int32) [(.double (0 : UInt64)), (.double (0 : UInt64)), (.double (0 : UInt64)), (.double (0 : UInt64)), (.double (0 : UInt64)), (.double (0 : UInt64))] (.double (0 : UInt64)) := (Arv.new A258 (by decide)).pad (pad_rep [] (.double (0 : UInt64)) 6)
    have g259 : Goes p e below S0 (T258.setTop (mkF m 41 #[iv i0, iv i1, iv i2, iv i3, .val (.long i4), .second, rv b56, iv (6 : Int32), iv (1 : Int32), .unset, .unset, .unset, .unset] [(.ref b258)])) := fun t k => g257 t (st258 t k)
    have g260 : Goes p e below S0 (T258.setTop (mkF m 48 #[iv i0, iv i1, iv i2, iv i3, .val (.long i4), .second, rv b56, iv (6 : Int32), iv (1 : Int32), rv b258, .unset, .unset, .unset] [(.int i3), (.int (0 : Int32)), (.int (0 : Int32)), (.ref b258)])) := fun t k => g259 t (by
      refine XS.astore X258.here hx rfl (hb hby at_41) rfl rfl (l' := #[iv i0, iv i1, iv i2, iv i3, .val (.long i4), .second, rv b56, iv (6 : Int32), iv (1 : Int32), rv b258, .unset, .unset, .unset]) rfl ?_
      show Go p e below t T258 m 43 #[iv i0, iv i1, iv i2, iv i3, .val (.long i4), .second, rv b56, iv (6 : Int32), iv (1 : Int32), rv b258, .unset, .unset, .unset] []
      refine XS.aload X258.here hx rfl (hb hby at_43) rfl rfl ?_
      show Go p e below t T258 m 45 #[iv i0, iv i1, iv i2, iv i3, .val (.long i4), .second, rv b56, iv (6 : Int32), iv (1 : Int32), rv b258, .unset, .unset, .unset] [(.ref b258)]
      refine XT.iconstV X258.here hx rfl (0 : Int32) (hb hby at_45) (by decide) ?_
      show Go p e below t T258 m 46 #[iv i0, iv i1, iv i2, iv i3, .val (.long i4), .second, rv b56, iv (6 : Int32), iv (1 : Int32), rv b258, .unset, .unset, .unset] [(.int (0 : Int32)), (.ref b258)]
      refine XT.iconstV X258.here hx rfl (0 : Int32) (hb hby at_46) (by decide) ?_
      show Go p e below t T258 m 47 #[iv i0, iv i1, iv i2, iv i3, .val (.long i4), .second, rv b56, iv (6 : Int32), iv (1 : Int32), rv b258, .unset, .unset, .unset] [(.int (0 : Int32)), (.int (0 : Int32)), (.ref b258)]
      refine XS.iloadN X258.here hx rfl (hb hby at_47) rfl ?_
      show Go p e below t T258 m 48 #[iv i0, iv i1, iv i2, iv i3, .val (.long i4), .second, rv b56, iv (6 : Int32), iv (1 : Int32), rv b258, .unset, .unset, .unset] [(.int i3), (.int (0 : Int32)), (.int (0 : Int32)), (.ref b258)]
      exact k)
    obtain ⟨_, _, ⟨T261, L261, k261, n261⟩, -, X261, ⟨Lc261, hQ261, l261, y261, z261⟩, st261⟩ := Jvm.LawKit.callS X258 hx (y := (⟨"com/example/borrowed_prior/borrowedprior/model/TopicModelTopicTermPinLaw", "val", "(II)D"⟩ : MethodName)) hown (mvT hZ (hw _ (List.mem_of_getElem? (i := 2) rfl))) (mvT hZ (hw _ (List.mem_of_getElem? (i := 3) rfl))) (mvT hZ (hw _ (List.mem_of_getElem? (i := 4) rfl))) (mvT hZ (hw _ (List.mem_of_getElem? (i := 5) rfl))) (by decide) (backOf (W := 2) (rm_val l Z a0 hw [] (0 : Int32) i3  h258 n0 (Nat.le_trans Z0 (Nat.le_trans (Nat.le_trans (Nat.le_trans (Nat.le_trans (Nat.le_trans (Nat.le_trans (Nat.le_refl _) E56.1) (Nat.le_of_eq W60.size.symm)) (Nat.le_of_eq W64.size.symm)) (Nat.le_of_eq W68.size.symm)) (Nat.le_of_eq W72.size.symm)) E258.1)) ) hZ (hw _ (List.mem_of_getElem? (i := 5) rfl)) (hw _ (List.mem_of_getElem? (i := 4) rfl)) (by decide) (by decide)) (g := (mkF m 48 #[iv i0, iv i1, iv i2, iv i3, .val (.long i4), .second, rv b56, iv (6 : Int32), iv (1 : Int32), rv b258, .unset, .unset, .unset] [(.int i3), (.int (0 : Int32)), (.int (0 : Int32)), (.ref b258)])) rfl (by rw [hml]; rfl) (argsL := [(.int (0 : Int32)), (.int i3)]) (rest := [(.int (0 : Int32)), (.ref b258)]) (lenOf pd0 rfl) rfl (by show 2 * 0 + _ ≤ _; exact Nat.le_of_eq rfl) (hb hby at_48) (fun _ _ => ⟨rfl, e258, (by decide : 2 + 0 ≤ _), (by decide : 10 + 0 ≤ _)⟩)
    dsimp only [Pt.U, Pt.locs, Pt.cells, Pt.slots] at X261 l261 y261 z261 st261 hQ261
    subst l261 y261 z261
    obtain ⟨rfl, N261, e261⟩ := hQ261
    have M261 := Fr.app N72 N261
    have g262 : Goes p e below S0 (T261.setTop (mkF m 51 #[iv i0, iv i1, iv i2, iv i3, .val (.long i4), .second, rv b56, iv (6 : Int32), iv (1 : Int32), rv b258, .unset, .unset, .unset] [(.double (f_val (0 : Int32) i3)), (.int (0 : Int32)), (.ref b258)])) := fun t k => g260 t (st261 t k)
    obtain ⟨cl263, Ar263, q263, S263, M263, H263, G263⟩ := id V258
    obtain ⟨T264, h264, X264, e264, W264, st264⟩ := stD X261 hx hZ e261 Ar263 (j := (0 : Int32)) (inb_of S263 ⟨by decide, by decide⟩) (g := (mkF m 51 #[iv i0, iv i1, iv i2, iv i3, .val (.long i4), .second, rv b56, iv (6 : Int32), iv (1 : Int32), rv b258, .unset, .unset, .unset] [(.double (f_val (0 : Int32) i3)), (.int (0 : Int32)), (.ref b258)])) rfl rfl (hb hby at_51)
    have N264 := Fr.snoc X264 M261 ng258
    have V264 : Arv Z h264 b258 k258 .double (6 : Int32) [(.double (f_val (0 : Int32) i3)), (.double (0 : UInt64)), (.double (0 : UInt64)), (.double (0 : UInt64)), (.double (0 : UInt64)), (.double (0 : UInt64))] (.double (0 : UInt64)) := Arv.set Ar263 q263 S263 M263 H263 G263 rfl W264 0 rfl (Nat.le_of_ble_eq_true rfl)
    have g265 : Goes p e below S0 (T264.setTop (mkF m 52 #[iv i0, iv i1, iv i2, iv i3, .val (.long i4), .second, rv b56, iv (6 : Int32), iv (1 : Int32), rv b258, .unset, .unset, .unset] [])) := fun t k => g262 t (st264 t k)
    have g266 : Goes p e below S0 (T264.setTop (mkF m 57 #[iv i0, iv i1, iv i2, iv i3, .val (.long i4), .second, rv b56, iv (6 : Int32), iv (1 : Int32), rv b258, .unset, .unset, .unset] [(.int i3), (.int (1 : Int32)), (.int (1 : Int32)), (.ref b258)])) := fun t k => g265 t (by
      refine XS.aload X264.here hx rfl (hb hby at_52) rfl rfl ?_
      show Go p e below t T264 m 54 #[iv i0, iv i1, iv i2, iv i3, .val (.long i4), .second, rv b56, iv (6 : Int32), iv (1 : Int32), rv b258, .unset, .unset, .unset] [(.ref b258)]
      refine XT.iconstV X264.here hx rfl (1 : Int32) (hb hby at_54) (by decide) ?_
      show Go p e below t T264 m 55 #[iv i0, iv i1, iv i2, iv i3, .val (.long i4), .second, rv b56, iv (6 : Int32), iv (1 : Int32), rv b258, .unset, .unset, .unset] [(.int (1 : Int32)), (.ref b258)]
      refine XT.iconstV X264.here hx rfl (1 : Int32) (hb hby at_55) (by decide) ?_
      show Go p e below t T264 m 56 #[iv i0, iv i1, iv i2, iv i3, .val (.long i4), .second, rv b56, iv (6 : Int32), iv (1 : Int32), rv b258, .unset, .unset, .unset] [(.int (1 : Int32)), (.int (1 : Int32)), (.ref b258)]
      refine XS.iloadN X264.here hx rfl (hb hby at_56) rfl ?_
      show Go p e below t T264 m 57 #[iv i0, iv i1, iv i2, iv i3, .val (.long i4), .second, rv b56, iv (6 : Int32), iv (1 : Int32), rv b258, .unset, .unset, .unset] [(.int i3), (.int (1 : Int32)), (.int (1 : Int32)), (.ref b258)]
      exact k)
    obtain ⟨_, _, ⟨T267, L267, k267, n267⟩, -, X267, ⟨Lc267, hQ267, l267, y267, z267⟩, st267⟩ := Jvm.LawKit.callS X264 hx (y := (⟨"com/example/borrowed_prior/borrowedprior/model/TopicModelTopicTermPinLaw", "val", "(II)D"⟩ : MethodName)) hown (mvT hZ (hw _ (List.mem_of_getElem? (i := 2) rfl))) (mvT hZ (hw _ (List.mem_of_getElem? (i := 3) rfl))) (mvT hZ (hw _ (List.mem_of_getElem? (i := 4) rfl))) (mvT hZ (hw _ (List.mem_of_getElem? (i := 5) rfl))) (by decide) (backOf (W := 2) (rm_val l Z a0 hw [] (1 : Int32) i3  h264 n0 (Nat.le_trans Z0 (Nat.le_trans (Nat.le_trans (Nat.le_trans (Nat.le_trans (Nat.le_trans (Nat.le_trans (Nat.le_trans (Nat.le_refl _) E56.1) (Nat.le_of_eq W60.size.symm)) (Nat.le_of_eq W64.size.symm)) (Nat.le_of_eq W68.size.symm)) (Nat.le_of_eq W72.size.symm)) E258.1) (Nat.le_of_eq W264.size.symm))) ) hZ (hw _ (List.mem_of_getElem? (i := 5) rfl)) (hw _ (List.mem_of_getElem? (i := 4) rfl)) (by decide) (by decide)) (g := (mkF m 57 #[iv i0, iv i1, iv i2, iv i3, .val (.long i4), .second, rv b56, iv (6 : Int32), iv (1 : Int32), rv b258, .unset, .unset, .unset] [(.int i3), (.int (1 : Int32)), (.int (1 : Int32)), (.ref b258)])) rfl (by rw [hml]; rfl) (argsL := [(.int (1 : Int32)), (.int i3)]) (rest := [(.int (1 : Int32)), (.ref b258)]) (lenOf pd0 rfl) rfl (by show 2 * 0 + _ ≤ _; exact Nat.le_of_eq rfl) (hb hby at_57) (fun _ _ => ⟨rfl, e264, (by decide : 2 + 0 ≤ _), (by decide : 10 + 0 ≤ _)⟩)
    dsimp only [Pt.U, Pt.locs, Pt.cells, Pt.slots] at X267 l267 y267 z267 st267 hQ267
    subst l267 y267 z267
    obtain ⟨rfl, N267, e267⟩ := hQ267
    have M267 := Fr.app N264 N267
    have g268 : Goes p e below S0 (T267.setTop (mkF m 60 #[iv i0, iv i1, iv i2, iv i3, .val (.long i4), .second, rv b56, iv (6 : Int32), iv (1 : Int32), rv b258, .unset, .unset, .unset] [(.double (f_val (1 : Int32) i3)), (.int (1 : Int32)), (.ref b258)])) := fun t k => g266 t (st267 t k)
    obtain ⟨cl269, Ar269, q269, S269, M269, H269, G269⟩ := id V264
    obtain ⟨T270, h270, X270, e270, W270, st270⟩ := stD X267 hx hZ e267 Ar269 (j := (1 : Int32)) (inb_of S269 ⟨by decide, by decide⟩) (g := (mkF m 60 #[iv i0, iv i1, iv i2, iv i3, .val (.long i4), .second, rv b56, iv (6 : Int32), iv (1 : Int32), rv b258, .unset, .unset, .unset] [(.double (f_val (1 : Int32) i3)), (.int (1 : Int32)), (.ref b258)])) rfl rfl (hb hby at_60)
    have N270 := Fr.snoc X270 M267 ng258
    have V270 : Arv Z h270 b258 k258 .double (6 : Int32) [(.double (f_val (0 : Int32) i3)), (.double (f_val (1 : Int32) i3)), (.double (0 : UInt64)), (.double (0 : UInt64)), (.double (0 : UInt64)), (.double (0 : UInt64))] (.double (0 : UInt64)) := Arv.set Ar269 q269 S269 M269 H269 G269 rfl W270 1 rfl (Nat.le_of_ble_eq_true rfl)
    have g271 : Goes p e below S0 (T270.setTop (mkF m 61 #[iv i0, iv i1, iv i2, iv i3, .val (.long i4), .second, rv b56, iv (6 : Int32), iv (1 : Int32), rv b258, .unset, .unset, .unset] [])) := fun t k => g268 t (st270 t k)
    have g272 : Goes p e below S0 (T270.setTop (mkF m 66 #[iv i0, iv i1, iv i2, iv i3, .val (.long i4), .second, rv b56, iv (6 : Int32), iv (1 : Int32), rv b258, .unset, .unset, .unset] [(.int i3), (.int (2 : Int32)), (.int (2 : Int32)), (.ref b258)])) := fun t k => g271 t (by
      refine XS.aload X270.here hx rfl (hb hby at_61) rfl rfl ?_
      show Go p e below t T270 m 63 #[iv i0, iv i1, iv i2, iv i3, .val (.long i4), .second, rv b56, iv (6 : Int32), iv (1 : Int32), rv b258, .unset, .unset, .unset] [(.ref b258)]
      refine XT.iconstV X270.here hx rfl (2 : Int32) (hb hby at_63) (by decide) ?_
      show Go p e below t T270 m 64 #[iv i0, iv i1, iv i2, iv i3, .val (.long i4), .second, rv b56, iv (6 : Int32), iv (1 : Int32), rv b258, .unset, .unset, .unset] [(.int (2 : Int32)), (.ref b258)]
      refine XT.iconstV X270.here hx rfl (2 : Int32) (hb hby at_64) (by decide) ?_
      show Go p e below t T270 m 65 #[iv i0, iv i1, iv i2, iv i3, .val (.long i4), .second, rv b56, iv (6 : Int32), iv (1 : Int32), rv b258, .unset, .unset, .unset] [(.int (2 : Int32)), (.int (2 : Int32)), (.ref b258)]
      refine XS.iloadN X270.here hx rfl (hb hby at_65) rfl ?_
      show Go p e below t T270 m 66 #[iv i0, iv i1, iv i2, iv i3, .val (.long i4), .second, rv b56, iv (6 : Int32), iv (1 : Int32), rv b258, .unset, .unset, .unset] [(.int i3), (.int (2 : Int32)), (.int (2 : Int32)), (.ref b258)]
      exact k)
    obtain ⟨_, _, ⟨T273, L273, k273, n273⟩, -, X273, ⟨Lc273, hQ273, l273, y273, z273⟩, st273⟩ := Jvm.LawKit.callS X270 hx (y := (⟨"com/example/borrowed_prior/borrowedprior/model/TopicModelTopicTermPinLaw", "val", "(II)D"⟩ : MethodName)) hown (mvT hZ (hw _ (List.mem_of_getElem? (i := 2) rfl))) (mvT hZ (hw _ (List.mem_of_getElem? (i := 3) rfl))) (mvT hZ (hw _ (List.mem_of_getElem? (i := 4) rfl))) (mvT hZ (hw _ (List.mem_of_getElem? (i := 5) rfl))) (by decide) (backOf (W := 2) (rm_val l Z a0 hw [] (2 : Int32) i3  h270 n0 (Nat.le_trans Z0 (Nat.le_trans (Nat.le_trans (Nat.le_trans (Nat.le_trans (Nat.le_trans (Nat.le_trans (Nat.le_trans (Nat.le_trans (Nat.le_refl _) E56.1) (Nat.le_of_eq W60.size.symm)) (Nat.le_of_eq W64.size.symm)) (Nat.le_of_eq W68.size.symm)) (Nat.le_of_eq W72.size.symm)) E258.1) (Nat.le_of_eq W264.size.symm)) (Nat.le_of_eq W270.size.symm))) ) hZ (hw _ (List.mem_of_getElem? (i := 5) rfl)) (hw _ (List.mem_of_getElem? (i := 4) rfl)) (by decide) (by decide)) (g := (mkF m 66 #[iv i0, iv i1, iv i2, iv i3, .val (.long i4), .second, rv b56, iv (6 : Int32), iv (1 : Int32), rv b258, .unset, .unset, .unset] [(.int i3), (.int (2 : Int32)), (.int (2 : Int32)), (.ref b258)])) rfl (by rw [hml]; rfl) (argsL := [(.int (2 : Int32)), (.int i3)]) (rest := [(.int (2 : Int32)), (.ref b258)]) (lenOf pd0 rfl) rfl (by show 2 * 0 + _ ≤ _; exact Nat.le_of_eq rfl) (hb hby at_66) (fun _ _ => ⟨rfl, e270, (by decide : 2 + 0 ≤ _), (by decide : 10 + 0 ≤ _)⟩)
    dsimp only [Pt.U, Pt.locs, Pt.cells, Pt.slots] at X273 l273 y273 z273 st273 hQ273
    subst l273 y273 z273
    obtain ⟨rfl, N273, e273⟩ := hQ273
    have M273 := Fr.app N270 N273
    have g274 : Goes p e below S0 (T273.setTop (mkF m 69 #[iv i0, iv i1, iv i2, iv i3, .val (.long i4), .second, rv b56, iv (6 : Int32), iv (1 : Int32), rv b258, .unset, .unset, .unset] [(.double (f_val (2 : Int32) i3)), (.int (2 : Int32)), (.ref b258)])) := fun t k => g272 t (st273 t k)
    obtain ⟨cl275, Ar275, q275, S275, M275, H275, G275⟩ := id V270
    obtain ⟨T276, h276, X276, e276, W276, st276⟩ := stD X273 hx hZ e273 Ar275 (j := (2 : Int32)) (inb_of S275 ⟨by decide, by decide⟩) (g := (mkF m 69 #[iv i0, iv i1, iv i2, iv i3, .val (.long i4), .second, rv b56, iv (6 : Int32), iv (1 : Int32), rv b258, .unset, .unset, .unset] [(.double (f_val (2 : Int32) i3)), (.int (2 : Int32)), (.ref b258)])) rfl rfl (hb hby at_69)
    have N276 := Fr.snoc X276 M273 ng258
    have V276 : Arv Z h276 b258 k258 .double (6 : Int32) [(.double (f_val (0 : Int32) i3)), (.double (f_val (1 : Int32) i3)), (.double (f_val (2 : Int32) i3)), (.double (0 : UInt64)), (.double (0 : UInt64)), (.double (0 : UInt64))] (.double (0 : UInt64)) := Arv.set Ar275 q275 S275 M275 H275 G275 rfl W276 2 rfl (Nat.le_of_ble_eq_true rfl)
    have g277 : Goes p e below S0 (T276.setTop (mkF m 70 #[iv i0, iv i1, iv i2, iv i3, .val (.long i4), .second, rv b56, iv (6 : Int32), iv (1 : Int32), rv b258, .unset, .unset, .unset] [])) := fun t k => g274 t (st276 t k)
    have g278 : Goes p e below S0 (T276.setTop (mkF m 75 #[iv i0, iv i1, iv i2, iv i3, .val (.long i4), .second, rv b56, iv (6 : Int32), iv (1 : Int32), rv b258, .unset, .unset, .unset] [(.int i3), (.int (3 : Int32)), (.int (3 : Int32)), (.ref b258)])) := fun t k => g277 t (by
      refine XS.aload X276.here hx rfl (hb hby at_70) rfl rfl ?_
      show Go p e below t T276 m 72 #[iv i0, iv i1, iv i2, iv i3, .val (.long i4), .second, rv b56, iv (6 : Int32), iv (1 : Int32), rv b258, .unset, .unset, .unset] [(.ref b258)]
      refine XT.iconstV X276.here hx rfl (3 : Int32) (hb hby at_72) (by decide) ?_
      show Go p e below t T276 m 73 #[iv i0, iv i1, iv i2, iv i3, .val (.long i4), .second, rv b56, iv (6 : Int32), iv (1 : Int32), rv b258, .unset, .unset, .unset] [(.int (3 : Int32)), (.ref b258)]
      refine XT.iconstV X276.here hx rfl (3 : Int32) (hb hby at_73) (by decide) ?_
      show Go p e below t T276 m 74 #[iv i0, iv i1, iv i2, iv i3, .val (.long i4), .second, rv b56, iv (6 : Int32), iv (1 : Int32), rv b258, .unset, .unset, .unset] [(.int (3 : Int32)), (.int (3 : Int32)), (.ref b258)]
      refine XS.iloadN X276.here hx rfl (hb hby at_74) rfl ?_
      show Go p e below t T276 m 75 #[iv i0, iv i1, iv i2, iv i3, .val (.long i4), .second, rv b56, iv (6 : Int32), iv (1 : Int32), rv b258, .unset, .unset, .unset] [(.int i3), (.int (3 : Int32)), (.int (3 : Int32)), (.ref b258)]
      exact k)
    obtain ⟨_, _, ⟨T279, L279, k279, n279⟩, -, X279, ⟨Lc279, hQ279, l279, y279, z279⟩, st279⟩ := Jvm.LawKit.callS X276 hx (y := (⟨"com/example/borrowed_prior/borrowedprior/model/TopicModelTopicTermPinLaw", "val", "(II)D"⟩ : MethodName)) hown (mvT hZ (hw _ (List.mem_of_getElem? (i := 2) rfl))) (mvT hZ (hw _ (List.mem_of_getElem? (i := 3) rfl))) (mvT hZ (hw _ (List.mem_of_getElem? (i := 4) rfl))) (mvT hZ (hw _ (List.mem_of_getElem? (i := 5) rfl))) (by decide) (backOf (W := 2) (rm_val l Z a0 hw [] (3 : Int32) i3  h276 n0 (Nat.le_trans Z0 (Nat.le_trans (Nat.le_trans (Nat.le_trans (Nat.le_trans (Nat.le_trans (Nat.le_trans (Nat.le_trans (Nat.le_trans (Nat.le_trans (Nat.le_refl _) E56.1) (Nat.le_of_eq W60.size.symm)) (Nat.le_of_eq W64.size.symm)) (Nat.le_of_eq W68.size.symm)) (Nat.le_of_eq W72.size.symm)) E258.1) (Nat.le_of_eq W264.size.symm)) (Nat.le_of_eq W270.size.symm)) (Nat.le_of_eq W276.size.symm))) ) hZ (hw _ (List.mem_of_getElem? (i := 5) rfl)) (hw _ (List.mem_of_getElem? (i := 4) rfl)) (by decide) (by decide)) (g := (mkF m 75 #[iv i0, iv i1, iv i2, iv i3, .val (.long i4), .second, rv b56, iv (6 : Int32), iv (1 : Int32), rv b258, .unset, .unset, .unset] [(.int i3), (.int (3 : Int32)), (.int (3 : Int32)), (.ref b258)])) rfl (by rw [hml]; rfl) (argsL := [(.int (3 : Int32)), (.int i3)]) (rest := [(.int (3 : Int32)), (.ref b258)]) (lenOf pd0 rfl) rfl (by show 2 * 0 + _ ≤ _; exact Nat.le_of_eq rfl) (hb hby at_75) (fun _ _ => ⟨rfl, e276, (by decide : 2 + 0 ≤ _), (by decide : 10 + 0 ≤ _)⟩)
    dsimp only [Pt.U, Pt.locs, Pt.cells, Pt.slots] at X279 l279 y279 z279 st279 hQ279
    subst l279 y279 z279
    obtain ⟨rfl, N279, e279⟩ := hQ279
    have M279 := Fr.app N276 N279
    have g280 : Goes p e below S0 (T279.setTop (mkF m 78 #[iv i0, iv i1, iv i2, iv i3, .val (.long i4), .second, rv b56, iv (6 : Int32), iv (1 : Int32), rv b258, .unset, .unset, .unset] [(.double (f_val (3 : Int32) i3)), (.int (3 : Int32)), (.ref b258)])) := fun t k => g278 t (st279 t k)
    obtain ⟨cl281, Ar281, q281, S281, M281, H281, G281⟩ := id V276
    obtain ⟨T282, h282, X282, e282, W282, st282⟩ := stD X279 hx hZ e279 Ar281 (j := (3 : Int32)) (inb_of S281 ⟨by decide, by decide⟩) (g := (mkF m 78 #[iv i0, iv i1, iv i2, iv i3, .val (.long i4), .second, rv b56, iv (6 : Int32), iv (1 : Int32), rv b258, .unset, .unset, .unset] [(.double (f_val (3 : Int32) i3)), (.int (3 : Int32)), (.ref b258)])) rfl rfl (hb hby at_78)
    have N282 := Fr.snoc X282 M279 ng258
    have V282 : Arv Z h282 b258 k258 .double (6 : Int32) [(.double (f_val (0 : Int32) i3)), (.double (f_val (1 : Int32) i3)), (.double (f_val (2 : Int32) i3)), (.double (f_val (3 : Int32) i3)), (.double (0 : UInt64)), (.double (0 : UInt64))] (.double (0 : UInt64)) := Arv.set Ar281 q281 S281 M281 H281 G281 rfl W282 3 rfl (Nat.le_of_ble_eq_true rfl)
    have g283 : Goes p e below S0 (T282.setTop (mkF m 79 #[iv i0, iv i1, iv i2, iv i3, .val (.long i4), .second, rv b56, iv (6 : Int32), iv (1 : Int32), rv b258, .unset, .unset, .unset] [])) := fun t k => g280 t (st282 t k)
    have g284 : Goes p e below S0 (T282.setTop (mkF m 84 #[iv i0, iv i1, iv i2, iv i3, .val (.long i4), .second, rv b56, iv (6 : Int32), iv (1 : Int32), rv b258, .unset, .unset, .unset] [(.int i3), (.int (4 : Int32)), (.int (4 : Int32)), (.ref b258)])) := fun t k => g283 t (by
      refine XS.aload X282.here hx rfl (hb hby at_79) rfl rfl ?_
      show Go p e below t T282 m 81 #[iv i0, iv i1, iv i2, iv i3, .val (.long i4), .second, rv b56, iv (6 : Int32), iv (1 : Int32), rv b258, .unset, .unset, .unset] [(.ref b258)]
      refine XT.iconstV X282.here hx rfl (4 : Int32) (hb hby at_81) (by decide) ?_
      show Go p e below t T282 m 82 #[iv i0, iv i1, iv i2, iv i3, .val (.long i4), .second, rv b56, iv (6 : Int32), iv (1 : Int32), rv b258, .unset, .unset, .unset] [(.int (4 : Int32)), (.ref b258)]
      refine XT.iconstV X282.here hx rfl (4 : Int32) (hb hby at_82) (by decide) ?_
      show Go p e below t T282 m 83 #[iv i0, iv i1, iv i2, iv i3, .val (.long i4), .second, rv b56, iv (6 : Int32), iv (1 : Int32), rv b258, .unset, .unset, .unset] [(.int (4 : Int32)), (.int (4 : Int32)), (.ref b258)]
      refine XS.iloadN X282.here hx rfl (hb hby at_83) rfl ?_
      show Go p e below t T282 m 84 #[iv i0, iv i1, iv i2, iv i3, .val (.long i4), .second, rv b56, iv (6 : Int32), iv (1 : Int32), rv b258, .unset, .unset, .unset] [(.int i3), (.int (4 : Int32)), (.int (4 : Int32)), (.ref b258)]
      exact k)
    obtain ⟨_, _, ⟨T285, L285, k285, n285⟩, -, X285, ⟨Lc285, hQ285, l285, y285, z285⟩, st285⟩ := Jvm.LawKit.callS X282 hx (y := (⟨"com/example/borrowed_prior/borrowedprior/model/TopicModelTopicTermPinLaw", "val", "(II)D"⟩ : MethodName)) hown (mvT hZ (hw _ (List.mem_of_getElem? (i := 2) rfl))) (mvT hZ (hw _ (List.mem_of_getElem? (i := 3) rfl))) (mvT hZ (hw _ (List.mem_of_getElem? (i := 4) rfl))) (mvT hZ (hw _ (List.mem_of_getElem? (i := 5) rfl))) (by decide) (backOf (W := 2) (rm_val l Z a0 hw [] (4 : Int32) i3  h282 n0 (Nat.le_trans Z0 (Nat.le_trans (Nat.le_trans (Nat.le_trans (Nat.le_trans (Nat.le_trans (Nat.le_trans (Nat.le_trans (Nat.le_trans (Nat.le_trans (Nat.le_trans (Nat.le_refl _) E56.1) (Nat.le_of_eq W60.size.symm)) (Nat.le_of_eq W64.size.symm)) (Nat.le_of_eq W68.size.symm)) (Nat.le_of_eq W72.size.symm)) E258.1) (Nat.le_of_eq W264.size.symm)) (Nat.le_of_eq W270.size.symm)) (Nat.le_of_eq W276.size.symm)) (Nat.le_of_eq W282.size.symm))) ) hZ (hw _ (List.mem_of_getElem? (i := 5) rfl)) (hw _ (List.mem_of_getElem? (i := 4) rfl)) (by decide) (by decide)) (g := (mkF m 84 #[iv i0, iv i1, iv i2, iv i3, .val (.long i4), .second, rv b56, iv (6 : Int32), iv (1 : Int32), rv b258, .unset, .unset, .unset] [(.int i3), (.int (4 : Int32)), (.int (4 : Int32)), (.ref b258)])) rfl (by rw [hml]; rfl) (argsL := [(.int (4 : Int32)), (.int i3)]) (rest := [(.int (4 : Int32)), (.ref b258)]) (lenOf pd0 rfl) rfl (by show 2 * 0 + _ ≤ _; exact Nat.le_of_eq rfl) (hb hby at_84) (fun _ _ => ⟨rfl, e282, (by decide : 2 + 0 ≤ _), (by decide : 10 + 0 ≤ _)⟩)
    dsimp only [Pt.U, Pt.locs, Pt.cells, Pt.slots] at X285 l285 y285 z285 st285 hQ285
    subst l285 y285 z285
    obtain ⟨rfl, N285, e285⟩ := hQ285
    have M285 := Fr.app N282 N285
    have g286 : Goes p e below S0 (T285.setTop (mkF m 87 #[iv i0, iv i1, iv i2, iv i3, .val (.long i4), .second, rv b56, iv (6 : Int32), iv (1 : Int32), rv b258, .unset, .unset, .unset] [(.double (f_val (4 : Int32) i3)), (.int (4 : Int32)), (.ref b258)])) := fun t k => g284 t (st285 t k)
    obtain ⟨cl287, Ar287, q287, S287, M287, H287, G287⟩ := id V282
    obtain ⟨T288, h288, X288, e288, W288, st288⟩ := stD X285 hx hZ e285 Ar287 (j := (4 : Int32)) (inb_of S287 ⟨by decide, by decide⟩) (g := (mkF m 87 #[iv i0, iv i1, iv i2, iv i3, .val (.long i4), .second, rv b56, iv (6 : Int32), iv (1 : Int32), rv b258, .unset, .unset, .unset] [(.double (f_val (4 : Int32) i3)), (.int (4 : Int32)), (.ref b258)])) rfl rfl (hb hby at_87)
    have N288 := Fr.snoc X288 M285 ng258
    have V288 : Arv Z h288 b258 k258 .double (6 : Int32) [(.double (f_val (0 : Int32) i3)), (.double (f_val (1 : Int32) i3)), (.double (f_val (2 : Int32) i3)), (.double (f_val (3 : Int32) i3)), (.double (f_val (4 : Int32) i3)), (.double (0 : UInt64))] (.double (0 : UInt64)) := Arv.set Ar287 q287 S287 M287 H287 G287 rfl W288 4 rfl (Nat.le_of_ble_eq_true rfl)
    have g289 : Goes p e below S0 (T288.setTop (mkF m 88 #[iv i0, iv i1, iv i2, iv i3, .val (.long i4), .second, rv b56, iv (6 : Int32), iv (1 : Int32), rv b258, .unset, .unset, .unset] [])) := fun t k => g286 t (st288 t k)
    have g290 : Goes p e below S0 (T288.setTop (mkF m 93 #[iv i0, iv i1, iv i2, iv i3, .val (.long i4), .second, rv b56, iv (6 : Int32), iv (1 : Int32), rv b258, .unset, .unset, .unset] [(.int i3), (.int (5 : Int32)), (.int (5 : Int32)), (.ref b258)])) := fun t k => g289 t (by
      refine XS.aload X288.here hx rfl (hb hby at_88) rfl rfl ?_
      show Go p e below t T288 m 90 #[iv i0, iv i1, iv i2, iv i3, .val (.long i4), .second, rv b56, iv (6 : Int32), iv (1 : Int32), rv b258, .unset, .unset, .unset] [(.ref b258)]
      refine XT.iconstV X288.here hx rfl (5 : Int32) (hb hby at_90) (by decide) ?_
      show Go p e below t T288 m 91 #[iv i0, iv i1, iv i2, iv i3, .val (.long i4), .second, rv b56, iv (6 : Int32), iv (1 : Int32), rv b258, .unset, .unset, .unset] [(.int (5 : Int32)), (.ref b258)]
      refine XT.iconstV X288.here hx rfl (5 : Int32) (hb hby at_91) (by decide) ?_
      show Go p e below t T288 m 92 #[iv i0, iv i1, iv i2, iv i3, .val (.long i4), .second, rv b56, iv (6 : Int32), iv (1 : Int32), rv b258, .unset, .unset, .unset] [(.int (5 : Int32)), (.int (5 : Int32)), (.ref b258)]
      refine XS.iloadN X288.here hx rfl (hb hby at_92) rfl ?_
      show Go p e below t T288 m 93 #[iv i0, iv i1, iv i2, iv i3, .val (.long i4), .second, rv b56, iv (6 : Int32), iv (1 : Int32), rv b258, .unset, .unset, .unset] [(.int i3), (.int (5 : Int32)), (.int (5 : Int32)), (.ref b258)]
      exact k)
    obtain ⟨_, _, ⟨T291, L291, k291, n291⟩, -, X291, ⟨Lc291, hQ291, l291, y291, z291⟩, st291⟩ := Jvm.LawKit.callS X288 hx (y := (⟨"com/example/borrowed_prior/borrowedprior/model/TopicModelTopicTermPinLaw", "val", "(II)D"⟩ : MethodName)) hown (mvT hZ (hw _ (List.mem_of_getElem? (i := 2) rfl))) (mvT hZ (hw _ (List.mem_of_getElem? (i := 3) rfl))) (mvT hZ (hw _ (List.mem_of_getElem? (i := 4) rfl))) (mvT hZ (hw _ (List.mem_of_getElem? (i := 5) rfl))) (by decide) (backOf (W := 2) (rm_val l Z a0 hw [] (5 : Int32) i3  h288 n0 (Nat.le_trans Z0 (Nat.le_trans (Nat.le_trans (Nat.le_trans (Nat.le_trans (Nat.le_trans (Nat.le_trans (Nat.le_trans (Nat.le_trans (Nat.le_trans (Nat.le_trans (Nat.le_trans (Nat.le_refl _) E56.1) (Nat.le_of_eq W60.size.symm)) (Nat.le_of_eq W64.size.symm)) (Nat.le_of_eq W68.size.symm)) (Nat.le_of_eq W72.size.symm)) E258.1) (Nat.le_of_eq W264.size.symm)) (Nat.le_of_eq W270.size.symm)) (Nat.le_of_eq W276.size.symm)) (Nat.le_of_eq W282.size.symm)) (Nat.le_of_eq W288.size.symm))) ) hZ (hw _ (List.mem_of_getElem? (i := 5) rfl)) (hw _ (List.mem_of_getElem? (i := 4) rfl)) (by decide) (by decide)) (g := (mkF m 93 #[iv i0, iv i1, iv i2, iv i3, .val (.long i4), .second, rv b56, iv (6 : Int32), iv (1 : Int32), rv b258, .unset, .unset, .unset] [(.int i3), (.int (5 : Int32)), (.int (5 : Int32)), (.ref b258)])) rfl (by rw [hml]; rfl) (argsL := [(.int (5 : Int32)), (.int i3)]) (rest := [(.int (5 : Int32)), (.ref b258)]) (lenOf pd0 rfl) rfl (by show 2 * 0 + _ ≤ _; exact Nat.le_of_eq rfl) (hb hby at_93) (fun _ _ => ⟨rfl, e288, (by decide : 2 + 0 ≤ _), (by decide : 10 + 0 ≤ _)⟩)
    dsimp only [Pt.U, Pt.locs, Pt.cells, Pt.slots] at X291 l291 y291 z291 st291 hQ291
    subst l291 y291 z291
    obtain ⟨rfl, N291, e291⟩ := hQ291
    have M291 := Fr.app N288 N291
    have g292 : Goes p e below S0 (T291.setTop (mkF m 96 #[iv i0, iv i1, iv i2, iv i3, .val (.long i4), .second, rv b56, iv (6 : Int32), iv (1 : Int32), rv b258, .unset, .unset, .unset] [(.double (f_val (5 : Int32) i3)), (.int (5 : Int32)), (.ref b258)])) := fun t k => g290 t (st291 t k)
    obtain ⟨cl293, Ar293, q293, S293, M293, H293, G293⟩ := id V288
    obtain ⟨T294, h294, X294, e294, W294, st294⟩ := stD X291 hx hZ e291 Ar293 (j := (5 : Int32)) (inb_of S293 ⟨by decide, by decide⟩) (g := (mkF m 96 #[iv i0, iv i1, iv i2, iv i3, .val (.long i4), .second, rv b56, iv (6 : Int32), iv (1 : Int32), rv b258, .unset, .unset, .unset] [(.double (f_val (5 : Int32) i3)), (.int (5 : Int32)), (.ref b258)])) rfl rfl (hb hby at_96)
    have N294 := Fr.snoc X294 M291 ng258
    have V294 : Arv Z h294 b258 k258 .double (6 : Int32) [(.double (f_val (0 : Int32) i3)), (.double (f_val (1 : Int32) i3)), (.double (f_val (2 : Int32) i3)), (.double (f_val (3 : Int32) i3)), (.double (f_val (4 : Int32) i3)), (.double (f_val (5 : Int32) i3))] (.double (0 : UInt64)) := Arv.set Ar293 q293 S293 M293 H293 G293 rfl W294 5 rfl (Nat.le_of_ble_eq_true rfl)
    have g295 : Goes p e below S0 (T294.setTop (mkF m 97 #[iv i0, iv i1, iv i2, iv i3, .val (.long i4), .second, rv b56, iv (6 : Int32), iv (1 : Int32), rv b258, .unset, .unset, .unset] [])) := fun t k => g292 t (st294 t k)
    obtain ⟨T296, h296, X296, e296, E296, A296, D296, -, st296⟩ := newO X294 hx hZ hown (hw _ (List.mem_of_getElem? (i := 7) rfl)) (hw _ (List.mem_of_getElem? (i := 8) rfl)) (hw _ (List.mem_of_getElem? (i := 9) rfl)) e294 (g := (mkF m 97 #[iv i0, iv i1, iv i2, iv i3, .val (.long i4), .second, rv b56, iv (6 : Int32), iv (1 : Int32), rv b258, .unset, .unset, .unset] [])) rfl (hb hby at_97) (by decide) (by decide)
    obtain ⟨b296, gb296⟩ : ∃ z, z = h294.size := ⟨_, rfl⟩
    have sz296 : h0.size ≤ b296 := Nat.le_trans (Nat.le_trans (Nat.le_trans (Nat.le_trans (Nat.le_trans (Nat.le_trans (Nat.le_trans (Nat.le_trans (Nat.le_trans (Nat.le_trans (Nat.le_trans (Nat.le_trans (Nat.le_trans (Nat.le_refl _) E56.1) (Nat.le_of_eq W60.size.symm)) (Nat.le_of_eq W64.size.symm)) (Nat.le_of_eq W68.size.symm)) (Nat.le_of_eq W72.size.symm)) E258.1) (Nat.le_of_eq W264.size.symm)) (Nat.le_of_eq W270.size.symm)) (Nat.le_of_eq W276.size.symm)) (Nat.le_of_eq W282.size.symm)) (Nat.le_of_eq W288.size.symm)) (Nat.le_of_eq W294.size.symm)) (Nat.le_of_eq gb296.symm)
    have ng296 : n0 ≤ b296 := Nat.le_trans Z0 sz296
    rw [← gb296] at A296 D296 st296
    have F296_297 : Fld Z h296 b296 "com/example/borrowed_prior/borrowedprior/model/TopicModel" "topicCount" "I" (.int (0 : Int32)) := D296 (Or.inr (hw _ (List.mem_of_getElem? (i := 21) rfl))) (ty := .int) (by decide)
    have F296_298 : Fld Z h296 b296 "com/example/borrowed_prior/borrowedprior/model/TopicModel" "documentCount" "I" (.int (0 : Int32)) := D296 (Or.inr (hw _ (List.mem_of_getElem? (i := 23) rfl))) (ty := .int) (by decide)
    have F296_299 : Fld Z h296 b296 "com/example/borrowed_prior/borrowedprior/model/TopicModel" "termCount" "I" (.int (0 : Int32)) := D296 (Or.inr (hw _ (List.mem_of_getElem? (i := 25) rfl))) (ty := .int) (by decide)
    have F296_300 : Fld Z h296 b296 "com/example/borrowed_prior/borrowedprior/model/TopicModel" "tokenCount" "J" (.long (0 : Int64)) := D296 (Or.inr (hw _ (List.mem_of_getElem? (i := 27) rfl))) (ty := .long) (by decide)
    have F296_301 : Fld Z h296 b296 "com/example/borrowed_prior/borrowedprior/model/TopicModel" "documentTopics" "[D" .null := D296 (Or.inr (hw _ (List.mem_of_getElem? (i := 29) rfl))) (ty := (.array .double)) (by decide)
    have F296_302 : Fld Z h296 b296 "com/example/borrowed_prior/borrowedprior/model/TopicModel" "termTopics" "[D" .null := D296 (Or.inr (hw _ (List.mem_of_getElem? (i := 31) rfl))) (ty := (.array .double)) (by decide)
    have g303 : Goes p e below S0 (T296.setTop (mkF m 100 #[iv i0, iv i1, iv i2, iv i3, .val (.long i4), .second, rv b56, iv (6 : Int32), iv (1 : Int32), rv b258, .unset, .unset, .unset] [(.ref b296)])) := fun t k => g295 t (st296 t k)
    have g304 : Goes p e below S0 (T296.setTop (mkF m 113 #[iv i0, iv i1, iv i2, iv i3, .val (.long i4), .second, rv b56, iv (6 : Int32), iv (1 : Int32), rv b258, .unset, .unset, .unset] [(.int (0 : Int32)), (.long (i4 &&& (9223372036854775807 : Int64))), (.int (1 : Int32)), (.int (0 : Int32)), (.int (6 : Int32)), (.ref b296), (.ref b296)])) := fun t k => g303 t (by
      refine XS.dup X296.here hx rfl (hb hby at_100) rfl rfl ?_
      show Go p e below t T296 m 101 #[iv i0, iv i1, iv i2, iv i3, .val (.long i4), .second, rv b56, iv (6 : Int32), iv (1 : Int32), rv b258, .unset, .unset, .unset] [(.ref b296), (.ref b296)]
      refine XS.iload X296.here hx rfl (hb hby at_101) rfl ?_
      show Go p e below t T296 m 103 #[iv i0, iv i1, iv i2, iv i3, .val (.long i4), .second, rv b56, iv (6 : Int32), iv (1 : Int32), rv b258, .unset, .unset, .unset] [(.int (6 : Int32)), (.ref b296), (.ref b296)]
      refine XT.iconstV X296.here hx rfl (0 : Int32) (hb hby at_103) (by decide) ?_
      show Go p e below t T296 m 104 #[iv i0, iv i1, iv i2, iv i3, .val (.long i4), .second, rv b56, iv (6 : Int32), iv (1 : Int32), rv b258, .unset, .unset, .unset] [(.int (0 : Int32)), (.int (6 : Int32)), (.ref b296), (.ref b296)]
      refine XS.iload X296.here hx rfl (hb hby at_104) rfl ?_
      show Go p e below t T296 m 106 #[iv i0, iv i1, iv i2, iv i3, .val (.long i4), .second, rv b56, iv (6 : Int32), iv (1 : Int32), rv b258, .unset, .unset, .unset] [(.int (1 : Int32)), (.int (0 : Int32)), (.int (6 : Int32)), (.ref b296), (.ref b296)]
      refine XS.lload X296.here hx rfl (hb hby at_106) rfl ?_
      show Go p e below t T296 m 108 #[iv i0, iv i1, iv i2, iv i3, .val (.long i4), .second, rv b56, iv (6 : Int32), iv (1 : Int32), rv b258, .unset, .unset, .unset] [(.long i4), (.int (1 : Int32)), (.int (0 : Int32)), (.int (6 : Int32)), (.ref b296), (.ref b296)]
      refine Jvm.Stand.ldc2J X296 hx hown (mvT hZ (hw _ (List.mem_of_getElem? (i := 10) rfl))) (g := (mkF m 108 #[iv i0, iv i1, iv i2, iv i3, .val (.long i4), .second, rv b56, iv (6 : Int32), iv (1 : Int32), rv b258, .unset, .unset, .unset] [(.long i4), (.int (1 : Int32)), (.int (0 : Int32)), (.int (6 : Int32)), (.ref b296), (.ref b296)])) rfl (hb hby at_108) ?_
      show Go p e below t T296 m 111 #[iv i0, iv i1, iv i2, iv i3, .val (.long i4), .second, rv b56, iv (6 : Int32), iv (1 : Int32), rv b258, .unset, .unset, .unset] [(.long (9223372036854775807 : Int64)), (.long i4), (.int (1 : Int32)), (.int (0 : Int32)), (.int (6 : Int32)), (.ref b296), (.ref b296)]
      refine XS.land X296.here hx rfl (hb hby at_111) rfl ?_
      show Go p e below t T296 m 112 #[iv i0, iv i1, iv i2, iv i3, .val (.long i4), .second, rv b56, iv (6 : Int32), iv (1 : Int32), rv b258, .unset, .unset, .unset] [(.long (i4 &&& (9223372036854775807 : Int64))), (.int (1 : Int32)), (.int (0 : Int32)), (.int (6 : Int32)), (.ref b296), (.ref b296)]
      refine XT.iconstV X296.here hx rfl (0 : Int32) (hb hby at_112) (by decide) ?_
      show Go p e below t T296 m 113 #[iv i0, iv i1, iv i2, iv i3, .val (.long i4), .second, rv b56, iv (6 : Int32), iv (1 : Int32), rv b258, .unset, .unset, .unset] [(.int (0 : Int32)), (.long (i4 &&& (9223372036854775807 : Int64))), (.int (1 : Int32)), (.int (0 : Int32)), (.int (6 : Int32)), (.ref b296), (.ref b296)]
      exact k)
    obtain ⟨T305, h305, k305, X305, e305, E305, A305, st305⟩ := newP X296 hx hZ (hw _ (List.mem_of_getElem? (i := 1) rfl)) e296 (g := (mkF m 113 #[iv i0, iv i1, iv i2, iv i3, .val (.long i4), .second, rv b56, iv (6 : Int32), iv (1 : Int32), rv b258, .unset, .unset, .unset] [(.int (0 : Int32)), (.long (i4 &&& (9223372036854775807 : Int64))), (.int (1 : Int32)), (.int (0 : Int32)), (.int (6 : Int32)), (.ref b296), (.ref b296)])) rfl (hb hby at_113) rfl (by decide) (cap := 0) (by decide) (by decide) (by decide) (by decide)
    obtain ⟨b305, gb305⟩ : ∃ z, z = h296.size := ⟨_, rfl⟩
    have sz305 : h0.size ≤ b305 := Nat.le_trans (Nat.le_trans (Nat.le_trans (Nat.le_trans (Nat.le_trans (Nat.le_trans (Nat.le_trans (Nat.le_trans (Nat.le_trans (Nat.le_trans (Nat.le_trans (Nat.le_trans (Nat.le_trans (Nat.le_trans (Nat.le_refl _) E56.1) (Nat.le_of_eq W60.size.symm)) (Nat.le_of_eq W64.size.symm)) (Nat.le_of_eq W68.size.symm)) (Nat.le_of_eq W72.size.symm)) E258.1) (Nat.le_of_eq W264.size.symm)) (Nat.le_of_eq W270.size.symm)) (Nat.le_of_eq W276.size.symm)) (Nat.le_of_eq W282.size.symm)) (Nat.le_of_eq W288.size.symm)) (Nat.le_of_eq W294.size.symm)) E296.1) (Nat.le_of_eq gb305.symm)
    have ng305 : n0 ≤ b305 := Nat.le_trans Z0 sz305
    rw [← gb305] at A305 st305
    have V305 : Arv Z h305 b305 k305 .double (0 : Int32) [] (.double (0 : UInt64)) := (Arv.new A305 (by decide)).pad (pad_rep [] (.double (0 : UInt64)) 0)
    have g306 : Goes p e below S0 (T305.setTop (mkF m 115 #[iv i0, iv i1, iv i2, iv i3, .val (.long i4), .second, rv b56, iv (6 : Int32), iv (1 : Int32), rv b258, .unset, .unset, .unset] [(.ref b305), (.long (i4 &&& (9223372036854775807 : Int64))), (.int (1 : Int32)), (.int (0 : Int32)), (.int (6 : Int32)), (.ref b296), (.ref b296)])) := fun t k => g304 t (st305 t k)
    have g307 : Goes p e below S0 (T305.setTop (mkF m 117 #[iv i0, iv i1, iv i2, iv i3, .val (.long i4), .second, rv b56, iv (6 : Int32), iv (1 : Int32), rv b258, .unset, .unset, .unset] [(.ref b258), (.ref b305), (.long (i4 &&& (9223372036854775807 : Int64))), (.int (1 : Int32)), (.int (0 : Int32)), (.int (6 : Int32)), (.ref b296), (.ref b296)])) := fun t k => g306 t (by
      refine XS.aload X305.here hx rfl (hb hby at_115) rfl rfl ?_
      show Go p e below t T305 m 117 #[iv i0, iv i1, iv i2, iv i3, .val (.long i4), .second, rv b56, iv (6 : Int32), iv (1 : Int32), rv b258, .unset, .unset, .unset] [(.ref b258), (.ref b305), (.long (i4 &&& (9223372036854775807 : Int64))), (.int (1 : Int32)), (.int (0 : Int32)), (.int (6 : Int32)), (.ref b296), (.ref b296)]
      exact k)
    obtain ⟨_, _, ⟨T308, L308, k308, n308⟩, -, X308, ⟨Lc308, hQ308, l308, y308, z308⟩, st308⟩ := X305.specialBack hx (y := (⟨"com/example/borrowed_prior/borrowedprior/model/TopicModel", "<init>", "(IIIJ[D[D)V"⟩ : MethodName)) rfl hown (mvT hZ (hw _ (List.mem_of_getElem? (i := 11) rfl))) (mvT hZ (hw _ (List.mem_of_getElem? (i := 12) rfl))) (mvT hZ (hw _ (List.mem_of_getElem? (i := 13) rfl))) (by decide) (backOf (W := 1) (rm_tin l Z a0 hw [] b296 (6 : Int32) (0 : Int32) (1 : Int32) (i4 &&& (9223372036854775807 : Int64)) b305 b258 k305 (0 : Int32) [] (.double (0 : UInt64)) k258 (6 : Int32) [(.double (f_val (0 : Int32) i3)), (.double (f_val (1 : Int32) i3)), (.double (f_val (2 : Int32) i3)), (.double (f_val (3 : Int32) i3)), (.double (f_val (4 : Int32) i3)), (.double (f_val (5 : Int32) i3))] (.double (0 : UInt64)) h305 n0 (Nat.le_trans Z0 (Nat.le_trans (Nat.le_trans (Nat.le_trans (Nat.le_trans (Nat.le_trans (Nat.le_trans (Nat.le_trans (Nat.le_trans (Nat.le_trans (Nat.le_trans (Nat.le_trans (Nat.le_trans (Nat.le_trans (Nat.le_trans (Nat.le_refl _) E56.1) (Nat.le_of_eq W60.size.symm)) (Nat.le_of_eq W64.size.symm)) (Nat.le_of_eq W68.size.symm)) (Nat.le_of_eq W72.size.symm)) E258.1) (Nat.le_of_eq W264.size.symm)) (Nat.le_of_eq W270.size.symm)) (Nat.le_of_eq W276.size.symm)) (Nat.le_of_eq W282.size.symm)) (Nat.le_of_eq W288.size.symm)) (Nat.le_of_eq W294.size.symm)) E296.1) E305.1)) (A296.ext E305) (F296_297.ext E305) (F296_298.ext E305) (F296_299.ext E305) (F296_300.ext E305) (F296_301.ext E305) (F296_302.ext E305) ng296 V305 ((V294.ext E296).ext E305) (by decide) (by decide) (by decide) (own_tok i4) (by decide) (by decide) (own_p0 _ _) (own_p6 i3) (by decide) (by decide)) hZ (hw _ (List.mem_of_getElem? (i := 13) rfl)) (hw _ (List.mem_of_getElem? (i := 9) rfl)) (by decide) (by decide)) (g := (mkF m 117 #[iv i0, iv i1, iv i2, iv i3, .val (.long i4), .second, rv b56, iv (6 : Int32), iv (1 : Int32), rv b258, .unset, .unset, .unset] [(.ref b258), (.ref b305), (.long (i4 &&& (9223372036854775807 : Int64))), (.int (1 : Int32)), (.int (0 : Int32)), (.int (6 : Int32)), (.ref b296), (.ref b296)])) rfl (by rw [hml]; rfl) (Steps.refl _) (a := b296) (argsL := [(.int (6 : Int32)), (.int (0 : Int32)), (.int (1 : Int32)), (.long (i4 &&& (9223372036854775807 : Int64))), (.ref b305), (.ref b258)]) (rest := [(.ref b296)]) (lenOf pd2 rfl) rfl (by show 2 * 0 + _ ≤ _; exact Nat.le_of_eq rfl) (hb hby at_117) (fun _ _ => ⟨rfl, e305, (by decide : 4 + 0 ≤ _), (by decide : 16 + 0 ≤ _)⟩)
    dsimp only [Pt.U, Pt.locs, Pt.cells, Pt.slots] at X308 l308 y308 z308 st308 hQ308
    subst l308 y308 z308
    obtain ⟨rfl, N308, R308_0, R308_1, R308_2, R308_3, R308_4, R308_5, R308_6, R308_7⟩ := hQ308
    have M308 := Fr.app N294 N308
    have g309 : Goes p e below S0 (T308.setTop (mkF m 120 #[iv i0, iv i1, iv i2, iv i3, .val (.long i4), .second, rv b56, iv (6 : Int32), iv (1 : Int32), rv b258, .unset, .unset, .unset] [(.ref b296)])) := fun t k => g307 t (st308.trans k)
    have g310 : Goes p e below S0 (T308.setTop (mkF m 146 #[iv i0, iv i1, iv i2, iv i3, .val (.long i4), .second, rv b56, iv (6 : Int32), iv (1 : Int32), rv b258, rv b296, iv (nA6 i1), iv (nB6 i2)] [(.int (nB6 i2)), (.int (nA6 i1)), (.ref b296)])) := fun t k => g309 t (by
      refine XS.astore X308.here hx rfl (hb hby at_120) rfl rfl (l' := #[iv i0, iv i1, iv i2, iv i3, .val (.long i4), .second, rv b56, iv (6 : Int32), iv (1 : Int32), rv b258, rv b296, .unset, .unset]) rfl ?_
      show Go p e below t T308 m 122 #[iv i0, iv i1, iv i2, iv i3, .val (.long i4), .second, rv b56, iv (6 : Int32), iv (1 : Int32), rv b258, rv b296, .unset, .unset] []
      refine XS.iloadN X308.here hx rfl (hb hby at_122) rfl ?_
      show Go p e below t T308 m 123 #[iv i0, iv i1, iv i2, iv i3, .val (.long i4), .second, rv b56, iv (6 : Int32), iv (1 : Int32), rv b258, rv b296, .unset, .unset] [(.int i1)]
      refine Jvm.Stand.ldcI X308 hx hown (mvT hZ (hw _ (List.mem_of_getElem? (i := 32) rfl))) (g := (mkF m 123 #[iv i0, iv i1, iv i2, iv i3, .val (.long i4), .second, rv b56, iv (6 : Int32), iv (1 : Int32), rv b258, rv b296, .unset, .unset] [(.int i1)])) rfl (hb hby at_123) ?_
      show Go p e below t T308 m 125 #[iv i0, iv i1, iv i2, iv i3, .val (.long i4), .second, rv b56, iv (6 : Int32), iv (1 : Int32), rv b258, rv b296, .unset, .unset] [(.int (2147483647 : Int32)), (.int i1)]
      refine XS.iand X308.here hx rfl (hb hby at_125) rfl ?_
      show Go p e below t T308 m 126 #[iv i0, iv i1, iv i2, iv i3, .val (.long i4), .second, rv b56, iv (6 : Int32), iv (1 : Int32), rv b258, rv b296, .unset, .unset] [(.int (i1 &&& (2147483647 : Int32)))]
      refine XS.iload X308.here hx rfl (hb hby at_126) rfl ?_
      show Go p e below t T308 m 128 #[iv i0, iv i1, iv i2, iv i3, .val (.long i4), .second, rv b56, iv (6 : Int32), iv (1 : Int32), rv b258, rv b296, .unset, .unset] [(.int (6 : Int32)), (.int (i1 &&& (2147483647 : Int32)))]
      refine iremM X308 hx rfl (hb hby at_128) rfl (by decide) ?_
      show Go p e below t T308 m 129 #[iv i0, iv i1, iv i2, iv i3, .val (.long i4), .second, rv b56, iv (6 : Int32), iv (1 : Int32), rv b258, rv b296, .unset, .unset] [(.int ((i1 &&& (2147483647 : Int32)) % (6 : Int32)))]
      refine XS.istore X308.here hx rfl (hb hby at_129) rfl (l' := #[iv i0, iv i1, iv i2, iv i3, .val (.long i4), .second, rv b56, iv (6 : Int32), iv (1 : Int32), rv b258, rv b296, iv (nA6 i1), .unset]) rfl ?_
      show Go p e below t T308 m 131 #[iv i0, iv i1, iv i2, iv i3, .val (.long i4), .second, rv b56, iv (6 : Int32), iv (1 : Int32), rv b258, rv b296, iv (nA6 i1), .unset] []
      refine XS.iloadN X308.here hx rfl (hb hby at_131) rfl ?_
      show Go p e below t T308 m 132 #[iv i0, iv i1, iv i2, iv i3, .val (.long i4), .second, rv b56, iv (6 : Int32), iv (1 : Int32), rv b258, rv b296, iv (nA6 i1), .unset] [(.int i2)]
      refine Jvm.Stand.ldcI X308 hx hown (mvT hZ (hw _ (List.mem_of_getElem? (i := 32) rfl))) (g := (mkF m 132 #[iv i0, iv i1, iv i2, iv i3, .val (.long i4), .second, rv b56, iv (6 : Int32), iv (1 : Int32), rv b258, rv b296, iv (nA6 i1), .unset] [(.int i2)])) rfl (hb hby at_132) ?_
      show Go p e below t T308 m 134 #[iv i0, iv i1, iv i2, iv i3, .val (.long i4), .second, rv b56, iv (6 : Int32), iv (1 : Int32), rv b258, rv b296, iv (nA6 i1), .unset] [(.int (2147483647 : Int32)), (.int i2)]
      refine XS.iand X308.here hx rfl (hb hby at_134) rfl ?_
      show Go p e below t T308 m 135 #[iv i0, iv i1, iv i2, iv i3, .val (.long i4), .second, rv b56, iv (6 : Int32), iv (1 : Int32), rv b258, rv b296, iv (nA6 i1), .unset] [(.int (i2 &&& (2147483647 : Int32)))]
      refine XS.iload X308.here hx rfl (hb hby at_135) rfl ?_
      show Go p e below t T308 m 137 #[iv i0, iv i1, iv i2, iv i3, .val (.long i4), .second, rv b56, iv (6 : Int32), iv (1 : Int32), rv b258, rv b296, iv (nA6 i1), .unset] [(.int (1 : Int32)), (.int (i2 &&& (2147483647 : Int32)))]
      refine iremM X308 hx rfl (hb hby at_137) rfl (by decide) ?_
      show Go p e below t T308 m 138 #[iv i0, iv i1, iv i2, iv i3, .val (.long i4), .second, rv b56, iv (6 : Int32), iv (1 : Int32), rv b258, rv b296, iv (nA6 i1), .unset] [(.int ((i2 &&& (2147483647 : Int32)) % (1 : Int32)))]
      refine XS.istore X308.here hx rfl (hb hby at_138) rfl (l' := #[iv i0, iv i1, iv i2, iv i3, .val (.long i4), .second, rv b56, iv (6 : Int32), iv (1 : Int32), rv b258, rv b296, iv (nA6 i1), iv (nB6 i2)]) rfl ?_
      show Go p e below t T308 m 140 #[iv i0, iv i1, iv i2, iv i3, .val (.long i4), .second, rv b56, iv (6 : Int32), iv (1 : Int32), rv b258, rv b296, iv (nA6 i1), iv (nB6 i2)] []
      refine XS.aload X308.here hx rfl (hb hby at_140) rfl rfl ?_
      show Go p e below t T308 m 142 #[iv i0, iv i1, iv i2, iv i3, .val (.long i4), .second, rv b56, iv (6 : Int32), iv (1 : Int32), rv b258, rv b296, iv (nA6 i1), iv (nB6 i2)] [(.ref b296)]
      refine XS.iload X308.here hx rfl (hb hby at_142) rfl ?_
      show Go p e below t T308 m 144 #[iv i0, iv i1, iv i2, iv i3, .val (.long i4), .second, rv b56, iv (6 : Int32), iv (1 : Int32), rv b258, rv b296, iv (nA6 i1), iv (nB6 i2)] [(.int (nA6 i1)), (.ref b296)]
      refine XS.iload X308.here hx rfl (hb hby at_144) rfl ?_
      show Go p e below t T308 m 146 #[iv i0, iv i1, iv i2, iv i3, .val (.long i4), .second, rv b56, iv (6 : Int32), iv (1 : Int32), rv b258, rv b296, iv (nA6 i1), iv (nB6 i2)] [(.int (nB6 i2)), (.int (nA6 i1)), (.ref b296)]
      exact k)
    obtain ⟨cq311, kq311, q311a, q311b, q311c⟩ := isOf hZ rfl R308_1
    obtain ⟨_, _, ⟨T311, L311, k311, n311⟩, -, X311, ⟨Lc311, hQ311, l311, y311, z311⟩, st311⟩ := X308.virtualBack hx (y := (⟨"com/example/borrowed_prior/borrowedprior/model/TopicModel", "topicTerm", "(II)D"⟩ : MethodName)) (z := (⟨"com/example/borrowed_prior/borrowedprior/model/TopicModel", "topicTerm", "(II)D"⟩ : MethodName)) hown (mvT hZ (hw _ (List.mem_of_getElem? (i := 33) rfl))) (mvT hZ (hw _ (List.mem_of_getElem? (i := 34) rfl))) (notFace_of_selects (args := #[]) (mvT hZ (hw _ (List.mem_of_getElem? (i := 36) rfl)))) (mvT hZ (hw _ (List.mem_of_getElem? (i := 36) rfl))) (mvT hZ (hw _ (List.mem_of_getElem? (i := 35) rfl))) (by decide) (backOf (W := 0) (rm_tt l Z a0 hw [] b296 (nA6 i1) (nB6 i2) (6 : Int32) b258 k258 (6 : Int32) [(.double (f_val (0 : Int32) i3)), (.double (f_val (1 : Int32) i3)), (.double (f_val (2 : Int32) i3)), (.double (f_val (3 : Int32) i3)), (.double (f_val (4 : Int32) i3)), (.double (f_val (5 : Int32) i3))] (.double (0 : UInt64)) (f_val (nJ6 i1 i2) i3) T308.heap n0 (Nat.le_trans Z0 (Nat.le_trans (Nat.le_trans (Nat.le_trans (Nat.le_trans (Nat.le_trans (Nat.le_trans (Nat.le_trans (Nat.le_trans (Nat.le_trans (Nat.le_trans (Nat.le_trans (Nat.le_trans (Nat.le_trans (Nat.le_trans (Nat.le_trans (Nat.le_refl _) E56.1) (Nat.le_of_eq W60.size.symm)) (Nat.le_of_eq W64.size.symm)) (Nat.le_of_eq W68.size.symm)) (Nat.le_of_eq W72.size.symm)) E258.1) (Nat.le_of_eq W264.size.symm)) (Nat.le_of_eq W270.size.symm)) (Nat.le_of_eq W276.size.symm)) (Nat.le_of_eq W282.size.symm)) (Nat.le_of_eq W288.size.symm)) (Nat.le_of_eq W294.size.symm)) E296.1) E305.1) R308_0.1)) R308_2 R308_7 (((V294.ext E296).ext E305).keep R308_0 (ninS (Nat.ne_of_lt (Nat.lt_of_lt_of_le V294.lt (Nat.le_of_eq gb296.symm))) nin0)) (own_jin6 i1 i2) (own_jat6 i1 i2 i3)) hZ (hw _ (List.mem_of_getElem? (i := 37) rfl)) (hw _ (List.mem_of_getElem? (i := 9) rfl)) (by decide) (by decide)) q311a q311c (g := (mkF m 146 #[iv i0, iv i1, iv i2, iv i3, .val (.long i4), .second, rv b56, iv (6 : Int32), iv (1 : Int32), rv b258, rv b296, iv (nA6 i1), iv (nB6 i2)] [(.int (nB6 i2)), (.int (nA6 i1)), (.ref b296)])) rfl (by rw [hml]; rfl) (Steps.refl _) (argsL := [(.int (nA6 i1)), (.int (nB6 i2))]) (rest := []) (lenOf pd0 rfl) rfl (by show 2 * 0 + _ ≤ _; exact Nat.le_of_eq rfl) (hb hby at_146) (fun _ _ => ⟨rfl, rfl, (by decide : 4 + 0 ≤ _), (by decide : 16 + 0 ≤ _)⟩)
    dsimp only [Pt.U, Pt.locs, Pt.cells, Pt.slots] at X311 l311 y311 z311 st311 hQ311
    subst l311 y311 z311
    obtain ⟨rfl, N311, R311_0⟩ := hQ311
    have M311 := Fr.app M308 N311
    have g312 : Goes p e below S0 (T311.setTop (mkF m 149 #[iv i0, iv i1, iv i2, iv i3, .val (.long i4), .second, rv b56, iv (6 : Int32), iv (1 : Int32), rv b258, rv b296, iv (nA6 i1), iv (nB6 i2)] [(.double (f_val (nJ6 i1 i2) i3))])) := fun t k => g310 t (st311.trans k)
    have g313 : Goes p e below S0 (T311.setTop (mkF m 158 #[iv i0, iv i1, iv i2, iv i3, .val (.long i4), .second, rv b56, iv (6 : Int32), iv (1 : Int32), rv b258, rv b296, iv (nA6 i1), iv (nB6 i2)] [(.int i3), (.int (nJ6 i1 i2)), (.double (f_val (nJ6 i1 i2) i3))])) := fun t k => g312 t (by
      refine XS.iload X311.here hx rfl (hb hby at_149) rfl ?_
      show Go p e below t T311 m 151 #[iv i0, iv i1, iv i2, iv i3, .val (.long i4), .second, rv b56, iv (6 : Int32), iv (1 : Int32), rv b258, rv b296, iv (nA6 i1), iv (nB6 i2)] [(.int (nB6 i2)), (.double (f_val (nJ6 i1 i2) i3))]
      refine XS.iload X311.here hx rfl (hb hby at_151) rfl ?_
      show Go p e below t T311 m 153 #[iv i0, iv i1, iv i2, iv i3, .val (.long i4), .second, rv b56, iv (6 : Int32), iv (1 : Int32), rv b258, rv b296, iv (nA6 i1), iv (nB6 i2)] [(.int (6 : Int32)), (.int (nB6 i2)), (.double (f_val (nJ6 i1 i2) i3))]
      refine XS.imul X311.here hx rfl (hb hby at_153) rfl ?_
      show Go p e below t T311 m 154 #[iv i0, iv i1, iv i2, iv i3, .val (.long i4), .second, rv b56, iv (6 : Int32), iv (1 : Int32), rv b258, rv b296, iv (nA6 i1), iv (nB6 i2)] [(.int ((nB6 i2) * (6 : Int32))), (.double (f_val (nJ6 i1 i2) i3))]
      refine XS.iload X311.here hx rfl (hb hby at_154) rfl ?_
      show Go p e below t T311 m 156 #[iv i0, iv i1, iv i2, iv i3, .val (.long i4), .second, rv b56, iv (6 : Int32), iv (1 : Int32), rv b258, rv b296, iv (nA6 i1), iv (nB6 i2)] [(.int (nA6 i1)), (.int ((nB6 i2) * (6 : Int32))), (.double (f_val (nJ6 i1 i2) i3))]
      refine XS.iadd X311.here hx rfl (hb hby at_156) rfl ?_
      show Go p e below t T311 m 157 #[iv i0, iv i1, iv i2, iv i3, .val (.long i4), .second, rv b56, iv (6 : Int32), iv (1 : Int32), rv b258, rv b296, iv (nA6 i1), iv (nB6 i2)] [(.int (((nB6 i2) * (6 : Int32)) + (nA6 i1))), (.double (f_val (nJ6 i1 i2) i3))]
      show Go p e below t T311 m 157 #[iv i0, iv i1, iv i2, iv i3, .val (.long i4), .second, rv b56, iv (6 : Int32), iv (1 : Int32), rv b258, rv b296, iv (nA6 i1), iv (nB6 i2)] [(.int (nJ6 i1 i2)), (.double (f_val (nJ6 i1 i2) i3))]
      refine XS.iloadN X311.here hx rfl (hb hby at_157) rfl ?_
      show Go p e below t T311 m 158 #[iv i0, iv i1, iv i2, iv i3, .val (.long i4), .second, rv b56, iv (6 : Int32), iv (1 : Int32), rv b258, rv b296, iv (nA6 i1), iv (nB6 i2)] [(.int i3), (.int (nJ6 i1 i2)), (.double (f_val (nJ6 i1 i2) i3))]
      exact k)
    obtain ⟨_, _, ⟨T314, L314, k314, n314⟩, -, X314, ⟨Lc314, hQ314, l314, y314, z314⟩, st314⟩ := Jvm.LawKit.callS X311 hx (y := (⟨"com/example/borrowed_prior/borrowedprior/model/TopicModelTopicTermPinLaw", "val", "(II)D"⟩ : MethodName)) hown (mvT hZ (hw _ (List.mem_of_getElem? (i := 2) rfl))) (mvT hZ (hw _ (List.mem_of_getElem? (i := 3) rfl))) (mvT hZ (hw _ (List.mem_of_getElem? (i := 4) rfl))) (mvT hZ (hw _ (List.mem_of_getElem? (i := 5) rfl))) (by decide) (backOf (W := 2) (rm_val l Z a0 hw [] (nJ6 i1 i2) i3  T308.heap n0 (Nat.le_trans Z0 (Nat.le_trans (Nat.le_trans (Nat.le_trans (Nat.le_trans (Nat.le_trans (Nat.le_trans (Nat.le_trans (Nat.le_trans (Nat.le_trans (Nat.le_trans (Nat.le_trans (Nat.le_trans (Nat.le_trans (Nat.le_trans (Nat.le_trans (Nat.le_refl _) E56.1) (Nat.le_of_eq W60.size.symm)) (Nat.le_of_eq W64.size.symm)) (Nat.le_of_eq W68.size.symm)) (Nat.le_of_eq W72.size.symm)) E258.1) (Nat.le_of_eq W264.size.symm)) (Nat.le_of_eq W270.size.symm)) (Nat.le_of_eq W276.size.symm)) (Nat.le_of_eq W282.size.symm)) (Nat.le_of_eq W288.size.symm)) (Nat.le_of_eq W294.size.symm)) E296.1) E305.1) R308_0.1)) ) hZ (hw _ (List.mem_of_getElem? (i := 5) rfl)) (hw _ (List.mem_of_getElem? (i := 4) rfl)) (by decide) (by decide)) (g := (mkF m 158 #[iv i0, iv i1, iv i2, iv i3, .val (.long i4), .second, rv b56, iv (6 : Int32), iv (1 : Int32), rv b258, rv b296, iv (nA6 i1), iv (nB6 i2)] [(.int i3), (.int (nJ6 i1 i2)), (.double (f_val (nJ6 i1 i2) i3))])) rfl (by rw [hml]; rfl) (argsL := [(.int (nJ6 i1 i2)), (.int i3)]) (rest := [(.double (f_val (nJ6 i1 i2) i3))]) (lenOf pd0 rfl) rfl (by show 2 * 0 + _ ≤ _; exact Nat.le_of_eq rfl) (hb hby at_158) (fun _ _ => ⟨rfl, R311_0, (by decide : 4 + 0 ≤ _), (by decide : 16 + 0 ≤ _)⟩)
    dsimp only [Pt.U, Pt.locs, Pt.cells, Pt.slots] at X314 l314 y314 z314 st314 hQ314
    subst l314 y314 z314
    obtain ⟨rfl, N314, e314⟩ := hQ314
    have M314 := Fr.app M311 N314
    have g315 : Goes p e below S0 (T314.setTop (mkF m 161 #[iv i0, iv i1, iv i2, iv i3, .val (.long i4), .second, rv b56, iv (6 : Int32), iv (1 : Int32), rv b258, rv b296, iv (nA6 i1), iv (nB6 i2)] [(.double (f_val (nJ6 i1 i2) i3)), (.double (f_val (nJ6 i1 i2) i3))])) := fun t k => g313 t (st314 t k)
    have g316 : Goes p e below S0 (T314.setTop (mkF m 170 #[iv i0, iv i1, iv i2, iv i3, .val (.long i4), .second, rv b56, iv (6 : Int32), iv (1 : Int32), rv b258, rv b296, iv (nA6 i1), iv (nB6 i2)] [(.int (1 : Int32))])) := fun t k => g315 t (by
      refine XS.dcmpS X314.here hx rfl (hb hby at_161) rfl rfl ?_
      show Go p e below t T314 m 162 #[iv i0, iv i1, iv i2, iv i3, .val (.long i4), .second, rv b56, iv (6 : Int32), iv (1 : Int32), rv b258, rv b296, iv (nA6 i1), iv (nB6 i2)] [(.int (cmpValue (FP.dcmp (f_val (nJ6 i1 i2) i3) (f_val (nJ6 i1 i2) i3)) .l))]
      refine XS.ifNo X314.here hx rfl (hb hby at_162) rfl (dc_l_ne_f (own_self _ _)) ?_
      show Go p e below t T314 m 165 #[iv i0, iv i1, iv i2, iv i3, .val (.long i4), .second, rv b56, iv (6 : Int32), iv (1 : Int32), rv b258, rv b296, iv (nA6 i1), iv (nB6 i2)] []
      refine XT.iconstV X314.here hx rfl (1 : Int32) (hb hby at_165) (by decide) ?_
      show Go p e below t T314 m 166 #[iv i0, iv i1, iv i2, iv i3, .val (.long i4), .second, rv b56, iv (6 : Int32), iv (1 : Int32), rv b258, rv b296, iv (nA6 i1), iv (nB6 i2)] [(.int (1 : Int32))]
      refine XS.goto X314.here hx rfl (pc0 := 166) (pc' := 170) rfl (hb hby at_166) (by decide) (by decide) ?_
      show Go p e below t T314 m 170 #[iv i0, iv i1, iv i2, iv i3, .val (.long i4), .second, rv b56, iv (6 : Int32), iv (1 : Int32), rv b258, rv b296, iv (nA6 i1), iv (nB6 i2)] [(.int (1 : Int32))]
      exact k)
    obtain ⟨fs, hr, hrun, hended, hW, hsame⟩ := X314.leave (v := some (.int (1 : Int32))) (fun h => by rw [Bd.returns] at h; cases h)
    refine ⟨_, _, g316 _ (retN X314 hx (t := .boolean) Bd.returns (by simp) (hb hby at_170) hr), hrun, hended, _, _, rfl, ?_, ⟨_, rfl⟩, hW, hsame.mono (by decide) (by decide)⟩
    show Q_law Z i0 i1 i2 i3 i4  h0 n0 _ T314.heap _
    rw [e314]
    exact ⟨rfl, M314⟩
theorem own_one (a b c d : Int32) (e : Int64) : f_law a b c d e = 1 := rfl
set_option maxRecDepth 65536 in
set_option maxHeartbeats 40000000 in
theorem comes_1 {Post : Tables → Env → Array Value → State → Outcome → State → Prop} (hpost : ∀ tb e args s v u, (limb_1_1.after args s (.returned v) u = true ∧ limb_1_2.after args s (.returned v) u = true ∧ True) → FrameEnd s (.returned v) u (Jvm.fieldLocs frame_1_writes args s ++ Jvm.arrayLocs frame_1_arrays args s ++ Jvm.staticLocs frame_1_statics s) 16 128 → Post tb e args s (.returned v) u) :
    ArmFor flags0 classFile x code maxLocals ret World_1 tables_1 room_1 Calls_1 rest_1 Pre_1 Post := by
  intro l hfl _ _ p e ha hc hk s m args below hf hA hF happ hP
  obtain ⟨hcalls, hrest, hpre⟩ := hP
  obtain ⟨-, -, -, hnamed, -, -, -, hat⟩ := (Spec.applies_iff hf).mp happ
  obtain ⟨hg, hn⟩ := and_e (Cond.before_iff.mp (show (Jvm.Cond.and given_1 narrow_1).before args s = true from hpre))
  obtain ⟨hcount, q0⟩ := and_e hg
  obtain ⟨b0, q1⟩ := and_e q0
  obtain ⟨b1, q2⟩ := and_e q1
  obtain ⟨b2, q3⟩ := and_e q2
  obtain ⟨b3, q4⟩ := and_e q3
  have b4 := q4
  obtain ⟨w0, w1, w2, w3, w4, rfl⟩ : ∃ w0 w1 w2 w3 w4 : Value, args = #[w0, w1, w2, w3, w4] := by
    have hs : args.size = 5 := by simpa [Cond.value, given_1] using hcount
    obtain ⟨L⟩ := args
    match L, hs with
    | [w0, w1, w2, w3, w4], _ => exact ⟨w0, w1, w2, w3, w4, rfl⟩
  have hw := fun d (hd : d ∈ tables_1) => atoms_spec (ws := Jvm.Cond.code x code maxLocals ret :: tables_1) hat d (List.mem_cons_of_mem _ hd)
  have hfit : Fit s := fun {y c} hc i hi => by
    obtain ⟨ha, rfl⟩ := Array.getElem?_eq_some_iff.mp hc
    have q := List.all_eq_true.mp ((Array.all_eq_true_iff_forall_mem.mp hF) _ (Array.getElem_mem ha)) i (List.mem_range.mpr hi)
    simpa [Array.getElem?_eq_getElem hi] using q
  obtain ⟨i0, r0⟩ := is_v b0
  obtain rfl : w0 = (.int i0) := Option.some.inj r0
  obtain ⟨i1, r1⟩ := is_v b1
  obtain rfl : w1 = (.int i1) := Option.some.inj r1
  obtain ⟨i2, r2⟩ := is_v b2
  obtain rfl : w2 = (.int i2) := Option.some.inj r2
  obtain ⟨i3, r3⟩ := is_v b3
  obtain rfl : w3 = (.int i3) := Option.some.inj r3
  obtain ⟨i4, r4⟩ := isL_v b4
  obtain rfl : w4 = (.long i4) := Option.some.inj r4
  obtain ⟨n, o, h1, h2, h3, v, L, rfl, ⟨hv, N⟩, hq⟩ := rm_law l s _ hw tables_1 i0 i1 i2 i3 i4  s.heap s.heap.size (Nat.le_refl _)  p e ha hc hk s m _ below hf ((Spec.applies_iff_loose hf).mp happ).1 ⟨rfl, State.Warmed39.refl s, rfl⟩ trivial
  obtain rfl : v = some (.int 1) := by rw [hv, own_one]
  refine ⟨n, _, h1, h2, h3, hpost _ _ _ _ _ _ ⟨Cond.after_iff.mpr rfl, Cond.after_iff.mpr (eq_i res_at (Term.int_eval (1)) rfl), trivial⟩ ⟨hq.1, hq.2.1, (hq.2.2.sift fun y hy => Or.inr (N y hy)).mono (by decide) (by decide)⟩⟩
theorem main_1_1 : Claimed_1_1 := comes_1 fun _ _ _ _ _ _ h hF => ⟨h.1, hF⟩
theorem main_1_2 : Claimed_1_2 := comes_1 fun _ _ _ _ _ _ h hF => ⟨h.2.1, hF⟩
end Jvm.Pilot.@@N@@
namespace Jvm.Pilot.@@N@@
open Jvm Jvm.ClassFile Sem Op Lib Jvm.Free Jvm.Stand Jvm.Pilot.@@N@@.Jvm.D
/-! MADE BY PROGRAM (witnessworld.py) out of the Statement's table words and the real class files: 11 classes; the members and pool entries that the words name. The judged class is class 1, her method 2. -/
namespace start1
open Jvm.ClassFile
def u (s : String) : CpInfo := .utf8 (stringToUtf16 s)
/-- a pool by its gaps: so many unusable entries, then the entry; so many at the end -/
def gap : Nat → List CpInfo → List CpInfo
  | 0, r => r
  | n + 1, r => .unusable :: gap n r
def poolList (es : List (Nat × CpInfo)) (last : Nat) : List CpInfo := es.foldr (fun e r => gap e.1 (e.2 :: r)) (gap last [])
def pool (es : List (Nat × CpInfo)) (last : Nat) : Array CpInfo := ⟨poolList es last⟩
def fileOf (pool : Array CpInfo) (this : Nat) (attrs : Array Attribute := #[]) (ms : Array MethodInfo := #[]) (fl : Nat := 33) (sup : Nat := 0) (ifs : Array Nat := #[]) (fds : Array FieldInfo := #[]) : ClassFile where
  minorVersion := 0
  majorVersion := 65
  constantPool := pool
  accessFlags := fl
  thisClass := this
  superClass := sup
  interfaces := ifs
  fields := fds
  methods := ms
  attributes := attrs
def plain (name : String) (sup : Option ClassId) : Class where
  name := name
  kind := .ordinary
  loader := none
  accessFlags := 33
  super := sup
  interfaces := #[]
  cf := none
  fields := #[]
  methods := #[]
  instanceTypes := #[]
  staticTypes := #[]
  resolved := #[]
  callSites := []
  init := .initialized
  statics := none
  mirror := none

def pool0 : Array CpInfo := pool [(5, u "<init>"), (0, u "()V"), (1, .class_ 10), (1, u "java/lang/Object")] 113

def k0c0 : Code := { maxStack := 0, maxLocals := 1, code := object_method_1_code, exceptionTable := #[], attributes := #[] }
def k0m0 : Method := { name := "<init>", desc := "()V", sig := { parameters := [], returnType := none }, accessFlags := 1, code := some k0c0 }
/-- java/lang/Object -/
def k0 : Class := { plain "java/lang/Object" none with
  accessFlags := 33
  interfaces := #[]
  cf := some (fileOf pool0 8 #[] #[{ accessFlags := 1, nameIndex := 5, descriptorIndex := 6, attributes := #[] }] 33 0 #[] #[])
  fields := #[]
  methods := #[k0m0]
  instanceTypes := #[]
  staticTypes := #[]
  resolved := Array.replicate 124 none
  statics := none }

def pool1 : Array CpInfo := pool [(2, .class_ 4), (1, u "java/lang/Object"), (0, u "<init>"), (0, u "()V"), (0, .double 4643211215818981376), (1, .methodref 10 11), (0, .class_ 12), (0, .nameAndType 13 14), (0, u "com/example/borrowed_prior/borrowedprior/model/TopicModelTopicTermPinLaw"), (0, u "val"), (0, u "(II)D"), (0, .class_ 16), (0, u "com/example/borrowed_prior/borrowedprior/model/TopicModel"), (2, .long 9223372036854775807), (1, .methodref 15 22), (0, .nameAndType 5 23), (0, u "(IIIJ[D[D)V"), (0, .integer 2147483647), (0, .methodref 15 26), (0, .nameAndType 27 14), (0, u "topicTerm"), (2, u "law"), (0, u "(IIIIJ)Z")] 7

def k1m0 : Method := { name := "<init>", desc := "()V", sig := { parameters := [], returnType := none }, accessFlags := 1, code := none }
def k1c1 : Code := { maxStack := 4, maxLocals := 2, code := method_2_code, exceptionTable := #[], attributes := #[] }
def k1m1 : Method := { name := "val", desc := "(II)D", sig := { parameters := [.int, .int], returnType := some .double }, accessFlags := 10, code := some k1c1 }
def k1c2 : Code := { maxStack := 9, maxLocals := 13, code := code, exceptionTable := #[], attributes := #[] }
def k1m2 : Method := { name := "law", desc := "(IIIIJ)Z", sig := { parameters := [.int, .int, .int, .int, .long], returnType := some .boolean }, accessFlags := 9, code := some k1c2 }
/-- com/example/borrowed_prior/borrowedprior/model/TopicModelTopicTermPinLaw -/
def k1 : Class := { plain "com/example/borrowed_prior/borrowedprior/model/TopicModelTopicTermPinLaw" (some 0) with
  accessFlags := 49
  interfaces := #[]
  cf := some (fileOf pool1 10 #[] #[{ accessFlags := 1, nameIndex := 5, descriptorIndex := 6, attributes := #[] }, { accessFlags := 10, nameIndex := 13, descriptorIndex := 14, attributes := #[] }, { accessFlags := 9, nameIndex := 30, descriptorIndex := 31, attributes := #[] }] 49 2 #[] #[])
  fields := #[]
  methods := #[k1m0, k1m1, k1m2]
  instanceTypes := #[]
  staticTypes := #[]
  resolved := Array.replicate 39 none
  statics := none }

def pool2 : Array CpInfo := pool [(1, .methodref 2 3), (0, .class_ 4), (0, .nameAndType 5 6), (0, u "java/lang/Object"), (0, u "<init>"), (0, u "()V"), (11, .methodref 19 20), (0, .class_ 21), (0, .nameAndType 22 23), (0, u "com/example/borrowed_prior/borrowedprior/model/TopicModel"), (0, u "requireProbabilities"), (0, u "([D)V"), (0, .fieldref 19 25), (0, .nameAndType 26 27), (0, u "topicCount"), (0, u "I"), (0, .fieldref 19 29), (0, .nameAndType 30 27), (0, u "documentCount"), (0, .fieldref 19 32), (0, .nameAndType 33 27), (0, u "termCount"), (0, .fieldref 19 35), (0, .nameAndType 36 37), (0, u "tokenCount"), (0, u "J"), (0, .fieldref 19 39), (0, .nameAndType 40 41), (0, u "documentTopics"), (0, u "[D"), (0, .fieldref 19 43), (0, .nameAndType 44 41), (0, u "termTopics"), (51, u "(II)D"), (8, u "(IIIJ[D[D)V"), (19, u "topicTerm")] 24

def k2c0 : Code := { maxStack := 7, maxLocals := 8, code := prog_37_method_1_code, exceptionTable := #[], attributes := #[] }
def k2m0 : Method := { name := "<init>", desc := "(IIIJ[D[D)V", sig := { parameters := [.int, .int, .int, .long, (.array .double), (.array .double)], returnType := none }, accessFlags := 1, code := some k2c0 }
def k2c1 : Code := { maxStack := 3, maxLocals := 3, code := prog_37_method_9_code, exceptionTable := #[], attributes := #[] }
def k2m1 : Method := { name := "topicTerm", desc := "(II)D", sig := { parameters := [.int, .int], returnType := some .double }, accessFlags := 1, code := some k2c1 }
def k2c2 : Code := { maxStack := 4, maxLocals := 6, code := prog_37_method_12_code, exceptionTable := #[], attributes := #[] }
def k2m2 : Method := { name := "requireProbabilities", desc := "([D)V", sig := { parameters := [(.array .double)], returnType := none }, accessFlags := 10, code := some k2c2 }
/-- com/example/borrowed_prior/borrowedprior/model/TopicModel -/
def k2 : Class := { plain "com/example/borrowed_prior/borrowedprior/model/TopicModel" (some 0) with
  accessFlags := 49
  interfaces := #[]
  cf := some (fileOf pool2 19 #[] #[{ accessFlags := 1, nameIndex := 5, descriptorIndex := 105, attributes := #[] }, { accessFlags := 1, nameIndex := 125, descriptorIndex := 96, attributes := #[] }, { accessFlags := 10, nameIndex := 22, descriptorIndex := 23, attributes := #[] }] 49 2 #[] #[{ accessFlags := 18, nameIndex := 26, descriptorIndex := 27, attributes := #[] }, { accessFlags := 18, nameIndex := 30, descriptorIndex := 27, attributes := #[] }, { accessFlags := 18, nameIndex := 33, descriptorIndex := 27, attributes := #[] }, { accessFlags := 18, nameIndex := 36, descriptorIndex := 37, attributes := #[] }, { accessFlags := 18, nameIndex := 40, descriptorIndex := 41, attributes := #[] }, { accessFlags := 18, nameIndex := 44, descriptorIndex := 41, attributes := #[] }])
  fields := #[{ name := "topicCount", type := .int, accessFlags := 18, slot := 0, constantValue := 0 }, { name := "documentCount", type := .int, accessFlags := 18, slot := 1, constantValue := 0 }, { name := "termCount", type := .int, accessFlags := 18, slot := 2, constantValue := 0 }, { name := "tokenCount", type := .long, accessFlags := 18, slot := 3, constantValue := 0 }, { name := "documentTopics", type := (.array .double), accessFlags := 18, slot := 4, constantValue := 0 }, { name := "termTopics", type := (.array .double), accessFlags := 18, slot := 5, constantValue := 0 }]
  methods := #[k2m0, k2m1, k2m2]
  instanceTypes := #[.int, .int, .int, .long, (.array .double), (.array .double)]
  staticTypes := #[]
  resolved := Array.replicate 150 none
  statics := none }

def pool3 : Array CpInfo := pool [(1, u "java/lang/Cloneable"), (0, .class_ 1), (0, u "java/lang/Object"), (0, .class_ 3)] 3

/-- java/lang/Cloneable -/
def k3 : Class := { plain "java/lang/Cloneable" (some 0) with
  accessFlags := 1537
  interfaces := #[]
  cf := some (fileOf pool3 2 #[] #[] 1537 4 #[] #[])
  fields := #[]
  methods := #[]
  instanceTypes := #[]
  staticTypes := #[]
  resolved := Array.replicate 8 none
  statics := none }

def pool4 : Array CpInfo := pool [(1, u "java/io/Serializable"), (0, .class_ 1), (0, u "java/lang/Object"), (0, .class_ 3)] 3

/-- java/io/Serializable -/
def k4 : Class := { plain "java/io/Serializable" (some 0) with
  accessFlags := 1537
  interfaces := #[]
  cf := some (fileOf pool4 2 #[] #[] 1537 4 #[] #[])
  fields := #[]
  methods := #[]
  instanceTypes := #[]
  staticTypes := #[]
  resolved := Array.replicate 8 none
  statics := none }

/-- the primitive byte -/
def k5 : Class := { plain "byte" none with kind := .primitive 'B', accessFlags := 0x411 }
/-- [B -/
def k6 : Class := { plain "[B" (some 0) with kind := .array 5 .byte, interfaces := #[3, 4], accessFlags := 1041 }

/-- the primitive double -/
def k7 : Class := { plain "double" none with kind := .primitive 'D', accessFlags := 0x411 }
/-- [D -/
def k8 : Class := { plain "[D" (some 0) with kind := .array 7 .double, interfaces := #[3, 4], accessFlags := 1041 }

/-- the primitive int -/
def k9 : Class := { plain "int" none with kind := .primitive 'I', accessFlags := 0x411 }
/-- [I -/
def k10 : Class := { plain "[I" (some 0) with kind := .array 9 .int, interfaces := #[3, 4], accessFlags := 1041 }

def heap : Heap := #[]
def classes : Array Class := #[k0, k1, k2, k3, k4, k5, k6, k7, k8, k9, k10]
def interned : List (Array UInt16 × Addr) := []
def slotsUsed : Nat := 0
def theMethod : MethodId := ⟨1, 2⟩
def args0 : Array Value := #[.int 5, .int 7, .int 9, .int 11, .long 13]
def aboutOver (below : List Frame) : State where
  vm := { classes := classes, interned := interned.toArray }
  heap := heap
  slotsUsed := slotsUsed
  threads := #[{ frames := .invoking theMethod args0 :: below }]
def below0 : List Frame := [.native { method := ⟨0, 0⟩, args := #[] }]
def about1 : State := aboutOver below0
def p0 : Program := .bare "" "" ""
def e0 : Env := launch0.env 0 0 0
theorem w_frames : about1.frames = Frame.invoking theMethod args0 :: below0 := rfl
set_option maxRecDepth 65536 in
theorem w_args : argsFit about1.vm theMethod args0 = true := by decide +kernel
set_option maxRecDepth 65536 in
theorem w_heap : heapFits about1 = true := by decide +kernel
set_option maxRecDepth 65536 in
theorem w_runnable : about1.curStatus? = some .runnable := by decide +kernel
set_option maxRecDepth 65536 in
theorem w_alone : about1.alone = true := by decide +kernel
set_option maxRecDepth 65536 in
theorem w_named : about1.methodNamed? x = some theMethod := by decide +kernel
set_option maxRecDepth 65536 in
theorem w_hears : about1.hears theMethod below0 = true := by decide +kernel
set_option maxRecDepth 65536 in
theorem w_ripe : about1.ripe theMethod args0 below0 = true := by decide +kernel
theorem w_running : about1.status = .running := rfl
set_option maxRecDepth 65536 in
theorem w_room : about1.hasRoom e0.platform room_1 = true :=
  launch0.hasRoom_least _ room_1 (by decide +kernel) (by decide +kernel) (by decide +kernel) (by decide +kernel) (by decide +kernel) (by decide +kernel)
theorem allAtoms_all (ts : List Jvm.Cond) (a : Array Jvm.Value) (st : Jvm.State) : (allAtoms ts).before a st = ts.all (fun c => c.before a st) := by
  induction ts with
  | nil => rfl
  | cons c t ih =>
    show (Jvm.Cond.and c (allAtoms t)).before a st = _
    rw [Jvm.Cond.before_and, ih, List.all_cons]
def words1 : List Jvm.Cond := Jvm.Cond.code x code maxLocals ret :: tables_1
/-- a 'code' word, met by the world's own term for the bytes: nothing is compared byte by byte -/
theorem code_word {y : MethodName} {bytes : ByteArray} {mx : Nat} {rt : Option FieldType} {a : Array Value} {s : State} {m : MethodId} {meth : Method} {c : Code} (h1 : s.methodNamed? y = some m) (h2 : s.vm.method? m = some meth) (h3 : meth.code = some c) (h4 : c.code = bytes)
    (h5 : (c.maxLocals == mx && c.exceptionTable.isEmpty && decide (c.maxStack ≤ mostOperands) && decide (meth.sig.returnType = rt) && !meth.locks && decide (parseMethodDescriptor y.desc = some meth.sig)) = true) : (Jvm.Cond.code y bytes mx rt).before a s = true := by
  simp only [Bool.and_eq_true, beq_iff_eq, Bool.not_eq_true', decide_eq_true_eq] at h5
  obtain ⟨⟨⟨⟨⟨g1, g2⟩, g3⟩, g4⟩, g5⟩, g6⟩ := h5
  simp [Cond.before, Cond.holds, Cond.value, h1, h2, h3, h4, g1, g2, g3, g4, g5, g6]
def isCode : Jvm.Cond → Bool
  | .code _ _ _ _ => true
  | _ => false
theorem all_split {L : List Jvm.Cond} {P : Jvm.Cond → Bool} (h1 : L.all (fun c => isCode c || P c) = true) (h2 : ∀ c ∈ L.filter isCode, P c = true) : L.all P = true := by
  refine List.all_eq_true.mpr fun c hc => ?_
  have h := List.all_eq_true.mp h1 c hc
  rcases Bool.eq_false_or_eq_true (isCode c) with hi | hi
  · exact h2 c (List.mem_filter.mpr ⟨hc, hi⟩)
  · simpa [hi] using h
set_option maxRecDepth 65536 in
theorem w_c0 : (Jvm.Cond.code x code maxLocals ret).before args0 about1 = true := code_word (m := ⟨1, 2⟩) (meth := k1m2) (c := k1c2) (by decide +kernel) rfl rfl rfl (by decide +kernel)
set_option maxRecDepth 65536 in
theorem w_c1 : (Jvm.Cond.code ({ cls := "com/example/borrowed_prior/borrowedprior/model/TopicModelTopicTermPinLaw", name := "val", desc := "(II)D" } : Jvm.MethodName) method_2_code (2 : Nat) (Option.some Jvm.ClassFile.FieldType.double)).before args0 about1 = true := code_word (m := ⟨1, 1⟩) (meth := k1m1) (c := k1c1) (by decide +kernel) rfl rfl rfl (by decide +kernel)
set_option maxRecDepth 65536 in
theorem w_c2 : (Jvm.Cond.code ({ cls := "com/example/borrowed_prior/borrowedprior/model/TopicModel", name := "<init>", desc := "(IIIJ[D[D)V" } : Jvm.MethodName) prog_37_method_1_code (8 : Nat) (Option.none : Option Jvm.ClassFile.FieldType)).before args0 about1 = true := code_word (m := ⟨2, 0⟩) (meth := k2m0) (c := k2c0) (by decide +kernel) rfl rfl rfl (by decide +kernel)
set_option maxRecDepth 65536 in
theorem w_c3 : (Jvm.Cond.code ({ cls := "java/lang/Object", name := "<init>", desc := "()V" } : Jvm.MethodName) object_method_1_code (1 : Nat) (Option.none : Option Jvm.ClassFile.FieldType)).before args0 about1 = true := code_word (m := ⟨0, 0⟩) (meth := k0m0) (c := k0c0) (by decide +kernel) rfl rfl rfl (by decide +kernel)
set_option maxRecDepth 65536 in
theorem w_c4 : (Jvm.Cond.code ({ cls := "com/example/borrowed_prior/borrowedprior/model/TopicModel", name := "requireProbabilities", desc := "([D)V" } : Jvm.MethodName) prog_37_method_12_code (6 : Nat) (Option.none : Option Jvm.ClassFile.FieldType)).before args0 about1 = true := code_word (m := ⟨2, 2⟩) (meth := k2m2) (c := k2c2) (by decide +kernel) rfl rfl rfl (by decide +kernel)
set_option maxRecDepth 65536 in
theorem w_c5 : (Jvm.Cond.code ({ cls := "com/example/borrowed_prior/borrowedprior/model/TopicModel", name := "topicTerm", desc := "(II)D" } : Jvm.MethodName) prog_37_method_9_code (3 : Nat) (Option.some Jvm.ClassFile.FieldType.double)).before args0 about1 = true := code_word (m := ⟨2, 1⟩) (meth := k2m1) (c := k2c1) (by decide +kernel) rfl rfl rfl (by decide +kernel)
def codes1 : List Jvm.Cond := [Jvm.Cond.code x code maxLocals ret, Jvm.Cond.code ({ cls := "com/example/borrowed_prior/borrowedprior/model/TopicModelTopicTermPinLaw", name := "val", desc := "(II)D" } : Jvm.MethodName) method_2_code (2 : Nat) (Option.some Jvm.ClassFile.FieldType.double), Jvm.Cond.code ({ cls := "com/example/borrowed_prior/borrowedprior/model/TopicModel", name := "<init>", desc := "(IIIJ[D[D)V" } : Jvm.MethodName) prog_37_method_1_code (8 : Nat) (Option.none : Option Jvm.ClassFile.FieldType), Jvm.Cond.code ({ cls := "java/lang/Object", name := "<init>", desc := "()V" } : Jvm.MethodName) object_method_1_code (1 : Nat) (Option.none : Option Jvm.ClassFile.FieldType), Jvm.Cond.code ({ cls := "com/example/borrowed_prior/borrowedprior/model/TopicModel", name := "requireProbabilities", desc := "([D)V" } : Jvm.MethodName) prog_37_method_12_code (6 : Nat) (Option.none : Option Jvm.ClassFile.FieldType), Jvm.Cond.code ({ cls := "com/example/borrowed_prior/borrowedprior/model/TopicModel", name := "topicTerm", desc := "(II)D" } : Jvm.MethodName) prog_37_method_9_code (3 : Nat) (Option.some Jvm.ClassFile.FieldType.double)]
set_option maxRecDepth 65536 in
theorem codes_eq : words1.filter isCode = codes1 := rfl
theorem w_codes : ∀ c ∈ words1.filter isCode, c.before args0 about1 = true := by
  rw [codes_eq]
  intro c hc
  simp only [codes1, List.mem_cons, List.not_mem_nil, or_false] at hc
  rcases hc with rfl | rfl | rfl | rfl | rfl | rfl
  · exact w_c0
  · exact w_c1
  · exact w_c2
  · exact w_c3
  · exact w_c4
  · exact w_c5
set_option maxRecDepth 65536 in
theorem w_t1 : (words1.take 24).all (fun c => isCode c || c.before args0 about1) = true := by decide +kernel
set_option maxRecDepth 65536 in
theorem w_t2 : (words1.drop 24).all (fun c => isCode c || c.before args0 about1) = true := by decide +kernel
theorem w_tables : (allAtoms (Jvm.Cond.code x code maxLocals ret :: tables_1)).before args0 about1 = true := by
  rw [allAtoms_all]
  show words1.all (fun c => c.before args0 about1) = true
  refine all_split ?_ w_codes
  rw [← List.take_append_drop 24 words1, List.all_append, w_t1, w_t2]
  rfl
set_option maxRecDepth 65536 in
theorem w_case : (Jvm.Cond.and given_1 narrow_1).before args0 about1 = true := by decide +kernel
theorem w_applies : (headSpec (Jvm.Cond.code x code maxLocals ret :: tables_1) room_1).applies x e0.platform about1 = true :=
  (Spec.applies_iff w_frames).mpr ⟨w_running, w_runnable, w_alone, w_named, w_hears, w_ripe, w_room, w_tables⟩
theorem atStart : AtStart classFile x code maxLocals ret World_1 tables_1 room_1 Calls_1 rest_1 Pre_1 launch0 p0 e0 about1 theMethod args0 below0 :=
  ⟨lists_1, trivial, launch0.admits_env _ _ _, launch0.least_env, fairChoices_fair.cas, fairChoices_fair.clock, w_frames, w_args, w_heap, w_applies, trivial, trivial, w_case⟩
end start1
theorem witness_1 : WitnessClaimed_1 := ⟨start1.p0, start1.e0, start1.about1, start1.theMethod, start1.args0, start1.below0, start1.atStart⟩
end Jvm.Pilot.@@N@@
