import JvmDerived
import JvmDerived.Pilot.@@N@@Statement
import JvmDerived.Pilot.@@N@@Code
set_option linter.unusedVariables false
set_option linter.unusedSimpArgs false
namespace Jvm.OwnFP
open Jvm.FP Jvm.FP.Core
/-- a double's value in units of the least double, 2^-1074 -/
abbrev Zv (a : UInt64) : Int := zval b64 (val64 a)
theorem fin_ne {a : UInt64} (h : DFin a) : val64 a ≠ .nan := by
  obtain ⟨s, c, q, h⟩ := h; rw [h]; exact Datum.noConfusion
theorem mul_ne {a b : UInt64} (ha : DFin a) (hb : DFin b) : val64 (FP.dmul a b) ≠ .nan :=
  Jvm.Free.Fl.val64_no.mp (Jvm.Free.Fl.dmul_out (Jvm.Free.Fl.fin64_core.mpr ha) (Jvm.Free.Fl.fin64_core.mpr hb))
theorem add_ne {a b : UInt64} (ha : DFin a) (hb : DFin b) : val64 (FP.dadd a b) ≠ .nan :=
  Jvm.Free.Fl.val64_no.mp (Jvm.Free.Fl.dadd_out (Jvm.Free.Fl.fin64_core.mpr ha).noNaN (Jvm.Free.Fl.fin64_core.mpr hb))
theorem sub_ne {a b : UInt64} (ha : DFin a) (hb : DFin b) : val64 (FP.dsub a b) ≠ .nan :=
  Jvm.Free.Fl.val64_no.mp (Jvm.Free.Fl.dsub_out (Jvm.Free.Fl.fin64_core.mpr ha).noNaN (Jvm.Free.Fl.fin64_core.mpr hb))
theorem fin_of {r U V : UInt64} (hr : val64 r ≠ .nan) (hU : DFin U) (hV : DFin V) (h1 : Zv U ≤ Zv r) (h2 : Zv r ≤ Zv V) : DFin r := by
  have uU := hU.zval_lt
  have uV := hV.zval_lt
  have aU : (Zv U).natAbs = zmag b64 (val64 U) := natAbs_signed _ _
  have aV : (Zv V).natAbs = zmag b64 (val64 V) := natAbs_signed _ _
  have ar : (Zv r).natAbs = zmag b64 (val64 r) := natAbs_signed _ _
  cases e : val64 r with
  | nan => exact absurd e hr
  | fin s c q => exact ⟨s, c, q, e⟩
  | inf s =>
    have e2 : zmag b64 (val64 r) = b64.tails * 2 ^ (b64.exps - 2) := by rw [e]; rfl
    rw [e2] at ar
    generalize b64.tails * 2 ^ (b64.exps - 2) = top at *
    omega
theorem dmul_le {a b V : UInt64} (ha : DFin a) (hb : DFin b) (hV : val64 V ≠ .nan) (h : Zv a * Zv b ≤ Zv V * (one64 : Int)) : Zv (FP.dmul a b) ≤ Zv V := by
  obtain ⟨s, c, q, ea⟩ := ha
  obtain ⟨t, d, r, eb⟩ := hb
  have fa := val64_fits a
  have fb := val64_fits b
  unfold Zv at h ⊢
  rw [ea] at fa h
  rw [eb] at fb h
  obtain ⟨p1, p2, p3⟩ := product_units fa fb
  rw [val64_dmul, ea, eb, p1]
  have hq := qmin_neg good_b64
  refine zval_round_le good_b64 (val64_fits V) hV (e0 := 2 * b64.qmin) (by omega) p2 ?_
  rw [p3, signed_xor, show (b64.qmin - 2 * b64.qmin).toNat = (-b64.qmin).toNat by omega, pow_qmin64]
  exact h
theorem dmul_ge {a b V : UInt64} (ha : DFin a) (hb : DFin b) (hV : val64 V ≠ .nan) (h : Zv V * (one64 : Int) ≤ Zv a * Zv b) : Zv V ≤ Zv (FP.dmul a b) := by
  obtain ⟨s, c, q, ea⟩ := ha
  obtain ⟨t, d, r, eb⟩ := hb
  have fa := val64_fits a
  have fb := val64_fits b
  unfold Zv at h ⊢
  rw [ea] at fa h
  rw [eb] at fb h
  obtain ⟨p1, p2, p3⟩ := product_units fa fb
  rw [val64_dmul, ea, eb, p1]
  have hq := qmin_neg good_b64
  refine zval_round_ge good_b64 (val64_fits V) hV (e0 := 2 * b64.qmin) (by omega) p2 ?_
  rw [p3, signed_xor, show (b64.qmin - 2 * b64.qmin).toNat = (-b64.qmin).toNat by omega, pow_qmin64]
  exact h
theorem dadd_le {a b V : UInt64} (ha : DFin a) (hb : DFin b) (hV : val64 V ≠ .nan) (h : Zv a + Zv b ≤ Zv V) : Zv (FP.dadd a b) ≤ Zv V := by
  unfold Zv at h ⊢
  rw [val64_dadd]; exact sum_le good_b64 ha hb (val64_fits a) (val64_fits b) (val64_fits V) hV h
theorem dadd_ge {a b V : UInt64} (ha : DFin a) (hb : DFin b) (hV : val64 V ≠ .nan) (h : Zv V ≤ Zv a + Zv b) : Zv V ≤ Zv (FP.dadd a b) := by
  unfold Zv at h ⊢
  rw [val64_dadd]; exact sum_ge good_b64 ha hb (val64_fits a) (val64_fits b) (val64_fits V) hV h
theorem neg_fin {a : UInt64} (h : DFin a) : DFin (FP.dneg a) := by
  obtain ⟨s, c, q, h⟩ := h
  exact ⟨!s, c, q, by rw [FP.val64_dneg, h]; rfl⟩
theorem Zv_neg (a : UInt64) : Zv (FP.dneg a) = -Zv a := by unfold Zv; rw [FP.val64_dneg, zval_negate]
theorem cneg_fin {a : UInt64} (h : DFin a) : DFin (Core.dneg a) := by
  obtain ⟨s, c, q, h⟩ := h
  exact ⟨!s, c, q, by rw [Core.val64_dneg, h]; rfl⟩
theorem Zv_cneg (a : UInt64) : Zv (Core.dneg a) = -Zv a := by unfold Zv; rw [Core.val64_dneg, zval_negate]
theorem dsub_le {a b V : UInt64} (ha : DFin a) (hb : DFin b) (hV : val64 V ≠ .nan) (h : Zv a - Zv b ≤ Zv V) : Zv (FP.dsub a b) ≤ Zv V := by
  show Zv (Core.dsub a b) ≤ _
  rw [Core.dsub_eq]; exact dadd_le ha (cneg_fin hb) hV (by rw [Zv_cneg]; omega)
theorem dsub_ge {a b V : UInt64} (ha : DFin a) (hb : DFin b) (hV : val64 V ≠ .nan) (h : Zv V ≤ Zv a - Zv b) : Zv V ≤ Zv (FP.dsub a b) := by
  show _ ≤ Zv (Core.dsub a b)
  rw [Core.dsub_eq]; exact dadd_ge ha (cneg_fin hb) hV (by rw [Zv_cneg]; omega)
/-- where the exact value is a double's, it is the result's -/
theorem dmul_eq {a b V : UInt64} (ha : DFin a) (hb : DFin b) (hV : DFin V) (h : Zv a * Zv b = Zv V * (one64 : Int)) : DFin (FP.dmul a b) ∧ Zv (FP.dmul a b) = Zv V := by
  have h1 := dmul_le ha hb (fin_ne hV) (Int.le_of_eq h)
  have h2 := dmul_ge ha hb (fin_ne hV) (Int.le_of_eq h.symm)
  exact ⟨fin_of (mul_ne ha hb) hV hV h2 h1, Int.le_antisymm h1 h2⟩
theorem dadd_eq {a b V : UInt64} (ha : DFin a) (hb : DFin b) (hV : DFin V) (h : Zv a + Zv b = Zv V) : DFin (FP.dadd a b) ∧ Zv (FP.dadd a b) = Zv V := by
  have h1 := dadd_le ha hb (fin_ne hV) (Int.le_of_eq h)
  have h2 := dadd_ge ha hb (fin_ne hV) (Int.le_of_eq h.symm)
  exact ⟨fin_of (add_ne ha hb) hV hV h2 h1, Int.le_antisymm h1 h2⟩
theorem dsub_eq {a b V : UInt64} (ha : DFin a) (hb : DFin b) (hV : DFin V) (h : Zv a - Zv b = Zv V) : DFin (FP.dsub a b) ∧ Zv (FP.dsub a b) = Zv V := by
  have h1 := dsub_le ha hb (fin_ne hV) (Int.le_of_eq h)
  have h2 := dsub_ge ha hb (fin_ne hV) (Int.le_of_eq h.symm)
  exact ⟨fin_of (sub_ne ha hb) hV hV h2 h1, Int.le_antisymm h1 h2⟩
theorem signed_self (N : Int) (k : Nat) : signed (decide (N < 0)) (N.natAbs * k) = N * (k : Int) := by
  rw [signed_mul]
  congr 1
  unfold signed
  by_cases h : N < 0 <;> simp [h] <;> omega
/-- every N * 2^k units, N of up to 53 digits, is a double -/
theorem rep (N : Int) (k : Nat) (hN : N.natAbs < 2 ^ 53) (hk : k ≤ 2045) : ∃ V, DFin V ∧ Zv V = N * ((2 ^ k : Nat) : Int) := by
  have q1 := qmin_b64
  have q2 : b64.qmax = 971 := by decide
  obtain ⟨c', q', h1, h2⟩ := round_exact good_b64 (decide (N < 0)) (c := N.natAbs) (q := (k : Int) - 1074) hN (by omega) (by omega)
  have hv : val64 (of64 (round b64 (.fin (decide (N < 0)) N.natAbs ((k : Int) - 1074)))) = .fin (decide (N < 0)) c' q' := by
    rw [val64_of64 (round_fits good_b64 _), h1]
  refine ⟨_, ⟨_, _, _, hv⟩, ?_⟩
  unfold Zv
  rw [hv]
  show signed (decide (N < 0)) (inUnits c' q' b64.qmin) = _
  rw [h2, q1]
  unfold inUnits
  rw [show ((k : Int) - 1074 - -1074).toNat = k by omega]
  exact signed_self N _
/-- the double a is N * 2^(k - 1074) -/
def Val (a : UInt64) (N : Int) (k : Nat) : Prop := DFin a ∧ Zv a = N * ((2 ^ k : Nat) : Int)
theorem one_pow : (one64 : Int) = ((2 ^ 1074 : Nat) : Int) := rfl
theorem Val.of_int {i : Int} {a : UInt64} (h : DInt i a) : Val a i 1074 := by
  refine ⟨?_, (DInt_zval h).trans (by rw [one_pow])⟩
  unfold DInt at h
  cases e : val64 a with
  | nan => rw [e] at h; exact h.elim
  | inf s => rw [e] at h; exact h.elim
  | fin s c q => exact ⟨s, c, q, e⟩
theorem Val.i2d (n : Int32) : Val (FP.i2d n) n.toInt 1074 := Val.of_int (i2d_int n)
theorem Val.l2d {n : Int64} (h : n.toInt.natAbs ≤ 2 ^ 53) : Val (FP.l2d n) n.toInt 1074 := Val.of_int (l2d_int h)
theorem Val.neg {a : UInt64} {N : Int} {k : Nat} (h : Val a N k) : Val (FP.dneg a) (-N) k := ⟨neg_fin h.1, by rw [Zv_neg, h.2, Int.neg_mul]⟩
theorem pow_cast (k j : Nat) : ((2 ^ (k + j) : Nat) : Int) = ((2 ^ k : Nat) : Int) * ((2 ^ j : Nat) : Int) := by
  rw [Nat.pow_add, Int.natCast_mul]
theorem Val.mul {a b : UInt64} {N M : Int} {k j i : Nat} (ha : Val a N k) (hb : Val b M j) (hN : (N * M).natAbs < 2 ^ 53) (hi : k + j = i + 1074) (hk : i ≤ 2045) : Val (FP.dmul a b) (N * M) i := by
  obtain ⟨V, fV, zV⟩ := rep (N * M) i hN hk
  obtain ⟨h1, h2⟩ := dmul_eq ha.1 hb.1 fV (by
    rw [ha.2, hb.2, zV, one_pow, Int.mul_assoc (N * M), ← pow_cast, ← hi, pow_cast, Int.mul_assoc N M, Int.mul_assoc N, Int.mul_left_comm _ M])
  exact ⟨h1, h2.trans zV⟩
theorem Val.add {a b : UInt64} {N M : Int} {k : Nat} (ha : Val a N k) (hb : Val b M k) (hN : (N + M).natAbs < 2 ^ 53) (hk : k ≤ 2045) : Val (FP.dadd a b) (N + M) k := by
  obtain ⟨V, fV, zV⟩ := rep (N + M) k hN hk
  obtain ⟨h1, h2⟩ := dadd_eq ha.1 hb.1 fV (by rw [ha.2, hb.2, zV, Int.add_mul])
  exact ⟨h1, h2.trans zV⟩
theorem Val.sub {a b : UInt64} {N M : Int} {k : Nat} (ha : Val a N k) (hb : Val b M k) (hN : (N - M).natAbs < 2 ^ 53) (hk : k ≤ 2045) : Val (FP.dsub a b) (N - M) k := by
  obtain ⟨V, fV, zV⟩ := rep (N - M) k hN hk
  obtain ⟨h1, h2⟩ := dsub_eq ha.1 hb.1 fV (by rw [ha.2, hb.2, zV, Int.sub_mul])
  exact ⟨h1, h2.trans zV⟩
theorem pow_pos' (k : Nat) : (0 : Int) < ((2 ^ k : Nat) : Int) := by have := Nat.two_pow_pos k; omega
theorem Val.cmp {a b : UInt64} {N M : Int} {k : Nat} (ha : Val a N k) (hb : Val b M k) : FP.dcmp a b = some (compare N M) := by
  have h : FP.dcmp a b = some (compare (Zv a) (Zv b)) := dcmp_zval (fin_ne ha.1) (fin_ne hb.1)
  rw [h, ha.2, hb.2, compare_mul_pos _ _ _ (pow_pos' k)]
theorem Val.scale {a : UInt64} {N : Int} {k : Nat} (j : Nat) (ha : Val a N (k + j)) : Val a (N * ((2 ^ j : Nat) : Int)) k :=
  ⟨ha.1, by rw [ha.2, pow_cast, Int.mul_assoc, Int.mul_comm ((2 ^ k : Nat) : Int)]⟩
theorem lt_iff {a b : UInt64} (ha : DFin a) (hb : DFin b) : FP.dcmp a b = some .lt ↔ Zv a < Zv b :=
  ⟨fun h => (dcmp_lt.mp h).2.2, fun h => dcmp_lt.mpr ⟨fin_ne ha, fin_ne hb, h⟩⟩
theorem eq_iff {a b : UInt64} (ha : DFin a) (hb : DFin b) : FP.dcmp a b = some .eq ↔ Zv a = Zv b :=
  ⟨fun h => (dcmp_eq.mp h).2.2, fun h => dcmp_eq.mpr ⟨fin_ne ha, fin_ne hb, h⟩⟩
theorem le_iff {a b : UInt64} (ha : DFin a) (hb : DFin b) : (FP.dcmp a b = some .lt ∨ FP.dcmp a b = some .eq) ↔ Zv a ≤ Zv b := by
  rw [lt_iff ha hb, eq_iff ha hb]; omega
theorem dfin_const {a : UInt64} (h : a.toNat % 9223372036854775808 < 9218868437227405312) : DFin a := (Core.fin_bits a).mpr h
end Jvm.OwnFP
namespace Jvm.OwnFP
open Jvm.FP Jvm.FP.Core
/-! the sum of two doubles, rounded: on whole numbers of units -/
def rn (n : Nat) : Nat := nearest n (2 ^ (n.log2 - 52)) * 2 ^ (n.log2 - 52)
theorem leading_one {n : Nat} (h : 0 < n) : leading n 1 = (n.log2 : Int) := by
  have h2 : 2 ^ n.log2 ≤ n := Nat.log2_self_le (by omega)
  show (if 1 * 2 ^ ((n.log2 : Int) - ((Nat.log2 1 : Nat) : Int)).toNat ≤ n * 2 ^ (-((n.log2 : Int) - ((Nat.log2 1 : Nat) : Int))).toNat then ((n.log2 : Int) - ((Nat.log2 1 : Nat) : Int)) else ((n.log2 : Int) - ((Nat.log2 1 : Nat) : Int)) - 1) = _
  have h1 : Nat.log2 1 = 0 := by decide
  rw [h1, show ((n.log2 : Int) - ((0 : Nat) : Int)) = (n.log2 : Int) by omega, show ((n.log2 : Int)).toNat = n.log2 by omega, show (-(n.log2 : Int)).toNat = 0 by omega]
  rw [if_pos (by omega)]
theorem quantum_one {n : Nat} (h : 0 < n) : quantum b64 n 1 b64.qmin = b64.qmin + ((n.log2 - 52 : Nat) : Int) := by
  unfold quantum
  rw [leading_one h, show ((b64.p : Nat) : Int) = 53 by decide]
  omega
theorem lt_pow_log (n : Nat) : n < 2 ^ (n.log2 + 1) := Nat.lt_log2_self
theorem log_le {n k : Nat} (h : n < 2 ^ (k + 1)) : n.log2 ≤ k := by
  by_cases h0 : n = 0
  · rw [h0]; exact Nat.zero_le _
  · have := (Nat.log2_lt h0).mpr h
    omega
theorem round_rn (s : Bool) {n : Nat} (hb : n < 2 ^ 2090) : ∃ c q, round b64 (.fin s n b64.qmin) = .fin s c q ∧ inUnits c q b64.qmin = rn n := by
  have q1 := qmin_b64
  have q2 : b64.qmax = 971 := by decide
  by_cases h0 : n = 0
  · subst h0
    refine ⟨0, b64.qmin, ?_, ?_⟩
    · show roundRatio b64 s 0 1 b64.qmin = _
      unfold roundRatio; rw [if_pos rfl]
    · unfold inUnits; rw [Nat.zero_mul]; decide
  · have hpos : 0 < n := by omega
    have hl : n.log2 ≤ 2089 := log_le hb
    have hu : unitsNum n b64.qmin (b64.qmin + ((n.log2 - 52 : Nat) : Int)) = n := by
      unfold unitsNum
      rw [show (b64.qmin - (b64.qmin + ((n.log2 - 52 : Nat) : Int))).toNat = 0 by omega, Nat.pow_zero, Nat.mul_one]
    have hd : unitsDen 1 b64.qmin (b64.qmin + ((n.log2 - 52 : Nat) : Int)) = 2 ^ (n.log2 - 52) := by
      unfold unitsDen
      rw [show (b64.qmin + ((n.log2 - 52 : Nat) : Int) - b64.qmin).toNat = n.log2 - 52 by omega, Nat.one_mul]
    have hr : round b64 (.fin s n b64.qmin) = settle b64 s (nearest n (2 ^ (n.log2 - 52))) (b64.qmin + ((n.log2 - 52 : Nat) : Int)) := by
      show roundRatio b64 s n 1 b64.qmin = _
      unfold roundRatio roundAt
      rw [if_neg h0, quantum_one hpos, hu, hd]
    have hm : nearest n (2 ^ (n.log2 - 52)) ≤ 2 ^ 53 := by
      refine nearest_le (Nat.two_pow_pos _) ?_
      have h1 := lt_pow_log n
      have h2 : 2 ^ (n.log2 + 1) ≤ 2 ^ (53 + (n.log2 - 52)) := Nat.pow_le_pow_right (by decide) (by omega)
      rw [Nat.pow_add 2 53] at h2
      omega
    rw [hr]
    unfold settle bound
    by_cases hc : nearest n (2 ^ (n.log2 - 52)) < 2 ^ b64.p
    · rw [if_pos hc, if_pos (by omega)]
      refine ⟨_, _, rfl, ?_⟩
      unfold inUnits rn
      rw [show (b64.qmin + ((n.log2 - 52 : Nat) : Int) - b64.qmin).toNat = n.log2 - 52 by omega]
    · rw [if_neg hc, if_pos (by omega)]
      refine ⟨_, _, rfl, ?_⟩
      have hp : (2 : Nat) ^ b64.p = 2 ^ 53 := rfl
      have he : nearest n (2 ^ (n.log2 - 52)) = 2 ^ 53 := by omega
      unfold inUnits rn
      rw [he, show (b64.qmin + ((n.log2 - 52 : Nat) : Int) + 1 - b64.qmin).toNat = (n.log2 - 52) + 1 by omega, tails_b64, show (2 : Nat) ^ (n.log2 - 52 + 1) = 2 * 2 ^ (n.log2 - 52) by rw [Nat.pow_succ, Nat.mul_comm], show (2 : Nat) ^ 53 = 2 ^ 52 * 2 from rfl, Nat.mul_assoc]
theorem rn_zero : rn 0 = 0 := by decide
theorem add_rn {a b : UInt64} (ha : DFin a) (hb : DFin b) (h : (Zv a + Zv b).natAbs < 2 ^ 2090) : DFin (FP.dadd a b) ∧ Zv (FP.dadd a b) = signed (decide (Zv a + Zv b < 0)) (rn (Zv a + Zv b).natAbs) := by
  have fa := val64_fits a
  have fb := val64_fits b
  obtain ⟨s, c, q, ea⟩ := ha
  obtain ⟨t, d, r, eb⟩ := hb
  unfold Zv at h ⊢
  rw [ea] at fa
  rw [eb] at fb
  rw [ea, eb] at h ⊢
  obtain ⟨sg, n, e, e1, e2, e3⟩ := sum_units fa fb
  rw [← e3, natAbs_signed] at h
  obtain ⟨c', q', r1, r2⟩ := round_rn sg h
  have hv : val64 (FP.dadd a b) = .fin sg c' q' := by
    rw [val64_dadd, ea, eb, e1, ← round_inUnits sg n e2, r1]
  refine ⟨⟨_, _, _, hv⟩, ?_⟩
  rw [hv, ← e3, natAbs_signed]
  show signed sg (inUnits c' q' b64.qmin) = _
  rw [r2]
  by_cases h0 : inUnits n e b64.qmin = 0
  · rw [h0, rn_zero, signed_zero, signed_zero]
  · rw [signed_lt_zero sg (by omega)]
theorem rn_small {n : Nat} (h : n < 2 ^ 53) : rn n = n := by
  have h1 : n.log2 - 52 = 0 := by have := log_le (n := n) (k := 52) h; omega
  unfold rn
  rw [h1, Nat.pow_zero, Nat.mul_one]
  have := nearest_exact (B := 1) n (by decide)
  rw [Nat.mul_one] at this
  exact this
theorem rn_fit {n K : Nat} (h : n.log2 - 52 ≤ K) (hd : 2 ^ K ∣ n) : rn n = n := by
  obtain ⟨t, ht⟩ : 2 ^ (n.log2 - 52) ∣ n := Nat.dvd_trans (Nat.pow_dvd_pow 2 h) hd
  unfold rn
  have h2 : nearest n (2 ^ (n.log2 - 52)) = t := by
    have := nearest_exact (B := 2 ^ (n.log2 - 52)) t (Nat.two_pow_pos _)
    rw [Nat.mul_comm, ← ht] at this
    exact this
  rw [h2, Nat.mul_comm]
  exact ht.symm
theorem rn_dvd {n m : Nat} (h : 2 ^ m ∣ n) : 2 ^ m ∣ rn n := by
  by_cases hm : n.log2 - 52 ≤ m
  · rw [rn_fit hm h]; exact h
  · exact Nat.dvd_trans (Nat.pow_dvd_pow 2 (by omega)) (Nat.dvd_mul_left _ _)
theorem log_mul {n : Nat} (h : 0 < n) (d : Nat) : (n * 2 ^ d).log2 = n.log2 + d := by
  have h1 : 2 ^ n.log2 ≤ n := Nat.log2_self_le (by omega)
  have h2 := lt_pow_log n
  have hp := Nat.two_pow_pos d
  have hn : n * 2 ^ d ≠ 0 := by have := Nat.mul_pos h hp; omega
  refine Nat.le_antisymm ?_ ?_
  · refine log_le ?_
    rw [show n.log2 + d + 1 = (n.log2 + 1) + d by omega, Nat.pow_add]
    exact Nat.mul_lt_mul_of_pos_right h2 hp
  · refine (Nat.le_log2 hn).mpr ?_
    rw [Nat.pow_add]
    exact Nat.mul_le_mul_right _ h1
theorem rn_scale (n d : Nat) : rn (n * 2 ^ d) = rn n * 2 ^ d := by
  by_cases h0 : n = 0
  · subst h0; rw [Nat.zero_mul, rn_zero, Nat.zero_mul]
  · have hl := log_mul (n := n) (by omega) d
    by_cases hs : n.log2 < 52
    · have hn : n < 2 ^ 53 := Nat.lt_of_lt_of_le (lt_pow_log n) (Nat.pow_le_pow_right (by decide) (by omega))
      rw [rn_small hn, rn_fit (K := d) (by omega) (Nat.dvd_mul_left _ _)]
    · unfold rn
      rw [hl, show n.log2 + d - 52 = (n.log2 - 52) + d by omega, Nat.pow_add, nearest_scale _ _ _ (Nat.two_pow_pos d), Nat.mul_assoc]
/-- the rounding error, at most half a unit of the last place -/
theorem rn_err (n : Nat) : 2 * n ≤ 2 * rn n + 2 ^ (n.log2 - 52) ∧ 2 * rn n ≤ 2 * n + 2 ^ (n.log2 - 52) := by
  obtain ⟨h1, h2, -⟩ := nearest_spec n (2 ^ (n.log2 - 52)) (Nat.two_pow_pos _)
  unfold rn
  rw [Nat.add_mul, Nat.one_mul, Nat.mul_assoc] at h1
  rw [Nat.mul_assoc] at h2
  exact ⟨h1, h2⟩
/-! what a double is, and which whole numbers are doubles -/
def Rp (z : Int) : Prop := ∃ V, DFin V ∧ Zv V = z
theorem Rp.of {a : UInt64} (h : DFin a) : Rp (Zv a) := ⟨a, h, rfl⟩
theorem rep_of {a : UInt64} (h : DFin a) : ∃ (N : Int) (k : Nat), Zv a = N * ((2 ^ k : Nat) : Int) ∧ N.natAbs < 2 ^ 53 ∧ k ≤ 2045 := by
  have fa := val64_fits a
  obtain ⟨s, c, q, ea⟩ := h
  rw [ea] at fa
  obtain ⟨h1, h2, h3, -⟩ := fa
  have q1 := qmin_b64
  have q2 : b64.qmax = 971 := by decide
  refine ⟨signed s c, (q - b64.qmin).toNat, ?_, ?_, by omega⟩
  · unfold Zv
    rw [ea]
    show signed s (c * 2 ^ (q - b64.qmin).toNat) = _
    rw [signed_mul]
  · rw [natAbs_signed]; exact h1
theorem Rp.rep {z : Int} (h : Rp z) : ∃ (N : Int) (k : Nat), z = N * ((2 ^ k : Nat) : Int) ∧ N.natAbs < 2 ^ 53 ∧ k ≤ 2045 := by
  obtain ⟨V, fV, e⟩ := h
  rw [← e]; exact rep_of fV
theorem Rp.mk {N : Int} {k : Nat} (h1 : N.natAbs < 2 ^ 53) (h2 : k ≤ 2045) : Rp (N * ((2 ^ k : Nat) : Int)) := Jvm.OwnFP.rep N k h1 h2
theorem Rp.neg {z : Int} (h : Rp z) : Rp (-z) := by
  obtain ⟨V, fV, e⟩ := h
  exact ⟨Core.dneg V, cneg_fin fV, by rw [Zv_cneg, e]⟩
theorem natAbs_lt_of {N : Int} {k : Nat} {B : Nat} (h : (N * ((2 ^ k : Nat) : Int)).natAbs < B * 2 ^ k) : N.natAbs < B := by
  rw [Int.natAbs_mul, Int.natAbs_natCast] at h
  exact Nat.lt_of_mul_lt_mul_right h
theorem natAbs_mul_pow {N : Int} {k : Nat} : (N * ((2 ^ k : Nat) : Int)).natAbs = N.natAbs * 2 ^ k := by
  rw [Int.natAbs_mul, Int.natAbs_natCast]
/-- a multiple of 2^k that isn't beyond a double of that unit is a double -/
theorem Rp.within {z : Int} {N : Int} {k : Nat} (hd : ((2 ^ k : Nat) : Int) ∣ z) (hN : N.natAbs < 2 ^ 53) (hk : k ≤ 2045) (h : z.natAbs ≤ (N * ((2 ^ k : Nat) : Int)).natAbs) : Rp z := by
  obtain ⟨t, rfl⟩ := hd
  rw [Int.mul_comm] at h ⊢
  refine Rp.mk ?_ hk
  rw [natAbs_mul_pow, natAbs_mul_pow] at h
  exact Nat.lt_of_le_of_lt (Nat.le_of_mul_le_mul_right h (Nat.two_pow_pos k)) hN
theorem pow_dvd_cast {i j : Nat} (h : i ≤ j) : ((2 ^ i : Nat) : Int) ∣ ((2 ^ j : Nat) : Int) := Int.natCast_dvd_natCast.mpr (Nat.pow_dvd_pow 2 h)
/-- Sterbenz: of two doubles within a factor of two the difference is a double -/
theorem sterbenz {v w : Int} (hv : Rp v) (hw : Rp w) (h0 : 0 ≤ v) (h1 : v ≤ w) (h2 : w ≤ 2 * v) : Rp (w - v) := by
  obtain ⟨N, i, ev, hN, hi⟩ := hv.rep
  obtain ⟨M, j, ew, hM, hj⟩ := hw.rep
  by_cases hij : i ≤ j
  · refine Rp.within (N := N) (k := i) ?_ hN hi (by rw [← ev]; omega)
    rw [ev, ew]
    exact Int.dvd_sub (Int.dvd_mul_of_dvd_right (pow_dvd_cast hij)) (Int.dvd_mul_left _ _)
  · refine Rp.within (N := M) (k := j) ?_ hM hj (by rw [← ew]; omega)
    rw [ev, ew]
    exact Int.dvd_sub (Int.dvd_mul_left _ _) (Int.dvd_mul_of_dvd_right (pow_dvd_cast (by omega)))
/-- the bound under which no sum here overflows -/
def Sm (z : Int) : Prop := z.natAbs ≤ 2 ^ 2040
theorem pow_2040 : (2 : Nat) ^ 2040 + 2 ^ 2040 < 2 ^ 2090 := by
  have h1 : (2 : Nat) ^ 2040 + 2 ^ 2040 = 2 ^ 2041 := by rw [show (2041 : Nat) = 2040 + 1 by decide, Nat.pow_succ]; omega
  rw [h1]; exact Nat.pow_lt_pow_right (by decide) (by decide)
theorem add_dvd {a b : UInt64} {m : Nat} (ha : DFin a) (hb : DFin b) (sa : Sm (Zv a)) (sb : Sm (Zv b)) (da : ((2 ^ m : Nat) : Int) ∣ Zv a) (db : ((2 ^ m : Nat) : Int) ∣ Zv b) : ((2 ^ m : Nat) : Int) ∣ Zv (FP.dadd a b) := by
  have hp := pow_2040
  unfold Sm at sa sb
  have h := add_rn ha hb (by omega)
  rw [h.2]
  have hd : ((2 ^ m : Nat) : Int) ∣ Zv a + Zv b := Int.dvd_add da db
  have h2 : 2 ^ m ∣ rn (Zv a + Zv b).natAbs := rn_dvd (Int.natAbs_dvd_natAbs.mpr hd)
  have h3 : ((2 ^ m : Nat) : Int) ∣ ((rn (Zv a + Zv b).natAbs : Nat) : Int) := Int.natCast_dvd_natCast.mpr h2
  unfold signed
  split
  · exact Int.dvd_neg.mpr h3
  · exact h3
/-- the rounded sum is as near as any double -/
theorem add_near {a b V : UInt64} (ha : DFin a) (hb : DFin b) (fV : DFin V) (sa : Sm (Zv a)) (sb : Sm (Zv b)) : (Zv a + Zv b - Zv (FP.dadd a b)).natAbs ≤ (Zv a + Zv b - Zv V).natAbs := by
  have hp := pow_2040
  unfold Sm at sa sb
  have hfin := (add_rn ha hb (by omega)).1
  have fa := val64_fits a
  have fb := val64_fits b
  have fv := val64_fits V
  obtain ⟨s, c, q, ea⟩ := ha
  obtain ⟨t, d, r, eb⟩ := hb
  obtain ⟨s', c', q', eV⟩ := fV
  obtain ⟨t', c2, q2, e2⟩ := hfin
  unfold Zv
  rw [ea] at fa
  rw [eb] at fb
  rw [eV] at fv
  rw [ea, eb, eV, e2]
  obtain ⟨sg, n, e, e1, e3, e4⟩ := sum_units fa fb
  have hr : roundRatio b64 sg n 1 e = .fin t' c2 q2 := by
    have := val64_dadd a b
    rw [e2, ea, eb, e1] at this
    exact this.symm
  have ht : t' = sg := by
    have := sgn_roundRatio b64 sg n 1 e
    rw [hr] at this
    exact this
  subst ht
  have n1 := roundRatio_nearest good_b64 (by decide) hr (c' := c') (q' := q') fv.1 fv.2.1 (Int.le_refl _) e3
  have n2 := roundRatio_nearest good_b64 (by decide) hr (c' := 0) (q' := b64.qmin) (by decide) (Int.le_refl _) (Int.le_refl _) e3
  rw [← e4]
  unfold distance at n1 n2
  have z0 : inUnits 0 b64.qmin b64.qmin = 0 := by unfold inUnits; rw [Nat.zero_mul]
  rw [z0] at n2
  show (signed t' (inUnits n e b64.qmin) - signed t' (inUnits c2 q2 b64.qmin)).natAbs ≤ (signed t' (inUnits n e b64.qmin) - signed s' (inUnits c' q' b64.qmin)).natAbs
  generalize inUnits n e b64.qmin = x at *
  generalize inUnits c2 q2 b64.qmin = y at *
  generalize inUnits c' q' b64.qmin = w at *
  cases t' <;> cases s' <;> simp only [signed, if_true, Bool.false_eq_true, if_false] <;> omega
/-- the error of a sum is a double -/
theorem err_rep {a b : UInt64} (ha : DFin a) (hb : DFin b) (sa : Sm (Zv a)) (sb : Sm (Zv b)) : Rp (Zv a + Zv b - Zv (FP.dadd a b)) := by
  obtain ⟨N, i, ea, hN, hi⟩ := rep_of ha
  obtain ⟨M, j, eb, hM, hj⟩ := rep_of hb
  have n1 := add_near ha hb ha sa sb
  have n2 := add_near ha hb hb sa sb
  have da : ((2 ^ i : Nat) : Int) ∣ Zv a := by rw [ea]; exact Int.dvd_mul_left _ _
  have db : ((2 ^ j : Nat) : Int) ∣ Zv b := by rw [eb]; exact Int.dvd_mul_left _ _
  by_cases hij : i ≤ j
  · have db' : ((2 ^ i : Nat) : Int) ∣ Zv b := Int.dvd_trans (pow_dvd_cast hij) db
    refine Rp.within (N := N) (k := i) (Int.dvd_sub (Int.dvd_add da db') (add_dvd ha hb sa sb da db')) hN hi ?_
    rw [← ea]; omega
  · have da' : ((2 ^ j : Nat) : Int) ∣ Zv a := Int.dvd_trans (pow_dvd_cast (by omega)) da
    refine Rp.within (N := M) (k := j) (Int.dvd_sub (Int.dvd_add da' db) (add_dvd ha hb sa sb da' db)) hM hj ?_
    rw [← eb]; omega
theorem add_exact {a b : UInt64} (ha : DFin a) (hb : DFin b) (h : Rp (Zv a + Zv b)) : DFin (FP.dadd a b) ∧ Zv (FP.dadd a b) = Zv a + Zv b := by
  obtain ⟨V, fV, e⟩ := h
  have := dadd_eq ha hb fV e.symm
  exact ⟨this.1, this.2.trans e⟩
theorem half_rep {a : Int} (h : Rp a) (h2 : (2 : Int) ∣ a) : Rp (a / 2) := by
  obtain ⟨N, k, ea, hN, hk⟩ := h.rep
  obtain ⟨t, ht⟩ := h2
  cases k with
  | zero =>
    rw [show ((2 ^ 0 : Nat) : Int) = 1 by decide, Int.mul_one] at ea
    have := Rp.mk (N := t) (k := 0) (by omega) (by omega)
    rw [show ((2 ^ 0 : Nat) : Int) = 1 by decide, Int.mul_one] at this
    rw [show a / 2 = t by omega]
    exact this
  | succ k =>
    have e : ((2 ^ (k + 1) : Nat) : Int) = 2 * ((2 ^ k : Nat) : Int) := by rw [Nat.pow_succ]; omega
    have := Rp.mk (N := N) (k := k) hN (by omega)
    rw [show a / 2 = N * ((2 ^ k : Nat) : Int) by
      rw [ea, e, ← Int.mul_assoc, Int.mul_comm N 2, Int.mul_assoc]; omega]
    exact this
theorem dbl_rep {a : Int} (h : Rp a) (hs : Sm a) : Rp (2 * a) := by
  obtain ⟨N, k, ea, hN, hk⟩ := h.rep
  by_cases h0 : N = 0
  · subst h0
    rw [ea, Int.zero_mul]
    exact ⟨0, dfin_const (by decide), by decide +kernel⟩
  · have hk2 : k ≤ 2040 := by
      unfold Sm at hs
      rw [ea, natAbs_mul_pow] at hs
      refine Nat.le_of_not_lt fun hk2 => ?_
      have h1 : 2 ^ 2040 < 2 ^ k := Nat.pow_lt_pow_right (by decide) hk2
      have h2 : 1 * 2 ^ k ≤ N.natAbs * 2 ^ k := Nat.mul_le_mul_right _ (by omega)
      omega
    have := Rp.mk (N := N) (k := k + 1) hN (by omega)
    rw [show ((2 ^ (k + 1) : Nat) : Int) = 2 * ((2 ^ k : Nat) : Int) by rw [Nat.pow_succ]; omega, Int.mul_left_comm, ← ea] at this
    exact this
theorem neg_add {a b : UInt64} (ha : DFin a) (hb : DFin b) (sa : Sm (Zv a)) (sb : Sm (Zv b)) : Zv (FP.dadd (Core.dneg a) (Core.dneg b)) = -Zv (FP.dadd a b) := by
  have hp := pow_2040
  unfold Sm at sa sb
  have h1 := (add_rn ha hb (by omega)).2
  have h2 := (add_rn (cneg_fin ha) (cneg_fin hb) (by rw [Zv_cneg, Zv_cneg]; omega)).2
  rw [h1, h2, Zv_cneg, Zv_cneg, show -Zv a + -Zv b = -(Zv a + Zv b) by omega, Int.natAbs_neg]
  generalize Zv a + Zv b = z
  unfold signed
  by_cases hz : z = 0
  · subst hz; rw [show (0 : Int).natAbs = 0 from rfl, rn_zero]; rfl
  · by_cases hlt : z < 0
    · rw [decide_eq_true hlt, decide_eq_false (by omega)]; simp
    · rw [decide_eq_false hlt, decide_eq_true (by omega)]; simp
/-- Dekker: where the first is not the smaller, the sum less the first is a double -/
theorem dekker_pos {a b : UInt64} (ha : DFin a) (hb : DFin b) (sa : Sm (Zv a)) (sb : Sm (Zv b)) (e2 : (2 : Int) ∣ Zv a) (h0 : 0 ≤ Zv a) (h : (Zv b).natAbs ≤ (Zv a).natAbs) : Rp (Zv (FP.dadd a b) - Zv a) := by
  have ra := Rp.of ha
  have rb := Rp.of hb
  have hp := pow_2040
  have hs := (add_rn ha hb (by unfold Sm at sa sb; omega)).1
  by_cases hb0 : 0 ≤ Zv b
  · have l1 := dadd_ge ha hb (fin_ne ha) (by omega)
    obtain ⟨V, fV, eV⟩ := dbl_rep ra sa
    have l2 := dadd_le ha hb (fin_ne fV) (by omega)
    exact sterbenz ra (Rp.of hs) h0 l1 (by omega)
  · by_cases hh : 2 * (-Zv b) ≤ Zv a
    · have l1 := dadd_le ha hb (fin_ne ha) (by omega)
      obtain ⟨V, fV, eV⟩ := half_rep ra e2
      have l2 := dadd_ge ha hb (fin_ne fV) (by omega)
      have := (sterbenz (Rp.of hs) ra (by omega) l1 (by omega)).neg
      rw [show Zv (FP.dadd a b) - Zv a = -(Zv a - Zv (FP.dadd a b)) by omega]
      exact this
    · have r1 := sterbenz rb.neg ra (by omega) (by omega) (by omega)
      have := add_exact ha hb (by rw [show Zv a + Zv b = Zv a - -Zv b by omega]; exact r1)
      rw [this.2, show Zv a + Zv b - Zv a = Zv b by omega]
      exact rb
theorem Sm.neg {z : Int} (h : Sm z) : Sm (-z) := by unfold Sm at *; omega
theorem dekker {a b : UInt64} (ha : DFin a) (hb : DFin b) (sa : Sm (Zv a)) (sb : Sm (Zv b)) (e2 : (2 : Int) ∣ Zv a) (h : (Zv b).natAbs ≤ (Zv a).natAbs) : Rp (Zv (FP.dadd a b) - Zv a) := by
  by_cases h0 : 0 ≤ Zv a
  · exact dekker_pos ha hb sa sb e2 h0 h
  · have := dekker_pos (cneg_fin ha) (cneg_fin hb) (by rw [Zv_cneg]; exact sa.neg) (by rw [Zv_cneg]; exact sb.neg) (by rw [Zv_cneg]; exact Int.dvd_neg.mpr e2) (by rw [Zv_cneg]; omega) (by rw [Zv_cneg, Zv_cneg]; omega)
    rw [neg_add ha hb sa sb, Zv_cneg] at this
    have := this.neg
    rw [show -(-Zv (FP.dadd a b) - -Zv a) = Zv (FP.dadd a b) - Zv a by omega] at this
    exact this
theorem sub_as {a b : UInt64} : FP.dsub a b = FP.dadd a (Core.dneg b) := Core.dsub_eq a b
theorem dekker_sub {a b : UInt64} (ha : DFin a) (hb : DFin b) (sa : Sm (Zv a)) (sb : Sm (Zv b)) (e2 : (2 : Int) ∣ Zv a) (h : (Zv b).natAbs ≤ (Zv a).natAbs) : Rp (Zv (FP.dsub a b) - Zv a) := by
  rw [sub_as]
  exact dekker ha (cneg_fin hb) sa (by rw [Zv_cneg]; exact sb.neg) e2 (by rw [Zv_cneg]; omega)
theorem sub_err {a b : UInt64} (ha : DFin a) (hb : DFin b) (sa : Sm (Zv a)) (sb : Sm (Zv b)) : Rp (Zv a - Zv b - Zv (FP.dsub a b)) := by
  have := err_rep ha (cneg_fin hb) sa (by rw [Zv_cneg]; exact sb.neg)
  rw [Zv_cneg, ← sub_as, show Zv a + -Zv b = Zv a - Zv b by omega] at this
  exact this
theorem sub_near {a b V : UInt64} (ha : DFin a) (hb : DFin b) (fV : DFin V) (sa : Sm (Zv a)) (sb : Sm (Zv b)) : (Zv a - Zv b - Zv (FP.dsub a b)).natAbs ≤ (Zv a - Zv b - Zv V).natAbs := by
  have := add_near ha (cneg_fin hb) fV sa (by rw [Zv_cneg]; exact sb.neg)
  rw [Zv_cneg, ← sub_as, show Zv a + -Zv b = Zv a - Zv b by omega] at this
  exact this
theorem sub_fin {a b : UInt64} (ha : DFin a) (hb : DFin b) (sa : Sm (Zv a)) (sb : Sm (Zv b)) : DFin (FP.dsub a b) := by
  rw [sub_as]
  have hp := pow_2040
  refine (add_rn ha (cneg_fin hb) ?_).1
  rw [Zv_cneg]; unfold Sm at sa sb; omega
theorem sub_exact {a b : UInt64} (ha : DFin a) (hb : DFin b) (h : Rp (Zv a - Zv b)) : DFin (FP.dsub a b) ∧ Zv (FP.dsub a b) = Zv a - Zv b := by
  rw [sub_as]
  have := add_exact ha (cneg_fin hb) (by rw [Zv_cneg, show Zv a + -Zv b = Zv a - Zv b by omega]; exact h)
  rw [Zv_cneg, show Zv a + -Zv b = Zv a - Zv b by omega] at this
  exact this
def Sq (z : Int) : Prop := z.natAbs ≤ 2 ^ 2037
theorem Sq.sm {z : Int} (h : Sq z) : Sm z := Nat.le_trans h (Nat.pow_le_pow_right (by decide) (by decide))
theorem pow_2037 : (8 : Nat) * 2 ^ 2037 = 2 ^ 2040 := by rw [show (2040 : Nat) = 2037 + 3 by decide, Nat.pow_add]; omega
/-- Knuth: the two-sum finds the error of a sum -/
theorem two_sum {x y s yp xp dx dy : UInt64} (fx : DFin x) (fy : DFin y) (sx : Sq (Zv x)) (sy : Sq (Zv y)) (ex : (2 : Int) ∣ Zv x) (ey : (2 : Int) ∣ Zv y)
    (hs : s = FP.dadd x y) (hyp : yp = FP.dsub s x) (hxp : xp = FP.dsub s yp) (hdx : dx = FP.dsub x xp) (hdy : dy = FP.dsub y yp) :
    DFin s ∧ DFin yp ∧ DFin xp ∧ DFin dx ∧ DFin dy ∧ DFin (FP.dadd dx dy) ∧ Zv (FP.dadd dx dy) = Zv x + Zv y - Zv s := by
  have mx := sx.sm
  have my := sy.sm
  have p7 := pow_2037
  have hp := pow_2040
  have fs : DFin s := by rw [hs]; exact (add_rn fx fy (by unfold Sm at mx my; omega)).1
  have nx : (Zv x + Zv y - Zv s).natAbs ≤ (Zv y).natAbs := by
    have := add_near fx fy fx mx my
    rw [← hs] at this; omega
  have ny : (Zv x + Zv y - Zv s).natAbs ≤ (Zv x).natAbs := by
    have := add_near fx fy fy mx my
    rw [← hs] at this; omega
  have re : Rp (Zv x + Zv y - Zv s) := by rw [hs]; exact err_rep fx fy mx my
  have qs : (Zv s).natAbs ≤ 3 * 2 ^ 2037 := by unfold Sq at sx sy; omega
  have ss : Sm (Zv s) := by unfold Sm; omega
  have es : (2 : Int) ∣ Zv s := by
    have := add_dvd (m := 1) fx fy mx my (by exact ex) (by exact ey)
    rw [hs]; exact this
  have fyp : DFin yp := by rw [hyp]; exact sub_fin fs fx ss mx
  have nyp : (Zv s - Zv x - Zv yp).natAbs ≤ (Zv s - Zv x - Zv y).natAbs := by
    have := sub_near fs fx fy ss mx
    rw [← hyp] at this; exact this
  have qyp : (Zv yp).natAbs ≤ 6 * 2 ^ 2037 := by unfold Sq at sx sy; omega
  have syp : Sm (Zv yp) := by unfold Sm; omega
  -- it is enough to know the last differences
  have fin : ∀ (X : DFin xp) (DX : DFin dx) (ux : Zv dx + Zv dy = Zv x + Zv y - Zv s) (DY : DFin dy), DFin s ∧ DFin yp ∧ DFin xp ∧ DFin dx ∧ DFin dy ∧ DFin (FP.dadd dx dy) ∧ Zv (FP.dadd dx dy) = Zv x + Zv y - Zv s := fun X DX ux DY => by
    have := add_exact DX DY (by rw [ux]; exact re)
    exact ⟨fs, fyp, X, DX, DY, this.1, this.2.trans ux⟩
  by_cases hc : (Zv y).natAbs ≤ (Zv x).natAbs
  · have r1 : Rp (Zv s - Zv x) := by rw [hs]; exact dekker fx fy mx my ex hc
    have e1 := sub_exact fs fx r1
    rw [← hyp] at e1
    have e2 := sub_exact fs fyp (by rw [e1.2, show Zv s - (Zv s - Zv x) = Zv x by omega]; exact Rp.of fx)
    rw [← hxp, e1.2, show Zv s - (Zv s - Zv x) = Zv x by omega] at e2
    have e3 := sub_exact fx e2.1 (by rw [e2.2, Int.sub_self]; exact ⟨0, dfin_const (by decide), by decide +kernel⟩)
    rw [← hdx, e2.2, Int.sub_self] at e3
    have e4 := sub_exact fy e1.1 (by rw [e1.2, show Zv y - (Zv s - Zv x) = Zv x + Zv y - Zv s by omega]; exact re)
    rw [← hdy, e1.2] at e4
    exact fin e2.1 e3.1 (by rw [e3.2, e4.2]; omega) e4.1
  · by_cases hz : Zv x + Zv y - Zv s = 0
    · have e1 := sub_exact fs fx (by rw [show Zv s - Zv x = Zv y by omega]; exact Rp.of fy)
      rw [← hyp, show Zv s - Zv x = Zv y by omega] at e1
      have e2 := sub_exact fs fyp (by rw [e1.2, show Zv s - Zv y = Zv x by omega]; exact Rp.of fx)
      rw [← hxp, e1.2, show Zv s - Zv y = Zv x by omega] at e2
      have e3 := sub_exact fx e2.1 (by rw [e2.2, Int.sub_self]; exact ⟨0, dfin_const (by decide), by decide +kernel⟩)
      rw [← hdx, e2.2, Int.sub_self] at e3
      have e4 := sub_exact fy e1.1 (by rw [e1.2, Int.sub_self]; exact ⟨0, dfin_const (by decide), by decide +kernel⟩)
      rw [← hdy, e1.2, Int.sub_self] at e4
      exact fin e2.1 e3.1 (by rw [e3.2, e4.2]; omega) e4.1
    · -- the sum is not below x in magnitude: else it were exact
      have hge : (Zv x).natAbs ≤ (Zv s).natAbs := by
        refine Nat.le_of_not_lt fun hlt => hz ?_
        have rx := Rp.of fx
        have ry := Rp.of fy
        by_cases y0 : 0 ≤ Zv y
        · by_cases x0 : 0 ≤ Zv x
          · have l1 := dadd_ge fx fy (fin_ne fx) (by omega)
            rw [← hs] at l1; omega
          · have hh : Zv y ≤ 2 * (-Zv x) := by
              refine Int.not_lt.mp fun hq => ?_
              have l1 := dadd_ge (V := Core.dneg x) fx fy (fin_ne (cneg_fin fx)) (by rw [Zv_cneg]; omega)
              rw [← hs, Zv_cneg] at l1; omega
            have r1 := sterbenz rx.neg ry (by omega) (by omega) hh
            have := add_exact fx fy (by rw [show Zv x + Zv y = Zv y - -Zv x by omega]; exact r1)
            rw [← hs] at this; omega
        · by_cases x0 : Zv x ≤ 0
          · have l1 := dadd_le fx fy (fin_ne fx) (by omega)
            rw [← hs] at l1; omega
          · have hh : -Zv y ≤ 2 * Zv x := by
              refine Int.not_lt.mp fun hq => ?_
              have l1 := dadd_le (V := Core.dneg x) fx fy (fin_ne (cneg_fin fx)) (by rw [Zv_cneg]; omega)
              rw [← hs, Zv_cneg] at l1; omega
            have r1 := (sterbenz rx ry.neg (by omega) (by omega) hh).neg
            have := add_exact fx fy (by rw [show Zv x + Zv y = -(-Zv y - Zv x) by omega]; exact r1)
            rw [← hs] at this; omega
      have r1 : Rp (Zv yp - Zv s) := by rw [hyp]; exact dekker_sub fs fx ss mx es hge
      have e2 := sub_exact fs fyp (by rw [show Zv s - Zv yp = -(Zv yp - Zv s) by omega]; exact r1.neg)
      rw [← hxp] at e2
      have r2 : Rp (Zv s - Zv x - Zv yp) := by rw [hyp]; exact sub_err fs fx ss mx
      have e3 := sub_exact fx e2.1 (by rw [e2.2, show Zv x - (Zv s - Zv yp) = -(Zv s - Zv x - Zv yp) by omega]; exact r2.neg)
      rw [← hdx, e2.2] at e3
      -- yp = y - err, rounded
      obtain ⟨E, fE, zE⟩ := re
      have hE : Zv (FP.dsub y E) = Zv yp := by
        rw [hyp, sub_as, sub_as]
        have a1 := add_rn fy (cneg_fin fE) (by rw [Zv_cneg, zE]; unfold Sm at mx my ss; omega)
        have a2 := add_rn fs (cneg_fin fx) (by rw [Zv_cneg]; unfold Sm at mx my ss; omega)
        have hne : Zv y + Zv (Core.dneg E) = Zv s + Zv (Core.dneg x) := by rw [Zv_cneg, Zv_cneg, zE]; omega
        rw [hne] at a1
        exact a1.2.trans a2.2.symm
      have r3 : Rp (Zv yp - Zv y) := by
        rw [← hE]
        exact dekker_sub fy fE my (by rw [zE]; unfold Sm at mx ⊢; omega) ey (by rw [zE]; omega)
      have e4 := sub_exact fy fyp (by rw [show Zv y - Zv yp = -(Zv yp - Zv y) by omega]; exact r3.neg)
      rw [← hdy] at e4
      exact fin e2.1 e3.1 (by rw [e3.2, e4.2]; omega) e4.1
end Jvm.OwnFP
namespace Jvm.Pilot.@@N@@
open Jvm Jvm.ClassFile Sem Op Lib Jvm.Free Jvm.Stand Jvm.LawKit Jvm.RoadKit Bundle Jvm.Pilot.@@N@@.Jvm.D
abbrev Go (p : Program) (e : Env) (below : List Frame) (t T : State) (m : MethodId) (pc : Nat) (ls : Array Slot) (st : List Value) : Prop := Steps p.tables e below (T.setTop (mkF m pc ls st)) t
/-- from A the run comes to B -/
def Goes (p : Program) (e : Env) (below : List Frame) (A B : State) : Prop := ∀ t, Steps p.tables e below B t → Steps p.tables e below A t
abbrev dLt (x y : UInt64) : Prop := FP.dcmp x y = some .lt
abbrev dEq (x y : UInt64) : Prop := FP.dcmp x y = some .eq
abbrev dLe (x y : UInt64) : Prop := FP.dcmp x y = some .lt ∨ FP.dcmp x y = some .eq
abbrev fLt (x y : UInt32) : Prop := FP.fcmp x y = some .lt
abbrev fEq (x y : UInt32) : Prop := FP.fcmp x y = some .eq
abbrev fLe (x y : UInt32) : Prop := FP.fcmp x y = some .lt ∨ FP.fcmp x y = some .eq
theorem Sta.keepO {Z : State} {h h' : Heap} {C n d : String} {v : Value} {ws : List Addr} (F : Sta Z h C n d v) (K : Keep h h' ws) (q : ∀ x ∈ ws, ∀ cell : Cell, h[x]? = some cell → cell.vm.isStatics = false) : Sta Z h' C n d v := by
  obtain ⟨cf, i, k, f, st, cell, h1, h2, h3, h4, h5, h6, h7⟩ := F
  refine ⟨cf, i, k, f, st, cell, h1, h2, h3, h4, K.2.1 _ _ h5 fun hm => ?_, h6, h7⟩
  rw [q _ hm _ h5] at h6; cases h6
theorem own_swap (o : Option Ordering) : o.map Ordering.swap = some .lt ↔ o = some .gt := by rcases o with _ | (_ | _ | _) <;> simp [Ordering.swap]
theorem own_swapE (o : Option Ordering) : o.map Ordering.swap = some .eq ↔ o = some .eq := by rcases o with _ | (_ | _ | _) <;> simp [Ordering.swap]
theorem own_dgt (x y : UInt64) : dLt y x ↔ FP.dcmp x y = some .gt := by
  show FP.Core.dcmp y x = some .lt ↔ FP.Core.dcmp x y = some .gt
  rw [FP.Core.dcmp_swap x y]; exact own_swap _
theorem own_dge (x y : UInt64) : dLe y x ↔ (FP.dcmp x y = some .gt ∨ FP.dcmp x y = some .eq) := by
  show (FP.Core.dcmp y x = some .lt ∨ FP.Core.dcmp y x = some .eq) ↔ (FP.Core.dcmp x y = some .gt ∨ FP.Core.dcmp x y = some .eq)
  rw [FP.Core.dcmp_swap x y, own_swap, own_swapE]
theorem own_fgt (x y : UInt32) : fLt y x ↔ FP.fcmp x y = some .gt := by
  show FP.Core.fcmp y x = some .lt ↔ FP.Core.fcmp x y = some .gt
  rw [FP.Core.fcmp_swap x y]; exact own_swap _
theorem own_fge (x y : UInt32) : fLe y x ↔ (FP.fcmp x y = some .gt ∨ FP.fcmp x y = some .eq) := by
  show (FP.Core.fcmp y x = some .lt ∨ FP.Core.fcmp y x = some .eq) ↔ (FP.Core.fcmp x y = some .gt ∨ FP.Core.fcmp x y = some .eq)
  rw [FP.Core.fcmp_swap x y, own_swap, own_swapE]
theorem own_c (o : Option Ordering) :
    (o = some .lt → ifCond.holds .ge (cmpValue o .g) = false ∧ ifCond.holds .lt (cmpValue o .g) = true) ∧
    (¬ o = some .lt → ifCond.holds .ge (cmpValue o .g) = true ∧ ifCond.holds .lt (cmpValue o .g) = false) ∧
    ((o = some .lt ∨ o = some .eq) → ifCond.holds .gt (cmpValue o .g) = false ∧ ifCond.holds .le (cmpValue o .g) = true) ∧
    (¬ (o = some .lt ∨ o = some .eq) → ifCond.holds .gt (cmpValue o .g) = true ∧ ifCond.holds .le (cmpValue o .g) = false) ∧
    (o = some .gt → ifCond.holds .le (cmpValue o .l) = false ∧ ifCond.holds .gt (cmpValue o .l) = true) ∧
    (¬ o = some .gt → ifCond.holds .le (cmpValue o .l) = true ∧ ifCond.holds .gt (cmpValue o .l) = false) ∧
    ((o = some .gt ∨ o = some .eq) → ifCond.holds .lt (cmpValue o .l) = false ∧ ifCond.holds .ge (cmpValue o .l) = true) ∧
    (¬ (o = some .gt ∨ o = some .eq) → ifCond.holds .lt (cmpValue o .l) = true ∧ ifCond.holds .ge (cmpValue o .l) = false) ∧
    (o = some .eq → ∀ q, ifCond.holds .ne (cmpValue o q) = false ∧ ifCond.holds .eq (cmpValue o q) = true) ∧
    (¬ o = some .eq → ∀ q, ifCond.holds .ne (cmpValue o q) = true ∧ ifCond.holds .eq (cmpValue o q) = false) := by
  refine ⟨?_, ?_, ?_, ?_, ?_, ?_, ?_, ?_, ?_, ?_⟩ <;> rcases o with _ | (_ | _ | _) <;> first | (intro h; exact ⟨by decide, by decide⟩) | (intro h q; cases q <;> exact ⟨by decide, by decide⟩) | (intro h; simp at h; done) | (intro h; exact absurd rfl h) | (intro h; exact absurd (Or.inl rfl) h) | (intro h; exact absurd (Or.inr rfl) h)
theorem dc_g_ge_f {x y : UInt64} (h : dLt x y) : ifCond.holds .ge (cmpValue (FP.dcmp x y) .g) = false := ((own_c _).1 h).1
theorem dc_g_ge_t {x y : UInt64} (h : ¬ dLt x y) : ifCond.holds .ge (cmpValue (FP.dcmp x y) .g) = true := ((own_c _).2.1 h).1
theorem dc_g_lt_t {x y : UInt64} (h : dLt x y) : ifCond.holds .lt (cmpValue (FP.dcmp x y) .g) = true := ((own_c _).1 h).2
theorem dc_g_lt_f {x y : UInt64} (h : ¬ dLt x y) : ifCond.holds .lt (cmpValue (FP.dcmp x y) .g) = false := ((own_c _).2.1 h).2
theorem dc_g_gt_f {x y : UInt64} (h : dLe x y) : ifCond.holds .gt (cmpValue (FP.dcmp x y) .g) = false := ((own_c _).2.2.1 h).1
theorem dc_g_gt_t {x y : UInt64} (h : ¬ dLe x y) : ifCond.holds .gt (cmpValue (FP.dcmp x y) .g) = true := ((own_c _).2.2.2.1 h).1
theorem dc_g_le_t {x y : UInt64} (h : dLe x y) : ifCond.holds .le (cmpValue (FP.dcmp x y) .g) = true := ((own_c _).2.2.1 h).2
theorem dc_g_le_f {x y : UInt64} (h : ¬ dLe x y) : ifCond.holds .le (cmpValue (FP.dcmp x y) .g) = false := ((own_c _).2.2.2.1 h).2
theorem dc_l_le_f {x y : UInt64} (h : dLt y x) : ifCond.holds .le (cmpValue (FP.dcmp x y) .l) = false := ((own_c _).2.2.2.2.1 ((own_dgt x y).mp h)).1
theorem dc_l_le_t {x y : UInt64} (h : ¬ dLt y x) : ifCond.holds .le (cmpValue (FP.dcmp x y) .l) = true := ((own_c _).2.2.2.2.2.1 (fun q => h ((own_dgt x y).mpr q))).1
theorem dc_l_gt_t {x y : UInt64} (h : dLt y x) : ifCond.holds .gt (cmpValue (FP.dcmp x y) .l) = true := ((own_c _).2.2.2.2.1 ((own_dgt x y).mp h)).2
theorem dc_l_gt_f {x y : UInt64} (h : ¬ dLt y x) : ifCond.holds .gt (cmpValue (FP.dcmp x y) .l) = false := ((own_c _).2.2.2.2.2.1 (fun q => h ((own_dgt x y).mpr q))).2
theorem dc_l_lt_f {x y : UInt64} (h : dLe y x) : ifCond.holds .lt (cmpValue (FP.dcmp x y) .l) = false := ((own_c _).2.2.2.2.2.2.1 ((own_dge x y).mp h)).1
theorem dc_l_lt_t {x y : UInt64} (h : ¬ dLe y x) : ifCond.holds .lt (cmpValue (FP.dcmp x y) .l) = true := ((own_c _).2.2.2.2.2.2.2.1 (fun q => h ((own_dge x y).mpr q))).1
theorem dc_l_ge_t {x y : UInt64} (h : dLe y x) : ifCond.holds .ge (cmpValue (FP.dcmp x y) .l) = true := ((own_c _).2.2.2.2.2.2.1 ((own_dge x y).mp h)).2
theorem dc_l_ge_f {x y : UInt64} (h : ¬ dLe y x) : ifCond.holds .ge (cmpValue (FP.dcmp x y) .l) = false := ((own_c _).2.2.2.2.2.2.2.1 (fun q => h ((own_dge x y).mpr q))).2
theorem dc_l_ne_f {x y : UInt64} (h : dEq x y) : ifCond.holds .ne (cmpValue (FP.dcmp x y) .l) = false := ((own_c _).2.2.2.2.2.2.2.2.1 h _).1
theorem dc_l_ne_t {x y : UInt64} (h : ¬ dEq x y) : ifCond.holds .ne (cmpValue (FP.dcmp x y) .l) = true := ((own_c _).2.2.2.2.2.2.2.2.2 h _).1
theorem dc_l_eq_t {x y : UInt64} (h : dEq x y) : ifCond.holds .eq (cmpValue (FP.dcmp x y) .l) = true := ((own_c _).2.2.2.2.2.2.2.2.1 h _).2
theorem dc_l_eq_f {x y : UInt64} (h : ¬ dEq x y) : ifCond.holds .eq (cmpValue (FP.dcmp x y) .l) = false := ((own_c _).2.2.2.2.2.2.2.2.2 h _).2
theorem dc_g_ne_f {x y : UInt64} (h : dEq x y) : ifCond.holds .ne (cmpValue (FP.dcmp x y) .g) = false := ((own_c _).2.2.2.2.2.2.2.2.1 h _).1
theorem dc_g_ne_t {x y : UInt64} (h : ¬ dEq x y) : ifCond.holds .ne (cmpValue (FP.dcmp x y) .g) = true := ((own_c _).2.2.2.2.2.2.2.2.2 h _).1
theorem dc_g_eq_t {x y : UInt64} (h : dEq x y) : ifCond.holds .eq (cmpValue (FP.dcmp x y) .g) = true := ((own_c _).2.2.2.2.2.2.2.2.1 h _).2
theorem dc_g_eq_f {x y : UInt64} (h : ¬ dEq x y) : ifCond.holds .eq (cmpValue (FP.dcmp x y) .g) = false := ((own_c _).2.2.2.2.2.2.2.2.2 h _).2
theorem fc_g_ge_f {x y : UInt32} (h : fLt x y) : ifCond.holds .ge (cmpValue (FP.fcmp x y) .g) = false := ((own_c _).1 h).1
theorem fc_g_ge_t {x y : UInt32} (h : ¬ fLt x y) : ifCond.holds .ge (cmpValue (FP.fcmp x y) .g) = true := ((own_c _).2.1 h).1
theorem fc_g_lt_t {x y : UInt32} (h : fLt x y) : ifCond.holds .lt (cmpValue (FP.fcmp x y) .g) = true := ((own_c _).1 h).2
theorem fc_g_lt_f {x y : UInt32} (h : ¬ fLt x y) : ifCond.holds .lt (cmpValue (FP.fcmp x y) .g) = false := ((own_c _).2.1 h).2
theorem fc_g_gt_f {x y : UInt32} (h : fLe x y) : ifCond.holds .gt (cmpValue (FP.fcmp x y) .g) = false := ((own_c _).2.2.1 h).1
theorem fc_g_gt_t {x y : UInt32} (h : ¬ fLe x y) : ifCond.holds .gt (cmpValue (FP.fcmp x y) .g) = true := ((own_c _).2.2.2.1 h).1
theorem fc_g_le_t {x y : UInt32} (h : fLe x y) : ifCond.holds .le (cmpValue (FP.fcmp x y) .g) = true := ((own_c _).2.2.1 h).2
theorem fc_g_le_f {x y : UInt32} (h : ¬ fLe x y) : ifCond.holds .le (cmpValue (FP.fcmp x y) .g) = false := ((own_c _).2.2.2.1 h).2
theorem fc_l_le_f {x y : UInt32} (h : fLt y x) : ifCond.holds .le (cmpValue (FP.fcmp x y) .l) = false := ((own_c _).2.2.2.2.1 ((own_fgt x y).mp h)).1
theorem fc_l_le_t {x y : UInt32} (h : ¬ fLt y x) : ifCond.holds .le (cmpValue (FP.fcmp x y) .l) = true := ((own_c _).2.2.2.2.2.1 (fun q => h ((own_fgt x y).mpr q))).1
theorem fc_l_gt_t {x y : UInt32} (h : fLt y x) : ifCond.holds .gt (cmpValue (FP.fcmp x y) .l) = true := ((own_c _).2.2.2.2.1 ((own_fgt x y).mp h)).2
theorem fc_l_gt_f {x y : UInt32} (h : ¬ fLt y x) : ifCond.holds .gt (cmpValue (FP.fcmp x y) .l) = false := ((own_c _).2.2.2.2.2.1 (fun q => h ((own_fgt x y).mpr q))).2
theorem fc_l_lt_f {x y : UInt32} (h : fLe y x) : ifCond.holds .lt (cmpValue (FP.fcmp x y) .l) = false := ((own_c _).2.2.2.2.2.2.1 ((own_fge x y).mp h)).1
theorem fc_l_lt_t {x y : UInt32} (h : ¬ fLe y x) : ifCond.holds .lt (cmpValue (FP.fcmp x y) .l) = true := ((own_c _).2.2.2.2.2.2.2.1 (fun q => h ((own_fge x y).mpr q))).1
theorem fc_l_ge_t {x y : UInt32} (h : fLe y x) : ifCond.holds .ge (cmpValue (FP.fcmp x y) .l) = true := ((own_c _).2.2.2.2.2.2.1 ((own_fge x y).mp h)).2
theorem fc_l_ge_f {x y : UInt32} (h : ¬ fLe y x) : ifCond.holds .ge (cmpValue (FP.fcmp x y) .l) = false := ((own_c _).2.2.2.2.2.2.2.1 (fun q => h ((own_fge x y).mpr q))).2
theorem fc_l_ne_f {x y : UInt32} (h : fEq x y) : ifCond.holds .ne (cmpValue (FP.fcmp x y) .l) = false := ((own_c _).2.2.2.2.2.2.2.2.1 h _).1
theorem fc_l_ne_t {x y : UInt32} (h : ¬ fEq x y) : ifCond.holds .ne (cmpValue (FP.fcmp x y) .l) = true := ((own_c _).2.2.2.2.2.2.2.2.2 h _).1
theorem fc_l_eq_t {x y : UInt32} (h : fEq x y) : ifCond.holds .eq (cmpValue (FP.fcmp x y) .l) = true := ((own_c _).2.2.2.2.2.2.2.2.1 h _).2
theorem fc_l_eq_f {x y : UInt32} (h : ¬ fEq x y) : ifCond.holds .eq (cmpValue (FP.fcmp x y) .l) = false := ((own_c _).2.2.2.2.2.2.2.2.2 h _).2
theorem fc_g_ne_f {x y : UInt32} (h : fEq x y) : ifCond.holds .ne (cmpValue (FP.fcmp x y) .g) = false := ((own_c _).2.2.2.2.2.2.2.2.1 h _).1
theorem fc_g_ne_t {x y : UInt32} (h : ¬ fEq x y) : ifCond.holds .ne (cmpValue (FP.fcmp x y) .g) = true := ((own_c _).2.2.2.2.2.2.2.2.2 h _).1
theorem fc_g_eq_t {x y : UInt32} (h : fEq x y) : ifCond.holds .eq (cmpValue (FP.fcmp x y) .g) = true := ((own_c _).2.2.2.2.2.2.2.2.1 h _).2
theorem fc_g_eq_f {x y : UInt32} (h : ¬ fEq x y) : ifCond.holds .eq (cmpValue (FP.fcmp x y) .g) = false := ((own_c _).2.2.2.2.2.2.2.2.2 h _).2
theorem d0_0 : decode method_2_code 0 = .ok (.iload_n 0, 1) := by decide +kernel
theorem d0_1 : decode method_2_code 1 = .ok (.ifCond .ne 5, 3) := by decide +kernel
theorem d0_4 : decode method_2_code 4 = .ok (.dconst 1, 1) := by decide +kernel
theorem d0_5 : decode method_2_code 5 = .ok (.dreturn, 1) := by decide +kernel
theorem d0_6 : decode method_2_code 6 = .ok (.iload_n 0, 1) := by decide +kernel
theorem d0_7 : decode method_2_code 7 = .ok (.iconst 1, 1) := by decide +kernel
theorem d0_8 : decode method_2_code 8 = .ok (.if_icmp .ne 7, 3) := by decide +kernel
theorem d0_11 : decode method_2_code 11 = .ok (.ldc2_w 7, 3) := by decide +kernel
theorem d0_14 : decode method_2_code 14 = .ok (.dreturn, 1) := by decide +kernel
theorem d0_15 : decode method_2_code 15 = .ok (.iload_n 0, 1) := by decide +kernel
theorem d0_16 : decode method_2_code 16 = .ok (.iconst 2, 1) := by decide +kernel
theorem d0_17 : decode method_2_code 17 = .ok (.if_icmp .ne 7, 3) := by decide +kernel
theorem d0_20 : decode method_2_code 20 = .ok (.ldc2_w 9, 3) := by decide +kernel
theorem d0_23 : decode method_2_code 23 = .ok (.dreturn, 1) := by decide +kernel
theorem d0_24 : decode method_2_code 24 = .ok (.ldc2_w 11, 3) := by decide +kernel
theorem d0_27 : decode method_2_code 27 = .ok (.dreturn, 1) := by decide +kernel
theorem pd0 : parseMethodDescriptor "(I)D" = some ⟨[.int], some .double⟩ := by decide +kernel
theorem pf_sc : plainFor (⟨"com/example/kettenbruch/kettenbruch/RealLoopSumErrorPinLaw", "scaleOf", "(I)D"⟩ : MethodName) = true := by first | exact plainFor_of_name (by first | (simp [plainName, overriddenIn, x]; done) | decide +kernel) | exact Jvm.Free.JP.mathPlain rfl (by decide +kernel) | decide +kernel
theorem ef_sc (m : MethodId) (xk : Int32) : entryFrame m #[(.int xk)] 1 = mkF m 0 #[iv xk] [] := by first | (simp [entryFrame, mkF, argsToLocals, Value.category, maxLocals]; done) | rfl
def f_sc (xk : Int32) : UInt64 := (if xk = 0 then (4607182418800017408 : UInt64) else (if xk = (1 : Int32) then (4336966441157787648 : UInt64) else (if xk = (2 : Int32) then (8660422083433463808 : UInt64) else (103582791429521408 : UInt64))))
def Q_sc (Z : State) (xk : Int32)  (h0 : Heap) (n0 : Nat) (v : Option Value) (h : Heap) (L : List Loc) : Prop := v = some (.double (f_sc xk)) ∧ Fr n0 L ∧ h = h0
set_option maxRecDepth 65536 in
set_option maxHeartbeats 40000000 in
theorem rm_sc (l : Launch) (Z : State) (a0 : Array Value) (hw : ∀ d ∈ tables_1, d.before a0 Z = true) (ws : List Jvm.Cond) (xk : Int32)  (h0 : Heap) (n0 : Nat) (Z0 : n0 ≤ h0.size)   :
    MetFree l (⟨"com/example/kettenbruch/kettenbruch/RealLoopSumErrorPinLaw", "scaleOf", "(I)D"⟩ : MethodName) (head1 (Jvm.Cond.code (⟨"com/example/kettenbruch/kettenbruch/RealLoopSumErrorPinLaw", "scaleOf", "(I)D"⟩ : MethodName) method_2_code 1 (some .double) :: ws) ({ frames := 0, cells := 0, slots := 0, locals := 0 } : Room)) (fun a U => a = #[(.int xk)] ∧ Z.Warmed39 U.vm ∧ U.heap = h0) (fun _ _ _ _ _ => True) (fun _ U o U' => ∃ v L, o = .returned v ∧ Q_sc Z xk  h0 n0 v U'.heap L ∧ FrameEnd U o U' L ({ frames := 0, cells := 0, slots := 0, locals := 0 } : Room).cells ({ frames := 0, cells := 0, slots := 0, locals := 0 } : Room).slots) := by
  refine MetFree.of_bodySF pf_sc hisR ?_
  intro p e s m args below meth c s₁ Bd hml0 hP hK
  obtain ⟨rfl, hZ, hh⟩ := hP
  have hx := Bd.exec
  have hby := Bd.bytes
  have hml : c.maxLocals = 1 := hml0
  have hown : s.vm.findClass "com/example/kettenbruch/kettenbruch/RealLoopSumErrorPinLaw" = some m.cls := findClass_of_methodNamed Bd.named
  have hnm := (name_of_methodNamed Bd.named Bd.method).1
  have X0 : Stand p l e ({ frames := 0, cells := 0, slots := 0, locals := 0 } : Room) s m #[(.int xk)] below meth c s₁ [] 0 0 := Stand.of_body Bd
  have e0 : s₁.heap = h0 := by rw [← hh, Bd.state]; rfl
  have N0 := Fr.nil n0
  obtain ⟨S0, hS0⟩ : ∃ z, z = s₁.setTop (entryFrame m #[(.int xk)] 1) := ⟨_, rfl⟩
  rw [← hS0]
  have g0 : Goes p e below S0 (s₁.setTop (mkF m 0 #[iv xk] [])) := fun t k => by rw [hS0]; exact castTop (ef_sc m xk) k
  have g1 : Goes p e below S0 (s₁.setTop (mkF m 1 #[iv xk] [(.int xk)])) := fun t k => g0 t (by
    refine XS.iloadN X0.here hx rfl (hb hby d0_0) rfl ?_
    show Go p e below t s₁ m 1 #[iv xk] [(.int xk)]
    exact k)
  by_cases h2 : xk = 0
  · skip
    have g3 : Goes p e below S0 (s₁.setTop (mkF m 5 #[iv xk] [(.double (4607182418800017408 : UInt64))])) := fun t k => g1 t (by
      refine XS.ifNo X0.here hx rfl (hb hby d0_1) rfl (XT.i0_ne_f h2) ?_
      show Go p e below t s₁ m 4 #[iv xk] []
      refine XS.dconst1 X0.here hx rfl (hb hby d0_4) (v := (4607182418800017408 : UInt64)) rfl ?_
      show Go p e below t s₁ m 5 #[iv xk] [(.double (4607182418800017408 : UInt64))]
      exact k)
    obtain ⟨fs, hr, hrun, hended, hW, hsame⟩ := X0.leave (v := some (.double (4607182418800017408 : UInt64))) (fun h => by rw [Bd.returns] at h; cases h)
    refine ⟨_, _, g3 _ (retOut X0 hx Bd.returns rfl (Or.inr (Or.inr (Or.inl ⟨rfl, rfl, _, rfl⟩))) (hb hby d0_5) hr), hrun, hended, _, _, rfl, ?_, ⟨_, rfl⟩, hW, hsame.mono (by decide) (by decide)⟩
    show Q_sc Z xk  h0 n0 _ s₁.heap _
    rw [e0]
    exact ⟨by unfold f_sc; rw [if_pos h2], N0, rfl⟩
  · skip
    have g4 : Goes p e below S0 (s₁.setTop (mkF m 8 #[iv xk] [(.int (1 : Int32)), (.int xk)])) := fun t k => g1 t (by
      refine XS.ifYes X0.here hx rfl (pc0 := 1) (pc' := 6) rfl (hb hby d0_1) rfl (XT.i0_ne_t h2) (by decide) (by decide) ?_
      show Go p e below t s₁ m 6 #[iv xk] []
      refine XS.iloadN X0.here hx rfl (hb hby d0_6) rfl ?_
      show Go p e below t s₁ m 7 #[iv xk] [(.int xk)]
      refine XT.iconstV X0.here hx rfl (1 : Int32) (hb hby d0_7) (by decide) ?_
      show Go p e below t s₁ m 8 #[iv xk] [(.int (1 : Int32)), (.int xk)]
      exact k)
    by_cases h5 : xk = (1 : Int32)
    · skip
      have g6 : Goes p e below S0 (s₁.setTop (mkF m 14 #[iv xk] [(.double (4336966441157787648 : UInt64))])) := fun t k => g4 t (by
        refine XS.icmpNo X0.here hx rfl (hb hby d0_8) rfl (XT.ii_ne_f h5) ?_
        show Go p e below t s₁ m 11 #[iv xk] []
        refine X0.ldc2DoubleC hx hown (mvT hZ (hw _ (List.mem_of_getElem? (i := 8) rfl))) (g := (mkF m 11 #[iv xk] [])) rfl (hb hby d0_11) _ ?_
        show Go p e below t s₁ m 14 #[iv xk] [(.double (4336966441157787648 : UInt64))]
        exact k)
      obtain ⟨fs, hr, hrun, hended, hW, hsame⟩ := X0.leave (v := some (.double (4336966441157787648 : UInt64))) (fun h => by rw [Bd.returns] at h; cases h)
      refine ⟨_, _, g6 _ (retOut X0 hx Bd.returns rfl (Or.inr (Or.inr (Or.inl ⟨rfl, rfl, _, rfl⟩))) (hb hby d0_14) hr), hrun, hended, _, _, rfl, ?_, ⟨_, rfl⟩, hW, hsame.mono (by decide) (by decide)⟩
      show Q_sc Z xk  h0 n0 _ s₁.heap _
      rw [e0]
      exact ⟨by unfold f_sc; rw [if_neg h2, if_pos h5], N0, rfl⟩
    · skip
      have g7 : Goes p e below S0 (s₁.setTop (mkF m 17 #[iv xk] [(.int (2 : Int32)), (.int xk)])) := fun t k => g4 t (by
        refine XS.icmpYes X0.here hx rfl (pc0 := 8) (pc' := 15) rfl (hb hby d0_8) rfl (XT.ii_ne_t h5) (by decide) (by decide) ?_
        show Go p e below t s₁ m 15 #[iv xk] []
        refine XS.iloadN X0.here hx rfl (hb hby d0_15) rfl ?_
        show Go p e below t s₁ m 16 #[iv xk] [(.int xk)]
        refine XT.iconstV X0.here hx rfl (2 : Int32) (hb hby d0_16) (by decide) ?_
        show Go p e below t s₁ m 17 #[iv xk] [(.int (2 : Int32)), (.int xk)]
        exact k)
      by_cases h8 : xk = (2 : Int32)
      · skip
        have g9 : Goes p e below S0 (s₁.setTop (mkF m 23 #[iv xk] [(.double (8660422083433463808 : UInt64))])) := fun t k => g7 t (by
          refine XS.icmpNo X0.here hx rfl (hb hby d0_17) rfl (XT.ii_ne_f h8) ?_
          show Go p e below t s₁ m 20 #[iv xk] []
          refine X0.ldc2DoubleC hx hown (mvT hZ (hw _ (List.mem_of_getElem? (i := 10) rfl))) (g := (mkF m 20 #[iv xk] [])) rfl (hb hby d0_20) _ ?_
          show Go p e below t s₁ m 23 #[iv xk] [(.double (8660422083433463808 : UInt64))]
          exact k)
        obtain ⟨fs, hr, hrun, hended, hW, hsame⟩ := X0.leave (v := some (.double (8660422083433463808 : UInt64))) (fun h => by rw [Bd.returns] at h; cases h)
        refine ⟨_, _, g9 _ (retOut X0 hx Bd.returns rfl (Or.inr (Or.inr (Or.inl ⟨rfl, rfl, _, rfl⟩))) (hb hby d0_23) hr), hrun, hended, _, _, rfl, ?_, ⟨_, rfl⟩, hW, hsame.mono (by decide) (by decide)⟩
        show Q_sc Z xk  h0 n0 _ s₁.heap _
        rw [e0]
        exact ⟨by unfold f_sc; rw [if_neg h2, if_neg h5, if_pos h8], N0, rfl⟩
      · skip
        have g10 : Goes p e below S0 (s₁.setTop (mkF m 27 #[iv xk] [(.double (103582791429521408 : UInt64))])) := fun t k => g7 t (by
          refine XS.icmpYes X0.here hx rfl (pc0 := 17) (pc' := 24) rfl (hb hby d0_17) rfl (XT.ii_ne_t h8) (by decide) (by decide) ?_
          show Go p e below t s₁ m 24 #[iv xk] []
          refine X0.ldc2DoubleC hx hown (mvT hZ (hw _ (List.mem_of_getElem? (i := 9) rfl))) (g := (mkF m 24 #[iv xk] [])) rfl (hb hby d0_24) _ ?_
          show Go p e below t s₁ m 27 #[iv xk] [(.double (103582791429521408 : UInt64))]
          exact k)
        obtain ⟨fs, hr, hrun, hended, hW, hsame⟩ := X0.leave (v := some (.double (103582791429521408 : UInt64))) (fun h => by rw [Bd.returns] at h; cases h)
        refine ⟨_, _, g10 _ (retOut X0 hx Bd.returns rfl (Or.inr (Or.inr (Or.inl ⟨rfl, rfl, _, rfl⟩))) (hb hby d0_27) hr), hrun, hended, _, _, rfl, ?_, ⟨_, rfl⟩, hW, hsame.mono (by decide) (by decide)⟩
        show Q_sc Z xk  h0 n0 _ s₁.heap _
        rw [e0]
        exact ⟨by unfold f_sc; rw [if_neg h2, if_neg h5, if_neg h8], N0, rfl⟩
theorem d1_0 : decode prog_11_method_9_code 0 = .ok (.dload 4, 2) := by decide +kernel
theorem d1_2 : decode prog_11_method_9_code 2 = .ok (.dload_n 0, 1) := by decide +kernel
theorem d1_3 : decode prog_11_method_9_code 3 = .ok (.dsub, 1) := by decide +kernel
theorem d1_4 : decode prog_11_method_9_code 4 = .ok (.dstore 6, 2) := by decide +kernel
theorem d1_6 : decode prog_11_method_9_code 6 = .ok (.dload_n 0, 1) := by decide +kernel
theorem d1_7 : decode prog_11_method_9_code 7 = .ok (.dload 4, 2) := by decide +kernel
theorem d1_9 : decode prog_11_method_9_code 9 = .ok (.dload 6, 2) := by decide +kernel
theorem d1_11 : decode prog_11_method_9_code 11 = .ok (.dsub, 1) := by decide +kernel
theorem d1_12 : decode prog_11_method_9_code 12 = .ok (.dsub, 1) := by decide +kernel
theorem d1_13 : decode prog_11_method_9_code 13 = .ok (.dload_n 2, 1) := by decide +kernel
theorem d1_14 : decode prog_11_method_9_code 14 = .ok (.dload 6, 2) := by decide +kernel
theorem d1_16 : decode prog_11_method_9_code 16 = .ok (.dsub, 1) := by decide +kernel
theorem d1_17 : decode prog_11_method_9_code 17 = .ok (.dadd, 1) := by decide +kernel
theorem d1_18 : decode prog_11_method_9_code 18 = .ok (.dreturn, 1) := by decide +kernel
theorem pd1 : parseMethodDescriptor "(DDD)D" = some ⟨[.double, .double, .double], some .double⟩ := by decide +kernel
theorem pf_se : plainFor (⟨"com/example/kettenbruch/kettenbruch/RealLoop", "sumError", "(DDD)D"⟩ : MethodName) = true := by first | exact plainFor_of_name (by first | (simp [plainName, overriddenIn, x]; done) | decide +kernel) | exact Jvm.Free.JP.mathPlain rfl (by decide +kernel) | decide +kernel
theorem ef_se (m : MethodId) (xx : UInt64) (xy : UInt64) (xs : UInt64) : entryFrame m #[(.double xx), (.double xy), (.double xs)] 8 = mkF m 0 #[.val (.double xx), .second, .val (.double xy), .second, .val (.double xs), .second, .unset, .unset] [] := by first | (simp [entryFrame, mkF, argsToLocals, Value.category, maxLocals]; done) | rfl
def f_se (xx : UInt64) (xy : UInt64) (xs : UInt64) : UInt64 := (FP.dadd (FP.dsub xx (FP.dsub xs (FP.dsub xs xx))) (FP.dsub xy (FP.dsub xs xx)))
def Q_se (Z : State) (xx : UInt64) (xy : UInt64) (xs : UInt64)  (h0 : Heap) (n0 : Nat) (v : Option Value) (h : Heap) (L : List Loc) : Prop := v = some (.double (f_se xx xy xs)) ∧ Fr n0 L ∧ h = h0
set_option maxRecDepth 65536 in
set_option maxHeartbeats 40000000 in
theorem rm_se (l : Launch) (Z : State) (a0 : Array Value) (hw : ∀ d ∈ tables_1, d.before a0 Z = true) (ws : List Jvm.Cond) (xx : UInt64) (xy : UInt64) (xs : UInt64)  (h0 : Heap) (n0 : Nat) (Z0 : n0 ≤ h0.size)  (nn3 : Jvm.Free.Fl.NoNaN64 (FP.dsub xs xx)) (nn11 : Jvm.Free.Fl.NoNaN64 (FP.dsub xs (FP.dsub xs xx))) (nn12 : Jvm.Free.Fl.NoNaN64 (FP.dsub xx (FP.dsub xs (FP.dsub xs xx)))) (nn16 : Jvm.Free.Fl.NoNaN64 (FP.dsub xy (FP.dsub xs xx))) (nn17 : Jvm.Free.Fl.NoNaN64 (FP.dadd (FP.dsub xx (FP.dsub xs (FP.dsub xs xx))) (FP.dsub xy (FP.dsub xs xx)))) :
    MetFree l (⟨"com/example/kettenbruch/kettenbruch/RealLoop", "sumError", "(DDD)D"⟩ : MethodName) (head1 (Jvm.Cond.code (⟨"com/example/kettenbruch/kettenbruch/RealLoop", "sumError", "(DDD)D"⟩ : MethodName) prog_11_method_9_code 8 (some .double) :: ws) ({ frames := 0, cells := 0, slots := 0, locals := 0 } : Room)) (fun a U => a = #[(.double xx), (.double xy), (.double xs)] ∧ Z.Warmed39 U.vm ∧ U.heap = h0) (fun _ _ _ _ _ => True) (fun _ U o U' => ∃ v L, o = .returned v ∧ Q_se Z xx xy xs  h0 n0 v U'.heap L ∧ FrameEnd U o U' L ({ frames := 0, cells := 0, slots := 0, locals := 0 } : Room).cells ({ frames := 0, cells := 0, slots := 0, locals := 0 } : Room).slots) := by
  refine MetFree.of_bodySF pf_se hisR ?_
  intro p e s m args below meth c s₁ Bd hml0 hP hK
  obtain ⟨rfl, hZ, hh⟩ := hP
  have hx := Bd.exec
  have hby := Bd.bytes
  have hml : c.maxLocals = 8 := hml0
  have hown : s.vm.findClass "com/example/kettenbruch/kettenbruch/RealLoop" = some m.cls := findClass_of_methodNamed Bd.named
  have hnm := (name_of_methodNamed Bd.named Bd.method).1
  have X0 : Stand p l e ({ frames := 0, cells := 0, slots := 0, locals := 0 } : Room) s m #[(.double xx), (.double xy), (.double xs)] below meth c s₁ [] 0 0 := Stand.of_body Bd
  have e0 : s₁.heap = h0 := by rw [← hh, Bd.state]; rfl
  have N0 := Fr.nil n0
  obtain ⟨S0, hS0⟩ : ∃ z, z = s₁.setTop (entryFrame m #[(.double xx), (.double xy), (.double xs)] 8) := ⟨_, rfl⟩
  rw [← hS0]
  have g0 : Goes p e below S0 (s₁.setTop (mkF m 0 #[.val (.double xx), .second, .val (.double xy), .second, .val (.double xs), .second, .unset, .unset] [])) := fun t k => by rw [hS0]; exact castTop (ef_se m xx xy xs) k
  have g11 : Goes p e below S0 (s₁.setTop (mkF m 18 #[.val (.double xx), .second, .val (.double xy), .second, .val (.double xs), .second, .val (.double (FP.dsub xs xx)), .second] [(.double (FP.dadd (FP.dsub xx (FP.dsub xs (FP.dsub xs xx))) (FP.dsub xy (FP.dsub xs xx))))])) := fun t k => g0 t (by
    refine XS.dload X0.here hx rfl (hb hby d1_0) rfl ?_
    show Go p e below t s₁ m 2 #[.val (.double xx), .second, .val (.double xy), .second, .val (.double xs), .second, .unset, .unset] [(.double xs)]
    refine XS.dloadN X0.here hx rfl (hb hby d1_2) rfl ?_
    show Go p e below t s₁ m 3 #[.val (.double xx), .second, .val (.double xy), .second, .val (.double xs), .second, .unset, .unset] [(.double xx), (.double xs)]
    refine XS.dsubS X0.here hx rfl (hb hby d1_3) rfl nn3 rfl ?_
    show Go p e below t s₁ m 4 #[.val (.double xx), .second, .val (.double xy), .second, .val (.double xs), .second, .unset, .unset] [(.double (FP.dsub xs xx))]
    refine XS.dstore X0.here hx rfl (hb hby d1_4) rfl (l' := #[.val (.double xx), .second, .val (.double xy), .second, .val (.double xs), .second, .val (.double (FP.dsub xs xx)), .second]) rfl ?_
    show Go p e below t s₁ m 6 #[.val (.double xx), .second, .val (.double xy), .second, .val (.double xs), .second, .val (.double (FP.dsub xs xx)), .second] []
    refine XS.dloadN X0.here hx rfl (hb hby d1_6) rfl ?_
    show Go p e below t s₁ m 7 #[.val (.double xx), .second, .val (.double xy), .second, .val (.double xs), .second, .val (.double (FP.dsub xs xx)), .second] [(.double xx)]
    refine XS.dload X0.here hx rfl (hb hby d1_7) rfl ?_
    show Go p e below t s₁ m 9 #[.val (.double xx), .second, .val (.double xy), .second, .val (.double xs), .second, .val (.double (FP.dsub xs xx)), .second] [(.double xs), (.double xx)]
    refine XS.dload X0.here hx rfl (hb hby d1_9) rfl ?_
    show Go p e below t s₁ m 11 #[.val (.double xx), .second, .val (.double xy), .second, .val (.double xs), .second, .val (.double (FP.dsub xs xx)), .second] [(.double (FP.dsub xs xx)), (.double xs), (.double xx)]
    refine XS.dsubS X0.here hx rfl (hb hby d1_11) rfl nn11 rfl ?_
    show Go p e below t s₁ m 12 #[.val (.double xx), .second, .val (.double xy), .second, .val (.double xs), .second, .val (.double (FP.dsub xs xx)), .second] [(.double (FP.dsub xs (FP.dsub xs xx))), (.double xx)]
    refine XS.dsubS X0.here hx rfl (hb hby d1_12) rfl nn12 rfl ?_
    show Go p e below t s₁ m 13 #[.val (.double xx), .second, .val (.double xy), .second, .val (.double xs), .second, .val (.double (FP.dsub xs xx)), .second] [(.double (FP.dsub xx (FP.dsub xs (FP.dsub xs xx))))]
    refine XS.dloadN X0.here hx rfl (hb hby d1_13) rfl ?_
    show Go p e below t s₁ m 14 #[.val (.double xx), .second, .val (.double xy), .second, .val (.double xs), .second, .val (.double (FP.dsub xs xx)), .second] [(.double xy), (.double (FP.dsub xx (FP.dsub xs (FP.dsub xs xx))))]
    refine XS.dload X0.here hx rfl (hb hby d1_14) rfl ?_
    show Go p e below t s₁ m 16 #[.val (.double xx), .second, .val (.double xy), .second, .val (.double xs), .second, .val (.double (FP.dsub xs xx)), .second] [(.double (FP.dsub xs xx)), (.double xy), (.double (FP.dsub xx (FP.dsub xs (FP.dsub xs xx))))]
    refine XS.dsubS X0.here hx rfl (hb hby d1_16) rfl nn16 rfl ?_
    show Go p e below t s₁ m 17 #[.val (.double xx), .second, .val (.double xy), .second, .val (.double xs), .second, .val (.double (FP.dsub xs xx)), .second] [(.double (FP.dsub xy (FP.dsub xs xx))), (.double (FP.dsub xx (FP.dsub xs (FP.dsub xs xx))))]
    refine XS.daddS X0.here hx rfl (hb hby d1_17) rfl nn17 rfl ?_
    show Go p e below t s₁ m 18 #[.val (.double xx), .second, .val (.double xy), .second, .val (.double xs), .second, .val (.double (FP.dsub xs xx)), .second] [(.double (FP.dadd (FP.dsub xx (FP.dsub xs (FP.dsub xs xx))) (FP.dsub xy (FP.dsub xs xx))))]
    exact k)
  obtain ⟨fs, hr, hrun, hended, hW, hsame⟩ := X0.leave (v := some (.double (FP.dadd (FP.dsub xx (FP.dsub xs (FP.dsub xs xx))) (FP.dsub xy (FP.dsub xs xx))))) (fun h => by rw [Bd.returns] at h; cases h)
  refine ⟨_, _, g11 _ (retOut X0 hx Bd.returns rfl (Or.inr (Or.inr (Or.inl ⟨rfl, rfl, _, rfl⟩))) (hb hby d1_18) hr), hrun, hended, _, _, rfl, ?_, ⟨_, rfl⟩, hW, hsame.mono (by decide) (by decide)⟩
  show Q_se Z xx xy xs  h0 n0 _ s₁.heap _
  rw [e0]
  exact ⟨rfl, N0, rfl⟩
def nA (a : Int64) (c : Int32) : Int64 := (a >>> ((2 : Int32) &&& 0x3f).toInt64) >>> ((c &&& (63 : Int32)) &&& 0x3f).toInt64
def nB (b : Int64) (c : Int32) : Int64 := (b >>> ((2 : Int32) &&& 0x3f).toInt64) >>> ((((c).toUInt32 >>> ((6 : Int32) &&& 31).toUInt32).toInt32 &&& (63 : Int32)) &&& 0x3f).toInt64
def nX (a : Int64) (c : Int32) : UInt64 := FP.l2d (nA a c)
def nY (b : Int64) (c : Int32) : UInt64 := FP.l2d (nB b c)
def nS (a b : Int64) (c : Int32) : UInt64 := FP.dadd (nX a c) (nY b c)
def nE (a b : Int64) (c : Int32) : Int64 := (FP.d2l (nX a c) + FP.d2l (nY b c)) - FP.d2l (nS a b c)
def nC (c : Int32) : UInt64 := f_sc (((c).toUInt32 >>> ((12 : Int32) &&& 31).toUInt32).toInt32 &&& (3 : Int32))
def nP (a : Int64) (c : Int32) : UInt64 := FP.dmul (nX a c) (nC c)
def nQ (b : Int64) (c : Int32) : UInt64 := FP.dmul (nY b c) (nC c)
def nT (a b : Int64) (c : Int32) : UInt64 := FP.dadd (nP a c) (nQ b c)
theorem own_shr (a : Int64) (q : Int32) : (a >>> (q &&& 0x3f).toInt64).toInt = a.toInt / (2 ^ (q.toBitVec.toNat % 64) : Nat) := c_lshr a q _ rfl
theorem own_div {x : Int} {B : Int} (h1 : -B ≤ x) (h2 : x ≤ B) (k : Nat) : -B ≤ x / (2 ^ k : Nat) ∧ x / (2 ^ k : Nat) ≤ B := by
  have hp : (0 : Int) < ((2 ^ k : Nat) : Int) := by have := Nat.two_pow_pos k; omega
  have hB : 0 ≤ B := by omega
  constructor
  · refine (Int.le_ediv_iff_mul_le hp).mpr ?_
    have : B * 1 ≤ B * ((2 ^ k : Nat) : Int) := Int.mul_le_mul_of_nonneg_left (by omega) hB
    rw [Int.neg_mul]; omega
  · refine Int.ediv_le_of_le_mul hp ?_
    have : B * 1 ≤ B * ((2 ^ k : Nat) : Int) := Int.mul_le_mul_of_nonneg_left (by omega) hB
    omega
theorem own_two (a : Int64) (q : Int32) : (((a >>> ((2 : Int32) &&& 0x3f).toInt64) >>> (q &&& 0x3f).toInt64).toInt).natAbs ≤ 2305843009213693952 := by
  have h1 := own_shr a 2
  have e : (2 : Int32).toBitVec.toNat % 64 = 2 := by decide
  rw [e] at h1
  have r := rng64 a
  have h2 := own_shr (a >>> ((2 : Int32) &&& 0x3f).toInt64) q
  have h3 := own_div (x := (a >>> ((2 : Int32) &&& 0x3f).toInt64).toInt) (B := 2305843009213693952) (by rw [h1]; omega) (by rw [h1]; omega) (q.toBitVec.toNat % 64)
  rw [h2]; omega
section Own
open Jvm.OwnFP Jvm.FP.Core
/-- the double is the whole number X -/
def Wh (x : UInt64) (X : Int) : Prop := Val x X 1074 ∧ X.natAbs ≤ 2305843009213693952
theorem rn_le {n : Nat} (h : n ≤ 2305843009213693952) : rn n ≤ 2305843009213693952 := by
  have hl : n.log2 ≤ 61 := log_le (by omega)
  have h1 : nearest n (2 ^ (n.log2 - 52)) ≤ 2 ^ (61 - (n.log2 - 52)) := by
    refine nearest_le (Nat.two_pow_pos _) ?_
    rw [← Nat.pow_add, show 61 - (n.log2 - 52) + (n.log2 - 52) = 61 by omega]
    exact h
  unfold rn
  refine Nat.le_trans (Nat.mul_le_mul_right _ h1) ?_
  rw [← Nat.pow_add, show 61 - (n.log2 - 52) + (n.log2 - 52) = 61 by omega]
  exact Nat.le_refl _
theorem mul_pow_lt {n k : Nat} {a b : Nat} (h : n < 2 ^ a) (e : a + k ≤ b) : n * 2 ^ k < 2 ^ b := by
  refine Nat.lt_of_lt_of_le (Nat.mul_lt_mul_of_pos_right h (Nat.two_pow_pos k)) ?_
  rw [← Nat.pow_add]; exact Nat.pow_le_pow_right (by decide) e
theorem l2d_wh {n : Int64} (h : n.toInt.natAbs ≤ 2305843009213693952) : Wh (FP.l2d n) (signed (decide (n.toInt < 0)) (rn n.toInt.natAbs)) := by
  have q1 := qmin_b64
  have e1 : val64 (FP.l2d n) = round b64 (.fin (decide (n.toInt < 0)) (n.toInt.natAbs * 2 ^ 1074) b64.qmin) := by
    have h1 : val64 (FP.l2d n) = round b64 (.fin (decide (n.toInt < 0)) n.toInt.natAbs 0) := val64_l2d n
    rw [h1, ← round_inUnits (decide (n.toInt < 0)) n.toInt.natAbs (q := 0) (e := b64.qmin) (by omega)]
    unfold inUnits
    rw [show (0 - b64.qmin).toNat = 1074 by omega]
  obtain ⟨c, q, r1, r2⟩ := round_rn (decide (n.toInt < 0)) (n := n.toInt.natAbs * 2 ^ 1074) (mul_pow_lt (a := 62) (by omega) (by decide))
  rw [r1] at e1
  refine ⟨⟨⟨_, _, _, e1⟩, ?_⟩, ?_⟩
  · unfold Zv
    rw [e1]
    show signed (decide (n.toInt < 0)) (inUnits c q b64.qmin) = _
    rw [r2, rn_scale, signed_mul]
  · rw [natAbs_signed]; exact rn_le h
theorem own_X (a : Int64) (c : Int32) : ∃ X, Wh (nX a c) X := ⟨_, l2d_wh (own_two a (c &&& (63 : Int32)))⟩
theorem own_Y (b : Int64) (c : Int32) : ∃ Y, Wh (nY b c) Y := ⟨_, l2d_wh (own_two b (((c).toUInt32 >>> ((6 : Int32) &&& 31).toUInt32).toInt32 &&& (63 : Int32)))⟩
/-- a double that is a whole number, times a power of two -/
theorem Rp.shift {X : Int} {e : Nat} (h : Rp (X * ((2 ^ 1074 : Nat) : Int))) (hX : X.natAbs ≤ 2 ^ 63) (he : e ≤ 1974) : Rp (X * ((2 ^ e : Nat) : Int)) := by
  obtain ⟨N, k, eN, hN, hk⟩ := h.rep
  by_cases h0 : X = 0
  · subst h0; rw [Int.zero_mul]; exact ⟨0, dfin_const (by decide), by decide +kernel⟩
  by_cases hk2 : 1074 ≤ k
  · have hp := pow_pos' 1074
    have e1 : X = N * ((2 ^ (k - 1074) : Nat) : Int) := by
      refine Int.eq_of_mul_eq_mul_right (a := ((2 ^ 1074 : Nat) : Int)) (by omega) ?_
      rw [eN, Int.mul_assoc, ← pow_cast, show k - 1074 + 1074 = k by omega]
    have hN0 : 1 ≤ N.natAbs := by
      refine Nat.one_le_iff_ne_zero.mpr fun q => h0 ?_
      rw [e1, show N = 0 by omega, Int.zero_mul]
    have hk3 : k - 1074 ≤ 63 := by
      refine Nat.le_of_not_lt fun q => ?_
      have h1 : 2 ^ 63 < 2 ^ (k - 1074) := Nat.pow_lt_pow_right (by decide) q
      rw [e1, natAbs_mul_pow] at hX
      have : 1 * 2 ^ (k - 1074) ≤ N.natAbs * 2 ^ (k - 1074) := Nat.mul_le_mul_right _ hN0
      omega
    rw [e1, Int.mul_assoc, ← pow_cast]
    exact Rp.mk hN (by omega)
  · have e1 : N = X * ((2 ^ (1074 - k) : Nat) : Int) := by
      refine Int.eq_of_mul_eq_mul_right (a := ((2 ^ k : Nat) : Int)) (by have := pow_pos' k; omega) ?_
      rw [← eN, Int.mul_assoc, ← pow_cast, show 1074 - k + k = 1074 by omega]
    refine Rp.mk ?_ (by omega)
    refine Nat.lt_of_le_of_lt ?_ hN
    rw [e1, natAbs_mul_pow]
    exact Nat.le_mul_of_pos_right _ (Nat.two_pow_pos _)
theorem rp0 : Rp 0 := ⟨0, dfin_const (by decide), by decide +kernel⟩
/-- times the scale, exactly -/
theorem scale_mul {x c : UInt64} {X : Int} {e : Nat} (hx : Val x X 1074) (hX : X.natAbs ≤ 2 ^ 63) (hc : Val c 1 e) (he : e ≤ 1974) : Val (FP.dmul x c) X e := by
  obtain ⟨V, fV, eV⟩ := Rp.shift (e := e) (by rw [← hx.2]; exact Rp.of hx.1) hX he
  obtain ⟨h1, h2⟩ := dmul_eq hx.1 hc.1 fV (by rw [hx.2, hc.2, eV, one_pow, Int.one_mul, Int.mul_right_comm])
  exact ⟨h1, h2.trans eV⟩
theorem own_C (c : Int32) : ∃ e, Val (nC c) 1 e ∧ 74 ≤ e ∧ e ≤ 1974 := by
  unfold nC f_sc
  split
  · exact ⟨1074, Val.of_int dint_one, by decide, by decide⟩
  · split
    · exact ⟨1014, ⟨dfin_const (by decide), by decide +kernel⟩, by decide, by decide⟩
    · split
      · exact ⟨1974, ⟨dfin_const (by decide), by decide +kernel⟩, by decide, by decide⟩
      · exact ⟨74, ⟨dfin_const (by decide), by decide +kernel⟩, by decide, by decide⟩
def rz (z : Int) : Int := signed (decide (z < 0)) (rn z.natAbs)
theorem rz_bound {z : Int} (h : z.natAbs ≤ 4611686018427387904) : (z - rz z).natAbs ≤ 512 := by
  have hl : z.natAbs.log2 ≤ 62 := log_le (by omega)
  obtain ⟨h1, h2⟩ := rn_err z.natAbs
  have h3 : 2 ^ (z.natAbs.log2 - 52) ≤ 2 ^ 10 := Nat.pow_le_pow_right (by decide) (by omega)
  unfold rz signed
  by_cases hz : z < 0
  · rw [decide_eq_true hz]; simp only [if_true]; omega
  · rw [decide_eq_false hz]; simp only [Bool.false_eq_true, if_false]; omega
/-- the sum of two doubles on one scale -/
theorem add_scale {x y : UInt64} {X Y : Int} {e : Nat} (hx : Val x X e) (hy : Val y Y e) (bX : X.natAbs ≤ 2305843009213693952) (bY : Y.natAbs ≤ 2305843009213693952) (he : e ≤ 1974) : Val (FP.dadd x y) (rz (X + Y)) e := by
  have hz : Zv x + Zv y = (X + Y) * ((2 ^ e : Nat) : Int) := by rw [hx.2, hy.2, Int.add_mul]
  have hb : (Zv x + Zv y).natAbs < 2 ^ 2090 := by
    rw [hz, natAbs_mul_pow]
    exact mul_pow_lt (a := 63) (by omega) (by omega)
  obtain ⟨h1, h2⟩ := add_rn hx.1 hy.1 hb
  refine ⟨h1, h2.trans ?_⟩
  rw [hz, natAbs_mul_pow, rn_scale, signed_mul]
  have hp := pow_pos' e
  have : decide ((X + Y) * ((2 ^ e : Nat) : Int) < 0) = decide (X + Y < 0) := by
    by_cases q : X + Y < 0
    · rw [decide_eq_true q, decide_eq_true (Int.mul_neg_of_neg_of_pos q hp)]
    · rw [decide_eq_false q, decide_eq_false (by have := Int.mul_nonneg (show 0 ≤ X + Y by omega) (show (0 : Int) ≤ ((2 ^ e : Nat) : Int) by omega); omega)]
  rw [this]; rfl
theorem d2l_wh {x : UInt64} {X : Int} (h : Val x X 1074) (hX : X.natAbs < 2 ^ 63) : (FP.d2l x).toInt = X := by
  have h1 : (FP.d2l x).toInt = max (-2 ^ 63) (min (2 ^ 63 - 1) (signed (sgn (val64 x)) (zmag b64 (val64 x) / one64))) := d2l_val (fin_ne h.1)
  have hz : signed (sgn (val64 x)) (zmag b64 (val64 x)) = X * (one64 : Int) := h.2
  have hm : zmag b64 (val64 x) = X.natAbs * one64 := by
    have := congrArg Int.natAbs hz
    rw [natAbs_signed, Int.natAbs_mul, Int.natAbs_natCast] at this
    exact this
  have op := one64_pos
  rw [hm, Nat.mul_div_cancel _ op] at h1
  rw [hm, signed_mul] at hz
  have he : signed (sgn (val64 x)) X.natAbs = X := Int.eq_of_mul_eq_mul_right (a := (one64 : Int)) (by omega) hz
  rw [he] at h1
  rw [h1]
  omega
theorem own_all (a b : Int64) (c : Int32) : ∃ (X Y : Int) (e : Nat), Wh (nX a c) X ∧ Wh (nY b c) Y ∧ Val (nC c) 1 e ∧ 74 ≤ e ∧ e ≤ 1974 ∧ Val (nS a b c) (rz (X + Y)) 1074 ∧ Val (nP a c) X e ∧ Val (nQ b c) Y e ∧ Val (nT a b c) (rz (X + Y)) e ∧ Val (FP.dmul (nS a b c) (nC c)) (rz (X + Y)) e ∧ (nE a b c).toInt = X + Y - rz (X + Y) ∧ (X + Y - rz (X + Y)).natAbs ≤ 512 := by
  obtain ⟨X, hX⟩ := own_X a c
  obtain ⟨Y, hY⟩ := own_Y b c
  obtain ⟨e, hC, e1, e2⟩ := own_C c
  have b1 := hX.2
  have b2 := hY.2
  have hS : Val (nS a b c) (rz (X + Y)) 1074 := add_scale hX.1 hY.1 b1 b2 (by decide)
  have hP : Val (nP a c) X e := scale_mul hX.1 (by omega) hC e2
  have hQ : Val (nQ b c) Y e := scale_mul hY.1 (by omega) hC e2
  have hT : Val (nT a b c) (rz (X + Y)) e := add_scale hP hQ b1 b2 e2
  have hr := rz_bound (z := X + Y) (by omega)
  have hM : Val (FP.dmul (nS a b c) (nC c)) (rz (X + Y)) e := scale_mul hS (by omega) hC e2
  refine ⟨X, Y, e, hX, hY, hC, e1, e2, hS, hP, hQ, hT, hM, ?_, hr⟩
  have d1 := d2l_wh hX.1 (by omega)
  have d2 := d2l_wh hY.1 (by omega)
  have d3 := d2l_wh hS (by omega)
  have h1 := c_ladd (FP.d2l (nX a c)) (FP.d2l (nY b c))
  have r1 := rng64 (FP.d2l (nX a c) + FP.d2l (nY b c))
  have h2 := c_lsub (FP.d2l (nX a c) + FP.d2l (nY b c)) (FP.d2l (nS a b c))
  have r2 := rng64 (FP.d2l (nX a c) + FP.d2l (nY b c) - FP.d2l (nS a b c))
  unfold nE
  omega
theorem own_vn {a : UInt64} {N : Int} {k : Nat} (h : Val a N k) : Jvm.Free.Fl.NoNaN64 a := Jvm.Free.Fl.val64_no.mpr (fin_ne h.1)
theorem own_fn {a : UInt64} (h : DFin a) : Jvm.Free.Fl.NoNaN64 a := Jvm.Free.Fl.val64_no.mpr (fin_ne h)
theorem own_two_sum (a b : Int64) (c : Int32) : DFin (nT a b c) ∧ DFin (FP.dsub (nT a b c) (nP a c)) ∧ DFin (FP.dsub (nT a b c) (FP.dsub (nT a b c) (nP a c))) ∧ DFin (FP.dsub (nP a c) (FP.dsub (nT a b c) (FP.dsub (nT a b c) (nP a c)))) ∧ DFin (FP.dsub (nQ b c) (FP.dsub (nT a b c) (nP a c))) ∧ DFin (FP.dadd (FP.dsub (nP a c) (FP.dsub (nT a b c) (FP.dsub (nT a b c) (nP a c)))) (FP.dsub (nQ b c) (FP.dsub (nT a b c) (nP a c)))) ∧ Zv (FP.dadd (FP.dsub (nP a c) (FP.dsub (nT a b c) (FP.dsub (nT a b c) (nP a c)))) (FP.dsub (nQ b c) (FP.dsub (nT a b c) (nP a c)))) = Zv (nP a c) + Zv (nQ b c) - Zv (nT a b c) := by
  obtain ⟨X, Y, e, hX, hY, hC, e1, e2, hS, hP, hQ, hT, hM, hE, hr⟩ := own_all a b c
  have b1 := hX.2
  have b2 := hY.2
  have sq : ∀ {Z : Int}, Z.natAbs ≤ 2305843009213693952 → Sq (Z * ((2 ^ e : Nat) : Int)) := fun {Z} hZ => by
    unfold Sq
    rw [natAbs_mul_pow]
    refine Nat.le_of_lt (mul_pow_lt (a := 62) (by omega) (by omega))
  have dv : ∀ {Z : Int}, (2 : Int) ∣ Z * ((2 ^ e : Nat) : Int) := fun {Z} => Int.dvd_mul_of_dvd_right (pow_dvd_cast (i := 1) (by omega))
  exact two_sum (x := nP a c) (y := nQ b c) (s := nT a b c) (yp := FP.dsub (nT a b c) (nP a c)) (xp := FP.dsub (nT a b c) (FP.dsub (nT a b c) (nP a c))) (dx := FP.dsub (nP a c) (FP.dsub (nT a b c) (FP.dsub (nT a b c) (nP a c)))) (dy := FP.dsub (nQ b c) (FP.dsub (nT a b c) (nP a c)))
    hP.1 hQ.1 (by rw [hP.2]; exact sq b1) (by rw [hQ.2]; exact sq b2) (by rw [hP.2]; exact dv) (by rw [hQ.2]; exact dv) rfl rfl rfl rfl rfl
theorem own_nn3 (a b : Int64) (c : Int32) : Jvm.Free.Fl.NoNaN64 (FP.dsub (nT a b c) (nP a c)) := own_fn (own_two_sum a b c).2.1
theorem own_nn11 (a b : Int64) (c : Int32) : Jvm.Free.Fl.NoNaN64 (FP.dsub (nT a b c) (FP.dsub (nT a b c) (nP a c))) := own_fn (own_two_sum a b c).2.2.1
theorem own_nn12 (a b : Int64) (c : Int32) : Jvm.Free.Fl.NoNaN64 (FP.dsub (nP a c) (FP.dsub (nT a b c) (FP.dsub (nT a b c) (nP a c)))) := own_fn (own_two_sum a b c).2.2.2.1
theorem own_nn16 (a b : Int64) (c : Int32) : Jvm.Free.Fl.NoNaN64 (FP.dsub (nQ b c) (FP.dsub (nT a b c) (nP a c))) := own_fn (own_two_sum a b c).2.2.2.2.1
theorem own_nn17 (a b : Int64) (c : Int32) : Jvm.Free.Fl.NoNaN64 (FP.dadd (FP.dsub (nP a c) (FP.dsub (nT a b c) (FP.dsub (nT a b c) (nP a c)))) (FP.dsub (nQ b c) (FP.dsub (nT a b c) (nP a c)))) := own_fn (own_two_sum a b c).2.2.2.2.2.1
theorem own_n49 (a b : Int64) (c : Int32) : Jvm.Free.Fl.NoNaN64 (FP.dadd (nX a c) (nY b c)) := by
  obtain ⟨X, Y, e, hX, hY, hC, e1, e2, hS, -⟩ := own_all a b c
  exact own_vn hS
theorem own_n83 (a : Int64) (c : Int32) : Jvm.Free.Fl.NoNaN64 (FP.dmul (nX a c) (nC c)) := by
  obtain ⟨X, Y, e, hX, hY, hC, e1, e2, hS, hP, -⟩ := own_all a a c
  exact own_vn hP
theorem own_n90 (b : Int64) (c : Int32) : Jvm.Free.Fl.NoNaN64 (FP.dmul (nY b c) (nC c)) := by
  obtain ⟨X, Y, e, hX, hY, hC, e1, e2, hS, hP, hQ, -⟩ := own_all b b c
  exact own_vn hQ
theorem own_n97 (a b : Int64) (c : Int32) : Jvm.Free.Fl.NoNaN64 (FP.dadd (nP a c) (nQ b c)) := by
  obtain ⟨X, Y, e, hX, hY, hC, e1, e2, hS, hP, hQ, hT, -⟩ := own_all a b c
  exact own_vn hT
theorem own_n117 (a b : Int64) (c : Int32) : Jvm.Free.Fl.NoNaN64 (FP.dmul (nS a b c) (nC c)) := by
  obtain ⟨X, Y, e, hX, hY, hC, e1, e2, hS, hP, hQ, hT, hM, -⟩ := own_all a b c
  exact own_vn hM
theorem own_eqv {a b : UInt64} {N M : Int} {k : Nat} (ha : Val a N k) (hb : Val b M k) (e : N = M) : dEq a b := by
  unfold dEq
  rw [ha.cmp hb, Option.some.injEq, compare_eq_iff]; exact e
theorem own_vE (a b : Int64) (c : Int32) : ∃ (N : Int) (e : Nat), Val (FP.dmul (FP.l2d (nE a b c)) (nC c)) N e ∧ Val (f_se (nP a c) (nQ b c) (nT a b c)) N e := by
  have ht := own_two_sum a b c
  obtain ⟨X, Y, e, hX, hY, hC, e1, e2, hS, hP, hQ, hT, hM, hE, hr⟩ := own_all a b c
  have hl : Val (FP.l2d (nE a b c)) (nE a b c).toInt 1074 := Val.l2d (by rw [hE]; omega)
  rw [hE] at hl
  refine ⟨X + Y - rz (X + Y), e, scale_mul hl (by omega) hC e2, ?_⟩
  refine ⟨ht.2.2.2.2.2.1, ?_⟩
  have := ht.2.2.2.2.2.2
  rw [hP.2, hQ.2, hT.2, ← Int.add_mul, ← Int.sub_mul] at this
  exact this
theorem own_n129 (a b : Int64) (c : Int32) : Jvm.Free.Fl.NoNaN64 (FP.dmul (FP.l2d (nE a b c)) (nC c)) := by
  obtain ⟨N, e, h1, -⟩ := own_vE a b c
  exact own_vn h1
theorem own_r1 (a b : Int64) (c : Int32) : dEq (nT a b c) (FP.dmul (nS a b c) (nC c)) := by
  obtain ⟨X, Y, e, hX, hY, hC, e1, e2, hS, hP, hQ, hT, hM, -⟩ := own_all a b c
  exact own_eqv hT hM rfl
theorem own_r2 (a b : Int64) (c : Int32) : dEq (f_se (nP a c) (nQ b c) (nT a b c)) (FP.dmul (FP.l2d (nE a b c)) (nC c)) := by
  obtain ⟨N, e, h1, h2⟩ := own_vE a b c
  exact own_eqv h2 h1 rfl
end Own

theorem pd2 : parseMethodDescriptor "(JJI)Z" = some ⟨[.long, .long, .int], some .boolean⟩ := by decide +kernel
theorem pf_law : plainFor x = true := by first | exact plainFor_of_name (by first | (simp [plainName, overriddenIn, x]; done) | decide +kernel) | exact Jvm.Free.JP.mathPlain rfl (by decide +kernel) | decide +kernel
theorem ef_law (m : MethodId) (i0 : Int64) (i1 : Int64) (i2 : Int32) : entryFrame m #[(.long i0), (.long i1), (.int i2)] maxLocals = mkF m 0 #[.val (.long i0), .second, .val (.long i1), .second, iv i2, .unset, .unset, .unset, .unset, .unset, .unset, .unset, .unset, .unset, .unset, .unset, .unset, .unset, .unset, .unset, .unset, .unset, .unset, .unset, .unset, .unset, .unset, .unset, .unset, .unset, .unset, .unset, .unset] [] := by first | (simp [entryFrame, mkF, argsToLocals, Value.category, maxLocals]; done) | rfl
def f_law (i0 : Int64) (i1 : Int64) (i2 : Int32) : Int32 := 1
def Q_law (Z : State) (i0 : Int64) (i1 : Int64) (i2 : Int32)  (h0 : Heap) (n0 : Nat) (v : Option Value) (h : Heap) (L : List Loc) : Prop := v = some (.int (f_law i0 i1 i2)) ∧ Fr n0 L
set_option maxRecDepth 65536 in
set_option maxHeartbeats 40000000 in
theorem rm_law (l : Launch) (Z : State) (a0 : Array Value) (hw : ∀ d ∈ tables_1, d.before a0 Z = true) (ws : List Jvm.Cond) (i0 : Int64) (i1 : Int64) (i2 : Int32)  (h0 : Heap) (n0 : Nat) (Z0 : n0 ≤ h0.size)   :
    MetFree l x (head1 (Jvm.Cond.code x code maxLocals ret :: ws) room_1) (fun a U => a = #[(.long i0), (.long i1), (.int i2)] ∧ Z.Warmed39 U.vm ∧ U.heap = h0) (fun _ _ _ _ _ => True) (fun _ U o U' => ∃ v L, o = .returned v ∧ Q_law Z i0 i1 i2  h0 n0 v U'.heap L ∧ FrameEnd U o U' L 0 0) := by
  refine MetFree.of_bodySF pf_law hisR ?_
  intro p e s m args below meth c s₁ Bd hml0 hP hK
  obtain ⟨rfl, hZ, hh⟩ := hP
  have hx := Bd.exec
  have hby := Bd.bytes
  have hml : c.maxLocals = 33 := hml0
  have hown : s.vm.findClass "com/example/kettenbruch/kettenbruch/RealLoopSumErrorPinLaw" = some m.cls := findClass_of_methodNamed Bd.named
  have hnm := (name_of_methodNamed Bd.named Bd.method).1
  have X0 : Stand p l e room_1 s m #[(.long i0), (.long i1), (.int i2)] below meth c s₁ [] 0 0 := Stand.of_body Bd
  have e0 : s₁.heap = h0 := by rw [← hh, Bd.state]; rfl
  have N0 := Fr.nil n0
  obtain ⟨S0, hS0⟩ : ∃ z, z = s₁.setTop (entryFrame m #[(.long i0), (.long i1), (.int i2)] maxLocals) := ⟨_, rfl⟩
  rw [← hS0]
  have g0 : Goes p e below S0 (s₁.setTop (mkF m 0 #[.val (.long i0), .second, .val (.long i1), .second, iv i2, .unset, .unset, .unset, .unset, .unset, .unset, .unset, .unset, .unset, .unset, .unset, .unset, .unset, .unset, .unset, .unset, .unset, .unset, .unset, .unset, .unset, .unset, .unset, .unset, .unset, .unset, .unset, .unset] [])) := fun t k => by rw [hS0]; exact castTop (ef_law m i0 i1 i2) k
  have g12 : Goes p e below S0 (s₁.setTop (mkF m 74 #[.val (.long i0), .second, .val (.long i1), .second, iv i2, .val (.long (nA i0 i2)), .second, .val (.long (nB i1 i2)), .second, .val (.double (nX i0 i2)), .second, .val (.double (nY i1 i2)), .second, .val (.long (FP.d2l (nX i0 i2))), .second, .val (.long (FP.d2l (nY i1 i2))), .second, .val (.double (nS i0 i1 i2)), .second, .val (.long (FP.d2l (nS i0 i1 i2))), .second, .val (.long (nE i0 i1 i2)), .second, .unset, .unset, .unset, .unset, .unset, .unset, .unset, .unset, .unset, .unset] [(.int ((((i2).toUInt32 >>> ((12 : Int32) &&& 31).toUInt32).toInt32) &&& (3 : Int32)))])) := fun t k => g0 t (by
    refine XS.lloadN X0.here hx rfl (hb hby at_0) rfl ?_
    show Go p e below t s₁ m 1 #[.val (.long i0), .second, .val (.long i1), .second, iv i2, .unset, .unset, .unset, .unset, .unset, .unset, .unset, .unset, .unset, .unset, .unset, .unset, .unset, .unset, .unset, .unset, .unset, .unset, .unset, .unset, .unset, .unset, .unset, .unset, .unset, .unset, .unset, .unset] [(.long i0)]
    refine XT.iconstV X0.here hx rfl (2 : Int32) (hb hby at_1) (by decide) ?_
    show Go p e below t s₁ m 2 #[.val (.long i0), .second, .val (.long i1), .second, iv i2, .unset, .unset, .unset, .unset, .unset, .unset, .unset, .unset, .unset, .unset, .unset, .unset, .unset, .unset, .unset, .unset, .unset, .unset, .unset, .unset, .unset, .unset, .unset, .unset, .unset, .unset, .unset, .unset] [(.int (2 : Int32)), (.long i0)]
    refine XS.lshr X0.here hx rfl (hb hby at_2) rfl ?_
    show Go p e below t s₁ m 3 #[.val (.long i0), .second, .val (.long i1), .second, iv i2, .unset, .unset, .unset, .unset, .unset, .unset, .unset, .unset, .unset, .unset, .unset, .unset, .unset, .unset, .unset, .unset, .unset, .unset, .unset, .unset, .unset, .unset, .unset, .unset, .unset, .unset, .unset, .unset] [(.long (i0 >>> ((2 : Int32) &&& 0x3f).toInt64))]
    refine XS.iload X0.here hx rfl (hb hby at_3) rfl ?_
    show Go p e below t s₁ m 5 #[.val (.long i0), .second, .val (.long i1), .second, iv i2, .unset, .unset, .unset, .unset, .unset, .unset, .unset, .unset, .unset, .unset, .unset, .unset, .unset, .unset, .unset, .unset, .unset, .unset, .unset, .unset, .unset, .unset, .unset, .unset, .unset, .unset, .unset, .unset] [(.int i2), (.long (i0 >>> ((2 : Int32) &&& 0x3f).toInt64))]
    refine XT.bipushV X0.here hx rfl (63 : Int32) (hb hby at_5) (by decide) ?_
    show Go p e below t s₁ m 7 #[.val (.long i0), .second, .val (.long i1), .second, iv i2, .unset, .unset, .unset, .unset, .unset, .unset, .unset, .unset, .unset, .unset, .unset, .unset, .unset, .unset, .unset, .unset, .unset, .unset, .unset, .unset, .unset, .unset, .unset, .unset, .unset, .unset, .unset, .unset] [(.int (63 : Int32)), (.int i2), (.long (i0 >>> ((2 : Int32) &&& 0x3f).toInt64))]
    refine XS.iand X0.here hx rfl (hb hby at_7) rfl ?_
    show Go p e below t s₁ m 8 #[.val (.long i0), .second, .val (.long i1), .second, iv i2, .unset, .unset, .unset, .unset, .unset, .unset, .unset, .unset, .unset, .unset, .unset, .unset, .unset, .unset, .unset, .unset, .unset, .unset, .unset, .unset, .unset, .unset, .unset, .unset, .unset, .unset, .unset, .unset] [(.int (i2 &&& (63 : Int32))), (.long (i0 >>> ((2 : Int32) &&& 0x3f).toInt64))]
    refine XS.lshr X0.here hx rfl (hb hby at_8) rfl ?_
    show Go p e below t s₁ m 9 #[.val (.long i0), .second, .val (.long i1), .second, iv i2, .unset, .unset, .unset, .unset, .unset, .unset, .unset, .unset, .unset, .unset, .unset, .unset, .unset, .unset, .unset, .unset, .unset, .unset, .unset, .unset, .unset, .unset, .unset, .unset, .unset, .unset, .unset, .unset] [(.long ((i0 >>> ((2 : Int32) &&& 0x3f).toInt64) >>> ((i2 &&& (63 : Int32)) &&& 0x3f).toInt64))]
    refine XS.lstore X0.here hx rfl (hb hby at_9) rfl (l' := #[.val (.long i0), .second, .val (.long i1), .second, iv i2, .val (.long (nA i0 i2)), .second, .unset, .unset, .unset, .unset, .unset, .unset, .unset, .unset, .unset, .unset, .unset, .unset, .unset, .unset, .unset, .unset, .unset, .unset, .unset, .unset, .unset, .unset, .unset, .unset, .unset, .unset]) rfl ?_
    show Go p e below t s₁ m 11 #[.val (.long i0), .second, .val (.long i1), .second, iv i2, .val (.long (nA i0 i2)), .second, .unset, .unset, .unset, .unset, .unset, .unset, .unset, .unset, .unset, .unset, .unset, .unset, .unset, .unset, .unset, .unset, .unset, .unset, .unset, .unset, .unset, .unset, .unset, .unset, .unset, .unset] []
    refine XS.lloadN X0.here hx rfl (hb hby at_11) rfl ?_
    show Go p e below t s₁ m 12 #[.val (.long i0), .second, .val (.long i1), .second, iv i2, .val (.long (nA i0 i2)), .second, .unset, .unset, .unset, .unset, .unset, .unset, .unset, .unset, .unset, .unset, .unset, .unset, .unset, .unset, .unset, .unset, .unset, .unset, .unset, .unset, .unset, .unset, .unset, .unset, .unset, .unset] [(.long i1)]
    refine XT.iconstV X0.here hx rfl (2 : Int32) (hb hby at_12) (by decide) ?_
    show Go p e below t s₁ m 13 #[.val (.long i0), .second, .val (.long i1), .second, iv i2, .val (.long (nA i0 i2)), .second, .unset, .unset, .unset, .unset, .unset, .unset, .unset, .unset, .unset, .unset, .unset, .unset, .unset, .unset, .unset, .unset, .unset, .unset, .unset, .unset, .unset, .unset, .unset, .unset, .unset, .unset] [(.int (2 : Int32)), (.long i1)]
    refine XS.lshr X0.here hx rfl (hb hby at_13) rfl ?_
    show Go p e below t s₁ m 14 #[.val (.long i0), .second, .val (.long i1), .second, iv i2, .val (.long (nA i0 i2)), .second, .unset, .unset, .unset, .unset, .unset, .unset, .unset, .unset, .unset, .unset, .unset, .unset, .unset, .unset, .unset, .unset, .unset, .unset, .unset, .unset, .unset, .unset, .unset, .unset, .unset, .unset] [(.long (i1 >>> ((2 : Int32) &&& 0x3f).toInt64))]
    refine XS.iload X0.here hx rfl (hb hby at_14) rfl ?_
    show Go p e below t s₁ m 16 #[.val (.long i0), .second, .val (.long i1), .second, iv i2, .val (.long (nA i0 i2)), .second, .unset, .unset, .unset, .unset, .unset, .unset, .unset, .unset, .unset, .unset, .unset, .unset, .unset, .unset, .unset, .unset, .unset, .unset, .unset, .unset, .unset, .unset, .unset, .unset, .unset, .unset] [(.int i2), (.long (i1 >>> ((2 : Int32) &&& 0x3f).toInt64))]
    refine XT.bipushV X0.here hx rfl (6 : Int32) (hb hby at_16) (by decide) ?_
    show Go p e below t s₁ m 18 #[.val (.long i0), .second, .val (.long i1), .second, iv i2, .val (.long (nA i0 i2)), .second, .unset, .unset, .unset, .unset, .unset, .unset, .unset, .unset, .unset, .unset, .unset, .unset, .unset, .unset, .unset, .unset, .unset, .unset, .unset, .unset, .unset, .unset, .unset, .unset, .unset, .unset] [(.int (6 : Int32)), (.int i2), (.long (i1 >>> ((2 : Int32) &&& 0x3f).toInt64))]
    refine XS.iushr X0.here hx rfl (hb hby at_18) rfl ?_
    show Go p e below t s₁ m 19 #[.val (.long i0), .second, .val (.long i1), .second, iv i2, .val (.long (nA i0 i2)), .second, .unset, .unset, .unset, .unset, .unset, .unset, .unset, .unset, .unset, .unset, .unset, .unset, .unset, .unset, .unset, .unset, .unset, .unset, .unset, .unset, .unset, .unset, .unset, .unset, .unset, .unset] [(.int (((i2).toUInt32 >>> ((6 : Int32) &&& 31).toUInt32).toInt32)), (.long (i1 >>> ((2 : Int32) &&& 0x3f).toInt64))]
    refine XT.bipushV X0.here hx rfl (63 : Int32) (hb hby at_19) (by decide) ?_
    show Go p e below t s₁ m 21 #[.val (.long i0), .second, .val (.long i1), .second, iv i2, .val (.long (nA i0 i2)), .second, .unset, .unset, .unset, .unset, .unset, .unset, .unset, .unset, .unset, .unset, .unset, .unset, .unset, .unset, .unset, .unset, .unset, .unset, .unset, .unset, .unset, .unset, .unset, .unset, .unset, .unset] [(.int (63 : Int32)), (.int (((i2).toUInt32 >>> ((6 : Int32) &&& 31).toUInt32).toInt32)), (.long (i1 >>> ((2 : Int32) &&& 0x3f).toInt64))]
    refine XS.iand X0.here hx rfl (hb hby at_21) rfl ?_
    show Go p e below t s₁ m 22 #[.val (.long i0), .second, .val (.long i1), .second, iv i2, .val (.long (nA i0 i2)), .second, .unset, .unset, .unset, .unset, .unset, .unset, .unset, .unset, .unset, .unset, .unset, .unset, .unset, .unset, .unset, .unset, .unset, .unset, .unset, .unset, .unset, .unset, .unset, .unset, .unset, .unset] [(.int ((((i2).toUInt32 >>> ((6 : Int32) &&& 31).toUInt32).toInt32) &&& (63 : Int32))), (.long (i1 >>> ((2 : Int32) &&& 0x3f).toInt64))]
    refine XS.lshr X0.here hx rfl (hb hby at_22) rfl ?_
    show Go p e below t s₁ m 23 #[.val (.long i0), .second, .val (.long i1), .second, iv i2, .val (.long (nA i0 i2)), .second, .unset, .unset, .unset, .unset, .unset, .unset, .unset, .unset, .unset, .unset, .unset, .unset, .unset, .unset, .unset, .unset, .unset, .unset, .unset, .unset, .unset, .unset, .unset, .unset, .unset, .unset] [(.long ((i1 >>> ((2 : Int32) &&& 0x3f).toInt64) >>> (((((i2).toUInt32 >>> ((6 : Int32) &&& 31).toUInt32).toInt32) &&& (63 : Int32)) &&& 0x3f).toInt64))]
    refine XS.lstore X0.here hx rfl (hb hby at_23) rfl (l' := #[.val (.long i0), .second, .val (.long i1), .second, iv i2, .val (.long (nA i0 i2)), .second, .val (.long (nB i1 i2)), .second, .unset, .unset, .unset, .unset, .unset, .unset, .unset, .unset, .unset, .unset, .unset, .unset, .unset, .unset, .unset, .unset, .unset, .unset, .unset, .unset, .unset, .unset, .unset, .unset]) rfl ?_
    show Go p e below t s₁ m 25 #[.val (.long i0), .second, .val (.long i1), .second, iv i2, .val (.long (nA i0 i2)), .second, .val (.long (nB i1 i2)), .second, .unset, .unset, .unset, .unset, .unset, .unset, .unset, .unset, .unset, .unset, .unset, .unset, .unset, .unset, .unset, .unset, .unset, .unset, .unset, .unset, .unset, .unset, .unset, .unset] []
    refine XS.lload X0.here hx rfl (hb hby at_25) rfl ?_
    show Go p e below t s₁ m 27 #[.val (.long i0), .second, .val (.long i1), .second, iv i2, .val (.long (nA i0 i2)), .second, .val (.long (nB i1 i2)), .second, .unset, .unset, .unset, .unset, .unset, .unset, .unset, .unset, .unset, .unset, .unset, .unset, .unset, .unset, .unset, .unset, .unset, .unset, .unset, .unset, .unset, .unset, .unset, .unset] [(.long (nA i0 i2))]
    refine XS.l2dS X0.here hx rfl (hb hby at_27) rfl rfl ?_
    show Go p e below t s₁ m 28 #[.val (.long i0), .second, .val (.long i1), .second, iv i2, .val (.long (nA i0 i2)), .second, .val (.long (nB i1 i2)), .second, .unset, .unset, .unset, .unset, .unset, .unset, .unset, .unset, .unset, .unset, .unset, .unset, .unset, .unset, .unset, .unset, .unset, .unset, .unset, .unset, .unset, .unset, .unset, .unset] [(.double (FP.l2d (nA i0 i2)))]
    refine XS.dstore X0.here hx rfl (hb hby at_28) rfl (l' := #[.val (.long i0), .second, .val (.long i1), .second, iv i2, .val (.long (nA i0 i2)), .second, .val (.long (nB i1 i2)), .second, .val (.double (nX i0 i2)), .second, .unset, .unset, .unset, .unset, .unset, .unset, .unset, .unset, .unset, .unset, .unset, .unset, .unset, .unset, .unset, .unset, .unset, .unset, .unset, .unset, .unset, .unset]) rfl ?_
    show Go p e below t s₁ m 30 #[.val (.long i0), .second, .val (.long i1), .second, iv i2, .val (.long (nA i0 i2)), .second, .val (.long (nB i1 i2)), .second, .val (.double (nX i0 i2)), .second, .unset, .unset, .unset, .unset, .unset, .unset, .unset, .unset, .unset, .unset, .unset, .unset, .unset, .unset, .unset, .unset, .unset, .unset, .unset, .unset, .unset, .unset] []
    refine XS.lload X0.here hx rfl (hb hby at_30) rfl ?_
    show Go p e below t s₁ m 32 #[.val (.long i0), .second, .val (.long i1), .second, iv i2, .val (.long (nA i0 i2)), .second, .val (.long (nB i1 i2)), .second, .val (.double (nX i0 i2)), .second, .unset, .unset, .unset, .unset, .unset, .unset, .unset, .unset, .unset, .unset, .unset, .unset, .unset, .unset, .unset, .unset, .unset, .unset, .unset, .unset, .unset, .unset] [(.long (nB i1 i2))]
    refine XS.l2dS X0.here hx rfl (hb hby at_32) rfl rfl ?_
    show Go p e below t s₁ m 33 #[.val (.long i0), .second, .val (.long i1), .second, iv i2, .val (.long (nA i0 i2)), .second, .val (.long (nB i1 i2)), .second, .val (.double (nX i0 i2)), .second, .unset, .unset, .unset, .unset, .unset, .unset, .unset, .unset, .unset, .unset, .unset, .unset, .unset, .unset, .unset, .unset, .unset, .unset, .unset, .unset, .unset, .unset] [(.double (FP.l2d (nB i1 i2)))]
    refine XS.dstore X0.here hx rfl (hb hby at_33) rfl (l' := #[.val (.long i0), .second, .val (.long i1), .second, iv i2, .val (.long (nA i0 i2)), .second, .val (.long (nB i1 i2)), .second, .val (.double (nX i0 i2)), .second, .val (.double (nY i1 i2)), .second, .unset, .unset, .unset, .unset, .unset, .unset, .unset, .unset, .unset, .unset, .unset, .unset, .unset, .unset, .unset, .unset, .unset, .unset, .unset, .unset]) rfl ?_
    show Go p e below t s₁ m 35 #[.val (.long i0), .second, .val (.long i1), .second, iv i2, .val (.long (nA i0 i2)), .second, .val (.long (nB i1 i2)), .second, .val (.double (nX i0 i2)), .second, .val (.double (nY i1 i2)), .second, .unset, .unset, .unset, .unset, .unset, .unset, .unset, .unset, .unset, .unset, .unset, .unset, .unset, .unset, .unset, .unset, .unset, .unset, .unset, .unset] []
    refine XS.dload X0.here hx rfl (hb hby at_35) rfl ?_
    show Go p e below t s₁ m 37 #[.val (.long i0), .second, .val (.long i1), .second, iv i2, .val (.long (nA i0 i2)), .second, .val (.long (nB i1 i2)), .second, .val (.double (nX i0 i2)), .second, .val (.double (nY i1 i2)), .second, .unset, .unset, .unset, .unset, .unset, .unset, .unset, .unset, .unset, .unset, .unset, .unset, .unset, .unset, .unset, .unset, .unset, .unset, .unset, .unset] [(.double (nX i0 i2))]
    refine XS.d2lS X0.here hx rfl (hb hby at_37) rfl rfl ?_
    show Go p e below t s₁ m 38 #[.val (.long i0), .second, .val (.long i1), .second, iv i2, .val (.long (nA i0 i2)), .second, .val (.long (nB i1 i2)), .second, .val (.double (nX i0 i2)), .second, .val (.double (nY i1 i2)), .second, .unset, .unset, .unset, .unset, .unset, .unset, .unset, .unset, .unset, .unset, .unset, .unset, .unset, .unset, .unset, .unset, .unset, .unset, .unset, .unset] [(.long (FP.d2l (nX i0 i2)))]
    refine XS.lstore X0.here hx rfl (hb hby at_38) rfl (l' := #[.val (.long i0), .second, .val (.long i1), .second, iv i2, .val (.long (nA i0 i2)), .second, .val (.long (nB i1 i2)), .second, .val (.double (nX i0 i2)), .second, .val (.double (nY i1 i2)), .second, .val (.long (FP.d2l (nX i0 i2))), .second, .unset, .unset, .unset, .unset, .unset, .unset, .unset, .unset, .unset, .unset, .unset, .unset, .unset, .unset, .unset, .unset, .unset, .unset]) rfl ?_
    show Go p e below t s₁ m 40 #[.val (.long i0), .second, .val (.long i1), .second, iv i2, .val (.long (nA i0 i2)), .second, .val (.long (nB i1 i2)), .second, .val (.double (nX i0 i2)), .second, .val (.double (nY i1 i2)), .second, .val (.long (FP.d2l (nX i0 i2))), .second, .unset, .unset, .unset, .unset, .unset, .unset, .unset, .unset, .unset, .unset, .unset, .unset, .unset, .unset, .unset, .unset, .unset, .unset] []
    refine XS.dload X0.here hx rfl (hb hby at_40) rfl ?_
    show Go p e below t s₁ m 42 #[.val (.long i0), .second, .val (.long i1), .second, iv i2, .val (.long (nA i0 i2)), .second, .val (.long (nB i1 i2)), .second, .val (.double (nX i0 i2)), .second, .val (.double (nY i1 i2)), .second, .val (.long (FP.d2l (nX i0 i2))), .second, .unset, .unset, .unset, .unset, .unset, .unset, .unset, .unset, .unset, .unset, .unset, .unset, .unset, .unset, .unset, .unset, .unset, .unset] [(.double (nY i1 i2))]
    refine XS.d2lS X0.here hx rfl (hb hby at_42) rfl rfl ?_
    show Go p e below t s₁ m 43 #[.val (.long i0), .second, .val (.long i1), .second, iv i2, .val (.long (nA i0 i2)), .second, .val (.long (nB i1 i2)), .second, .val (.double (nX i0 i2)), .second, .val (.double (nY i1 i2)), .second, .val (.long (FP.d2l (nX i0 i2))), .second, .unset, .unset, .unset, .unset, .unset, .unset, .unset, .unset, .unset, .unset, .unset, .unset, .unset, .unset, .unset, .unset, .unset, .unset] [(.long (FP.d2l (nY i1 i2)))]
    refine XS.lstore X0.here hx rfl (hb hby at_43) rfl (l' := #[.val (.long i0), .second, .val (.long i1), .second, iv i2, .val (.long (nA i0 i2)), .second, .val (.long (nB i1 i2)), .second, .val (.double (nX i0 i2)), .second, .val (.double (nY i1 i2)), .second, .val (.long (FP.d2l (nX i0 i2))), .second, .val (.long (FP.d2l (nY i1 i2))), .second, .unset, .unset, .unset, .unset, .unset, .unset, .unset, .unset, .unset, .unset, .unset, .unset, .unset, .unset, .unset, .unset]) rfl ?_
    show Go p e below t s₁ m 45 #[.val (.long i0), .second, .val (.long i1), .second, iv i2, .val (.long (nA i0 i2)), .second, .val (.long (nB i1 i2)), .second, .val (.double (nX i0 i2)), .second, .val (.double (nY i1 i2)), .second, .val (.long (FP.d2l (nX i0 i2))), .second, .val (.long (FP.d2l (nY i1 i2))), .second, .unset, .unset, .unset, .unset, .unset, .unset, .unset, .unset, .unset, .unset, .unset, .unset, .unset, .unset, .unset, .unset] []
    refine XS.dload X0.here hx rfl (hb hby at_45) rfl ?_
    show Go p e below t s₁ m 47 #[.val (.long i0), .second, .val (.long i1), .second, iv i2, .val (.long (nA i0 i2)), .second, .val (.long (nB i1 i2)), .second, .val (.double (nX i0 i2)), .second, .val (.double (nY i1 i2)), .second, .val (.long (FP.d2l (nX i0 i2))), .second, .val (.long (FP.d2l (nY i1 i2))), .second, .unset, .unset, .unset, .unset, .unset, .unset, .unset, .unset, .unset, .unset, .unset, .unset, .unset, .unset, .unset, .unset] [(.double (nX i0 i2))]
    refine XS.dload X0.here hx rfl (hb hby at_47) rfl ?_
    show Go p e below t s₁ m 49 #[.val (.long i0), .second, .val (.long i1), .second, iv i2, .val (.long (nA i0 i2)), .second, .val (.long (nB i1 i2)), .second, .val (.double (nX i0 i2)), .second, .val (.double (nY i1 i2)), .second, .val (.long (FP.d2l (nX i0 i2))), .second, .val (.long (FP.d2l (nY i1 i2))), .second, .unset, .unset, .unset, .unset, .unset, .unset, .unset, .unset, .unset, .unset, .unset, .unset, .unset, .unset, .unset, .unset] [(.double (nY i1 i2)), (.double (nX i0 i2))]
    refine XS.daddS X0.here hx rfl (hb hby at_49) rfl (own_n49 i0 i1 i2) rfl ?_
    show Go p e below t s₁ m 50 #[.val (.long i0), .second, .val (.long i1), .second, iv i2, .val (.long (nA i0 i2)), .second, .val (.long (nB i1 i2)), .second, .val (.double (nX i0 i2)), .second, .val (.double (nY i1 i2)), .second, .val (.long (FP.d2l (nX i0 i2))), .second, .val (.long (FP.d2l (nY i1 i2))), .second, .unset, .unset, .unset, .unset, .unset, .unset, .unset, .unset, .unset, .unset, .unset, .unset, .unset, .unset, .unset, .unset] [(.double (FP.dadd (nX i0 i2) (nY i1 i2)))]
    refine XS.dstore X0.here hx rfl (hb hby at_50) rfl (l' := #[.val (.long i0), .second, .val (.long i1), .second, iv i2, .val (.long (nA i0 i2)), .second, .val (.long (nB i1 i2)), .second, .val (.double (nX i0 i2)), .second, .val (.double (nY i1 i2)), .second, .val (.long (FP.d2l (nX i0 i2))), .second, .val (.long (FP.d2l (nY i1 i2))), .second, .val (.double (nS i0 i1 i2)), .second, .unset, .unset, .unset, .unset, .unset, .unset, .unset, .unset, .unset, .unset, .unset, .unset, .unset, .unset]) rfl ?_
    show Go p e below t s₁ m 52 #[.val (.long i0), .second, .val (.long i1), .second, iv i2, .val (.long (nA i0 i2)), .second, .val (.long (nB i1 i2)), .second, .val (.double (nX i0 i2)), .second, .val (.double (nY i1 i2)), .second, .val (.long (FP.d2l (nX i0 i2))), .second, .val (.long (FP.d2l (nY i1 i2))), .second, .val (.double (nS i0 i1 i2)), .second, .unset, .unset, .unset, .unset, .unset, .unset, .unset, .unset, .unset, .unset, .unset, .unset, .unset, .unset] []
    refine XS.dload X0.here hx rfl (hb hby at_52) rfl ?_
    show Go p e below t s₁ m 54 #[.val (.long i0), .second, .val (.long i1), .second, iv i2, .val (.long (nA i0 i2)), .second, .val (.long (nB i1 i2)), .second, .val (.double (nX i0 i2)), .second, .val (.double (nY i1 i2)), .second, .val (.long (FP.d2l (nX i0 i2))), .second, .val (.long (FP.d2l (nY i1 i2))), .second, .val (.double (nS i0 i1 i2)), .second, .unset, .unset, .unset, .unset, .unset, .unset, .unset, .unset, .unset, .unset, .unset, .unset, .unset, .unset] [(.double (nS i0 i1 i2))]
    refine XS.d2lS X0.here hx rfl (hb hby at_54) rfl rfl ?_
    show Go p e below t s₁ m 55 #[.val (.long i0), .second, .val (.long i1), .second, iv i2, .val (.long (nA i0 i2)), .second, .val (.long (nB i1 i2)), .second, .val (.double (nX i0 i2)), .second, .val (.double (nY i1 i2)), .second, .val (.long (FP.d2l (nX i0 i2))), .second, .val (.long (FP.d2l (nY i1 i2))), .second, .val (.double (nS i0 i1 i2)), .second, .unset, .unset, .unset, .unset, .unset, .unset, .unset, .unset, .unset, .unset, .unset, .unset, .unset, .unset] [(.long (FP.d2l (nS i0 i1 i2)))]
    refine XS.lstore X0.here hx rfl (hb hby at_55) rfl (l' := #[.val (.long i0), .second, .val (.long i1), .second, iv i2, .val (.long (nA i0 i2)), .second, .val (.long (nB i1 i2)), .second, .val (.double (nX i0 i2)), .second, .val (.double (nY i1 i2)), .second, .val (.long (FP.d2l (nX i0 i2))), .second, .val (.long (FP.d2l (nY i1 i2))), .second, .val (.double (nS i0 i1 i2)), .second, .val (.long (FP.d2l (nS i0 i1 i2))), .second, .unset, .unset, .unset, .unset, .unset, .unset, .unset, .unset, .unset, .unset, .unset, .unset]) rfl ?_
    show Go p e below t s₁ m 57 #[.val (.long i0), .second, .val (.long i1), .second, iv i2, .val (.long (nA i0 i2)), .second, .val (.long (nB i1 i2)), .second, .val (.double (nX i0 i2)), .second, .val (.double (nY i1 i2)), .second, .val (.long (FP.d2l (nX i0 i2))), .second, .val (.long (FP.d2l (nY i1 i2))), .second, .val (.double (nS i0 i1 i2)), .second, .val (.long (FP.d2l (nS i0 i1 i2))), .second, .unset, .unset, .unset, .unset, .unset, .unset, .unset, .unset, .unset, .unset, .unset, .unset] []
    refine XS.lload X0.here hx rfl (hb hby at_57) rfl ?_
    show Go p e below t s₁ m 59 #[.val (.long i0), .second, .val (.long i1), .second, iv i2, .val (.long (nA i0 i2)), .second, .val (.long (nB i1 i2)), .second, .val (.double (nX i0 i2)), .second, .val (.double (nY i1 i2)), .second, .val (.long (FP.d2l (nX i0 i2))), .second, .val (.long (FP.d2l (nY i1 i2))), .second, .val (.double (nS i0 i1 i2)), .second, .val (.long (FP.d2l (nS i0 i1 i2))), .second, .unset, .unset, .unset, .unset, .unset, .unset, .unset, .unset, .unset, .unset, .unset, .unset] [(.long (FP.d2l (nX i0 i2)))]
    refine XS.lload X0.here hx rfl (hb hby at_59) rfl ?_
    show Go p e below t s₁ m 61 #[.val (.long i0), .second, .val (.long i1), .second, iv i2, .val (.long (nA i0 i2)), .second, .val (.long (nB i1 i2)), .second, .val (.double (nX i0 i2)), .second, .val (.double (nY i1 i2)), .second, .val (.long (FP.d2l (nX i0 i2))), .second, .val (.long (FP.d2l (nY i1 i2))), .second, .val (.double (nS i0 i1 i2)), .second, .val (.long (FP.d2l (nS i0 i1 i2))), .second, .unset, .unset, .unset, .unset, .unset, .unset, .unset, .unset, .unset, .unset, .unset, .unset] [(.long (FP.d2l (nY i1 i2))), (.long (FP.d2l (nX i0 i2)))]
    refine XS.ladd X0.here hx rfl (hb hby at_61) rfl ?_
    show Go p e below t s₁ m 62 #[.val (.long i0), .second, .val (.long i1), .second, iv i2, .val (.long (nA i0 i2)), .second, .val (.long (nB i1 i2)), .second, .val (.double (nX i0 i2)), .second, .val (.double (nY i1 i2)), .second, .val (.long (FP.d2l (nX i0 i2))), .second, .val (.long (FP.d2l (nY i1 i2))), .second, .val (.double (nS i0 i1 i2)), .second, .val (.long (FP.d2l (nS i0 i1 i2))), .second, .unset, .unset, .unset, .unset, .unset, .unset, .unset, .unset, .unset, .unset, .unset, .unset] [(.long ((FP.d2l (nX i0 i2)) + (FP.d2l (nY i1 i2))))]
    refine XS.lload X0.here hx rfl (hb hby at_62) rfl ?_
    show Go p e below t s₁ m 64 #[.val (.long i0), .second, .val (.long i1), .second, iv i2, .val (.long (nA i0 i2)), .second, .val (.long (nB i1 i2)), .second, .val (.double (nX i0 i2)), .second, .val (.double (nY i1 i2)), .second, .val (.long (FP.d2l (nX i0 i2))), .second, .val (.long (FP.d2l (nY i1 i2))), .second, .val (.double (nS i0 i1 i2)), .second, .val (.long (FP.d2l (nS i0 i1 i2))), .second, .unset, .unset, .unset, .unset, .unset, .unset, .unset, .unset, .unset, .unset, .unset, .unset] [(.long (FP.d2l (nS i0 i1 i2))), (.long ((FP.d2l (nX i0 i2)) + (FP.d2l (nY i1 i2))))]
    refine XS.lsub X0.here hx rfl (hb hby at_64) rfl ?_
    show Go p e below t s₁ m 65 #[.val (.long i0), .second, .val (.long i1), .second, iv i2, .val (.long (nA i0 i2)), .second, .val (.long (nB i1 i2)), .second, .val (.double (nX i0 i2)), .second, .val (.double (nY i1 i2)), .second, .val (.long (FP.d2l (nX i0 i2))), .second, .val (.long (FP.d2l (nY i1 i2))), .second, .val (.double (nS i0 i1 i2)), .second, .val (.long (FP.d2l (nS i0 i1 i2))), .second, .unset, .unset, .unset, .unset, .unset, .unset, .unset, .unset, .unset, .unset, .unset, .unset] [(.long (((FP.d2l (nX i0 i2)) + (FP.d2l (nY i1 i2))) - (FP.d2l (nS i0 i1 i2))))]
    refine XS.lstore X0.here hx rfl (hb hby at_65) rfl (l' := #[.val (.long i0), .second, .val (.long i1), .second, iv i2, .val (.long (nA i0 i2)), .second, .val (.long (nB i1 i2)), .second, .val (.double (nX i0 i2)), .second, .val (.double (nY i1 i2)), .second, .val (.long (FP.d2l (nX i0 i2))), .second, .val (.long (FP.d2l (nY i1 i2))), .second, .val (.double (nS i0 i1 i2)), .second, .val (.long (FP.d2l (nS i0 i1 i2))), .second, .val (.long (nE i0 i1 i2)), .second, .unset, .unset, .unset, .unset, .unset, .unset, .unset, .unset, .unset, .unset]) rfl ?_
    show Go p e below t s₁ m 67 #[.val (.long i0), .second, .val (.long i1), .second, iv i2, .val (.long (nA i0 i2)), .second, .val (.long (nB i1 i2)), .second, .val (.double (nX i0 i2)), .second, .val (.double (nY i1 i2)), .second, .val (.long (FP.d2l (nX i0 i2))), .second, .val (.long (FP.d2l (nY i1 i2))), .second, .val (.double (nS i0 i1 i2)), .second, .val (.long (FP.d2l (nS i0 i1 i2))), .second, .val (.long (nE i0 i1 i2)), .second, .unset, .unset, .unset, .unset, .unset, .unset, .unset, .unset, .unset, .unset] []
    refine XS.iload X0.here hx rfl (hb hby at_67) rfl ?_
    show Go p e below t s₁ m 69 #[.val (.long i0), .second, .val (.long i1), .second, iv i2, .val (.long (nA i0 i2)), .second, .val (.long (nB i1 i2)), .second, .val (.double (nX i0 i2)), .second, .val (.double (nY i1 i2)), .second, .val (.long (FP.d2l (nX i0 i2))), .second, .val (.long (FP.d2l (nY i1 i2))), .second, .val (.double (nS i0 i1 i2)), .second, .val (.long (FP.d2l (nS i0 i1 i2))), .second, .val (.long (nE i0 i1 i2)), .second, .unset, .unset, .unset, .unset, .unset, .unset, .unset, .unset, .unset, .unset] [(.int i2)]
    refine XT.bipushV X0.here hx rfl (12 : Int32) (hb hby at_69) (by decide) ?_
    show Go p e below t s₁ m 71 #[.val (.long i0), .second, .val (.long i1), .second, iv i2, .val (.long (nA i0 i2)), .second, .val (.long (nB i1 i2)), .second, .val (.double (nX i0 i2)), .second, .val (.double (nY i1 i2)), .second, .val (.long (FP.d2l (nX i0 i2))), .second, .val (.long (FP.d2l (nY i1 i2))), .second, .val (.double (nS i0 i1 i2)), .second, .val (.long (FP.d2l (nS i0 i1 i2))), .second, .val (.long (nE i0 i1 i2)), .second, .unset, .unset, .unset, .unset, .unset, .unset, .unset, .unset, .unset, .unset] [(.int (12 : Int32)), (.int i2)]
    refine XS.iushr X0.here hx rfl (hb hby at_71) rfl ?_
    show Go p e below t s₁ m 72 #[.val (.long i0), .second, .val (.long i1), .second, iv i2, .val (.long (nA i0 i2)), .second, .val (.long (nB i1 i2)), .second, .val (.double (nX i0 i2)), .second, .val (.double (nY i1 i2)), .second, .val (.long (FP.d2l (nX i0 i2))), .second, .val (.long (FP.d2l (nY i1 i2))), .second, .val (.double (nS i0 i1 i2)), .second, .val (.long (FP.d2l (nS i0 i1 i2))), .second, .val (.long (nE i0 i1 i2)), .second, .unset, .unset, .unset, .unset, .unset, .unset, .unset, .unset, .unset, .unset] [(.int (((i2).toUInt32 >>> ((12 : Int32) &&& 31).toUInt32).toInt32))]
    refine XT.iconstV X0.here hx rfl (3 : Int32) (hb hby at_72) (by decide) ?_
    show Go p e below t s₁ m 73 #[.val (.long i0), .second, .val (.long i1), .second, iv i2, .val (.long (nA i0 i2)), .second, .val (.long (nB i1 i2)), .second, .val (.double (nX i0 i2)), .second, .val (.double (nY i1 i2)), .second, .val (.long (FP.d2l (nX i0 i2))), .second, .val (.long (FP.d2l (nY i1 i2))), .second, .val (.double (nS i0 i1 i2)), .second, .val (.long (FP.d2l (nS i0 i1 i2))), .second, .val (.long (nE i0 i1 i2)), .second, .unset, .unset, .unset, .unset, .unset, .unset, .unset, .unset, .unset, .unset] [(.int (3 : Int32)), (.int (((i2).toUInt32 >>> ((12 : Int32) &&& 31).toUInt32).toInt32))]
    refine XS.iand X0.here hx rfl (hb hby at_73) rfl ?_
    show Go p e below t s₁ m 74 #[.val (.long i0), .second, .val (.long i1), .second, iv i2, .val (.long (nA i0 i2)), .second, .val (.long (nB i1 i2)), .second, .val (.double (nX i0 i2)), .second, .val (.double (nY i1 i2)), .second, .val (.long (FP.d2l (nX i0 i2))), .second, .val (.long (FP.d2l (nY i1 i2))), .second, .val (.double (nS i0 i1 i2)), .second, .val (.long (FP.d2l (nS i0 i1 i2))), .second, .val (.long (nE i0 i1 i2)), .second, .unset, .unset, .unset, .unset, .unset, .unset, .unset, .unset, .unset, .unset] [(.int ((((i2).toUInt32 >>> ((12 : Int32) &&& 31).toUInt32).toInt32) &&& (3 : Int32)))]
    exact k)
  obtain ⟨_, _, ⟨T13, L13, k13, n13⟩, -, X13, ⟨Lc13, hQ13, l13, y13, z13⟩, st13⟩ := Jvm.LawKit.callS X0 hx (y := (⟨"com/example/kettenbruch/kettenbruch/RealLoopSumErrorPinLaw", "scaleOf", "(I)D"⟩ : MethodName)) hown (mvT hZ (hw _ (List.mem_of_getElem? (i := 0) rfl))) (mvT hZ (hw _ (List.mem_of_getElem? (i := 1) rfl))) (mvT hZ (hw _ (List.mem_of_getElem? (i := 2) rfl))) (mvT hZ (hw _ (List.mem_of_getElem? (i := 3) rfl))) (by decide) (backOf (W := 0) (rm_sc l Z a0 hw [] ((((i2).toUInt32 >>> ((12 : Int32) &&& 31).toUInt32).toInt32) &&& (3 : Int32))  h0 n0 Z0 ) hZ (hw _ (List.mem_of_getElem? (i := 3) rfl)) (hw _ (List.mem_of_getElem? (i := 2) rfl)) (by decide) (by decide)) (g := (mkF m 74 #[.val (.long i0), .second, .val (.long i1), .second, iv i2, .val (.long (nA i0 i2)), .second, .val (.long (nB i1 i2)), .second, .val (.double (nX i0 i2)), .second, .val (.double (nY i1 i2)), .second, .val (.long (FP.d2l (nX i0 i2))), .second, .val (.long (FP.d2l (nY i1 i2))), .second, .val (.double (nS i0 i1 i2)), .second, .val (.long (FP.d2l (nS i0 i1 i2))), .second, .val (.long (nE i0 i1 i2)), .second, .unset, .unset, .unset, .unset, .unset, .unset, .unset, .unset, .unset, .unset] [(.int ((((i2).toUInt32 >>> ((12 : Int32) &&& 31).toUInt32).toInt32) &&& (3 : Int32)))])) rfl (by rw [hml]; rfl) (argsL := [(.int ((((i2).toUInt32 >>> ((12 : Int32) &&& 31).toUInt32).toInt32) &&& (3 : Int32)))]) (rest := []) (lenOf pd0 rfl) rfl (by show 2 * 0 + _ ≤ _; exact Nat.le_of_eq rfl) (hb hby at_74) (fun _ _ => ⟨rfl, e0, (by decide : 0 + 0 ≤ _), (by decide : 0 + 0 ≤ _)⟩)
  dsimp only [Pt.U, Pt.locs, Pt.cells, Pt.slots] at X13 l13 y13 z13 st13 hQ13
  subst l13 y13 z13
  obtain ⟨rfl, N13, e13⟩ := hQ13
  have M13 := Fr.app N0 N13
  have g14 : Goes p e below S0 (T13.setTop (mkF m 77 #[.val (.long i0), .second, .val (.long i1), .second, iv i2, .val (.long (nA i0 i2)), .second, .val (.long (nB i1 i2)), .second, .val (.double (nX i0 i2)), .second, .val (.double (nY i1 i2)), .second, .val (.long (FP.d2l (nX i0 i2))), .second, .val (.long (FP.d2l (nY i1 i2))), .second, .val (.double (nS i0 i1 i2)), .second, .val (.long (FP.d2l (nS i0 i1 i2))), .second, .val (.long (nE i0 i1 i2)), .second, .unset, .unset, .unset, .unset, .unset, .unset, .unset, .unset, .unset, .unset] [(.double (f_sc ((((i2).toUInt32 >>> ((12 : Int32) &&& 31).toUInt32).toInt32) &&& (3 : Int32))))])) := fun t k => g12 t (st13 t k)
  have g15 : Goes p e below S0 (T13.setTop (mkF m 106 #[.val (.long i0), .second, .val (.long i1), .second, iv i2, .val (.long (nA i0 i2)), .second, .val (.long (nB i1 i2)), .second, .val (.double (nX i0 i2)), .second, .val (.double (nY i1 i2)), .second, .val (.long (FP.d2l (nX i0 i2))), .second, .val (.long (FP.d2l (nY i1 i2))), .second, .val (.double (nS i0 i1 i2)), .second, .val (.long (FP.d2l (nS i0 i1 i2))), .second, .val (.long (nE i0 i1 i2)), .second, .val (.double (nC i2)), .second, .val (.double (nP i0 i2)), .second, .val (.double (nQ i1 i2)), .second, .val (.double (nT i0 i1 i2)), .second, .unset, .unset] [(.double (nT i0 i1 i2)), (.double (nQ i1 i2)), (.double (nP i0 i2))])) := fun t k => g14 t (by
    refine XS.dstore X13.here hx rfl (hb hby at_77) rfl (l' := #[.val (.long i0), .second, .val (.long i1), .second, iv i2, .val (.long (nA i0 i2)), .second, .val (.long (nB i1 i2)), .second, .val (.double (nX i0 i2)), .second, .val (.double (nY i1 i2)), .second, .val (.long (FP.d2l (nX i0 i2))), .second, .val (.long (FP.d2l (nY i1 i2))), .second, .val (.double (nS i0 i1 i2)), .second, .val (.long (FP.d2l (nS i0 i1 i2))), .second, .val (.long (nE i0 i1 i2)), .second, .val (.double (nC i2)), .second, .unset, .unset, .unset, .unset, .unset, .unset, .unset, .unset]) rfl ?_
    show Go p e below t T13 m 79 #[.val (.long i0), .second, .val (.long i1), .second, iv i2, .val (.long (nA i0 i2)), .second, .val (.long (nB i1 i2)), .second, .val (.double (nX i0 i2)), .second, .val (.double (nY i1 i2)), .second, .val (.long (FP.d2l (nX i0 i2))), .second, .val (.long (FP.d2l (nY i1 i2))), .second, .val (.double (nS i0 i1 i2)), .second, .val (.long (FP.d2l (nS i0 i1 i2))), .second, .val (.long (nE i0 i1 i2)), .second, .val (.double (nC i2)), .second, .unset, .unset, .unset, .unset, .unset, .unset, .unset, .unset] []
    refine XS.dload X13.here hx rfl (hb hby at_79) rfl ?_
    show Go p e below t T13 m 81 #[.val (.long i0), .second, .val (.long i1), .second, iv i2, .val (.long (nA i0 i2)), .second, .val (.long (nB i1 i2)), .second, .val (.double (nX i0 i2)), .second, .val (.double (nY i1 i2)), .second, .val (.long (FP.d2l (nX i0 i2))), .second, .val (.long (FP.d2l (nY i1 i2))), .second, .val (.double (nS i0 i1 i2)), .second, .val (.long (FP.d2l (nS i0 i1 i2))), .second, .val (.long (nE i0 i1 i2)), .second, .val (.double (nC i2)), .second, .unset, .unset, .unset, .unset, .unset, .unset, .unset, .unset] [(.double (nX i0 i2))]
    refine XS.dload X13.here hx rfl (hb hby at_81) rfl ?_
    show Go p e below t T13 m 83 #[.val (.long i0), .second, .val (.long i1), .second, iv i2, .val (.long (nA i0 i2)), .second, .val (.long (nB i1 i2)), .second, .val (.double (nX i0 i2)), .second, .val (.double (nY i1 i2)), .second, .val (.long (FP.d2l (nX i0 i2))), .second, .val (.long (FP.d2l (nY i1 i2))), .second, .val (.double (nS i0 i1 i2)), .second, .val (.long (FP.d2l (nS i0 i1 i2))), .second, .val (.long (nE i0 i1 i2)), .second, .val (.double (nC i2)), .second, .unset, .unset, .unset, .unset, .unset, .unset, .unset, .unset] [(.double (nC i2)), (.double (nX i0 i2))]
    refine XS.dmulS X13.here hx rfl (hb hby at_83) rfl (own_n83 i0 i2) rfl ?_
    show Go p e below t T13 m 84 #[.val (.long i0), .second, .val (.long i1), .second, iv i2, .val (.long (nA i0 i2)), .second, .val (.long (nB i1 i2)), .second, .val (.double (nX i0 i2)), .second, .val (.double (nY i1 i2)), .second, .val (.long (FP.d2l (nX i0 i2))), .second, .val (.long (FP.d2l (nY i1 i2))), .second, .val (.double (nS i0 i1 i2)), .second, .val (.long (FP.d2l (nS i0 i1 i2))), .second, .val (.long (nE i0 i1 i2)), .second, .val (.double (nC i2)), .second, .unset, .unset, .unset, .unset, .unset, .unset, .unset, .unset] [(.double (FP.dmul (nX i0 i2) (nC i2)))]
    refine XS.dstore X13.here hx rfl (hb hby at_84) rfl (l' := #[.val (.long i0), .second, .val (.long i1), .second, iv i2, .val (.long (nA i0 i2)), .second, .val (.long (nB i1 i2)), .second, .val (.double (nX i0 i2)), .second, .val (.double (nY i1 i2)), .second, .val (.long (FP.d2l (nX i0 i2))), .second, .val (.long (FP.d2l (nY i1 i2))), .second, .val (.double (nS i0 i1 i2)), .second, .val (.long (FP.d2l (nS i0 i1 i2))), .second, .val (.long (nE i0 i1 i2)), .second, .val (.double (nC i2)), .second, .val (.double (nP i0 i2)), .second, .unset, .unset, .unset, .unset, .unset, .unset]) rfl ?_
    show Go p e below t T13 m 86 #[.val (.long i0), .second, .val (.long i1), .second, iv i2, .val (.long (nA i0 i2)), .second, .val (.long (nB i1 i2)), .second, .val (.double (nX i0 i2)), .second, .val (.double (nY i1 i2)), .second, .val (.long (FP.d2l (nX i0 i2))), .second, .val (.long (FP.d2l (nY i1 i2))), .second, .val (.double (nS i0 i1 i2)), .second, .val (.long (FP.d2l (nS i0 i1 i2))), .second, .val (.long (nE i0 i1 i2)), .second, .val (.double (nC i2)), .second, .val (.double (nP i0 i2)), .second, .unset, .unset, .unset, .unset, .unset, .unset] []
    refine XS.dload X13.here hx rfl (hb hby at_86) rfl ?_
    show Go p e below t T13 m 88 #[.val (.long i0), .second, .val (.long i1), .second, iv i2, .val (.long (nA i0 i2)), .second, .val (.long (nB i1 i2)), .second, .val (.double (nX i0 i2)), .second, .val (.double (nY i1 i2)), .second, .val (.long (FP.d2l (nX i0 i2))), .second, .val (.long (FP.d2l (nY i1 i2))), .second, .val (.double (nS i0 i1 i2)), .second, .val (.long (FP.d2l (nS i0 i1 i2))), .second, .val (.long (nE i0 i1 i2)), .second, .val (.double (nC i2)), .second, .val (.double (nP i0 i2)), .second, .unset, .unset, .unset, .unset, .unset, .unset] [(.double (nY i1 i2))]
    refine XS.dload X13.here hx rfl (hb hby at_88) rfl ?_
    show Go p e below t T13 m 90 #[.val (.long i0), .second, .val (.long i1), .second, iv i2, .val (.long (nA i0 i2)), .second, .val (.long (nB i1 i2)), .second, .val (.double (nX i0 i2)), .second, .val (.double (nY i1 i2)), .second, .val (.long (FP.d2l (nX i0 i2))), .second, .val (.long (FP.d2l (nY i1 i2))), .second, .val (.double (nS i0 i1 i2)), .second, .val (.long (FP.d2l (nS i0 i1 i2))), .second, .val (.long (nE i0 i1 i2)), .second, .val (.double (nC i2)), .second, .val (.double (nP i0 i2)), .second, .unset, .unset, .unset, .unset, .unset, .unset] [(.double (nC i2)), (.double (nY i1 i2))]
    refine XS.dmulS X13.here hx rfl (hb hby at_90) rfl (own_n90 i1 i2) rfl ?_
    show Go p e below t T13 m 91 #[.val (.long i0), .second, .val (.long i1), .second, iv i2, .val (.long (nA i0 i2)), .second, .val (.long (nB i1 i2)), .second, .val (.double (nX i0 i2)), .second, .val (.double (nY i1 i2)), .second, .val (.long (FP.d2l (nX i0 i2))), .second, .val (.long (FP.d2l (nY i1 i2))), .second, .val (.double (nS i0 i1 i2)), .second, .val (.long (FP.d2l (nS i0 i1 i2))), .second, .val (.long (nE i0 i1 i2)), .second, .val (.double (nC i2)), .second, .val (.double (nP i0 i2)), .second, .unset, .unset, .unset, .unset, .unset, .unset] [(.double (FP.dmul (nY i1 i2) (nC i2)))]
    refine XS.dstore X13.here hx rfl (hb hby at_91) rfl (l' := #[.val (.long i0), .second, .val (.long i1), .second, iv i2, .val (.long (nA i0 i2)), .second, .val (.long (nB i1 i2)), .second, .val (.double (nX i0 i2)), .second, .val (.double (nY i1 i2)), .second, .val (.long (FP.d2l (nX i0 i2))), .second, .val (.long (FP.d2l (nY i1 i2))), .second, .val (.double (nS i0 i1 i2)), .second, .val (.long (FP.d2l (nS i0 i1 i2))), .second, .val (.long (nE i0 i1 i2)), .second, .val (.double (nC i2)), .second, .val (.double (nP i0 i2)), .second, .val (.double (nQ i1 i2)), .second, .unset, .unset, .unset, .unset]) rfl ?_
    show Go p e below t T13 m 93 #[.val (.long i0), .second, .val (.long i1), .second, iv i2, .val (.long (nA i0 i2)), .second, .val (.long (nB i1 i2)), .second, .val (.double (nX i0 i2)), .second, .val (.double (nY i1 i2)), .second, .val (.long (FP.d2l (nX i0 i2))), .second, .val (.long (FP.d2l (nY i1 i2))), .second, .val (.double (nS i0 i1 i2)), .second, .val (.long (FP.d2l (nS i0 i1 i2))), .second, .val (.long (nE i0 i1 i2)), .second, .val (.double (nC i2)), .second, .val (.double (nP i0 i2)), .second, .val (.double (nQ i1 i2)), .second, .unset, .unset, .unset, .unset] []
    refine XS.dload X13.here hx rfl (hb hby at_93) rfl ?_
    show Go p e below t T13 m 95 #[.val (.long i0), .second, .val (.long i1), .second, iv i2, .val (.long (nA i0 i2)), .second, .val (.long (nB i1 i2)), .second, .val (.double (nX i0 i2)), .second, .val (.double (nY i1 i2)), .second, .val (.long (FP.d2l (nX i0 i2))), .second, .val (.long (FP.d2l (nY i1 i2))), .second, .val (.double (nS i0 i1 i2)), .second, .val (.long (FP.d2l (nS i0 i1 i2))), .second, .val (.long (nE i0 i1 i2)), .second, .val (.double (nC i2)), .second, .val (.double (nP i0 i2)), .second, .val (.double (nQ i1 i2)), .second, .unset, .unset, .unset, .unset] [(.double (nP i0 i2))]
    refine XS.dload X13.here hx rfl (hb hby at_95) rfl ?_
    show Go p e below t T13 m 97 #[.val (.long i0), .second, .val (.long i1), .second, iv i2, .val (.long (nA i0 i2)), .second, .val (.long (nB i1 i2)), .second, .val (.double (nX i0 i2)), .second, .val (.double (nY i1 i2)), .second, .val (.long (FP.d2l (nX i0 i2))), .second, .val (.long (FP.d2l (nY i1 i2))), .second, .val (.double (nS i0 i1 i2)), .second, .val (.long (FP.d2l (nS i0 i1 i2))), .second, .val (.long (nE i0 i1 i2)), .second, .val (.double (nC i2)), .second, .val (.double (nP i0 i2)), .second, .val (.double (nQ i1 i2)), .second, .unset, .unset, .unset, .unset] [(.double (nQ i1 i2)), (.double (nP i0 i2))]
    refine XS.daddS X13.here hx rfl (hb hby at_97) rfl (own_n97 i0 i1 i2) rfl ?_
    show Go p e below t T13 m 98 #[.val (.long i0), .second, .val (.long i1), .second, iv i2, .val (.long (nA i0 i2)), .second, .val (.long (nB i1 i2)), .second, .val (.double (nX i0 i2)), .second, .val (.double (nY i1 i2)), .second, .val (.long (FP.d2l (nX i0 i2))), .second, .val (.long (FP.d2l (nY i1 i2))), .second, .val (.double (nS i0 i1 i2)), .second, .val (.long (FP.d2l (nS i0 i1 i2))), .second, .val (.long (nE i0 i1 i2)), .second, .val (.double (nC i2)), .second, .val (.double (nP i0 i2)), .second, .val (.double (nQ i1 i2)), .second, .unset, .unset, .unset, .unset] [(.double (FP.dadd (nP i0 i2) (nQ i1 i2)))]
    refine XS.dstore X13.here hx rfl (hb hby at_98) rfl (l' := #[.val (.long i0), .second, .val (.long i1), .second, iv i2, .val (.long (nA i0 i2)), .second, .val (.long (nB i1 i2)), .second, .val (.double (nX i0 i2)), .second, .val (.double (nY i1 i2)), .second, .val (.long (FP.d2l (nX i0 i2))), .second, .val (.long (FP.d2l (nY i1 i2))), .second, .val (.double (nS i0 i1 i2)), .second, .val (.long (FP.d2l (nS i0 i1 i2))), .second, .val (.long (nE i0 i1 i2)), .second, .val (.double (nC i2)), .second, .val (.double (nP i0 i2)), .second, .val (.double (nQ i1 i2)), .second, .val (.double (nT i0 i1 i2)), .second, .unset, .unset]) rfl ?_
    show Go p e below t T13 m 100 #[.val (.long i0), .second, .val (.long i1), .second, iv i2, .val (.long (nA i0 i2)), .second, .val (.long (nB i1 i2)), .second, .val (.double (nX i0 i2)), .second, .val (.double (nY i1 i2)), .second, .val (.long (FP.d2l (nX i0 i2))), .second, .val (.long (FP.d2l (nY i1 i2))), .second, .val (.double (nS i0 i1 i2)), .second, .val (.long (FP.d2l (nS i0 i1 i2))), .second, .val (.long (nE i0 i1 i2)), .second, .val (.double (nC i2)), .second, .val (.double (nP i0 i2)), .second, .val (.double (nQ i1 i2)), .second, .val (.double (nT i0 i1 i2)), .second, .unset, .unset] []
    refine XS.dload X13.here hx rfl (hb hby at_100) rfl ?_
    show Go p e below t T13 m 102 #[.val (.long i0), .second, .val (.long i1), .second, iv i2, .val (.long (nA i0 i2)), .second, .val (.long (nB i1 i2)), .second, .val (.double (nX i0 i2)), .second, .val (.double (nY i1 i2)), .second, .val (.long (FP.d2l (nX i0 i2))), .second, .val (.long (FP.d2l (nY i1 i2))), .second, .val (.double (nS i0 i1 i2)), .second, .val (.long (FP.d2l (nS i0 i1 i2))), .second, .val (.long (nE i0 i1 i2)), .second, .val (.double (nC i2)), .second, .val (.double (nP i0 i2)), .second, .val (.double (nQ i1 i2)), .second, .val (.double (nT i0 i1 i2)), .second, .unset, .unset] [(.double (nP i0 i2))]
    refine XS.dload X13.here hx rfl (hb hby at_102) rfl ?_
    show Go p e below t T13 m 104 #[.val (.long i0), .second, .val (.long i1), .second, iv i2, .val (.long (nA i0 i2)), .second, .val (.long (nB i1 i2)), .second, .val (.double (nX i0 i2)), .second, .val (.double (nY i1 i2)), .second, .val (.long (FP.d2l (nX i0 i2))), .second, .val (.long (FP.d2l (nY i1 i2))), .second, .val (.double (nS i0 i1 i2)), .second, .val (.long (FP.d2l (nS i0 i1 i2))), .second, .val (.long (nE i0 i1 i2)), .second, .val (.double (nC i2)), .second, .val (.double (nP i0 i2)), .second, .val (.double (nQ i1 i2)), .second, .val (.double (nT i0 i1 i2)), .second, .unset, .unset] [(.double (nQ i1 i2)), (.double (nP i0 i2))]
    refine XS.dload X13.here hx rfl (hb hby at_104) rfl ?_
    show Go p e below t T13 m 106 #[.val (.long i0), .second, .val (.long i1), .second, iv i2, .val (.long (nA i0 i2)), .second, .val (.long (nB i1 i2)), .second, .val (.double (nX i0 i2)), .second, .val (.double (nY i1 i2)), .second, .val (.long (FP.d2l (nX i0 i2))), .second, .val (.long (FP.d2l (nY i1 i2))), .second, .val (.double (nS i0 i1 i2)), .second, .val (.long (FP.d2l (nS i0 i1 i2))), .second, .val (.long (nE i0 i1 i2)), .second, .val (.double (nC i2)), .second, .val (.double (nP i0 i2)), .second, .val (.double (nQ i1 i2)), .second, .val (.double (nT i0 i1 i2)), .second, .unset, .unset] [(.double (nT i0 i1 i2)), (.double (nQ i1 i2)), (.double (nP i0 i2))]
    exact k)
  obtain ⟨_, _, ⟨T16, L16, k16, n16⟩, -, X16, ⟨Lc16, hQ16, l16, y16, z16⟩, st16⟩ := Jvm.LawKit.callS X13 hx (y := (⟨"com/example/kettenbruch/kettenbruch/RealLoop", "sumError", "(DDD)D"⟩ : MethodName)) hown (mvT hZ (hw _ (List.mem_of_getElem? (i := 4) rfl))) (mvT hZ (hw _ (List.mem_of_getElem? (i := 5) rfl))) (mvT hZ (hw _ (List.mem_of_getElem? (i := 6) rfl))) (mvT hZ (hw _ (List.mem_of_getElem? (i := 7) rfl))) (by decide) (backOf (W := 0) (rm_se l Z a0 hw [] (nP i0 i2) (nQ i1 i2) (nT i0 i1 i2)  h0 n0 Z0 (own_nn3 i0 i1 i2) (own_nn11 i0 i1 i2) (own_nn12 i0 i1 i2) (own_nn16 i0 i1 i2) (own_nn17 i0 i1 i2)) hZ (hw _ (List.mem_of_getElem? (i := 7) rfl)) (hw _ (List.mem_of_getElem? (i := 6) rfl)) (by decide) (by decide)) (g := (mkF m 106 #[.val (.long i0), .second, .val (.long i1), .second, iv i2, .val (.long (nA i0 i2)), .second, .val (.long (nB i1 i2)), .second, .val (.double (nX i0 i2)), .second, .val (.double (nY i1 i2)), .second, .val (.long (FP.d2l (nX i0 i2))), .second, .val (.long (FP.d2l (nY i1 i2))), .second, .val (.double (nS i0 i1 i2)), .second, .val (.long (FP.d2l (nS i0 i1 i2))), .second, .val (.long (nE i0 i1 i2)), .second, .val (.double (nC i2)), .second, .val (.double (nP i0 i2)), .second, .val (.double (nQ i1 i2)), .second, .val (.double (nT i0 i1 i2)), .second, .unset, .unset] [(.double (nT i0 i1 i2)), (.double (nQ i1 i2)), (.double (nP i0 i2))])) rfl (by rw [hml]; rfl) (argsL := [(.double (nP i0 i2)), (.double (nQ i1 i2)), (.double (nT i0 i1 i2))]) (rest := []) (lenOf pd1 rfl) rfl (by show 2 * 0 + _ ≤ _; exact Nat.le_of_eq rfl) (hb hby at_106) (fun _ _ => ⟨rfl, e13, (by decide : 0 + 0 ≤ _), (by decide : 0 + 0 ≤ _)⟩)
  dsimp only [Pt.U, Pt.locs, Pt.cells, Pt.slots] at X16 l16 y16 z16 st16 hQ16
  subst l16 y16 z16
  obtain ⟨rfl, N16, e16⟩ := hQ16
  have M16 := Fr.app M13 N16
  have g17 : Goes p e below S0 (T16.setTop (mkF m 109 #[.val (.long i0), .second, .val (.long i1), .second, iv i2, .val (.long (nA i0 i2)), .second, .val (.long (nB i1 i2)), .second, .val (.double (nX i0 i2)), .second, .val (.double (nY i1 i2)), .second, .val (.long (FP.d2l (nX i0 i2))), .second, .val (.long (FP.d2l (nY i1 i2))), .second, .val (.double (nS i0 i1 i2)), .second, .val (.long (FP.d2l (nS i0 i1 i2))), .second, .val (.long (nE i0 i1 i2)), .second, .val (.double (nC i2)), .second, .val (.double (nP i0 i2)), .second, .val (.double (nQ i1 i2)), .second, .val (.double (nT i0 i1 i2)), .second, .unset, .unset] [(.double (f_se (nP i0 i2) (nQ i1 i2) (nT i0 i1 i2)))])) := fun t k => g15 t (st16 t k)
  have g18 : Goes p e below S0 (T16.setTop (mkF m 139 #[.val (.long i0), .second, .val (.long i1), .second, iv i2, .val (.long (nA i0 i2)), .second, .val (.long (nB i1 i2)), .second, .val (.double (nX i0 i2)), .second, .val (.double (nY i1 i2)), .second, .val (.long (FP.d2l (nX i0 i2))), .second, .val (.long (FP.d2l (nY i1 i2))), .second, .val (.double (nS i0 i1 i2)), .second, .val (.long (FP.d2l (nS i0 i1 i2))), .second, .val (.long (nE i0 i1 i2)), .second, .val (.double (nC i2)), .second, .val (.double (nP i0 i2)), .second, .val (.double (nQ i1 i2)), .second, .val (.double (nT i0 i1 i2)), .second, .val (.double (f_se (nP i0 i2) (nQ i1 i2) (nT i0 i1 i2))), .second] [(.int (1 : Int32))])) := fun t k => g17 t (by
    refine XS.dstore X16.here hx rfl (hb hby at_109) rfl (l' := #[.val (.long i0), .second, .val (.long i1), .second, iv i2, .val (.long (nA i0 i2)), .second, .val (.long (nB i1 i2)), .second, .val (.double (nX i0 i2)), .second, .val (.double (nY i1 i2)), .second, .val (.long (FP.d2l (nX i0 i2))), .second, .val (.long (FP.d2l (nY i1 i2))), .second, .val (.double (nS i0 i1 i2)), .second, .val (.long (FP.d2l (nS i0 i1 i2))), .second, .val (.long (nE i0 i1 i2)), .second, .val (.double (nC i2)), .second, .val (.double (nP i0 i2)), .second, .val (.double (nQ i1 i2)), .second, .val (.double (nT i0 i1 i2)), .second, .val (.double (f_se (nP i0 i2) (nQ i1 i2) (nT i0 i1 i2))), .second]) rfl ?_
    show Go p e below t T16 m 111 #[.val (.long i0), .second, .val (.long i1), .second, iv i2, .val (.long (nA i0 i2)), .second, .val (.long (nB i1 i2)), .second, .val (.double (nX i0 i2)), .second, .val (.double (nY i1 i2)), .second, .val (.long (FP.d2l (nX i0 i2))), .second, .val (.long (FP.d2l (nY i1 i2))), .second, .val (.double (nS i0 i1 i2)), .second, .val (.long (FP.d2l (nS i0 i1 i2))), .second, .val (.long (nE i0 i1 i2)), .second, .val (.double (nC i2)), .second, .val (.double (nP i0 i2)), .second, .val (.double (nQ i1 i2)), .second, .val (.double (nT i0 i1 i2)), .second, .val (.double (f_se (nP i0 i2) (nQ i1 i2) (nT i0 i1 i2))), .second] []
    refine XS.dload X16.here hx rfl (hb hby at_111) rfl ?_
    show Go p e below t T16 m 113 #[.val (.long i0), .second, .val (.long i1), .second, iv i2, .val (.long (nA i0 i2)), .second, .val (.long (nB i1 i2)), .second, .val (.double (nX i0 i2)), .second, .val (.double (nY i1 i2)), .second, .val (.long (FP.d2l (nX i0 i2))), .second, .val (.long (FP.d2l (nY i1 i2))), .second, .val (.double (nS i0 i1 i2)), .second, .val (.long (FP.d2l (nS i0 i1 i2))), .second, .val (.long (nE i0 i1 i2)), .second, .val (.double (nC i2)), .second, .val (.double (nP i0 i2)), .second, .val (.double (nQ i1 i2)), .second, .val (.double (nT i0 i1 i2)), .second, .val (.double (f_se (nP i0 i2) (nQ i1 i2) (nT i0 i1 i2))), .second] [(.double (nT i0 i1 i2))]
    refine XS.dload X16.here hx rfl (hb hby at_113) rfl ?_
    show Go p e below t T16 m 115 #[.val (.long i0), .second, .val (.long i1), .second, iv i2, .val (.long (nA i0 i2)), .second, .val (.long (nB i1 i2)), .second, .val (.double (nX i0 i2)), .second, .val (.double (nY i1 i2)), .second, .val (.long (FP.d2l (nX i0 i2))), .second, .val (.long (FP.d2l (nY i1 i2))), .second, .val (.double (nS i0 i1 i2)), .second, .val (.long (FP.d2l (nS i0 i1 i2))), .second, .val (.long (nE i0 i1 i2)), .second, .val (.double (nC i2)), .second, .val (.double (nP i0 i2)), .second, .val (.double (nQ i1 i2)), .second, .val (.double (nT i0 i1 i2)), .second, .val (.double (f_se (nP i0 i2) (nQ i1 i2) (nT i0 i1 i2))), .second] [(.double (nS i0 i1 i2)), (.double (nT i0 i1 i2))]
    refine XS.dload X16.here hx rfl (hb hby at_115) rfl ?_
    show Go p e below t T16 m 117 #[.val (.long i0), .second, .val (.long i1), .second, iv i2, .val (.long (nA i0 i2)), .second, .val (.long (nB i1 i2)), .second, .val (.double (nX i0 i2)), .second, .val (.double (nY i1 i2)), .second, .val (.long (FP.d2l (nX i0 i2))), .second, .val (.long (FP.d2l (nY i1 i2))), .second, .val (.double (nS i0 i1 i2)), .second, .val (.long (FP.d2l (nS i0 i1 i2))), .second, .val (.long (nE i0 i1 i2)), .second, .val (.double (nC i2)), .second, .val (.double (nP i0 i2)), .second, .val (.double (nQ i1 i2)), .second, .val (.double (nT i0 i1 i2)), .second, .val (.double (f_se (nP i0 i2) (nQ i1 i2) (nT i0 i1 i2))), .second] [(.double (nC i2)), (.double (nS i0 i1 i2)), (.double (nT i0 i1 i2))]
    refine XS.dmulS X16.here hx rfl (hb hby at_117) rfl (own_n117 i0 i1 i2) rfl ?_
    show Go p e below t T16 m 118 #[.val (.long i0), .second, .val (.long i1), .second, iv i2, .val (.long (nA i0 i2)), .second, .val (.long (nB i1 i2)), .second, .val (.double (nX i0 i2)), .second, .val (.double (nY i1 i2)), .second, .val (.long (FP.d2l (nX i0 i2))), .second, .val (.long (FP.d2l (nY i1 i2))), .second, .val (.double (nS i0 i1 i2)), .second, .val (.long (FP.d2l (nS i0 i1 i2))), .second, .val (.long (nE i0 i1 i2)), .second, .val (.double (nC i2)), .second, .val (.double (nP i0 i2)), .second, .val (.double (nQ i1 i2)), .second, .val (.double (nT i0 i1 i2)), .second, .val (.double (f_se (nP i0 i2) (nQ i1 i2) (nT i0 i1 i2))), .second] [(.double (FP.dmul (nS i0 i1 i2) (nC i2))), (.double (nT i0 i1 i2))]
    refine XS.dcmpS X16.here hx rfl (hb hby at_118) rfl rfl ?_
    show Go p e below t T16 m 119 #[.val (.long i0), .second, .val (.long i1), .second, iv i2, .val (.long (nA i0 i2)), .second, .val (.long (nB i1 i2)), .second, .val (.double (nX i0 i2)), .second, .val (.double (nY i1 i2)), .second, .val (.long (FP.d2l (nX i0 i2))), .second, .val (.long (FP.d2l (nY i1 i2))), .second, .val (.double (nS i0 i1 i2)), .second, .val (.long (FP.d2l (nS i0 i1 i2))), .second, .val (.long (nE i0 i1 i2)), .second, .val (.double (nC i2)), .second, .val (.double (nP i0 i2)), .second, .val (.double (nQ i1 i2)), .second, .val (.double (nT i0 i1 i2)), .second, .val (.double (f_se (nP i0 i2) (nQ i1 i2) (nT i0 i1 i2))), .second] [(.int (cmpValue (FP.dcmp (nT i0 i1 i2) (FP.dmul (nS i0 i1 i2) (nC i2))) .l))]
    refine XS.ifNo X16.here hx rfl (hb hby at_119) rfl (dc_l_ne_f (own_r1 i0 i1 i2)) ?_
    show Go p e below t T16 m 122 #[.val (.long i0), .second, .val (.long i1), .second, iv i2, .val (.long (nA i0 i2)), .second, .val (.long (nB i1 i2)), .second, .val (.double (nX i0 i2)), .second, .val (.double (nY i1 i2)), .second, .val (.long (FP.d2l (nX i0 i2))), .second, .val (.long (FP.d2l (nY i1 i2))), .second, .val (.double (nS i0 i1 i2)), .second, .val (.long (FP.d2l (nS i0 i1 i2))), .second, .val (.long (nE i0 i1 i2)), .second, .val (.double (nC i2)), .second, .val (.double (nP i0 i2)), .second, .val (.double (nQ i1 i2)), .second, .val (.double (nT i0 i1 i2)), .second, .val (.double (f_se (nP i0 i2) (nQ i1 i2) (nT i0 i1 i2))), .second] []
    refine XS.dload X16.here hx rfl (hb hby at_122) rfl ?_
    show Go p e below t T16 m 124 #[.val (.long i0), .second, .val (.long i1), .second, iv i2, .val (.long (nA i0 i2)), .second, .val (.long (nB i1 i2)), .second, .val (.double (nX i0 i2)), .second, .val (.double (nY i1 i2)), .second, .val (.long (FP.d2l (nX i0 i2))), .second, .val (.long (FP.d2l (nY i1 i2))), .second, .val (.double (nS i0 i1 i2)), .second, .val (.long (FP.d2l (nS i0 i1 i2))), .second, .val (.long (nE i0 i1 i2)), .second, .val (.double (nC i2)), .second, .val (.double (nP i0 i2)), .second, .val (.double (nQ i1 i2)), .second, .val (.double (nT i0 i1 i2)), .second, .val (.double (f_se (nP i0 i2) (nQ i1 i2) (nT i0 i1 i2))), .second] [(.double (f_se (nP i0 i2) (nQ i1 i2) (nT i0 i1 i2)))]
    refine XS.lload X16.here hx rfl (hb hby at_124) rfl ?_
    show Go p e below t T16 m 126 #[.val (.long i0), .second, .val (.long i1), .second, iv i2, .val (.long (nA i0 i2)), .second, .val (.long (nB i1 i2)), .second, .val (.double (nX i0 i2)), .second, .val (.double (nY i1 i2)), .second, .val (.long (FP.d2l (nX i0 i2))), .second, .val (.long (FP.d2l (nY i1 i2))), .second, .val (.double (nS i0 i1 i2)), .second, .val (.long (FP.d2l (nS i0 i1 i2))), .second, .val (.long (nE i0 i1 i2)), .second, .val (.double (nC i2)), .second, .val (.double (nP i0 i2)), .second, .val (.double (nQ i1 i2)), .second, .val (.double (nT i0 i1 i2)), .second, .val (.double (f_se (nP i0 i2) (nQ i1 i2) (nT i0 i1 i2))), .second] [(.long (nE i0 i1 i2)), (.double (f_se (nP i0 i2) (nQ i1 i2) (nT i0 i1 i2)))]
    refine XS.l2dS X16.here hx rfl (hb hby at_126) rfl rfl ?_
    show Go p e below t T16 m 127 #[.val (.long i0), .second, .val (.long i1), .second, iv i2, .val (.long (nA i0 i2)), .second, .val (.long (nB i1 i2)), .second, .val (.double (nX i0 i2)), .second, .val (.double (nY i1 i2)), .second, .val (.long (FP.d2l (nX i0 i2))), .second, .val (.long (FP.d2l (nY i1 i2))), .second, .val (.double (nS i0 i1 i2)), .second, .val (.long (FP.d2l (nS i0 i1 i2))), .second, .val (.long (nE i0 i1 i2)), .second, .val (.double (nC i2)), .second, .val (.double (nP i0 i2)), .second, .val (.double (nQ i1 i2)), .second, .val (.double (nT i0 i1 i2)), .second, .val (.double (f_se (nP i0 i2) (nQ i1 i2) (nT i0 i1 i2))), .second] [(.double (FP.l2d (nE i0 i1 i2))), (.double (f_se (nP i0 i2) (nQ i1 i2) (nT i0 i1 i2)))]
    refine XS.dload X16.here hx rfl (hb hby at_127) rfl ?_
    show Go p e below t T16 m 129 #[.val (.long i0), .second, .val (.long i1), .second, iv i2, .val (.long (nA i0 i2)), .second, .val (.long (nB i1 i2)), .second, .val (.double (nX i0 i2)), .second, .val (.double (nY i1 i2)), .second, .val (.long (FP.d2l (nX i0 i2))), .second, .val (.long (FP.d2l (nY i1 i2))), .second, .val (.double (nS i0 i1 i2)), .second, .val (.long (FP.d2l (nS i0 i1 i2))), .second, .val (.long (nE i0 i1 i2)), .second, .val (.double (nC i2)), .second, .val (.double (nP i0 i2)), .second, .val (.double (nQ i1 i2)), .second, .val (.double (nT i0 i1 i2)), .second, .val (.double (f_se (nP i0 i2) (nQ i1 i2) (nT i0 i1 i2))), .second] [(.double (nC i2)), (.double (FP.l2d (nE i0 i1 i2))), (.double (f_se (nP i0 i2) (nQ i1 i2) (nT i0 i1 i2)))]
    refine XS.dmulS X16.here hx rfl (hb hby at_129) rfl (own_n129 i0 i1 i2) rfl ?_
    show Go p e below t T16 m 130 #[.val (.long i0), .second, .val (.long i1), .second, iv i2, .val (.long (nA i0 i2)), .second, .val (.long (nB i1 i2)), .second, .val (.double (nX i0 i2)), .second, .val (.double (nY i1 i2)), .second, .val (.long (FP.d2l (nX i0 i2))), .second, .val (.long (FP.d2l (nY i1 i2))), .second, .val (.double (nS i0 i1 i2)), .second, .val (.long (FP.d2l (nS i0 i1 i2))), .second, .val (.long (nE i0 i1 i2)), .second, .val (.double (nC i2)), .second, .val (.double (nP i0 i2)), .second, .val (.double (nQ i1 i2)), .second, .val (.double (nT i0 i1 i2)), .second, .val (.double (f_se (nP i0 i2) (nQ i1 i2) (nT i0 i1 i2))), .second] [(.double (FP.dmul (FP.l2d (nE i0 i1 i2)) (nC i2))), (.double (f_se (nP i0 i2) (nQ i1 i2) (nT i0 i1 i2)))]
    refine XS.dcmpS X16.here hx rfl (hb hby at_130) rfl rfl ?_
    show Go p e below t T16 m 131 #[.val (.long i0), .second, .val (.long i1), .second, iv i2, .val (.long (nA i0 i2)), .second, .val (.long (nB i1 i2)), .second, .val (.double (nX i0 i2)), .second, .val (.double (nY i1 i2)), .second, .val (.long (FP.d2l (nX i0 i2))), .second, .val (.long (FP.d2l (nY i1 i2))), .second, .val (.double (nS i0 i1 i2)), .second, .val (.long (FP.d2l (nS i0 i1 i2))), .second, .val (.long (nE i0 i1 i2)), .second, .val (.double (nC i2)), .second, .val (.double (nP i0 i2)), .second, .val (.double (nQ i1 i2)), .second, .val (.double (nT i0 i1 i2)), .second, .val (.double (f_se (nP i0 i2) (nQ i1 i2) (nT i0 i1 i2))), .second] [(.int (cmpValue (FP.dcmp (f_se (nP i0 i2) (nQ i1 i2) (nT i0 i1 i2)) (FP.dmul (FP.l2d (nE i0 i1 i2)) (nC i2))) .l))]
    refine XS.ifNo X16.here hx rfl (hb hby at_131) rfl (dc_l_ne_f (own_r2 i0 i1 i2)) ?_
    show Go p e below t T16 m 134 #[.val (.long i0), .second, .val (.long i1), .second, iv i2, .val (.long (nA i0 i2)), .second, .val (.long (nB i1 i2)), .second, .val (.double (nX i0 i2)), .second, .val (.double (nY i1 i2)), .second, .val (.long (FP.d2l (nX i0 i2))), .second, .val (.long (FP.d2l (nY i1 i2))), .second, .val (.double (nS i0 i1 i2)), .second, .val (.long (FP.d2l (nS i0 i1 i2))), .second, .val (.long (nE i0 i1 i2)), .second, .val (.double (nC i2)), .second, .val (.double (nP i0 i2)), .second, .val (.double (nQ i1 i2)), .second, .val (.double (nT i0 i1 i2)), .second, .val (.double (f_se (nP i0 i2) (nQ i1 i2) (nT i0 i1 i2))), .second] []
    refine XT.iconstV X16.here hx rfl (1 : Int32) (hb hby at_134) (by decide) ?_
    show Go p e below t T16 m 135 #[.val (.long i0), .second, .val (.long i1), .second, iv i2, .val (.long (nA i0 i2)), .second, .val (.long (nB i1 i2)), .second, .val (.double (nX i0 i2)), .second, .val (.double (nY i1 i2)), .second, .val (.long (FP.d2l (nX i0 i2))), .second, .val (.long (FP.d2l (nY i1 i2))), .second, .val (.double (nS i0 i1 i2)), .second, .val (.long (FP.d2l (nS i0 i1 i2))), .second, .val (.long (nE i0 i1 i2)), .second, .val (.double (nC i2)), .second, .val (.double (nP i0 i2)), .second, .val (.double (nQ i1 i2)), .second, .val (.double (nT i0 i1 i2)), .second, .val (.double (f_se (nP i0 i2) (nQ i1 i2) (nT i0 i1 i2))), .second] [(.int (1 : Int32))]
    refine XS.goto X16.here hx rfl (pc0 := 135) (pc' := 139) rfl (hb hby at_135) (by decide) (by decide) ?_
    show Go p e below t T16 m 139 #[.val (.long i0), .second, .val (.long i1), .second, iv i2, .val (.long (nA i0 i2)), .second, .val (.long (nB i1 i2)), .second, .val (.double (nX i0 i2)), .second, .val (.double (nY i1 i2)), .second, .val (.long (FP.d2l (nX i0 i2))), .second, .val (.long (FP.d2l (nY i1 i2))), .second, .val (.double (nS i0 i1 i2)), .second, .val (.long (FP.d2l (nS i0 i1 i2))), .second, .val (.long (nE i0 i1 i2)), .second, .val (.double (nC i2)), .second, .val (.double (nP i0 i2)), .second, .val (.double (nQ i1 i2)), .second, .val (.double (nT i0 i1 i2)), .second, .val (.double (f_se (nP i0 i2) (nQ i1 i2) (nT i0 i1 i2))), .second] [(.int (1 : Int32))]
    exact k)
  obtain ⟨fs, hr, hrun, hended, hW, hsame⟩ := X16.leave (v := some (.int (1 : Int32))) (fun h => by rw [Bd.returns] at h; cases h)
  refine ⟨_, _, g18 _ (retN X16 hx (t := .boolean) Bd.returns (by simp) (hb hby at_139) hr), hrun, hended, _, _, rfl, ?_, ⟨_, rfl⟩, hW, hsame.mono (by decide) (by decide)⟩
  show Q_law Z i0 i1 i2  h0 n0 _ T16.heap _
  rw [e16]
  exact ⟨rfl, M16⟩
theorem own_one (a b : Int64) (c : Int32) : f_law a b c = 1 := rfl
set_option maxRecDepth 65536 in
set_option maxHeartbeats 40000000 in
theorem comes_1 {Post : Tables → Env → Array Value → State → Outcome → State → Prop} (hpost : ∀ tb e args s v u, (limb_1_1.after args s (.returned v) u = true ∧ limb_1_2.after args s (.returned v) u = true ∧ True) → FrameEnd s (.returned v) u (Jvm.fieldLocs frame_1_writes args s ++ Jvm.arrayLocs frame_1_arrays args s ++ Jvm.staticLocs frame_1_statics s) 0 0 → Post tb e args s (.returned v) u) :
    ArmFor flags0 classFile x code maxLocals ret World_1 tables_1 room_1 Calls_1 rest_1 Pre_1 Post := by
  intro l hfl _ _ p e ha hc hk s m args below hf hA hF happ hP
  obtain ⟨hcalls, hrest, hpre⟩ := hP
  obtain ⟨-, -, -, hnamed, -, -, -, hat⟩ := (Spec.applies_iff hf).mp happ
  obtain ⟨hg, hn⟩ := and_e (Cond.before_iff.mp (show (Jvm.Cond.and given_1 narrow_1).before args s = true from hpre))
  obtain ⟨hcount, q0⟩ := and_e hg
  obtain ⟨b0, q1⟩ := and_e q0
  obtain ⟨b1, q2⟩ := and_e q1
  have b2 := q2
  obtain ⟨w0, w1, w2, rfl⟩ : ∃ w0 w1 w2 : Value, args = #[w0, w1, w2] := by
    have hs : args.size = 3 := by simpa [Cond.value, given_1] using hcount
    obtain ⟨L⟩ := args
    match L, hs with
    | [w0, w1, w2], _ => exact ⟨w0, w1, w2, rfl⟩
  have hw := fun d (hd : d ∈ tables_1) => atoms_spec (ws := Jvm.Cond.code x code maxLocals ret :: tables_1) hat d (List.mem_cons_of_mem _ hd)
  have hfit : Fit s := fun {y c} hc i hi => by
    obtain ⟨ha, rfl⟩ := Array.getElem?_eq_some_iff.mp hc
    have q := List.all_eq_true.mp ((Array.all_eq_true_iff_forall_mem.mp hF) _ (Array.getElem_mem ha)) i (List.mem_range.mpr hi)
    simpa [Array.getElem?_eq_getElem hi] using q
  obtain ⟨i0, r0⟩ := isL_v b0
  obtain rfl : w0 = (.long i0) := Option.some.inj r0
  obtain ⟨i1, r1⟩ := isL_v b1
  obtain rfl : w1 = (.long i1) := Option.some.inj r1
  obtain ⟨i2, r2⟩ := is_v b2
  obtain rfl : w2 = (.int i2) := Option.some.inj r2
  obtain ⟨n, o, h1, h2, h3, v, L, rfl, ⟨hv, N⟩, hq⟩ := rm_law l s _ hw tables_1 i0 i1 i2  s.heap s.heap.size (Nat.le_refl _)  p e ha hc hk s m _ below hf ((Spec.applies_iff_loose hf).mp happ).1 ⟨rfl, State.Warmed39.refl s, rfl⟩ trivial
  obtain rfl : v = some (.int 1) := by rw [hv, own_one]
  refine ⟨n, _, h1, h2, h3, hpost _ _ _ _ _ _ ⟨Cond.after_iff.mpr rfl, Cond.after_iff.mpr (eq_i res_at (Term.int_eval (1)) rfl), trivial⟩ ⟨hq.1, hq.2.1, (hq.2.2.sift fun y hy => Or.inr (N y hy)).mono (by decide) (by decide)⟩⟩
theorem main_1_1 : Claimed_1_1 := comes_1 fun _ _ _ _ _ _ h hF => ⟨h.1, hF⟩
theorem main_1_2 : Claimed_1_2 := comes_1 fun _ _ _ _ _ _ h hF => ⟨h.2.1, hF⟩
end Jvm.Pilot.@@N@@
namespace Jvm.Pilot.@@N@@
open Jvm Jvm.ClassFile Sem Op Lib Jvm.Free Jvm.Stand Jvm.Pilot.@@N@@.Jvm.D
/-! MADE BY PROGRAM (witnessworld.py) out of the Statement's table words and the real class files: 10 classes; the members and pool entries that the words name. The judged class is class 1, her method 2. -/
namespace start1
open Jvm.ClassFile
def u (s : String) : CpInfo := .utf8 (stringToUtf16 s)
/-- a pool by its gaps: so many unusable entries, then the entry; so many at the end -/
def gap : Nat → List CpInfo → List CpInfo
  | 0, r => r
  | n + 1, r => .unusable :: gap n r
def poolList (es : List (Nat × CpInfo)) (last : Nat) : List CpInfo := es.foldr (fun e r => gap e.1 (e.2 :: r)) (gap last [])
def pool (es : List (Nat × CpInfo)) (last : Nat) : Array CpInfo := ⟨poolList es last⟩
def fileOf (pool : Array CpInfo) (this : Nat) (attrs : Array Attribute := #[]) (ms : Array MethodInfo := #[]) (fl : Nat := 33) (sup : Nat := 0) (ifs : Array Nat := #[]) (fds : Array FieldInfo := #[]) : ClassFile where
  minorVersion := 0
  majorVersion := 65
  constantPool := pool
  accessFlags := fl
  thisClass := this
  superClass := sup
  interfaces := ifs
  fields := fds
  methods := ms
  attributes := attrs
def plain (name : String) (sup : Option ClassId) : Class where
  name := name
  kind := .ordinary
  loader := none
  accessFlags := 33
  super := sup
  interfaces := #[]
  cf := none
  fields := #[]
  methods := #[]
  instanceTypes := #[]
  staticTypes := #[]
  resolved := #[]
  callSites := []
  init := .initialized
  statics := none
  mirror := none

def pool0 : Array CpInfo := pool [(5, u "<init>"), (0, u "()V"), (1, .class_ 10), (1, u "java/lang/Object")] 113

def k0m0 : Method := { name := "<init>", desc := "()V", sig := { parameters := [], returnType := none }, accessFlags := 1, code := none }
/-- java/lang/Object -/
def k0 : Class := { plain "java/lang/Object" none with
  accessFlags := 33
  interfaces := #[]
  cf := some (fileOf pool0 8 #[] #[{ accessFlags := 1, nameIndex := 5, descriptorIndex := 6, attributes := #[] }] 33 0 #[] #[])
  fields := #[]
  methods := #[k0m0]
  instanceTypes := #[]
  staticTypes := #[]
  resolved := Array.replicate 124 none
  statics := none }

def pool1 : Array CpInfo := pool [(2, .class_ 4), (1, u "java/lang/Object"), (0, u "<init>"), (0, u "()V"), (0, .double 4336966441157787648), (1, .double 8660422083433463808), (1, .double 103582791429521408), (1, .methodref 14 15), (0, .class_ 16), (0, .nameAndType 17 18), (0, u "com/example/kettenbruch/kettenbruch/RealLoopSumErrorPinLaw"), (0, u "scaleOf"), (0, u "(I)D"), (0, .methodref 20 21), (0, .class_ 22), (0, .nameAndType 23 24), (0, u "com/example/kettenbruch/kettenbruch/RealLoop"), (0, u "sumError"), (0, u "(DDD)D"), (3, u "law"), (0, u "(JJI)Z")] 2

def k1m0 : Method := { name := "<init>", desc := "()V", sig := { parameters := [], returnType := none }, accessFlags := 1, code := none }
def k1c1 : Code := { maxStack := 2, maxLocals := 1, code := method_2_code, exceptionTable := #[], attributes := #[] }
def k1m1 : Method := { name := "scaleOf", desc := "(I)D", sig := { parameters := [.int], returnType := some .double }, accessFlags := 10, code := some k1c1 }
def k1c2 : Code := { maxStack := 6, maxLocals := 33, code := code, exceptionTable := #[], attributes := #[] }
def k1m2 : Method := { name := "law", desc := "(JJI)Z", sig := { parameters := [.long, .long, .int], returnType := some .boolean }, accessFlags := 9, code := some k1c2 }
/-- com/example/kettenbruch/kettenbruch/RealLoopSumErrorPinLaw -/
def k1 : Class := { plain "com/example/kettenbruch/kettenbruch/RealLoopSumErrorPinLaw" (some 0) with
  accessFlags := 49
  interfaces := #[]
  cf := some (fileOf pool1 14 #[] #[{ accessFlags := 1, nameIndex := 5, descriptorIndex := 6, attributes := #[] }, { accessFlags := 10, nameIndex := 17, descriptorIndex := 18, attributes := #[] }, { accessFlags := 9, nameIndex := 28, descriptorIndex := 29, attributes := #[] }] 49 2 #[] #[])
  fields := #[]
  methods := #[k1m0, k1m1, k1m2]
  instanceTypes := #[]
  staticTypes := #[]
  resolved := Array.replicate 32 none
  statics := none }

def pool2 : Array CpInfo := pool [(1, .class_ 2), (0, u "com/example/kettenbruch/kettenbruch/EvaluationLoop"), (0, .class_ 4), (0, u "java/lang/Object")] 7

/-- com/example/kettenbruch/kettenbruch/EvaluationLoop -/
def k2 : Class := { plain "com/example/kettenbruch/kettenbruch/EvaluationLoop" (some 0) with
  accessFlags := 1536
  interfaces := #[]
  cf := some (fileOf pool2 1 #[] #[] 1536 3 #[] #[])
  fields := #[]
  methods := #[]
  instanceTypes := #[]
  staticTypes := #[]
  resolved := Array.replicate 12 none
  statics := none }

def pool3 : Array CpInfo := pool [(2, .class_ 4), (1, u "java/lang/Object"), (0, u "<init>"), (0, u "()V"), (54, .class_ 63), (1, u "com/example/kettenbruch/kettenbruch/RealLoop"), (53, u "(DDD)D"), (2, u "sumError"), (6, .class_ 128), (0, u "com/example/kettenbruch/kettenbruch/EvaluationLoop")] 28

def k3m0 : Method := { name := "<init>", desc := "()V", sig := { parameters := [], returnType := none }, accessFlags := 0, code := none }
def k3c1 : Code := { maxStack := 6, maxLocals := 8, code := prog_11_method_9_code, exceptionTable := #[], attributes := #[] }
def k3m1 : Method := { name := "sumError", desc := "(DDD)D", sig := { parameters := [.double, .double, .double], returnType := some .double }, accessFlags := 8, code := some k3c1 }
/-- com/example/kettenbruch/kettenbruch/RealLoop -/
def k3 : Class := { plain "com/example/kettenbruch/kettenbruch/RealLoop" (some 0) with
  accessFlags := 48
  interfaces := #[2]
  cf := some (fileOf pool3 61 #[] #[{ accessFlags := 0, nameIndex := 5, descriptorIndex := 6, attributes := #[] }, { accessFlags := 8, nameIndex := 120, descriptorIndex := 117, attributes := #[] }] 48 2 #[127] #[])
  fields := #[]
  methods := #[k3m0, k3m1]
  instanceTypes := #[]
  staticTypes := #[]
  resolved := Array.replicate 157 none
  statics := none }

def pool4 : Array CpInfo := pool [(1, u "java/lang/Cloneable"), (0, .class_ 1), (0, u "java/lang/Object"), (0, .class_ 3)] 3

/-- java/lang/Cloneable -/
def k4 : Class := { plain "java/lang/Cloneable" (some 0) with
  accessFlags := 1537
  interfaces := #[]
  cf := some (fileOf pool4 2 #[] #[] 1537 4 #[] #[])
  fields := #[]
  methods := #[]
  instanceTypes := #[]
  staticTypes := #[]
  resolved := Array.replicate 8 none
  statics := none }

def pool5 : Array CpInfo := pool [(1, u "java/io/Serializable"), (0, .class_ 1), (0, u "java/lang/Object"), (0, .class_ 3)] 3

/-- java/io/Serializable -/
def k5 : Class := { plain "java/io/Serializable" (some 0) with
  accessFlags := 1537
  interfaces := #[]
  cf := some (fileOf pool5 2 #[] #[] 1537 4 #[] #[])
  fields := #[]
  methods := #[]
  instanceTypes := #[]
  staticTypes := #[]
  resolved := Array.replicate 8 none
  statics := none }

/-- the primitive byte -/
def k6 : Class := { plain "byte" none with kind := .primitive 'B', accessFlags := 0x411 }
/-- [B -/
def k7 : Class := { plain "[B" (some 0) with kind := .array 6 .byte, interfaces := #[4, 5], accessFlags := 1041 }

/-- the primitive int -/
def k8 : Class := { plain "int" none with kind := .primitive 'I', accessFlags := 0x411 }
/-- [I -/
def k9 : Class := { plain "[I" (some 0) with kind := .array 8 .int, interfaces := #[4, 5], accessFlags := 1041 }

def heap : Heap := #[]
def classes : Array Class := #[k0, k1, k2, k3, k4, k5, k6, k7, k8, k9]
def interned : List (Array UInt16 × Addr) := []
def slotsUsed : Nat := 0
def theMethod : MethodId := ⟨1, 2⟩
def args0 : Array Value := #[.long 5, .long 7, .int 9]
def aboutOver (below : List Frame) : State where
  vm := { classes := classes, interned := interned.toArray }
  heap := heap
  slotsUsed := slotsUsed
  threads := #[{ frames := .invoking theMethod args0 :: below }]
def below0 : List Frame := [.native { method := ⟨0, 0⟩, args := #[] }]
def about1 : State := aboutOver below0
def p0 : Program := .bare "" "" ""
def e0 : Env := launch0.env 0 0 0
theorem w_frames : about1.frames = Frame.invoking theMethod args0 :: below0 := rfl
set_option maxRecDepth 65536 in
theorem w_args : argsFit about1.vm theMethod args0 = true := by decide +kernel
set_option maxRecDepth 65536 in
theorem w_heap : heapFits about1 = true := by decide +kernel
set_option maxRecDepth 65536 in
theorem w_runnable : about1.curStatus? = some .runnable := by decide +kernel
set_option maxRecDepth 65536 in
theorem w_alone : about1.alone = true := by decide +kernel
set_option maxRecDepth 65536 in
theorem w_named : about1.methodNamed? x = some theMethod := by decide +kernel
set_option maxRecDepth 65536 in
theorem w_hears : about1.hears theMethod below0 = true := by decide +kernel
set_option maxRecDepth 65536 in
theorem w_ripe : about1.ripe theMethod args0 below0 = true := by decide +kernel
theorem w_running : about1.status = .running := rfl
set_option maxRecDepth 65536 in
theorem w_room : about1.hasRoom e0.platform room_1 = true :=
  launch0.hasRoom_least _ room_1 (by decide +kernel) (by decide +kernel) (by decide +kernel) (by decide +kernel) (by decide +kernel) (by decide +kernel)
theorem allAtoms_all (ts : List Jvm.Cond) (a : Array Jvm.Value) (st : Jvm.State) : (allAtoms ts).before a st = ts.all (fun c => c.before a st) := by
  induction ts with
  | nil => rfl
  | cons c t ih =>
    show (Jvm.Cond.and c (allAtoms t)).before a st = _
    rw [Jvm.Cond.before_and, ih, List.all_cons]
def words1 : List Jvm.Cond := Jvm.Cond.code x code maxLocals ret :: tables_1
/-- a 'code' word, met by the world's own term for the bytes: nothing is compared byte by byte -/
theorem code_word {y : MethodName} {bytes : ByteArray} {mx : Nat} {rt : Option FieldType} {a : Array Value} {s : State} {m : MethodId} {meth : Method} {c : Code} (h1 : s.methodNamed? y = some m) (h2 : s.vm.method? m = some meth) (h3 : meth.code = some c) (h4 : c.code = bytes)
    (h5 : (c.maxLocals == mx && c.exceptionTable.isEmpty && decide (c.maxStack ≤ mostOperands) && decide (meth.sig.returnType = rt) && !meth.locks && decide (parseMethodDescriptor y.desc = some meth.sig)) = true) : (Jvm.Cond.code y bytes mx rt).before a s = true := by
  simp only [Bool.and_eq_true, beq_iff_eq, Bool.not_eq_true', decide_eq_true_eq] at h5
  obtain ⟨⟨⟨⟨⟨g1, g2⟩, g3⟩, g4⟩, g5⟩, g6⟩ := h5
  simp [Cond.before, Cond.holds, Cond.value, h1, h2, h3, h4, g1, g2, g3, g4, g5, g6]
def isCode : Jvm.Cond → Bool
  | .code _ _ _ _ => true
  | _ => false
theorem all_split {L : List Jvm.Cond} {P : Jvm.Cond → Bool} (h1 : L.all (fun c => isCode c || P c) = true) (h2 : ∀ c ∈ L.filter isCode, P c = true) : L.all P = true := by
  refine List.all_eq_true.mpr fun c hc => ?_
  have h := List.all_eq_true.mp h1 c hc
  rcases Bool.eq_false_or_eq_true (isCode c) with hi | hi
  · exact h2 c (List.mem_filter.mpr ⟨hc, hi⟩)
  · simpa [hi] using h
set_option maxRecDepth 65536 in
theorem w_c0 : (Jvm.Cond.code x code maxLocals ret).before args0 about1 = true := code_word (m := ⟨1, 2⟩) (meth := k1m2) (c := k1c2) (by decide +kernel) rfl rfl rfl (by decide +kernel)
set_option maxRecDepth 65536 in
theorem w_c1 : (Jvm.Cond.code ({ cls := "com/example/kettenbruch/kettenbruch/RealLoopSumErrorPinLaw", name := "scaleOf", desc := "(I)D" } : Jvm.MethodName) method_2_code (1 : Nat) (Option.some Jvm.ClassFile.FieldType.double)).before args0 about1 = true := code_word (m := ⟨1, 1⟩) (meth := k1m1) (c := k1c1) (by decide +kernel) rfl rfl rfl (by decide +kernel)
set_option maxRecDepth 65536 in
theorem w_c2 : (Jvm.Cond.code ({ cls := "com/example/kettenbruch/kettenbruch/RealLoop", name := "sumError", desc := "(DDD)D" } : Jvm.MethodName) prog_11_method_9_code (8 : Nat) (Option.some Jvm.ClassFile.FieldType.double)).before args0 about1 = true := code_word (m := ⟨3, 1⟩) (meth := k3m1) (c := k3c1) (by decide +kernel) rfl rfl rfl (by decide +kernel)
def codes1 : List Jvm.Cond := [Jvm.Cond.code x code maxLocals ret, Jvm.Cond.code ({ cls := "com/example/kettenbruch/kettenbruch/RealLoopSumErrorPinLaw", name := "scaleOf", desc := "(I)D" } : Jvm.MethodName) method_2_code (1 : Nat) (Option.some Jvm.ClassFile.FieldType.double), Jvm.Cond.code ({ cls := "com/example/kettenbruch/kettenbruch/RealLoop", name := "sumError", desc := "(DDD)D" } : Jvm.MethodName) prog_11_method_9_code (8 : Nat) (Option.some Jvm.ClassFile.FieldType.double)]
set_option maxRecDepth 65536 in
theorem codes_eq : words1.filter isCode = codes1 := rfl
theorem w_codes : ∀ c ∈ words1.filter isCode, c.before args0 about1 = true := by
  rw [codes_eq]
  intro c hc
  simp only [codes1, List.mem_cons, List.not_mem_nil, or_false] at hc
  rcases hc with rfl | rfl | rfl
  · exact w_c0
  · exact w_c1
  · exact w_c2
set_option maxRecDepth 65536 in
theorem w_t1 : words1.all (fun c => isCode c || c.before args0 about1) = true := by decide +kernel
theorem w_tables : (allAtoms (Jvm.Cond.code x code maxLocals ret :: tables_1)).before args0 about1 = true := by
  rw [allAtoms_all]
  show words1.all (fun c => c.before args0 about1) = true
  refine all_split ?_ w_codes
  rw [w_t1]
set_option maxRecDepth 65536 in
theorem w_case : (Jvm.Cond.and given_1 narrow_1).before args0 about1 = true := by decide +kernel
theorem w_applies : (headSpec (Jvm.Cond.code x code maxLocals ret :: tables_1) room_1).applies x e0.platform about1 = true :=
  (Spec.applies_iff w_frames).mpr ⟨w_running, w_runnable, w_alone, w_named, w_hears, w_ripe, w_room, w_tables⟩
theorem atStart : AtStart classFile x code maxLocals ret World_1 tables_1 room_1 Calls_1 rest_1 Pre_1 launch0 p0 e0 about1 theMethod args0 below0 :=
  ⟨lists_1, trivial, launch0.admits_env _ _ _, launch0.least_env, fairChoices_fair.cas, fairChoices_fair.clock, w_frames, w_args, w_heap, w_applies, trivial, trivial, w_case⟩
end start1
theorem witness_1 : WitnessClaimed_1 := ⟨start1.p0, start1.e0, start1.about1, start1.theMethod, start1.args0, start1.below0, start1.atStart⟩
end Jvm.Pilot.@@N@@
