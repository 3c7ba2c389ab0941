import JvmDerived
import JvmDerived.Pilot.@@N@@Statement
import JvmDerived.Pilot.@@N@@Code
set_option linter.unusedVariables false
set_option linter.unusedSimpArgs false
namespace Jvm.OwnFP
open Jvm.FP Jvm.FP.Core
/-- a double's value in units of the least double, 2^-1074 -/
abbrev Zv (a : UInt64) : Int := zval b64 (val64 a)
theorem fin_ne {a : UInt64} (h : DFin a) : val64 a ≠ .nan := by
  obtain ⟨s, c, q, h⟩ := h; rw [h]; exact Datum.noConfusion
theorem mul_ne {a b : UInt64} (ha : DFin a) (hb : DFin b) : val64 (FP.dmul a b) ≠ .nan :=
  Jvm.Free.Fl.val64_no.mp (Jvm.Free.Fl.dmul_out (Jvm.Free.Fl.fin64_core.mpr ha) (Jvm.Free.Fl.fin64_core.mpr hb))
theorem add_ne {a b : UInt64} (ha : DFin a) (hb : DFin b) : val64 (FP.dadd a b) ≠ .nan :=
  Jvm.Free.Fl.val64_no.mp (Jvm.Free.Fl.dadd_out (Jvm.Free.Fl.fin64_core.mpr ha).noNaN (Jvm.Free.Fl.fin64_core.mpr hb))
theorem sub_ne {a b : UInt64} (ha : DFin a) (hb : DFin b) : val64 (FP.dsub a b) ≠ .nan :=
  Jvm.Free.Fl.val64_no.mp (Jvm.Free.Fl.dsub_out (Jvm.Free.Fl.fin64_core.mpr ha).noNaN (Jvm.Free.Fl.fin64_core.mpr hb))
theorem fin_of {r U V : UInt64} (hr : val64 r ≠ .nan) (hU : DFin U) (hV : DFin V) (h1 : Zv U ≤ Zv r) (h2 : Zv r ≤ Zv V) : DFin r := by
  have uU := hU.zval_lt
  have uV := hV.zval_lt
  have aU : (Zv U).natAbs = zmag b64 (val64 U) := natAbs_signed _ _
  have aV : (Zv V).natAbs = zmag b64 (val64 V) := natAbs_signed _ _
  have ar : (Zv r).natAbs = zmag b64 (val64 r) := natAbs_signed _ _
  cases e : val64 r with
  | nan => exact absurd e hr
  | fin s c q => exact ⟨s, c, q, e⟩
  | inf s =>
    have e2 : zmag b64 (val64 r) = b64.tails * 2 ^ (b64.exps - 2) := by rw [e]; rfl
    rw [e2] at ar
    generalize b64.tails * 2 ^ (b64.exps - 2) = top at *
    omega
theorem dmul_le {a b V : UInt64} (ha : DFin a) (hb : DFin b) (hV : val64 V ≠ .nan) (h : Zv a * Zv b ≤ Zv V * (one64 : Int)) : Zv (FP.dmul a b) ≤ Zv V := by
  obtain ⟨s, c, q, ea⟩ := ha
  obtain ⟨t, d, r, eb⟩ := hb
  have fa := val64_fits a
  have fb := val64_fits b
  unfold Zv at h ⊢
  rw [ea] at fa h
  rw [eb] at fb h
  obtain ⟨p1, p2, p3⟩ := product_units fa fb
  rw [val64_dmul, ea, eb, p1]
  have hq := qmin_neg good_b64
  refine zval_round_le good_b64 (val64_fits V) hV (e0 := 2 * b64.qmin) (by omega) p2 ?_
  rw [p3, signed_xor, show (b64.qmin - 2 * b64.qmin).toNat = (-b64.qmin).toNat by omega, pow_qmin64]
  exact h
theorem dmul_ge {a b V : UInt64} (ha : DFin a) (hb : DFin b) (hV : val64 V ≠ .nan) (h : Zv V * (one64 : Int) ≤ Zv a * Zv b) : Zv V ≤ Zv (FP.dmul a b) := by
  obtain ⟨s, c, q, ea⟩ := ha
  obtain ⟨t, d, r, eb⟩ := hb
  have fa := val64_fits a
  have fb := val64_fits b
  unfold Zv at h ⊢
  rw [ea] at fa h
  rw [eb] at fb h
  obtain ⟨p1, p2, p3⟩ := product_units fa fb
  rw [val64_dmul, ea, eb, p1]
  have hq := qmin_neg good_b64
  refine zval_round_ge good_b64 (val64_fits V) hV (e0 := 2 * b64.qmin) (by omega) p2 ?_
  rw [p3, signed_xor, show (b64.qmin - 2 * b64.qmin).toNat = (-b64.qmin).toNat by omega, pow_qmin64]
  exact h
theorem dadd_le {a b V : UInt64} (ha : DFin a) (hb : DFin b) (hV : val64 V ≠ .nan) (h : Zv a + Zv b ≤ Zv V) : Zv (FP.dadd a b) ≤ Zv V := by
  unfold Zv at h ⊢
  rw [val64_dadd]; exact sum_le good_b64 ha hb (val64_fits a) (val64_fits b) (val64_fits V) hV h
theorem dadd_ge {a b V : UInt64} (ha : DFin a) (hb : DFin b) (hV : val64 V ≠ .nan) (h : Zv V ≤ Zv a + Zv b) : Zv V ≤ Zv (FP.dadd a b) := by
  unfold Zv at h ⊢
  rw [val64_dadd]; exact sum_ge good_b64 ha hb (val64_fits a) (val64_fits b) (val64_fits V) hV h
theorem neg_fin {a : UInt64} (h : DFin a) : DFin (FP.dneg a) := by
  obtain ⟨s, c, q, h⟩ := h
  exact ⟨!s, c, q, by rw [FP.val64_dneg, h]; rfl⟩
theorem Zv_neg (a : UInt64) : Zv (FP.dneg a) = -Zv a := by unfold Zv; rw [FP.val64_dneg, zval_negate]
theorem cneg_fin {a : UInt64} (h : DFin a) : DFin (Core.dneg a) := by
  obtain ⟨s, c, q, h⟩ := h
  exact ⟨!s, c, q, by rw [Core.val64_dneg, h]; rfl⟩
theorem Zv_cneg (a : UInt64) : Zv (Core.dneg a) = -Zv a := by unfold Zv; rw [Core.val64_dneg, zval_negate]
theorem dsub_le {a b V : UInt64} (ha : DFin a) (hb : DFin b) (hV : val64 V ≠ .nan) (h : Zv a - Zv b ≤ Zv V) : Zv (FP.dsub a b) ≤ Zv V := by
  show Zv (Core.dsub a b) ≤ _
  rw [Core.dsub_eq]; exact dadd_le ha (cneg_fin hb) hV (by rw [Zv_cneg]; omega)
theorem dsub_ge {a b V : UInt64} (ha : DFin a) (hb : DFin b) (hV : val64 V ≠ .nan) (h : Zv V ≤ Zv a - Zv b) : Zv V ≤ Zv (FP.dsub a b) := by
  show _ ≤ Zv (Core.dsub a b)
  rw [Core.dsub_eq]; exact dadd_ge ha (cneg_fin hb) hV (by rw [Zv_cneg]; omega)
/-- where the exact value is a double's, it is the result's -/
theorem dmul_eq {a b V : UInt64} (ha : DFin a) (hb : DFin b) (hV : DFin V) (h : Zv a * Zv b = Zv V * (one64 : Int)) : DFin (FP.dmul a b) ∧ Zv (FP.dmul a b) = Zv V := by
  have h1 := dmul_le ha hb (fin_ne hV) (Int.le_of_eq h)
  have h2 := dmul_ge ha hb (fin_ne hV) (Int.le_of_eq h.symm)
  exact ⟨fin_of (mul_ne ha hb) hV hV h2 h1, Int.le_antisymm h1 h2⟩
theorem dadd_eq {a b V : UInt64} (ha : DFin a) (hb : DFin b) (hV : DFin V) (h : Zv a + Zv b = Zv V) : DFin (FP.dadd a b) ∧ Zv (FP.dadd a b) = Zv V := by
  have h1 := dadd_le ha hb (fin_ne hV) (Int.le_of_eq h)
  have h2 := dadd_ge ha hb (fin_ne hV) (Int.le_of_eq h.symm)
  exact ⟨fin_of (add_ne ha hb) hV hV h2 h1, Int.le_antisymm h1 h2⟩
theorem dsub_eq {a b V : UInt64} (ha : DFin a) (hb : DFin b) (hV : DFin V) (h : Zv a - Zv b = Zv V) : DFin (FP.dsub a b) ∧ Zv (FP.dsub a b) = Zv V := by
  have h1 := dsub_le ha hb (fin_ne hV) (Int.le_of_eq h)
  have h2 := dsub_ge ha hb (fin_ne hV) (Int.le_of_eq h.symm)
  exact ⟨fin_of (sub_ne ha hb) hV hV h2 h1, Int.le_antisymm h1 h2⟩
theorem signed_self (N : Int) (k : Nat) : signed (decide (N < 0)) (N.natAbs * k) = N * (k : Int) := by
  rw [signed_mul]
  congr 1
  unfold signed
  by_cases h : N < 0 <;> simp [h] <;> omega
/-- every N * 2^k units, N of up to 53 digits, is a double -/
theorem rep (N : Int) (k : Nat) (hN : N.natAbs < 2 ^ 53) (hk : k ≤ 2045) : ∃ V, DFin V ∧ Zv V = N * ((2 ^ k : Nat) : Int) := by
  have q1 := qmin_b64
  have q2 : b64.qmax = 971 := by decide
  obtain ⟨c', q', h1, h2⟩ := round_exact good_b64 (decide (N < 0)) (c := N.natAbs) (q := (k : Int) - 1074) hN (by omega) (by omega)
  have hv : val64 (of64 (round b64 (.fin (decide (N < 0)) N.natAbs ((k : Int) - 1074)))) = .fin (decide (N < 0)) c' q' := by
    rw [val64_of64 (round_fits good_b64 _), h1]
  refine ⟨_, ⟨_, _, _, hv⟩, ?_⟩
  unfold Zv
  rw [hv]
  show signed (decide (N < 0)) (inUnits c' q' b64.qmin) = _
  rw [h2, q1]
  unfold inUnits
  rw [show ((k : Int) - 1074 - -1074).toNat = k by omega]
  exact signed_self N _
/-- the double a is N * 2^(k - 1074) -/
def Val (a : UInt64) (N : Int) (k : Nat) : Prop := DFin a ∧ Zv a = N * ((2 ^ k : Nat) : Int)
theorem one_pow : (one64 : Int) = ((2 ^ 1074 : Nat) : Int) := rfl
theorem Val.of_int {i : Int} {a : UInt64} (h : DInt i a) : Val a i 1074 := by
  refine ⟨?_, (DInt_zval h).trans (by rw [one_pow])⟩
  unfold DInt at h
  cases e : val64 a with
  | nan => rw [e] at h; exact h.elim
  | inf s => rw [e] at h; exact h.elim
  | fin s c q => exact ⟨s, c, q, e⟩
theorem Val.i2d (n : Int32) : Val (FP.i2d n) n.toInt 1074 := Val.of_int (i2d_int n)
theorem Val.l2d {n : Int64} (h : n.toInt.natAbs ≤ 2 ^ 53) : Val (FP.l2d n) n.toInt 1074 := Val.of_int (l2d_int h)
theorem Val.neg {a : UInt64} {N : Int} {k : Nat} (h : Val a N k) : Val (FP.dneg a) (-N) k := ⟨neg_fin h.1, by rw [Zv_neg, h.2, Int.neg_mul]⟩
theorem pow_cast (k j : Nat) : ((2 ^ (k + j) : Nat) : Int) = ((2 ^ k : Nat) : Int) * ((2 ^ j : Nat) : Int) := by
  rw [Nat.pow_add, Int.natCast_mul]
theorem Val.mul {a b : UInt64} {N M : Int} {k j i : Nat} (ha : Val a N k) (hb : Val b M j) (hN : (N * M).natAbs < 2 ^ 53) (hi : k + j = i + 1074) (hk : i ≤ 2045) : Val (FP.dmul a b) (N * M) i := by
  obtain ⟨V, fV, zV⟩ := rep (N * M) i hN hk
  obtain ⟨h1, h2⟩ := dmul_eq ha.1 hb.1 fV (by
    rw [ha.2, hb.2, zV, one_pow, Int.mul_assoc (N * M), ← pow_cast, ← hi, pow_cast, Int.mul_assoc N M, Int.mul_assoc N, Int.mul_left_comm _ M])
  exact ⟨h1, h2.trans zV⟩
theorem Val.add {a b : UInt64} {N M : Int} {k : Nat} (ha : Val a N k) (hb : Val b M k) (hN : (N + M).natAbs < 2 ^ 53) (hk : k ≤ 2045) : Val (FP.dadd a b) (N + M) k := by
  obtain ⟨V, fV, zV⟩ := rep (N + M) k hN hk
  obtain ⟨h1, h2⟩ := dadd_eq ha.1 hb.1 fV (by rw [ha.2, hb.2, zV, Int.add_mul])
  exact ⟨h1, h2.trans zV⟩
theorem Val.sub {a b : UInt64} {N M : Int} {k : Nat} (ha : Val a N k) (hb : Val b M k) (hN : (N - M).natAbs < 2 ^ 53) (hk : k ≤ 2045) : Val (FP.dsub a b) (N - M) k := by
  obtain ⟨V, fV, zV⟩ := rep (N - M) k hN hk
  obtain ⟨h1, h2⟩ := dsub_eq ha.1 hb.1 fV (by rw [ha.2, hb.2, zV, Int.sub_mul])
  exact ⟨h1, h2.trans zV⟩
theorem pow_pos' (k : Nat) : (0 : Int) < ((2 ^ k : Nat) : Int) := by have := Nat.two_pow_pos k; omega
theorem Val.cmp {a b : UInt64} {N M : Int} {k : Nat} (ha : Val a N k) (hb : Val b M k) : FP.dcmp a b = some (compare N M) := by
  have h : FP.dcmp a b = some (compare (Zv a) (Zv b)) := dcmp_zval (fin_ne ha.1) (fin_ne hb.1)
  rw [h, ha.2, hb.2, compare_mul_pos _ _ _ (pow_pos' k)]
theorem Val.scale {a : UInt64} {N : Int} {k : Nat} (j : Nat) (ha : Val a N (k + j)) : Val a (N * ((2 ^ j : Nat) : Int)) k :=
  ⟨ha.1, by rw [ha.2, pow_cast, Int.mul_assoc, Int.mul_comm ((2 ^ k : Nat) : Int)]⟩
theorem lt_iff {a b : UInt64} (ha : DFin a) (hb : DFin b) : FP.dcmp a b = some .lt ↔ Zv a < Zv b :=
  ⟨fun h => (dcmp_lt.mp h).2.2, fun h => dcmp_lt.mpr ⟨fin_ne ha, fin_ne hb, h⟩⟩
theorem eq_iff {a b : UInt64} (ha : DFin a) (hb : DFin b) : FP.dcmp a b = some .eq ↔ Zv a = Zv b :=
  ⟨fun h => (dcmp_eq.mp h).2.2, fun h => dcmp_eq.mpr ⟨fin_ne ha, fin_ne hb, h⟩⟩
theorem le_iff {a b : UInt64} (ha : DFin a) (hb : DFin b) : (FP.dcmp a b = some .lt ∨ FP.dcmp a b = some .eq) ↔ Zv a ≤ Zv b := by
  rw [lt_iff ha hb, eq_iff ha hb]; omega
theorem dfin_const {a : UInt64} (h : a.toNat % 9223372036854775808 < 9218868437227405312) : DFin a := (Core.fin_bits a).mpr h
end Jvm.OwnFP
namespace Jvm.Pilot.@@N@@
open Jvm Jvm.ClassFile Sem Op Lib Jvm.Free Jvm.Stand Jvm.LawKit Jvm.RoadKit Bundle Jvm.Pilot.@@N@@.Jvm.D
abbrev Go (p : Program) (e : Env) (below : List Frame) (t T : State) (m : MethodId) (pc : Nat) (ls : Array Slot) (st : List Value) : Prop := Steps p.tables e below (T.setTop (mkF m pc ls st)) t
/-- from A the run comes to B -/
def Goes (p : Program) (e : Env) (below : List Frame) (A B : State) : Prop := ∀ t, Steps p.tables e below B t → Steps p.tables e below A t
abbrev dLt (x y : UInt64) : Prop := FP.dcmp x y = some .lt
abbrev dEq (x y : UInt64) : Prop := FP.dcmp x y = some .eq
abbrev dLe (x y : UInt64) : Prop := FP.dcmp x y = some .lt ∨ FP.dcmp x y = some .eq
abbrev fLt (x y : UInt32) : Prop := FP.fcmp x y = some .lt
abbrev fEq (x y : UInt32) : Prop := FP.fcmp x y = some .eq
abbrev fLe (x y : UInt32) : Prop := FP.fcmp x y = some .lt ∨ FP.fcmp x y = some .eq
theorem Sta.keepO {Z : State} {h h' : Heap} {C n d : String} {v : Value} {ws : List Addr} (F : Sta Z h C n d v) (K : Keep h h' ws) (q : ∀ x ∈ ws, ∀ cell : Cell, h[x]? = some cell → cell.vm.isStatics = false) : Sta Z h' C n d v := by
  obtain ⟨cf, i, k, f, st, cell, h1, h2, h3, h4, h5, h6, h7⟩ := F
  refine ⟨cf, i, k, f, st, cell, h1, h2, h3, h4, K.2.1 _ _ h5 fun hm => ?_, h6, h7⟩
  rw [q _ hm _ h5] at h6; cases h6
theorem own_swap (o : Option Ordering) : o.map Ordering.swap = some .lt ↔ o = some .gt := by rcases o with _ | (_ | _ | _) <;> simp [Ordering.swap]
theorem own_swapE (o : Option Ordering) : o.map Ordering.swap = some .eq ↔ o = some .eq := by rcases o with _ | (_ | _ | _) <;> simp [Ordering.swap]
theorem own_dgt (x y : UInt64) : dLt y x ↔ FP.dcmp x y = some .gt := by
  show FP.Core.dcmp y x = some .lt ↔ FP.Core.dcmp x y = some .gt
  rw [FP.Core.dcmp_swap x y]; exact own_swap _
theorem own_dge (x y : UInt64) : dLe y x ↔ (FP.dcmp x y = some .gt ∨ FP.dcmp x y = some .eq) := by
  show (FP.Core.dcmp y x = some .lt ∨ FP.Core.dcmp y x = some .eq) ↔ (FP.Core.dcmp x y = some .gt ∨ FP.Core.dcmp x y = some .eq)
  rw [FP.Core.dcmp_swap x y, own_swap, own_swapE]
theorem own_fgt (x y : UInt32) : fLt y x ↔ FP.fcmp x y = some .gt := by
  show FP.Core.fcmp y x = some .lt ↔ FP.Core.fcmp x y = some .gt
  rw [FP.Core.fcmp_swap x y]; exact own_swap _
theorem own_fge (x y : UInt32) : fLe y x ↔ (FP.fcmp x y = some .gt ∨ FP.fcmp x y = some .eq) := by
  show (FP.Core.fcmp y x = some .lt ∨ FP.Core.fcmp y x = some .eq) ↔ (FP.Core.fcmp x y = some .gt ∨ FP.Core.fcmp x y = some .eq)
  rw [FP.Core.fcmp_swap x y, own_swap, own_swapE]
theorem own_c (o : Option Ordering) :
    (o = some .lt → ifCond.holds .ge (cmpValue o .g) = false ∧ ifCond.holds .lt (cmpValue o .g) = true) ∧
    (¬ o = some .lt → ifCond.holds .ge (cmpValue o .g) = true ∧ ifCond.holds .lt (cmpValue o .g) = false) ∧
    ((o = some .lt ∨ o = some .eq) → ifCond.holds .gt (cmpValue o .g) = false ∧ ifCond.holds .le (cmpValue o .g) = true) ∧
    (¬ (o = some .lt ∨ o = some .eq) → ifCond.holds .gt (cmpValue o .g) = true ∧ ifCond.holds .le (cmpValue o .g) = false) ∧
    (o = some .gt → ifCond.holds .le (cmpValue o .l) = false ∧ ifCond.holds .gt (cmpValue o .l) = true) ∧
    (¬ o = some .gt → ifCond.holds .le (cmpValue o .l) = true ∧ ifCond.holds .gt (cmpValue o .l) = false) ∧
    ((o = some .gt ∨ o = some .eq) → ifCond.holds .lt (cmpValue o .l) = false ∧ ifCond.holds .ge (cmpValue o .l) = true) ∧
    (¬ (o = some .gt ∨ o = some .eq) → ifCond.holds .lt (cmpValue o .l) = true ∧ ifCond.holds .ge (cmpValue o .l) = false) ∧
    (o = some .eq → ∀ q, ifCond.holds .ne (cmpValue o q) = false ∧ ifCond.holds .eq (cmpValue o q) = true) ∧
    (¬ o = some .eq → ∀ q, ifCond.holds .ne (cmpValue o q) = true ∧ ifCond.holds .eq (cmpValue o q) = false) := by
  refine ⟨?_, ?_, ?_, ?_, ?_, ?_, ?_, ?_, ?_, ?_⟩ <;> rcases o with _ | (_ | _ | _) <;> first | (intro h; exact ⟨by decide, by decide⟩) | (intro h q; cases q <;> exact ⟨by decide, by decide⟩) | (intro h; simp at h; done) | (intro h; exact absurd rfl h) | (intro h; exact absurd (Or.inl rfl) h) | (intro h; exact absurd (Or.inr rfl) h)
theorem dc_g_ge_f {x y : UInt64} (h : dLt x y) : ifCond.holds .ge (cmpValue (FP.dcmp x y) .g) = false := ((own_c _).1 h).1
theorem dc_g_ge_t {x y : UInt64} (h : ¬ dLt x y) : ifCond.holds .ge (cmpValue (FP.dcmp x y) .g) = true := ((own_c _).2.1 h).1
theorem dc_g_lt_t {x y : UInt64} (h : dLt x y) : ifCond.holds .lt (cmpValue (FP.dcmp x y) .g) = true := ((own_c _).1 h).2
theorem dc_g_lt_f {x y : UInt64} (h : ¬ dLt x y) : ifCond.holds .lt (cmpValue (FP.dcmp x y) .g) = false := ((own_c _).2.1 h).2
theorem dc_g_gt_f {x y : UInt64} (h : dLe x y) : ifCond.holds .gt (cmpValue (FP.dcmp x y) .g) = false := ((own_c _).2.2.1 h).1
theorem dc_g_gt_t {x y : UInt64} (h : ¬ dLe x y) : ifCond.holds .gt (cmpValue (FP.dcmp x y) .g) = true := ((own_c _).2.2.2.1 h).1
theorem dc_g_le_t {x y : UInt64} (h : dLe x y) : ifCond.holds .le (cmpValue (FP.dcmp x y) .g) = true := ((own_c _).2.2.1 h).2
theorem dc_g_le_f {x y : UInt64} (h : ¬ dLe x y) : ifCond.holds .le (cmpValue (FP.dcmp x y) .g) = false := ((own_c _).2.2.2.1 h).2
theorem dc_l_le_f {x y : UInt64} (h : dLt y x) : ifCond.holds .le (cmpValue (FP.dcmp x y) .l) = false := ((own_c _).2.2.2.2.1 ((own_dgt x y).mp h)).1
theorem dc_l_le_t {x y : UInt64} (h : ¬ dLt y x) : ifCond.holds .le (cmpValue (FP.dcmp x y) .l) = true := ((own_c _).2.2.2.2.2.1 (fun q => h ((own_dgt x y).mpr q))).1
theorem dc_l_gt_t {x y : UInt64} (h : dLt y x) : ifCond.holds .gt (cmpValue (FP.dcmp x y) .l) = true := ((own_c _).2.2.2.2.1 ((own_dgt x y).mp h)).2
theorem dc_l_gt_f {x y : UInt64} (h : ¬ dLt y x) : ifCond.holds .gt (cmpValue (FP.dcmp x y) .l) = false := ((own_c _).2.2.2.2.2.1 (fun q => h ((own_dgt x y).mpr q))).2
theorem dc_l_lt_f {x y : UInt64} (h : dLe y x) : ifCond.holds .lt (cmpValue (FP.dcmp x y) .l) = false := ((own_c _).2.2.2.2.2.2.1 ((own_dge x y).mp h)).1
theorem dc_l_lt_t {x y : UInt64} (h : ¬ dLe y x) : ifCond.holds .lt (cmpValue (FP.dcmp x y) .l) = true := ((own_c _).2.2.2.2.2.2.2.1 (fun q => h ((own_dge x y).mpr q))).1
theorem dc_l_ge_t {x y : UInt64} (h : dLe y x) : ifCond.holds .ge (cmpValue (FP.dcmp x y) .l) = true := ((own_c _).2.2.2.2.2.2.1 ((own_dge x y).mp h)).2
theorem dc_l_ge_f {x y : UInt64} (h : ¬ dLe y x) : ifCond.holds .ge (cmpValue (FP.dcmp x y) .l) = false := ((own_c _).2.2.2.2.2.2.2.1 (fun q => h ((own_dge x y).mpr q))).2
theorem dc_l_ne_f {x y : UInt64} (h : dEq x y) : ifCond.holds .ne (cmpValue (FP.dcmp x y) .l) = false := ((own_c _).2.2.2.2.2.2.2.2.1 h _).1
theorem dc_l_ne_t {x y : UInt64} (h : ¬ dEq x y) : ifCond.holds .ne (cmpValue (FP.dcmp x y) .l) = true := ((own_c _).2.2.2.2.2.2.2.2.2 h _).1
theorem dc_l_eq_t {x y : UInt64} (h : dEq x y) : ifCond.holds .eq (cmpValue (FP.dcmp x y) .l) = true := ((own_c _).2.2.2.2.2.2.2.2.1 h _).2
theorem dc_l_eq_f {x y : UInt64} (h : ¬ dEq x y) : ifCond.holds .eq (cmpValue (FP.dcmp x y) .l) = false := ((own_c _).2.2.2.2.2.2.2.2.2 h _).2
theorem dc_g_ne_f {x y : UInt64} (h : dEq x y) : ifCond.holds .ne (cmpValue (FP.dcmp x y) .g) = false := ((own_c _).2.2.2.2.2.2.2.2.1 h _).1
theorem dc_g_ne_t {x y : UInt64} (h : ¬ dEq x y) : ifCond.holds .ne (cmpValue (FP.dcmp x y) .g) = true := ((own_c _).2.2.2.2.2.2.2.2.2 h _).1
theorem dc_g_eq_t {x y : UInt64} (h : dEq x y) : ifCond.holds .eq (cmpValue (FP.dcmp x y) .g) = true := ((own_c _).2.2.2.2.2.2.2.2.1 h _).2
theorem dc_g_eq_f {x y : UInt64} (h : ¬ dEq x y) : ifCond.holds .eq (cmpValue (FP.dcmp x y) .g) = false := ((own_c _).2.2.2.2.2.2.2.2.2 h _).2
theorem fc_g_ge_f {x y : UInt32} (h : fLt x y) : ifCond.holds .ge (cmpValue (FP.fcmp x y) .g) = false := ((own_c _).1 h).1
theorem fc_g_ge_t {x y : UInt32} (h : ¬ fLt x y) : ifCond.holds .ge (cmpValue (FP.fcmp x y) .g) = true := ((own_c _).2.1 h).1
theorem fc_g_lt_t {x y : UInt32} (h : fLt x y) : ifCond.holds .lt (cmpValue (FP.fcmp x y) .g) = true := ((own_c _).1 h).2
theorem fc_g_lt_f {x y : UInt32} (h : ¬ fLt x y) : ifCond.holds .lt (cmpValue (FP.fcmp x y) .g) = false := ((own_c _).2.1 h).2
theorem fc_g_gt_f {x y : UInt32} (h : fLe x y) : ifCond.holds .gt (cmpValue (FP.fcmp x y) .g) = false := ((own_c _).2.2.1 h).1
theorem fc_g_gt_t {x y : UInt32} (h : ¬ fLe x y) : ifCond.holds .gt (cmpValue (FP.fcmp x y) .g) = true := ((own_c _).2.2.2.1 h).1
theorem fc_g_le_t {x y : UInt32} (h : fLe x y) : ifCond.holds .le (cmpValue (FP.fcmp x y) .g) = true := ((own_c _).2.2.1 h).2
theorem fc_g_le_f {x y : UInt32} (h : ¬ fLe x y) : ifCond.holds .le (cmpValue (FP.fcmp x y) .g) = false := ((own_c _).2.2.2.1 h).2
theorem fc_l_le_f {x y : UInt32} (h : fLt y x) : ifCond.holds .le (cmpValue (FP.fcmp x y) .l) = false := ((own_c _).2.2.2.2.1 ((own_fgt x y).mp h)).1
theorem fc_l_le_t {x y : UInt32} (h : ¬ fLt y x) : ifCond.holds .le (cmpValue (FP.fcmp x y) .l) = true := ((own_c _).2.2.2.2.2.1 (fun q => h ((own_fgt x y).mpr q))).1
theorem fc_l_gt_t {x y : UInt32} (h : fLt y x) : ifCond.holds .gt (cmpValue (FP.fcmp x y) .l) = true := ((own_c _).2.2.2.2.1 ((own_fgt x y).mp h)).2
theorem fc_l_gt_f {x y : UInt32} (h : ¬ fLt y x) : ifCond.holds .gt (cmpValue (FP.fcmp x y) .l) = false := ((own_c _).2.2.2.2.2.1 (fun q => h ((own_fgt x y).mpr q))).2
theorem fc_l_lt_f {x y : UInt32} (h : fLe y x) : ifCond.holds .lt (cmpValue (FP.fcmp x y) .l) = false := ((own_c _).2.2.2.2.2.2.1 ((own_fge x y).mp h)).1
theorem fc_l_lt_t {x y : UInt32} (h : ¬ fLe y x) : ifCond.holds .lt (cmpValue (FP.fcmp x y) .l) = true := ((own_c _).2.2.2.2.2.2.2.1 (fun q => h ((own_fge x y).mpr q))).1
theorem fc_l_ge_t {x y : UInt32} (h : fLe y x) : ifCond.holds .ge (cmpValue (FP.fcmp x y) .l) = true := ((own_c _).2.2.2.2.2.2.1 ((own_fge x y).mp h)).2
theorem fc_l_ge_f {x y : UInt32} (h : ¬ fLe y x) : ifCond.holds .ge (cmpValue (FP.fcmp x y) .l) = false := ((own_c _).2.2.2.2.2.2.2.1 (fun q => h ((own_fge x y).mpr q))).2
theorem fc_l_ne_f {x y : UInt32} (h : fEq x y) : ifCond.holds .ne (cmpValue (FP.fcmp x y) .l) = false := ((own_c _).2.2.2.2.2.2.2.2.1 h _).1
theorem fc_l_ne_t {x y : UInt32} (h : ¬ fEq x y) : ifCond.holds .ne (cmpValue (FP.fcmp x y) .l) = true := ((own_c _).2.2.2.2.2.2.2.2.2 h _).1
theorem fc_l_eq_t {x y : UInt32} (h : fEq x y) : ifCond.holds .eq (cmpValue (FP.fcmp x y) .l) = true := ((own_c _).2.2.2.2.2.2.2.2.1 h _).2
theorem fc_l_eq_f {x y : UInt32} (h : ¬ fEq x y) : ifCond.holds .eq (cmpValue (FP.fcmp x y) .l) = false := ((own_c _).2.2.2.2.2.2.2.2.2 h _).2
theorem fc_g_ne_f {x y : UInt32} (h : fEq x y) : ifCond.holds .ne (cmpValue (FP.fcmp x y) .g) = false := ((own_c _).2.2.2.2.2.2.2.2.1 h _).1
theorem fc_g_ne_t {x y : UInt32} (h : ¬ fEq x y) : ifCond.holds .ne (cmpValue (FP.fcmp x y) .g) = true := ((own_c _).2.2.2.2.2.2.2.2.2 h _).1
theorem fc_g_eq_t {x y : UInt32} (h : fEq x y) : ifCond.holds .eq (cmpValue (FP.fcmp x y) .g) = true := ((own_c _).2.2.2.2.2.2.2.2.1 h _).2
theorem fc_g_eq_f {x y : UInt32} (h : ¬ fEq x y) : ifCond.holds .eq (cmpValue (FP.fcmp x y) .g) = false := ((own_c _).2.2.2.2.2.2.2.2.2 h _).2
theorem d0_0 : decode prog_10_method_3_code 0 = .ok (.dload_n 0, 1) := by decide +kernel
theorem d0_1 : decode prog_10_method_3_code 1 = .ok (.dload_n 2, 1) := by decide +kernel
theorem d0_2 : decode prog_10_method_3_code 2 = .ok (.ldc2_w 9, 3) := by decide +kernel
theorem d0_5 : decode prog_10_method_3_code 5 = .ok (.dload_n 2, 1) := by decide +kernel
theorem d0_6 : decode prog_10_method_3_code 6 = .ok (.invokestatic 11, 3) := by decide +kernel
theorem d0_9 : decode prog_10_method_3_code 9 = .ok (.dmul, 1) := by decide +kernel
theorem d0_10 : decode prog_10_method_3_code 10 = .ok (.dsub, 1) := by decide +kernel
theorem d0_11 : decode prog_10_method_3_code 11 = .ok (.dcmp .l, 1) := by decide +kernel
theorem d0_12 : decode prog_10_method_3_code 12 = .ok (.ifCond .lt 7, 3) := by decide +kernel
theorem d0_15 : decode prog_10_method_3_code 15 = .ok (.iconst 1, 1) := by decide +kernel
theorem d0_16 : decode prog_10_method_3_code 16 = .ok (.goto 4, 3) := by decide +kernel
theorem d0_19 : decode prog_10_method_3_code 19 = .ok (.iconst 0, 1) := by decide +kernel
theorem d0_20 : decode prog_10_method_3_code 20 = .ok (.ireturn, 1) := by decide +kernel
theorem pd0 : parseMethodDescriptor "(DD)Z" = some ⟨[.double, .double], some .boolean⟩ := by decide +kernel
theorem pf_al : plainFor (⟨"com/example/forager/forager/Limits", "atLeast", "(DD)Z"⟩ : MethodName) = true := by first | exact plainFor_of_name (by first | (simp [plainName, overriddenIn, x]; done) | decide +kernel) | exact Jvm.Free.JP.mathPlain rfl (by decide +kernel) | decide +kernel
theorem ef_al (m : MethodId) (xv : UInt64) (xl : UInt64) : entryFrame m #[(.double xv), (.double xl)] 4 = mkF m 0 #[.val (.double xv), .second, .val (.double xl), .second] [] := by first | (simp [entryFrame, mkF, argsToLocals, Value.category, maxLocals]; done) | rfl
theorem pd1 : parseMethodDescriptor "(D)D" = some ⟨[.double], some .double⟩ := by decide +kernel
def f_al (xv : UInt64) (xl : UInt64) : Int32 := (if dLe (FP.dsub xl (FP.dmul (4472406533629990549 : UInt64) (xl &&& 0x7fffffffffffffff))) xv then (1 : Int32) else (0 : Int32))
def Q_al (Z : State) (xv : UInt64) (xl : UInt64)  (h0 : Heap) (n0 : Nat) (v : Option Value) (h : Heap) (L : List Loc) : Prop := v = some (.int (f_al xv xl)) ∧ Fr n0 L ∧ h = h0
set_option maxRecDepth 65536 in
set_option maxHeartbeats 40000000 in
theorem rm_al (l : Launch) (Z : State) (a0 : Array Value) (hw : ∀ d ∈ tables_1, d.before a0 Z = true) (ws : List Jvm.Cond) (xv : UInt64) (xl : UInt64)  (h0 : Heap) (n0 : Nat) (Z0 : n0 ≤ h0.size) (hn : Jvm.Free.Fl.NoNaN64 xl) (nn9 : Jvm.Free.Fl.NoNaN64 xl → Jvm.Free.Fl.NoNaN64 (FP.dmul (4472406533629990549 : UInt64) (xl &&& 0x7fffffffffffffff))) (nn10 : Jvm.Free.Fl.NoNaN64 xl → Jvm.Free.Fl.NoNaN64 (FP.dsub xl (FP.dmul (4472406533629990549 : UInt64) (xl &&& 0x7fffffffffffffff)))) :
    MetFree l (⟨"com/example/forager/forager/Limits", "atLeast", "(DD)Z"⟩ : MethodName) (head1 (Jvm.Cond.code (⟨"com/example/forager/forager/Limits", "atLeast", "(DD)Z"⟩ : MethodName) prog_10_method_3_code 4 (some .boolean) :: ws) ({ frames := 1, cells := 0, slots := 0, locals := 24 } : Room)) (fun a U => a = #[(.double xv), (.double xl)] ∧ Z.Warmed39 U.vm ∧ U.heap = h0) (fun _ _ _ _ _ => True) (fun _ U o U' => ∃ v L, o = .returned v ∧ Q_al Z xv xl  h0 n0 v U'.heap L ∧ FrameEnd U o U' L ({ frames := 1, cells := 0, slots := 0, locals := 24 } : Room).cells ({ frames := 1, cells := 0, slots := 0, locals := 24 } : Room).slots) := by
  refine MetFree.of_bodySF pf_al hisR ?_
  intro p e s m args below meth c s₁ Bd hml0 hP hK
  obtain ⟨rfl, hZ, hh⟩ := hP
  have hx := Bd.exec
  have hby := Bd.bytes
  have hml : c.maxLocals = 4 := hml0
  have hown : s.vm.findClass "com/example/forager/forager/Limits" = some m.cls := findClass_of_methodNamed Bd.named
  have hnm := (name_of_methodNamed Bd.named Bd.method).1
  have X0 : Stand p l e ({ frames := 1, cells := 0, slots := 0, locals := 24 } : Room) s m #[(.double xv), (.double xl)] below meth c s₁ [] 0 0 := Stand.of_body Bd
  have e0 : s₁.heap = h0 := by rw [← hh, Bd.state]; rfl
  have N0 := Fr.nil n0
  obtain ⟨S0, hS0⟩ : ∃ z, z = s₁.setTop (entryFrame m #[(.double xv), (.double xl)] 4) := ⟨_, rfl⟩
  rw [← hS0]
  have g0 : Goes p e below S0 (s₁.setTop (mkF m 0 #[.val (.double xv), .second, .val (.double xl), .second] [])) := fun t k => by rw [hS0]; exact castTop (ef_al m xv xl) k
  have g1 : Goes p e below S0 (s₁.setTop (mkF m 6 #[.val (.double xv), .second, .val (.double xl), .second] [(.double xl), (.double (4472406533629990549 : UInt64)), (.double xl), (.double xv)])) := fun t k => g0 t (by
    refine XS.dloadN X0.here hx rfl (hb hby d0_0) rfl ?_
    show Go p e below t s₁ m 1 #[.val (.double xv), .second, .val (.double xl), .second] [(.double xv)]
    refine XS.dloadN X0.here hx rfl (hb hby d0_1) rfl ?_
    show Go p e below t s₁ m 2 #[.val (.double xv), .second, .val (.double xl), .second] [(.double xl), (.double xv)]
    refine X0.ldc2DoubleC hx hown (mvT hZ (hw _ (List.mem_of_getElem? (i := 5) rfl))) (g := (mkF m 2 #[.val (.double xv), .second, .val (.double xl), .second] [(.double xl), (.double xv)])) rfl (hb hby d0_2) _ ?_
    show Go p e below t s₁ m 5 #[.val (.double xv), .second, .val (.double xl), .second] [(.double (4472406533629990549 : UInt64)), (.double xl), (.double xv)]
    refine XS.dloadN X0.here hx rfl (hb hby d0_5) rfl ?_
    show Go p e below t s₁ m 6 #[.val (.double xv), .second, .val (.double xl), .second] [(.double xl), (.double (4472406533629990549 : UInt64)), (.double xl), (.double xv)]
    exact k)
  obtain ⟨T2, X2, e2, st2⟩ := natS X0 hx hZ (y := (⟨"java/lang/Math", "abs", "(D)D"⟩ : MethodName)) hown (hw _ (List.mem_of_getElem? (i := 6) rfl)) (hw _ (List.mem_of_getElem? (i := 7) rfl)) (hw _ (List.mem_of_getElem? (i := 8) rfl)) (hw _ (List.mem_of_getElem? (i := 9) rfl)) (by decide) e0 (W := 6) (fun c4 => Jvm.Free.Fl.Abs.absD_pays xl c4 (by decide) (by decide)) (g := (mkF m 6 #[.val (.double xv), .second, .val (.double xl), .second] [(.double xl), (.double (4472406533629990549 : UInt64)), (.double xl), (.double xv)])) rfl (by rw [hml]; rfl) (argsL := [(.double xl)]) (rest := [(.double (4472406533629990549 : UInt64)), (.double xl), (.double xv)]) (lenOf pd1 rfl) rfl (by show 2 * 0 + _ ≤ _; exact Nat.le_of_eq rfl) (hb hby d0_6) (Nat.le_of_ble_eq_true rfl) (Nat.le_of_ble_eq_true rfl) ⟨rfl, hn⟩ (val' := (.double (xl &&& 0x7fffffffffffffff))) rfl
  have g3 : Goes p e below S0 (T2.setTop (mkF m 9 #[.val (.double xv), .second, .val (.double xl), .second] [(.double (xl &&& 0x7fffffffffffffff)), (.double (4472406533629990549 : UInt64)), (.double xl), (.double xv)])) := fun t k => g1 t (st2 t k)
  have g4 : Goes p e below S0 (T2.setTop (mkF m 12 #[.val (.double xv), .second, .val (.double xl), .second] [(.int (cmpValue (FP.dcmp xv (FP.dsub xl (FP.dmul (4472406533629990549 : UInt64) (xl &&& 0x7fffffffffffffff)))) .l))])) := fun t k => g3 t (by
    refine XS.dmulS X2.here hx rfl (hb hby d0_9) rfl (nn9 hn) rfl ?_
    show Go p e below t T2 m 10 #[.val (.double xv), .second, .val (.double xl), .second] [(.double (FP.dmul (4472406533629990549 : UInt64) (xl &&& 0x7fffffffffffffff))), (.double xl), (.double xv)]
    refine XS.dsubS X2.here hx rfl (hb hby d0_10) rfl (nn10 hn) rfl ?_
    show Go p e below t T2 m 11 #[.val (.double xv), .second, .val (.double xl), .second] [(.double (FP.dsub xl (FP.dmul (4472406533629990549 : UInt64) (xl &&& 0x7fffffffffffffff)))), (.double xv)]
    refine XS.dcmpS X2.here hx rfl (hb hby d0_11) rfl rfl ?_
    show Go p e below t T2 m 12 #[.val (.double xv), .second, .val (.double xl), .second] [(.int (cmpValue (FP.dcmp xv (FP.dsub xl (FP.dmul (4472406533629990549 : UInt64) (xl &&& 0x7fffffffffffffff)))) .l))]
    exact k)
  by_cases h5 : dLe (FP.dsub xl (FP.dmul (4472406533629990549 : UInt64) (xl &&& 0x7fffffffffffffff))) xv
  · skip
    have g6 : Goes p e below S0 (T2.setTop (mkF m 20 #[.val (.double xv), .second, .val (.double xl), .second] [(.int (1 : Int32))])) := fun t k => g4 t (by
      refine XS.ifNo X2.here hx rfl (hb hby d0_12) rfl (dc_l_lt_f h5) ?_
      show Go p e below t T2 m 15 #[.val (.double xv), .second, .val (.double xl), .second] []
      refine XT.iconstV X2.here hx rfl (1 : Int32) (hb hby d0_15) (by decide) ?_
      show Go p e below t T2 m 16 #[.val (.double xv), .second, .val (.double xl), .second] [(.int (1 : Int32))]
      refine XS.goto X2.here hx rfl (pc0 := 16) (pc' := 20) rfl (hb hby d0_16) (by decide) (by decide) ?_
      show Go p e below t T2 m 20 #[.val (.double xv), .second, .val (.double xl), .second] [(.int (1 : Int32))]
      exact k)
    obtain ⟨fs, hr, hrun, hended, hW, hsame⟩ := X2.leave (v := some (.int (1 : Int32))) (fun h => by rw [Bd.returns] at h; cases h)
    refine ⟨_, _, g6 _ (retN X2 hx (t := .boolean) Bd.returns (by simp) (hb hby d0_20) hr), hrun, hended, _, _, rfl, ?_, ⟨_, rfl⟩, hW, hsame.mono (by decide) (by decide)⟩
    show Q_al Z xv xl  h0 n0 _ T2.heap _
    rw [e2]
    exact ⟨by unfold f_al; rw [if_pos h5], N0, rfl⟩
  · skip
    have g7 : Goes p e below S0 (T2.setTop (mkF m 20 #[.val (.double xv), .second, .val (.double xl), .second] [(.int (0 : Int32))])) := fun t k => g4 t (by
      refine XS.ifYes X2.here hx rfl (pc0 := 12) (pc' := 19) rfl (hb hby d0_12) rfl (dc_l_lt_t h5) (by decide) (by decide) ?_
      show Go p e below t T2 m 19 #[.val (.double xv), .second, .val (.double xl), .second] []
      refine XT.iconstV X2.here hx rfl (0 : Int32) (hb hby d0_19) (by decide) ?_
      show Go p e below t T2 m 20 #[.val (.double xv), .second, .val (.double xl), .second] [(.int (0 : Int32))]
      exact k)
    obtain ⟨fs, hr, hrun, hended, hW, hsame⟩ := X2.leave (v := some (.int (0 : Int32))) (fun h => by rw [Bd.returns] at h; cases h)
    refine ⟨_, _, g7 _ (retN X2 hx (t := .boolean) Bd.returns (by simp) (hb hby d0_20) hr), hrun, hended, _, _, rfl, ?_, ⟨_, rfl⟩, hW, hsame.mono (by decide) (by decide)⟩
    show Q_al Z xv xl  h0 n0 _ T2.heap _
    rw [e2]
    exact ⟨by unfold f_al; rw [if_neg h5], N0, rfl⟩
theorem d2_0 : decode jdk_29_method_59_code 0 = .ok (.iload_n 0, 1) := by decide +kernel
theorem d2_1 : decode jdk_29_method_59_code 1 = .ok (.ifCond .ge 8, 3) := by decide +kernel
theorem d2_4 : decode jdk_29_method_59_code 4 = .ok (.iload_n 0, 1) := by decide +kernel
theorem d2_5 : decode jdk_29_method_59_code 5 = .ok (.ineg, 1) := by decide +kernel
theorem d2_6 : decode jdk_29_method_59_code 6 = .ok (.goto 4, 3) := by decide +kernel
theorem d2_9 : decode jdk_29_method_59_code 9 = .ok (.iload_n 0, 1) := by decide +kernel
theorem d2_10 : decode jdk_29_method_59_code 10 = .ok (.ireturn, 1) := by decide +kernel
theorem pd2 : parseMethodDescriptor "(I)I" = some ⟨[.int], some .int⟩ := by decide +kernel
theorem pf_ab : plainFor (⟨"java/lang/Math", "abs", "(I)I"⟩ : MethodName) = true := by first | exact plainFor_of_name (by first | (simp [plainName, overriddenIn, x]; done) | decide +kernel) | exact Jvm.Free.JP.mathPlain rfl (by decide +kernel) | decide +kernel
theorem ef_ab (m : MethodId) (xi : Int32) : entryFrame m #[(.int xi)] 1 = mkF m 0 #[iv xi] [] := by first | (simp [entryFrame, mkF, argsToLocals, Value.category, maxLocals]; done) | rfl
def f_ab (xi : Int32) : Int32 := (if xi < 0 then (-xi) else xi)
def Q_ab (Z : State) (xi : Int32)  (h0 : Heap) (n0 : Nat) (v : Option Value) (h : Heap) (L : List Loc) : Prop := v = some (.int (f_ab xi)) ∧ Fr n0 L ∧ h = h0
set_option maxRecDepth 65536 in
set_option maxHeartbeats 40000000 in
theorem rm_ab (l : Launch) (Z : State) (a0 : Array Value) (hw : ∀ d ∈ tables_1, d.before a0 Z = true) (ws : List Jvm.Cond) (xi : Int32)  (h0 : Heap) (n0 : Nat) (Z0 : n0 ≤ h0.size)   :
    MetFree l (⟨"java/lang/Math", "abs", "(I)I"⟩ : MethodName) (head1 (Jvm.Cond.code (⟨"java/lang/Math", "abs", "(I)I"⟩ : MethodName) jdk_29_method_59_code 1 (some .int) :: ws) ({ frames := 0, cells := 0, slots := 0, locals := 0 } : Room)) (fun a U => a = #[(.int xi)] ∧ Z.Warmed39 U.vm ∧ U.heap = h0) (fun _ _ _ _ _ => True) (fun _ U o U' => ∃ v L, o = .returned v ∧ Q_ab Z xi  h0 n0 v U'.heap L ∧ FrameEnd U o U' L ({ frames := 0, cells := 0, slots := 0, locals := 0 } : Room).cells ({ frames := 0, cells := 0, slots := 0, locals := 0 } : Room).slots) := by
  refine MetFree.of_bodySF pf_ab hisR ?_
  intro p e s m args below meth c s₁ Bd hml0 hP hK
  obtain ⟨rfl, hZ, hh⟩ := hP
  have hx := Bd.exec
  have hby := Bd.bytes
  have hml : c.maxLocals = 1 := hml0
  have hown : s.vm.findClass "java/lang/Math" = some m.cls := findClass_of_methodNamed Bd.named
  have hnm := (name_of_methodNamed Bd.named Bd.method).1
  have X0 : Stand p l e ({ frames := 0, cells := 0, slots := 0, locals := 0 } : Room) s m #[(.int xi)] below meth c s₁ [] 0 0 := Stand.of_body Bd
  have e0 : s₁.heap = h0 := by rw [← hh, Bd.state]; rfl
  have N0 := Fr.nil n0
  obtain ⟨S0, hS0⟩ : ∃ z, z = s₁.setTop (entryFrame m #[(.int xi)] 1) := ⟨_, rfl⟩
  rw [← hS0]
  have g0 : Goes p e below S0 (s₁.setTop (mkF m 0 #[iv xi] [])) := fun t k => by rw [hS0]; exact castTop (ef_ab m xi) k
  have g8 : Goes p e below S0 (s₁.setTop (mkF m 1 #[iv xi] [(.int xi)])) := fun t k => g0 t (by
    refine XS.iloadN X0.here hx rfl (hb hby d2_0) rfl ?_
    show Go p e below t s₁ m 1 #[iv xi] [(.int xi)]
    exact k)
  by_cases h9 : xi < 0
  · skip
    have g10 : Goes p e below S0 (s₁.setTop (mkF m 10 #[iv xi] [(.int (-xi))])) := fun t k => g8 t (by
      refine XS.ifNo X0.here hx rfl (hb hby d2_1) rfl (XT.i0_ge_f h9) ?_
      show Go p e below t s₁ m 4 #[iv xi] []
      refine XS.iloadN X0.here hx rfl (hb hby d2_4) rfl ?_
      show Go p e below t s₁ m 5 #[iv xi] [(.int xi)]
      refine XS.ineg X0.here hx rfl (hb hby d2_5) rfl ?_
      show Go p e below t s₁ m 6 #[iv xi] [(.int (-xi))]
      refine XS.goto X0.here hx rfl (pc0 := 6) (pc' := 10) rfl (hb hby d2_6) (by decide) (by decide) ?_
      show Go p e below t s₁ m 10 #[iv xi] [(.int (-xi))]
      exact k)
    obtain ⟨fs, hr, hrun, hended, hW, hsame⟩ := X0.leave (v := some (.int (-xi))) (fun h => by rw [Bd.returns] at h; cases h)
    refine ⟨_, _, g10 _ (retOut X0 hx Bd.returns rfl (Or.inl ⟨rfl, Or.inl rfl, _, rfl⟩) (hb hby d2_10) hr), hrun, hended, _, _, rfl, ?_, ⟨_, rfl⟩, hW, hsame.mono (by decide) (by decide)⟩
    show Q_ab Z xi  h0 n0 _ s₁.heap _
    rw [e0]
    exact ⟨by unfold f_ab; rw [if_pos h9], N0, rfl⟩
  · skip
    have g11 : Goes p e below S0 (s₁.setTop (mkF m 10 #[iv xi] [(.int xi)])) := fun t k => g8 t (by
      refine XS.ifYes X0.here hx rfl (pc0 := 1) (pc' := 9) rfl (hb hby d2_1) rfl (XT.i0_ge_t h9) (by decide) (by decide) ?_
      show Go p e below t s₁ m 9 #[iv xi] []
      refine XS.iloadN X0.here hx rfl (hb hby d2_9) rfl ?_
      show Go p e below t s₁ m 10 #[iv xi] [(.int xi)]
      exact k)
    obtain ⟨fs, hr, hrun, hended, hW, hsame⟩ := X0.leave (v := some (.int xi)) (fun h => by rw [Bd.returns] at h; cases h)
    refine ⟨_, _, g11 _ (retOut X0 hx Bd.returns rfl (Or.inl ⟨rfl, Or.inl rfl, _, rfl⟩) (hb hby d2_10) hr), hrun, hended, _, _, rfl, ?_, ⟨_, rfl⟩, hW, hsame.mono (by decide) (by decide)⟩
    show Q_ab Z xi  h0 n0 _ s₁.heap _
    rw [e0]
    exact ⟨by unfold f_ab; rw [if_neg h9], N0, rfl⟩
def nL (a : Int32) : Int32 := a % 536870912
def nQ (a : Int32) : Int32 := a % 4096
def nC (a : Int32) : Int32 := a % 32
def nM (a : Int32) : Int64 := (nQ a).toInt64 * 17179869184
def nV (a b : Int32) : Int64 := nM a + (nC b).toInt64 * (f_ab (nQ a)).toInt64

abbrev cM : UInt64 := 4472406533629990549
theorem own_nn9 {l : UInt64} (h : Jvm.Free.Fl.Fin64 l) : Jvm.Free.Fl.NoNaN64 (FP.dmul (4472406533629990549 : UInt64) (l &&& 0x7fffffffffffffff)) :=
  Jvm.Free.Fl.dmul_out (by unfold Jvm.Free.Fl.Fin64; decide) (abs_fin h)
theorem own_nn10 {l : UInt64} (h : Jvm.Free.Fl.Fin64 l) : Jvm.Free.Fl.NoNaN64 (FP.dsub l (FP.dmul (4472406533629990549 : UInt64) (l &&& 0x7fffffffffffffff))) :=
  Jvm.Free.Fl.dsub_out' h (own_nn9 h)
section Own
open Jvm.OwnFP
theorem own_cv : Val (4472406533629990549 : UInt64) 4835703278458517 992 := ⟨dfin_const (by decide), by decide +kernel⟩
theorem own_v0 : Val (0 : UInt64) 0 1074 := by
  have h := Val.i2d 0
  rw [show FP.i2d 0 = (0 : UInt64) by decide +kernel] at h
  exact h
theorem own_absV {a : UInt64} {N : Int} (h : Val a N 1074) : Val (a &&& 0x7fffffffffffffff) (N.natAbs : Int) 1074 := by
  have hc : FP.Core.dcmp a 0 = some (compare N 0) := h.cmp own_v0
  rcases Int.lt_trichotomy N 0 with h1 | h1 | h1
  · rw [(FP.Core.compare_lt_iff N 0).mpr h1] at hc
    rw [FP.Core.abs_neg hc, show ((N.natAbs : Nat) : Int) = -N by omega]
    exact ⟨cneg_fin h.1, by rw [Zv_cneg, h.2, Int.neg_mul]⟩
  · rw [(FP.Core.compare_eq_iff N 0).mpr h1] at hc
    rw [FP.Core.abs_zero hc, h1]
    exact own_v0
  · rw [(FP.Core.compare_gt_iff N 0).mpr h1] at hc
    rw [FP.Core.abs_pos hc, show ((N.natAbs : Nat) : Int) = N by omega]
    exact h
/-- m = c * |l| between two numbers P/4 and R/4, then d = l - m between l - R/4 and l - P/4 -/
theorem own_band {l : UInt64} {N : Int} {P R : Int} (h : Val l N 1074) (hP : P.natAbs < 2 ^ 53) (hR : R.natAbs < 2 ^ 53)
    (h1 : P * 2 ^ 80 ≤ 4835703278458517 * (N.natAbs : Int)) (h2 : 4835703278458517 * (N.natAbs : Int) ≤ R * 2 ^ 80)
    (h3 : (4 * N - R).natAbs < 2 ^ 53) (h4 : (4 * N - P).natAbs < 2 ^ 53) :
    FP.Core.DFin (FP.dsub l (FP.dmul (4472406533629990549 : UInt64) (l &&& 0x7fffffffffffffff))) ∧
    (4 * N - R) * ((2 ^ 1072 : Nat) : Int) ≤ Zv (FP.dsub l (FP.dmul (4472406533629990549 : UInt64) (l &&& 0x7fffffffffffffff))) ∧
    Zv (FP.dsub l (FP.dmul (4472406533629990549 : UInt64) (l &&& 0x7fffffffffffffff))) ≤ (4 * N - P) * ((2 ^ 1072 : Nat) : Int) := by
  have ha := own_absV h
  obtain ⟨VP, fP, zP⟩ := rep P 1072 hP (by decide)
  obtain ⟨VR, fR, zR⟩ := rep R 1072 hR (by decide)
  obtain ⟨V3, f3, z3⟩ := rep (4 * N - R) 1072 h3 (by decide)
  obtain ⟨V4, f4, z4⟩ := rep (4 * N - P) 1072 h4 (by decide)
  have e1 : ((2 ^ 992 : Nat) : Int) * ((2 ^ 1074 : Nat) : Int) * 2 ^ 80 = ((2 ^ 1072 : Nat) : Int) * ((2 ^ 1074 : Nat) : Int) := by
    rw [show (2 ^ 80 : Int) = ((2 ^ 80 : Nat) : Int) by decide, Int.mul_assoc, ← pow_cast, ← pow_cast, ← pow_cast]
  have e2 : ((2 ^ 1074 : Nat) : Int) = 4 * ((2 ^ 1072 : Nat) : Int) := by rw [show 1074 = 2 + 1072 by decide, pow_cast]; rfl
  have pq := pow_pos' 992
  have pr := pow_pos' 1074
  have ps := pow_pos' 1072
  have key : ∀ (x y : Int), x * 2 ^ 80 ≤ y * 4835703278458517 * 1 → True := fun _ _ _ => trivial
  have m1 : Zv VP ≤ Zv (FP.dmul (4472406533629990549 : UInt64) (l &&& 0x7fffffffffffffff)) := by
    refine dmul_ge own_cv.1 ha.1 (fin_ne fP) ?_
    rw [zP, own_cv.2, ha.2, one_pow]
    have : P * ((2 ^ 1072 : Nat) : Int) * ((2 ^ 1074 : Nat) : Int) = P * 2 ^ 80 * (((2 ^ 992 : Nat) : Int) * ((2 ^ 1074 : Nat) : Int)) := by
      rw [Int.mul_assoc P, ← e1, Int.mul_assoc P, Int.mul_comm (2 ^ 80)]
    rw [this]
    have : (4835703278458517 : Int) * ((2 ^ 992 : Nat) : Int) * ((N.natAbs : Int) * ((2 ^ 1074 : Nat) : Int)) = 4835703278458517 * (N.natAbs : Int) * (((2 ^ 992 : Nat) : Int) * ((2 ^ 1074 : Nat) : Int)) := by
      rw [Int.mul_assoc, Int.mul_assoc, Int.mul_left_comm (((2 ^ 992 : Nat) : Int))]
    rw [this]
    exact Int.mul_le_mul_of_nonneg_right h1 (Int.mul_nonneg (by omega) (by omega))
  have m2 : Zv (FP.dmul (4472406533629990549 : UInt64) (l &&& 0x7fffffffffffffff)) ≤ Zv VR := by
    refine dmul_le own_cv.1 ha.1 (fin_ne fR) ?_
    rw [zR, own_cv.2, ha.2, one_pow]
    have : R * ((2 ^ 1072 : Nat) : Int) * ((2 ^ 1074 : Nat) : Int) = R * 2 ^ 80 * (((2 ^ 992 : Nat) : Int) * ((2 ^ 1074 : Nat) : Int)) := by
      rw [Int.mul_assoc R, ← e1, Int.mul_assoc R, Int.mul_comm (2 ^ 80)]
    rw [this]
    have : (4835703278458517 : Int) * ((2 ^ 992 : Nat) : Int) * ((N.natAbs : Int) * ((2 ^ 1074 : Nat) : Int)) = 4835703278458517 * (N.natAbs : Int) * (((2 ^ 992 : Nat) : Int) * ((2 ^ 1074 : Nat) : Int)) := by
      rw [Int.mul_assoc, Int.mul_assoc, Int.mul_left_comm (((2 ^ 992 : Nat) : Int))]
    rw [this]
    exact Int.mul_le_mul_of_nonneg_right h2 (Int.mul_nonneg (by omega) (by omega))
  have fm := fin_of (mul_ne own_cv.1 ha.1) fP fR m1 m2
  have zl : Zv l = 4 * N * ((2 ^ 1072 : Nat) : Int) := by rw [h.2, e2, ← Int.mul_assoc, Int.mul_comm N]
  have d1 : Zv V3 ≤ Zv (FP.dsub l (FP.dmul (4472406533629990549 : UInt64) (l &&& 0x7fffffffffffffff))) := by
    refine dsub_ge h.1 fm (fin_ne f3) ?_
    rw [z3, Int.sub_mul, zl]
    omega
  have d2 : Zv (FP.dsub l (FP.dmul (4472406533629990549 : UInt64) (l &&& 0x7fffffffffffffff))) ≤ Zv V4 := by
    refine dsub_le h.1 fm (fin_ne f4) ?_
    rw [z4, Int.sub_mul, zl]
    omega
  exact ⟨fin_of (sub_ne h.1 fm) f3 f4 d1 d2, by rw [← z3]; exact d1, by rw [← z4]; exact d2⟩
theorem own_yes {v l : UInt64} {N W P R : Int} (h : Val l N 1074) (hv : Val v W 1074) (hP : P.natAbs < 2 ^ 53) (hR : R.natAbs < 2 ^ 53)
    (h1 : P * 2 ^ 80 ≤ 4835703278458517 * (N.natAbs : Int)) (h2 : 4835703278458517 * (N.natAbs : Int) ≤ R * 2 ^ 80)
    (h3 : (4 * N - R).natAbs < 2 ^ 53) (h4 : (4 * N - P).natAbs < 2 ^ 53) (hw : 4 * N - P ≤ 4 * W) : f_al v l = 1 := by
  obtain ⟨fd, -, b2⟩ := own_band h hP hR h1 h2 h3 h4
  unfold f_al
  refine if_pos ((le_iff fd hv.1).mpr (Int.le_trans b2 ?_))
  have e2 : ((2 ^ 1074 : Nat) : Int) = 4 * ((2 ^ 1072 : Nat) : Int) := by rw [show 1074 = 2 + 1072 by decide, pow_cast]; rfl
  rw [hv.2, e2, ← Int.mul_assoc, Int.mul_comm W]
  have ps := pow_pos' 1072
  exact Int.mul_le_mul_of_nonneg_right hw (by omega)
theorem own_no {v l : UInt64} {N W P R : Int} (h : Val l N 1074) (hv : Val v W 1074) (hP : P.natAbs < 2 ^ 53) (hR : R.natAbs < 2 ^ 53)
    (h1 : P * 2 ^ 80 ≤ 4835703278458517 * (N.natAbs : Int)) (h2 : 4835703278458517 * (N.natAbs : Int) ≤ R * 2 ^ 80)
    (h3 : (4 * N - R).natAbs < 2 ^ 53) (h4 : (4 * N - P).natAbs < 2 ^ 53) (hw : 4 * W < 4 * N - R) : f_al v l = 0 := by
  obtain ⟨fd, b1, -⟩ := own_band h hP hR h1 h2 h3 h4
  unfold f_al
  refine if_neg fun q => ?_
  have q := (le_iff fd hv.1).mp q
  have e2 : ((2 ^ 1074 : Nat) : Int) = 4 * ((2 ^ 1072 : Nat) : Int) := by rw [show 1074 = 2 + 1072 by decide, pow_cast]; rfl
  rw [hv.2, e2, ← Int.mul_assoc, Int.mul_comm W] at q
  have ps := pow_pos' 1072
  have := Int.lt_of_mul_lt_mul_right (Int.lt_of_le_of_lt (Int.le_trans b1 q) (Int.mul_lt_mul_of_pos_right hw ps)) (by omega)
  omega
theorem own_L (a : Int32) : (nL a).toInt.natAbs < 536870912 := by
  have h := c_irem a 536870912 536870912 (by decide)
  unfold nL
  by_cases q : 0 ≤ a.toInt
  · have := h.1 q; omega
  · have := h.2 (by omega); omega
theorem own_e {i0 i1 : Int32} (h : i0 < (nL i1)) : (f_al (FP.i2d i0) (FP.i2d (nL i1))) = (0 : Int32) := by
  have := own_L i1
  rw [Int32.lt_iff_toInt_lt] at h
  exact own_no (P := 0) (R := 3) (Val.i2d _) (Val.i2d _) (by decide) (by decide) (by omega) (by omega) (by omega) (by omega) (by omega)
theorem own_e1 {i0 i1 : Int32} (h : ¬ i0 < (nL i1)) : (f_al (FP.i2d i0) (FP.i2d (nL i1))) = (1 : Int32) := by
  have := own_L i1
  rw [Int32.lt_iff_toInt_lt] at h
  exact own_yes (P := 0) (R := 3) (Val.i2d _) (Val.i2d _) (by decide) (by decide) (by omega) (by omega) (by omega) (by omega) (by omega)
theorem own_Q (a : Int32) : (nQ a).toInt.natAbs < 4096 := by
  have h := c_irem a 4096 4096 (by decide)
  unfold nQ
  by_cases q : 0 ≤ a.toInt
  · have := h.1 q; omega
  · have := h.2 (by omega); omega
theorem own_C (a : Int32) : (nC a).toInt.natAbs < 32 := by
  have h := c_irem a 32 32 (by decide)
  unfold nC
  by_cases q : 0 ≤ a.toInt
  · have := h.1 q; omega
  · have := h.2 (by omega); omega
theorem own_A (a : Int32) : (f_ab (nQ a)).toInt = ((nQ a).toInt.natAbs : Int) := by
  have h := own_Q a
  have z : (0 : Int32).toInt = 0 := by decide
  unfold f_ab
  by_cases q : (nQ a) < 0
  · rw [if_pos q]
    rw [Int32.lt_iff_toInt_lt] at q
    have := c_ineg (nQ a)
    have := rng32 (-(nQ a))
    omega
  · rw [if_neg q]
    rw [Int32.lt_iff_toInt_lt] at q
    omega
theorem own_M (a : Int32) : (nM a).toInt = (nQ a).toInt * 17179869184 := by
  have h := own_Q a
  have h1 := c_lmul (nQ a).toInt64 17179869184
  have h2 := rng64 ((nQ a).toInt64 * 17179869184)
  have h3 := c_i2l (nQ a)
  have z : (17179869184 : Int64).toInt = 17179869184 := by decide
  unfold nM
  rw [z, h3] at h1
  omega
theorem own_V (a b : Int32) : (nV a b).toInt = (nQ a).toInt * 17179869184 + (nC b).toInt * ((nQ a).toInt.natAbs : Int) := by
  have h := own_Q a
  have hc := own_C b
  have hA := own_A a
  have hM := own_M a
  have h1 := c_lmul (nC b).toInt64 (f_ab (nQ a)).toInt64
  have h2 := rng64 ((nC b).toInt64 * (f_ab (nQ a)).toInt64)
  have h3 := c_i2l (nC b)
  have h4 := c_i2l (f_ab (nQ a))
  rw [h3, h4, hA] at h1
  have h5 : ((nC b).toInt * ((nQ a).toInt.natAbs : Int)).natAbs ≤ 31 * 4095 := by
    rw [Int.natAbs_mul]; exact Nat.mul_le_mul (by omega) (by omega)
  have hw : ∀ (w p : Int), (p - w) % 18446744073709551616 = 0 → (-9223372036854775808 ≤ p ∧ p < 9223372036854775808) → w.natAbs ≤ 31 * 4095 → p = w := fun w p a1 a2 a3 => by omega
  have e1 := hw _ _ h1 h2 h5
  have h6 := c_ladd (nM a) ((nC b).toInt64 * (f_ab (nQ a)).toInt64)
  have h7 := rng64 (nM a + (nC b).toInt64 * (f_ab (nQ a)).toInt64)
  rw [e1] at h6
  have hg : ∀ (q w m v : Int), m = q * 17179869184 → q.natAbs < 4096 → w.natAbs ≤ 31 * 4095 → (v - (m + w)) % 18446744073709551616 = 0 → (-9223372036854775808 ≤ v ∧ v < 9223372036854775808) → v = q * 17179869184 + w := fun q w m v a1 a2 a3 a4 a5 => by omega
  exact hg _ _ _ _ hM h h5 h6 h7
theorem own_vl (a : Int32) : Val (FP.l2d (nM a)) ((nQ a).toInt * 17179869184) 1074 := by
  have h := own_Q a
  have e := own_M a
  rw [← e]; exact Val.l2d (by omega)
theorem own_vv (a b : Int32) : Val (FP.l2d (nV a b)) ((nQ a).toInt * 17179869184 + (nC b).toInt * ((nQ a).toInt.natAbs : Int)) 1074 := by
  have h := own_Q a
  have hc := own_C b
  have e := own_V a b
  have h5 : ((nC b).toInt * ((nQ a).toInt.natAbs : Int)).natAbs ≤ 31 * 4095 := by
    rw [Int.natAbs_mul]; exact Nat.mul_le_mul (by omega) (by omega)
  rw [← e]; exact Val.l2d (by rw [e]; generalize (nC b).toInt * ((nQ a).toInt.natAbs : Int) = w at *; omega)
theorem own_nab (a : Int32) : (((nQ a).toInt * 17179869184).natAbs : Int) = ((nQ a).toInt.natAbs : Int) * 17179869184 := by omega
theorem own_m0 {i2 i3 : Int32} (h : (nQ i2) = 0) : (f_al (FP.l2d (nV i2 i3)) (FP.l2d (nM i2))) = (1 : Int32) := by
  have z : (nQ i2).toInt = 0 := by rw [h]; decide
  have h1 := own_vl i2
  have h2 := own_vv i2 i3
  rw [z] at h1 h2
  refine own_yes (P := 0) (R := 0) h1 h2 (by decide) (by decide) (by decide) (by decide) (by decide) (by decide) ?_
  simp
theorem own_ge {c A k : Int} (hA : 0 ≤ A) (h : k ≤ c) : k * A ≤ c * A := Int.mul_le_mul_of_nonneg_right h hA
theorem own_m1 {i2 i3 : Int32} (h0 : ¬ (nQ i2) = 0) (h : (nC i3) < (-17 : Int32)) : (f_al (FP.l2d (nV i2 i3)) (FP.l2d (nM i2))) = (0 : Int32) := by
  have hQ := own_Q i2
  have z : (nQ i2).toInt ≠ 0 := fun q => h0 (Int32.toInt_inj.mp (by rw [q]; decide))
  have k : (-17 : Int32).toInt = -17 := by decide
  rw [Int32.lt_iff_toInt_lt, k] at h
  have hg := own_ge (c := -18) (k := (nC i3).toInt) (A := ((nQ i2).toInt.natAbs : Int)) (by omega) (by omega)
  have hn := own_nab i2
  refine own_no (P := 68 * ((nQ i2).toInt.natAbs : Int)) (R := 70 * ((nQ i2).toInt.natAbs : Int)) (own_vl i2) (own_vv i2 i3) (by omega) (by omega) (by rw [hn]; omega) (by rw [hn]; omega) (by omega) (by omega) ?_
  generalize (nC i3).toInt * ((nQ i2).toInt.natAbs : Int) = w at *
  omega
theorem own_m2 {i2 i3 : Int32} (h0 : ¬ (nQ i2) = 0) (h : ¬ (nC i3) < (-17 : Int32)) : (f_al (FP.l2d (nV i2 i3)) (FP.l2d (nM i2))) = (1 : Int32) := by
  have hQ := own_Q i2
  have k : (-17 : Int32).toInt = -17 := by decide
  rw [Int32.lt_iff_toInt_lt, k] at h
  have hg := own_ge (c := (nC i3).toInt) (k := -17) (A := ((nQ i2).toInt.natAbs : Int)) (by omega) (by omega)
  have hn := own_nab i2
  refine own_yes (P := 68 * ((nQ i2).toInt.natAbs : Int)) (R := 70 * ((nQ i2).toInt.natAbs : Int)) (own_vl i2) (own_vv i2 i3) (by omega) (by omega) (by rw [hn]; omega) (by rw [hn]; omega) (by omega) (by omega) ?_
  generalize (nC i3).toInt * ((nQ i2).toInt.natAbs : Int) = w at *
  omega
end Own

theorem pd3 : parseMethodDescriptor "(IIII)Z" = some ⟨[.int, .int, .int, .int], some .boolean⟩ := by decide +kernel
theorem pf_law : plainFor x = true := by first | exact plainFor_of_name (by first | (simp [plainName, overriddenIn, x]; done) | decide +kernel) | exact Jvm.Free.JP.mathPlain rfl (by decide +kernel) | decide +kernel
theorem ef_law (m : MethodId) (i0 : Int32) (i1 : Int32) (i2 : Int32) (i3 : Int32) : entryFrame m #[(.int i0), (.int i1), (.int i2), (.int i3)] maxLocals = mkF m 0 #[iv i0, iv i1, iv i2, iv i3, .unset, .unset, .unset, .unset, .unset, .unset, .unset, .unset, .unset, .unset] [] := by first | (simp [entryFrame, mkF, argsToLocals, Value.category, maxLocals]; done) | rfl
def f_law (i0 : Int32) (i1 : Int32) (i2 : Int32) (i3 : Int32) : Int32 := (if i0 < (nL i1) then (if (nQ i2) = 0 then (1 : Int32) else (if (nC i3) < (-17 : Int32) then (1 : Int32) else (1 : Int32))) else (if (nQ i2) = 0 then (1 : Int32) else (if (nC i3) < (-17 : Int32) then (1 : Int32) else (1 : Int32))))
def Q_law (Z : State) (i0 : Int32) (i1 : Int32) (i2 : Int32) (i3 : Int32)  (h0 : Heap) (n0 : Nat) (v : Option Value) (h : Heap) (L : List Loc) : Prop := v = some (.int (f_law i0 i1 i2 i3)) ∧ Fr n0 L
set_option maxRecDepth 65536 in
set_option maxHeartbeats 40000000 in
theorem rm_law (l : Launch) (Z : State) (a0 : Array Value) (hw : ∀ d ∈ tables_1, d.before a0 Z = true) (ws : List Jvm.Cond) (i0 : Int32) (i1 : Int32) (i2 : Int32) (i3 : Int32)  (h0 : Heap) (n0 : Nat) (Z0 : n0 ≤ h0.size)   :
    MetFree l x (head1 (Jvm.Cond.code x code maxLocals ret :: ws) room_1) (fun a U => a = #[(.int i0), (.int i1), (.int i2), (.int i3)] ∧ Z.Warmed39 U.vm ∧ U.heap = h0) (fun _ _ _ _ _ => True) (fun _ U o U' => ∃ v L, o = .returned v ∧ Q_law Z i0 i1 i2 i3  h0 n0 v U'.heap L ∧ FrameEnd U o U' L 0 0) := by
  refine MetFree.of_bodySF pf_law hisR ?_
  intro p e s m args below meth c s₁ Bd hml0 hP hK
  obtain ⟨rfl, hZ, hh⟩ := hP
  have hx := Bd.exec
  have hby := Bd.bytes
  have hml : c.maxLocals = 14 := hml0
  have hown : s.vm.findClass "com/example/forager/forager/LimitsAtLeastPinLaw" = some m.cls := findClass_of_methodNamed Bd.named
  have hnm := (name_of_methodNamed Bd.named Bd.method).1
  have X0 : Stand p l e room_1 s m #[(.int i0), (.int i1), (.int i2), (.int i3)] below meth c s₁ [] 0 0 := Stand.of_body Bd
  have e0 : s₁.heap = h0 := by rw [← hh, Bd.state]; rfl
  have N0 := Fr.nil n0
  obtain ⟨S0, hS0⟩ : ∃ z, z = s₁.setTop (entryFrame m #[(.int i0), (.int i1), (.int i2), (.int i3)] maxLocals) := ⟨_, rfl⟩
  rw [← hS0]
  have g0 : Goes p e below S0 (s₁.setTop (mkF m 0 #[iv i0, iv i1, iv i2, iv i3, .unset, .unset, .unset, .unset, .unset, .unset, .unset, .unset, .unset, .unset] [])) := fun t k => by rw [hS0]; exact castTop (ef_law m i0 i1 i2 i3) k
  have g12 : Goes p e below S0 (s₁.setTop (mkF m 11 #[iv i0, iv i1, iv i2, iv i3, iv (nL i1), .unset, .unset, .unset, .unset, .unset, .unset, .unset, .unset, .unset] [(.double (FP.i2d (nL i1))), (.double (FP.i2d i0))])) := fun t k => g0 t (by
    refine XS.iloadN X0.here hx rfl (hb hby at_0) rfl ?_
    show Go p e below t s₁ m 1 #[iv i0, iv i1, iv i2, iv i3, .unset, .unset, .unset, .unset, .unset, .unset, .unset, .unset, .unset, .unset] [(.int i1)]
    refine Jvm.Stand.ldcI X0 hx hown (mvT hZ (hw _ (List.mem_of_getElem? (i := 0) rfl))) (g := (mkF m 1 #[iv i0, iv i1, iv i2, iv i3, .unset, .unset, .unset, .unset, .unset, .unset, .unset, .unset, .unset, .unset] [(.int i1)])) rfl (hb hby at_1) ?_
    show Go p e below t s₁ m 3 #[iv i0, iv i1, iv i2, iv i3, .unset, .unset, .unset, .unset, .unset, .unset, .unset, .unset, .unset, .unset] [(.int (536870912 : Int32)), (.int i1)]
    refine iremM X0 hx rfl (hb hby at_3) rfl (by decide) ?_
    show Go p e below t s₁ m 4 #[iv i0, iv i1, iv i2, iv i3, .unset, .unset, .unset, .unset, .unset, .unset, .unset, .unset, .unset, .unset] [(.int (i1 % (536870912 : Int32)))]
    refine XS.istore X0.here hx rfl (hb hby at_4) rfl (l' := #[iv i0, iv i1, iv i2, iv i3, iv (nL i1), .unset, .unset, .unset, .unset, .unset, .unset, .unset, .unset, .unset]) rfl ?_
    show Go p e below t s₁ m 6 #[iv i0, iv i1, iv i2, iv i3, iv (nL i1), .unset, .unset, .unset, .unset, .unset, .unset, .unset, .unset, .unset] []
    refine XS.iloadN X0.here hx rfl (hb hby at_6) rfl ?_
    show Go p e below t s₁ m 7 #[iv i0, iv i1, iv i2, iv i3, iv (nL i1), .unset, .unset, .unset, .unset, .unset, .unset, .unset, .unset, .unset] [(.int i0)]
    refine XS.i2dS X0.here hx rfl (hb hby at_7) rfl rfl ?_
    show Go p e below t s₁ m 8 #[iv i0, iv i1, iv i2, iv i3, iv (nL i1), .unset, .unset, .unset, .unset, .unset, .unset, .unset, .unset, .unset] [(.double (FP.i2d i0))]
    refine XS.iload X0.here hx rfl (hb hby at_8) rfl ?_
    show Go p e below t s₁ m 10 #[iv i0, iv i1, iv i2, iv i3, iv (nL i1), .unset, .unset, .unset, .unset, .unset, .unset, .unset, .unset, .unset] [(.int (nL i1)), (.double (FP.i2d i0))]
    refine XS.i2dS X0.here hx rfl (hb hby at_10) rfl rfl ?_
    show Go p e below t s₁ m 11 #[iv i0, iv i1, iv i2, iv i3, iv (nL i1), .unset, .unset, .unset, .unset, .unset, .unset, .unset, .unset, .unset] [(.double (FP.i2d (nL i1))), (.double (FP.i2d i0))]
    exact k)
  obtain ⟨_, _, ⟨T13, L13, k13, n13⟩, -, X13, ⟨Lc13, hQ13, l13, y13, z13⟩, st13⟩ := Jvm.LawKit.callS X0 hx (y := (⟨"com/example/forager/forager/Limits", "atLeast", "(DD)Z"⟩ : MethodName)) hown (mvT hZ (hw _ (List.mem_of_getElem? (i := 1) rfl))) (mvT hZ (hw _ (List.mem_of_getElem? (i := 2) rfl))) (mvT hZ (hw _ (List.mem_of_getElem? (i := 3) rfl))) (mvT hZ (hw _ (List.mem_of_getElem? (i := 4) rfl))) (by decide) (backOf (W := 0) (rm_al l Z a0 hw [] (FP.i2d i0) (FP.i2d (nL i1))  h0 n0 Z0 (Jvm.Free.Fl.i2d_fin _).noNaN (fun _ => own_nn9 (Jvm.Free.Fl.i2d_fin _)) (fun _ => own_nn10 (Jvm.Free.Fl.i2d_fin _))) hZ (hw _ (List.mem_of_getElem? (i := 4) rfl)) (hw _ (List.mem_of_getElem? (i := 3) rfl)) (by decide) (by decide)) (g := (mkF m 11 #[iv i0, iv i1, iv i2, iv i3, iv (nL i1), .unset, .unset, .unset, .unset, .unset, .unset, .unset, .unset, .unset] [(.double (FP.i2d (nL i1))), (.double (FP.i2d i0))])) rfl (by rw [hml]; rfl) (argsL := [(.double (FP.i2d i0)), (.double (FP.i2d (nL i1)))]) (rest := []) (lenOf pd0 rfl) rfl (by show 2 * 0 + _ ≤ _; exact Nat.le_of_eq rfl) (hb hby at_11) (fun _ _ => ⟨rfl, e0, (by decide : 0 + 0 ≤ _), (by decide : 0 + 0 ≤ _)⟩)
  dsimp only [Pt.U, Pt.locs, Pt.cells, Pt.slots] at X13 l13 y13 z13 st13 hQ13
  subst l13 y13 z13
  obtain ⟨rfl, N13, e13⟩ := hQ13
  have M13 := Fr.app N0 N13
  have g14 : Goes p e below S0 (T13.setTop (mkF m 14 #[iv i0, iv i1, iv i2, iv i3, iv (nL i1), .unset, .unset, .unset, .unset, .unset, .unset, .unset, .unset, .unset] [(.int (f_al (FP.i2d i0) (FP.i2d (nL i1))))])) := fun t k => g12 t (st13 t k)
  have g15 : Goes p e below S0 (T13.setTop (mkF m 17 #[iv i0, iv i1, iv i2, iv i3, iv (nL i1), .unset, .unset, .unset, .unset, .unset, .unset, .unset, .unset, .unset] [(.int (nL i1)), (.int i0), (.int (f_al (FP.i2d i0) (FP.i2d (nL i1))))])) := fun t k => g14 t (by
    refine XS.iloadN X13.here hx rfl (hb hby at_14) rfl ?_
    show Go p e below t T13 m 15 #[iv i0, iv i1, iv i2, iv i3, iv (nL i1), .unset, .unset, .unset, .unset, .unset, .unset, .unset, .unset, .unset] [(.int i0), (.int (f_al (FP.i2d i0) (FP.i2d (nL i1))))]
    refine XS.iload X13.here hx rfl (hb hby at_15) rfl ?_
    show Go p e below t T13 m 17 #[iv i0, iv i1, iv i2, iv i3, iv (nL i1), .unset, .unset, .unset, .unset, .unset, .unset, .unset, .unset, .unset] [(.int (nL i1)), (.int i0), (.int (f_al (FP.i2d i0) (FP.i2d (nL i1))))]
    exact k)
  by_cases h16 : i0 < (nL i1)
  · skip
    have g17 : Goes p e below S0 (T13.setTop (mkF m 64 #[iv i0, iv i1, iv i2, iv i3, iv (nL i1), iv (1 : Int32), iv (nQ i2), iv (nC i3), .val (.long (nM i2)), .second, .unset, .unset, .unset, .unset] [(.int (nQ i2)), (.long ((nC i3).toInt64)), (.long (nM i2))])) := fun t k => g15 t (by
      refine XS.icmpYes X13.here hx rfl (pc0 := 17) (pc' := 24) rfl (hb hby at_17) rfl (XT.ii_lt_t h16) (by decide) (by decide) ?_
      show Go p e below t T13 m 24 #[iv i0, iv i1, iv i2, iv i3, iv (nL i1), .unset, .unset, .unset, .unset, .unset, .unset, .unset, .unset, .unset] [(.int (f_al (FP.i2d i0) (FP.i2d (nL i1))))]
      refine XT.iconstV X13.here hx rfl (0 : Int32) (hb hby at_24) (by decide) ?_
      show Go p e below t T13 m 25 #[iv i0, iv i1, iv i2, iv i3, iv (nL i1), .unset, .unset, .unset, .unset, .unset, .unset, .unset, .unset, .unset] [(.int (0 : Int32)), (.int (f_al (FP.i2d i0) (FP.i2d (nL i1))))]
      refine XS.icmpNo X13.here hx rfl (hb hby at_25) rfl (XT.ii_ne_f (own_e h16)) ?_
      show Go p e below t T13 m 28 #[iv i0, iv i1, iv i2, iv i3, iv (nL i1), .unset, .unset, .unset, .unset, .unset, .unset, .unset, .unset, .unset] []
      refine XT.iconstV X13.here hx rfl (1 : Int32) (hb hby at_28) (by decide) ?_
      show Go p e below t T13 m 29 #[iv i0, iv i1, iv i2, iv i3, iv (nL i1), .unset, .unset, .unset, .unset, .unset, .unset, .unset, .unset, .unset] [(.int (1 : Int32))]
      refine XS.goto X13.here hx rfl (pc0 := 29) (pc' := 33) rfl (hb hby at_29) (by decide) (by decide) ?_
      show Go p e below t T13 m 33 #[iv i0, iv i1, iv i2, iv i3, iv (nL i1), .unset, .unset, .unset, .unset, .unset, .unset, .unset, .unset, .unset] [(.int (1 : Int32))]
      refine XS.istore X13.here hx rfl (hb hby at_33) rfl (l' := #[iv i0, iv i1, iv i2, iv i3, iv (nL i1), iv (1 : Int32), .unset, .unset, .unset, .unset, .unset, .unset, .unset, .unset]) rfl ?_
      show Go p e below t T13 m 35 #[iv i0, iv i1, iv i2, iv i3, iv (nL i1), iv (1 : Int32), .unset, .unset, .unset, .unset, .unset, .unset, .unset, .unset] []
      refine XS.iloadN X13.here hx rfl (hb hby at_35) rfl ?_
      show Go p e below t T13 m 36 #[iv i0, iv i1, iv i2, iv i3, iv (nL i1), iv (1 : Int32), .unset, .unset, .unset, .unset, .unset, .unset, .unset, .unset] [(.int i2)]
      refine XT.sipushV X13.here hx rfl (4096 : Int32) (hb hby at_36) (by decide) ?_
      show Go p e below t T13 m 39 #[iv i0, iv i1, iv i2, iv i3, iv (nL i1), iv (1 : Int32), .unset, .unset, .unset, .unset, .unset, .unset, .unset, .unset] [(.int (4096 : Int32)), (.int i2)]
      refine iremM X13 hx rfl (hb hby at_39) rfl (by decide) ?_
      show Go p e below t T13 m 40 #[iv i0, iv i1, iv i2, iv i3, iv (nL i1), iv (1 : Int32), .unset, .unset, .unset, .unset, .unset, .unset, .unset, .unset] [(.int (i2 % (4096 : Int32)))]
      refine XS.istore X13.here hx rfl (hb hby at_40) rfl (l' := #[iv i0, iv i1, iv i2, iv i3, iv (nL i1), iv (1 : Int32), iv (nQ i2), .unset, .unset, .unset, .unset, .unset, .unset, .unset]) rfl ?_
      show Go p e below t T13 m 42 #[iv i0, iv i1, iv i2, iv i3, iv (nL i1), iv (1 : Int32), iv (nQ i2), .unset, .unset, .unset, .unset, .unset, .unset, .unset] []
      refine XS.iloadN X13.here hx rfl (hb hby at_42) rfl ?_
      show Go p e below t T13 m 43 #[iv i0, iv i1, iv i2, iv i3, iv (nL i1), iv (1 : Int32), iv (nQ i2), .unset, .unset, .unset, .unset, .unset, .unset, .unset] [(.int i3)]
      refine XT.bipushV X13.here hx rfl (32 : Int32) (hb hby at_43) (by decide) ?_
      show Go p e below t T13 m 45 #[iv i0, iv i1, iv i2, iv i3, iv (nL i1), iv (1 : Int32), iv (nQ i2), .unset, .unset, .unset, .unset, .unset, .unset, .unset] [(.int (32 : Int32)), (.int i3)]
      refine iremM X13 hx rfl (hb hby at_45) rfl (by decide) ?_
      show Go p e below t T13 m 46 #[iv i0, iv i1, iv i2, iv i3, iv (nL i1), iv (1 : Int32), iv (nQ i2), .unset, .unset, .unset, .unset, .unset, .unset, .unset] [(.int (i3 % (32 : Int32)))]
      refine XS.istore X13.here hx rfl (hb hby at_46) rfl (l' := #[iv i0, iv i1, iv i2, iv i3, iv (nL i1), iv (1 : Int32), iv (nQ i2), iv (nC i3), .unset, .unset, .unset, .unset, .unset, .unset]) rfl ?_
      show Go p e below t T13 m 48 #[iv i0, iv i1, iv i2, iv i3, iv (nL i1), iv (1 : Int32), iv (nQ i2), iv (nC i3), .unset, .unset, .unset, .unset, .unset, .unset] []
      refine XS.iload X13.here hx rfl (hb hby at_48) rfl ?_
      show Go p e below t T13 m 50 #[iv i0, iv i1, iv i2, iv i3, iv (nL i1), iv (1 : Int32), iv (nQ i2), iv (nC i3), .unset, .unset, .unset, .unset, .unset, .unset] [(.int (nQ i2))]
      refine XS.i2l X13.here hx rfl (hb hby at_50) rfl ?_
      show Go p e below t T13 m 51 #[iv i0, iv i1, iv i2, iv i3, iv (nL i1), iv (1 : Int32), iv (nQ i2), iv (nC i3), .unset, .unset, .unset, .unset, .unset, .unset] [(.long ((nQ i2).toInt64))]
      refine Jvm.Stand.ldc2J X13 hx hown (mvT hZ (hw _ (List.mem_of_getElem? (i := 10) rfl))) (g := (mkF m 51 #[iv i0, iv i1, iv i2, iv i3, iv (nL i1), iv (1 : Int32), iv (nQ i2), iv (nC i3), .unset, .unset, .unset, .unset, .unset, .unset] [(.long ((nQ i2).toInt64))])) rfl (hb hby at_51) ?_
      show Go p e below t T13 m 54 #[iv i0, iv i1, iv i2, iv i3, iv (nL i1), iv (1 : Int32), iv (nQ i2), iv (nC i3), .unset, .unset, .unset, .unset, .unset, .unset] [(.long (17179869184 : Int64)), (.long ((nQ i2).toInt64))]
      refine XS.lmul X13.here hx rfl (hb hby at_54) rfl ?_
      show Go p e below t T13 m 55 #[iv i0, iv i1, iv i2, iv i3, iv (nL i1), iv (1 : Int32), iv (nQ i2), iv (nC i3), .unset, .unset, .unset, .unset, .unset, .unset] [(.long (((nQ i2).toInt64) * (17179869184 : Int64)))]
      refine XS.lstore X13.here hx rfl (hb hby at_55) rfl (l' := #[iv i0, iv i1, iv i2, iv i3, iv (nL i1), iv (1 : Int32), iv (nQ i2), iv (nC i3), .val (.long (nM i2)), .second, .unset, .unset, .unset, .unset]) rfl ?_
      show Go p e below t T13 m 57 #[iv i0, iv i1, iv i2, iv i3, iv (nL i1), iv (1 : Int32), iv (nQ i2), iv (nC i3), .val (.long (nM i2)), .second, .unset, .unset, .unset, .unset] []
      refine XS.lload X13.here hx rfl (hb hby at_57) rfl ?_
      show Go p e below t T13 m 59 #[iv i0, iv i1, iv i2, iv i3, iv (nL i1), iv (1 : Int32), iv (nQ i2), iv (nC i3), .val (.long (nM i2)), .second, .unset, .unset, .unset, .unset] [(.long (nM i2))]
      refine XS.iload X13.here hx rfl (hb hby at_59) rfl ?_
      show Go p e below t T13 m 61 #[iv i0, iv i1, iv i2, iv i3, iv (nL i1), iv (1 : Int32), iv (nQ i2), iv (nC i3), .val (.long (nM i2)), .second, .unset, .unset, .unset, .unset] [(.int (nC i3)), (.long (nM i2))]
      refine XS.i2l X13.here hx rfl (hb hby at_61) rfl ?_
      show Go p e below t T13 m 62 #[iv i0, iv i1, iv i2, iv i3, iv (nL i1), iv (1 : Int32), iv (nQ i2), iv (nC i3), .val (.long (nM i2)), .second, .unset, .unset, .unset, .unset] [(.long ((nC i3).toInt64)), (.long (nM i2))]
      refine XS.iload X13.here hx rfl (hb hby at_62) rfl ?_
      show Go p e below t T13 m 64 #[iv i0, iv i1, iv i2, iv i3, iv (nL i1), iv (1 : Int32), iv (nQ i2), iv (nC i3), .val (.long (nM i2)), .second, .unset, .unset, .unset, .unset] [(.int (nQ i2)), (.long ((nC i3).toInt64)), (.long (nM i2))]
      exact k)
    obtain ⟨_, _, ⟨T18, L18, k18, n18⟩, -, X18, ⟨Lc18, hQ18, l18, y18, z18⟩, st18⟩ := Jvm.LawKit.callS X13 hx (y := (⟨"java/lang/Math", "abs", "(I)I"⟩ : MethodName)) hown (mvT hZ (hw _ (List.mem_of_getElem? (i := 11) rfl))) (mvT hZ (hw _ (List.mem_of_getElem? (i := 12) rfl))) (mvT hZ (hw _ (List.mem_of_getElem? (i := 8) rfl))) (mvT hZ (hw _ (List.mem_of_getElem? (i := 13) rfl))) (by decide) (backOf (W := 4) (rm_ab l Z a0 hw [] (nQ i2)  h0 n0 Z0 ) hZ (hw _ (List.mem_of_getElem? (i := 13) rfl)) (hw _ (List.mem_of_getElem? (i := 8) rfl)) (by decide) (by decide)) (g := (mkF m 64 #[iv i0, iv i1, iv i2, iv i3, iv (nL i1), iv (1 : Int32), iv (nQ i2), iv (nC i3), .val (.long (nM i2)), .second, .unset, .unset, .unset, .unset] [(.int (nQ i2)), (.long ((nC i3).toInt64)), (.long (nM i2))])) rfl (by rw [hml]; rfl) (argsL := [(.int (nQ i2))]) (rest := [(.long ((nC i3).toInt64)), (.long (nM i2))]) (lenOf pd2 rfl) rfl (by show 2 * 0 + _ ≤ _; exact Nat.le_of_eq rfl) (hb hby at_64) (fun _ _ => ⟨rfl, e13, (by decide : 0 + 0 ≤ _), (by decide : 0 + 0 ≤ _)⟩)
    dsimp only [Pt.U, Pt.locs, Pt.cells, Pt.slots] at X18 l18 y18 z18 st18 hQ18
    subst l18 y18 z18
    obtain ⟨rfl, N18, e18⟩ := hQ18
    have M18 := Fr.app M13 N18
    have g19 : Goes p e below S0 (T18.setTop (mkF m 67 #[iv i0, iv i1, iv i2, iv i3, iv (nL i1), iv (1 : Int32), iv (nQ i2), iv (nC i3), .val (.long (nM i2)), .second, .unset, .unset, .unset, .unset] [(.int (f_ab (nQ i2))), (.long ((nC i3).toInt64)), (.long (nM i2))])) := fun t k => g17 t (st18 t k)
    have g20 : Goes p e below S0 (T18.setTop (mkF m 74 #[iv i0, iv i1, iv i2, iv i3, iv (nL i1), iv (1 : Int32), iv (nQ i2), iv (nC i3), .val (.long (nM i2)), .second, .val (.long (nV i2 i3)), .second, .unset, .unset] [(.int (nQ i2))])) := fun t k => g19 t (by
      refine XS.i2l X18.here hx rfl (hb hby at_67) rfl ?_
      show Go p e below t T18 m 68 #[iv i0, iv i1, iv i2, iv i3, iv (nL i1), iv (1 : Int32), iv (nQ i2), iv (nC i3), .val (.long (nM i2)), .second, .unset, .unset, .unset, .unset] [(.long ((f_ab (nQ i2)).toInt64)), (.long ((nC i3).toInt64)), (.long (nM i2))]
      refine XS.lmul X18.here hx rfl (hb hby at_68) rfl ?_
      show Go p e below t T18 m 69 #[iv i0, iv i1, iv i2, iv i3, iv (nL i1), iv (1 : Int32), iv (nQ i2), iv (nC i3), .val (.long (nM i2)), .second, .unset, .unset, .unset, .unset] [(.long (((nC i3).toInt64) * ((f_ab (nQ i2)).toInt64))), (.long (nM i2))]
      refine XS.ladd X18.here hx rfl (hb hby at_69) rfl ?_
      show Go p e below t T18 m 70 #[iv i0, iv i1, iv i2, iv i3, iv (nL i1), iv (1 : Int32), iv (nQ i2), iv (nC i3), .val (.long (nM i2)), .second, .unset, .unset, .unset, .unset] [(.long ((nM i2) + (((nC i3).toInt64) * ((f_ab (nQ i2)).toInt64))))]
      refine XS.lstore X18.here hx rfl (hb hby at_70) rfl (l' := #[iv i0, iv i1, iv i2, iv i3, iv (nL i1), iv (1 : Int32), iv (nQ i2), iv (nC i3), .val (.long (nM i2)), .second, .val (.long (nV i2 i3)), .second, .unset, .unset]) rfl ?_
      show Go p e below t T18 m 72 #[iv i0, iv i1, iv i2, iv i3, iv (nL i1), iv (1 : Int32), iv (nQ i2), iv (nC i3), .val (.long (nM i2)), .second, .val (.long (nV i2 i3)), .second, .unset, .unset] []
      refine XS.iload X18.here hx rfl (hb hby at_72) rfl ?_
      show Go p e below t T18 m 74 #[iv i0, iv i1, iv i2, iv i3, iv (nL i1), iv (1 : Int32), iv (nQ i2), iv (nC i3), .val (.long (nM i2)), .second, .val (.long (nV i2 i3)), .second, .unset, .unset] [(.int (nQ i2))]
      exact k)
    by_cases h21 : (nQ i2) = 0
    · skip
      have g22 : Goes p e below S0 (T18.setTop (mkF m 97 #[iv i0, iv i1, iv i2, iv i3, iv (nL i1), iv (1 : Int32), iv (nQ i2), iv (nC i3), .val (.long (nM i2)), .second, .val (.long (nV i2 i3)), .second, iv (1 : Int32), .unset] [(.double (FP.l2d (nM i2))), (.double (FP.l2d (nV i2 i3)))])) := fun t k => g20 t (by
        refine XS.ifYes X18.here hx rfl (pc0 := 74) (pc' := 84) rfl (hb hby at_74) rfl (XT.i0_eq_t h21) (by decide) (by decide) ?_
        show Go p e below t T18 m 84 #[iv i0, iv i1, iv i2, iv i3, iv (nL i1), iv (1 : Int32), iv (nQ i2), iv (nC i3), .val (.long (nM i2)), .second, .val (.long (nV i2 i3)), .second, .unset, .unset] []
        refine XT.iconstV X18.here hx rfl (1 : Int32) (hb hby at_84) (by decide) ?_
        show Go p e below t T18 m 85 #[iv i0, iv i1, iv i2, iv i3, iv (nL i1), iv (1 : Int32), iv (nQ i2), iv (nC i3), .val (.long (nM i2)), .second, .val (.long (nV i2 i3)), .second, .unset, .unset] [(.int (1 : Int32))]
        refine XS.goto X18.here hx rfl (pc0 := 85) (pc' := 89) rfl (hb hby at_85) (by decide) (by decide) ?_
        show Go p e below t T18 m 89 #[iv i0, iv i1, iv i2, iv i3, iv (nL i1), iv (1 : Int32), iv (nQ i2), iv (nC i3), .val (.long (nM i2)), .second, .val (.long (nV i2 i3)), .second, .unset, .unset] [(.int (1 : Int32))]
        refine XS.istore X18.here hx rfl (hb hby at_89) rfl (l' := #[iv i0, iv i1, iv i2, iv i3, iv (nL i1), iv (1 : Int32), iv (nQ i2), iv (nC i3), .val (.long (nM i2)), .second, .val (.long (nV i2 i3)), .second, iv (1 : Int32), .unset]) rfl ?_
        show Go p e below t T18 m 91 #[iv i0, iv i1, iv i2, iv i3, iv (nL i1), iv (1 : Int32), iv (nQ i2), iv (nC i3), .val (.long (nM i2)), .second, .val (.long (nV i2 i3)), .second, iv (1 : Int32), .unset] []
        refine XS.lload X18.here hx rfl (hb hby at_91) rfl ?_
        show Go p e below t T18 m 93 #[iv i0, iv i1, iv i2, iv i3, iv (nL i1), iv (1 : Int32), iv (nQ i2), iv (nC i3), .val (.long (nM i2)), .second, .val (.long (nV i2 i3)), .second, iv (1 : Int32), .unset] [(.long (nV i2 i3))]
        refine XS.l2dS X18.here hx rfl (hb hby at_93) rfl rfl ?_
        show Go p e below t T18 m 94 #[iv i0, iv i1, iv i2, iv i3, iv (nL i1), iv (1 : Int32), iv (nQ i2), iv (nC i3), .val (.long (nM i2)), .second, .val (.long (nV i2 i3)), .second, iv (1 : Int32), .unset] [(.double (FP.l2d (nV i2 i3)))]
        refine XS.lload X18.here hx rfl (hb hby at_94) rfl ?_
        show Go p e below t T18 m 96 #[iv i0, iv i1, iv i2, iv i3, iv (nL i1), iv (1 : Int32), iv (nQ i2), iv (nC i3), .val (.long (nM i2)), .second, .val (.long (nV i2 i3)), .second, iv (1 : Int32), .unset] [(.long (nM i2)), (.double (FP.l2d (nV i2 i3)))]
        refine XS.l2dS X18.here hx rfl (hb hby at_96) rfl rfl ?_
        show Go p e below t T18 m 97 #[iv i0, iv i1, iv i2, iv i3, iv (nL i1), iv (1 : Int32), iv (nQ i2), iv (nC i3), .val (.long (nM i2)), .second, .val (.long (nV i2 i3)), .second, iv (1 : Int32), .unset] [(.double (FP.l2d (nM i2))), (.double (FP.l2d (nV i2 i3)))]
        exact k)
      obtain ⟨_, _, ⟨T23, L23, k23, n23⟩, -, X23, ⟨Lc23, hQ23, l23, y23, z23⟩, st23⟩ := Jvm.LawKit.callS X18 hx (y := (⟨"com/example/forager/forager/Limits", "atLeast", "(DD)Z"⟩ : MethodName)) hown (mvT hZ (hw _ (List.mem_of_getElem? (i := 1) rfl))) (mvT hZ (hw _ (List.mem_of_getElem? (i := 2) rfl))) (mvT hZ (hw _ (List.mem_of_getElem? (i := 3) rfl))) (mvT hZ (hw _ (List.mem_of_getElem? (i := 4) rfl))) (by decide) (backOf (W := 0) (rm_al l Z a0 hw [] (FP.l2d (nV i2 i3)) (FP.l2d (nM i2))  h0 n0 Z0 (Jvm.Free.Fl.l2d_fin _).noNaN (fun _ => own_nn9 (Jvm.Free.Fl.l2d_fin _)) (fun _ => own_nn10 (Jvm.Free.Fl.l2d_fin _))) hZ (hw _ (List.mem_of_getElem? (i := 4) rfl)) (hw _ (List.mem_of_getElem? (i := 3) rfl)) (by decide) (by decide)) (g := (mkF m 97 #[iv i0, iv i1, iv i2, iv i3, iv (nL i1), iv (1 : Int32), iv (nQ i2), iv (nC i3), .val (.long (nM i2)), .second, .val (.long (nV i2 i3)), .second, iv (1 : Int32), .unset] [(.double (FP.l2d (nM i2))), (.double (FP.l2d (nV i2 i3)))])) rfl (by rw [hml]; rfl) (argsL := [(.double (FP.l2d (nV i2 i3))), (.double (FP.l2d (nM i2)))]) (rest := []) (lenOf pd0 rfl) rfl (by show 2 * 0 + _ ≤ _; exact Nat.le_of_eq rfl) (hb hby at_97) (fun _ _ => ⟨rfl, e18, (by decide : 0 + 0 ≤ _), (by decide : 0 + 0 ≤ _)⟩)
      dsimp only [Pt.U, Pt.locs, Pt.cells, Pt.slots] at X23 l23 y23 z23 st23 hQ23
      subst l23 y23 z23
      obtain ⟨rfl, N23, e23⟩ := hQ23
      have M23 := Fr.app M18 N23
      have g24 : Goes p e below S0 (T23.setTop (mkF m 100 #[iv i0, iv i1, iv i2, iv i3, iv (nL i1), iv (1 : Int32), iv (nQ i2), iv (nC i3), .val (.long (nM i2)), .second, .val (.long (nV i2 i3)), .second, iv (1 : Int32), .unset] [(.int (f_al (FP.l2d (nV i2 i3)) (FP.l2d (nM i2))))])) := fun t k => g22 t (st23 t k)
      have g25 : Goes p e below S0 (T23.setTop (mkF m 127 #[iv i0, iv i1, iv i2, iv i3, iv (nL i1), iv (1 : Int32), iv (nQ i2), iv (nC i3), .val (.long (nM i2)), .second, .val (.long (nV i2 i3)), .second, iv (1 : Int32), iv (1 : Int32)] [(.int (1 : Int32))])) := fun t k => g24 t (by
        refine XS.iload X23.here hx rfl (hb hby at_100) rfl ?_
        show Go p e below t T23 m 102 #[iv i0, iv i1, iv i2, iv i3, iv (nL i1), iv (1 : Int32), iv (nQ i2), iv (nC i3), .val (.long (nM i2)), .second, .val (.long (nV i2 i3)), .second, iv (1 : Int32), .unset] [(.int (1 : Int32)), (.int (f_al (FP.l2d (nV i2 i3)) (FP.l2d (nM i2))))]
        refine XS.icmpNo X23.here hx rfl (hb hby at_102) rfl (XT.ii_ne_f (own_m0 h21)) ?_
        show Go p e below t T23 m 105 #[iv i0, iv i1, iv i2, iv i3, iv (nL i1), iv (1 : Int32), iv (nQ i2), iv (nC i3), .val (.long (nM i2)), .second, .val (.long (nV i2 i3)), .second, iv (1 : Int32), .unset] []
        refine XT.iconstV X23.here hx rfl (1 : Int32) (hb hby at_105) (by decide) ?_
        show Go p e below t T23 m 106 #[iv i0, iv i1, iv i2, iv i3, iv (nL i1), iv (1 : Int32), iv (nQ i2), iv (nC i3), .val (.long (nM i2)), .second, .val (.long (nV i2 i3)), .second, iv (1 : Int32), .unset] [(.int (1 : Int32))]
        refine XS.goto X23.here hx rfl (pc0 := 106) (pc' := 110) rfl (hb hby at_106) (by decide) (by decide) ?_
        show Go p e below t T23 m 110 #[iv i0, iv i1, iv i2, iv i3, iv (nL i1), iv (1 : Int32), iv (nQ i2), iv (nC i3), .val (.long (nM i2)), .second, .val (.long (nV i2 i3)), .second, iv (1 : Int32), .unset] [(.int (1 : Int32))]
        refine XS.istore X23.here hx rfl (hb hby at_110) rfl (l' := #[iv i0, iv i1, iv i2, iv i3, iv (nL i1), iv (1 : Int32), iv (nQ i2), iv (nC i3), .val (.long (nM i2)), .second, .val (.long (nV i2 i3)), .second, iv (1 : Int32), iv (1 : Int32)]) rfl ?_
        show Go p e below t T23 m 112 #[iv i0, iv i1, iv i2, iv i3, iv (nL i1), iv (1 : Int32), iv (nQ i2), iv (nC i3), .val (.long (nM i2)), .second, .val (.long (nV i2 i3)), .second, iv (1 : Int32), iv (1 : Int32)] []
        refine XS.iload X23.here hx rfl (hb hby at_112) rfl ?_
        show Go p e below t T23 m 114 #[iv i0, iv i1, iv i2, iv i3, iv (nL i1), iv (1 : Int32), iv (nQ i2), iv (nC i3), .val (.long (nM i2)), .second, .val (.long (nV i2 i3)), .second, iv (1 : Int32), iv (1 : Int32)] [(.int (1 : Int32))]
        refine XS.ifNo X23.here hx rfl (hb hby at_114) rfl (XT.i0_eq_f (by decide)) ?_
        show Go p e below t T23 m 117 #[iv i0, iv i1, iv i2, iv i3, iv (nL i1), iv (1 : Int32), iv (nQ i2), iv (nC i3), .val (.long (nM i2)), .second, .val (.long (nV i2 i3)), .second, iv (1 : Int32), iv (1 : Int32)] []
        refine XS.iload X23.here hx rfl (hb hby at_117) rfl ?_
        show Go p e below t T23 m 119 #[iv i0, iv i1, iv i2, iv i3, iv (nL i1), iv (1 : Int32), iv (nQ i2), iv (nC i3), .val (.long (nM i2)), .second, .val (.long (nV i2 i3)), .second, iv (1 : Int32), iv (1 : Int32)] [(.int (1 : Int32))]
        refine XS.ifNo X23.here hx rfl (hb hby at_119) rfl (XT.i0_eq_f (by decide)) ?_
        show Go p e below t T23 m 122 #[iv i0, iv i1, iv i2, iv i3, iv (nL i1), iv (1 : Int32), iv (nQ i2), iv (nC i3), .val (.long (nM i2)), .second, .val (.long (nV i2 i3)), .second, iv (1 : Int32), iv (1 : Int32)] []
        refine XT.iconstV X23.here hx rfl (1 : Int32) (hb hby at_122) (by decide) ?_
        show Go p e below t T23 m 123 #[iv i0, iv i1, iv i2, iv i3, iv (nL i1), iv (1 : Int32), iv (nQ i2), iv (nC i3), .val (.long (nM i2)), .second, .val (.long (nV i2 i3)), .second, iv (1 : Int32), iv (1 : Int32)] [(.int (1 : Int32))]
        refine XS.goto X23.here hx rfl (pc0 := 123) (pc' := 127) rfl (hb hby at_123) (by decide) (by decide) ?_
        show Go p e below t T23 m 127 #[iv i0, iv i1, iv i2, iv i3, iv (nL i1), iv (1 : Int32), iv (nQ i2), iv (nC i3), .val (.long (nM i2)), .second, .val (.long (nV i2 i3)), .second, iv (1 : Int32), iv (1 : Int32)] [(.int (1 : Int32))]
        exact k)
      obtain ⟨fs, hr, hrun, hended, hW, hsame⟩ := X23.leave (v := some (.int (1 : Int32))) (fun h => by rw [Bd.returns] at h; cases h)
      refine ⟨_, _, g25 _ (retN X23 hx (t := .boolean) Bd.returns (by simp) (hb hby at_127) hr), hrun, hended, _, _, rfl, ?_, ⟨_, rfl⟩, hW, hsame.mono (by decide) (by decide)⟩
      show Q_law Z i0 i1 i2 i3  h0 n0 _ T23.heap _
      rw [e23]
      exact ⟨by unfold f_law; rw [if_pos h16, if_pos h21], M23⟩
    · skip
      have g26 : Goes p e below S0 (T18.setTop (mkF m 81 #[iv i0, iv i1, iv i2, iv i3, iv (nL i1), iv (1 : Int32), iv (nQ i2), iv (nC i3), .val (.long (nM i2)), .second, .val (.long (nV i2 i3)), .second, .unset, .unset] [(.int (-17 : Int32)), (.int (nC i3))])) := fun t k => g20 t (by
        refine XS.ifNo X18.here hx rfl (hb hby at_74) rfl (XT.i0_eq_f h21) ?_
        show Go p e below t T18 m 77 #[iv i0, iv i1, iv i2, iv i3, iv (nL i1), iv (1 : Int32), iv (nQ i2), iv (nC i3), .val (.long (nM i2)), .second, .val (.long (nV i2 i3)), .second, .unset, .unset] []
        refine XS.iload X18.here hx rfl (hb hby at_77) rfl ?_
        show Go p e below t T18 m 79 #[iv i0, iv i1, iv i2, iv i3, iv (nL i1), iv (1 : Int32), iv (nQ i2), iv (nC i3), .val (.long (nM i2)), .second, .val (.long (nV i2 i3)), .second, .unset, .unset] [(.int (nC i3))]
        refine XT.bipushV X18.here hx rfl (-17 : Int32) (hb hby at_79) (by decide) ?_
        show Go p e below t T18 m 81 #[iv i0, iv i1, iv i2, iv i3, iv (nL i1), iv (1 : Int32), iv (nQ i2), iv (nC i3), .val (.long (nM i2)), .second, .val (.long (nV i2 i3)), .second, .unset, .unset] [(.int (-17 : Int32)), (.int (nC i3))]
        exact k)
      by_cases h27 : (nC i3) < (-17 : Int32)
      · skip
        have g28 : Goes p e below S0 (T18.setTop (mkF m 97 #[iv i0, iv i1, iv i2, iv i3, iv (nL i1), iv (1 : Int32), iv (nQ i2), iv (nC i3), .val (.long (nM i2)), .second, .val (.long (nV i2 i3)), .second, iv (0 : Int32), .unset] [(.double (FP.l2d (nM i2))), (.double (FP.l2d (nV i2 i3)))])) := fun t k => g26 t (by
          refine XS.icmpYes X18.here hx rfl (pc0 := 81) (pc' := 88) rfl (hb hby at_81) rfl (XT.ii_lt_t h27) (by decide) (by decide) ?_
          show Go p e below t T18 m 88 #[iv i0, iv i1, iv i2, iv i3, iv (nL i1), iv (1 : Int32), iv (nQ i2), iv (nC i3), .val (.long (nM i2)), .second, .val (.long (nV i2 i3)), .second, .unset, .unset] []
          refine XT.iconstV X18.here hx rfl (0 : Int32) (hb hby at_88) (by decide) ?_
          show Go p e below t T18 m 89 #[iv i0, iv i1, iv i2, iv i3, iv (nL i1), iv (1 : Int32), iv (nQ i2), iv (nC i3), .val (.long (nM i2)), .second, .val (.long (nV i2 i3)), .second, .unset, .unset] [(.int (0 : Int32))]
          refine XS.istore X18.here hx rfl (hb hby at_89) rfl (l' := #[iv i0, iv i1, iv i2, iv i3, iv (nL i1), iv (1 : Int32), iv (nQ i2), iv (nC i3), .val (.long (nM i2)), .second, .val (.long (nV i2 i3)), .second, iv (0 : Int32), .unset]) rfl ?_
          show Go p e below t T18 m 91 #[iv i0, iv i1, iv i2, iv i3, iv (nL i1), iv (1 : Int32), iv (nQ i2), iv (nC i3), .val (.long (nM i2)), .second, .val (.long (nV i2 i3)), .second, iv (0 : Int32), .unset] []
          refine XS.lload X18.here hx rfl (hb hby at_91) rfl ?_
          show Go p e below t T18 m 93 #[iv i0, iv i1, iv i2, iv i3, iv (nL i1), iv (1 : Int32), iv (nQ i2), iv (nC i3), .val (.long (nM i2)), .second, .val (.long (nV i2 i3)), .second, iv (0 : Int32), .unset] [(.long (nV i2 i3))]
          refine XS.l2dS X18.here hx rfl (hb hby at_93) rfl rfl ?_
          show Go p e below t T18 m 94 #[iv i0, iv i1, iv i2, iv i3, iv (nL i1), iv (1 : Int32), iv (nQ i2), iv (nC i3), .val (.long (nM i2)), .second, .val (.long (nV i2 i3)), .second, iv (0 : Int32), .unset] [(.double (FP.l2d (nV i2 i3)))]
          refine XS.lload X18.here hx rfl (hb hby at_94) rfl ?_
          show Go p e below t T18 m 96 #[iv i0, iv i1, iv i2, iv i3, iv (nL i1), iv (1 : Int32), iv (nQ i2), iv (nC i3), .val (.long (nM i2)), .second, .val (.long (nV i2 i3)), .second, iv (0 : Int32), .unset] [(.long (nM i2)), (.double (FP.l2d (nV i2 i3)))]
          refine XS.l2dS X18.here hx rfl (hb hby at_96) rfl rfl ?_
          show Go p e below t T18 m 97 #[iv i0, iv i1, iv i2, iv i3, iv (nL i1), iv (1 : Int32), iv (nQ i2), iv (nC i3), .val (.long (nM i2)), .second, .val (.long (nV i2 i3)), .second, iv (0 : Int32), .unset] [(.double (FP.l2d (nM i2))), (.double (FP.l2d (nV i2 i3)))]
          exact k)
        obtain ⟨_, _, ⟨T29, L29, k29, n29⟩, -, X29, ⟨Lc29, hQ29, l29, y29, z29⟩, st29⟩ := Jvm.LawKit.callS X18 hx (y := (⟨"com/example/forager/forager/Limits", "atLeast", "(DD)Z"⟩ : MethodName)) hown (mvT hZ (hw _ (List.mem_of_getElem? (i := 1) rfl))) (mvT hZ (hw _ (List.mem_of_getElem? (i := 2) rfl))) (mvT hZ (hw _ (List.mem_of_getElem? (i := 3) rfl))) (mvT hZ (hw _ (List.mem_of_getElem? (i := 4) rfl))) (by decide) (backOf (W := 0) (rm_al l Z a0 hw [] (FP.l2d (nV i2 i3)) (FP.l2d (nM i2))  h0 n0 Z0 (Jvm.Free.Fl.l2d_fin _).noNaN (fun _ => own_nn9 (Jvm.Free.Fl.l2d_fin _)) (fun _ => own_nn10 (Jvm.Free.Fl.l2d_fin _))) hZ (hw _ (List.mem_of_getElem? (i := 4) rfl)) (hw _ (List.mem_of_getElem? (i := 3) rfl)) (by decide) (by decide)) (g := (mkF m 97 #[iv i0, iv i1, iv i2, iv i3, iv (nL i1), iv (1 : Int32), iv (nQ i2), iv (nC i3), .val (.long (nM i2)), .second, .val (.long (nV i2 i3)), .second, iv (0 : Int32), .unset] [(.double (FP.l2d (nM i2))), (.double (FP.l2d (nV i2 i3)))])) rfl (by rw [hml]; rfl) (argsL := [(.double (FP.l2d (nV i2 i3))), (.double (FP.l2d (nM i2)))]) (rest := []) (lenOf pd0 rfl) rfl (by show 2 * 0 + _ ≤ _; exact Nat.le_of_eq rfl) (hb hby at_97) (fun _ _ => ⟨rfl, e18, (by decide : 0 + 0 ≤ _), (by decide : 0 + 0 ≤ _)⟩)
        dsimp only [Pt.U, Pt.locs, Pt.cells, Pt.slots] at X29 l29 y29 z29 st29 hQ29
        subst l29 y29 z29
        obtain ⟨rfl, N29, e29⟩ := hQ29
        have M29 := Fr.app M18 N29
        have g30 : Goes p e below S0 (T29.setTop (mkF m 100 #[iv i0, iv i1, iv i2, iv i3, iv (nL i1), iv (1 : Int32), iv (nQ i2), iv (nC i3), .val (.long (nM i2)), .second, .val (.long (nV i2 i3)), .second, iv (0 : Int32), .unset] [(.int (f_al (FP.l2d (nV i2 i3)) (FP.l2d (nM i2))))])) := fun t k => g28 t (st29 t k)
        have g31 : Goes p e below S0 (T29.setTop (mkF m 127 #[iv i0, iv i1, iv i2, iv i3, iv (nL i1), iv (1 : Int32), iv (nQ i2), iv (nC i3), .val (.long (nM i2)), .second, .val (.long (nV i2 i3)), .second, iv (0 : Int32), iv (1 : Int32)] [(.int (1 : Int32))])) := fun t k => g30 t (by
          refine XS.iload X29.here hx rfl (hb hby at_100) rfl ?_
          show Go p e below t T29 m 102 #[iv i0, iv i1, iv i2, iv i3, iv (nL i1), iv (1 : Int32), iv (nQ i2), iv (nC i3), .val (.long (nM i2)), .second, .val (.long (nV i2 i3)), .second, iv (0 : Int32), .unset] [(.int (0 : Int32)), (.int (f_al (FP.l2d (nV i2 i3)) (FP.l2d (nM i2))))]
          refine XS.icmpNo X29.here hx rfl (hb hby at_102) rfl (XT.ii_ne_f (own_m1 h21 h27)) ?_
          show Go p e below t T29 m 105 #[iv i0, iv i1, iv i2, iv i3, iv (nL i1), iv (1 : Int32), iv (nQ i2), iv (nC i3), .val (.long (nM i2)), .second, .val (.long (nV i2 i3)), .second, iv (0 : Int32), .unset] []
          refine XT.iconstV X29.here hx rfl (1 : Int32) (hb hby at_105) (by decide) ?_
          show Go p e below t T29 m 106 #[iv i0, iv i1, iv i2, iv i3, iv (nL i1), iv (1 : Int32), iv (nQ i2), iv (nC i3), .val (.long (nM i2)), .second, .val (.long (nV i2 i3)), .second, iv (0 : Int32), .unset] [(.int (1 : Int32))]
          refine XS.goto X29.here hx rfl (pc0 := 106) (pc' := 110) rfl (hb hby at_106) (by decide) (by decide) ?_
          show Go p e below t T29 m 110 #[iv i0, iv i1, iv i2, iv i3, iv (nL i1), iv (1 : Int32), iv (nQ i2), iv (nC i3), .val (.long (nM i2)), .second, .val (.long (nV i2 i3)), .second, iv (0 : Int32), .unset] [(.int (1 : Int32))]
          refine XS.istore X29.here hx rfl (hb hby at_110) rfl (l' := #[iv i0, iv i1, iv i2, iv i3, iv (nL i1), iv (1 : Int32), iv (nQ i2), iv (nC i3), .val (.long (nM i2)), .second, .val (.long (nV i2 i3)), .second, iv (0 : Int32), iv (1 : Int32)]) rfl ?_
          show Go p e below t T29 m 112 #[iv i0, iv i1, iv i2, iv i3, iv (nL i1), iv (1 : Int32), iv (nQ i2), iv (nC i3), .val (.long (nM i2)), .second, .val (.long (nV i2 i3)), .second, iv (0 : Int32), iv (1 : Int32)] []
          refine XS.iload X29.here hx rfl (hb hby at_112) rfl ?_
          show Go p e below t T29 m 114 #[iv i0, iv i1, iv i2, iv i3, iv (nL i1), iv (1 : Int32), iv (nQ i2), iv (nC i3), .val (.long (nM i2)), .second, .val (.long (nV i2 i3)), .second, iv (0 : Int32), iv (1 : Int32)] [(.int (1 : Int32))]
          refine XS.ifNo X29.here hx rfl (hb hby at_114) rfl (XT.i0_eq_f (by decide)) ?_
          show Go p e below t T29 m 117 #[iv i0, iv i1, iv i2, iv i3, iv (nL i1), iv (1 : Int32), iv (nQ i2), iv (nC i3), .val (.long (nM i2)), .second, .val (.long (nV i2 i3)), .second, iv (0 : Int32), iv (1 : Int32)] []
          refine XS.iload X29.here hx rfl (hb hby at_117) rfl ?_
          show Go p e below t T29 m 119 #[iv i0, iv i1, iv i2, iv i3, iv (nL i1), iv (1 : Int32), iv (nQ i2), iv (nC i3), .val (.long (nM i2)), .second, .val (.long (nV i2 i3)), .second, iv (0 : Int32), iv (1 : Int32)] [(.int (1 : Int32))]
          refine XS.ifNo X29.here hx rfl (hb hby at_119) rfl (XT.i0_eq_f (by decide)) ?_
          show Go p e below t T29 m 122 #[iv i0, iv i1, iv i2, iv i3, iv (nL i1), iv (1 : Int32), iv (nQ i2), iv (nC i3), .val (.long (nM i2)), .second, .val (.long (nV i2 i3)), .second, iv (0 : Int32), iv (1 : Int32)] []
          refine XT.iconstV X29.here hx rfl (1 : Int32) (hb hby at_122) (by decide) ?_
          show Go p e below t T29 m 123 #[iv i0, iv i1, iv i2, iv i3, iv (nL i1), iv (1 : Int32), iv (nQ i2), iv (nC i3), .val (.long (nM i2)), .second, .val (.long (nV i2 i3)), .second, iv (0 : Int32), iv (1 : Int32)] [(.int (1 : Int32))]
          refine XS.goto X29.here hx rfl (pc0 := 123) (pc' := 127) rfl (hb hby at_123) (by decide) (by decide) ?_
          show Go p e below t T29 m 127 #[iv i0, iv i1, iv i2, iv i3, iv (nL i1), iv (1 : Int32), iv (nQ i2), iv (nC i3), .val (.long (nM i2)), .second, .val (.long (nV i2 i3)), .second, iv (0 : Int32), iv (1 : Int32)] [(.int (1 : Int32))]
          exact k)
        obtain ⟨fs, hr, hrun, hended, hW, hsame⟩ := X29.leave (v := some (.int (1 : Int32))) (fun h => by rw [Bd.returns] at h; cases h)
        refine ⟨_, _, g31 _ (retN X29 hx (t := .boolean) Bd.returns (by simp) (hb hby at_127) hr), hrun, hended, _, _, rfl, ?_, ⟨_, rfl⟩, hW, hsame.mono (by decide) (by decide)⟩
        show Q_law Z i0 i1 i2 i3  h0 n0 _ T29.heap _
        rw [e29]
        exact ⟨by unfold f_law; rw [if_pos h16, if_neg h21, if_pos h27], M29⟩
      · skip
        have g32 : Goes p e below S0 (T18.setTop (mkF m 97 #[iv i0, iv i1, iv i2, iv i3, iv (nL i1), iv (1 : Int32), iv (nQ i2), iv (nC i3), .val (.long (nM i2)), .second, .val (.long (nV i2 i3)), .second, iv (1 : Int32), .unset] [(.double (FP.l2d (nM i2))), (.double (FP.l2d (nV i2 i3)))])) := fun t k => g26 t (by
          refine XS.icmpNo X18.here hx rfl (hb hby at_81) rfl (XT.ii_lt_f h27) ?_
          show Go p e below t T18 m 84 #[iv i0, iv i1, iv i2, iv i3, iv (nL i1), iv (1 : Int32), iv (nQ i2), iv (nC i3), .val (.long (nM i2)), .second, .val (.long (nV i2 i3)), .second, .unset, .unset] []
          refine XT.iconstV X18.here hx rfl (1 : Int32) (hb hby at_84) (by decide) ?_
          show Go p e below t T18 m 85 #[iv i0, iv i1, iv i2, iv i3, iv (nL i1), iv (1 : Int32), iv (nQ i2), iv (nC i3), .val (.long (nM i2)), .second, .val (.long (nV i2 i3)), .second, .unset, .unset] [(.int (1 : Int32))]
          refine XS.goto X18.here hx rfl (pc0 := 85) (pc' := 89) rfl (hb hby at_85) (by decide) (by decide) ?_
          show Go p e below t T18 m 89 #[iv i0, iv i1, iv i2, iv i3, iv (nL i1), iv (1 : Int32), iv (nQ i2), iv (nC i3), .val (.long (nM i2)), .second, .val (.long (nV i2 i3)), .second, .unset, .unset] [(.int (1 : Int32))]
          refine XS.istore X18.here hx rfl (hb hby at_89) rfl (l' := #[iv i0, iv i1, iv i2, iv i3, iv (nL i1), iv (1 : Int32), iv (nQ i2), iv (nC i3), .val (.long (nM i2)), .second, .val (.long (nV i2 i3)), .second, iv (1 : Int32), .unset]) rfl ?_
          show Go p e below t T18 m 91 #[iv i0, iv i1, iv i2, iv i3, iv (nL i1), iv (1 : Int32), iv (nQ i2), iv (nC i3), .val (.long (nM i2)), .second, .val (.long (nV i2 i3)), .second, iv (1 : Int32), .unset] []
          refine XS.lload X18.here hx rfl (hb hby at_91) rfl ?_
          show Go p e below t T18 m 93 #[iv i0, iv i1, iv i2, iv i3, iv (nL i1), iv (1 : Int32), iv (nQ i2), iv (nC i3), .val (.long (nM i2)), .second, .val (.long (nV i2 i3)), .second, iv (1 : Int32), .unset] [(.long (nV i2 i3))]
          refine XS.l2dS X18.here hx rfl (hb hby at_93) rfl rfl ?_
          show Go p e below t T18 m 94 #[iv i0, iv i1, iv i2, iv i3, iv (nL i1), iv (1 : Int32), iv (nQ i2), iv (nC i3), .val (.long (nM i2)), .second, .val (.long (nV i2 i3)), .second, iv (1 : Int32), .unset] [(.double (FP.l2d (nV i2 i3)))]
          refine XS.lload X18.here hx rfl (hb hby at_94) rfl ?_
          show Go p e below t T18 m 96 #[iv i0, iv i1, iv i2, iv i3, iv (nL i1), iv (1 : Int32), iv (nQ i2), iv (nC i3), .val (.long (nM i2)), .second, .val (.long (nV i2 i3)), .second, iv (1 : Int32), .unset] [(.long (nM i2)), (.double (FP.l2d (nV i2 i3)))]
          refine XS.l2dS X18.here hx rfl (hb hby at_96) rfl rfl ?_
          show Go p e below t T18 m 97 #[iv i0, iv i1, iv i2, iv i3, iv (nL i1), iv (1 : Int32), iv (nQ i2), iv (nC i3), .val (.long (nM i2)), .second, .val (.long (nV i2 i3)), .second, iv (1 : Int32), .unset] [(.double (FP.l2d (nM i2))), (.double (FP.l2d (nV i2 i3)))]
          exact k)
        obtain ⟨_, _, ⟨T33, L33, k33, n33⟩, -, X33, ⟨Lc33, hQ33, l33, y33, z33⟩, st33⟩ := Jvm.LawKit.callS X18 hx (y := (⟨"com/example/forager/forager/Limits", "atLeast", "(DD)Z"⟩ : MethodName)) hown (mvT hZ (hw _ (List.mem_of_getElem? (i := 1) rfl))) (mvT hZ (hw _ (List.mem_of_getElem? (i := 2) rfl))) (mvT hZ (hw _ (List.mem_of_getElem? (i := 3) rfl))) (mvT hZ (hw _ (List.mem_of_getElem? (i := 4) rfl))) (by decide) (backOf (W := 0) (rm_al l Z a0 hw [] (FP.l2d (nV i2 i3)) (FP.l2d (nM i2))  h0 n0 Z0 (Jvm.Free.Fl.l2d_fin _).noNaN (fun _ => own_nn9 (Jvm.Free.Fl.l2d_fin _)) (fun _ => own_nn10 (Jvm.Free.Fl.l2d_fin _))) hZ (hw _ (List.mem_of_getElem? (i := 4) rfl)) (hw _ (List.mem_of_getElem? (i := 3) rfl)) (by decide) (by decide)) (g := (mkF m 97 #[iv i0, iv i1, iv i2, iv i3, iv (nL i1), iv (1 : Int32), iv (nQ i2), iv (nC i3), .val (.long (nM i2)), .second, .val (.long (nV i2 i3)), .second, iv (1 : Int32), .unset] [(.double (FP.l2d (nM i2))), (.double (FP.l2d (nV i2 i3)))])) rfl (by rw [hml]; rfl) (argsL := [(.double (FP.l2d (nV i2 i3))), (.double (FP.l2d (nM i2)))]) (rest := []) (lenOf pd0 rfl) rfl (by show 2 * 0 + _ ≤ _; exact Nat.le_of_eq rfl) (hb hby at_97) (fun _ _ => ⟨rfl, e18, (by decide : 0 + 0 ≤ _), (by decide : 0 + 0 ≤ _)⟩)
        dsimp only [Pt.U, Pt.locs, Pt.cells, Pt.slots] at X33 l33 y33 z33 st33 hQ33
        subst l33 y33 z33
        obtain ⟨rfl, N33, e33⟩ := hQ33
        have M33 := Fr.app M18 N33
        have g34 : Goes p e below S0 (T33.setTop (mkF m 100 #[iv i0, iv i1, iv i2, iv i3, iv (nL i1), iv (1 : Int32), iv (nQ i2), iv (nC i3), .val (.long (nM i2)), .second, .val (.long (nV i2 i3)), .second, iv (1 : Int32), .unset] [(.int (f_al (FP.l2d (nV i2 i3)) (FP.l2d (nM i2))))])) := fun t k => g32 t (st33 t k)
        have g35 : Goes p e below S0 (T33.setTop (mkF m 127 #[iv i0, iv i1, iv i2, iv i3, iv (nL i1), iv (1 : Int32), iv (nQ i2), iv (nC i3), .val (.long (nM i2)), .second, .val (.long (nV i2 i3)), .second, iv (1 : Int32), iv (1 : Int32)] [(.int (1 : Int32))])) := fun t k => g34 t (by
          refine XS.iload X33.here hx rfl (hb hby at_100) rfl ?_
          show Go p e below t T33 m 102 #[iv i0, iv i1, iv i2, iv i3, iv (nL i1), iv (1 : Int32), iv (nQ i2), iv (nC i3), .val (.long (nM i2)), .second, .val (.long (nV i2 i3)), .second, iv (1 : Int32), .unset] [(.int (1 : Int32)), (.int (f_al (FP.l2d (nV i2 i3)) (FP.l2d (nM i2))))]
          refine XS.icmpNo X33.here hx rfl (hb hby at_102) rfl (XT.ii_ne_f (own_m2 h21 h27)) ?_
          show Go p e below t T33 m 105 #[iv i0, iv i1, iv i2, iv i3, iv (nL i1), iv (1 : Int32), iv (nQ i2), iv (nC i3), .val (.long (nM i2)), .second, .val (.long (nV i2 i3)), .second, iv (1 : Int32), .unset] []
          refine XT.iconstV X33.here hx rfl (1 : Int32) (hb hby at_105) (by decide) ?_
          show Go p e below t T33 m 106 #[iv i0, iv i1, iv i2, iv i3, iv (nL i1), iv (1 : Int32), iv (nQ i2), iv (nC i3), .val (.long (nM i2)), .second, .val (.long (nV i2 i3)), .second, iv (1 : Int32), .unset] [(.int (1 : Int32))]
          refine XS.goto X33.here hx rfl (pc0 := 106) (pc' := 110) rfl (hb hby at_106) (by decide) (by decide) ?_
          show Go p e below t T33 m 110 #[iv i0, iv i1, iv i2, iv i3, iv (nL i1), iv (1 : Int32), iv (nQ i2), iv (nC i3), .val (.long (nM i2)), .second, .val (.long (nV i2 i3)), .second, iv (1 : Int32), .unset] [(.int (1 : Int32))]
          refine XS.istore X33.here hx rfl (hb hby at_110) rfl (l' := #[iv i0, iv i1, iv i2, iv i3, iv (nL i1), iv (1 : Int32), iv (nQ i2), iv (nC i3), .val (.long (nM i2)), .second, .val (.long (nV i2 i3)), .second, iv (1 : Int32), iv (1 : Int32)]) rfl ?_
          show Go p e below t T33 m 112 #[iv i0, iv i1, iv i2, iv i3, iv (nL i1), iv (1 : Int32), iv (nQ i2), iv (nC i3), .val (.long (nM i2)), .second, .val (.long (nV i2 i3)), .second, iv (1 : Int32), iv (1 : Int32)] []
          refine XS.iload X33.here hx rfl (hb hby at_112) rfl ?_
          show Go p e below t T33 m 114 #[iv i0, iv i1, iv i2, iv i3, iv (nL i1), iv (1 : Int32), iv (nQ i2), iv (nC i3), .val (.long (nM i2)), .second, .val (.long (nV i2 i3)), .second, iv (1 : Int32), iv (1 : Int32)] [(.int (1 : Int32))]
          refine XS.ifNo X33.here hx rfl (hb hby at_114) rfl (XT.i0_eq_f (by decide)) ?_
          show Go p e below t T33 m 117 #[iv i0, iv i1, iv i2, iv i3, iv (nL i1), iv (1 : Int32), iv (nQ i2), iv (nC i3), .val (.long (nM i2)), .second, .val (.long (nV i2 i3)), .second, iv (1 : Int32), iv (1 : Int32)] []
          refine XS.iload X33.here hx rfl (hb hby at_117) rfl ?_
          show Go p e below t T33 m 119 #[iv i0, iv i1, iv i2, iv i3, iv (nL i1), iv (1 : Int32), iv (nQ i2), iv (nC i3), .val (.long (nM i2)), .second, .val (.long (nV i2 i3)), .second, iv (1 : Int32), iv (1 : Int32)] [(.int (1 : Int32))]
          refine XS.ifNo X33.here hx rfl (hb hby at_119) rfl (XT.i0_eq_f (by decide)) ?_
          show Go p e below t T33 m 122 #[iv i0, iv i1, iv i2, iv i3, iv (nL i1), iv (1 : Int32), iv (nQ i2), iv (nC i3), .val (.long (nM i2)), .second, .val (.long (nV i2 i3)), .second, iv (1 : Int32), iv (1 : Int32)] []
          refine XT.iconstV X33.here hx rfl (1 : Int32) (hb hby at_122) (by decide) ?_
          show Go p e below t T33 m 123 #[iv i0, iv i1, iv i2, iv i3, iv (nL i1), iv (1 : Int32), iv (nQ i2), iv (nC i3), .val (.long (nM i2)), .second, .val (.long (nV i2 i3)), .second, iv (1 : Int32), iv (1 : Int32)] [(.int (1 : Int32))]
          refine XS.goto X33.here hx rfl (pc0 := 123) (pc' := 127) rfl (hb hby at_123) (by decide) (by decide) ?_
          show Go p e below t T33 m 127 #[iv i0, iv i1, iv i2, iv i3, iv (nL i1), iv (1 : Int32), iv (nQ i2), iv (nC i3), .val (.long (nM i2)), .second, .val (.long (nV i2 i3)), .second, iv (1 : Int32), iv (1 : Int32)] [(.int (1 : Int32))]
          exact k)
        obtain ⟨fs, hr, hrun, hended, hW, hsame⟩ := X33.leave (v := some (.int (1 : Int32))) (fun h => by rw [Bd.returns] at h; cases h)
        refine ⟨_, _, g35 _ (retN X33 hx (t := .boolean) Bd.returns (by simp) (hb hby at_127) hr), hrun, hended, _, _, rfl, ?_, ⟨_, rfl⟩, hW, hsame.mono (by decide) (by decide)⟩
        show Q_law Z i0 i1 i2 i3  h0 n0 _ T33.heap _
        rw [e33]
        exact ⟨by unfold f_law; rw [if_pos h16, if_neg h21, if_neg h27], M33⟩
  · skip
    have g36 : Goes p e below S0 (T13.setTop (mkF m 64 #[iv i0, iv i1, iv i2, iv i3, iv (nL i1), iv (1 : Int32), iv (nQ i2), iv (nC i3), .val (.long (nM i2)), .second, .unset, .unset, .unset, .unset] [(.int (nQ i2)), (.long ((nC i3).toInt64)), (.long (nM i2))])) := fun t k => g15 t (by
      refine XS.icmpNo X13.here hx rfl (hb hby at_17) rfl (XT.ii_lt_f h16) ?_
      show Go p e below t T13 m 20 #[iv i0, iv i1, iv i2, iv i3, iv (nL i1), .unset, .unset, .unset, .unset, .unset, .unset, .unset, .unset, .unset] [(.int (f_al (FP.i2d i0) (FP.i2d (nL i1))))]
      refine XT.iconstV X13.here hx rfl (1 : Int32) (hb hby at_20) (by decide) ?_
      show Go p e below t T13 m 21 #[iv i0, iv i1, iv i2, iv i3, iv (nL i1), .unset, .unset, .unset, .unset, .unset, .unset, .unset, .unset, .unset] [(.int (1 : Int32)), (.int (f_al (FP.i2d i0) (FP.i2d (nL i1))))]
      refine XS.goto X13.here hx rfl (pc0 := 21) (pc' := 25) rfl (hb hby at_21) (by decide) (by decide) ?_
      show Go p e below t T13 m 25 #[iv i0, iv i1, iv i2, iv i3, iv (nL i1), .unset, .unset, .unset, .unset, .unset, .unset, .unset, .unset, .unset] [(.int (1 : Int32)), (.int (f_al (FP.i2d i0) (FP.i2d (nL i1))))]
      refine XS.icmpNo X13.here hx rfl (hb hby at_25) rfl (XT.ii_ne_f (own_e1 h16)) ?_
      show Go p e below t T13 m 28 #[iv i0, iv i1, iv i2, iv i3, iv (nL i1), .unset, .unset, .unset, .unset, .unset, .unset, .unset, .unset, .unset] []
      refine XT.iconstV X13.here hx rfl (1 : Int32) (hb hby at_28) (by decide) ?_
      show Go p e below t T13 m 29 #[iv i0, iv i1, iv i2, iv i3, iv (nL i1), .unset, .unset, .unset, .unset, .unset, .unset, .unset, .unset, .unset] [(.int (1 : Int32))]
      refine XS.goto X13.here hx rfl (pc0 := 29) (pc' := 33) rfl (hb hby at_29) (by decide) (by decide) ?_
      show Go p e below t T13 m 33 #[iv i0, iv i1, iv i2, iv i3, iv (nL i1), .unset, .unset, .unset, .unset, .unset, .unset, .unset, .unset, .unset] [(.int (1 : Int32))]
      refine XS.istore X13.here hx rfl (hb hby at_33) rfl (l' := #[iv i0, iv i1, iv i2, iv i3, iv (nL i1), iv (1 : Int32), .unset, .unset, .unset, .unset, .unset, .unset, .unset, .unset]) rfl ?_
      show Go p e below t T13 m 35 #[iv i0, iv i1, iv i2, iv i3, iv (nL i1), iv (1 : Int32), .unset, .unset, .unset, .unset, .unset, .unset, .unset, .unset] []
      refine XS.iloadN X13.here hx rfl (hb hby at_35) rfl ?_
      show Go p e below t T13 m 36 #[iv i0, iv i1, iv i2, iv i3, iv (nL i1), iv (1 : Int32), .unset, .unset, .unset, .unset, .unset, .unset, .unset, .unset] [(.int i2)]
      refine XT.sipushV X13.here hx rfl (4096 : Int32) (hb hby at_36) (by decide) ?_
      show Go p e below t T13 m 39 #[iv i0, iv i1, iv i2, iv i3, iv (nL i1), iv (1 : Int32), .unset, .unset, .unset, .unset, .unset, .unset, .unset, .unset] [(.int (4096 : Int32)), (.int i2)]
      refine iremM X13 hx rfl (hb hby at_39) rfl (by decide) ?_
      show Go p e below t T13 m 40 #[iv i0, iv i1, iv i2, iv i3, iv (nL i1), iv (1 : Int32), .unset, .unset, .unset, .unset, .unset, .unset, .unset, .unset] [(.int (i2 % (4096 : Int32)))]
      refine XS.istore X13.here hx rfl (hb hby at_40) rfl (l' := #[iv i0, iv i1, iv i2, iv i3, iv (nL i1), iv (1 : Int32), iv (nQ i2), .unset, .unset, .unset, .unset, .unset, .unset, .unset]) rfl ?_
      show Go p e below t T13 m 42 #[iv i0, iv i1, iv i2, iv i3, iv (nL i1), iv (1 : Int32), iv (nQ i2), .unset, .unset, .unset, .unset, .unset, .unset, .unset] []
      refine XS.iloadN X13.here hx rfl (hb hby at_42) rfl ?_
      show Go p e below t T13 m 43 #[iv i0, iv i1, iv i2, iv i3, iv (nL i1), iv (1 : Int32), iv (nQ i2), .unset, .unset, .unset, .unset, .unset, .unset, .unset] [(.int i3)]
      refine XT.bipushV X13.here hx rfl (32 : Int32) (hb hby at_43) (by decide) ?_
      show Go p e below t T13 m 45 #[iv i0, iv i1, iv i2, iv i3, iv (nL i1), iv (1 : Int32), iv (nQ i2), .unset, .unset, .unset, .unset, .unset, .unset, .unset] [(.int (32 : Int32)), (.int i3)]
      refine iremM X13 hx rfl (hb hby at_45) rfl (by decide) ?_
      show Go p e below t T13 m 46 #[iv i0, iv i1, iv i2, iv i3, iv (nL i1), iv (1 : Int32), iv (nQ i2), .unset, .unset, .unset, .unset, .unset, .unset, .unset] [(.int (i3 % (32 : Int32)))]
      refine XS.istore X13.here hx rfl (hb hby at_46) rfl (l' := #[iv i0, iv i1, iv i2, iv i3, iv (nL i1), iv (1 : Int32), iv (nQ i2), iv (nC i3), .unset, .unset, .unset, .unset, .unset, .unset]) rfl ?_
      show Go p e below t T13 m 48 #[iv i0, iv i1, iv i2, iv i3, iv (nL i1), iv (1 : Int32), iv (nQ i2), iv (nC i3), .unset, .unset, .unset, .unset, .unset, .unset] []
      refine XS.iload X13.here hx rfl (hb hby at_48) rfl ?_
      show Go p e below t T13 m 50 #[iv i0, iv i1, iv i2, iv i3, iv (nL i1), iv (1 : Int32), iv (nQ i2), iv (nC i3), .unset, .unset, .unset, .unset, .unset, .unset] [(.int (nQ i2))]
      refine XS.i2l X13.here hx rfl (hb hby at_50) rfl ?_
      show Go p e below t T13 m 51 #[iv i0, iv i1, iv i2, iv i3, iv (nL i1), iv (1 : Int32), iv (nQ i2), iv (nC i3), .unset, .unset, .unset, .unset, .unset, .unset] [(.long ((nQ i2).toInt64))]
      refine Jvm.Stand.ldc2J X13 hx hown (mvT hZ (hw _ (List.mem_of_getElem? (i := 10) rfl))) (g := (mkF m 51 #[iv i0, iv i1, iv i2, iv i3, iv (nL i1), iv (1 : Int32), iv (nQ i2), iv (nC i3), .unset, .unset, .unset, .unset, .unset, .unset] [(.long ((nQ i2).toInt64))])) rfl (hb hby at_51) ?_
      show Go p e below t T13 m 54 #[iv i0, iv i1, iv i2, iv i3, iv (nL i1), iv (1 : Int32), iv (nQ i2), iv (nC i3), .unset, .unset, .unset, .unset, .unset, .unset] [(.long (17179869184 : Int64)), (.long ((nQ i2).toInt64))]
      refine XS.lmul X13.here hx rfl (hb hby at_54) rfl ?_
      show Go p e below t T13 m 55 #[iv i0, iv i1, iv i2, iv i3, iv (nL i1), iv (1 : Int32), iv (nQ i2), iv (nC i3), .unset, .unset, .unset, .unset, .unset, .unset] [(.long (((nQ i2).toInt64) * (17179869184 : Int64)))]
      refine XS.lstore X13.here hx rfl (hb hby at_55) rfl (l' := #[iv i0, iv i1, iv i2, iv i3, iv (nL i1), iv (1 : Int32), iv (nQ i2), iv (nC i3), .val (.long (nM i2)), .second, .unset, .unset, .unset, .unset]) rfl ?_
      show Go p e below t T13 m 57 #[iv i0, iv i1, iv i2, iv i3, iv (nL i1), iv (1 : Int32), iv (nQ i2), iv (nC i3), .val (.long (nM i2)), .second, .unset, .unset, .unset, .unset] []
      refine XS.lload X13.here hx rfl (hb hby at_57) rfl ?_
      show Go p e below t T13 m 59 #[iv i0, iv i1, iv i2, iv i3, iv (nL i1), iv (1 : Int32), iv (nQ i2), iv (nC i3), .val (.long (nM i2)), .second, .unset, .unset, .unset, .unset] [(.long (nM i2))]
      refine XS.iload X13.here hx rfl (hb hby at_59) rfl ?_
      show Go p e below t T13 m 61 #[iv i0, iv i1, iv i2, iv i3, iv (nL i1), iv (1 : Int32), iv (nQ i2), iv (nC i3), .val (.long (nM i2)), .second, .unset, .unset, .unset, .unset] [(.int (nC i3)), (.long (nM i2))]
      refine XS.i2l X13.here hx rfl (hb hby at_61) rfl ?_
      show Go p e below t T13 m 62 #[iv i0, iv i1, iv i2, iv i3, iv (nL i1), iv (1 : Int32), iv (nQ i2), iv (nC i3), .val (.long (nM i2)), .second, .unset, .unset, .unset, .unset] [(.long ((nC i3).toInt64)), (.long (nM i2))]
      refine XS.iload X13.here hx rfl (hb hby at_62) rfl ?_
      show Go p e below t T13 m 64 #[iv i0, iv i1, iv i2, iv i3, iv (nL i1), iv (1 : Int32), iv (nQ i2), iv (nC i3), .val (.long (nM i2)), .second, .unset, .unset, .unset, .unset] [(.int (nQ i2)), (.long ((nC i3).toInt64)), (.long (nM i2))]
      exact k)
    obtain ⟨_, _, ⟨T37, L37, k37, n37⟩, -, X37, ⟨Lc37, hQ37, l37, y37, z37⟩, st37⟩ := Jvm.LawKit.callS X13 hx (y := (⟨"java/lang/Math", "abs", "(I)I"⟩ : MethodName)) hown (mvT hZ (hw _ (List.mem_of_getElem? (i := 11) rfl))) (mvT hZ (hw _ (List.mem_of_getElem? (i := 12) rfl))) (mvT hZ (hw _ (List.mem_of_getElem? (i := 8) rfl))) (mvT hZ (hw _ (List.mem_of_getElem? (i := 13) rfl))) (by decide) (backOf (W := 4) (rm_ab l Z a0 hw [] (nQ i2)  h0 n0 Z0 ) hZ (hw _ (List.mem_of_getElem? (i := 13) rfl)) (hw _ (List.mem_of_getElem? (i := 8) rfl)) (by decide) (by decide)) (g := (mkF m 64 #[iv i0, iv i1, iv i2, iv i3, iv (nL i1), iv (1 : Int32), iv (nQ i2), iv (nC i3), .val (.long (nM i2)), .second, .unset, .unset, .unset, .unset] [(.int (nQ i2)), (.long ((nC i3).toInt64)), (.long (nM i2))])) rfl (by rw [hml]; rfl) (argsL := [(.int (nQ i2))]) (rest := [(.long ((nC i3).toInt64)), (.long (nM i2))]) (lenOf pd2 rfl) rfl (by show 2 * 0 + _ ≤ _; exact Nat.le_of_eq rfl) (hb hby at_64) (fun _ _ => ⟨rfl, e13, (by decide : 0 + 0 ≤ _), (by decide : 0 + 0 ≤ _)⟩)
    dsimp only [Pt.U, Pt.locs, Pt.cells, Pt.slots] at X37 l37 y37 z37 st37 hQ37
    subst l37 y37 z37
    obtain ⟨rfl, N37, e37⟩ := hQ37
    have M37 := Fr.app M13 N37
    have g38 : Goes p e below S0 (T37.setTop (mkF m 67 #[iv i0, iv i1, iv i2, iv i3, iv (nL i1), iv (1 : Int32), iv (nQ i2), iv (nC i3), .val (.long (nM i2)), .second, .unset, .unset, .unset, .unset] [(.int (f_ab (nQ i2))), (.long ((nC i3).toInt64)), (.long (nM i2))])) := fun t k => g36 t (st37 t k)
    have g39 : Goes p e below S0 (T37.setTop (mkF m 74 #[iv i0, iv i1, iv i2, iv i3, iv (nL i1), iv (1 : Int32), iv (nQ i2), iv (nC i3), .val (.long (nM i2)), .second, .val (.long (nV i2 i3)), .second, .unset, .unset] [(.int (nQ i2))])) := fun t k => g38 t (by
      refine XS.i2l X37.here hx rfl (hb hby at_67) rfl ?_
      show Go p e below t T37 m 68 #[iv i0, iv i1, iv i2, iv i3, iv (nL i1), iv (1 : Int32), iv (nQ i2), iv (nC i3), .val (.long (nM i2)), .second, .unset, .unset, .unset, .unset] [(.long ((f_ab (nQ i2)).toInt64)), (.long ((nC i3).toInt64)), (.long (nM i2))]
      refine XS.lmul X37.here hx rfl (hb hby at_68) rfl ?_
      show Go p e below t T37 m 69 #[iv i0, iv i1, iv i2, iv i3, iv (nL i1), iv (1 : Int32), iv (nQ i2), iv (nC i3), .val (.long (nM i2)), .second, .unset, .unset, .unset, .unset] [(.long (((nC i3).toInt64) * ((f_ab (nQ i2)).toInt64))), (.long (nM i2))]
      refine XS.ladd X37.here hx rfl (hb hby at_69) rfl ?_
      show Go p e below t T37 m 70 #[iv i0, iv i1, iv i2, iv i3, iv (nL i1), iv (1 : Int32), iv (nQ i2), iv (nC i3), .val (.long (nM i2)), .second, .unset, .unset, .unset, .unset] [(.long ((nM i2) + (((nC i3).toInt64) * ((f_ab (nQ i2)).toInt64))))]
      refine XS.lstore X37.here hx rfl (hb hby at_70) rfl (l' := #[iv i0, iv i1, iv i2, iv i3, iv (nL i1), iv (1 : Int32), iv (nQ i2), iv (nC i3), .val (.long (nM i2)), .second, .val (.long (nV i2 i3)), .second, .unset, .unset]) rfl ?_
      show Go p e below t T37 m 72 #[iv i0, iv i1, iv i2, iv i3, iv (nL i1), iv (1 : Int32), iv (nQ i2), iv (nC i3), .val (.long (nM i2)), .second, .val (.long (nV i2 i3)), .second, .unset, .unset] []
      refine XS.iload X37.here hx rfl (hb hby at_72) rfl ?_
      show Go p e below t T37 m 74 #[iv i0, iv i1, iv i2, iv i3, iv (nL i1), iv (1 : Int32), iv (nQ i2), iv (nC i3), .val (.long (nM i2)), .second, .val (.long (nV i2 i3)), .second, .unset, .unset] [(.int (nQ i2))]
      exact k)
    by_cases h40 : (nQ i2) = 0
    · skip
      have g41 : Goes p e below S0 (T37.setTop (mkF m 97 #[iv i0, iv i1, iv i2, iv i3, iv (nL i1), iv (1 : Int32), iv (nQ i2), iv (nC i3), .val (.long (nM i2)), .second, .val (.long (nV i2 i3)), .second, iv (1 : Int32), .unset] [(.double (FP.l2d (nM i2))), (.double (FP.l2d (nV i2 i3)))])) := fun t k => g39 t (by
        refine XS.ifYes X37.here hx rfl (pc0 := 74) (pc' := 84) rfl (hb hby at_74) rfl (XT.i0_eq_t h40) (by decide) (by decide) ?_
        show Go p e below t T37 m 84 #[iv i0, iv i1, iv i2, iv i3, iv (nL i1), iv (1 : Int32), iv (nQ i2), iv (nC i3), .val (.long (nM i2)), .second, .val (.long (nV i2 i3)), .second, .unset, .unset] []
        refine XT.iconstV X37.here hx rfl (1 : Int32) (hb hby at_84) (by decide) ?_
        show Go p e below t T37 m 85 #[iv i0, iv i1, iv i2, iv i3, iv (nL i1), iv (1 : Int32), iv (nQ i2), iv (nC i3), .val (.long (nM i2)), .second, .val (.long (nV i2 i3)), .second, .unset, .unset] [(.int (1 : Int32))]
        refine XS.goto X37.here hx rfl (pc0 := 85) (pc' := 89) rfl (hb hby at_85) (by decide) (by decide) ?_
        show Go p e below t T37 m 89 #[iv i0, iv i1, iv i2, iv i3, iv (nL i1), iv (1 : Int32), iv (nQ i2), iv (nC i3), .val (.long (nM i2)), .second, .val (.long (nV i2 i3)), .second, .unset, .unset] [(.int (1 : Int32))]
        refine XS.istore X37.here hx rfl (hb hby at_89) rfl (l' := #[iv i0, iv i1, iv i2, iv i3, iv (nL i1), iv (1 : Int32), iv (nQ i2), iv (nC i3), .val (.long (nM i2)), .second, .val (.long (nV i2 i3)), .second, iv (1 : Int32), .unset]) rfl ?_
        show Go p e below t T37 m 91 #[iv i0, iv i1, iv i2, iv i3, iv (nL i1), iv (1 : Int32), iv (nQ i2), iv (nC i3), .val (.long (nM i2)), .second, .val (.long (nV i2 i3)), .second, iv (1 : Int32), .unset] []
        refine XS.lload X37.here hx rfl (hb hby at_91) rfl ?_
        show Go p e below t T37 m 93 #[iv i0, iv i1, iv i2, iv i3, iv (nL i1), iv (1 : Int32), iv (nQ i2), iv (nC i3), .val (.long (nM i2)), .second, .val (.long (nV i2 i3)), .second, iv (1 : Int32), .unset] [(.long (nV i2 i3))]
        refine XS.l2dS X37.here hx rfl (hb hby at_93) rfl rfl ?_
        show Go p e below t T37 m 94 #[iv i0, iv i1, iv i2, iv i3, iv (nL i1), iv (1 : Int32), iv (nQ i2), iv (nC i3), .val (.long (nM i2)), .second, .val (.long (nV i2 i3)), .second, iv (1 : Int32), .unset] [(.double (FP.l2d (nV i2 i3)))]
        refine XS.lload X37.here hx rfl (hb hby at_94) rfl ?_
        show Go p e below t T37 m 96 #[iv i0, iv i1, iv i2, iv i3, iv (nL i1), iv (1 : Int32), iv (nQ i2), iv (nC i3), .val (.long (nM i2)), .second, .val (.long (nV i2 i3)), .second, iv (1 : Int32), .unset] [(.long (nM i2)), (.double (FP.l2d (nV i2 i3)))]
        refine XS.l2dS X37.here hx rfl (hb hby at_96) rfl rfl ?_
        show Go p e below t T37 m 97 #[iv i0, iv i1, iv i2, iv i3, iv (nL i1), iv (1 : Int32), iv (nQ i2), iv (nC i3), .val (.long (nM i2)), .second, .val (.long (nV i2 i3)), .second, iv (1 : Int32), .unset] [(.double (FP.l2d (nM i2))), (.double (FP.l2d (nV i2 i3)))]
        exact k)
      obtain ⟨_, _, ⟨T42, L42, k42, n42⟩, -, X42, ⟨Lc42, hQ42, l42, y42, z42⟩, st42⟩ := Jvm.LawKit.callS X37 hx (y := (⟨"com/example/forager/forager/Limits", "atLeast", "(DD)Z"⟩ : MethodName)) hown (mvT hZ (hw _ (List.mem_of_getElem? (i := 1) rfl))) (mvT hZ (hw _ (List.mem_of_getElem? (i := 2) rfl))) (mvT hZ (hw _ (List.mem_of_getElem? (i := 3) rfl))) (mvT hZ (hw _ (List.mem_of_getElem? (i := 4) rfl))) (by decide) (backOf (W := 0) (rm_al l Z a0 hw [] (FP.l2d (nV i2 i3)) (FP.l2d (nM i2))  h0 n0 Z0 (Jvm.Free.Fl.l2d_fin _).noNaN (fun _ => own_nn9 (Jvm.Free.Fl.l2d_fin _)) (fun _ => own_nn10 (Jvm.Free.Fl.l2d_fin _))) hZ (hw _ (List.mem_of_getElem? (i := 4) rfl)) (hw _ (List.mem_of_getElem? (i := 3) rfl)) (by decide) (by decide)) (g := (mkF m 97 #[iv i0, iv i1, iv i2, iv i3, iv (nL i1), iv (1 : Int32), iv (nQ i2), iv (nC i3), .val (.long (nM i2)), .second, .val (.long (nV i2 i3)), .second, iv (1 : Int32), .unset] [(.double (FP.l2d (nM i2))), (.double (FP.l2d (nV i2 i3)))])) rfl (by rw [hml]; rfl) (argsL := [(.double (FP.l2d (nV i2 i3))), (.double (FP.l2d (nM i2)))]) (rest := []) (lenOf pd0 rfl) rfl (by show 2 * 0 + _ ≤ _; exact Nat.le_of_eq rfl) (hb hby at_97) (fun _ _ => ⟨rfl, e37, (by decide : 0 + 0 ≤ _), (by decide : 0 + 0 ≤ _)⟩)
      dsimp only [Pt.U, Pt.locs, Pt.cells, Pt.slots] at X42 l42 y42 z42 st42 hQ42
      subst l42 y42 z42
      obtain ⟨rfl, N42, e42⟩ := hQ42
      have M42 := Fr.app M37 N42
      have g43 : Goes p e below S0 (T42.setTop (mkF m 100 #[iv i0, iv i1, iv i2, iv i3, iv (nL i1), iv (1 : Int32), iv (nQ i2), iv (nC i3), .val (.long (nM i2)), .second, .val (.long (nV i2 i3)), .second, iv (1 : Int32), .unset] [(.int (f_al (FP.l2d (nV i2 i3)) (FP.l2d (nM i2))))])) := fun t k => g41 t (st42 t k)
      have g44 : Goes p e below S0 (T42.setTop (mkF m 127 #[iv i0, iv i1, iv i2, iv i3, iv (nL i1), iv (1 : Int32), iv (nQ i2), iv (nC i3), .val (.long (nM i2)), .second, .val (.long (nV i2 i3)), .second, iv (1 : Int32), iv (1 : Int32)] [(.int (1 : Int32))])) := fun t k => g43 t (by
        refine XS.iload X42.here hx rfl (hb hby at_100) rfl ?_
        show Go p e below t T42 m 102 #[iv i0, iv i1, iv i2, iv i3, iv (nL i1), iv (1 : Int32), iv (nQ i2), iv (nC i3), .val (.long (nM i2)), .second, .val (.long (nV i2 i3)), .second, iv (1 : Int32), .unset] [(.int (1 : Int32)), (.int (f_al (FP.l2d (nV i2 i3)) (FP.l2d (nM i2))))]
        refine XS.icmpNo X42.here hx rfl (hb hby at_102) rfl (XT.ii_ne_f (own_m0 h40)) ?_
        show Go p e below t T42 m 105 #[iv i0, iv i1, iv i2, iv i3, iv (nL i1), iv (1 : Int32), iv (nQ i2), iv (nC i3), .val (.long (nM i2)), .second, .val (.long (nV i2 i3)), .second, iv (1 : Int32), .unset] []
        refine XT.iconstV X42.here hx rfl (1 : Int32) (hb hby at_105) (by decide) ?_
        show Go p e below t T42 m 106 #[iv i0, iv i1, iv i2, iv i3, iv (nL i1), iv (1 : Int32), iv (nQ i2), iv (nC i3), .val (.long (nM i2)), .second, .val (.long (nV i2 i3)), .second, iv (1 : Int32), .unset] [(.int (1 : Int32))]
        refine XS.goto X42.here hx rfl (pc0 := 106) (pc' := 110) rfl (hb hby at_106) (by decide) (by decide) ?_
        show Go p e below t T42 m 110 #[iv i0, iv i1, iv i2, iv i3, iv (nL i1), iv (1 : Int32), iv (nQ i2), iv (nC i3), .val (.long (nM i2)), .second, .val (.long (nV i2 i3)), .second, iv (1 : Int32), .unset] [(.int (1 : Int32))]
        refine XS.istore X42.here hx rfl (hb hby at_110) rfl (l' := #[iv i0, iv i1, iv i2, iv i3, iv (nL i1), iv (1 : Int32), iv (nQ i2), iv (nC i3), .val (.long (nM i2)), .second, .val (.long (nV i2 i3)), .second, iv (1 : Int32), iv (1 : Int32)]) rfl ?_
        show Go p e below t T42 m 112 #[iv i0, iv i1, iv i2, iv i3, iv (nL i1), iv (1 : Int32), iv (nQ i2), iv (nC i3), .val (.long (nM i2)), .second, .val (.long (nV i2 i3)), .second, iv (1 : Int32), iv (1 : Int32)] []
        refine XS.iload X42.here hx rfl (hb hby at_112) rfl ?_
        show Go p e below t T42 m 114 #[iv i0, iv i1, iv i2, iv i3, iv (nL i1), iv (1 : Int32), iv (nQ i2), iv (nC i3), .val (.long (nM i2)), .second, .val (.long (nV i2 i3)), .second, iv (1 : Int32), iv (1 : Int32)] [(.int (1 : Int32))]
        refine XS.ifNo X42.here hx rfl (hb hby at_114) rfl (XT.i0_eq_f (by decide)) ?_
        show Go p e below t T42 m 117 #[iv i0, iv i1, iv i2, iv i3, iv (nL i1), iv (1 : Int32), iv (nQ i2), iv (nC i3), .val (.long (nM i2)), .second, .val (.long (nV i2 i3)), .second, iv (1 : Int32), iv (1 : Int32)] []
        refine XS.iload X42.here hx rfl (hb hby at_117) rfl ?_
        show Go p e below t T42 m 119 #[iv i0, iv i1, iv i2, iv i3, iv (nL i1), iv (1 : Int32), iv (nQ i2), iv (nC i3), .val (.long (nM i2)), .second, .val (.long (nV i2 i3)), .second, iv (1 : Int32), iv (1 : Int32)] [(.int (1 : Int32))]
        refine XS.ifNo X42.here hx rfl (hb hby at_119) rfl (XT.i0_eq_f (by decide)) ?_
        show Go p e below t T42 m 122 #[iv i0, iv i1, iv i2, iv i3, iv (nL i1), iv (1 : Int32), iv (nQ i2), iv (nC i3), .val (.long (nM i2)), .second, .val (.long (nV i2 i3)), .second, iv (1 : Int32), iv (1 : Int32)] []
        refine XT.iconstV X42.here hx rfl (1 : Int32) (hb hby at_122) (by decide) ?_
        show Go p e below t T42 m 123 #[iv i0, iv i1, iv i2, iv i3, iv (nL i1), iv (1 : Int32), iv (nQ i2), iv (nC i3), .val (.long (nM i2)), .second, .val (.long (nV i2 i3)), .second, iv (1 : Int32), iv (1 : Int32)] [(.int (1 : Int32))]
        refine XS.goto X42.here hx rfl (pc0 := 123) (pc' := 127) rfl (hb hby at_123) (by decide) (by decide) ?_
        show Go p e below t T42 m 127 #[iv i0, iv i1, iv i2, iv i3, iv (nL i1), iv (1 : Int32), iv (nQ i2), iv (nC i3), .val (.long (nM i2)), .second, .val (.long (nV i2 i3)), .second, iv (1 : Int32), iv (1 : Int32)] [(.int (1 : Int32))]
        exact k)
      obtain ⟨fs, hr, hrun, hended, hW, hsame⟩ := X42.leave (v := some (.int (1 : Int32))) (fun h => by rw [Bd.returns] at h; cases h)
      refine ⟨_, _, g44 _ (retN X42 hx (t := .boolean) Bd.returns (by simp) (hb hby at_127) hr), hrun, hended, _, _, rfl, ?_, ⟨_, rfl⟩, hW, hsame.mono (by decide) (by decide)⟩
      show Q_law Z i0 i1 i2 i3  h0 n0 _ T42.heap _
      rw [e42]
      exact ⟨by unfold f_law; rw [if_neg h16, if_pos h40], M42⟩
    · skip
      have g45 : Goes p e below S0 (T37.setTop (mkF m 81 #[iv i0, iv i1, iv i2, iv i3, iv (nL i1), iv (1 : Int32), iv (nQ i2), iv (nC i3), .val (.long (nM i2)), .second, .val (.long (nV i2 i3)), .second, .unset, .unset] [(.int (-17 : Int32)), (.int (nC i3))])) := fun t k => g39 t (by
        refine XS.ifNo X37.here hx rfl (hb hby at_74) rfl (XT.i0_eq_f h40) ?_
        show Go p e below t T37 m 77 #[iv i0, iv i1, iv i2, iv i3, iv (nL i1), iv (1 : Int32), iv (nQ i2), iv (nC i3), .val (.long (nM i2)), .second, .val (.long (nV i2 i3)), .second, .unset, .unset] []
        refine XS.iload X37.here hx rfl (hb hby at_77) rfl ?_
        show Go p e below t T37 m 79 #[iv i0, iv i1, iv i2, iv i3, iv (nL i1), iv (1 : Int32), iv (nQ i2), iv (nC i3), .val (.long (nM i2)), .second, .val (.long (nV i2 i3)), .second, .unset, .unset] [(.int (nC i3))]
        refine XT.bipushV X37.here hx rfl (-17 : Int32) (hb hby at_79) (by decide) ?_
        show Go p e below t T37 m 81 #[iv i0, iv i1, iv i2, iv i3, iv (nL i1), iv (1 : Int32), iv (nQ i2), iv (nC i3), .val (.long (nM i2)), .second, .val (.long (nV i2 i3)), .second, .unset, .unset] [(.int (-17 : Int32)), (.int (nC i3))]
        exact k)
      by_cases h46 : (nC i3) < (-17 : Int32)
      · skip
        have g47 : Goes p e below S0 (T37.setTop (mkF m 97 #[iv i0, iv i1, iv i2, iv i3, iv (nL i1), iv (1 : Int32), iv (nQ i2), iv (nC i3), .val (.long (nM i2)), .second, .val (.long (nV i2 i3)), .second, iv (0 : Int32), .unset] [(.double (FP.l2d (nM i2))), (.double (FP.l2d (nV i2 i3)))])) := fun t k => g45 t (by
          refine XS.icmpYes X37.here hx rfl (pc0 := 81) (pc' := 88) rfl (hb hby at_81) rfl (XT.ii_lt_t h46) (by decide) (by decide) ?_
          show Go p e below t T37 m 88 #[iv i0, iv i1, iv i2, iv i3, iv (nL i1), iv (1 : Int32), iv (nQ i2), iv (nC i3), .val (.long (nM i2)), .second, .val (.long (nV i2 i3)), .second, .unset, .unset] []
          refine XT.iconstV X37.here hx rfl (0 : Int32) (hb hby at_88) (by decide) ?_
          show Go p e below t T37 m 89 #[iv i0, iv i1, iv i2, iv i3, iv (nL i1), iv (1 : Int32), iv (nQ i2), iv (nC i3), .val (.long (nM i2)), .second, .val (.long (nV i2 i3)), .second, .unset, .unset] [(.int (0 : Int32))]
          refine XS.istore X37.here hx rfl (hb hby at_89) rfl (l' := #[iv i0, iv i1, iv i2, iv i3, iv (nL i1), iv (1 : Int32), iv (nQ i2), iv (nC i3), .val (.long (nM i2)), .second, .val (.long (nV i2 i3)), .second, iv (0 : Int32), .unset]) rfl ?_
          show Go p e below t T37 m 91 #[iv i0, iv i1, iv i2, iv i3, iv (nL i1), iv (1 : Int32), iv (nQ i2), iv (nC i3), .val (.long (nM i2)), .second, .val (.long (nV i2 i3)), .second, iv (0 : Int32), .unset] []
          refine XS.lload X37.here hx rfl (hb hby at_91) rfl ?_
          show Go p e below t T37 m 93 #[iv i0, iv i1, iv i2, iv i3, iv (nL i1), iv (1 : Int32), iv (nQ i2), iv (nC i3), .val (.long (nM i2)), .second, .val (.long (nV i2 i3)), .second, iv (0 : Int32), .unset] [(.long (nV i2 i3))]
          refine XS.l2dS X37.here hx rfl (hb hby at_93) rfl rfl ?_
          show Go p e below t T37 m 94 #[iv i0, iv i1, iv i2, iv i3, iv (nL i1), iv (1 : Int32), iv (nQ i2), iv (nC i3), .val (.long (nM i2)), .second, .val (.long (nV i2 i3)), .second, iv (0 : Int32), .unset] [(.double (FP.l2d (nV i2 i3)))]
          refine XS.lload X37.here hx rfl (hb hby at_94) rfl ?_
          show Go p e below t T37 m 96 #[iv i0, iv i1, iv i2, iv i3, iv (nL i1), iv (1 : Int32), iv (nQ i2), iv (nC i3), .val (.long (nM i2)), .second, .val (.long (nV i2 i3)), .second, iv (0 : Int32), .unset] [(.long (nM i2)), (.double (FP.l2d (nV i2 i3)))]
          refine XS.l2dS X37.here hx rfl (hb hby at_96) rfl rfl ?_
          show Go p e below t T37 m 97 #[iv i0, iv i1, iv i2, iv i3, iv (nL i1), iv (1 : Int32), iv (nQ i2), iv (nC i3), .val (.long (nM i2)), .second, .val (.long (nV i2 i3)), .second, iv (0 : Int32), .unset] [(.double (FP.l2d (nM i2))), (.double (FP.l2d (nV i2 i3)))]
          exact k)
        obtain ⟨_, _, ⟨T48, L48, k48, n48⟩, -, X48, ⟨Lc48, hQ48, l48, y48, z48⟩, st48⟩ := Jvm.LawKit.callS X37 hx (y := (⟨"com/example/forager/forager/Limits", "atLeast", "(DD)Z"⟩ : MethodName)) hown (mvT hZ (hw _ (List.mem_of_getElem? (i := 1) rfl))) (mvT hZ (hw _ (List.mem_of_getElem? (i := 2) rfl))) (mvT hZ (hw _ (List.mem_of_getElem? (i := 3) rfl))) (mvT hZ (hw _ (List.mem_of_getElem? (i := 4) rfl))) (by decide) (backOf (W := 0) (rm_al l Z a0 hw [] (FP.l2d (nV i2 i3)) (FP.l2d (nM i2))  h0 n0 Z0 (Jvm.Free.Fl.l2d_fin _).noNaN (fun _ => own_nn9 (Jvm.Free.Fl.l2d_fin _)) (fun _ => own_nn10 (Jvm.Free.Fl.l2d_fin _))) hZ (hw _ (List.mem_of_getElem? (i := 4) rfl)) (hw _ (List.mem_of_getElem? (i := 3) rfl)) (by decide) (by decide)) (g := (mkF m 97 #[iv i0, iv i1, iv i2, iv i3, iv (nL i1), iv (1 : Int32), iv (nQ i2), iv (nC i3), .val (.long (nM i2)), .second, .val (.long (nV i2 i3)), .second, iv (0 : Int32), .unset] [(.double (FP.l2d (nM i2))), (.double (FP.l2d (nV i2 i3)))])) rfl (by rw [hml]; rfl) (argsL := [(.double (FP.l2d (nV i2 i3))), (.double (FP.l2d (nM i2)))]) (rest := []) (lenOf pd0 rfl) rfl (by show 2 * 0 + _ ≤ _; exact Nat.le_of_eq rfl) (hb hby at_97) (fun _ _ => ⟨rfl, e37, (by decide : 0 + 0 ≤ _), (by decide : 0 + 0 ≤ _)⟩)
        dsimp only [Pt.U, Pt.locs, Pt.cells, Pt.slots] at X48 l48 y48 z48 st48 hQ48
        subst l48 y48 z48
        obtain ⟨rfl, N48, e48⟩ := hQ48
        have M48 := Fr.app M37 N48
        have g49 : Goes p e below S0 (T48.setTop (mkF m 100 #[iv i0, iv i1, iv i2, iv i3, iv (nL i1), iv (1 : Int32), iv (nQ i2), iv (nC i3), .val (.long (nM i2)), .second, .val (.long (nV i2 i3)), .second, iv (0 : Int32), .unset] [(.int (f_al (FP.l2d (nV i2 i3)) (FP.l2d (nM i2))))])) := fun t k => g47 t (st48 t k)
        have g50 : Goes p e below S0 (T48.setTop (mkF m 127 #[iv i0, iv i1, iv i2, iv i3, iv (nL i1), iv (1 : Int32), iv (nQ i2), iv (nC i3), .val (.long (nM i2)), .second, .val (.long (nV i2 i3)), .second, iv (0 : Int32), iv (1 : Int32)] [(.int (1 : Int32))])) := fun t k => g49 t (by
          refine XS.iload X48.here hx rfl (hb hby at_100) rfl ?_
          show Go p e below t T48 m 102 #[iv i0, iv i1, iv i2, iv i3, iv (nL i1), iv (1 : Int32), iv (nQ i2), iv (nC i3), .val (.long (nM i2)), .second, .val (.long (nV i2 i3)), .second, iv (0 : Int32), .unset] [(.int (0 : Int32)), (.int (f_al (FP.l2d (nV i2 i3)) (FP.l2d (nM i2))))]
          refine XS.icmpNo X48.here hx rfl (hb hby at_102) rfl (XT.ii_ne_f (own_m1 h40 h46)) ?_
          show Go p e below t T48 m 105 #[iv i0, iv i1, iv i2, iv i3, iv (nL i1), iv (1 : Int32), iv (nQ i2), iv (nC i3), .val (.long (nM i2)), .second, .val (.long (nV i2 i3)), .second, iv (0 : Int32), .unset] []
          refine XT.iconstV X48.here hx rfl (1 : Int32) (hb hby at_105) (by decide) ?_
          show Go p e below t T48 m 106 #[iv i0, iv i1, iv i2, iv i3, iv (nL i1), iv (1 : Int32), iv (nQ i2), iv (nC i3), .val (.long (nM i2)), .second, .val (.long (nV i2 i3)), .second, iv (0 : Int32), .unset] [(.int (1 : Int32))]
          refine XS.goto X48.here hx rfl (pc0 := 106) (pc' := 110) rfl (hb hby at_106) (by decide) (by decide) ?_
          show Go p e below t T48 m 110 #[iv i0, iv i1, iv i2, iv i3, iv (nL i1), iv (1 : Int32), iv (nQ i2), iv (nC i3), .val (.long (nM i2)), .second, .val (.long (nV i2 i3)), .second, iv (0 : Int32), .unset] [(.int (1 : Int32))]
          refine XS.istore X48.here hx rfl (hb hby at_110) rfl (l' := #[iv i0, iv i1, iv i2, iv i3, iv (nL i1), iv (1 : Int32), iv (nQ i2), iv (nC i3), .val (.long (nM i2)), .second, .val (.long (nV i2 i3)), .second, iv (0 : Int32), iv (1 : Int32)]) rfl ?_
          show Go p e below t T48 m 112 #[iv i0, iv i1, iv i2, iv i3, iv (nL i1), iv (1 : Int32), iv (nQ i2), iv (nC i3), .val (.long (nM i2)), .second, .val (.long (nV i2 i3)), .second, iv (0 : Int32), iv (1 : Int32)] []
          refine XS.iload X48.here hx rfl (hb hby at_112) rfl ?_
          show Go p e below t T48 m 114 #[iv i0, iv i1, iv i2, iv i3, iv (nL i1), iv (1 : Int32), iv (nQ i2), iv (nC i3), .val (.long (nM i2)), .second, .val (.long (nV i2 i3)), .second, iv (0 : Int32), iv (1 : Int32)] [(.int (1 : Int32))]
          refine XS.ifNo X48.here hx rfl (hb hby at_114) rfl (XT.i0_eq_f (by decide)) ?_
          show Go p e below t T48 m 117 #[iv i0, iv i1, iv i2, iv i3, iv (nL i1), iv (1 : Int32), iv (nQ i2), iv (nC i3), .val (.long (nM i2)), .second, .val (.long (nV i2 i3)), .second, iv (0 : Int32), iv (1 : Int32)] []
          refine XS.iload X48.here hx rfl (hb hby at_117) rfl ?_
          show Go p e below t T48 m 119 #[iv i0, iv i1, iv i2, iv i3, iv (nL i1), iv (1 : Int32), iv (nQ i2), iv (nC i3), .val (.long (nM i2)), .second, .val (.long (nV i2 i3)), .second, iv (0 : Int32), iv (1 : Int32)] [(.int (1 : Int32))]
          refine XS.ifNo X48.here hx rfl (hb hby at_119) rfl (XT.i0_eq_f (by decide)) ?_
          show Go p e below t T48 m 122 #[iv i0, iv i1, iv i2, iv i3, iv (nL i1), iv (1 : Int32), iv (nQ i2), iv (nC i3), .val (.long (nM i2)), .second, .val (.long (nV i2 i3)), .second, iv (0 : Int32), iv (1 : Int32)] []
          refine XT.iconstV X48.here hx rfl (1 : Int32) (hb hby at_122) (by decide) ?_
          show Go p e below t T48 m 123 #[iv i0, iv i1, iv i2, iv i3, iv (nL i1), iv (1 : Int32), iv (nQ i2), iv (nC i3), .val (.long (nM i2)), .second, .val (.long (nV i2 i3)), .second, iv (0 : Int32), iv (1 : Int32)] [(.int (1 : Int32))]
          refine XS.goto X48.here hx rfl (pc0 := 123) (pc' := 127) rfl (hb hby at_123) (by decide) (by decide) ?_
          show Go p e below t T48 m 127 #[iv i0, iv i1, iv i2, iv i3, iv (nL i1), iv (1 : Int32), iv (nQ i2), iv (nC i3), .val (.long (nM i2)), .second, .val (.long (nV i2 i3)), .second, iv (0 : Int32), iv (1 : Int32)] [(.int (1 : Int32))]
          exact k)
        obtain ⟨fs, hr, hrun, hended, hW, hsame⟩ := X48.leave (v := some (.int (1 : Int32))) (fun h => by rw [Bd.returns] at h; cases h)
        refine ⟨_, _, g50 _ (retN X48 hx (t := .boolean) Bd.returns (by simp) (hb hby at_127) hr), hrun, hended, _, _, rfl, ?_, ⟨_, rfl⟩, hW, hsame.mono (by decide) (by decide)⟩
        show Q_law Z i0 i1 i2 i3  h0 n0 _ T48.heap _
        rw [e48]
        exact ⟨by unfold f_law; rw [if_neg h16, if_neg h40, if_pos h46], M48⟩
      · skip
        have g51 : Goes p e below S0 (T37.setTop (mkF m 97 #[iv i0, iv i1, iv i2, iv i3, iv (nL i1), iv (1 : Int32), iv (nQ i2), iv (nC i3), .val (.long (nM i2)), .second, .val (.long (nV i2 i3)), .second, iv (1 : Int32), .unset] [(.double (FP.l2d (nM i2))), (.double (FP.l2d (nV i2 i3)))])) := fun t k => g45 t (by
          refine XS.icmpNo X37.here hx rfl (hb hby at_81) rfl (XT.ii_lt_f h46) ?_
          show Go p e below t T37 m 84 #[iv i0, iv i1, iv i2, iv i3, iv (nL i1), iv (1 : Int32), iv (nQ i2), iv (nC i3), .val (.long (nM i2)), .second, .val (.long (nV i2 i3)), .second, .unset, .unset] []
          refine XT.iconstV X37.here hx rfl (1 : Int32) (hb hby at_84) (by decide) ?_
          show Go p e below t T37 m 85 #[iv i0, iv i1, iv i2, iv i3, iv (nL i1), iv (1 : Int32), iv (nQ i2), iv (nC i3), .val (.long (nM i2)), .second, .val (.long (nV i2 i3)), .second, .unset, .unset] [(.int (1 : Int32))]
          refine XS.goto X37.here hx rfl (pc0 := 85) (pc' := 89) rfl (hb hby at_85) (by decide) (by decide) ?_
          show Go p e below t T37 m 89 #[iv i0, iv i1, iv i2, iv i3, iv (nL i1), iv (1 : Int32), iv (nQ i2), iv (nC i3), .val (.long (nM i2)), .second, .val (.long (nV i2 i3)), .second, .unset, .unset] [(.int (1 : Int32))]
          refine XS.istore X37.here hx rfl (hb hby at_89) rfl (l' := #[iv i0, iv i1, iv i2, iv i3, iv (nL i1), iv (1 : Int32), iv (nQ i2), iv (nC i3), .val (.long (nM i2)), .second, .val (.long (nV i2 i3)), .second, iv (1 : Int32), .unset]) rfl ?_
          show Go p e below t T37 m 91 #[iv i0, iv i1, iv i2, iv i3, iv (nL i1), iv (1 : Int32), iv (nQ i2), iv (nC i3), .val (.long (nM i2)), .second, .val (.long (nV i2 i3)), .second, iv (1 : Int32), .unset] []
          refine XS.lload X37.here hx rfl (hb hby at_91) rfl ?_
          show Go p e below t T37 m 93 #[iv i0, iv i1, iv i2, iv i3, iv (nL i1), iv (1 : Int32), iv (nQ i2), iv (nC i3), .val (.long (nM i2)), .second, .val (.long (nV i2 i3)), .second, iv (1 : Int32), .unset] [(.long (nV i2 i3))]
          refine XS.l2dS X37.here hx rfl (hb hby at_93) rfl rfl ?_
          show Go p e below t T37 m 94 #[iv i0, iv i1, iv i2, iv i3, iv (nL i1), iv (1 : Int32), iv (nQ i2), iv (nC i3), .val (.long (nM i2)), .second, .val (.long (nV i2 i3)), .second, iv (1 : Int32), .unset] [(.double (FP.l2d (nV i2 i3)))]
          refine XS.lload X37.here hx rfl (hb hby at_94) rfl ?_
          show Go p e below t T37 m 96 #[iv i0, iv i1, iv i2, iv i3, iv (nL i1), iv (1 : Int32), iv (nQ i2), iv (nC i3), .val (.long (nM i2)), .second, .val (.long (nV i2 i3)), .second, iv (1 : Int32), .unset] [(.long (nM i2)), (.double (FP.l2d (nV i2 i3)))]
          refine XS.l2dS X37.here hx rfl (hb hby at_96) rfl rfl ?_
          show Go p e below t T37 m 97 #[iv i0, iv i1, iv i2, iv i3, iv (nL i1), iv (1 : Int32), iv (nQ i2), iv (nC i3), .val (.long (nM i2)), .second, .val (.long (nV i2 i3)), .second, iv (1 : Int32), .unset] [(.double (FP.l2d (nM i2))), (.double (FP.l2d (nV i2 i3)))]
          exact k)
        obtain ⟨_, _, ⟨T52, L52, k52, n52⟩, -, X52, ⟨Lc52, hQ52, l52, y52, z52⟩, st52⟩ := Jvm.LawKit.callS X37 hx (y := (⟨"com/example/forager/forager/Limits", "atLeast", "(DD)Z"⟩ : MethodName)) hown (mvT hZ (hw _ (List.mem_of_getElem? (i := 1) rfl))) (mvT hZ (hw _ (List.mem_of_getElem? (i := 2) rfl))) (mvT hZ (hw _ (List.mem_of_getElem? (i := 3) rfl))) (mvT hZ (hw _ (List.mem_of_getElem? (i := 4) rfl))) (by decide) (backOf (W := 0) (rm_al l Z a0 hw [] (FP.l2d (nV i2 i3)) (FP.l2d (nM i2))  h0 n0 Z0 (Jvm.Free.Fl.l2d_fin _).noNaN (fun _ => own_nn9 (Jvm.Free.Fl.l2d_fin _)) (fun _ => own_nn10 (Jvm.Free.Fl.l2d_fin _))) hZ (hw _ (List.mem_of_getElem? (i := 4) rfl)) (hw _ (List.mem_of_getElem? (i := 3) rfl)) (by decide) (by decide)) (g := (mkF m 97 #[iv i0, iv i1, iv i2, iv i3, iv (nL i1), iv (1 : Int32), iv (nQ i2), iv (nC i3), .val (.long (nM i2)), .second, .val (.long (nV i2 i3)), .second, iv (1 : Int32), .unset] [(.double (FP.l2d (nM i2))), (.double (FP.l2d (nV i2 i3)))])) rfl (by rw [hml]; rfl) (argsL := [(.double (FP.l2d (nV i2 i3))), (.double (FP.l2d (nM i2)))]) (rest := []) (lenOf pd0 rfl) rfl (by show 2 * 0 + _ ≤ _; exact Nat.le_of_eq rfl) (hb hby at_97) (fun _ _ => ⟨rfl, e37, (by decide : 0 + 0 ≤ _), (by decide : 0 + 0 ≤ _)⟩)
        dsimp only [Pt.U, Pt.locs, Pt.cells, Pt.slots] at X52 l52 y52 z52 st52 hQ52
        subst l52 y52 z52
        obtain ⟨rfl, N52, e52⟩ := hQ52
        have M52 := Fr.app M37 N52
        have g53 : Goes p e below S0 (T52.setTop (mkF m 100 #[iv i0, iv i1, iv i2, iv i3, iv (nL i1), iv (1 : Int32), iv (nQ i2), iv (nC i3), .val (.long (nM i2)), .second, .val (.long (nV i2 i3)), .second, iv (1 : Int32), .unset] [(.int (f_al (FP.l2d (nV i2 i3)) (FP.l2d (nM i2))))])) := fun t k => g51 t (st52 t k)
        have g54 : Goes p e below S0 (T52.setTop (mkF m 127 #[iv i0, iv i1, iv i2, iv i3, iv (nL i1), iv (1 : Int32), iv (nQ i2), iv (nC i3), .val (.long (nM i2)), .second, .val (.long (nV i2 i3)), .second, iv (1 : Int32), iv (1 : Int32)] [(.int (1 : Int32))])) := fun t k => g53 t (by
          refine XS.iload X52.here hx rfl (hb hby at_100) rfl ?_
          show Go p e below t T52 m 102 #[iv i0, iv i1, iv i2, iv i3, iv (nL i1), iv (1 : Int32), iv (nQ i2), iv (nC i3), .val (.long (nM i2)), .second, .val (.long (nV i2 i3)), .second, iv (1 : Int32), .unset] [(.int (1 : Int32)), (.int (f_al (FP.l2d (nV i2 i3)) (FP.l2d (nM i2))))]
          refine XS.icmpNo X52.here hx rfl (hb hby at_102) rfl (XT.ii_ne_f (own_m2 h40 h46)) ?_
          show Go p e below t T52 m 105 #[iv i0, iv i1, iv i2, iv i3, iv (nL i1), iv (1 : Int32), iv (nQ i2), iv (nC i3), .val (.long (nM i2)), .second, .val (.long (nV i2 i3)), .second, iv (1 : Int32), .unset] []
          refine XT.iconstV X52.here hx rfl (1 : Int32) (hb hby at_105) (by decide) ?_
          show Go p e below t T52 m 106 #[iv i0, iv i1, iv i2, iv i3, iv (nL i1), iv (1 : Int32), iv (nQ i2), iv (nC i3), .val (.long (nM i2)), .second, .val (.long (nV i2 i3)), .second, iv (1 : Int32), .unset] [(.int (1 : Int32))]
          refine XS.goto X52.here hx rfl (pc0 := 106) (pc' := 110) rfl (hb hby at_106) (by decide) (by decide) ?_
          show Go p e below t T52 m 110 #[iv i0, iv i1, iv i2, iv i3, iv (nL i1), iv (1 : Int32), iv (nQ i2), iv (nC i3), .val (.long (nM i2)), .second, .val (.long (nV i2 i3)), .second, iv (1 : Int32), .unset] [(.int (1 : Int32))]
          refine XS.istore X52.here hx rfl (hb hby at_110) rfl (l' := #[iv i0, iv i1, iv i2, iv i3, iv (nL i1), iv (1 : Int32), iv (nQ i2), iv (nC i3), .val (.long (nM i2)), .second, .val (.long (nV i2 i3)), .second, iv (1 : Int32), iv (1 : Int32)]) rfl ?_
          show Go p e below t T52 m 112 #[iv i0, iv i1, iv i2, iv i3, iv (nL i1), iv (1 : Int32), iv (nQ i2), iv (nC i3), .val (.long (nM i2)), .second, .val (.long (nV i2 i3)), .second, iv (1 : Int32), iv (1 : Int32)] []
          refine XS.iload X52.here hx rfl (hb hby at_112) rfl ?_
          show Go p e below t T52 m 114 #[iv i0, iv i1, iv i2, iv i3, iv (nL i1), iv (1 : Int32), iv (nQ i2), iv (nC i3), .val (.long (nM i2)), .second, .val (.long (nV i2 i3)), .second, iv (1 : Int32), iv (1 : Int32)] [(.int (1 : Int32))]
          refine XS.ifNo X52.here hx rfl (hb hby at_114) rfl (XT.i0_eq_f (by decide)) ?_
          show Go p e below t T52 m 117 #[iv i0, iv i1, iv i2, iv i3, iv (nL i1), iv (1 : Int32), iv (nQ i2), iv (nC i3), .val (.long (nM i2)), .second, .val (.long (nV i2 i3)), .second, iv (1 : Int32), iv (1 : Int32)] []
          refine XS.iload X52.here hx rfl (hb hby at_117) rfl ?_
          show Go p e below t T52 m 119 #[iv i0, iv i1, iv i2, iv i3, iv (nL i1), iv (1 : Int32), iv (nQ i2), iv (nC i3), .val (.long (nM i2)), .second, .val (.long (nV i2 i3)), .second, iv (1 : Int32), iv (1 : Int32)] [(.int (1 : Int32))]
          refine XS.ifNo X52.here hx rfl (hb hby at_119) rfl (XT.i0_eq_f (by decide)) ?_
          show Go p e below t T52 m 122 #[iv i0, iv i1, iv i2, iv i3, iv (nL i1), iv (1 : Int32), iv (nQ i2), iv (nC i3), .val (.long (nM i2)), .second, .val (.long (nV i2 i3)), .second, iv (1 : Int32), iv (1 : Int32)] []
          refine XT.iconstV X52.here hx rfl (1 : Int32) (hb hby at_122) (by decide) ?_
          show Go p e below t T52 m 123 #[iv i0, iv i1, iv i2, iv i3, iv (nL i1), iv (1 : Int32), iv (nQ i2), iv (nC i3), .val (.long (nM i2)), .second, .val (.long (nV i2 i3)), .second, iv (1 : Int32), iv (1 : Int32)] [(.int (1 : Int32))]
          refine XS.goto X52.here hx rfl (pc0 := 123) (pc' := 127) rfl (hb hby at_123) (by decide) (by decide) ?_
          show Go p e below t T52 m 127 #[iv i0, iv i1, iv i2, iv i3, iv (nL i1), iv (1 : Int32), iv (nQ i2), iv (nC i3), .val (.long (nM i2)), .second, .val (.long (nV i2 i3)), .second, iv (1 : Int32), iv (1 : Int32)] [(.int (1 : Int32))]
          exact k)
        obtain ⟨fs, hr, hrun, hended, hW, hsame⟩ := X52.leave (v := some (.int (1 : Int32))) (fun h => by rw [Bd.returns] at h; cases h)
        refine ⟨_, _, g54 _ (retN X52 hx (t := .boolean) Bd.returns (by simp) (hb hby at_127) hr), hrun, hended, _, _, rfl, ?_, ⟨_, rfl⟩, hW, hsame.mono (by decide) (by decide)⟩
        show Q_law Z i0 i1 i2 i3  h0 n0 _ T52.heap _
        rw [e52]
        exact ⟨by unfold f_law; rw [if_neg h16, if_neg h40, if_neg h46], M52⟩
theorem own_one (a b c d : Int32) : f_law a b c d = 1 := by
  unfold f_law
  repeat' split
  all_goals rfl

set_option maxRecDepth 65536 in
set_option maxHeartbeats 40000000 in
theorem comes_1 {Post : Tables → Env → Array Value → State → Outcome → State → Prop} (hpost : ∀ tb e args s v u, (limb_1_1.after args s (.returned v) u = true ∧ limb_1_2.after args s (.returned v) u = true ∧ True) → FrameEnd s (.returned v) u (Jvm.fieldLocs frame_1_writes args s ++ Jvm.arrayLocs frame_1_arrays args s ++ Jvm.staticLocs frame_1_statics s) 0 0 → Post tb e args s (.returned v) u) :
    ArmFor flags0 classFile x code maxLocals ret World_1 tables_1 room_1 Calls_1 rest_1 Pre_1 Post := by
  intro l hfl _ _ p e ha hc hk s m args below hf hA hF happ hP
  obtain ⟨hcalls, hrest, hpre⟩ := hP
  obtain ⟨-, -, -, hnamed, -, -, -, hat⟩ := (Spec.applies_iff hf).mp happ
  obtain ⟨hg, hn⟩ := and_e (Cond.before_iff.mp (show (Jvm.Cond.and given_1 narrow_1).before args s = true from hpre))
  obtain ⟨hcount, q0⟩ := and_e hg
  obtain ⟨b0, q1⟩ := and_e q0
  obtain ⟨b1, q2⟩ := and_e q1
  obtain ⟨b2, q3⟩ := and_e q2
  have b3 := q3
  obtain ⟨w0, w1, w2, w3, rfl⟩ : ∃ w0 w1 w2 w3 : Value, args = #[w0, w1, w2, w3] := by
    have hs : args.size = 4 := by simpa [Cond.value, given_1] using hcount
    obtain ⟨L⟩ := args
    match L, hs with
    | [w0, w1, w2, w3], _ => exact ⟨w0, w1, w2, w3, rfl⟩
  have hw := fun d (hd : d ∈ tables_1) => atoms_spec (ws := Jvm.Cond.code x code maxLocals ret :: tables_1) hat d (List.mem_cons_of_mem _ hd)
  have hfit : Fit s := fun {y c} hc i hi => by
    obtain ⟨ha, rfl⟩ := Array.getElem?_eq_some_iff.mp hc
    have q := List.all_eq_true.mp ((Array.all_eq_true_iff_forall_mem.mp hF) _ (Array.getElem_mem ha)) i (List.mem_range.mpr hi)
    simpa [Array.getElem?_eq_getElem hi] using q
  obtain ⟨i0, r0⟩ := is_v b0
  obtain rfl : w0 = (.int i0) := Option.some.inj r0
  obtain ⟨i1, r1⟩ := is_v b1
  obtain rfl : w1 = (.int i1) := Option.some.inj r1
  obtain ⟨i2, r2⟩ := is_v b2
  obtain rfl : w2 = (.int i2) := Option.some.inj r2
  obtain ⟨i3, r3⟩ := is_v b3
  obtain rfl : w3 = (.int i3) := Option.some.inj r3
  obtain ⟨n, o, h1, h2, h3, v, L, rfl, ⟨hv, N⟩, hq⟩ := rm_law l s _ hw tables_1 i0 i1 i2 i3  s.heap s.heap.size (Nat.le_refl _)  p e ha hc hk s m _ below hf ((Spec.applies_iff_loose hf).mp happ).1 ⟨rfl, State.Warmed39.refl s, rfl⟩ trivial
  obtain rfl : v = some (.int 1) := by rw [hv, own_one]
  refine ⟨n, _, h1, h2, h3, hpost _ _ _ _ _ _ ⟨Cond.after_iff.mpr rfl, Cond.after_iff.mpr (eq_i res_at (Term.int_eval (1)) rfl), trivial⟩ ⟨hq.1, hq.2.1, (hq.2.2.sift fun y hy => Or.inr (N y hy)).mono (by decide) (by decide)⟩⟩
theorem main_1_1 : Claimed_1_1 := comes_1 fun _ _ _ _ _ _ h hF => ⟨h.1, hF⟩
theorem main_1_2 : Claimed_1_2 := comes_1 fun _ _ _ _ _ _ h hF => ⟨h.2.1, hF⟩
end Jvm.Pilot.@@N@@
namespace Jvm.Pilot.@@N@@
open Jvm Jvm.ClassFile Sem Op Lib Jvm.Free Jvm.Stand Jvm.Pilot.@@N@@.Jvm.D
/-! MADE BY PROGRAM (witnessworld.py) out of the Statement's table words and the real class files: 10 classes; the members and pool entries that the words name. The judged class is class 1, her method 1. -/
namespace start1
open Jvm.ClassFile
def u (s : String) : CpInfo := .utf8 (stringToUtf16 s)
/-- a pool by its gaps: so many unusable entries, then the entry; so many at the end -/
def gap : Nat → List CpInfo → List CpInfo
  | 0, r => r
  | n + 1, r => .unusable :: gap n r
def poolList (es : List (Nat × CpInfo)) (last : Nat) : List CpInfo := es.foldr (fun e r => gap e.1 (e.2 :: r)) (gap last [])
def pool (es : List (Nat × CpInfo)) (last : Nat) : Array CpInfo := ⟨poolList es last⟩
def fileOf (pool : Array CpInfo) (this : Nat) (attrs : Array Attribute := #[]) (ms : Array MethodInfo := #[]) (fl : Nat := 33) (sup : Nat := 0) (ifs : Array Nat := #[]) (fds : Array FieldInfo := #[]) : ClassFile where
  minorVersion := 0
  majorVersion := 65
  constantPool := pool
  accessFlags := fl
  thisClass := this
  superClass := sup
  interfaces := ifs
  fields := fds
  methods := ms
  attributes := attrs
def plain (name : String) (sup : Option ClassId) : Class where
  name := name
  kind := .ordinary
  loader := none
  accessFlags := 33
  super := sup
  interfaces := #[]
  cf := none
  fields := #[]
  methods := #[]
  instanceTypes := #[]
  staticTypes := #[]
  resolved := #[]
  callSites := []
  init := .initialized
  statics := none
  mirror := none

def pool0 : Array CpInfo := pool [(5, u "<init>"), (0, u "()V"), (1, .class_ 10), (1, u "java/lang/Object")] 113

def k0m0 : Method := { name := "<init>", desc := "()V", sig := { parameters := [], returnType := none }, accessFlags := 1, code := none }
/-- java/lang/Object -/
def k0 : Class := { plain "java/lang/Object" none with
  accessFlags := 33
  interfaces := #[]
  cf := some (fileOf pool0 8 #[] #[{ accessFlags := 1, nameIndex := 5, descriptorIndex := 6, attributes := #[] }] 33 0 #[] #[])
  fields := #[]
  methods := #[k0m0]
  instanceTypes := #[]
  staticTypes := #[]
  resolved := Array.replicate 124 none
  statics := none }

def pool1 : Array CpInfo := pool [(2, .class_ 4), (1, u "java/lang/Object"), (0, u "<init>"), (0, u "()V"), (0, .integer 536870912), (0, .methodref 9 10), (0, .class_ 11), (0, .nameAndType 12 13), (0, u "com/example/forager/forager/Limits"), (0, u "atLeast"), (0, u "(DD)Z"), (0, .long 17179869184), (1, .methodref 17 18), (0, .class_ 19), (0, .nameAndType 20 21), (0, u "java/lang/Math"), (0, u "abs"), (0, u "(I)I"), (0, .class_ 23), (0, u "com/example/forager/forager/LimitsAtLeastPinLaw"), (2, u "law"), (0, u "(IIII)Z")] 3

def k1m0 : Method := { name := "<init>", desc := "()V", sig := { parameters := [], returnType := none }, accessFlags := 2, code := none }
def k1c1 : Code := { maxStack := 6, maxLocals := 14, code := code, exceptionTable := #[], attributes := #[] }
def k1m1 : Method := { name := "law", desc := "(IIII)Z", sig := { parameters := [.int, .int, .int, .int], returnType := some .boolean }, accessFlags := 9, code := some k1c1 }
/-- com/example/forager/forager/LimitsAtLeastPinLaw -/
def k1 : Class := { plain "com/example/forager/forager/LimitsAtLeastPinLaw" (some 0) with
  accessFlags := 49
  interfaces := #[]
  cf := some (fileOf pool1 22 #[] #[{ accessFlags := 2, nameIndex := 5, descriptorIndex := 6, attributes := #[] }, { accessFlags := 9, nameIndex := 26, descriptorIndex := 27, attributes := #[] }] 49 2 #[] #[])
  fields := #[]
  methods := #[k1m0, k1m1]
  instanceTypes := #[]
  staticTypes := #[]
  resolved := Array.replicate 31 none
  statics := none }

def pool2 : Array CpInfo := pool [(2, .class_ 4), (1, u "java/lang/Object"), (0, u "<init>"), (0, u "()V"), (0, .class_ 8), (0, u "com/example/forager/forager/Limits"), (0, .double 4472406533629990549), (1, .methodref 12 13), (0, .class_ 14), (0, .nameAndType 15 16), (0, u "java/lang/Math"), (0, u "abs"), (0, u "(D)D"), (0, u "MARGIN"), (0, u "D"), (4, u "(DD)Z"), (1, u "atLeast")] 2

def k2m0 : Method := { name := "<init>", desc := "()V", sig := { parameters := [], returnType := none }, accessFlags := 2, code := none }
def k2c1 : Code := { maxStack := 8, maxLocals := 4, code := prog_10_method_3_code, exceptionTable := #[], attributes := #[] }
def k2m1 : Method := { name := "atLeast", desc := "(DD)Z", sig := { parameters := [.double, .double], returnType := some .boolean }, accessFlags := 8, code := some k2c1 }
/-- com/example/forager/forager/Limits -/
def k2 : Class := { plain "com/example/forager/forager/Limits" (some 0) with
  accessFlags := 48
  interfaces := #[]
  cf := some (fileOf pool2 7 #[] #[{ accessFlags := 2, nameIndex := 5, descriptorIndex := 6, attributes := #[] }, { accessFlags := 8, nameIndex := 25, descriptorIndex := 23, attributes := #[] }] 48 2 #[] #[{ accessFlags := 26, nameIndex := 17, descriptorIndex := 18, attributes := #[] }])
  fields := #[{ name := "MARGIN", type := .double, accessFlags := 26, slot := 0, constantValue := 0 }]
  methods := #[k2m0, k2m1]
  instanceTypes := #[]
  staticTypes := #[.double]
  resolved := Array.replicate 28 none
  statics := none }

def pool3 : Array CpInfo := pool [(1, .class_ 2), (0, u "java/lang/Math"), (1, .class_ 6), (1, u "java/lang/Object"), (0, u "<init>"), (0, u "()V"), (5, u "(D)D"), (83, .class_ 100), (1, u "java/lang/Math$RandomNumberGeneratorHolder"), (23, u "abs"), (34, u "(I)I"), (12, u "negativeZeroFloatBits"), (0, u "J"), (2, u "negativeZeroDoubleBits"), (68, u "$assertionsDisabled"), (0, u "Z"), (91, u "twoToTheDoubleScaleDown"), (0, u "D"), (4, u "twoToTheDoubleScaleUp"), (9, u "E"), (3, u "PI"), (2, u "TAU"), (2, u "DEGREES_TO_RADIANS"), (0, u "RADIANS_TO_DEGREES")] 94

def k3m0 : Method := { name := "<init>", desc := "()V", sig := { parameters := [], returnType := none }, accessFlags := 2, code := none }
def k3c1 : Code := { maxStack := 1, maxLocals := 1, code := jdk_29_method_59_code, exceptionTable := #[], attributes := #[] }
def k3m1 : Method := { name := "abs", desc := "(I)I", sig := { parameters := [.int], returnType := some .int }, accessFlags := 9, code := some k3c1 }
def k3c2 : Code := { maxStack := 4, maxLocals := 2, code := jdk_29_method_64_code, exceptionTable := #[], attributes := #[] }
def k3m2 : Method := { name := "abs", desc := "(D)D", sig := { parameters := [.double], returnType := some .double }, accessFlags := 9, code := some k3c2 }
/-- java/lang/Math -/
def k3 : Class := { plain "java/lang/Math" (some 0) with
  accessFlags := 49
  interfaces := #[]
  cf := some (fileOf pool3 1 #[.nestMembers #[98]] #[{ accessFlags := 2, nameIndex := 7, descriptorIndex := 8, attributes := #[] }, { accessFlags := 9, nameIndex := 124, descriptorIndex := 159, attributes := #[] }, { accessFlags := 9, nameIndex := 124, descriptorIndex := 14, attributes := #[] }] 49 4 #[] #[{ accessFlags := 25, nameIndex := 354, descriptorIndex := 339, attributes := #[] }, { accessFlags := 25, nameIndex := 358, descriptorIndex := 339, attributes := #[] }, { accessFlags := 25, nameIndex := 361, descriptorIndex := 339, attributes := #[] }, { accessFlags := 26, nameIndex := 364, descriptorIndex := 339, attributes := #[] }, { accessFlags := 26, nameIndex := 365, descriptorIndex := 339, attributes := #[] }, { accessFlags := 26, nameIndex := 172, descriptorIndex := 173, attributes := #[] }, { accessFlags := 26, nameIndex := 176, descriptorIndex := 173, attributes := #[] }, { accessFlags := 8, nameIndex := 344, descriptorIndex := 339, attributes := #[] }, { accessFlags := 8, nameIndex := 338, descriptorIndex := 339, attributes := #[] }, { accessFlags := 4120, nameIndex := 245, descriptorIndex := 246, attributes := #[] }])
  fields := #[{ name := "E", type := .double, accessFlags := 25, slot := 0, constantValue := 0 }, { name := "PI", type := .double, accessFlags := 25, slot := 1, constantValue := 0 }, { name := "TAU", type := .double, accessFlags := 25, slot := 2, constantValue := 0 }, { name := "DEGREES_TO_RADIANS", type := .double, accessFlags := 26, slot := 3, constantValue := 0 }, { name := "RADIANS_TO_DEGREES", type := .double, accessFlags := 26, slot := 4, constantValue := 0 }, { name := "negativeZeroFloatBits", type := .long, accessFlags := 26, slot := 5, constantValue := 0 }, { name := "negativeZeroDoubleBits", type := .long, accessFlags := 26, slot := 6, constantValue := 0 }, { name := "twoToTheDoubleScaleUp", type := .double, accessFlags := 8, slot := 7, constantValue := 0 }, { name := "twoToTheDoubleScaleDown", type := .double, accessFlags := 8, slot := 8, constantValue := 0 }, { name := "$assertionsDisabled", type := .boolean, accessFlags := 4120, slot := 9, constantValue := 0 }]
  methods := #[k3m0, k3m1, k3m2]
  instanceTypes := #[]
  staticTypes := #[.double, .double, .double, .double, .double, .long, .long, .double, .double, .boolean]
  resolved := Array.replicate 460 none
  statics := none }

def pool4 : Array CpInfo := pool [(1, u "java/lang/Cloneable"), (0, .class_ 1), (0, u "java/lang/Object"), (0, .class_ 3)] 3

/-- java/lang/Cloneable -/
def k4 : Class := { plain "java/lang/Cloneable" (some 0) with
  accessFlags := 1537
  interfaces := #[]
  cf := some (fileOf pool4 2 #[] #[] 1537 4 #[] #[])
  fields := #[]
  methods := #[]
  instanceTypes := #[]
  staticTypes := #[]
  resolved := Array.replicate 8 none
  statics := none }

def pool5 : Array CpInfo := pool [(1, u "java/io/Serializable"), (0, .class_ 1), (0, u "java/lang/Object"), (0, .class_ 3)] 3

/-- java/io/Serializable -/
def k5 : Class := { plain "java/io/Serializable" (some 0) with
  accessFlags := 1537
  interfaces := #[]
  cf := some (fileOf pool5 2 #[] #[] 1537 4 #[] #[])
  fields := #[]
  methods := #[]
  instanceTypes := #[]
  staticTypes := #[]
  resolved := Array.replicate 8 none
  statics := none }

/-- the primitive byte -/
def k6 : Class := { plain "byte" none with kind := .primitive 'B', accessFlags := 0x411 }
/-- [B -/
def k7 : Class := { plain "[B" (some 0) with kind := .array 6 .byte, interfaces := #[4, 5], accessFlags := 1041 }

/-- the primitive int -/
def k8 : Class := { plain "int" none with kind := .primitive 'I', accessFlags := 0x411 }
/-- [I -/
def k9 : Class := { plain "[I" (some 0) with kind := .array 8 .int, interfaces := #[4, 5], accessFlags := 1041 }

def heap : Heap := #[]
def classes : Array Class := #[k0, k1, k2, k3, k4, k5, k6, k7, k8, k9]
def interned : List (Array UInt16 × Addr) := []
def slotsUsed : Nat := 0
def theMethod : MethodId := ⟨1, 1⟩
def args0 : Array Value := #[.int 5, .int 7, .int 9, .int 11]
def aboutOver (below : List Frame) : State where
  vm := { classes := classes, interned := interned.toArray }
  heap := heap
  slotsUsed := slotsUsed
  threads := #[{ frames := .invoking theMethod args0 :: below }]
def below0 : List Frame := [.native { method := ⟨0, 0⟩, args := #[] }]
def about1 : State := aboutOver below0
def p0 : Program := .bare "" "" ""
def e0 : Env := launch0.env 0 0 0
theorem w_frames : about1.frames = Frame.invoking theMethod args0 :: below0 := rfl
set_option maxRecDepth 65536 in
theorem w_args : argsFit about1.vm theMethod args0 = true := by decide +kernel
set_option maxRecDepth 65536 in
theorem w_heap : heapFits about1 = true := by decide +kernel
set_option maxRecDepth 65536 in
theorem w_runnable : about1.curStatus? = some .runnable := by decide +kernel
set_option maxRecDepth 65536 in
theorem w_alone : about1.alone = true := by decide +kernel
set_option maxRecDepth 65536 in
theorem w_named : about1.methodNamed? x = some theMethod := by decide +kernel
set_option maxRecDepth 65536 in
theorem w_hears : about1.hears theMethod below0 = true := by decide +kernel
set_option maxRecDepth 65536 in
theorem w_ripe : about1.ripe theMethod args0 below0 = true := by decide +kernel
theorem w_running : about1.status = .running := rfl
set_option maxRecDepth 65536 in
theorem w_room : about1.hasRoom e0.platform room_1 = true :=
  launch0.hasRoom_least _ room_1 (by decide +kernel) (by decide +kernel) (by decide +kernel) (by decide +kernel) (by decide +kernel) (by decide +kernel)
theorem allAtoms_all (ts : List Jvm.Cond) (a : Array Jvm.Value) (st : Jvm.State) : (allAtoms ts).before a st = ts.all (fun c => c.before a st) := by
  induction ts with
  | nil => rfl
  | cons c t ih =>
    show (Jvm.Cond.and c (allAtoms t)).before a st = _
    rw [Jvm.Cond.before_and, ih, List.all_cons]
def words1 : List Jvm.Cond := Jvm.Cond.code x code maxLocals ret :: tables_1
/-- a 'code' word, met by the world's own term for the bytes: nothing is compared byte by byte -/
theorem code_word {y : MethodName} {bytes : ByteArray} {mx : Nat} {rt : Option FieldType} {a : Array Value} {s : State} {m : MethodId} {meth : Method} {c : Code} (h1 : s.methodNamed? y = some m) (h2 : s.vm.method? m = some meth) (h3 : meth.code = some c) (h4 : c.code = bytes)
    (h5 : (c.maxLocals == mx && c.exceptionTable.isEmpty && decide (c.maxStack ≤ mostOperands) && decide (meth.sig.returnType = rt) && !meth.locks && decide (parseMethodDescriptor y.desc = some meth.sig)) = true) : (Jvm.Cond.code y bytes mx rt).before a s = true := by
  simp only [Bool.and_eq_true, beq_iff_eq, Bool.not_eq_true', decide_eq_true_eq] at h5
  obtain ⟨⟨⟨⟨⟨g1, g2⟩, g3⟩, g4⟩, g5⟩, g6⟩ := h5
  simp [Cond.before, Cond.holds, Cond.value, h1, h2, h3, h4, g1, g2, g3, g4, g5, g6]
def isCode : Jvm.Cond → Bool
  | .code _ _ _ _ => true
  | _ => false
theorem all_split {L : List Jvm.Cond} {P : Jvm.Cond → Bool} (h1 : L.all (fun c => isCode c || P c) = true) (h2 : ∀ c ∈ L.filter isCode, P c = true) : L.all P = true := by
  refine List.all_eq_true.mpr fun c hc => ?_
  have h := List.all_eq_true.mp h1 c hc
  rcases Bool.eq_false_or_eq_true (isCode c) with hi | hi
  · exact h2 c (List.mem_filter.mpr ⟨hc, hi⟩)
  · simpa [hi] using h
set_option maxRecDepth 65536 in
theorem w_c0 : (Jvm.Cond.code x code maxLocals ret).before args0 about1 = true := code_word (m := ⟨1, 1⟩) (meth := k1m1) (c := k1c1) (by decide +kernel) rfl rfl rfl (by decide +kernel)
set_option maxRecDepth 65536 in
theorem w_c1 : (Jvm.Cond.code ({ cls := "com/example/forager/forager/Limits", name := "atLeast", desc := "(DD)Z" } : Jvm.MethodName) prog_10_method_3_code (4 : Nat) (Option.some Jvm.ClassFile.FieldType.boolean)).before args0 about1 = true := code_word (m := ⟨2, 1⟩) (meth := k2m1) (c := k2c1) (by decide +kernel) rfl rfl rfl (by decide +kernel)
set_option maxRecDepth 65536 in
theorem w_c2 : (Jvm.Cond.code ({ cls := "java/lang/Math", name := "abs", desc := "(D)D" } : Jvm.MethodName) jdk_29_method_64_code (2 : Nat) (Option.some Jvm.ClassFile.FieldType.double)).before args0 about1 = true := code_word (m := ⟨3, 2⟩) (meth := k3m2) (c := k3c2) (by decide +kernel) rfl rfl rfl (by decide +kernel)
set_option maxRecDepth 65536 in
theorem w_c3 : (Jvm.Cond.code ({ cls := "java/lang/Math", name := "abs", desc := "(I)I" } : Jvm.MethodName) jdk_29_method_59_code (1 : Nat) (Option.some Jvm.ClassFile.FieldType.int)).before args0 about1 = true := code_word (m := ⟨3, 1⟩) (meth := k3m1) (c := k3c1) (by decide +kernel) rfl rfl rfl (by decide +kernel)
def codes1 : List Jvm.Cond := [Jvm.Cond.code x code maxLocals ret, Jvm.Cond.code ({ cls := "com/example/forager/forager/Limits", name := "atLeast", desc := "(DD)Z" } : Jvm.MethodName) prog_10_method_3_code (4 : Nat) (Option.some Jvm.ClassFile.FieldType.boolean), Jvm.Cond.code ({ cls := "java/lang/Math", name := "abs", desc := "(D)D" } : Jvm.MethodName) jdk_29_method_64_code (2 : Nat) (Option.some Jvm.ClassFile.FieldType.double), Jvm.Cond.code ({ cls := "java/lang/Math", name := "abs", desc := "(I)I" } : Jvm.MethodName) jdk_29_method_59_code (1 : Nat) (Option.some Jvm.ClassFile.FieldType.int)]
set_option maxRecDepth 65536 in
theorem codes_eq : words1.filter isCode = codes1 := rfl
theorem w_codes : ∀ c ∈ words1.filter isCode, c.before args0 about1 = true := by
  rw [codes_eq]
  intro c hc
  simp only [codes1, List.mem_cons, List.not_mem_nil, or_false] at hc
  rcases hc with rfl | rfl | rfl | rfl
  · exact w_c0
  · exact w_c1
  · exact w_c2
  · exact w_c3
set_option maxRecDepth 65536 in
theorem w_t1 : words1.all (fun c => isCode c || c.before args0 about1) = true := by decide +kernel
theorem w_tables : (allAtoms (Jvm.Cond.code x code maxLocals ret :: tables_1)).before args0 about1 = true := by
  rw [allAtoms_all]
  show words1.all (fun c => c.before args0 about1) = true
  refine all_split ?_ w_codes
  rw [w_t1]
set_option maxRecDepth 65536 in
theorem w_case : (Jvm.Cond.and given_1 narrow_1).before args0 about1 = true := by decide +kernel
theorem w_applies : (headSpec (Jvm.Cond.code x code maxLocals ret :: tables_1) room_1).applies x e0.platform about1 = true :=
  (Spec.applies_iff w_frames).mpr ⟨w_running, w_runnable, w_alone, w_named, w_hears, w_ripe, w_room, w_tables⟩
theorem atStart : AtStart classFile x code maxLocals ret World_1 tables_1 room_1 Calls_1 rest_1 Pre_1 launch0 p0 e0 about1 theMethod args0 below0 :=
  ⟨lists_1, trivial, launch0.admits_env _ _ _, launch0.least_env, fairChoices_fair.cas, fairChoices_fair.clock, w_frames, w_args, w_heap, w_applies, trivial, trivial, w_case⟩
end start1
theorem witness_1 : WitnessClaimed_1 := ⟨start1.p0, start1.e0, start1.about1, start1.theMethod, start1.args0, start1.below0, start1.atStart⟩
end Jvm.Pilot.@@N@@
