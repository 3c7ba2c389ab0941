import JvmDerived
import JvmDerived.Pilot.@@N@@Statement
import JvmDerived.Pilot.@@N@@Code
set_option linter.unusedVariables false
set_option linter.unusedSimpArgs false
namespace Jvm.OwnFP
open Jvm.FP Jvm.FP.Core
/-- a double's value in units of the least double, 2^-1074 -/
abbrev Zv (a : UInt64) : Int := zval b64 (val64 a)
theorem fin_ne {a : UInt64} (h : DFin a) : val64 a ≠ .nan := by
  obtain ⟨s, c, q, h⟩ := h; rw [h]; exact Datum.noConfusion
theorem mul_ne {a b : UInt64} (ha : DFin a) (hb : DFin b) : val64 (FP.dmul a b) ≠ .nan :=
  Jvm.Free.Fl.val64_no.mp (Jvm.Free.Fl.dmul_out (Jvm.Free.Fl.fin64_core.mpr ha) (Jvm.Free.Fl.fin64_core.mpr hb))
theorem add_ne {a b : UInt64} (ha : DFin a) (hb : DFin b) : val64 (FP.dadd a b) ≠ .nan :=
  Jvm.Free.Fl.val64_no.mp (Jvm.Free.Fl.dadd_out (Jvm.Free.Fl.fin64_core.mpr ha).noNaN (Jvm.Free.Fl.fin64_core.mpr hb))
theorem sub_ne {a b : UInt64} (ha : DFin a) (hb : DFin b) : val64 (FP.dsub a b) ≠ .nan :=
  Jvm.Free.Fl.val64_no.mp (Jvm.Free.Fl.dsub_out (Jvm.Free.Fl.fin64_core.mpr ha).noNaN (Jvm.Free.Fl.fin64_core.mpr hb))
theorem fin_of {r U V : UInt64} (hr : val64 r ≠ .nan) (hU : DFin U) (hV : DFin V) (h1 : Zv U ≤ Zv r) (h2 : Zv r ≤ Zv V) : DFin r := by
  have uU := hU.zval_lt
  have uV := hV.zval_lt
  have aU : (Zv U).natAbs = zmag b64 (val64 U) := natAbs_signed _ _
  have aV : (Zv V).natAbs = zmag b64 (val64 V) := natAbs_signed _ _
  have ar : (Zv r).natAbs = zmag b64 (val64 r) := natAbs_signed _ _
  cases e : val64 r with
  | nan => exact absurd e hr
  | fin s c q => exact ⟨s, c, q, e⟩
  | inf s =>
    have e2 : zmag b64 (val64 r) = b64.tails * 2 ^ (b64.exps - 2) := by rw [e]; rfl
    rw [e2] at ar
    generalize b64.tails * 2 ^ (b64.exps - 2) = top at *
    omega
theorem dmul_le {a b V : UInt64} (ha : DFin a) (hb : DFin b) (hV : val64 V ≠ .nan) (h : Zv a * Zv b ≤ Zv V * (one64 : Int)) : Zv (FP.dmul a b) ≤ Zv V := by
  obtain ⟨s, c, q, ea⟩ := ha
  obtain ⟨t, d, r, eb⟩ := hb
  have fa := val64_fits a
  have fb := val64_fits b
  unfold Zv at h ⊢
  rw [ea] at fa h
  rw [eb] at fb h
  obtain ⟨p1, p2, p3⟩ := product_units fa fb
  rw [val64_dmul, ea, eb, p1]
  have hq := qmin_neg good_b64
  refine zval_round_le good_b64 (val64_fits V) hV (e0 := 2 * b64.qmin) (by omega) p2 ?_
  rw [p3, signed_xor, show (b64.qmin - 2 * b64.qmin).toNat = (-b64.qmin).toNat by omega, pow_qmin64]
  exact h
theorem dmul_ge {a b V : UInt64} (ha : DFin a) (hb : DFin b) (hV : val64 V ≠ .nan) (h : Zv V * (one64 : Int) ≤ Zv a * Zv b) : Zv V ≤ Zv (FP.dmul a b) := by
  obtain ⟨s, c, q, ea⟩ := ha
  obtain ⟨t, d, r, eb⟩ := hb
  have fa := val64_fits a
  have fb := val64_fits b
  unfold Zv at h ⊢
  rw [ea] at fa h
  rw [eb] at fb h
  obtain ⟨p1, p2, p3⟩ := product_units fa fb
  rw [val64_dmul, ea, eb, p1]
  have hq := qmin_neg good_b64
  refine zval_round_ge good_b64 (val64_fits V) hV (e0 := 2 * b64.qmin) (by omega) p2 ?_
  rw [p3, signed_xor, show (b64.qmin - 2 * b64.qmin).toNat = (-b64.qmin).toNat by omega, pow_qmin64]
  exact h
theorem dadd_le {a b V : UInt64} (ha : DFin a) (hb : DFin b) (hV : val64 V ≠ .nan) (h : Zv a + Zv b ≤ Zv V) : Zv (FP.dadd a b) ≤ Zv V := by
  unfold Zv at h ⊢
  rw [val64_dadd]; exact sum_le good_b64 ha hb (val64_fits a) (val64_fits b) (val64_fits V) hV h
theorem dadd_ge {a b V : UInt64} (ha : DFin a) (hb : DFin b) (hV : val64 V ≠ .nan) (h : Zv V ≤ Zv a + Zv b) : Zv V ≤ Zv (FP.dadd a b) := by
  unfold Zv at h ⊢
  rw [val64_dadd]; exact sum_ge good_b64 ha hb (val64_fits a) (val64_fits b) (val64_fits V) hV h
theorem neg_fin {a : UInt64} (h : DFin a) : DFin (FP.dneg a) := by
  obtain ⟨s, c, q, h⟩ := h
  exact ⟨!s, c, q, by rw [FP.val64_dneg, h]; rfl⟩
theorem Zv_neg (a : UInt64) : Zv (FP.dneg a) = -Zv a := by unfold Zv; rw [FP.val64_dneg, zval_negate]
theorem cneg_fin {a : UInt64} (h : DFin a) : DFin (Core.dneg a) := by
  obtain ⟨s, c, q, h⟩ := h
  exact ⟨!s, c, q, by rw [Core.val64_dneg, h]; rfl⟩
theorem Zv_cneg (a : UInt64) : Zv (Core.dneg a) = -Zv a := by unfold Zv; rw [Core.val64_dneg, zval_negate]
theorem dsub_le {a b V : UInt64} (ha : DFin a) (hb : DFin b) (hV : val64 V ≠ .nan) (h : Zv a - Zv b ≤ Zv V) : Zv (FP.dsub a b) ≤ Zv V := by
  show Zv (Core.dsub a b) ≤ _
  rw [Core.dsub_eq]; exact dadd_le ha (cneg_fin hb) hV (by rw [Zv_cneg]; omega)
theorem dsub_ge {a b V : UInt64} (ha : DFin a) (hb : DFin b) (hV : val64 V ≠ .nan) (h : Zv V ≤ Zv a - Zv b) : Zv V ≤ Zv (FP.dsub a b) := by
  show _ ≤ Zv (Core.dsub a b)
  rw [Core.dsub_eq]; exact dadd_ge ha (cneg_fin hb) hV (by rw [Zv_cneg]; omega)
/-- where the exact value is a double's, it is the result's -/
theorem dmul_eq {a b V : UInt64} (ha : DFin a) (hb : DFin b) (hV : DFin V) (h : Zv a * Zv b = Zv V * (one64 : Int)) : DFin (FP.dmul a b) ∧ Zv (FP.dmul a b) = Zv V := by
  have h1 := dmul_le ha hb (fin_ne hV) (Int.le_of_eq h)
  have h2 := dmul_ge ha hb (fin_ne hV) (Int.le_of_eq h.symm)
  exact ⟨fin_of (mul_ne ha hb) hV hV h2 h1, Int.le_antisymm h1 h2⟩
theorem dadd_eq {a b V : UInt64} (ha : DFin a) (hb : DFin b) (hV : DFin V) (h : Zv a + Zv b = Zv V) : DFin (FP.dadd a b) ∧ Zv (FP.dadd a b) = Zv V := by
  have h1 := dadd_le ha hb (fin_ne hV) (Int.le_of_eq h)
  have h2 := dadd_ge ha hb (fin_ne hV) (Int.le_of_eq h.symm)
  exact ⟨fin_of (add_ne ha hb) hV hV h2 h1, Int.le_antisymm h1 h2⟩
theorem dsub_eq {a b V : UInt64} (ha : DFin a) (hb : DFin b) (hV : DFin V) (h : Zv a - Zv b = Zv V) : DFin (FP.dsub a b) ∧ Zv (FP.dsub a b) = Zv V := by
  have h1 := dsub_le ha hb (fin_ne hV) (Int.le_of_eq h)
  have h2 := dsub_ge ha hb (fin_ne hV) (Int.le_of_eq h.symm)
  exact ⟨fin_of (sub_ne ha hb) hV hV h2 h1, Int.le_antisymm h1 h2⟩
theorem signed_self (N : Int) (k : Nat) : signed (decide (N < 0)) (N.natAbs * k) = N * (k : Int) := by
  rw [signed_mul]
  congr 1
  unfold signed
  by_cases h : N < 0 <;> simp [h] <;> omega
/-- every N * 2^k units, N of up to 53 digits, is a double -/
theorem rep (N : Int) (k : Nat) (hN : N.natAbs < 2 ^ 53) (hk : k ≤ 2045) : ∃ V, DFin V ∧ Zv V = N * ((2 ^ k : Nat) : Int) := by
  have q1 := qmin_b64
  have q2 : b64.qmax = 971 := by decide
  obtain ⟨c', q', h1, h2⟩ := round_exact good_b64 (decide (N < 0)) (c := N.natAbs) (q := (k : Int) - 1074) hN (by omega) (by omega)
  have hv : val64 (of64 (round b64 (.fin (decide (N < 0)) N.natAbs ((k : Int) - 1074)))) = .fin (decide (N < 0)) c' q' := by
    rw [val64_of64 (round_fits good_b64 _), h1]
  refine ⟨_, ⟨_, _, _, hv⟩, ?_⟩
  unfold Zv
  rw [hv]
  show signed (decide (N < 0)) (inUnits c' q' b64.qmin) = _
  rw [h2, q1]
  unfold inUnits
  rw [show ((k : Int) - 1074 - -1074).toNat = k by omega]
  exact signed_self N _
/-- the double a is N * 2^(k - 1074) -/
def Val (a : UInt64) (N : Int) (k : Nat) : Prop := DFin a ∧ Zv a = N * ((2 ^ k : Nat) : Int)
theorem one_pow : (one64 : Int) = ((2 ^ 1074 : Nat) : Int) := rfl
theorem Val.of_int {i : Int} {a : UInt64} (h : DInt i a) : Val a i 1074 := by
  refine ⟨?_, (DInt_zval h).trans (by rw [one_pow])⟩
  unfold DInt at h
  cases e : val64 a with
  | nan => rw [e] at h; exact h.elim
  | inf s => rw [e] at h; exact h.elim
  | fin s c q => exact ⟨s, c, q, e⟩
theorem Val.i2d (n : Int32) : Val (FP.i2d n) n.toInt 1074 := Val.of_int (i2d_int n)
theorem Val.l2d {n : Int64} (h : n.toInt.natAbs ≤ 2 ^ 53) : Val (FP.l2d n) n.toInt 1074 := Val.of_int (l2d_int h)
theorem Val.neg {a : UInt64} {N : Int} {k : Nat} (h : Val a N k) : Val (FP.dneg a) (-N) k := ⟨neg_fin h.1, by rw [Zv_neg, h.2, Int.neg_mul]⟩
theorem pow_cast (k j : Nat) : ((2 ^ (k + j) : Nat) : Int) = ((2 ^ k : Nat) : Int) * ((2 ^ j : Nat) : Int) := by
  rw [Nat.pow_add, Int.natCast_mul]
theorem Val.mul {a b : UInt64} {N M : Int} {k j i : Nat} (ha : Val a N k) (hb : Val b M j) (hN : (N * M).natAbs < 2 ^ 53) (hi : k + j = i + 1074) (hk : i ≤ 2045) : Val (FP.dmul a b) (N * M) i := by
  obtain ⟨V, fV, zV⟩ := rep (N * M) i hN hk
  obtain ⟨h1, h2⟩ := dmul_eq ha.1 hb.1 fV (by
    rw [ha.2, hb.2, zV, one_pow, Int.mul_assoc (N * M), ← pow_cast, ← hi, pow_cast, Int.mul_assoc N M, Int.mul_assoc N, Int.mul_left_comm _ M])
  exact ⟨h1, h2.trans zV⟩
theorem Val.add {a b : UInt64} {N M : Int} {k : Nat} (ha : Val a N k) (hb : Val b M k) (hN : (N + M).natAbs < 2 ^ 53) (hk : k ≤ 2045) : Val (FP.dadd a b) (N + M) k := by
  obtain ⟨V, fV, zV⟩ := rep (N + M) k hN hk
  obtain ⟨h1, h2⟩ := dadd_eq ha.1 hb.1 fV (by rw [ha.2, hb.2, zV, Int.add_mul])
  exact ⟨h1, h2.trans zV⟩
theorem Val.sub {a b : UInt64} {N M : Int} {k : Nat} (ha : Val a N k) (hb : Val b M k) (hN : (N - M).natAbs < 2 ^ 53) (hk : k ≤ 2045) : Val (FP.dsub a b) (N - M) k := by
  obtain ⟨V, fV, zV⟩ := rep (N - M) k hN hk
  obtain ⟨h1, h2⟩ := dsub_eq ha.1 hb.1 fV (by rw [ha.2, hb.2, zV, Int.sub_mul])
  exact ⟨h1, h2.trans zV⟩
theorem pow_pos' (k : Nat) : (0 : Int) < ((2 ^ k : Nat) : Int) := by have := Nat.two_pow_pos k; omega
theorem Val.cmp {a b : UInt64} {N M : Int} {k : Nat} (ha : Val a N k) (hb : Val b M k) : FP.dcmp a b = some (compare N M) := by
  have h : FP.dcmp a b = some (compare (Zv a) (Zv b)) := dcmp_zval (fin_ne ha.1) (fin_ne hb.1)
  rw [h, ha.2, hb.2, compare_mul_pos _ _ _ (pow_pos' k)]
theorem Val.scale {a : UInt64} {N : Int} {k : Nat} (j : Nat) (ha : Val a N (k + j)) : Val a (N * ((2 ^ j : Nat) : Int)) k :=
  ⟨ha.1, by rw [ha.2, pow_cast, Int.mul_assoc, Int.mul_comm ((2 ^ k : Nat) : Int)]⟩
theorem lt_iff {a b : UInt64} (ha : DFin a) (hb : DFin b) : FP.dcmp a b = some .lt ↔ Zv a < Zv b :=
  ⟨fun h => (dcmp_lt.mp h).2.2, fun h => dcmp_lt.mpr ⟨fin_ne ha, fin_ne hb, h⟩⟩
theorem eq_iff {a b : UInt64} (ha : DFin a) (hb : DFin b) : FP.dcmp a b = some .eq ↔ Zv a = Zv b :=
  ⟨fun h => (dcmp_eq.mp h).2.2, fun h => dcmp_eq.mpr ⟨fin_ne ha, fin_ne hb, h⟩⟩
theorem le_iff {a b : UInt64} (ha : DFin a) (hb : DFin b) : (FP.dcmp a b = some .lt ∨ FP.dcmp a b = some .eq) ↔ Zv a ≤ Zv b := by
  rw [lt_iff ha hb, eq_iff ha hb]; omega
theorem dfin_const {a : UInt64} (h : a.toNat % 9223372036854775808 < 9218868437227405312) : DFin a := (Core.fin_bits a).mpr h
end Jvm.OwnFP
namespace Jvm.Pilot.@@N@@
open Jvm Jvm.ClassFile Sem Op Lib Jvm.Free Jvm.Stand Jvm.LawKit Jvm.RoadKit Bundle Jvm.Pilot.@@N@@.Jvm.D
abbrev Go (p : Program) (e : Env) (below : List Frame) (t T : State) (m : MethodId) (pc : Nat) (ls : Array Slot) (st : List Value) : Prop := Steps p.tables e below (T.setTop (mkF m pc ls st)) t
/-- from A the run comes to B -/
def Goes (p : Program) (e : Env) (below : List Frame) (A B : State) : Prop := ∀ t, Steps p.tables e below B t → Steps p.tables e below A t
abbrev dLt (x y : UInt64) : Prop := FP.dcmp x y = some .lt
abbrev dEq (x y : UInt64) : Prop := FP.dcmp x y = some .eq
abbrev dLe (x y : UInt64) : Prop := FP.dcmp x y = some .lt ∨ FP.dcmp x y = some .eq
abbrev fLt (x y : UInt32) : Prop := FP.fcmp x y = some .lt
abbrev fEq (x y : UInt32) : Prop := FP.fcmp x y = some .eq
abbrev fLe (x y : UInt32) : Prop := FP.fcmp x y = some .lt ∨ FP.fcmp x y = some .eq
theorem Sta.keepO {Z : State} {h h' : Heap} {C n d : String} {v : Value} {ws : List Addr} (F : Sta Z h C n d v) (K : Keep h h' ws) (q : ∀ x ∈ ws, ∀ cell : Cell, h[x]? = some cell → cell.vm.isStatics = false) : Sta Z h' C n d v := by
  obtain ⟨cf, i, k, f, st, cell, h1, h2, h3, h4, h5, h6, h7⟩ := F
  refine ⟨cf, i, k, f, st, cell, h1, h2, h3, h4, K.2.1 _ _ h5 fun hm => ?_, h6, h7⟩
  rw [q _ hm _ h5] at h6; cases h6
theorem own_swap (o : Option Ordering) : o.map Ordering.swap = some .lt ↔ o = some .gt := by rcases o with _ | (_ | _ | _) <;> simp [Ordering.swap]
theorem own_swapE (o : Option Ordering) : o.map Ordering.swap = some .eq ↔ o = some .eq := by rcases o with _ | (_ | _ | _) <;> simp [Ordering.swap]
theorem own_dgt (x y : UInt64) : dLt y x ↔ FP.dcmp x y = some .gt := by
  show FP.Core.dcmp y x = some .lt ↔ FP.Core.dcmp x y = some .gt
  rw [FP.Core.dcmp_swap x y]; exact own_swap _
theorem own_dge (x y : UInt64) : dLe y x ↔ (FP.dcmp x y = some .gt ∨ FP.dcmp x y = some .eq) := by
  show (FP.Core.dcmp y x = some .lt ∨ FP.Core.dcmp y x = some .eq) ↔ (FP.Core.dcmp x y = some .gt ∨ FP.Core.dcmp x y = some .eq)
  rw [FP.Core.dcmp_swap x y, own_swap, own_swapE]
theorem own_fgt (x y : UInt32) : fLt y x ↔ FP.fcmp x y = some .gt := by
  show FP.Core.fcmp y x = some .lt ↔ FP.Core.fcmp x y = some .gt
  rw [FP.Core.fcmp_swap x y]; exact own_swap _
theorem own_fge (x y : UInt32) : fLe y x ↔ (FP.fcmp x y = some .gt ∨ FP.fcmp x y = some .eq) := by
  show (FP.Core.fcmp y x = some .lt ∨ FP.Core.fcmp y x = some .eq) ↔ (FP.Core.fcmp x y = some .gt ∨ FP.Core.fcmp x y = some .eq)
  rw [FP.Core.fcmp_swap x y, own_swap, own_swapE]
theorem own_c (o : Option Ordering) :
    (o = some .lt → ifCond.holds .ge (cmpValue o .g) = false ∧ ifCond.holds .lt (cmpValue o .g) = true) ∧
    (¬ o = some .lt → ifCond.holds .ge (cmpValue o .g) = true ∧ ifCond.holds .lt (cmpValue o .g) = false) ∧
    ((o = some .lt ∨ o = some .eq) → ifCond.holds .gt (cmpValue o .g) = false ∧ ifCond.holds .le (cmpValue o .g) = true) ∧
    (¬ (o = some .lt ∨ o = some .eq) → ifCond.holds .gt (cmpValue o .g) = true ∧ ifCond.holds .le (cmpValue o .g) = false) ∧
    (o = some .gt → ifCond.holds .le (cmpValue o .l) = false ∧ ifCond.holds .gt (cmpValue o .l) = true) ∧
    (¬ o = some .gt → ifCond.holds .le (cmpValue o .l) = true ∧ ifCond.holds .gt (cmpValue o .l) = false) ∧
    ((o = some .gt ∨ o = some .eq) → ifCond.holds .lt (cmpValue o .l) = false ∧ ifCond.holds .ge (cmpValue o .l) = true) ∧
    (¬ (o = some .gt ∨ o = some .eq) → ifCond.holds .lt (cmpValue o .l) = true ∧ ifCond.holds .ge (cmpValue o .l) = false) ∧
    (o = some .eq → ∀ q, ifCond.holds .ne (cmpValue o q) = false ∧ ifCond.holds .eq (cmpValue o q) = true) ∧
    (¬ o = some .eq → ∀ q, ifCond.holds .ne (cmpValue o q) = true ∧ ifCond.holds .eq (cmpValue o q) = false) := by
  refine ⟨?_, ?_, ?_, ?_, ?_, ?_, ?_, ?_, ?_, ?_⟩ <;> rcases o with _ | (_ | _ | _) <;> first | (intro h; exact ⟨by decide, by decide⟩) | (intro h q; cases q <;> exact ⟨by decide, by decide⟩) | (intro h; simp at h; done) | (intro h; exact absurd rfl h) | (intro h; exact absurd (Or.inl rfl) h) | (intro h; exact absurd (Or.inr rfl) h)
theorem dc_g_ge_f {x y : UInt64} (h : dLt x y) : ifCond.holds .ge (cmpValue (FP.dcmp x y) .g) = false := ((own_c _).1 h).1
theorem dc_g_ge_t {x y : UInt64} (h : ¬ dLt x y) : ifCond.holds .ge (cmpValue (FP.dcmp x y) .g) = true := ((own_c _).2.1 h).1
theorem dc_g_lt_t {x y : UInt64} (h : dLt x y) : ifCond.holds .lt (cmpValue (FP.dcmp x y) .g) = true := ((own_c _).1 h).2
theorem dc_g_lt_f {x y : UInt64} (h : ¬ dLt x y) : ifCond.holds .lt (cmpValue (FP.dcmp x y) .g) = false := ((own_c _).2.1 h).2
theorem dc_g_gt_f {x y : UInt64} (h : dLe x y) : ifCond.holds .gt (cmpValue (FP.dcmp x y) .g) = false := ((own_c _).2.2.1 h).1
theorem dc_g_gt_t {x y : UInt64} (h : ¬ dLe x y) : ifCond.holds .gt (cmpValue (FP.dcmp x y) .g) = true := ((own_c _).2.2.2.1 h).1
theorem dc_g_le_t {x y : UInt64} (h : dLe x y) : ifCond.holds .le (cmpValue (FP.dcmp x y) .g) = true := ((own_c _).2.2.1 h).2
theorem dc_g_le_f {x y : UInt64} (h : ¬ dLe x y) : ifCond.holds .le (cmpValue (FP.dcmp x y) .g) = false := ((own_c _).2.2.2.1 h).2
theorem dc_l_le_f {x y : UInt64} (h : dLt y x) : ifCond.holds .le (cmpValue (FP.dcmp x y) .l) = false := ((own_c _).2.2.2.2.1 ((own_dgt x y).mp h)).1
theorem dc_l_le_t {x y : UInt64} (h : ¬ dLt y x) : ifCond.holds .le (cmpValue (FP.dcmp x y) .l) = true := ((own_c _).2.2.2.2.2.1 (fun q => h ((own_dgt x y).mpr q))).1
theorem dc_l_gt_t {x y : UInt64} (h : dLt y x) : ifCond.holds .gt (cmpValue (FP.dcmp x y) .l) = true := ((own_c _).2.2.2.2.1 ((own_dgt x y).mp h)).2
theorem dc_l_gt_f {x y : UInt64} (h : ¬ dLt y x) : ifCond.holds .gt (cmpValue (FP.dcmp x y) .l) = false := ((own_c _).2.2.2.2.2.1 (fun q => h ((own_dgt x y).mpr q))).2
theorem dc_l_lt_f {x y : UInt64} (h : dLe y x) : ifCond.holds .lt (cmpValue (FP.dcmp x y) .l) = false := ((own_c _).2.2.2.2.2.2.1 ((own_dge x y).mp h)).1
theorem dc_l_lt_t {x y : UInt64} (h : ¬ dLe y x) : ifCond.holds .lt (cmpValue (FP.dcmp x y) .l) = true := ((own_c _).2.2.2.2.2.2.2.1 (fun q => h ((own_dge x y).mpr q))).1
theorem dc_l_ge_t {x y : UInt64} (h : dLe y x) : ifCond.holds .ge (cmpValue (FP.dcmp x y) .l) = true := ((own_c _).2.2.2.2.2.2.1 ((own_dge x y).mp h)).2
theorem dc_l_ge_f {x y : UInt64} (h : ¬ dLe y x) : ifCond.holds .ge (cmpValue (FP.dcmp x y) .l) = false := ((own_c _).2.2.2.2.2.2.2.1 (fun q => h ((own_dge x y).mpr q))).2
theorem dc_l_ne_f {x y : UInt64} (h : dEq x y) : ifCond.holds .ne (cmpValue (FP.dcmp x y) .l) = false := ((own_c _).2.2.2.2.2.2.2.2.1 h _).1
theorem dc_l_ne_t {x y : UInt64} (h : ¬ dEq x y) : ifCond.holds .ne (cmpValue (FP.dcmp x y) .l) = true := ((own_c _).2.2.2.2.2.2.2.2.2 h _).1
theorem dc_l_eq_t {x y : UInt64} (h : dEq x y) : ifCond.holds .eq (cmpValue (FP.dcmp x y) .l) = true := ((own_c _).2.2.2.2.2.2.2.2.1 h _).2
theorem dc_l_eq_f {x y : UInt64} (h : ¬ dEq x y) : ifCond.holds .eq (cmpValue (FP.dcmp x y) .l) = false := ((own_c _).2.2.2.2.2.2.2.2.2 h _).2
theorem dc_g_ne_f {x y : UInt64} (h : dEq x y) : ifCond.holds .ne (cmpValue (FP.dcmp x y) .g) = false := ((own_c _).2.2.2.2.2.2.2.2.1 h _).1
theorem dc_g_ne_t {x y : UInt64} (h : ¬ dEq x y) : ifCond.holds .ne (cmpValue (FP.dcmp x y) .g) = true := ((own_c _).2.2.2.2.2.2.2.2.2 h _).1
theorem dc_g_eq_t {x y : UInt64} (h : dEq x y) : ifCond.holds .eq (cmpValue (FP.dcmp x y) .g) = true := ((own_c _).2.2.2.2.2.2.2.2.1 h _).2
theorem dc_g_eq_f {x y : UInt64} (h : ¬ dEq x y) : ifCond.holds .eq (cmpValue (FP.dcmp x y) .g) = false := ((own_c _).2.2.2.2.2.2.2.2.2 h _).2
theorem fc_g_ge_f {x y : UInt32} (h : fLt x y) : ifCond.holds .ge (cmpValue (FP.fcmp x y) .g) = false := ((own_c _).1 h).1
theorem fc_g_ge_t {x y : UInt32} (h : ¬ fLt x y) : ifCond.holds .ge (cmpValue (FP.fcmp x y) .g) = true := ((own_c _).2.1 h).1
theorem fc_g_lt_t {x y : UInt32} (h : fLt x y) : ifCond.holds .lt (cmpValue (FP.fcmp x y) .g) = true := ((own_c _).1 h).2
theorem fc_g_lt_f {x y : UInt32} (h : ¬ fLt x y) : ifCond.holds .lt (cmpValue (FP.fcmp x y) .g) = false := ((own_c _).2.1 h).2
theorem fc_g_gt_f {x y : UInt32} (h : fLe x y) : ifCond.holds .gt (cmpValue (FP.fcmp x y) .g) = false := ((own_c _).2.2.1 h).1
theorem fc_g_gt_t {x y : UInt32} (h : ¬ fLe x y) : ifCond.holds .gt (cmpValue (FP.fcmp x y) .g) = true := ((own_c _).2.2.2.1 h).1
theorem fc_g_le_t {x y : UInt32} (h : fLe x y) : ifCond.holds .le (cmpValue (FP.fcmp x y) .g) = true := ((own_c _).2.2.1 h).2
theorem fc_g_le_f {x y : UInt32} (h : ¬ fLe x y) : ifCond.holds .le (cmpValue (FP.fcmp x y) .g) = false := ((own_c _).2.2.2.1 h).2
theorem fc_l_le_f {x y : UInt32} (h : fLt y x) : ifCond.holds .le (cmpValue (FP.fcmp x y) .l) = false := ((own_c _).2.2.2.2.1 ((own_fgt x y).mp h)).1
theorem fc_l_le_t {x y : UInt32} (h : ¬ fLt y x) : ifCond.holds .le (cmpValue (FP.fcmp x y) .l) = true := ((own_c _).2.2.2.2.2.1 (fun q => h ((own_fgt x y).mpr q))).1
theorem fc_l_gt_t {x y : UInt32} (h : fLt y x) : ifCond.holds .gt (cmpValue (FP.fcmp x y) .l) = true := ((own_c _).2.2.2.2.1 ((own_fgt x y).mp h)).2
theorem fc_l_gt_f {x y : UInt32} (h : ¬ fLt y x) : ifCond.holds .gt (cmpValue (FP.fcmp x y) .l) = false := ((own_c _).2.2.2.2.2.1 (fun q => h ((own_fgt x y).mpr q))).2
theorem fc_l_lt_f {x y : UInt32} (h : fLe y x) : ifCond.holds .lt (cmpValue (FP.fcmp x y) .l) = false := ((own_c _).2.2.2.2.2.2.1 ((own_fge x y).mp h)).1
theorem fc_l_lt_t {x y : UInt32} (h : ¬ fLe y x) : ifCond.holds .lt (cmpValue (FP.fcmp x y) .l) = true := ((own_c _).2.2.2.2.2.2.2.1 (fun q => h ((own_fge x y).mpr q))).1
theorem fc_l_ge_t {x y : UInt32} (h : fLe y x) : ifCond.holds .ge (cmpValue (FP.fcmp x y) .l) = true := ((own_c _).2.2.2.2.2.2.1 ((own_fge x y).mp h)).2
theorem fc_l_ge_f {x y : UInt32} (h : ¬ fLe y x) : ifCond.holds .ge (cmpValue (FP.fcmp x y) .l) = false := ((own_c _).2.2.2.2.2.2.2.1 (fun q => h ((own_fge x y).mpr q))).2
theorem fc_l_ne_f {x y : UInt32} (h : fEq x y) : ifCond.holds .ne (cmpValue (FP.fcmp x y) .l) = false := ((own_c _).2.2.2.2.2.2.2.2.1 h _).1
theorem fc_l_ne_t {x y : UInt32} (h : ¬ fEq x y) : ifCond.holds .ne (cmpValue (FP.fcmp x y) .l) = true := ((own_c _).2.2.2.2.2.2.2.2.2 h _).1
theorem fc_l_eq_t {x y : UInt32} (h : fEq x y) : ifCond.holds .eq (cmpValue (FP.fcmp x y) .l) = true := ((own_c _).2.2.2.2.2.2.2.2.1 h _).2
theorem fc_l_eq_f {x y : UInt32} (h : ¬ fEq x y) : ifCond.holds .eq (cmpValue (FP.fcmp x y) .l) = false := ((own_c _).2.2.2.2.2.2.2.2.2 h _).2
theorem fc_g_ne_f {x y : UInt32} (h : fEq x y) : ifCond.holds .ne (cmpValue (FP.fcmp x y) .g) = false := ((own_c _).2.2.2.2.2.2.2.2.1 h _).1
theorem fc_g_ne_t {x y : UInt32} (h : ¬ fEq x y) : ifCond.holds .ne (cmpValue (FP.fcmp x y) .g) = true := ((own_c _).2.2.2.2.2.2.2.2.2 h _).1
theorem fc_g_eq_t {x y : UInt32} (h : fEq x y) : ifCond.holds .eq (cmpValue (FP.fcmp x y) .g) = true := ((own_c _).2.2.2.2.2.2.2.2.1 h _).2
theorem fc_g_eq_f {x y : UInt32} (h : ¬ fEq x y) : ifCond.holds .eq (cmpValue (FP.fcmp x y) .g) = false := ((own_c _).2.2.2.2.2.2.2.2.2 h _).2
theorem own_nn (a : Int32) : Jvm.Free.Fl.NoNaN64 (FP.dmul (FP.i2d a) 1) := Jvm.Free.Fl.dmul_out (Jvm.Free.Fl.i2d_fin _) (by unfold Jvm.Free.Fl.Fin64; decide)
theorem d0_0 : decode method_2_code 0 = .ok (.iload_n 0, 1) := by decide +kernel
theorem d0_1 : decode method_2_code 1 = .ok (.i2d, 1) := by decide +kernel
theorem d0_2 : decode method_2_code 2 = .ok (.dstore_n 2, 1) := by decide +kernel
theorem d0_3 : decode method_2_code 3 = .ok (.iload_n 1, 1) := by decide +kernel
theorem d0_4 : decode method_2_code 4 = .ok (.ifCond .ne 5, 3) := by decide +kernel
theorem d0_7 : decode method_2_code 7 = .ok (.dload_n 2, 1) := by decide +kernel
theorem d0_8 : decode method_2_code 8 = .ok (.dreturn, 1) := by decide +kernel
theorem d0_9 : decode method_2_code 9 = .ok (.iload_n 1, 1) := by decide +kernel
theorem d0_10 : decode method_2_code 10 = .ok (.iconst 1, 1) := by decide +kernel
theorem d0_11 : decode method_2_code 11 = .ok (.if_icmp .ne 6, 3) := by decide +kernel
theorem d0_14 : decode method_2_code 14 = .ok (.dload_n 2, 1) := by decide +kernel
theorem d0_15 : decode method_2_code 15 = .ok (.dneg, 1) := by decide +kernel
theorem d0_16 : decode method_2_code 16 = .ok (.dreturn, 1) := by decide +kernel
theorem d0_17 : decode method_2_code 17 = .ok (.dload_n 2, 1) := by decide +kernel
theorem d0_18 : decode method_2_code 18 = .ok (.ldc2_w 7, 3) := by decide +kernel
theorem d0_21 : decode method_2_code 21 = .ok (.dmul, 1) := by decide +kernel
theorem d0_22 : decode method_2_code 22 = .ok (.dstore 4, 2) := by decide +kernel
theorem d0_24 : decode method_2_code 24 = .ok (.iload_n 1, 1) := by decide +kernel
theorem d0_25 : decode method_2_code 25 = .ok (.iconst 2, 1) := by decide +kernel
theorem d0_26 : decode method_2_code 26 = .ok (.if_icmp .ne 6, 3) := by decide +kernel
theorem d0_29 : decode method_2_code 29 = .ok (.dload 4, 2) := by decide +kernel
theorem d0_31 : decode method_2_code 31 = .ok (.dreturn, 1) := by decide +kernel
theorem d0_32 : decode method_2_code 32 = .ok (.dload 4, 2) := by decide +kernel
theorem d0_34 : decode method_2_code 34 = .ok (.dneg, 1) := by decide +kernel
theorem d0_35 : decode method_2_code 35 = .ok (.dreturn, 1) := by decide +kernel
theorem pd0 : parseMethodDescriptor "(II)D" = some ⟨[.int, .int], some .double⟩ := by decide +kernel
theorem pf_sc : plainFor (⟨"com/example/kettenbruch/kettenbruch/ComplexIsZeroPinLaw", "scale", "(II)D"⟩ : MethodName) = true := by first | exact plainFor_of_name (by first | (simp [plainName, overriddenIn, x]; done) | decide +kernel) | exact Jvm.Free.JP.mathPlain rfl (by decide +kernel) | decide +kernel
theorem ef_sc (m : MethodId) (xa : Int32) (xk : Int32) : entryFrame m #[(.int xa), (.int xk)] 6 = mkF m 0 #[iv xa, iv xk, .unset, .unset, .unset, .unset] [] := by first | (simp [entryFrame, mkF, argsToLocals, Value.category, maxLocals]; done) | rfl
def f_sc (xa : Int32) (xk : Int32) : UInt64 := (if xk = 0 then (FP.i2d xa) else (if xk = (1 : Int32) then (FP.dneg (FP.i2d xa)) else (if xk = (2 : Int32) then (FP.dmul (FP.i2d xa) (1 : UInt64)) else (FP.dneg (FP.dmul (FP.i2d xa) (1 : UInt64))))))
def Q_sc (Z : State) (xa : Int32) (xk : Int32)  (h0 : Heap) (n0 : Nat) (v : Option Value) (h : Heap) (L : List Loc) : Prop := v = some (.double (f_sc xa xk)) ∧ Fr n0 L ∧ h = h0
set_option maxRecDepth 65536 in
set_option maxHeartbeats 40000000 in
theorem rm_sc (l : Launch) (Z : State) (a0 : Array Value) (hw : ∀ d ∈ tables_1, d.before a0 Z = true) (ws : List Jvm.Cond) (xa : Int32) (xk : Int32)  (h0 : Heap) (n0 : Nat) (Z0 : n0 ≤ h0.size)   :
    MetFree l (⟨"com/example/kettenbruch/kettenbruch/ComplexIsZeroPinLaw", "scale", "(II)D"⟩ : MethodName) (head1 (Jvm.Cond.code (⟨"com/example/kettenbruch/kettenbruch/ComplexIsZeroPinLaw", "scale", "(II)D"⟩ : MethodName) method_2_code 6 (some .double) :: ws) ({ frames := 0, cells := 0, slots := 0, locals := 0 } : Room)) (fun a U => a = #[(.int xa), (.int xk)] ∧ Z.Warmed39 U.vm ∧ U.heap = h0) (fun _ _ _ _ _ => True) (fun _ U o U' => ∃ v L, o = .returned v ∧ Q_sc Z xa xk  h0 n0 v U'.heap L ∧ FrameEnd U o U' L ({ frames := 0, cells := 0, slots := 0, locals := 0 } : Room).cells ({ frames := 0, cells := 0, slots := 0, locals := 0 } : Room).slots) := by
  refine MetFree.of_bodySF pf_sc hisR ?_
  intro p e s m args below meth c s₁ Bd hml0 hP hK
  obtain ⟨rfl, hZ, hh⟩ := hP
  have hx := Bd.exec
  have hby := Bd.bytes
  have hml : c.maxLocals = 6 := hml0
  have hown : s.vm.findClass "com/example/kettenbruch/kettenbruch/ComplexIsZeroPinLaw" = some m.cls := findClass_of_methodNamed Bd.named
  have hnm := (name_of_methodNamed Bd.named Bd.method).1
  have X0 : Stand p l e ({ frames := 0, cells := 0, slots := 0, locals := 0 } : Room) s m #[(.int xa), (.int xk)] below meth c s₁ [] 0 0 := Stand.of_body Bd
  have e0 : s₁.heap = h0 := by rw [← hh, Bd.state]; rfl
  have N0 := Fr.nil n0
  obtain ⟨S0, hS0⟩ : ∃ z, z = s₁.setTop (entryFrame m #[(.int xa), (.int xk)] 6) := ⟨_, rfl⟩
  rw [← hS0]
  have g0 : Goes p e below S0 (s₁.setTop (mkF m 0 #[iv xa, iv xk, .unset, .unset, .unset, .unset] [])) := fun t k => by rw [hS0]; exact castTop (ef_sc m xa xk) k
  have g1 : Goes p e below S0 (s₁.setTop (mkF m 4 #[iv xa, iv xk, .val (.double (FP.i2d xa)), .second, .unset, .unset] [(.int xk)])) := fun t k => g0 t (by
    refine XS.iloadN X0.here hx rfl (hb hby d0_0) rfl ?_
    show Go p e below t s₁ m 1 #[iv xa, iv xk, .unset, .unset, .unset, .unset] [(.int xa)]
    refine XS.i2dS X0.here hx rfl (hb hby d0_1) rfl rfl ?_
    show Go p e below t s₁ m 2 #[iv xa, iv xk, .unset, .unset, .unset, .unset] [(.double (FP.i2d xa))]
    refine XS.dstoreN X0.here hx rfl (hb hby d0_2) rfl (l' := #[iv xa, iv xk, .val (.double (FP.i2d xa)), .second, .unset, .unset]) rfl ?_
    show Go p e below t s₁ m 3 #[iv xa, iv xk, .val (.double (FP.i2d xa)), .second, .unset, .unset] []
    refine XS.iloadN X0.here hx rfl (hb hby d0_3) rfl ?_
    show Go p e below t s₁ m 4 #[iv xa, iv xk, .val (.double (FP.i2d xa)), .second, .unset, .unset] [(.int xk)]
    exact k)
  by_cases h2 : xk = 0
  · skip
    have g3 : Goes p e below S0 (s₁.setTop (mkF m 8 #[iv xa, iv xk, .val (.double (FP.i2d xa)), .second, .unset, .unset] [(.double (FP.i2d xa))])) := fun t k => g1 t (by
      refine XS.ifNo X0.here hx rfl (hb hby d0_4) rfl (XT.i0_ne_f h2) ?_
      show Go p e below t s₁ m 7 #[iv xa, iv xk, .val (.double (FP.i2d xa)), .second, .unset, .unset] []
      refine XS.dloadN X0.here hx rfl (hb hby d0_7) rfl ?_
      show Go p e below t s₁ m 8 #[iv xa, iv xk, .val (.double (FP.i2d xa)), .second, .unset, .unset] [(.double (FP.i2d xa))]
      exact k)
    obtain ⟨fs, hr, hrun, hended, hW, hsame⟩ := X0.leave (v := some (.double (FP.i2d xa))) (fun h => by rw [Bd.returns] at h; cases h)
    refine ⟨_, _, g3 _ (retOut X0 hx Bd.returns rfl (Or.inr (Or.inr (Or.inl ⟨rfl, rfl, _, rfl⟩))) (hb hby d0_8) hr), hrun, hended, _, _, rfl, ?_, ⟨_, rfl⟩, hW, hsame.mono (by decide) (by decide)⟩
    show Q_sc Z xa xk  h0 n0 _ s₁.heap _
    rw [e0]
    exact ⟨by unfold f_sc; rw [if_pos h2], N0, rfl⟩
  · skip
    have g4 : Goes p e below S0 (s₁.setTop (mkF m 11 #[iv xa, iv xk, .val (.double (FP.i2d xa)), .second, .unset, .unset] [(.int (1 : Int32)), (.int xk)])) := fun t k => g1 t (by
      refine XS.ifYes X0.here hx rfl (pc0 := 4) (pc' := 9) rfl (hb hby d0_4) rfl (XT.i0_ne_t h2) (by decide) (by decide) ?_
      show Go p e below t s₁ m 9 #[iv xa, iv xk, .val (.double (FP.i2d xa)), .second, .unset, .unset] []
      refine XS.iloadN X0.here hx rfl (hb hby d0_9) rfl ?_
      show Go p e below t s₁ m 10 #[iv xa, iv xk, .val (.double (FP.i2d xa)), .second, .unset, .unset] [(.int xk)]
      refine XT.iconstV X0.here hx rfl (1 : Int32) (hb hby d0_10) (by decide) ?_
      show Go p e below t s₁ m 11 #[iv xa, iv xk, .val (.double (FP.i2d xa)), .second, .unset, .unset] [(.int (1 : Int32)), (.int xk)]
      exact k)
    by_cases h5 : xk = (1 : Int32)
    · skip
      have g6 : Goes p e below S0 (s₁.setTop (mkF m 16 #[iv xa, iv xk, .val (.double (FP.i2d xa)), .second, .unset, .unset] [(.double (FP.dneg (FP.i2d xa)))])) := fun t k => g4 t (by
        refine XS.icmpNo X0.here hx rfl (hb hby d0_11) rfl (XT.ii_ne_f h5) ?_
        show Go p e below t s₁ m 14 #[iv xa, iv xk, .val (.double (FP.i2d xa)), .second, .unset, .unset] []
        refine XS.dloadN X0.here hx rfl (hb hby d0_14) rfl ?_
        show Go p e below t s₁ m 15 #[iv xa, iv xk, .val (.double (FP.i2d xa)), .second, .unset, .unset] [(.double (FP.i2d xa))]
        refine XS.dnegS X0.here hx rfl (hb hby d0_15) rfl rfl ?_
        show Go p e below t s₁ m 16 #[iv xa, iv xk, .val (.double (FP.i2d xa)), .second, .unset, .unset] [(.double (FP.dneg (FP.i2d xa)))]
        exact k)
      obtain ⟨fs, hr, hrun, hended, hW, hsame⟩ := X0.leave (v := some (.double (FP.dneg (FP.i2d xa)))) (fun h => by rw [Bd.returns] at h; cases h)
      refine ⟨_, _, g6 _ (retOut X0 hx Bd.returns rfl (Or.inr (Or.inr (Or.inl ⟨rfl, rfl, _, rfl⟩))) (hb hby d0_16) hr), hrun, hended, _, _, rfl, ?_, ⟨_, rfl⟩, hW, hsame.mono (by decide) (by decide)⟩
      show Q_sc Z xa xk  h0 n0 _ s₁.heap _
      rw [e0]
      exact ⟨by unfold f_sc; rw [if_neg h2, if_pos h5], N0, rfl⟩
    · skip
      have g7 : Goes p e below S0 (s₁.setTop (mkF m 26 #[iv xa, iv xk, .val (.double (FP.i2d xa)), .second, .val (.double (FP.dmul (FP.i2d xa) (1 : UInt64))), .second] [(.int (2 : Int32)), (.int xk)])) := fun t k => g4 t (by
        refine XS.icmpYes X0.here hx rfl (pc0 := 11) (pc' := 17) rfl (hb hby d0_11) rfl (XT.ii_ne_t h5) (by decide) (by decide) ?_
        show Go p e below t s₁ m 17 #[iv xa, iv xk, .val (.double (FP.i2d xa)), .second, .unset, .unset] []
        refine XS.dloadN X0.here hx rfl (hb hby d0_17) rfl ?_
        show Go p e below t s₁ m 18 #[iv xa, iv xk, .val (.double (FP.i2d xa)), .second, .unset, .unset] [(.double (FP.i2d xa))]
        refine X0.ldc2DoubleC hx hown (mvT hZ (hw _ (List.mem_of_getElem? (i := 4) rfl))) (g := (mkF m 18 #[iv xa, iv xk, .val (.double (FP.i2d xa)), .second, .unset, .unset] [(.double (FP.i2d xa))])) rfl (hb hby d0_18) _ ?_
        show Go p e below t s₁ m 21 #[iv xa, iv xk, .val (.double (FP.i2d xa)), .second, .unset, .unset] [(.double (1 : UInt64)), (.double (FP.i2d xa))]
        refine XS.dmulS X0.here hx rfl (hb hby d0_21) rfl (own_nn xa) rfl ?_
        show Go p e below t s₁ m 22 #[iv xa, iv xk, .val (.double (FP.i2d xa)), .second, .unset, .unset] [(.double (FP.dmul (FP.i2d xa) (1 : UInt64)))]
        refine XS.dstore X0.here hx rfl (hb hby d0_22) rfl (l' := #[iv xa, iv xk, .val (.double (FP.i2d xa)), .second, .val (.double (FP.dmul (FP.i2d xa) (1 : UInt64))), .second]) rfl ?_
        show Go p e below t s₁ m 24 #[iv xa, iv xk, .val (.double (FP.i2d xa)), .second, .val (.double (FP.dmul (FP.i2d xa) (1 : UInt64))), .second] []
        refine XS.iloadN X0.here hx rfl (hb hby d0_24) rfl ?_
        show Go p e below t s₁ m 25 #[iv xa, iv xk, .val (.double (FP.i2d xa)), .second, .val (.double (FP.dmul (FP.i2d xa) (1 : UInt64))), .second] [(.int xk)]
        refine XT.iconstV X0.here hx rfl (2 : Int32) (hb hby d0_25) (by decide) ?_
        show Go p e below t s₁ m 26 #[iv xa, iv xk, .val (.double (FP.i2d xa)), .second, .val (.double (FP.dmul (FP.i2d xa) (1 : UInt64))), .second] [(.int (2 : Int32)), (.int xk)]
        exact k)
      by_cases h8 : xk = (2 : Int32)
      · skip
        have g9 : Goes p e below S0 (s₁.setTop (mkF m 31 #[iv xa, iv xk, .val (.double (FP.i2d xa)), .second, .val (.double (FP.dmul (FP.i2d xa) (1 : UInt64))), .second] [(.double (FP.dmul (FP.i2d xa) (1 : UInt64)))])) := fun t k => g7 t (by
          refine XS.icmpNo X0.here hx rfl (hb hby d0_26) rfl (XT.ii_ne_f h8) ?_
          show Go p e below t s₁ m 29 #[iv xa, iv xk, .val (.double (FP.i2d xa)), .second, .val (.double (FP.dmul (FP.i2d xa) (1 : UInt64))), .second] []
          refine XS.dload X0.here hx rfl (hb hby d0_29) rfl ?_
          show Go p e below t s₁ m 31 #[iv xa, iv xk, .val (.double (FP.i2d xa)), .second, .val (.double (FP.dmul (FP.i2d xa) (1 : UInt64))), .second] [(.double (FP.dmul (FP.i2d xa) (1 : UInt64)))]
          exact k)
        obtain ⟨fs, hr, hrun, hended, hW, hsame⟩ := X0.leave (v := some (.double (FP.dmul (FP.i2d xa) (1 : UInt64)))) (fun h => by rw [Bd.returns] at h; cases h)
        refine ⟨_, _, g9 _ (retOut X0 hx Bd.returns rfl (Or.inr (Or.inr (Or.inl ⟨rfl, rfl, _, rfl⟩))) (hb hby d0_31) hr), hrun, hended, _, _, rfl, ?_, ⟨_, rfl⟩, hW, hsame.mono (by decide) (by decide)⟩
        show Q_sc Z xa xk  h0 n0 _ s₁.heap _
        rw [e0]
        exact ⟨by unfold f_sc; rw [if_neg h2, if_neg h5, if_pos h8], N0, rfl⟩
      · skip
        have g10 : Goes p e below S0 (s₁.setTop (mkF m 35 #[iv xa, iv xk, .val (.double (FP.i2d xa)), .second, .val (.double (FP.dmul (FP.i2d xa) (1 : UInt64))), .second] [(.double (FP.dneg (FP.dmul (FP.i2d xa) (1 : UInt64))))])) := fun t k => g7 t (by
          refine XS.icmpYes X0.here hx rfl (pc0 := 26) (pc' := 32) rfl (hb hby d0_26) rfl (XT.ii_ne_t h8) (by decide) (by decide) ?_
          show Go p e below t s₁ m 32 #[iv xa, iv xk, .val (.double (FP.i2d xa)), .second, .val (.double (FP.dmul (FP.i2d xa) (1 : UInt64))), .second] []
          refine XS.dload X0.here hx rfl (hb hby d0_32) rfl ?_
          show Go p e below t s₁ m 34 #[iv xa, iv xk, .val (.double (FP.i2d xa)), .second, .val (.double (FP.dmul (FP.i2d xa) (1 : UInt64))), .second] [(.double (FP.dmul (FP.i2d xa) (1 : UInt64)))]
          refine XS.dnegS X0.here hx rfl (hb hby d0_34) rfl rfl ?_
          show Go p e below t s₁ m 35 #[iv xa, iv xk, .val (.double (FP.i2d xa)), .second, .val (.double (FP.dmul (FP.i2d xa) (1 : UInt64))), .second] [(.double (FP.dneg (FP.dmul (FP.i2d xa) (1 : UInt64))))]
          exact k)
        obtain ⟨fs, hr, hrun, hended, hW, hsame⟩ := X0.leave (v := some (.double (FP.dneg (FP.dmul (FP.i2d xa) (1 : UInt64))))) (fun h => by rw [Bd.returns] at h; cases h)
        refine ⟨_, _, g10 _ (retOut X0 hx Bd.returns rfl (Or.inr (Or.inr (Or.inl ⟨rfl, rfl, _, rfl⟩))) (hb hby d0_35) hr), hrun, hended, _, _, rfl, ?_, ⟨_, rfl⟩, hW, hsame.mono (by decide) (by decide)⟩
        show Q_sc Z xa xk  h0 n0 _ s₁.heap _
        rw [e0]
        exact ⟨by unfold f_sc; rw [if_neg h2, if_neg h5, if_neg h8], N0, rfl⟩
theorem d2_0 : decode jdk_30_method_1_code 0 = .ok (.aload_n 0, 1) := by decide +kernel
theorem d2_1 : decode jdk_30_method_1_code 1 = .ok (.invokespecial 1, 3) := by decide +kernel
theorem d2_4 : decode jdk_30_method_1_code 4 = .ok (.return_, 1) := by decide +kernel
theorem pd1 : parseMethodDescriptor "()V" = some ⟨[], none⟩ := by decide +kernel
theorem pf_rec : plainFor (⟨"java/lang/Record", "<init>", "()V"⟩ : MethodName) = true := by first | exact plainFor_of_name (by first | (simp [plainName, overriddenIn, x]; done) | decide +kernel) | exact Jvm.Free.JP.mathPlain rfl (by decide +kernel) | decide +kernel
theorem ef_rec (m : MethodId) (ra : Addr) : entryFrame m #[(.ref ra)] 1 = mkF m 0 #[rv ra] [] := by first | (simp [entryFrame, mkF, argsToLocals, Value.category, maxLocals]; done) | rfl
def Q_rec (Z : State) (ra : Addr)  (h0 : Heap) (n0 : Nat) (v : Option Value) (h : Heap) (L : List Loc) : Prop := v = none ∧ Fr n0 L ∧ h = h0
set_option maxRecDepth 65536 in
set_option maxHeartbeats 40000000 in
theorem rm_rec (l : Launch) (Z : State) (a0 : Array Value) (hw : ∀ d ∈ tables_1, d.before a0 Z = true) (ws : List Jvm.Cond) (ra : Addr)  (h0 : Heap) (n0 : Nat) (Z0 : n0 ≤ h0.size)   :
    MetFree l (⟨"java/lang/Record", "<init>", "()V"⟩ : MethodName) (head1 (Jvm.Cond.code (⟨"java/lang/Record", "<init>", "()V"⟩ : MethodName) jdk_30_method_1_code 1 none :: ws) ({ frames := 1, cells := 0, slots := 0, locals := 12 } : Room)) (fun a U => a = #[(.ref ra)] ∧ Z.Warmed39 U.vm ∧ U.heap = h0) (fun _ _ _ _ _ => True) (fun _ U o U' => ∃ v L, o = .returned v ∧ Q_rec Z ra  h0 n0 v U'.heap L ∧ FrameEnd U o U' L ({ frames := 1, cells := 0, slots := 0, locals := 12 } : Room).cells ({ frames := 1, cells := 0, slots := 0, locals := 12 } : Room).slots) := by
  refine MetFree.of_bodySF pf_rec hisR ?_
  intro p e s m args below meth c s₁ Bd hml0 hP hK
  obtain ⟨rfl, hZ, hh⟩ := hP
  have hx := Bd.exec
  have hby := Bd.bytes
  have hml : c.maxLocals = 1 := hml0
  have hown : s.vm.findClass "java/lang/Record" = some m.cls := findClass_of_methodNamed Bd.named
  have hnm := (name_of_methodNamed Bd.named Bd.method).1
  have X0 : Stand p l e ({ frames := 1, cells := 0, slots := 0, locals := 12 } : Room) s m #[(.ref ra)] below meth c s₁ [] 0 0 := Stand.of_body Bd
  have e0 : s₁.heap = h0 := by rw [← hh, Bd.state]; rfl
  have N0 := Fr.nil n0
  obtain ⟨S0, hS0⟩ : ∃ z, z = s₁.setTop (entryFrame m #[(.ref ra)] 1) := ⟨_, rfl⟩
  rw [← hS0]
  have g0 : Goes p e below S0 (s₁.setTop (mkF m 0 #[rv ra] [])) := fun t k => by rw [hS0]; exact castTop (ef_rec m ra) k
  have g11 : Goes p e below S0 (s₁.setTop (mkF m 1 #[rv ra] [(.ref ra)])) := fun t k => g0 t (by
    refine XS.aloadN X0.here hx rfl (hb hby d2_0) rfl rfl ?_
    show Go p e below t s₁ m 1 #[rv ra] [(.ref ra)]
    exact k)
  obtain ⟨T12, X12, e12, st12⟩ := initO X0 hx hZ hown (hw _ (List.mem_of_getElem? (i := 16) rfl)) (hw _ (List.mem_of_getElem? (i := 17) rfl)) (hw _ (List.mem_of_getElem? (i := 18) rfl)) e0 (g := (mkF m 1 #[rv ra] [(.ref ra)])) rfl (by rw [hml]; rfl) rfl (hb hby d2_1) (by decide) (W := 0) (by show 2 * 0 + _ ≤ _; exact Nat.le_of_eq rfl) (by decide)
  have g13 : Goes p e below S0 (T12.setTop (mkF m 4 #[rv ra] [])) := fun t k => g11 t (st12 t k)
  obtain ⟨fs, hr, hrun, hended, hW, hsame⟩ := X12.leave (v := none) (fun _ => rfl)
  refine ⟨_, _, g13 _ (X12.returnOut hx Bd.returns (hb hby d2_4) hr), hrun, hended, _, _, rfl, ?_, ⟨_, rfl⟩, hW, hsame.mono (by decide) (by decide)⟩
  show Q_rec Z ra  h0 n0 _ T12.heap _
  rw [e12]
  exact ⟨rfl, N0, rfl⟩
theorem d1_0 : decode prog_1_method_1_code 0 = .ok (.aload_n 0, 1) := by decide +kernel
theorem d1_1 : decode prog_1_method_1_code 1 = .ok (.invokespecial 1, 3) := by decide +kernel
theorem d1_4 : decode prog_1_method_1_code 4 = .ok (.aload_n 0, 1) := by decide +kernel
theorem d1_5 : decode prog_1_method_1_code 5 = .ok (.dload_n 1, 1) := by decide +kernel
theorem d1_6 : decode prog_1_method_1_code 6 = .ok (.putfield 7, 3) := by decide +kernel
theorem d1_9 : decode prog_1_method_1_code 9 = .ok (.aload_n 0, 1) := by decide +kernel
theorem d1_10 : decode prog_1_method_1_code 10 = .ok (.dload_n 3, 1) := by decide +kernel
theorem d1_11 : decode prog_1_method_1_code 11 = .ok (.putfield 13, 3) := by decide +kernel
theorem d1_14 : decode prog_1_method_1_code 14 = .ok (.return_, 1) := by decide +kernel
theorem pd2 : parseMethodDescriptor "(DD)V" = some ⟨[.double, .double], none⟩ := by decide +kernel
theorem pf_ini : plainFor (⟨"com/example/kettenbruch/kettenbruch/Complex", "<init>", "(DD)V"⟩ : MethodName) = true := by first | exact plainFor_of_name (by first | (simp [plainName, overriddenIn, x]; done) | decide +kernel) | exact Jvm.Free.JP.mathPlain rfl (by decide +kernel) | decide +kernel
theorem ef_ini (m : MethodId) (ca : Addr) (cx : UInt64) (cy : UInt64) : entryFrame m #[(.ref ca), (.double cx), (.double cy)] 5 = mkF m 0 #[rv ca, .val (.double cx), .second, .val (.double cy), .second] [] := by first | (simp [entryFrame, mkF, argsToLocals, Value.category, maxLocals]; done) | rfl
def Q_ini (Z : State) (ca : Addr) (cx : UInt64) (cy : UInt64)  (h0 : Heap) (n0 : Nat) (v : Option Value) (h : Heap) (L : List Loc) : Prop := v = none ∧ Fr n0 L ∧ (Keep h0 h [ca]) ∧ (Exa Z h ca "com/example/kettenbruch/kettenbruch/Complex") ∧ (Fld Z h ca "com/example/kettenbruch/kettenbruch/Complex" "re" "D" (.double cx)) ∧ (Fld Z h ca "com/example/kettenbruch/kettenbruch/Complex" "im" "D" (.double cy))
set_option maxRecDepth 65536 in
set_option maxHeartbeats 40000000 in
theorem rm_ini (l : Launch) (Z : State) (a0 : Array Value) (hw : ∀ d ∈ tables_1, d.before a0 Z = true) (ws : List Jvm.Cond) (ca : Addr) (cx : UInt64) (cy : UInt64)  (h0 : Heap) (n0 : Nat) (Z0 : n0 ≤ h0.size) (P0 : Exa Z h0 ca "com/example/kettenbruch/kettenbruch/Complex") (P1 : Fld Z h0 ca "com/example/kettenbruch/kettenbruch/Complex" "re" "D" (.double (0 : UInt64))) (P2 : Fld Z h0 ca "com/example/kettenbruch/kettenbruch/Complex" "im" "D" (.double (0 : UInt64))) (P3 : n0 ≤ ca)  :
    MetFree l (⟨"com/example/kettenbruch/kettenbruch/Complex", "<init>", "(DD)V"⟩ : MethodName) (head1 (Jvm.Cond.code (⟨"com/example/kettenbruch/kettenbruch/Complex", "<init>", "(DD)V"⟩ : MethodName) prog_1_method_1_code 5 none :: ws) ({ frames := 2, cells := 0, slots := 0, locals := 24 } : Room)) (fun a U => a = #[(.ref ca), (.double cx), (.double cy)] ∧ Z.Warmed39 U.vm ∧ U.heap = h0) (fun _ _ _ _ _ => True) (fun _ U o U' => ∃ v L, o = .returned v ∧ Q_ini Z ca cx cy  h0 n0 v U'.heap L ∧ FrameEnd U o U' L ({ frames := 2, cells := 0, slots := 0, locals := 24 } : Room).cells ({ frames := 2, cells := 0, slots := 0, locals := 24 } : Room).slots) := by
  refine MetFree.of_bodySF pf_ini hisR ?_
  intro p e s m args below meth c s₁ Bd hml0 hP hK
  obtain ⟨rfl, hZ, hh⟩ := hP
  have hx := Bd.exec
  have hby := Bd.bytes
  have hml : c.maxLocals = 5 := hml0
  have hown : s.vm.findClass "com/example/kettenbruch/kettenbruch/Complex" = some m.cls := findClass_of_methodNamed Bd.named
  have hnm := (name_of_methodNamed Bd.named Bd.method).1
  have X0 : Stand p l e ({ frames := 2, cells := 0, slots := 0, locals := 24 } : Room) s m #[(.ref ca), (.double cx), (.double cy)] below meth c s₁ [] 0 0 := Stand.of_body Bd
  have e0 : s₁.heap = h0 := by rw [← hh, Bd.state]; rfl
  have N0 := Fr.nil n0
  obtain ⟨S0, hS0⟩ : ∃ z, z = s₁.setTop (entryFrame m #[(.ref ca), (.double cx), (.double cy)] 5) := ⟨_, rfl⟩
  rw [← hS0]
  have g0 : Goes p e below S0 (s₁.setTop (mkF m 0 #[rv ca, .val (.double cx), .second, .val (.double cy), .second] [])) := fun t k => by rw [hS0]; exact castTop (ef_ini m ca cx cy) k
  have g14 : Goes p e below S0 (s₁.setTop (mkF m 1 #[rv ca, .val (.double cx), .second, .val (.double cy), .second] [(.ref ca)])) := fun t k => g0 t (by
    refine XS.aloadN X0.here hx rfl (hb hby d1_0) rfl rfl ?_
    show Go p e below t s₁ m 1 #[rv ca, .val (.double cx), .second, .val (.double cy), .second] [(.ref ca)]
    exact k)
  obtain ⟨_, _, ⟨T15, L15, k15, n15⟩, -, X15, ⟨Lc15, hQ15, l15, y15, z15⟩, st15⟩ := X0.specialBack hx (y := (⟨"java/lang/Record", "<init>", "()V"⟩ : MethodName)) rfl hown (mvT hZ (hw _ (List.mem_of_getElem? (i := 11) rfl))) (mvT hZ (hw _ (List.mem_of_getElem? (i := 12) rfl))) (mvT hZ (hw _ (List.mem_of_getElem? (i := 15) rfl))) (by decide) (backOf (W := 0) (rm_rec l Z a0 hw [] ca  h0 n0 Z0 ) hZ (hw _ (List.mem_of_getElem? (i := 15) rfl)) (hw _ (List.mem_of_getElem? (i := 14) rfl)) (by decide) (by decide)) (g := (mkF m 1 #[rv ca, .val (.double cx), .second, .val (.double cy), .second] [(.ref ca)])) rfl (by rw [hml]; rfl) (Steps.refl _) (a := ca) (argsL := []) (rest := []) (lenOf pd1 rfl) rfl (by show 2 * 0 + _ ≤ _; exact Nat.le_of_eq rfl) (hb hby d1_1) (fun _ _ => ⟨rfl, e0, (by decide : 0 + 0 ≤ _), (by decide : 0 + 0 ≤ _)⟩)
  dsimp only [Pt.U, Pt.locs, Pt.cells, Pt.slots] at X15 l15 y15 z15 st15 hQ15
  subst l15 y15 z15
  obtain ⟨rfl, N15, R15_0⟩ := hQ15
  have M15 := Fr.app N0 N15
  have g16 : Goes p e below S0 (T15.setTop (mkF m 4 #[rv ca, .val (.double cx), .second, .val (.double cy), .second] [])) := fun t k => g14 t (st15.trans k)
  have g17 : Goes p e below S0 (T15.setTop (mkF m 6 #[rv ca, .val (.double cx), .second, .val (.double cy), .second] [(.double cx), (.ref ca)])) := fun t k => g16 t (by
    refine XS.aloadN X15.here hx rfl (hb hby d1_4) rfl rfl ?_
    show Go p e below t T15 m 5 #[rv ca, .val (.double cx), .second, .val (.double cy), .second] [(.ref ca)]
    refine XS.dloadN X15.here hx rfl (hb hby d1_5) rfl ?_
    show Go p e below t T15 m 6 #[rv ca, .val (.double cx), .second, .val (.double cy), .second] [(.double cx), (.ref ca)]
    exact k)
  obtain ⟨T18, h18, X18, e18, W18, st18⟩ := putF X15 hx hZ hown (host := "") (Or.inl (hw _ (List.mem_of_getElem? (i := 19) rfl))) Via.refl R15_0 P1 P0 (Or.inr ⟨(hw _ (List.mem_of_getElem? (i := 20) rfl)), rfl, hnm⟩) (hw _ (List.mem_of_getElem? (i := 6) rfl)) (ty := .double) (by decide) rfl rfl (g := (mkF m 6 #[rv ca, .val (.double cx), .second, .val (.double cy), .second] [(.double cx), (.ref ca)])) rfl rfl (hb hby d1_6)
  have N18 := Fr.snoc X18 M15 P3
  have Fw18 := Fld.same W18 P1
  have g19 : Goes p e below S0 (T18.setTop (mkF m 9 #[rv ca, .val (.double cx), .second, .val (.double cy), .second] [])) := fun t k => g17 t (st18 t k)
  have g20 : Goes p e below S0 (T18.setTop (mkF m 11 #[rv ca, .val (.double cx), .second, .val (.double cy), .second] [(.double cy), (.ref ca)])) := fun t k => g19 t (by
    refine XS.aloadN X18.here hx rfl (hb hby d1_9) rfl rfl ?_
    show Go p e below t T18 m 10 #[rv ca, .val (.double cx), .second, .val (.double cy), .second] [(.ref ca)]
    refine XS.dloadN X18.here hx rfl (hb hby d1_10) rfl ?_
    show Go p e below t T18 m 11 #[rv ca, .val (.double cx), .second, .val (.double cy), .second] [(.double cy), (.ref ca)]
    exact k)
  obtain ⟨T21, h21, X21, e21, W21, st21⟩ := putF X18 hx hZ hown (host := "") (Or.inl (hw _ (List.mem_of_getElem? (i := 21) rfl))) Via.refl e18 (P2.other W18 (Or.inr (slot_ne (Or.inr (hw _ (List.mem_of_getElem? (i := 22) rfl))) (Or.inr (hw _ (List.mem_of_getElem? (i := 20) rfl))) (by decide) (t := .double) (t' := .double) (by decide) (by decide)))) (P0.wr W18) (Or.inr ⟨(hw _ (List.mem_of_getElem? (i := 22) rfl)), rfl, hnm⟩) (hw _ (List.mem_of_getElem? (i := 6) rfl)) (ty := .double) (by decide) rfl rfl (g := (mkF m 11 #[rv ca, .val (.double cx), .second, .val (.double cy), .second] [(.double cy), (.ref ca)])) rfl rfl (hb hby d1_11)
  have N21 := Fr.snoc X21 N18 P3
  have Fw21 := Fld.same W21 (P2.other W18 (Or.inr (slot_ne (Or.inr (hw _ (List.mem_of_getElem? (i := 22) rfl))) (Or.inr (hw _ (List.mem_of_getElem? (i := 20) rfl))) (by decide) (t := .double) (t' := .double) (by decide) (by decide))))
  have g22 : Goes p e below S0 (T21.setTop (mkF m 14 #[rv ca, .val (.double cx), .second, .val (.double cy), .second] [])) := fun t k => g20 t (st21 t k)
  obtain ⟨fs, hr, hrun, hended, hW, hsame⟩ := X21.leave (v := none) (fun _ => rfl)
  refine ⟨_, _, g22 _ (X21.returnOut hx Bd.returns (hb hby d1_14) hr), hrun, hended, _, _, rfl, ?_, ⟨_, rfl⟩, hW, hsame.mono (by decide) (by decide)⟩
  show Q_ini Z ca cx cy  h0 n0 _ T21.heap _
  rw [e21]
  exact ⟨rfl, N21, (((Keep.refl h0 [ca]).wr W18 (Or.inl (List.mem_of_getElem? (i := 0) rfl))).wr W21 (Or.inl (List.mem_of_getElem? (i := 0) rfl))), ((P0.wr W18).wr W21), (Fw18.other W21 (Or.inr (slot_ne (Or.inr (hw _ (List.mem_of_getElem? (i := 20) rfl))) (Or.inr (hw _ (List.mem_of_getElem? (i := 22) rfl))) (by decide) (t := .double) (t' := .double) (by decide) (by decide)))), Fw21⟩
theorem d4_0 : decode prog_1_method_4_code 0 = .ok (.aload_n 0, 1) := by decide +kernel
theorem d4_1 : decode prog_1_method_4_code 1 = .ok (.getfield 7, 3) := by decide +kernel
theorem d4_4 : decode prog_1_method_4_code 4 = .ok (.dconst 0, 1) := by decide +kernel
theorem d4_5 : decode prog_1_method_4_code 5 = .ok (.dcmp .l, 1) := by decide +kernel
theorem d4_6 : decode prog_1_method_4_code 6 = .ok (.ifCond .ne 16, 3) := by decide +kernel
theorem d4_9 : decode prog_1_method_4_code 9 = .ok (.aload_n 0, 1) := by decide +kernel
theorem d4_10 : decode prog_1_method_4_code 10 = .ok (.getfield 13, 3) := by decide +kernel
theorem d4_13 : decode prog_1_method_4_code 13 = .ok (.dconst 0, 1) := by decide +kernel
theorem d4_14 : decode prog_1_method_4_code 14 = .ok (.dcmp .l, 1) := by decide +kernel
theorem d4_15 : decode prog_1_method_4_code 15 = .ok (.ifCond .ne 7, 3) := by decide +kernel
theorem d4_18 : decode prog_1_method_4_code 18 = .ok (.iconst 1, 1) := by decide +kernel
theorem d4_19 : decode prog_1_method_4_code 19 = .ok (.goto 4, 3) := by decide +kernel
theorem d4_22 : decode prog_1_method_4_code 22 = .ok (.iconst 0, 1) := by decide +kernel
theorem d4_23 : decode prog_1_method_4_code 23 = .ok (.ireturn, 1) := by decide +kernel
theorem pd3 : parseMethodDescriptor "()Z" = some ⟨[], some .boolean⟩ := by decide +kernel
theorem pf_isz : plainFor (⟨"com/example/kettenbruch/kettenbruch/Complex", "isZero", "()Z"⟩ : MethodName) = true := by first | exact plainFor_of_name (by first | (simp [plainName, overriddenIn, x]; done) | decide +kernel) | exact Jvm.Free.JP.mathPlain rfl (by decide +kernel) | decide +kernel
theorem ef_isz (m : MethodId) (za : Addr) : entryFrame m #[(.ref za)] 1 = mkF m 0 #[rv za] [] := by first | (simp [entryFrame, mkF, argsToLocals, Value.category, maxLocals]; done) | rfl
def f_isz (zx : UInt64) (zy : UInt64) : Int32 := (if dEq zx (0 : UInt64) then (if dEq zy (0 : UInt64) then (1 : Int32) else (0 : Int32)) else (0 : Int32))
def Q_isz (Z : State) (za : Addr) (zx : UInt64) (zy : UInt64) (h0 : Heap) (n0 : Nat) (v : Option Value) (h : Heap) (L : List Loc) : Prop := v = some (.int (f_isz zx zy)) ∧ Fr n0 L ∧ h = h0
set_option maxRecDepth 65536 in
set_option maxHeartbeats 40000000 in
theorem rm_isz (l : Launch) (Z : State) (a0 : Array Value) (hw : ∀ d ∈ tables_1, d.before a0 Z = true) (ws : List Jvm.Cond) (za : Addr) (zx : UInt64) (zy : UInt64) (h0 : Heap) (n0 : Nat) (Z0 : n0 ≤ h0.size) (P0 : Fld Z h0 za "com/example/kettenbruch/kettenbruch/Complex" "re" "D" (.double zx)) (P1 : Fld Z h0 za "com/example/kettenbruch/kettenbruch/Complex" "im" "D" (.double zy))  :
    MetFree l (⟨"com/example/kettenbruch/kettenbruch/Complex", "isZero", "()Z"⟩ : MethodName) (head1 (Jvm.Cond.code (⟨"com/example/kettenbruch/kettenbruch/Complex", "isZero", "()Z"⟩ : MethodName) prog_1_method_4_code 1 (some .boolean) :: ws) ({ frames := 0, cells := 0, slots := 0, locals := 0 } : Room)) (fun a U => a = #[(.ref za)] ∧ Z.Warmed39 U.vm ∧ U.heap = h0) (fun _ _ _ _ _ => True) (fun _ U o U' => ∃ v L, o = .returned v ∧ Q_isz Z za zx zy h0 n0 v U'.heap L ∧ FrameEnd U o U' L ({ frames := 0, cells := 0, slots := 0, locals := 0 } : Room).cells ({ frames := 0, cells := 0, slots := 0, locals := 0 } : Room).slots) := by
  refine MetFree.of_bodySF pf_isz hisR ?_
  intro p e s m args below meth c s₁ Bd hml0 hP hK
  obtain ⟨rfl, hZ, hh⟩ := hP
  have hx := Bd.exec
  have hby := Bd.bytes
  have hml : c.maxLocals = 1 := hml0
  have hown : s.vm.findClass "com/example/kettenbruch/kettenbruch/Complex" = some m.cls := findClass_of_methodNamed Bd.named
  have hnm := (name_of_methodNamed Bd.named Bd.method).1
  have X0 : Stand p l e ({ frames := 0, cells := 0, slots := 0, locals := 0 } : Room) s m #[(.ref za)] below meth c s₁ [] 0 0 := Stand.of_body Bd
  have e0 : s₁.heap = h0 := by rw [← hh, Bd.state]; rfl
  have N0 := Fr.nil n0
  obtain ⟨S0, hS0⟩ : ∃ z, z = s₁.setTop (entryFrame m #[(.ref za)] 1) := ⟨_, rfl⟩
  rw [← hS0]
  have g0 : Goes p e below S0 (s₁.setTop (mkF m 0 #[rv za] [])) := fun t k => by rw [hS0]; exact castTop (ef_isz m za) k
  have g23 : Goes p e below S0 (s₁.setTop (mkF m 1 #[rv za] [(.ref za)])) := fun t k => g0 t (by
    refine XS.aloadN X0.here hx rfl (hb hby d4_0) rfl rfl ?_
    show Go p e below t s₁ m 1 #[rv za] [(.ref za)]
    exact k)
  obtain ⟨T24, X24, e24, st24⟩ := getF X0 hx hZ hown (host := "") (Or.inl (hw _ (List.mem_of_getElem? (i := 19) rfl))) Via.refl e0 P0 (g := (mkF m 1 #[rv za] [(.ref za)])) rfl rfl (hb hby d4_1)
  have g25 : Goes p e below S0 (T24.setTop (mkF m 4 #[rv za] [(.double zx)])) := fun t k => g23 t (st24 t k)
  have g26 : Goes p e below S0 (T24.setTop (mkF m 6 #[rv za] [(.int (cmpValue (FP.dcmp zx (0 : UInt64)) .l))])) := fun t k => g25 t (by
    refine XS.dconst0 X24.here hx rfl (hb hby d4_4) (v := (0 : UInt64)) rfl ?_
    show Go p e below t T24 m 5 #[rv za] [(.double (0 : UInt64)), (.double zx)]
    refine XS.dcmpS X24.here hx rfl (hb hby d4_5) rfl rfl ?_
    show Go p e below t T24 m 6 #[rv za] [(.int (cmpValue (FP.dcmp zx (0 : UInt64)) .l))]
    exact k)
  by_cases h27 : dEq zx (0 : UInt64)
  · skip
    have g28 : Goes p e below S0 (T24.setTop (mkF m 10 #[rv za] [(.ref za)])) := fun t k => g26 t (by
      refine XS.ifNo X24.here hx rfl (hb hby d4_6) rfl (dc_l_ne_f h27) ?_
      show Go p e below t T24 m 9 #[rv za] []
      refine XS.aloadN X24.here hx rfl (hb hby d4_9) rfl rfl ?_
      show Go p e below t T24 m 10 #[rv za] [(.ref za)]
      exact k)
    obtain ⟨T29, X29, e29, st29⟩ := getF X24 hx hZ hown (host := "") (Or.inl (hw _ (List.mem_of_getElem? (i := 21) rfl))) Via.refl e24 P1 (g := (mkF m 10 #[rv za] [(.ref za)])) rfl rfl (hb hby d4_10)
    have g30 : Goes p e below S0 (T29.setTop (mkF m 13 #[rv za] [(.double zy)])) := fun t k => g28 t (st29 t k)
    have g31 : Goes p e below S0 (T29.setTop (mkF m 15 #[rv za] [(.int (cmpValue (FP.dcmp zy (0 : UInt64)) .l))])) := fun t k => g30 t (by
      refine XS.dconst0 X29.here hx rfl (hb hby d4_13) (v := (0 : UInt64)) rfl ?_
      show Go p e below t T29 m 14 #[rv za] [(.double (0 : UInt64)), (.double zy)]
      refine XS.dcmpS X29.here hx rfl (hb hby d4_14) rfl rfl ?_
      show Go p e below t T29 m 15 #[rv za] [(.int (cmpValue (FP.dcmp zy (0 : UInt64)) .l))]
      exact k)
    by_cases h32 : dEq zy (0 : UInt64)
    · skip
      have g33 : Goes p e below S0 (T29.setTop (mkF m 23 #[rv za] [(.int (1 : Int32))])) := fun t k => g31 t (by
        refine XS.ifNo X29.here hx rfl (hb hby d4_15) rfl (dc_l_ne_f h32) ?_
        show Go p e below t T29 m 18 #[rv za] []
        refine XT.iconstV X29.here hx rfl (1 : Int32) (hb hby d4_18) (by decide) ?_
        show Go p e below t T29 m 19 #[rv za] [(.int (1 : Int32))]
        refine XS.goto X29.here hx rfl (pc0 := 19) (pc' := 23) rfl (hb hby d4_19) (by decide) (by decide) ?_
        show Go p e below t T29 m 23 #[rv za] [(.int (1 : Int32))]
        exact k)
      obtain ⟨fs, hr, hrun, hended, hW, hsame⟩ := X29.leave (v := some (.int (1 : Int32))) (fun h => by rw [Bd.returns] at h; cases h)
      refine ⟨_, _, g33 _ (retN X29 hx (t := .boolean) Bd.returns (by simp) (hb hby d4_23) hr), hrun, hended, _, _, rfl, ?_, ⟨_, rfl⟩, hW, hsame.mono (by decide) (by decide)⟩
      show Q_isz Z za zx zy h0 n0 _ T29.heap _
      rw [e29]
      exact ⟨by unfold f_isz; rw [if_pos h27, if_pos h32], N0, rfl⟩
    · skip
      have g34 : Goes p e below S0 (T29.setTop (mkF m 23 #[rv za] [(.int (0 : Int32))])) := fun t k => g31 t (by
        refine XS.ifYes X29.here hx rfl (pc0 := 15) (pc' := 22) rfl (hb hby d4_15) rfl (dc_l_ne_t h32) (by decide) (by decide) ?_
        show Go p e below t T29 m 22 #[rv za] []
        refine XT.iconstV X29.here hx rfl (0 : Int32) (hb hby d4_22) (by decide) ?_
        show Go p e below t T29 m 23 #[rv za] [(.int (0 : Int32))]
        exact k)
      obtain ⟨fs, hr, hrun, hended, hW, hsame⟩ := X29.leave (v := some (.int (0 : Int32))) (fun h => by rw [Bd.returns] at h; cases h)
      refine ⟨_, _, g34 _ (retN X29 hx (t := .boolean) Bd.returns (by simp) (hb hby d4_23) hr), hrun, hended, _, _, rfl, ?_, ⟨_, rfl⟩, hW, hsame.mono (by decide) (by decide)⟩
      show Q_isz Z za zx zy h0 n0 _ T29.heap _
      rw [e29]
      exact ⟨by unfold f_isz; rw [if_pos h27, if_neg h32], N0, rfl⟩
  · skip
    have g35 : Goes p e below S0 (T24.setTop (mkF m 23 #[rv za] [(.int (0 : Int32))])) := fun t k => g26 t (by
      refine XS.ifYes X24.here hx rfl (pc0 := 6) (pc' := 22) rfl (hb hby d4_6) rfl (dc_l_ne_t h27) (by decide) (by decide) ?_
      show Go p e below t T24 m 22 #[rv za] []
      refine XT.iconstV X24.here hx rfl (0 : Int32) (hb hby d4_22) (by decide) ?_
      show Go p e below t T24 m 23 #[rv za] [(.int (0 : Int32))]
      exact k)
    obtain ⟨fs, hr, hrun, hended, hW, hsame⟩ := X24.leave (v := some (.int (0 : Int32))) (fun h => by rw [Bd.returns] at h; cases h)
    refine ⟨_, _, g35 _ (retN X24 hx (t := .boolean) Bd.returns (by simp) (hb hby d4_23) hr), hrun, hended, _, _, rfl, ?_, ⟨_, rfl⟩, hW, hsame.mono (by decide) (by decide)⟩
    show Q_isz Z za zx zy h0 n0 _ T24.heap _
    rw [e24]
    exact ⟨by unfold f_isz; rw [if_neg h27], N0, rfl⟩
theorem pd4 : parseMethodDescriptor "(III)Z" = some ⟨[.int, .int, .int], some .boolean⟩ := by decide +kernel
theorem pf_law : plainFor x = true := by first | exact plainFor_of_name (by first | (simp [plainName, overriddenIn, x]; done) | decide +kernel) | exact Jvm.Free.JP.mathPlain rfl (by decide +kernel) | decide +kernel
theorem ef_law (m : MethodId) (i0 : Int32) (i1 : Int32) (i2 : Int32) : entryFrame m #[(.int i0), (.int i1), (.int i2)] maxLocals = mkF m 0 #[iv i0, iv i1, iv i2, .unset, .unset, .unset, .unset, .unset] [] := by first | (simp [entryFrame, mkF, argsToLocals, Value.category, maxLocals]; done) | rfl
def f_law (i0 : Int32) (i1 : Int32) (i2 : Int32) : Int32 := (if i0 = 0 then (if i1 = 0 then (if (f_isz  (f_sc i0 (i2 &&& (3 : Int32))) (f_sc i1 ((((i2).toUInt32 >>> ((2 : Int32) &&& 31).toUInt32).toInt32) &&& (3 : Int32)))) = (1 : Int32) then (1 : Int32) else (0 : Int32)) else (if (f_isz  (f_sc i0 (i2 &&& (3 : Int32))) (f_sc i1 ((((i2).toUInt32 >>> ((2 : Int32) &&& 31).toUInt32).toInt32) &&& (3 : Int32)))) = (0 : Int32) then (1 : Int32) else (0 : Int32))) else (if (f_isz  (f_sc i0 (i2 &&& (3 : Int32))) (f_sc i1 ((((i2).toUInt32 >>> ((2 : Int32) &&& 31).toUInt32).toInt32) &&& (3 : Int32)))) = (0 : Int32) then (1 : Int32) else (0 : Int32)))
def Q_law (Z : State) (i0 : Int32) (i1 : Int32) (i2 : Int32)  (h0 : Heap) (n0 : Nat) (v : Option Value) (h : Heap) (L : List Loc) : Prop := v = some (.int (f_law i0 i1 i2)) ∧ Fr n0 L
set_option maxRecDepth 65536 in
set_option maxHeartbeats 40000000 in
theorem rm_law (l : Launch) (Z : State) (a0 : Array Value) (hw : ∀ d ∈ tables_1, d.before a0 Z = true) (ws : List Jvm.Cond) (i0 : Int32) (i1 : Int32) (i2 : Int32)  (h0 : Heap) (n0 : Nat) (Z0 : n0 ≤ h0.size)   :
    MetFree l x (head1 (Jvm.Cond.code x code maxLocals ret :: ws) room_1) (fun a U => a = #[(.int i0), (.int i1), (.int i2)] ∧ Z.Warmed39 U.vm ∧ U.heap = h0) (fun _ _ _ _ _ => True) (fun _ U o U' => ∃ v L, o = .returned v ∧ Q_law Z i0 i1 i2  h0 n0 v U'.heap L ∧ FrameEnd U o U' L 16 128) := by
  refine MetFree.of_bodySF pf_law hisR ?_
  intro p e s m args below meth c s₁ Bd hml0 hP hK
  obtain ⟨rfl, hZ, hh⟩ := hP
  have hx := Bd.exec
  have hby := Bd.bytes
  have hml : c.maxLocals = 8 := hml0
  have hown : s.vm.findClass "com/example/kettenbruch/kettenbruch/ComplexIsZeroPinLaw" = some m.cls := findClass_of_methodNamed Bd.named
  have hnm := (name_of_methodNamed Bd.named Bd.method).1
  have X0 : Stand p l e room_1 s m #[(.int i0), (.int i1), (.int i2)] below meth c s₁ [] 0 0 := Stand.of_body Bd
  have e0 : s₁.heap = h0 := by rw [← hh, Bd.state]; rfl
  have N0 := Fr.nil n0
  obtain ⟨S0, hS0⟩ : ∃ z, z = s₁.setTop (entryFrame m #[(.int i0), (.int i1), (.int i2)] maxLocals) := ⟨_, rfl⟩
  rw [← hS0]
  have g0 : Goes p e below S0 (s₁.setTop (mkF m 0 #[iv i0, iv i1, iv i2, .unset, .unset, .unset, .unset, .unset] [])) := fun t k => by rw [hS0]; exact castTop (ef_law m i0 i1 i2) k
  have g36 : Goes p e below S0 (s₁.setTop (mkF m 4 #[iv i0, iv i1, iv i2, .unset, .unset, .unset, .unset, .unset] [(.int (i2 &&& (3 : Int32))), (.int i0)])) := fun t k => g0 t (by
    refine XS.iloadN X0.here hx rfl (hb hby at_0) rfl ?_
    show Go p e below t s₁ m 1 #[iv i0, iv i1, iv i2, .unset, .unset, .unset, .unset, .unset] [(.int i0)]
    refine XS.iloadN X0.here hx rfl (hb hby at_1) rfl ?_
    show Go p e below t s₁ m 2 #[iv i0, iv i1, iv i2, .unset, .unset, .unset, .unset, .unset] [(.int i2), (.int i0)]
    refine XT.iconstV X0.here hx rfl (3 : Int32) (hb hby at_2) (by decide) ?_
    show Go p e below t s₁ m 3 #[iv i0, iv i1, iv i2, .unset, .unset, .unset, .unset, .unset] [(.int (3 : Int32)), (.int i2), (.int i0)]
    refine XS.iand X0.here hx rfl (hb hby at_3) rfl ?_
    show Go p e below t s₁ m 4 #[iv i0, iv i1, iv i2, .unset, .unset, .unset, .unset, .unset] [(.int (i2 &&& (3 : Int32))), (.int i0)]
    exact k)
  obtain ⟨_, _, ⟨T37, L37, k37, n37⟩, -, X37, ⟨Lc37, hQ37, l37, y37, z37⟩, st37⟩ := Jvm.LawKit.callS X0 hx (y := (⟨"com/example/kettenbruch/kettenbruch/ComplexIsZeroPinLaw", "scale", "(II)D"⟩ : MethodName)) hown (mvT hZ (hw _ (List.mem_of_getElem? (i := 0) rfl))) (mvT hZ (hw _ (List.mem_of_getElem? (i := 1) rfl))) (mvT hZ (hw _ (List.mem_of_getElem? (i := 2) rfl))) (mvT hZ (hw _ (List.mem_of_getElem? (i := 3) rfl))) (by decide) (backOf (W := 0) (rm_sc l Z a0 hw [] i0 (i2 &&& (3 : Int32))  h0 n0 Z0 ) hZ (hw _ (List.mem_of_getElem? (i := 3) rfl)) (hw _ (List.mem_of_getElem? (i := 2) rfl)) (by decide) (by decide)) (g := (mkF m 4 #[iv i0, iv i1, iv i2, .unset, .unset, .unset, .unset, .unset] [(.int (i2 &&& (3 : Int32))), (.int i0)])) rfl (by rw [hml]; rfl) (argsL := [(.int i0), (.int (i2 &&& (3 : Int32)))]) (rest := []) (lenOf pd0 rfl) rfl (by show 2 * 0 + _ ≤ _; exact Nat.le_of_eq rfl) (hb hby at_4) (fun _ _ => ⟨rfl, e0, (by decide : 0 + 0 ≤ _), (by decide : 0 + 0 ≤ _)⟩)
  dsimp only [Pt.U, Pt.locs, Pt.cells, Pt.slots] at X37 l37 y37 z37 st37 hQ37
  subst l37 y37 z37
  obtain ⟨rfl, N37, e37⟩ := hQ37
  have M37 := Fr.app N0 N37
  have g38 : Goes p e below S0 (T37.setTop (mkF m 7 #[iv i0, iv i1, iv i2, .unset, .unset, .unset, .unset, .unset] [(.double (f_sc i0 (i2 &&& (3 : Int32))))])) := fun t k => g36 t (st37 t k)
  have g39 : Goes p e below S0 (T37.setTop (mkF m 14 #[iv i0, iv i1, iv i2, .val (.double (f_sc i0 (i2 &&& (3 : Int32)))), .second, .unset, .unset, .unset] [(.int ((((i2).toUInt32 >>> ((2 : Int32) &&& 31).toUInt32).toInt32) &&& (3 : Int32))), (.int i1)])) := fun t k => g38 t (by
    refine XS.dstoreN X37.here hx rfl (hb hby at_7) rfl (l' := #[iv i0, iv i1, iv i2, .val (.double (f_sc i0 (i2 &&& (3 : Int32)))), .second, .unset, .unset, .unset]) rfl ?_
    show Go p e below t T37 m 8 #[iv i0, iv i1, iv i2, .val (.double (f_sc i0 (i2 &&& (3 : Int32)))), .second, .unset, .unset, .unset] []
    refine XS.iloadN X37.here hx rfl (hb hby at_8) rfl ?_
    show Go p e below t T37 m 9 #[iv i0, iv i1, iv i2, .val (.double (f_sc i0 (i2 &&& (3 : Int32)))), .second, .unset, .unset, .unset] [(.int i1)]
    refine XS.iloadN X37.here hx rfl (hb hby at_9) rfl ?_
    show Go p e below t T37 m 10 #[iv i0, iv i1, iv i2, .val (.double (f_sc i0 (i2 &&& (3 : Int32)))), .second, .unset, .unset, .unset] [(.int i2), (.int i1)]
    refine XT.iconstV X37.here hx rfl (2 : Int32) (hb hby at_10) (by decide) ?_
    show Go p e below t T37 m 11 #[iv i0, iv i1, iv i2, .val (.double (f_sc i0 (i2 &&& (3 : Int32)))), .second, .unset, .unset, .unset] [(.int (2 : Int32)), (.int i2), (.int i1)]
    refine XS.iushr X37.here hx rfl (hb hby at_11) rfl ?_
    show Go p e below t T37 m 12 #[iv i0, iv i1, iv i2, .val (.double (f_sc i0 (i2 &&& (3 : Int32)))), .second, .unset, .unset, .unset] [(.int (((i2).toUInt32 >>> ((2 : Int32) &&& 31).toUInt32).toInt32)), (.int i1)]
    refine XT.iconstV X37.here hx rfl (3 : Int32) (hb hby at_12) (by decide) ?_
    show Go p e below t T37 m 13 #[iv i0, iv i1, iv i2, .val (.double (f_sc i0 (i2 &&& (3 : Int32)))), .second, .unset, .unset, .unset] [(.int (3 : Int32)), (.int (((i2).toUInt32 >>> ((2 : Int32) &&& 31).toUInt32).toInt32)), (.int i1)]
    refine XS.iand X37.here hx rfl (hb hby at_13) rfl ?_
    show Go p e below t T37 m 14 #[iv i0, iv i1, iv i2, .val (.double (f_sc i0 (i2 &&& (3 : Int32)))), .second, .unset, .unset, .unset] [(.int ((((i2).toUInt32 >>> ((2 : Int32) &&& 31).toUInt32).toInt32) &&& (3 : Int32))), (.int i1)]
    exact k)
  obtain ⟨_, _, ⟨T40, L40, k40, n40⟩, -, X40, ⟨Lc40, hQ40, l40, y40, z40⟩, st40⟩ := Jvm.LawKit.callS X37 hx (y := (⟨"com/example/kettenbruch/kettenbruch/ComplexIsZeroPinLaw", "scale", "(II)D"⟩ : MethodName)) hown (mvT hZ (hw _ (List.mem_of_getElem? (i := 0) rfl))) (mvT hZ (hw _ (List.mem_of_getElem? (i := 1) rfl))) (mvT hZ (hw _ (List.mem_of_getElem? (i := 2) rfl))) (mvT hZ (hw _ (List.mem_of_getElem? (i := 3) rfl))) (by decide) (backOf (W := 0) (rm_sc l Z a0 hw [] i1 ((((i2).toUInt32 >>> ((2 : Int32) &&& 31).toUInt32).toInt32) &&& (3 : Int32))  h0 n0 Z0 ) hZ (hw _ (List.mem_of_getElem? (i := 3) rfl)) (hw _ (List.mem_of_getElem? (i := 2) rfl)) (by decide) (by decide)) (g := (mkF m 14 #[iv i0, iv i1, iv i2, .val (.double (f_sc i0 (i2 &&& (3 : Int32)))), .second, .unset, .unset, .unset] [(.int ((((i2).toUInt32 >>> ((2 : Int32) &&& 31).toUInt32).toInt32) &&& (3 : Int32))), (.int i1)])) rfl (by rw [hml]; rfl) (argsL := [(.int i1), (.int ((((i2).toUInt32 >>> ((2 : Int32) &&& 31).toUInt32).toInt32) &&& (3 : Int32)))]) (rest := []) (lenOf pd0 rfl) rfl (by show 2 * 0 + _ ≤ _; exact Nat.le_of_eq rfl) (hb hby at_14) (fun _ _ => ⟨rfl, e37, (by decide : 0 + 0 ≤ _), (by decide : 0 + 0 ≤ _)⟩)
  dsimp only [Pt.U, Pt.locs, Pt.cells, Pt.slots] at X40 l40 y40 z40 st40 hQ40
  subst l40 y40 z40
  obtain ⟨rfl, N40, e40⟩ := hQ40
  have M40 := Fr.app M37 N40
  have g41 : Goes p e below S0 (T40.setTop (mkF m 17 #[iv i0, iv i1, iv i2, .val (.double (f_sc i0 (i2 &&& (3 : Int32)))), .second, .unset, .unset, .unset] [(.double (f_sc i1 ((((i2).toUInt32 >>> ((2 : Int32) &&& 31).toUInt32).toInt32) &&& (3 : Int32))))])) := fun t k => g39 t (st40 t k)
  have g42 : Goes p e below S0 (T40.setTop (mkF m 19 #[iv i0, iv i1, iv i2, .val (.double (f_sc i0 (i2 &&& (3 : Int32)))), .second, .val (.double (f_sc i1 ((((i2).toUInt32 >>> ((2 : Int32) &&& 31).toUInt32).toInt32) &&& (3 : Int32)))), .second, .unset] [])) := fun t k => g41 t (by
    refine XS.dstore X40.here hx rfl (hb hby at_17) rfl (l' := #[iv i0, iv i1, iv i2, .val (.double (f_sc i0 (i2 &&& (3 : Int32)))), .second, .val (.double (f_sc i1 ((((i2).toUInt32 >>> ((2 : Int32) &&& 31).toUInt32).toInt32) &&& (3 : Int32)))), .second, .unset]) rfl ?_
    show Go p e below t T40 m 19 #[iv i0, iv i1, iv i2, .val (.double (f_sc i0 (i2 &&& (3 : Int32)))), .second, .val (.double (f_sc i1 ((((i2).toUInt32 >>> ((2 : Int32) &&& 31).toUInt32).toInt32) &&& (3 : Int32)))), .second, .unset] []
    exact k)
  obtain ⟨T43, h43, X43, e43, E43, A43, D43, -, st43⟩ := newO X40 hx hZ hown (hw _ (List.mem_of_getElem? (i := 5) rfl)) (hw _ (List.mem_of_getElem? (i := 6) rfl)) (hw _ (List.mem_of_getElem? (i := 7) rfl)) e40 (g := (mkF m 19 #[iv i0, iv i1, iv i2, .val (.double (f_sc i0 (i2 &&& (3 : Int32)))), .second, .val (.double (f_sc i1 ((((i2).toUInt32 >>> ((2 : Int32) &&& 31).toUInt32).toInt32) &&& (3 : Int32)))), .second, .unset] [])) rfl (hb hby at_19) (by decide) (by decide)
  obtain ⟨b43, gb43⟩ : ∃ z, z = h0.size := ⟨_, rfl⟩
  have sz43 : h0.size ≤ b43 := Nat.le_trans (Nat.le_refl _) (Nat.le_of_eq gb43.symm)
  have ng43 : n0 ≤ b43 := Nat.le_trans Z0 sz43
  rw [← gb43] at A43 D43 st43
  have F43_44 : Fld Z h43 b43 "com/example/kettenbruch/kettenbruch/Complex" "re" "D" (.double (0 : UInt64)) := D43 (Or.inr (hw _ (List.mem_of_getElem? (i := 20) rfl))) (ty := .double) (by decide)
  have F43_45 : Fld Z h43 b43 "com/example/kettenbruch/kettenbruch/Complex" "im" "D" (.double (0 : UInt64)) := D43 (Or.inr (hw _ (List.mem_of_getElem? (i := 22) rfl))) (ty := .double) (by decide)
  have g46 : Goes p e below S0 (T43.setTop (mkF m 22 #[iv i0, iv i1, iv i2, .val (.double (f_sc i0 (i2 &&& (3 : Int32)))), .second, .val (.double (f_sc i1 ((((i2).toUInt32 >>> ((2 : Int32) &&& 31).toUInt32).toInt32) &&& (3 : Int32)))), .second, .unset] [(.ref b43)])) := fun t k => g42 t (st43 t k)
  have g47 : Goes p e below S0 (T43.setTop (mkF m 26 #[iv i0, iv i1, iv i2, .val (.double (f_sc i0 (i2 &&& (3 : Int32)))), .second, .val (.double (f_sc i1 ((((i2).toUInt32 >>> ((2 : Int32) &&& 31).toUInt32).toInt32) &&& (3 : Int32)))), .second, .unset] [(.double (f_sc i1 ((((i2).toUInt32 >>> ((2 : Int32) &&& 31).toUInt32).toInt32) &&& (3 : Int32)))), (.double (f_sc i0 (i2 &&& (3 : Int32)))), (.ref b43), (.ref b43)])) := fun t k => g46 t (by
    refine XS.dup X43.here hx rfl (hb hby at_22) rfl rfl ?_
    show Go p e below t T43 m 23 #[iv i0, iv i1, iv i2, .val (.double (f_sc i0 (i2 &&& (3 : Int32)))), .second, .val (.double (f_sc i1 ((((i2).toUInt32 >>> ((2 : Int32) &&& 31).toUInt32).toInt32) &&& (3 : Int32)))), .second, .unset] [(.ref b43), (.ref b43)]
    refine XS.dloadN X43.here hx rfl (hb hby at_23) rfl ?_
    show Go p e below t T43 m 24 #[iv i0, iv i1, iv i2, .val (.double (f_sc i0 (i2 &&& (3 : Int32)))), .second, .val (.double (f_sc i1 ((((i2).toUInt32 >>> ((2 : Int32) &&& 31).toUInt32).toInt32) &&& (3 : Int32)))), .second, .unset] [(.double (f_sc i0 (i2 &&& (3 : Int32)))), (.ref b43), (.ref b43)]
    refine XS.dload X43.here hx rfl (hb hby at_24) rfl ?_
    show Go p e below t T43 m 26 #[iv i0, iv i1, iv i2, .val (.double (f_sc i0 (i2 &&& (3 : Int32)))), .second, .val (.double (f_sc i1 ((((i2).toUInt32 >>> ((2 : Int32) &&& 31).toUInt32).toInt32) &&& (3 : Int32)))), .second, .unset] [(.double (f_sc i1 ((((i2).toUInt32 >>> ((2 : Int32) &&& 31).toUInt32).toInt32) &&& (3 : Int32)))), (.double (f_sc i0 (i2 &&& (3 : Int32)))), (.ref b43), (.ref b43)]
    exact k)
  obtain ⟨_, _, ⟨T48, L48, k48, n48⟩, -, X48, ⟨Lc48, hQ48, l48, y48, z48⟩, st48⟩ := X43.specialBack hx (y := (⟨"com/example/kettenbruch/kettenbruch/Complex", "<init>", "(DD)V"⟩ : MethodName)) rfl hown (mvT hZ (hw _ (List.mem_of_getElem? (i := 8) rfl))) (mvT hZ (hw _ (List.mem_of_getElem? (i := 9) rfl))) (mvT hZ (hw _ (List.mem_of_getElem? (i := 10) rfl))) (by decide) (backOf (W := 1) (rm_ini l Z a0 hw [] b43 (f_sc i0 (i2 &&& (3 : Int32))) (f_sc i1 ((((i2).toUInt32 >>> ((2 : Int32) &&& 31).toUInt32).toInt32) &&& (3 : Int32)))  h43 n0 (Nat.le_trans Z0 (Nat.le_trans (Nat.le_refl _) E43.1)) A43 F43_44 F43_45 ng43) hZ (hw _ (List.mem_of_getElem? (i := 10) rfl)) (hw _ (List.mem_of_getElem? (i := 7) rfl)) (by decide) (by decide)) (g := (mkF m 26 #[iv i0, iv i1, iv i2, .val (.double (f_sc i0 (i2 &&& (3 : Int32)))), .second, .val (.double (f_sc i1 ((((i2).toUInt32 >>> ((2 : Int32) &&& 31).toUInt32).toInt32) &&& (3 : Int32)))), .second, .unset] [(.double (f_sc i1 ((((i2).toUInt32 >>> ((2 : Int32) &&& 31).toUInt32).toInt32) &&& (3 : Int32)))), (.double (f_sc i0 (i2 &&& (3 : Int32)))), (.ref b43), (.ref b43)])) rfl (by rw [hml]; rfl) (Steps.refl _) (a := b43) (argsL := [(.double (f_sc i0 (i2 &&& (3 : Int32)))), (.double (f_sc i1 ((((i2).toUInt32 >>> ((2 : Int32) &&& 31).toUInt32).toInt32) &&& (3 : Int32))))]) (rest := [(.ref b43)]) (lenOf pd2 rfl) rfl (by show 2 * 0 + _ ≤ _; exact Nat.le_of_eq rfl) (hb hby at_26) (fun _ _ => ⟨rfl, e43, (by decide : 1 + 0 ≤ _), (by decide : 2 + 0 ≤ _)⟩)
  dsimp only [Pt.U, Pt.locs, Pt.cells, Pt.slots] at X48 l48 y48 z48 st48 hQ48
  subst l48 y48 z48
  obtain ⟨rfl, N48, R48_0, R48_1, R48_2, R48_3⟩ := hQ48
  have M48 := Fr.app M40 N48
  have g49 : Goes p e below S0 (T48.setTop (mkF m 29 #[iv i0, iv i1, iv i2, .val (.double (f_sc i0 (i2 &&& (3 : Int32)))), .second, .val (.double (f_sc i1 ((((i2).toUInt32 >>> ((2 : Int32) &&& 31).toUInt32).toInt32) &&& (3 : Int32)))), .second, .unset] [(.ref b43)])) := fun t k => g47 t (st48.trans k)
  obtain ⟨cq50, kq50, q50a, q50b, q50c⟩ := isOf hZ rfl R48_1
  obtain ⟨_, _, ⟨T50, L50, k50, n50⟩, -, X50, ⟨Lc50, hQ50, l50, y50, z50⟩, st50⟩ := X48.virtualBack hx (y := (⟨"com/example/kettenbruch/kettenbruch/Complex", "isZero", "()Z"⟩ : MethodName)) (z := (⟨"com/example/kettenbruch/kettenbruch/Complex", "isZero", "()Z"⟩ : MethodName)) hown (mvT hZ (hw _ (List.mem_of_getElem? (i := 23) rfl))) (mvT hZ (hw _ (List.mem_of_getElem? (i := 24) rfl))) (notFace_of_selects (args := #[]) (mvT hZ (hw _ (List.mem_of_getElem? (i := 26) rfl)))) (mvT hZ (hw _ (List.mem_of_getElem? (i := 26) rfl))) (mvT hZ (hw _ (List.mem_of_getElem? (i := 25) rfl))) (by decide) (backOf (W := 0) (rm_isz l Z a0 hw [] b43 (f_sc i0 (i2 &&& (3 : Int32))) (f_sc i1 ((((i2).toUInt32 >>> ((2 : Int32) &&& 31).toUInt32).toInt32) &&& (3 : Int32))) T48.heap n0 (Nat.le_trans Z0 (Nat.le_trans (Nat.le_trans (Nat.le_refl _) E43.1) R48_0.1)) R48_2 R48_3) hZ (hw _ (List.mem_of_getElem? (i := 27) rfl)) (hw _ (List.mem_of_getElem? (i := 7) rfl)) (by decide) (by decide)) q50a q50c (g := (mkF m 29 #[iv i0, iv i1, iv i2, .val (.double (f_sc i0 (i2 &&& (3 : Int32)))), .second, .val (.double (f_sc i1 ((((i2).toUInt32 >>> ((2 : Int32) &&& 31).toUInt32).toInt32) &&& (3 : Int32)))), .second, .unset] [(.ref b43)])) rfl (by rw [hml]; rfl) (Steps.refl _) (argsL := []) (rest := []) (lenOf pd3 rfl) rfl (by show 2 * 0 + _ ≤ _; exact Nat.le_of_eq rfl) (hb hby at_29) (fun _ _ => ⟨rfl, rfl, (by decide : 1 + 0 ≤ _), (by decide : 2 + 0 ≤ _)⟩)
  dsimp only [Pt.U, Pt.locs, Pt.cells, Pt.slots] at X50 l50 y50 z50 st50 hQ50
  subst l50 y50 z50
  obtain ⟨rfl, N50, e50⟩ := hQ50
  have M50 := Fr.app M48 N50
  have g51 : Goes p e below S0 (T50.setTop (mkF m 32 #[iv i0, iv i1, iv i2, .val (.double (f_sc i0 (i2 &&& (3 : Int32)))), .second, .val (.double (f_sc i1 ((((i2).toUInt32 >>> ((2 : Int32) &&& 31).toUInt32).toInt32) &&& (3 : Int32)))), .second, .unset] [(.int (f_isz  (f_sc i0 (i2 &&& (3 : Int32))) (f_sc i1 ((((i2).toUInt32 >>> ((2 : Int32) &&& 31).toUInt32).toInt32) &&& (3 : Int32)))))])) := fun t k => g49 t (st50.trans k)
  have g52 : Goes p e below S0 (T50.setTop (mkF m 37 #[iv i0, iv i1, iv i2, .val (.double (f_sc i0 (i2 &&& (3 : Int32)))), .second, .val (.double (f_sc i1 ((((i2).toUInt32 >>> ((2 : Int32) &&& 31).toUInt32).toInt32) &&& (3 : Int32)))), .second, iv (f_isz  (f_sc i0 (i2 &&& (3 : Int32))) (f_sc i1 ((((i2).toUInt32 >>> ((2 : Int32) &&& 31).toUInt32).toInt32) &&& (3 : Int32))))] [(.int i0), (.int (f_isz  (f_sc i0 (i2 &&& (3 : Int32))) (f_sc i1 ((((i2).toUInt32 >>> ((2 : Int32) &&& 31).toUInt32).toInt32) &&& (3 : Int32)))))])) := fun t k => g51 t (by
    refine XS.istore X50.here hx rfl (hb hby at_32) rfl (l' := #[iv i0, iv i1, iv i2, .val (.double (f_sc i0 (i2 &&& (3 : Int32)))), .second, .val (.double (f_sc i1 ((((i2).toUInt32 >>> ((2 : Int32) &&& 31).toUInt32).toInt32) &&& (3 : Int32)))), .second, iv (f_isz  (f_sc i0 (i2 &&& (3 : Int32))) (f_sc i1 ((((i2).toUInt32 >>> ((2 : Int32) &&& 31).toUInt32).toInt32) &&& (3 : Int32))))]) rfl ?_
    show Go p e below t T50 m 34 #[iv i0, iv i1, iv i2, .val (.double (f_sc i0 (i2 &&& (3 : Int32)))), .second, .val (.double (f_sc i1 ((((i2).toUInt32 >>> ((2 : Int32) &&& 31).toUInt32).toInt32) &&& (3 : Int32)))), .second, iv (f_isz  (f_sc i0 (i2 &&& (3 : Int32))) (f_sc i1 ((((i2).toUInt32 >>> ((2 : Int32) &&& 31).toUInt32).toInt32) &&& (3 : Int32))))] []
    refine XS.iload X50.here hx rfl (hb hby at_34) rfl ?_
    show Go p e below t T50 m 36 #[iv i0, iv i1, iv i2, .val (.double (f_sc i0 (i2 &&& (3 : Int32)))), .second, .val (.double (f_sc i1 ((((i2).toUInt32 >>> ((2 : Int32) &&& 31).toUInt32).toInt32) &&& (3 : Int32)))), .second, iv (f_isz  (f_sc i0 (i2 &&& (3 : Int32))) (f_sc i1 ((((i2).toUInt32 >>> ((2 : Int32) &&& 31).toUInt32).toInt32) &&& (3 : Int32))))] [(.int (f_isz  (f_sc i0 (i2 &&& (3 : Int32))) (f_sc i1 ((((i2).toUInt32 >>> ((2 : Int32) &&& 31).toUInt32).toInt32) &&& (3 : Int32)))))]
    refine XS.iloadN X50.here hx rfl (hb hby at_36) rfl ?_
    show Go p e below t T50 m 37 #[iv i0, iv i1, iv i2, .val (.double (f_sc i0 (i2 &&& (3 : Int32)))), .second, .val (.double (f_sc i1 ((((i2).toUInt32 >>> ((2 : Int32) &&& 31).toUInt32).toInt32) &&& (3 : Int32)))), .second, iv (f_isz  (f_sc i0 (i2 &&& (3 : Int32))) (f_sc i1 ((((i2).toUInt32 >>> ((2 : Int32) &&& 31).toUInt32).toInt32) &&& (3 : Int32))))] [(.int i0), (.int (f_isz  (f_sc i0 (i2 &&& (3 : Int32))) (f_sc i1 ((((i2).toUInt32 >>> ((2 : Int32) &&& 31).toUInt32).toInt32) &&& (3 : Int32)))))]
    exact k)
  by_cases h53 : i0 = 0
  · skip
    have g54 : Goes p e below S0 (T50.setTop (mkF m 41 #[iv i0, iv i1, iv i2, .val (.double (f_sc i0 (i2 &&& (3 : Int32)))), .second, .val (.double (f_sc i1 ((((i2).toUInt32 >>> ((2 : Int32) &&& 31).toUInt32).toInt32) &&& (3 : Int32)))), .second, iv (f_isz  (f_sc i0 (i2 &&& (3 : Int32))) (f_sc i1 ((((i2).toUInt32 >>> ((2 : Int32) &&& 31).toUInt32).toInt32) &&& (3 : Int32))))] [(.int i1), (.int (f_isz  (f_sc i0 (i2 &&& (3 : Int32))) (f_sc i1 ((((i2).toUInt32 >>> ((2 : Int32) &&& 31).toUInt32).toInt32) &&& (3 : Int32)))))])) := fun t k => g52 t (by
      refine XS.ifNo X50.here hx rfl (hb hby at_37) rfl (XT.i0_ne_f h53) ?_
      show Go p e below t T50 m 40 #[iv i0, iv i1, iv i2, .val (.double (f_sc i0 (i2 &&& (3 : Int32)))), .second, .val (.double (f_sc i1 ((((i2).toUInt32 >>> ((2 : Int32) &&& 31).toUInt32).toInt32) &&& (3 : Int32)))), .second, iv (f_isz  (f_sc i0 (i2 &&& (3 : Int32))) (f_sc i1 ((((i2).toUInt32 >>> ((2 : Int32) &&& 31).toUInt32).toInt32) &&& (3 : Int32))))] [(.int (f_isz  (f_sc i0 (i2 &&& (3 : Int32))) (f_sc i1 ((((i2).toUInt32 >>> ((2 : Int32) &&& 31).toUInt32).toInt32) &&& (3 : Int32)))))]
      refine XS.iloadN X50.here hx rfl (hb hby at_40) rfl ?_
      show Go p e below t T50 m 41 #[iv i0, iv i1, iv i2, .val (.double (f_sc i0 (i2 &&& (3 : Int32)))), .second, .val (.double (f_sc i1 ((((i2).toUInt32 >>> ((2 : Int32) &&& 31).toUInt32).toInt32) &&& (3 : Int32)))), .second, iv (f_isz  (f_sc i0 (i2 &&& (3 : Int32))) (f_sc i1 ((((i2).toUInt32 >>> ((2 : Int32) &&& 31).toUInt32).toInt32) &&& (3 : Int32))))] [(.int i1), (.int (f_isz  (f_sc i0 (i2 &&& (3 : Int32))) (f_sc i1 ((((i2).toUInt32 >>> ((2 : Int32) &&& 31).toUInt32).toInt32) &&& (3 : Int32)))))]
      exact k)
    by_cases h55 : i1 = 0
    · skip
      have g56 : Goes p e below S0 (T50.setTop (mkF m 49 #[iv i0, iv i1, iv i2, .val (.double (f_sc i0 (i2 &&& (3 : Int32)))), .second, .val (.double (f_sc i1 ((((i2).toUInt32 >>> ((2 : Int32) &&& 31).toUInt32).toInt32) &&& (3 : Int32)))), .second, iv (f_isz  (f_sc i0 (i2 &&& (3 : Int32))) (f_sc i1 ((((i2).toUInt32 >>> ((2 : Int32) &&& 31).toUInt32).toInt32) &&& (3 : Int32))))] [(.int (1 : Int32)), (.int (f_isz  (f_sc i0 (i2 &&& (3 : Int32))) (f_sc i1 ((((i2).toUInt32 >>> ((2 : Int32) &&& 31).toUInt32).toInt32) &&& (3 : Int32)))))])) := fun t k => g54 t (by
        refine XS.ifNo X50.here hx rfl (hb hby at_41) rfl (XT.i0_ne_f h55) ?_
        show Go p e below t T50 m 44 #[iv i0, iv i1, iv i2, .val (.double (f_sc i0 (i2 &&& (3 : Int32)))), .second, .val (.double (f_sc i1 ((((i2).toUInt32 >>> ((2 : Int32) &&& 31).toUInt32).toInt32) &&& (3 : Int32)))), .second, iv (f_isz  (f_sc i0 (i2 &&& (3 : Int32))) (f_sc i1 ((((i2).toUInt32 >>> ((2 : Int32) &&& 31).toUInt32).toInt32) &&& (3 : Int32))))] [(.int (f_isz  (f_sc i0 (i2 &&& (3 : Int32))) (f_sc i1 ((((i2).toUInt32 >>> ((2 : Int32) &&& 31).toUInt32).toInt32) &&& (3 : Int32)))))]
        refine XT.iconstV X50.here hx rfl (1 : Int32) (hb hby at_44) (by decide) ?_
        show Go p e below t T50 m 45 #[iv i0, iv i1, iv i2, .val (.double (f_sc i0 (i2 &&& (3 : Int32)))), .second, .val (.double (f_sc i1 ((((i2).toUInt32 >>> ((2 : Int32) &&& 31).toUInt32).toInt32) &&& (3 : Int32)))), .second, iv (f_isz  (f_sc i0 (i2 &&& (3 : Int32))) (f_sc i1 ((((i2).toUInt32 >>> ((2 : Int32) &&& 31).toUInt32).toInt32) &&& (3 : Int32))))] [(.int (1 : Int32)), (.int (f_isz  (f_sc i0 (i2 &&& (3 : Int32))) (f_sc i1 ((((i2).toUInt32 >>> ((2 : Int32) &&& 31).toUInt32).toInt32) &&& (3 : Int32)))))]
        refine XS.goto X50.here hx rfl (pc0 := 45) (pc' := 49) rfl (hb hby at_45) (by decide) (by decide) ?_
        show Go p e below t T50 m 49 #[iv i0, iv i1, iv i2, .val (.double (f_sc i0 (i2 &&& (3 : Int32)))), .second, .val (.double (f_sc i1 ((((i2).toUInt32 >>> ((2 : Int32) &&& 31).toUInt32).toInt32) &&& (3 : Int32)))), .second, iv (f_isz  (f_sc i0 (i2 &&& (3 : Int32))) (f_sc i1 ((((i2).toUInt32 >>> ((2 : Int32) &&& 31).toUInt32).toInt32) &&& (3 : Int32))))] [(.int (1 : Int32)), (.int (f_isz  (f_sc i0 (i2 &&& (3 : Int32))) (f_sc i1 ((((i2).toUInt32 >>> ((2 : Int32) &&& 31).toUInt32).toInt32) &&& (3 : Int32)))))]
        exact k)
      by_cases h57 : (f_isz  (f_sc i0 (i2 &&& (3 : Int32))) (f_sc i1 ((((i2).toUInt32 >>> ((2 : Int32) &&& 31).toUInt32).toInt32) &&& (3 : Int32)))) = (1 : Int32)
      · skip
        have g58 : Goes p e below S0 (T50.setTop (mkF m 57 #[iv i0, iv i1, iv i2, .val (.double (f_sc i0 (i2 &&& (3 : Int32)))), .second, .val (.double (f_sc i1 ((((i2).toUInt32 >>> ((2 : Int32) &&& 31).toUInt32).toInt32) &&& (3 : Int32)))), .second, iv (f_isz  (f_sc i0 (i2 &&& (3 : Int32))) (f_sc i1 ((((i2).toUInt32 >>> ((2 : Int32) &&& 31).toUInt32).toInt32) &&& (3 : Int32))))] [(.int (1 : Int32))])) := fun t k => g56 t (by
          refine XS.icmpNo X50.here hx rfl (hb hby at_49) rfl (XT.ii_ne_f h57) ?_
          show Go p e below t T50 m 52 #[iv i0, iv i1, iv i2, .val (.double (f_sc i0 (i2 &&& (3 : Int32)))), .second, .val (.double (f_sc i1 ((((i2).toUInt32 >>> ((2 : Int32) &&& 31).toUInt32).toInt32) &&& (3 : Int32)))), .second, iv (f_isz  (f_sc i0 (i2 &&& (3 : Int32))) (f_sc i1 ((((i2).toUInt32 >>> ((2 : Int32) &&& 31).toUInt32).toInt32) &&& (3 : Int32))))] []
          refine XT.iconstV X50.here hx rfl (1 : Int32) (hb hby at_52) (by decide) ?_
          show Go p e below t T50 m 53 #[iv i0, iv i1, iv i2, .val (.double (f_sc i0 (i2 &&& (3 : Int32)))), .second, .val (.double (f_sc i1 ((((i2).toUInt32 >>> ((2 : Int32) &&& 31).toUInt32).toInt32) &&& (3 : Int32)))), .second, iv (f_isz  (f_sc i0 (i2 &&& (3 : Int32))) (f_sc i1 ((((i2).toUInt32 >>> ((2 : Int32) &&& 31).toUInt32).toInt32) &&& (3 : Int32))))] [(.int (1 : Int32))]
          refine XS.goto X50.here hx rfl (pc0 := 53) (pc' := 57) rfl (hb hby at_53) (by decide) (by decide) ?_
          show Go p e below t T50 m 57 #[iv i0, iv i1, iv i2, .val (.double (f_sc i0 (i2 &&& (3 : Int32)))), .second, .val (.double (f_sc i1 ((((i2).toUInt32 >>> ((2 : Int32) &&& 31).toUInt32).toInt32) &&& (3 : Int32)))), .second, iv (f_isz  (f_sc i0 (i2 &&& (3 : Int32))) (f_sc i1 ((((i2).toUInt32 >>> ((2 : Int32) &&& 31).toUInt32).toInt32) &&& (3 : Int32))))] [(.int (1 : Int32))]
          exact k)
        obtain ⟨fs, hr, hrun, hended, hW, hsame⟩ := X50.leave (v := some (.int (1 : Int32))) (fun h => by rw [Bd.returns] at h; cases h)
        refine ⟨_, _, g58 _ (retN X50 hx (t := .boolean) Bd.returns (by simp) (hb hby at_57) hr), hrun, hended, _, _, rfl, ?_, ⟨_, rfl⟩, hW, hsame.mono (by decide) (by decide)⟩
        show Q_law Z i0 i1 i2  h0 n0 _ T50.heap _
        rw [e50]
        exact ⟨by unfold f_law; rw [if_pos h53, if_pos h55, if_pos h57], M50⟩
      · skip
        have g59 : Goes p e below S0 (T50.setTop (mkF m 57 #[iv i0, iv i1, iv i2, .val (.double (f_sc i0 (i2 &&& (3 : Int32)))), .second, .val (.double (f_sc i1 ((((i2).toUInt32 >>> ((2 : Int32) &&& 31).toUInt32).toInt32) &&& (3 : Int32)))), .second, iv (f_isz  (f_sc i0 (i2 &&& (3 : Int32))) (f_sc i1 ((((i2).toUInt32 >>> ((2 : Int32) &&& 31).toUInt32).toInt32) &&& (3 : Int32))))] [(.int (0 : Int32))])) := fun t k => g56 t (by
          refine XS.icmpYes X50.here hx rfl (pc0 := 49) (pc' := 56) rfl (hb hby at_49) rfl (XT.ii_ne_t h57) (by decide) (by decide) ?_
          show Go p e below t T50 m 56 #[iv i0, iv i1, iv i2, .val (.double (f_sc i0 (i2 &&& (3 : Int32)))), .second, .val (.double (f_sc i1 ((((i2).toUInt32 >>> ((2 : Int32) &&& 31).toUInt32).toInt32) &&& (3 : Int32)))), .second, iv (f_isz  (f_sc i0 (i2 &&& (3 : Int32))) (f_sc i1 ((((i2).toUInt32 >>> ((2 : Int32) &&& 31).toUInt32).toInt32) &&& (3 : Int32))))] []
          refine XT.iconstV X50.here hx rfl (0 : Int32) (hb hby at_56) (by decide) ?_
          show Go p e below t T50 m 57 #[iv i0, iv i1, iv i2, .val (.double (f_sc i0 (i2 &&& (3 : Int32)))), .second, .val (.double (f_sc i1 ((((i2).toUInt32 >>> ((2 : Int32) &&& 31).toUInt32).toInt32) &&& (3 : Int32)))), .second, iv (f_isz  (f_sc i0 (i2 &&& (3 : Int32))) (f_sc i1 ((((i2).toUInt32 >>> ((2 : Int32) &&& 31).toUInt32).toInt32) &&& (3 : Int32))))] [(.int (0 : Int32))]
          exact k)
        obtain ⟨fs, hr, hrun, hended, hW, hsame⟩ := X50.leave (v := some (.int (0 : Int32))) (fun h => by rw [Bd.returns] at h; cases h)
        refine ⟨_, _, g59 _ (retN X50 hx (t := .boolean) Bd.returns (by simp) (hb hby at_57) hr), hrun, hended, _, _, rfl, ?_, ⟨_, rfl⟩, hW, hsame.mono (by decide) (by decide)⟩
        show Q_law Z i0 i1 i2  h0 n0 _ T50.heap _
        rw [e50]
        exact ⟨by unfold f_law; rw [if_pos h53, if_pos h55, if_neg h57], M50⟩
    · skip
      have g60 : Goes p e below S0 (T50.setTop (mkF m 49 #[iv i0, iv i1, iv i2, .val (.double (f_sc i0 (i2 &&& (3 : Int32)))), .second, .val (.double (f_sc i1 ((((i2).toUInt32 >>> ((2 : Int32) &&& 31).toUInt32).toInt32) &&& (3 : Int32)))), .second, iv (f_isz  (f_sc i0 (i2 &&& (3 : Int32))) (f_sc i1 ((((i2).toUInt32 >>> ((2 : Int32) &&& 31).toUInt32).toInt32) &&& (3 : Int32))))] [(.int (0 : Int32)), (.int (f_isz  (f_sc i0 (i2 &&& (3 : Int32))) (f_sc i1 ((((i2).toUInt32 >>> ((2 : Int32) &&& 31).toUInt32).toInt32) &&& (3 : Int32)))))])) := fun t k => g54 t (by
        refine XS.ifYes X50.here hx rfl (pc0 := 41) (pc' := 48) rfl (hb hby at_41) rfl (XT.i0_ne_t h55) (by decide) (by decide) ?_
        show Go p e below t T50 m 48 #[iv i0, iv i1, iv i2, .val (.double (f_sc i0 (i2 &&& (3 : Int32)))), .second, .val (.double (f_sc i1 ((((i2).toUInt32 >>> ((2 : Int32) &&& 31).toUInt32).toInt32) &&& (3 : Int32)))), .second, iv (f_isz  (f_sc i0 (i2 &&& (3 : Int32))) (f_sc i1 ((((i2).toUInt32 >>> ((2 : Int32) &&& 31).toUInt32).toInt32) &&& (3 : Int32))))] [(.int (f_isz  (f_sc i0 (i2 &&& (3 : Int32))) (f_sc i1 ((((i2).toUInt32 >>> ((2 : Int32) &&& 31).toUInt32).toInt32) &&& (3 : Int32)))))]
        refine XT.iconstV X50.here hx rfl (0 : Int32) (hb hby at_48) (by decide) ?_
        show Go p e below t T50 m 49 #[iv i0, iv i1, iv i2, .val (.double (f_sc i0 (i2 &&& (3 : Int32)))), .second, .val (.double (f_sc i1 ((((i2).toUInt32 >>> ((2 : Int32) &&& 31).toUInt32).toInt32) &&& (3 : Int32)))), .second, iv (f_isz  (f_sc i0 (i2 &&& (3 : Int32))) (f_sc i1 ((((i2).toUInt32 >>> ((2 : Int32) &&& 31).toUInt32).toInt32) &&& (3 : Int32))))] [(.int (0 : Int32)), (.int (f_isz  (f_sc i0 (i2 &&& (3 : Int32))) (f_sc i1 ((((i2).toUInt32 >>> ((2 : Int32) &&& 31).toUInt32).toInt32) &&& (3 : Int32)))))]
        exact k)
      by_cases h61 : (f_isz  (f_sc i0 (i2 &&& (3 : Int32))) (f_sc i1 ((((i2).toUInt32 >>> ((2 : Int32) &&& 31).toUInt32).toInt32) &&& (3 : Int32)))) = (0 : Int32)
      · skip
        have g62 : Goes p e below S0 (T50.setTop (mkF m 57 #[iv i0, iv i1, iv i2, .val (.double (f_sc i0 (i2 &&& (3 : Int32)))), .second, .val (.double (f_sc i1 ((((i2).toUInt32 >>> ((2 : Int32) &&& 31).toUInt32).toInt32) &&& (3 : Int32)))), .second, iv (f_isz  (f_sc i0 (i2 &&& (3 : Int32))) (f_sc i1 ((((i2).toUInt32 >>> ((2 : Int32) &&& 31).toUInt32).toInt32) &&& (3 : Int32))))] [(.int (1 : Int32))])) := fun t k => g60 t (by
          refine XS.icmpNo X50.here hx rfl (hb hby at_49) rfl (XT.ii_ne_f h61) ?_
          show Go p e below t T50 m 52 #[iv i0, iv i1, iv i2, .val (.double (f_sc i0 (i2 &&& (3 : Int32)))), .second, .val (.double (f_sc i1 ((((i2).toUInt32 >>> ((2 : Int32) &&& 31).toUInt32).toInt32) &&& (3 : Int32)))), .second, iv (f_isz  (f_sc i0 (i2 &&& (3 : Int32))) (f_sc i1 ((((i2).toUInt32 >>> ((2 : Int32) &&& 31).toUInt32).toInt32) &&& (3 : Int32))))] []
          refine XT.iconstV X50.here hx rfl (1 : Int32) (hb hby at_52) (by decide) ?_
          show Go p e below t T50 m 53 #[iv i0, iv i1, iv i2, .val (.double (f_sc i0 (i2 &&& (3 : Int32)))), .second, .val (.double (f_sc i1 ((((i2).toUInt32 >>> ((2 : Int32) &&& 31).toUInt32).toInt32) &&& (3 : Int32)))), .second, iv (f_isz  (f_sc i0 (i2 &&& (3 : Int32))) (f_sc i1 ((((i2).toUInt32 >>> ((2 : Int32) &&& 31).toUInt32).toInt32) &&& (3 : Int32))))] [(.int (1 : Int32))]
          refine XS.goto X50.here hx rfl (pc0 := 53) (pc' := 57) rfl (hb hby at_53) (by decide) (by decide) ?_
          show Go p e below t T50 m 57 #[iv i0, iv i1, iv i2, .val (.double (f_sc i0 (i2 &&& (3 : Int32)))), .second, .val (.double (f_sc i1 ((((i2).toUInt32 >>> ((2 : Int32) &&& 31).toUInt32).toInt32) &&& (3 : Int32)))), .second, iv (f_isz  (f_sc i0 (i2 &&& (3 : Int32))) (f_sc i1 ((((i2).toUInt32 >>> ((2 : Int32) &&& 31).toUInt32).toInt32) &&& (3 : Int32))))] [(.int (1 : Int32))]
          exact k)
        obtain ⟨fs, hr, hrun, hended, hW, hsame⟩ := X50.leave (v := some (.int (1 : Int32))) (fun h => by rw [Bd.returns] at h; cases h)
        refine ⟨_, _, g62 _ (retN X50 hx (t := .boolean) Bd.returns (by simp) (hb hby at_57) hr), hrun, hended, _, _, rfl, ?_, ⟨_, rfl⟩, hW, hsame.mono (by decide) (by decide)⟩
        show Q_law Z i0 i1 i2  h0 n0 _ T50.heap _
        rw [e50]
        exact ⟨by unfold f_law; rw [if_pos h53, if_neg h55, if_pos h61], M50⟩
      · skip
        have g63 : Goes p e below S0 (T50.setTop (mkF m 57 #[iv i0, iv i1, iv i2, .val (.double (f_sc i0 (i2 &&& (3 : Int32)))), .second, .val (.double (f_sc i1 ((((i2).toUInt32 >>> ((2 : Int32) &&& 31).toUInt32).toInt32) &&& (3 : Int32)))), .second, iv (f_isz  (f_sc i0 (i2 &&& (3 : Int32))) (f_sc i1 ((((i2).toUInt32 >>> ((2 : Int32) &&& 31).toUInt32).toInt32) &&& (3 : Int32))))] [(.int (0 : Int32))])) := fun t k => g60 t (by
          refine XS.icmpYes X50.here hx rfl (pc0 := 49) (pc' := 56) rfl (hb hby at_49) rfl (XT.ii_ne_t h61) (by decide) (by decide) ?_
          show Go p e below t T50 m 56 #[iv i0, iv i1, iv i2, .val (.double (f_sc i0 (i2 &&& (3 : Int32)))), .second, .val (.double (f_sc i1 ((((i2).toUInt32 >>> ((2 : Int32) &&& 31).toUInt32).toInt32) &&& (3 : Int32)))), .second, iv (f_isz  (f_sc i0 (i2 &&& (3 : Int32))) (f_sc i1 ((((i2).toUInt32 >>> ((2 : Int32) &&& 31).toUInt32).toInt32) &&& (3 : Int32))))] []
          refine XT.iconstV X50.here hx rfl (0 : Int32) (hb hby at_56) (by decide) ?_
          show Go p e below t T50 m 57 #[iv i0, iv i1, iv i2, .val (.double (f_sc i0 (i2 &&& (3 : Int32)))), .second, .val (.double (f_sc i1 ((((i2).toUInt32 >>> ((2 : Int32) &&& 31).toUInt32).toInt32) &&& (3 : Int32)))), .second, iv (f_isz  (f_sc i0 (i2 &&& (3 : Int32))) (f_sc i1 ((((i2).toUInt32 >>> ((2 : Int32) &&& 31).toUInt32).toInt32) &&& (3 : Int32))))] [(.int (0 : Int32))]
          exact k)
        obtain ⟨fs, hr, hrun, hended, hW, hsame⟩ := X50.leave (v := some (.int (0 : Int32))) (fun h => by rw [Bd.returns] at h; cases h)
        refine ⟨_, _, g63 _ (retN X50 hx (t := .boolean) Bd.returns (by simp) (hb hby at_57) hr), hrun, hended, _, _, rfl, ?_, ⟨_, rfl⟩, hW, hsame.mono (by decide) (by decide)⟩
        show Q_law Z i0 i1 i2  h0 n0 _ T50.heap _
        rw [e50]
        exact ⟨by unfold f_law; rw [if_pos h53, if_neg h55, if_neg h61], M50⟩
  · skip
    have g64 : Goes p e below S0 (T50.setTop (mkF m 49 #[iv i0, iv i1, iv i2, .val (.double (f_sc i0 (i2 &&& (3 : Int32)))), .second, .val (.double (f_sc i1 ((((i2).toUInt32 >>> ((2 : Int32) &&& 31).toUInt32).toInt32) &&& (3 : Int32)))), .second, iv (f_isz  (f_sc i0 (i2 &&& (3 : Int32))) (f_sc i1 ((((i2).toUInt32 >>> ((2 : Int32) &&& 31).toUInt32).toInt32) &&& (3 : Int32))))] [(.int (0 : Int32)), (.int (f_isz  (f_sc i0 (i2 &&& (3 : Int32))) (f_sc i1 ((((i2).toUInt32 >>> ((2 : Int32) &&& 31).toUInt32).toInt32) &&& (3 : Int32)))))])) := fun t k => g52 t (by
      refine XS.ifYes X50.here hx rfl (pc0 := 37) (pc' := 48) rfl (hb hby at_37) rfl (XT.i0_ne_t h53) (by decide) (by decide) ?_
      show Go p e below t T50 m 48 #[iv i0, iv i1, iv i2, .val (.double (f_sc i0 (i2 &&& (3 : Int32)))), .second, .val (.double (f_sc i1 ((((i2).toUInt32 >>> ((2 : Int32) &&& 31).toUInt32).toInt32) &&& (3 : Int32)))), .second, iv (f_isz  (f_sc i0 (i2 &&& (3 : Int32))) (f_sc i1 ((((i2).toUInt32 >>> ((2 : Int32) &&& 31).toUInt32).toInt32) &&& (3 : Int32))))] [(.int (f_isz  (f_sc i0 (i2 &&& (3 : Int32))) (f_sc i1 ((((i2).toUInt32 >>> ((2 : Int32) &&& 31).toUInt32).toInt32) &&& (3 : Int32)))))]
      refine XT.iconstV X50.here hx rfl (0 : Int32) (hb hby at_48) (by decide) ?_
      show Go p e below t T50 m 49 #[iv i0, iv i1, iv i2, .val (.double (f_sc i0 (i2 &&& (3 : Int32)))), .second, .val (.double (f_sc i1 ((((i2).toUInt32 >>> ((2 : Int32) &&& 31).toUInt32).toInt32) &&& (3 : Int32)))), .second, iv (f_isz  (f_sc i0 (i2 &&& (3 : Int32))) (f_sc i1 ((((i2).toUInt32 >>> ((2 : Int32) &&& 31).toUInt32).toInt32) &&& (3 : Int32))))] [(.int (0 : Int32)), (.int (f_isz  (f_sc i0 (i2 &&& (3 : Int32))) (f_sc i1 ((((i2).toUInt32 >>> ((2 : Int32) &&& 31).toUInt32).toInt32) &&& (3 : Int32)))))]
      exact k)
    by_cases h65 : (f_isz  (f_sc i0 (i2 &&& (3 : Int32))) (f_sc i1 ((((i2).toUInt32 >>> ((2 : Int32) &&& 31).toUInt32).toInt32) &&& (3 : Int32)))) = (0 : Int32)
    · skip
      have g66 : Goes p e below S0 (T50.setTop (mkF m 57 #[iv i0, iv i1, iv i2, .val (.double (f_sc i0 (i2 &&& (3 : Int32)))), .second, .val (.double (f_sc i1 ((((i2).toUInt32 >>> ((2 : Int32) &&& 31).toUInt32).toInt32) &&& (3 : Int32)))), .second, iv (f_isz  (f_sc i0 (i2 &&& (3 : Int32))) (f_sc i1 ((((i2).toUInt32 >>> ((2 : Int32) &&& 31).toUInt32).toInt32) &&& (3 : Int32))))] [(.int (1 : Int32))])) := fun t k => g64 t (by
        refine XS.icmpNo X50.here hx rfl (hb hby at_49) rfl (XT.ii_ne_f h65) ?_
        show Go p e below t T50 m 52 #[iv i0, iv i1, iv i2, .val (.double (f_sc i0 (i2 &&& (3 : Int32)))), .second, .val (.double (f_sc i1 ((((i2).toUInt32 >>> ((2 : Int32) &&& 31).toUInt32).toInt32) &&& (3 : Int32)))), .second, iv (f_isz  (f_sc i0 (i2 &&& (3 : Int32))) (f_sc i1 ((((i2).toUInt32 >>> ((2 : Int32) &&& 31).toUInt32).toInt32) &&& (3 : Int32))))] []
        refine XT.iconstV X50.here hx rfl (1 : Int32) (hb hby at_52) (by decide) ?_
        show Go p e below t T50 m 53 #[iv i0, iv i1, iv i2, .val (.double (f_sc i0 (i2 &&& (3 : Int32)))), .second, .val (.double (f_sc i1 ((((i2).toUInt32 >>> ((2 : Int32) &&& 31).toUInt32).toInt32) &&& (3 : Int32)))), .second, iv (f_isz  (f_sc i0 (i2 &&& (3 : Int32))) (f_sc i1 ((((i2).toUInt32 >>> ((2 : Int32) &&& 31).toUInt32).toInt32) &&& (3 : Int32))))] [(.int (1 : Int32))]
        refine XS.goto X50.here hx rfl (pc0 := 53) (pc' := 57) rfl (hb hby at_53) (by decide) (by decide) ?_
        show Go p e below t T50 m 57 #[iv i0, iv i1, iv i2, .val (.double (f_sc i0 (i2 &&& (3 : Int32)))), .second, .val (.double (f_sc i1 ((((i2).toUInt32 >>> ((2 : Int32) &&& 31).toUInt32).toInt32) &&& (3 : Int32)))), .second, iv (f_isz  (f_sc i0 (i2 &&& (3 : Int32))) (f_sc i1 ((((i2).toUInt32 >>> ((2 : Int32) &&& 31).toUInt32).toInt32) &&& (3 : Int32))))] [(.int (1 : Int32))]
        exact k)
      obtain ⟨fs, hr, hrun, hended, hW, hsame⟩ := X50.leave (v := some (.int (1 : Int32))) (fun h => by rw [Bd.returns] at h; cases h)
      refine ⟨_, _, g66 _ (retN X50 hx (t := .boolean) Bd.returns (by simp) (hb hby at_57) hr), hrun, hended, _, _, rfl, ?_, ⟨_, rfl⟩, hW, hsame.mono (by decide) (by decide)⟩
      show Q_law Z i0 i1 i2  h0 n0 _ T50.heap _
      rw [e50]
      exact ⟨by unfold f_law; rw [if_neg h53, if_pos h65], M50⟩
    · skip
      have g67 : Goes p e below S0 (T50.setTop (mkF m 57 #[iv i0, iv i1, iv i2, .val (.double (f_sc i0 (i2 &&& (3 : Int32)))), .second, .val (.double (f_sc i1 ((((i2).toUInt32 >>> ((2 : Int32) &&& 31).toUInt32).toInt32) &&& (3 : Int32)))), .second, iv (f_isz  (f_sc i0 (i2 &&& (3 : Int32))) (f_sc i1 ((((i2).toUInt32 >>> ((2 : Int32) &&& 31).toUInt32).toInt32) &&& (3 : Int32))))] [(.int (0 : Int32))])) := fun t k => g64 t (by
        refine XS.icmpYes X50.here hx rfl (pc0 := 49) (pc' := 56) rfl (hb hby at_49) rfl (XT.ii_ne_t h65) (by decide) (by decide) ?_
        show Go p e below t T50 m 56 #[iv i0, iv i1, iv i2, .val (.double (f_sc i0 (i2 &&& (3 : Int32)))), .second, .val (.double (f_sc i1 ((((i2).toUInt32 >>> ((2 : Int32) &&& 31).toUInt32).toInt32) &&& (3 : Int32)))), .second, iv (f_isz  (f_sc i0 (i2 &&& (3 : Int32))) (f_sc i1 ((((i2).toUInt32 >>> ((2 : Int32) &&& 31).toUInt32).toInt32) &&& (3 : Int32))))] []
        refine XT.iconstV X50.here hx rfl (0 : Int32) (hb hby at_56) (by decide) ?_
        show Go p e below t T50 m 57 #[iv i0, iv i1, iv i2, .val (.double (f_sc i0 (i2 &&& (3 : Int32)))), .second, .val (.double (f_sc i1 ((((i2).toUInt32 >>> ((2 : Int32) &&& 31).toUInt32).toInt32) &&& (3 : Int32)))), .second, iv (f_isz  (f_sc i0 (i2 &&& (3 : Int32))) (f_sc i1 ((((i2).toUInt32 >>> ((2 : Int32) &&& 31).toUInt32).toInt32) &&& (3 : Int32))))] [(.int (0 : Int32))]
        exact k)
      obtain ⟨fs, hr, hrun, hended, hW, hsame⟩ := X50.leave (v := some (.int (0 : Int32))) (fun h => by rw [Bd.returns] at h; cases h)
      refine ⟨_, _, g67 _ (retN X50 hx (t := .boolean) Bd.returns (by simp) (hb hby at_57) hr), hrun, hended, _, _, rfl, ?_, ⟨_, rfl⟩, hW, hsame.mono (by decide) (by decide)⟩
      show Q_law Z i0 i1 i2  h0 n0 _ T50.heap _
      rw [e50]
      exact ⟨by unfold f_law; rw [if_neg h53, if_neg h65], M50⟩

open Jvm.OwnFP in
theorem own_zero {v : UInt64} {N : Int} {k : Nat} (h : Val v N k) : dEq v 0 ↔ N = 0 := by
  have f0 : FP.Core.DFin (0 : UInt64) := dfin_const (by decide)
  have z0 : Zv (0 : UInt64) = 0 := by decide +kernel
  unfold dEq
  rw [eq_iff h.1 f0, h.2, z0]
  have hp := pow_pos' k
  constructor
  · intro e
    rcases Int.mul_eq_zero.mp e with e | e
    · exact e
    · omega
  · intro e; rw [e, Int.zero_mul]
open Jvm.OwnFP in
theorem own_sc (a k : Int32) : dEq (f_sc a k) 0 ↔ a = 0 := by
  have v1 := Val.i2d a
  have v2 : Val (1 : UInt64) 1 0 := ⟨dfin_const (by decide), by decide +kernel⟩
  have hb := rng32 a
  have v3 := Val.mul (i := 0) v1 v2 (by rw [Int.mul_one]; omega) (by omega) (by omega)
  have z : a.toInt = 0 ↔ a = 0 := ⟨fun h => Int32.toInt_inj.mp h, fun h => by rw [h]; rfl⟩
  unfold f_sc
  split
  · rw [own_zero v1, z]
  · split
    · rw [own_zero v1.neg, ← z]; omega
    · split
      · rw [own_zero v3, ← z]; omega
      · rw [own_zero v3.neg, ← z]; omega
theorem own_one (a b c : Int32) : f_law a b c = 1 := by
  unfold f_law f_isz
  by_cases ha : a = 0 <;> by_cases hb : b = 0 <;> simp [own_sc, ha, hb]

set_option maxRecDepth 65536 in
set_option maxHeartbeats 40000000 in
theorem comes_1 {Post : Tables → Env → Array Value → State → Outcome → State → Prop} (hpost : ∀ tb e args s v u, (limb_1_1.after args s (.returned v) u = true ∧ limb_1_2.after args s (.returned v) u = true ∧ True) → FrameEnd s (.returned v) u (Jvm.fieldLocs frame_1_writes args s ++ Jvm.arrayLocs frame_1_arrays args s ++ Jvm.staticLocs frame_1_statics s) 16 128 → Post tb e args s (.returned v) u) :
    ArmFor flags0 classFile x code maxLocals ret World_1 tables_1 room_1 Calls_1 rest_1 Pre_1 Post := by
  intro l hfl _ _ p e ha hc hk s m args below hf hA hF happ hP
  obtain ⟨hcalls, hrest, hpre⟩ := hP
  obtain ⟨-, -, -, hnamed, -, -, -, hat⟩ := (Spec.applies_iff hf).mp happ
  obtain ⟨hg, hn⟩ := and_e (Cond.before_iff.mp (show (Jvm.Cond.and given_1 narrow_1).before args s = true from hpre))
  obtain ⟨hcount, q0⟩ := and_e hg
  obtain ⟨b0, q1⟩ := and_e q0
  obtain ⟨b1, q2⟩ := and_e q1
  have b2 := q2
  obtain ⟨w0, w1, w2, rfl⟩ : ∃ w0 w1 w2 : Value, args = #[w0, w1, w2] := by
    have hs : args.size = 3 := by simpa [Cond.value, given_1] using hcount
    obtain ⟨L⟩ := args
    match L, hs with
    | [w0, w1, w2], _ => exact ⟨w0, w1, w2, rfl⟩
  have hw := fun d (hd : d ∈ tables_1) => atoms_spec (ws := Jvm.Cond.code x code maxLocals ret :: tables_1) hat d (List.mem_cons_of_mem _ hd)
  have hfit : Fit s := fun {y c} hc i hi => by
    obtain ⟨ha, rfl⟩ := Array.getElem?_eq_some_iff.mp hc
    have q := List.all_eq_true.mp ((Array.all_eq_true_iff_forall_mem.mp hF) _ (Array.getElem_mem ha)) i (List.mem_range.mpr hi)
    simpa [Array.getElem?_eq_getElem hi] using q
  obtain ⟨i0, r0⟩ := is_v b0
  obtain rfl : w0 = (.int i0) := Option.some.inj r0
  obtain ⟨i1, r1⟩ := is_v b1
  obtain rfl : w1 = (.int i1) := Option.some.inj r1
  obtain ⟨i2, r2⟩ := is_v b2
  obtain rfl : w2 = (.int i2) := Option.some.inj r2
  obtain ⟨n, o, h1, h2, h3, v, L, rfl, ⟨hv, N⟩, hq⟩ := rm_law l s _ hw tables_1 i0 i1 i2  s.heap s.heap.size (Nat.le_refl _)  p e ha hc hk s m _ below hf ((Spec.applies_iff_loose hf).mp happ).1 ⟨rfl, State.Warmed39.refl s, rfl⟩ trivial
  obtain rfl : v = some (.int 1) := by rw [hv, own_one]
  refine ⟨n, _, h1, h2, h3, hpost _ _ _ _ _ _ ⟨Cond.after_iff.mpr rfl, Cond.after_iff.mpr (eq_i res_at (Term.int_eval (1)) rfl), trivial⟩ ⟨hq.1, hq.2.1, (hq.2.2.sift fun y hy => Or.inr (N y hy)).mono (by decide) (by decide)⟩⟩
theorem main_1_1 : Claimed_1_1 := comes_1 fun _ _ _ _ _ _ h hF => ⟨h.1, hF⟩
theorem main_1_2 : Claimed_1_2 := comes_1 fun _ _ _ _ _ _ h hF => ⟨h.2.1, hF⟩
end Jvm.Pilot.@@N@@
namespace Jvm.Pilot.@@N@@
open Jvm Jvm.ClassFile Sem Op Lib Jvm.Free Jvm.Stand Jvm.Pilot.@@N@@.Jvm.D
/-! MADE BY PROGRAM (witnessworld.py) out of the Statement's table words and the real class files: 10 classes; the members and pool entries that the words name. The judged class is class 1, her method 2. -/
namespace start1
open Jvm.ClassFile
def u (s : String) : CpInfo := .utf8 (stringToUtf16 s)
/-- a pool by its gaps: so many unusable entries, then the entry; so many at the end -/
def gap : Nat → List CpInfo → List CpInfo
  | 0, r => r
  | n + 1, r => .unusable :: gap n r
def poolList (es : List (Nat × CpInfo)) (last : Nat) : List CpInfo := es.foldr (fun e r => gap e.1 (e.2 :: r)) (gap last [])
def pool (es : List (Nat × CpInfo)) (last : Nat) : Array CpInfo := ⟨poolList es last⟩
def fileOf (pool : Array CpInfo) (this : Nat) (attrs : Array Attribute := #[]) (ms : Array MethodInfo := #[]) (fl : Nat := 33) (sup : Nat := 0) (ifs : Array Nat := #[]) (fds : Array FieldInfo := #[]) : ClassFile where
  minorVersion := 0
  majorVersion := 65
  constantPool := pool
  accessFlags := fl
  thisClass := this
  superClass := sup
  interfaces := ifs
  fields := fds
  methods := ms
  attributes := attrs
def plain (name : String) (sup : Option ClassId) : Class where
  name := name
  kind := .ordinary
  loader := none
  accessFlags := 33
  super := sup
  interfaces := #[]
  cf := none
  fields := #[]
  methods := #[]
  instanceTypes := #[]
  staticTypes := #[]
  resolved := #[]
  callSites := []
  init := .initialized
  statics := none
  mirror := none

def pool0 : Array CpInfo := pool [(5, u "<init>"), (0, u "()V"), (1, .class_ 10), (1, u "java/lang/Object")] 113

def k0c0 : Code := { maxStack := 0, maxLocals := 1, code := object_method_1_code, exceptionTable := #[], attributes := #[] }
def k0m0 : Method := { name := "<init>", desc := "()V", sig := { parameters := [], returnType := none }, accessFlags := 1, code := some k0c0 }
/-- java/lang/Object -/
def k0 : Class := { plain "java/lang/Object" none with
  accessFlags := 33
  interfaces := #[]
  cf := some (fileOf pool0 8 #[] #[{ accessFlags := 1, nameIndex := 5, descriptorIndex := 6, attributes := #[] }] 33 0 #[] #[])
  fields := #[]
  methods := #[k0m0]
  instanceTypes := #[]
  staticTypes := #[]
  resolved := Array.replicate 124 none
  statics := none }

def pool1 : Array CpInfo := pool [(2, .class_ 4), (1, u "java/lang/Object"), (0, u "<init>"), (0, u "()V"), (0, .double 1), (1, .methodref 10 11), (0, .class_ 12), (0, .nameAndType 13 14), (0, u "com/example/kettenbruch/kettenbruch/ComplexIsZeroPinLaw"), (0, u "scale"), (0, u "(II)D"), (0, .class_ 16), (0, u "com/example/kettenbruch/kettenbruch/Complex"), (0, .methodref 15 18), (0, .nameAndType 5 19), (0, u "(DD)V"), (0, .methodref 15 21), (0, .nameAndType 22 23), (0, u "isZero"), (0, u "()Z"), (3, u "law"), (0, u "(III)Z")] 2

def k1m0 : Method := { name := "<init>", desc := "()V", sig := { parameters := [], returnType := none }, accessFlags := 1, code := none }
def k1c1 : Code := { maxStack := 4, maxLocals := 6, code := method_2_code, exceptionTable := #[], attributes := #[] }
def k1m1 : Method := { name := "scale", desc := "(II)D", sig := { parameters := [.int, .int], returnType := some .double }, accessFlags := 10, code := some k1c1 }
def k1c2 : Code := { maxStack := 6, maxLocals := 8, code := code, exceptionTable := #[], attributes := #[] }
def k1m2 : Method := { name := "law", desc := "(III)Z", sig := { parameters := [.int, .int, .int], returnType := some .boolean }, accessFlags := 9, code := some k1c2 }
/-- com/example/kettenbruch/kettenbruch/ComplexIsZeroPinLaw -/
def k1 : Class := { plain "com/example/kettenbruch/kettenbruch/ComplexIsZeroPinLaw" (some 0) with
  accessFlags := 49
  interfaces := #[]
  cf := some (fileOf pool1 10 #[] #[{ accessFlags := 1, nameIndex := 5, descriptorIndex := 6, attributes := #[] }, { accessFlags := 10, nameIndex := 13, descriptorIndex := 14, attributes := #[] }, { accessFlags := 9, nameIndex := 27, descriptorIndex := 28, attributes := #[] }] 49 2 #[] #[])
  fields := #[]
  methods := #[k1m0, k1m1, k1m2]
  instanceTypes := #[]
  staticTypes := #[]
  resolved := Array.replicate 31 none
  statics := none }

def pool2 : Array CpInfo := pool [(1, .methodref 2 3), (0, .class_ 4), (0, .nameAndType 5 6), (0, u "java/lang/Object"), (0, u "<init>"), (0, u "()V"), (0, .class_ 8), (0, u "java/lang/Record")] 13

def k2c0 : Code := { maxStack := 1, maxLocals := 1, code := jdk_30_method_1_code, exceptionTable := #[], attributes := #[] }
def k2m0 : Method := { name := "<init>", desc := "()V", sig := { parameters := [], returnType := none }, accessFlags := 4, code := some k2c0 }
/-- java/lang/Record -/
def k2 : Class := { plain "java/lang/Record" (some 0) with
  accessFlags := 1057
  interfaces := #[]
  cf := some (fileOf pool2 7 #[] #[{ accessFlags := 4, nameIndex := 5, descriptorIndex := 6, attributes := #[] }] 1057 2 #[] #[])
  fields := #[]
  methods := #[k2m0]
  instanceTypes := #[]
  staticTypes := #[]
  resolved := Array.replicate 22 none
  statics := none }

def pool3 : Array CpInfo := pool [(1, .methodref 2 3), (0, .class_ 4), (0, .nameAndType 5 6), (0, u "java/lang/Record"), (0, u "<init>"), (0, u "()V"), (0, .fieldref 8 9), (0, .class_ 10), (0, .nameAndType 11 12), (0, u "com/example/kettenbruch/kettenbruch/Complex"), (0, u "re"), (0, u "D"), (0, .fieldref 8 14), (0, .nameAndType 15 12), (0, u "im"), (2, u "(DD)V"), (37, u "()Z"), (1, u "isZero")] 36

def k3c0 : Code := { maxStack := 3, maxLocals := 5, code := prog_1_method_1_code, exceptionTable := #[], attributes := #[] }
def k3m0 : Method := { name := "<init>", desc := "(DD)V", sig := { parameters := [.double, .double], returnType := none }, accessFlags := 1, code := some k3c0 }
def k3c1 : Code := { maxStack := 4, maxLocals := 1, code := prog_1_method_4_code, exceptionTable := #[], attributes := #[] }
def k3m1 : Method := { name := "isZero", desc := "()Z", sig := { parameters := [], returnType := some .boolean }, accessFlags := 0, code := some k3c1 }
/-- com/example/kettenbruch/kettenbruch/Complex -/
def k3 : Class := { plain "com/example/kettenbruch/kettenbruch/Complex" (some 2) with
  accessFlags := 49
  interfaces := #[]
  cf := some (fileOf pool3 8 #[] #[{ accessFlags := 1, nameIndex := 5, descriptorIndex := 18, attributes := #[] }, { accessFlags := 0, nameIndex := 58, descriptorIndex := 56, attributes := #[] }] 49 2 #[] #[{ accessFlags := 18, nameIndex := 11, descriptorIndex := 12, attributes := #[] }, { accessFlags := 18, nameIndex := 15, descriptorIndex := 12, attributes := #[] }])
  fields := #[{ name := "re", type := .double, accessFlags := 18, slot := 0, constantValue := 0 }, { name := "im", type := .double, accessFlags := 18, slot := 1, constantValue := 0 }]
  methods := #[k3m0, k3m1]
  instanceTypes := #[.double, .double]
  staticTypes := #[]
  resolved := Array.replicate 95 none
  statics := none }

def pool4 : Array CpInfo := pool [(1, u "java/lang/Cloneable"), (0, .class_ 1), (0, u "java/lang/Object"), (0, .class_ 3)] 3

/-- java/lang/Cloneable -/
def k4 : Class := { plain "java/lang/Cloneable" (some 0) with
  accessFlags := 1537
  interfaces := #[]
  cf := some (fileOf pool4 2 #[] #[] 1537 4 #[] #[])
  fields := #[]
  methods := #[]
  instanceTypes := #[]
  staticTypes := #[]
  resolved := Array.replicate 8 none
  statics := none }

def pool5 : Array CpInfo := pool [(1, u "java/io/Serializable"), (0, .class_ 1), (0, u "java/lang/Object"), (0, .class_ 3)] 3

/-- java/io/Serializable -/
def k5 : Class := { plain "java/io/Serializable" (some 0) with
  accessFlags := 1537
  interfaces := #[]
  cf := some (fileOf pool5 2 #[] #[] 1537 4 #[] #[])
  fields := #[]
  methods := #[]
  instanceTypes := #[]
  staticTypes := #[]
  resolved := Array.replicate 8 none
  statics := none }

/-- the primitive byte -/
def k6 : Class := { plain "byte" none with kind := .primitive 'B', accessFlags := 0x411 }
/-- [B -/
def k7 : Class := { plain "[B" (some 0) with kind := .array 6 .byte, interfaces := #[4, 5], accessFlags := 1041 }

/-- the primitive int -/
def k8 : Class := { plain "int" none with kind := .primitive 'I', accessFlags := 0x411 }
/-- [I -/
def k9 : Class := { plain "[I" (some 0) with kind := .array 8 .int, interfaces := #[4, 5], accessFlags := 1041 }

def heap : Heap := #[]
def classes : Array Class := #[k0, k1, k2, k3, k4, k5, k6, k7, k8, k9]
def interned : List (Array UInt16 × Addr) := []
def slotsUsed : Nat := 0
def theMethod : MethodId := ⟨1, 2⟩
def args0 : Array Value := #[.int 5, .int 7, .int 9]
def aboutOver (below : List Frame) : State where
  vm := { classes := classes, interned := interned.toArray }
  heap := heap
  slotsUsed := slotsUsed
  threads := #[{ frames := .invoking theMethod args0 :: below }]
def below0 : List Frame := [.native { method := ⟨0, 0⟩, args := #[] }]
def about1 : State := aboutOver below0
def p0 : Program := .bare "" "" ""
def e0 : Env := launch0.env 0 0 0
theorem w_frames : about1.frames = Frame.invoking theMethod args0 :: below0 := rfl
set_option maxRecDepth 65536 in
theorem w_args : argsFit about1.vm theMethod args0 = true := by decide +kernel
set_option maxRecDepth 65536 in
theorem w_heap : heapFits about1 = true := by decide +kernel
set_option maxRecDepth 65536 in
theorem w_runnable : about1.curStatus? = some .runnable := by decide +kernel
set_option maxRecDepth 65536 in
theorem w_alone : about1.alone = true := by decide +kernel
set_option maxRecDepth 65536 in
theorem w_named : about1.methodNamed? x = some theMethod := by decide +kernel
set_option maxRecDepth 65536 in
theorem w_hears : about1.hears theMethod below0 = true := by decide +kernel
set_option maxRecDepth 65536 in
theorem w_ripe : about1.ripe theMethod args0 below0 = true := by decide +kernel
theorem w_running : about1.status = .running := rfl
set_option maxRecDepth 65536 in
theorem w_room : about1.hasRoom e0.platform room_1 = true :=
  launch0.hasRoom_least _ room_1 (by decide +kernel) (by decide +kernel) (by decide +kernel) (by decide +kernel) (by decide +kernel) (by decide +kernel)
theorem allAtoms_all (ts : List Jvm.Cond) (a : Array Jvm.Value) (st : Jvm.State) : (allAtoms ts).before a st = ts.all (fun c => c.before a st) := by
  induction ts with
  | nil => rfl
  | cons c t ih =>
    show (Jvm.Cond.and c (allAtoms t)).before a st = _
    rw [Jvm.Cond.before_and, ih, List.all_cons]
def words1 : List Jvm.Cond := Jvm.Cond.code x code maxLocals ret :: tables_1
/-- a 'code' word, met by the world's own term for the bytes: nothing is compared byte by byte -/
theorem code_word {y : MethodName} {bytes : ByteArray} {mx : Nat} {rt : Option FieldType} {a : Array Value} {s : State} {m : MethodId} {meth : Method} {c : Code} (h1 : s.methodNamed? y = some m) (h2 : s.vm.method? m = some meth) (h3 : meth.code = some c) (h4 : c.code = bytes)
    (h5 : (c.maxLocals == mx && c.exceptionTable.isEmpty && decide (c.maxStack ≤ mostOperands) && decide (meth.sig.returnType = rt) && !meth.locks && decide (parseMethodDescriptor y.desc = some meth.sig)) = true) : (Jvm.Cond.code y bytes mx rt).before a s = true := by
  simp only [Bool.and_eq_true, beq_iff_eq, Bool.not_eq_true', decide_eq_true_eq] at h5
  obtain ⟨⟨⟨⟨⟨g1, g2⟩, g3⟩, g4⟩, g5⟩, g6⟩ := h5
  simp [Cond.before, Cond.holds, Cond.value, h1, h2, h3, h4, g1, g2, g3, g4, g5, g6]
def isCode : Jvm.Cond → Bool
  | .code _ _ _ _ => true
  | _ => false
theorem all_split {L : List Jvm.Cond} {P : Jvm.Cond → Bool} (h1 : L.all (fun c => isCode c || P c) = true) (h2 : ∀ c ∈ L.filter isCode, P c = true) : L.all P = true := by
  refine List.all_eq_true.mpr fun c hc => ?_
  have h := List.all_eq_true.mp h1 c hc
  rcases Bool.eq_false_or_eq_true (isCode c) with hi | hi
  · exact h2 c (List.mem_filter.mpr ⟨hc, hi⟩)
  · simpa [hi] using h
set_option maxRecDepth 65536 in
theorem w_c0 : (Jvm.Cond.code x code maxLocals ret).before args0 about1 = true := code_word (m := ⟨1, 2⟩) (meth := k1m2) (c := k1c2) (by decide +kernel) rfl rfl rfl (by decide +kernel)
set_option maxRecDepth 65536 in
theorem w_c1 : (Jvm.Cond.code ({ cls := "com/example/kettenbruch/kettenbruch/ComplexIsZeroPinLaw", name := "scale", desc := "(II)D" } : Jvm.MethodName) method_2_code (6 : Nat) (Option.some Jvm.ClassFile.FieldType.double)).before args0 about1 = true := code_word (m := ⟨1, 1⟩) (meth := k1m1) (c := k1c1) (by decide +kernel) rfl rfl rfl (by decide +kernel)
set_option maxRecDepth 65536 in
theorem w_c2 : (Jvm.Cond.code ({ cls := "com/example/kettenbruch/kettenbruch/Complex", name := "<init>", desc := "(DD)V" } : Jvm.MethodName) prog_1_method_1_code (5 : Nat) (Option.none : Option Jvm.ClassFile.FieldType)).before args0 about1 = true := code_word (m := ⟨3, 0⟩) (meth := k3m0) (c := k3c0) (by decide +kernel) rfl rfl rfl (by decide +kernel)
set_option maxRecDepth 65536 in
theorem w_c3 : (Jvm.Cond.code ({ cls := "java/lang/Record", name := "<init>", desc := "()V" } : Jvm.MethodName) jdk_30_method_1_code (1 : Nat) (Option.none : Option Jvm.ClassFile.FieldType)).before args0 about1 = true := code_word (m := ⟨2, 0⟩) (meth := k2m0) (c := k2c0) (by decide +kernel) rfl rfl rfl (by decide +kernel)
set_option maxRecDepth 65536 in
theorem w_c4 : (Jvm.Cond.code ({ cls := "java/lang/Object", name := "<init>", desc := "()V" } : Jvm.MethodName) object_method_1_code (1 : Nat) (Option.none : Option Jvm.ClassFile.FieldType)).before args0 about1 = true := code_word (m := ⟨0, 0⟩) (meth := k0m0) (c := k0c0) (by decide +kernel) rfl rfl rfl (by decide +kernel)
set_option maxRecDepth 65536 in
theorem w_c5 : (Jvm.Cond.code ({ cls := "com/example/kettenbruch/kettenbruch/Complex", name := "isZero", desc := "()Z" } : Jvm.MethodName) prog_1_method_4_code (1 : Nat) (Option.some Jvm.ClassFile.FieldType.boolean)).before args0 about1 = true := code_word (m := ⟨3, 1⟩) (meth := k3m1) (c := k3c1) (by decide +kernel) rfl rfl rfl (by decide +kernel)
def codes1 : List Jvm.Cond := [Jvm.Cond.code x code maxLocals ret, Jvm.Cond.code ({ cls := "com/example/kettenbruch/kettenbruch/ComplexIsZeroPinLaw", name := "scale", desc := "(II)D" } : Jvm.MethodName) method_2_code (6 : Nat) (Option.some Jvm.ClassFile.FieldType.double), Jvm.Cond.code ({ cls := "com/example/kettenbruch/kettenbruch/Complex", name := "<init>", desc := "(DD)V" } : Jvm.MethodName) prog_1_method_1_code (5 : Nat) (Option.none : Option Jvm.ClassFile.FieldType), Jvm.Cond.code ({ cls := "java/lang/Record", name := "<init>", desc := "()V" } : Jvm.MethodName) jdk_30_method_1_code (1 : Nat) (Option.none : Option Jvm.ClassFile.FieldType), Jvm.Cond.code ({ cls := "java/lang/Object", name := "<init>", desc := "()V" } : Jvm.MethodName) object_method_1_code (1 : Nat) (Option.none : Option Jvm.ClassFile.FieldType), Jvm.Cond.code ({ cls := "com/example/kettenbruch/kettenbruch/Complex", name := "isZero", desc := "()Z" } : Jvm.MethodName) prog_1_method_4_code (1 : Nat) (Option.some Jvm.ClassFile.FieldType.boolean)]
set_option maxRecDepth 65536 in
theorem codes_eq : words1.filter isCode = codes1 := rfl
theorem w_codes : ∀ c ∈ words1.filter isCode, c.before args0 about1 = true := by
  rw [codes_eq]
  intro c hc
  simp only [codes1, List.mem_cons, List.not_mem_nil, or_false] at hc
  rcases hc with rfl | rfl | rfl | rfl | rfl | rfl
  · exact w_c0
  · exact w_c1
  · exact w_c2
  · exact w_c3
  · exact w_c4
  · exact w_c5
set_option maxRecDepth 65536 in
theorem w_t1 : (words1.take 24).all (fun c => isCode c || c.before args0 about1) = true := by decide +kernel
set_option maxRecDepth 65536 in
theorem w_t2 : (words1.drop 24).all (fun c => isCode c || c.before args0 about1) = true := by decide +kernel
theorem w_tables : (allAtoms (Jvm.Cond.code x code maxLocals ret :: tables_1)).before args0 about1 = true := by
  rw [allAtoms_all]
  show words1.all (fun c => c.before args0 about1) = true
  refine all_split ?_ w_codes
  rw [← List.take_append_drop 24 words1, List.all_append, w_t1, w_t2]
  rfl
set_option maxRecDepth 65536 in
theorem w_case : (Jvm.Cond.and given_1 narrow_1).before args0 about1 = true := by decide +kernel
theorem w_applies : (headSpec (Jvm.Cond.code x code maxLocals ret :: tables_1) room_1).applies x e0.platform about1 = true :=
  (Spec.applies_iff w_frames).mpr ⟨w_running, w_runnable, w_alone, w_named, w_hears, w_ripe, w_room, w_tables⟩
theorem atStart : AtStart classFile x code maxLocals ret World_1 tables_1 room_1 Calls_1 rest_1 Pre_1 launch0 p0 e0 about1 theMethod args0 below0 :=
  ⟨lists_1, trivial, launch0.admits_env _ _ _, launch0.least_env, fairChoices_fair.cas, fairChoices_fair.clock, w_frames, w_args, w_heap, w_applies, trivial, trivial, w_case⟩
end start1
theorem witness_1 : WitnessClaimed_1 := ⟨start1.p0, start1.e0, start1.about1, start1.theMethod, start1.args0, start1.below0, start1.atStart⟩
end Jvm.Pilot.@@N@@
