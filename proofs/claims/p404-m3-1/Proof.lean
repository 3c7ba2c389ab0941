import JvmDerived
import JvmDerived.Pilot.@@N@@Statement
import JvmDerived.Pilot.@@N@@Code
set_option linter.unusedVariables false
set_option linter.unusedSimpArgs false
namespace Jvm.OwnFP
open Jvm.FP Jvm.FP.Core
/-- a double's value in units of the least double, 2^-1074 -/
abbrev Zv (a : UInt64) : Int := zval b64 (val64 a)
theorem fin_ne {a : UInt64} (h : DFin a) : val64 a ≠ .nan := by
  obtain ⟨s, c, q, h⟩ := h; rw [h]; exact Datum.noConfusion
theorem mul_ne {a b : UInt64} (ha : DFin a) (hb : DFin b) : val64 (FP.dmul a b) ≠ .nan :=
  Jvm.Free.Fl.val64_no.mp (Jvm.Free.Fl.dmul_out (Jvm.Free.Fl.fin64_core.mpr ha) (Jvm.Free.Fl.fin64_core.mpr hb))
theorem add_ne {a b : UInt64} (ha : DFin a) (hb : DFin b) : val64 (FP.dadd a b) ≠ .nan :=
  Jvm.Free.Fl.val64_no.mp (Jvm.Free.Fl.dadd_out (Jvm.Free.Fl.fin64_core.mpr ha).noNaN (Jvm.Free.Fl.fin64_core.mpr hb))
theorem sub_ne {a b : UInt64} (ha : DFin a) (hb : DFin b) : val64 (FP.dsub a b) ≠ .nan :=
  Jvm.Free.Fl.val64_no.mp (Jvm.Free.Fl.dsub_out (Jvm.Free.Fl.fin64_core.mpr ha).noNaN (Jvm.Free.Fl.fin64_core.mpr hb))
theorem fin_of {r U V : UInt64} (hr : val64 r ≠ .nan) (hU : DFin U) (hV : DFin V) (h1 : Zv U ≤ Zv r) (h2 : Zv r ≤ Zv V) : DFin r := by
  have uU := hU.zval_lt
  have uV := hV.zval_lt
  have aU : (Zv U).natAbs = zmag b64 (val64 U) := natAbs_signed _ _
  have aV : (Zv V).natAbs = zmag b64 (val64 V) := natAbs_signed _ _
  have ar : (Zv r).natAbs = zmag b64 (val64 r) := natAbs_signed _ _
  cases e : val64 r with
  | nan => exact absurd e hr
  | fin s c q => exact ⟨s, c, q, e⟩
  | inf s =>
    have e2 : zmag b64 (val64 r) = b64.tails * 2 ^ (b64.exps - 2) := by rw [e]; rfl
    rw [e2] at ar
    generalize b64.tails * 2 ^ (b64.exps - 2) = top at *
    omega
theorem dmul_le {a b V : UInt64} (ha : DFin a) (hb : DFin b) (hV : val64 V ≠ .nan) (h : Zv a * Zv b ≤ Zv V * (one64 : Int)) : Zv (FP.dmul a b) ≤ Zv V := by
  obtain ⟨s, c, q, ea⟩ := ha
  obtain ⟨t, d, r, eb⟩ := hb
  have fa := val64_fits a
  have fb := val64_fits b
  unfold Zv at h ⊢
  rw [ea] at fa h
  rw [eb] at fb h
  obtain ⟨p1, p2, p3⟩ := product_units fa fb
  rw [val64_dmul, ea, eb, p1]
  have hq := qmin_neg good_b64
  refine zval_round_le good_b64 (val64_fits V) hV (e0 := 2 * b64.qmin) (by omega) p2 ?_
  rw [p3, signed_xor, show (b64.qmin - 2 * b64.qmin).toNat = (-b64.qmin).toNat by omega, pow_qmin64]
  exact h
theorem dmul_ge {a b V : UInt64} (ha : DFin a) (hb : DFin b) (hV : val64 V ≠ .nan) (h : Zv V * (one64 : Int) ≤ Zv a * Zv b) : Zv V ≤ Zv (FP.dmul a b) := by
  obtain ⟨s, c, q, ea⟩ := ha
  obtain ⟨t, d, r, eb⟩ := hb
  have fa := val64_fits a
  have fb := val64_fits b
  unfold Zv at h ⊢
  rw [ea] at fa h
  rw [eb] at fb h
  obtain ⟨p1, p2, p3⟩ := product_units fa fb
  rw [val64_dmul, ea, eb, p1]
  have hq := qmin_neg good_b64
  refine zval_round_ge good_b64 (val64_fits V) hV (e0 := 2 * b64.qmin) (by omega) p2 ?_
  rw [p3, signed_xor, show (b64.qmin - 2 * b64.qmin).toNat = (-b64.qmin).toNat by omega, pow_qmin64]
  exact h
theorem dadd_le {a b V : UInt64} (ha : DFin a) (hb : DFin b) (hV : val64 V ≠ .nan) (h : Zv a + Zv b ≤ Zv V) : Zv (FP.dadd a b) ≤ Zv V := by
  unfold Zv at h ⊢
  rw [val64_dadd]; exact sum_le good_b64 ha hb (val64_fits a) (val64_fits b) (val64_fits V) hV h
theorem dadd_ge {a b V : UInt64} (ha : DFin a) (hb : DFin b) (hV : val64 V ≠ .nan) (h : Zv V ≤ Zv a + Zv b) : Zv V ≤ Zv (FP.dadd a b) := by
  unfold Zv at h ⊢
  rw [val64_dadd]; exact sum_ge good_b64 ha hb (val64_fits a) (val64_fits b) (val64_fits V) hV h
theorem neg_fin {a : UInt64} (h : DFin a) : DFin (FP.dneg a) := by
  obtain ⟨s, c, q, h⟩ := h
  exact ⟨!s, c, q, by rw [FP.val64_dneg, h]; rfl⟩
theorem Zv_neg (a : UInt64) : Zv (FP.dneg a) = -Zv a := by unfold Zv; rw [FP.val64_dneg, zval_negate]
theorem cneg_fin {a : UInt64} (h : DFin a) : DFin (Core.dneg a) := by
  obtain ⟨s, c, q, h⟩ := h
  exact ⟨!s, c, q, by rw [Core.val64_dneg, h]; rfl⟩
theorem Zv_cneg (a : UInt64) : Zv (Core.dneg a) = -Zv a := by unfold Zv; rw [Core.val64_dneg, zval_negate]
theorem dsub_le {a b V : UInt64} (ha : DFin a) (hb : DFin b) (hV : val64 V ≠ .nan) (h : Zv a - Zv b ≤ Zv V) : Zv (FP.dsub a b) ≤ Zv V := by
  show Zv (Core.dsub a b) ≤ _
  rw [Core.dsub_eq]; exact dadd_le ha (cneg_fin hb) hV (by rw [Zv_cneg]; omega)
theorem dsub_ge {a b V : UInt64} (ha : DFin a) (hb : DFin b) (hV : val64 V ≠ .nan) (h : Zv V ≤ Zv a - Zv b) : Zv V ≤ Zv (FP.dsub a b) := by
  show _ ≤ Zv (Core.dsub a b)
  rw [Core.dsub_eq]; exact dadd_ge ha (cneg_fin hb) hV (by rw [Zv_cneg]; omega)
/-- where the exact value is a double's, it is the result's -/
theorem dmul_eq {a b V : UInt64} (ha : DFin a) (hb : DFin b) (hV : DFin V) (h : Zv a * Zv b = Zv V * (one64 : Int)) : DFin (FP.dmul a b) ∧ Zv (FP.dmul a b) = Zv V := by
  have h1 := dmul_le ha hb (fin_ne hV) (Int.le_of_eq h)
  have h2 := dmul_ge ha hb (fin_ne hV) (Int.le_of_eq h.symm)
  exact ⟨fin_of (mul_ne ha hb) hV hV h2 h1, Int.le_antisymm h1 h2⟩
theorem dadd_eq {a b V : UInt64} (ha : DFin a) (hb : DFin b) (hV : DFin V) (h : Zv a + Zv b = Zv V) : DFin (FP.dadd a b) ∧ Zv (FP.dadd a b) = Zv V := by
  have h1 := dadd_le ha hb (fin_ne hV) (Int.le_of_eq h)
  have h2 := dadd_ge ha hb (fin_ne hV) (Int.le_of_eq h.symm)
  exact ⟨fin_of (add_ne ha hb) hV hV h2 h1, Int.le_antisymm h1 h2⟩
theorem dsub_eq {a b V : UInt64} (ha : DFin a) (hb : DFin b) (hV : DFin V) (h : Zv a - Zv b = Zv V) : DFin (FP.dsub a b) ∧ Zv (FP.dsub a b) = Zv V := by
  have h1 := dsub_le ha hb (fin_ne hV) (Int.le_of_eq h)
  have h2 := dsub_ge ha hb (fin_ne hV) (Int.le_of_eq h.symm)
  exact ⟨fin_of (sub_ne ha hb) hV hV h2 h1, Int.le_antisymm h1 h2⟩
theorem signed_self (N : Int) (k : Nat) : signed (decide (N < 0)) (N.natAbs * k) = N * (k : Int) := by
  rw [signed_mul]
  congr 1
  unfold signed
  by_cases h : N < 0 <;> simp [h] <;> omega
/-- every N * 2^k units, N of up to 53 digits, is a double -/
theorem rep (N : Int) (k : Nat) (hN : N.natAbs < 2 ^ 53) (hk : k ≤ 2045) : ∃ V, DFin V ∧ Zv V = N * ((2 ^ k : Nat) : Int) := by
  have q1 := qmin_b64
  have q2 : b64.qmax = 971 := by decide
  obtain ⟨c', q', h1, h2⟩ := round_exact good_b64 (decide (N < 0)) (c := N.natAbs) (q := (k : Int) - 1074) hN (by omega) (by omega)
  have hv : val64 (of64 (round b64 (.fin (decide (N < 0)) N.natAbs ((k : Int) - 1074)))) = .fin (decide (N < 0)) c' q' := by
    rw [val64_of64 (round_fits good_b64 _), h1]
  refine ⟨_, ⟨_, _, _, hv⟩, ?_⟩
  unfold Zv
  rw [hv]
  show signed (decide (N < 0)) (inUnits c' q' b64.qmin) = _
  rw [h2, q1]
  unfold inUnits
  rw [show ((k : Int) - 1074 - -1074).toNat = k by omega]
  exact signed_self N _
/-- the double a is N * 2^(k - 1074) -/
def Val (a : UInt64) (N : Int) (k : Nat) : Prop := DFin a ∧ Zv a = N * ((2 ^ k : Nat) : Int)
theorem one_pow : (one64 : Int) = ((2 ^ 1074 : Nat) : Int) := rfl
theorem Val.of_int {i : Int} {a : UInt64} (h : DInt i a) : Val a i 1074 := by
  refine ⟨?_, (DInt_zval h).trans (by rw [one_pow])⟩
  unfold DInt at h
  cases e : val64 a with
  | nan => rw [e] at h; exact h.elim
  | inf s => rw [e] at h; exact h.elim
  | fin s c q => exact ⟨s, c, q, e⟩
theorem Val.i2d (n : Int32) : Val (FP.i2d n) n.toInt 1074 := Val.of_int (i2d_int n)
theorem Val.l2d {n : Int64} (h : n.toInt.natAbs ≤ 2 ^ 53) : Val (FP.l2d n) n.toInt 1074 := Val.of_int (l2d_int h)
theorem Val.neg {a : UInt64} {N : Int} {k : Nat} (h : Val a N k) : Val (FP.dneg a) (-N) k := ⟨neg_fin h.1, by rw [Zv_neg, h.2, Int.neg_mul]⟩
theorem pow_cast (k j : Nat) : ((2 ^ (k + j) : Nat) : Int) = ((2 ^ k : Nat) : Int) * ((2 ^ j : Nat) : Int) := by
  rw [Nat.pow_add, Int.natCast_mul]
theorem Val.mul {a b : UInt64} {N M : Int} {k j i : Nat} (ha : Val a N k) (hb : Val b M j) (hN : (N * M).natAbs < 2 ^ 53) (hi : k + j = i + 1074) (hk : i ≤ 2045) : Val (FP.dmul a b) (N * M) i := by
  obtain ⟨V, fV, zV⟩ := rep (N * M) i hN hk
  obtain ⟨h1, h2⟩ := dmul_eq ha.1 hb.1 fV (by
    rw [ha.2, hb.2, zV, one_pow, Int.mul_assoc (N * M), ← pow_cast, ← hi, pow_cast, Int.mul_assoc N M, Int.mul_assoc N, Int.mul_left_comm _ M])
  exact ⟨h1, h2.trans zV⟩
theorem Val.add {a b : UInt64} {N M : Int} {k : Nat} (ha : Val a N k) (hb : Val b M k) (hN : (N + M).natAbs < 2 ^ 53) (hk : k ≤ 2045) : Val (FP.dadd a b) (N + M) k := by
  obtain ⟨V, fV, zV⟩ := rep (N + M) k hN hk
  obtain ⟨h1, h2⟩ := dadd_eq ha.1 hb.1 fV (by rw [ha.2, hb.2, zV, Int.add_mul])
  exact ⟨h1, h2.trans zV⟩
theorem Val.sub {a b : UInt64} {N M : Int} {k : Nat} (ha : Val a N k) (hb : Val b M k) (hN : (N - M).natAbs < 2 ^ 53) (hk : k ≤ 2045) : Val (FP.dsub a b) (N - M) k := by
  obtain ⟨V, fV, zV⟩ := rep (N - M) k hN hk
  obtain ⟨h1, h2⟩ := dsub_eq ha.1 hb.1 fV (by rw [ha.2, hb.2, zV, Int.sub_mul])
  exact ⟨h1, h2.trans zV⟩
theorem pow_pos' (k : Nat) : (0 : Int) < ((2 ^ k : Nat) : Int) := by have := Nat.two_pow_pos k; omega
theorem Val.cmp {a b : UInt64} {N M : Int} {k : Nat} (ha : Val a N k) (hb : Val b M k) : FP.dcmp a b = some (compare N M) := by
  have h : FP.dcmp a b = some (compare (Zv a) (Zv b)) := dcmp_zval (fin_ne ha.1) (fin_ne hb.1)
  rw [h, ha.2, hb.2, compare_mul_pos _ _ _ (pow_pos' k)]
theorem Val.scale {a : UInt64} {N : Int} {k : Nat} (j : Nat) (ha : Val a N (k + j)) : Val a (N * ((2 ^ j : Nat) : Int)) k :=
  ⟨ha.1, by rw [ha.2, pow_cast, Int.mul_assoc, Int.mul_comm ((2 ^ k : Nat) : Int)]⟩
theorem lt_iff {a b : UInt64} (ha : DFin a) (hb : DFin b) : FP.dcmp a b = some .lt ↔ Zv a < Zv b :=
  ⟨fun h => (dcmp_lt.mp h).2.2, fun h => dcmp_lt.mpr ⟨fin_ne ha, fin_ne hb, h⟩⟩
theorem eq_iff {a b : UInt64} (ha : DFin a) (hb : DFin b) : FP.dcmp a b = some .eq ↔ Zv a = Zv b :=
  ⟨fun h => (dcmp_eq.mp h).2.2, fun h => dcmp_eq.mpr ⟨fin_ne ha, fin_ne hb, h⟩⟩
theorem le_iff {a b : UInt64} (ha : DFin a) (hb : DFin b) : (FP.dcmp a b = some .lt ∨ FP.dcmp a b = some .eq) ↔ Zv a ≤ Zv b := by
  rw [lt_iff ha hb, eq_iff ha hb]; omega
theorem dfin_const {a : UInt64} (h : a.toNat % 9223372036854775808 < 9218868437227405312) : DFin a := (Core.fin_bits a).mpr h
end Jvm.OwnFP
namespace Jvm.Pilot.@@N@@
open Jvm Jvm.ClassFile Sem Op Lib Jvm.Free Jvm.Stand Jvm.LawKit Jvm.RoadKit Bundle Jvm.Pilot.@@N@@.Jvm.D
abbrev Go (p : Program) (e : Env) (below : List Frame) (t T : State) (m : MethodId) (pc : Nat) (ls : Array Slot) (st : List Value) : Prop := Steps p.tables e below (T.setTop (mkF m pc ls st)) t
/-- from A the run comes to B -/
def Goes (p : Program) (e : Env) (below : List Frame) (A B : State) : Prop := ∀ t, Steps p.tables e below B t → Steps p.tables e below A t
abbrev dLt (x y : UInt64) : Prop := FP.dcmp x y = some .lt
abbrev dEq (x y : UInt64) : Prop := FP.dcmp x y = some .eq
abbrev dLe (x y : UInt64) : Prop := FP.dcmp x y = some .lt ∨ FP.dcmp x y = some .eq
abbrev fLt (x y : UInt32) : Prop := FP.fcmp x y = some .lt
abbrev fEq (x y : UInt32) : Prop := FP.fcmp x y = some .eq
abbrev fLe (x y : UInt32) : Prop := FP.fcmp x y = some .lt ∨ FP.fcmp x y = some .eq
theorem Sta.keepO {Z : State} {h h' : Heap} {C n d : String} {v : Value} {ws : List Addr} (F : Sta Z h C n d v) (K : Keep h h' ws) (q : ∀ x ∈ ws, ∀ cell : Cell, h[x]? = some cell → cell.vm.isStatics = false) : Sta Z h' C n d v := by
  obtain ⟨cf, i, k, f, st, cell, h1, h2, h3, h4, h5, h6, h7⟩ := F
  refine ⟨cf, i, k, f, st, cell, h1, h2, h3, h4, K.2.1 _ _ h5 fun hm => ?_, h6, h7⟩
  rw [q _ hm _ h5] at h6; cases h6
theorem own_swap (o : Option Ordering) : o.map Ordering.swap = some .lt ↔ o = some .gt := by rcases o with _ | (_ | _ | _) <;> simp [Ordering.swap]
theorem own_swapE (o : Option Ordering) : o.map Ordering.swap = some .eq ↔ o = some .eq := by rcases o with _ | (_ | _ | _) <;> simp [Ordering.swap]
theorem own_dgt (x y : UInt64) : dLt y x ↔ FP.dcmp x y = some .gt := by
  show FP.Core.dcmp y x = some .lt ↔ FP.Core.dcmp x y = some .gt
  rw [FP.Core.dcmp_swap x y]; exact own_swap _
theorem own_dge (x y : UInt64) : dLe y x ↔ (FP.dcmp x y = some .gt ∨ FP.dcmp x y = some .eq) := by
  show (FP.Core.dcmp y x = some .lt ∨ FP.Core.dcmp y x = some .eq) ↔ (FP.Core.dcmp x y = some .gt ∨ FP.Core.dcmp x y = some .eq)
  rw [FP.Core.dcmp_swap x y, own_swap, own_swapE]
theorem own_fgt (x y : UInt32) : fLt y x ↔ FP.fcmp x y = some .gt := by
  show FP.Core.fcmp y x = some .lt ↔ FP.Core.fcmp x y = some .gt
  rw [FP.Core.fcmp_swap x y]; exact own_swap _
theorem own_fge (x y : UInt32) : fLe y x ↔ (FP.fcmp x y = some .gt ∨ FP.fcmp x y = some .eq) := by
  show (FP.Core.fcmp y x = some .lt ∨ FP.Core.fcmp y x = some .eq) ↔ (FP.Core.fcmp x y = some .gt ∨ FP.Core.fcmp x y = some .eq)
  rw [FP.Core.fcmp_swap x y, own_swap, own_swapE]
theorem own_c (o : Option Ordering) :
    (o = some .lt → ifCond.holds .ge (cmpValue o .g) = false ∧ ifCond.holds .lt (cmpValue o .g) = true) ∧
    (¬ o = some .lt → ifCond.holds .ge (cmpValue o .g) = true ∧ ifCond.holds .lt (cmpValue o .g) = false) ∧
    ((o = some .lt ∨ o = some .eq) → ifCond.holds .gt (cmpValue o .g) = false ∧ ifCond.holds .le (cmpValue o .g) = true) ∧
    (¬ (o = some .lt ∨ o = some .eq) → ifCond.holds .gt (cmpValue o .g) = true ∧ ifCond.holds .le (cmpValue o .g) = false) ∧
    (o = some .gt → ifCond.holds .le (cmpValue o .l) = false ∧ ifCond.holds .gt (cmpValue o .l) = true) ∧
    (¬ o = some .gt → ifCond.holds .le (cmpValue o .l) = true ∧ ifCond.holds .gt (cmpValue o .l) = false) ∧
    ((o = some .gt ∨ o = some .eq) → ifCond.holds .lt (cmpValue o .l) = false ∧ ifCond.holds .ge (cmpValue o .l) = true) ∧
    (¬ (o = some .gt ∨ o = some .eq) → ifCond.holds .lt (cmpValue o .l) = true ∧ ifCond.holds .ge (cmpValue o .l) = false) ∧
    (o = some .eq → ∀ q, ifCond.holds .ne (cmpValue o q) = false ∧ ifCond.holds .eq (cmpValue o q) = true) ∧
    (¬ o = some .eq → ∀ q, ifCond.holds .ne (cmpValue o q) = true ∧ ifCond.holds .eq (cmpValue o q) = false) := by
  refine ⟨?_, ?_, ?_, ?_, ?_, ?_, ?_, ?_, ?_, ?_⟩ <;> rcases o with _ | (_ | _ | _) <;> first | (intro h; exact ⟨by decide, by decide⟩) | (intro h q; cases q <;> exact ⟨by decide, by decide⟩) | (intro h; simp at h; done) | (intro h; exact absurd rfl h) | (intro h; exact absurd (Or.inl rfl) h) | (intro h; exact absurd (Or.inr rfl) h)
theorem dc_g_ge_f {x y : UInt64} (h : dLt x y) : ifCond.holds .ge (cmpValue (FP.dcmp x y) .g) = false := ((own_c _).1 h).1
theorem dc_g_ge_t {x y : UInt64} (h : ¬ dLt x y) : ifCond.holds .ge (cmpValue (FP.dcmp x y) .g) = true := ((own_c _).2.1 h).1
theorem dc_g_lt_t {x y : UInt64} (h : dLt x y) : ifCond.holds .lt (cmpValue (FP.dcmp x y) .g) = true := ((own_c _).1 h).2
theorem dc_g_lt_f {x y : UInt64} (h : ¬ dLt x y) : ifCond.holds .lt (cmpValue (FP.dcmp x y) .g) = false := ((own_c _).2.1 h).2
theorem dc_g_gt_f {x y : UInt64} (h : dLe x y) : ifCond.holds .gt (cmpValue (FP.dcmp x y) .g) = false := ((own_c _).2.2.1 h).1
theorem dc_g_gt_t {x y : UInt64} (h : ¬ dLe x y) : ifCond.holds .gt (cmpValue (FP.dcmp x y) .g) = true := ((own_c _).2.2.2.1 h).1
theorem dc_g_le_t {x y : UInt64} (h : dLe x y) : ifCond.holds .le (cmpValue (FP.dcmp x y) .g) = true := ((own_c _).2.2.1 h).2
theorem dc_g_le_f {x y : UInt64} (h : ¬ dLe x y) : ifCond.holds .le (cmpValue (FP.dcmp x y) .g) = false := ((own_c _).2.2.2.1 h).2
theorem dc_l_le_f {x y : UInt64} (h : dLt y x) : ifCond.holds .le (cmpValue (FP.dcmp x y) .l) = false := ((own_c _).2.2.2.2.1 ((own_dgt x y).mp h)).1
theorem dc_l_le_t {x y : UInt64} (h : ¬ dLt y x) : ifCond.holds .le (cmpValue (FP.dcmp x y) .l) = true := ((own_c _).2.2.2.2.2.1 (fun q => h ((own_dgt x y).mpr q))).1
theorem dc_l_gt_t {x y : UInt64} (h : dLt y x) : ifCond.holds .gt (cmpValue (FP.dcmp x y) .l) = true := ((own_c _).2.2.2.2.1 ((own_dgt x y).mp h)).2
theorem dc_l_gt_f {x y : UInt64} (h : ¬ dLt y x) : ifCond.holds .gt (cmpValue (FP.dcmp x y) .l) = false := ((own_c _).2.2.2.2.2.1 (fun q => h ((own_dgt x y).mpr q))).2
theorem dc_l_lt_f {x y : UInt64} (h : dLe y x) : ifCond.holds .lt (cmpValue (FP.dcmp x y) .l) = false := ((own_c _).2.2.2.2.2.2.1 ((own_dge x y).mp h)).1
theorem dc_l_lt_t {x y : UInt64} (h : ¬ dLe y x) : ifCond.holds .lt (cmpValue (FP.dcmp x y) .l) = true := ((own_c _).2.2.2.2.2.2.2.1 (fun q => h ((own_dge x y).mpr q))).1
theorem dc_l_ge_t {x y : UInt64} (h : dLe y x) : ifCond.holds .ge (cmpValue (FP.dcmp x y) .l) = true := ((own_c _).2.2.2.2.2.2.1 ((own_dge x y).mp h)).2
theorem dc_l_ge_f {x y : UInt64} (h : ¬ dLe y x) : ifCond.holds .ge (cmpValue (FP.dcmp x y) .l) = false := ((own_c _).2.2.2.2.2.2.2.1 (fun q => h ((own_dge x y).mpr q))).2
theorem dc_l_ne_f {x y : UInt64} (h : dEq x y) : ifCond.holds .ne (cmpValue (FP.dcmp x y) .l) = false := ((own_c _).2.2.2.2.2.2.2.2.1 h _).1
theorem dc_l_ne_t {x y : UInt64} (h : ¬ dEq x y) : ifCond.holds .ne (cmpValue (FP.dcmp x y) .l) = true := ((own_c _).2.2.2.2.2.2.2.2.2 h _).1
theorem dc_l_eq_t {x y : UInt64} (h : dEq x y) : ifCond.holds .eq (cmpValue (FP.dcmp x y) .l) = true := ((own_c _).2.2.2.2.2.2.2.2.1 h _).2
theorem dc_l_eq_f {x y : UInt64} (h : ¬ dEq x y) : ifCond.holds .eq (cmpValue (FP.dcmp x y) .l) = false := ((own_c _).2.2.2.2.2.2.2.2.2 h _).2
theorem dc_g_ne_f {x y : UInt64} (h : dEq x y) : ifCond.holds .ne (cmpValue (FP.dcmp x y) .g) = false := ((own_c _).2.2.2.2.2.2.2.2.1 h _).1
theorem dc_g_ne_t {x y : UInt64} (h : ¬ dEq x y) : ifCond.holds .ne (cmpValue (FP.dcmp x y) .g) = true := ((own_c _).2.2.2.2.2.2.2.2.2 h _).1
theorem dc_g_eq_t {x y : UInt64} (h : dEq x y) : ifCond.holds .eq (cmpValue (FP.dcmp x y) .g) = true := ((own_c _).2.2.2.2.2.2.2.2.1 h _).2
theorem dc_g_eq_f {x y : UInt64} (h : ¬ dEq x y) : ifCond.holds .eq (cmpValue (FP.dcmp x y) .g) = false := ((own_c _).2.2.2.2.2.2.2.2.2 h _).2
theorem fc_g_ge_f {x y : UInt32} (h : fLt x y) : ifCond.holds .ge (cmpValue (FP.fcmp x y) .g) = false := ((own_c _).1 h).1
theorem fc_g_ge_t {x y : UInt32} (h : ¬ fLt x y) : ifCond.holds .ge (cmpValue (FP.fcmp x y) .g) = true := ((own_c _).2.1 h).1
theorem fc_g_lt_t {x y : UInt32} (h : fLt x y) : ifCond.holds .lt (cmpValue (FP.fcmp x y) .g) = true := ((own_c _).1 h).2
theorem fc_g_lt_f {x y : UInt32} (h : ¬ fLt x y) : ifCond.holds .lt (cmpValue (FP.fcmp x y) .g) = false := ((own_c _).2.1 h).2
theorem fc_g_gt_f {x y : UInt32} (h : fLe x y) : ifCond.holds .gt (cmpValue (FP.fcmp x y) .g) = false := ((own_c _).2.2.1 h).1
theorem fc_g_gt_t {x y : UInt32} (h : ¬ fLe x y) : ifCond.holds .gt (cmpValue (FP.fcmp x y) .g) = true := ((own_c _).2.2.2.1 h).1
theorem fc_g_le_t {x y : UInt32} (h : fLe x y) : ifCond.holds .le (cmpValue (FP.fcmp x y) .g) = true := ((own_c _).2.2.1 h).2
theorem fc_g_le_f {x y : UInt32} (h : ¬ fLe x y) : ifCond.holds .le (cmpValue (FP.fcmp x y) .g) = false := ((own_c _).2.2.2.1 h).2
theorem fc_l_le_f {x y : UInt32} (h : fLt y x) : ifCond.holds .le (cmpValue (FP.fcmp x y) .l) = false := ((own_c _).2.2.2.2.1 ((own_fgt x y).mp h)).1
theorem fc_l_le_t {x y : UInt32} (h : ¬ fLt y x) : ifCond.holds .le (cmpValue (FP.fcmp x y) .l) = true := ((own_c _).2.2.2.2.2.1 (fun q => h ((own_fgt x y).mpr q))).1
theorem fc_l_gt_t {x y : UInt32} (h : fLt y x) : ifCond.holds .gt (cmpValue (FP.fcmp x y) .l) = true := ((own_c _).2.2.2.2.1 ((own_fgt x y).mp h)).2
theorem fc_l_gt_f {x y : UInt32} (h : ¬ fLt y x) : ifCond.holds .gt (cmpValue (FP.fcmp x y) .l) = false := ((own_c _).2.2.2.2.2.1 (fun q => h ((own_fgt x y).mpr q))).2
theorem fc_l_lt_f {x y : UInt32} (h : fLe y x) : ifCond.holds .lt (cmpValue (FP.fcmp x y) .l) = false := ((own_c _).2.2.2.2.2.2.1 ((own_fge x y).mp h)).1
theorem fc_l_lt_t {x y : UInt32} (h : ¬ fLe y x) : ifCond.holds .lt (cmpValue (FP.fcmp x y) .l) = true := ((own_c _).2.2.2.2.2.2.2.1 (fun q => h ((own_fge x y).mpr q))).1
theorem fc_l_ge_t {x y : UInt32} (h : fLe y x) : ifCond.holds .ge (cmpValue (FP.fcmp x y) .l) = true := ((own_c _).2.2.2.2.2.2.1 ((own_fge x y).mp h)).2
theorem fc_l_ge_f {x y : UInt32} (h : ¬ fLe y x) : ifCond.holds .ge (cmpValue (FP.fcmp x y) .l) = false := ((own_c _).2.2.2.2.2.2.2.1 (fun q => h ((own_fge x y).mpr q))).2
theorem fc_l_ne_f {x y : UInt32} (h : fEq x y) : ifCond.holds .ne (cmpValue (FP.fcmp x y) .l) = false := ((own_c _).2.2.2.2.2.2.2.2.1 h _).1
theorem fc_l_ne_t {x y : UInt32} (h : ¬ fEq x y) : ifCond.holds .ne (cmpValue (FP.fcmp x y) .l) = true := ((own_c _).2.2.2.2.2.2.2.2.2 h _).1
theorem fc_l_eq_t {x y : UInt32} (h : fEq x y) : ifCond.holds .eq (cmpValue (FP.fcmp x y) .l) = true := ((own_c _).2.2.2.2.2.2.2.2.1 h _).2
theorem fc_l_eq_f {x y : UInt32} (h : ¬ fEq x y) : ifCond.holds .eq (cmpValue (FP.fcmp x y) .l) = false := ((own_c _).2.2.2.2.2.2.2.2.2 h _).2
theorem fc_g_ne_f {x y : UInt32} (h : fEq x y) : ifCond.holds .ne (cmpValue (FP.fcmp x y) .g) = false := ((own_c _).2.2.2.2.2.2.2.2.1 h _).1
theorem fc_g_ne_t {x y : UInt32} (h : ¬ fEq x y) : ifCond.holds .ne (cmpValue (FP.fcmp x y) .g) = true := ((own_c _).2.2.2.2.2.2.2.2.2 h _).1
theorem fc_g_eq_t {x y : UInt32} (h : fEq x y) : ifCond.holds .eq (cmpValue (FP.fcmp x y) .g) = true := ((own_c _).2.2.2.2.2.2.2.2.1 h _).2
theorem fc_g_eq_f {x y : UInt32} (h : ¬ fEq x y) : ifCond.holds .eq (cmpValue (FP.fcmp x y) .g) = false := ((own_c _).2.2.2.2.2.2.2.2.2 h _).2
theorem d0_0 : decode prog_11_method_3_code 0 = .ok (.dload_n 2, 1) := by decide +kernel
theorem d0_1 : decode prog_11_method_3_code 1 = .ok (.dconst 0, 1) := by decide +kernel
theorem d0_2 : decode prog_11_method_3_code 2 = .ok (.dcmp .l, 1) := by decide +kernel
theorem d0_3 : decode prog_11_method_3_code 3 = .ok (.ifCond .ne 9, 3) := by decide +kernel
theorem d0_6 : decode prog_11_method_3_code 6 = .ok (.ldc2_w 36, 3) := by decide +kernel
theorem d0_9 : decode prog_11_method_3_code 9 = .ok (.goto 7, 3) := by decide +kernel
theorem d0_12 : decode prog_11_method_3_code 12 = .ok (.dload_n 0, 1) := by decide +kernel
theorem d0_13 : decode prog_11_method_3_code 13 = .ok (.dneg, 1) := by decide +kernel
theorem d0_14 : decode prog_11_method_3_code 14 = .ok (.dload_n 2, 1) := by decide +kernel
theorem d0_15 : decode prog_11_method_3_code 15 = .ok (.dmul, 1) := by decide +kernel
theorem d0_16 : decode prog_11_method_3_code 16 = .ok (.dreturn, 1) := by decide +kernel
theorem pd0 : parseMethodDescriptor "(DD)D" = some ⟨[.double, .double], some .double⟩ := by decide +kernel
theorem pf_st : plainFor (⟨"com/example/kettenbruch/kettenbruch/RealLoop", "stepAfterZero", "(DD)D"⟩ : MethodName) = true := by first | exact plainFor_of_name (by first | (simp [plainName, overriddenIn, x]; done) | decide +kernel) | exact Jvm.Free.JP.mathPlain rfl (by decide +kernel) | decide +kernel
theorem ef_st (m : MethodId) (xa : UInt64) (xd : UInt64) : entryFrame m #[(.double xa), (.double xd)] 4 = mkF m 0 #[.val (.double xa), .second, .val (.double xd), .second] [] := by first | (simp [entryFrame, mkF, argsToLocals, Value.category, maxLocals]; done) | rfl
def f_st (xa : UInt64) (xd : UInt64) : UInt64 := (if dEq xd (0 : UInt64) then (13830554455654793216 : UInt64) else (FP.dmul (FP.dneg xa) xd))
def Q_st (Z : State) (xa : UInt64) (xd : UInt64)  (h0 : Heap) (n0 : Nat) (v : Option Value) (h : Heap) (L : List Loc) : Prop := v = some (.double (f_st xa xd)) ∧ Fr n0 L ∧ h = h0
set_option maxRecDepth 65536 in
set_option maxHeartbeats 40000000 in
theorem rm_st (l : Launch) (Z : State) (a0 : Array Value) (hw : ∀ d ∈ tables_1, d.before a0 Z = true) (ws : List Jvm.Cond) (xa : UInt64) (xd : UInt64)  (h0 : Heap) (n0 : Nat) (Z0 : n0 ≤ h0.size)  (nn15 : ¬ (dEq xd (0 : UInt64)) → Jvm.Free.Fl.NoNaN64 (FP.dmul (FP.dneg xa) xd)) :
    MetFree l (⟨"com/example/kettenbruch/kettenbruch/RealLoop", "stepAfterZero", "(DD)D"⟩ : MethodName) (head1 (Jvm.Cond.code (⟨"com/example/kettenbruch/kettenbruch/RealLoop", "stepAfterZero", "(DD)D"⟩ : MethodName) prog_11_method_3_code 4 (some .double) :: ws) ({ frames := 0, cells := 0, slots := 0, locals := 0 } : Room)) (fun a U => a = #[(.double xa), (.double xd)] ∧ Z.Warmed39 U.vm ∧ U.heap = h0) (fun _ _ _ _ _ => True) (fun _ U o U' => ∃ v L, o = .returned v ∧ Q_st Z xa xd  h0 n0 v U'.heap L ∧ FrameEnd U o U' L ({ frames := 0, cells := 0, slots := 0, locals := 0 } : Room).cells ({ frames := 0, cells := 0, slots := 0, locals := 0 } : Room).slots) := by
  refine MetFree.of_bodySF pf_st hisR ?_
  intro p e s m args below meth c s₁ Bd hml0 hP hK
  obtain ⟨rfl, hZ, hh⟩ := hP
  have hx := Bd.exec
  have hby := Bd.bytes
  have hml : c.maxLocals = 4 := hml0
  have hown : s.vm.findClass "com/example/kettenbruch/kettenbruch/RealLoop" = some m.cls := findClass_of_methodNamed Bd.named
  have hnm := (name_of_methodNamed Bd.named Bd.method).1
  have X0 : Stand p l e ({ frames := 0, cells := 0, slots := 0, locals := 0 } : Room) s m #[(.double xa), (.double xd)] below meth c s₁ [] 0 0 := Stand.of_body Bd
  have e0 : s₁.heap = h0 := by rw [← hh, Bd.state]; rfl
  have N0 := Fr.nil n0
  obtain ⟨S0, hS0⟩ : ∃ z, z = s₁.setTop (entryFrame m #[(.double xa), (.double xd)] 4) := ⟨_, rfl⟩
  rw [← hS0]
  have g0 : Goes p e below S0 (s₁.setTop (mkF m 0 #[.val (.double xa), .second, .val (.double xd), .second] [])) := fun t k => by rw [hS0]; exact castTop (ef_st m xa xd) k
  have g1 : Goes p e below S0 (s₁.setTop (mkF m 3 #[.val (.double xa), .second, .val (.double xd), .second] [(.int (cmpValue (FP.dcmp xd (0 : UInt64)) .l))])) := fun t k => g0 t (by
    refine XS.dloadN X0.here hx rfl (hb hby d0_0) rfl ?_
    show Go p e below t s₁ m 1 #[.val (.double xa), .second, .val (.double xd), .second] [(.double xd)]
    refine XS.dconst0 X0.here hx rfl (hb hby d0_1) (v := (0 : UInt64)) rfl ?_
    show Go p e below t s₁ m 2 #[.val (.double xa), .second, .val (.double xd), .second] [(.double (0 : UInt64)), (.double xd)]
    refine XS.dcmpS X0.here hx rfl (hb hby d0_2) rfl rfl ?_
    show Go p e below t s₁ m 3 #[.val (.double xa), .second, .val (.double xd), .second] [(.int (cmpValue (FP.dcmp xd (0 : UInt64)) .l))]
    exact k)
  by_cases h2 : dEq xd (0 : UInt64)
  · skip
    have g3 : Goes p e below S0 (s₁.setTop (mkF m 16 #[.val (.double xa), .second, .val (.double xd), .second] [(.double (13830554455654793216 : UInt64))])) := fun t k => g1 t (by
      refine XS.ifNo X0.here hx rfl (hb hby d0_3) rfl (dc_l_ne_f h2) ?_
      show Go p e below t s₁ m 6 #[.val (.double xa), .second, .val (.double xd), .second] []
      refine X0.ldc2DoubleC hx hown (mvT hZ (hw _ (List.mem_of_getElem? (i := 4) rfl))) (g := (mkF m 6 #[.val (.double xa), .second, .val (.double xd), .second] [])) rfl (hb hby d0_6) _ ?_
      show Go p e below t s₁ m 9 #[.val (.double xa), .second, .val (.double xd), .second] [(.double (13830554455654793216 : UInt64))]
      refine XS.goto X0.here hx rfl (pc0 := 9) (pc' := 16) rfl (hb hby d0_9) (by decide) (by decide) ?_
      show Go p e below t s₁ m 16 #[.val (.double xa), .second, .val (.double xd), .second] [(.double (13830554455654793216 : UInt64))]
      exact k)
    obtain ⟨fs, hr, hrun, hended, hW, hsame⟩ := X0.leave (v := some (.double (13830554455654793216 : UInt64))) (fun h => by rw [Bd.returns] at h; cases h)
    refine ⟨_, _, g3 _ (retOut X0 hx Bd.returns rfl (Or.inr (Or.inr (Or.inl ⟨rfl, rfl, _, rfl⟩))) (hb hby d0_16) hr), hrun, hended, _, _, rfl, ?_, ⟨_, rfl⟩, hW, hsame.mono (by decide) (by decide)⟩
    show Q_st Z xa xd  h0 n0 _ s₁.heap _
    rw [e0]
    exact ⟨by unfold f_st; rw [if_pos h2], N0, rfl⟩
  · skip
    have g4 : Goes p e below S0 (s₁.setTop (mkF m 16 #[.val (.double xa), .second, .val (.double xd), .second] [(.double (FP.dmul (FP.dneg xa) xd))])) := fun t k => g1 t (by
      refine XS.ifYes X0.here hx rfl (pc0 := 3) (pc' := 12) rfl (hb hby d0_3) rfl (dc_l_ne_t h2) (by decide) (by decide) ?_
      show Go p e below t s₁ m 12 #[.val (.double xa), .second, .val (.double xd), .second] []
      refine XS.dloadN X0.here hx rfl (hb hby d0_12) rfl ?_
      show Go p e below t s₁ m 13 #[.val (.double xa), .second, .val (.double xd), .second] [(.double xa)]
      refine XS.dnegS X0.here hx rfl (hb hby d0_13) rfl rfl ?_
      show Go p e below t s₁ m 14 #[.val (.double xa), .second, .val (.double xd), .second] [(.double (FP.dneg xa))]
      refine XS.dloadN X0.here hx rfl (hb hby d0_14) rfl ?_
      show Go p e below t s₁ m 15 #[.val (.double xa), .second, .val (.double xd), .second] [(.double xd), (.double (FP.dneg xa))]
      refine XS.dmulS X0.here hx rfl (hb hby d0_15) rfl (nn15 h2) rfl ?_
      show Go p e below t s₁ m 16 #[.val (.double xa), .second, .val (.double xd), .second] [(.double (FP.dmul (FP.dneg xa) xd))]
      exact k)
    obtain ⟨fs, hr, hrun, hended, hW, hsame⟩ := X0.leave (v := some (.double (FP.dmul (FP.dneg xa) xd))) (fun h => by rw [Bd.returns] at h; cases h)
    refine ⟨_, _, g4 _ (retOut X0 hx Bd.returns rfl (Or.inr (Or.inr (Or.inl ⟨rfl, rfl, _, rfl⟩))) (hb hby d0_16) hr), hrun, hended, _, _, rfl, ?_, ⟨_, rfl⟩, hW, hsame.mono (by decide) (by decide)⟩
    show Q_st Z xa xd  h0 n0 _ s₁.heap _
    rw [e0]
    exact ⟨by unfold f_st; rw [if_neg h2], N0, rfl⟩
theorem own_dn (a : Int32) : Jvm.Free.Fl.Fin64 (FP.dneg (FP.i2d a)) := Jvm.Free.Fl.fin64_core.mpr (Jvm.OwnFP.neg_fin (Jvm.Free.Fl.fin64_core.mp (Jvm.Free.Fl.i2d_fin a)))
theorem own_nn {a : Int32} {d : UInt64} (h : Jvm.Free.Fl.Fin64 d) : Jvm.Free.Fl.NoNaN64 (FP.dmul (FP.dneg (FP.i2d a)) d) := Jvm.Free.Fl.dmul_out (own_dn a) h
namespace OwnM
open Jvm.FP Jvm.FP.Core
theorem ineg {i : Int} {a : UInt64} (h : DInt i a) : DInt (-i) (FP.dneg a) := by
  unfold DInt at h ⊢
  rw [FP.val64_dneg]; exact whole_negate h
theorem rr0 (f : Fmt) (s : Bool) (B : Nat) (e : Int) : roundRatio f s 0 B e = .fin s 0 f.qmin := by unfold roundRatio; rw [if_pos rfl]
/-- the rounded product of two whole numbers is their product, rounded -/
theorem mulcmp {x y : UInt64} {i j : Int} {p : Int64} (hx : DInt i x) (hy : DInt j y) (hp : p.toInt = -(i * j)) : FP.dcmp (FP.dmul x y) (FP.dneg (FP.l2d p)) = some .eq := by
  have hw := whole_product hx hy
  have e1 : val64 (FP.dmul x y) = round b64 (exactProduct (val64 x) (val64 y)) := val64_dmul x y
  have e2 : val64 (FP.dneg (FP.l2d p)) = negate (round b64 (ofInt p.toInt)) := by
    rw [FP.val64_dneg]; exact congrArg negate (val64_l2d p)
  show order (val64 (FP.dmul x y)) (val64 (FP.dneg (FP.l2d p))) = some .eq
  rw [e1, e2]
  cases hd : exactProduct (val64 x) (val64 y) with
  | nan => rw [hd] at hw; exact hw.elim
  | inf s => rw [hd] at hw; exact hw.elim
  | fin s c q =>
    rw [hd] at hw
    rw [round_whole hw]
    have h2 : round b64 (ofInt p.toInt) = roundRatio b64 (decide (p.toInt < 0)) p.toInt.natAbs 1 0 := rfl
    rw [h2, negate_roundRatio]
    by_cases hz : i * j = 0
    · rw [hz] at hp
      rw [hz, hp]
      show order (roundRatio b64 s 0 1 0) (roundRatio b64 (!decide ((-0 : Int) < 0)) 0 1 0) = some .eq
      rw [rr0, rr0]
      cases s <;> decide +kernel
    · have hs := whole_sign hw hz
      have hb : (!decide (p.toInt < 0)) = s := by
        rw [hs, hp]
        by_cases h : i * j < 0
        · rw [decide_eq_true h, decide_eq_false (by omega)]; rfl
        · rw [decide_eq_false h, decide_eq_true (by omega)]; rfl
      have hn : p.toInt.natAbs = (i * j).natAbs := by rw [hp, Int.natAbs_neg]
      rw [hb, hn]
      exact order_self (roundRatio_ne_nan _ _ _ _ _)
theorem zero_int : DInt 0 (0 : UInt64) := by
  have h := i2d_int 0
  rw [show Core.i2d 0 = (0 : UInt64) by decide +kernel] at h
  exact h
theorem eq0 {i : Int} {x : UInt64} (h : DInt i x) : FP.dcmp x 0 = some .eq ↔ i = 0 := by
  have : FP.dcmp x 0 = some (compare i 0) := dcmp_int h zero_int
  rw [this, Option.some.injEq, compare_eq_iff]
end OwnM
theorem own_m1 : dEq (13830554455654793216 : UInt64) (13830554455654793216 : UInt64) := by decide +kernel
theorem own_t0 {b : Int32} (h : b = 0) : b.toInt = 0 := by rw [h]; decide
theorem own_t1 {b : Int32} (h : ¬ b = 0) : b.toInt ≠ 0 := fun q => h (Int32.toInt_inj.mp (by rw [q]; decide))
theorem own_zp {i0 i1 : Int32} (h : i1 = 0) : dEq (f_st (FP.i2d i0) (FP.i2d i1)) (13830554455654793216 : UInt64) := by
  unfold f_st
  rw [if_pos ((OwnM.eq0 (FP.Core.i2d_int i1)).mpr (own_t0 h))]
  exact own_m1
theorem own_zn {i0 i1 : Int32} (h : i1 = 0) : dEq (f_st (FP.i2d i0) (FP.dneg (FP.i2d i1))) (13830554455654793216 : UInt64) := by
  unfold f_st
  rw [if_pos ((OwnM.eq0 (OwnM.ineg (FP.Core.i2d_int i1))).mpr (by rw [own_t0 h]; rfl))]
  exact own_m1
theorem own_pp {i0 i1 : Int32} (h : ¬ i1 = 0) : dEq (f_st (FP.i2d i0) (FP.i2d i1)) (FP.dneg (FP.l2d (i0.toInt64 * i1.toInt64))) := by
  unfold f_st
  rw [if_neg (fun q => own_t1 h ((OwnM.eq0 (FP.Core.i2d_int i1)).mp q))]
  refine OwnM.mulcmp (OwnM.ineg (FP.Core.i2d_int i0)) (FP.Core.i2d_int i1) ?_
  rw [XT.wideMul, Int.neg_mul, Int.neg_neg]
theorem own_pn {i0 i1 : Int32} (h : ¬ i1 = 0) : dEq (f_st (FP.i2d i0) (FP.dneg (FP.i2d i1))) (FP.dneg (FP.l2d (i0.toInt64 * (-i1.toInt64)))) := by
  unfold f_st
  rw [if_neg (fun q => own_t1 h (by have := (OwnM.eq0 (OwnM.ineg (FP.Core.i2d_int i1))).mp q; omega))]
  refine OwnM.mulcmp (OwnM.ineg (FP.Core.i2d_int i0)) (OwnM.ineg (FP.Core.i2d_int i1)) ?_
  have e : i0.toInt64 * (-i1.toInt64) = -(i0.toInt64 * i1.toInt64) := Int64.mul_neg _ _
  have h1 := XT.wideMul i0 i1
  have h2 := c_lneg (i0.toInt64 * i1.toInt64)
  have h3 := rng64 (-(i0.toInt64 * i1.toInt64))
  have b0 := rng32 i0
  have b1 := rng32 i1
  have hb : (i0.toInt * i1.toInt).natAbs ≤ 2147483648 * 2147483648 := by
    rw [Int.natAbs_mul]; exact Nat.mul_le_mul (by omega) (by omega)
  rw [e, Int.neg_mul, Int.neg_neg, Int.mul_neg]
  rw [h1] at h2
  generalize i0.toInt * i1.toInt = w at *
  omega

theorem pd1 : parseMethodDescriptor "(III)Z" = some ⟨[.int, .int, .int], some .boolean⟩ := by decide +kernel
theorem pf_law : plainFor x = true := by first | exact plainFor_of_name (by first | (simp [plainName, overriddenIn, x]; done) | decide +kernel) | exact Jvm.Free.JP.mathPlain rfl (by decide +kernel) | decide +kernel
theorem ef_law (m : MethodId) (i0 : Int32) (i1 : Int32) (i2 : Int32) : entryFrame m #[(.int i0), (.int i1), (.int i2)] maxLocals = mkF m 0 #[iv i0, iv i1, iv i2, .unset, .unset, .unset, .unset, .unset, .unset, .unset, .unset, .unset, .unset, .unset, .unset, .unset] [] := by first | (simp [entryFrame, mkF, argsToLocals, Value.category, maxLocals]; done) | rfl
def f_law (i0 : Int32) (i1 : Int32) (i2 : Int32) : Int32 := (if (i2 &&& (1 : Int32)) = 0 then (if i1 = 0 then (1 : Int32) else (1 : Int32)) else (if i1 = 0 then (1 : Int32) else (1 : Int32)))
def Q_law (Z : State) (i0 : Int32) (i1 : Int32) (i2 : Int32)  (h0 : Heap) (n0 : Nat) (v : Option Value) (h : Heap) (L : List Loc) : Prop := v = some (.int (f_law i0 i1 i2)) ∧ Fr n0 L
set_option maxRecDepth 65536 in
set_option maxHeartbeats 40000000 in
theorem rm_law (l : Launch) (Z : State) (a0 : Array Value) (hw : ∀ d ∈ tables_1, d.before a0 Z = true) (ws : List Jvm.Cond) (i0 : Int32) (i1 : Int32) (i2 : Int32)  (h0 : Heap) (n0 : Nat) (Z0 : n0 ≤ h0.size)   :
    MetFree l x (head1 (Jvm.Cond.code x code maxLocals ret :: ws) room_1) (fun a U => a = #[(.int i0), (.int i1), (.int i2)] ∧ Z.Warmed39 U.vm ∧ U.heap = h0) (fun _ _ _ _ _ => True) (fun _ U o U' => ∃ v L, o = .returned v ∧ Q_law Z i0 i1 i2  h0 n0 v U'.heap L ∧ FrameEnd U o U' L 0 0) := by
  refine MetFree.of_bodySF pf_law hisR ?_
  intro p e s m args below meth c s₁ Bd hml0 hP hK
  obtain ⟨rfl, hZ, hh⟩ := hP
  have hx := Bd.exec
  have hby := Bd.bytes
  have hml : c.maxLocals = 16 := hml0
  have hown : s.vm.findClass "com/example/kettenbruch/kettenbruch/RealLoopStepAfterZeroPinLaw" = some m.cls := findClass_of_methodNamed Bd.named
  have hnm := (name_of_methodNamed Bd.named Bd.method).1
  have X0 : Stand p l e room_1 s m #[(.int i0), (.int i1), (.int i2)] below meth c s₁ [] 0 0 := Stand.of_body Bd
  have e0 : s₁.heap = h0 := by rw [← hh, Bd.state]; rfl
  have N0 := Fr.nil n0
  obtain ⟨S0, hS0⟩ : ∃ z, z = s₁.setTop (entryFrame m #[(.int i0), (.int i1), (.int i2)] maxLocals) := ⟨_, rfl⟩
  rw [← hS0]
  have g0 : Goes p e below S0 (s₁.setTop (mkF m 0 #[iv i0, iv i1, iv i2, .unset, .unset, .unset, .unset, .unset, .unset, .unset, .unset, .unset, .unset, .unset, .unset, .unset] [])) := fun t k => by rw [hS0]; exact castTop (ef_law m i0 i1 i2) k
  have g5 : Goes p e below S0 (s₁.setTop (mkF m 3 #[iv i0, iv i1, iv i2, .unset, .unset, .unset, .unset, .unset, .unset, .unset, .unset, .unset, .unset, .unset, .unset, .unset] [(.int (i2 &&& (1 : Int32)))])) := fun t k => g0 t (by
    refine XS.iloadN X0.here hx rfl (hb hby at_0) rfl ?_
    show Go p e below t s₁ m 1 #[iv i0, iv i1, iv i2, .unset, .unset, .unset, .unset, .unset, .unset, .unset, .unset, .unset, .unset, .unset, .unset, .unset] [(.int i2)]
    refine XT.iconstV X0.here hx rfl (1 : Int32) (hb hby at_1) (by decide) ?_
    show Go p e below t s₁ m 2 #[iv i0, iv i1, iv i2, .unset, .unset, .unset, .unset, .unset, .unset, .unset, .unset, .unset, .unset, .unset, .unset, .unset] [(.int (1 : Int32)), (.int i2)]
    refine XS.iand X0.here hx rfl (hb hby at_2) rfl ?_
    show Go p e below t s₁ m 3 #[iv i0, iv i1, iv i2, .unset, .unset, .unset, .unset, .unset, .unset, .unset, .unset, .unset, .unset, .unset, .unset, .unset] [(.int (i2 &&& (1 : Int32)))]
    exact k)
  by_cases h6 : (i2 &&& (1 : Int32)) = 0
  · skip
    have g7 : Goes p e below S0 (s₁.setTop (mkF m 34 #[iv i0, iv i1, iv i2, iv (0 : Int32), .val (.double (FP.i2d i0)), .second, .val (.double (FP.i2d i1)), .second, .unset, .unset, .unset, .unset, .unset, .unset, .unset, .unset] [(.double (FP.i2d i1)), (.double (FP.i2d i0))])) := fun t k => g5 t (by
      refine XS.ifYes X0.here hx rfl (pc0 := 3) (pc' := 10) rfl (hb hby at_3) rfl (XT.i0_eq_t h6) (by decide) (by decide) ?_
      show Go p e below t s₁ m 10 #[iv i0, iv i1, iv i2, .unset, .unset, .unset, .unset, .unset, .unset, .unset, .unset, .unset, .unset, .unset, .unset, .unset] []
      refine XT.iconstV X0.here hx rfl (0 : Int32) (hb hby at_10) (by decide) ?_
      show Go p e below t s₁ m 11 #[iv i0, iv i1, iv i2, .unset, .unset, .unset, .unset, .unset, .unset, .unset, .unset, .unset, .unset, .unset, .unset, .unset] [(.int (0 : Int32))]
      refine XS.istoreN X0.here hx rfl (hb hby at_11) rfl (l' := #[iv i0, iv i1, iv i2, iv (0 : Int32), .unset, .unset, .unset, .unset, .unset, .unset, .unset, .unset, .unset, .unset, .unset, .unset]) rfl ?_
      show Go p e below t s₁ m 12 #[iv i0, iv i1, iv i2, iv (0 : Int32), .unset, .unset, .unset, .unset, .unset, .unset, .unset, .unset, .unset, .unset, .unset, .unset] []
      refine XS.iloadN X0.here hx rfl (hb hby at_12) rfl ?_
      show Go p e below t s₁ m 13 #[iv i0, iv i1, iv i2, iv (0 : Int32), .unset, .unset, .unset, .unset, .unset, .unset, .unset, .unset, .unset, .unset, .unset, .unset] [(.int i0)]
      refine XS.i2dS X0.here hx rfl (hb hby at_13) rfl rfl ?_
      show Go p e below t s₁ m 14 #[iv i0, iv i1, iv i2, iv (0 : Int32), .unset, .unset, .unset, .unset, .unset, .unset, .unset, .unset, .unset, .unset, .unset, .unset] [(.double (FP.i2d i0))]
      refine XS.dstore X0.here hx rfl (hb hby at_14) rfl (l' := #[iv i0, iv i1, iv i2, iv (0 : Int32), .val (.double (FP.i2d i0)), .second, .unset, .unset, .unset, .unset, .unset, .unset, .unset, .unset, .unset, .unset]) rfl ?_
      show Go p e below t s₁ m 16 #[iv i0, iv i1, iv i2, iv (0 : Int32), .val (.double (FP.i2d i0)), .second, .unset, .unset, .unset, .unset, .unset, .unset, .unset, .unset, .unset, .unset] []
      refine XS.iloadN X0.here hx rfl (hb hby at_16) rfl ?_
      show Go p e below t s₁ m 17 #[iv i0, iv i1, iv i2, iv (0 : Int32), .val (.double (FP.i2d i0)), .second, .unset, .unset, .unset, .unset, .unset, .unset, .unset, .unset, .unset, .unset] [(.int (0 : Int32))]
      refine XS.ifYes X0.here hx rfl (pc0 := 17) (pc' := 26) rfl (hb hby at_17) rfl (XT.i0_eq_t (by decide)) (by decide) (by decide) ?_
      show Go p e below t s₁ m 26 #[iv i0, iv i1, iv i2, iv (0 : Int32), .val (.double (FP.i2d i0)), .second, .unset, .unset, .unset, .unset, .unset, .unset, .unset, .unset, .unset, .unset] []
      refine XS.iloadN X0.here hx rfl (hb hby at_26) rfl ?_
      show Go p e below t s₁ m 27 #[iv i0, iv i1, iv i2, iv (0 : Int32), .val (.double (FP.i2d i0)), .second, .unset, .unset, .unset, .unset, .unset, .unset, .unset, .unset, .unset, .unset] [(.int i1)]
      refine XS.i2dS X0.here hx rfl (hb hby at_27) rfl rfl ?_
      show Go p e below t s₁ m 28 #[iv i0, iv i1, iv i2, iv (0 : Int32), .val (.double (FP.i2d i0)), .second, .unset, .unset, .unset, .unset, .unset, .unset, .unset, .unset, .unset, .unset] [(.double (FP.i2d i1))]
      refine XS.dstore X0.here hx rfl (hb hby at_28) rfl (l' := #[iv i0, iv i1, iv i2, iv (0 : Int32), .val (.double (FP.i2d i0)), .second, .val (.double (FP.i2d i1)), .second, .unset, .unset, .unset, .unset, .unset, .unset, .unset, .unset]) rfl ?_
      show Go p e below t s₁ m 30 #[iv i0, iv i1, iv i2, iv (0 : Int32), .val (.double (FP.i2d i0)), .second, .val (.double (FP.i2d i1)), .second, .unset, .unset, .unset, .unset, .unset, .unset, .unset, .unset] []
      refine XS.dload X0.here hx rfl (hb hby at_30) rfl ?_
      show Go p e below t s₁ m 32 #[iv i0, iv i1, iv i2, iv (0 : Int32), .val (.double (FP.i2d i0)), .second, .val (.double (FP.i2d i1)), .second, .unset, .unset, .unset, .unset, .unset, .unset, .unset, .unset] [(.double (FP.i2d i0))]
      refine XS.dload X0.here hx rfl (hb hby at_32) rfl ?_
      show Go p e below t s₁ m 34 #[iv i0, iv i1, iv i2, iv (0 : Int32), .val (.double (FP.i2d i0)), .second, .val (.double (FP.i2d i1)), .second, .unset, .unset, .unset, .unset, .unset, .unset, .unset, .unset] [(.double (FP.i2d i1)), (.double (FP.i2d i0))]
      exact k)
    obtain ⟨_, _, ⟨T8, L8, k8, n8⟩, -, X8, ⟨Lc8, hQ8, l8, y8, z8⟩, st8⟩ := Jvm.LawKit.callS X0 hx (y := (⟨"com/example/kettenbruch/kettenbruch/RealLoop", "stepAfterZero", "(DD)D"⟩ : MethodName)) hown (mvT hZ (hw _ (List.mem_of_getElem? (i := 0) rfl))) (mvT hZ (hw _ (List.mem_of_getElem? (i := 1) rfl))) (mvT hZ (hw _ (List.mem_of_getElem? (i := 2) rfl))) (mvT hZ (hw _ (List.mem_of_getElem? (i := 3) rfl))) (by decide) (backOf (W := 0) (rm_st l Z a0 hw [] (FP.i2d i0) (FP.i2d i1)  h0 n0 Z0 (fun _ => own_nn (Jvm.Free.Fl.i2d_fin _))) hZ (hw _ (List.mem_of_getElem? (i := 3) rfl)) (hw _ (List.mem_of_getElem? (i := 2) rfl)) (by decide) (by decide)) (g := (mkF m 34 #[iv i0, iv i1, iv i2, iv (0 : Int32), .val (.double (FP.i2d i0)), .second, .val (.double (FP.i2d i1)), .second, .unset, .unset, .unset, .unset, .unset, .unset, .unset, .unset] [(.double (FP.i2d i1)), (.double (FP.i2d i0))])) rfl (by rw [hml]; rfl) (argsL := [(.double (FP.i2d i0)), (.double (FP.i2d i1))]) (rest := []) (lenOf pd0 rfl) rfl (by show 2 * 0 + _ ≤ _; exact Nat.le_of_eq rfl) (hb hby at_34) (fun _ _ => ⟨rfl, e0, (by decide : 0 + 0 ≤ _), (by decide : 0 + 0 ≤ _)⟩)
    dsimp only [Pt.U, Pt.locs, Pt.cells, Pt.slots] at X8 l8 y8 z8 st8 hQ8
    subst l8 y8 z8
    obtain ⟨rfl, N8, e8⟩ := hQ8
    have M8 := Fr.app N0 N8
    have g9 : Goes p e below S0 (T8.setTop (mkF m 37 #[iv i0, iv i1, iv i2, iv (0 : Int32), .val (.double (FP.i2d i0)), .second, .val (.double (FP.i2d i1)), .second, .unset, .unset, .unset, .unset, .unset, .unset, .unset, .unset] [(.double (f_st (FP.i2d i0) (FP.i2d i1)))])) := fun t k => g7 t (st8 t k)
    have g10 : Goes p e below S0 (T8.setTop (mkF m 40 #[iv i0, iv i1, iv i2, iv (0 : Int32), .val (.double (FP.i2d i0)), .second, .val (.double (FP.i2d i1)), .second, .val (.double (f_st (FP.i2d i0) (FP.i2d i1))), .second, .unset, .unset, .unset, .unset, .unset, .unset] [(.int i1)])) := fun t k => g9 t (by
      refine XS.dstore X8.here hx rfl (hb hby at_37) rfl (l' := #[iv i0, iv i1, iv i2, iv (0 : Int32), .val (.double (FP.i2d i0)), .second, .val (.double (FP.i2d i1)), .second, .val (.double (f_st (FP.i2d i0) (FP.i2d i1))), .second, .unset, .unset, .unset, .unset, .unset, .unset]) rfl ?_
      show Go p e below t T8 m 39 #[iv i0, iv i1, iv i2, iv (0 : Int32), .val (.double (FP.i2d i0)), .second, .val (.double (FP.i2d i1)), .second, .val (.double (f_st (FP.i2d i0) (FP.i2d i1))), .second, .unset, .unset, .unset, .unset, .unset, .unset] []
      refine XS.iloadN X8.here hx rfl (hb hby at_39) rfl ?_
      show Go p e below t T8 m 40 #[iv i0, iv i1, iv i2, iv (0 : Int32), .val (.double (FP.i2d i0)), .second, .val (.double (FP.i2d i1)), .second, .val (.double (f_st (FP.i2d i0) (FP.i2d i1))), .second, .unset, .unset, .unset, .unset, .unset, .unset] [(.int i1)]
      exact k)
    by_cases h11 : i1 = 0
    · skip
      have g12 : Goes p e below S0 (T8.setTop (mkF m 57 #[iv i0, iv i1, iv i2, iv (0 : Int32), .val (.double (FP.i2d i0)), .second, .val (.double (FP.i2d i1)), .second, .val (.double (f_st (FP.i2d i0) (FP.i2d i1))), .second, .unset, .unset, .unset, .unset, .unset, .unset] [(.int (1 : Int32))])) := fun t k => g10 t (by
        refine XS.ifNo X8.here hx rfl (hb hby at_40) rfl (XT.i0_ne_f h11) ?_
        show Go p e below t T8 m 43 #[iv i0, iv i1, iv i2, iv (0 : Int32), .val (.double (FP.i2d i0)), .second, .val (.double (FP.i2d i1)), .second, .val (.double (f_st (FP.i2d i0) (FP.i2d i1))), .second, .unset, .unset, .unset, .unset, .unset, .unset] []
        refine XS.dload X8.here hx rfl (hb hby at_43) rfl ?_
        show Go p e below t T8 m 45 #[iv i0, iv i1, iv i2, iv (0 : Int32), .val (.double (FP.i2d i0)), .second, .val (.double (FP.i2d i1)), .second, .val (.double (f_st (FP.i2d i0) (FP.i2d i1))), .second, .unset, .unset, .unset, .unset, .unset, .unset] [(.double (f_st (FP.i2d i0) (FP.i2d i1)))]
        refine X8.ldc2DoubleC hx hown (mvT hZ (hw _ (List.mem_of_getElem? (i := 5) rfl))) (g := (mkF m 45 #[iv i0, iv i1, iv i2, iv (0 : Int32), .val (.double (FP.i2d i0)), .second, .val (.double (FP.i2d i1)), .second, .val (.double (f_st (FP.i2d i0) (FP.i2d i1))), .second, .unset, .unset, .unset, .unset, .unset, .unset] [(.double (f_st (FP.i2d i0) (FP.i2d i1)))])) rfl (hb hby at_45) _ ?_
        show Go p e below t T8 m 48 #[iv i0, iv i1, iv i2, iv (0 : Int32), .val (.double (FP.i2d i0)), .second, .val (.double (FP.i2d i1)), .second, .val (.double (f_st (FP.i2d i0) (FP.i2d i1))), .second, .unset, .unset, .unset, .unset, .unset, .unset] [(.double (13830554455654793216 : UInt64)), (.double (f_st (FP.i2d i0) (FP.i2d i1)))]
        refine XS.dcmpS X8.here hx rfl (hb hby at_48) rfl rfl ?_
        show Go p e below t T8 m 49 #[iv i0, iv i1, iv i2, iv (0 : Int32), .val (.double (FP.i2d i0)), .second, .val (.double (FP.i2d i1)), .second, .val (.double (f_st (FP.i2d i0) (FP.i2d i1))), .second, .unset, .unset, .unset, .unset, .unset, .unset] [(.int (cmpValue (FP.dcmp (f_st (FP.i2d i0) (FP.i2d i1)) (13830554455654793216 : UInt64)) .l))]
        refine XS.ifNo X8.here hx rfl (hb hby at_49) rfl (dc_l_ne_f (own_zp h11)) ?_
        show Go p e below t T8 m 52 #[iv i0, iv i1, iv i2, iv (0 : Int32), .val (.double (FP.i2d i0)), .second, .val (.double (FP.i2d i1)), .second, .val (.double (f_st (FP.i2d i0) (FP.i2d i1))), .second, .unset, .unset, .unset, .unset, .unset, .unset] []
        refine XT.iconstV X8.here hx rfl (1 : Int32) (hb hby at_52) (by decide) ?_
        show Go p e below t T8 m 53 #[iv i0, iv i1, iv i2, iv (0 : Int32), .val (.double (FP.i2d i0)), .second, .val (.double (FP.i2d i1)), .second, .val (.double (f_st (FP.i2d i0) (FP.i2d i1))), .second, .unset, .unset, .unset, .unset, .unset, .unset] [(.int (1 : Int32))]
        refine XS.goto X8.here hx rfl (pc0 := 53) (pc' := 57) rfl (hb hby at_53) (by decide) (by decide) ?_
        show Go p e below t T8 m 57 #[iv i0, iv i1, iv i2, iv (0 : Int32), .val (.double (FP.i2d i0)), .second, .val (.double (FP.i2d i1)), .second, .val (.double (f_st (FP.i2d i0) (FP.i2d i1))), .second, .unset, .unset, .unset, .unset, .unset, .unset] [(.int (1 : Int32))]
        exact k)
      obtain ⟨fs, hr, hrun, hended, hW, hsame⟩ := X8.leave (v := some (.int (1 : Int32))) (fun h => by rw [Bd.returns] at h; cases h)
      refine ⟨_, _, g12 _ (retN X8 hx (t := .boolean) Bd.returns (by simp) (hb hby at_57) hr), hrun, hended, _, _, rfl, ?_, ⟨_, rfl⟩, hW, hsame.mono (by decide) (by decide)⟩
      show Q_law Z i0 i1 i2  h0 n0 _ T8.heap _
      rw [e8]
      exact ⟨by unfold f_law; rw [if_pos h6, if_pos h11], M8⟩
    · skip
      have g13 : Goes p e below S0 (T8.setTop (mkF m 98 #[iv i0, iv i1, iv i2, iv (0 : Int32), .val (.double (FP.i2d i0)), .second, .val (.double (FP.i2d i1)), .second, .val (.double (f_st (FP.i2d i0) (FP.i2d i1))), .second, .val (.long ((i1).toInt64)), .second, .val (.long (((i0).toInt64) * ((i1).toInt64))), .second, .val (.double (FP.dneg (FP.l2d (((i0).toInt64) * ((i1).toInt64))))), .second] [(.int (1 : Int32))])) := fun t k => g10 t (by
        refine XS.ifYes X8.here hx rfl (pc0 := 40) (pc' := 58) rfl (hb hby at_40) rfl (XT.i0_ne_t h11) (by decide) (by decide) ?_
        show Go p e below t T8 m 58 #[iv i0, iv i1, iv i2, iv (0 : Int32), .val (.double (FP.i2d i0)), .second, .val (.double (FP.i2d i1)), .second, .val (.double (f_st (FP.i2d i0) (FP.i2d i1))), .second, .unset, .unset, .unset, .unset, .unset, .unset] []
        refine XS.iloadN X8.here hx rfl (hb hby at_58) rfl ?_
        show Go p e below t T8 m 59 #[iv i0, iv i1, iv i2, iv (0 : Int32), .val (.double (FP.i2d i0)), .second, .val (.double (FP.i2d i1)), .second, .val (.double (f_st (FP.i2d i0) (FP.i2d i1))), .second, .unset, .unset, .unset, .unset, .unset, .unset] [(.int (0 : Int32))]
        refine XS.ifYes X8.here hx rfl (pc0 := 59) (pc' := 68) rfl (hb hby at_59) rfl (XT.i0_eq_t (by decide)) (by decide) (by decide) ?_
        show Go p e below t T8 m 68 #[iv i0, iv i1, iv i2, iv (0 : Int32), .val (.double (FP.i2d i0)), .second, .val (.double (FP.i2d i1)), .second, .val (.double (f_st (FP.i2d i0) (FP.i2d i1))), .second, .unset, .unset, .unset, .unset, .unset, .unset] []
        refine XS.iloadN X8.here hx rfl (hb hby at_68) rfl ?_
        show Go p e below t T8 m 69 #[iv i0, iv i1, iv i2, iv (0 : Int32), .val (.double (FP.i2d i0)), .second, .val (.double (FP.i2d i1)), .second, .val (.double (f_st (FP.i2d i0) (FP.i2d i1))), .second, .unset, .unset, .unset, .unset, .unset, .unset] [(.int i1)]
        refine XS.i2l X8.here hx rfl (hb hby at_69) rfl ?_
        show Go p e below t T8 m 70 #[iv i0, iv i1, iv i2, iv (0 : Int32), .val (.double (FP.i2d i0)), .second, .val (.double (FP.i2d i1)), .second, .val (.double (f_st (FP.i2d i0) (FP.i2d i1))), .second, .unset, .unset, .unset, .unset, .unset, .unset] [(.long ((i1).toInt64))]
        refine XS.lstore X8.here hx rfl (hb hby at_70) rfl (l' := #[iv i0, iv i1, iv i2, iv (0 : Int32), .val (.double (FP.i2d i0)), .second, .val (.double (FP.i2d i1)), .second, .val (.double (f_st (FP.i2d i0) (FP.i2d i1))), .second, .val (.long ((i1).toInt64)), .second, .unset, .unset, .unset, .unset]) rfl ?_
        show Go p e below t T8 m 72 #[iv i0, iv i1, iv i2, iv (0 : Int32), .val (.double (FP.i2d i0)), .second, .val (.double (FP.i2d i1)), .second, .val (.double (f_st (FP.i2d i0) (FP.i2d i1))), .second, .val (.long ((i1).toInt64)), .second, .unset, .unset, .unset, .unset] []
        refine XS.iloadN X8.here hx rfl (hb hby at_72) rfl ?_
        show Go p e below t T8 m 73 #[iv i0, iv i1, iv i2, iv (0 : Int32), .val (.double (FP.i2d i0)), .second, .val (.double (FP.i2d i1)), .second, .val (.double (f_st (FP.i2d i0) (FP.i2d i1))), .second, .val (.long ((i1).toInt64)), .second, .unset, .unset, .unset, .unset] [(.int i0)]
        refine XS.i2l X8.here hx rfl (hb hby at_73) rfl ?_
        show Go p e below t T8 m 74 #[iv i0, iv i1, iv i2, iv (0 : Int32), .val (.double (FP.i2d i0)), .second, .val (.double (FP.i2d i1)), .second, .val (.double (f_st (FP.i2d i0) (FP.i2d i1))), .second, .val (.long ((i1).toInt64)), .second, .unset, .unset, .unset, .unset] [(.long ((i0).toInt64))]
        refine XS.lload X8.here hx rfl (hb hby at_74) rfl ?_
        show Go p e below t T8 m 76 #[iv i0, iv i1, iv i2, iv (0 : Int32), .val (.double (FP.i2d i0)), .second, .val (.double (FP.i2d i1)), .second, .val (.double (f_st (FP.i2d i0) (FP.i2d i1))), .second, .val (.long ((i1).toInt64)), .second, .unset, .unset, .unset, .unset] [(.long ((i1).toInt64)), (.long ((i0).toInt64))]
        refine XS.lmul X8.here hx rfl (hb hby at_76) rfl ?_
        show Go p e below t T8 m 77 #[iv i0, iv i1, iv i2, iv (0 : Int32), .val (.double (FP.i2d i0)), .second, .val (.double (FP.i2d i1)), .second, .val (.double (f_st (FP.i2d i0) (FP.i2d i1))), .second, .val (.long ((i1).toInt64)), .second, .unset, .unset, .unset, .unset] [(.long (((i0).toInt64) * ((i1).toInt64)))]
        refine XS.lstore X8.here hx rfl (hb hby at_77) rfl (l' := #[iv i0, iv i1, iv i2, iv (0 : Int32), .val (.double (FP.i2d i0)), .second, .val (.double (FP.i2d i1)), .second, .val (.double (f_st (FP.i2d i0) (FP.i2d i1))), .second, .val (.long ((i1).toInt64)), .second, .val (.long (((i0).toInt64) * ((i1).toInt64))), .second, .unset, .unset]) rfl ?_
        show Go p e below t T8 m 79 #[iv i0, iv i1, iv i2, iv (0 : Int32), .val (.double (FP.i2d i0)), .second, .val (.double (FP.i2d i1)), .second, .val (.double (f_st (FP.i2d i0) (FP.i2d i1))), .second, .val (.long ((i1).toInt64)), .second, .val (.long (((i0).toInt64) * ((i1).toInt64))), .second, .unset, .unset] []
        refine XS.lload X8.here hx rfl (hb hby at_79) rfl ?_
        show Go p e below t T8 m 81 #[iv i0, iv i1, iv i2, iv (0 : Int32), .val (.double (FP.i2d i0)), .second, .val (.double (FP.i2d i1)), .second, .val (.double (f_st (FP.i2d i0) (FP.i2d i1))), .second, .val (.long ((i1).toInt64)), .second, .val (.long (((i0).toInt64) * ((i1).toInt64))), .second, .unset, .unset] [(.long (((i0).toInt64) * ((i1).toInt64)))]
        refine XS.l2dS X8.here hx rfl (hb hby at_81) rfl rfl ?_
        show Go p e below t T8 m 82 #[iv i0, iv i1, iv i2, iv (0 : Int32), .val (.double (FP.i2d i0)), .second, .val (.double (FP.i2d i1)), .second, .val (.double (f_st (FP.i2d i0) (FP.i2d i1))), .second, .val (.long ((i1).toInt64)), .second, .val (.long (((i0).toInt64) * ((i1).toInt64))), .second, .unset, .unset] [(.double (FP.l2d (((i0).toInt64) * ((i1).toInt64))))]
        refine XS.dnegS X8.here hx rfl (hb hby at_82) rfl rfl ?_
        show Go p e below t T8 m 83 #[iv i0, iv i1, iv i2, iv (0 : Int32), .val (.double (FP.i2d i0)), .second, .val (.double (FP.i2d i1)), .second, .val (.double (f_st (FP.i2d i0) (FP.i2d i1))), .second, .val (.long ((i1).toInt64)), .second, .val (.long (((i0).toInt64) * ((i1).toInt64))), .second, .unset, .unset] [(.double (FP.dneg (FP.l2d (((i0).toInt64) * ((i1).toInt64)))))]
        refine XS.dstore X8.here hx rfl (hb hby at_83) rfl (l' := #[iv i0, iv i1, iv i2, iv (0 : Int32), .val (.double (FP.i2d i0)), .second, .val (.double (FP.i2d i1)), .second, .val (.double (f_st (FP.i2d i0) (FP.i2d i1))), .second, .val (.long ((i1).toInt64)), .second, .val (.long (((i0).toInt64) * ((i1).toInt64))), .second, .val (.double (FP.dneg (FP.l2d (((i0).toInt64) * ((i1).toInt64))))), .second]) rfl ?_
        show Go p e below t T8 m 85 #[iv i0, iv i1, iv i2, iv (0 : Int32), .val (.double (FP.i2d i0)), .second, .val (.double (FP.i2d i1)), .second, .val (.double (f_st (FP.i2d i0) (FP.i2d i1))), .second, .val (.long ((i1).toInt64)), .second, .val (.long (((i0).toInt64) * ((i1).toInt64))), .second, .val (.double (FP.dneg (FP.l2d (((i0).toInt64) * ((i1).toInt64))))), .second] []
        refine XS.dload X8.here hx rfl (hb hby at_85) rfl ?_
        show Go p e below t T8 m 87 #[iv i0, iv i1, iv i2, iv (0 : Int32), .val (.double (FP.i2d i0)), .second, .val (.double (FP.i2d i1)), .second, .val (.double (f_st (FP.i2d i0) (FP.i2d i1))), .second, .val (.long ((i1).toInt64)), .second, .val (.long (((i0).toInt64) * ((i1).toInt64))), .second, .val (.double (FP.dneg (FP.l2d (((i0).toInt64) * ((i1).toInt64))))), .second] [(.double (f_st (FP.i2d i0) (FP.i2d i1)))]
        refine XS.dload X8.here hx rfl (hb hby at_87) rfl ?_
        show Go p e below t T8 m 89 #[iv i0, iv i1, iv i2, iv (0 : Int32), .val (.double (FP.i2d i0)), .second, .val (.double (FP.i2d i1)), .second, .val (.double (f_st (FP.i2d i0) (FP.i2d i1))), .second, .val (.long ((i1).toInt64)), .second, .val (.long (((i0).toInt64) * ((i1).toInt64))), .second, .val (.double (FP.dneg (FP.l2d (((i0).toInt64) * ((i1).toInt64))))), .second] [(.double (FP.dneg (FP.l2d (((i0).toInt64) * ((i1).toInt64))))), (.double (f_st (FP.i2d i0) (FP.i2d i1)))]
        refine XS.dcmpS X8.here hx rfl (hb hby at_89) rfl rfl ?_
        show Go p e below t T8 m 90 #[iv i0, iv i1, iv i2, iv (0 : Int32), .val (.double (FP.i2d i0)), .second, .val (.double (FP.i2d i1)), .second, .val (.double (f_st (FP.i2d i0) (FP.i2d i1))), .second, .val (.long ((i1).toInt64)), .second, .val (.long (((i0).toInt64) * ((i1).toInt64))), .second, .val (.double (FP.dneg (FP.l2d (((i0).toInt64) * ((i1).toInt64))))), .second] [(.int (cmpValue (FP.dcmp (f_st (FP.i2d i0) (FP.i2d i1)) (FP.dneg (FP.l2d (((i0).toInt64) * ((i1).toInt64))))) .l))]
        refine XS.ifNo X8.here hx rfl (hb hby at_90) rfl (dc_l_ne_f (own_pp h11)) ?_
        show Go p e below t T8 m 93 #[iv i0, iv i1, iv i2, iv (0 : Int32), .val (.double (FP.i2d i0)), .second, .val (.double (FP.i2d i1)), .second, .val (.double (f_st (FP.i2d i0) (FP.i2d i1))), .second, .val (.long ((i1).toInt64)), .second, .val (.long (((i0).toInt64) * ((i1).toInt64))), .second, .val (.double (FP.dneg (FP.l2d (((i0).toInt64) * ((i1).toInt64))))), .second] []
        refine XT.iconstV X8.here hx rfl (1 : Int32) (hb hby at_93) (by decide) ?_
        show Go p e below t T8 m 94 #[iv i0, iv i1, iv i2, iv (0 : Int32), .val (.double (FP.i2d i0)), .second, .val (.double (FP.i2d i1)), .second, .val (.double (f_st (FP.i2d i0) (FP.i2d i1))), .second, .val (.long ((i1).toInt64)), .second, .val (.long (((i0).toInt64) * ((i1).toInt64))), .second, .val (.double (FP.dneg (FP.l2d (((i0).toInt64) * ((i1).toInt64))))), .second] [(.int (1 : Int32))]
        refine XS.goto X8.here hx rfl (pc0 := 94) (pc' := 98) rfl (hb hby at_94) (by decide) (by decide) ?_
        show Go p e below t T8 m 98 #[iv i0, iv i1, iv i2, iv (0 : Int32), .val (.double (FP.i2d i0)), .second, .val (.double (FP.i2d i1)), .second, .val (.double (f_st (FP.i2d i0) (FP.i2d i1))), .second, .val (.long ((i1).toInt64)), .second, .val (.long (((i0).toInt64) * ((i1).toInt64))), .second, .val (.double (FP.dneg (FP.l2d (((i0).toInt64) * ((i1).toInt64))))), .second] [(.int (1 : Int32))]
        exact k)
      obtain ⟨fs, hr, hrun, hended, hW, hsame⟩ := X8.leave (v := some (.int (1 : Int32))) (fun h => by rw [Bd.returns] at h; cases h)
      refine ⟨_, _, g13 _ (retN X8 hx (t := .boolean) Bd.returns (by simp) (hb hby at_98) hr), hrun, hended, _, _, rfl, ?_, ⟨_, rfl⟩, hW, hsame.mono (by decide) (by decide)⟩
      show Q_law Z i0 i1 i2  h0 n0 _ T8.heap _
      rw [e8]
      exact ⟨by unfold f_law; rw [if_pos h6, if_neg h11], M8⟩
  · skip
    have g14 : Goes p e below S0 (s₁.setTop (mkF m 34 #[iv i0, iv i1, iv i2, iv (1 : Int32), .val (.double (FP.i2d i0)), .second, .val (.double (FP.dneg (FP.i2d i1))), .second, .unset, .unset, .unset, .unset, .unset, .unset, .unset, .unset] [(.double (FP.dneg (FP.i2d i1))), (.double (FP.i2d i0))])) := fun t k => g5 t (by
      refine XS.ifNo X0.here hx rfl (hb hby at_3) rfl (XT.i0_eq_f h6) ?_
      show Go p e below t s₁ m 6 #[iv i0, iv i1, iv i2, .unset, .unset, .unset, .unset, .unset, .unset, .unset, .unset, .unset, .unset, .unset, .unset, .unset] []
      refine XT.iconstV X0.here hx rfl (1 : Int32) (hb hby at_6) (by decide) ?_
      show Go p e below t s₁ m 7 #[iv i0, iv i1, iv i2, .unset, .unset, .unset, .unset, .unset, .unset, .unset, .unset, .unset, .unset, .unset, .unset, .unset] [(.int (1 : Int32))]
      refine XS.goto X0.here hx rfl (pc0 := 7) (pc' := 11) rfl (hb hby at_7) (by decide) (by decide) ?_
      show Go p e below t s₁ m 11 #[iv i0, iv i1, iv i2, .unset, .unset, .unset, .unset, .unset, .unset, .unset, .unset, .unset, .unset, .unset, .unset, .unset] [(.int (1 : Int32))]
      refine XS.istoreN X0.here hx rfl (hb hby at_11) rfl (l' := #[iv i0, iv i1, iv i2, iv (1 : Int32), .unset, .unset, .unset, .unset, .unset, .unset, .unset, .unset, .unset, .unset, .unset, .unset]) rfl ?_
      show Go p e below t s₁ m 12 #[iv i0, iv i1, iv i2, iv (1 : Int32), .unset, .unset, .unset, .unset, .unset, .unset, .unset, .unset, .unset, .unset, .unset, .unset] []
      refine XS.iloadN X0.here hx rfl (hb hby at_12) rfl ?_
      show Go p e below t s₁ m 13 #[iv i0, iv i1, iv i2, iv (1 : Int32), .unset, .unset, .unset, .unset, .unset, .unset, .unset, .unset, .unset, .unset, .unset, .unset] [(.int i0)]
      refine XS.i2dS X0.here hx rfl (hb hby at_13) rfl rfl ?_
      show Go p e below t s₁ m 14 #[iv i0, iv i1, iv i2, iv (1 : Int32), .unset, .unset, .unset, .unset, .unset, .unset, .unset, .unset, .unset, .unset, .unset, .unset] [(.double (FP.i2d i0))]
      refine XS.dstore X0.here hx rfl (hb hby at_14) rfl (l' := #[iv i0, iv i1, iv i2, iv (1 : Int32), .val (.double (FP.i2d i0)), .second, .unset, .unset, .unset, .unset, .unset, .unset, .unset, .unset, .unset, .unset]) rfl ?_
      show Go p e below t s₁ m 16 #[iv i0, iv i1, iv i2, iv (1 : Int32), .val (.double (FP.i2d i0)), .second, .unset, .unset, .unset, .unset, .unset, .unset, .unset, .unset, .unset, .unset] []
      refine XS.iloadN X0.here hx rfl (hb hby at_16) rfl ?_
      show Go p e below t s₁ m 17 #[iv i0, iv i1, iv i2, iv (1 : Int32), .val (.double (FP.i2d i0)), .second, .unset, .unset, .unset, .unset, .unset, .unset, .unset, .unset, .unset, .unset] [(.int (1 : Int32))]
      refine XS.ifNo X0.here hx rfl (hb hby at_17) rfl (XT.i0_eq_f (by decide)) ?_
      show Go p e below t s₁ m 20 #[iv i0, iv i1, iv i2, iv (1 : Int32), .val (.double (FP.i2d i0)), .second, .unset, .unset, .unset, .unset, .unset, .unset, .unset, .unset, .unset, .unset] []
      refine XS.iloadN X0.here hx rfl (hb hby at_20) rfl ?_
      show Go p e below t s₁ m 21 #[iv i0, iv i1, iv i2, iv (1 : Int32), .val (.double (FP.i2d i0)), .second, .unset, .unset, .unset, .unset, .unset, .unset, .unset, .unset, .unset, .unset] [(.int i1)]
      refine XS.i2dS X0.here hx rfl (hb hby at_21) rfl rfl ?_
      show Go p e below t s₁ m 22 #[iv i0, iv i1, iv i2, iv (1 : Int32), .val (.double (FP.i2d i0)), .second, .unset, .unset, .unset, .unset, .unset, .unset, .unset, .unset, .unset, .unset] [(.double (FP.i2d i1))]
      refine XS.dnegS X0.here hx rfl (hb hby at_22) rfl rfl ?_
      show Go p e below t s₁ m 23 #[iv i0, iv i1, iv i2, iv (1 : Int32), .val (.double (FP.i2d i0)), .second, .unset, .unset, .unset, .unset, .unset, .unset, .unset, .unset, .unset, .unset] [(.double (FP.dneg (FP.i2d i1)))]
      refine XS.goto X0.here hx rfl (pc0 := 23) (pc' := 28) rfl (hb hby at_23) (by decide) (by decide) ?_
      show Go p e below t s₁ m 28 #[iv i0, iv i1, iv i2, iv (1 : Int32), .val (.double (FP.i2d i0)), .second, .unset, .unset, .unset, .unset, .unset, .unset, .unset, .unset, .unset, .unset] [(.double (FP.dneg (FP.i2d i1)))]
      refine XS.dstore X0.here hx rfl (hb hby at_28) rfl (l' := #[iv i0, iv i1, iv i2, iv (1 : Int32), .val (.double (FP.i2d i0)), .second, .val (.double (FP.dneg (FP.i2d i1))), .second, .unset, .unset, .unset, .unset, .unset, .unset, .unset, .unset]) rfl ?_
      show Go p e below t s₁ m 30 #[iv i0, iv i1, iv i2, iv (1 : Int32), .val (.double (FP.i2d i0)), .second, .val (.double (FP.dneg (FP.i2d i1))), .second, .unset, .unset, .unset, .unset, .unset, .unset, .unset, .unset] []
      refine XS.dload X0.here hx rfl (hb hby at_30) rfl ?_
      show Go p e below t s₁ m 32 #[iv i0, iv i1, iv i2, iv (1 : Int32), .val (.double (FP.i2d i0)), .second, .val (.double (FP.dneg (FP.i2d i1))), .second, .unset, .unset, .unset, .unset, .unset, .unset, .unset, .unset] [(.double (FP.i2d i0))]
      refine XS.dload X0.here hx rfl (hb hby at_32) rfl ?_
      show Go p e below t s₁ m 34 #[iv i0, iv i1, iv i2, iv (1 : Int32), .val (.double (FP.i2d i0)), .second, .val (.double (FP.dneg (FP.i2d i1))), .second, .unset, .unset, .unset, .unset, .unset, .unset, .unset, .unset] [(.double (FP.dneg (FP.i2d i1))), (.double (FP.i2d i0))]
      exact k)
    obtain ⟨_, _, ⟨T15, L15, k15, n15⟩, -, X15, ⟨Lc15, hQ15, l15, y15, z15⟩, st15⟩ := Jvm.LawKit.callS X0 hx (y := (⟨"com/example/kettenbruch/kettenbruch/RealLoop", "stepAfterZero", "(DD)D"⟩ : MethodName)) hown (mvT hZ (hw _ (List.mem_of_getElem? (i := 0) rfl))) (mvT hZ (hw _ (List.mem_of_getElem? (i := 1) rfl))) (mvT hZ (hw _ (List.mem_of_getElem? (i := 2) rfl))) (mvT hZ (hw _ (List.mem_of_getElem? (i := 3) rfl))) (by decide) (backOf (W := 0) (rm_st l Z a0 hw [] (FP.i2d i0) (FP.dneg (FP.i2d i1))  h0 n0 Z0 (fun _ => own_nn (own_dn _))) hZ (hw _ (List.mem_of_getElem? (i := 3) rfl)) (hw _ (List.mem_of_getElem? (i := 2) rfl)) (by decide) (by decide)) (g := (mkF m 34 #[iv i0, iv i1, iv i2, iv (1 : Int32), .val (.double (FP.i2d i0)), .second, .val (.double (FP.dneg (FP.i2d i1))), .second, .unset, .unset, .unset, .unset, .unset, .unset, .unset, .unset] [(.double (FP.dneg (FP.i2d i1))), (.double (FP.i2d i0))])) rfl (by rw [hml]; rfl) (argsL := [(.double (FP.i2d i0)), (.double (FP.dneg (FP.i2d i1)))]) (rest := []) (lenOf pd0 rfl) rfl (by show 2 * 0 + _ ≤ _; exact Nat.le_of_eq rfl) (hb hby at_34) (fun _ _ => ⟨rfl, e0, (by decide : 0 + 0 ≤ _), (by decide : 0 + 0 ≤ _)⟩)
    dsimp only [Pt.U, Pt.locs, Pt.cells, Pt.slots] at X15 l15 y15 z15 st15 hQ15
    subst l15 y15 z15
    obtain ⟨rfl, N15, e15⟩ := hQ15
    have M15 := Fr.app N0 N15
    have g16 : Goes p e below S0 (T15.setTop (mkF m 37 #[iv i0, iv i1, iv i2, iv (1 : Int32), .val (.double (FP.i2d i0)), .second, .val (.double (FP.dneg (FP.i2d i1))), .second, .unset, .unset, .unset, .unset, .unset, .unset, .unset, .unset] [(.double (f_st (FP.i2d i0) (FP.dneg (FP.i2d i1))))])) := fun t k => g14 t (st15 t k)
    have g17 : Goes p e below S0 (T15.setTop (mkF m 40 #[iv i0, iv i1, iv i2, iv (1 : Int32), .val (.double (FP.i2d i0)), .second, .val (.double (FP.dneg (FP.i2d i1))), .second, .val (.double (f_st (FP.i2d i0) (FP.dneg (FP.i2d i1)))), .second, .unset, .unset, .unset, .unset, .unset, .unset] [(.int i1)])) := fun t k => g16 t (by
      refine XS.dstore X15.here hx rfl (hb hby at_37) rfl (l' := #[iv i0, iv i1, iv i2, iv (1 : Int32), .val (.double (FP.i2d i0)), .second, .val (.double (FP.dneg (FP.i2d i1))), .second, .val (.double (f_st (FP.i2d i0) (FP.dneg (FP.i2d i1)))), .second, .unset, .unset, .unset, .unset, .unset, .unset]) rfl ?_
      show Go p e below t T15 m 39 #[iv i0, iv i1, iv i2, iv (1 : Int32), .val (.double (FP.i2d i0)), .second, .val (.double (FP.dneg (FP.i2d i1))), .second, .val (.double (f_st (FP.i2d i0) (FP.dneg (FP.i2d i1)))), .second, .unset, .unset, .unset, .unset, .unset, .unset] []
      refine XS.iloadN X15.here hx rfl (hb hby at_39) rfl ?_
      show Go p e below t T15 m 40 #[iv i0, iv i1, iv i2, iv (1 : Int32), .val (.double (FP.i2d i0)), .second, .val (.double (FP.dneg (FP.i2d i1))), .second, .val (.double (f_st (FP.i2d i0) (FP.dneg (FP.i2d i1)))), .second, .unset, .unset, .unset, .unset, .unset, .unset] [(.int i1)]
      exact k)
    by_cases h18 : i1 = 0
    · skip
      have g19 : Goes p e below S0 (T15.setTop (mkF m 57 #[iv i0, iv i1, iv i2, iv (1 : Int32), .val (.double (FP.i2d i0)), .second, .val (.double (FP.dneg (FP.i2d i1))), .second, .val (.double (f_st (FP.i2d i0) (FP.dneg (FP.i2d i1)))), .second, .unset, .unset, .unset, .unset, .unset, .unset] [(.int (1 : Int32))])) := fun t k => g17 t (by
        refine XS.ifNo X15.here hx rfl (hb hby at_40) rfl (XT.i0_ne_f h18) ?_
        show Go p e below t T15 m 43 #[iv i0, iv i1, iv i2, iv (1 : Int32), .val (.double (FP.i2d i0)), .second, .val (.double (FP.dneg (FP.i2d i1))), .second, .val (.double (f_st (FP.i2d i0) (FP.dneg (FP.i2d i1)))), .second, .unset, .unset, .unset, .unset, .unset, .unset] []
        refine XS.dload X15.here hx rfl (hb hby at_43) rfl ?_
        show Go p e below t T15 m 45 #[iv i0, iv i1, iv i2, iv (1 : Int32), .val (.double (FP.i2d i0)), .second, .val (.double (FP.dneg (FP.i2d i1))), .second, .val (.double (f_st (FP.i2d i0) (FP.dneg (FP.i2d i1)))), .second, .unset, .unset, .unset, .unset, .unset, .unset] [(.double (f_st (FP.i2d i0) (FP.dneg (FP.i2d i1))))]
        refine X15.ldc2DoubleC hx hown (mvT hZ (hw _ (List.mem_of_getElem? (i := 5) rfl))) (g := (mkF m 45 #[iv i0, iv i1, iv i2, iv (1 : Int32), .val (.double (FP.i2d i0)), .second, .val (.double (FP.dneg (FP.i2d i1))), .second, .val (.double (f_st (FP.i2d i0) (FP.dneg (FP.i2d i1)))), .second, .unset, .unset, .unset, .unset, .unset, .unset] [(.double (f_st (FP.i2d i0) (FP.dneg (FP.i2d i1))))])) rfl (hb hby at_45) _ ?_
        show Go p e below t T15 m 48 #[iv i0, iv i1, iv i2, iv (1 : Int32), .val (.double (FP.i2d i0)), .second, .val (.double (FP.dneg (FP.i2d i1))), .second, .val (.double (f_st (FP.i2d i0) (FP.dneg (FP.i2d i1)))), .second, .unset, .unset, .unset, .unset, .unset, .unset] [(.double (13830554455654793216 : UInt64)), (.double (f_st (FP.i2d i0) (FP.dneg (FP.i2d i1))))]
        refine XS.dcmpS X15.here hx rfl (hb hby at_48) rfl rfl ?_
        show Go p e below t T15 m 49 #[iv i0, iv i1, iv i2, iv (1 : Int32), .val (.double (FP.i2d i0)), .second, .val (.double (FP.dneg (FP.i2d i1))), .second, .val (.double (f_st (FP.i2d i0) (FP.dneg (FP.i2d i1)))), .second, .unset, .unset, .unset, .unset, .unset, .unset] [(.int (cmpValue (FP.dcmp (f_st (FP.i2d i0) (FP.dneg (FP.i2d i1))) (13830554455654793216 : UInt64)) .l))]
        refine XS.ifNo X15.here hx rfl (hb hby at_49) rfl (dc_l_ne_f (own_zn h18)) ?_
        show Go p e below t T15 m 52 #[iv i0, iv i1, iv i2, iv (1 : Int32), .val (.double (FP.i2d i0)), .second, .val (.double (FP.dneg (FP.i2d i1))), .second, .val (.double (f_st (FP.i2d i0) (FP.dneg (FP.i2d i1)))), .second, .unset, .unset, .unset, .unset, .unset, .unset] []
        refine XT.iconstV X15.here hx rfl (1 : Int32) (hb hby at_52) (by decide) ?_
        show Go p e below t T15 m 53 #[iv i0, iv i1, iv i2, iv (1 : Int32), .val (.double (FP.i2d i0)), .second, .val (.double (FP.dneg (FP.i2d i1))), .second, .val (.double (f_st (FP.i2d i0) (FP.dneg (FP.i2d i1)))), .second, .unset, .unset, .unset, .unset, .unset, .unset] [(.int (1 : Int32))]
        refine XS.goto X15.here hx rfl (pc0 := 53) (pc' := 57) rfl (hb hby at_53) (by decide) (by decide) ?_
        show Go p e below t T15 m 57 #[iv i0, iv i1, iv i2, iv (1 : Int32), .val (.double (FP.i2d i0)), .second, .val (.double (FP.dneg (FP.i2d i1))), .second, .val (.double (f_st (FP.i2d i0) (FP.dneg (FP.i2d i1)))), .second, .unset, .unset, .unset, .unset, .unset, .unset] [(.int (1 : Int32))]
        exact k)
      obtain ⟨fs, hr, hrun, hended, hW, hsame⟩ := X15.leave (v := some (.int (1 : Int32))) (fun h => by rw [Bd.returns] at h; cases h)
      refine ⟨_, _, g19 _ (retN X15 hx (t := .boolean) Bd.returns (by simp) (hb hby at_57) hr), hrun, hended, _, _, rfl, ?_, ⟨_, rfl⟩, hW, hsame.mono (by decide) (by decide)⟩
      show Q_law Z i0 i1 i2  h0 n0 _ T15.heap _
      rw [e15]
      exact ⟨by unfold f_law; rw [if_neg h6, if_pos h18], M15⟩
    · skip
      have g20 : Goes p e below S0 (T15.setTop (mkF m 98 #[iv i0, iv i1, iv i2, iv (1 : Int32), .val (.double (FP.i2d i0)), .second, .val (.double (FP.dneg (FP.i2d i1))), .second, .val (.double (f_st (FP.i2d i0) (FP.dneg (FP.i2d i1)))), .second, .val (.long (-((i1).toInt64))), .second, .val (.long (((i0).toInt64) * (-((i1).toInt64)))), .second, .val (.double (FP.dneg (FP.l2d (((i0).toInt64) * (-((i1).toInt64)))))), .second] [(.int (1 : Int32))])) := fun t k => g17 t (by
        refine XS.ifYes X15.here hx rfl (pc0 := 40) (pc' := 58) rfl (hb hby at_40) rfl (XT.i0_ne_t h18) (by decide) (by decide) ?_
        show Go p e below t T15 m 58 #[iv i0, iv i1, iv i2, iv (1 : Int32), .val (.double (FP.i2d i0)), .second, .val (.double (FP.dneg (FP.i2d i1))), .second, .val (.double (f_st (FP.i2d i0) (FP.dneg (FP.i2d i1)))), .second, .unset, .unset, .unset, .unset, .unset, .unset] []
        refine XS.iloadN X15.here hx rfl (hb hby at_58) rfl ?_
        show Go p e below t T15 m 59 #[iv i0, iv i1, iv i2, iv (1 : Int32), .val (.double (FP.i2d i0)), .second, .val (.double (FP.dneg (FP.i2d i1))), .second, .val (.double (f_st (FP.i2d i0) (FP.dneg (FP.i2d i1)))), .second, .unset, .unset, .unset, .unset, .unset, .unset] [(.int (1 : Int32))]
        refine XS.ifNo X15.here hx rfl (hb hby at_59) rfl (XT.i0_eq_f (by decide)) ?_
        show Go p e below t T15 m 62 #[iv i0, iv i1, iv i2, iv (1 : Int32), .val (.double (FP.i2d i0)), .second, .val (.double (FP.dneg (FP.i2d i1))), .second, .val (.double (f_st (FP.i2d i0) (FP.dneg (FP.i2d i1)))), .second, .unset, .unset, .unset, .unset, .unset, .unset] []
        refine XS.iloadN X15.here hx rfl (hb hby at_62) rfl ?_
        show Go p e below t T15 m 63 #[iv i0, iv i1, iv i2, iv (1 : Int32), .val (.double (FP.i2d i0)), .second, .val (.double (FP.dneg (FP.i2d i1))), .second, .val (.double (f_st (FP.i2d i0) (FP.dneg (FP.i2d i1)))), .second, .unset, .unset, .unset, .unset, .unset, .unset] [(.int i1)]
        refine XS.i2l X15.here hx rfl (hb hby at_63) rfl ?_
        show Go p e below t T15 m 64 #[iv i0, iv i1, iv i2, iv (1 : Int32), .val (.double (FP.i2d i0)), .second, .val (.double (FP.dneg (FP.i2d i1))), .second, .val (.double (f_st (FP.i2d i0) (FP.dneg (FP.i2d i1)))), .second, .unset, .unset, .unset, .unset, .unset, .unset] [(.long ((i1).toInt64))]
        refine XS.lneg X15.here hx rfl (hb hby at_64) rfl ?_
        show Go p e below t T15 m 65 #[iv i0, iv i1, iv i2, iv (1 : Int32), .val (.double (FP.i2d i0)), .second, .val (.double (FP.dneg (FP.i2d i1))), .second, .val (.double (f_st (FP.i2d i0) (FP.dneg (FP.i2d i1)))), .second, .unset, .unset, .unset, .unset, .unset, .unset] [(.long (-((i1).toInt64)))]
        refine XS.goto X15.here hx rfl (pc0 := 65) (pc' := 70) rfl (hb hby at_65) (by decide) (by decide) ?_
        show Go p e below t T15 m 70 #[iv i0, iv i1, iv i2, iv (1 : Int32), .val (.double (FP.i2d i0)), .second, .val (.double (FP.dneg (FP.i2d i1))), .second, .val (.double (f_st (FP.i2d i0) (FP.dneg (FP.i2d i1)))), .second, .unset, .unset, .unset, .unset, .unset, .unset] [(.long (-((i1).toInt64)))]
        refine XS.lstore X15.here hx rfl (hb hby at_70) rfl (l' := #[iv i0, iv i1, iv i2, iv (1 : Int32), .val (.double (FP.i2d i0)), .second, .val (.double (FP.dneg (FP.i2d i1))), .second, .val (.double (f_st (FP.i2d i0) (FP.dneg (FP.i2d i1)))), .second, .val (.long (-((i1).toInt64))), .second, .unset, .unset, .unset, .unset]) rfl ?_
        show Go p e below t T15 m 72 #[iv i0, iv i1, iv i2, iv (1 : Int32), .val (.double (FP.i2d i0)), .second, .val (.double (FP.dneg (FP.i2d i1))), .second, .val (.double (f_st (FP.i2d i0) (FP.dneg (FP.i2d i1)))), .second, .val (.long (-((i1).toInt64))), .second, .unset, .unset, .unset, .unset] []
        refine XS.iloadN X15.here hx rfl (hb hby at_72) rfl ?_
        show Go p e below t T15 m 73 #[iv i0, iv i1, iv i2, iv (1 : Int32), .val (.double (FP.i2d i0)), .second, .val (.double (FP.dneg (FP.i2d i1))), .second, .val (.double (f_st (FP.i2d i0) (FP.dneg (FP.i2d i1)))), .second, .val (.long (-((i1).toInt64))), .second, .unset, .unset, .unset, .unset] [(.int i0)]
        refine XS.i2l X15.here hx rfl (hb hby at_73) rfl ?_
        show Go p e below t T15 m 74 #[iv i0, iv i1, iv i2, iv (1 : Int32), .val (.double (FP.i2d i0)), .second, .val (.double (FP.dneg (FP.i2d i1))), .second, .val (.double (f_st (FP.i2d i0) (FP.dneg (FP.i2d i1)))), .second, .val (.long (-((i1).toInt64))), .second, .unset, .unset, .unset, .unset] [(.long ((i0).toInt64))]
        refine XS.lload X15.here hx rfl (hb hby at_74) rfl ?_
        show Go p e below t T15 m 76 #[iv i0, iv i1, iv i2, iv (1 : Int32), .val (.double (FP.i2d i0)), .second, .val (.double (FP.dneg (FP.i2d i1))), .second, .val (.double (f_st (FP.i2d i0) (FP.dneg (FP.i2d i1)))), .second, .val (.long (-((i1).toInt64))), .second, .unset, .unset, .unset, .unset] [(.long (-((i1).toInt64))), (.long ((i0).toInt64))]
        refine XS.lmul X15.here hx rfl (hb hby at_76) rfl ?_
        show Go p e below t T15 m 77 #[iv i0, iv i1, iv i2, iv (1 : Int32), .val (.double (FP.i2d i0)), .second, .val (.double (FP.dneg (FP.i2d i1))), .second, .val (.double (f_st (FP.i2d i0) (FP.dneg (FP.i2d i1)))), .second, .val (.long (-((i1).toInt64))), .second, .unset, .unset, .unset, .unset] [(.long (((i0).toInt64) * (-((i1).toInt64))))]
        refine XS.lstore X15.here hx rfl (hb hby at_77) rfl (l' := #[iv i0, iv i1, iv i2, iv (1 : Int32), .val (.double (FP.i2d i0)), .second, .val (.double (FP.dneg (FP.i2d i1))), .second, .val (.double (f_st (FP.i2d i0) (FP.dneg (FP.i2d i1)))), .second, .val (.long (-((i1).toInt64))), .second, .val (.long (((i0).toInt64) * (-((i1).toInt64)))), .second, .unset, .unset]) rfl ?_
        show Go p e below t T15 m 79 #[iv i0, iv i1, iv i2, iv (1 : Int32), .val (.double (FP.i2d i0)), .second, .val (.double (FP.dneg (FP.i2d i1))), .second, .val (.double (f_st (FP.i2d i0) (FP.dneg (FP.i2d i1)))), .second, .val (.long (-((i1).toInt64))), .second, .val (.long (((i0).toInt64) * (-((i1).toInt64)))), .second, .unset, .unset] []
        refine XS.lload X15.here hx rfl (hb hby at_79) rfl ?_
        show Go p e below t T15 m 81 #[iv i0, iv i1, iv i2, iv (1 : Int32), .val (.double (FP.i2d i0)), .second, .val (.double (FP.dneg (FP.i2d i1))), .second, .val (.double (f_st (FP.i2d i0) (FP.dneg (FP.i2d i1)))), .second, .val (.long (-((i1).toInt64))), .second, .val (.long (((i0).toInt64) * (-((i1).toInt64)))), .second, .unset, .unset] [(.long (((i0).toInt64) * (-((i1).toInt64))))]
        refine XS.l2dS X15.here hx rfl (hb hby at_81) rfl rfl ?_
        show Go p e below t T15 m 82 #[iv i0, iv i1, iv i2, iv (1 : Int32), .val (.double (FP.i2d i0)), .second, .val (.double (FP.dneg (FP.i2d i1))), .second, .val (.double (f_st (FP.i2d i0) (FP.dneg (FP.i2d i1)))), .second, .val (.long (-((i1).toInt64))), .second, .val (.long (((i0).toInt64) * (-((i1).toInt64)))), .second, .unset, .unset] [(.double (FP.l2d (((i0).toInt64) * (-((i1).toInt64)))))]
        refine XS.dnegS X15.here hx rfl (hb hby at_82) rfl rfl ?_
        show Go p e below t T15 m 83 #[iv i0, iv i1, iv i2, iv (1 : Int32), .val (.double (FP.i2d i0)), .second, .val (.double (FP.dneg (FP.i2d i1))), .second, .val (.double (f_st (FP.i2d i0) (FP.dneg (FP.i2d i1)))), .second, .val (.long (-((i1).toInt64))), .second, .val (.long (((i0).toInt64) * (-((i1).toInt64)))), .second, .unset, .unset] [(.double (FP.dneg (FP.l2d (((i0).toInt64) * (-((i1).toInt64))))))]
        refine XS.dstore X15.here hx rfl (hb hby at_83) rfl (l' := #[iv i0, iv i1, iv i2, iv (1 : Int32), .val (.double (FP.i2d i0)), .second, .val (.double (FP.dneg (FP.i2d i1))), .second, .val (.double (f_st (FP.i2d i0) (FP.dneg (FP.i2d i1)))), .second, .val (.long (-((i1).toInt64))), .second, .val (.long (((i0).toInt64) * (-((i1).toInt64)))), .second, .val (.double (FP.dneg (FP.l2d (((i0).toInt64) * (-((i1).toInt64)))))), .second]) rfl ?_
        show Go p e below t T15 m 85 #[iv i0, iv i1, iv i2, iv (1 : Int32), .val (.double (FP.i2d i0)), .second, .val (.double (FP.dneg (FP.i2d i1))), .second, .val (.double (f_st (FP.i2d i0) (FP.dneg (FP.i2d i1)))), .second, .val (.long (-((i1).toInt64))), .second, .val (.long (((i0).toInt64) * (-((i1).toInt64)))), .second, .val (.double (FP.dneg (FP.l2d (((i0).toInt64) * (-((i1).toInt64)))))), .second] []
        refine XS.dload X15.here hx rfl (hb hby at_85) rfl ?_
        show Go p e below t T15 m 87 #[iv i0, iv i1, iv i2, iv (1 : Int32), .val (.double (FP.i2d i0)), .second, .val (.double (FP.dneg (FP.i2d i1))), .second, .val (.double (f_st (FP.i2d i0) (FP.dneg (FP.i2d i1)))), .second, .val (.long (-((i1).toInt64))), .second, .val (.long (((i0).toInt64) * (-((i1).toInt64)))), .second, .val (.double (FP.dneg (FP.l2d (((i0).toInt64) * (-((i1).toInt64)))))), .second] [(.double (f_st (FP.i2d i0) (FP.dneg (FP.i2d i1))))]
        refine XS.dload X15.here hx rfl (hb hby at_87) rfl ?_
        show Go p e below t T15 m 89 #[iv i0, iv i1, iv i2, iv (1 : Int32), .val (.double (FP.i2d i0)), .second, .val (.double (FP.dneg (FP.i2d i1))), .second, .val (.double (f_st (FP.i2d i0) (FP.dneg (FP.i2d i1)))), .second, .val (.long (-((i1).toInt64))), .second, .val (.long (((i0).toInt64) * (-((i1).toInt64)))), .second, .val (.double (FP.dneg (FP.l2d (((i0).toInt64) * (-((i1).toInt64)))))), .second] [(.double (FP.dneg (FP.l2d (((i0).toInt64) * (-((i1).toInt64)))))), (.double (f_st (FP.i2d i0) (FP.dneg (FP.i2d i1))))]
        refine XS.dcmpS X15.here hx rfl (hb hby at_89) rfl rfl ?_
        show Go p e below t T15 m 90 #[iv i0, iv i1, iv i2, iv (1 : Int32), .val (.double (FP.i2d i0)), .second, .val (.double (FP.dneg (FP.i2d i1))), .second, .val (.double (f_st (FP.i2d i0) (FP.dneg (FP.i2d i1)))), .second, .val (.long (-((i1).toInt64))), .second, .val (.long (((i0).toInt64) * (-((i1).toInt64)))), .second, .val (.double (FP.dneg (FP.l2d (((i0).toInt64) * (-((i1).toInt64)))))), .second] [(.int (cmpValue (FP.dcmp (f_st (FP.i2d i0) (FP.dneg (FP.i2d i1))) (FP.dneg (FP.l2d (((i0).toInt64) * (-((i1).toInt64)))))) .l))]
        refine XS.ifNo X15.here hx rfl (hb hby at_90) rfl (dc_l_ne_f (own_pn h18)) ?_
        show Go p e below t T15 m 93 #[iv i0, iv i1, iv i2, iv (1 : Int32), .val (.double (FP.i2d i0)), .second, .val (.double (FP.dneg (FP.i2d i1))), .second, .val (.double (f_st (FP.i2d i0) (FP.dneg (FP.i2d i1)))), .second, .val (.long (-((i1).toInt64))), .second, .val (.long (((i0).toInt64) * (-((i1).toInt64)))), .second, .val (.double (FP.dneg (FP.l2d (((i0).toInt64) * (-((i1).toInt64)))))), .second] []
        refine XT.iconstV X15.here hx rfl (1 : Int32) (hb hby at_93) (by decide) ?_
        show Go p e below t T15 m 94 #[iv i0, iv i1, iv i2, iv (1 : Int32), .val (.double (FP.i2d i0)), .second, .val (.double (FP.dneg (FP.i2d i1))), .second, .val (.double (f_st (FP.i2d i0) (FP.dneg (FP.i2d i1)))), .second, .val (.long (-((i1).toInt64))), .second, .val (.long (((i0).toInt64) * (-((i1).toInt64)))), .second, .val (.double (FP.dneg (FP.l2d (((i0).toInt64) * (-((i1).toInt64)))))), .second] [(.int (1 : Int32))]
        refine XS.goto X15.here hx rfl (pc0 := 94) (pc' := 98) rfl (hb hby at_94) (by decide) (by decide) ?_
        show Go p e below t T15 m 98 #[iv i0, iv i1, iv i2, iv (1 : Int32), .val (.double (FP.i2d i0)), .second, .val (.double (FP.dneg (FP.i2d i1))), .second, .val (.double (f_st (FP.i2d i0) (FP.dneg (FP.i2d i1)))), .second, .val (.long (-((i1).toInt64))), .second, .val (.long (((i0).toInt64) * (-((i1).toInt64)))), .second, .val (.double (FP.dneg (FP.l2d (((i0).toInt64) * (-((i1).toInt64)))))), .second] [(.int (1 : Int32))]
        exact k)
      obtain ⟨fs, hr, hrun, hended, hW, hsame⟩ := X15.leave (v := some (.int (1 : Int32))) (fun h => by rw [Bd.returns] at h; cases h)
      refine ⟨_, _, g20 _ (retN X15 hx (t := .boolean) Bd.returns (by simp) (hb hby at_98) hr), hrun, hended, _, _, rfl, ?_, ⟨_, rfl⟩, hW, hsame.mono (by decide) (by decide)⟩
      show Q_law Z i0 i1 i2  h0 n0 _ T15.heap _
      rw [e15]
      exact ⟨by unfold f_law; rw [if_neg h6, if_neg h18], M15⟩
theorem own_one (a b c : Int32) : f_law a b c = 1 := by
  unfold f_law
  repeat' split
  all_goals rfl

set_option maxRecDepth 65536 in
set_option maxHeartbeats 40000000 in
theorem comes_1 {Post : Tables → Env → Array Value → State → Outcome → State → Prop} (hpost : ∀ tb e args s v u, (limb_1_1.after args s (.returned v) u = true ∧ limb_1_2.after args s (.returned v) u = true ∧ True) → FrameEnd s (.returned v) u (Jvm.fieldLocs frame_1_writes args s ++ Jvm.arrayLocs frame_1_arrays args s ++ Jvm.staticLocs frame_1_statics s) 0 0 → Post tb e args s (.returned v) u) :
    ArmFor flags0 classFile x code maxLocals ret World_1 tables_1 room_1 Calls_1 rest_1 Pre_1 Post := by
  intro l hfl _ _ p e ha hc hk s m args below hf hA hF happ hP
  obtain ⟨hcalls, hrest, hpre⟩ := hP
  obtain ⟨-, -, -, hnamed, -, -, -, hat⟩ := (Spec.applies_iff hf).mp happ
  obtain ⟨hg, hn⟩ := and_e (Cond.before_iff.mp (show (Jvm.Cond.and given_1 narrow_1).before args s = true from hpre))
  obtain ⟨hcount, q0⟩ := and_e hg
  obtain ⟨b0, q1⟩ := and_e q0
  obtain ⟨b1, q2⟩ := and_e q1
  have b2 := q2
  obtain ⟨w0, w1, w2, rfl⟩ : ∃ w0 w1 w2 : Value, args = #[w0, w1, w2] := by
    have hs : args.size = 3 := by simpa [Cond.value, given_1] using hcount
    obtain ⟨L⟩ := args
    match L, hs with
    | [w0, w1, w2], _ => exact ⟨w0, w1, w2, rfl⟩
  have hw := fun d (hd : d ∈ tables_1) => atoms_spec (ws := Jvm.Cond.code x code maxLocals ret :: tables_1) hat d (List.mem_cons_of_mem _ hd)
  have hfit : Fit s := fun {y c} hc i hi => by
    obtain ⟨ha, rfl⟩ := Array.getElem?_eq_some_iff.mp hc
    have q := List.all_eq_true.mp ((Array.all_eq_true_iff_forall_mem.mp hF) _ (Array.getElem_mem ha)) i (List.mem_range.mpr hi)
    simpa [Array.getElem?_eq_getElem hi] using q
  obtain ⟨i0, r0⟩ := is_v b0
  obtain rfl : w0 = (.int i0) := Option.some.inj r0
  obtain ⟨i1, r1⟩ := is_v b1
  obtain rfl : w1 = (.int i1) := Option.some.inj r1
  obtain ⟨i2, r2⟩ := is_v b2
  obtain rfl : w2 = (.int i2) := Option.some.inj r2
  obtain ⟨n, o, h1, h2, h3, v, L, rfl, ⟨hv, N⟩, hq⟩ := rm_law l s _ hw tables_1 i0 i1 i2  s.heap s.heap.size (Nat.le_refl _)  p e ha hc hk s m _ below hf ((Spec.applies_iff_loose hf).mp happ).1 ⟨rfl, State.Warmed39.refl s, rfl⟩ trivial
  obtain rfl : v = some (.int 1) := by rw [hv, own_one]
  refine ⟨n, _, h1, h2, h3, hpost _ _ _ _ _ _ ⟨Cond.after_iff.mpr rfl, Cond.after_iff.mpr (eq_i res_at (Term.int_eval (1)) rfl), trivial⟩ ⟨hq.1, hq.2.1, (hq.2.2.sift fun y hy => Or.inr (N y hy)).mono (by decide) (by decide)⟩⟩
theorem main_1_1 : Claimed_1_1 := comes_1 fun _ _ _ _ _ _ h hF => ⟨h.1, hF⟩
theorem main_1_2 : Claimed_1_2 := comes_1 fun _ _ _ _ _ _ h hF => ⟨h.2.1, hF⟩
end Jvm.Pilot.@@N@@
namespace Jvm.Pilot.@@N@@
open Jvm Jvm.ClassFile Sem Op Lib Jvm.Free Jvm.Stand Jvm.Pilot.@@N@@.Jvm.D
/-! MADE BY PROGRAM (witnessworld.py) out of the Statement's table words and the real class files: 10 classes; the members and pool entries that the words name. The judged class is class 1, her method 1. -/
namespace start1
open Jvm.ClassFile
def u (s : String) : CpInfo := .utf8 (stringToUtf16 s)
/-- a pool by its gaps: so many unusable entries, then the entry; so many at the end -/
def gap : Nat → List CpInfo → List CpInfo
  | 0, r => r
  | n + 1, r => .unusable :: gap n r
def poolList (es : List (Nat × CpInfo)) (last : Nat) : List CpInfo := es.foldr (fun e r => gap e.1 (e.2 :: r)) (gap last [])
def pool (es : List (Nat × CpInfo)) (last : Nat) : Array CpInfo := ⟨poolList es last⟩
def fileOf (pool : Array CpInfo) (this : Nat) (attrs : Array Attribute := #[]) (ms : Array MethodInfo := #[]) (fl : Nat := 33) (sup : Nat := 0) (ifs : Array Nat := #[]) (fds : Array FieldInfo := #[]) : ClassFile where
  minorVersion := 0
  majorVersion := 65
  constantPool := pool
  accessFlags := fl
  thisClass := this
  superClass := sup
  interfaces := ifs
  fields := fds
  methods := ms
  attributes := attrs
def plain (name : String) (sup : Option ClassId) : Class where
  name := name
  kind := .ordinary
  loader := none
  accessFlags := 33
  super := sup
  interfaces := #[]
  cf := none
  fields := #[]
  methods := #[]
  instanceTypes := #[]
  staticTypes := #[]
  resolved := #[]
  callSites := []
  init := .initialized
  statics := none
  mirror := none

def pool0 : Array CpInfo := pool [(5, u "<init>"), (0, u "()V"), (1, .class_ 10), (1, u "java/lang/Object")] 113

def k0m0 : Method := { name := "<init>", desc := "()V", sig := { parameters := [], returnType := none }, accessFlags := 1, code := none }
/-- java/lang/Object -/
def k0 : Class := { plain "java/lang/Object" none with
  accessFlags := 33
  interfaces := #[]
  cf := some (fileOf pool0 8 #[] #[{ accessFlags := 1, nameIndex := 5, descriptorIndex := 6, attributes := #[] }] 33 0 #[] #[])
  fields := #[]
  methods := #[k0m0]
  instanceTypes := #[]
  staticTypes := #[]
  resolved := Array.replicate 124 none
  statics := none }

def pool1 : Array CpInfo := pool [(2, .class_ 4), (1, u "java/lang/Object"), (0, u "<init>"), (0, u "()V"), (0, .methodref 8 9), (0, .class_ 10), (0, .nameAndType 11 12), (0, u "com/example/kettenbruch/kettenbruch/RealLoop"), (0, u "stepAfterZero"), (0, u "(DD)D"), (0, .double 13830554455654793216), (1, .class_ 16), (0, u "com/example/kettenbruch/kettenbruch/RealLoopStepAfterZeroPinLaw"), (2, u "law"), (0, u "(III)Z")] 3

def k1m0 : Method := { name := "<init>", desc := "()V", sig := { parameters := [], returnType := none }, accessFlags := 1, code := none }
def k1c1 : Code := { maxStack := 4, maxLocals := 16, code := code, exceptionTable := #[], attributes := #[] }
def k1m1 : Method := { name := "law", desc := "(III)Z", sig := { parameters := [.int, .int, .int], returnType := some .boolean }, accessFlags := 9, code := some k1c1 }
/-- com/example/kettenbruch/kettenbruch/RealLoopStepAfterZeroPinLaw -/
def k1 : Class := { plain "com/example/kettenbruch/kettenbruch/RealLoopStepAfterZeroPinLaw" (some 0) with
  accessFlags := 49
  interfaces := #[]
  cf := some (fileOf pool1 15 #[] #[{ accessFlags := 1, nameIndex := 5, descriptorIndex := 6, attributes := #[] }, { accessFlags := 9, nameIndex := 19, descriptorIndex := 20, attributes := #[] }] 49 2 #[] #[])
  fields := #[]
  methods := #[k1m0, k1m1]
  instanceTypes := #[]
  staticTypes := #[]
  resolved := Array.replicate 24 none
  statics := none }

def pool2 : Array CpInfo := pool [(1, .class_ 2), (0, u "com/example/kettenbruch/kettenbruch/EvaluationLoop"), (0, .class_ 4), (0, u "java/lang/Object")] 7

/-- com/example/kettenbruch/kettenbruch/EvaluationLoop -/
def k2 : Class := { plain "com/example/kettenbruch/kettenbruch/EvaluationLoop" (some 0) with
  accessFlags := 1536
  interfaces := #[]
  cf := some (fileOf pool2 1 #[] #[] 1536 3 #[] #[])
  fields := #[]
  methods := #[]
  instanceTypes := #[]
  staticTypes := #[]
  resolved := Array.replicate 12 none
  statics := none }

def pool3 : Array CpInfo := pool [(2, .class_ 4), (1, u "java/lang/Object"), (0, u "<init>"), (0, u "()V"), (29, .double 13830554455654793216), (24, .class_ 63), (1, u "com/example/kettenbruch/kettenbruch/RealLoop"), (4, u "stepAfterZero"), (0, u "(DD)D"), (57, .class_ 128), (0, u "com/example/kettenbruch/kettenbruch/EvaluationLoop")] 28

def k3m0 : Method := { name := "<init>", desc := "()V", sig := { parameters := [], returnType := none }, accessFlags := 0, code := none }
def k3c1 : Code := { maxStack := 4, maxLocals := 4, code := prog_11_method_3_code, exceptionTable := #[], attributes := #[] }
def k3m1 : Method := { name := "stepAfterZero", desc := "(DD)D", sig := { parameters := [.double, .double], returnType := some .double }, accessFlags := 8, code := some k3c1 }
/-- com/example/kettenbruch/kettenbruch/RealLoop -/
def k3 : Class := { plain "com/example/kettenbruch/kettenbruch/RealLoop" (some 0) with
  accessFlags := 48
  interfaces := #[2]
  cf := some (fileOf pool3 61 #[] #[{ accessFlags := 0, nameIndex := 5, descriptorIndex := 6, attributes := #[] }, { accessFlags := 8, nameIndex := 68, descriptorIndex := 69, attributes := #[] }] 48 2 #[127] #[])
  fields := #[]
  methods := #[k3m0, k3m1]
  instanceTypes := #[]
  staticTypes := #[]
  resolved := Array.replicate 157 none
  statics := none }

def pool4 : Array CpInfo := pool [(1, u "java/lang/Cloneable"), (0, .class_ 1), (0, u "java/lang/Object"), (0, .class_ 3)] 3

/-- java/lang/Cloneable -/
def k4 : Class := { plain "java/lang/Cloneable" (some 0) with
  accessFlags := 1537
  interfaces := #[]
  cf := some (fileOf pool4 2 #[] #[] 1537 4 #[] #[])
  fields := #[]
  methods := #[]
  instanceTypes := #[]
  staticTypes := #[]
  resolved := Array.replicate 8 none
  statics := none }

def pool5 : Array CpInfo := pool [(1, u "java/io/Serializable"), (0, .class_ 1), (0, u "java/lang/Object"), (0, .class_ 3)] 3

/-- java/io/Serializable -/
def k5 : Class := { plain "java/io/Serializable" (some 0) with
  accessFlags := 1537
  interfaces := #[]
  cf := some (fileOf pool5 2 #[] #[] 1537 4 #[] #[])
  fields := #[]
  methods := #[]
  instanceTypes := #[]
  staticTypes := #[]
  resolved := Array.replicate 8 none
  statics := none }

/-- the primitive byte -/
def k6 : Class := { plain "byte" none with kind := .primitive 'B', accessFlags := 0x411 }
/-- [B -/
def k7 : Class := { plain "[B" (some 0) with kind := .array 6 .byte, interfaces := #[4, 5], accessFlags := 1041 }

/-- the primitive int -/
def k8 : Class := { plain "int" none with kind := .primitive 'I', accessFlags := 0x411 }
/-- [I -/
def k9 : Class := { plain "[I" (some 0) with kind := .array 8 .int, interfaces := #[4, 5], accessFlags := 1041 }

def heap : Heap := #[]
def classes : Array Class := #[k0, k1, k2, k3, k4, k5, k6, k7, k8, k9]
def interned : List (Array UInt16 × Addr) := []
def slotsUsed : Nat := 0
def theMethod : MethodId := ⟨1, 1⟩
def args0 : Array Value := #[.int 5, .int 7, .int 9]
def aboutOver (below : List Frame) : State where
  vm := { classes := classes, interned := interned.toArray }
  heap := heap
  slotsUsed := slotsUsed
  threads := #[{ frames := .invoking theMethod args0 :: below }]
def below0 : List Frame := [.native { method := ⟨0, 0⟩, args := #[] }]
def about1 : State := aboutOver below0
def p0 : Program := .bare "" "" ""
def e0 : Env := launch0.env 0 0 0
theorem w_frames : about1.frames = Frame.invoking theMethod args0 :: below0 := rfl
set_option maxRecDepth 65536 in
theorem w_args : argsFit about1.vm theMethod args0 = true := by decide +kernel
set_option maxRecDepth 65536 in
theorem w_heap : heapFits about1 = true := by decide +kernel
set_option maxRecDepth 65536 in
theorem w_runnable : about1.curStatus? = some .runnable := by decide +kernel
set_option maxRecDepth 65536 in
theorem w_alone : about1.alone = true := by decide +kernel
set_option maxRecDepth 65536 in
theorem w_named : about1.methodNamed? x = some theMethod := by decide +kernel
set_option maxRecDepth 65536 in
theorem w_hears : about1.hears theMethod below0 = true := by decide +kernel
set_option maxRecDepth 65536 in
theorem w_ripe : about1.ripe theMethod args0 below0 = true := by decide +kernel
theorem w_running : about1.status = .running := rfl
set_option maxRecDepth 65536 in
theorem w_room : about1.hasRoom e0.platform room_1 = true :=
  launch0.hasRoom_least _ room_1 (by decide +kernel) (by decide +kernel) (by decide +kernel) (by decide +kernel) (by decide +kernel) (by decide +kernel)
theorem allAtoms_all (ts : List Jvm.Cond) (a : Array Jvm.Value) (st : Jvm.State) : (allAtoms ts).before a st = ts.all (fun c => c.before a st) := by
  induction ts with
  | nil => rfl
  | cons c t ih =>
    show (Jvm.Cond.and c (allAtoms t)).before a st = _
    rw [Jvm.Cond.before_and, ih, List.all_cons]
def words1 : List Jvm.Cond := Jvm.Cond.code x code maxLocals ret :: tables_1
/-- a 'code' word, met by the world's own term for the bytes: nothing is compared byte by byte -/
theorem code_word {y : MethodName} {bytes : ByteArray} {mx : Nat} {rt : Option FieldType} {a : Array Value} {s : State} {m : MethodId} {meth : Method} {c : Code} (h1 : s.methodNamed? y = some m) (h2 : s.vm.method? m = some meth) (h3 : meth.code = some c) (h4 : c.code = bytes)
    (h5 : (c.maxLocals == mx && c.exceptionTable.isEmpty && decide (c.maxStack ≤ mostOperands) && decide (meth.sig.returnType = rt) && !meth.locks && decide (parseMethodDescriptor y.desc = some meth.sig)) = true) : (Jvm.Cond.code y bytes mx rt).before a s = true := by
  simp only [Bool.and_eq_true, beq_iff_eq, Bool.not_eq_true', decide_eq_true_eq] at h5
  obtain ⟨⟨⟨⟨⟨g1, g2⟩, g3⟩, g4⟩, g5⟩, g6⟩ := h5
  simp [Cond.before, Cond.holds, Cond.value, h1, h2, h3, h4, g1, g2, g3, g4, g5, g6]
def isCode : Jvm.Cond → Bool
  | .code _ _ _ _ => true
  | _ => false
theorem all_split {L : List Jvm.Cond} {P : Jvm.Cond → Bool} (h1 : L.all (fun c => isCode c || P c) = true) (h2 : ∀ c ∈ L.filter isCode, P c = true) : L.all P = true := by
  refine List.all_eq_true.mpr fun c hc => ?_
  have h := List.all_eq_true.mp h1 c hc
  rcases Bool.eq_false_or_eq_true (isCode c) with hi | hi
  · exact h2 c (List.mem_filter.mpr ⟨hc, hi⟩)
  · simpa [hi] using h
set_option maxRecDepth 65536 in
theorem w_c0 : (Jvm.Cond.code x code maxLocals ret).before args0 about1 = true := code_word (m := ⟨1, 1⟩) (meth := k1m1) (c := k1c1) (by decide +kernel) rfl rfl rfl (by decide +kernel)
set_option maxRecDepth 65536 in
theorem w_c1 : (Jvm.Cond.code ({ cls := "com/example/kettenbruch/kettenbruch/RealLoop", name := "stepAfterZero", desc := "(DD)D" } : Jvm.MethodName) prog_11_method_3_code (4 : Nat) (Option.some Jvm.ClassFile.FieldType.double)).before args0 about1 = true := code_word (m := ⟨3, 1⟩) (meth := k3m1) (c := k3c1) (by decide +kernel) rfl rfl rfl (by decide +kernel)
def codes1 : List Jvm.Cond := [Jvm.Cond.code x code maxLocals ret, Jvm.Cond.code ({ cls := "com/example/kettenbruch/kettenbruch/RealLoop", name := "stepAfterZero", desc := "(DD)D" } : Jvm.MethodName) prog_11_method_3_code (4 : Nat) (Option.some Jvm.ClassFile.FieldType.double)]
set_option maxRecDepth 65536 in
theorem codes_eq : words1.filter isCode = codes1 := rfl
theorem w_codes : ∀ c ∈ words1.filter isCode, c.before args0 about1 = true := by
  rw [codes_eq]
  intro c hc
  simp only [codes1, List.mem_cons, List.not_mem_nil, or_false] at hc
  rcases hc with rfl | rfl
  · exact w_c0
  · exact w_c1
set_option maxRecDepth 65536 in
theorem w_t1 : words1.all (fun c => isCode c || c.before args0 about1) = true := by decide +kernel
theorem w_tables : (allAtoms (Jvm.Cond.code x code maxLocals ret :: tables_1)).before args0 about1 = true := by
  rw [allAtoms_all]
  show words1.all (fun c => c.before args0 about1) = true
  refine all_split ?_ w_codes
  rw [w_t1]
set_option maxRecDepth 65536 in
theorem w_case : (Jvm.Cond.and given_1 narrow_1).before args0 about1 = true := by decide +kernel
theorem w_applies : (headSpec (Jvm.Cond.code x code maxLocals ret :: tables_1) room_1).applies x e0.platform about1 = true :=
  (Spec.applies_iff w_frames).mpr ⟨w_running, w_runnable, w_alone, w_named, w_hears, w_ripe, w_room, w_tables⟩
theorem atStart : AtStart classFile x code maxLocals ret World_1 tables_1 room_1 Calls_1 rest_1 Pre_1 launch0 p0 e0 about1 theMethod args0 below0 :=
  ⟨lists_1, trivial, launch0.admits_env _ _ _, launch0.least_env, fairChoices_fair.cas, fairChoices_fair.clock, w_frames, w_args, w_heap, w_applies, trivial, trivial, w_case⟩
end start1
theorem witness_1 : WitnessClaimed_1 := ⟨start1.p0, start1.e0, start1.about1, start1.theMethod, start1.args0, start1.below0, start1.atStart⟩
end Jvm.Pilot.@@N@@
