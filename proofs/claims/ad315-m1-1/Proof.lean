import JvmDerived
import JvmDerived.Pilot.@@N@@Statement
import JvmDerived.Pilot.@@N@@Code
set_option linter.unusedVariables false
set_option linter.unusedSimpArgs false
@@BLOCK:NumsL.lean.txt@@
namespace Jvm.Pilot.@@N@@
open Jvm Jvm.ClassFile Sem Op Lib Jvm.Free Jvm.Stand Jvm.LawKit Jvm.RoadKit Bundle Jvm.Pilot.@@N@@.Jvm.D
/-! the quotient of two whole numbers, rounded: where it lies against 0 and 1 -/
section OwnQuot
open Jvm.FP.Core
theorem own_quot {i j : Int} {a b : UInt64} (ha : DInt i a) (hb : DInt j b) (hj : j ≠ 0) :
    ∃ sg, val64 (FP.ddiv a b) = roundRatio b64 sg i.natAbs j.natAbs 0 ∧ (i ≠ 0 → sg = (decide (i < 0) != decide (j < 0))) := by
  have hq : val64 (FP.ddiv a b) = quotient b64 (val64 a) (val64 b) := val64_ddiv a b
  rw [hq]
  have ha' : Whole i (val64 a) := ha
  have hb' : Whole j (val64 b) := hb
  generalize val64 a = x at ha'
  generalize val64 b = y at hb'
  cases x with
  | nan => exact ha'.elim
  | inf => exact ha'.elim
  | fin s c q =>
  cases y with
  | nan => exact hb'.elim
  | inf => exact hb'.elim
  | fin t d r =>
    have hd : d ≠ 0 := fun h => hj ((whole_zero hb').mp h)
    have hJ : 0 < j.natAbs := by omega
    refine ⟨s != t, ?_, ?_⟩
    · simp only [quotient, if_neg hd]
      refine roundRatio_congr (by omega) hJ ?_
      have h1 := whole_natAbs ha'
      have h2 := whole_natAbs hb'
      generalize i.natAbs = I at h1 ⊢
      generalize j.natAbs = J at h2 ⊢
      have e : (q - r - 0).toNat + ((-q).toNat + r.toNat) = (0 - (q - r)).toNat + (q.toNat + (-r).toNat) := by omega
      generalize (q - r - 0).toNat = u at e ⊢
      generalize (0 - (q - r)).toNat = w at e ⊢
      refine Nat.eq_of_mul_eq_mul_right (Nat.two_pow_pos ((-q).toNat + r.toNat)) ?_
      calc c * J * 2 ^ u * 2 ^ ((-q).toNat + r.toNat) = c * J * 2 ^ (u + ((-q).toNat + r.toNat)) := by rw [Nat.pow_add 2 u, Nat.mul_assoc (c * J)]
        _ = c * J * 2 ^ (w + (q.toNat + (-r).toNat)) := by rw [e]
        _ = (c * 2 ^ q.toNat) * (J * 2 ^ (-r).toNat) * 2 ^ w := by simp only [Nat.pow_add]; ac_rfl
        _ = (I * 2 ^ (-q).toNat) * (d * 2 ^ r.toNat) * 2 ^ w := by rw [h1, h2]
        _ = I * d * 2 ^ w * 2 ^ ((-q).toNat + r.toNat) := by simp only [Nat.pow_add]; ac_rfl
    · intro hi
      rw [whole_sign ha' hi, whole_sign hb' hj]
theorem own_one_z : zmag b64 (val64 4607182418800017408) = 2 ^ 52 * 2 ^ 1022 := by decide +kernel
theorem own_next_z : zmag b64 (val64 4607182418800017409) = (2 ^ 52 + 1) * 2 ^ 1022 := by decide +kernel
theorem own_min_z : zmag b64 (val64 1) = 1 := by decide +kernel
theorem own_zero_zv : zval b64 (val64 0) = 0 := by decide +kernel
theorem own_one_s : sgn (val64 4607182418800017408) = false := by decide +kernel
theorem own_zero_n : val64 0 ≠ .nan := (ne_nan _).mpr (by decide)
theorem own_one_n : val64 4607182418800017408 ≠ .nan := (ne_nan _).mpr (by decide)
theorem own_units (I : Nat) : inUnits I 0 b64.qmin = I * (2 ^ 52 * 2 ^ 1022) := by
  show I * 2 ^ (0 - b64.qmin).toNat = _
  rw [qmin_b64, show ((0 : Int) - -1074).toNat = 52 + 1022 by decide, Nat.pow_add]
theorem own_q0 : b64.qmin ≤ 0 := by rw [qmin_b64]; decide
theorem own_e (Vz B : Nat) : Vz * 2 ^ (b64.qmin - b64.qmin).toNat * B = Vz * B := by
  rw [Int.sub_self, Int.toNat_zero, Nat.pow_zero, Nat.mul_one]
theorem own_q_le {sg : Bool} {I J : Nat} (hJ : 0 < J) (h : I ≤ J) : zmag b64 (roundRatio b64 sg I J 0) ≤ 2 ^ 52 * 2 ^ 1022 := by
  rw [← own_one_z]
  refine zmag_roundRatio_le good_b64 hJ (val64_fits _) own_one_n (e0 := b64.qmin) (Int.le_refl _) own_q0 ?_
  rw [own_units, own_e, own_one_z, Nat.mul_comm]
  exact Nat.mul_le_mul_left _ h
theorem own_q_gt {sg : Bool} {I J : Nat} (hJ : 0 < J) (h52 : J ≤ 2 ^ 52) (h : J < I) : 2 ^ 52 * 2 ^ 1022 < zmag b64 (roundRatio b64 sg I J 0) := by
  have h1 : (2 ^ 52 + 1) * 2 ^ 1022 ≤ zmag b64 (roundRatio b64 sg I J 0) := by
    rw [← own_next_z]
    refine zmag_roundRatio_ge good_b64 hJ (val64_fits _) (e0 := b64.qmin) (Int.le_refl _) own_q0 ?_
    rw [own_units, own_e, own_next_z]
    have h2 : (2 ^ 52 + 1) * J ≤ I * 2 ^ 52 := by omega
    calc (2 ^ 52 + 1) * 2 ^ 1022 * J = (2 ^ 52 + 1) * J * 2 ^ 1022 := Nat.mul_right_comm _ _ _
      _ ≤ I * 2 ^ 52 * 2 ^ 1022 := Nat.mul_le_mul_right _ h2
      _ = I * (2 ^ 52 * 2 ^ 1022) := Nat.mul_assoc _ _ _
  refine Nat.lt_of_lt_of_le ?_ h1
  exact Nat.mul_lt_mul_of_pos_right (by omega) (Nat.two_pow_pos _)
theorem own_q_pos {sg : Bool} {I J : Nat} (hJ : 0 < J) (hI : 0 < I) (h63 : J ≤ 2 ^ 64) : 0 < zmag b64 (roundRatio b64 sg I J 0) := by
  have h1 : 1 ≤ zmag b64 (roundRatio b64 sg I J 0) := by
    rw [← own_min_z]
    refine zmag_roundRatio_ge good_b64 hJ (val64_fits _) (e0 := b64.qmin) (Int.le_refl _) own_q0 ?_
    rw [own_units, own_e, own_min_z, Nat.one_mul, ← Nat.pow_add]
    calc J ≤ 2 ^ 64 := h63
      _ ≤ 2 ^ (52 + 1022) := Nat.pow_le_pow_right (by decide) (by decide)
      _ ≤ I * 2 ^ (52 + 1022) := Nat.le_mul_of_pos_left _ hI
  omega
theorem own_q_zero {sg : Bool} {J : Nat} : zmag b64 (roundRatio b64 sg 0 J 0) = 0 := by
  unfold roundRatio
  rw [if_pos rfl]
  exact Nat.zero_mul _
/-- what the comparisons with 0 and 1 say of a quotient of whole numbers -/
theorem own_div {i j : Int} {a b : UInt64} (ha : DInt i a) (hb : DInt j b) (hj : j ≠ 0) (h52 : j.natAbs ≤ 2 ^ 52) :
    (i = 0 → FP.dcmp (FP.ddiv a b) 0 = some .eq ∧ FP.dcmp (FP.ddiv a b) 4607182418800017408 = some .lt) ∧
    (i ≠ 0 → (i < 0 ↔ ¬ j < 0) → FP.dcmp (FP.ddiv a b) 0 = some .lt) ∧
    (i ≠ 0 → (i < 0 ↔ j < 0) → FP.dcmp (FP.ddiv a b) 0 = some .gt) ∧
    (i ≠ 0 → (i < 0 ↔ j < 0) → i.natAbs ≤ j.natAbs → FP.dcmp (FP.ddiv a b) 4607182418800017408 = some .lt ∨ FP.dcmp (FP.ddiv a b) 4607182418800017408 = some .eq) ∧
    (i ≠ 0 → (i < 0 ↔ j < 0) → j.natAbs < i.natAbs → FP.dcmp (FP.ddiv a b) 4607182418800017408 = some .gt) := by
  obtain ⟨sg, hv, hs⟩ := own_quot ha hb hj
  have hJ : 0 < j.natAbs := by omega
  have nn : val64 (FP.ddiv a b) ≠ .nan := by rw [hv]; exact roundRatio_ne_nan _ _ _ _ _
  have zv : zval b64 (val64 (FP.ddiv a b)) = signed sg (zmag b64 (roundRatio b64 sg i.natAbs j.natAbs 0)) := by
    unfold zval; rw [hv, sgn_roundRatio]
  have z1 : zval b64 (val64 4607182418800017408) = ((2 ^ 52 * 2 ^ 1022 : Nat) : Int) := by
    unfold zval; rw [own_one_s, own_one_z]; rfl
  have p1 : 0 < 2 ^ 52 * 2 ^ 1022 := Nat.mul_pos (Nat.two_pow_pos _) (Nat.two_pow_pos _)
  have sp : sg = true → ∀ n : Nat, signed sg n = -(n : Int) := fun h n => by rw [h]; rfl
  have sn : sg = false → ∀ n : Nat, signed sg n = (n : Int) := fun h n => by rw [h]; rfl
  have hle := @own_q_le sg i.natAbs j.natAbs hJ
  have hgt := @own_q_gt sg i.natAbs j.natAbs hJ h52
  have hpos := @own_q_pos sg i.natAbs j.natAbs hJ
  have hzero := @own_q_zero sg j.natAbs
  generalize 2 ^ 52 * 2 ^ 1022 = P at *
  refine ⟨fun h0 => ?_, fun h0 hd => ?_, fun h0 hd => ?_, fun h0 hd hl => ?_, fun h0 hd hl => ?_⟩
  · have e0 : i.natAbs = 0 := by omega
    rw [e0, hzero, signed_zero] at zv
    exact ⟨dcmp_eq.mpr ⟨nn, own_zero_n, by rw [zv, own_zero_zv]⟩, dcmp_lt.mpr ⟨nn, own_one_n, by rw [zv, z1]; omega⟩⟩
  · have e : sg = true := by
      rw [hs h0]
      by_cases q : i < 0
      · simp [q, hd.mp q]
      · have : j < 0 := by
          apply Classical.byContradiction; intro r; exact q (hd.mpr r)
        simp [q, this]
    rw [sp e] at zv
    have := hpos (by omega) (by omega)
    exact dcmp_lt.mpr ⟨nn, own_zero_n, by rw [zv, own_zero_zv]; omega⟩
  · have e : sg = false := by rw [hs h0]; by_cases q : i < 0 <;> simp [q, hd.symm]
    rw [sn e] at zv
    have := hpos (by omega) (by omega)
    exact dcmp_gt.mpr ⟨nn, own_zero_n, by rw [zv, own_zero_zv]; omega⟩
  · have e : sg = false := by rw [hs h0]; by_cases q : i < 0 <;> simp [q, hd.symm]
    rw [sn e] at zv
    have := hle hl
    exact dcmp_le.mpr ⟨nn, own_one_n, by rw [zv, z1]; omega⟩
  · have e : sg = false := by rw [hs h0]; by_cases q : i < 0 <;> simp [q, hd.symm]
    rw [sn e] at zv
    have := hgt hl
    exact dcmp_gt.mpr ⟨nn, own_one_n, by rw [zv, z1]; omega⟩
end OwnQuot
/-! the value of a quotient in units; exact products; signs (for perMinute) -/
section OwnPm
open Jvm.FP.Core
def own_zq (i j : Int) : Int := signed (decide (i < 0) != decide (j < 0)) (zmag b64 (roundRatio b64 (decide (i < 0) != decide (j < 0)) i.natAbs j.natAbs 0))
theorem own_zval_div {i j : Int} {a b : UInt64} (ha : DInt i a) (hb : DInt j b) (hj : j ≠ 0) : val64 (FP.ddiv a b) ≠ .nan ∧ zval b64 (val64 (FP.ddiv a b)) = own_zq i j := by
  obtain ⟨sg, hv, hs⟩ := own_quot ha hb hj
  refine ⟨by rw [hv]; exact roundRatio_ne_nan _ _ _ _ _, ?_⟩
  unfold own_zq zval
  rw [hv, sgn_roundRatio]
  by_cases hi : i = 0
  · subst hi
    rw [show (0 : Int).natAbs = 0 from rfl, own_q_zero, own_q_zero, signed_zero, signed_zero]
  · rw [hs hi]
theorem own_zq_congr {i j i' j' : Int} (hj : 0 < j) (hj' : 0 < j') (h : i * j' = i' * j) : own_zq i j = own_zq i' j' := by
  have hA : i.natAbs * j'.natAbs = i'.natAbs * j.natAbs := by rw [← Int.natAbs_mul, ← Int.natAbs_mul, h]
  have hs : (i < 0 ↔ i' < 0) := by
    constructor
    · intro q
      have h1 : i * j' < 0 := Int.mul_neg_of_neg_of_pos q hj'
      rw [h] at h1
      exact Int.lt_of_not_ge fun r => by have := Int.mul_nonneg r (Int.le_of_lt hj); omega
    · intro q
      have h1 : i' * j < 0 := Int.mul_neg_of_neg_of_pos q hj
      rw [← h] at h1
      exact Int.lt_of_not_ge fun r => by have := Int.mul_nonneg r (Int.le_of_lt hj'); omega
  unfold own_zq
  rw [show decide (i < 0) = decide (i' < 0) by simp [hs], show decide (j < 0) = decide (j' < 0) by simp [show ¬ j < 0 by omega, show ¬ j' < 0 by omega],
    roundRatio_congr (A := i.natAbs) (B := j.natAbs) (A' := i'.natAbs) (B' := j'.natAbs) (e := 0) (e' := 0) (by omega) (by omega) (by simpa using hA)]
theorem own_zval_l2d (a : Int64) : val64 (FP.l2d a) ≠ .nan ∧ zval b64 (val64 (FP.l2d a)) = own_zq a.toInt 1 := by
  have h1 : val64 (FP.l2d a) = roundRatio b64 (decide (a.toInt < 0)) a.toInt.natAbs 1 0 := val64_l2d a
  refine ⟨by rw [h1]; exact roundRatio_ne_nan _ _ _ _ _, ?_⟩
  unfold own_zq zval
  rw [h1, sgn_roundRatio, show decide ((1 : Int) < 0) = false by decide, Bool.bne_false]
  rfl
/-- M * 2^k is a double exactly, for M of 53 bits -/
theorem own_whole_big {s : Bool} {N M k : Nat} (hN : N = M * 2 ^ k) (hM : M < 2 ^ 53) (hk : k ≤ 900) :
    ∃ c q, roundRatio b64 s N 1 0 = .fin s c q ∧ c * 2 ^ q.toNat = N * 2 ^ (-q).toNat := by
  have e : roundRatio b64 s N 1 0 = round b64 (.fin s M k) := by
    refine roundRatio_congr (by decide) (by decide) ?_
    rw [show ((0 : Int) - (k : Int)).toNat = 0 by omega, show ((k : Int) - 0).toNat = k by omega, hN]
    simp
  obtain ⟨c, q, h1, h2⟩ := round_exact good_b64 s (c := M) (q := (k : Int)) (show M < 2 ^ b64.p from hM) (by rw [qmin_b64]; omega) (show (k : Int) ≤ b64.qmax by
    have : b64.qmax = 971 := by decide
    rw [this]; omega)
  refine ⟨c, q, by rw [e, h1], ?_⟩
  have hq : b64.qmin ≤ q := by
    have := round_fits good_b64 (.fin s M k)
    rw [h1] at this
    exact this.2.1
  rw [qmin_b64] at hq h2
  unfold inUnits at h2
  have h3 : (q - -1074).toNat + (-q).toNat = q.toNat + 1074 := by omega
  have h4 : ((k : Int) - -1074).toNat = k + 1074 := by omega
  rw [h4] at h2
  refine Nat.eq_of_mul_eq_mul_right (Nat.two_pow_pos 1074) ?_
  calc c * 2 ^ q.toNat * 2 ^ 1074 = c * 2 ^ (q.toNat + 1074) := by rw [Nat.pow_add, Nat.mul_assoc]
    _ = c * 2 ^ ((q - -1074).toNat + (-q).toNat) := by rw [h3]
    _ = c * 2 ^ (q - -1074).toNat * 2 ^ (-q).toNat := by rw [Nat.pow_add, Nat.mul_assoc]
    _ = M * 2 ^ (k + 1074) * 2 ^ (-q).toNat := by rw [h2]
    _ = N * 2 ^ (-q).toNat * 2 ^ 1074 := by rw [hN, Nat.pow_add]; generalize 2 ^ 1074 = P; ac_rfl
theorem own_dmul_int {i j : Int} {a b : UInt64} (ha : DInt i a) (hb : DInt j b) {M k : Nat} (hN : (i * j).natAbs = M * 2 ^ k) (hM : M < 2 ^ 53) (hk : k ≤ 900) : DInt (i * j) (FP.dmul a b) := by
  have hv : val64 (FP.dmul a b) = round b64 (exactProduct (val64 a) (val64 b)) := val64_dmul a b
  have hw : Whole (i * j) (exactProduct (val64 a) (val64 b)) := whole_product ha hb
  show Whole (i * j) (val64 (FP.dmul a b))
  rw [hv]
  generalize exactProduct (val64 a) (val64 b) = d at hw
  cases d with
  | nan => exact hw.elim
  | inf => exact hw.elim
  | fin s c q =>
    rw [round_whole hw]
    obtain ⟨c', q', h1, h2⟩ := own_whole_big (s := s) hN hM hk
    rw [h1]
    show signed s (c' * 2 ^ q'.toNat) = i * j * _
    rw [h2, signed_mul]
    congr 1
    by_cases hi : i * j = 0
    · rw [hi]; exact signed_zero s
    · rw [whole_sign hw hi]
      unfold signed
      by_cases h : i * j < 0
      · simp only [h, decide_true, if_true]; omega
      · simp only [h, decide_false]; simp only [Bool.false_eq_true, if_false]; omega
/-- a double of value 1 at the least, in units -/
theorem own_l2d_ge {a : Int64} (h : a.toInt ≠ 0) : 2 ^ 52 * 2 ^ 1022 ≤ zmag b64 (val64 (FP.l2d a)) := by
  have h1 : val64 (FP.l2d a) = roundRatio b64 (decide (a.toInt < 0)) a.toInt.natAbs 1 0 := val64_l2d a
  rw [h1, ← own_one_z]
  refine zmag_roundRatio_ge good_b64 (by decide) (val64_fits _) (e0 := b64.qmin) (Int.le_refl _) own_q0 ?_
  rw [own_units, own_e, own_one_z, Nat.mul_one]
  exact Nat.le_mul_of_pos_left _ (by omega)
theorem own_l2d_le (a : Int64) : zmag b64 (val64 (FP.l2d a)) ≤ 2 ^ 1139 := by
  have h1 := l2d_mag a
  have h2 : val64 (l2d a) ≠ .nan := (own_zval_l2d a).1
  show zmag b64 (val64 (l2d a)) ≤ 2 ^ 1139
  rw [zmag_bits h2]
  have h3 := (units_lt_start (f := b64) (m := (l2d a).toNat % 2 ^ 63) (K := 1088) (by rw [tails_b64]; exact h1)).2
  rw [tails_b64, ← Nat.pow_add] at h3
  exact Nat.le_of_lt h3
/-- r * C / n, of which no factor lies below 1: not 0, and of r's sign -/
theorem own_sign {r n : Int64} {C : UInt64} (hC : 2 ^ 52 * 2 ^ 1022 ≤ zmag b64 (val64 C)) (sC : ∃ c q, val64 C = .fin false c q) (hC2 : C.toNat % 2 ^ 63 < 1059 * 2 ^ 52) (hr : r.toInt ≠ 0) (hn : 0 < n.toInt) :
    ∃ z : Nat, 0 < z ∧ val64 (FP.ddiv (FP.dmul (FP.l2d r) C) (FP.l2d n)) ≠ .nan ∧ zval b64 (val64 (FP.ddiv (FP.dmul (FP.l2d r) C) (FP.l2d n))) = signed (decide (r.toInt < 0)) z := by
  obtain ⟨c1, q1, e1⟩ := l2d_shape r
  obtain ⟨c2, q2, e2⟩ := sC
  obtain ⟨c3, q3, e3⟩ := l2d_shape n
  have f1 : FP.Core.fits b64 (.fin (decide (r.toInt < 0)) c1 q1) := e1 ▸ val64_fits _
  have f2 : FP.Core.fits b64 (.fin false c2 q2) := e2 ▸ val64_fits _
  have f3 : FP.Core.fits b64 (.fin (decide (n.toInt < 0)) c3 q3) := e3 ▸ val64_fits _
  have g1 := own_l2d_ge hr
  have g3 := own_l2d_ge (a := n) (by omega)
  have u3 := own_l2d_le n
  have e1' : val64 (FP.l2d r) = _ := e1
  have e3' : val64 (FP.l2d n) = _ := e3
  rw [e1'] at g1
  rw [e2] at hC
  rw [e3'] at g3 u3
  obtain ⟨p1, p2, p3⟩ := product_units f1 f2
  have hv : val64 (FP.dmul (FP.l2d r) C) = roundRatio b64 (decide (r.toInt < 0) != false) (c1 * c2) 1 (q1 + q2) := by
    have : val64 (FP.dmul (FP.l2d r) C) = round b64 (exactProduct (val64 (FP.l2d r)) (val64 C)) := val64_dmul _ _
    rw [this, e1', e2, p1]; rfl
  have gm : 2 ^ 52 * 2 ^ 1022 ≤ zmag b64 (val64 (FP.dmul (FP.l2d r) C)) := by
    rw [hv, ← own_one_z]
    refine zmag_roundRatio_ge good_b64 (by decide) (val64_fits _) (e0 := 2 * b64.qmin) (by rw [qmin_b64]; decide) p2 ?_
    rw [p3, own_one_z, Nat.mul_one]
    have : 2 ^ (b64.qmin - 2 * b64.qmin).toNat = 2 ^ 52 * 2 ^ 1022 := by rw [qmin_b64, show ((-1074 : Int) - 2 * -1074).toNat = 52 + 1022 by decide, Nat.pow_add]
    rw [this]
    exact Nat.mul_le_mul g1 hC
  have fm : DFin (FP.dmul (FP.l2d r) C) := by
    have h := dmul_mag (l2d_mag r) hC2 (by decide) (by decide)
    exact fin_of_lt (K := 1126) (by first | exact Nat.lt_of_lt_of_le h (by decide) | exact Nat.lt_of_le_of_lt h (by decide)) (by decide)
  obtain ⟨s4, c4, q4, e4⟩ := fm
  have e4' : val64 (FP.dmul (FP.l2d r) C) = .fin s4 c4 q4 := e4
  have s4e : s4 = decide (r.toInt < 0) := by
    have h2 := congrArg FP.Core.sgn hv
    rw [sgn_roundRatio, e4'] at h2
    have h3 : s4 = (decide (r.toInt < 0) != false) := h2
    rw [h3, Bool.bne_false]
  have f4 : FP.Core.fits b64 (.fin s4 c4 q4) := e4' ▸ val64_fits _
  rw [e4'] at gm
  have hd0 : c3 ≠ 0 := by
    rintro rfl
    have h0 : zmag b64 (.fin (decide (n.toInt < 0)) 0 q3) = 0 := Nat.zero_mul _
    rw [h0] at g3
    have := Nat.mul_pos (Nat.two_pow_pos 52) (Nat.two_pow_pos 1022)
    omega
  have hq : val64 (FP.ddiv (FP.dmul (FP.l2d r) C) (FP.l2d n)) = roundRatio b64 (s4 != decide (n.toInt < 0)) c4 c3 (q4 - q3) := by
    have : val64 (FP.ddiv (FP.dmul (FP.l2d r) C) (FP.l2d n)) = quotient b64 (val64 (FP.dmul (FP.l2d r) C)) (val64 (FP.l2d n)) := val64_ddiv _ _
    rw [this, e4', e3']
    simp only [quotient, if_neg hd0]
  have hx1 := f4.2.1
  have hy1 := f3.2.1
  have pos : 1 ≤ zmag b64 (roundRatio b64 (s4 != decide (n.toInt < 0)) c4 c3 (q4 - q3)) := by
    rw [← own_min_z]
    rw [qmin_b64] at hx1 hy1
    refine zmag_roundRatio_ge good_b64 (by omega) (val64_fits _) (e0 := 2 * b64.qmin - q3) (by rw [qmin_b64]; omega) (by rw [qmin_b64]; omega) ?_
    rw [own_min_z, Nat.one_mul]
    have k1 : inUnits c4 (q4 - q3) (2 * b64.qmin - q3) = zmag b64 (.fin s4 c4 q4) * 2 ^ (-b64.qmin).toNat := by
      show c4 * _ = c4 * _ * _
      rw [Nat.mul_assoc, ← Nat.pow_add]; congr 2; rw [qmin_b64]; omega
    have k2 : 2 ^ (b64.qmin - (2 * b64.qmin - q3)).toNat * c3 = zmag b64 (.fin (decide (n.toInt < 0)) c3 q3) := by
      show _ = c3 * _
      rw [Nat.mul_comm]; congr 2; rw [qmin_b64]; omega
    rw [k1, k2]
    refine Nat.le_trans u3 ?_
    rw [show (-b64.qmin).toNat = 1074 by rw [qmin_b64]; decide]
    rw [← Nat.pow_add] at gm
    calc 2 ^ 1139 ≤ 2 ^ (52 + 1022 + 1074) := Nat.pow_le_pow_right (by decide) (by decide)
      _ = 2 ^ (52 + 1022) * 2 ^ 1074 := Nat.pow_add _ _ _
      _ ≤ _ := Nat.mul_le_mul_right _ gm
  refine ⟨_, pos, by rw [hq]; exact roundRatio_ne_nan _ _ _ _ _, ?_⟩
  unfold zval
  rw [hq, sgn_roundRatio, s4e, show decide (n.toInt < 0) = false by simp; omega, Bool.bne_false]
end OwnPm
section OwnLaw
open Jvm.FP.Core
def own_pm (r n : Int64) : UInt64 := if (0 : Int64) < n then FP.ddiv (FP.dmul (FP.l2d r) (4768169126130614272 : UInt64)) (FP.l2d n) else FP.dconst0
theorem own_c60_v : val64 (4768169126130614272 : UInt64) = .fin false 7864320000000000 (-17) := by decide +kernel
theorem own_c60_z : 2 ^ 52 * 2 ^ 1022 ≤ zmag b64 (val64 (4768169126130614272 : UInt64)) := by decide +kernel
theorem own_c60_i : DInt 60000000000 (4768169126130614272 : UInt64) := by
  show Whole 60000000000 (val64 (4768169126130614272 : UInt64))
  rw [own_c60_v]; show signed false (7864320000000000 * 2 ^ (-17 : Int).toNat) = 60000000000 * ((2 ^ (-(-17 : Int)).toNat : Nat) : Int); decide +kernel
theorem own_two_v : val64 (4611686018427387904 : UInt64) = .fin false (2 ^ 52) (-51) := by decide +kernel
theorem own_two_i : DInt 2 (4611686018427387904 : UInt64) := by
  show Whole 2 (val64 (4611686018427387904 : UInt64))
  rw [own_two_v]; show signed false (2 ^ 52 * 2 ^ (-51 : Int).toNat) = 2 * ((2 ^ (-(-51 : Int)).toNat : Nat) : Int); decide +kernel
theorem own_c60_f : Jvm.Free.Fl.Fin64 (4768169126130614272 : UInt64) := by unfold Jvm.Free.Fl.Fin64; decide
theorem own_nn1 (r : Int64) : Jvm.Free.Fl.NoNaN64 (FP.dmul (FP.l2d r) (4768169126130614272 : UInt64)) := Jvm.Free.Fl.dmul_out (Jvm.Free.Fl.l2d_fin r) own_c60_f
theorem own_nn2 (r : Int64) {n : Int64} (h : (0 : Int64) < n) : Jvm.Free.Fl.NoNaN64 (FP.ddiv (FP.dmul (FP.l2d r) (4768169126130614272 : UInt64)) (FP.l2d n)) :=
  Jvm.Free.Fl.ddiv_out (own_nn1 r) (Jvm.Free.Fl.l2d_fin n) (Jvm.Free.Fl.l2d_nz (fun q => by rw [q] at h; exact absurd h (by decide)))
theorem own_pm_pos {r n : Int64} (h : (0 : Int64) < n) : own_pm r n = FP.ddiv (FP.dmul (FP.l2d r) (4768169126130614272 : UInt64)) (FP.l2d n) := if_pos h
theorem own_pm_npos {r n : Int64} (h : ¬ (0 : Int64) < n) : own_pm r n = FP.dconst0 := if_neg h
theorem own_pm_nan (r n : Int64) : val64 (own_pm r n) ≠ .nan := by
  by_cases h : (0 : Int64) < n
  · rw [own_pm_pos h]; exact Jvm.Free.Fl.val64_no.mp (own_nn2 r h)
  · rw [own_pm_npos h]; exact own_zero_n
theorem own_pm_np {r n : Int64} (h : ¬ (0 : Int64) < n) : zval b64 (val64 (own_pm r n)) = 0 := by rw [own_pm_npos h]; exact own_zero_zv
theorem own_i64z {a : Int64} (h : a.toInt = 0) : a = 0 := Int64.toInt_inj.mp (by rw [h]; rfl)
theorem own_pm_zero {n : Int64} : zval b64 (val64 (own_pm 0 n)) = 0 := by
  by_cases h : (0 : Int64) < n
  · rw [own_pm_pos h]
    have h' := Int64.lt_iff_toInt_lt.mp h
    have hz : (0 : Int64).toInt = 0 := rfl
    obtain ⟨c3, q3, e3⟩ := l2d_shape n
    have e3' : val64 (FP.l2d n) = _ := e3
    have hm : DInt 0 (FP.dmul (FP.l2d 0) (4768169126130614272 : UInt64)) := by
      have := own_dmul_int (i := 0) (j := 60000000000) (a := FP.l2d 0) (l2d_int (a := 0) (by decide)) own_c60_i (M := 0) (k := 0) (by decide) (by decide) (by decide)
      simpa using this
    have hm' : Whole 0 (val64 (FP.dmul (FP.l2d 0) (4768169126130614272 : UInt64))) := hm
    have hv : val64 (FP.ddiv (FP.dmul (FP.l2d 0) (4768169126130614272 : UInt64)) (FP.l2d n)) = quotient b64 (val64 (FP.dmul (FP.l2d 0) (4768169126130614272 : UInt64))) (val64 (FP.l2d n)) := val64_ddiv _ _
    have g3 := own_l2d_ge (a := n) (by rw [hz] at h'; omega)
    rw [e3'] at g3
    have hd0 : c3 ≠ 0 := by
      rintro rfl
      have h0 : zmag b64 (.fin (decide (n.toInt < 0)) 0 q3) = 0 := Nat.zero_mul _
      rw [h0] at g3
      have := Nat.mul_pos (Nat.two_pow_pos 52) (Nat.two_pow_pos 1022)
      omega
    rw [hv, e3']
    generalize val64 (FP.dmul (FP.l2d 0) (4768169126130614272 : UInt64)) = d at hm'
    cases d with
    | nan => exact hm'.elim
    | inf => exact hm'.elim
    | fin s c q =>
      have : c = 0 := (whole_zero hm').mpr rfl
      subst this
      simp only [quotient, if_neg hd0]
      unfold roundRatio
      rw [if_pos rfl]
      show signed _ (0 * _) = 0
      rw [Nat.zero_mul, signed_zero]
  · exact own_pm_np h
theorem own_pm_sign {r n : Int64} (h : (0 : Int64) < n) : ((0 : Int64) < r → 0 < zval b64 (val64 (own_pm r n))) ∧ (r < (0 : Int64) → zval b64 (val64 (own_pm r n)) < 0) ∧ (r = (0 : Int64) → zval b64 (val64 (own_pm r n)) = 0) := by
  have hz : (0 : Int64).toInt = 0 := rfl
  have h' := Int64.lt_iff_toInt_lt.mp h
  rw [hz] at h'
  refine ⟨fun hr => ?_, fun hr => ?_, fun hr => ?_⟩
  · have hr' := Int64.lt_iff_toInt_lt.mp hr
    rw [hz] at hr'
    obtain ⟨z, z0, -, e⟩ := own_sign (r := r) (n := n) own_c60_z ⟨_, _, own_c60_v⟩ (by decide) (by omega) h'
    rw [own_pm_pos h, e, show decide (r.toInt < 0) = false by simp; omega]
    show (0 : Int) < (z : Int)
    omega
  · have hr' := Int64.lt_iff_toInt_lt.mp hr
    rw [hz] at hr'
    obtain ⟨z, z0, -, e⟩ := own_sign (r := r) (n := n) own_c60_z ⟨_, _, own_c60_v⟩ (by decide) (by omega) h'
    rw [own_pm_pos h, e, show decide (r.toInt < 0) = true by simp; omega]
    show -(z : Int) < (0 : Int)
    omega
  · rw [hr]; exact own_pm_zero
theorem own_pm_neg {r n : Int64} (h0 : r ≠ -9223372036854775808) : zval b64 (val64 (own_pm (-r) n)) = zval b64 (val64 (FP.dneg (own_pm r n))) := by
  have hv : val64 (FP.dneg (own_pm r n)) = negate (val64 (own_pm r n)) := FP.val64_dneg _
  rw [hv, zval_negate]
  by_cases hr : r = 0
  · subst hr
    rw [show (-0 : Int64) = 0 from rfl, own_pm_zero]; rfl
  · by_cases h : (0 : Int64) < n
    · have hmin : -2 ^ 63 < r.toInt := by
        have h1 := r.le_toInt
        have h2 : r.toInt ≠ -2 ^ 63 := fun q => h0 (Int64.toInt_inj.mp (by rw [q]; decide))
        omega
      rw [own_pm_pos h, own_pm_pos h]
      have e1 : FP.l2d (-r) = dneg (l2d r) := l2d_neg hr hmin
      have e2 : FP.dmul (dneg (l2d r)) (4768169126130614272 : UInt64) = dneg (FP.dmul (FP.l2d r) (4768169126130614272 : UInt64)) := dmul_dneg _ _
      have e3 : FP.ddiv (dneg (FP.dmul (FP.l2d r) (4768169126130614272 : UInt64))) (FP.l2d n) = dneg (FP.ddiv (FP.dmul (FP.l2d r) (4768169126130614272 : UInt64)) (FP.l2d n)) := ddiv_dneg _ _
      rw [e1, e2, e3, val64_dneg, zval_negate]
    · rw [own_pm_np h, own_pm_np h]; rfl
theorem own_pm_three {r d : Int64} (hr : r.toInt.natAbs ≤ 8191) (hd : 1 ≤ d.toInt) (hd2 : d.toInt ≤ 16384) : zval b64 (val64 (own_pm (r * d) d)) = zval b64 (val64 (FP.l2d (r * 60000000000))) := by
  have hz : (0 : Int64).toInt = 0 := rfl
  have hpos : (0 : Int64) < d := Int64.lt_iff_toInt_lt.mpr (by rw [hz]; omega)
  have hm : (r.toInt * d.toInt).natAbs ≤ 8191 * 16384 := by rw [Int.natAbs_mul]; exact Nat.mul_le_mul hr (by omega)
  have erd : (r * d).toInt = r.toInt * d.toInt := Jvm.Kit.i64_mul (by omega) (by omega)
  have e6 : (60000000000 : Int64).toInt = 60000000000 := by decide
  have er6 : (r * 60000000000).toInt = r.toInt * 60000000000 := by rw [Jvm.Kit.i64_mul (by rw [e6]; omega) (by rw [e6]; omega), e6]
  rw [own_pm_pos hpos, (own_zval_l2d _).2, er6]
  have w1 : DInt (r * d).toInt (FP.l2d (r * d)) := l2d_int (by rw [erd]; omega)
  have w2 : DInt ((r * d).toInt * 60000000000) (FP.dmul (FP.l2d (r * d)) (4768169126130614272 : UInt64)) := by
    refine own_dmul_int w1 own_c60_i (M := (r.toInt * d.toInt).natAbs * 29296875) (k := 11) ?_ ?_ (by decide)
    · rw [erd, Int.natAbs_mul, show (60000000000 : Int).natAbs = 29296875 * 2 ^ 11 by decide, Nat.mul_assoc]
    · omega
  rw [(own_zval_div w2 (l2d_int (a := d) (by omega)) (by omega)).2]
  refine own_zq_congr (by omega) (by decide) ?_
  rw [erd, Int.mul_one]; exact Int.mul_right_comm _ _ _
theorem own_pm_four {q : Int64} (hq : q.toInt.natAbs ≤ 134217727) : zval b64 (val64 (own_pm q 120000000000)) = zval b64 (val64 (FP.ddiv (FP.l2d q) (4611686018427387904 : UInt64))) := by
  have e12 : (120000000000 : Int64).toInt = 120000000000 := by decide
  rw [own_pm_pos (by decide)]
  have w1 : DInt q.toInt (FP.l2d q) := l2d_int (by omega)
  have w2 : DInt (q.toInt * 60000000000) (FP.dmul (FP.l2d q) (4768169126130614272 : UInt64)) := by
    refine own_dmul_int w1 own_c60_i (M := q.toInt.natAbs * 29296875) (k := 11) ?_ ?_ (by decide)
    · rw [Int.natAbs_mul, show (60000000000 : Int).natAbs = 29296875 * 2 ^ 11 by decide, Nat.mul_assoc]
    · omega
  have w3 : DInt 120000000000 (FP.l2d 120000000000) := by
    have := l2d_int (a := 120000000000) (by rw [e12]; decide)
    rw [e12] at this; exact this
  rw [(own_zval_div w2 w3 (by decide)).2, (own_zval_div w1 own_two_i (by decide)).2]
  refine own_zq_congr (by decide) (by decide) ?_
  omega
theorem own_eq0 {x y : UInt64} (hx : val64 x ≠ .nan) (hy : val64 y ≠ .nan) (h : zval b64 (val64 x) = zval b64 (val64 y)) : cmpValue (FP.dcmp x y) .l = (0 : Int32) := by
  have : FP.dcmp x y = some .eq := dcmp_eq.mpr ⟨hx, hy, h⟩
  rw [this]; rfl
theorem own_cmp0 {x : UInt64} (hx : val64 x ≠ .nan) (o : CmpOp) : (zval b64 (val64 x) = 0 → cmpValue (FP.dcmp x FP.dconst0) o = (0 : Int32)) ∧ (0 < zval b64 (val64 x) → cmpValue (FP.dcmp x FP.dconst0) o = (1 : Int32)) ∧ (zval b64 (val64 x) < 0 → cmpValue (FP.dcmp x FP.dconst0) o = (-1 : Int32)) := by
  refine ⟨fun h => ?_, fun h => ?_, fun h => ?_⟩
  · have : FP.dcmp x FP.dconst0 = some .eq := dcmp_eq.mpr ⟨hx, own_zero_n, by rw [h]; exact own_zero_zv.symm⟩
    rw [this]; cases o <;> rfl
  · have : FP.dcmp x FP.dconst0 = some .gt := dcmp_gt.mpr ⟨hx, own_zero_n, by show zval b64 (val64 0) < _; rw [own_zero_zv]; exact h⟩
    rw [this]; cases o <;> rfl
  · have : FP.dcmp x FP.dconst0 = some .lt := dcmp_lt.mpr ⟨hx, own_zero_n, by show _ < zval b64 (val64 0); rw [own_zero_zv]; exact h⟩
    rw [this]; cases o <;> rfl
end OwnLaw
theorem d1_0 : decode prog_14_method_26_code 0 = .ok (.lload_n 2, 1) := by decide +kernel
theorem d1_1 : decode prog_14_method_26_code 1 = .ok (.lconst 0, 1) := by decide +kernel
theorem d1_2 : decode prog_14_method_26_code 2 = .ok (.lcmp, 1) := by decide +kernel
theorem d1_3 : decode prog_14_method_26_code 3 = .ok (.ifCond .gt 7, 3) := by decide +kernel
theorem d1_6 : decode prog_14_method_26_code 6 = .ok (.dconst 0, 1) := by decide +kernel
theorem d1_7 : decode prog_14_method_26_code 7 = .ok (.goto 12, 3) := by decide +kernel
theorem d1_10 : decode prog_14_method_26_code 10 = .ok (.lload_n 0, 1) := by decide +kernel
theorem d1_11 : decode prog_14_method_26_code 11 = .ok (.l2d, 1) := by decide +kernel
theorem d1_12 : decode prog_14_method_26_code 12 = .ok (.ldc2_w 634, 3) := by decide +kernel
theorem d1_15 : decode prog_14_method_26_code 15 = .ok (.dmul, 1) := by decide +kernel
theorem d1_16 : decode prog_14_method_26_code 16 = .ok (.lload_n 2, 1) := by decide +kernel
theorem d1_17 : decode prog_14_method_26_code 17 = .ok (.l2d, 1) := by decide +kernel
theorem d1_18 : decode prog_14_method_26_code 18 = .ok (.ddiv, 1) := by decide +kernel
theorem d1_19 : decode prog_14_method_26_code 19 = .ok (.dreturn, 1) := by decide +kernel
theorem pn_1 : plainName "com/example/daloy/daloy/engine/PipelineRun" = true := by first | (simp [plainName, overriddenIn]; done) | decide +kernel
theorem pd_1 : parseMethodDescriptor "(JJ)D" = some ⟨[.long, .long], some .double⟩ := by decide +kernel
theorem ef_1 (m : MethodId) (x0 : Int64) (x1 : Int64) : entryFrame m #[(.long x0), (.long x1)] 4 = mkF m 0 #[.val (.long x0), .second, .val (.long x1), .second] [] := by first | (simp [entryFrame, mkF, argsToLocals, Value.category]; done) | rfl
def Q_1 (p1 p2 : Int64) (h0 : Heap) (n0 : Nat) (v : Option Value) (h : Heap) (L : List Loc) : Prop := v = some (.double (own_pm p1 p2)) ∧ Fr n0 L ∧ h = h0
set_option maxRecDepth 65536 in
set_option maxHeartbeats 40000000 in
theorem rm_1 (l : Launch) (Z : State) (a0 : Array Value) (hw : ∀ d ∈ tables_1, d.before a0 Z = true) (ws : List Jvm.Cond) (p1 p2 : Int64) (h0 : Heap) (n0 : Nat) (Z0 : n0 ≤ h0.size)  :
    MetFree l (⟨"com/example/daloy/daloy/engine/PipelineRun", "perMinute", "(JJ)D"⟩ : MethodName) (head1 (Jvm.Cond.code (⟨"com/example/daloy/daloy/engine/PipelineRun", "perMinute", "(JJ)D"⟩ : MethodName) prog_14_method_26_code 4 (some .double) :: ws) ({ frames := 0, cells := 0, slots := 0, locals := 0 } : Room)) (fun a U => a = #[(.long p1), (.long p2)] ∧ Z.Warmed39 U.vm ∧ U.heap = h0) (fun _ _ _ _ _ => True) (fun _ U o U' => ∃ v L, o = .returned v ∧ Q_1 p1 p2 h0 n0 v U'.heap L ∧ FrameEnd U o U' L 0 0) := by
  refine MetFree.of_bodySF (plainFor_of_name pn_1) hisR ?_
  intro p e s m args below meth c s₁ Bd hml0 hP hK
  obtain ⟨rfl, hZ, hh⟩ := hP
  have hx := Bd.exec
  have hby := Bd.bytes
  have hml : c.maxLocals = 4 := hml0
  have hown : s.vm.findClass "com/example/daloy/daloy/engine/PipelineRun" = some m.cls := findClass_of_methodNamed Bd.named
  have hnm := (name_of_methodNamed Bd.named Bd.method).1
  have X0 : Stand p l e ({ frames := 0, cells := 0, slots := 0, locals := 0 } : Room) s m #[(.long p1), (.long p2)] below meth c s₁ [] 0 0 := Stand.of_body Bd
  have e0 : s₁.heap = h0 := by rw [← hh, Bd.state]; rfl
  have N0 := Fr.nil n0
  have pre0 : ∀ t, Steps p.tables e below (s₁.setTop (mkF m 0 #[.val (.long p1), .second, .val (.long p2), .second] [])) t → Steps p.tables e below (s₁.setTop (entryFrame m #[(.long p1), (.long p2)] 4)) t := fun t k => castTop (ef_1 m (p1) (p2)) k
  obtain ⟨fs, hr, hrun, hended, hW, hsame⟩ := X0.leave (v := some (.double (own_pm p1 p2))) (fun h => by rw [Bd.returns] at h; cases h)
  refine ⟨_, _, pre0 _ ?_, hrun, hended, _, _, rfl, ?_, ⟨_, rfl⟩, hW, hsame.mono (by decide) (by decide)⟩
  · have kr : ∀ z, z = own_pm p1 p2 → Steps p.tables e below (s₁.setTop (mkF m 19 #[.val (.long p1), .second, .val (.long p2), .second] [(.double z)])) (s₁.setFrames fs) := by
      intro z hz; subst hz; exact retOut X0 hx Bd.returns rfl (Or.inr (Or.inr (Or.inl ⟨rfl, rfl, _, rfl⟩))) (hb hby d1_19) hr
    show Steps p.tables e below (s₁.setTop (mkF m 0 #[.val (.long p1), .second, .val (.long p2), .second] [])) _
    refine XS.lloadN X0.here hx rfl (hb hby d1_0) rfl ?_
    show Steps p.tables e below (s₁.setTop (mkF m 1 #[.val (.long p1), .second, .val (.long p2), .second] [(.long p2)])) _
    refine XS.lconst X0.here hx rfl (hb hby d1_1) ?_
    show Steps p.tables e below (s₁.setTop (mkF m 2 #[.val (.long p1), .second, .val (.long p2), .second] [(.long (0 : Int64)), (.long p2)])) _
    refine XS.lcmp X0.here hx rfl (hb hby d1_2) rfl ?_
    show Steps p.tables e below (s₁.setTop (mkF m 3 #[.val (.long p1), .second, .val (.long p2), .second] [(.int (lcmpW p2 (0 : Int64)))])) _
    by_cases c1 : (0 : Int64) < p2
    · refine XS.ifYes X0.here hx rfl (pc0 := 3) (pc' := 10) rfl (hb hby d1_3) rfl ((if0 _ _).trans (tlt ((lw_gt _ _).mpr c1)).2.2.1) (by decide) (by decide) ?_
      show Steps p.tables e below (s₁.setTop (mkF m 10 #[.val (.long p1), .second, .val (.long p2), .second] [])) _
      refine XS.lloadN X0.here hx rfl (hb hby d1_10) rfl ?_
      show Steps p.tables e below (s₁.setTop (mkF m 11 #[.val (.long p1), .second, .val (.long p2), .second] [(.long p1)])) _
      refine XS.l2dS X0.here hx rfl (hb hby d1_11) rfl rfl ?_
      show Steps p.tables e below (s₁.setTop (mkF m 12 #[.val (.long p1), .second, .val (.long p2), .second] [(.double (FP.l2d p1))])) _
      refine X0.ldc2DoubleC hx hown (mvT hZ (hw _ (List.mem_of_getElem? (i := 4) rfl))) (g := (mkF m 12 #[.val (.long p1), .second, .val (.long p2), .second] [(.double (FP.l2d p1))])) rfl (hb hby d1_12) _ ?_
      show Steps p.tables e below (s₁.setTop (mkF m 15 #[.val (.long p1), .second, .val (.long p2), .second] [(.double (4768169126130614272 : UInt64)), (.double (FP.l2d p1))])) _
      refine XS.dmulS X0.here hx rfl (hb hby d1_15) rfl (own_nn1 p1) rfl ?_
      show Steps p.tables e below (s₁.setTop (mkF m 16 #[.val (.long p1), .second, .val (.long p2), .second] [(.double (FP.dmul (FP.l2d p1) (4768169126130614272 : UInt64)))])) _
      refine XS.lloadN X0.here hx rfl (hb hby d1_16) rfl ?_
      show Steps p.tables e below (s₁.setTop (mkF m 17 #[.val (.long p1), .second, .val (.long p2), .second] [(.long p2), (.double (FP.dmul (FP.l2d p1) (4768169126130614272 : UInt64)))])) _
      refine XS.l2dS X0.here hx rfl (hb hby d1_17) rfl rfl ?_
      show Steps p.tables e below (s₁.setTop (mkF m 18 #[.val (.long p1), .second, .val (.long p2), .second] [(.double (FP.l2d p2)), (.double (FP.dmul (FP.l2d p1) (4768169126130614272 : UInt64)))])) _
      refine XS.ddivS X0.here hx rfl (hb hby d1_18) rfl (own_nn2 p1 c1) rfl ?_
      show Steps p.tables e below (s₁.setTop (mkF m 19 #[.val (.long p1), .second, .val (.long p2), .second] [(.double (FP.ddiv (FP.dmul (FP.l2d p1) (4768169126130614272 : UInt64)) (FP.l2d p2)))])) _
      exact kr _ (own_pm_pos c1).symm
    · refine XS.ifNo X0.here hx rfl (hb hby d1_3) rfl ((if0 _ _).trans (flt (fun q => c1 ((lw_gt _ _).mp q))).2.2.1) ?_
      show Steps p.tables e below (s₁.setTop (mkF m 6 #[.val (.long p1), .second, .val (.long p2), .second] [])) _
      refine XS.dconst0 X0.here hx rfl (hb hby d1_6) rfl ?_
      show Steps p.tables e below (s₁.setTop (mkF m 7 #[.val (.long p1), .second, .val (.long p2), .second] [(.double FP.dconst0)])) _
      refine XS.goto X0.here hx rfl (pc0 := 7) (pc' := 19) rfl (hb hby d1_7) (by decide) (by decide) ?_
      show Steps p.tables e below (s₁.setTop (mkF m 19 #[.val (.long p1), .second, .val (.long p2), .second] [(.double FP.dconst0)])) _
      exact kr _ (own_pm_npos c1).symm
  · show Q_1 p1 p2 h0 n0 _ s₁.heap _
    rw [e0]
    exact ⟨rfl, N0, rfl⟩
theorem pn_0 : plainName "com/example/daloy/daloy/engine/PipelineRunPerMinutePinLaw" = true := by first | (simp [plainName, overriddenIn]; done) | decide +kernel
theorem ef_0 (m : MethodId) (x0 : Int64) (x1 : Int64) (x2 : Int32) (x3 : Int32) : entryFrame m #[(.long x0), (.long x1), (.int x2), (.int x3)] maxLocals = mkF m 0 #[.val (.long x0), .second, .val (.long x1), .second, .val (.int x2), .val (.int x3), .unset, .unset, .unset, .unset, .unset, .unset, .unset, .unset, .unset] [] := by first | (simp [entryFrame, mkF, argsToLocals, Value.category, maxLocals]; done) | rfl
def Q_0 (n0 : Nat) (v : Option Value) (h : Heap) (L : List Loc) : Prop := v = some (.int 1) ∧ Fr n0 L
set_option maxRecDepth 65536 in
set_option maxHeartbeats 40000000 in
theorem rm_0 (l : Launch) (Z : State) (a0 : Array Value) (hw : ∀ d ∈ tables_1, d.before a0 Z = true) (ws : List Jvm.Cond) (p1 p2 : Int64) (p3 p4 : Int32) (h0 : Heap) (n0 : Nat) (Z0 : n0 ≤ h0.size)  :
    MetFree l x (head1 (Jvm.Cond.code x code maxLocals ret :: ws) room_1) (fun a U => a = #[(.long p1), (.long p2), (.int p3), (.int p4)] ∧ Z.Warmed39 U.vm ∧ U.heap = h0) (fun _ _ _ _ _ => True) (fun _ U o U' => ∃ v L, o = .returned v ∧ Q_0 n0 v U'.heap L ∧ FrameEnd U o U' L 0 0) := by
  refine MetFree.of_bodySF (plainFor_of_name pn_0) hisR ?_
  intro p e s m args below meth c s₁ Bd hml0 hP hK
  obtain ⟨rfl, hZ, hh⟩ := hP
  have hx := Bd.exec
  have hby := Bd.bytes
  have hml : c.maxLocals = 15 := hml0
  have hown : s.vm.findClass "com/example/daloy/daloy/engine/PipelineRunPerMinutePinLaw" = some m.cls := findClass_of_methodNamed Bd.named
  have hnm := (name_of_methodNamed Bd.named Bd.method).1
  have X0 : Stand p l e room_1 s m #[(.long p1), (.long p2), (.int p3), (.int p4)] below meth c s₁ [] 0 0 := Stand.of_body Bd
  have e0 : s₁.heap = h0 := by rw [← hh, Bd.state]; rfl
  have N0 := Fr.nil n0
  have pre0 : ∀ t, Steps p.tables e below (s₁.setTop (mkF m 0 #[.val (.long p1), .second, .val (.long p2), .second, .val (.int p3), .val (.int p4), .unset, .unset, .unset, .unset, .unset, .unset, .unset, .unset, .unset] [])) t → Steps p.tables e below (s₁.setTop (entryFrame m #[(.long p1), (.long p2), (.int p3), (.int p4)] maxLocals)) t := fun t k => castTop (ef_0 m (p1) (p2) (p3) (p4)) k
  obtain ⟨v, hv⟩ : ∃ z : UInt64, z = own_pm p1 p2 := ⟨_, rfl⟩
  obtain ⟨r, hr0⟩ : ∃ z : Int64, z = (p3 % (8192 : Int32)).toInt64 := ⟨_, rfl⟩
  obtain ⟨d, hd0⟩ : ∃ z : Int64, z = ((p4 &&& (16383 : Int32)) + (1 : Int32)).toInt64 := ⟨_, rfl⟩
  obtain ⟨q, hq0⟩ : ∃ z : Int64, z = p1 - (p1 / (134217728 : Int64)) * (134217728 : Int64) := ⟨_, rfl⟩
  have vn : FP.Core.val64 v ≠ .nan := by rw [hv]; exact own_pm_nan _ _
  have rb : r.toInt.natAbs ≤ 8191 := by
    have e1 : (p3 % (8192 : Int32)).toInt = p3.toInt.tmod (8192 : Int32).toInt := Jvm.Kit.i32_rem _ _
    rw [show (8192 : Int32).toInt = 8192 from rfl] at e1
    have h1 := Int.tmod_lt_of_pos p3.toInt (show (0 : Int) < 8192 by decide)
    have h2 := Int.lt_tmod_of_pos p3.toInt (show (0 : Int) < 8192 by decide)
    rw [hr0, Int32.toInt_toInt64, e1]; omega
  have db : 1 ≤ d.toInt ∧ d.toInt ≤ 16384 := by
    have e1 : (p4 &&& (16383 : Int32)).toInt = p4.toInt % 2 ^ 14 := Jvm.Kit.i32_mask p4 16383 (k := 14) (by decide) (by decide)
    have z1 : (1 : Int32).toInt = 1 := rfl
    have e2 : ((p4 &&& (16383 : Int32)) + (1 : Int32)).toInt = (p4 &&& (16383 : Int32)).toInt + (1 : Int32).toInt := Jvm.Kit.i32_add (by omega) (by omega)
    rw [hd0, Int32.toInt_toInt64, e2]; omega
  have qb : q.toInt.natAbs ≤ 134217727 := by
    have e1 : (p1 - (p1 / (134217728 : Int64)) * (134217728 : Int64)).toInt = p1.toInt.tmod (134217728 : Int64).toInt := Jvm.Kit.i64_rem _ _
    rw [show (134217728 : Int64).toInt = 134217728 from rfl] at e1
    have h1 := Int.tmod_lt_of_pos p1.toInt (show (0 : Int) < 134217728 by decide)
    have h2 := Int.lt_tmod_of_pos p1.toInt (show (0 : Int) < 134217728 by decide)
    rw [hq0, e1]; omega
  have three := own_eq0 (own_pm_nan (r * d) d) (own_zval_l2d (r * 60000000000)).1 (own_pm_three rb db.1 db.2)
  have fnn : Jvm.Free.Fl.NoNaN64 (FP.ddiv (FP.l2d q) (4611686018427387904 : UInt64)) := Jvm.Free.Fl.val64_no.mpr (own_zval_div (FP.Core.l2d_int (a := q) (by omega)) own_two_i (by decide)).1
  have four := own_eq0 (own_pm_nan q 120000000000) (Jvm.Free.Fl.val64_no.mp fnn) (own_pm_four qb)
  obtain ⟨_, _, ⟨T1, L1, k1, n1⟩, -, X1, ⟨Lc1, hQ1, l1, y1, z1⟩, st1⟩ := Jvm.LawKit.callS X0 hx (y := (⟨"com/example/daloy/daloy/engine/PipelineRun", "perMinute", "(JJ)D"⟩ : MethodName)) hown (mvT hZ (hw _ (List.mem_of_getElem? (i := 0) rfl))) (mvT hZ (hw _ (List.mem_of_getElem? (i := 1) rfl))) (mvT hZ (hw _ (List.mem_of_getElem? (i := 2) rfl))) (mvT hZ (hw _ (List.mem_of_getElem? (i := 3) rfl))) (by decide) (backOf (W := 0) (rm_1 l Z a0 hw [] p1 p2 h0 n0 Z0) hZ (hw _ (List.mem_of_getElem? (i := 3) rfl)) (hw _ (List.mem_of_getElem? (i := 2) rfl)) (by decide) (by decide)) (g := (mkF m 2 #[.val (.long p1), .second, .val (.long p2), .second, .val (.int p3), .val (.int p4), .unset, .unset, .unset, .unset, .unset, .unset, .unset, .unset, .unset] [(.long p2), (.long p1)])) rfl (by rw [hml]; rfl) (argsL := [(.long p1), (.long p2)]) (rest := []) (lenOf pd_1 rfl) rfl (by show 2 * 0 + _ ≤ _; exact Nat.le_of_eq rfl) (hb hby at_2) (fun _ _ => ⟨rfl, e0, (by decide : 0 + 0 ≤ _), (by decide : 0 + 0 ≤ _)⟩)
  dsimp only [Pt.U, Pt.locs, Pt.cells, Pt.slots] at X1 l1 y1 z1 st1 hQ1
  subst l1 y1 z1
  obtain ⟨rfl, N1, e1⟩ := hQ1
  have N1b := Fr.app N0 N1
  rw [← hv] at st1
  have seg : ∃ T' L', Stand p l e room_1 s m #[(.long p1), (.long p2), (.int p3), (.int p4)] below meth c T' L' 0 0 ∧ T'.heap = h0 ∧ Fr n0 L' ∧ ∀ target, Steps p.tables e below (T'.setTop (mkF m 148 #[.val (.long p1), .second, .val (.long p2), .second, .val (.int p3), .val (.int p4), .val (.double v), .second, .val (.int (1 : Int32)), .unset, .unset, .unset, .unset, .unset, .unset] [])) target → Steps p.tables e below (T1.setTop (mkF m 115 #[.val (.long p1), .second, .val (.long p2), .second, .val (.int p3), .val (.int p4), .val (.double v), .second, .val (.int (1 : Int32)), .unset, .unset, .unset, .unset, .unset, .unset] [])) target := by
    by_cases cm : p1 = (-9223372036854775808 : Int64)
    · refine ⟨T1, _, X1, e1, N1b, fun target k => ?_⟩
      show Steps p.tables e below (T1.setTop (mkF m 115 #[.val (.long p1), .second, .val (.long p2), .second, .val (.int p3), .val (.int p4), .val (.double v), .second, .val (.int (1 : Int32)), .unset, .unset, .unset, .unset, .unset, .unset] [])) _
      refine XS.lloadN X1.here hx rfl (hb hby at_115) rfl ?_
      show Steps p.tables e below (T1.setTop (mkF m 116 #[.val (.long p1), .second, .val (.long p2), .second, .val (.int p3), .val (.int p4), .val (.double v), .second, .val (.int (1 : Int32)), .unset, .unset, .unset, .unset, .unset, .unset] [(.long p1)])) _
      refine X1.ldc2Long hx hown (mvT hZ (hw _ (List.mem_of_getElem? (i := 5) rfl))) (g := (mkF m 116 #[.val (.long p1), .second, .val (.long p2), .second, .val (.int p3), .val (.int p4), .val (.double v), .second, .val (.int (1 : Int32)), .unset, .unset, .unset, .unset, .unset, .unset] [(.long p1)])) rfl (hb hby at_116) _ ?_
      show Steps p.tables e below (T1.setTop (mkF m 119 #[.val (.long p1), .second, .val (.long p2), .second, .val (.int p3), .val (.int p4), .val (.double v), .second, .val (.int (1 : Int32)), .unset, .unset, .unset, .unset, .unset, .unset] [(.long (-9223372036854775808 : Int64)), (.long p1)])) _
      refine XS.lcmp X1.here hx rfl (hb hby at_119) rfl ?_
      show Steps p.tables e below (T1.setTop (mkF m 120 #[.val (.long p1), .second, .val (.long p2), .second, .val (.int p3), .val (.int p4), .val (.double v), .second, .val (.int (1 : Int32)), .unset, .unset, .unset, .unset, .unset, .unset] [(.int (lcmpW p1 (-9223372036854775808 : Int64)))])) _
      refine XS.ifYes X1.here hx rfl (pc0 := 120) (pc' := 148) rfl (hb hby at_120) rfl ((if0 _ _).trans (teq ((lw_eq _ _).mpr cm)).1) (by decide) (by decide) ?_
      show Steps p.tables e below (T1.setTop (mkF m 148 #[.val (.long p1), .second, .val (.long p2), .second, .val (.int p3), .val (.int p4), .val (.double v), .second, .val (.int (1 : Int32)), .unset, .unset, .unset, .unset, .unset, .unset] [])) _
      exact k
    · obtain ⟨_, _, ⟨T2, L2, k2, n2⟩, -, X2, ⟨Lc2, hQ2, l2, y2, z2⟩, st2⟩ := Jvm.LawKit.callS X1 hx (y := (⟨"com/example/daloy/daloy/engine/PipelineRun", "perMinute", "(JJ)D"⟩ : MethodName)) hown (mvT hZ (hw _ (List.mem_of_getElem? (i := 0) rfl))) (mvT hZ (hw _ (List.mem_of_getElem? (i := 1) rfl))) (mvT hZ (hw _ (List.mem_of_getElem? (i := 2) rfl))) (mvT hZ (hw _ (List.mem_of_getElem? (i := 3) rfl))) (by decide) (backOf (W := 0) (rm_1 l Z a0 hw [] (-p1) p2 h0 n0 Z0) hZ (hw _ (List.mem_of_getElem? (i := 3) rfl)) (hw _ (List.mem_of_getElem? (i := 2) rfl)) (by decide) (by decide)) (g := (mkF m 131 #[.val (.long p1), .second, .val (.long p2), .second, .val (.int p3), .val (.int p4), .val (.double v), .second, .val (.int (1 : Int32)), .unset, .unset, .unset, .unset, .unset, .unset] [(.long p2), (.long (-p1))])) rfl (by rw [hml]; rfl) (argsL := [(.long (-p1)), (.long p2)]) (rest := []) (lenOf pd_1 rfl) rfl (by show 2 * 0 + _ ≤ _; exact Nat.le_of_eq rfl) (hb hby at_131) (fun _ _ => ⟨rfl, e1, (by decide : 0 + 0 ≤ _), (by decide : 0 + 0 ≤ _)⟩)
      dsimp only [Pt.U, Pt.locs, Pt.cells, Pt.slots] at X2 l2 y2 z2 st2 hQ2
      subst l2 y2 z2
      obtain ⟨rfl, N2, e2⟩ := hQ2
      have vn2 : FP.Core.val64 (FP.dneg v) ≠ .nan := by rw [FP.val64_dneg]; exact FP.Core.negate_ne_nan vn
      have two := own_eq0 (own_pm_nan (-p1) p2) vn2 (by rw [hv]; exact own_pm_neg cm)
      refine ⟨T2, _, X2, e2, Fr.app N1b N2, fun target k => ?_⟩
      show Steps p.tables e below (T1.setTop (mkF m 115 #[.val (.long p1), .second, .val (.long p2), .second, .val (.int p3), .val (.int p4), .val (.double v), .second, .val (.int (1 : Int32)), .unset, .unset, .unset, .unset, .unset, .unset] [])) _
      refine XS.lloadN X1.here hx rfl (hb hby at_115) rfl ?_
      show Steps p.tables e below (T1.setTop (mkF m 116 #[.val (.long p1), .second, .val (.long p2), .second, .val (.int p3), .val (.int p4), .val (.double v), .second, .val (.int (1 : Int32)), .unset, .unset, .unset, .unset, .unset, .unset] [(.long p1)])) _
      refine X1.ldc2Long hx hown (mvT hZ (hw _ (List.mem_of_getElem? (i := 5) rfl))) (g := (mkF m 116 #[.val (.long p1), .second, .val (.long p2), .second, .val (.int p3), .val (.int p4), .val (.double v), .second, .val (.int (1 : Int32)), .unset, .unset, .unset, .unset, .unset, .unset] [(.long p1)])) rfl (hb hby at_116) _ ?_
      show Steps p.tables e below (T1.setTop (mkF m 119 #[.val (.long p1), .second, .val (.long p2), .second, .val (.int p3), .val (.int p4), .val (.double v), .second, .val (.int (1 : Int32)), .unset, .unset, .unset, .unset, .unset, .unset] [(.long (-9223372036854775808 : Int64)), (.long p1)])) _
      refine XS.lcmp X1.here hx rfl (hb hby at_119) rfl ?_
      show Steps p.tables e below (T1.setTop (mkF m 120 #[.val (.long p1), .second, .val (.long p2), .second, .val (.int p3), .val (.int p4), .val (.double v), .second, .val (.int (1 : Int32)), .unset, .unset, .unset, .unset, .unset, .unset] [(.int (lcmpW p1 (-9223372036854775808 : Int64)))])) _
      refine XS.ifNo X1.here hx rfl (hb hby at_120) rfl ((if0 _ _).trans (feq (fun q => cm ((lw_eq _ _).mp q))).1) ?_
      show Steps p.tables e below (T1.setTop (mkF m 123 #[.val (.long p1), .second, .val (.long p2), .second, .val (.int p3), .val (.int p4), .val (.double v), .second, .val (.int (1 : Int32)), .unset, .unset, .unset, .unset, .unset, .unset] [])) _
      refine XS.iload X1.here hx rfl (hb hby at_123) rfl ?_
      show Steps p.tables e below (T1.setTop (mkF m 125 #[.val (.long p1), .second, .val (.long p2), .second, .val (.int p3), .val (.int p4), .val (.double v), .second, .val (.int (1 : Int32)), .unset, .unset, .unset, .unset, .unset, .unset] [(.int (1 : Int32))])) _
      refine XS.ifNo X1.here hx rfl (hb hby at_125) rfl ((if0 _ _).trans (feq (by decide)).1) ?_
      show Steps p.tables e below (T1.setTop (mkF m 128 #[.val (.long p1), .second, .val (.long p2), .second, .val (.int p3), .val (.int p4), .val (.double v), .second, .val (.int (1 : Int32)), .unset, .unset, .unset, .unset, .unset, .unset] [])) _
      refine XS.lloadN X1.here hx rfl (hb hby at_128) rfl ?_
      show Steps p.tables e below (T1.setTop (mkF m 129 #[.val (.long p1), .second, .val (.long p2), .second, .val (.int p3), .val (.int p4), .val (.double v), .second, .val (.int (1 : Int32)), .unset, .unset, .unset, .unset, .unset, .unset] [(.long p1)])) _
      refine XS.lneg X1.here hx rfl (hb hby at_129) rfl ?_
      show Steps p.tables e below (T1.setTop (mkF m 130 #[.val (.long p1), .second, .val (.long p2), .second, .val (.int p3), .val (.int p4), .val (.double v), .second, .val (.int (1 : Int32)), .unset, .unset, .unset, .unset, .unset, .unset] [(.long (-p1))])) _
      refine XS.lloadN X1.here hx rfl (hb hby at_130) rfl ?_
      show Steps p.tables e below (T1.setTop (mkF m 131 #[.val (.long p1), .second, .val (.long p2), .second, .val (.int p3), .val (.int p4), .val (.double v), .second, .val (.int (1 : Int32)), .unset, .unset, .unset, .unset, .unset, .unset] [(.long p2), (.long (-p1))])) _
      refine st2 _ ?_
      show Steps p.tables e below (T2.setTop (mkF m 134 #[.val (.long p1), .second, .val (.long p2), .second, .val (.int p3), .val (.int p4), .val (.double v), .second, .val (.int (1 : Int32)), .unset, .unset, .unset, .unset, .unset, .unset] [(.double (own_pm (-p1) p2))])) _
      refine XS.dload X2.here hx rfl (hb hby at_134) rfl ?_
      show Steps p.tables e below (T2.setTop (mkF m 136 #[.val (.long p1), .second, .val (.long p2), .second, .val (.int p3), .val (.int p4), .val (.double v), .second, .val (.int (1 : Int32)), .unset, .unset, .unset, .unset, .unset, .unset] [(.double v), (.double (own_pm (-p1) p2))])) _
      refine XS.dnegS X2.here hx rfl (hb hby at_136) rfl rfl ?_
      show Steps p.tables e below (T2.setTop (mkF m 137 #[.val (.long p1), .second, .val (.long p2), .second, .val (.int p3), .val (.int p4), .val (.double v), .second, .val (.int (1 : Int32)), .unset, .unset, .unset, .unset, .unset, .unset] [(.double (FP.dneg v)), (.double (own_pm (-p1) p2))])) _
      refine XS.dcmpS X2.here hx rfl (hb hby at_137) rfl two ?_
      show Steps p.tables e below (T2.setTop (mkF m 138 #[.val (.long p1), .second, .val (.long p2), .second, .val (.int p3), .val (.int p4), .val (.double v), .second, .val (.int (1 : Int32)), .unset, .unset, .unset, .unset, .unset, .unset] [(.int (0 : Int32))])) _
      refine XS.ifNo X2.here hx rfl (hb hby at_138) rfl ((if0 _ _).trans (teq rfl).2) ?_
      show Steps p.tables e below (T2.setTop (mkF m 141 #[.val (.long p1), .second, .val (.long p2), .second, .val (.int p3), .val (.int p4), .val (.double v), .second, .val (.int (1 : Int32)), .unset, .unset, .unset, .unset, .unset, .unset] [])) _
      refine XS.iconst X2.here hx rfl (hb hby at_141) ?_
      show Steps p.tables e below (T2.setTop (mkF m 142 #[.val (.long p1), .second, .val (.long p2), .second, .val (.int p3), .val (.int p4), .val (.double v), .second, .val (.int (1 : Int32)), .unset, .unset, .unset, .unset, .unset, .unset] [(.int (1 : Int32))])) _
      refine XS.goto X2.here hx rfl (pc0 := 142) (pc' := 146) rfl (hb hby at_142) (by decide) (by decide) ?_
      show Steps p.tables e below (T2.setTop (mkF m 146 #[.val (.long p1), .second, .val (.long p2), .second, .val (.int p3), .val (.int p4), .val (.double v), .second, .val (.int (1 : Int32)), .unset, .unset, .unset, .unset, .unset, .unset] [(.int (1 : Int32))])) _
      refine XS.istore X2.here hx rfl (hb hby at_146) rfl (l' := #[.val (.long p1), .second, .val (.long p2), .second, .val (.int p3), .val (.int p4), .val (.double v), .second, .val (.int (1 : Int32)), .unset, .unset, .unset, .unset, .unset, .unset]) rfl ?_
      show Steps p.tables e below (T2.setTop (mkF m 148 #[.val (.long p1), .second, .val (.long p2), .second, .val (.int p3), .val (.int p4), .val (.double v), .second, .val (.int (1 : Int32)), .unset, .unset, .unset, .unset, .unset, .unset] [])) _
      exact k
  obtain ⟨T3, L3, X3, e3, N3, st3⟩ := seg
  obtain ⟨_, _, ⟨T4, L4, k4, n4⟩, -, X4, ⟨Lc4, hQ4, l4, y4, z4⟩, st4⟩ := Jvm.LawKit.callS X3 hx (y := (⟨"com/example/daloy/daloy/engine/PipelineRun", "perMinute", "(JJ)D"⟩ : MethodName)) hown (mvT hZ (hw _ (List.mem_of_getElem? (i := 0) rfl))) (mvT hZ (hw _ (List.mem_of_getElem? (i := 1) rfl))) (mvT hZ (hw _ (List.mem_of_getElem? (i := 2) rfl))) (mvT hZ (hw _ (List.mem_of_getElem? (i := 3) rfl))) (by decide) (backOf (W := 0) (rm_1 l Z a0 hw [] (r * d) d h0 n0 Z0) hZ (hw _ (List.mem_of_getElem? (i := 3) rfl)) (hw _ (List.mem_of_getElem? (i := 2) rfl)) (by decide) (by decide)) (g := (mkF m 180 #[.val (.long p1), .second, .val (.long p2), .second, .val (.int p3), .val (.int p4), .val (.double v), .second, .val (.int (1 : Int32)), .val (.long r), .second, .val (.long d), .second, .unset, .unset] [(.long d), (.long (r * d))])) rfl (by rw [hml]; rfl) (argsL := [(.long (r * d)), (.long d)]) (rest := []) (lenOf pd_1 rfl) rfl (by show 2 * 0 + _ ≤ _; exact Nat.le_of_eq rfl) (hb hby at_180) (fun _ _ => ⟨rfl, e3, (by decide : 0 + 0 ≤ _), (by decide : 0 + 0 ≤ _)⟩)
  dsimp only [Pt.U, Pt.locs, Pt.cells, Pt.slots] at X4 l4 y4 z4 st4 hQ4
  subst l4 y4 z4
  obtain ⟨rfl, N4, e4⟩ := hQ4
  have N4b := Fr.app N3 N4
  obtain ⟨_, _, ⟨T5, L5, k5, n5⟩, -, X5, ⟨Lc5, hQ5, l5, y5, z5⟩, st5⟩ := Jvm.LawKit.callS X4 hx (y := (⟨"com/example/daloy/daloy/engine/PipelineRun", "perMinute", "(JJ)D"⟩ : MethodName)) hown (mvT hZ (hw _ (List.mem_of_getElem? (i := 0) rfl))) (mvT hZ (hw _ (List.mem_of_getElem? (i := 1) rfl))) (mvT hZ (hw _ (List.mem_of_getElem? (i := 2) rfl))) (mvT hZ (hw _ (List.mem_of_getElem? (i := 3) rfl))) (by decide) (backOf (W := 0) (rm_1 l Z a0 hw [] q (120000000000 : Int64) h0 n0 Z0) hZ (hw _ (List.mem_of_getElem? (i := 3) rfl)) (hw _ (List.mem_of_getElem? (i := 2) rfl)) (by decide) (by decide)) (g := (mkF m 218 #[.val (.long p1), .second, .val (.long p2), .second, .val (.int p3), .val (.int p4), .val (.double v), .second, .val (.int (1 : Int32)), .val (.long r), .second, .val (.long d), .second, .val (.long q), .second] [(.long (120000000000 : Int64)), (.long q)])) rfl (by rw [hml]; rfl) (argsL := [(.long q), (.long (120000000000 : Int64))]) (rest := []) (lenOf pd_1 rfl) rfl (by show 2 * 0 + _ ≤ _; exact Nat.le_of_eq rfl) (hb hby at_218) (fun _ _ => ⟨rfl, e4, (by decide : 0 + 0 ≤ _), (by decide : 0 + 0 ≤ _)⟩)
  dsimp only [Pt.U, Pt.locs, Pt.cells, Pt.slots] at X5 l5 y5 z5 st5 hQ5
  subst l5 y5 z5
  obtain ⟨rfl, N5, e5⟩ := hQ5
  have N5b := Fr.app N4b N5
  obtain ⟨fs, hr, hrun, hended, hW, hsame⟩ := X5.leave (v := some (.int (1 : Int32))) (fun h => by rw [Bd.returns] at h; cases h)
  refine ⟨_, _, pre0 _ ?_, hrun, hended, _, _, rfl, ?_, ⟨_, rfl⟩, hW, hsame.mono (by decide) (by decide)⟩
  · have k148 : Steps p.tables e below (T3.setTop (mkF m 148 #[.val (.long p1), .second, .val (.long p2), .second, .val (.int p3), .val (.int p4), .val (.double v), .second, .val (.int (1 : Int32)), .unset, .unset, .unset, .unset, .unset, .unset] [])) (T5.setFrames fs) := by
      show Steps p.tables e below (T3.setTop (mkF m 148 #[.val (.long p1), .second, .val (.long p2), .second, .val (.int p3), .val (.int p4), .val (.double v), .second, .val (.int (1 : Int32)), .unset, .unset, .unset, .unset, .unset, .unset] [])) _
      refine XS.iload X3.here hx rfl (hb hby at_148) rfl ?_
      show Steps p.tables e below (T3.setTop (mkF m 150 #[.val (.long p1), .second, .val (.long p2), .second, .val (.int p3), .val (.int p4), .val (.double v), .second, .val (.int (1 : Int32)), .unset, .unset, .unset, .unset, .unset, .unset] [(.int p3)])) _
      refine XS.sipush X3.here hx rfl (hb hby at_150) ?_
      show Steps p.tables e below (T3.setTop (mkF m 153 #[.val (.long p1), .second, .val (.long p2), .second, .val (.int p3), .val (.int p4), .val (.double v), .second, .val (.int (1 : Int32)), .unset, .unset, .unset, .unset, .unset, .unset] [(.int (8192 : Int32)), (.int p3)])) _
      refine iremM X3 hx rfl (hb hby at_153) rfl (by decide) ?_
      show Steps p.tables e below (T3.setTop (mkF m 154 #[.val (.long p1), .second, .val (.long p2), .second, .val (.int p3), .val (.int p4), .val (.double v), .second, .val (.int (1 : Int32)), .unset, .unset, .unset, .unset, .unset, .unset] [(.int (p3 % (8192 : Int32)))])) _
      refine XS.i2l X3.here hx rfl (hb hby at_154) rfl ?_
      show Steps p.tables e below (T3.setTop (mkF m 155 #[.val (.long p1), .second, .val (.long p2), .second, .val (.int p3), .val (.int p4), .val (.double v), .second, .val (.int (1 : Int32)), .unset, .unset, .unset, .unset, .unset, .unset] [(.long ((p3 % (8192 : Int32))).toInt64)])) _
      refine XS.lstore X3.here hx rfl (hb hby at_155) rfl (l' := #[.val (.long p1), .second, .val (.long p2), .second, .val (.int p3), .val (.int p4), .val (.double v), .second, .val (.int (1 : Int32)), .val (.long r), .second, .unset, .unset, .unset, .unset]) (by rw [hr0]; rfl) ?_
      show Steps p.tables e below (T3.setTop (mkF m 157 #[.val (.long p1), .second, .val (.long p2), .second, .val (.int p3), .val (.int p4), .val (.double v), .second, .val (.int (1 : Int32)), .val (.long r), .second, .unset, .unset, .unset, .unset] [])) _
      refine XS.iload X3.here hx rfl (hb hby at_157) rfl ?_
      show Steps p.tables e below (T3.setTop (mkF m 159 #[.val (.long p1), .second, .val (.long p2), .second, .val (.int p3), .val (.int p4), .val (.double v), .second, .val (.int (1 : Int32)), .val (.long r), .second, .unset, .unset, .unset, .unset] [(.int p4)])) _
      refine XS.sipush X3.here hx rfl (hb hby at_159) ?_
      show Steps p.tables e below (T3.setTop (mkF m 162 #[.val (.long p1), .second, .val (.long p2), .second, .val (.int p3), .val (.int p4), .val (.double v), .second, .val (.int (1 : Int32)), .val (.long r), .second, .unset, .unset, .unset, .unset] [(.int (16383 : Int32)), (.int p4)])) _
      refine XS.iand X3.here hx rfl (hb hby at_162) rfl ?_
      show Steps p.tables e below (T3.setTop (mkF m 163 #[.val (.long p1), .second, .val (.long p2), .second, .val (.int p3), .val (.int p4), .val (.double v), .second, .val (.int (1 : Int32)), .val (.long r), .second, .unset, .unset, .unset, .unset] [(.int (p4 &&& (16383 : Int32)))])) _
      refine XS.iconst X3.here hx rfl (hb hby at_163) ?_
      show Steps p.tables e below (T3.setTop (mkF m 164 #[.val (.long p1), .second, .val (.long p2), .second, .val (.int p3), .val (.int p4), .val (.double v), .second, .val (.int (1 : Int32)), .val (.long r), .second, .unset, .unset, .unset, .unset] [(.int (1 : Int32)), (.int (p4 &&& (16383 : Int32)))])) _
      refine XS.iadd X3.here hx rfl (hb hby at_164) rfl ?_
      show Steps p.tables e below (T3.setTop (mkF m 165 #[.val (.long p1), .second, .val (.long p2), .second, .val (.int p3), .val (.int p4), .val (.double v), .second, .val (.int (1 : Int32)), .val (.long r), .second, .unset, .unset, .unset, .unset] [(.int ((p4 &&& (16383 : Int32)) + (1 : Int32)))])) _
      refine XS.i2l X3.here hx rfl (hb hby at_165) rfl ?_
      show Steps p.tables e below (T3.setTop (mkF m 166 #[.val (.long p1), .second, .val (.long p2), .second, .val (.int p3), .val (.int p4), .val (.double v), .second, .val (.int (1 : Int32)), .val (.long r), .second, .unset, .unset, .unset, .unset] [(.long (((p4 &&& (16383 : Int32)) + (1 : Int32))).toInt64)])) _
      refine XS.lstore X3.here hx rfl (hb hby at_166) rfl (l' := #[.val (.long p1), .second, .val (.long p2), .second, .val (.int p3), .val (.int p4), .val (.double v), .second, .val (.int (1 : Int32)), .val (.long r), .second, .val (.long d), .second, .unset, .unset]) (by rw [hd0]; rfl) ?_
      show Steps p.tables e below (T3.setTop (mkF m 168 #[.val (.long p1), .second, .val (.long p2), .second, .val (.int p3), .val (.int p4), .val (.double v), .second, .val (.int (1 : Int32)), .val (.long r), .second, .val (.long d), .second, .unset, .unset] [])) _
      refine XS.iload X3.here hx rfl (hb hby at_168) rfl ?_
      show Steps p.tables e below (T3.setTop (mkF m 170 #[.val (.long p1), .second, .val (.long p2), .second, .val (.int p3), .val (.int p4), .val (.double v), .second, .val (.int (1 : Int32)), .val (.long r), .second, .val (.long d), .second, .unset, .unset] [(.int (1 : Int32))])) _
      refine XS.ifNo X3.here hx rfl (hb hby at_170) rfl ((if0 _ _).trans (feq (by decide)).1) ?_
      show Steps p.tables e below (T3.setTop (mkF m 173 #[.val (.long p1), .second, .val (.long p2), .second, .val (.int p3), .val (.int p4), .val (.double v), .second, .val (.int (1 : Int32)), .val (.long r), .second, .val (.long d), .second, .unset, .unset] [])) _
      refine XS.lload X3.here hx rfl (hb hby at_173) rfl ?_
      show Steps p.tables e below (T3.setTop (mkF m 175 #[.val (.long p1), .second, .val (.long p2), .second, .val (.int p3), .val (.int p4), .val (.double v), .second, .val (.int (1 : Int32)), .val (.long r), .second, .val (.long d), .second, .unset, .unset] [(.long r)])) _
      refine XS.lload X3.here hx rfl (hb hby at_175) rfl ?_
      show Steps p.tables e below (T3.setTop (mkF m 177 #[.val (.long p1), .second, .val (.long p2), .second, .val (.int p3), .val (.int p4), .val (.double v), .second, .val (.int (1 : Int32)), .val (.long r), .second, .val (.long d), .second, .unset, .unset] [(.long d), (.long r)])) _
      refine XS.lmul X3.here hx rfl (hb hby at_177) rfl ?_
      show Steps p.tables e below (T3.setTop (mkF m 178 #[.val (.long p1), .second, .val (.long p2), .second, .val (.int p3), .val (.int p4), .val (.double v), .second, .val (.int (1 : Int32)), .val (.long r), .second, .val (.long d), .second, .unset, .unset] [(.long (r * d))])) _
      refine XS.lload X3.here hx rfl (hb hby at_178) rfl ?_
      show Steps p.tables e below (T3.setTop (mkF m 180 #[.val (.long p1), .second, .val (.long p2), .second, .val (.int p3), .val (.int p4), .val (.double v), .second, .val (.int (1 : Int32)), .val (.long r), .second, .val (.long d), .second, .unset, .unset] [(.long d), (.long (r * d))])) _
      refine st4 _ ?_
      show Steps p.tables e below (T4.setTop (mkF m 183 #[.val (.long p1), .second, .val (.long p2), .second, .val (.int p3), .val (.int p4), .val (.double v), .second, .val (.int (1 : Int32)), .val (.long r), .second, .val (.long d), .second, .unset, .unset] [(.double (own_pm (r * d) d))])) _
      refine XS.lload X4.here hx rfl (hb hby at_183) rfl ?_
      show Steps p.tables e below (T4.setTop (mkF m 185 #[.val (.long p1), .second, .val (.long p2), .second, .val (.int p3), .val (.int p4), .val (.double v), .second, .val (.int (1 : Int32)), .val (.long r), .second, .val (.long d), .second, .unset, .unset] [(.long r), (.double (own_pm (r * d) d))])) _
      refine X4.ldc2Long hx hown (mvT hZ (hw _ (List.mem_of_getElem? (i := 6) rfl))) (g := (mkF m 185 #[.val (.long p1), .second, .val (.long p2), .second, .val (.int p3), .val (.int p4), .val (.double v), .second, .val (.int (1 : Int32)), .val (.long r), .second, .val (.long d), .second, .unset, .unset] [(.long r), (.double (own_pm (r * d) d))])) rfl (hb hby at_185) _ ?_
      show Steps p.tables e below (T4.setTop (mkF m 188 #[.val (.long p1), .second, .val (.long p2), .second, .val (.int p3), .val (.int p4), .val (.double v), .second, .val (.int (1 : Int32)), .val (.long r), .second, .val (.long d), .second, .unset, .unset] [(.long (60000000000 : Int64)), (.long r), (.double (own_pm (r * d) d))])) _
      refine XS.lmul X4.here hx rfl (hb hby at_188) rfl ?_
      show Steps p.tables e below (T4.setTop (mkF m 189 #[.val (.long p1), .second, .val (.long p2), .second, .val (.int p3), .val (.int p4), .val (.double v), .second, .val (.int (1 : Int32)), .val (.long r), .second, .val (.long d), .second, .unset, .unset] [(.long (r * (60000000000 : Int64))), (.double (own_pm (r * d) d))])) _
      refine XS.l2dS X4.here hx rfl (hb hby at_189) rfl rfl ?_
      show Steps p.tables e below (T4.setTop (mkF m 190 #[.val (.long p1), .second, .val (.long p2), .second, .val (.int p3), .val (.int p4), .val (.double v), .second, .val (.int (1 : Int32)), .val (.long r), .second, .val (.long d), .second, .unset, .unset] [(.double (FP.l2d (r * (60000000000 : Int64)))), (.double (own_pm (r * d) d))])) _
      refine XS.dcmpS X4.here hx rfl (hb hby at_190) rfl three ?_
      show Steps p.tables e below (T4.setTop (mkF m 191 #[.val (.long p1), .second, .val (.long p2), .second, .val (.int p3), .val (.int p4), .val (.double v), .second, .val (.int (1 : Int32)), .val (.long r), .second, .val (.long d), .second, .unset, .unset] [(.int (0 : Int32))])) _
      refine XS.ifNo X4.here hx rfl (hb hby at_191) rfl ((if0 _ _).trans (teq rfl).2) ?_
      show Steps p.tables e below (T4.setTop (mkF m 194 #[.val (.long p1), .second, .val (.long p2), .second, .val (.int p3), .val (.int p4), .val (.double v), .second, .val (.int (1 : Int32)), .val (.long r), .second, .val (.long d), .second, .unset, .unset] [])) _
      refine XS.iconst X4.here hx rfl (hb hby at_194) ?_
      show Steps p.tables e below (T4.setTop (mkF m 195 #[.val (.long p1), .second, .val (.long p2), .second, .val (.int p3), .val (.int p4), .val (.double v), .second, .val (.int (1 : Int32)), .val (.long r), .second, .val (.long d), .second, .unset, .unset] [(.int (1 : Int32))])) _
      refine XS.goto X4.here hx rfl (pc0 := 195) (pc' := 199) rfl (hb hby at_195) (by decide) (by decide) ?_
      show Steps p.tables e below (T4.setTop (mkF m 199 #[.val (.long p1), .second, .val (.long p2), .second, .val (.int p3), .val (.int p4), .val (.double v), .second, .val (.int (1 : Int32)), .val (.long r), .second, .val (.long d), .second, .unset, .unset] [(.int (1 : Int32))])) _
      refine XS.istore X4.here hx rfl (hb hby at_199) rfl (l' := #[.val (.long p1), .second, .val (.long p2), .second, .val (.int p3), .val (.int p4), .val (.double v), .second, .val (.int (1 : Int32)), .val (.long r), .second, .val (.long d), .second, .unset, .unset]) rfl ?_
      show Steps p.tables e below (T4.setTop (mkF m 201 #[.val (.long p1), .second, .val (.long p2), .second, .val (.int p3), .val (.int p4), .val (.double v), .second, .val (.int (1 : Int32)), .val (.long r), .second, .val (.long d), .second, .unset, .unset] [])) _
      refine XS.lloadN X4.here hx rfl (hb hby at_201) rfl ?_
      show Steps p.tables e below (T4.setTop (mkF m 202 #[.val (.long p1), .second, .val (.long p2), .second, .val (.int p3), .val (.int p4), .val (.double v), .second, .val (.int (1 : Int32)), .val (.long r), .second, .val (.long d), .second, .unset, .unset] [(.long p1)])) _
      refine X4.ldc2Long hx hown (mvT hZ (hw _ (List.mem_of_getElem? (i := 7) rfl))) (g := (mkF m 202 #[.val (.long p1), .second, .val (.long p2), .second, .val (.int p3), .val (.int p4), .val (.double v), .second, .val (.int (1 : Int32)), .val (.long r), .second, .val (.long d), .second, .unset, .unset] [(.long p1)])) rfl (hb hby at_202) _ ?_
      show Steps p.tables e below (T4.setTop (mkF m 205 #[.val (.long p1), .second, .val (.long p2), .second, .val (.int p3), .val (.int p4), .val (.double v), .second, .val (.int (1 : Int32)), .val (.long r), .second, .val (.long d), .second, .unset, .unset] [(.long (134217728 : Int64)), (.long p1)])) _
      refine XS.lrem X4.here hx rfl (hb hby at_205) rfl (by decide) ?_
      show Steps p.tables e below (T4.setTop (mkF m 206 #[.val (.long p1), .second, .val (.long p2), .second, .val (.int p3), .val (.int p4), .val (.double v), .second, .val (.int (1 : Int32)), .val (.long r), .second, .val (.long d), .second, .unset, .unset] [(.long (p1 - (p1 / (134217728 : Int64)) * (134217728 : Int64)))])) _
      refine XS.lstore X4.here hx rfl (hb hby at_206) rfl (l' := #[.val (.long p1), .second, .val (.long p2), .second, .val (.int p3), .val (.int p4), .val (.double v), .second, .val (.int (1 : Int32)), .val (.long r), .second, .val (.long d), .second, .val (.long q), .second]) (by rw [hq0]; rfl) ?_
      show Steps p.tables e below (T4.setTop (mkF m 208 #[.val (.long p1), .second, .val (.long p2), .second, .val (.int p3), .val (.int p4), .val (.double v), .second, .val (.int (1 : Int32)), .val (.long r), .second, .val (.long d), .second, .val (.long q), .second] [])) _
      refine XS.iload X4.here hx rfl (hb hby at_208) rfl ?_
      show Steps p.tables e below (T4.setTop (mkF m 210 #[.val (.long p1), .second, .val (.long p2), .second, .val (.int p3), .val (.int p4), .val (.double v), .second, .val (.int (1 : Int32)), .val (.long r), .second, .val (.long d), .second, .val (.long q), .second] [(.int (1 : Int32))])) _
      refine XS.ifNo X4.here hx rfl (hb hby at_210) rfl ((if0 _ _).trans (feq (by decide)).1) ?_
      show Steps p.tables e below (T4.setTop (mkF m 213 #[.val (.long p1), .second, .val (.long p2), .second, .val (.int p3), .val (.int p4), .val (.double v), .second, .val (.int (1 : Int32)), .val (.long r), .second, .val (.long d), .second, .val (.long q), .second] [])) _
      refine XS.lload X4.here hx rfl (hb hby at_213) rfl ?_
      show Steps p.tables e below (T4.setTop (mkF m 215 #[.val (.long p1), .second, .val (.long p2), .second, .val (.int p3), .val (.int p4), .val (.double v), .second, .val (.int (1 : Int32)), .val (.long r), .second, .val (.long d), .second, .val (.long q), .second] [(.long q)])) _
      refine X4.ldc2Long hx hown (mvT hZ (hw _ (List.mem_of_getElem? (i := 8) rfl))) (g := (mkF m 215 #[.val (.long p1), .second, .val (.long p2), .second, .val (.int p3), .val (.int p4), .val (.double v), .second, .val (.int (1 : Int32)), .val (.long r), .second, .val (.long d), .second, .val (.long q), .second] [(.long q)])) rfl (hb hby at_215) _ ?_
      show Steps p.tables e below (T4.setTop (mkF m 218 #[.val (.long p1), .second, .val (.long p2), .second, .val (.int p3), .val (.int p4), .val (.double v), .second, .val (.int (1 : Int32)), .val (.long r), .second, .val (.long d), .second, .val (.long q), .second] [(.long (120000000000 : Int64)), (.long q)])) _
      refine st5 _ ?_
      show Steps p.tables e below (T5.setTop (mkF m 221 #[.val (.long p1), .second, .val (.long p2), .second, .val (.int p3), .val (.int p4), .val (.double v), .second, .val (.int (1 : Int32)), .val (.long r), .second, .val (.long d), .second, .val (.long q), .second] [(.double (own_pm q (120000000000 : Int64)))])) _
      refine XS.lload X5.here hx rfl (hb hby at_221) rfl ?_
      show Steps p.tables e below (T5.setTop (mkF m 223 #[.val (.long p1), .second, .val (.long p2), .second, .val (.int p3), .val (.int p4), .val (.double v), .second, .val (.int (1 : Int32)), .val (.long r), .second, .val (.long d), .second, .val (.long q), .second] [(.long q), (.double (own_pm q (120000000000 : Int64)))])) _
      refine XS.l2dS X5.here hx rfl (hb hby at_223) rfl rfl ?_
      show Steps p.tables e below (T5.setTop (mkF m 224 #[.val (.long p1), .second, .val (.long p2), .second, .val (.int p3), .val (.int p4), .val (.double v), .second, .val (.int (1 : Int32)), .val (.long r), .second, .val (.long d), .second, .val (.long q), .second] [(.double (FP.l2d q)), (.double (own_pm q (120000000000 : Int64)))])) _
      refine X5.ldc2DoubleC hx hown (mvT hZ (hw _ (List.mem_of_getElem? (i := 9) rfl))) (g := (mkF m 224 #[.val (.long p1), .second, .val (.long p2), .second, .val (.int p3), .val (.int p4), .val (.double v), .second, .val (.int (1 : Int32)), .val (.long r), .second, .val (.long d), .second, .val (.long q), .second] [(.double (FP.l2d q)), (.double (own_pm q (120000000000 : Int64)))])) rfl (hb hby at_224) _ ?_
      show Steps p.tables e below (T5.setTop (mkF m 227 #[.val (.long p1), .second, .val (.long p2), .second, .val (.int p3), .val (.int p4), .val (.double v), .second, .val (.int (1 : Int32)), .val (.long r), .second, .val (.long d), .second, .val (.long q), .second] [(.double (4611686018427387904 : UInt64)), (.double (FP.l2d q)), (.double (own_pm q (120000000000 : Int64)))])) _
      refine XS.ddivS X5.here hx rfl (hb hby at_227) rfl fnn rfl ?_
      show Steps p.tables e below (T5.setTop (mkF m 228 #[.val (.long p1), .second, .val (.long p2), .second, .val (.int p3), .val (.int p4), .val (.double v), .second, .val (.int (1 : Int32)), .val (.long r), .second, .val (.long d), .second, .val (.long q), .second] [(.double (FP.ddiv (FP.l2d q) (4611686018427387904 : UInt64))), (.double (own_pm q (120000000000 : Int64)))])) _
      refine XS.dcmpS X5.here hx rfl (hb hby at_228) rfl four ?_
      show Steps p.tables e below (T5.setTop (mkF m 229 #[.val (.long p1), .second, .val (.long p2), .second, .val (.int p3), .val (.int p4), .val (.double v), .second, .val (.int (1 : Int32)), .val (.long r), .second, .val (.long d), .second, .val (.long q), .second] [(.int (0 : Int32))])) _
      refine XS.ifNo X5.here hx rfl (hb hby at_229) rfl ((if0 _ _).trans (teq rfl).2) ?_
      show Steps p.tables e below (T5.setTop (mkF m 232 #[.val (.long p1), .second, .val (.long p2), .second, .val (.int p3), .val (.int p4), .val (.double v), .second, .val (.int (1 : Int32)), .val (.long r), .second, .val (.long d), .second, .val (.long q), .second] [])) _
      refine XS.iconst X5.here hx rfl (hb hby at_232) ?_
      show Steps p.tables e below (T5.setTop (mkF m 233 #[.val (.long p1), .second, .val (.long p2), .second, .val (.int p3), .val (.int p4), .val (.double v), .second, .val (.int (1 : Int32)), .val (.long r), .second, .val (.long d), .second, .val (.long q), .second] [(.int (1 : Int32))])) _
      refine XS.goto X5.here hx rfl (pc0 := 233) (pc' := 237) rfl (hb hby at_233) (by decide) (by decide) ?_
      show Steps p.tables e below (T5.setTop (mkF m 237 #[.val (.long p1), .second, .val (.long p2), .second, .val (.int p3), .val (.int p4), .val (.double v), .second, .val (.int (1 : Int32)), .val (.long r), .second, .val (.long d), .second, .val (.long q), .second] [(.int (1 : Int32))])) _
      refine XS.istore X5.here hx rfl (hb hby at_237) rfl (l' := #[.val (.long p1), .second, .val (.long p2), .second, .val (.int p3), .val (.int p4), .val (.double v), .second, .val (.int (1 : Int32)), .val (.long r), .second, .val (.long d), .second, .val (.long q), .second]) rfl ?_
      show Steps p.tables e below (T5.setTop (mkF m 239 #[.val (.long p1), .second, .val (.long p2), .second, .val (.int p3), .val (.int p4), .val (.double v), .second, .val (.int (1 : Int32)), .val (.long r), .second, .val (.long d), .second, .val (.long q), .second] [])) _
      refine XS.iload X5.here hx rfl (hb hby at_239) rfl ?_
      show Steps p.tables e below (T5.setTop (mkF m 241 #[.val (.long p1), .second, .val (.long p2), .second, .val (.int p3), .val (.int p4), .val (.double v), .second, .val (.int (1 : Int32)), .val (.long r), .second, .val (.long d), .second, .val (.long q), .second] [(.int (1 : Int32))])) _
      exact retN X5 hx (t := .boolean) Bd.returns (by simp) (hb hby at_241) hr
    have k113 : Steps p.tables e below (T1.setTop (mkF m 113 #[.val (.long p1), .second, .val (.long p2), .second, .val (.int p3), .val (.int p4), .val (.double v), .second, .unset, .unset, .unset, .unset, .unset, .unset, .unset] [(.int (1 : Int32))])) (T5.setFrames fs) := by
      show Steps p.tables e below (T1.setTop (mkF m 113 #[.val (.long p1), .second, .val (.long p2), .second, .val (.int p3), .val (.int p4), .val (.double v), .second, .unset, .unset, .unset, .unset, .unset, .unset, .unset] [(.int (1 : Int32))])) _
      refine XS.istore X1.here hx rfl (hb hby at_113) rfl (l' := #[.val (.long p1), .second, .val (.long p2), .second, .val (.int p3), .val (.int p4), .val (.double v), .second, .val (.int (1 : Int32)), .unset, .unset, .unset, .unset, .unset, .unset]) rfl ?_
      show Steps p.tables e below (T1.setTop (mkF m 115 #[.val (.long p1), .second, .val (.long p2), .second, .val (.int p3), .val (.int p4), .val (.double v), .second, .val (.int (1 : Int32)), .unset, .unset, .unset, .unset, .unset, .unset] [])) _
      exact st3 _ k148
    have k25 : Steps p.tables e below (T1.setTop (mkF m 25 #[.val (.long p1), .second, .val (.long p2), .second, .val (.int p3), .val (.int p4), .val (.double v), .second, .unset, .unset, .unset, .unset, .unset, .unset, .unset] [(.int (1 : Int32))])) (T5.setFrames fs) := by
      show Steps p.tables e below (T1.setTop (mkF m 25 #[.val (.long p1), .second, .val (.long p2), .second, .val (.int p3), .val (.int p4), .val (.double v), .second, .unset, .unset, .unset, .unset, .unset, .unset, .unset] [(.int (1 : Int32))])) _
      refine XS.istore X1.here hx rfl (hb hby at_25) rfl (l' := #[.val (.long p1), .second, .val (.long p2), .second, .val (.int p3), .val (.int p4), .val (.double v), .second, .val (.int (1 : Int32)), .unset, .unset, .unset, .unset, .unset, .unset]) rfl ?_
      show Steps p.tables e below (T1.setTop (mkF m 27 #[.val (.long p1), .second, .val (.long p2), .second, .val (.int p3), .val (.int p4), .val (.double v), .second, .val (.int (1 : Int32)), .unset, .unset, .unset, .unset, .unset, .unset] [])) _
      refine XS.goto X1.here hx rfl (pc0 := 27) (pc' := 115) rfl (hb hby at_27) (by decide) (by decide) ?_
      show Steps p.tables e below (T1.setTop (mkF m 115 #[.val (.long p1), .second, .val (.long p2), .second, .val (.int p3), .val (.int p4), .val (.double v), .second, .val (.int (1 : Int32)), .unset, .unset, .unset, .unset, .unset, .unset] [])) _
      exact st3 _ k148
    show Steps p.tables e below (s₁.setTop (mkF m 0 #[.val (.long p1), .second, .val (.long p2), .second, .val (.int p3), .val (.int p4), .unset, .unset, .unset, .unset, .unset, .unset, .unset, .unset, .unset] [])) _
    refine XS.lloadN X0.here hx rfl (hb hby at_0) rfl ?_
    show Steps p.tables e below (s₁.setTop (mkF m 1 #[.val (.long p1), .second, .val (.long p2), .second, .val (.int p3), .val (.int p4), .unset, .unset, .unset, .unset, .unset, .unset, .unset, .unset, .unset] [(.long p1)])) _
    refine XS.lloadN X0.here hx rfl (hb hby at_1) rfl ?_
    show Steps p.tables e below (s₁.setTop (mkF m 2 #[.val (.long p1), .second, .val (.long p2), .second, .val (.int p3), .val (.int p4), .unset, .unset, .unset, .unset, .unset, .unset, .unset, .unset, .unset] [(.long p2), (.long p1)])) _
    refine st1 _ ?_
    show Steps p.tables e below (T1.setTop (mkF m 5 #[.val (.long p1), .second, .val (.long p2), .second, .val (.int p3), .val (.int p4), .unset, .unset, .unset, .unset, .unset, .unset, .unset, .unset, .unset] [(.double v)])) _
    refine XS.dstore X1.here hx rfl (hb hby at_5) rfl (l' := #[.val (.long p1), .second, .val (.long p2), .second, .val (.int p3), .val (.int p4), .val (.double v), .second, .unset, .unset, .unset, .unset, .unset, .unset, .unset]) rfl ?_
    show Steps p.tables e below (T1.setTop (mkF m 7 #[.val (.long p1), .second, .val (.long p2), .second, .val (.int p3), .val (.int p4), .val (.double v), .second, .unset, .unset, .unset, .unset, .unset, .unset, .unset] [])) _
    refine XS.lloadN X1.here hx rfl (hb hby at_7) rfl ?_
    show Steps p.tables e below (T1.setTop (mkF m 8 #[.val (.long p1), .second, .val (.long p2), .second, .val (.int p3), .val (.int p4), .val (.double v), .second, .unset, .unset, .unset, .unset, .unset, .unset, .unset] [(.long p2)])) _
    refine XS.lconst X1.here hx rfl (hb hby at_8) ?_
    show Steps p.tables e below (T1.setTop (mkF m 9 #[.val (.long p1), .second, .val (.long p2), .second, .val (.int p3), .val (.int p4), .val (.double v), .second, .unset, .unset, .unset, .unset, .unset, .unset, .unset] [(.long (0 : Int64)), (.long p2)])) _
    refine XS.lcmp X1.here hx rfl (hb hby at_9) rfl ?_
    show Steps p.tables e below (T1.setTop (mkF m 10 #[.val (.long p1), .second, .val (.long p2), .second, .val (.int p3), .val (.int p4), .val (.double v), .second, .unset, .unset, .unset, .unset, .unset, .unset, .unset] [(.int (lcmpW p2 (0 : Int64)))])) _
    by_cases c1 : (0 : Int64) < p2
    · obtain ⟨sp, sn, sz⟩ := own_pm_sign (r := p1) c1
      rw [← hv] at sp sn sz
      refine XS.ifYes X1.here hx rfl (pc0 := 10) (pc' := 30) rfl (hb hby at_10) rfl ((if0 _ _).trans (tlt ((lw_gt _ _).mpr c1)).2.2.1) (by decide) (by decide) ?_
      show Steps p.tables e below (T1.setTop (mkF m 30 #[.val (.long p1), .second, .val (.long p2), .second, .val (.int p3), .val (.int p4), .val (.double v), .second, .unset, .unset, .unset, .unset, .unset, .unset, .unset] [])) _
      by_cases c2 : (0 : Int64) < p1
      · have n2 : ¬ p1 < (0 : Int64) := fun q => by rw [Int64.lt_iff_toInt_lt] at q c2; omega
        have n3 : ¬ p1 = (0 : Int64) := fun q => by rw [q] at c2; exact absurd c2 (by decide)
        have cl : cmpValue (FP.dcmp v FP.dconst0) .l = (1 : Int32) := (own_cmp0 vn .l).2.1 (sp c2)
        have cg : cmpValue (FP.dcmp v FP.dconst0) .g = (1 : Int32) := (own_cmp0 vn .g).2.1 (sp c2)
        show Steps p.tables e below (T1.setTop (mkF m 30 #[.val (.long p1), .second, .val (.long p2), .second, .val (.int p3), .val (.int p4), .val (.double v), .second, .unset, .unset, .unset, .unset, .unset, .unset, .unset] [])) _
        refine XS.lloadN X1.here hx rfl (hb hby at_30) rfl ?_
        show Steps p.tables e below (T1.setTop (mkF m 31 #[.val (.long p1), .second, .val (.long p2), .second, .val (.int p3), .val (.int p4), .val (.double v), .second, .unset, .unset, .unset, .unset, .unset, .unset, .unset] [(.long p1)])) _
        refine XS.lconst X1.here hx rfl (hb hby at_31) ?_
        show Steps p.tables e below (T1.setTop (mkF m 32 #[.val (.long p1), .second, .val (.long p2), .second, .val (.int p3), .val (.int p4), .val (.double v), .second, .unset, .unset, .unset, .unset, .unset, .unset, .unset] [(.long (0 : Int64)), (.long p1)])) _
        refine XS.lcmp X1.here hx rfl (hb hby at_32) rfl ?_
        show Steps p.tables e below (T1.setTop (mkF m 33 #[.val (.long p1), .second, .val (.long p2), .second, .val (.int p3), .val (.int p4), .val (.double v), .second, .unset, .unset, .unset, .unset, .unset, .unset, .unset] [(.int (lcmpW p1 (0 : Int64)))])) _
        refine XS.ifNo X1.here hx rfl (hb hby at_33) rfl ((if0 _ _).trans (tlt ((lw_gt _ _).mpr c2)).2.2.2) ?_
        show Steps p.tables e below (T1.setTop (mkF m 36 #[.val (.long p1), .second, .val (.long p2), .second, .val (.int p3), .val (.int p4), .val (.double v), .second, .unset, .unset, .unset, .unset, .unset, .unset, .unset] [])) _
        refine XS.iconst X1.here hx rfl (hb hby at_36) ?_
        show Steps p.tables e below (T1.setTop (mkF m 37 #[.val (.long p1), .second, .val (.long p2), .second, .val (.int p3), .val (.int p4), .val (.double v), .second, .unset, .unset, .unset, .unset, .unset, .unset, .unset] [(.int (1 : Int32))])) _
        refine XS.goto X1.here hx rfl (pc0 := 37) (pc' := 41) rfl (hb hby at_37) (by decide) (by decide) ?_
        show Steps p.tables e below (T1.setTop (mkF m 41 #[.val (.long p1), .second, .val (.long p2), .second, .val (.int p3), .val (.int p4), .val (.double v), .second, .unset, .unset, .unset, .unset, .unset, .unset, .unset] [(.int (1 : Int32))])) _
        refine XS.dload X1.here hx rfl (hb hby at_41) rfl ?_
        show Steps p.tables e below (T1.setTop (mkF m 43 #[.val (.long p1), .second, .val (.long p2), .second, .val (.int p3), .val (.int p4), .val (.double v), .second, .unset, .unset, .unset, .unset, .unset, .unset, .unset] [(.double v), (.int (1 : Int32))])) _
        refine XS.dconst0 X1.here hx rfl (hb hby at_43) rfl ?_
        show Steps p.tables e below (T1.setTop (mkF m 44 #[.val (.long p1), .second, .val (.long p2), .second, .val (.int p3), .val (.int p4), .val (.double v), .second, .unset, .unset, .unset, .unset, .unset, .unset, .unset] [(.double FP.dconst0), (.double v), (.int (1 : Int32))])) _
        refine XS.dcmpS X1.here hx rfl (hb hby at_44) rfl cl ?_
        show Steps p.tables e below (T1.setTop (mkF m 45 #[.val (.long p1), .second, .val (.long p2), .second, .val (.int p3), .val (.int p4), .val (.double v), .second, .unset, .unset, .unset, .unset, .unset, .unset, .unset] [(.int (1 : Int32)), (.int (1 : Int32))])) _
        refine XS.ifNo X1.here hx rfl (hb hby at_45) rfl ((if0 _ _).trans (tlt (by decide)).2.2.2) ?_
        show Steps p.tables e below (T1.setTop (mkF m 48 #[.val (.long p1), .second, .val (.long p2), .second, .val (.int p3), .val (.int p4), .val (.double v), .second, .unset, .unset, .unset, .unset, .unset, .unset, .unset] [(.int (1 : Int32))])) _
        refine XS.iconst X1.here hx rfl (hb hby at_48) ?_
        show Steps p.tables e below (T1.setTop (mkF m 49 #[.val (.long p1), .second, .val (.long p2), .second, .val (.int p3), .val (.int p4), .val (.double v), .second, .unset, .unset, .unset, .unset, .unset, .unset, .unset] [(.int (1 : Int32)), (.int (1 : Int32))])) _
        refine XS.goto X1.here hx rfl (pc0 := 49) (pc' := 53) rfl (hb hby at_49) (by decide) (by decide) ?_
        show Steps p.tables e below (T1.setTop (mkF m 53 #[.val (.long p1), .second, .val (.long p2), .second, .val (.int p3), .val (.int p4), .val (.double v), .second, .unset, .unset, .unset, .unset, .unset, .unset, .unset] [(.int (1 : Int32)), (.int (1 : Int32))])) _
        refine XS.icmpNo X1.here hx rfl (hb hby at_53) rfl (teq rfl).2 ?_
        show Steps p.tables e below (T1.setTop (mkF m 56 #[.val (.long p1), .second, .val (.long p2), .second, .val (.int p3), .val (.int p4), .val (.double v), .second, .unset, .unset, .unset, .unset, .unset, .unset, .unset] [])) _
        refine XS.lloadN X1.here hx rfl (hb hby at_56) rfl ?_
        show Steps p.tables e below (T1.setTop (mkF m 57 #[.val (.long p1), .second, .val (.long p2), .second, .val (.int p3), .val (.int p4), .val (.double v), .second, .unset, .unset, .unset, .unset, .unset, .unset, .unset] [(.long p1)])) _
        refine XS.lconst X1.here hx rfl (hb hby at_57) ?_
        show Steps p.tables e below (T1.setTop (mkF m 58 #[.val (.long p1), .second, .val (.long p2), .second, .val (.int p3), .val (.int p4), .val (.double v), .second, .unset, .unset, .unset, .unset, .unset, .unset, .unset] [(.long (0 : Int64)), (.long p1)])) _
        refine XS.lcmp X1.here hx rfl (hb hby at_58) rfl ?_
        show Steps p.tables e below (T1.setTop (mkF m 59 #[.val (.long p1), .second, .val (.long p2), .second, .val (.int p3), .val (.int p4), .val (.double v), .second, .unset, .unset, .unset, .unset, .unset, .unset, .unset] [(.int (lcmpW p1 (0 : Int64)))])) _
        refine XS.ifYes X1.here hx rfl (pc0 := 59) (pc' := 66) rfl (hb hby at_59) rfl ((if0 _ _).trans (flt (fun q => n2 ((lw_lt _ _).mp q))).2.1) (by decide) (by decide) ?_
        show Steps p.tables e below (T1.setTop (mkF m 66 #[.val (.long p1), .second, .val (.long p2), .second, .val (.int p3), .val (.int p4), .val (.double v), .second, .unset, .unset, .unset, .unset, .unset, .unset, .unset] [])) _
        refine XS.iconst X1.here hx rfl (hb hby at_66) ?_
        show Steps p.tables e below (T1.setTop (mkF m 67 #[.val (.long p1), .second, .val (.long p2), .second, .val (.int p3), .val (.int p4), .val (.double v), .second, .unset, .unset, .unset, .unset, .unset, .unset, .unset] [(.int (0 : Int32))])) _
        refine XS.dload X1.here hx rfl (hb hby at_67) rfl ?_
        show Steps p.tables e below (T1.setTop (mkF m 69 #[.val (.long p1), .second, .val (.long p2), .second, .val (.int p3), .val (.int p4), .val (.double v), .second, .unset, .unset, .unset, .unset, .unset, .unset, .unset] [(.double v), (.int (0 : Int32))])) _
        refine XS.dconst0 X1.here hx rfl (hb hby at_69) rfl ?_
        show Steps p.tables e below (T1.setTop (mkF m 70 #[.val (.long p1), .second, .val (.long p2), .second, .val (.int p3), .val (.int p4), .val (.double v), .second, .unset, .unset, .unset, .unset, .unset, .unset, .unset] [(.double FP.dconst0), (.double v), (.int (0 : Int32))])) _
        refine XS.dcmpS X1.here hx rfl (hb hby at_70) rfl cg ?_
        show Steps p.tables e below (T1.setTop (mkF m 71 #[.val (.long p1), .second, .val (.long p2), .second, .val (.int p3), .val (.int p4), .val (.double v), .second, .unset, .unset, .unset, .unset, .unset, .unset, .unset] [(.int (1 : Int32)), (.int (0 : Int32))])) _
        refine XS.ifYes X1.here hx rfl (pc0 := 71) (pc' := 78) rfl (hb hby at_71) rfl ((if0 _ _).trans (flt (by decide)).2.1) (by decide) (by decide) ?_
        show Steps p.tables e below (T1.setTop (mkF m 78 #[.val (.long p1), .second, .val (.long p2), .second, .val (.int p3), .val (.int p4), .val (.double v), .second, .unset, .unset, .unset, .unset, .unset, .unset, .unset] [(.int (0 : Int32))])) _
        refine XS.iconst X1.here hx rfl (hb hby at_78) ?_
        show Steps p.tables e below (T1.setTop (mkF m 79 #[.val (.long p1), .second, .val (.long p2), .second, .val (.int p3), .val (.int p4), .val (.double v), .second, .unset, .unset, .unset, .unset, .unset, .unset, .unset] [(.int (0 : Int32)), (.int (0 : Int32))])) _
        refine XS.icmpNo X1.here hx rfl (hb hby at_79) rfl (teq rfl).2 ?_
        show Steps p.tables e below (T1.setTop (mkF m 82 #[.val (.long p1), .second, .val (.long p2), .second, .val (.int p3), .val (.int p4), .val (.double v), .second, .unset, .unset, .unset, .unset, .unset, .unset, .unset] [])) _
        refine XS.lloadN X1.here hx rfl (hb hby at_82) rfl ?_
        show Steps p.tables e below (T1.setTop (mkF m 83 #[.val (.long p1), .second, .val (.long p2), .second, .val (.int p3), .val (.int p4), .val (.double v), .second, .unset, .unset, .unset, .unset, .unset, .unset, .unset] [(.long p1)])) _
        refine XS.lconst X1.here hx rfl (hb hby at_83) ?_
        show Steps p.tables e below (T1.setTop (mkF m 84 #[.val (.long p1), .second, .val (.long p2), .second, .val (.int p3), .val (.int p4), .val (.double v), .second, .unset, .unset, .unset, .unset, .unset, .unset, .unset] [(.long (0 : Int64)), (.long p1)])) _
        refine XS.lcmp X1.here hx rfl (hb hby at_84) rfl ?_
        show Steps p.tables e below (T1.setTop (mkF m 85 #[.val (.long p1), .second, .val (.long p2), .second, .val (.int p3), .val (.int p4), .val (.double v), .second, .unset, .unset, .unset, .unset, .unset, .unset, .unset] [(.int (lcmpW p1 (0 : Int64)))])) _
        refine XS.ifYes X1.here hx rfl (pc0 := 85) (pc' := 92) rfl (hb hby at_85) rfl ((if0 _ _).trans (feq (fun q => n3 ((lw_eq _ _).mp q))).2) (by decide) (by decide) ?_
        show Steps p.tables e below (T1.setTop (mkF m 92 #[.val (.long p1), .second, .val (.long p2), .second, .val (.int p3), .val (.int p4), .val (.double v), .second, .unset, .unset, .unset, .unset, .unset, .unset, .unset] [])) _
        refine XS.iconst X1.here hx rfl (hb hby at_92) ?_
        show Steps p.tables e below (T1.setTop (mkF m 93 #[.val (.long p1), .second, .val (.long p2), .second, .val (.int p3), .val (.int p4), .val (.double v), .second, .unset, .unset, .unset, .unset, .unset, .unset, .unset] [(.int (0 : Int32))])) _
        refine XS.dload X1.here hx rfl (hb hby at_93) rfl ?_
        show Steps p.tables e below (T1.setTop (mkF m 95 #[.val (.long p1), .second, .val (.long p2), .second, .val (.int p3), .val (.int p4), .val (.double v), .second, .unset, .unset, .unset, .unset, .unset, .unset, .unset] [(.double v), (.int (0 : Int32))])) _
        refine XS.dconst0 X1.here hx rfl (hb hby at_95) rfl ?_
        show Steps p.tables e below (T1.setTop (mkF m 96 #[.val (.long p1), .second, .val (.long p2), .second, .val (.int p3), .val (.int p4), .val (.double v), .second, .unset, .unset, .unset, .unset, .unset, .unset, .unset] [(.double FP.dconst0), (.double v), (.int (0 : Int32))])) _
        refine XS.dcmpS X1.here hx rfl (hb hby at_96) rfl cl ?_
        show Steps p.tables e below (T1.setTop (mkF m 97 #[.val (.long p1), .second, .val (.long p2), .second, .val (.int p3), .val (.int p4), .val (.double v), .second, .unset, .unset, .unset, .unset, .unset, .unset, .unset] [(.int (1 : Int32)), (.int (0 : Int32))])) _
        refine XS.ifYes X1.here hx rfl (pc0 := 97) (pc' := 104) rfl (hb hby at_97) rfl ((if0 _ _).trans (feq (by decide)).2) (by decide) (by decide) ?_
        show Steps p.tables e below (T1.setTop (mkF m 104 #[.val (.long p1), .second, .val (.long p2), .second, .val (.int p3), .val (.int p4), .val (.double v), .second, .unset, .unset, .unset, .unset, .unset, .unset, .unset] [(.int (0 : Int32))])) _
        refine XS.iconst X1.here hx rfl (hb hby at_104) ?_
        show Steps p.tables e below (T1.setTop (mkF m 105 #[.val (.long p1), .second, .val (.long p2), .second, .val (.int p3), .val (.int p4), .val (.double v), .second, .unset, .unset, .unset, .unset, .unset, .unset, .unset] [(.int (0 : Int32)), (.int (0 : Int32))])) _
        refine XS.icmpNo X1.here hx rfl (hb hby at_105) rfl (teq rfl).2 ?_
        show Steps p.tables e below (T1.setTop (mkF m 108 #[.val (.long p1), .second, .val (.long p2), .second, .val (.int p3), .val (.int p4), .val (.double v), .second, .unset, .unset, .unset, .unset, .unset, .unset, .unset] [])) _
        refine XS.iconst X1.here hx rfl (hb hby at_108) ?_
        show Steps p.tables e below (T1.setTop (mkF m 109 #[.val (.long p1), .second, .val (.long p2), .second, .val (.int p3), .val (.int p4), .val (.double v), .second, .unset, .unset, .unset, .unset, .unset, .unset, .unset] [(.int (1 : Int32))])) _
        refine XS.goto X1.here hx rfl (pc0 := 109) (pc' := 113) rfl (hb hby at_109) (by decide) (by decide) ?_
        show Steps p.tables e below (T1.setTop (mkF m 113 #[.val (.long p1), .second, .val (.long p2), .second, .val (.int p3), .val (.int p4), .val (.double v), .second, .unset, .unset, .unset, .unset, .unset, .unset, .unset] [(.int (1 : Int32))])) _
        exact k113
      · by_cases c3 : p1 < (0 : Int64)
        · have n3 : ¬ p1 = (0 : Int64) := fun q => by rw [q] at c3; exact absurd c3 (by decide)
          have cl : cmpValue (FP.dcmp v FP.dconst0) .l = (-1 : Int32) := (own_cmp0 vn .l).2.2 (sn c3)
          have cg : cmpValue (FP.dcmp v FP.dconst0) .g = (-1 : Int32) := (own_cmp0 vn .g).2.2 (sn c3)
          show Steps p.tables e below (T1.setTop (mkF m 30 #[.val (.long p1), .second, .val (.long p2), .second, .val (.int p3), .val (.int p4), .val (.double v), .second, .unset, .unset, .unset, .unset, .unset, .unset, .unset] [])) _
          refine XS.lloadN X1.here hx rfl (hb hby at_30) rfl ?_
          show Steps p.tables e below (T1.setTop (mkF m 31 #[.val (.long p1), .second, .val (.long p2), .second, .val (.int p3), .val (.int p4), .val (.double v), .second, .unset, .unset, .unset, .unset, .unset, .unset, .unset] [(.long p1)])) _
          refine XS.lconst X1.here hx rfl (hb hby at_31) ?_
          show Steps p.tables e below (T1.setTop (mkF m 32 #[.val (.long p1), .second, .val (.long p2), .second, .val (.int p3), .val (.int p4), .val (.double v), .second, .unset, .unset, .unset, .unset, .unset, .unset, .unset] [(.long (0 : Int64)), (.long p1)])) _
          refine XS.lcmp X1.here hx rfl (hb hby at_32) rfl ?_
          show Steps p.tables e below (T1.setTop (mkF m 33 #[.val (.long p1), .second, .val (.long p2), .second, .val (.int p3), .val (.int p4), .val (.double v), .second, .unset, .unset, .unset, .unset, .unset, .unset, .unset] [(.int (lcmpW p1 (0 : Int64)))])) _
          refine XS.ifYes X1.here hx rfl (pc0 := 33) (pc' := 40) rfl (hb hby at_33) rfl ((if0 _ _).trans (flt (fun q => c2 ((lw_gt _ _).mp q))).2.2.2) (by decide) (by decide) ?_
          show Steps p.tables e below (T1.setTop (mkF m 40 #[.val (.long p1), .second, .val (.long p2), .second, .val (.int p3), .val (.int p4), .val (.double v), .second, .unset, .unset, .unset, .unset, .unset, .unset, .unset] [])) _
          refine XS.iconst X1.here hx rfl (hb hby at_40) ?_
          show Steps p.tables e below (T1.setTop (mkF m 41 #[.val (.long p1), .second, .val (.long p2), .second, .val (.int p3), .val (.int p4), .val (.double v), .second, .unset, .unset, .unset, .unset, .unset, .unset, .unset] [(.int (0 : Int32))])) _
          refine XS.dload X1.here hx rfl (hb hby at_41) rfl ?_
          show Steps p.tables e below (T1.setTop (mkF m 43 #[.val (.long p1), .second, .val (.long p2), .second, .val (.int p3), .val (.int p4), .val (.double v), .second, .unset, .unset, .unset, .unset, .unset, .unset, .unset] [(.double v), (.int (0 : Int32))])) _
          refine XS.dconst0 X1.here hx rfl (hb hby at_43) rfl ?_
          show Steps p.tables e below (T1.setTop (mkF m 44 #[.val (.long p1), .second, .val (.long p2), .second, .val (.int p3), .val (.int p4), .val (.double v), .second, .unset, .unset, .unset, .unset, .unset, .unset, .unset] [(.double FP.dconst0), (.double v), (.int (0 : Int32))])) _
          refine XS.dcmpS X1.here hx rfl (hb hby at_44) rfl cl ?_
          show Steps p.tables e below (T1.setTop (mkF m 45 #[.val (.long p1), .second, .val (.long p2), .second, .val (.int p3), .val (.int p4), .val (.double v), .second, .unset, .unset, .unset, .unset, .unset, .unset, .unset] [(.int (-1 : Int32)), (.int (0 : Int32))])) _
          refine XS.ifYes X1.here hx rfl (pc0 := 45) (pc' := 52) rfl (hb hby at_45) rfl ((if0 _ _).trans (flt (by decide)).2.2.2) (by decide) (by decide) ?_
          show Steps p.tables e below (T1.setTop (mkF m 52 #[.val (.long p1), .second, .val (.long p2), .second, .val (.int p3), .val (.int p4), .val (.double v), .second, .unset, .unset, .unset, .unset, .unset, .unset, .unset] [(.int (0 : Int32))])) _
          refine XS.iconst X1.here hx rfl (hb hby at_52) ?_
          show Steps p.tables e below (T1.setTop (mkF m 53 #[.val (.long p1), .second, .val (.long p2), .second, .val (.int p3), .val (.int p4), .val (.double v), .second, .unset, .unset, .unset, .unset, .unset, .unset, .unset] [(.int (0 : Int32)), (.int (0 : Int32))])) _
          refine XS.icmpNo X1.here hx rfl (hb hby at_53) rfl (teq rfl).2 ?_
          show Steps p.tables e below (T1.setTop (mkF m 56 #[.val (.long p1), .second, .val (.long p2), .second, .val (.int p3), .val (.int p4), .val (.double v), .second, .unset, .unset, .unset, .unset, .unset, .unset, .unset] [])) _
          refine XS.lloadN X1.here hx rfl (hb hby at_56) rfl ?_
          show Steps p.tables e below (T1.setTop (mkF m 57 #[.val (.long p1), .second, .val (.long p2), .second, .val (.int p3), .val (.int p4), .val (.double v), .second, .unset, .unset, .unset, .unset, .unset, .unset, .unset] [(.long p1)])) _
          refine XS.lconst X1.here hx rfl (hb hby at_57) ?_
          show Steps p.tables e below (T1.setTop (mkF m 58 #[.val (.long p1), .second, .val (.long p2), .second, .val (.int p3), .val (.int p4), .val (.double v), .second, .unset, .unset, .unset, .unset, .unset, .unset, .unset] [(.long (0 : Int64)), (.long p1)])) _
          refine XS.lcmp X1.here hx rfl (hb hby at_58) rfl ?_
          show Steps p.tables e below (T1.setTop (mkF m 59 #[.val (.long p1), .second, .val (.long p2), .second, .val (.int p3), .val (.int p4), .val (.double v), .second, .unset, .unset, .unset, .unset, .unset, .unset, .unset] [(.int (lcmpW p1 (0 : Int64)))])) _
          refine XS.ifNo X1.here hx rfl (hb hby at_59) rfl ((if0 _ _).trans (tlt ((lw_lt _ _).mpr c3)).2.1) ?_
          show Steps p.tables e below (T1.setTop (mkF m 62 #[.val (.long p1), .second, .val (.long p2), .second, .val (.int p3), .val (.int p4), .val (.double v), .second, .unset, .unset, .unset, .unset, .unset, .unset, .unset] [])) _
          refine XS.iconst X1.here hx rfl (hb hby at_62) ?_
          show Steps p.tables e below (T1.setTop (mkF m 63 #[.val (.long p1), .second, .val (.long p2), .second, .val (.int p3), .val (.int p4), .val (.double v), .second, .unset, .unset, .unset, .unset, .unset, .unset, .unset] [(.int (1 : Int32))])) _
          refine XS.goto X1.here hx rfl (pc0 := 63) (pc' := 67) rfl (hb hby at_63) (by decide) (by decide) ?_
          show Steps p.tables e below (T1.setTop (mkF m 67 #[.val (.long p1), .second, .val (.long p2), .second, .val (.int p3), .val (.int p4), .val (.double v), .second, .unset, .unset, .unset, .unset, .unset, .unset, .unset] [(.int (1 : Int32))])) _
          refine XS.dload X1.here hx rfl (hb hby at_67) rfl ?_
          show Steps p.tables e below (T1.setTop (mkF m 69 #[.val (.long p1), .second, .val (.long p2), .second, .val (.int p3), .val (.int p4), .val (.double v), .second, .unset, .unset, .unset, .unset, .unset, .unset, .unset] [(.double v), (.int (1 : Int32))])) _
          refine XS.dconst0 X1.here hx rfl (hb hby at_69) rfl ?_
          show Steps p.tables e below (T1.setTop (mkF m 70 #[.val (.long p1), .second, .val (.long p2), .second, .val (.int p3), .val (.int p4), .val (.double v), .second, .unset, .unset, .unset, .unset, .unset, .unset, .unset] [(.double FP.dconst0), (.double v), (.int (1 : Int32))])) _
          refine XS.dcmpS X1.here hx rfl (hb hby at_70) rfl cg ?_
          show Steps p.tables e below (T1.setTop (mkF m 71 #[.val (.long p1), .second, .val (.long p2), .second, .val (.int p3), .val (.int p4), .val (.double v), .second, .unset, .unset, .unset, .unset, .unset, .unset, .unset] [(.int (-1 : Int32)), (.int (1 : Int32))])) _
          refine XS.ifNo X1.here hx rfl (hb hby at_71) rfl ((if0 _ _).trans (tlt (by decide)).2.1) ?_
          show Steps p.tables e below (T1.setTop (mkF m 74 #[.val (.long p1), .second, .val (.long p2), .second, .val (.int p3), .val (.int p4), .val (.double v), .second, .unset, .unset, .unset, .unset, .unset, .unset, .unset] [(.int (1 : Int32))])) _
          refine XS.iconst X1.here hx rfl (hb hby at_74) ?_
          show Steps p.tables e below (T1.setTop (mkF m 75 #[.val (.long p1), .second, .val (.long p2), .second, .val (.int p3), .val (.int p4), .val (.double v), .second, .unset, .unset, .unset, .unset, .unset, .unset, .unset] [(.int (1 : Int32)), (.int (1 : Int32))])) _
          refine XS.goto X1.here hx rfl (pc0 := 75) (pc' := 79) rfl (hb hby at_75) (by decide) (by decide) ?_
          show Steps p.tables e below (T1.setTop (mkF m 79 #[.val (.long p1), .second, .val (.long p2), .second, .val (.int p3), .val (.int p4), .val (.double v), .second, .unset, .unset, .unset, .unset, .unset, .unset, .unset] [(.int (1 : Int32)), (.int (1 : Int32))])) _
          refine XS.icmpNo X1.here hx rfl (hb hby at_79) rfl (teq rfl).2 ?_
          show Steps p.tables e below (T1.setTop (mkF m 82 #[.val (.long p1), .second, .val (.long p2), .second, .val (.int p3), .val (.int p4), .val (.double v), .second, .unset, .unset, .unset, .unset, .unset, .unset, .unset] [])) _
          refine XS.lloadN X1.here hx rfl (hb hby at_82) rfl ?_
          show Steps p.tables e below (T1.setTop (mkF m 83 #[.val (.long p1), .second, .val (.long p2), .second, .val (.int p3), .val (.int p4), .val (.double v), .second, .unset, .unset, .unset, .unset, .unset, .unset, .unset] [(.long p1)])) _
          refine XS.lconst X1.here hx rfl (hb hby at_83) ?_
          show Steps p.tables e below (T1.setTop (mkF m 84 #[.val (.long p1), .second, .val (.long p2), .second, .val (.int p3), .val (.int p4), .val (.double v), .second, .unset, .unset, .unset, .unset, .unset, .unset, .unset] [(.long (0 : Int64)), (.long p1)])) _
          refine XS.lcmp X1.here hx rfl (hb hby at_84) rfl ?_
          show Steps p.tables e below (T1.setTop (mkF m 85 #[.val (.long p1), .second, .val (.long p2), .second, .val (.int p3), .val (.int p4), .val (.double v), .second, .unset, .unset, .unset, .unset, .unset, .unset, .unset] [(.int (lcmpW p1 (0 : Int64)))])) _
          refine XS.ifYes X1.here hx rfl (pc0 := 85) (pc' := 92) rfl (hb hby at_85) rfl ((if0 _ _).trans (feq (fun q => n3 ((lw_eq _ _).mp q))).2) (by decide) (by decide) ?_
          show Steps p.tables e below (T1.setTop (mkF m 92 #[.val (.long p1), .second, .val (.long p2), .second, .val (.int p3), .val (.int p4), .val (.double v), .second, .unset, .unset, .unset, .unset, .unset, .unset, .unset] [])) _
          refine XS.iconst X1.here hx rfl (hb hby at_92) ?_
          show Steps p.tables e below (T1.setTop (mkF m 93 #[.val (.long p1), .second, .val (.long p2), .second, .val (.int p3), .val (.int p4), .val (.double v), .second, .unset, .unset, .unset, .unset, .unset, .unset, .unset] [(.int (0 : Int32))])) _
          refine XS.dload X1.here hx rfl (hb hby at_93) rfl ?_
          show Steps p.tables e below (T1.setTop (mkF m 95 #[.val (.long p1), .second, .val (.long p2), .second, .val (.int p3), .val (.int p4), .val (.double v), .second, .unset, .unset, .unset, .unset, .unset, .unset, .unset] [(.double v), (.int (0 : Int32))])) _
          refine XS.dconst0 X1.here hx rfl (hb hby at_95) rfl ?_
          show Steps p.tables e below (T1.setTop (mkF m 96 #[.val (.long p1), .second, .val (.long p2), .second, .val (.int p3), .val (.int p4), .val (.double v), .second, .unset, .unset, .unset, .unset, .unset, .unset, .unset] [(.double FP.dconst0), (.double v), (.int (0 : Int32))])) _
          refine XS.dcmpS X1.here hx rfl (hb hby at_96) rfl cl ?_
          show Steps p.tables e below (T1.setTop (mkF m 97 #[.val (.long p1), .second, .val (.long p2), .second, .val (.int p3), .val (.int p4), .val (.double v), .second, .unset, .unset, .unset, .unset, .unset, .unset, .unset] [(.int (-1 : Int32)), (.int (0 : Int32))])) _
          refine XS.ifYes X1.here hx rfl (pc0 := 97) (pc' := 104) rfl (hb hby at_97) rfl ((if0 _ _).trans (feq (by decide)).2) (by decide) (by decide) ?_
          show Steps p.tables e below (T1.setTop (mkF m 104 #[.val (.long p1), .second, .val (.long p2), .second, .val (.int p3), .val (.int p4), .val (.double v), .second, .unset, .unset, .unset, .unset, .unset, .unset, .unset] [(.int (0 : Int32))])) _
          refine XS.iconst X1.here hx rfl (hb hby at_104) ?_
          show Steps p.tables e below (T1.setTop (mkF m 105 #[.val (.long p1), .second, .val (.long p2), .second, .val (.int p3), .val (.int p4), .val (.double v), .second, .unset, .unset, .unset, .unset, .unset, .unset, .unset] [(.int (0 : Int32)), (.int (0 : Int32))])) _
          refine XS.icmpNo X1.here hx rfl (hb hby at_105) rfl (teq rfl).2 ?_
          show Steps p.tables e below (T1.setTop (mkF m 108 #[.val (.long p1), .second, .val (.long p2), .second, .val (.int p3), .val (.int p4), .val (.double v), .second, .unset, .unset, .unset, .unset, .unset, .unset, .unset] [])) _
          refine XS.iconst X1.here hx rfl (hb hby at_108) ?_
          show Steps p.tables e below (T1.setTop (mkF m 109 #[.val (.long p1), .second, .val (.long p2), .second, .val (.int p3), .val (.int p4), .val (.double v), .second, .unset, .unset, .unset, .unset, .unset, .unset, .unset] [(.int (1 : Int32))])) _
          refine XS.goto X1.here hx rfl (pc0 := 109) (pc' := 113) rfl (hb hby at_109) (by decide) (by decide) ?_
          show Steps p.tables e below (T1.setTop (mkF m 113 #[.val (.long p1), .second, .val (.long p2), .second, .val (.int p3), .val (.int p4), .val (.double v), .second, .unset, .unset, .unset, .unset, .unset, .unset, .unset] [(.int (1 : Int32))])) _
          exact k113
        · have c4 : p1 = (0 : Int64) := Int64.toInt_inj.mp (by rw [Int64.lt_iff_toInt_lt] at c2 c3; rw [show (0 : Int64).toInt = 0 from rfl] at *; omega)
          have cl : cmpValue (FP.dcmp v FP.dconst0) .l = (0 : Int32) := (own_cmp0 vn .l).1 (sz c4)
          have cg : cmpValue (FP.dcmp v FP.dconst0) .g = (0 : Int32) := (own_cmp0 vn .g).1 (sz c4)
          show Steps p.tables e below (T1.setTop (mkF m 30 #[.val (.long p1), .second, .val (.long p2), .second, .val (.int p3), .val (.int p4), .val (.double v), .second, .unset, .unset, .unset, .unset, .unset, .unset, .unset] [])) _
          refine XS.lloadN X1.here hx rfl (hb hby at_30) rfl ?_
          show Steps p.tables e below (T1.setTop (mkF m 31 #[.val (.long p1), .second, .val (.long p2), .second, .val (.int p3), .val (.int p4), .val (.double v), .second, .unset, .unset, .unset, .unset, .unset, .unset, .unset] [(.long p1)])) _
          refine XS.lconst X1.here hx rfl (hb hby at_31) ?_
          show Steps p.tables e below (T1.setTop (mkF m 32 #[.val (.long p1), .second, .val (.long p2), .second, .val (.int p3), .val (.int p4), .val (.double v), .second, .unset, .unset, .unset, .unset, .unset, .unset, .unset] [(.long (0 : Int64)), (.long p1)])) _
          refine XS.lcmp X1.here hx rfl (hb hby at_32) rfl ?_
          show Steps p.tables e below (T1.setTop (mkF m 33 #[.val (.long p1), .second, .val (.long p2), .second, .val (.int p3), .val (.int p4), .val (.double v), .second, .unset, .unset, .unset, .unset, .unset, .unset, .unset] [(.int (lcmpW p1 (0 : Int64)))])) _
          refine XS.ifYes X1.here hx rfl (pc0 := 33) (pc' := 40) rfl (hb hby at_33) rfl ((if0 _ _).trans (flt (fun q => c2 ((lw_gt _ _).mp q))).2.2.2) (by decide) (by decide) ?_
          show Steps p.tables e below (T1.setTop (mkF m 40 #[.val (.long p1), .second, .val (.long p2), .second, .val (.int p3), .val (.int p4), .val (.double v), .second, .unset, .unset, .unset, .unset, .unset, .unset, .unset] [])) _
          refine XS.iconst X1.here hx rfl (hb hby at_40) ?_
          show Steps p.tables e below (T1.setTop (mkF m 41 #[.val (.long p1), .second, .val (.long p2), .second, .val (.int p3), .val (.int p4), .val (.double v), .second, .unset, .unset, .unset, .unset, .unset, .unset, .unset] [(.int (0 : Int32))])) _
          refine XS.dload X1.here hx rfl (hb hby at_41) rfl ?_
          show Steps p.tables e below (T1.setTop (mkF m 43 #[.val (.long p1), .second, .val (.long p2), .second, .val (.int p3), .val (.int p4), .val (.double v), .second, .unset, .unset, .unset, .unset, .unset, .unset, .unset] [(.double v), (.int (0 : Int32))])) _
          refine XS.dconst0 X1.here hx rfl (hb hby at_43) rfl ?_
          show Steps p.tables e below (T1.setTop (mkF m 44 #[.val (.long p1), .second, .val (.long p2), .second, .val (.int p3), .val (.int p4), .val (.double v), .second, .unset, .unset, .unset, .unset, .unset, .unset, .unset] [(.double FP.dconst0), (.double v), (.int (0 : Int32))])) _
          refine XS.dcmpS X1.here hx rfl (hb hby at_44) rfl cl ?_
          show Steps p.tables e below (T1.setTop (mkF m 45 #[.val (.long p1), .second, .val (.long p2), .second, .val (.int p3), .val (.int p4), .val (.double v), .second, .unset, .unset, .unset, .unset, .unset, .unset, .unset] [(.int (0 : Int32)), (.int (0 : Int32))])) _
          refine XS.ifYes X1.here hx rfl (pc0 := 45) (pc' := 52) rfl (hb hby at_45) rfl ((if0 _ _).trans (flt (by decide)).2.2.2) (by decide) (by decide) ?_
          show Steps p.tables e below (T1.setTop (mkF m 52 #[.val (.long p1), .second, .val (.long p2), .second, .val (.int p3), .val (.int p4), .val (.double v), .second, .unset, .unset, .unset, .unset, .unset, .unset, .unset] [(.int (0 : Int32))])) _
          refine XS.iconst X1.here hx rfl (hb hby at_52) ?_
          show Steps p.tables e below (T1.setTop (mkF m 53 #[.val (.long p1), .second, .val (.long p2), .second, .val (.int p3), .val (.int p4), .val (.double v), .second, .unset, .unset, .unset, .unset, .unset, .unset, .unset] [(.int (0 : Int32)), (.int (0 : Int32))])) _
          refine XS.icmpNo X1.here hx rfl (hb hby at_53) rfl (teq rfl).2 ?_
          show Steps p.tables e below (T1.setTop (mkF m 56 #[.val (.long p1), .second, .val (.long p2), .second, .val (.int p3), .val (.int p4), .val (.double v), .second, .unset, .unset, .unset, .unset, .unset, .unset, .unset] [])) _
          refine XS.lloadN X1.here hx rfl (hb hby at_56) rfl ?_
          show Steps p.tables e below (T1.setTop (mkF m 57 #[.val (.long p1), .second, .val (.long p2), .second, .val (.int p3), .val (.int p4), .val (.double v), .second, .unset, .unset, .unset, .unset, .unset, .unset, .unset] [(.long p1)])) _
          refine XS.lconst X1.here hx rfl (hb hby at_57) ?_
          show Steps p.tables e below (T1.setTop (mkF m 58 #[.val (.long p1), .second, .val (.long p2), .second, .val (.int p3), .val (.int p4), .val (.double v), .second, .unset, .unset, .unset, .unset, .unset, .unset, .unset] [(.long (0 : Int64)), (.long p1)])) _
          refine XS.lcmp X1.here hx rfl (hb hby at_58) rfl ?_
          show Steps p.tables e below (T1.setTop (mkF m 59 #[.val (.long p1), .second, .val (.long p2), .second, .val (.int p3), .val (.int p4), .val (.double v), .second, .unset, .unset, .unset, .unset, .unset, .unset, .unset] [(.int (lcmpW p1 (0 : Int64)))])) _
          refine XS.ifYes X1.here hx rfl (pc0 := 59) (pc' := 66) rfl (hb hby at_59) rfl ((if0 _ _).trans (flt (fun q => c3 ((lw_lt _ _).mp q))).2.1) (by decide) (by decide) ?_
          show Steps p.tables e below (T1.setTop (mkF m 66 #[.val (.long p1), .second, .val (.long p2), .second, .val (.int p3), .val (.int p4), .val (.double v), .second, .unset, .unset, .unset, .unset, .unset, .unset, .unset] [])) _
          refine XS.iconst X1.here hx rfl (hb hby at_66) ?_
          show Steps p.tables e below (T1.setTop (mkF m 67 #[.val (.long p1), .second, .val (.long p2), .second, .val (.int p3), .val (.int p4), .val (.double v), .second, .unset, .unset, .unset, .unset, .unset, .unset, .unset] [(.int (0 : Int32))])) _
          refine XS.dload X1.here hx rfl (hb hby at_67) rfl ?_
          show Steps p.tables e below (T1.setTop (mkF m 69 #[.val (.long p1), .second, .val (.long p2), .second, .val (.int p3), .val (.int p4), .val (.double v), .second, .unset, .unset, .unset, .unset, .unset, .unset, .unset] [(.double v), (.int (0 : Int32))])) _
          refine XS.dconst0 X1.here hx rfl (hb hby at_69) rfl ?_
          show Steps p.tables e below (T1.setTop (mkF m 70 #[.val (.long p1), .second, .val (.long p2), .second, .val (.int p3), .val (.int p4), .val (.double v), .second, .unset, .unset, .unset, .unset, .unset, .unset, .unset] [(.double FP.dconst0), (.double v), (.int (0 : Int32))])) _
          refine XS.dcmpS X1.here hx rfl (hb hby at_70) rfl cg ?_
          show Steps p.tables e below (T1.setTop (mkF m 71 #[.val (.long p1), .second, .val (.long p2), .second, .val (.int p3), .val (.int p4), .val (.double v), .second, .unset, .unset, .unset, .unset, .unset, .unset, .unset] [(.int (0 : Int32)), (.int (0 : Int32))])) _
          refine XS.ifYes X1.here hx rfl (pc0 := 71) (pc' := 78) rfl (hb hby at_71) rfl ((if0 _ _).trans (flt (by decide)).2.1) (by decide) (by decide) ?_
          show Steps p.tables e below (T1.setTop (mkF m 78 #[.val (.long p1), .second, .val (.long p2), .second, .val (.int p3), .val (.int p4), .val (.double v), .second, .unset, .unset, .unset, .unset, .unset, .unset, .unset] [(.int (0 : Int32))])) _
          refine XS.iconst X1.here hx rfl (hb hby at_78) ?_
          show Steps p.tables e below (T1.setTop (mkF m 79 #[.val (.long p1), .second, .val (.long p2), .second, .val (.int p3), .val (.int p4), .val (.double v), .second, .unset, .unset, .unset, .unset, .unset, .unset, .unset] [(.int (0 : Int32)), (.int (0 : Int32))])) _
          refine XS.icmpNo X1.here hx rfl (hb hby at_79) rfl (teq rfl).2 ?_
          show Steps p.tables e below (T1.setTop (mkF m 82 #[.val (.long p1), .second, .val (.long p2), .second, .val (.int p3), .val (.int p4), .val (.double v), .second, .unset, .unset, .unset, .unset, .unset, .unset, .unset] [])) _
          refine XS.lloadN X1.here hx rfl (hb hby at_82) rfl ?_
          show Steps p.tables e below (T1.setTop (mkF m 83 #[.val (.long p1), .second, .val (.long p2), .second, .val (.int p3), .val (.int p4), .val (.double v), .second, .unset, .unset, .unset, .unset, .unset, .unset, .unset] [(.long p1)])) _
          refine XS.lconst X1.here hx rfl (hb hby at_83) ?_
          show Steps p.tables e below (T1.setTop (mkF m 84 #[.val (.long p1), .second, .val (.long p2), .second, .val (.int p3), .val (.int p4), .val (.double v), .second, .unset, .unset, .unset, .unset, .unset, .unset, .unset] [(.long (0 : Int64)), (.long p1)])) _
          refine XS.lcmp X1.here hx rfl (hb hby at_84) rfl ?_
          show Steps p.tables e below (T1.setTop (mkF m 85 #[.val (.long p1), .second, .val (.long p2), .second, .val (.int p3), .val (.int p4), .val (.double v), .second, .unset, .unset, .unset, .unset, .unset, .unset, .unset] [(.int (lcmpW p1 (0 : Int64)))])) _
          refine XS.ifNo X1.here hx rfl (hb hby at_85) rfl ((if0 _ _).trans (teq ((lw_eq _ _).mpr c4)).2) ?_
          show Steps p.tables e below (T1.setTop (mkF m 88 #[.val (.long p1), .second, .val (.long p2), .second, .val (.int p3), .val (.int p4), .val (.double v), .second, .unset, .unset, .unset, .unset, .unset, .unset, .unset] [])) _
          refine XS.iconst X1.here hx rfl (hb hby at_88) ?_
          show Steps p.tables e below (T1.setTop (mkF m 89 #[.val (.long p1), .second, .val (.long p2), .second, .val (.int p3), .val (.int p4), .val (.double v), .second, .unset, .unset, .unset, .unset, .unset, .unset, .unset] [(.int (1 : Int32))])) _
          refine XS.goto X1.here hx rfl (pc0 := 89) (pc' := 93) rfl (hb hby at_89) (by decide) (by decide) ?_
          show Steps p.tables e below (T1.setTop (mkF m 93 #[.val (.long p1), .second, .val (.long p2), .second, .val (.int p3), .val (.int p4), .val (.double v), .second, .unset, .unset, .unset, .unset, .unset, .unset, .unset] [(.int (1 : Int32))])) _
          refine XS.dload X1.here hx rfl (hb hby at_93) rfl ?_
          show Steps p.tables e below (T1.setTop (mkF m 95 #[.val (.long p1), .second, .val (.long p2), .second, .val (.int p3), .val (.int p4), .val (.double v), .second, .unset, .unset, .unset, .unset, .unset, .unset, .unset] [(.double v), (.int (1 : Int32))])) _
          refine XS.dconst0 X1.here hx rfl (hb hby at_95) rfl ?_
          show Steps p.tables e below (T1.setTop (mkF m 96 #[.val (.long p1), .second, .val (.long p2), .second, .val (.int p3), .val (.int p4), .val (.double v), .second, .unset, .unset, .unset, .unset, .unset, .unset, .unset] [(.double FP.dconst0), (.double v), (.int (1 : Int32))])) _
          refine XS.dcmpS X1.here hx rfl (hb hby at_96) rfl cl ?_
          show Steps p.tables e below (T1.setTop (mkF m 97 #[.val (.long p1), .second, .val (.long p2), .second, .val (.int p3), .val (.int p4), .val (.double v), .second, .unset, .unset, .unset, .unset, .unset, .unset, .unset] [(.int (0 : Int32)), (.int (1 : Int32))])) _
          refine XS.ifNo X1.here hx rfl (hb hby at_97) rfl ((if0 _ _).trans (teq (by decide)).2) ?_
          show Steps p.tables e below (T1.setTop (mkF m 100 #[.val (.long p1), .second, .val (.long p2), .second, .val (.int p3), .val (.int p4), .val (.double v), .second, .unset, .unset, .unset, .unset, .unset, .unset, .unset] [(.int (1 : Int32))])) _
          refine XS.iconst X1.here hx rfl (hb hby at_100) ?_
          show Steps p.tables e below (T1.setTop (mkF m 101 #[.val (.long p1), .second, .val (.long p2), .second, .val (.int p3), .val (.int p4), .val (.double v), .second, .unset, .unset, .unset, .unset, .unset, .unset, .unset] [(.int (1 : Int32)), (.int (1 : Int32))])) _
          refine XS.goto X1.here hx rfl (pc0 := 101) (pc' := 105) rfl (hb hby at_101) (by decide) (by decide) ?_
          show Steps p.tables e below (T1.setTop (mkF m 105 #[.val (.long p1), .second, .val (.long p2), .second, .val (.int p3), .val (.int p4), .val (.double v), .second, .unset, .unset, .unset, .unset, .unset, .unset, .unset] [(.int (1 : Int32)), (.int (1 : Int32))])) _
          refine XS.icmpNo X1.here hx rfl (hb hby at_105) rfl (teq rfl).2 ?_
          show Steps p.tables e below (T1.setTop (mkF m 108 #[.val (.long p1), .second, .val (.long p2), .second, .val (.int p3), .val (.int p4), .val (.double v), .second, .unset, .unset, .unset, .unset, .unset, .unset, .unset] [])) _
          refine XS.iconst X1.here hx rfl (hb hby at_108) ?_
          show Steps p.tables e below (T1.setTop (mkF m 109 #[.val (.long p1), .second, .val (.long p2), .second, .val (.int p3), .val (.int p4), .val (.double v), .second, .unset, .unset, .unset, .unset, .unset, .unset, .unset] [(.int (1 : Int32))])) _
          refine XS.goto X1.here hx rfl (pc0 := 109) (pc' := 113) rfl (hb hby at_109) (by decide) (by decide) ?_
          show Steps p.tables e below (T1.setTop (mkF m 113 #[.val (.long p1), .second, .val (.long p2), .second, .val (.int p3), .val (.int p4), .val (.double v), .second, .unset, .unset, .unset, .unset, .unset, .unset, .unset] [(.int (1 : Int32))])) _
          exact k113
    · have cl : cmpValue (FP.dcmp v FP.dconst0) .l = (0 : Int32) := (own_cmp0 vn .l).1 (by rw [hv]; exact own_pm_np c1)
      refine XS.ifNo X1.here hx rfl (hb hby at_10) rfl ((if0 _ _).trans (flt (fun q => c1 ((lw_gt _ _).mp q))).2.2.1) ?_
      show Steps p.tables e below (T1.setTop (mkF m 13 #[.val (.long p1), .second, .val (.long p2), .second, .val (.int p3), .val (.int p4), .val (.double v), .second, .unset, .unset, .unset, .unset, .unset, .unset, .unset] [])) _
      refine XS.dload X1.here hx rfl (hb hby at_13) rfl ?_
      show Steps p.tables e below (T1.setTop (mkF m 15 #[.val (.long p1), .second, .val (.long p2), .second, .val (.int p3), .val (.int p4), .val (.double v), .second, .unset, .unset, .unset, .unset, .unset, .unset, .unset] [(.double v)])) _
      refine XS.dconst0 X1.here hx rfl (hb hby at_15) rfl ?_
      show Steps p.tables e below (T1.setTop (mkF m 16 #[.val (.long p1), .second, .val (.long p2), .second, .val (.int p3), .val (.int p4), .val (.double v), .second, .unset, .unset, .unset, .unset, .unset, .unset, .unset] [(.double FP.dconst0), (.double v)])) _
      refine XS.dcmpS X1.here hx rfl (hb hby at_16) rfl cl ?_
      show Steps p.tables e below (T1.setTop (mkF m 17 #[.val (.long p1), .second, .val (.long p2), .second, .val (.int p3), .val (.int p4), .val (.double v), .second, .unset, .unset, .unset, .unset, .unset, .unset, .unset] [(.int (0 : Int32))])) _
      refine XS.ifNo X1.here hx rfl (hb hby at_17) rfl ((if0 _ _).trans (teq rfl).2) ?_
      show Steps p.tables e below (T1.setTop (mkF m 20 #[.val (.long p1), .second, .val (.long p2), .second, .val (.int p3), .val (.int p4), .val (.double v), .second, .unset, .unset, .unset, .unset, .unset, .unset, .unset] [])) _
      refine XS.iconst X1.here hx rfl (hb hby at_20) ?_
      show Steps p.tables e below (T1.setTop (mkF m 21 #[.val (.long p1), .second, .val (.long p2), .second, .val (.int p3), .val (.int p4), .val (.double v), .second, .unset, .unset, .unset, .unset, .unset, .unset, .unset] [(.int (1 : Int32))])) _
      refine XS.goto X1.here hx rfl (pc0 := 21) (pc' := 25) rfl (hb hby at_21) (by decide) (by decide) ?_
      show Steps p.tables e below (T1.setTop (mkF m 25 #[.val (.long p1), .second, .val (.long p2), .second, .val (.int p3), .val (.int p4), .val (.double v), .second, .unset, .unset, .unset, .unset, .unset, .unset, .unset] [(.int (1 : Int32))])) _
      exact k25
  · exact ⟨rfl, N5b⟩
set_option maxRecDepth 65536 in
set_option maxHeartbeats 40000000 in
theorem comes_1 {Post : Tables → Env → Array Value → State → Outcome → State → Prop} (hpost : ∀ tb e args s v u, (limb_1_1.after args s (.returned v) u = true ∧ limb_1_2.after args s (.returned v) u = true ∧ True) → FrameEnd s (.returned v) u (Jvm.fieldLocs frame_1_writes args s ++ Jvm.arrayLocs frame_1_arrays args s ++ Jvm.staticLocs frame_1_statics s) 0 0 → Post tb e args s (.returned v) u) :
    ArmFor flags0 classFile x code maxLocals ret World_1 tables_1 room_1 Calls_1 rest_1 Pre_1 Post := by
  intro l hfl _ _ p e ha hc hk s m args below hf hA hF happ hP
  obtain ⟨hcalls, hrest, hpre⟩ := hP
  obtain ⟨-, -, -, hnamed, -, -, -, hat⟩ := (Spec.applies_iff hf).mp happ
  obtain ⟨hg, hn⟩ := and_e (Cond.before_iff.mp (show (Jvm.Cond.and given_1 narrow_1).before args s = true from hpre))
  obtain ⟨h1, g0⟩ := and_e hg
  obtain ⟨c0, g1⟩ := and_e g0
  obtain ⟨c1, g2⟩ := and_e g1
  obtain ⟨c2, g3⟩ := and_e g2
  obtain ⟨w0, w1, w2, w3, rfl⟩ : ∃ w0 w1 w2 w3 : Value, args = #[w0, w1, w2, w3] := by
    have hs : args.size = 4 := by simpa [Cond.value, given_1] using h1
    obtain ⟨L⟩ := args
    match L, hs with
    | [w0, w1, w2, w3], _ => exact ⟨w0, w1, w2, w3, rfl⟩
  have hw := fun d (hd : d ∈ tables_1) => atoms_spec (ws := Jvm.Cond.code x code maxLocals ret :: tables_1) hat d (List.mem_cons_of_mem _ hd)
  obtain ⟨i0, q0⟩ := isL_v c0
  obtain rfl : w0 = (.long i0) := Option.some.inj q0
  obtain ⟨i1, q1⟩ := isL_v c1
  obtain rfl : w1 = (.long i1) := Option.some.inj q1
  obtain ⟨i2, q2⟩ := is_v c2
  obtain rfl : w2 = (.int i2) := Option.some.inj q2
  obtain ⟨i3, q3⟩ := is_v g3
  obtain rfl : w3 = (.int i3) := Option.some.inj q3
  obtain ⟨n, o, h1, h2, h3, _, L, rfl, ⟨rfl, N⟩, hq⟩ := rm_0 l s _ hw tables_1 i0 i1 i2 i3 s.heap s.heap.size (Nat.le_refl _)  p e ha hc hk s m _ below hf ((Spec.applies_iff_loose hf).mp happ).1 ⟨rfl, State.Warmed39.refl s, rfl⟩ trivial
  refine ⟨n, _, h1, h2, h3, hpost _ _ _ _ _ _ ⟨Cond.after_iff.mpr rfl, Cond.after_iff.mpr (eq_i res_at (Term.int_eval (1)) rfl), trivial⟩ ⟨hq.1, hq.2.1, (hq.2.2.sift fun y hy => Or.inr (N y hy)).mono (by decide) (by decide)⟩⟩
theorem main_1_1 : Claimed_1_1 := comes_1 fun _ _ _ _ _ _ h hF => ⟨h.1, hF⟩
theorem main_1_2 : Claimed_1_2 := comes_1 fun _ _ _ _ _ _ h hF => ⟨h.2.1, hF⟩
end Jvm.Pilot.@@N@@
namespace Jvm.Pilot.@@N@@
open Jvm Jvm.ClassFile Sem Op Lib Jvm.Free Jvm.Stand Jvm.Pilot.@@N@@.Jvm.D
/-! MADE BY PROGRAM (witnessworld.py) out of the Statement's table words and the real class files: 9 classes; the members and pool entries that the words name. The judged class is class 1, her method 1. -/
namespace start1
open Jvm.ClassFile
def u (s : String) : CpInfo := .utf8 (stringToUtf16 s)
/-- a pool by its gaps: so many unusable entries, then the entry; so many at the end -/
def gap : Nat → List CpInfo → List CpInfo
  | 0, r => r
  | n + 1, r => .unusable :: gap n r
def poolList (es : List (Nat × CpInfo)) (last : Nat) : List CpInfo := es.foldr (fun e r => gap e.1 (e.2 :: r)) (gap last [])
def pool (es : List (Nat × CpInfo)) (last : Nat) : Array CpInfo := ⟨poolList es last⟩
def fileOf (pool : Array CpInfo) (this : Nat) (attrs : Array Attribute := #[]) (ms : Array MethodInfo := #[]) (fl : Nat := 33) (sup : Nat := 0) (ifs : Array Nat := #[]) (fds : Array FieldInfo := #[]) : ClassFile where
  minorVersion := 0
  majorVersion := 65
  constantPool := pool
  accessFlags := fl
  thisClass := this
  superClass := sup
  interfaces := ifs
  fields := fds
  methods := ms
  attributes := attrs
def plain (name : String) (sup : Option ClassId) : Class where
  name := name
  kind := .ordinary
  loader := none
  accessFlags := 33
  super := sup
  interfaces := #[]
  cf := none
  fields := #[]
  methods := #[]
  instanceTypes := #[]
  staticTypes := #[]
  resolved := #[]
  callSites := []
  init := .initialized
  statics := none
  mirror := none

def pool0 : Array CpInfo := pool [(5, u "<init>"), (0, u "()V"), (1, .class_ 10), (1, u "java/lang/Object")] 113

def k0m0 : Method := { name := "<init>", desc := "()V", sig := { parameters := [], returnType := none }, accessFlags := 1, code := none }
/-- java/lang/Object -/
def k0 : Class := { plain "java/lang/Object" none with
  accessFlags := 33
  interfaces := #[]
  cf := some (fileOf pool0 8 #[] #[{ accessFlags := 1, nameIndex := 5, descriptorIndex := 6, attributes := #[] }] 33 0 #[] #[])
  fields := #[]
  methods := #[k0m0]
  instanceTypes := #[]
  staticTypes := #[]
  resolved := Array.replicate 124 none
  statics := none }

def pool1 : Array CpInfo := pool [(2, .class_ 4), (1, u "java/lang/Object"), (0, u "<init>"), (0, u "()V"), (0, .methodref 8 9), (0, .class_ 10), (0, .nameAndType 11 12), (0, u "com/example/daloy/daloy/engine/PipelineRun"), (0, u "perMinute"), (0, u "(JJ)D"), (2, .long 9223372036854775808), (1, .long 60000000000), (1, .long 134217728), (1, .long 120000000000), (1, .double 4611686018427387904), (1, .class_ 26), (0, u "com/example/daloy/daloy/engine/PipelineRunPerMinutePinLaw"), (2, u "law"), (0, u "(JJII)Z")] 3

def k1m0 : Method := { name := "<init>", desc := "()V", sig := { parameters := [], returnType := none }, accessFlags := 1, code := none }
def k1c1 : Code := { maxStack := 6, maxLocals := 15, code := code, exceptionTable := #[], attributes := #[] }
def k1m1 : Method := { name := "law", desc := "(JJII)Z", sig := { parameters := [.long, .long, .int, .int], returnType := some .boolean }, accessFlags := 9, code := some k1c1 }
/-- com/example/daloy/daloy/engine/PipelineRunPerMinutePinLaw -/
def k1 : Class := { plain "com/example/daloy/daloy/engine/PipelineRunPerMinutePinLaw" (some 0) with
  accessFlags := 49
  interfaces := #[]
  cf := some (fileOf pool1 25 #[] #[{ accessFlags := 1, nameIndex := 5, descriptorIndex := 6, attributes := #[] }, { accessFlags := 9, nameIndex := 29, descriptorIndex := 30, attributes := #[] }] 49 2 #[] #[])
  fields := #[]
  methods := #[k1m0, k1m1]
  instanceTypes := #[]
  staticTypes := #[]
  resolved := Array.replicate 34 none
  statics := none }

def pool2 : Array CpInfo := pool [(1, .class_ 2), (0, u "com/example/daloy/daloy/engine/PipelineRun"), (5, .class_ 10), (1, u "java/lang/Object"), (6, u "ticks"), (0, u "Lcom/example/daloy/daloy/engine/Ticks;"), (5, u "heldBack"), (0, u "Lcom/example/daloy/daloy/engine/HeldBackTime;"), (2, u "topology"), (0, u "Ljava/lang/Object;"), (5, u "threads"), (0, u "Ljava/util/List;"), (5, u "workerThreads"), (0, u "Ljava/util/concurrent/atomic/AtomicInteger;"), (11, u "workers"), (0, u "Lcom/example/daloy/daloy/engine/Workers;"), (7, u "started"), (0, u "Ljava/util/concurrent/CountDownLatch;"), (2, u "ended"), (4, u "stages"), (56, u "feed"), (0, u "Lcom/example/daloy/daloy/engine/Feed;"), (11, u "sink"), (12, u "Lcom/example/daloy/daloy/engine/Instance;"), (62, u "sourceOutput"), (0, u "Lcom/example/daloy/daloy/engine/Output;"), (31, u "runner"), (0, u "Ljava/lang/Thread;"), (6, .class_ 261), (0, u "com/example/daloy/daloy/engine/PipelineRun$Sample"), (2, u "startedAt"), (0, u "J"), (52, .class_ 320), (1, u "com/example/daloy/daloy/engine/PipelineRun$Listener"), (55, u "failure"), (0, u "Ljava/lang/Throwable;"), (4, u "failed"), (0, u "Ljava/lang/String;"), (51, u "begun"), (0, u "Z"), (18, u "endedAt"), (2, u "emittedAllAt"), (160, u "perMinute"), (0, u "(JJ)D"), (13, .double 4768169126130614272), (80, .class_ 717), (1, u "com/example/daloy/daloy/engine/PipelineRun$Work"), (36, u "NANOS_PER_SECOND"), (1, u "WINDOW_NANOS"), (0, u "ON_TIME"), (0, u "WINDOWS_PER_SECOND")] 132

def k2c0 : Code := { maxStack := 4, maxLocals := 4, code := prog_14_method_26_code, exceptionTable := #[], attributes := #[] }
def k2m0 : Method := { name := "perMinute", desc := "(JJ)D", sig := { parameters := [.long, .long], returnType := some .double }, accessFlags := 8, code := some k2c0 }
/-- com/example/daloy/daloy/engine/PipelineRun -/
def k2 : Class := { plain "com/example/daloy/daloy/engine/PipelineRun" (some 0) with
  accessFlags := 33
  interfaces := #[]
  cf := some (fileOf pool2 1 #[.nestMembers #[260, 715, 318]] #[{ accessFlags := 8, nameIndex := 619, descriptorIndex := 620, attributes := #[] }] 33 8 #[] #[{ accessFlags := 25, nameIndex := 754, descriptorIndex := 265, attributes := #[] }, { accessFlags := 25, nameIndex := 756, descriptorIndex := 265, attributes := #[] }, { accessFlags := 26, nameIndex := 757, descriptorIndex := 265, attributes := #[] }, { accessFlags := 26, nameIndex := 758, descriptorIndex := 265, attributes := #[] }, { accessFlags := 18, nameIndex := 130, descriptorIndex := 131, attributes := #[] }, { accessFlags := 18, nameIndex := 73, descriptorIndex := 36, attributes := #[] }, { accessFlags := 18, nameIndex := 143, descriptorIndex := 156, attributes := #[] }, { accessFlags := 18, nameIndex := 219, descriptorIndex := 220, attributes := #[] }, { accessFlags := 18, nameIndex := 17, descriptorIndex := 18, attributes := #[] }, { accessFlags := 18, nameIndex := 24, descriptorIndex := 25, attributes := #[] }, { accessFlags := 18, nameIndex := 28, descriptorIndex := 29, attributes := #[] }, { accessFlags := 18, nameIndex := 35, descriptorIndex := 36, attributes := #[] }, { accessFlags := 18, nameIndex := 42, descriptorIndex := 43, attributes := #[] }, { accessFlags := 18, nameIndex := 55, descriptorIndex := 56, attributes := #[] }, { accessFlags := 18, nameIndex := 64, descriptorIndex := 65, attributes := #[] }, { accessFlags := 18, nameIndex := 68, descriptorIndex := 65, attributes := #[] }, { accessFlags := 66, nameIndex := 376, descriptorIndex := 377, attributes := #[] }, { accessFlags := 66, nameIndex := 382, descriptorIndex := 383, attributes := #[] }, { accessFlags := 66, nameIndex := 252, descriptorIndex := 253, attributes := #[] }, { accessFlags := 66, nameIndex := 264, descriptorIndex := 265, attributes := #[] }, { accessFlags := 66, nameIndex := 435, descriptorIndex := 436, attributes := #[] }, { accessFlags := 66, nameIndex := 458, descriptorIndex := 265, attributes := #[] }, { accessFlags := 66, nameIndex := 455, descriptorIndex := 265, attributes := #[] }])
  fields := #[{ name := "NANOS_PER_SECOND", type := .long, accessFlags := 25, slot := 0, constantValue := 0 }, { name := "WINDOW_NANOS", type := .long, accessFlags := 25, slot := 1, constantValue := 0 }, { name := "ON_TIME", type := .long, accessFlags := 26, slot := 2, constantValue := 0 }, { name := "WINDOWS_PER_SECOND", type := .long, accessFlags := 26, slot := 3, constantValue := 0 }, { name := "feed", type := (.object "com/example/daloy/daloy/engine/Feed"), accessFlags := 18, slot := 0, constantValue := 0 }, { name := "stages", type := (.object "java/util/List"), accessFlags := 18, slot := 1, constantValue := 0 }, { name := "sink", type := (.object "com/example/daloy/daloy/engine/Instance"), accessFlags := 18, slot := 2, constantValue := 0 }, { name := "sourceOutput", type := (.object "com/example/daloy/daloy/engine/Output"), accessFlags := 18, slot := 3, constantValue := 0 }, { name := "ticks", type := (.object "com/example/daloy/daloy/engine/Ticks"), accessFlags := 18, slot := 4, constantValue := 0 }, { name := "heldBack", type := (.object "com/example/daloy/daloy/engine/HeldBackTime"), accessFlags := 18, slot := 5, constantValue := 0 }, { name := "topology", type := (.object "java/lang/Object"), accessFlags := 18, slot := 6, constantValue := 0 }, { name := "threads", type := (.object "java/util/List"), accessFlags := 18, slot := 7, constantValue := 0 }, { name := "workerThreads", type := (.object "java/util/concurrent/atomic/AtomicInteger"), accessFlags := 18, slot := 8, constantValue := 0 }, { name := "workers", type := (.object "com/example/daloy/daloy/engine/Workers"), accessFlags := 18, slot := 9, constantValue := 0 }, { name := "started", type := (.object "java/util/concurrent/CountDownLatch"), accessFlags := 18, slot := 10, constantValue := 0 }, { name := "ended", type := (.object "java/util/concurrent/CountDownLatch"), accessFlags := 18, slot := 11, constantValue := 0 }, { name := "failure", type := (.object "java/lang/Throwable"), accessFlags := 66, slot := 12, constantValue := 0 }, { name := "failed", type := (.object "java/lang/String"), accessFlags := 66, slot := 13, constantValue := 0 }, { name := "runner", type := (.object "java/lang/Thread"), accessFlags := 66, slot := 14, constantValue := 0 }, { name := "startedAt", type := .long, accessFlags := 66, slot := 15, constantValue := 0 }, { name := "begun", type := .boolean, accessFlags := 66, slot := 16, constantValue := 0 }, { name := "emittedAllAt", type := .long, accessFlags := 66, slot := 17, constantValue := 0 }, { name := "endedAt", type := .long, accessFlags := 66, slot := 18, constantValue := 0 }]
  methods := #[k2m0]
  instanceTypes := #[(.object "com/example/daloy/daloy/engine/Feed"), (.object "java/util/List"), (.object "com/example/daloy/daloy/engine/Instance"), (.object "com/example/daloy/daloy/engine/Output"), (.object "com/example/daloy/daloy/engine/Ticks"), (.object "com/example/daloy/daloy/engine/HeldBackTime"), (.object "java/lang/Object"), (.object "java/util/List"), (.object "java/util/concurrent/atomic/AtomicInteger"), (.object "com/example/daloy/daloy/engine/Workers"), (.object "java/util/concurrent/CountDownLatch"), (.object "java/util/concurrent/CountDownLatch"), (.object "java/lang/Throwable"), (.object "java/lang/String"), (.object "java/lang/Thread"), .long, .boolean, .long, .long]
  staticTypes := #[.long, .long, .long, .long]
  resolved := Array.replicate 891 none
  statics := none }

def pool3 : Array CpInfo := pool [(1, u "java/lang/Cloneable"), (0, .class_ 1), (0, u "java/lang/Object"), (0, .class_ 3)] 3

/-- java/lang/Cloneable -/
def k3 : Class := { plain "java/lang/Cloneable" (some 0) with
  accessFlags := 1537
  interfaces := #[]
  cf := some (fileOf pool3 2 #[] #[] 1537 4 #[] #[])
  fields := #[]
  methods := #[]
  instanceTypes := #[]
  staticTypes := #[]
  resolved := Array.replicate 8 none
  statics := none }

def pool4 : Array CpInfo := pool [(1, u "java/io/Serializable"), (0, .class_ 1), (0, u "java/lang/Object"), (0, .class_ 3)] 3

/-- java/io/Serializable -/
def k4 : Class := { plain "java/io/Serializable" (some 0) with
  accessFlags := 1537
  interfaces := #[]
  cf := some (fileOf pool4 2 #[] #[] 1537 4 #[] #[])
  fields := #[]
  methods := #[]
  instanceTypes := #[]
  staticTypes := #[]
  resolved := Array.replicate 8 none
  statics := none }

/-- the primitive byte -/
def k5 : Class := { plain "byte" none with kind := .primitive 'B', accessFlags := 0x411 }
/-- [B -/
def k6 : Class := { plain "[B" (some 0) with kind := .array 5 .byte, interfaces := #[3, 4], accessFlags := 1041 }

/-- the primitive int -/
def k7 : Class := { plain "int" none with kind := .primitive 'I', accessFlags := 0x411 }
/-- [I -/
def k8 : Class := { plain "[I" (some 0) with kind := .array 7 .int, interfaces := #[3, 4], accessFlags := 1041 }

def heap : Heap := #[]
def classes : Array Class := #[k0, k1, k2, k3, k4, k5, k6, k7, k8]
def interned : List (Array UInt16 × Addr) := []
def slotsUsed : Nat := 0
def theMethod : MethodId := ⟨1, 1⟩
def args0 : Array Value := #[.long 5, .long 7, .int 3, .int 9]
def aboutOver (below : List Frame) : State where
  vm := { classes := classes, interned := interned.toArray }
  heap := heap
  slotsUsed := slotsUsed
  threads := #[{ frames := .invoking theMethod args0 :: below }]
def below0 : List Frame := [.native { method := ⟨0, 0⟩, args := #[] }]
def about1 : State := aboutOver below0
def p0 : Program := .bare "" "" ""
def e0 : Env := launch0.env 0 0 0
theorem w_frames : about1.frames = Frame.invoking theMethod args0 :: below0 := rfl
set_option maxRecDepth 65536 in
theorem w_args : argsFit about1.vm theMethod args0 = true := by decide +kernel
set_option maxRecDepth 65536 in
theorem w_heap : heapFits about1 = true := by decide +kernel
set_option maxRecDepth 65536 in
theorem w_runnable : about1.curStatus? = some .runnable := by decide +kernel
set_option maxRecDepth 65536 in
theorem w_alone : about1.alone = true := by decide +kernel
set_option maxRecDepth 65536 in
theorem w_named : about1.methodNamed? x = some theMethod := by decide +kernel
set_option maxRecDepth 65536 in
theorem w_hears : about1.hears theMethod below0 = true := by decide +kernel
set_option maxRecDepth 65536 in
theorem w_ripe : about1.ripe theMethod args0 below0 = true := by decide +kernel
theorem w_running : about1.status = .running := rfl
set_option maxRecDepth 65536 in
theorem w_room : about1.hasRoom e0.platform room_1 = true :=
  launch0.hasRoom_least _ room_1 (by decide +kernel) (by decide +kernel) (by decide +kernel) (by decide +kernel) (by decide +kernel) (by decide +kernel)
theorem allAtoms_all (ts : List Jvm.Cond) (a : Array Jvm.Value) (st : Jvm.State) : (allAtoms ts).before a st = ts.all (fun c => c.before a st) := by
  induction ts with
  | nil => rfl
  | cons c t ih =>
    show (Jvm.Cond.and c (allAtoms t)).before a st = _
    rw [Jvm.Cond.before_and, ih, List.all_cons]
def words1 : List Jvm.Cond := Jvm.Cond.code x code maxLocals ret :: tables_1
/-- a 'code' word, met by the world's own term for the bytes: nothing is compared byte by byte -/
theorem code_word {y : MethodName} {bytes : ByteArray} {mx : Nat} {rt : Option FieldType} {a : Array Value} {s : State} {m : MethodId} {meth : Method} {c : Code} (h1 : s.methodNamed? y = some m) (h2 : s.vm.method? m = some meth) (h3 : meth.code = some c) (h4 : c.code = bytes)
    (h5 : (c.maxLocals == mx && c.exceptionTable.isEmpty && decide (c.maxStack ≤ mostOperands) && decide (meth.sig.returnType = rt) && !meth.locks && decide (parseMethodDescriptor y.desc = some meth.sig)) = true) : (Jvm.Cond.code y bytes mx rt).before a s = true := by
  simp only [Bool.and_eq_true, beq_iff_eq, Bool.not_eq_true', decide_eq_true_eq] at h5
  obtain ⟨⟨⟨⟨⟨g1, g2⟩, g3⟩, g4⟩, g5⟩, g6⟩ := h5
  simp [Cond.before, Cond.holds, Cond.value, h1, h2, h3, h4, g1, g2, g3, g4, g5, g6]
def isCode : Jvm.Cond → Bool
  | .code _ _ _ _ => true
  | _ => false
theorem all_split {L : List Jvm.Cond} {P : Jvm.Cond → Bool} (h1 : L.all (fun c => isCode c || P c) = true) (h2 : ∀ c ∈ L.filter isCode, P c = true) : L.all P = true := by
  refine List.all_eq_true.mpr fun c hc => ?_
  have h := List.all_eq_true.mp h1 c hc
  rcases Bool.eq_false_or_eq_true (isCode c) with hi | hi
  · exact h2 c (List.mem_filter.mpr ⟨hc, hi⟩)
  · simpa [hi] using h
set_option maxRecDepth 65536 in
theorem w_c0 : (Jvm.Cond.code x code maxLocals ret).before args0 about1 = true := code_word (m := ⟨1, 1⟩) (meth := k1m1) (c := k1c1) (by decide +kernel) rfl rfl rfl (by decide +kernel)
set_option maxRecDepth 65536 in
theorem w_c1 : (Jvm.Cond.code ({ cls := "com/example/daloy/daloy/engine/PipelineRun", name := "perMinute", desc := "(JJ)D" } : Jvm.MethodName) prog_14_method_26_code (4 : Nat) (Option.some Jvm.ClassFile.FieldType.double)).before args0 about1 = true := code_word (m := ⟨2, 0⟩) (meth := k2m0) (c := k2c0) (by decide +kernel) rfl rfl rfl (by decide +kernel)
def codes1 : List Jvm.Cond := [Jvm.Cond.code x code maxLocals ret, Jvm.Cond.code ({ cls := "com/example/daloy/daloy/engine/PipelineRun", name := "perMinute", desc := "(JJ)D" } : Jvm.MethodName) prog_14_method_26_code (4 : Nat) (Option.some Jvm.ClassFile.FieldType.double)]
set_option maxRecDepth 65536 in
theorem codes_eq : words1.filter isCode = codes1 := rfl
theorem w_codes : ∀ c ∈ words1.filter isCode, c.before args0 about1 = true := by
  rw [codes_eq]
  intro c hc
  simp only [codes1, List.mem_cons, List.not_mem_nil, or_false] at hc
  rcases hc with rfl | rfl
  · exact w_c0
  · exact w_c1
set_option maxRecDepth 65536 in
theorem w_t1 : words1.all (fun c => isCode c || c.before args0 about1) = true := by decide +kernel
theorem w_tables : (allAtoms (Jvm.Cond.code x code maxLocals ret :: tables_1)).before args0 about1 = true := by
  rw [allAtoms_all]
  show words1.all (fun c => c.before args0 about1) = true
  refine all_split ?_ w_codes
  rw [w_t1]
set_option maxRecDepth 65536 in
theorem w_case : (Jvm.Cond.and given_1 narrow_1).before args0 about1 = true := by decide +kernel
theorem w_applies : (headSpec (Jvm.Cond.code x code maxLocals ret :: tables_1) room_1).applies x e0.platform about1 = true :=
  (Spec.applies_iff w_frames).mpr ⟨w_running, w_runnable, w_alone, w_named, w_hears, w_ripe, w_room, w_tables⟩
theorem atStart : AtStart classFile x code maxLocals ret World_1 tables_1 room_1 Calls_1 rest_1 Pre_1 launch0 p0 e0 about1 theMethod args0 below0 :=
  ⟨lists_1, trivial, launch0.admits_env _ _ _, launch0.least_env, fairChoices_fair.cas, fairChoices_fair.clock, w_frames, w_args, w_heap, w_applies, trivial, trivial, w_case⟩
end start1
theorem witness_1 : WitnessClaimed_1 := ⟨start1.p0, start1.e0, start1.about1, start1.theMethod, start1.args0, start1.below0, start1.atStart⟩
end Jvm.Pilot.@@N@@
