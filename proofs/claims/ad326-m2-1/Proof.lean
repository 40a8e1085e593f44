import JvmDerived
import JvmDerived.Pilot.@@N@@Statement
import JvmDerived.Pilot.@@N@@Code
set_option linter.unusedVariables false
set_option linter.unusedSimpArgs false
@@BLOCK:NumsL.lean.txt@@
namespace Jvm.Pilot.@@N@@
open Jvm Jvm.ClassFile Sem Op Lib Jvm.Free Jvm.Stand Jvm.LawKit Jvm.RoadKit Bundle Jvm.Pilot.@@N@@.Jvm.D
/-! the quotient of two whole numbers, rounded: where it lies against 0 and 1 -/
section OwnQuot
open Jvm.FP.Core
theorem own_quot {i j : Int} {a b : UInt64} (ha : DInt i a) (hb : DInt j b) (hj : j ≠ 0) :
    ∃ sg, val64 (FP.ddiv a b) = roundRatio b64 sg i.natAbs j.natAbs 0 ∧ (i ≠ 0 → sg = (decide (i < 0) != decide (j < 0))) := by
  have hq : val64 (FP.ddiv a b) = quotient b64 (val64 a) (val64 b) := val64_ddiv a b
  rw [hq]
  have ha' : Whole i (val64 a) := ha
  have hb' : Whole j (val64 b) := hb
  generalize val64 a = x at ha'
  generalize val64 b = y at hb'
  cases x with
  | nan => exact ha'.elim
  | inf => exact ha'.elim
  | fin s c q =>
  cases y with
  | nan => exact hb'.elim
  | inf => exact hb'.elim
  | fin t d r =>
    have hd : d ≠ 0 := fun h => hj ((whole_zero hb').mp h)
    have hJ : 0 < j.natAbs := by omega
    refine ⟨s != t, ?_, ?_⟩
    · simp only [quotient, if_neg hd]
      refine roundRatio_congr (by omega) hJ ?_
      have h1 := whole_natAbs ha'
      have h2 := whole_natAbs hb'
      generalize i.natAbs = I at h1 ⊢
      generalize j.natAbs = J at h2 ⊢
      have e : (q - r - 0).toNat + ((-q).toNat + r.toNat) = (0 - (q - r)).toNat + (q.toNat + (-r).toNat) := by omega
      generalize (q - r - 0).toNat = u at e ⊢
      generalize (0 - (q - r)).toNat = w at e ⊢
      refine Nat.eq_of_mul_eq_mul_right (Nat.two_pow_pos ((-q).toNat + r.toNat)) ?_
      calc c * J * 2 ^ u * 2 ^ ((-q).toNat + r.toNat) = c * J * 2 ^ (u + ((-q).toNat + r.toNat)) := by rw [Nat.pow_add 2 u, Nat.mul_assoc (c * J)]
        _ = c * J * 2 ^ (w + (q.toNat + (-r).toNat)) := by rw [e]
        _ = (c * 2 ^ q.toNat) * (J * 2 ^ (-r).toNat) * 2 ^ w := by simp only [Nat.pow_add]; ac_rfl
        _ = (I * 2 ^ (-q).toNat) * (d * 2 ^ r.toNat) * 2 ^ w := by rw [h1, h2]
        _ = I * d * 2 ^ w * 2 ^ ((-q).toNat + r.toNat) := by simp only [Nat.pow_add]; ac_rfl
    · intro hi
      rw [whole_sign ha' hi, whole_sign hb' hj]
theorem own_one_z : zmag b64 (val64 4607182418800017408) = 2 ^ 52 * 2 ^ 1022 := by decide +kernel
theorem own_next_z : zmag b64 (val64 4607182418800017409) = (2 ^ 52 + 1) * 2 ^ 1022 := by decide +kernel
theorem own_min_z : zmag b64 (val64 1) = 1 := by decide +kernel
theorem own_zero_zv : zval b64 (val64 0) = 0 := by decide +kernel
theorem own_one_s : sgn (val64 4607182418800017408) = false := by decide +kernel
theorem own_zero_n : val64 0 ≠ .nan := (ne_nan _).mpr (by decide)
theorem own_one_n : val64 4607182418800017408 ≠ .nan := (ne_nan _).mpr (by decide)
theorem own_units (I : Nat) : inUnits I 0 b64.qmin = I * (2 ^ 52 * 2 ^ 1022) := by
  show I * 2 ^ (0 - b64.qmin).toNat = _
  rw [qmin_b64, show ((0 : Int) - -1074).toNat = 52 + 1022 by decide, Nat.pow_add]
theorem own_q0 : b64.qmin ≤ 0 := by rw [qmin_b64]; decide
theorem own_e (Vz B : Nat) : Vz * 2 ^ (b64.qmin - b64.qmin).toNat * B = Vz * B := by
  rw [Int.sub_self, Int.toNat_zero, Nat.pow_zero, Nat.mul_one]
theorem own_q_le {sg : Bool} {I J : Nat} (hJ : 0 < J) (h : I ≤ J) : zmag b64 (roundRatio b64 sg I J 0) ≤ 2 ^ 52 * 2 ^ 1022 := by
  rw [← own_one_z]
  refine zmag_roundRatio_le good_b64 hJ (val64_fits _) own_one_n (e0 := b64.qmin) (Int.le_refl _) own_q0 ?_
  rw [own_units, own_e, own_one_z, Nat.mul_comm]
  exact Nat.mul_le_mul_left _ h
theorem own_q_gt {sg : Bool} {I J : Nat} (hJ : 0 < J) (h52 : J ≤ 2 ^ 52) (h : J < I) : 2 ^ 52 * 2 ^ 1022 < zmag b64 (roundRatio b64 sg I J 0) := by
  have h1 : (2 ^ 52 + 1) * 2 ^ 1022 ≤ zmag b64 (roundRatio b64 sg I J 0) := by
    rw [← own_next_z]
    refine zmag_roundRatio_ge good_b64 hJ (val64_fits _) (e0 := b64.qmin) (Int.le_refl _) own_q0 ?_
    rw [own_units, own_e, own_next_z]
    have h2 : (2 ^ 52 + 1) * J ≤ I * 2 ^ 52 := by omega
    calc (2 ^ 52 + 1) * 2 ^ 1022 * J = (2 ^ 52 + 1) * J * 2 ^ 1022 := Nat.mul_right_comm _ _ _
      _ ≤ I * 2 ^ 52 * 2 ^ 1022 := Nat.mul_le_mul_right _ h2
      _ = I * (2 ^ 52 * 2 ^ 1022) := Nat.mul_assoc _ _ _
  refine Nat.lt_of_lt_of_le ?_ h1
  exact Nat.mul_lt_mul_of_pos_right (by omega) (Nat.two_pow_pos _)
theorem own_q_pos {sg : Bool} {I J : Nat} (hJ : 0 < J) (hI : 0 < I) (h63 : J ≤ 2 ^ 64) : 0 < zmag b64 (roundRatio b64 sg I J 0) := by
  have h1 : 1 ≤ zmag b64 (roundRatio b64 sg I J 0) := by
    rw [← own_min_z]
    refine zmag_roundRatio_ge good_b64 hJ (val64_fits _) (e0 := b64.qmin) (Int.le_refl _) own_q0 ?_
    rw [own_units, own_e, own_min_z, Nat.one_mul, ← Nat.pow_add]
    calc J ≤ 2 ^ 64 := h63
      _ ≤ 2 ^ (52 + 1022) := Nat.pow_le_pow_right (by decide) (by decide)
      _ ≤ I * 2 ^ (52 + 1022) := Nat.le_mul_of_pos_left _ hI
  omega
theorem own_q_zero {sg : Bool} {J : Nat} : zmag b64 (roundRatio b64 sg 0 J 0) = 0 := by
  unfold roundRatio
  rw [if_pos rfl]
  exact Nat.zero_mul _
/-- what the comparisons with 0 and 1 say of a quotient of whole numbers -/
theorem own_div {i j : Int} {a b : UInt64} (ha : DInt i a) (hb : DInt j b) (hj : j ≠ 0) (h52 : j.natAbs ≤ 2 ^ 52) :
    (i = 0 → FP.dcmp (FP.ddiv a b) 0 = some .eq ∧ FP.dcmp (FP.ddiv a b) 4607182418800017408 = some .lt) ∧
    (i ≠ 0 → (i < 0 ↔ ¬ j < 0) → FP.dcmp (FP.ddiv a b) 0 = some .lt) ∧
    (i ≠ 0 → (i < 0 ↔ j < 0) → FP.dcmp (FP.ddiv a b) 0 = some .gt) ∧
    (i ≠ 0 → (i < 0 ↔ j < 0) → i.natAbs ≤ j.natAbs → FP.dcmp (FP.ddiv a b) 4607182418800017408 = some .lt ∨ FP.dcmp (FP.ddiv a b) 4607182418800017408 = some .eq) ∧
    (i ≠ 0 → (i < 0 ↔ j < 0) → j.natAbs < i.natAbs → FP.dcmp (FP.ddiv a b) 4607182418800017408 = some .gt) := by
  obtain ⟨sg, hv, hs⟩ := own_quot ha hb hj
  have hJ : 0 < j.natAbs := by omega
  have nn : val64 (FP.ddiv a b) ≠ .nan := by rw [hv]; exact roundRatio_ne_nan _ _ _ _ _
  have zv : zval b64 (val64 (FP.ddiv a b)) = signed sg (zmag b64 (roundRatio b64 sg i.natAbs j.natAbs 0)) := by
    unfold zval; rw [hv, sgn_roundRatio]
  have z1 : zval b64 (val64 4607182418800017408) = ((2 ^ 52 * 2 ^ 1022 : Nat) : Int) := by
    unfold zval; rw [own_one_s, own_one_z]; rfl
  have p1 : 0 < 2 ^ 52 * 2 ^ 1022 := Nat.mul_pos (Nat.two_pow_pos _) (Nat.two_pow_pos _)
  have sp : sg = true → ∀ n : Nat, signed sg n = -(n : Int) := fun h n => by rw [h]; rfl
  have sn : sg = false → ∀ n : Nat, signed sg n = (n : Int) := fun h n => by rw [h]; rfl
  have hle := @own_q_le sg i.natAbs j.natAbs hJ
  have hgt := @own_q_gt sg i.natAbs j.natAbs hJ h52
  have hpos := @own_q_pos sg i.natAbs j.natAbs hJ
  have hzero := @own_q_zero sg j.natAbs
  generalize 2 ^ 52 * 2 ^ 1022 = P at *
  refine ⟨fun h0 => ?_, fun h0 hd => ?_, fun h0 hd => ?_, fun h0 hd hl => ?_, fun h0 hd hl => ?_⟩
  · have e0 : i.natAbs = 0 := by omega
    rw [e0, hzero, signed_zero] at zv
    exact ⟨dcmp_eq.mpr ⟨nn, own_zero_n, by rw [zv, own_zero_zv]⟩, dcmp_lt.mpr ⟨nn, own_one_n, by rw [zv, z1]; omega⟩⟩
  · have e : sg = true := by
      rw [hs h0]
      by_cases q : i < 0
      · simp [q, hd.mp q]
      · have : j < 0 := by
          apply Classical.byContradiction; intro r; exact q (hd.mpr r)
        simp [q, this]
    rw [sp e] at zv
    have := hpos (by omega) (by omega)
    exact dcmp_lt.mpr ⟨nn, own_zero_n, by rw [zv, own_zero_zv]; omega⟩
  · have e : sg = false := by rw [hs h0]; by_cases q : i < 0 <;> simp [q, hd.symm]
    rw [sn e] at zv
    have := hpos (by omega) (by omega)
    exact dcmp_gt.mpr ⟨nn, own_zero_n, by rw [zv, own_zero_zv]; omega⟩
  · have e : sg = false := by rw [hs h0]; by_cases q : i < 0 <;> simp [q, hd.symm]
    rw [sn e] at zv
    have := hle hl
    exact dcmp_le.mpr ⟨nn, own_one_n, by rw [zv, z1]; omega⟩
  · have e : sg = false := by rw [hs h0]; by_cases q : i < 0 <;> simp [q, hd.symm]
    rw [sn e] at zv
    have := hgt hl
    exact dcmp_gt.mpr ⟨nn, own_one_n, by rw [zv, z1]; omega⟩
end OwnQuot
theorem own_nar (c : Prop) [Decidable c] (d : Prop) [Decidable d] : nar .boolean (if c then (0 : Int32) else if d then 0 else 1) = if c then (0 : Int32) else if d then 0 else 1 := by
  by_cases h1 : c <;> by_cases h2 : d <;> simp only [h1, h2, if_true, if_false] <;> rfl
def own_rng (x : UInt64) : Int32 := if cmpValue (FP.dcmp x FP.dconst0) .l < (0 : Int32) then 0 else if (0 : Int32) < cmpValue (FP.dcmp x FP.dconst1) .g then 0 else 1
def own_abs (x : Int64) : Int64 := if x < (0 : Int64) then -x else x
theorem own_rng_of {x : UInt64} {o c : Ordering} (h1 : FP.dcmp x 0 = some o) (h2 : FP.dcmp x 4607182418800017408 = some c) : own_rng x = if cmpValue (some o) .l < (0 : Int32) then 0 else if (0 : Int32) < cmpValue (some c) .g then 0 else 1 := by
  show (if cmpValue (FP.dcmp x 0) .l < (0 : Int32) then (0 : Int32) else if (0 : Int32) < cmpValue (FP.dcmp x 4607182418800017408) .g then 0 else 1) = _
  rw [h1, h2]
theorem own_rng_lt {x : UInt64} (h1 : FP.dcmp x 0 = some .lt) : own_rng x = 0 := by
  show (if cmpValue (FP.dcmp x 0) .l < (0 : Int32) then (0 : Int32) else _) = _
  rw [h1, if_pos (by decide)]
theorem own_abs_toInt {x : Int64} (h1 : -2 ^ 62 < x.toInt) (h2 : x.toInt < 2 ^ 62) : (own_abs x).toInt = (x.toInt.natAbs : Int) := by
  unfold own_abs
  have z0 : (0 : Int64).toInt = 0 := rfl
  by_cases c : x < (0 : Int64)
  · have c' := Int64.lt_iff_toInt_lt.mp c
    rw [if_pos c, Jvm.Kit.i64_neg (by omega)]; omega
  · have c' : ¬ x.toInt < 0 := fun q => c (Int64.lt_iff_toInt_lt.mpr (by rw [z0]; exact q))
    rw [if_neg c]; omega
def own_exp (n d : Int64) : Int32 := if n = (0 : Int64) then 1 else if (0 : Int64) < n then (if (0 : Int64) < d then (if own_abs d < own_abs n then 0 else 1) else 0) else (if (0 : Int64) < d then 0 else (if own_abs d < own_abs n then 0 else 1))
theorem own_rng_div {n d : Int64} (hn : n.toInt.natAbs ≤ 2 ^ 31) (hd : d.toInt.natAbs ≤ 2 ^ 31) (h0 : d.toInt ≠ 0) : own_rng (FP.ddiv (FP.l2d n) (FP.l2d d)) = own_exp n d := by
  obtain ⟨q0, q1, q2, q3, q4⟩ := own_div (FP.Core.l2d_int (a := n) (by omega)) (FP.Core.l2d_int (a := d) (by omega)) h0 (by omega)
  have z0 : (0 : Int64).toInt = 0 := rfl
  have an := own_abs_toInt (x := n) (by omega) (by omega)
  have ad := own_abs_toInt (x := d) (by omega) (by omega)
  unfold own_exp
  by_cases c0 : n = (0 : Int64)
  · rw [if_pos c0]
    have c0' : n.toInt = 0 := by rw [c0]; rfl
    rw [own_rng_of (q0 c0').1 (q0 c0').2]; decide
  · have c0' : n.toInt ≠ 0 := fun q => c0 (Int64.toInt_inj.mp (by rw [q, z0]))
    rw [if_neg c0]
    have same : (n.toInt < 0 ↔ d.toInt < 0) → own_rng (FP.ddiv (FP.l2d n) (FP.l2d d)) = if own_abs d < own_abs n then 0 else 1 := by
      intro hs
      by_cases c3 : own_abs d < own_abs n
      · have c3' := Int64.lt_iff_toInt_lt.mp c3
        rw [if_pos c3, own_rng_of (q2 c0' hs) (q4 c0' hs (by omega))]; decide
      · have c3' : ¬ (own_abs d).toInt < (own_abs n).toInt := fun q => c3 (Int64.lt_iff_toInt_lt.mpr q)
        rw [if_neg c3]
        rcases q3 c0' hs (by omega) with h | h
        · rw [own_rng_of (q2 c0' hs) h]; decide
        · rw [own_rng_of (q2 c0' hs) h]; decide
    by_cases c1 : (0 : Int64) < n
    · have c1' := Int64.lt_iff_toInt_lt.mp c1
      rw [z0] at c1'
      rw [if_pos c1]
      by_cases c2 : (0 : Int64) < d
      · have c2' := Int64.lt_iff_toInt_lt.mp c2
        rw [z0] at c2'
        rw [if_pos c2]; exact same (by omega)
      · have c2' : ¬ 0 < d.toInt := fun q => c2 (Int64.lt_iff_toInt_lt.mpr (by rw [z0]; exact q))
        rw [if_neg c2]; exact own_rng_lt (q1 c0' (by omega))
    · have c1' : ¬ 0 < n.toInt := fun q => c1 (Int64.lt_iff_toInt_lt.mpr (by rw [z0]; exact q))
      rw [if_neg c1]
      by_cases c2 : (0 : Int64) < d
      · have c2' := Int64.lt_iff_toInt_lt.mp c2
        rw [z0] at c2'
        rw [if_pos c2]; exact own_rng_lt (q1 c0' (by omega))
      · have c2' : ¬ 0 < d.toInt := fun q => c2 (Int64.lt_iff_toInt_lt.mpr (by rw [z0]; exact q))
        rw [if_neg c2]; exact same (by omega)
theorem own_nn {n d : Int64} (h0 : d ≠ 0) : Jvm.Free.Fl.NoNaN64 (FP.ddiv (FP.l2d n) (FP.l2d d)) := by
  have hd : d.toInt ≠ 0 := fun q => h0 (Int64.toInt_inj.mp (by rw [q]; rfl))
  refine Jvm.Free.Fl.noNaN64_no.mpr (FP.Core.ddiv_out ?_ (FP.Core.l2d_fin d) ?_)
  · exact FP.Core.l2d_notNaN n
  · intro hz
    exact FP.Core.l2d_ne_zero h0 ((FP.Core.zero_bits2 _).mp hz)
theorem d1_0 : decode prog_100_method_3_code 0 = .ok (.dload_n 0, 1) := by decide +kernel
theorem d1_1 : decode prog_100_method_3_code 1 = .ok (.dconst 0, 1) := by decide +kernel
theorem d1_2 : decode prog_100_method_3_code 2 = .ok (.dcmp .l, 1) := by decide +kernel
theorem d1_3 : decode prog_100_method_3_code 3 = .ok (.ifCond .lt 13, 3) := by decide +kernel
theorem d1_6 : decode prog_100_method_3_code 6 = .ok (.dload_n 0, 1) := by decide +kernel
theorem d1_7 : decode prog_100_method_3_code 7 = .ok (.dconst 1, 1) := by decide +kernel
theorem d1_8 : decode prog_100_method_3_code 8 = .ok (.dcmp .g, 1) := by decide +kernel
theorem d1_9 : decode prog_100_method_3_code 9 = .ok (.ifCond .gt 7, 3) := by decide +kernel
theorem d1_12 : decode prog_100_method_3_code 12 = .ok (.iconst 1, 1) := by decide +kernel
theorem d1_13 : decode prog_100_method_3_code 13 = .ok (.goto 4, 3) := by decide +kernel
theorem d1_16 : decode prog_100_method_3_code 16 = .ok (.iconst 0, 1) := by decide +kernel
theorem d1_17 : decode prog_100_method_3_code 17 = .ok (.ireturn, 1) := by decide +kernel
theorem pn_1 : plainName "com/example/clearance_by_risk/clearancebyrisk/service/RiskAssessor" = true := by first | (simp [plainName, overriddenIn]; done) | decide +kernel
theorem pd_1 : parseMethodDescriptor "(D)Z" = some ⟨[.double], some .boolean⟩ := by decide +kernel
theorem ef_1 (m : MethodId) (x0 : UInt64) : entryFrame m #[(.double x0)] 2 = mkF m 0 #[.val (.double x0), .second] [] := by first | (simp [entryFrame, mkF, argsToLocals, Value.category]; done) | rfl
def Q_1 (p1 : UInt64) (h0 : Heap) (n0 : Nat) (v : Option Value) (h : Heap) (L : List Loc) : Prop := v = some (.int (own_rng p1)) ∧ Fr n0 L ∧ h = h0
set_option maxRecDepth 65536 in
set_option maxHeartbeats 40000000 in
theorem rm_1 (l : Launch) (Z : State) (a0 : Array Value) (hw : ∀ d ∈ tables_1, d.before a0 Z = true) (ws : List Jvm.Cond) (p1 : UInt64) (h0 : Heap) (n0 : Nat) (Z0 : n0 ≤ h0.size)  :
    MetFree l (⟨"com/example/clearance_by_risk/clearancebyrisk/service/RiskAssessor", "isRisk", "(D)Z"⟩ : MethodName) (head1 (Jvm.Cond.code (⟨"com/example/clearance_by_risk/clearancebyrisk/service/RiskAssessor", "isRisk", "(D)Z"⟩ : MethodName) prog_100_method_3_code 2 (some .boolean) :: ws) ({ frames := 0, cells := 0, slots := 0, locals := 0 } : Room)) (fun a U => a = #[(.double p1)] ∧ Z.Warmed39 U.vm ∧ U.heap = h0) (fun _ _ _ _ _ => True) (fun _ U o U' => ∃ v L, o = .returned v ∧ Q_1 p1 h0 n0 v U'.heap L ∧ FrameEnd U o U' L 0 0) := by
  refine MetFree.of_bodySF (plainFor_of_name pn_1) hisR ?_
  intro p e s m args below meth c s₁ Bd hml0 hP hK
  obtain ⟨rfl, hZ, hh⟩ := hP
  have hx := Bd.exec
  have hby := Bd.bytes
  have hml : c.maxLocals = 2 := hml0
  have hown : s.vm.findClass "com/example/clearance_by_risk/clearancebyrisk/service/RiskAssessor" = some m.cls := findClass_of_methodNamed Bd.named
  have hnm := (name_of_methodNamed Bd.named Bd.method).1
  have X0 : Stand p l e ({ frames := 0, cells := 0, slots := 0, locals := 0 } : Room) s m #[(.double p1)] below meth c s₁ [] 0 0 := Stand.of_body Bd
  have e0 : s₁.heap = h0 := by rw [← hh, Bd.state]; rfl
  have N0 := Fr.nil n0
  have pre0 : ∀ t, Steps p.tables e below (s₁.setTop (mkF m 0 #[.val (.double p1), .second] [])) t → Steps p.tables e below (s₁.setTop (entryFrame m #[(.double p1)] 2)) t := fun t k => castTop (ef_1 m (p1)) k
  obtain ⟨fs, hr, hrun, hended, hW, hsame⟩ := X0.leave (v := some (.int (nar .boolean (own_rng p1)))) (fun h => by rw [Bd.returns] at h; cases h)
  refine ⟨_, _, pre0 _ ?_, hrun, hended, _, _, rfl, ?_, ⟨_, rfl⟩, hW, hsame.mono (by decide) (by decide)⟩
  · have kr : ∀ z, z = own_rng p1 → Steps p.tables e below (s₁.setTop (mkF m 17 #[.val (.double p1), .second] [(.int z)])) (s₁.setFrames fs) := by
      intro z hz; subst hz; exact retN X0 hx (t := .boolean) Bd.returns (by simp) (hb hby d1_17) hr
    show Steps p.tables e below (s₁.setTop (mkF m 0 #[.val (.double p1), .second] [])) _
    refine XS.dloadN X0.here hx rfl (hb hby d1_0) rfl ?_
    show Steps p.tables e below (s₁.setTop (mkF m 1 #[.val (.double p1), .second] [(.double p1)])) _
    refine XS.dconst0 X0.here hx rfl (hb hby d1_1) rfl ?_
    show Steps p.tables e below (s₁.setTop (mkF m 2 #[.val (.double p1), .second] [(.double FP.dconst0), (.double p1)])) _
    refine XS.dcmpS X0.here hx rfl (hb hby d1_2) rfl rfl ?_
    show Steps p.tables e below (s₁.setTop (mkF m 3 #[.val (.double p1), .second] [(.int (cmpValue (FP.dcmp p1 FP.dconst0) .l))])) _
    by_cases h1 : (cmpValue (FP.dcmp p1 FP.dconst0) .l) < (0 : Int32)
    · refine XS.ifYes X0.here hx rfl (pc0 := 3) (pc' := 16) rfl (hb hby d1_3) rfl ((if0 _ _).trans (tlt h1).1) (by decide) (by decide) ?_
      show Steps p.tables e below (s₁.setTop (mkF m 16 #[.val (.double p1), .second] [])) _
      refine XS.iconst X0.here hx rfl (hb hby d1_16) ?_
      show Steps p.tables e below (s₁.setTop (mkF m 17 #[.val (.double p1), .second] [(.int (0 : Int32))])) _
      exact kr _ (by unfold own_rng; rw [if_pos h1])
    · refine XS.ifNo X0.here hx rfl (hb hby d1_3) rfl ((if0 _ _).trans (flt h1).1) ?_
      show Steps p.tables e below (s₁.setTop (mkF m 6 #[.val (.double p1), .second] [])) _
      refine XS.dloadN X0.here hx rfl (hb hby d1_6) rfl ?_
      show Steps p.tables e below (s₁.setTop (mkF m 7 #[.val (.double p1), .second] [(.double p1)])) _
      refine XS.dconst1 X0.here hx rfl (hb hby d1_7) rfl ?_
      show Steps p.tables e below (s₁.setTop (mkF m 8 #[.val (.double p1), .second] [(.double FP.dconst1), (.double p1)])) _
      refine XS.dcmpS X0.here hx rfl (hb hby d1_8) rfl rfl ?_
      show Steps p.tables e below (s₁.setTop (mkF m 9 #[.val (.double p1), .second] [(.int (cmpValue (FP.dcmp p1 FP.dconst1) .g))])) _
      by_cases h2 : (0 : Int32) < (cmpValue (FP.dcmp p1 FP.dconst1) .g)
      · refine XS.ifYes X0.here hx rfl (pc0 := 9) (pc' := 16) rfl (hb hby d1_9) rfl ((if0 _ _).trans (tlt h2).2.2.1) (by decide) (by decide) ?_
        show Steps p.tables e below (s₁.setTop (mkF m 16 #[.val (.double p1), .second] [])) _
        refine XS.iconst X0.here hx rfl (hb hby d1_16) ?_
        show Steps p.tables e below (s₁.setTop (mkF m 17 #[.val (.double p1), .second] [(.int (0 : Int32))])) _
        exact kr _ (by unfold own_rng; rw [if_neg h1, if_pos h2])
      · refine XS.ifNo X0.here hx rfl (hb hby d1_9) rfl ((if0 _ _).trans (flt h2).2.2.1) ?_
        show Steps p.tables e below (s₁.setTop (mkF m 12 #[.val (.double p1), .second] [])) _
        refine XS.iconst X0.here hx rfl (hb hby d1_12) ?_
        show Steps p.tables e below (s₁.setTop (mkF m 13 #[.val (.double p1), .second] [(.int (1 : Int32))])) _
        refine XS.goto X0.here hx rfl (pc0 := 13) (pc' := 17) rfl (hb hby d1_13) (by decide) (by decide) ?_
        show Steps p.tables e below (s₁.setTop (mkF m 17 #[.val (.double p1), .second] [(.int (1 : Int32))])) _
        exact kr _ (by unfold own_rng; rw [if_neg h1, if_neg h2])
  · show Q_1 p1 h0 n0 _ s₁.heap _
    rw [e0]
    exact ⟨congrArg (fun z => some (Value.int z)) (own_nar _ _), N0, rfl⟩
theorem d2_0 : decode jdk_29_method_61_code 0 = .ok (.lload_n 0, 1) := by decide +kernel
theorem d2_1 : decode jdk_29_method_61_code 1 = .ok (.lconst 0, 1) := by decide +kernel
theorem d2_2 : decode jdk_29_method_61_code 2 = .ok (.lcmp, 1) := by decide +kernel
theorem d2_3 : decode jdk_29_method_61_code 3 = .ok (.ifCond .ge 8, 3) := by decide +kernel
theorem d2_6 : decode jdk_29_method_61_code 6 = .ok (.lload_n 0, 1) := by decide +kernel
theorem d2_7 : decode jdk_29_method_61_code 7 = .ok (.lneg, 1) := by decide +kernel
theorem d2_8 : decode jdk_29_method_61_code 8 = .ok (.goto 4, 3) := by decide +kernel
theorem d2_11 : decode jdk_29_method_61_code 11 = .ok (.lload_n 0, 1) := by decide +kernel
theorem d2_12 : decode jdk_29_method_61_code 12 = .ok (.lreturn, 1) := by decide +kernel
theorem pd_2 : parseMethodDescriptor "(J)J" = some ⟨[.long], some .long⟩ := by decide +kernel
theorem ef_2 (m : MethodId) (x0 : Int64) : entryFrame m #[(.long x0)] 2 = mkF m 0 #[.val (.long x0), .second] [] := by first | (simp [entryFrame, mkF, argsToLocals, Value.category]; done) | rfl
def Q_2 (p1 : Int64) (h0 : Heap) (n0 : Nat) (v : Option Value) (h : Heap) (L : List Loc) : Prop := v = some (.long (own_abs p1)) ∧ Fr n0 L ∧ h = h0
set_option maxRecDepth 65536 in
set_option maxHeartbeats 40000000 in
theorem rm_2 (l : Launch) (Z : State) (a0 : Array Value) (hw : ∀ d ∈ tables_1, d.before a0 Z = true) (ws : List Jvm.Cond) (p1 : Int64) (h0 : Heap) (n0 : Nat) (Z0 : n0 ≤ h0.size)  :
    MetFree l (⟨"java/lang/Math", "abs", "(J)J"⟩ : MethodName) (head1 (Jvm.Cond.code (⟨"java/lang/Math", "abs", "(J)J"⟩ : MethodName) jdk_29_method_61_code 2 (some .long) :: ws) ({ frames := 0, cells := 0, slots := 0, locals := 0 } : Room)) (fun a U => a = #[(.long p1)] ∧ Z.Warmed39 U.vm ∧ U.heap = h0) (fun _ _ _ _ _ => True) (fun _ U o U' => ∃ v L, o = .returned v ∧ Q_2 p1 h0 n0 v U'.heap L ∧ FrameEnd U o U' L 0 0) := by
  refine MetFree.of_bodySF (Jvm.Free.JP.mathPlain rfl (by decide +kernel)) hisR ?_
  intro p e s m args below meth c s₁ Bd hml0 hP hK
  obtain ⟨rfl, hZ, hh⟩ := hP
  have hx := Bd.exec
  have hby := Bd.bytes
  have hml : c.maxLocals = 2 := hml0
  have hown : s.vm.findClass "java/lang/Math" = some m.cls := findClass_of_methodNamed Bd.named
  have hnm := (name_of_methodNamed Bd.named Bd.method).1
  have X0 : Stand p l e ({ frames := 0, cells := 0, slots := 0, locals := 0 } : Room) s m #[(.long p1)] below meth c s₁ [] 0 0 := Stand.of_body Bd
  have e0 : s₁.heap = h0 := by rw [← hh, Bd.state]; rfl
  have N0 := Fr.nil n0
  have pre0 : ∀ t, Steps p.tables e below (s₁.setTop (mkF m 0 #[.val (.long p1), .second] [])) t → Steps p.tables e below (s₁.setTop (entryFrame m #[(.long p1)] 2)) t := fun t k => castTop (ef_2 m (p1)) k
  obtain ⟨fs, hr, hrun, hended, hW, hsame⟩ := X0.leave (v := some (.long (own_abs p1))) (fun h => by rw [Bd.returns] at h; cases h)
  refine ⟨_, _, pre0 _ ?_, hrun, hended, _, _, rfl, ?_, ⟨_, rfl⟩, hW, hsame.mono (by decide) (by decide)⟩
  · have kr : ∀ z, z = own_abs p1 → Steps p.tables e below (s₁.setTop (mkF m 12 #[.val (.long p1), .second] [(.long z)])) (s₁.setFrames fs) := by
      intro z hz; subst hz; exact X0.lreturnOut hx Bd.returns (hb hby d2_12) hr
    show Steps p.tables e below (s₁.setTop (mkF m 0 #[.val (.long p1), .second] [])) _
    refine XS.lloadN X0.here hx rfl (hb hby d2_0) rfl ?_
    show Steps p.tables e below (s₁.setTop (mkF m 1 #[.val (.long p1), .second] [(.long p1)])) _
    refine XS.lconst X0.here hx rfl (hb hby d2_1) ?_
    show Steps p.tables e below (s₁.setTop (mkF m 2 #[.val (.long p1), .second] [(.long (0 : Int64)), (.long p1)])) _
    refine XS.lcmp X0.here hx rfl (hb hby d2_2) rfl ?_
    show Steps p.tables e below (s₁.setTop (mkF m 3 #[.val (.long p1), .second] [(.int (lcmpW p1 (0 : Int64)))])) _
    by_cases c1 : p1 < (0 : Int64)
    · refine XS.ifNo X0.here hx rfl (hb hby d2_3) rfl ((if0 _ _).trans (tlt ((lw_lt _ _).mpr c1)).2.1) ?_
      show Steps p.tables e below (s₁.setTop (mkF m 6 #[.val (.long p1), .second] [])) _
      refine XS.lloadN X0.here hx rfl (hb hby d2_6) rfl ?_
      show Steps p.tables e below (s₁.setTop (mkF m 7 #[.val (.long p1), .second] [(.long p1)])) _
      refine XS.lneg X0.here hx rfl (hb hby d2_7) rfl ?_
      show Steps p.tables e below (s₁.setTop (mkF m 8 #[.val (.long p1), .second] [(.long (-p1))])) _
      refine XS.goto X0.here hx rfl (pc0 := 8) (pc' := 12) rfl (hb hby d2_8) (by decide) (by decide) ?_
      show Steps p.tables e below (s₁.setTop (mkF m 12 #[.val (.long p1), .second] [(.long (-p1))])) _
      exact kr _ (by unfold own_abs; rw [if_pos c1])
    · refine XS.ifYes X0.here hx rfl (pc0 := 3) (pc' := 11) rfl (hb hby d2_3) rfl ((if0 _ _).trans (flt (fun q => c1 ((lw_lt _ _).mp q))).2.1) (by decide) (by decide) ?_
      show Steps p.tables e below (s₁.setTop (mkF m 11 #[.val (.long p1), .second] [])) _
      refine XS.lloadN X0.here hx rfl (hb hby d2_11) rfl ?_
      show Steps p.tables e below (s₁.setTop (mkF m 12 #[.val (.long p1), .second] [(.long p1)])) _
      exact kr _ (by unfold own_abs; rw [if_neg c1])
  · show Q_2 p1 h0 n0 _ s₁.heap _
    rw [e0]
    exact ⟨rfl, N0, rfl⟩
theorem pn_0 : plainName "com/example/clearance_by_risk/clearancebyrisk/service/RiskAssessorIsRiskPinLaw" = true := by first | (simp [plainName, overriddenIn]; done) | decide +kernel
theorem ef_0 (m : MethodId) (x0 : Int32) (x1 : Int32) : entryFrame m #[(.int x0), (.int x1)] maxLocals = mkF m 0 #[.val (.int x0), .val (.int x1), .unset, .unset, .unset, .unset, .unset, .unset, .unset] [] := by first | (simp [entryFrame, mkF, argsToLocals, Value.category, maxLocals]; done) | rfl
def Q_0 (n0 : Nat) (v : Option Value) (h : Heap) (L : List Loc) : Prop := v = some (.int 1) ∧ Fr n0 L
set_option maxRecDepth 65536 in
set_option maxHeartbeats 40000000 in
theorem rm_0 (l : Launch) (Z : State) (a0 : Array Value) (hw : ∀ d ∈ tables_1, d.before a0 Z = true) (ws : List Jvm.Cond) (p1 p2 : Int32) (h0 : Heap) (n0 : Nat) (Z0 : n0 ≤ h0.size)  :
    MetFree l x (head1 (Jvm.Cond.code x code maxLocals ret :: ws) room_1) (fun a U => a = #[(.int p1), (.int p2)] ∧ Z.Warmed39 U.vm ∧ U.heap = h0) (fun _ _ _ _ _ => True) (fun _ U o U' => ∃ v L, o = .returned v ∧ Q_0 n0 v U'.heap L ∧ FrameEnd U o U' L 0 0) := by
  refine MetFree.of_bodySF (plainFor_of_name pn_0) hisR ?_
  intro p e s m args below meth c s₁ Bd hml0 hP hK
  obtain ⟨rfl, hZ, hh⟩ := hP
  have hx := Bd.exec
  have hby := Bd.bytes
  have hml : c.maxLocals = 9 := hml0
  have hown : s.vm.findClass "com/example/clearance_by_risk/clearancebyrisk/service/RiskAssessorIsRiskPinLaw" = some m.cls := findClass_of_methodNamed Bd.named
  have hnm := (name_of_methodNamed Bd.named Bd.method).1
  have X0 : Stand p l e room_1 s m #[(.int p1), (.int p2)] below meth c s₁ [] 0 0 := Stand.of_body Bd
  have e0 : s₁.heap = h0 := by rw [← hh, Bd.state]; rfl
  have N0 := Fr.nil n0
  have pre0 : ∀ t, Steps p.tables e below (s₁.setTop (mkF m 0 #[.val (.int p1), .val (.int p2), .unset, .unset, .unset, .unset, .unset, .unset, .unset] [])) t → Steps p.tables e below (s₁.setTop (entryFrame m #[(.int p1), (.int p2)] maxLocals)) t := fun t k => castTop (ef_0 m (p1) (p2)) k
  obtain ⟨n, hn⟩ : ∃ z : Int64, z = p1.toInt64 := ⟨_, rfl⟩
  obtain ⟨d, hd⟩ : ∃ z : Int64, z = if p2 = (0 : Int32) then (1 : Int64) else p2.toInt64 := ⟨_, rfl⟩
  have hn31 : n.toInt.natAbs ≤ 2 ^ 31 := by
    rw [hn, Int32.toInt_toInt64]; have := p1.toInt_lt; have := p1.le_toInt; omega
  have hd31 : d.toInt.natAbs ≤ 2 ^ 31 ∧ d.toInt ≠ 0 := by
    rw [hd]; split
    · exact ⟨by decide, by decide⟩
    · rename_i c
      rw [Int32.toInt_toInt64]; have := p2.toInt_lt; have := p2.le_toInt
      exact ⟨by omega, fun q => c (Int32.toInt_inj.mp (by rw [q]; rfl))⟩
  have d0 : d ≠ 0 := fun q => hd31.2 (by rw [q]; rfl)
  have qnn := own_nn (n := n) d0
  obtain ⟨q, hq⟩ : ∃ z : UInt64, z = FP.ddiv (FP.l2d n) (FP.l2d d) := ⟨_, rfl⟩
  have rng : own_rng q = own_exp n d := by rw [hq]; exact own_rng_div hn31 hd31.1 hd31.2
  have seg67 : ∃ T' L', Stand p l e room_1 s m #[(.int p1), (.int p2)] below meth c T' L' 0 0 ∧ T'.heap = h0 ∧ Fr n0 L' ∧ ∀ target, Steps p.tables e below (T'.setTop (mkF m 87 #[.val (.int p1), .val (.int p2), .val (.long n), .second, .val (.long d), .second, .val (.double q), .second, .val (.int (if own_abs d < own_abs n then (0 : Int32) else 1))] [])) target → Steps p.tables e below (s₁.setTop (mkF m 67 #[.val (.int p1), .val (.int p2), .val (.long n), .second, .val (.long d), .second, .val (.double q), .second, .unset] [])) target := by
    obtain ⟨_, _, ⟨T1, L1, k1, n1⟩, -, X1, ⟨Lc1, hQ1, l1, y1, z1⟩, st1⟩ := Jvm.LawKit.callS X0 hx (y := (⟨"java/lang/Math", "abs", "(J)J"⟩ : MethodName)) hown (mvT hZ (hw _ (List.mem_of_getElem? (i := 4) rfl))) (mvT hZ (hw _ (List.mem_of_getElem? (i := 5) rfl))) (mvT hZ (hw _ (List.mem_of_getElem? (i := 6) rfl))) (mvT hZ (hw _ (List.mem_of_getElem? (i := 7) rfl))) (by decide) (backOf (W := 0) (rm_2 l Z a0 hw [] n h0 n0 Z0) hZ (hw _ (List.mem_of_getElem? (i := 7) rfl)) (hw _ (List.mem_of_getElem? (i := 6) rfl)) (by decide) (by decide)) (g := (mkF m 68 #[.val (.int p1), .val (.int p2), .val (.long n), .second, .val (.long d), .second, .val (.double q), .second, .unset] [(.long n)])) rfl (by rw [hml]; rfl) (argsL := [(.long n)]) (rest := []) (lenOf pd_2 rfl) rfl (by show 2 * 0 + _ ≤ _; exact Nat.le_of_eq rfl) (hb hby at_68) (fun _ _ => ⟨rfl, e0, (by decide : 0 + 0 ≤ _), (by decide : 0 + 0 ≤ _)⟩)
    dsimp only [Pt.U, Pt.locs, Pt.cells, Pt.slots] at X1 l1 y1 z1 st1 hQ1
    subst l1 y1 z1
    obtain ⟨rfl, N1, e1⟩ := hQ1
    obtain ⟨_, _, ⟨T2, L2, k2, n2⟩, -, X2, ⟨Lc2, hQ2, l2, y2, z2⟩, st2⟩ := Jvm.LawKit.callS X1 hx (y := (⟨"java/lang/Math", "abs", "(J)J"⟩ : MethodName)) hown (mvT hZ (hw _ (List.mem_of_getElem? (i := 4) rfl))) (mvT hZ (hw _ (List.mem_of_getElem? (i := 5) rfl))) (mvT hZ (hw _ (List.mem_of_getElem? (i := 6) rfl))) (mvT hZ (hw _ (List.mem_of_getElem? (i := 7) rfl))) (by decide) (backOf (W := 2) (rm_2 l Z a0 hw [] d h0 n0 Z0) hZ (hw _ (List.mem_of_getElem? (i := 7) rfl)) (hw _ (List.mem_of_getElem? (i := 6) rfl)) (by decide) (by decide)) (g := (mkF m 73 #[.val (.int p1), .val (.int p2), .val (.long n), .second, .val (.long d), .second, .val (.double q), .second, .unset] [(.long d), (.long (own_abs n))])) rfl (by rw [hml]; rfl) (argsL := [(.long d)]) (rest := [(.long (own_abs n))]) (lenOf pd_2 rfl) rfl (by show 2 * 0 + _ ≤ _; exact Nat.le_of_eq rfl) (hb hby at_73) (fun _ _ => ⟨rfl, e1, (by decide : 0 + 0 ≤ _), (by decide : 0 + 0 ≤ _)⟩)
    dsimp only [Pt.U, Pt.locs, Pt.cells, Pt.slots] at X2 l2 y2 z2 st2 hQ2
    subst l2 y2 z2
    obtain ⟨rfl, N2, e2⟩ := hQ2
    refine ⟨T2, _, X2, e2, Fr.app (Fr.app N0 N1) N2, fun target k => ?_⟩
    show Steps p.tables e below (s₁.setTop (mkF m 67 #[.val (.int p1), .val (.int p2), .val (.long n), .second, .val (.long d), .second, .val (.double q), .second, .unset] [])) _
    refine XS.lloadN X0.here hx rfl (hb hby at_67) rfl ?_
    show Steps p.tables e below (s₁.setTop (mkF m 68 #[.val (.int p1), .val (.int p2), .val (.long n), .second, .val (.long d), .second, .val (.double q), .second, .unset] [(.long n)])) _
    refine st1 _ ?_
    show Steps p.tables e below (T1.setTop (mkF m 71 #[.val (.int p1), .val (.int p2), .val (.long n), .second, .val (.long d), .second, .val (.double q), .second, .unset] [(.long (own_abs n))])) _
    refine XS.lload X1.here hx rfl (hb hby at_71) rfl ?_
    show Steps p.tables e below (T1.setTop (mkF m 73 #[.val (.int p1), .val (.int p2), .val (.long n), .second, .val (.long d), .second, .val (.double q), .second, .unset] [(.long d), (.long (own_abs n))])) _
    refine st2 _ ?_
    show Steps p.tables e below (T2.setTop (mkF m 76 #[.val (.int p1), .val (.int p2), .val (.long n), .second, .val (.long d), .second, .val (.double q), .second, .unset] [(.long (own_abs d)), (.long (own_abs n))])) _
    refine XS.lcmp X2.here hx rfl (hb hby at_76) rfl ?_
    show Steps p.tables e below (T2.setTop (mkF m 77 #[.val (.int p1), .val (.int p2), .val (.long n), .second, .val (.long d), .second, .val (.double q), .second, .unset] [(.int (lcmpW (own_abs n) (own_abs d)))])) _
    by_cases c3 : own_abs d < own_abs n
    · refine XS.ifYes X2.here hx rfl (pc0 := 77) (pc' := 84) rfl (hb hby at_77) rfl ((if0 _ _).trans (tlt ((lw_gt _ _).mpr c3)).2.2.1) (by decide) (by decide) ?_
      show Steps p.tables e below (T2.setTop (mkF m 84 #[.val (.int p1), .val (.int p2), .val (.long n), .second, .val (.long d), .second, .val (.double q), .second, .unset] [])) _
      refine XS.iconst X2.here hx rfl (hb hby at_84) ?_
      show Steps p.tables e below (T2.setTop (mkF m 85 #[.val (.int p1), .val (.int p2), .val (.long n), .second, .val (.long d), .second, .val (.double q), .second, .unset] [(.int (0 : Int32))])) _
      refine XS.istore X2.here hx rfl (hb hby at_85) rfl (l' := #[.val (.int p1), .val (.int p2), .val (.long n), .second, .val (.long d), .second, .val (.double q), .second, .val (.int (0 : Int32))]) rfl ?_
      show Steps p.tables e below (T2.setTop (mkF m 87 #[.val (.int p1), .val (.int p2), .val (.long n), .second, .val (.long d), .second, .val (.double q), .second, .val (.int (0 : Int32))] [])) _
      rw [if_pos c3] at k; exact k
    · refine XS.ifNo X2.here hx rfl (hb hby at_77) rfl ((if0 _ _).trans (flt (fun q => c3 ((lw_gt _ _).mp q))).2.2.1) ?_
      show Steps p.tables e below (T2.setTop (mkF m 80 #[.val (.int p1), .val (.int p2), .val (.long n), .second, .val (.long d), .second, .val (.double q), .second, .unset] [])) _
      refine XS.iconst X2.here hx rfl (hb hby at_80) ?_
      show Steps p.tables e below (T2.setTop (mkF m 81 #[.val (.int p1), .val (.int p2), .val (.long n), .second, .val (.long d), .second, .val (.double q), .second, .unset] [(.int (1 : Int32))])) _
      refine XS.goto X2.here hx rfl (pc0 := 81) (pc' := 85) rfl (hb hby at_81) (by decide) (by decide) ?_
      show Steps p.tables e below (T2.setTop (mkF m 85 #[.val (.int p1), .val (.int p2), .val (.long n), .second, .val (.long d), .second, .val (.double q), .second, .unset] [(.int (1 : Int32))])) _
      refine XS.istore X2.here hx rfl (hb hby at_85) rfl (l' := #[.val (.int p1), .val (.int p2), .val (.long n), .second, .val (.long d), .second, .val (.double q), .second, .val (.int (1 : Int32))]) rfl ?_
      show Steps p.tables e below (T2.setTop (mkF m 87 #[.val (.int p1), .val (.int p2), .val (.long n), .second, .val (.long d), .second, .val (.double q), .second, .val (.int (1 : Int32))] [])) _
      rw [if_neg c3] at k; exact k
  have seg23 : ∃ T' L', Stand p l e room_1 s m #[(.int p1), (.int p2)] below meth c T' L' 0 0 ∧ T'.heap = h0 ∧ Fr n0 L' ∧ ∀ target, Steps p.tables e below (T'.setTop (mkF m 87 #[.val (.int p1), .val (.int p2), .val (.long n), .second, .val (.long d), .second, .val (.double q), .second, .val (.int (own_exp n d))] [])) target → Steps p.tables e below (s₁.setTop (mkF m 23 #[.val (.int p1), .val (.int p2), .val (.long n), .second, .val (.long d), .second, .val (.double q), .second, .unset] [])) target := by
    obtain ⟨T6, L6, X6, e6, N6, st6⟩ := seg67
    unfold own_exp
    by_cases c0 : n = (0 : Int64)
    · refine ⟨s₁, [], X0, e0, N0, fun target k => ?_⟩
      rw [if_pos c0] at k
      show Steps p.tables e below (s₁.setTop (mkF m 23 #[.val (.int p1), .val (.int p2), .val (.long n), .second, .val (.long d), .second, .val (.double q), .second, .unset] [])) _
      refine XS.lloadN X0.here hx rfl (hb hby at_23) rfl ?_
      show Steps p.tables e below (s₁.setTop (mkF m 24 #[.val (.int p1), .val (.int p2), .val (.long n), .second, .val (.long d), .second, .val (.double q), .second, .unset] [(.long n)])) _
      refine XS.lconst X0.here hx rfl (hb hby at_24) ?_
      show Steps p.tables e below (s₁.setTop (mkF m 25 #[.val (.int p1), .val (.int p2), .val (.long n), .second, .val (.long d), .second, .val (.double q), .second, .unset] [(.long (0 : Int64)), (.long n)])) _
      refine XS.lcmp X0.here hx rfl (hb hby at_25) rfl ?_
      show Steps p.tables e below (s₁.setTop (mkF m 26 #[.val (.int p1), .val (.int p2), .val (.long n), .second, .val (.long d), .second, .val (.double q), .second, .unset] [(.int (lcmpW n (0 : Int64)))])) _
      refine XS.ifNo X0.here hx rfl (hb hby at_26) rfl ((if0 _ _).trans (teq ((lw_eq _ _).mpr c0)).2) ?_
      show Steps p.tables e below (s₁.setTop (mkF m 29 #[.val (.int p1), .val (.int p2), .val (.long n), .second, .val (.long d), .second, .val (.double q), .second, .unset] [])) _
      refine XS.iconst X0.here hx rfl (hb hby at_29) ?_
      show Steps p.tables e below (s₁.setTop (mkF m 30 #[.val (.int p1), .val (.int p2), .val (.long n), .second, .val (.long d), .second, .val (.double q), .second, .unset] [(.int (1 : Int32))])) _
      refine XS.istore X0.here hx rfl (hb hby at_30) rfl (l' := #[.val (.int p1), .val (.int p2), .val (.long n), .second, .val (.long d), .second, .val (.double q), .second, .val (.int (1 : Int32))]) rfl ?_
      show Steps p.tables e below (s₁.setTop (mkF m 32 #[.val (.int p1), .val (.int p2), .val (.long n), .second, .val (.long d), .second, .val (.double q), .second, .val (.int (1 : Int32))] [])) _
      refine XS.goto X0.here hx rfl (pc0 := 32) (pc' := 87) rfl (hb hby at_32) (by decide) (by decide) ?_
      show Steps p.tables e below (s₁.setTop (mkF m 87 #[.val (.int p1), .val (.int p2), .val (.long n), .second, .val (.long d), .second, .val (.double q), .second, .val (.int (1 : Int32))] [])) _
      exact k
    · simp only [if_neg c0]
      by_cases c1 : (0 : Int64) < n
      · simp only [if_pos c1]
        by_cases c2 : (0 : Int64) < d
        · simp only [if_pos c2]
          refine ⟨T6, L6, X6, e6, N6, fun target k => ?_⟩
          show Steps p.tables e below (s₁.setTop (mkF m 23 #[.val (.int p1), .val (.int p2), .val (.long n), .second, .val (.long d), .second, .val (.double q), .second, .unset] [])) _
          refine XS.lloadN X0.here hx rfl (hb hby at_23) rfl ?_
          show Steps p.tables e below (s₁.setTop (mkF m 24 #[.val (.int p1), .val (.int p2), .val (.long n), .second, .val (.long d), .second, .val (.double q), .second, .unset] [(.long n)])) _
          refine XS.lconst X0.here hx rfl (hb hby at_24) ?_
          show Steps p.tables e below (s₁.setTop (mkF m 25 #[.val (.int p1), .val (.int p2), .val (.long n), .second, .val (.long d), .second, .val (.double q), .second, .unset] [(.long (0 : Int64)), (.long n)])) _
          refine XS.lcmp X0.here hx rfl (hb hby at_25) rfl ?_
          show Steps p.tables e below (s₁.setTop (mkF m 26 #[.val (.int p1), .val (.int p2), .val (.long n), .second, .val (.long d), .second, .val (.double q), .second, .unset] [(.int (lcmpW n (0 : Int64)))])) _
          refine XS.ifYes X0.here hx rfl (pc0 := 26) (pc' := 35) rfl (hb hby at_26) rfl ((if0 _ _).trans (feq (fun q => c0 ((lw_eq _ _).mp q))).2) (by decide) (by decide) ?_
          show Steps p.tables e below (s₁.setTop (mkF m 35 #[.val (.int p1), .val (.int p2), .val (.long n), .second, .val (.long d), .second, .val (.double q), .second, .unset] [])) _
          refine XS.lloadN X0.here hx rfl (hb hby at_35) rfl ?_
          show Steps p.tables e below (s₁.setTop (mkF m 36 #[.val (.int p1), .val (.int p2), .val (.long n), .second, .val (.long d), .second, .val (.double q), .second, .unset] [(.long n)])) _
          refine XS.lconst X0.here hx rfl (hb hby at_36) ?_
          show Steps p.tables e below (s₁.setTop (mkF m 37 #[.val (.int p1), .val (.int p2), .val (.long n), .second, .val (.long d), .second, .val (.double q), .second, .unset] [(.long (0 : Int64)), (.long n)])) _
          refine XS.lcmp X0.here hx rfl (hb hby at_37) rfl ?_
          show Steps p.tables e below (s₁.setTop (mkF m 38 #[.val (.int p1), .val (.int p2), .val (.long n), .second, .val (.long d), .second, .val (.double q), .second, .unset] [(.int (lcmpW n (0 : Int64)))])) _
          refine XS.ifNo X0.here hx rfl (hb hby at_38) rfl ((if0 _ _).trans (tlt ((lw_gt _ _).mpr c1)).2.2.2) ?_
          show Steps p.tables e below (s₁.setTop (mkF m 41 #[.val (.int p1), .val (.int p2), .val (.long n), .second, .val (.long d), .second, .val (.double q), .second, .unset] [])) _
          refine XS.iconst X0.here hx rfl (hb hby at_41) ?_
          show Steps p.tables e below (s₁.setTop (mkF m 42 #[.val (.int p1), .val (.int p2), .val (.long n), .second, .val (.long d), .second, .val (.double q), .second, .unset] [(.int (1 : Int32))])) _
          refine XS.goto X0.here hx rfl (pc0 := 42) (pc' := 46) rfl (hb hby at_42) (by decide) (by decide) ?_
          show Steps p.tables e below (s₁.setTop (mkF m 46 #[.val (.int p1), .val (.int p2), .val (.long n), .second, .val (.long d), .second, .val (.double q), .second, .unset] [(.int (1 : Int32))])) _
          refine XS.lload X0.here hx rfl (hb hby at_46) rfl ?_
          show Steps p.tables e below (s₁.setTop (mkF m 48 #[.val (.int p1), .val (.int p2), .val (.long n), .second, .val (.long d), .second, .val (.double q), .second, .unset] [(.long d), (.int (1 : Int32))])) _
          refine XS.lconst X0.here hx rfl (hb hby at_48) ?_
          show Steps p.tables e below (s₁.setTop (mkF m 49 #[.val (.int p1), .val (.int p2), .val (.long n), .second, .val (.long d), .second, .val (.double q), .second, .unset] [(.long (0 : Int64)), (.long d), (.int (1 : Int32))])) _
          refine XS.lcmp X0.here hx rfl (hb hby at_49) rfl ?_
          show Steps p.tables e below (s₁.setTop (mkF m 50 #[.val (.int p1), .val (.int p2), .val (.long n), .second, .val (.long d), .second, .val (.double q), .second, .unset] [(.int (lcmpW d (0 : Int64))), (.int (1 : Int32))])) _
          refine XS.ifNo X0.here hx rfl (hb hby at_50) rfl ((if0 _ _).trans (tlt ((lw_gt _ _).mpr c2)).2.2.2) ?_
          show Steps p.tables e below (s₁.setTop (mkF m 53 #[.val (.int p1), .val (.int p2), .val (.long n), .second, .val (.long d), .second, .val (.double q), .second, .unset] [(.int (1 : Int32))])) _
          refine XS.iconst X0.here hx rfl (hb hby at_53) ?_
          show Steps p.tables e below (s₁.setTop (mkF m 54 #[.val (.int p1), .val (.int p2), .val (.long n), .second, .val (.long d), .second, .val (.double q), .second, .unset] [(.int (1 : Int32)), (.int (1 : Int32))])) _
          refine XS.goto X0.here hx rfl (pc0 := 54) (pc' := 58) rfl (hb hby at_54) (by decide) (by decide) ?_
          show Steps p.tables e below (s₁.setTop (mkF m 58 #[.val (.int p1), .val (.int p2), .val (.long n), .second, .val (.long d), .second, .val (.double q), .second, .unset] [(.int (1 : Int32)), (.int (1 : Int32))])) _
          refine XS.icmpYes X0.here hx rfl (pc0 := 58) (pc' := 67) rfl (hb hby at_58) rfl (teq (rfl)).1 (by decide) (by decide) ?_
          show Steps p.tables e below (s₁.setTop (mkF m 67 #[.val (.int p1), .val (.int p2), .val (.long n), .second, .val (.long d), .second, .val (.double q), .second, .unset] [])) _
          exact st6 _ k
        · refine ⟨s₁, [], X0, e0, N0, fun target k => ?_⟩
          rw [if_neg c2] at k
          show Steps p.tables e below (s₁.setTop (mkF m 23 #[.val (.int p1), .val (.int p2), .val (.long n), .second, .val (.long d), .second, .val (.double q), .second, .unset] [])) _
          refine XS.lloadN X0.here hx rfl (hb hby at_23) rfl ?_
          show Steps p.tables e below (s₁.setTop (mkF m 24 #[.val (.int p1), .val (.int p2), .val (.long n), .second, .val (.long d), .second, .val (.double q), .second, .unset] [(.long n)])) _
          refine XS.lconst X0.here hx rfl (hb hby at_24) ?_
          show Steps p.tables e below (s₁.setTop (mkF m 25 #[.val (.int p1), .val (.int p2), .val (.long n), .second, .val (.long d), .second, .val (.double q), .second, .unset] [(.long (0 : Int64)), (.long n)])) _
          refine XS.lcmp X0.here hx rfl (hb hby at_25) rfl ?_
          show Steps p.tables e below (s₁.setTop (mkF m 26 #[.val (.int p1), .val (.int p2), .val (.long n), .second, .val (.long d), .second, .val (.double q), .second, .unset] [(.int (lcmpW n (0 : Int64)))])) _
          refine XS.ifYes X0.here hx rfl (pc0 := 26) (pc' := 35) rfl (hb hby at_26) rfl ((if0 _ _).trans (feq (fun q => c0 ((lw_eq _ _).mp q))).2) (by decide) (by decide) ?_
          show Steps p.tables e below (s₁.setTop (mkF m 35 #[.val (.int p1), .val (.int p2), .val (.long n), .second, .val (.long d), .second, .val (.double q), .second, .unset] [])) _
          refine XS.lloadN X0.here hx rfl (hb hby at_35) rfl ?_
          show Steps p.tables e below (s₁.setTop (mkF m 36 #[.val (.int p1), .val (.int p2), .val (.long n), .second, .val (.long d), .second, .val (.double q), .second, .unset] [(.long n)])) _
          refine XS.lconst X0.here hx rfl (hb hby at_36) ?_
          show Steps p.tables e below (s₁.setTop (mkF m 37 #[.val (.int p1), .val (.int p2), .val (.long n), .second, .val (.long d), .second, .val (.double q), .second, .unset] [(.long (0 : Int64)), (.long n)])) _
          refine XS.lcmp X0.here hx rfl (hb hby at_37) rfl ?_
          show Steps p.tables e below (s₁.setTop (mkF m 38 #[.val (.int p1), .val (.int p2), .val (.long n), .second, .val (.long d), .second, .val (.double q), .second, .unset] [(.int (lcmpW n (0 : Int64)))])) _
          refine XS.ifNo X0.here hx rfl (hb hby at_38) rfl ((if0 _ _).trans (tlt ((lw_gt _ _).mpr c1)).2.2.2) ?_
          show Steps p.tables e below (s₁.setTop (mkF m 41 #[.val (.int p1), .val (.int p2), .val (.long n), .second, .val (.long d), .second, .val (.double q), .second, .unset] [])) _
          refine XS.iconst X0.here hx rfl (hb hby at_41) ?_
          show Steps p.tables e below (s₁.setTop (mkF m 42 #[.val (.int p1), .val (.int p2), .val (.long n), .second, .val (.long d), .second, .val (.double q), .second, .unset] [(.int (1 : Int32))])) _
          refine XS.goto X0.here hx rfl (pc0 := 42) (pc' := 46) rfl (hb hby at_42) (by decide) (by decide) ?_
          show Steps p.tables e below (s₁.setTop (mkF m 46 #[.val (.int p1), .val (.int p2), .val (.long n), .second, .val (.long d), .second, .val (.double q), .second, .unset] [(.int (1 : Int32))])) _
          refine XS.lload X0.here hx rfl (hb hby at_46) rfl ?_
          show Steps p.tables e below (s₁.setTop (mkF m 48 #[.val (.int p1), .val (.int p2), .val (.long n), .second, .val (.long d), .second, .val (.double q), .second, .unset] [(.long d), (.int (1 : Int32))])) _
          refine XS.lconst X0.here hx rfl (hb hby at_48) ?_
          show Steps p.tables e below (s₁.setTop (mkF m 49 #[.val (.int p1), .val (.int p2), .val (.long n), .second, .val (.long d), .second, .val (.double q), .second, .unset] [(.long (0 : Int64)), (.long d), (.int (1 : Int32))])) _
          refine XS.lcmp X0.here hx rfl (hb hby at_49) rfl ?_
          show Steps p.tables e below (s₁.setTop (mkF m 50 #[.val (.int p1), .val (.int p2), .val (.long n), .second, .val (.long d), .second, .val (.double q), .second, .unset] [(.int (lcmpW d (0 : Int64))), (.int (1 : Int32))])) _
          refine XS.ifYes X0.here hx rfl (pc0 := 50) (pc' := 57) rfl (hb hby at_50) rfl ((if0 _ _).trans (flt (fun q => c2 ((lw_gt _ _).mp q))).2.2.2) (by decide) (by decide) ?_
          show Steps p.tables e below (s₁.setTop (mkF m 57 #[.val (.int p1), .val (.int p2), .val (.long n), .second, .val (.long d), .second, .val (.double q), .second, .unset] [(.int (1 : Int32))])) _
          refine XS.iconst X0.here hx rfl (hb hby at_57) ?_
          show Steps p.tables e below (s₁.setTop (mkF m 58 #[.val (.int p1), .val (.int p2), .val (.long n), .second, .val (.long d), .second, .val (.double q), .second, .unset] [(.int (0 : Int32)), (.int (1 : Int32))])) _
          refine XS.icmpNo X0.here hx rfl (hb hby at_58) rfl (feq (by decide)).1 ?_
          show Steps p.tables e below (s₁.setTop (mkF m 61 #[.val (.int p1), .val (.int p2), .val (.long n), .second, .val (.long d), .second, .val (.double q), .second, .unset] [])) _
          refine XS.iconst X0.here hx rfl (hb hby at_61) ?_
          show Steps p.tables e below (s₁.setTop (mkF m 62 #[.val (.int p1), .val (.int p2), .val (.long n), .second, .val (.long d), .second, .val (.double q), .second, .unset] [(.int (0 : Int32))])) _
          refine XS.istore X0.here hx rfl (hb hby at_62) rfl (l' := #[.val (.int p1), .val (.int p2), .val (.long n), .second, .val (.long d), .second, .val (.double q), .second, .val (.int (0 : Int32))]) rfl ?_
          show Steps p.tables e below (s₁.setTop (mkF m 64 #[.val (.int p1), .val (.int p2), .val (.long n), .second, .val (.long d), .second, .val (.double q), .second, .val (.int (0 : Int32))] [])) _
          refine XS.goto X0.here hx rfl (pc0 := 64) (pc' := 87) rfl (hb hby at_64) (by decide) (by decide) ?_
          show Steps p.tables e below (s₁.setTop (mkF m 87 #[.val (.int p1), .val (.int p2), .val (.long n), .second, .val (.long d), .second, .val (.double q), .second, .val (.int (0 : Int32))] [])) _
          exact k
      · simp only [if_neg c1]
        by_cases c2 : (0 : Int64) < d
        · refine ⟨s₁, [], X0, e0, N0, fun target k => ?_⟩
          rw [if_pos c2] at k
          show Steps p.tables e below (s₁.setTop (mkF m 23 #[.val (.int p1), .val (.int p2), .val (.long n), .second, .val (.long d), .second, .val (.double q), .second, .unset] [])) _
          refine XS.lloadN X0.here hx rfl (hb hby at_23) rfl ?_
          show Steps p.tables e below (s₁.setTop (mkF m 24 #[.val (.int p1), .val (.int p2), .val (.long n), .second, .val (.long d), .second, .val (.double q), .second, .unset] [(.long n)])) _
          refine XS.lconst X0.here hx rfl (hb hby at_24) ?_
          show Steps p.tables e below (s₁.setTop (mkF m 25 #[.val (.int p1), .val (.int p2), .val (.long n), .second, .val (.long d), .second, .val (.double q), .second, .unset] [(.long (0 : Int64)), (.long n)])) _
          refine XS.lcmp X0.here hx rfl (hb hby at_25) rfl ?_
          show Steps p.tables e below (s₁.setTop (mkF m 26 #[.val (.int p1), .val (.int p2), .val (.long n), .second, .val (.long d), .second, .val (.double q), .second, .unset] [(.int (lcmpW n (0 : Int64)))])) _
          refine XS.ifYes X0.here hx rfl (pc0 := 26) (pc' := 35) rfl (hb hby at_26) rfl ((if0 _ _).trans (feq (fun q => c0 ((lw_eq _ _).mp q))).2) (by decide) (by decide) ?_
          show Steps p.tables e below (s₁.setTop (mkF m 35 #[.val (.int p1), .val (.int p2), .val (.long n), .second, .val (.long d), .second, .val (.double q), .second, .unset] [])) _
          refine XS.lloadN X0.here hx rfl (hb hby at_35) rfl ?_
          show Steps p.tables e below (s₁.setTop (mkF m 36 #[.val (.int p1), .val (.int p2), .val (.long n), .second, .val (.long d), .second, .val (.double q), .second, .unset] [(.long n)])) _
          refine XS.lconst X0.here hx rfl (hb hby at_36) ?_
          show Steps p.tables e below (s₁.setTop (mkF m 37 #[.val (.int p1), .val (.int p2), .val (.long n), .second, .val (.long d), .second, .val (.double q), .second, .unset] [(.long (0 : Int64)), (.long n)])) _
          refine XS.lcmp X0.here hx rfl (hb hby at_37) rfl ?_
          show Steps p.tables e below (s₁.setTop (mkF m 38 #[.val (.int p1), .val (.int p2), .val (.long n), .second, .val (.long d), .second, .val (.double q), .second, .unset] [(.int (lcmpW n (0 : Int64)))])) _
          refine XS.ifYes X0.here hx rfl (pc0 := 38) (pc' := 45) rfl (hb hby at_38) rfl ((if0 _ _).trans (flt (fun q => c1 ((lw_gt _ _).mp q))).2.2.2) (by decide) (by decide) ?_
          show Steps p.tables e below (s₁.setTop (mkF m 45 #[.val (.int p1), .val (.int p2), .val (.long n), .second, .val (.long d), .second, .val (.double q), .second, .unset] [])) _
          refine XS.iconst X0.here hx rfl (hb hby at_45) ?_
          show Steps p.tables e below (s₁.setTop (mkF m 46 #[.val (.int p1), .val (.int p2), .val (.long n), .second, .val (.long d), .second, .val (.double q), .second, .unset] [(.int (0 : Int32))])) _
          refine XS.lload X0.here hx rfl (hb hby at_46) rfl ?_
          show Steps p.tables e below (s₁.setTop (mkF m 48 #[.val (.int p1), .val (.int p2), .val (.long n), .second, .val (.long d), .second, .val (.double q), .second, .unset] [(.long d), (.int (0 : Int32))])) _
          refine XS.lconst X0.here hx rfl (hb hby at_48) ?_
          show Steps p.tables e below (s₁.setTop (mkF m 49 #[.val (.int p1), .val (.int p2), .val (.long n), .second, .val (.long d), .second, .val (.double q), .second, .unset] [(.long (0 : Int64)), (.long d), (.int (0 : Int32))])) _
          refine XS.lcmp X0.here hx rfl (hb hby at_49) rfl ?_
          show Steps p.tables e below (s₁.setTop (mkF m 50 #[.val (.int p1), .val (.int p2), .val (.long n), .second, .val (.long d), .second, .val (.double q), .second, .unset] [(.int (lcmpW d (0 : Int64))), (.int (0 : Int32))])) _
          refine XS.ifNo X0.here hx rfl (hb hby at_50) rfl ((if0 _ _).trans (tlt ((lw_gt _ _).mpr c2)).2.2.2) ?_
          show Steps p.tables e below (s₁.setTop (mkF m 53 #[.val (.int p1), .val (.int p2), .val (.long n), .second, .val (.long d), .second, .val (.double q), .second, .unset] [(.int (0 : Int32))])) _
          refine XS.iconst X0.here hx rfl (hb hby at_53) ?_
          show Steps p.tables e below (s₁.setTop (mkF m 54 #[.val (.int p1), .val (.int p2), .val (.long n), .second, .val (.long d), .second, .val (.double q), .second, .unset] [(.int (1 : Int32)), (.int (0 : Int32))])) _
          refine XS.goto X0.here hx rfl (pc0 := 54) (pc' := 58) rfl (hb hby at_54) (by decide) (by decide) ?_
          show Steps p.tables e below (s₁.setTop (mkF m 58 #[.val (.int p1), .val (.int p2), .val (.long n), .second, .val (.long d), .second, .val (.double q), .second, .unset] [(.int (1 : Int32)), (.int (0 : Int32))])) _
          refine XS.icmpNo X0.here hx rfl (hb hby at_58) rfl (feq (by decide)).1 ?_
          show Steps p.tables e below (s₁.setTop (mkF m 61 #[.val (.int p1), .val (.int p2), .val (.long n), .second, .val (.long d), .second, .val (.double q), .second, .unset] [])) _
          refine XS.iconst X0.here hx rfl (hb hby at_61) ?_
          show Steps p.tables e below (s₁.setTop (mkF m 62 #[.val (.int p1), .val (.int p2), .val (.long n), .second, .val (.long d), .second, .val (.double q), .second, .unset] [(.int (0 : Int32))])) _
          refine XS.istore X0.here hx rfl (hb hby at_62) rfl (l' := #[.val (.int p1), .val (.int p2), .val (.long n), .second, .val (.long d), .second, .val (.double q), .second, .val (.int (0 : Int32))]) rfl ?_
          show Steps p.tables e below (s₁.setTop (mkF m 64 #[.val (.int p1), .val (.int p2), .val (.long n), .second, .val (.long d), .second, .val (.double q), .second, .val (.int (0 : Int32))] [])) _
          refine XS.goto X0.here hx rfl (pc0 := 64) (pc' := 87) rfl (hb hby at_64) (by decide) (by decide) ?_
          show Steps p.tables e below (s₁.setTop (mkF m 87 #[.val (.int p1), .val (.int p2), .val (.long n), .second, .val (.long d), .second, .val (.double q), .second, .val (.int (0 : Int32))] [])) _
          exact k
        · simp only [if_neg c2]
          refine ⟨T6, L6, X6, e6, N6, fun target k => ?_⟩
          show Steps p.tables e below (s₁.setTop (mkF m 23 #[.val (.int p1), .val (.int p2), .val (.long n), .second, .val (.long d), .second, .val (.double q), .second, .unset] [])) _
          refine XS.lloadN X0.here hx rfl (hb hby at_23) rfl ?_
          show Steps p.tables e below (s₁.setTop (mkF m 24 #[.val (.int p1), .val (.int p2), .val (.long n), .second, .val (.long d), .second, .val (.double q), .second, .unset] [(.long n)])) _
          refine XS.lconst X0.here hx rfl (hb hby at_24) ?_
          show Steps p.tables e below (s₁.setTop (mkF m 25 #[.val (.int p1), .val (.int p2), .val (.long n), .second, .val (.long d), .second, .val (.double q), .second, .unset] [(.long (0 : Int64)), (.long n)])) _
          refine XS.lcmp X0.here hx rfl (hb hby at_25) rfl ?_
          show Steps p.tables e below (s₁.setTop (mkF m 26 #[.val (.int p1), .val (.int p2), .val (.long n), .second, .val (.long d), .second, .val (.double q), .second, .unset] [(.int (lcmpW n (0 : Int64)))])) _
          refine XS.ifYes X0.here hx rfl (pc0 := 26) (pc' := 35) rfl (hb hby at_26) rfl ((if0 _ _).trans (feq (fun q => c0 ((lw_eq _ _).mp q))).2) (by decide) (by decide) ?_
          show Steps p.tables e below (s₁.setTop (mkF m 35 #[.val (.int p1), .val (.int p2), .val (.long n), .second, .val (.long d), .second, .val (.double q), .second, .unset] [])) _
          refine XS.lloadN X0.here hx rfl (hb hby at_35) rfl ?_
          show Steps p.tables e below (s₁.setTop (mkF m 36 #[.val (.int p1), .val (.int p2), .val (.long n), .second, .val (.long d), .second, .val (.double q), .second, .unset] [(.long n)])) _
          refine XS.lconst X0.here hx rfl (hb hby at_36) ?_
          show Steps p.tables e below (s₁.setTop (mkF m 37 #[.val (.int p1), .val (.int p2), .val (.long n), .second, .val (.long d), .second, .val (.double q), .second, .unset] [(.long (0 : Int64)), (.long n)])) _
          refine XS.lcmp X0.here hx rfl (hb hby at_37) rfl ?_
          show Steps p.tables e below (s₁.setTop (mkF m 38 #[.val (.int p1), .val (.int p2), .val (.long n), .second, .val (.long d), .second, .val (.double q), .second, .unset] [(.int (lcmpW n (0 : Int64)))])) _
          refine XS.ifYes X0.here hx rfl (pc0 := 38) (pc' := 45) rfl (hb hby at_38) rfl ((if0 _ _).trans (flt (fun q => c1 ((lw_gt _ _).mp q))).2.2.2) (by decide) (by decide) ?_
          show Steps p.tables e below (s₁.setTop (mkF m 45 #[.val (.int p1), .val (.int p2), .val (.long n), .second, .val (.long d), .second, .val (.double q), .second, .unset] [])) _
          refine XS.iconst X0.here hx rfl (hb hby at_45) ?_
          show Steps p.tables e below (s₁.setTop (mkF m 46 #[.val (.int p1), .val (.int p2), .val (.long n), .second, .val (.long d), .second, .val (.double q), .second, .unset] [(.int (0 : Int32))])) _
          refine XS.lload X0.here hx rfl (hb hby at_46) rfl ?_
          show Steps p.tables e below (s₁.setTop (mkF m 48 #[.val (.int p1), .val (.int p2), .val (.long n), .second, .val (.long d), .second, .val (.double q), .second, .unset] [(.long d), (.int (0 : Int32))])) _
          refine XS.lconst X0.here hx rfl (hb hby at_48) ?_
          show Steps p.tables e below (s₁.setTop (mkF m 49 #[.val (.int p1), .val (.int p2), .val (.long n), .second, .val (.long d), .second, .val (.double q), .second, .unset] [(.long (0 : Int64)), (.long d), (.int (0 : Int32))])) _
          refine XS.lcmp X0.here hx rfl (hb hby at_49) rfl ?_
          show Steps p.tables e below (s₁.setTop (mkF m 50 #[.val (.int p1), .val (.int p2), .val (.long n), .second, .val (.long d), .second, .val (.double q), .second, .unset] [(.int (lcmpW d (0 : Int64))), (.int (0 : Int32))])) _
          refine XS.ifYes X0.here hx rfl (pc0 := 50) (pc' := 57) rfl (hb hby at_50) rfl ((if0 _ _).trans (flt (fun q => c2 ((lw_gt _ _).mp q))).2.2.2) (by decide) (by decide) ?_
          show Steps p.tables e below (s₁.setTop (mkF m 57 #[.val (.int p1), .val (.int p2), .val (.long n), .second, .val (.long d), .second, .val (.double q), .second, .unset] [(.int (0 : Int32))])) _
          refine XS.iconst X0.here hx rfl (hb hby at_57) ?_
          show Steps p.tables e below (s₁.setTop (mkF m 58 #[.val (.int p1), .val (.int p2), .val (.long n), .second, .val (.long d), .second, .val (.double q), .second, .unset] [(.int (0 : Int32)), (.int (0 : Int32))])) _
          refine XS.icmpYes X0.here hx rfl (pc0 := 58) (pc' := 67) rfl (hb hby at_58) rfl (teq (rfl)).1 (by decide) (by decide) ?_
          show Steps p.tables e below (s₁.setTop (mkF m 67 #[.val (.int p1), .val (.int p2), .val (.long n), .second, .val (.long d), .second, .val (.double q), .second, .unset] [])) _
          exact st6 _ k
  obtain ⟨T5, L5, X5, e5, N5, st5⟩ := seg23
  obtain ⟨x8, hx8⟩ : ∃ z : Int32, z = own_exp n d := ⟨_, rfl⟩
  rw [← hx8] at rng st5
  obtain ⟨_, _, ⟨T9, L9, k9, n9⟩, -, X9, ⟨Lc9, hQ9, l9, y9, z9⟩, st9⟩ := Jvm.LawKit.callS X5 hx (y := (⟨"com/example/clearance_by_risk/clearancebyrisk/service/RiskAssessor", "isRisk", "(D)Z"⟩ : MethodName)) hown (mvT hZ (hw _ (List.mem_of_getElem? (i := 0) rfl))) (mvT hZ (hw _ (List.mem_of_getElem? (i := 1) rfl))) (mvT hZ (hw _ (List.mem_of_getElem? (i := 2) rfl))) (mvT hZ (hw _ (List.mem_of_getElem? (i := 3) rfl))) (by decide) (backOf (W := 0) (rm_1 l Z a0 hw [] q h0 n0 Z0) hZ (hw _ (List.mem_of_getElem? (i := 3) rfl)) (hw _ (List.mem_of_getElem? (i := 2) rfl)) (by decide) (by decide)) (g := (mkF m 89 #[.val (.int p1), .val (.int p2), .val (.long n), .second, .val (.long d), .second, .val (.double q), .second, .val (.int x8)] [(.double q)])) rfl (by rw [hml]; rfl) (argsL := [(.double q)]) (rest := []) (lenOf pd_1 rfl) rfl (by show 2 * 0 + _ ≤ _; exact Nat.le_of_eq rfl) (hb hby at_89) (fun _ _ => ⟨rfl, e5, (by decide : 0 + 0 ≤ _), (by decide : 0 + 0 ≤ _)⟩)
  dsimp only [Pt.U, Pt.locs, Pt.cells, Pt.slots] at X9 l9 y9 z9 st9 hQ9
  subst l9 y9 z9
  obtain ⟨rfl, N9, e9⟩ := hQ9
  obtain ⟨fs, hr, hrun, hended, hW, hsame⟩ := X9.leave (v := some (.int (1 : Int32))) (fun h => by rw [Bd.returns] at h; cases h)
  refine ⟨_, _, pre0 _ ?_, hrun, hended, _, _, rfl, ?_, ⟨_, rfl⟩, hW, hsame.mono (by decide) (by decide)⟩
  · have k87 : Steps p.tables e below (T5.setTop (mkF m 87 #[.val (.int p1), .val (.int p2), .val (.long n), .second, .val (.long d), .second, .val (.double q), .second, .val (.int x8)] [])) (T9.setFrames fs) := by
      show Steps p.tables e below (T5.setTop (mkF m 87 #[.val (.int p1), .val (.int p2), .val (.long n), .second, .val (.long d), .second, .val (.double q), .second, .val (.int x8)] [])) _
      refine XS.dload X5.here hx rfl (hb hby at_87) rfl ?_
      show Steps p.tables e below (T5.setTop (mkF m 89 #[.val (.int p1), .val (.int p2), .val (.long n), .second, .val (.long d), .second, .val (.double q), .second, .val (.int x8)] [(.double q)])) _
      refine st9 _ ?_
      show Steps p.tables e below (T9.setTop (mkF m 92 #[.val (.int p1), .val (.int p2), .val (.long n), .second, .val (.long d), .second, .val (.double q), .second, .val (.int x8)] [(.int (own_rng q))])) _
      refine XS.iload X9.here hx rfl (hb hby at_92) rfl ?_
      show Steps p.tables e below (T9.setTop (mkF m 94 #[.val (.int p1), .val (.int p2), .val (.long n), .second, .val (.long d), .second, .val (.double q), .second, .val (.int x8)] [(.int x8), (.int (own_rng q))])) _
      refine XS.icmpNo X9.here hx rfl (hb hby at_94) rfl (teq rng).2 ?_
      show Steps p.tables e below (T9.setTop (mkF m 97 #[.val (.int p1), .val (.int p2), .val (.long n), .second, .val (.long d), .second, .val (.double q), .second, .val (.int x8)] [])) _
      refine XS.iconst X9.here hx rfl (hb hby at_97) ?_
      show Steps p.tables e below (T9.setTop (mkF m 98 #[.val (.int p1), .val (.int p2), .val (.long n), .second, .val (.long d), .second, .val (.double q), .second, .val (.int x8)] [(.int (1 : Int32))])) _
      refine XS.goto X9.here hx rfl (pc0 := 98) (pc' := 102) rfl (hb hby at_98) (by decide) (by decide) ?_
      show Steps p.tables e below (T9.setTop (mkF m 102 #[.val (.int p1), .val (.int p2), .val (.long n), .second, .val (.long d), .second, .val (.double q), .second, .val (.int x8)] [(.int (1 : Int32))])) _
      exact retN X9 hx (t := .boolean) Bd.returns (by simp) (hb hby at_102) hr
    have k13 : ∀ z, z = d → Steps p.tables e below (s₁.setTop (mkF m 13 #[.val (.int p1), .val (.int p2), .val (.long n), .second, .unset, .unset, .unset, .unset, .unset] [(.long z)])) (T9.setFrames fs) := by
      intro z hz; rw [hz]
      show Steps p.tables e below (s₁.setTop (mkF m 13 #[.val (.int p1), .val (.int p2), .val (.long n), .second, .unset, .unset, .unset, .unset, .unset] [(.long d)])) _
      refine XS.lstore X0.here hx rfl (hb hby at_13) rfl (l' := #[.val (.int p1), .val (.int p2), .val (.long n), .second, .val (.long d), .second, .unset, .unset, .unset]) rfl ?_
      show Steps p.tables e below (s₁.setTop (mkF m 15 #[.val (.int p1), .val (.int p2), .val (.long n), .second, .val (.long d), .second, .unset, .unset, .unset] [])) _
      refine XS.lloadN X0.here hx rfl (hb hby at_15) rfl ?_
      show Steps p.tables e below (s₁.setTop (mkF m 16 #[.val (.int p1), .val (.int p2), .val (.long n), .second, .val (.long d), .second, .unset, .unset, .unset] [(.long n)])) _
      refine XS.l2dS X0.here hx rfl (hb hby at_16) rfl rfl ?_
      show Steps p.tables e below (s₁.setTop (mkF m 17 #[.val (.int p1), .val (.int p2), .val (.long n), .second, .val (.long d), .second, .unset, .unset, .unset] [(.double (FP.l2d n))])) _
      refine XS.lload X0.here hx rfl (hb hby at_17) rfl ?_
      show Steps p.tables e below (s₁.setTop (mkF m 19 #[.val (.int p1), .val (.int p2), .val (.long n), .second, .val (.long d), .second, .unset, .unset, .unset] [(.long d), (.double (FP.l2d n))])) _
      refine XS.l2dS X0.here hx rfl (hb hby at_19) rfl rfl ?_
      show Steps p.tables e below (s₁.setTop (mkF m 20 #[.val (.int p1), .val (.int p2), .val (.long n), .second, .val (.long d), .second, .unset, .unset, .unset] [(.double (FP.l2d d)), (.double (FP.l2d n))])) _
      refine XS.ddivS X0.here hx rfl (hb hby at_20) rfl qnn hq.symm ?_
      show Steps p.tables e below (s₁.setTop (mkF m 21 #[.val (.int p1), .val (.int p2), .val (.long n), .second, .val (.long d), .second, .unset, .unset, .unset] [(.double q)])) _
      refine XS.dstore X0.here hx rfl (hb hby at_21) rfl (l' := #[.val (.int p1), .val (.int p2), .val (.long n), .second, .val (.long d), .second, .val (.double q), .second, .unset]) rfl ?_
      show Steps p.tables e below (s₁.setTop (mkF m 23 #[.val (.int p1), .val (.int p2), .val (.long n), .second, .val (.long d), .second, .val (.double q), .second, .unset] [])) _
      exact st5 _ k87
    show Steps p.tables e below (s₁.setTop (mkF m 0 #[.val (.int p1), .val (.int p2), .unset, .unset, .unset, .unset, .unset, .unset, .unset] [])) _
    refine XS.iloadN X0.here hx rfl (hb hby at_0) rfl ?_
    show Steps p.tables e below (s₁.setTop (mkF m 1 #[.val (.int p1), .val (.int p2), .unset, .unset, .unset, .unset, .unset, .unset, .unset] [(.int p1)])) _
    refine XS.i2l X0.here hx rfl (hb hby at_1) rfl ?_
    show Steps p.tables e below (s₁.setTop (mkF m 2 #[.val (.int p1), .val (.int p2), .unset, .unset, .unset, .unset, .unset, .unset, .unset] [(.long (p1).toInt64)])) _
    refine XS.lstoreN X0.here hx rfl (hb hby at_2) rfl (l' := #[.val (.int p1), .val (.int p2), .val (.long n), .second, .unset, .unset, .unset, .unset, .unset]) (by rw [hn]; rfl) ?_
    show Steps p.tables e below (s₁.setTop (mkF m 3 #[.val (.int p1), .val (.int p2), .val (.long n), .second, .unset, .unset, .unset, .unset, .unset] [])) _
    refine XS.iloadN X0.here hx rfl (hb hby at_3) rfl ?_
    show Steps p.tables e below (s₁.setTop (mkF m 4 #[.val (.int p1), .val (.int p2), .val (.long n), .second, .unset, .unset, .unset, .unset, .unset] [(.int p2)])) _
    by_cases c : p2 = (0 : Int32)
    · refine XS.ifNo X0.here hx rfl (hb hby at_4) rfl ((if0 _ _).trans (teq c).2) ?_
      show Steps p.tables e below (s₁.setTop (mkF m 7 #[.val (.int p1), .val (.int p2), .val (.long n), .second, .unset, .unset, .unset, .unset, .unset] [])) _
      refine XS.lconst X0.here hx rfl (hb hby at_7) ?_
      show Steps p.tables e below (s₁.setTop (mkF m 8 #[.val (.int p1), .val (.int p2), .val (.long n), .second, .unset, .unset, .unset, .unset, .unset] [(.long (1 : Int64))])) _
      refine XS.goto X0.here hx rfl (pc0 := 8) (pc' := 13) rfl (hb hby at_8) (by decide) (by decide) ?_
      show Steps p.tables e below (s₁.setTop (mkF m 13 #[.val (.int p1), .val (.int p2), .val (.long n), .second, .unset, .unset, .unset, .unset, .unset] [(.long (1 : Int64))])) _
      exact k13 _ (by rw [hd, if_pos c])
    · refine XS.ifYes X0.here hx rfl (pc0 := 4) (pc' := 11) rfl (hb hby at_4) rfl ((if0 _ _).trans (feq c).2) (by decide) (by decide) ?_
      show Steps p.tables e below (s₁.setTop (mkF m 11 #[.val (.int p1), .val (.int p2), .val (.long n), .second, .unset, .unset, .unset, .unset, .unset] [])) _
      refine XS.iloadN X0.here hx rfl (hb hby at_11) rfl ?_
      show Steps p.tables e below (s₁.setTop (mkF m 12 #[.val (.int p1), .val (.int p2), .val (.long n), .second, .unset, .unset, .unset, .unset, .unset] [(.int p2)])) _
      refine XS.i2l X0.here hx rfl (hb hby at_12) rfl ?_
      show Steps p.tables e below (s₁.setTop (mkF m 13 #[.val (.int p1), .val (.int p2), .val (.long n), .second, .unset, .unset, .unset, .unset, .unset] [(.long (p2).toInt64)])) _
      exact k13 _ (by rw [hd, if_neg c])
  · exact ⟨rfl, Fr.app N5 N9⟩
set_option maxRecDepth 65536 in
set_option maxHeartbeats 40000000 in
theorem comes_1 {Post : Tables → Env → Array Value → State → Outcome → State → Prop} (hpost : ∀ tb e args s v u, (limb_1_1.after args s (.returned v) u = true ∧ limb_1_2.after args s (.returned v) u = true ∧ True) → FrameEnd s (.returned v) u (Jvm.fieldLocs frame_1_writes args s ++ Jvm.arrayLocs frame_1_arrays args s ++ Jvm.staticLocs frame_1_statics s) 0 0 → Post tb e args s (.returned v) u) :
    ArmFor flags0 classFile x code maxLocals ret World_1 tables_1 room_1 Calls_1 rest_1 Pre_1 Post := by
  intro l hfl _ _ p e ha hc hk s m args below hf hA hF happ hP
  obtain ⟨hcalls, hrest, hpre⟩ := hP
  obtain ⟨-, -, -, hnamed, -, -, -, hat⟩ := (Spec.applies_iff hf).mp happ
  obtain ⟨hg, hn⟩ := and_e (Cond.before_iff.mp (show (Jvm.Cond.and given_1 narrow_1).before args s = true from hpre))
  obtain ⟨h1, g0⟩ := and_e hg
  obtain ⟨c0, g1⟩ := and_e g0
  obtain ⟨w0, w1, rfl⟩ : ∃ w0 w1 : Value, args = #[w0, w1] := by
    have hs : args.size = 2 := by simpa [Cond.value, given_1] using h1
    obtain ⟨L⟩ := args
    match L, hs with
    | [w0, w1], _ => exact ⟨w0, w1, rfl⟩
  have hw := fun d (hd : d ∈ tables_1) => atoms_spec (ws := Jvm.Cond.code x code maxLocals ret :: tables_1) hat d (List.mem_cons_of_mem _ hd)
  obtain ⟨i0, q0⟩ := is_v c0
  obtain rfl : w0 = (.int i0) := Option.some.inj q0
  obtain ⟨i1, q1⟩ := is_v g1
  obtain rfl : w1 = (.int i1) := Option.some.inj q1
  obtain ⟨n, o, h1, h2, h3, _, L, rfl, ⟨rfl, N⟩, hq⟩ := rm_0 l s _ hw tables_1 i0 i1 s.heap s.heap.size (Nat.le_refl _)  p e ha hc hk s m _ below hf ((Spec.applies_iff_loose hf).mp happ).1 ⟨rfl, State.Warmed39.refl s, rfl⟩ trivial
  refine ⟨n, _, h1, h2, h3, hpost _ _ _ _ _ _ ⟨Cond.after_iff.mpr rfl, Cond.after_iff.mpr (eq_i res_at (Term.int_eval (1)) rfl), trivial⟩ ⟨hq.1, hq.2.1, (hq.2.2.sift fun y hy => Or.inr (N y hy)).mono (by decide) (by decide)⟩⟩
theorem main_1_1 : Claimed_1_1 := comes_1 fun _ _ _ _ _ _ h hF => ⟨h.1, hF⟩
theorem main_1_2 : Claimed_1_2 := comes_1 fun _ _ _ _ _ _ h hF => ⟨h.2.1, hF⟩
end Jvm.Pilot.@@N@@
namespace Jvm.Pilot.@@N@@
open Jvm Jvm.ClassFile Sem Op Lib Jvm.Free Jvm.Stand Jvm.Pilot.@@N@@.Jvm.D
/-! MADE BY PROGRAM (witnessworld.py) out of the Statement's table words and the real class files: 10 classes; the members and pool entries that the words name. The judged class is class 1, her method 1. -/
namespace start1
open Jvm.ClassFile
def u (s : String) : CpInfo := .utf8 (stringToUtf16 s)
/-- a pool by its gaps: so many unusable entries, then the entry; so many at the end -/
def gap : Nat → List CpInfo → List CpInfo
  | 0, r => r
  | n + 1, r => .unusable :: gap n r
def poolList (es : List (Nat × CpInfo)) (last : Nat) : List CpInfo := es.foldr (fun e r => gap e.1 (e.2 :: r)) (gap last [])
def pool (es : List (Nat × CpInfo)) (last : Nat) : Array CpInfo := ⟨poolList es last⟩
def fileOf (pool : Array CpInfo) (this : Nat) (attrs : Array Attribute := #[]) (ms : Array MethodInfo := #[]) (fl : Nat := 33) (sup : Nat := 0) (ifs : Array Nat := #[]) (fds : Array FieldInfo := #[]) : ClassFile where
  minorVersion := 0
  majorVersion := 65
  constantPool := pool
  accessFlags := fl
  thisClass := this
  superClass := sup
  interfaces := ifs
  fields := fds
  methods := ms
  attributes := attrs
def plain (name : String) (sup : Option ClassId) : Class where
  name := name
  kind := .ordinary
  loader := none
  accessFlags := 33
  super := sup
  interfaces := #[]
  cf := none
  fields := #[]
  methods := #[]
  instanceTypes := #[]
  staticTypes := #[]
  resolved := #[]
  callSites := []
  init := .initialized
  statics := none
  mirror := none

def pool0 : Array CpInfo := pool [(5, u "<init>"), (0, u "()V"), (1, .class_ 10), (1, u "java/lang/Object")] 113

def k0m0 : Method := { name := "<init>", desc := "()V", sig := { parameters := [], returnType := none }, accessFlags := 1, code := none }
/-- java/lang/Object -/
def k0 : Class := { plain "java/lang/Object" none with
  accessFlags := 33
  interfaces := #[]
  cf := some (fileOf pool0 8 #[] #[{ accessFlags := 1, nameIndex := 5, descriptorIndex := 6, attributes := #[] }] 33 0 #[] #[])
  fields := #[]
  methods := #[k0m0]
  instanceTypes := #[]
  staticTypes := #[]
  resolved := Array.replicate 124 none
  statics := none }

def pool1 : Array CpInfo := pool [(2, .class_ 4), (1, u "java/lang/Object"), (0, u "<init>"), (0, u "()V"), (0, .methodref 8 9), (0, .class_ 10), (0, .nameAndType 11 12), (0, u "java/lang/Math"), (0, u "abs"), (0, u "(J)J"), (0, .interfaceMethodref 14 15), (0, .class_ 16), (0, .nameAndType 17 18), (0, u "com/example/clearance_by_risk/clearancebyrisk/service/RiskAssessor"), (0, u "isRisk"), (0, u "(D)Z"), (0, .class_ 20), (0, u "com/example/clearance_by_risk/clearancebyrisk/service/RiskAssessorIsRiskPinLaw"), (2, u "law"), (0, u "(II)Z")] 3

def k1m0 : Method := { name := "<init>", desc := "()V", sig := { parameters := [], returnType := none }, accessFlags := 1, code := none }
def k1c1 : Code := { maxStack := 5, maxLocals := 9, code := code, exceptionTable := #[], attributes := #[] }
def k1m1 : Method := { name := "law", desc := "(II)Z", sig := { parameters := [.int, .int], returnType := some .boolean }, accessFlags := 9, code := some k1c1 }
/-- com/example/clearance_by_risk/clearancebyrisk/service/RiskAssessorIsRiskPinLaw -/
def k1 : Class := { plain "com/example/clearance_by_risk/clearancebyrisk/service/RiskAssessorIsRiskPinLaw" (some 0) with
  accessFlags := 49
  interfaces := #[]
  cf := some (fileOf pool1 19 #[] #[{ accessFlags := 1, nameIndex := 5, descriptorIndex := 6, attributes := #[] }, { accessFlags := 9, nameIndex := 23, descriptorIndex := 24, attributes := #[] }] 49 2 #[] #[])
  fields := #[]
  methods := #[k1m0, k1m1]
  instanceTypes := #[]
  staticTypes := #[]
  resolved := Array.replicate 28 none
  statics := none }

def pool2 : Array CpInfo := pool [(11, .class_ 12), (0, u "com/example/clearance_by_risk/clearancebyrisk/service/RiskAssessor"), (63, .class_ 77), (0, u "java/lang/Object"), (28, u "isRisk"), (0, u "(D)Z")] 31

def k2c0 : Code := { maxStack := 4, maxLocals := 2, code := prog_100_method_3_code, exceptionTable := #[], attributes := #[] }
def k2m0 : Method := { name := "isRisk", desc := "(D)Z", sig := { parameters := [.double], returnType := some .boolean }, accessFlags := 9, code := some k2c0 }
/-- com/example/clearance_by_risk/clearancebyrisk/service/RiskAssessor -/
def k2 : Class := { plain "com/example/clearance_by_risk/clearancebyrisk/service/RiskAssessor" (some 0) with
  accessFlags := 1537
  interfaces := #[]
  cf := some (fileOf pool2 11 #[] #[{ accessFlags := 9, nameIndex := 106, descriptorIndex := 107, attributes := #[] }] 1537 76 #[] #[])
  fields := #[]
  methods := #[k2m0]
  instanceTypes := #[]
  staticTypes := #[]
  resolved := Array.replicate 139 none
  statics := none }

def pool3 : Array CpInfo := pool [(1, .class_ 2), (0, u "java/lang/Math"), (1, .class_ 6), (1, u "java/lang/Object"), (0, u "<init>"), (0, u "()V"), (89, .class_ 100), (1, u "java/lang/Math$RandomNumberGeneratorHolder"), (23, u "abs"), (0, u "(J)J"), (46, u "negativeZeroFloatBits"), (0, u "J"), (2, u "negativeZeroDoubleBits"), (68, u "$assertionsDisabled"), (0, u "Z"), (91, u "twoToTheDoubleScaleDown"), (0, u "D"), (4, u "twoToTheDoubleScaleUp"), (9, u "E"), (3, u "PI"), (2, u "TAU"), (2, u "DEGREES_TO_RADIANS"), (0, u "RADIANS_TO_DEGREES")] 94

def k3m0 : Method := { name := "<init>", desc := "()V", sig := { parameters := [], returnType := none }, accessFlags := 2, code := none }
def k3c1 : Code := { maxStack := 4, maxLocals := 2, code := jdk_29_method_61_code, exceptionTable := #[], attributes := #[] }
def k3m1 : Method := { name := "abs", desc := "(J)J", sig := { parameters := [.long], returnType := some .long }, accessFlags := 9, code := some k3c1 }
/-- java/lang/Math -/
def k3 : Class := { plain "java/lang/Math" (some 0) with
  accessFlags := 49
  interfaces := #[]
  cf := some (fileOf pool3 1 #[.nestMembers #[98]] #[{ accessFlags := 2, nameIndex := 7, descriptorIndex := 8, attributes := #[] }, { accessFlags := 9, nameIndex := 124, descriptorIndex := 125, attributes := #[] }] 49 4 #[] #[{ accessFlags := 25, nameIndex := 354, descriptorIndex := 339, attributes := #[] }, { accessFlags := 25, nameIndex := 358, descriptorIndex := 339, attributes := #[] }, { accessFlags := 25, nameIndex := 361, descriptorIndex := 339, attributes := #[] }, { accessFlags := 26, nameIndex := 364, descriptorIndex := 339, attributes := #[] }, { accessFlags := 26, nameIndex := 365, descriptorIndex := 339, attributes := #[] }, { accessFlags := 26, nameIndex := 172, descriptorIndex := 173, attributes := #[] }, { accessFlags := 26, nameIndex := 176, descriptorIndex := 173, attributes := #[] }, { accessFlags := 8, nameIndex := 344, descriptorIndex := 339, attributes := #[] }, { accessFlags := 8, nameIndex := 338, descriptorIndex := 339, attributes := #[] }, { accessFlags := 4120, nameIndex := 245, descriptorIndex := 246, attributes := #[] }])
  fields := #[{ name := "E", type := .double, accessFlags := 25, slot := 0, constantValue := 0 }, { name := "PI", type := .double, accessFlags := 25, slot := 1, constantValue := 0 }, { name := "TAU", type := .double, accessFlags := 25, slot := 2, constantValue := 0 }, { name := "DEGREES_TO_RADIANS", type := .double, accessFlags := 26, slot := 3, constantValue := 0 }, { name := "RADIANS_TO_DEGREES", type := .double, accessFlags := 26, slot := 4, constantValue := 0 }, { name := "negativeZeroFloatBits", type := .long, accessFlags := 26, slot := 5, constantValue := 0 }, { name := "negativeZeroDoubleBits", type := .long, accessFlags := 26, slot := 6, constantValue := 0 }, { name := "twoToTheDoubleScaleUp", type := .double, accessFlags := 8, slot := 7, constantValue := 0 }, { name := "twoToTheDoubleScaleDown", type := .double, accessFlags := 8, slot := 8, constantValue := 0 }, { name := "$assertionsDisabled", type := .boolean, accessFlags := 4120, slot := 9, constantValue := 0 }]
  methods := #[k3m0, k3m1]
  instanceTypes := #[]
  staticTypes := #[.double, .double, .double, .double, .double, .long, .long, .double, .double, .boolean]
  resolved := Array.replicate 460 none
  statics := none }

def pool4 : Array CpInfo := pool [(1, u "java/lang/Cloneable"), (0, .class_ 1), (0, u "java/lang/Object"), (0, .class_ 3)] 3

/-- java/lang/Cloneable -/
def k4 : Class := { plain "java/lang/Cloneable" (some 0) with
  accessFlags := 1537
  interfaces := #[]
  cf := some (fileOf pool4 2 #[] #[] 1537 4 #[] #[])
  fields := #[]
  methods := #[]
  instanceTypes := #[]
  staticTypes := #[]
  resolved := Array.replicate 8 none
  statics := none }

def pool5 : Array CpInfo := pool [(1, u "java/io/Serializable"), (0, .class_ 1), (0, u "java/lang/Object"), (0, .class_ 3)] 3

/-- java/io/Serializable -/
def k5 : Class := { plain "java/io/Serializable" (some 0) with
  accessFlags := 1537
  interfaces := #[]
  cf := some (fileOf pool5 2 #[] #[] 1537 4 #[] #[])
  fields := #[]
  methods := #[]
  instanceTypes := #[]
  staticTypes := #[]
  resolved := Array.replicate 8 none
  statics := none }

/-- the primitive byte -/
def k6 : Class := { plain "byte" none with kind := .primitive 'B', accessFlags := 0x411 }
/-- [B -/
def k7 : Class := { plain "[B" (some 0) with kind := .array 6 .byte, interfaces := #[4, 5], accessFlags := 1041 }

/-- the primitive int -/
def k8 : Class := { plain "int" none with kind := .primitive 'I', accessFlags := 0x411 }
/-- [I -/
def k9 : Class := { plain "[I" (some 0) with kind := .array 8 .int, interfaces := #[4, 5], accessFlags := 1041 }

def heap : Heap := #[]
def classes : Array Class := #[k0, k1, k2, k3, k4, k5, k6, k7, k8, k9]
def interned : List (Array UInt16 × Addr) := []
def slotsUsed : Nat := 0
def theMethod : MethodId := ⟨1, 1⟩
def args0 : Array Value := #[.int 5, .int 7]
def aboutOver (below : List Frame) : State where
  vm := { classes := classes, interned := interned.toArray }
  heap := heap
  slotsUsed := slotsUsed
  threads := #[{ frames := .invoking theMethod args0 :: below }]
def below0 : List Frame := [.native { method := ⟨0, 0⟩, args := #[] }]
def about1 : State := aboutOver below0
def p0 : Program := .bare "" "" ""
def e0 : Env := launch0.env 0 0 0
theorem w_frames : about1.frames = Frame.invoking theMethod args0 :: below0 := rfl
set_option maxRecDepth 65536 in
theorem w_args : argsFit about1.vm theMethod args0 = true := by decide +kernel
set_option maxRecDepth 65536 in
theorem w_heap : heapFits about1 = true := by decide +kernel
set_option maxRecDepth 65536 in
theorem w_runnable : about1.curStatus? = some .runnable := by decide +kernel
set_option maxRecDepth 65536 in
theorem w_alone : about1.alone = true := by decide +kernel
set_option maxRecDepth 65536 in
theorem w_named : about1.methodNamed? x = some theMethod := by decide +kernel
set_option maxRecDepth 65536 in
theorem w_hears : about1.hears theMethod below0 = true := by decide +kernel
set_option maxRecDepth 65536 in
theorem w_ripe : about1.ripe theMethod args0 below0 = true := by decide +kernel
theorem w_running : about1.status = .running := rfl
set_option maxRecDepth 65536 in
theorem w_room : about1.hasRoom e0.platform room_1 = true :=
  launch0.hasRoom_least _ room_1 (by decide +kernel) (by decide +kernel) (by decide +kernel) (by decide +kernel) (by decide +kernel) (by decide +kernel)
theorem allAtoms_all (ts : List Jvm.Cond) (a : Array Jvm.Value) (st : Jvm.State) : (allAtoms ts).before a st = ts.all (fun c => c.before a st) := by
  induction ts with
  | nil => rfl
  | cons c t ih =>
    show (Jvm.Cond.and c (allAtoms t)).before a st = _
    rw [Jvm.Cond.before_and, ih, List.all_cons]
def words1 : List Jvm.Cond := Jvm.Cond.code x code maxLocals ret :: tables_1
/-- a 'code' word, met by the world's own term for the bytes: nothing is compared byte by byte -/
theorem code_word {y : MethodName} {bytes : ByteArray} {mx : Nat} {rt : Option FieldType} {a : Array Value} {s : State} {m : MethodId} {meth : Method} {c : Code} (h1 : s.methodNamed? y = some m) (h2 : s.vm.method? m = some meth) (h3 : meth.code = some c) (h4 : c.code = bytes)
    (h5 : (c.maxLocals == mx && c.exceptionTable.isEmpty && decide (c.maxStack ≤ mostOperands) && decide (meth.sig.returnType = rt) && !meth.locks && decide (parseMethodDescriptor y.desc = some meth.sig)) = true) : (Jvm.Cond.code y bytes mx rt).before a s = true := by
  simp only [Bool.and_eq_true, beq_iff_eq, Bool.not_eq_true', decide_eq_true_eq] at h5
  obtain ⟨⟨⟨⟨⟨g1, g2⟩, g3⟩, g4⟩, g5⟩, g6⟩ := h5
  simp [Cond.before, Cond.holds, Cond.value, h1, h2, h3, h4, g1, g2, g3, g4, g5, g6]
def isCode : Jvm.Cond → Bool
  | .code _ _ _ _ => true
  | _ => false
theorem all_split {L : List Jvm.Cond} {P : Jvm.Cond → Bool} (h1 : L.all (fun c => isCode c || P c) = true) (h2 : ∀ c ∈ L.filter isCode, P c = true) : L.all P = true := by
  refine List.all_eq_true.mpr fun c hc => ?_
  have h := List.all_eq_true.mp h1 c hc
  rcases Bool.eq_false_or_eq_true (isCode c) with hi | hi
  · exact h2 c (List.mem_filter.mpr ⟨hc, hi⟩)
  · simpa [hi] using h
set_option maxRecDepth 65536 in
theorem w_c0 : (Jvm.Cond.code x code maxLocals ret).before args0 about1 = true := code_word (m := ⟨1, 1⟩) (meth := k1m1) (c := k1c1) (by decide +kernel) rfl rfl rfl (by decide +kernel)
set_option maxRecDepth 65536 in
theorem w_c1 : (Jvm.Cond.code ({ cls := "com/example/clearance_by_risk/clearancebyrisk/service/RiskAssessor", name := "isRisk", desc := "(D)Z" } : Jvm.MethodName) prog_100_method_3_code (2 : Nat) (Option.some Jvm.ClassFile.FieldType.boolean)).before args0 about1 = true := code_word (m := ⟨2, 0⟩) (meth := k2m0) (c := k2c0) (by decide +kernel) rfl rfl rfl (by decide +kernel)
set_option maxRecDepth 65536 in
theorem w_c2 : (Jvm.Cond.code ({ cls := "java/lang/Math", name := "abs", desc := "(J)J" } : Jvm.MethodName) jdk_29_method_61_code (2 : Nat) (Option.some Jvm.ClassFile.FieldType.long)).before args0 about1 = true := code_word (m := ⟨3, 1⟩) (meth := k3m1) (c := k3c1) (by decide +kernel) rfl rfl rfl (by decide +kernel)
def codes1 : List Jvm.Cond := [Jvm.Cond.code x code maxLocals ret, Jvm.Cond.code ({ cls := "com/example/clearance_by_risk/clearancebyrisk/service/RiskAssessor", name := "isRisk", desc := "(D)Z" } : Jvm.MethodName) prog_100_method_3_code (2 : Nat) (Option.some Jvm.ClassFile.FieldType.boolean), Jvm.Cond.code ({ cls := "java/lang/Math", name := "abs", desc := "(J)J" } : Jvm.MethodName) jdk_29_method_61_code (2 : Nat) (Option.some Jvm.ClassFile.FieldType.long)]
set_option maxRecDepth 65536 in
theorem codes_eq : words1.filter isCode = codes1 := rfl
theorem w_codes : ∀ c ∈ words1.filter isCode, c.before args0 about1 = true := by
  rw [codes_eq]
  intro c hc
  simp only [codes1, List.mem_cons, List.not_mem_nil, or_false] at hc
  rcases hc with rfl | rfl | rfl
  · exact w_c0
  · exact w_c1
  · exact w_c2
set_option maxRecDepth 65536 in
theorem w_t1 : words1.all (fun c => isCode c || c.before args0 about1) = true := by decide +kernel
theorem w_tables : (allAtoms (Jvm.Cond.code x code maxLocals ret :: tables_1)).before args0 about1 = true := by
  rw [allAtoms_all]
  show words1.all (fun c => c.before args0 about1) = true
  refine all_split ?_ w_codes
  rw [w_t1]
set_option maxRecDepth 65536 in
theorem w_case : (Jvm.Cond.and given_1 narrow_1).before args0 about1 = true := by decide +kernel
theorem w_applies : (headSpec (Jvm.Cond.code x code maxLocals ret :: tables_1) room_1).applies x e0.platform about1 = true :=
  (Spec.applies_iff w_frames).mpr ⟨w_running, w_runnable, w_alone, w_named, w_hears, w_ripe, w_room, w_tables⟩
theorem atStart : AtStart classFile x code maxLocals ret World_1 tables_1 room_1 Calls_1 rest_1 Pre_1 launch0 p0 e0 about1 theMethod args0 below0 :=
  ⟨lists_1, trivial, launch0.admits_env _ _ _, launch0.least_env, fairChoices_fair.cas, fairChoices_fair.clock, w_frames, w_args, w_heap, w_applies, trivial, trivial, w_case⟩
end start1
theorem witness_1 : WitnessClaimed_1 := ⟨start1.p0, start1.e0, start1.about1, start1.theMethod, start1.args0, start1.below0, start1.atStart⟩
end Jvm.Pilot.@@N@@
