import JvmDerived
import JvmDerived.Pilot.@@N@@Statement
import JvmDerived.Pilot.@@N@@Code
set_option linter.unusedVariables false
set_option linter.unusedSimpArgs false
@@BLOCK:NumsL.lean.txt@@
namespace Jvm.Pilot.@@N@@
open Jvm Jvm.ClassFile Sem Op Lib Jvm.Free Jvm.Stand Jvm.LawKit Jvm.RoadKit Bundle Jvm.Pilot.@@N@@.Jvm.D
/-! the quotient of two whole numbers, rounded: where it lies against 0 and 1 -/
section OwnQuot
open Jvm.FP.Core
theorem own_quot {i j : Int} {a b : UInt64} (ha : DInt i a) (hb : DInt j b) (hj : j ≠ 0) :
    ∃ sg, val64 (FP.ddiv a b) = roundRatio b64 sg i.natAbs j.natAbs 0 ∧ (i ≠ 0 → sg = (decide (i < 0) != decide (j < 0))) := by
  have hq : val64 (FP.ddiv a b) = quotient b64 (val64 a) (val64 b) := val64_ddiv a b
  rw [hq]
  have ha' : Whole i (val64 a) := ha
  have hb' : Whole j (val64 b) := hb
  generalize val64 a = x at ha'
  generalize val64 b = y at hb'
  cases x with
  | nan => exact ha'.elim
  | inf => exact ha'.elim
  | fin s c q =>
  cases y with
  | nan => exact hb'.elim
  | inf => exact hb'.elim
  | fin t d r =>
    have hd : d ≠ 0 := fun h => hj ((whole_zero hb').mp h)
    have hJ : 0 < j.natAbs := by omega
    refine ⟨s != t, ?_, ?_⟩
    · simp only [quotient, if_neg hd]
      refine roundRatio_congr (by omega) hJ ?_
      have h1 := whole_natAbs ha'
      have h2 := whole_natAbs hb'
      generalize i.natAbs = I at h1 ⊢
      generalize j.natAbs = J at h2 ⊢
      have e : (q - r - 0).toNat + ((-q).toNat + r.toNat) = (0 - (q - r)).toNat + (q.toNat + (-r).toNat) := by omega
      generalize (q - r - 0).toNat = u at e ⊢
      generalize (0 - (q - r)).toNat = w at e ⊢
      refine Nat.eq_of_mul_eq_mul_right (Nat.two_pow_pos ((-q).toNat + r.toNat)) ?_
      calc c * J * 2 ^ u * 2 ^ ((-q).toNat + r.toNat) = c * J * 2 ^ (u + ((-q).toNat + r.toNat)) := by rw [Nat.pow_add 2 u, Nat.mul_assoc (c * J)]
        _ = c * J * 2 ^ (w + (q.toNat + (-r).toNat)) := by rw [e]
        _ = (c * 2 ^ q.toNat) * (J * 2 ^ (-r).toNat) * 2 ^ w := by simp only [Nat.pow_add]; ac_rfl
        _ = (I * 2 ^ (-q).toNat) * (d * 2 ^ r.toNat) * 2 ^ w := by rw [h1, h2]
        _ = I * d * 2 ^ w * 2 ^ ((-q).toNat + r.toNat) := by simp only [Nat.pow_add]; ac_rfl
    · intro hi
      rw [whole_sign ha' hi, whole_sign hb' hj]
theorem own_one_z : zmag b64 (val64 4607182418800017408) = 2 ^ 52 * 2 ^ 1022 := by decide +kernel
theorem own_next_z : zmag b64 (val64 4607182418800017409) = (2 ^ 52 + 1) * 2 ^ 1022 := by decide +kernel
theorem own_min_z : zmag b64 (val64 1) = 1 := by decide +kernel
theorem own_zero_zv : zval b64 (val64 0) = 0 := by decide +kernel
theorem own_one_s : sgn (val64 4607182418800017408) = false := by decide +kernel
theorem own_zero_n : val64 0 ≠ .nan := (ne_nan _).mpr (by decide)
theorem own_one_n : val64 4607182418800017408 ≠ .nan := (ne_nan _).mpr (by decide)
theorem own_units (I : Nat) : inUnits I 0 b64.qmin = I * (2 ^ 52 * 2 ^ 1022) := by
  show I * 2 ^ (0 - b64.qmin).toNat = _
  rw [qmin_b64, show ((0 : Int) - -1074).toNat = 52 + 1022 by decide, Nat.pow_add]
theorem own_q0 : b64.qmin ≤ 0 := by rw [qmin_b64]; decide
theorem own_e (Vz B : Nat) : Vz * 2 ^ (b64.qmin - b64.qmin).toNat * B = Vz * B := by
  rw [Int.sub_self, Int.toNat_zero, Nat.pow_zero, Nat.mul_one]
theorem own_q_le {sg : Bool} {I J : Nat} (hJ : 0 < J) (h : I ≤ J) : zmag b64 (roundRatio b64 sg I J 0) ≤ 2 ^ 52 * 2 ^ 1022 := by
  rw [← own_one_z]
  refine zmag_roundRatio_le good_b64 hJ (val64_fits _) own_one_n (e0 := b64.qmin) (Int.le_refl _) own_q0 ?_
  rw [own_units, own_e, own_one_z, Nat.mul_comm]
  exact Nat.mul_le_mul_left _ h
theorem own_q_gt {sg : Bool} {I J : Nat} (hJ : 0 < J) (h52 : J ≤ 2 ^ 52) (h : J < I) : 2 ^ 52 * 2 ^ 1022 < zmag b64 (roundRatio b64 sg I J 0) := by
  have h1 : (2 ^ 52 + 1) * 2 ^ 1022 ≤ zmag b64 (roundRatio b64 sg I J 0) := by
    rw [← own_next_z]
    refine zmag_roundRatio_ge good_b64 hJ (val64_fits _) (e0 := b64.qmin) (Int.le_refl _) own_q0 ?_
    rw [own_units, own_e, own_next_z]
    have h2 : (2 ^ 52 + 1) * J ≤ I * 2 ^ 52 := by omega
    calc (2 ^ 52 + 1) * 2 ^ 1022 * J = (2 ^ 52 + 1) * J * 2 ^ 1022 := Nat.mul_right_comm _ _ _
      _ ≤ I * 2 ^ 52 * 2 ^ 1022 := Nat.mul_le_mul_right _ h2
      _ = I * (2 ^ 52 * 2 ^ 1022) := Nat.mul_assoc _ _ _
  refine Nat.lt_of_lt_of_le ?_ h1
  exact Nat.mul_lt_mul_of_pos_right (by omega) (Nat.two_pow_pos _)
theorem own_q_pos {sg : Bool} {I J : Nat} (hJ : 0 < J) (hI : 0 < I) (h63 : J ≤ 2 ^ 64) : 0 < zmag b64 (roundRatio b64 sg I J 0) := by
  have h1 : 1 ≤ zmag b64 (roundRatio b64 sg I J 0) := by
    rw [← own_min_z]
    refine zmag_roundRatio_ge good_b64 hJ (val64_fits _) (e0 := b64.qmin) (Int.le_refl _) own_q0 ?_
    rw [own_units, own_e, own_min_z, Nat.one_mul, ← Nat.pow_add]
    calc J ≤ 2 ^ 64 := h63
      _ ≤ 2 ^ (52 + 1022) := Nat.pow_le_pow_right (by decide) (by decide)
      _ ≤ I * 2 ^ (52 + 1022) := Nat.le_mul_of_pos_left _ hI
  omega
theorem own_q_zero {sg : Bool} {J : Nat} : zmag b64 (roundRatio b64 sg 0 J 0) = 0 := by
  unfold roundRatio
  rw [if_pos rfl]
  exact Nat.zero_mul _
/-- what the comparisons with 0 and 1 say of a quotient of whole numbers -/
theorem own_div {i j : Int} {a b : UInt64} (ha : DInt i a) (hb : DInt j b) (hj : j ≠ 0) (h52 : j.natAbs ≤ 2 ^ 52) :
    (i = 0 → FP.dcmp (FP.ddiv a b) 0 = some .eq ∧ FP.dcmp (FP.ddiv a b) 4607182418800017408 = some .lt) ∧
    (i ≠ 0 → (i < 0 ↔ ¬ j < 0) → FP.dcmp (FP.ddiv a b) 0 = some .lt) ∧
    (i ≠ 0 → (i < 0 ↔ j < 0) → FP.dcmp (FP.ddiv a b) 0 = some .gt) ∧
    (i ≠ 0 → (i < 0 ↔ j < 0) → i.natAbs ≤ j.natAbs → FP.dcmp (FP.ddiv a b) 4607182418800017408 = some .lt ∨ FP.dcmp (FP.ddiv a b) 4607182418800017408 = some .eq) ∧
    (i ≠ 0 → (i < 0 ↔ j < 0) → j.natAbs < i.natAbs → FP.dcmp (FP.ddiv a b) 4607182418800017408 = some .gt) := by
  obtain ⟨sg, hv, hs⟩ := own_quot ha hb hj
  have hJ : 0 < j.natAbs := by omega
  have nn : val64 (FP.ddiv a b) ≠ .nan := by rw [hv]; exact roundRatio_ne_nan _ _ _ _ _
  have zv : zval b64 (val64 (FP.ddiv a b)) = signed sg (zmag b64 (roundRatio b64 sg i.natAbs j.natAbs 0)) := by
    unfold zval; rw [hv, sgn_roundRatio]
  have z1 : zval b64 (val64 4607182418800017408) = ((2 ^ 52 * 2 ^ 1022 : Nat) : Int) := by
    unfold zval; rw [own_one_s, own_one_z]; rfl
  have p1 : 0 < 2 ^ 52 * 2 ^ 1022 := Nat.mul_pos (Nat.two_pow_pos _) (Nat.two_pow_pos _)
  have sp : sg = true → ∀ n : Nat, signed sg n = -(n : Int) := fun h n => by rw [h]; rfl
  have sn : sg = false → ∀ n : Nat, signed sg n = (n : Int) := fun h n => by rw [h]; rfl
  have hle := @own_q_le sg i.natAbs j.natAbs hJ
  have hgt := @own_q_gt sg i.natAbs j.natAbs hJ h52
  have hpos := @own_q_pos sg i.natAbs j.natAbs hJ
  have hzero := @own_q_zero sg j.natAbs
  generalize 2 ^ 52 * 2 ^ 1022 = P at *
  refine ⟨fun h0 => ?_, fun h0 hd => ?_, fun h0 hd => ?_, fun h0 hd hl => ?_, fun h0 hd hl => ?_⟩
  · have e0 : i.natAbs = 0 := by omega
    rw [e0, hzero, signed_zero] at zv
    exact ⟨dcmp_eq.mpr ⟨nn, own_zero_n, by rw [zv, own_zero_zv]⟩, dcmp_lt.mpr ⟨nn, own_one_n, by rw [zv, z1]; omega⟩⟩
  · have e : sg = true := by
      rw [hs h0]
      by_cases q : i < 0
      · simp [q, hd.mp q]
      · have : j < 0 := by
          apply Classical.byContradiction; intro r; exact q (hd.mpr r)
        simp [q, this]
    rw [sp e] at zv
    have := hpos (by omega) (by omega)
    exact dcmp_lt.mpr ⟨nn, own_zero_n, by rw [zv, own_zero_zv]; omega⟩
  · have e : sg = false := by rw [hs h0]; by_cases q : i < 0 <;> simp [q, hd.symm]
    rw [sn e] at zv
    have := hpos (by omega) (by omega)
    exact dcmp_gt.mpr ⟨nn, own_zero_n, by rw [zv, own_zero_zv]; omega⟩
  · have e : sg = false := by rw [hs h0]; by_cases q : i < 0 <;> simp [q, hd.symm]
    rw [sn e] at zv
    have := hle hl
    exact dcmp_le.mpr ⟨nn, own_one_n, by rw [zv, z1]; omega⟩
  · have e : sg = false := by rw [hs h0]; by_cases q : i < 0 <;> simp [q, hd.symm]
    rw [sn e] at zv
    have := hgt hl
    exact dcmp_gt.mpr ⟨nn, own_one_n, by rw [zv, z1]; omega⟩
end OwnQuot
theorem own_nar (c : Prop) [Decidable c] (d : Prop) [Decidable d] : nar .boolean (if c then (0 : Int32) else if d then 0 else 1) = if c then (0 : Int32) else if d then 0 else 1 := by
  by_cases h1 : c <;> by_cases h2 : d <;> simp only [h1, h2, if_true, if_false] <;> rfl
def own_rng (x : UInt64) : Int32 := if cmpValue (FP.dcmp x FP.dconst0) .l < (0 : Int32) then 0 else if (0 : Int32) < cmpValue (FP.dcmp x FP.dconst1) .g then 0 else 1
theorem own_rng_div {n k : Int32} (hk : 0 < k.toInt) : own_rng (FP.ddiv (FP.i2d n) (FP.i2d k)) = if n < (0 : Int32) then 0 else if k < n then 0 else 1 := by
  have k31 := k.toInt_lt
  obtain ⟨q0, q1, q2, q3, q4⟩ := own_div (FP.Core.i2d_int n) (FP.Core.i2d_int k) (by omega) (by omega)
  have z0 : (0 : Int32).toInt = 0 := rfl
  have ht : ∀ o c, FP.dcmp (FP.ddiv (FP.i2d n) (FP.i2d k)) 0 = some o → FP.dcmp (FP.ddiv (FP.i2d n) (FP.i2d k)) 4607182418800017408 = some c → own_rng (FP.ddiv (FP.i2d n) (FP.i2d k)) = if cmpValue (some o) .l < (0 : Int32) then 0 else if (0 : Int32) < cmpValue (some c) .g then 0 else 1 := by
    intro o c h1 h2
    show (if cmpValue (FP.dcmp (FP.ddiv (FP.i2d n) (FP.i2d k)) 0) .l < (0 : Int32) then (0 : Int32) else if (0 : Int32) < cmpValue (FP.dcmp (FP.ddiv (FP.i2d n) (FP.i2d k)) 4607182418800017408) .g then 0 else 1) = _
    rw [h1, h2]
  by_cases a1 : n < (0 : Int32)
  · have b1 := Int32.lt_iff_toInt_lt.mp a1
    rw [z0] at b1
    have h1 := q1 (by omega) (by omega)
    rw [if_pos a1]
    show (if cmpValue (FP.dcmp (FP.ddiv (FP.i2d n) (FP.i2d k)) 0) .l < (0 : Int32) then (0 : Int32) else _) = _
    rw [h1, if_pos (by decide)]
  · have b1 : ¬ n.toInt < 0 := fun q => a1 (Int32.lt_iff_toInt_lt.mpr (by rw [z0]; exact q))
    rw [if_neg a1]
    by_cases a2 : k < n
    · have b2 := Int32.lt_iff_toInt_lt.mp a2
      rw [if_pos a2, ht _ _ (q2 (by omega) (by omega)) (q4 (by omega) (by omega) (by omega))]
      decide
    · have b2 : ¬ k.toInt < n.toInt := fun q => a2 (Int32.lt_iff_toInt_lt.mpr q)
      rw [if_neg a2]
      by_cases a3 : n.toInt = 0
      · rw [ht _ _ (q0 a3).1 (q0 a3).2]; decide
      · rcases q3 a3 (by omega) (by omega) with h | h
        · rw [ht _ _ (q2 a3 (by omega)) h]; decide
        · rw [ht _ _ (q2 a3 (by omega)) h]; decide
theorem d1_0 : decode prog_3_method_2_code 0 = .ok (.dload_n 0, 1) := by decide +kernel
theorem d1_1 : decode prog_3_method_2_code 1 = .ok (.dconst 0, 1) := by decide +kernel
theorem d1_2 : decode prog_3_method_2_code 2 = .ok (.dcmp .l, 1) := by decide +kernel
theorem d1_3 : decode prog_3_method_2_code 3 = .ok (.ifCond .lt 13, 3) := by decide +kernel
theorem d1_6 : decode prog_3_method_2_code 6 = .ok (.dload_n 0, 1) := by decide +kernel
theorem d1_7 : decode prog_3_method_2_code 7 = .ok (.dconst 1, 1) := by decide +kernel
theorem d1_8 : decode prog_3_method_2_code 8 = .ok (.dcmp .g, 1) := by decide +kernel
theorem d1_9 : decode prog_3_method_2_code 9 = .ok (.ifCond .gt 7, 3) := by decide +kernel
theorem d1_12 : decode prog_3_method_2_code 12 = .ok (.iconst 1, 1) := by decide +kernel
theorem d1_13 : decode prog_3_method_2_code 13 = .ok (.goto 4, 3) := by decide +kernel
theorem d1_16 : decode prog_3_method_2_code 16 = .ok (.iconst 0, 1) := by decide +kernel
theorem d1_17 : decode prog_3_method_2_code 17 = .ok (.ireturn, 1) := by decide +kernel
theorem pn_1 : plainName "com/example/nimble_judge/nimblejudge/Score" = true := by first | (simp [plainName, overriddenIn]; done) | decide +kernel
theorem pd_1 : parseMethodDescriptor "(D)Z" = some ⟨[.double], some .boolean⟩ := by decide +kernel
theorem ef_1 (m : MethodId) (x0 : UInt64) : entryFrame m #[(.double x0)] 2 = mkF m 0 #[.val (.double x0), .second] [] := by first | (simp [entryFrame, mkF, argsToLocals, Value.category]; done) | rfl
def Q_1 (p1 : UInt64) (h0 : Heap) (n0 : Nat) (v : Option Value) (h : Heap) (L : List Loc) : Prop := v = some (.int (own_rng p1)) ∧ Fr n0 L ∧ h = h0
set_option maxRecDepth 65536 in
set_option maxHeartbeats 40000000 in
theorem rm_1 (l : Launch) (Z : State) (a0 : Array Value) (hw : ∀ d ∈ tables_1, d.before a0 Z = true) (ws : List Jvm.Cond) (p1 : UInt64) (h0 : Heap) (n0 : Nat) (Z0 : n0 ≤ h0.size)  :
    MetFree l (⟨"com/example/nimble_judge/nimblejudge/Score", "isInRange", "(D)Z"⟩ : MethodName) (head1 (Jvm.Cond.code (⟨"com/example/nimble_judge/nimblejudge/Score", "isInRange", "(D)Z"⟩ : MethodName) prog_3_method_2_code 2 (some .boolean) :: ws) ({ frames := 0, cells := 0, slots := 0, locals := 0 } : Room)) (fun a U => a = #[(.double p1)] ∧ Z.Warmed39 U.vm ∧ U.heap = h0) (fun _ _ _ _ _ => True) (fun _ U o U' => ∃ v L, o = .returned v ∧ Q_1 p1 h0 n0 v U'.heap L ∧ FrameEnd U o U' L 0 0) := by
  refine MetFree.of_bodySF (plainFor_of_name pn_1) hisR ?_
  intro p e s m args below meth c s₁ Bd hml0 hP hK
  obtain ⟨rfl, hZ, hh⟩ := hP
  have hx := Bd.exec
  have hby := Bd.bytes
  have hml : c.maxLocals = 2 := hml0
  have hown : s.vm.findClass "com/example/nimble_judge/nimblejudge/Score" = some m.cls := findClass_of_methodNamed Bd.named
  have hnm := (name_of_methodNamed Bd.named Bd.method).1
  have X0 : Stand p l e ({ frames := 0, cells := 0, slots := 0, locals := 0 } : Room) s m #[(.double p1)] below meth c s₁ [] 0 0 := Stand.of_body Bd
  have e0 : s₁.heap = h0 := by rw [← hh, Bd.state]; rfl
  have N0 := Fr.nil n0
  have pre0 : ∀ t, Steps p.tables e below (s₁.setTop (mkF m 0 #[.val (.double p1), .second] [])) t → Steps p.tables e below (s₁.setTop (entryFrame m #[(.double p1)] 2)) t := fun t k => castTop (ef_1 m (p1)) k
  obtain ⟨fs, hr, hrun, hended, hW, hsame⟩ := X0.leave (v := some (.int (nar .boolean (own_rng p1)))) (fun h => by rw [Bd.returns] at h; cases h)
  refine ⟨_, _, pre0 _ ?_, hrun, hended, _, _, rfl, ?_, ⟨_, rfl⟩, hW, hsame.mono (by decide) (by decide)⟩
  · have kr : ∀ z, z = own_rng p1 → Steps p.tables e below (s₁.setTop (mkF m 17 #[.val (.double p1), .second] [(.int z)])) (s₁.setFrames fs) := by
      intro z hz; subst hz; exact retN X0 hx (t := .boolean) Bd.returns (by simp) (hb hby d1_17) hr
    show Steps p.tables e below (s₁.setTop (mkF m 0 #[.val (.double p1), .second] [])) _
    refine XS.dloadN X0.here hx rfl (hb hby d1_0) rfl ?_
    show Steps p.tables e below (s₁.setTop (mkF m 1 #[.val (.double p1), .second] [(.double p1)])) _
    refine XS.dconst0 X0.here hx rfl (hb hby d1_1) rfl ?_
    show Steps p.tables e below (s₁.setTop (mkF m 2 #[.val (.double p1), .second] [(.double FP.dconst0), (.double p1)])) _
    refine XS.dcmpS X0.here hx rfl (hb hby d1_2) rfl rfl ?_
    show Steps p.tables e below (s₁.setTop (mkF m 3 #[.val (.double p1), .second] [(.int (cmpValue (FP.dcmp p1 FP.dconst0) .l))])) _
    by_cases h1 : (cmpValue (FP.dcmp p1 FP.dconst0) .l) < (0 : Int32)
    · refine XS.ifYes X0.here hx rfl (pc0 := 3) (pc' := 16) rfl (hb hby d1_3) rfl ((if0 _ _).trans (tlt h1).1) (by decide) (by decide) ?_
      show Steps p.tables e below (s₁.setTop (mkF m 16 #[.val (.double p1), .second] [])) _
      refine XS.iconst X0.here hx rfl (hb hby d1_16) ?_
      show Steps p.tables e below (s₁.setTop (mkF m 17 #[.val (.double p1), .second] [(.int (0 : Int32))])) _
      exact kr _ (by unfold own_rng; rw [if_pos h1])
    · refine XS.ifNo X0.here hx rfl (hb hby d1_3) rfl ((if0 _ _).trans (flt h1).1) ?_
      show Steps p.tables e below (s₁.setTop (mkF m 6 #[.val (.double p1), .second] [])) _
      refine XS.dloadN X0.here hx rfl (hb hby d1_6) rfl ?_
      show Steps p.tables e below (s₁.setTop (mkF m 7 #[.val (.double p1), .second] [(.double p1)])) _
      refine XS.dconst1 X0.here hx rfl (hb hby d1_7) rfl ?_
      show Steps p.tables e below (s₁.setTop (mkF m 8 #[.val (.double p1), .second] [(.double FP.dconst1), (.double p1)])) _
      refine XS.dcmpS X0.here hx rfl (hb hby d1_8) rfl rfl ?_
      show Steps p.tables e below (s₁.setTop (mkF m 9 #[.val (.double p1), .second] [(.int (cmpValue (FP.dcmp p1 FP.dconst1) .g))])) _
      by_cases h2 : (0 : Int32) < (cmpValue (FP.dcmp p1 FP.dconst1) .g)
      · refine XS.ifYes X0.here hx rfl (pc0 := 9) (pc' := 16) rfl (hb hby d1_9) rfl ((if0 _ _).trans (tlt h2).2.2.1) (by decide) (by decide) ?_
        show Steps p.tables e below (s₁.setTop (mkF m 16 #[.val (.double p1), .second] [])) _
        refine XS.iconst X0.here hx rfl (hb hby d1_16) ?_
        show Steps p.tables e below (s₁.setTop (mkF m 17 #[.val (.double p1), .second] [(.int (0 : Int32))])) _
        exact kr _ (by unfold own_rng; rw [if_neg h1, if_pos h2])
      · refine XS.ifNo X0.here hx rfl (hb hby d1_9) rfl ((if0 _ _).trans (flt h2).2.2.1) ?_
        show Steps p.tables e below (s₁.setTop (mkF m 12 #[.val (.double p1), .second] [])) _
        refine XS.iconst X0.here hx rfl (hb hby d1_12) ?_
        show Steps p.tables e below (s₁.setTop (mkF m 13 #[.val (.double p1), .second] [(.int (1 : Int32))])) _
        refine XS.goto X0.here hx rfl (pc0 := 13) (pc' := 17) rfl (hb hby d1_13) (by decide) (by decide) ?_
        show Steps p.tables e below (s₁.setTop (mkF m 17 #[.val (.double p1), .second] [(.int (1 : Int32))])) _
        exact kr _ (by unfold own_rng; rw [if_neg h1, if_neg h2])
  · show Q_1 p1 h0 n0 _ s₁.heap _
    rw [e0]
    exact ⟨congrArg (fun z => some (Value.int z)) (own_nar _ _), N0, rfl⟩
theorem pn_0 : plainName "com/example/nimble_judge/nimblejudge/ScoreIsInRangePinLaw" = true := by first | (simp [plainName, overriddenIn]; done) | decide +kernel
theorem ef_0 (m : MethodId) (x0 : Int32) (x1 : Int32) (x2 : Int32) : entryFrame m #[(.int x0), (.int x1), (.int x2)] maxLocals = mkF m 0 #[.val (.int x0), .val (.int x1), .val (.int x2), .unset, .unset, .unset, .unset, .unset] [] := by first | (simp [entryFrame, mkF, argsToLocals, Value.category, maxLocals]; done) | rfl
def Q_0 (n0 : Nat) (v : Option Value) (h : Heap) (L : List Loc) : Prop := v = some (.int 1) ∧ Fr n0 L
theorem own_k1 (b : Int32) : 0 < ((b &&& (7 : Int32)) + (1 : Int32)).toInt := by
  have e1 : (b &&& (7 : Int32)).toInt = b.toInt % 2 ^ 3 := Jvm.Kit.i32_mask b 7 (k := 3) (by decide) (by decide)
  have e2 : ((b &&& (7 : Int32)) + (1 : Int32)).toInt = (b &&& (7 : Int32)).toInt + (1 : Int32).toInt := Jvm.Kit.i32_add (by rw [show (1 : Int32).toInt = 1 from rfl]; omega) (by rw [show (1 : Int32).toInt = 1 from rfl]; omega)
  rw [e2, show (1 : Int32).toInt = 1 from rfl]; omega
theorem own_k2 (b : Int32) : 0 < ((b &&& (1073741823 : Int32)) + (1 : Int32)).toInt := by
  have e1 : (b &&& (1073741823 : Int32)).toInt = b.toInt % 2 ^ 30 := Jvm.Kit.i32_mask b 1073741823 (k := 30) (by decide) (by decide)
  have e2 : ((b &&& (1073741823 : Int32)) + (1 : Int32)).toInt = (b &&& (1073741823 : Int32)).toInt + (1 : Int32).toInt := Jvm.Kit.i32_add (by rw [show (1 : Int32).toInt = 1 from rfl]; omega) (by rw [show (1 : Int32).toInt = 1 from rfl]; omega)
  rw [e2, show (1 : Int32).toInt = 1 from rfl]; omega
set_option maxRecDepth 65536 in
set_option maxHeartbeats 40000000 in
theorem rm_0 (l : Launch) (Z : State) (a0 : Array Value) (hw : ∀ d ∈ tables_1, d.before a0 Z = true) (ws : List Jvm.Cond) (p1 p2 p3 : Int32) (h0 : Heap) (n0 : Nat) (Z0 : n0 ≤ h0.size)  :
    MetFree l x (head1 (Jvm.Cond.code x code maxLocals ret :: ws) room_1) (fun a U => a = #[(.int p1), (.int p2), (.int p3)] ∧ Z.Warmed39 U.vm ∧ U.heap = h0) (fun _ _ _ _ _ => True) (fun _ U o U' => ∃ v L, o = .returned v ∧ Q_0 n0 v U'.heap L ∧ FrameEnd U o U' L 0 0) := by
  refine MetFree.of_bodySF (plainFor_of_name pn_0) hisR ?_
  intro p e s m args below meth c s₁ Bd hml0 hP hK
  obtain ⟨rfl, hZ, hh⟩ := hP
  have hx := Bd.exec
  have hby := Bd.bytes
  have hml : c.maxLocals = 8 := hml0
  have hown : s.vm.findClass "com/example/nimble_judge/nimblejudge/ScoreIsInRangePinLaw" = some m.cls := findClass_of_methodNamed Bd.named
  have hnm := (name_of_methodNamed Bd.named Bd.method).1
  have X0 : Stand p l e room_1 s m #[(.int p1), (.int p2), (.int p3)] below meth c s₁ [] 0 0 := Stand.of_body Bd
  have e0 : s₁.heap = h0 := by rw [← hh, Bd.state]; rfl
  have N0 := Fr.nil n0
  have pre0 : ∀ t, Steps p.tables e below (s₁.setTop (mkF m 0 #[.val (.int p1), .val (.int p2), .val (.int p3), .unset, .unset, .unset, .unset, .unset] [])) t → Steps p.tables e below (s₁.setTop (entryFrame m #[(.int p1), (.int p2), (.int p3)] maxLocals)) t := fun t k => castTop (ef_0 m (p1) (p2) (p3)) k
  obtain ⟨n, hn⟩ : ∃ z : Int32, z = if (p3 &&& (1 : Int32)) = (0 : Int32) then p1 else p1 % (12 : Int32) := ⟨_, rfl⟩
  obtain ⟨k, hk⟩ : ∃ z : Int32, z = if (p3 &&& (1 : Int32)) = (0 : Int32) then (p2 &&& (1073741823 : Int32)) + (1 : Int32) else (p2 &&& (7 : Int32)) + (1 : Int32) := ⟨_, rfl⟩
  have kpos : 0 < k.toInt := by
    rw [hk]; split
    · exact own_k2 p2
    · exact own_k1 p2
  obtain ⟨q, hq⟩ : ∃ z : UInt64, z = FP.ddiv (FP.i2d n) (FP.i2d k) := ⟨_, rfl⟩
  have qnn : Jvm.Free.Fl.NoNaN64 (FP.ddiv (FP.i2d n) (FP.i2d k)) := by
    have k31 := k.toInt_lt
    obtain ⟨q0, q1, q2, -, -⟩ := own_div (FP.Core.i2d_int n) (FP.Core.i2d_int k) (by omega) (by omega)
    refine Jvm.Free.Fl.val64_no.mpr ?_
    by_cases c0 : n.toInt = 0
    · exact (FP.Core.dcmp_some (q0 c0).1).1
    · by_cases c1 : n.toInt < 0
      · exact (FP.Core.dcmp_some (q1 c0 (by omega))).1
      · exact (FP.Core.dcmp_some (q2 c0 (by omega))).1
  obtain ⟨x7, hx7⟩ : ∃ z : Int32, z = if n < (0 : Int32) then (0 : Int32) else if k < n then 0 else 1 := ⟨_, rfl⟩
  have rng : own_rng q = x7 := by rw [hq, hx7]; exact own_rng_div kpos
  obtain ⟨_, _, ⟨T1, L1, k1, n1⟩, -, X1, ⟨Lc1, hQ1, l1, y1, z1⟩, st1⟩ := Jvm.LawKit.callS X0 hx (y := (⟨"com/example/nimble_judge/nimblejudge/Score", "isInRange", "(D)Z"⟩ : MethodName)) hown (mvT hZ (hw _ (List.mem_of_getElem? (i := 1) rfl))) (mvT hZ (hw _ (List.mem_of_getElem? (i := 2) rfl))) (mvT hZ (hw _ (List.mem_of_getElem? (i := 3) rfl))) (mvT hZ (hw _ (List.mem_of_getElem? (i := 4) rfl))) (by decide) (backOf (W := 0) (rm_1 l Z a0 hw [] q h0 n0 Z0) hZ (hw _ (List.mem_of_getElem? (i := 4) rfl)) (hw _ (List.mem_of_getElem? (i := 3) rfl)) (by decide) (by decide)) (g := (mkF m 59 #[.val (.int p1), .val (.int p2), .val (.int p3), .val (.int n), .val (.int k), .val (.double q), .second, .val (.int x7)] [(.double q)])) rfl (by rw [hml]; rfl) (argsL := [(.double q)]) (rest := []) (lenOf pd_1 rfl) rfl (by show 2 * 0 + _ ≤ _; exact Nat.le_of_eq rfl) (hb hby at_59) (fun _ _ => ⟨rfl, e0, (by decide : 0 + 0 ≤ _), (by decide : 0 + 0 ≤ _)⟩)
  dsimp only [Pt.U, Pt.locs, Pt.cells, Pt.slots] at X1 l1 y1 z1 st1 hQ1
  subst l1 y1 z1
  obtain ⟨rfl, N1, e1⟩ := hQ1
  have N2 := Fr.app N0 N1
  obtain ⟨fs, hr, hrun, hended, hW, hsame⟩ := X1.leave (v := some (.int (1 : Int32))) (fun h => by rw [Bd.returns] at h; cases h)
  refine ⟨_, _, pre0 _ ?_, hrun, hended, _, _, rfl, ?_, ⟨_, rfl⟩, hW, hsame.mono (by decide) (by decide)⟩
  · have k55 : ∀ z, z = x7 → Steps p.tables e below (s₁.setTop (mkF m 55 #[.val (.int p1), .val (.int p2), .val (.int p3), .val (.int n), .val (.int k), .val (.double q), .second, .unset] [(.int z)])) (T1.setFrames fs) := by
      intro z hz; rw [hz]
      show Steps p.tables e below (s₁.setTop (mkF m 55 #[.val (.int p1), .val (.int p2), .val (.int p3), .val (.int n), .val (.int k), .val (.double q), .second, .unset] [(.int x7)])) _
      refine XS.istore X0.here hx rfl (hb hby at_55) rfl (l' := #[.val (.int p1), .val (.int p2), .val (.int p3), .val (.int n), .val (.int k), .val (.double q), .second, .val (.int x7)]) rfl ?_
      show Steps p.tables e below (s₁.setTop (mkF m 57 #[.val (.int p1), .val (.int p2), .val (.int p3), .val (.int n), .val (.int k), .val (.double q), .second, .val (.int x7)] [])) _
      refine XS.dload X0.here hx rfl (hb hby at_57) rfl ?_
      show Steps p.tables e below (s₁.setTop (mkF m 59 #[.val (.int p1), .val (.int p2), .val (.int p3), .val (.int n), .val (.int k), .val (.double q), .second, .val (.int x7)] [(.double q)])) _
      refine st1 _ ?_
      show Steps p.tables e below (T1.setTop (mkF m 62 #[.val (.int p1), .val (.int p2), .val (.int p3), .val (.int n), .val (.int k), .val (.double q), .second, .val (.int x7)] [(.int (own_rng q))])) _
      refine XS.iload X1.here hx rfl (hb hby at_62) rfl ?_
      show Steps p.tables e below (T1.setTop (mkF m 64 #[.val (.int p1), .val (.int p2), .val (.int p3), .val (.int n), .val (.int k), .val (.double q), .second, .val (.int x7)] [(.int x7), (.int (own_rng q))])) _
      refine XS.icmpNo X1.here hx rfl (hb hby at_64) rfl (teq rng).2 ?_
      show Steps p.tables e below (T1.setTop (mkF m 67 #[.val (.int p1), .val (.int p2), .val (.int p3), .val (.int n), .val (.int k), .val (.double q), .second, .val (.int x7)] [])) _
      refine XS.iconst X1.here hx rfl (hb hby at_67) ?_
      show Steps p.tables e below (T1.setTop (mkF m 68 #[.val (.int p1), .val (.int p2), .val (.int p3), .val (.int n), .val (.int k), .val (.double q), .second, .val (.int x7)] [(.int (1 : Int32))])) _
      refine XS.goto X1.here hx rfl (pc0 := 68) (pc' := 72) rfl (hb hby at_68) (by decide) (by decide) ?_
      show Steps p.tables e below (T1.setTop (mkF m 72 #[.val (.int p1), .val (.int p2), .val (.int p3), .val (.int n), .val (.int k), .val (.double q), .second, .val (.int x7)] [(.int (1 : Int32))])) _
      exact retN X1 hx (t := .boolean) Bd.returns (by simp) (hb hby at_72) hr
    have k32 : ∀ n' k', n' = n → k' = k → Steps p.tables e below (s₁.setTop (mkF m 32 #[.val (.int p1), .val (.int p2), .val (.int p3), .val (.int n'), .val (.int k'), .unset, .unset, .unset] [])) (T1.setFrames fs) := by
      intro n' k' hn' hk'; rw [hn', hk']
      show Steps p.tables e below (s₁.setTop (mkF m 32 #[.val (.int p1), .val (.int p2), .val (.int p3), .val (.int n), .val (.int k), .unset, .unset, .unset] [])) _
      refine XS.iloadN X0.here hx rfl (hb hby at_32) rfl ?_
      show Steps p.tables e below (s₁.setTop (mkF m 33 #[.val (.int p1), .val (.int p2), .val (.int p3), .val (.int n), .val (.int k), .unset, .unset, .unset] [(.int n)])) _
      refine XS.i2dS X0.here hx rfl (hb hby at_33) rfl rfl ?_
      show Steps p.tables e below (s₁.setTop (mkF m 34 #[.val (.int p1), .val (.int p2), .val (.int p3), .val (.int n), .val (.int k), .unset, .unset, .unset] [(.double (FP.i2d n))])) _
      refine XS.iload X0.here hx rfl (hb hby at_34) rfl ?_
      show Steps p.tables e below (s₁.setTop (mkF m 36 #[.val (.int p1), .val (.int p2), .val (.int p3), .val (.int n), .val (.int k), .unset, .unset, .unset] [(.int k), (.double (FP.i2d n))])) _
      refine XS.i2dS X0.here hx rfl (hb hby at_36) rfl rfl ?_
      show Steps p.tables e below (s₁.setTop (mkF m 37 #[.val (.int p1), .val (.int p2), .val (.int p3), .val (.int n), .val (.int k), .unset, .unset, .unset] [(.double (FP.i2d k)), (.double (FP.i2d n))])) _
      refine XS.ddivS X0.here hx rfl (hb hby at_37) rfl qnn hq.symm ?_
      show Steps p.tables e below (s₁.setTop (mkF m 38 #[.val (.int p1), .val (.int p2), .val (.int p3), .val (.int n), .val (.int k), .unset, .unset, .unset] [(.double q)])) _
      refine XS.dstore X0.here hx rfl (hb hby at_38) rfl (l' := #[.val (.int p1), .val (.int p2), .val (.int p3), .val (.int n), .val (.int k), .val (.double q), .second, .unset]) rfl ?_
      show Steps p.tables e below (s₁.setTop (mkF m 40 #[.val (.int p1), .val (.int p2), .val (.int p3), .val (.int n), .val (.int k), .val (.double q), .second, .unset] [])) _
      refine XS.iloadN X0.here hx rfl (hb hby at_40) rfl ?_
      show Steps p.tables e below (s₁.setTop (mkF m 41 #[.val (.int p1), .val (.int p2), .val (.int p3), .val (.int n), .val (.int k), .val (.double q), .second, .unset] [(.int n)])) _
      by_cases c1 : n < (0 : Int32)
      · refine XS.ifYes X0.here hx rfl (pc0 := 41) (pc' := 54) rfl (hb hby at_41) rfl ((if0 _ _).trans (tlt c1).1) (by decide) (by decide) ?_
        show Steps p.tables e below (s₁.setTop (mkF m 54 #[.val (.int p1), .val (.int p2), .val (.int p3), .val (.int n), .val (.int k), .val (.double q), .second, .unset] [])) _
        refine XS.iconst X0.here hx rfl (hb hby at_54) ?_
        show Steps p.tables e below (s₁.setTop (mkF m 55 #[.val (.int p1), .val (.int p2), .val (.int p3), .val (.int n), .val (.int k), .val (.double q), .second, .unset] [(.int (0 : Int32))])) _
        exact k55 _ (by rw [hx7, if_pos c1])
      · refine XS.ifNo X0.here hx rfl (hb hby at_41) rfl ((if0 _ _).trans (flt c1).1) ?_
        show Steps p.tables e below (s₁.setTop (mkF m 44 #[.val (.int p1), .val (.int p2), .val (.int p3), .val (.int n), .val (.int k), .val (.double q), .second, .unset] [])) _
        refine XS.iloadN X0.here hx rfl (hb hby at_44) rfl ?_
        show Steps p.tables e below (s₁.setTop (mkF m 45 #[.val (.int p1), .val (.int p2), .val (.int p3), .val (.int n), .val (.int k), .val (.double q), .second, .unset] [(.int n)])) _
        refine XS.iload X0.here hx rfl (hb hby at_45) rfl ?_
        show Steps p.tables e below (s₁.setTop (mkF m 47 #[.val (.int p1), .val (.int p2), .val (.int p3), .val (.int n), .val (.int k), .val (.double q), .second, .unset] [(.int k), (.int n)])) _
        by_cases c2 : k < n
        · refine XS.icmpYes X0.here hx rfl (pc0 := 47) (pc' := 54) rfl (hb hby at_47) rfl (tlt c2).2.2.1 (by decide) (by decide) ?_
          show Steps p.tables e below (s₁.setTop (mkF m 54 #[.val (.int p1), .val (.int p2), .val (.int p3), .val (.int n), .val (.int k), .val (.double q), .second, .unset] [])) _
          refine XS.iconst X0.here hx rfl (hb hby at_54) ?_
          show Steps p.tables e below (s₁.setTop (mkF m 55 #[.val (.int p1), .val (.int p2), .val (.int p3), .val (.int n), .val (.int k), .val (.double q), .second, .unset] [(.int (0 : Int32))])) _
          exact k55 _ (by rw [hx7, if_neg c1, if_pos c2])
        · refine XS.icmpNo X0.here hx rfl (hb hby at_47) rfl (flt c2).2.2.1 ?_
          show Steps p.tables e below (s₁.setTop (mkF m 50 #[.val (.int p1), .val (.int p2), .val (.int p3), .val (.int n), .val (.int k), .val (.double q), .second, .unset] [])) _
          refine XS.iconst X0.here hx rfl (hb hby at_50) ?_
          show Steps p.tables e below (s₁.setTop (mkF m 51 #[.val (.int p1), .val (.int p2), .val (.int p3), .val (.int n), .val (.int k), .val (.double q), .second, .unset] [(.int (1 : Int32))])) _
          refine XS.goto X0.here hx rfl (pc0 := 51) (pc' := 55) rfl (hb hby at_51) (by decide) (by decide) ?_
          show Steps p.tables e below (s₁.setTop (mkF m 55 #[.val (.int p1), .val (.int p2), .val (.int p3), .val (.int n), .val (.int k), .val (.double q), .second, .unset] [(.int (1 : Int32))])) _
          exact k55 _ (by rw [hx7, if_neg c1, if_neg c2])
    show Steps p.tables e below (s₁.setTop (mkF m 0 #[.val (.int p1), .val (.int p2), .val (.int p3), .unset, .unset, .unset, .unset, .unset] [])) _
    refine XS.iloadN X0.here hx rfl (hb hby at_0) rfl ?_
    show Steps p.tables e below (s₁.setTop (mkF m 1 #[.val (.int p1), .val (.int p2), .val (.int p3), .unset, .unset, .unset, .unset, .unset] [(.int p3)])) _
    refine XS.iconst X0.here hx rfl (hb hby at_1) ?_
    show Steps p.tables e below (s₁.setTop (mkF m 2 #[.val (.int p1), .val (.int p2), .val (.int p3), .unset, .unset, .unset, .unset, .unset] [(.int (1 : Int32)), (.int p3)])) _
    refine XS.iand X0.here hx rfl (hb hby at_2) rfl ?_
    show Steps p.tables e below (s₁.setTop (mkF m 3 #[.val (.int p1), .val (.int p2), .val (.int p3), .unset, .unset, .unset, .unset, .unset] [(.int (p3 &&& (1 : Int32)))])) _
    by_cases c0 : (p3 &&& (1 : Int32)) = (0 : Int32)
    · refine XS.ifYes X0.here hx rfl (pc0 := 3) (pc' := 22) rfl (hb hby at_3) rfl ((if0 _ _).trans (teq c0).1) (by decide) (by decide) ?_
      show Steps p.tables e below (s₁.setTop (mkF m 22 #[.val (.int p1), .val (.int p2), .val (.int p3), .unset, .unset, .unset, .unset, .unset] [])) _
      refine XS.iloadN X0.here hx rfl (hb hby at_22) rfl ?_
      show Steps p.tables e below (s₁.setTop (mkF m 23 #[.val (.int p1), .val (.int p2), .val (.int p3), .unset, .unset, .unset, .unset, .unset] [(.int p1)])) _
      refine XS.istoreN X0.here hx rfl (hb hby at_23) rfl (l' := #[.val (.int p1), .val (.int p2), .val (.int p3), .val (.int p1), .unset, .unset, .unset, .unset]) rfl ?_
      show Steps p.tables e below (s₁.setTop (mkF m 24 #[.val (.int p1), .val (.int p2), .val (.int p3), .val (.int p1), .unset, .unset, .unset, .unset] [])) _
      refine XS.iloadN X0.here hx rfl (hb hby at_24) rfl ?_
      show Steps p.tables e below (s₁.setTop (mkF m 25 #[.val (.int p1), .val (.int p2), .val (.int p3), .val (.int p1), .unset, .unset, .unset, .unset] [(.int p2)])) _
      refine X0.ldcInt hx hown (mvT hZ (hw _ (List.mem_of_getElem? (i := 0) rfl))) (g := (mkF m 25 #[.val (.int p1), .val (.int p2), .val (.int p3), .val (.int p1), .unset, .unset, .unset, .unset] [(.int p2)])) rfl (hb hby at_25) _ ?_
      show Steps p.tables e below (s₁.setTop (mkF m 27 #[.val (.int p1), .val (.int p2), .val (.int p3), .val (.int p1), .unset, .unset, .unset, .unset] [(.int (1073741823 : Int32)), (.int p2)])) _
      refine XS.iand X0.here hx rfl (hb hby at_27) rfl ?_
      show Steps p.tables e below (s₁.setTop (mkF m 28 #[.val (.int p1), .val (.int p2), .val (.int p3), .val (.int p1), .unset, .unset, .unset, .unset] [(.int (p2 &&& (1073741823 : Int32)))])) _
      refine XS.iconst X0.here hx rfl (hb hby at_28) ?_
      show Steps p.tables e below (s₁.setTop (mkF m 29 #[.val (.int p1), .val (.int p2), .val (.int p3), .val (.int p1), .unset, .unset, .unset, .unset] [(.int (1 : Int32)), (.int (p2 &&& (1073741823 : Int32)))])) _
      refine XS.iadd X0.here hx rfl (hb hby at_29) rfl ?_
      show Steps p.tables e below (s₁.setTop (mkF m 30 #[.val (.int p1), .val (.int p2), .val (.int p3), .val (.int p1), .unset, .unset, .unset, .unset] [(.int ((p2 &&& (1073741823 : Int32)) + (1 : Int32)))])) _
      refine XS.istore X0.here hx rfl (hb hby at_30) rfl (l' := #[.val (.int p1), .val (.int p2), .val (.int p3), .val (.int p1), .val (.int ((p2 &&& (1073741823 : Int32)) + (1 : Int32))), .unset, .unset, .unset]) rfl ?_
      show Steps p.tables e below (s₁.setTop (mkF m 32 #[.val (.int p1), .val (.int p2), .val (.int p3), .val (.int p1), .val (.int ((p2 &&& (1073741823 : Int32)) + (1 : Int32))), .unset, .unset, .unset] [])) _
      exact k32 _ _ (by rw [hn, if_pos c0]) (by rw [hk, if_pos c0])
    · refine XS.ifNo X0.here hx rfl (hb hby at_3) rfl ((if0 _ _).trans (feq c0).1) ?_
      show Steps p.tables e below (s₁.setTop (mkF m 6 #[.val (.int p1), .val (.int p2), .val (.int p3), .unset, .unset, .unset, .unset, .unset] [])) _
      refine XS.iloadN X0.here hx rfl (hb hby at_6) rfl ?_
      show Steps p.tables e below (s₁.setTop (mkF m 7 #[.val (.int p1), .val (.int p2), .val (.int p3), .unset, .unset, .unset, .unset, .unset] [(.int p1)])) _
      refine XS.bipush X0.here hx rfl (hb hby at_7) ?_
      show Steps p.tables e below (s₁.setTop (mkF m 9 #[.val (.int p1), .val (.int p2), .val (.int p3), .unset, .unset, .unset, .unset, .unset] [(.int (12 : Int32)), (.int p1)])) _
      refine iremM X0 hx rfl (hb hby at_9) rfl (by decide) ?_
      show Steps p.tables e below (s₁.setTop (mkF m 10 #[.val (.int p1), .val (.int p2), .val (.int p3), .unset, .unset, .unset, .unset, .unset] [(.int (p1 % (12 : Int32)))])) _
      refine XS.istoreN X0.here hx rfl (hb hby at_10) rfl (l' := #[.val (.int p1), .val (.int p2), .val (.int p3), .val (.int (p1 % (12 : Int32))), .unset, .unset, .unset, .unset]) rfl ?_
      show Steps p.tables e below (s₁.setTop (mkF m 11 #[.val (.int p1), .val (.int p2), .val (.int p3), .val (.int (p1 % (12 : Int32))), .unset, .unset, .unset, .unset] [])) _
      refine XS.iloadN X0.here hx rfl (hb hby at_11) rfl ?_
      show Steps p.tables e below (s₁.setTop (mkF m 12 #[.val (.int p1), .val (.int p2), .val (.int p3), .val (.int (p1 % (12 : Int32))), .unset, .unset, .unset, .unset] [(.int p2)])) _
      refine XS.bipush X0.here hx rfl (hb hby at_12) ?_
      show Steps p.tables e below (s₁.setTop (mkF m 14 #[.val (.int p1), .val (.int p2), .val (.int p3), .val (.int (p1 % (12 : Int32))), .unset, .unset, .unset, .unset] [(.int (7 : Int32)), (.int p2)])) _
      refine XS.iand X0.here hx rfl (hb hby at_14) rfl ?_
      show Steps p.tables e below (s₁.setTop (mkF m 15 #[.val (.int p1), .val (.int p2), .val (.int p3), .val (.int (p1 % (12 : Int32))), .unset, .unset, .unset, .unset] [(.int (p2 &&& (7 : Int32)))])) _
      refine XS.iconst X0.here hx rfl (hb hby at_15) ?_
      show Steps p.tables e below (s₁.setTop (mkF m 16 #[.val (.int p1), .val (.int p2), .val (.int p3), .val (.int (p1 % (12 : Int32))), .unset, .unset, .unset, .unset] [(.int (1 : Int32)), (.int (p2 &&& (7 : Int32)))])) _
      refine XS.iadd X0.here hx rfl (hb hby at_16) rfl ?_
      show Steps p.tables e below (s₁.setTop (mkF m 17 #[.val (.int p1), .val (.int p2), .val (.int p3), .val (.int (p1 % (12 : Int32))), .unset, .unset, .unset, .unset] [(.int ((p2 &&& (7 : Int32)) + (1 : Int32)))])) _
      refine XS.istore X0.here hx rfl (hb hby at_17) rfl (l' := #[.val (.int p1), .val (.int p2), .val (.int p3), .val (.int (p1 % (12 : Int32))), .val (.int ((p2 &&& (7 : Int32)) + (1 : Int32))), .unset, .unset, .unset]) rfl ?_
      show Steps p.tables e below (s₁.setTop (mkF m 19 #[.val (.int p1), .val (.int p2), .val (.int p3), .val (.int (p1 % (12 : Int32))), .val (.int ((p2 &&& (7 : Int32)) + (1 : Int32))), .unset, .unset, .unset] [])) _
      refine XS.goto X0.here hx rfl (pc0 := 19) (pc' := 32) rfl (hb hby at_19) (by decide) (by decide) ?_
      show Steps p.tables e below (s₁.setTop (mkF m 32 #[.val (.int p1), .val (.int p2), .val (.int p3), .val (.int (p1 % (12 : Int32))), .val (.int ((p2 &&& (7 : Int32)) + (1 : Int32))), .unset, .unset, .unset] [])) _
      exact k32 _ _ (by rw [hn, if_neg c0]) (by rw [hk, if_neg c0])
  · exact ⟨rfl, N2⟩
set_option maxRecDepth 65536 in
set_option maxHeartbeats 40000000 in
theorem comes_1 {Post : Tables → Env → Array Value → State → Outcome → State → Prop} (hpost : ∀ tb e args s v u, (limb_1_1.after args s (.returned v) u = true ∧ limb_1_2.after args s (.returned v) u = true ∧ True) → FrameEnd s (.returned v) u (Jvm.fieldLocs frame_1_writes args s ++ Jvm.arrayLocs frame_1_arrays args s ++ Jvm.staticLocs frame_1_statics s) 0 0 → Post tb e args s (.returned v) u) :
    ArmFor flags0 classFile x code maxLocals ret World_1 tables_1 room_1 Calls_1 rest_1 Pre_1 Post := by
  intro l hfl _ _ p e ha hc hk s m args below hf hA hF happ hP
  obtain ⟨hcalls, hrest, hpre⟩ := hP
  obtain ⟨-, -, -, hnamed, -, -, -, hat⟩ := (Spec.applies_iff hf).mp happ
  obtain ⟨hg, hn⟩ := and_e (Cond.before_iff.mp (show (Jvm.Cond.and given_1 narrow_1).before args s = true from hpre))
  obtain ⟨h1, g0⟩ := and_e hg
  obtain ⟨c0, g1⟩ := and_e g0
  obtain ⟨c1, g2⟩ := and_e g1
  obtain ⟨w0, w1, w2, rfl⟩ : ∃ w0 w1 w2 : Value, args = #[w0, w1, w2] := by
    have hs : args.size = 3 := by simpa [Cond.value, given_1] using h1
    obtain ⟨L⟩ := args
    match L, hs with
    | [w0, w1, w2], _ => exact ⟨w0, w1, w2, rfl⟩
  have hw := fun d (hd : d ∈ tables_1) => atoms_spec (ws := Jvm.Cond.code x code maxLocals ret :: tables_1) hat d (List.mem_cons_of_mem _ hd)
  obtain ⟨i0, q0⟩ := is_v c0
  obtain rfl : w0 = (.int i0) := Option.some.inj q0
  obtain ⟨i1, q1⟩ := is_v c1
  obtain rfl : w1 = (.int i1) := Option.some.inj q1
  obtain ⟨i2, q2⟩ := is_v g2
  obtain rfl : w2 = (.int i2) := Option.some.inj q2
  obtain ⟨n, o, h1, h2, h3, _, L, rfl, ⟨rfl, N⟩, hq⟩ := rm_0 l s _ hw tables_1 i0 i1 i2 s.heap s.heap.size (Nat.le_refl _)  p e ha hc hk s m _ below hf ((Spec.applies_iff_loose hf).mp happ).1 ⟨rfl, State.Warmed39.refl s, rfl⟩ trivial
  refine ⟨n, _, h1, h2, h3, hpost _ _ _ _ _ _ ⟨Cond.after_iff.mpr rfl, Cond.after_iff.mpr (eq_i res_at (Term.int_eval (1)) rfl), trivial⟩ ⟨hq.1, hq.2.1, (hq.2.2.sift fun y hy => Or.inr (N y hy)).mono (by decide) (by decide)⟩⟩
theorem main_1_1 : Claimed_1_1 := comes_1 fun _ _ _ _ _ _ h hF => ⟨h.1, hF⟩
theorem main_1_2 : Claimed_1_2 := comes_1 fun _ _ _ _ _ _ h hF => ⟨h.2.1, hF⟩
end Jvm.Pilot.@@N@@
namespace Jvm.Pilot.@@N@@
open Jvm Jvm.ClassFile Sem Op Lib Jvm.Free Jvm.Stand Jvm.Pilot.@@N@@.Jvm.D
/-! MADE BY PROGRAM (witnessworld.py) out of the Statement's table words and the real class files: 10 classes; the members and pool entries that the words name. The judged class is class 1, her method 1. -/
namespace start1
open Jvm.ClassFile
def u (s : String) : CpInfo := .utf8 (stringToUtf16 s)
/-- a pool by its gaps: so many unusable entries, then the entry; so many at the end -/
def gap : Nat → List CpInfo → List CpInfo
  | 0, r => r
  | n + 1, r => .unusable :: gap n r
def poolList (es : List (Nat × CpInfo)) (last : Nat) : List CpInfo := es.foldr (fun e r => gap e.1 (e.2 :: r)) (gap last [])
def pool (es : List (Nat × CpInfo)) (last : Nat) : Array CpInfo := ⟨poolList es last⟩
def fileOf (pool : Array CpInfo) (this : Nat) (attrs : Array Attribute := #[]) (ms : Array MethodInfo := #[]) (fl : Nat := 33) (sup : Nat := 0) (ifs : Array Nat := #[]) (fds : Array FieldInfo := #[]) : ClassFile where
  minorVersion := 0
  majorVersion := 65
  constantPool := pool
  accessFlags := fl
  thisClass := this
  superClass := sup
  interfaces := ifs
  fields := fds
  methods := ms
  attributes := attrs
def plain (name : String) (sup : Option ClassId) : Class where
  name := name
  kind := .ordinary
  loader := none
  accessFlags := 33
  super := sup
  interfaces := #[]
  cf := none
  fields := #[]
  methods := #[]
  instanceTypes := #[]
  staticTypes := #[]
  resolved := #[]
  callSites := []
  init := .initialized
  statics := none
  mirror := none

def pool0 : Array CpInfo := pool [(5, u "<init>"), (0, u "()V"), (1, .class_ 10), (1, u "java/lang/Object")] 113

def k0m0 : Method := { name := "<init>", desc := "()V", sig := { parameters := [], returnType := none }, accessFlags := 1, code := none }
/-- java/lang/Object -/
def k0 : Class := { plain "java/lang/Object" none with
  accessFlags := 33
  interfaces := #[]
  cf := some (fileOf pool0 8 #[] #[{ accessFlags := 1, nameIndex := 5, descriptorIndex := 6, attributes := #[] }] 33 0 #[] #[])
  fields := #[]
  methods := #[k0m0]
  instanceTypes := #[]
  staticTypes := #[]
  resolved := Array.replicate 124 none
  statics := none }

def pool1 : Array CpInfo := pool [(2, .class_ 4), (1, u "java/lang/Object"), (0, u "<init>"), (0, u "()V"), (0, .integer 1073741823), (0, .methodref 9 10), (0, .class_ 11), (0, .nameAndType 12 13), (0, u "com/example/nimble_judge/nimblejudge/Score"), (0, u "isInRange"), (0, u "(D)Z"), (0, .class_ 15), (0, u "com/example/nimble_judge/nimblejudge/ScoreIsInRangePinLaw"), (2, u "law"), (0, u "(III)Z")] 3

def k1m0 : Method := { name := "<init>", desc := "()V", sig := { parameters := [], returnType := none }, accessFlags := 1, code := none }
def k1c1 : Code := { maxStack := 4, maxLocals := 8, code := code, exceptionTable := #[], attributes := #[] }
def k1m1 : Method := { name := "law", desc := "(III)Z", sig := { parameters := [.int, .int, .int], returnType := some .boolean }, accessFlags := 9, code := some k1c1 }
/-- com/example/nimble_judge/nimblejudge/ScoreIsInRangePinLaw -/
def k1 : Class := { plain "com/example/nimble_judge/nimblejudge/ScoreIsInRangePinLaw" (some 0) with
  accessFlags := 49
  interfaces := #[]
  cf := some (fileOf pool1 14 #[] #[{ accessFlags := 1, nameIndex := 5, descriptorIndex := 6, attributes := #[] }, { accessFlags := 9, nameIndex := 18, descriptorIndex := 19, attributes := #[] }] 49 2 #[] #[])
  fields := #[]
  methods := #[k1m0, k1m1]
  instanceTypes := #[]
  staticTypes := #[]
  resolved := Array.replicate 23 none
  statics := none }

def pool2 : Array CpInfo := pool [(2, .class_ 4), (1, u "java/lang/Object"), (0, u "<init>"), (0, u "()V"), (0, .class_ 8), (0, u "java/lang/Record")] 13

def k2m0 : Method := { name := "<init>", desc := "()V", sig := { parameters := [], returnType := none }, accessFlags := 4, code := none }
/-- java/lang/Record -/
def k2 : Class := { plain "java/lang/Record" (some 0) with
  accessFlags := 1057
  interfaces := #[]
  cf := some (fileOf pool2 7 #[] #[{ accessFlags := 4, nameIndex := 5, descriptorIndex := 6, attributes := #[] }] 1057 2 #[] #[])
  fields := #[]
  methods := #[k2m0]
  instanceTypes := #[]
  staticTypes := #[]
  resolved := Array.replicate 22 none
  statics := none }

def pool3 : Array CpInfo := pool [(2, .class_ 4), (1, u "java/lang/Record"), (14, .class_ 21), (1, u "com/example/nimble_judge/nimblejudge/Score"), (0, u "value"), (0, u "D"), (2, u "reason"), (0, u "Ljava/lang/String;"), (2, u "metrics"), (0, u "Ljava/util/Map;"), (14, u "RANGE"), (8, u "isInRange"), (0, u "(D)Z")] 29

def k3c0 : Code := { maxStack := 4, maxLocals := 2, code := prog_3_method_2_code, exceptionTable := #[], attributes := #[] }
def k3m0 : Method := { name := "isInRange", desc := "(D)Z", sig := { parameters := [.double], returnType := some .boolean }, accessFlags := 9, code := some k3c0 }
/-- com/example/nimble_judge/nimblejudge/Score -/
def k3 : Class := { plain "com/example/nimble_judge/nimblejudge/Score" (some 2) with
  accessFlags := 49
  interfaces := #[]
  cf := some (fileOf pool3 19 #[] #[{ accessFlags := 9, nameIndex := 55, descriptorIndex := 56, attributes := #[] }] 49 2 #[] #[{ accessFlags := 18, nameIndex := 22, descriptorIndex := 23, attributes := #[] }, { accessFlags := 18, nameIndex := 26, descriptorIndex := 27, attributes := #[] }, { accessFlags := 18, nameIndex := 30, descriptorIndex := 31, attributes := #[] }, { accessFlags := 25, nameIndex := 46, descriptorIndex := 27, attributes := #[] }])
  fields := #[{ name := "value", type := .double, accessFlags := 18, slot := 0, constantValue := 0 }, { name := "reason", type := (.object "java/lang/String"), accessFlags := 18, slot := 1, constantValue := 0 }, { name := "metrics", type := (.object "java/util/Map"), accessFlags := 18, slot := 2, constantValue := 0 }, { name := "RANGE", type := (.object "java/lang/String"), accessFlags := 25, slot := 0, constantValue := 0 }]
  methods := #[k3m0]
  instanceTypes := #[.double, (.object "java/lang/String"), (.object "java/util/Map")]
  staticTypes := #[(.object "java/lang/String")]
  resolved := Array.replicate 86 none
  statics := none }

def pool4 : Array CpInfo := pool [(1, u "java/lang/Cloneable"), (0, .class_ 1), (0, u "java/lang/Object"), (0, .class_ 3)] 3

/-- java/lang/Cloneable -/
def k4 : Class := { plain "java/lang/Cloneable" (some 0) with
  accessFlags := 1537
  interfaces := #[]
  cf := some (fileOf pool4 2 #[] #[] 1537 4 #[] #[])
  fields := #[]
  methods := #[]
  instanceTypes := #[]
  staticTypes := #[]
  resolved := Array.replicate 8 none
  statics := none }

def pool5 : Array CpInfo := pool [(1, u "java/io/Serializable"), (0, .class_ 1), (0, u "java/lang/Object"), (0, .class_ 3)] 3

/-- java/io/Serializable -/
def k5 : Class := { plain "java/io/Serializable" (some 0) with
  accessFlags := 1537
  interfaces := #[]
  cf := some (fileOf pool5 2 #[] #[] 1537 4 #[] #[])
  fields := #[]
  methods := #[]
  instanceTypes := #[]
  staticTypes := #[]
  resolved := Array.replicate 8 none
  statics := none }

/-- the primitive byte -/
def k6 : Class := { plain "byte" none with kind := .primitive 'B', accessFlags := 0x411 }
/-- [B -/
def k7 : Class := { plain "[B" (some 0) with kind := .array 6 .byte, interfaces := #[4, 5], accessFlags := 1041 }

/-- the primitive int -/
def k8 : Class := { plain "int" none with kind := .primitive 'I', accessFlags := 0x411 }
/-- [I -/
def k9 : Class := { plain "[I" (some 0) with kind := .array 8 .int, interfaces := #[4, 5], accessFlags := 1041 }

def heap : Heap := #[]
def classes : Array Class := #[k0, k1, k2, k3, k4, k5, k6, k7, k8, k9]
def interned : List (Array UInt16 × Addr) := []
def slotsUsed : Nat := 0
def theMethod : MethodId := ⟨1, 1⟩
def args0 : Array Value := #[.int 5, .int 7, .int 3]
def aboutOver (below : List Frame) : State where
  vm := { classes := classes, interned := interned.toArray }
  heap := heap
  slotsUsed := slotsUsed
  threads := #[{ frames := .invoking theMethod args0 :: below }]
def below0 : List Frame := [.native { method := ⟨0, 0⟩, args := #[] }]
def about1 : State := aboutOver below0
def p0 : Program := .bare "" "" ""
def e0 : Env := launch0.env 0 0 0
theorem w_frames : about1.frames = Frame.invoking theMethod args0 :: below0 := rfl
set_option maxRecDepth 65536 in
theorem w_args : argsFit about1.vm theMethod args0 = true := by decide +kernel
set_option maxRecDepth 65536 in
theorem w_heap : heapFits about1 = true := by decide +kernel
set_option maxRecDepth 65536 in
theorem w_runnable : about1.curStatus? = some .runnable := by decide +kernel
set_option maxRecDepth 65536 in
theorem w_alone : about1.alone = true := by decide +kernel
set_option maxRecDepth 65536 in
theorem w_named : about1.methodNamed? x = some theMethod := by decide +kernel
set_option maxRecDepth 65536 in
theorem w_hears : about1.hears theMethod below0 = true := by decide +kernel
set_option maxRecDepth 65536 in
theorem w_ripe : about1.ripe theMethod args0 below0 = true := by decide +kernel
theorem w_running : about1.status = .running := rfl
set_option maxRecDepth 65536 in
theorem w_room : about1.hasRoom e0.platform room_1 = true :=
  launch0.hasRoom_least _ room_1 (by decide +kernel) (by decide +kernel) (by decide +kernel) (by decide +kernel) (by decide +kernel) (by decide +kernel)
theorem allAtoms_all (ts : List Jvm.Cond) (a : Array Jvm.Value) (st : Jvm.State) : (allAtoms ts).before a st = ts.all (fun c => c.before a st) := by
  induction ts with
  | nil => rfl
  | cons c t ih =>
    show (Jvm.Cond.and c (allAtoms t)).before a st = _
    rw [Jvm.Cond.before_and, ih, List.all_cons]
def words1 : List Jvm.Cond := Jvm.Cond.code x code maxLocals ret :: tables_1
/-- a 'code' word, met by the world's own term for the bytes: nothing is compared byte by byte -/
theorem code_word {y : MethodName} {bytes : ByteArray} {mx : Nat} {rt : Option FieldType} {a : Array Value} {s : State} {m : MethodId} {meth : Method} {c : Code} (h1 : s.methodNamed? y = some m) (h2 : s.vm.method? m = some meth) (h3 : meth.code = some c) (h4 : c.code = bytes)
    (h5 : (c.maxLocals == mx && c.exceptionTable.isEmpty && decide (c.maxStack ≤ mostOperands) && decide (meth.sig.returnType = rt) && !meth.locks && decide (parseMethodDescriptor y.desc = some meth.sig)) = true) : (Jvm.Cond.code y bytes mx rt).before a s = true := by
  simp only [Bool.and_eq_true, beq_iff_eq, Bool.not_eq_true', decide_eq_true_eq] at h5
  obtain ⟨⟨⟨⟨⟨g1, g2⟩, g3⟩, g4⟩, g5⟩, g6⟩ := h5
  simp [Cond.before, Cond.holds, Cond.value, h1, h2, h3, h4, g1, g2, g3, g4, g5, g6]
def isCode : Jvm.Cond → Bool
  | .code _ _ _ _ => true
  | _ => false
theorem all_split {L : List Jvm.Cond} {P : Jvm.Cond → Bool} (h1 : L.all (fun c => isCode c || P c) = true) (h2 : ∀ c ∈ L.filter isCode, P c = true) : L.all P = true := by
  refine List.all_eq_true.mpr fun c hc => ?_
  have h := List.all_eq_true.mp h1 c hc
  rcases Bool.eq_false_or_eq_true (isCode c) with hi | hi
  · exact h2 c (List.mem_filter.mpr ⟨hc, hi⟩)
  · simpa [hi] using h
set_option maxRecDepth 65536 in
theorem w_c0 : (Jvm.Cond.code x code maxLocals ret).before args0 about1 = true := code_word (m := ⟨1, 1⟩) (meth := k1m1) (c := k1c1) (by decide +kernel) rfl rfl rfl (by decide +kernel)
set_option maxRecDepth 65536 in
theorem w_c1 : (Jvm.Cond.code ({ cls := "com/example/nimble_judge/nimblejudge/Score", name := "isInRange", desc := "(D)Z" } : Jvm.MethodName) prog_3_method_2_code (2 : Nat) (Option.some Jvm.ClassFile.FieldType.boolean)).before args0 about1 = true := code_word (m := ⟨3, 0⟩) (meth := k3m0) (c := k3c0) (by decide +kernel) rfl rfl rfl (by decide +kernel)
def codes1 : List Jvm.Cond := [Jvm.Cond.code x code maxLocals ret, Jvm.Cond.code ({ cls := "com/example/nimble_judge/nimblejudge/Score", name := "isInRange", desc := "(D)Z" } : Jvm.MethodName) prog_3_method_2_code (2 : Nat) (Option.some Jvm.ClassFile.FieldType.boolean)]
set_option maxRecDepth 65536 in
theorem codes_eq : words1.filter isCode = codes1 := rfl
theorem w_codes : ∀ c ∈ words1.filter isCode, c.before args0 about1 = true := by
  rw [codes_eq]
  intro c hc
  simp only [codes1, List.mem_cons, List.not_mem_nil, or_false] at hc
  rcases hc with rfl | rfl
  · exact w_c0
  · exact w_c1
set_option maxRecDepth 65536 in
theorem w_t1 : words1.all (fun c => isCode c || c.before args0 about1) = true := by decide +kernel
theorem w_tables : (allAtoms (Jvm.Cond.code x code maxLocals ret :: tables_1)).before args0 about1 = true := by
  rw [allAtoms_all]
  show words1.all (fun c => c.before args0 about1) = true
  refine all_split ?_ w_codes
  rw [w_t1]
set_option maxRecDepth 65536 in
theorem w_case : (Jvm.Cond.and given_1 narrow_1).before args0 about1 = true := by decide +kernel
theorem w_applies : (headSpec (Jvm.Cond.code x code maxLocals ret :: tables_1) room_1).applies x e0.platform about1 = true :=
  (Spec.applies_iff w_frames).mpr ⟨w_running, w_runnable, w_alone, w_named, w_hears, w_ripe, w_room, w_tables⟩
theorem atStart : AtStart classFile x code maxLocals ret World_1 tables_1 room_1 Calls_1 rest_1 Pre_1 launch0 p0 e0 about1 theMethod args0 below0 :=
  ⟨lists_1, trivial, launch0.admits_env _ _ _, launch0.least_env, fairChoices_fair.cas, fairChoices_fair.clock, w_frames, w_args, w_heap, w_applies, trivial, trivial, w_case⟩
end start1
theorem witness_1 : WitnessClaimed_1 := ⟨start1.p0, start1.e0, start1.about1, start1.theMethod, start1.args0, start1.below0, start1.atStart⟩
end Jvm.Pilot.@@N@@
