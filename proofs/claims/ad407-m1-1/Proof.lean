import JvmDerived
import JvmDerived.Pilot.@@N@@Statement
import JvmDerived.Pilot.@@N@@Code
set_option linter.unusedVariables false
set_option linter.unusedSimpArgs false
@@BLOCK:NumsL.lean.txt@@
namespace Jvm.Pilot.@@N@@
open Jvm Jvm.ClassFile Sem Op Lib Jvm.Free Jvm.Stand Jvm.LawKit Jvm.RoadKit Bundle Jvm.Pilot.@@N@@.Jvm.D
def own_bz (c : Prop) [Decidable c] : Int32 := if c then 1 else 0
theorem own_bz_t {c : Prop} [Decidable c] (h : c) : own_bz c = 1 := if_pos h
theorem own_bz_f {c : Prop} [Decidable c] (h : ¬ c) : own_bz c = 0 := if_neg h
theorem own_nar (c : Prop) [Decidable c] : nar .boolean (own_bz c) = own_bz c := by
  by_cases h : c
  · rw [own_bz_t h]; rfl
  · rw [own_bz_f h]; rfl
abbrev own_bit (c : Int32) : Prop := c = 0 ∨ c = 1
theorem own_bit_n {c : Int32} (h : own_bit c) : narrow .boolean (.int c) = .int c := by rcases h with rfl | rfl <;> rfl
theorem own_bit_f {c : Int32} (h : own_bit c) : fits .boolean (.int c) = true := by rcases h with rfl | rfl <;> rfl
abbrev own_jn (lo hi hc lc : Int32) : Prop := lo < hi ∨ (lo = hi ∧ (¬ hc = 0 ∨ ¬ lc = 0))
abbrev own_sp (hi hc lo lc : Int32) : Prop := hi < lo ∨ (hi = lo ∧ hc = 0 ∧ lc = 0)
theorem own_dc (a b : Int32) (o : CmpOp) : (cmpValue (FP.dcmp (FP.i2d a) (FP.i2d b)) o < (0 : Int32) ↔ a < b) ∧ (cmpValue (FP.dcmp (FP.i2d a) (FP.i2d b)) o = (0 : Int32) ↔ a = b) ∧ ((0 : Int32) < cmpValue (FP.dcmp (FP.i2d a) (FP.i2d b)) o ↔ b < a) := by
  have e : FP.dcmp (FP.i2d a) (FP.i2d b) = some (compare a.toInt b.toInt) := FP.Core.dcmp_int (FP.Core.i2d_int a) (FP.Core.i2d_int b)
  rw [e, FP.Core.compare_ite, Int32.lt_iff_toInt_lt (x := a), Int32.lt_iff_toInt_lt (x := b), ← Int32.toInt_inj (x := a)]
  by_cases h1 : a.toInt < b.toInt
  · rw [if_pos h1]
    have h2 : ¬ a.toInt = b.toInt := by omega
    have h3 : ¬ b.toInt < a.toInt := by omega
    cases o <;> exact ⟨⟨fun _ => h1, fun _ => by decide⟩, ⟨fun q => absurd q (by decide), fun q => absurd q h2⟩, ⟨fun q => absurd q (by decide), fun q => absurd q h3⟩⟩
  · rw [if_neg h1]
    by_cases h2 : a.toInt = b.toInt
    · rw [if_pos h2]
      have h3 : ¬ b.toInt < a.toInt := by omega
      cases o <;> exact ⟨⟨fun q => absurd q (by decide), fun q => absurd q h1⟩, ⟨fun _ => h2, fun _ => by decide⟩, ⟨fun q => absurd q (by decide), fun q => absurd q h3⟩⟩
    · rw [if_neg h2]
      have h3 : b.toInt < a.toInt := by omega
      cases o <;> exact ⟨⟨fun q => absurd q (by decide), fun q => absurd q h1⟩, ⟨fun q => absurd q (by decide), fun q => absurd q h2⟩, ⟨fun _ => h3, fun _ => by decide⟩⟩
/-- the plain law: over valid intervals the two say the same -/
theorem own_law {k1 m1 l1 c1 k2 m2 l2 c2 : Int32} (v1 : k1 < m1 ∨ (k1 = m1 ∧ l1 = 1 ∧ c1 = 1)) (v2 : k2 < m2 ∨ (k2 = m2 ∧ l2 = 1 ∧ c2 = 1)) :
    (if k2 < k1 then own_bz (own_jn k1 m2 c2 l1) else own_bz (own_jn k2 m1 c1 l2)) = if ¬ own_bz (own_sp m1 c1 k2 l2) = (0 : Int32) then (0 : Int32) else if ¬ own_bz (own_sp m2 c2 k1 l1) = (0 : Int32) then 0 else 1 := by
  have n10 : ¬ (1 : Int32) = 0 := by decide
  have hb : ∀ (c : Prop) [Decidable c], own_bz c = (0 : Int32) ↔ ¬ c := fun c _ => ⟨fun h q => by rw [own_bz_t q] at h; exact absurd h (by decide), fun q => own_bz_f q⟩
  simp only [hb, Classical.not_not]
  by_cases a1 : k2 < k1
  · rw [if_pos a1]
    have s1 : ¬ own_sp m1 c1 k2 l2 := by
      rintro (q | ⟨q, -, -⟩)
      · rcases v1 with r | ⟨r, -, -⟩ <;> simp only [Int32.lt_iff_toInt_lt, ← Int32.toInt_inj] at * <;> omega
      · rcases v1 with r | ⟨r, -, -⟩ <;> simp only [Int32.lt_iff_toInt_lt, ← Int32.toInt_inj] at * <;> omega
    rw [if_neg s1]
    by_cases s2 : own_sp m2 c2 k1 l1
    · rw [if_pos s2]
      refine own_bz_f ?_
      rintro (q | ⟨q, r⟩)
      · rcases s2 with s | ⟨s, -, -⟩ <;> simp only [Int32.lt_iff_toInt_lt, ← Int32.toInt_inj] at * <;> omega
      · rcases s2 with s | ⟨s, t, u⟩
        · simp only [Int32.lt_iff_toInt_lt, ← Int32.toInt_inj] at *; omega
        · exact r.elim (fun z => z t) (fun z => z u)
    · rw [if_neg s2]
      refine own_bz_t ?_
      by_cases q1 : k1 < m2
      · exact Or.inl q1
      · have q2 : ¬ m2 < k1 := fun q => s2 (Or.inl q)
        have q3 : k1 = m2 := by simp only [Int32.lt_iff_toInt_lt, ← Int32.toInt_inj] at *; omega
        refine Or.inr ⟨q3, ?_⟩
        by_cases q4 : c2 = 0
        · exact Or.inr (fun q5 => s2 (Or.inr ⟨q3.symm, q4, q5⟩))
        · exact Or.inl q4
  · rw [if_neg a1]
    have s2 : ¬ own_sp m2 c2 k1 l1 := by
      rintro (q | ⟨q, r, -⟩)
      · rcases v2 with t | ⟨t, -, -⟩ <;> simp only [Int32.lt_iff_toInt_lt, ← Int32.toInt_inj] at * <;> omega
      · rcases v2 with t | ⟨t, -, u⟩
        · simp only [Int32.lt_iff_toInt_lt, ← Int32.toInt_inj] at *; omega
        · exact n10 (u.symm.trans r)
    by_cases s1 : own_sp m1 c1 k2 l2
    · rw [if_pos s1]
      refine own_bz_f ?_
      rintro (q | ⟨q, r⟩)
      · rcases s1 with s | ⟨s, -, -⟩ <;> simp only [Int32.lt_iff_toInt_lt, ← Int32.toInt_inj] at * <;> omega
      · rcases s1 with s | ⟨s, t, u⟩
        · simp only [Int32.lt_iff_toInt_lt, ← Int32.toInt_inj] at *; omega
        · exact r.elim (fun z => z t) (fun z => z u)
    · rw [if_neg s1, if_neg s2]
      refine own_bz_t ?_
      by_cases q1 : k2 < m1
      · exact Or.inl q1
      · have q2 : ¬ m1 < k2 := fun q => s1 (Or.inl q)
        have q3 : k2 = m1 := by simp only [Int32.lt_iff_toInt_lt, ← Int32.toInt_inj] at *; omega
        refine Or.inr ⟨q3, ?_⟩
        by_cases q4 : c1 = 0
        · exact Or.inr (fun q5 => s1 (Or.inr ⟨q3.symm, q4, q5⟩))
        · exact Or.inl q4
/-- the ends: lo = (a & 7) - 4, hi = lo + (b & 3): hi is no less than lo -/
theorem own_ends (a b : Int32) : ((a &&& (7 : Int32)) - (4 : Int32)) < ((a &&& (7 : Int32)) - (4 : Int32)) + (b &&& (3 : Int32)) ∨ ((a &&& (7 : Int32)) - (4 : Int32)) = ((a &&& (7 : Int32)) - (4 : Int32)) + (b &&& (3 : Int32)) := by
  have e1 : (a &&& (7 : Int32)).toInt = a.toInt % 2 ^ 3 := Jvm.Kit.i32_mask a 7 (k := 3) (by decide) (by decide)
  have e2 : (b &&& (3 : Int32)).toInt = b.toInt % 2 ^ 2 := Jvm.Kit.i32_mask b 3 (k := 2) (by decide) (by decide)
  have z4 : (4 : Int32).toInt = 4 := rfl
  have e3 : ((a &&& (7 : Int32)) - (4 : Int32)).toInt = (a &&& (7 : Int32)).toInt - (4 : Int32).toInt := Jvm.Kit.i32_sub (by omega) (by omega)
  have e4 : (((a &&& (7 : Int32)) - (4 : Int32)) + (b &&& (3 : Int32))).toInt = ((a &&& (7 : Int32)) - (4 : Int32)).toInt + (b &&& (3 : Int32)).toInt := Jvm.Kit.i32_add (by omega) (by omega)
  rw [Int32.lt_iff_toInt_lt, ← Int32.toInt_inj]
  omega
theorem d2_0 : decode jdk_30_method_1_code 0 = .ok (.aload_n 0, 1) := by decide +kernel
theorem d2_1 : decode jdk_30_method_1_code 1 = .ok (.invokespecial 1, 3) := by decide +kernel
theorem d2_4 : decode jdk_30_method_1_code 4 = .ok (.return_, 1) := by decide +kernel
theorem pn_2 : plainName "java/lang/Record" = true := by first | (simp [plainName, overriddenIn]; done) | decide +kernel
theorem pd_2 : parseMethodDescriptor "()V" = some ⟨[], none⟩ := by decide +kernel
theorem ef_2 (m : MethodId) (x0 : Addr) : entryFrame m #[(.ref x0)] 1 = mkF m 0 #[.val (.ref x0)] [] := by first | (simp [entryFrame, mkF, argsToLocals, Value.category]; done) | rfl
def Q_2 (h0 : Heap) (n0 : Nat) (v : Option Value) (h : Heap) (L : List Loc) : Prop := v = none ∧ Fr n0 L ∧ h = h0
set_option maxRecDepth 65536 in
set_option maxHeartbeats 40000000 in
theorem rm_2 (l : Launch) (Z : State) (a0 : Array Value) (hw : ∀ d ∈ tables_1, d.before a0 Z = true) (ws : List Jvm.Cond) (a1 : Addr) (h0 : Heap) (n0 : Nat) (Z0 : n0 ≤ h0.size)  :
    MetFree l (⟨"java/lang/Record", "<init>", "()V"⟩ : MethodName) (head1 (Jvm.Cond.code (⟨"java/lang/Record", "<init>", "()V"⟩ : MethodName) jdk_30_method_1_code 1 none :: ws) ({ frames := 1, cells := 0, slots := 0, locals := 12 } : Room)) (fun a U => a = #[(.ref a1)] ∧ Z.Warmed39 U.vm ∧ U.heap = h0) (fun _ _ _ _ _ => True) (fun _ U o U' => ∃ v L, o = .returned v ∧ Q_2 h0 n0 v U'.heap L ∧ FrameEnd U o U' L 0 0) := by
  refine MetFree.of_bodySF (plainFor_of_name pn_2) hisR ?_
  intro p e s m args below meth c s₁ Bd hml0 hP hK
  obtain ⟨rfl, hZ, hh⟩ := hP
  have hx := Bd.exec
  have hby := Bd.bytes
  have hml : c.maxLocals = 1 := hml0
  have hown : s.vm.findClass "java/lang/Record" = some m.cls := findClass_of_methodNamed Bd.named
  have hnm := (name_of_methodNamed Bd.named Bd.method).1
  have X0 : Stand p l e ({ frames := 1, cells := 0, slots := 0, locals := 12 } : Room) s m #[(.ref a1)] below meth c s₁ [] 0 0 := Stand.of_body Bd
  have e0 : s₁.heap = h0 := by rw [← hh, Bd.state]; rfl
  have N0 := Fr.nil n0
  have pre0 : ∀ t, Steps p.tables e below (s₁.setTop (mkF m 0 #[.val (.ref a1)] [])) t → Steps p.tables e below (s₁.setTop (entryFrame m #[(.ref a1)] 1)) t := fun t k => castTop (ef_2 m (a1)) k
  obtain ⟨T2, X2, e2, st2⟩ := initO X0 hx hZ hown (hw _ (List.mem_of_getElem? (i := 11) rfl)) (hw _ (List.mem_of_getElem? (i := 12) rfl)) (hw _ (List.mem_of_getElem? (i := 13) rfl)) e0 (g := (mkF m 1 #[.val (.ref a1)] [(.ref a1)])) rfl (by rw [hml]; rfl) rfl (hb hby d2_1) (by decide) (W := 0) (by show 2 * 0 + _ ≤ _; exact Nat.le_of_eq rfl) (by decide)
  obtain ⟨fs, hr, hrun, hended, hW, hsame⟩ := X2.leave (v := none) (fun _ => rfl)
  refine ⟨_, _, pre0 _ ?_, hrun, hended, _, _, rfl, ?_, ⟨_, rfl⟩, hW, hsame.mono (by decide) (by decide)⟩
  · show Steps p.tables e below (s₁.setTop (mkF m 0 #[.val (.ref a1)] [])) _
    refine XS.aloadN X0.here hx rfl (hb hby d2_0) rfl rfl ?_
    show Steps p.tables e below (s₁.setTop (mkF m 1 #[.val (.ref a1)] [(.ref a1)])) _
    refine st2 _ ?_
    show Steps p.tables e below (T2.setTop (mkF m 4 #[.val (.ref a1)] [])) _
    exact X2.returnOut hx Bd.returns (hb hby d2_4) hr
  · show Q_2 h0 n0 _ T2.heap _
    rw [e2]
    exact ⟨rfl, N0, rfl⟩
theorem d1_0 : decode prog_9_method_1_code 0 = .ok (.aload_n 0, 1) := by decide +kernel
theorem d1_1 : decode prog_9_method_1_code 1 = .ok (.invokespecial 1, 3) := by decide +kernel
theorem d1_4 : decode prog_9_method_1_code 4 = .ok (.dload_n 1, 1) := by decide +kernel
theorem d1_5 : decode prog_9_method_1_code 5 = .ok (.dload 4, 2) := by decide +kernel
theorem d1_7 : decode prog_9_method_1_code 7 = .ok (.dcmp .g, 1) := by decide +kernel
theorem d1_8 : decode prog_9_method_1_code 8 = .ok (.ifCond .lt 35, 3) := by decide +kernel
theorem d1_11 : decode prog_9_method_1_code 11 = .ok (.dload_n 1, 1) := by decide +kernel
theorem d1_12 : decode prog_9_method_1_code 12 = .ok (.dload 4, 2) := by decide +kernel
theorem d1_14 : decode prog_9_method_1_code 14 = .ok (.dcmp .l, 1) := by decide +kernel
theorem d1_15 : decode prog_9_method_1_code 15 = .ok (.ifCond .ne 12, 3) := by decide +kernel
theorem d1_18 : decode prog_9_method_1_code 18 = .ok (.iload_n 3, 1) := by decide +kernel
theorem d1_19 : decode prog_9_method_1_code 19 = .ok (.ifCond .eq 8, 3) := by decide +kernel
theorem d1_22 : decode prog_9_method_1_code 22 = .ok (.iload 6, 2) := by decide +kernel
theorem d1_24 : decode prog_9_method_1_code 24 = .ok (.ifCond .ne 19, 3) := by decide +kernel
theorem d1_43 : decode prog_9_method_1_code 43 = .ok (.aload_n 0, 1) := by decide +kernel
theorem d1_44 : decode prog_9_method_1_code 44 = .ok (.dload_n 1, 1) := by decide +kernel
theorem d1_45 : decode prog_9_method_1_code 45 = .ok (.putfield 16, 3) := by decide +kernel
theorem d1_48 : decode prog_9_method_1_code 48 = .ok (.aload_n 0, 1) := by decide +kernel
theorem d1_49 : decode prog_9_method_1_code 49 = .ok (.iload_n 3, 1) := by decide +kernel
theorem d1_50 : decode prog_9_method_1_code 50 = .ok (.putfield 22, 3) := by decide +kernel
theorem d1_53 : decode prog_9_method_1_code 53 = .ok (.aload_n 0, 1) := by decide +kernel
theorem d1_54 : decode prog_9_method_1_code 54 = .ok (.dload 4, 2) := by decide +kernel
theorem d1_56 : decode prog_9_method_1_code 56 = .ok (.putfield 26, 3) := by decide +kernel
theorem d1_59 : decode prog_9_method_1_code 59 = .ok (.aload_n 0, 1) := by decide +kernel
theorem d1_60 : decode prog_9_method_1_code 60 = .ok (.iload 6, 2) := by decide +kernel
theorem d1_62 : decode prog_9_method_1_code 62 = .ok (.putfield 29, 3) := by decide +kernel
theorem d1_65 : decode prog_9_method_1_code 65 = .ok (.return_, 1) := by decide +kernel
theorem pn_1 : plainName "com/example/aerotome/aerotome/geometry/Interval" = true := by first | (simp [plainName, overriddenIn]; done) | decide +kernel
theorem pd_1 : parseMethodDescriptor "(DZDZ)V" = some ⟨[.double, .boolean, .double, .boolean], none⟩ := by decide +kernel
theorem ef_1 (m : MethodId) (x0 : Addr) (x1 : UInt64) (x2 : Int32) (x3 : UInt64) (x4 : Int32) : entryFrame m #[(.ref x0), (.double x1), (.int x2), (.double x3), (.int x4)] 7 = mkF m 0 #[.val (.ref x0), .val (.double x1), .second, .val (.int x2), .val (.double x3), .second, .val (.int x4)] [] := by first | (simp [entryFrame, mkF, argsToLocals, Value.category]; done) | rfl
def Q_1 (Z : State) (a1 : Addr) (k1 l1 m1 c1 : Int32) (h0 : Heap) (n0 : Nat) (v : Option Value) (h : Heap) (L : List Loc) : Prop := v = none ∧ Fr n0 L ∧ Keep h0 h [a1] ∧ Exa Z h a1 "com/example/aerotome/aerotome/geometry/Interval" ∧ Fld Z h a1 "com/example/aerotome/aerotome/geometry/Interval" "lo" "D" (.double (FP.i2d k1)) ∧ Fld Z h a1 "com/example/aerotome/aerotome/geometry/Interval" "loClosed" "Z" (.int l1) ∧ Fld Z h a1 "com/example/aerotome/aerotome/geometry/Interval" "hi" "D" (.double (FP.i2d m1)) ∧ Fld Z h a1 "com/example/aerotome/aerotome/geometry/Interval" "hiClosed" "Z" (.int c1)
set_option maxRecDepth 65536 in
set_option maxHeartbeats 40000000 in
theorem rm_1 (l : Launch) (Z : State) (a0 : Array Value) (hw : ∀ d ∈ tables_1, d.before a0 Z = true) (ws : List Jvm.Cond) (a1 : Addr) (k1 l1 m1 c1 : Int32) (h0 : Heap) (n0 : Nat) (Z0 : n0 ≤ h0.size) (F0 : Fld Z h0 a1 "com/example/aerotome/aerotome/geometry/Interval" "lo" "D" (.double (0 : UInt64))) (F1 : Fld Z h0 a1 "com/example/aerotome/aerotome/geometry/Interval" "loClosed" "Z" (.int (0 : Int32))) (F2 : Fld Z h0 a1 "com/example/aerotome/aerotome/geometry/Interval" "hi" "D" (.double (0 : UInt64))) (F3 : Fld Z h0 a1 "com/example/aerotome/aerotome/geometry/Interval" "hiClosed" "Z" (.int (0 : Int32))) (E0 : Exa Z h0 a1 "com/example/aerotome/aerotome/geometry/Interval") (g0 : n0 ≤ a1) (bl : own_bit l1) (bc : own_bit c1) (vd : k1 < m1 ∨ (k1 = m1 ∧ l1 = 1 ∧ c1 = 1)) :
    MetFree l (⟨"com/example/aerotome/aerotome/geometry/Interval", "<init>", "(DZDZ)V"⟩ : MethodName) (head1 (Jvm.Cond.code (⟨"com/example/aerotome/aerotome/geometry/Interval", "<init>", "(DZDZ)V"⟩ : MethodName) prog_9_method_1_code 7 none :: ws) ({ frames := 2, cells := 0, slots := 0, locals := 24 } : Room)) (fun a U => a = #[(.ref a1), (.double (FP.i2d k1)), (.int l1), (.double (FP.i2d m1)), (.int c1)] ∧ Z.Warmed39 U.vm ∧ U.heap = h0) (fun _ _ _ _ _ => True) (fun _ U o U' => ∃ v L, o = .returned v ∧ Q_1 Z a1 k1 l1 m1 c1 h0 n0 v U'.heap L ∧ FrameEnd U o U' L 0 0) := by
  refine MetFree.of_bodySF (plainFor_of_name pn_1) hisR ?_
  intro p e s m args below meth c s₁ Bd hml0 hP hK
  obtain ⟨rfl, hZ, hh⟩ := hP
  have hx := Bd.exec
  have hby := Bd.bytes
  have hml : c.maxLocals = 7 := hml0
  have hown : s.vm.findClass "com/example/aerotome/aerotome/geometry/Interval" = some m.cls := findClass_of_methodNamed Bd.named
  have hnm := (name_of_methodNamed Bd.named Bd.method).1
  have X0 : Stand p l e ({ frames := 2, cells := 0, slots := 0, locals := 24 } : Room) s m #[(.ref a1), (.double (FP.i2d k1)), (.int l1), (.double (FP.i2d m1)), (.int c1)] below meth c s₁ [] 0 0 := Stand.of_body Bd
  have e0 : s₁.heap = h0 := by rw [← hh, Bd.state]; rfl
  have N0 := Fr.nil n0
  have pre0 : ∀ t, Steps p.tables e below (s₁.setTop (mkF m 0 #[.val (.ref a1), .val (.double (FP.i2d k1)), .second, .val (.int l1), .val (.double (FP.i2d m1)), .second, .val (.int c1)] [])) t → Steps p.tables e below (s₁.setTop (entryFrame m #[(.ref a1), (.double (FP.i2d k1)), (.int l1), (.double (FP.i2d m1)), (.int c1)] 7)) t := fun t k => castTop (ef_1 m (a1) ((FP.i2d k1)) (l1) ((FP.i2d m1)) (c1)) k
  obtain ⟨_, _, ⟨T1, L1, k1, n1⟩, -, X1, ⟨Lc1, hQ1, l1, y1, z1⟩, st1⟩ := X0.specialBack hx (y := (⟨"java/lang/Record", "<init>", "()V"⟩ : MethodName)) rfl hown (mvT hZ (hw _ (List.mem_of_getElem? (i := 6) rfl))) (mvT hZ (hw _ (List.mem_of_getElem? (i := 7) rfl))) (mvT hZ (hw _ (List.mem_of_getElem? (i := 10) rfl))) (by decide) (backOf (W := 0) (rm_2 l Z a0 hw [] a1 h0 n0 Z0) hZ (hw _ (List.mem_of_getElem? (i := 10) rfl)) (hw _ (List.mem_of_getElem? (i := 9) rfl)) (by decide) (by decide)) (g := (mkF m 1 #[.val (.ref a1), .val (.double (FP.i2d k1)), .second, .val (.int l1), .val (.double (FP.i2d m1)), .second, .val (.int c1)] [(.ref a1)])) rfl (by rw [hml]; rfl) (Steps.refl _) (a := a1) (argsL := []) (rest := []) (lenOf pd_2 rfl) rfl (by show 2 * 0 + _ ≤ _; exact Nat.le_of_eq rfl) (hb hby d1_1) (fun _ _ => ⟨rfl, e0, (by decide : 0 + 0 ≤ _), (by decide : 0 + 0 ≤ _)⟩)
  dsimp only [Pt.U, Pt.locs, Pt.cells, Pt.slots] at X1 l1 y1 z1 st1 hQ1
  subst l1 y1 z1
  obtain ⟨rfl, N1, e1⟩ := hQ1
  have N1b := Fr.app N0 N1
  obtain ⟨T3, h3, X3, e3, W3, st3⟩ := putF X1 hx hZ hown (host := "") (Or.inl (hw _ (List.mem_of_getElem? (i := 14) rfl))) Via.refl e1 F0 E0 (Or.inr ⟨(hw _ (List.mem_of_getElem? (i := 15) rfl)), rfl, hnm⟩) (hw _ (List.mem_of_getElem? (i := 1) rfl)) (ty := .double) (by decide) rfl rfl (g := (mkF m 45 #[.val (.ref a1), .val (.double (FP.i2d k1)), .second, .val (.int l1), .val (.double (FP.i2d m1)), .second, .val (.int c1)] [(.double (FP.i2d k1)), (.ref a1)])) rfl rfl (hb hby d1_45)
  have N3 := Fr.snoc X3 N1b g0
  have K3 : Keep h0 h3 [a1] := ((Keep.refl _ _).wr W3 (Or.inl (List.mem_of_getElem? (i := 0) rfl)))
  have E3 : Exa Z h3 a1 "com/example/aerotome/aerotome/geometry/Interval" := (E0.wr W3)
  have F3_0 : Fld Z h3 a1 "com/example/aerotome/aerotome/geometry/Interval" "lo" "D" (.double (FP.i2d k1)) := (F0.same W3)
  have F3_1 : Fld Z h3 a1 "com/example/aerotome/aerotome/geometry/Interval" "loClosed" "Z" (.int (0 : Int32)) := (F1.other W3 (Or.inr (slot_ne (Or.inr (hw _ (List.mem_of_getElem? (i := 17) rfl))) (Or.inr (hw _ (List.mem_of_getElem? (i := 15) rfl))) (by decide) (t := .boolean) (t' := .double) (by decide) (by decide))))
  have F3_2 : Fld Z h3 a1 "com/example/aerotome/aerotome/geometry/Interval" "hi" "D" (.double (0 : UInt64)) := (F2.other W3 (Or.inr (slot_ne (Or.inr (hw _ (List.mem_of_getElem? (i := 19) rfl))) (Or.inr (hw _ (List.mem_of_getElem? (i := 15) rfl))) (by decide) (t := .double) (t' := .double) (by decide) (by decide))))
  have F3_3 : Fld Z h3 a1 "com/example/aerotome/aerotome/geometry/Interval" "hiClosed" "Z" (.int (0 : Int32)) := (F3.other W3 (Or.inr (slot_ne (Or.inr (hw _ (List.mem_of_getElem? (i := 21) rfl))) (Or.inr (hw _ (List.mem_of_getElem? (i := 15) rfl))) (by decide) (t := .boolean) (t' := .double) (by decide) (by decide))))
  obtain ⟨T4, h4, X4, e4, W4, st4⟩ := putF X3 hx hZ hown (host := "") (Or.inl (hw _ (List.mem_of_getElem? (i := 16) rfl))) Via.refl e3 F3_1 E3 (Or.inr ⟨(hw _ (List.mem_of_getElem? (i := 17) rfl)), rfl, hnm⟩) (hw _ (List.mem_of_getElem? (i := 1) rfl)) (ty := .boolean) (by decide) (own_bit_n bl) (own_bit_f bl) (g := (mkF m 50 #[.val (.ref a1), .val (.double (FP.i2d k1)), .second, .val (.int l1), .val (.double (FP.i2d m1)), .second, .val (.int c1)] [(.int l1), (.ref a1)])) rfl rfl (hb hby d1_50)
  have N4 := Fr.snoc X4 N3 g0
  have K4 : Keep h0 h4 [a1] := (K3.wr W4 (Or.inl (List.mem_of_getElem? (i := 0) rfl)))
  have E4 : Exa Z h4 a1 "com/example/aerotome/aerotome/geometry/Interval" := (E3.wr W4)
  have F4_0 : Fld Z h4 a1 "com/example/aerotome/aerotome/geometry/Interval" "lo" "D" (.double (FP.i2d k1)) := (F3_0.other W4 (Or.inr (slot_ne (Or.inr (hw _ (List.mem_of_getElem? (i := 15) rfl))) (Or.inr (hw _ (List.mem_of_getElem? (i := 17) rfl))) (by decide) (t := .double) (t' := .boolean) (by decide) (by decide))))
  have F4_1 : Fld Z h4 a1 "com/example/aerotome/aerotome/geometry/Interval" "loClosed" "Z" (.int l1) := (F3_1.same W4)
  have F4_2 : Fld Z h4 a1 "com/example/aerotome/aerotome/geometry/Interval" "hi" "D" (.double (0 : UInt64)) := (F3_2.other W4 (Or.inr (slot_ne (Or.inr (hw _ (List.mem_of_getElem? (i := 19) rfl))) (Or.inr (hw _ (List.mem_of_getElem? (i := 17) rfl))) (by decide) (t := .double) (t' := .boolean) (by decide) (by decide))))
  have F4_3 : Fld Z h4 a1 "com/example/aerotome/aerotome/geometry/Interval" "hiClosed" "Z" (.int (0 : Int32)) := (F3_3.other W4 (Or.inr (slot_ne (Or.inr (hw _ (List.mem_of_getElem? (i := 21) rfl))) (Or.inr (hw _ (List.mem_of_getElem? (i := 17) rfl))) (by decide) (t := .boolean) (t' := .boolean) (by decide) (by decide))))
  obtain ⟨T5, h5, X5, e5, W5, st5⟩ := putF X4 hx hZ hown (host := "") (Or.inl (hw _ (List.mem_of_getElem? (i := 18) rfl))) Via.refl e4 F4_2 E4 (Or.inr ⟨(hw _ (List.mem_of_getElem? (i := 19) rfl)), rfl, hnm⟩) (hw _ (List.mem_of_getElem? (i := 1) rfl)) (ty := .double) (by decide) rfl rfl (g := (mkF m 56 #[.val (.ref a1), .val (.double (FP.i2d k1)), .second, .val (.int l1), .val (.double (FP.i2d m1)), .second, .val (.int c1)] [(.double (FP.i2d m1)), (.ref a1)])) rfl rfl (hb hby d1_56)
  have N5 := Fr.snoc X5 N4 g0
  have K5 : Keep h0 h5 [a1] := (K4.wr W5 (Or.inl (List.mem_of_getElem? (i := 0) rfl)))
  have E5 : Exa Z h5 a1 "com/example/aerotome/aerotome/geometry/Interval" := (E4.wr W5)
  have F5_0 : Fld Z h5 a1 "com/example/aerotome/aerotome/geometry/Interval" "lo" "D" (.double (FP.i2d k1)) := (F4_0.other W5 (Or.inr (slot_ne (Or.inr (hw _ (List.mem_of_getElem? (i := 15) rfl))) (Or.inr (hw _ (List.mem_of_getElem? (i := 19) rfl))) (by decide) (t := .double) (t' := .double) (by decide) (by decide))))
  have F5_1 : Fld Z h5 a1 "com/example/aerotome/aerotome/geometry/Interval" "loClosed" "Z" (.int l1) := (F4_1.other W5 (Or.inr (slot_ne (Or.inr (hw _ (List.mem_of_getElem? (i := 17) rfl))) (Or.inr (hw _ (List.mem_of_getElem? (i := 19) rfl))) (by decide) (t := .boolean) (t' := .double) (by decide) (by decide))))
  have F5_2 : Fld Z h5 a1 "com/example/aerotome/aerotome/geometry/Interval" "hi" "D" (.double (FP.i2d m1)) := (F4_2.same W5)
  have F5_3 : Fld Z h5 a1 "com/example/aerotome/aerotome/geometry/Interval" "hiClosed" "Z" (.int (0 : Int32)) := (F4_3.other W5 (Or.inr (slot_ne (Or.inr (hw _ (List.mem_of_getElem? (i := 21) rfl))) (Or.inr (hw _ (List.mem_of_getElem? (i := 19) rfl))) (by decide) (t := .boolean) (t' := .double) (by decide) (by decide))))
  obtain ⟨T6, h6, X6, e6, W6, st6⟩ := putF X5 hx hZ hown (host := "") (Or.inl (hw _ (List.mem_of_getElem? (i := 20) rfl))) Via.refl e5 F5_3 E5 (Or.inr ⟨(hw _ (List.mem_of_getElem? (i := 21) rfl)), rfl, hnm⟩) (hw _ (List.mem_of_getElem? (i := 1) rfl)) (ty := .boolean) (by decide) (own_bit_n bc) (own_bit_f bc) (g := (mkF m 62 #[.val (.ref a1), .val (.double (FP.i2d k1)), .second, .val (.int l1), .val (.double (FP.i2d m1)), .second, .val (.int c1)] [(.int c1), (.ref a1)])) rfl rfl (hb hby d1_62)
  have N6 := Fr.snoc X6 N5 g0
  have K6 : Keep h0 h6 [a1] := (K5.wr W6 (Or.inl (List.mem_of_getElem? (i := 0) rfl)))
  have E6 : Exa Z h6 a1 "com/example/aerotome/aerotome/geometry/Interval" := (E5.wr W6)
  have F6_0 : Fld Z h6 a1 "com/example/aerotome/aerotome/geometry/Interval" "lo" "D" (.double (FP.i2d k1)) := (F5_0.other W6 (Or.inr (slot_ne (Or.inr (hw _ (List.mem_of_getElem? (i := 15) rfl))) (Or.inr (hw _ (List.mem_of_getElem? (i := 21) rfl))) (by decide) (t := .double) (t' := .boolean) (by decide) (by decide))))
  have F6_1 : Fld Z h6 a1 "com/example/aerotome/aerotome/geometry/Interval" "loClosed" "Z" (.int l1) := (F5_1.other W6 (Or.inr (slot_ne (Or.inr (hw _ (List.mem_of_getElem? (i := 17) rfl))) (Or.inr (hw _ (List.mem_of_getElem? (i := 21) rfl))) (by decide) (t := .boolean) (t' := .boolean) (by decide) (by decide))))
  have F6_2 : Fld Z h6 a1 "com/example/aerotome/aerotome/geometry/Interval" "hi" "D" (.double (FP.i2d m1)) := (F5_2.other W6 (Or.inr (slot_ne (Or.inr (hw _ (List.mem_of_getElem? (i := 19) rfl))) (Or.inr (hw _ (List.mem_of_getElem? (i := 21) rfl))) (by decide) (t := .double) (t' := .boolean) (by decide) (by decide))))
  have F6_3 : Fld Z h6 a1 "com/example/aerotome/aerotome/geometry/Interval" "hiClosed" "Z" (.int c1) := (F5_3.same W6)
  obtain ⟨fs, hr, hrun, hended, hW, hsame⟩ := X6.leave (v := none) (fun _ => rfl)
  refine ⟨_, _, pre0 _ ?_, hrun, hended, _, _, rfl, ?_, ⟨_, rfl⟩, hW, hsame.mono (by decide) (by decide)⟩
  · have k43 : Steps p.tables e below (T1.setTop (mkF m 43 #[.val (.ref a1), .val (.double (FP.i2d k1)), .second, .val (.int l1), .val (.double (FP.i2d m1)), .second, .val (.int c1)] [])) (T6.setFrames fs) := by
      show Steps p.tables e below (T1.setTop (mkF m 43 #[.val (.ref a1), .val (.double (FP.i2d k1)), .second, .val (.int l1), .val (.double (FP.i2d m1)), .second, .val (.int c1)] [])) _
      refine XS.aloadN X1.here hx rfl (hb hby d1_43) rfl rfl ?_
      show Steps p.tables e below (T1.setTop (mkF m 44 #[.val (.ref a1), .val (.double (FP.i2d k1)), .second, .val (.int l1), .val (.double (FP.i2d m1)), .second, .val (.int c1)] [(.ref a1)])) _
      refine XS.dloadN X1.here hx rfl (hb hby d1_44) rfl ?_
      show Steps p.tables e below (T1.setTop (mkF m 45 #[.val (.ref a1), .val (.double (FP.i2d k1)), .second, .val (.int l1), .val (.double (FP.i2d m1)), .second, .val (.int c1)] [(.double (FP.i2d k1)), (.ref a1)])) _
      refine st3 _ ?_
      show Steps p.tables e below (T3.setTop (mkF m 48 #[.val (.ref a1), .val (.double (FP.i2d k1)), .second, .val (.int l1), .val (.double (FP.i2d m1)), .second, .val (.int c1)] [])) _
      refine XS.aloadN X3.here hx rfl (hb hby d1_48) rfl rfl ?_
      show Steps p.tables e below (T3.setTop (mkF m 49 #[.val (.ref a1), .val (.double (FP.i2d k1)), .second, .val (.int l1), .val (.double (FP.i2d m1)), .second, .val (.int c1)] [(.ref a1)])) _
      refine XS.iloadN X3.here hx rfl (hb hby d1_49) rfl ?_
      show Steps p.tables e below (T3.setTop (mkF m 50 #[.val (.ref a1), .val (.double (FP.i2d k1)), .second, .val (.int l1), .val (.double (FP.i2d m1)), .second, .val (.int c1)] [(.int l1), (.ref a1)])) _
      refine st4 _ ?_
      show Steps p.tables e below (T4.setTop (mkF m 53 #[.val (.ref a1), .val (.double (FP.i2d k1)), .second, .val (.int l1), .val (.double (FP.i2d m1)), .second, .val (.int c1)] [])) _
      refine XS.aloadN X4.here hx rfl (hb hby d1_53) rfl rfl ?_
      show Steps p.tables e below (T4.setTop (mkF m 54 #[.val (.ref a1), .val (.double (FP.i2d k1)), .second, .val (.int l1), .val (.double (FP.i2d m1)), .second, .val (.int c1)] [(.ref a1)])) _
      refine XS.dload X4.here hx rfl (hb hby d1_54) rfl ?_
      show Steps p.tables e below (T4.setTop (mkF m 56 #[.val (.ref a1), .val (.double (FP.i2d k1)), .second, .val (.int l1), .val (.double (FP.i2d m1)), .second, .val (.int c1)] [(.double (FP.i2d m1)), (.ref a1)])) _
      refine st5 _ ?_
      show Steps p.tables e below (T5.setTop (mkF m 59 #[.val (.ref a1), .val (.double (FP.i2d k1)), .second, .val (.int l1), .val (.double (FP.i2d m1)), .second, .val (.int c1)] [])) _
      refine XS.aloadN X5.here hx rfl (hb hby d1_59) rfl rfl ?_
      show Steps p.tables e below (T5.setTop (mkF m 60 #[.val (.ref a1), .val (.double (FP.i2d k1)), .second, .val (.int l1), .val (.double (FP.i2d m1)), .second, .val (.int c1)] [(.ref a1)])) _
      refine XS.iload X5.here hx rfl (hb hby d1_60) rfl ?_
      show Steps p.tables e below (T5.setTop (mkF m 62 #[.val (.ref a1), .val (.double (FP.i2d k1)), .second, .val (.int l1), .val (.double (FP.i2d m1)), .second, .val (.int c1)] [(.int c1), (.ref a1)])) _
      refine st6 _ ?_
      show Steps p.tables e below (T6.setTop (mkF m 65 #[.val (.ref a1), .val (.double (FP.i2d k1)), .second, .val (.int l1), .val (.double (FP.i2d m1)), .second, .val (.int c1)] [])) _
      exact X6.returnOut hx Bd.returns (hb hby d1_65) hr
    show Steps p.tables e below (s₁.setTop (mkF m 0 #[.val (.ref a1), .val (.double (FP.i2d k1)), .second, .val (.int l1), .val (.double (FP.i2d m1)), .second, .val (.int c1)] [])) _
    refine XS.aloadN X0.here hx rfl (hb hby d1_0) rfl rfl ?_
    show Steps p.tables e below (s₁.setTop (mkF m 1 #[.val (.ref a1), .val (.double (FP.i2d k1)), .second, .val (.int l1), .val (.double (FP.i2d m1)), .second, .val (.int c1)] [(.ref a1)])) _
    refine st1.trans ?_
    show Steps p.tables e below (T1.setTop (mkF m 4 #[.val (.ref a1), .val (.double (FP.i2d k1)), .second, .val (.int l1), .val (.double (FP.i2d m1)), .second, .val (.int c1)] [])) _
    refine XS.dloadN X1.here hx rfl (hb hby d1_4) rfl ?_
    show Steps p.tables e below (T1.setTop (mkF m 5 #[.val (.ref a1), .val (.double (FP.i2d k1)), .second, .val (.int l1), .val (.double (FP.i2d m1)), .second, .val (.int c1)] [(.double (FP.i2d k1))])) _
    refine XS.dload X1.here hx rfl (hb hby d1_5) rfl ?_
    show Steps p.tables e below (T1.setTop (mkF m 7 #[.val (.ref a1), .val (.double (FP.i2d k1)), .second, .val (.int l1), .val (.double (FP.i2d m1)), .second, .val (.int c1)] [(.double (FP.i2d m1)), (.double (FP.i2d k1))])) _
    refine XS.dcmpS X1.here hx rfl (hb hby d1_7) rfl rfl ?_
    show Steps p.tables e below (T1.setTop (mkF m 8 #[.val (.ref a1), .val (.double (FP.i2d k1)), .second, .val (.int l1), .val (.double (FP.i2d m1)), .second, .val (.int c1)] [(.int (cmpValue (FP.dcmp (FP.i2d k1) (FP.i2d m1)) .g))])) _
    by_cases q1 : k1 < m1
    · refine XS.ifYes X1.here hx rfl (pc0 := 8) (pc' := 43) rfl (hb hby d1_8) rfl ((if0 _ _).trans (tlt ((own_dc k1 m1 .g).1.mpr q1)).1) (by decide) (by decide) ?_
      show Steps p.tables e below (T1.setTop (mkF m 43 #[.val (.ref a1), .val (.double (FP.i2d k1)), .second, .val (.int l1), .val (.double (FP.i2d m1)), .second, .val (.int c1)] [])) _
      exact k43
    · obtain ⟨q2, q3, q4⟩ := vd.resolve_left q1
      refine XS.ifNo X1.here hx rfl (hb hby d1_8) rfl ((if0 _ _).trans (flt (fun q => q1 ((own_dc k1 m1 .g).1.mp q))).1) ?_
      show Steps p.tables e below (T1.setTop (mkF m 11 #[.val (.ref a1), .val (.double (FP.i2d k1)), .second, .val (.int l1), .val (.double (FP.i2d m1)), .second, .val (.int c1)] [])) _
      refine XS.dloadN X1.here hx rfl (hb hby d1_11) rfl ?_
      show Steps p.tables e below (T1.setTop (mkF m 12 #[.val (.ref a1), .val (.double (FP.i2d k1)), .second, .val (.int l1), .val (.double (FP.i2d m1)), .second, .val (.int c1)] [(.double (FP.i2d k1))])) _
      refine XS.dload X1.here hx rfl (hb hby d1_12) rfl ?_
      show Steps p.tables e below (T1.setTop (mkF m 14 #[.val (.ref a1), .val (.double (FP.i2d k1)), .second, .val (.int l1), .val (.double (FP.i2d m1)), .second, .val (.int c1)] [(.double (FP.i2d m1)), (.double (FP.i2d k1))])) _
      refine XS.dcmpS X1.here hx rfl (hb hby d1_14) rfl rfl ?_
      show Steps p.tables e below (T1.setTop (mkF m 15 #[.val (.ref a1), .val (.double (FP.i2d k1)), .second, .val (.int l1), .val (.double (FP.i2d m1)), .second, .val (.int c1)] [(.int (cmpValue (FP.dcmp (FP.i2d k1) (FP.i2d m1)) .l))])) _
      refine XS.ifNo X1.here hx rfl (hb hby d1_15) rfl ((if0 _ _).trans (teq ((own_dc k1 m1 .l).2.1.mpr q2)).2) ?_
      show Steps p.tables e below (T1.setTop (mkF m 18 #[.val (.ref a1), .val (.double (FP.i2d k1)), .second, .val (.int l1), .val (.double (FP.i2d m1)), .second, .val (.int c1)] [])) _
      refine XS.iloadN X1.here hx rfl (hb hby d1_18) rfl ?_
      show Steps p.tables e below (T1.setTop (mkF m 19 #[.val (.ref a1), .val (.double (FP.i2d k1)), .second, .val (.int l1), .val (.double (FP.i2d m1)), .second, .val (.int c1)] [(.int l1)])) _
      refine XS.ifNo X1.here hx rfl (hb hby d1_19) rfl ((if0 _ _).trans (feq (by rw [q3]; decide)).1) ?_
      show Steps p.tables e below (T1.setTop (mkF m 22 #[.val (.ref a1), .val (.double (FP.i2d k1)), .second, .val (.int l1), .val (.double (FP.i2d m1)), .second, .val (.int c1)] [])) _
      refine XS.iload X1.here hx rfl (hb hby d1_22) rfl ?_
      show Steps p.tables e below (T1.setTop (mkF m 24 #[.val (.ref a1), .val (.double (FP.i2d k1)), .second, .val (.int l1), .val (.double (FP.i2d m1)), .second, .val (.int c1)] [(.int c1)])) _
      refine XS.ifYes X1.here hx rfl (pc0 := 24) (pc' := 43) rfl (hb hby d1_24) rfl ((if0 _ _).trans (feq (by rw [q4]; decide)).2) (by decide) (by decide) ?_
      show Steps p.tables e below (T1.setTop (mkF m 43 #[.val (.ref a1), .val (.double (FP.i2d k1)), .second, .val (.int l1), .val (.double (FP.i2d m1)), .second, .val (.int c1)] [])) _
      exact k43
  · show Q_1 Z a1 k1 l1 m1 c1 h0 n0 _ T6.heap _
    rw [e6]
    exact ⟨rfl, N6, K6, E6, F6_0, F6_1, F6_2, F6_3⟩
theorem d3_0 : decode method_3_code 0 = .ok (.iload_n 0, 1) := by decide +kernel
theorem d3_1 : decode method_3_code 1 = .ok (.iload_n 2, 1) := by decide +kernel
theorem d3_2 : decode method_3_code 2 = .ok (.if_icmp .lt 16, 3) := by decide +kernel
theorem d3_5 : decode method_3_code 5 = .ok (.iload_n 0, 1) := by decide +kernel
theorem d3_6 : decode method_3_code 6 = .ok (.iload_n 2, 1) := by decide +kernel
theorem d3_7 : decode method_3_code 7 = .ok (.if_icmp .ne 15, 3) := by decide +kernel
theorem d3_10 : decode method_3_code 10 = .ok (.iload_n 1, 1) := by decide +kernel
theorem d3_11 : decode method_3_code 11 = .ok (.ifCond .ne 11, 3) := by decide +kernel
theorem d3_14 : decode method_3_code 14 = .ok (.iload_n 3, 1) := by decide +kernel
theorem d3_15 : decode method_3_code 15 = .ok (.ifCond .ne 7, 3) := by decide +kernel
theorem d3_18 : decode method_3_code 18 = .ok (.iconst 1, 1) := by decide +kernel
theorem d3_19 : decode method_3_code 19 = .ok (.goto 4, 3) := by decide +kernel
theorem d3_22 : decode method_3_code 22 = .ok (.iconst 0, 1) := by decide +kernel
theorem d3_23 : decode method_3_code 23 = .ok (.ireturn, 1) := by decide +kernel
theorem pn_0 : plainName "com/example/aerotome/aerotome/geometry/IntervalJoinsPinLaw" = true := by first | (simp [plainName, overriddenIn]; done) | decide +kernel
theorem pd_3 : parseMethodDescriptor "(IZIZ)Z" = some ⟨[.int, .boolean, .int, .boolean], some .boolean⟩ := by decide +kernel
theorem ef_3 (m : MethodId) (x0 : Int32) (x1 : Int32) (x2 : Int32) (x3 : Int32) : entryFrame m #[(.int x0), (.int x1), (.int x2), (.int x3)] 4 = mkF m 0 #[.val (.int x0), .val (.int x1), .val (.int x2), .val (.int x3)] [] := by first | (simp [entryFrame, mkF, argsToLocals, Value.category]; done) | rfl
def Q_3 (hi hc lo lc : Int32) (h0 : Heap) (n0 : Nat) (v : Option Value) (h : Heap) (L : List Loc) : Prop := v = some (.int (own_bz (own_sp hi hc lo lc))) ∧ Fr n0 L ∧ h = h0
set_option maxRecDepth 65536 in
set_option maxHeartbeats 40000000 in
theorem rm_3 (l : Launch) (Z : State) (a0 : Array Value) (hw : ∀ d ∈ tables_1, d.before a0 Z = true) (ws : List Jvm.Cond) (hi hc lo lc : Int32) (h0 : Heap) (n0 : Nat) (Z0 : n0 ≤ h0.size)  :
    MetFree l (⟨"com/example/aerotome/aerotome/geometry/IntervalJoinsPinLaw", "separated", "(IZIZ)Z"⟩ : MethodName) (head1 (Jvm.Cond.code (⟨"com/example/aerotome/aerotome/geometry/IntervalJoinsPinLaw", "separated", "(IZIZ)Z"⟩ : MethodName) method_3_code 4 (some .boolean) :: ws) ({ frames := 0, cells := 0, slots := 0, locals := 0 } : Room)) (fun a U => a = #[(.int hi), (.int hc), (.int lo), (.int lc)] ∧ Z.Warmed39 U.vm ∧ U.heap = h0) (fun _ _ _ _ _ => True) (fun _ U o U' => ∃ v L, o = .returned v ∧ Q_3 hi hc lo lc h0 n0 v U'.heap L ∧ FrameEnd U o U' L 0 0) := by
  refine MetFree.of_bodySF (plainFor_of_name pn_0) hisR ?_
  intro p e s m args below meth c s₁ Bd hml0 hP hK
  obtain ⟨rfl, hZ, hh⟩ := hP
  have hx := Bd.exec
  have hby := Bd.bytes
  have hml : c.maxLocals = 4 := hml0
  have hown : s.vm.findClass "com/example/aerotome/aerotome/geometry/IntervalJoinsPinLaw" = some m.cls := findClass_of_methodNamed Bd.named
  have hnm := (name_of_methodNamed Bd.named Bd.method).1
  have X0 : Stand p l e ({ frames := 0, cells := 0, slots := 0, locals := 0 } : Room) s m #[(.int hi), (.int hc), (.int lo), (.int lc)] below meth c s₁ [] 0 0 := Stand.of_body Bd
  have e0 : s₁.heap = h0 := by rw [← hh, Bd.state]; rfl
  have N0 := Fr.nil n0
  have pre0 : ∀ t, Steps p.tables e below (s₁.setTop (mkF m 0 #[.val (.int hi), .val (.int hc), .val (.int lo), .val (.int lc)] [])) t → Steps p.tables e below (s₁.setTop (entryFrame m #[(.int hi), (.int hc), (.int lo), (.int lc)] 4)) t := fun t k => castTop (ef_3 m (hi) (hc) (lo) (lc)) k
  obtain ⟨fs, hr, hrun, hended, hW, hsame⟩ := X0.leave (v := some (.int (nar .boolean (own_bz (own_sp hi hc lo lc))))) (fun h => by rw [Bd.returns] at h; cases h)
  refine ⟨_, _, pre0 _ ?_, hrun, hended, _, _, rfl, ?_, ⟨_, rfl⟩, hW, hsame.mono (by decide) (by decide)⟩
  · have kr : ∀ z, z = own_bz (own_sp hi hc lo lc) → Steps p.tables e below (s₁.setTop (mkF m 23 #[.val (.int hi), .val (.int hc), .val (.int lo), .val (.int lc)] [(.int z)])) (s₁.setFrames fs) := by
      intro z hz; subst hz; exact retN X0 hx (t := .boolean) Bd.returns (by simp) (hb hby d3_23) hr
    show Steps p.tables e below (s₁.setTop (mkF m 0 #[.val (.int hi), .val (.int hc), .val (.int lo), .val (.int lc)] [])) _
    refine XS.iloadN X0.here hx rfl (hb hby d3_0) rfl ?_
    show Steps p.tables e below (s₁.setTop (mkF m 1 #[.val (.int hi), .val (.int hc), .val (.int lo), .val (.int lc)] [(.int hi)])) _
    refine XS.iloadN X0.here hx rfl (hb hby d3_1) rfl ?_
    show Steps p.tables e below (s₁.setTop (mkF m 2 #[.val (.int hi), .val (.int hc), .val (.int lo), .val (.int lc)] [(.int lo), (.int hi)])) _
    by_cases q1 : hi < lo
    · refine XS.icmpYes X0.here hx rfl (pc0 := 2) (pc' := 18) rfl (hb hby d3_2) rfl (tlt q1).1 (by decide) (by decide) ?_
      show Steps p.tables e below (s₁.setTop (mkF m 18 #[.val (.int hi), .val (.int hc), .val (.int lo), .val (.int lc)] [])) _
      refine XS.iconst X0.here hx rfl (hb hby d3_18) ?_
      show Steps p.tables e below (s₁.setTop (mkF m 19 #[.val (.int hi), .val (.int hc), .val (.int lo), .val (.int lc)] [(.int (1 : Int32))])) _
      refine XS.goto X0.here hx rfl (pc0 := 19) (pc' := 23) rfl (hb hby d3_19) (by decide) (by decide) ?_
      show Steps p.tables e below (s₁.setTop (mkF m 23 #[.val (.int hi), .val (.int hc), .val (.int lo), .val (.int lc)] [(.int (1 : Int32))])) _
      exact kr _ (by rw [own_bz_t (Or.inl q1)])
    · refine XS.icmpNo X0.here hx rfl (hb hby d3_2) rfl (flt q1).1 ?_
      show Steps p.tables e below (s₁.setTop (mkF m 5 #[.val (.int hi), .val (.int hc), .val (.int lo), .val (.int lc)] [])) _
      refine XS.iloadN X0.here hx rfl (hb hby d3_5) rfl ?_
      show Steps p.tables e below (s₁.setTop (mkF m 6 #[.val (.int hi), .val (.int hc), .val (.int lo), .val (.int lc)] [(.int hi)])) _
      refine XS.iloadN X0.here hx rfl (hb hby d3_6) rfl ?_
      show Steps p.tables e below (s₁.setTop (mkF m 7 #[.val (.int hi), .val (.int hc), .val (.int lo), .val (.int lc)] [(.int lo), (.int hi)])) _
      by_cases q2 : hi = lo
      · refine XS.icmpNo X0.here hx rfl (hb hby d3_7) rfl (teq q2).2 ?_
        show Steps p.tables e below (s₁.setTop (mkF m 10 #[.val (.int hi), .val (.int hc), .val (.int lo), .val (.int lc)] [])) _
        refine XS.iloadN X0.here hx rfl (hb hby d3_10) rfl ?_
        show Steps p.tables e below (s₁.setTop (mkF m 11 #[.val (.int hi), .val (.int hc), .val (.int lo), .val (.int lc)] [(.int hc)])) _
        by_cases q3 : hc = (0 : Int32)
        · refine XS.ifNo X0.here hx rfl (hb hby d3_11) rfl ((if0 _ _).trans (teq q3).2) ?_
          show Steps p.tables e below (s₁.setTop (mkF m 14 #[.val (.int hi), .val (.int hc), .val (.int lo), .val (.int lc)] [])) _
          refine XS.iloadN X0.here hx rfl (hb hby d3_14) rfl ?_
          show Steps p.tables e below (s₁.setTop (mkF m 15 #[.val (.int hi), .val (.int hc), .val (.int lo), .val (.int lc)] [(.int lc)])) _
          by_cases q4 : lc = (0 : Int32)
          · refine XS.ifNo X0.here hx rfl (hb hby d3_15) rfl ((if0 _ _).trans (teq q4).2) ?_
            show Steps p.tables e below (s₁.setTop (mkF m 18 #[.val (.int hi), .val (.int hc), .val (.int lo), .val (.int lc)] [])) _
            refine XS.iconst X0.here hx rfl (hb hby d3_18) ?_
            show Steps p.tables e below (s₁.setTop (mkF m 19 #[.val (.int hi), .val (.int hc), .val (.int lo), .val (.int lc)] [(.int (1 : Int32))])) _
            refine XS.goto X0.here hx rfl (pc0 := 19) (pc' := 23) rfl (hb hby d3_19) (by decide) (by decide) ?_
            show Steps p.tables e below (s₁.setTop (mkF m 23 #[.val (.int hi), .val (.int hc), .val (.int lo), .val (.int lc)] [(.int (1 : Int32))])) _
            exact kr _ (by rw [own_bz_t (Or.inr ⟨q2, q3, q4⟩)])
          · refine XS.ifYes X0.here hx rfl (pc0 := 15) (pc' := 22) rfl (hb hby d3_15) rfl ((if0 _ _).trans (feq q4).2) (by decide) (by decide) ?_
            show Steps p.tables e below (s₁.setTop (mkF m 22 #[.val (.int hi), .val (.int hc), .val (.int lo), .val (.int lc)] [])) _
            refine XS.iconst X0.here hx rfl (hb hby d3_22) ?_
            show Steps p.tables e below (s₁.setTop (mkF m 23 #[.val (.int hi), .val (.int hc), .val (.int lo), .val (.int lc)] [(.int (0 : Int32))])) _
            exact kr _ (by rw [own_bz_f (fun q => q.elim q1 (fun r => q4 r.2.2))])
        · refine XS.ifYes X0.here hx rfl (pc0 := 11) (pc' := 22) rfl (hb hby d3_11) rfl ((if0 _ _).trans (feq q3).2) (by decide) (by decide) ?_
          show Steps p.tables e below (s₁.setTop (mkF m 22 #[.val (.int hi), .val (.int hc), .val (.int lo), .val (.int lc)] [])) _
          refine XS.iconst X0.here hx rfl (hb hby d3_22) ?_
          show Steps p.tables e below (s₁.setTop (mkF m 23 #[.val (.int hi), .val (.int hc), .val (.int lo), .val (.int lc)] [(.int (0 : Int32))])) _
          exact kr _ (by rw [own_bz_f (fun q => q.elim q1 (fun r => q3 r.2.1))])
      · refine XS.icmpYes X0.here hx rfl (pc0 := 7) (pc' := 22) rfl (hb hby d3_7) rfl (feq q2).2 (by decide) (by decide) ?_
        show Steps p.tables e below (s₁.setTop (mkF m 22 #[.val (.int hi), .val (.int hc), .val (.int lo), .val (.int lc)] [])) _
        refine XS.iconst X0.here hx rfl (hb hby d3_22) ?_
        show Steps p.tables e below (s₁.setTop (mkF m 23 #[.val (.int hi), .val (.int hc), .val (.int lo), .val (.int lc)] [(.int (0 : Int32))])) _
        exact kr _ (by rw [own_bz_f (fun q => q.elim q1 (fun r => q2 r.1))])
  · show Q_3 hi hc lo lc h0 n0 _ s₁.heap _
    rw [e0]
    exact ⟨congrArg (fun z => some (Value.int z)) (own_nar _), N0, rfl⟩
theorem d4_0 : decode prog_9_method_6_code 0 = .ok (.aload_n 0, 1) := by decide +kernel
theorem d4_1 : decode prog_9_method_6_code 1 = .ok (.getfield 16, 3) := by decide +kernel
theorem d4_4 : decode prog_9_method_6_code 4 = .ok (.aload_n 1, 1) := by decide +kernel
theorem d4_5 : decode prog_9_method_6_code 5 = .ok (.getfield 16, 3) := by decide +kernel
theorem d4_8 : decode prog_9_method_6_code 8 = .ok (.dcmp .g, 1) := by decide +kernel
theorem d4_9 : decode prog_9_method_6_code 9 = .ok (.ifCond .gt 7, 3) := by decide +kernel
theorem d4_12 : decode prog_9_method_6_code 12 = .ok (.aload_n 0, 1) := by decide +kernel
theorem d4_13 : decode prog_9_method_6_code 13 = .ok (.goto 4, 3) := by decide +kernel
theorem d4_16 : decode prog_9_method_6_code 16 = .ok (.aload_n 1, 1) := by decide +kernel
theorem d4_17 : decode prog_9_method_6_code 17 = .ok (.astore_n 2, 1) := by decide +kernel
theorem d4_18 : decode prog_9_method_6_code 18 = .ok (.aload_n 2, 1) := by decide +kernel
theorem d4_19 : decode prog_9_method_6_code 19 = .ok (.aload_n 0, 1) := by decide +kernel
theorem d4_20 : decode prog_9_method_6_code 20 = .ok (.if_acmp .ne 7, 3) := by decide +kernel
theorem d4_23 : decode prog_9_method_6_code 23 = .ok (.aload_n 1, 1) := by decide +kernel
theorem d4_24 : decode prog_9_method_6_code 24 = .ok (.goto 4, 3) := by decide +kernel
theorem d4_27 : decode prog_9_method_6_code 27 = .ok (.aload_n 0, 1) := by decide +kernel
theorem d4_28 : decode prog_9_method_6_code 28 = .ok (.astore_n 3, 1) := by decide +kernel
theorem d4_29 : decode prog_9_method_6_code 29 = .ok (.aload_n 3, 1) := by decide +kernel
theorem d4_30 : decode prog_9_method_6_code 30 = .ok (.getfield 16, 3) := by decide +kernel
theorem d4_33 : decode prog_9_method_6_code 33 = .ok (.aload_n 2, 1) := by decide +kernel
theorem d4_34 : decode prog_9_method_6_code 34 = .ok (.getfield 26, 3) := by decide +kernel
theorem d4_37 : decode prog_9_method_6_code 37 = .ok (.dcmp .g, 1) := by decide +kernel
theorem d4_38 : decode prog_9_method_6_code 38 = .ok (.ifCond .lt 29, 3) := by decide +kernel
theorem d4_41 : decode prog_9_method_6_code 41 = .ok (.aload_n 3, 1) := by decide +kernel
theorem d4_42 : decode prog_9_method_6_code 42 = .ok (.getfield 16, 3) := by decide +kernel
theorem d4_45 : decode prog_9_method_6_code 45 = .ok (.aload_n 2, 1) := by decide +kernel
theorem d4_46 : decode prog_9_method_6_code 46 = .ok (.getfield 26, 3) := by decide +kernel
theorem d4_49 : decode prog_9_method_6_code 49 = .ok (.dcmp .l, 1) := by decide +kernel
theorem d4_50 : decode prog_9_method_6_code 50 = .ok (.ifCond .ne 21, 3) := by decide +kernel
theorem d4_53 : decode prog_9_method_6_code 53 = .ok (.aload_n 2, 1) := by decide +kernel
theorem d4_54 : decode prog_9_method_6_code 54 = .ok (.getfield 29, 3) := by decide +kernel
theorem d4_57 : decode prog_9_method_6_code 57 = .ok (.ifCond .ne 10, 3) := by decide +kernel
theorem d4_60 : decode prog_9_method_6_code 60 = .ok (.aload_n 3, 1) := by decide +kernel
theorem d4_61 : decode prog_9_method_6_code 61 = .ok (.getfield 22, 3) := by decide +kernel
theorem d4_64 : decode prog_9_method_6_code 64 = .ok (.ifCond .eq 7, 3) := by decide +kernel
theorem d4_67 : decode prog_9_method_6_code 67 = .ok (.iconst 1, 1) := by decide +kernel
theorem d4_68 : decode prog_9_method_6_code 68 = .ok (.goto 4, 3) := by decide +kernel
theorem d4_71 : decode prog_9_method_6_code 71 = .ok (.iconst 0, 1) := by decide +kernel
theorem d4_72 : decode prog_9_method_6_code 72 = .ok (.ireturn, 1) := by decide +kernel
theorem pd_4 : parseMethodDescriptor "(Lcom/example/aerotome/aerotome/geometry/Interval;)Z" = some ⟨[.object "com/example/aerotome/aerotome/geometry/Interval"], some .boolean⟩ := by decide +kernel
theorem ef_4 (m : MethodId) (x0 : Addr) (x1 : Addr) : entryFrame m #[(.ref x0), (.ref x1)] 4 = mkF m 0 #[.val (.ref x0), .val (.ref x1), .unset, .unset] [] := by first | (simp [entryFrame, mkF, argsToLocals, Value.category]; done) | rfl
def Q_4 (k1 l1 m1 c1 k2 l2 m2 c2 : Int32) (h0 : Heap) (n0 : Nat) (v : Option Value) (h : Heap) (L : List Loc) : Prop := v = some (.int (if k2 < k1 then own_bz (own_jn k1 m2 c2 l1) else own_bz (own_jn k2 m1 c1 l2))) ∧ Fr n0 L ∧ h = h0
set_option maxRecDepth 65536 in
set_option maxHeartbeats 40000000 in
theorem rm_4 (l : Launch) (Z : State) (a0 : Array Value) (hw : ∀ d ∈ tables_1, d.before a0 Z = true) (ws : List Jvm.Cond) (a1 a2 : Addr) (k1 l1 m1 c1 k2 l2 m2 c2 : Int32) (h0 : Heap) (n0 : Nat) (Z0 : n0 ≤ h0.size) (F0 : Fld Z h0 a1 "com/example/aerotome/aerotome/geometry/Interval" "lo" "D" (.double (FP.i2d k1))) (F1 : Fld Z h0 a1 "com/example/aerotome/aerotome/geometry/Interval" "loClosed" "Z" (.int l1)) (F2 : Fld Z h0 a1 "com/example/aerotome/aerotome/geometry/Interval" "hi" "D" (.double (FP.i2d m1))) (F3 : Fld Z h0 a1 "com/example/aerotome/aerotome/geometry/Interval" "hiClosed" "Z" (.int c1)) (G0 : Fld Z h0 a2 "com/example/aerotome/aerotome/geometry/Interval" "lo" "D" (.double (FP.i2d k2))) (G1 : Fld Z h0 a2 "com/example/aerotome/aerotome/geometry/Interval" "loClosed" "Z" (.int l2)) (G2 : Fld Z h0 a2 "com/example/aerotome/aerotome/geometry/Interval" "hi" "D" (.double (FP.i2d m2))) (G3 : Fld Z h0 a2 "com/example/aerotome/aerotome/geometry/Interval" "hiClosed" "Z" (.int c2)) (ne : a1 ≠ a2) :
    MetFree l (⟨"com/example/aerotome/aerotome/geometry/Interval", "joins", "(Lcom/example/aerotome/aerotome/geometry/Interval;)Z"⟩ : MethodName) (head1 (Jvm.Cond.code (⟨"com/example/aerotome/aerotome/geometry/Interval", "joins", "(Lcom/example/aerotome/aerotome/geometry/Interval;)Z"⟩ : MethodName) prog_9_method_6_code 4 (some .boolean) :: ws) ({ frames := 0, cells := 0, slots := 0, locals := 0 } : Room)) (fun a U => a = #[(.ref a1), (.ref a2)] ∧ Z.Warmed39 U.vm ∧ U.heap = h0) (fun _ _ _ _ _ => True) (fun _ U o U' => ∃ v L, o = .returned v ∧ Q_4 k1 l1 m1 c1 k2 l2 m2 c2 h0 n0 v U'.heap L ∧ FrameEnd U o U' L 0 0) := by
  refine MetFree.of_bodySF (plainFor_of_name pn_1) hisR ?_
  intro p e s m args below meth c s₁ Bd hml0 hP hK
  obtain ⟨rfl, hZ, hh⟩ := hP
  have hx := Bd.exec
  have hby := Bd.bytes
  have hml : c.maxLocals = 4 := hml0
  have hown : s.vm.findClass "com/example/aerotome/aerotome/geometry/Interval" = some m.cls := findClass_of_methodNamed Bd.named
  have hnm := (name_of_methodNamed Bd.named Bd.method).1
  have X0 : Stand p l e ({ frames := 0, cells := 0, slots := 0, locals := 0 } : Room) s m #[(.ref a1), (.ref a2)] below meth c s₁ [] 0 0 := Stand.of_body Bd
  have e0 : s₁.heap = h0 := by rw [← hh, Bd.state]; rfl
  have N0 := Fr.nil n0
  have pre0 : ∀ t, Steps p.tables e below (s₁.setTop (mkF m 0 #[.val (.ref a1), .val (.ref a2), .unset, .unset] [])) t → Steps p.tables e below (s₁.setTop (entryFrame m #[(.ref a1), (.ref a2)] 4)) t := fun t k => castTop (ef_4 m (a1) (a2)) k
  obtain ⟨T1, X1, e1, st1⟩ := getF X0 hx hZ hown (host := "") (Or.inl (hw _ (List.mem_of_getElem? (i := 14) rfl))) Via.refl e0 F0 (g := (mkF m 1 #[.val (.ref a1), .val (.ref a2), .unset, .unset] [(.ref a1)])) rfl rfl (hb hby d4_1)
  obtain ⟨T2, X2, e2, st2⟩ := getF X1 hx hZ hown (host := "") (Or.inl (hw _ (List.mem_of_getElem? (i := 14) rfl))) Via.refl e1 G0 (g := (mkF m 5 #[.val (.ref a1), .val (.ref a2), .unset, .unset] [(.ref a2), (.double (FP.i2d k1))])) rfl rfl (hb hby d4_5)
  by_cases q0 : k2 < k1
  · obtain ⟨T3, X3, e3, st3⟩ := getF X2 hx hZ hown (host := "") (Or.inl (hw _ (List.mem_of_getElem? (i := 14) rfl))) Via.refl e2 F0 (g := (mkF m 30 #[.val (.ref a1), .val (.ref a2), .val (.ref a2), .val (.ref a1)] [(.ref a1)])) rfl rfl (hb hby d4_30)
    obtain ⟨T4, X4, e4, st4⟩ := getF X3 hx hZ hown (host := "") (Or.inl (hw _ (List.mem_of_getElem? (i := 18) rfl))) Via.refl e3 G2 (g := (mkF m 34 #[.val (.ref a1), .val (.ref a2), .val (.ref a2), .val (.ref a1)] [(.ref a2), (.double (FP.i2d k1))])) rfl rfl (hb hby d4_34)
    by_cases q1 : k1 < m2
    · obtain ⟨fs, hr, hrun, hended, hW, hsame⟩ := X4.leave (v := some (.int (1 : Int32))) (fun h => by rw [Bd.returns] at h; cases h)
      refine ⟨_, _, pre0 _ ?_, hrun, hended, _, _, rfl, ?_, ⟨_, rfl⟩, hW, hsame.mono (by decide) (by decide)⟩
      · show Steps p.tables e below (s₁.setTop (mkF m 0 #[.val (.ref a1), .val (.ref a2), .unset, .unset] [])) _
        refine XS.aloadN X0.here hx rfl (hb hby d4_0) rfl rfl ?_
        show Steps p.tables e below (s₁.setTop (mkF m 1 #[.val (.ref a1), .val (.ref a2), .unset, .unset] [(.ref a1)])) _
        refine st1 _ ?_
        show Steps p.tables e below (T1.setTop (mkF m 4 #[.val (.ref a1), .val (.ref a2), .unset, .unset] [(.double (FP.i2d k1))])) _
        refine XS.aloadN X1.here hx rfl (hb hby d4_4) rfl rfl ?_
        show Steps p.tables e below (T1.setTop (mkF m 5 #[.val (.ref a1), .val (.ref a2), .unset, .unset] [(.ref a2), (.double (FP.i2d k1))])) _
        refine st2 _ ?_
        show Steps p.tables e below (T2.setTop (mkF m 8 #[.val (.ref a1), .val (.ref a2), .unset, .unset] [(.double (FP.i2d k2)), (.double (FP.i2d k1))])) _
        refine XS.dcmpS X2.here hx rfl (hb hby d4_8) rfl rfl ?_
        show Steps p.tables e below (T2.setTop (mkF m 9 #[.val (.ref a1), .val (.ref a2), .unset, .unset] [(.int (cmpValue (FP.dcmp (FP.i2d k1) (FP.i2d k2)) .g))])) _
        refine XS.ifYes X2.here hx rfl (pc0 := 9) (pc' := 16) rfl (hb hby d4_9) rfl ((if0 _ _).trans (tlt ((own_dc k1 k2 .g).2.2.mpr q0)).2.2.1) (by decide) (by decide) ?_
        show Steps p.tables e below (T2.setTop (mkF m 16 #[.val (.ref a1), .val (.ref a2), .unset, .unset] [])) _
        refine XS.aloadN X2.here hx rfl (hb hby d4_16) rfl rfl ?_
        show Steps p.tables e below (T2.setTop (mkF m 17 #[.val (.ref a1), .val (.ref a2), .unset, .unset] [(.ref a2)])) _
        refine XS.astoreN X2.here hx rfl (hb hby d4_17) rfl rfl (l' := #[.val (.ref a1), .val (.ref a2), .val (.ref a2), .unset]) rfl ?_
        show Steps p.tables e below (T2.setTop (mkF m 18 #[.val (.ref a1), .val (.ref a2), .val (.ref a2), .unset] [])) _
        refine XS.aloadN X2.here hx rfl (hb hby d4_18) rfl rfl ?_
        show Steps p.tables e below (T2.setTop (mkF m 19 #[.val (.ref a1), .val (.ref a2), .val (.ref a2), .unset] [(.ref a2)])) _
        refine XS.aloadN X2.here hx rfl (hb hby d4_19) rfl rfl ?_
        show Steps p.tables e below (T2.setTop (mkF m 20 #[.val (.ref a1), .val (.ref a2), .val (.ref a2), .unset] [(.ref a1), (.ref a2)])) _
        refine XS.acmpYes X2.here hx rfl (pc0 := 20) (pc' := 27) rfl (hb hby d4_20) rfl (by simp [if_acmp.holds, ne.symm]) (by decide) (by decide) ?_
        show Steps p.tables e below (T2.setTop (mkF m 27 #[.val (.ref a1), .val (.ref a2), .val (.ref a2), .unset] [])) _
        refine XS.aloadN X2.here hx rfl (hb hby d4_27) rfl rfl ?_
        show Steps p.tables e below (T2.setTop (mkF m 28 #[.val (.ref a1), .val (.ref a2), .val (.ref a2), .unset] [(.ref a1)])) _
        refine XS.astoreN X2.here hx rfl (hb hby d4_28) rfl rfl (l' := #[.val (.ref a1), .val (.ref a2), .val (.ref a2), .val (.ref a1)]) rfl ?_
        show Steps p.tables e below (T2.setTop (mkF m 29 #[.val (.ref a1), .val (.ref a2), .val (.ref a2), .val (.ref a1)] [])) _
        refine XS.aloadN X2.here hx rfl (hb hby d4_29) rfl rfl ?_
        show Steps p.tables e below (T2.setTop (mkF m 30 #[.val (.ref a1), .val (.ref a2), .val (.ref a2), .val (.ref a1)] [(.ref a1)])) _
        refine st3 _ ?_
        show Steps p.tables e below (T3.setTop (mkF m 33 #[.val (.ref a1), .val (.ref a2), .val (.ref a2), .val (.ref a1)] [(.double (FP.i2d k1))])) _
        refine XS.aloadN X3.here hx rfl (hb hby d4_33) rfl rfl ?_
        show Steps p.tables e below (T3.setTop (mkF m 34 #[.val (.ref a1), .val (.ref a2), .val (.ref a2), .val (.ref a1)] [(.ref a2), (.double (FP.i2d k1))])) _
        refine st4 _ ?_
        show Steps p.tables e below (T4.setTop (mkF m 37 #[.val (.ref a1), .val (.ref a2), .val (.ref a2), .val (.ref a1)] [(.double (FP.i2d m2)), (.double (FP.i2d k1))])) _
        refine XS.dcmpS X4.here hx rfl (hb hby d4_37) rfl rfl ?_
        show Steps p.tables e below (T4.setTop (mkF m 38 #[.val (.ref a1), .val (.ref a2), .val (.ref a2), .val (.ref a1)] [(.int (cmpValue (FP.dcmp (FP.i2d k1) (FP.i2d m2)) .g))])) _
        refine XS.ifYes X4.here hx rfl (pc0 := 38) (pc' := 67) rfl (hb hby d4_38) rfl ((if0 _ _).trans (tlt ((own_dc k1 m2 .g).1.mpr q1)).1) (by decide) (by decide) ?_
        show Steps p.tables e below (T4.setTop (mkF m 67 #[.val (.ref a1), .val (.ref a2), .val (.ref a2), .val (.ref a1)] [])) _
        refine XS.iconst X4.here hx rfl (hb hby d4_67) ?_
        show Steps p.tables e below (T4.setTop (mkF m 68 #[.val (.ref a1), .val (.ref a2), .val (.ref a2), .val (.ref a1)] [(.int (1 : Int32))])) _
        refine XS.goto X4.here hx rfl (pc0 := 68) (pc' := 72) rfl (hb hby d4_68) (by decide) (by decide) ?_
        show Steps p.tables e below (T4.setTop (mkF m 72 #[.val (.ref a1), .val (.ref a2), .val (.ref a2), .val (.ref a1)] [(.int (1 : Int32))])) _
        exact retN X4 hx (t := .boolean) Bd.returns (by simp) (hb hby d4_72) hr
      · show Q_4 k1 l1 m1 c1 k2 l2 m2 c2 h0 n0 _ T4.heap _
        rw [e4]
        exact ⟨by rw [if_pos q0, own_bz_t (Or.inl q1)], N0, rfl⟩
    · obtain ⟨T5, X5, e5, st5⟩ := getF X4 hx hZ hown (host := "") (Or.inl (hw _ (List.mem_of_getElem? (i := 14) rfl))) Via.refl e4 F0 (g := (mkF m 42 #[.val (.ref a1), .val (.ref a2), .val (.ref a2), .val (.ref a1)] [(.ref a1)])) rfl rfl (hb hby d4_42)
      obtain ⟨T6, X6, e6, st6⟩ := getF X5 hx hZ hown (host := "") (Or.inl (hw _ (List.mem_of_getElem? (i := 18) rfl))) Via.refl e5 G2 (g := (mkF m 46 #[.val (.ref a1), .val (.ref a2), .val (.ref a2), .val (.ref a1)] [(.ref a2), (.double (FP.i2d k1))])) rfl rfl (hb hby d4_46)
      by_cases q2 : k1 = m2
      · obtain ⟨T7, X7, e7, st7⟩ := getF X6 hx hZ hown (host := "") (Or.inl (hw _ (List.mem_of_getElem? (i := 20) rfl))) Via.refl e6 G3 (g := (mkF m 54 #[.val (.ref a1), .val (.ref a2), .val (.ref a2), .val (.ref a1)] [(.ref a2)])) rfl rfl (hb hby d4_54)
        by_cases q3 : c2 = (0 : Int32)
        · obtain ⟨T8, X8, e8, st8⟩ := getF X7 hx hZ hown (host := "") (Or.inl (hw _ (List.mem_of_getElem? (i := 16) rfl))) Via.refl e7 F1 (g := (mkF m 61 #[.val (.ref a1), .val (.ref a2), .val (.ref a2), .val (.ref a1)] [(.ref a1)])) rfl rfl (hb hby d4_61)
          by_cases q4 : l1 = (0 : Int32)
          · obtain ⟨fs, hr, hrun, hended, hW, hsame⟩ := X8.leave (v := some (.int (0 : Int32))) (fun h => by rw [Bd.returns] at h; cases h)
            refine ⟨_, _, pre0 _ ?_, hrun, hended, _, _, rfl, ?_, ⟨_, rfl⟩, hW, hsame.mono (by decide) (by decide)⟩
            · show Steps p.tables e below (s₁.setTop (mkF m 0 #[.val (.ref a1), .val (.ref a2), .unset, .unset] [])) _
              refine XS.aloadN X0.here hx rfl (hb hby d4_0) rfl rfl ?_
              show Steps p.tables e below (s₁.setTop (mkF m 1 #[.val (.ref a1), .val (.ref a2), .unset, .unset] [(.ref a1)])) _
              refine st1 _ ?_
              show Steps p.tables e below (T1.setTop (mkF m 4 #[.val (.ref a1), .val (.ref a2), .unset, .unset] [(.double (FP.i2d k1))])) _
              refine XS.aloadN X1.here hx rfl (hb hby d4_4) rfl rfl ?_
              show Steps p.tables e below (T1.setTop (mkF m 5 #[.val (.ref a1), .val (.ref a2), .unset, .unset] [(.ref a2), (.double (FP.i2d k1))])) _
              refine st2 _ ?_
              show Steps p.tables e below (T2.setTop (mkF m 8 #[.val (.ref a1), .val (.ref a2), .unset, .unset] [(.double (FP.i2d k2)), (.double (FP.i2d k1))])) _
              refine XS.dcmpS X2.here hx rfl (hb hby d4_8) rfl rfl ?_
              show Steps p.tables e below (T2.setTop (mkF m 9 #[.val (.ref a1), .val (.ref a2), .unset, .unset] [(.int (cmpValue (FP.dcmp (FP.i2d k1) (FP.i2d k2)) .g))])) _
              refine XS.ifYes X2.here hx rfl (pc0 := 9) (pc' := 16) rfl (hb hby d4_9) rfl ((if0 _ _).trans (tlt ((own_dc k1 k2 .g).2.2.mpr q0)).2.2.1) (by decide) (by decide) ?_
              show Steps p.tables e below (T2.setTop (mkF m 16 #[.val (.ref a1), .val (.ref a2), .unset, .unset] [])) _
              refine XS.aloadN X2.here hx rfl (hb hby d4_16) rfl rfl ?_
              show Steps p.tables e below (T2.setTop (mkF m 17 #[.val (.ref a1), .val (.ref a2), .unset, .unset] [(.ref a2)])) _
              refine XS.astoreN X2.here hx rfl (hb hby d4_17) rfl rfl (l' := #[.val (.ref a1), .val (.ref a2), .val (.ref a2), .unset]) rfl ?_
              show Steps p.tables e below (T2.setTop (mkF m 18 #[.val (.ref a1), .val (.ref a2), .val (.ref a2), .unset] [])) _
              refine XS.aloadN X2.here hx rfl (hb hby d4_18) rfl rfl ?_
              show Steps p.tables e below (T2.setTop (mkF m 19 #[.val (.ref a1), .val (.ref a2), .val (.ref a2), .unset] [(.ref a2)])) _
              refine XS.aloadN X2.here hx rfl (hb hby d4_19) rfl rfl ?_
              show Steps p.tables e below (T2.setTop (mkF m 20 #[.val (.ref a1), .val (.ref a2), .val (.ref a2), .unset] [(.ref a1), (.ref a2)])) _
              refine XS.acmpYes X2.here hx rfl (pc0 := 20) (pc' := 27) rfl (hb hby d4_20) rfl (by simp [if_acmp.holds, ne.symm]) (by decide) (by decide) ?_
              show Steps p.tables e below (T2.setTop (mkF m 27 #[.val (.ref a1), .val (.ref a2), .val (.ref a2), .unset] [])) _
              refine XS.aloadN X2.here hx rfl (hb hby d4_27) rfl rfl ?_
              show Steps p.tables e below (T2.setTop (mkF m 28 #[.val (.ref a1), .val (.ref a2), .val (.ref a2), .unset] [(.ref a1)])) _
              refine XS.astoreN X2.here hx rfl (hb hby d4_28) rfl rfl (l' := #[.val (.ref a1), .val (.ref a2), .val (.ref a2), .val (.ref a1)]) rfl ?_
              show Steps p.tables e below (T2.setTop (mkF m 29 #[.val (.ref a1), .val (.ref a2), .val (.ref a2), .val (.ref a1)] [])) _
              refine XS.aloadN X2.here hx rfl (hb hby d4_29) rfl rfl ?_
              show Steps p.tables e below (T2.setTop (mkF m 30 #[.val (.ref a1), .val (.ref a2), .val (.ref a2), .val (.ref a1)] [(.ref a1)])) _
              refine st3 _ ?_
              show Steps p.tables e below (T3.setTop (mkF m 33 #[.val (.ref a1), .val (.ref a2), .val (.ref a2), .val (.ref a1)] [(.double (FP.i2d k1))])) _
              refine XS.aloadN X3.here hx rfl (hb hby d4_33) rfl rfl ?_
              show Steps p.tables e below (T3.setTop (mkF m 34 #[.val (.ref a1), .val (.ref a2), .val (.ref a2), .val (.ref a1)] [(.ref a2), (.double (FP.i2d k1))])) _
              refine st4 _ ?_
              show Steps p.tables e below (T4.setTop (mkF m 37 #[.val (.ref a1), .val (.ref a2), .val (.ref a2), .val (.ref a1)] [(.double (FP.i2d m2)), (.double (FP.i2d k1))])) _
              refine XS.dcmpS X4.here hx rfl (hb hby d4_37) rfl rfl ?_
              show Steps p.tables e below (T4.setTop (mkF m 38 #[.val (.ref a1), .val (.ref a2), .val (.ref a2), .val (.ref a1)] [(.int (cmpValue (FP.dcmp (FP.i2d k1) (FP.i2d m2)) .g))])) _
              refine XS.ifNo X4.here hx rfl (hb hby d4_38) rfl ((if0 _ _).trans (flt (fun q => q1 ((own_dc k1 m2 .g).1.mp q))).1) ?_
              show Steps p.tables e below (T4.setTop (mkF m 41 #[.val (.ref a1), .val (.ref a2), .val (.ref a2), .val (.ref a1)] [])) _
              refine XS.aloadN X4.here hx rfl (hb hby d4_41) rfl rfl ?_
              show Steps p.tables e below (T4.setTop (mkF m 42 #[.val (.ref a1), .val (.ref a2), .val (.ref a2), .val (.ref a1)] [(.ref a1)])) _
              refine st5 _ ?_
              show Steps p.tables e below (T5.setTop (mkF m 45 #[.val (.ref a1), .val (.ref a2), .val (.ref a2), .val (.ref a1)] [(.double (FP.i2d k1))])) _
              refine XS.aloadN X5.here hx rfl (hb hby d4_45) rfl rfl ?_
              show Steps p.tables e below (T5.setTop (mkF m 46 #[.val (.ref a1), .val (.ref a2), .val (.ref a2), .val (.ref a1)] [(.ref a2), (.double (FP.i2d k1))])) _
              refine st6 _ ?_
              show Steps p.tables e below (T6.setTop (mkF m 49 #[.val (.ref a1), .val (.ref a2), .val (.ref a2), .val (.ref a1)] [(.double (FP.i2d m2)), (.double (FP.i2d k1))])) _
              refine XS.dcmpS X6.here hx rfl (hb hby d4_49) rfl rfl ?_
              show Steps p.tables e below (T6.setTop (mkF m 50 #[.val (.ref a1), .val (.ref a2), .val (.ref a2), .val (.ref a1)] [(.int (cmpValue (FP.dcmp (FP.i2d k1) (FP.i2d m2)) .l))])) _
              refine XS.ifNo X6.here hx rfl (hb hby d4_50) rfl ((if0 _ _).trans (teq ((own_dc k1 m2 .l).2.1.mpr q2)).2) ?_
              show Steps p.tables e below (T6.setTop (mkF m 53 #[.val (.ref a1), .val (.ref a2), .val (.ref a2), .val (.ref a1)] [])) _
              refine XS.aloadN X6.here hx rfl (hb hby d4_53) rfl rfl ?_
              show Steps p.tables e below (T6.setTop (mkF m 54 #[.val (.ref a1), .val (.ref a2), .val (.ref a2), .val (.ref a1)] [(.ref a2)])) _
              refine st7 _ ?_
              show Steps p.tables e below (T7.setTop (mkF m 57 #[.val (.ref a1), .val (.ref a2), .val (.ref a2), .val (.ref a1)] [(.int c2)])) _
              refine XS.ifNo X7.here hx rfl (hb hby d4_57) rfl ((if0 _ _).trans (teq q3).2) ?_
              show Steps p.tables e below (T7.setTop (mkF m 60 #[.val (.ref a1), .val (.ref a2), .val (.ref a2), .val (.ref a1)] [])) _
              refine XS.aloadN X7.here hx rfl (hb hby d4_60) rfl rfl ?_
              show Steps p.tables e below (T7.setTop (mkF m 61 #[.val (.ref a1), .val (.ref a2), .val (.ref a2), .val (.ref a1)] [(.ref a1)])) _
              refine st8 _ ?_
              show Steps p.tables e below (T8.setTop (mkF m 64 #[.val (.ref a1), .val (.ref a2), .val (.ref a2), .val (.ref a1)] [(.int l1)])) _
              refine XS.ifYes X8.here hx rfl (pc0 := 64) (pc' := 71) rfl (hb hby d4_64) rfl ((if0 _ _).trans (teq q4).1) (by decide) (by decide) ?_
              show Steps p.tables e below (T8.setTop (mkF m 71 #[.val (.ref a1), .val (.ref a2), .val (.ref a2), .val (.ref a1)] [])) _
              refine XS.iconst X8.here hx rfl (hb hby d4_71) ?_
              show Steps p.tables e below (T8.setTop (mkF m 72 #[.val (.ref a1), .val (.ref a2), .val (.ref a2), .val (.ref a1)] [(.int (0 : Int32))])) _
              exact retN X8 hx (t := .boolean) Bd.returns (by simp) (hb hby d4_72) hr
            · show Q_4 k1 l1 m1 c1 k2 l2 m2 c2 h0 n0 _ T8.heap _
              rw [e8]
              exact ⟨by rw [if_pos q0, own_bz_f (fun q => q.elim q1 (fun r => r.2.elim (fun s => s q3) (fun s => s q4)))], N0, rfl⟩
          · obtain ⟨fs, hr, hrun, hended, hW, hsame⟩ := X8.leave (v := some (.int (1 : Int32))) (fun h => by rw [Bd.returns] at h; cases h)
            refine ⟨_, _, pre0 _ ?_, hrun, hended, _, _, rfl, ?_, ⟨_, rfl⟩, hW, hsame.mono (by decide) (by decide)⟩
            · show Steps p.tables e below (s₁.setTop (mkF m 0 #[.val (.ref a1), .val (.ref a2), .unset, .unset] [])) _
              refine XS.aloadN X0.here hx rfl (hb hby d4_0) rfl rfl ?_
              show Steps p.tables e below (s₁.setTop (mkF m 1 #[.val (.ref a1), .val (.ref a2), .unset, .unset] [(.ref a1)])) _
              refine st1 _ ?_
              show Steps p.tables e below (T1.setTop (mkF m 4 #[.val (.ref a1), .val (.ref a2), .unset, .unset] [(.double (FP.i2d k1))])) _
              refine XS.aloadN X1.here hx rfl (hb hby d4_4) rfl rfl ?_
              show Steps p.tables e below (T1.setTop (mkF m 5 #[.val (.ref a1), .val (.ref a2), .unset, .unset] [(.ref a2), (.double (FP.i2d k1))])) _
              refine st2 _ ?_
              show Steps p.tables e below (T2.setTop (mkF m 8 #[.val (.ref a1), .val (.ref a2), .unset, .unset] [(.double (FP.i2d k2)), (.double (FP.i2d k1))])) _
              refine XS.dcmpS X2.here hx rfl (hb hby d4_8) rfl rfl ?_
              show Steps p.tables e below (T2.setTop (mkF m 9 #[.val (.ref a1), .val (.ref a2), .unset, .unset] [(.int (cmpValue (FP.dcmp (FP.i2d k1) (FP.i2d k2)) .g))])) _
              refine XS.ifYes X2.here hx rfl (pc0 := 9) (pc' := 16) rfl (hb hby d4_9) rfl ((if0 _ _).trans (tlt ((own_dc k1 k2 .g).2.2.mpr q0)).2.2.1) (by decide) (by decide) ?_
              show Steps p.tables e below (T2.setTop (mkF m 16 #[.val (.ref a1), .val (.ref a2), .unset, .unset] [])) _
              refine XS.aloadN X2.here hx rfl (hb hby d4_16) rfl rfl ?_
              show Steps p.tables e below (T2.setTop (mkF m 17 #[.val (.ref a1), .val (.ref a2), .unset, .unset] [(.ref a2)])) _
              refine XS.astoreN X2.here hx rfl (hb hby d4_17) rfl rfl (l' := #[.val (.ref a1), .val (.ref a2), .val (.ref a2), .unset]) rfl ?_
              show Steps p.tables e below (T2.setTop (mkF m 18 #[.val (.ref a1), .val (.ref a2), .val (.ref a2), .unset] [])) _
              refine XS.aloadN X2.here hx rfl (hb hby d4_18) rfl rfl ?_
              show Steps p.tables e below (T2.setTop (mkF m 19 #[.val (.ref a1), .val (.ref a2), .val (.ref a2), .unset] [(.ref a2)])) _
              refine XS.aloadN X2.here hx rfl (hb hby d4_19) rfl rfl ?_
              show Steps p.tables e below (T2.setTop (mkF m 20 #[.val (.ref a1), .val (.ref a2), .val (.ref a2), .unset] [(.ref a1), (.ref a2)])) _
              refine XS.acmpYes X2.here hx rfl (pc0 := 20) (pc' := 27) rfl (hb hby d4_20) rfl (by simp [if_acmp.holds, ne.symm]) (by decide) (by decide) ?_
              show Steps p.tables e below (T2.setTop (mkF m 27 #[.val (.ref a1), .val (.ref a2), .val (.ref a2), .unset] [])) _
              refine XS.aloadN X2.here hx rfl (hb hby d4_27) rfl rfl ?_
              show Steps p.tables e below (T2.setTop (mkF m 28 #[.val (.ref a1), .val (.ref a2), .val (.ref a2), .unset] [(.ref a1)])) _
              refine XS.astoreN X2.here hx rfl (hb hby d4_28) rfl rfl (l' := #[.val (.ref a1), .val (.ref a2), .val (.ref a2), .val (.ref a1)]) rfl ?_
              show Steps p.tables e below (T2.setTop (mkF m 29 #[.val (.ref a1), .val (.ref a2), .val (.ref a2), .val (.ref a1)] [])) _
              refine XS.aloadN X2.here hx rfl (hb hby d4_29) rfl rfl ?_
              show Steps p.tables e below (T2.setTop (mkF m 30 #[.val (.ref a1), .val (.ref a2), .val (.ref a2), .val (.ref a1)] [(.ref a1)])) _
              refine st3 _ ?_
              show Steps p.tables e below (T3.setTop (mkF m 33 #[.val (.ref a1), .val (.ref a2), .val (.ref a2), .val (.ref a1)] [(.double (FP.i2d k1))])) _
              refine XS.aloadN X3.here hx rfl (hb hby d4_33) rfl rfl ?_
              show Steps p.tables e below (T3.setTop (mkF m 34 #[.val (.ref a1), .val (.ref a2), .val (.ref a2), .val (.ref a1)] [(.ref a2), (.double (FP.i2d k1))])) _
              refine st4 _ ?_
              show Steps p.tables e below (T4.setTop (mkF m 37 #[.val (.ref a1), .val (.ref a2), .val (.ref a2), .val (.ref a1)] [(.double (FP.i2d m2)), (.double (FP.i2d k1))])) _
              refine XS.dcmpS X4.here hx rfl (hb hby d4_37) rfl rfl ?_
              show Steps p.tables e below (T4.setTop (mkF m 38 #[.val (.ref a1), .val (.ref a2), .val (.ref a2), .val (.ref a1)] [(.int (cmpValue (FP.dcmp (FP.i2d k1) (FP.i2d m2)) .g))])) _
              refine XS.ifNo X4.here hx rfl (hb hby d4_38) rfl ((if0 _ _).trans (flt (fun q => q1 ((own_dc k1 m2 .g).1.mp q))).1) ?_
              show Steps p.tables e below (T4.setTop (mkF m 41 #[.val (.ref a1), .val (.ref a2), .val (.ref a2), .val (.ref a1)] [])) _
              refine XS.aloadN X4.here hx rfl (hb hby d4_41) rfl rfl ?_
              show Steps p.tables e below (T4.setTop (mkF m 42 #[.val (.ref a1), .val (.ref a2), .val (.ref a2), .val (.ref a1)] [(.ref a1)])) _
              refine st5 _ ?_
              show Steps p.tables e below (T5.setTop (mkF m 45 #[.val (.ref a1), .val (.ref a2), .val (.ref a2), .val (.ref a1)] [(.double (FP.i2d k1))])) _
              refine XS.aloadN X5.here hx rfl (hb hby d4_45) rfl rfl ?_
              show Steps p.tables e below (T5.setTop (mkF m 46 #[.val (.ref a1), .val (.ref a2), .val (.ref a2), .val (.ref a1)] [(.ref a2), (.double (FP.i2d k1))])) _
              refine st6 _ ?_
              show Steps p.tables e below (T6.setTop (mkF m 49 #[.val (.ref a1), .val (.ref a2), .val (.ref a2), .val (.ref a1)] [(.double (FP.i2d m2)), (.double (FP.i2d k1))])) _
              refine XS.dcmpS X6.here hx rfl (hb hby d4_49) rfl rfl ?_
              show Steps p.tables e below (T6.setTop (mkF m 50 #[.val (.ref a1), .val (.ref a2), .val (.ref a2), .val (.ref a1)] [(.int (cmpValue (FP.dcmp (FP.i2d k1) (FP.i2d m2)) .l))])) _
              refine XS.ifNo X6.here hx rfl (hb hby d4_50) rfl ((if0 _ _).trans (teq ((own_dc k1 m2 .l).2.1.mpr q2)).2) ?_
              show Steps p.tables e below (T6.setTop (mkF m 53 #[.val (.ref a1), .val (.ref a2), .val (.ref a2), .val (.ref a1)] [])) _
              refine XS.aloadN X6.here hx rfl (hb hby d4_53) rfl rfl ?_
              show Steps p.tables e below (T6.setTop (mkF m 54 #[.val (.ref a1), .val (.ref a2), .val (.ref a2), .val (.ref a1)] [(.ref a2)])) _
              refine st7 _ ?_
              show Steps p.tables e below (T7.setTop (mkF m 57 #[.val (.ref a1), .val (.ref a2), .val (.ref a2), .val (.ref a1)] [(.int c2)])) _
              refine XS.ifNo X7.here hx rfl (hb hby d4_57) rfl ((if0 _ _).trans (teq q3).2) ?_
              show Steps p.tables e below (T7.setTop (mkF m 60 #[.val (.ref a1), .val (.ref a2), .val (.ref a2), .val (.ref a1)] [])) _
              refine XS.aloadN X7.here hx rfl (hb hby d4_60) rfl rfl ?_
              show Steps p.tables e below (T7.setTop (mkF m 61 #[.val (.ref a1), .val (.ref a2), .val (.ref a2), .val (.ref a1)] [(.ref a1)])) _
              refine st8 _ ?_
              show Steps p.tables e below (T8.setTop (mkF m 64 #[.val (.ref a1), .val (.ref a2), .val (.ref a2), .val (.ref a1)] [(.int l1)])) _
              refine XS.ifNo X8.here hx rfl (hb hby d4_64) rfl ((if0 _ _).trans (feq q4).1) ?_
              show Steps p.tables e below (T8.setTop (mkF m 67 #[.val (.ref a1), .val (.ref a2), .val (.ref a2), .val (.ref a1)] [])) _
              refine XS.iconst X8.here hx rfl (hb hby d4_67) ?_
              show Steps p.tables e below (T8.setTop (mkF m 68 #[.val (.ref a1), .val (.ref a2), .val (.ref a2), .val (.ref a1)] [(.int (1 : Int32))])) _
              refine XS.goto X8.here hx rfl (pc0 := 68) (pc' := 72) rfl (hb hby d4_68) (by decide) (by decide) ?_
              show Steps p.tables e below (T8.setTop (mkF m 72 #[.val (.ref a1), .val (.ref a2), .val (.ref a2), .val (.ref a1)] [(.int (1 : Int32))])) _
              exact retN X8 hx (t := .boolean) Bd.returns (by simp) (hb hby d4_72) hr
            · show Q_4 k1 l1 m1 c1 k2 l2 m2 c2 h0 n0 _ T8.heap _
              rw [e8]
              exact ⟨by rw [if_pos q0, own_bz_t (Or.inr ⟨q2, Or.inr q4⟩)], N0, rfl⟩
        · obtain ⟨fs, hr, hrun, hended, hW, hsame⟩ := X7.leave (v := some (.int (1 : Int32))) (fun h => by rw [Bd.returns] at h; cases h)
          refine ⟨_, _, pre0 _ ?_, hrun, hended, _, _, rfl, ?_, ⟨_, rfl⟩, hW, hsame.mono (by decide) (by decide)⟩
          · show Steps p.tables e below (s₁.setTop (mkF m 0 #[.val (.ref a1), .val (.ref a2), .unset, .unset] [])) _
            refine XS.aloadN X0.here hx rfl (hb hby d4_0) rfl rfl ?_
            show Steps p.tables e below (s₁.setTop (mkF m 1 #[.val (.ref a1), .val (.ref a2), .unset, .unset] [(.ref a1)])) _
            refine st1 _ ?_
            show Steps p.tables e below (T1.setTop (mkF m 4 #[.val (.ref a1), .val (.ref a2), .unset, .unset] [(.double (FP.i2d k1))])) _
            refine XS.aloadN X1.here hx rfl (hb hby d4_4) rfl rfl ?_
            show Steps p.tables e below (T1.setTop (mkF m 5 #[.val (.ref a1), .val (.ref a2), .unset, .unset] [(.ref a2), (.double (FP.i2d k1))])) _
            refine st2 _ ?_
            show Steps p.tables e below (T2.setTop (mkF m 8 #[.val (.ref a1), .val (.ref a2), .unset, .unset] [(.double (FP.i2d k2)), (.double (FP.i2d k1))])) _
            refine XS.dcmpS X2.here hx rfl (hb hby d4_8) rfl rfl ?_
            show Steps p.tables e below (T2.setTop (mkF m 9 #[.val (.ref a1), .val (.ref a2), .unset, .unset] [(.int (cmpValue (FP.dcmp (FP.i2d k1) (FP.i2d k2)) .g))])) _
            refine XS.ifYes X2.here hx rfl (pc0 := 9) (pc' := 16) rfl (hb hby d4_9) rfl ((if0 _ _).trans (tlt ((own_dc k1 k2 .g).2.2.mpr q0)).2.2.1) (by decide) (by decide) ?_
            show Steps p.tables e below (T2.setTop (mkF m 16 #[.val (.ref a1), .val (.ref a2), .unset, .unset] [])) _
            refine XS.aloadN X2.here hx rfl (hb hby d4_16) rfl rfl ?_
            show Steps p.tables e below (T2.setTop (mkF m 17 #[.val (.ref a1), .val (.ref a2), .unset, .unset] [(.ref a2)])) _
            refine XS.astoreN X2.here hx rfl (hb hby d4_17) rfl rfl (l' := #[.val (.ref a1), .val (.ref a2), .val (.ref a2), .unset]) rfl ?_
            show Steps p.tables e below (T2.setTop (mkF m 18 #[.val (.ref a1), .val (.ref a2), .val (.ref a2), .unset] [])) _
            refine XS.aloadN X2.here hx rfl (hb hby d4_18) rfl rfl ?_
            show Steps p.tables e below (T2.setTop (mkF m 19 #[.val (.ref a1), .val (.ref a2), .val (.ref a2), .unset] [(.ref a2)])) _
            refine XS.aloadN X2.here hx rfl (hb hby d4_19) rfl rfl ?_
            show Steps p.tables e below (T2.setTop (mkF m 20 #[.val (.ref a1), .val (.ref a2), .val (.ref a2), .unset] [(.ref a1), (.ref a2)])) _
            refine XS.acmpYes X2.here hx rfl (pc0 := 20) (pc' := 27) rfl (hb hby d4_20) rfl (by simp [if_acmp.holds, ne.symm]) (by decide) (by decide) ?_
            show Steps p.tables e below (T2.setTop (mkF m 27 #[.val (.ref a1), .val (.ref a2), .val (.ref a2), .unset] [])) _
            refine XS.aloadN X2.here hx rfl (hb hby d4_27) rfl rfl ?_
            show Steps p.tables e below (T2.setTop (mkF m 28 #[.val (.ref a1), .val (.ref a2), .val (.ref a2), .unset] [(.ref a1)])) _
            refine XS.astoreN X2.here hx rfl (hb hby d4_28) rfl rfl (l' := #[.val (.ref a1), .val (.ref a2), .val (.ref a2), .val (.ref a1)]) rfl ?_
            show Steps p.tables e below (T2.setTop (mkF m 29 #[.val (.ref a1), .val (.ref a2), .val (.ref a2), .val (.ref a1)] [])) _
            refine XS.aloadN X2.here hx rfl (hb hby d4_29) rfl rfl ?_
            show Steps p.tables e below (T2.setTop (mkF m 30 #[.val (.ref a1), .val (.ref a2), .val (.ref a2), .val (.ref a1)] [(.ref a1)])) _
            refine st3 _ ?_
            show Steps p.tables e below (T3.setTop (mkF m 33 #[.val (.ref a1), .val (.ref a2), .val (.ref a2), .val (.ref a1)] [(.double (FP.i2d k1))])) _
            refine XS.aloadN X3.here hx rfl (hb hby d4_33) rfl rfl ?_
            show Steps p.tables e below (T3.setTop (mkF m 34 #[.val (.ref a1), .val (.ref a2), .val (.ref a2), .val (.ref a1)] [(.ref a2), (.double (FP.i2d k1))])) _
            refine st4 _ ?_
            show Steps p.tables e below (T4.setTop (mkF m 37 #[.val (.ref a1), .val (.ref a2), .val (.ref a2), .val (.ref a1)] [(.double (FP.i2d m2)), (.double (FP.i2d k1))])) _
            refine XS.dcmpS X4.here hx rfl (hb hby d4_37) rfl rfl ?_
            show Steps p.tables e below (T4.setTop (mkF m 38 #[.val (.ref a1), .val (.ref a2), .val (.ref a2), .val (.ref a1)] [(.int (cmpValue (FP.dcmp (FP.i2d k1) (FP.i2d m2)) .g))])) _
            refine XS.ifNo X4.here hx rfl (hb hby d4_38) rfl ((if0 _ _).trans (flt (fun q => q1 ((own_dc k1 m2 .g).1.mp q))).1) ?_
            show Steps p.tables e below (T4.setTop (mkF m 41 #[.val (.ref a1), .val (.ref a2), .val (.ref a2), .val (.ref a1)] [])) _
            refine XS.aloadN X4.here hx rfl (hb hby d4_41) rfl rfl ?_
            show Steps p.tables e below (T4.setTop (mkF m 42 #[.val (.ref a1), .val (.ref a2), .val (.ref a2), .val (.ref a1)] [(.ref a1)])) _
            refine st5 _ ?_
            show Steps p.tables e below (T5.setTop (mkF m 45 #[.val (.ref a1), .val (.ref a2), .val (.ref a2), .val (.ref a1)] [(.double (FP.i2d k1))])) _
            refine XS.aloadN X5.here hx rfl (hb hby d4_45) rfl rfl ?_
            show Steps p.tables e below (T5.setTop (mkF m 46 #[.val (.ref a1), .val (.ref a2), .val (.ref a2), .val (.ref a1)] [(.ref a2), (.double (FP.i2d k1))])) _
            refine st6 _ ?_
            show Steps p.tables e below (T6.setTop (mkF m 49 #[.val (.ref a1), .val (.ref a2), .val (.ref a2), .val (.ref a1)] [(.double (FP.i2d m2)), (.double (FP.i2d k1))])) _
            refine XS.dcmpS X6.here hx rfl (hb hby d4_49) rfl rfl ?_
            show Steps p.tables e below (T6.setTop (mkF m 50 #[.val (.ref a1), .val (.ref a2), .val (.ref a2), .val (.ref a1)] [(.int (cmpValue (FP.dcmp (FP.i2d k1) (FP.i2d m2)) .l))])) _
            refine XS.ifNo X6.here hx rfl (hb hby d4_50) rfl ((if0 _ _).trans (teq ((own_dc k1 m2 .l).2.1.mpr q2)).2) ?_
            show Steps p.tables e below (T6.setTop (mkF m 53 #[.val (.ref a1), .val (.ref a2), .val (.ref a2), .val (.ref a1)] [])) _
            refine XS.aloadN X6.here hx rfl (hb hby d4_53) rfl rfl ?_
            show Steps p.tables e below (T6.setTop (mkF m 54 #[.val (.ref a1), .val (.ref a2), .val (.ref a2), .val (.ref a1)] [(.ref a2)])) _
            refine st7 _ ?_
            show Steps p.tables e below (T7.setTop (mkF m 57 #[.val (.ref a1), .val (.ref a2), .val (.ref a2), .val (.ref a1)] [(.int c2)])) _
            refine XS.ifYes X7.here hx rfl (pc0 := 57) (pc' := 67) rfl (hb hby d4_57) rfl ((if0 _ _).trans (feq q3).2) (by decide) (by decide) ?_
            show Steps p.tables e below (T7.setTop (mkF m 67 #[.val (.ref a1), .val (.ref a2), .val (.ref a2), .val (.ref a1)] [])) _
            refine XS.iconst X7.here hx rfl (hb hby d4_67) ?_
            show Steps p.tables e below (T7.setTop (mkF m 68 #[.val (.ref a1), .val (.ref a2), .val (.ref a2), .val (.ref a1)] [(.int (1 : Int32))])) _
            refine XS.goto X7.here hx rfl (pc0 := 68) (pc' := 72) rfl (hb hby d4_68) (by decide) (by decide) ?_
            show Steps p.tables e below (T7.setTop (mkF m 72 #[.val (.ref a1), .val (.ref a2), .val (.ref a2), .val (.ref a1)] [(.int (1 : Int32))])) _
            exact retN X7 hx (t := .boolean) Bd.returns (by simp) (hb hby d4_72) hr
          · show Q_4 k1 l1 m1 c1 k2 l2 m2 c2 h0 n0 _ T7.heap _
            rw [e7]
            exact ⟨by rw [if_pos q0, own_bz_t (Or.inr ⟨q2, Or.inl q3⟩)], N0, rfl⟩
      · obtain ⟨fs, hr, hrun, hended, hW, hsame⟩ := X6.leave (v := some (.int (0 : Int32))) (fun h => by rw [Bd.returns] at h; cases h)
        refine ⟨_, _, pre0 _ ?_, hrun, hended, _, _, rfl, ?_, ⟨_, rfl⟩, hW, hsame.mono (by decide) (by decide)⟩
        · show Steps p.tables e below (s₁.setTop (mkF m 0 #[.val (.ref a1), .val (.ref a2), .unset, .unset] [])) _
          refine XS.aloadN X0.here hx rfl (hb hby d4_0) rfl rfl ?_
          show Steps p.tables e below (s₁.setTop (mkF m 1 #[.val (.ref a1), .val (.ref a2), .unset, .unset] [(.ref a1)])) _
          refine st1 _ ?_
          show Steps p.tables e below (T1.setTop (mkF m 4 #[.val (.ref a1), .val (.ref a2), .unset, .unset] [(.double (FP.i2d k1))])) _
          refine XS.aloadN X1.here hx rfl (hb hby d4_4) rfl rfl ?_
          show Steps p.tables e below (T1.setTop (mkF m 5 #[.val (.ref a1), .val (.ref a2), .unset, .unset] [(.ref a2), (.double (FP.i2d k1))])) _
          refine st2 _ ?_
          show Steps p.tables e below (T2.setTop (mkF m 8 #[.val (.ref a1), .val (.ref a2), .unset, .unset] [(.double (FP.i2d k2)), (.double (FP.i2d k1))])) _
          refine XS.dcmpS X2.here hx rfl (hb hby d4_8) rfl rfl ?_
          show Steps p.tables e below (T2.setTop (mkF m 9 #[.val (.ref a1), .val (.ref a2), .unset, .unset] [(.int (cmpValue (FP.dcmp (FP.i2d k1) (FP.i2d k2)) .g))])) _
          refine XS.ifYes X2.here hx rfl (pc0 := 9) (pc' := 16) rfl (hb hby d4_9) rfl ((if0 _ _).trans (tlt ((own_dc k1 k2 .g).2.2.mpr q0)).2.2.1) (by decide) (by decide) ?_
          show Steps p.tables e below (T2.setTop (mkF m 16 #[.val (.ref a1), .val (.ref a2), .unset, .unset] [])) _
          refine XS.aloadN X2.here hx rfl (hb hby d4_16) rfl rfl ?_
          show Steps p.tables e below (T2.setTop (mkF m 17 #[.val (.ref a1), .val (.ref a2), .unset, .unset] [(.ref a2)])) _
          refine XS.astoreN X2.here hx rfl (hb hby d4_17) rfl rfl (l' := #[.val (.ref a1), .val (.ref a2), .val (.ref a2), .unset]) rfl ?_
          show Steps p.tables e below (T2.setTop (mkF m 18 #[.val (.ref a1), .val (.ref a2), .val (.ref a2), .unset] [])) _
          refine XS.aloadN X2.here hx rfl (hb hby d4_18) rfl rfl ?_
          show Steps p.tables e below (T2.setTop (mkF m 19 #[.val (.ref a1), .val (.ref a2), .val (.ref a2), .unset] [(.ref a2)])) _
          refine XS.aloadN X2.here hx rfl (hb hby d4_19) rfl rfl ?_
          show Steps p.tables e below (T2.setTop (mkF m 20 #[.val (.ref a1), .val (.ref a2), .val (.ref a2), .unset] [(.ref a1), (.ref a2)])) _
          refine XS.acmpYes X2.here hx rfl (pc0 := 20) (pc' := 27) rfl (hb hby d4_20) rfl (by simp [if_acmp.holds, ne.symm]) (by decide) (by decide) ?_
          show Steps p.tables e below (T2.setTop (mkF m 27 #[.val (.ref a1), .val (.ref a2), .val (.ref a2), .unset] [])) _
          refine XS.aloadN X2.here hx rfl (hb hby d4_27) rfl rfl ?_
          show Steps p.tables e below (T2.setTop (mkF m 28 #[.val (.ref a1), .val (.ref a2), .val (.ref a2), .unset] [(.ref a1)])) _
          refine XS.astoreN X2.here hx rfl (hb hby d4_28) rfl rfl (l' := #[.val (.ref a1), .val (.ref a2), .val (.ref a2), .val (.ref a1)]) rfl ?_
          show Steps p.tables e below (T2.setTop (mkF m 29 #[.val (.ref a1), .val (.ref a2), .val (.ref a2), .val (.ref a1)] [])) _
          refine XS.aloadN X2.here hx rfl (hb hby d4_29) rfl rfl ?_
          show Steps p.tables e below (T2.setTop (mkF m 30 #[.val (.ref a1), .val (.ref a2), .val (.ref a2), .val (.ref a1)] [(.ref a1)])) _
          refine st3 _ ?_
          show Steps p.tables e below (T3.setTop (mkF m 33 #[.val (.ref a1), .val (.ref a2), .val (.ref a2), .val (.ref a1)] [(.double (FP.i2d k1))])) _
          refine XS.aloadN X3.here hx rfl (hb hby d4_33) rfl rfl ?_
          show Steps p.tables e below (T3.setTop (mkF m 34 #[.val (.ref a1), .val (.ref a2), .val (.ref a2), .val (.ref a1)] [(.ref a2), (.double (FP.i2d k1))])) _
          refine st4 _ ?_
          show Steps p.tables e below (T4.setTop (mkF m 37 #[.val (.ref a1), .val (.ref a2), .val (.ref a2), .val (.ref a1)] [(.double (FP.i2d m2)), (.double (FP.i2d k1))])) _
          refine XS.dcmpS X4.here hx rfl (hb hby d4_37) rfl rfl ?_
          show Steps p.tables e below (T4.setTop (mkF m 38 #[.val (.ref a1), .val (.ref a2), .val (.ref a2), .val (.ref a1)] [(.int (cmpValue (FP.dcmp (FP.i2d k1) (FP.i2d m2)) .g))])) _
          refine XS.ifNo X4.here hx rfl (hb hby d4_38) rfl ((if0 _ _).trans (flt (fun q => q1 ((own_dc k1 m2 .g).1.mp q))).1) ?_
          show Steps p.tables e below (T4.setTop (mkF m 41 #[.val (.ref a1), .val (.ref a2), .val (.ref a2), .val (.ref a1)] [])) _
          refine XS.aloadN X4.here hx rfl (hb hby d4_41) rfl rfl ?_
          show Steps p.tables e below (T4.setTop (mkF m 42 #[.val (.ref a1), .val (.ref a2), .val (.ref a2), .val (.ref a1)] [(.ref a1)])) _
          refine st5 _ ?_
          show Steps p.tables e below (T5.setTop (mkF m 45 #[.val (.ref a1), .val (.ref a2), .val (.ref a2), .val (.ref a1)] [(.double (FP.i2d k1))])) _
          refine XS.aloadN X5.here hx rfl (hb hby d4_45) rfl rfl ?_
          show Steps p.tables e below (T5.setTop (mkF m 46 #[.val (.ref a1), .val (.ref a2), .val (.ref a2), .val (.ref a1)] [(.ref a2), (.double (FP.i2d k1))])) _
          refine st6 _ ?_
          show Steps p.tables e below (T6.setTop (mkF m 49 #[.val (.ref a1), .val (.ref a2), .val (.ref a2), .val (.ref a1)] [(.double (FP.i2d m2)), (.double (FP.i2d k1))])) _
          refine XS.dcmpS X6.here hx rfl (hb hby d4_49) rfl rfl ?_
          show Steps p.tables e below (T6.setTop (mkF m 50 #[.val (.ref a1), .val (.ref a2), .val (.ref a2), .val (.ref a1)] [(.int (cmpValue (FP.dcmp (FP.i2d k1) (FP.i2d m2)) .l))])) _
          refine XS.ifYes X6.here hx rfl (pc0 := 50) (pc' := 71) rfl (hb hby d4_50) rfl ((if0 _ _).trans (feq (fun q => q2 ((own_dc k1 m2 .l).2.1.mp q))).2) (by decide) (by decide) ?_
          show Steps p.tables e below (T6.setTop (mkF m 71 #[.val (.ref a1), .val (.ref a2), .val (.ref a2), .val (.ref a1)] [])) _
          refine XS.iconst X6.here hx rfl (hb hby d4_71) ?_
          show Steps p.tables e below (T6.setTop (mkF m 72 #[.val (.ref a1), .val (.ref a2), .val (.ref a2), .val (.ref a1)] [(.int (0 : Int32))])) _
          exact retN X6 hx (t := .boolean) Bd.returns (by simp) (hb hby d4_72) hr
        · show Q_4 k1 l1 m1 c1 k2 l2 m2 c2 h0 n0 _ T6.heap _
          rw [e6]
          exact ⟨by rw [if_pos q0, own_bz_f (fun q => q.elim q1 (fun r => q2 r.1))], N0, rfl⟩
  · obtain ⟨T3, X3, e3, st3⟩ := getF X2 hx hZ hown (host := "") (Or.inl (hw _ (List.mem_of_getElem? (i := 14) rfl))) Via.refl e2 G0 (g := (mkF m 30 #[.val (.ref a1), .val (.ref a2), .val (.ref a1), .val (.ref a2)] [(.ref a2)])) rfl rfl (hb hby d4_30)
    obtain ⟨T4, X4, e4, st4⟩ := getF X3 hx hZ hown (host := "") (Or.inl (hw _ (List.mem_of_getElem? (i := 18) rfl))) Via.refl e3 F2 (g := (mkF m 34 #[.val (.ref a1), .val (.ref a2), .val (.ref a1), .val (.ref a2)] [(.ref a1), (.double (FP.i2d k2))])) rfl rfl (hb hby d4_34)
    by_cases q1 : k2 < m1
    · obtain ⟨fs, hr, hrun, hended, hW, hsame⟩ := X4.leave (v := some (.int (1 : Int32))) (fun h => by rw [Bd.returns] at h; cases h)
      refine ⟨_, _, pre0 _ ?_, hrun, hended, _, _, rfl, ?_, ⟨_, rfl⟩, hW, hsame.mono (by decide) (by decide)⟩
      · show Steps p.tables e below (s₁.setTop (mkF m 0 #[.val (.ref a1), .val (.ref a2), .unset, .unset] [])) _
        refine XS.aloadN X0.here hx rfl (hb hby d4_0) rfl rfl ?_
        show Steps p.tables e below (s₁.setTop (mkF m 1 #[.val (.ref a1), .val (.ref a2), .unset, .unset] [(.ref a1)])) _
        refine st1 _ ?_
        show Steps p.tables e below (T1.setTop (mkF m 4 #[.val (.ref a1), .val (.ref a2), .unset, .unset] [(.double (FP.i2d k1))])) _
        refine XS.aloadN X1.here hx rfl (hb hby d4_4) rfl rfl ?_
        show Steps p.tables e below (T1.setTop (mkF m 5 #[.val (.ref a1), .val (.ref a2), .unset, .unset] [(.ref a2), (.double (FP.i2d k1))])) _
        refine st2 _ ?_
        show Steps p.tables e below (T2.setTop (mkF m 8 #[.val (.ref a1), .val (.ref a2), .unset, .unset] [(.double (FP.i2d k2)), (.double (FP.i2d k1))])) _
        refine XS.dcmpS X2.here hx rfl (hb hby d4_8) rfl rfl ?_
        show Steps p.tables e below (T2.setTop (mkF m 9 #[.val (.ref a1), .val (.ref a2), .unset, .unset] [(.int (cmpValue (FP.dcmp (FP.i2d k1) (FP.i2d k2)) .g))])) _
        refine XS.ifNo X2.here hx rfl (hb hby d4_9) rfl ((if0 _ _).trans (flt (fun q => q0 ((own_dc k1 k2 .g).2.2.mp q))).2.2.1) ?_
        show Steps p.tables e below (T2.setTop (mkF m 12 #[.val (.ref a1), .val (.ref a2), .unset, .unset] [])) _
        refine XS.aloadN X2.here hx rfl (hb hby d4_12) rfl rfl ?_
        show Steps p.tables e below (T2.setTop (mkF m 13 #[.val (.ref a1), .val (.ref a2), .unset, .unset] [(.ref a1)])) _
        refine XS.goto X2.here hx rfl (pc0 := 13) (pc' := 17) rfl (hb hby d4_13) (by decide) (by decide) ?_
        show Steps p.tables e below (T2.setTop (mkF m 17 #[.val (.ref a1), .val (.ref a2), .unset, .unset] [(.ref a1)])) _
        refine XS.astoreN X2.here hx rfl (hb hby d4_17) rfl rfl (l' := #[.val (.ref a1), .val (.ref a2), .val (.ref a1), .unset]) rfl ?_
        show Steps p.tables e below (T2.setTop (mkF m 18 #[.val (.ref a1), .val (.ref a2), .val (.ref a1), .unset] [])) _
        refine XS.aloadN X2.here hx rfl (hb hby d4_18) rfl rfl ?_
        show Steps p.tables e below (T2.setTop (mkF m 19 #[.val (.ref a1), .val (.ref a2), .val (.ref a1), .unset] [(.ref a1)])) _
        refine XS.aloadN X2.here hx rfl (hb hby d4_19) rfl rfl ?_
        show Steps p.tables e below (T2.setTop (mkF m 20 #[.val (.ref a1), .val (.ref a2), .val (.ref a1), .unset] [(.ref a1), (.ref a1)])) _
        refine XS.acmpNo X2.here hx rfl (hb hby d4_20) rfl (by simp [if_acmp.holds]) ?_
        show Steps p.tables e below (T2.setTop (mkF m 23 #[.val (.ref a1), .val (.ref a2), .val (.ref a1), .unset] [])) _
        refine XS.aloadN X2.here hx rfl (hb hby d4_23) rfl rfl ?_
        show Steps p.tables e below (T2.setTop (mkF m 24 #[.val (.ref a1), .val (.ref a2), .val (.ref a1), .unset] [(.ref a2)])) _
        refine XS.goto X2.here hx rfl (pc0 := 24) (pc' := 28) rfl (hb hby d4_24) (by decide) (by decide) ?_
        show Steps p.tables e below (T2.setTop (mkF m 28 #[.val (.ref a1), .val (.ref a2), .val (.ref a1), .unset] [(.ref a2)])) _
        refine XS.astoreN X2.here hx rfl (hb hby d4_28) rfl rfl (l' := #[.val (.ref a1), .val (.ref a2), .val (.ref a1), .val (.ref a2)]) rfl ?_
        show Steps p.tables e below (T2.setTop (mkF m 29 #[.val (.ref a1), .val (.ref a2), .val (.ref a1), .val (.ref a2)] [])) _
        refine XS.aloadN X2.here hx rfl (hb hby d4_29) rfl rfl ?_
        show Steps p.tables e below (T2.setTop (mkF m 30 #[.val (.ref a1), .val (.ref a2), .val (.ref a1), .val (.ref a2)] [(.ref a2)])) _
        refine st3 _ ?_
        show Steps p.tables e below (T3.setTop (mkF m 33 #[.val (.ref a1), .val (.ref a2), .val (.ref a1), .val (.ref a2)] [(.double (FP.i2d k2))])) _
        refine XS.aloadN X3.here hx rfl (hb hby d4_33) rfl rfl ?_
        show Steps p.tables e below (T3.setTop (mkF m 34 #[.val (.ref a1), .val (.ref a2), .val (.ref a1), .val (.ref a2)] [(.ref a1), (.double (FP.i2d k2))])) _
        refine st4 _ ?_
        show Steps p.tables e below (T4.setTop (mkF m 37 #[.val (.ref a1), .val (.ref a2), .val (.ref a1), .val (.ref a2)] [(.double (FP.i2d m1)), (.double (FP.i2d k2))])) _
        refine XS.dcmpS X4.here hx rfl (hb hby d4_37) rfl rfl ?_
        show Steps p.tables e below (T4.setTop (mkF m 38 #[.val (.ref a1), .val (.ref a2), .val (.ref a1), .val (.ref a2)] [(.int (cmpValue (FP.dcmp (FP.i2d k2) (FP.i2d m1)) .g))])) _
        refine XS.ifYes X4.here hx rfl (pc0 := 38) (pc' := 67) rfl (hb hby d4_38) rfl ((if0 _ _).trans (tlt ((own_dc k2 m1 .g).1.mpr q1)).1) (by decide) (by decide) ?_
        show Steps p.tables e below (T4.setTop (mkF m 67 #[.val (.ref a1), .val (.ref a2), .val (.ref a1), .val (.ref a2)] [])) _
        refine XS.iconst X4.here hx rfl (hb hby d4_67) ?_
        show Steps p.tables e below (T4.setTop (mkF m 68 #[.val (.ref a1), .val (.ref a2), .val (.ref a1), .val (.ref a2)] [(.int (1 : Int32))])) _
        refine XS.goto X4.here hx rfl (pc0 := 68) (pc' := 72) rfl (hb hby d4_68) (by decide) (by decide) ?_
        show Steps p.tables e below (T4.setTop (mkF m 72 #[.val (.ref a1), .val (.ref a2), .val (.ref a1), .val (.ref a2)] [(.int (1 : Int32))])) _
        exact retN X4 hx (t := .boolean) Bd.returns (by simp) (hb hby d4_72) hr
      · show Q_4 k1 l1 m1 c1 k2 l2 m2 c2 h0 n0 _ T4.heap _
        rw [e4]
        exact ⟨by rw [if_neg q0, own_bz_t (Or.inl q1)], N0, rfl⟩
    · obtain ⟨T5, X5, e5, st5⟩ := getF X4 hx hZ hown (host := "") (Or.inl (hw _ (List.mem_of_getElem? (i := 14) rfl))) Via.refl e4 G0 (g := (mkF m 42 #[.val (.ref a1), .val (.ref a2), .val (.ref a1), .val (.ref a2)] [(.ref a2)])) rfl rfl (hb hby d4_42)
      obtain ⟨T6, X6, e6, st6⟩ := getF X5 hx hZ hown (host := "") (Or.inl (hw _ (List.mem_of_getElem? (i := 18) rfl))) Via.refl e5 F2 (g := (mkF m 46 #[.val (.ref a1), .val (.ref a2), .val (.ref a1), .val (.ref a2)] [(.ref a1), (.double (FP.i2d k2))])) rfl rfl (hb hby d4_46)
      by_cases q2 : k2 = m1
      · obtain ⟨T7, X7, e7, st7⟩ := getF X6 hx hZ hown (host := "") (Or.inl (hw _ (List.mem_of_getElem? (i := 20) rfl))) Via.refl e6 F3 (g := (mkF m 54 #[.val (.ref a1), .val (.ref a2), .val (.ref a1), .val (.ref a2)] [(.ref a1)])) rfl rfl (hb hby d4_54)
        by_cases q3 : c1 = (0 : Int32)
        · obtain ⟨T8, X8, e8, st8⟩ := getF X7 hx hZ hown (host := "") (Or.inl (hw _ (List.mem_of_getElem? (i := 16) rfl))) Via.refl e7 G1 (g := (mkF m 61 #[.val (.ref a1), .val (.ref a2), .val (.ref a1), .val (.ref a2)] [(.ref a2)])) rfl rfl (hb hby d4_61)
          by_cases q4 : l2 = (0 : Int32)
          · obtain ⟨fs, hr, hrun, hended, hW, hsame⟩ := X8.leave (v := some (.int (0 : Int32))) (fun h => by rw [Bd.returns] at h; cases h)
            refine ⟨_, _, pre0 _ ?_, hrun, hended, _, _, rfl, ?_, ⟨_, rfl⟩, hW, hsame.mono (by decide) (by decide)⟩
            · show Steps p.tables e below (s₁.setTop (mkF m 0 #[.val (.ref a1), .val (.ref a2), .unset, .unset] [])) _
              refine XS.aloadN X0.here hx rfl (hb hby d4_0) rfl rfl ?_
              show Steps p.tables e below (s₁.setTop (mkF m 1 #[.val (.ref a1), .val (.ref a2), .unset, .unset] [(.ref a1)])) _
              refine st1 _ ?_
              show Steps p.tables e below (T1.setTop (mkF m 4 #[.val (.ref a1), .val (.ref a2), .unset, .unset] [(.double (FP.i2d k1))])) _
              refine XS.aloadN X1.here hx rfl (hb hby d4_4) rfl rfl ?_
              show Steps p.tables e below (T1.setTop (mkF m 5 #[.val (.ref a1), .val (.ref a2), .unset, .unset] [(.ref a2), (.double (FP.i2d k1))])) _
              refine st2 _ ?_
              show Steps p.tables e below (T2.setTop (mkF m 8 #[.val (.ref a1), .val (.ref a2), .unset, .unset] [(.double (FP.i2d k2)), (.double (FP.i2d k1))])) _
              refine XS.dcmpS X2.here hx rfl (hb hby d4_8) rfl rfl ?_
              show Steps p.tables e below (T2.setTop (mkF m 9 #[.val (.ref a1), .val (.ref a2), .unset, .unset] [(.int (cmpValue (FP.dcmp (FP.i2d k1) (FP.i2d k2)) .g))])) _
              refine XS.ifNo X2.here hx rfl (hb hby d4_9) rfl ((if0 _ _).trans (flt (fun q => q0 ((own_dc k1 k2 .g).2.2.mp q))).2.2.1) ?_
              show Steps p.tables e below (T2.setTop (mkF m 12 #[.val (.ref a1), .val (.ref a2), .unset, .unset] [])) _
              refine XS.aloadN X2.here hx rfl (hb hby d4_12) rfl rfl ?_
              show Steps p.tables e below (T2.setTop (mkF m 13 #[.val (.ref a1), .val (.ref a2), .unset, .unset] [(.ref a1)])) _
              refine XS.goto X2.here hx rfl (pc0 := 13) (pc' := 17) rfl (hb hby d4_13) (by decide) (by decide) ?_
              show Steps p.tables e below (T2.setTop (mkF m 17 #[.val (.ref a1), .val (.ref a2), .unset, .unset] [(.ref a1)])) _
              refine XS.astoreN X2.here hx rfl (hb hby d4_17) rfl rfl (l' := #[.val (.ref a1), .val (.ref a2), .val (.ref a1), .unset]) rfl ?_
              show Steps p.tables e below (T2.setTop (mkF m 18 #[.val (.ref a1), .val (.ref a2), .val (.ref a1), .unset] [])) _
              refine XS.aloadN X2.here hx rfl (hb hby d4_18) rfl rfl ?_
              show Steps p.tables e below (T2.setTop (mkF m 19 #[.val (.ref a1), .val (.ref a2), .val (.ref a1), .unset] [(.ref a1)])) _
              refine XS.aloadN X2.here hx rfl (hb hby d4_19) rfl rfl ?_
              show Steps p.tables e below (T2.setTop (mkF m 20 #[.val (.ref a1), .val (.ref a2), .val (.ref a1), .unset] [(.ref a1), (.ref a1)])) _
              refine XS.acmpNo X2.here hx rfl (hb hby d4_20) rfl (by simp [if_acmp.holds]) ?_
              show Steps p.tables e below (T2.setTop (mkF m 23 #[.val (.ref a1), .val (.ref a2), .val (.ref a1), .unset] [])) _
              refine XS.aloadN X2.here hx rfl (hb hby d4_23) rfl rfl ?_
              show Steps p.tables e below (T2.setTop (mkF m 24 #[.val (.ref a1), .val (.ref a2), .val (.ref a1), .unset] [(.ref a2)])) _
              refine XS.goto X2.here hx rfl (pc0 := 24) (pc' := 28) rfl (hb hby d4_24) (by decide) (by decide) ?_
              show Steps p.tables e below (T2.setTop (mkF m 28 #[.val (.ref a1), .val (.ref a2), .val (.ref a1), .unset] [(.ref a2)])) _
              refine XS.astoreN X2.here hx rfl (hb hby d4_28) rfl rfl (l' := #[.val (.ref a1), .val (.ref a2), .val (.ref a1), .val (.ref a2)]) rfl ?_
              show Steps p.tables e below (T2.setTop (mkF m 29 #[.val (.ref a1), .val (.ref a2), .val (.ref a1), .val (.ref a2)] [])) _
              refine XS.aloadN X2.here hx rfl (hb hby d4_29) rfl rfl ?_
              show Steps p.tables e below (T2.setTop (mkF m 30 #[.val (.ref a1), .val (.ref a2), .val (.ref a1), .val (.ref a2)] [(.ref a2)])) _
              refine st3 _ ?_
              show Steps p.tables e below (T3.setTop (mkF m 33 #[.val (.ref a1), .val (.ref a2), .val (.ref a1), .val (.ref a2)] [(.double (FP.i2d k2))])) _
              refine XS.aloadN X3.here hx rfl (hb hby d4_33) rfl rfl ?_
              show Steps p.tables e below (T3.setTop (mkF m 34 #[.val (.ref a1), .val (.ref a2), .val (.ref a1), .val (.ref a2)] [(.ref a1), (.double (FP.i2d k2))])) _
              refine st4 _ ?_
              show Steps p.tables e below (T4.setTop (mkF m 37 #[.val (.ref a1), .val (.ref a2), .val (.ref a1), .val (.ref a2)] [(.double (FP.i2d m1)), (.double (FP.i2d k2))])) _
              refine XS.dcmpS X4.here hx rfl (hb hby d4_37) rfl rfl ?_
              show Steps p.tables e below (T4.setTop (mkF m 38 #[.val (.ref a1), .val (.ref a2), .val (.ref a1), .val (.ref a2)] [(.int (cmpValue (FP.dcmp (FP.i2d k2) (FP.i2d m1)) .g))])) _
              refine XS.ifNo X4.here hx rfl (hb hby d4_38) rfl ((if0 _ _).trans (flt (fun q => q1 ((own_dc k2 m1 .g).1.mp q))).1) ?_
              show Steps p.tables e below (T4.setTop (mkF m 41 #[.val (.ref a1), .val (.ref a2), .val (.ref a1), .val (.ref a2)] [])) _
              refine XS.aloadN X4.here hx rfl (hb hby d4_41) rfl rfl ?_
              show Steps p.tables e below (T4.setTop (mkF m 42 #[.val (.ref a1), .val (.ref a2), .val (.ref a1), .val (.ref a2)] [(.ref a2)])) _
              refine st5 _ ?_
              show Steps p.tables e below (T5.setTop (mkF m 45 #[.val (.ref a1), .val (.ref a2), .val (.ref a1), .val (.ref a2)] [(.double (FP.i2d k2))])) _
              refine XS.aloadN X5.here hx rfl (hb hby d4_45) rfl rfl ?_
              show Steps p.tables e below (T5.setTop (mkF m 46 #[.val (.ref a1), .val (.ref a2), .val (.ref a1), .val (.ref a2)] [(.ref a1), (.double (FP.i2d k2))])) _
              refine st6 _ ?_
              show Steps p.tables e below (T6.setTop (mkF m 49 #[.val (.ref a1), .val (.ref a2), .val (.ref a1), .val (.ref a2)] [(.double (FP.i2d m1)), (.double (FP.i2d k2))])) _
              refine XS.dcmpS X6.here hx rfl (hb hby d4_49) rfl rfl ?_
              show Steps p.tables e below (T6.setTop (mkF m 50 #[.val (.ref a1), .val (.ref a2), .val (.ref a1), .val (.ref a2)] [(.int (cmpValue (FP.dcmp (FP.i2d k2) (FP.i2d m1)) .l))])) _
              refine XS.ifNo X6.here hx rfl (hb hby d4_50) rfl ((if0 _ _).trans (teq ((own_dc k2 m1 .l).2.1.mpr q2)).2) ?_
              show Steps p.tables e below (T6.setTop (mkF m 53 #[.val (.ref a1), .val (.ref a2), .val (.ref a1), .val (.ref a2)] [])) _
              refine XS.aloadN X6.here hx rfl (hb hby d4_53) rfl rfl ?_
              show Steps p.tables e below (T6.setTop (mkF m 54 #[.val (.ref a1), .val (.ref a2), .val (.ref a1), .val (.ref a2)] [(.ref a1)])) _
              refine st7 _ ?_
              show Steps p.tables e below (T7.setTop (mkF m 57 #[.val (.ref a1), .val (.ref a2), .val (.ref a1), .val (.ref a2)] [(.int c1)])) _
              refine XS.ifNo X7.here hx rfl (hb hby d4_57) rfl ((if0 _ _).trans (teq q3).2) ?_
              show Steps p.tables e below (T7.setTop (mkF m 60 #[.val (.ref a1), .val (.ref a2), .val (.ref a1), .val (.ref a2)] [])) _
              refine XS.aloadN X7.here hx rfl (hb hby d4_60) rfl rfl ?_
              show Steps p.tables e below (T7.setTop (mkF m 61 #[.val (.ref a1), .val (.ref a2), .val (.ref a1), .val (.ref a2)] [(.ref a2)])) _
              refine st8 _ ?_
              show Steps p.tables e below (T8.setTop (mkF m 64 #[.val (.ref a1), .val (.ref a2), .val (.ref a1), .val (.ref a2)] [(.int l2)])) _
              refine XS.ifYes X8.here hx rfl (pc0 := 64) (pc' := 71) rfl (hb hby d4_64) rfl ((if0 _ _).trans (teq q4).1) (by decide) (by decide) ?_
              show Steps p.tables e below (T8.setTop (mkF m 71 #[.val (.ref a1), .val (.ref a2), .val (.ref a1), .val (.ref a2)] [])) _
              refine XS.iconst X8.here hx rfl (hb hby d4_71) ?_
              show Steps p.tables e below (T8.setTop (mkF m 72 #[.val (.ref a1), .val (.ref a2), .val (.ref a1), .val (.ref a2)] [(.int (0 : Int32))])) _
              exact retN X8 hx (t := .boolean) Bd.returns (by simp) (hb hby d4_72) hr
            · show Q_4 k1 l1 m1 c1 k2 l2 m2 c2 h0 n0 _ T8.heap _
              rw [e8]
              exact ⟨by rw [if_neg q0, own_bz_f (fun q => q.elim q1 (fun r => r.2.elim (fun s => s q3) (fun s => s q4)))], N0, rfl⟩
          · obtain ⟨fs, hr, hrun, hended, hW, hsame⟩ := X8.leave (v := some (.int (1 : Int32))) (fun h => by rw [Bd.returns] at h; cases h)
            refine ⟨_, _, pre0 _ ?_, hrun, hended, _, _, rfl, ?_, ⟨_, rfl⟩, hW, hsame.mono (by decide) (by decide)⟩
            · show Steps p.tables e below (s₁.setTop (mkF m 0 #[.val (.ref a1), .val (.ref a2), .unset, .unset] [])) _
              refine XS.aloadN X0.here hx rfl (hb hby d4_0) rfl rfl ?_
              show Steps p.tables e below (s₁.setTop (mkF m 1 #[.val (.ref a1), .val (.ref a2), .unset, .unset] [(.ref a1)])) _
              refine st1 _ ?_
              show Steps p.tables e below (T1.setTop (mkF m 4 #[.val (.ref a1), .val (.ref a2), .unset, .unset] [(.double (FP.i2d k1))])) _
              refine XS.aloadN X1.here hx rfl (hb hby d4_4) rfl rfl ?_
              show Steps p.tables e below (T1.setTop (mkF m 5 #[.val (.ref a1), .val (.ref a2), .unset, .unset] [(.ref a2), (.double (FP.i2d k1))])) _
              refine st2 _ ?_
              show Steps p.tables e below (T2.setTop (mkF m 8 #[.val (.ref a1), .val (.ref a2), .unset, .unset] [(.double (FP.i2d k2)), (.double (FP.i2d k1))])) _
              refine XS.dcmpS X2.here hx rfl (hb hby d4_8) rfl rfl ?_
              show Steps p.tables e below (T2.setTop (mkF m 9 #[.val (.ref a1), .val (.ref a2), .unset, .unset] [(.int (cmpValue (FP.dcmp (FP.i2d k1) (FP.i2d k2)) .g))])) _
              refine XS.ifNo X2.here hx rfl (hb hby d4_9) rfl ((if0 _ _).trans (flt (fun q => q0 ((own_dc k1 k2 .g).2.2.mp q))).2.2.1) ?_
              show Steps p.tables e below (T2.setTop (mkF m 12 #[.val (.ref a1), .val (.ref a2), .unset, .unset] [])) _
              refine XS.aloadN X2.here hx rfl (hb hby d4_12) rfl rfl ?_
              show Steps p.tables e below (T2.setTop (mkF m 13 #[.val (.ref a1), .val (.ref a2), .unset, .unset] [(.ref a1)])) _
              refine XS.goto X2.here hx rfl (pc0 := 13) (pc' := 17) rfl (hb hby d4_13) (by decide) (by decide) ?_
              show Steps p.tables e below (T2.setTop (mkF m 17 #[.val (.ref a1), .val (.ref a2), .unset, .unset] [(.ref a1)])) _
              refine XS.astoreN X2.here hx rfl (hb hby d4_17) rfl rfl (l' := #[.val (.ref a1), .val (.ref a2), .val (.ref a1), .unset]) rfl ?_
              show Steps p.tables e below (T2.setTop (mkF m 18 #[.val (.ref a1), .val (.ref a2), .val (.ref a1), .unset] [])) _
              refine XS.aloadN X2.here hx rfl (hb hby d4_18) rfl rfl ?_
              show Steps p.tables e below (T2.setTop (mkF m 19 #[.val (.ref a1), .val (.ref a2), .val (.ref a1), .unset] [(.ref a1)])) _
              refine XS.aloadN X2.here hx rfl (hb hby d4_19) rfl rfl ?_
              show Steps p.tables e below (T2.setTop (mkF m 20 #[.val (.ref a1), .val (.ref a2), .val (.ref a1), .unset] [(.ref a1), (.ref a1)])) _
              refine XS.acmpNo X2.here hx rfl (hb hby d4_20) rfl (by simp [if_acmp.holds]) ?_
              show Steps p.tables e below (T2.setTop (mkF m 23 #[.val (.ref a1), .val (.ref a2), .val (.ref a1), .unset] [])) _
              refine XS.aloadN X2.here hx rfl (hb hby d4_23) rfl rfl ?_
              show Steps p.tables e below (T2.setTop (mkF m 24 #[.val (.ref a1), .val (.ref a2), .val (.ref a1), .unset] [(.ref a2)])) _
              refine XS.goto X2.here hx rfl (pc0 := 24) (pc' := 28) rfl (hb hby d4_24) (by decide) (by decide) ?_
              show Steps p.tables e below (T2.setTop (mkF m 28 #[.val (.ref a1), .val (.ref a2), .val (.ref a1), .unset] [(.ref a2)])) _
              refine XS.astoreN X2.here hx rfl (hb hby d4_28) rfl rfl (l' := #[.val (.ref a1), .val (.ref a2), .val (.ref a1), .val (.ref a2)]) rfl ?_
              show Steps p.tables e below (T2.setTop (mkF m 29 #[.val (.ref a1), .val (.ref a2), .val (.ref a1), .val (.ref a2)] [])) _
              refine XS.aloadN X2.here hx rfl (hb hby d4_29) rfl rfl ?_
              show Steps p.tables e below (T2.setTop (mkF m 30 #[.val (.ref a1), .val (.ref a2), .val (.ref a1), .val (.ref a2)] [(.ref a2)])) _
              refine st3 _ ?_
              show Steps p.tables e below (T3.setTop (mkF m 33 #[.val (.ref a1), .val (.ref a2), .val (.ref a1), .val (.ref a2)] [(.double (FP.i2d k2))])) _
              refine XS.aloadN X3.here hx rfl (hb hby d4_33) rfl rfl ?_
              show Steps p.tables e below (T3.setTop (mkF m 34 #[.val (.ref a1), .val (.ref a2), .val (.ref a1), .val (.ref a2)] [(.ref a1), (.double (FP.i2d k2))])) _
              refine st4 _ ?_
              show Steps p.tables e below (T4.setTop (mkF m 37 #[.val (.ref a1), .val (.ref a2), .val (.ref a1), .val (.ref a2)] [(.double (FP.i2d m1)), (.double (FP.i2d k2))])) _
              refine XS.dcmpS X4.here hx rfl (hb hby d4_37) rfl rfl ?_
              show Steps p.tables e below (T4.setTop (mkF m 38 #[.val (.ref a1), .val (.ref a2), .val (.ref a1), .val (.ref a2)] [(.int (cmpValue (FP.dcmp (FP.i2d k2) (FP.i2d m1)) .g))])) _
              refine XS.ifNo X4.here hx rfl (hb hby d4_38) rfl ((if0 _ _).trans (flt (fun q => q1 ((own_dc k2 m1 .g).1.mp q))).1) ?_
              show Steps p.tables e below (T4.setTop (mkF m 41 #[.val (.ref a1), .val (.ref a2), .val (.ref a1), .val (.ref a2)] [])) _
              refine XS.aloadN X4.here hx rfl (hb hby d4_41) rfl rfl ?_
              show Steps p.tables e below (T4.setTop (mkF m 42 #[.val (.ref a1), .val (.ref a2), .val (.ref a1), .val (.ref a2)] [(.ref a2)])) _
              refine st5 _ ?_
              show Steps p.tables e below (T5.setTop (mkF m 45 #[.val (.ref a1), .val (.ref a2), .val (.ref a1), .val (.ref a2)] [(.double (FP.i2d k2))])) _
              refine XS.aloadN X5.here hx rfl (hb hby d4_45) rfl rfl ?_
              show Steps p.tables e below (T5.setTop (mkF m 46 #[.val (.ref a1), .val (.ref a2), .val (.ref a1), .val (.ref a2)] [(.ref a1), (.double (FP.i2d k2))])) _
              refine st6 _ ?_
              show Steps p.tables e below (T6.setTop (mkF m 49 #[.val (.ref a1), .val (.ref a2), .val (.ref a1), .val (.ref a2)] [(.double (FP.i2d m1)), (.double (FP.i2d k2))])) _
              refine XS.dcmpS X6.here hx rfl (hb hby d4_49) rfl rfl ?_
              show Steps p.tables e below (T6.setTop (mkF m 50 #[.val (.ref a1), .val (.ref a2), .val (.ref a1), .val (.ref a2)] [(.int (cmpValue (FP.dcmp (FP.i2d k2) (FP.i2d m1)) .l))])) _
              refine XS.ifNo X6.here hx rfl (hb hby d4_50) rfl ((if0 _ _).trans (teq ((own_dc k2 m1 .l).2.1.mpr q2)).2) ?_
              show Steps p.tables e below (T6.setTop (mkF m 53 #[.val (.ref a1), .val (.ref a2), .val (.ref a1), .val (.ref a2)] [])) _
              refine XS.aloadN X6.here hx rfl (hb hby d4_53) rfl rfl ?_
              show Steps p.tables e below (T6.setTop (mkF m 54 #[.val (.ref a1), .val (.ref a2), .val (.ref a1), .val (.ref a2)] [(.ref a1)])) _
              refine st7 _ ?_
              show Steps p.tables e below (T7.setTop (mkF m 57 #[.val (.ref a1), .val (.ref a2), .val (.ref a1), .val (.ref a2)] [(.int c1)])) _
              refine XS.ifNo X7.here hx rfl (hb hby d4_57) rfl ((if0 _ _).trans (teq q3).2) ?_
              show Steps p.tables e below (T7.setTop (mkF m 60 #[.val (.ref a1), .val (.ref a2), .val (.ref a1), .val (.ref a2)] [])) _
              refine XS.aloadN X7.here hx rfl (hb hby d4_60) rfl rfl ?_
              show Steps p.tables e below (T7.setTop (mkF m 61 #[.val (.ref a1), .val (.ref a2), .val (.ref a1), .val (.ref a2)] [(.ref a2)])) _
              refine st8 _ ?_
              show Steps p.tables e below (T8.setTop (mkF m 64 #[.val (.ref a1), .val (.ref a2), .val (.ref a1), .val (.ref a2)] [(.int l2)])) _
              refine XS.ifNo X8.here hx rfl (hb hby d4_64) rfl ((if0 _ _).trans (feq q4).1) ?_
              show Steps p.tables e below (T8.setTop (mkF m 67 #[.val (.ref a1), .val (.ref a2), .val (.ref a1), .val (.ref a2)] [])) _
              refine XS.iconst X8.here hx rfl (hb hby d4_67) ?_
              show Steps p.tables e below (T8.setTop (mkF m 68 #[.val (.ref a1), .val (.ref a2), .val (.ref a1), .val (.ref a2)] [(.int (1 : Int32))])) _
              refine XS.goto X8.here hx rfl (pc0 := 68) (pc' := 72) rfl (hb hby d4_68) (by decide) (by decide) ?_
              show Steps p.tables e below (T8.setTop (mkF m 72 #[.val (.ref a1), .val (.ref a2), .val (.ref a1), .val (.ref a2)] [(.int (1 : Int32))])) _
              exact retN X8 hx (t := .boolean) Bd.returns (by simp) (hb hby d4_72) hr
            · show Q_4 k1 l1 m1 c1 k2 l2 m2 c2 h0 n0 _ T8.heap _
              rw [e8]
              exact ⟨by rw [if_neg q0, own_bz_t (Or.inr ⟨q2, Or.inr q4⟩)], N0, rfl⟩
        · obtain ⟨fs, hr, hrun, hended, hW, hsame⟩ := X7.leave (v := some (.int (1 : Int32))) (fun h => by rw [Bd.returns] at h; cases h)
          refine ⟨_, _, pre0 _ ?_, hrun, hended, _, _, rfl, ?_, ⟨_, rfl⟩, hW, hsame.mono (by decide) (by decide)⟩
          · show Steps p.tables e below (s₁.setTop (mkF m 0 #[.val (.ref a1), .val (.ref a2), .unset, .unset] [])) _
            refine XS.aloadN X0.here hx rfl (hb hby d4_0) rfl rfl ?_
            show Steps p.tables e below (s₁.setTop (mkF m 1 #[.val (.ref a1), .val (.ref a2), .unset, .unset] [(.ref a1)])) _
            refine st1 _ ?_
            show Steps p.tables e below (T1.setTop (mkF m 4 #[.val (.ref a1), .val (.ref a2), .unset, .unset] [(.double (FP.i2d k1))])) _
            refine XS.aloadN X1.here hx rfl (hb hby d4_4) rfl rfl ?_
            show Steps p.tables e below (T1.setTop (mkF m 5 #[.val (.ref a1), .val (.ref a2), .unset, .unset] [(.ref a2), (.double (FP.i2d k1))])) _
            refine st2 _ ?_
            show Steps p.tables e below (T2.setTop (mkF m 8 #[.val (.ref a1), .val (.ref a2), .unset, .unset] [(.double (FP.i2d k2)), (.double (FP.i2d k1))])) _
            refine XS.dcmpS X2.here hx rfl (hb hby d4_8) rfl rfl ?_
            show Steps p.tables e below (T2.setTop (mkF m 9 #[.val (.ref a1), .val (.ref a2), .unset, .unset] [(.int (cmpValue (FP.dcmp (FP.i2d k1) (FP.i2d k2)) .g))])) _
            refine XS.ifNo X2.here hx rfl (hb hby d4_9) rfl ((if0 _ _).trans (flt (fun q => q0 ((own_dc k1 k2 .g).2.2.mp q))).2.2.1) ?_
            show Steps p.tables e below (T2.setTop (mkF m 12 #[.val (.ref a1), .val (.ref a2), .unset, .unset] [])) _
            refine XS.aloadN X2.here hx rfl (hb hby d4_12) rfl rfl ?_
            show Steps p.tables e below (T2.setTop (mkF m 13 #[.val (.ref a1), .val (.ref a2), .unset, .unset] [(.ref a1)])) _
            refine XS.goto X2.here hx rfl (pc0 := 13) (pc' := 17) rfl (hb hby d4_13) (by decide) (by decide) ?_
            show Steps p.tables e below (T2.setTop (mkF m 17 #[.val (.ref a1), .val (.ref a2), .unset, .unset] [(.ref a1)])) _
            refine XS.astoreN X2.here hx rfl (hb hby d4_17) rfl rfl (l' := #[.val (.ref a1), .val (.ref a2), .val (.ref a1), .unset]) rfl ?_
            show Steps p.tables e below (T2.setTop (mkF m 18 #[.val (.ref a1), .val (.ref a2), .val (.ref a1), .unset] [])) _
            refine XS.aloadN X2.here hx rfl (hb hby d4_18) rfl rfl ?_
            show Steps p.tables e below (T2.setTop (mkF m 19 #[.val (.ref a1), .val (.ref a2), .val (.ref a1), .unset] [(.ref a1)])) _
            refine XS.aloadN X2.here hx rfl (hb hby d4_19) rfl rfl ?_
            show Steps p.tables e below (T2.setTop (mkF m 20 #[.val (.ref a1), .val (.ref a2), .val (.ref a1), .unset] [(.ref a1), (.ref a1)])) _
            refine XS.acmpNo X2.here hx rfl (hb hby d4_20) rfl (by simp [if_acmp.holds]) ?_
            show Steps p.tables e below (T2.setTop (mkF m 23 #[.val (.ref a1), .val (.ref a2), .val (.ref a1), .unset] [])) _
            refine XS.aloadN X2.here hx rfl (hb hby d4_23) rfl rfl ?_
            show Steps p.tables e below (T2.setTop (mkF m 24 #[.val (.ref a1), .val (.ref a2), .val (.ref a1), .unset] [(.ref a2)])) _
            refine XS.goto X2.here hx rfl (pc0 := 24) (pc' := 28) rfl (hb hby d4_24) (by decide) (by decide) ?_
            show Steps p.tables e below (T2.setTop (mkF m 28 #[.val (.ref a1), .val (.ref a2), .val (.ref a1), .unset] [(.ref a2)])) _
            refine XS.astoreN X2.here hx rfl (hb hby d4_28) rfl rfl (l' := #[.val (.ref a1), .val (.ref a2), .val (.ref a1), .val (.ref a2)]) rfl ?_
            show Steps p.tables e below (T2.setTop (mkF m 29 #[.val (.ref a1), .val (.ref a2), .val (.ref a1), .val (.ref a2)] [])) _
            refine XS.aloadN X2.here hx rfl (hb hby d4_29) rfl rfl ?_
            show Steps p.tables e below (T2.setTop (mkF m 30 #[.val (.ref a1), .val (.ref a2), .val (.ref a1), .val (.ref a2)] [(.ref a2)])) _
            refine st3 _ ?_
            show Steps p.tables e below (T3.setTop (mkF m 33 #[.val (.ref a1), .val (.ref a2), .val (.ref a1), .val (.ref a2)] [(.double (FP.i2d k2))])) _
            refine XS.aloadN X3.here hx rfl (hb hby d4_33) rfl rfl ?_
            show Steps p.tables e below (T3.setTop (mkF m 34 #[.val (.ref a1), .val (.ref a2), .val (.ref a1), .val (.ref a2)] [(.ref a1), (.double (FP.i2d k2))])) _
            refine st4 _ ?_
            show Steps p.tables e below (T4.setTop (mkF m 37 #[.val (.ref a1), .val (.ref a2), .val (.ref a1), .val (.ref a2)] [(.double (FP.i2d m1)), (.double (FP.i2d k2))])) _
            refine XS.dcmpS X4.here hx rfl (hb hby d4_37) rfl rfl ?_
            show Steps p.tables e below (T4.setTop (mkF m 38 #[.val (.ref a1), .val (.ref a2), .val (.ref a1), .val (.ref a2)] [(.int (cmpValue (FP.dcmp (FP.i2d k2) (FP.i2d m1)) .g))])) _
            refine XS.ifNo X4.here hx rfl (hb hby d4_38) rfl ((if0 _ _).trans (flt (fun q => q1 ((own_dc k2 m1 .g).1.mp q))).1) ?_
            show Steps p.tables e below (T4.setTop (mkF m 41 #[.val (.ref a1), .val (.ref a2), .val (.ref a1), .val (.ref a2)] [])) _
            refine XS.aloadN X4.here hx rfl (hb hby d4_41) rfl rfl ?_
            show Steps p.tables e below (T4.setTop (mkF m 42 #[.val (.ref a1), .val (.ref a2), .val (.ref a1), .val (.ref a2)] [(.ref a2)])) _
            refine st5 _ ?_
            show Steps p.tables e below (T5.setTop (mkF m 45 #[.val (.ref a1), .val (.ref a2), .val (.ref a1), .val (.ref a2)] [(.double (FP.i2d k2))])) _
            refine XS.aloadN X5.here hx rfl (hb hby d4_45) rfl rfl ?_
            show Steps p.tables e below (T5.setTop (mkF m 46 #[.val (.ref a1), .val (.ref a2), .val (.ref a1), .val (.ref a2)] [(.ref a1), (.double (FP.i2d k2))])) _
            refine st6 _ ?_
            show Steps p.tables e below (T6.setTop (mkF m 49 #[.val (.ref a1), .val (.ref a2), .val (.ref a1), .val (.ref a2)] [(.double (FP.i2d m1)), (.double (FP.i2d k2))])) _
            refine XS.dcmpS X6.here hx rfl (hb hby d4_49) rfl rfl ?_
            show Steps p.tables e below (T6.setTop (mkF m 50 #[.val (.ref a1), .val (.ref a2), .val (.ref a1), .val (.ref a2)] [(.int (cmpValue (FP.dcmp (FP.i2d k2) (FP.i2d m1)) .l))])) _
            refine XS.ifNo X6.here hx rfl (hb hby d4_50) rfl ((if0 _ _).trans (teq ((own_dc k2 m1 .l).2.1.mpr q2)).2) ?_
            show Steps p.tables e below (T6.setTop (mkF m 53 #[.val (.ref a1), .val (.ref a2), .val (.ref a1), .val (.ref a2)] [])) _
            refine XS.aloadN X6.here hx rfl (hb hby d4_53) rfl rfl ?_
            show Steps p.tables e below (T6.setTop (mkF m 54 #[.val (.ref a1), .val (.ref a2), .val (.ref a1), .val (.ref a2)] [(.ref a1)])) _
            refine st7 _ ?_
            show Steps p.tables e below (T7.setTop (mkF m 57 #[.val (.ref a1), .val (.ref a2), .val (.ref a1), .val (.ref a2)] [(.int c1)])) _
            refine XS.ifYes X7.here hx rfl (pc0 := 57) (pc' := 67) rfl (hb hby d4_57) rfl ((if0 _ _).trans (feq q3).2) (by decide) (by decide) ?_
            show Steps p.tables e below (T7.setTop (mkF m 67 #[.val (.ref a1), .val (.ref a2), .val (.ref a1), .val (.ref a2)] [])) _
            refine XS.iconst X7.here hx rfl (hb hby d4_67) ?_
            show Steps p.tables e below (T7.setTop (mkF m 68 #[.val (.ref a1), .val (.ref a2), .val (.ref a1), .val (.ref a2)] [(.int (1 : Int32))])) _
            refine XS.goto X7.here hx rfl (pc0 := 68) (pc' := 72) rfl (hb hby d4_68) (by decide) (by decide) ?_
            show Steps p.tables e below (T7.setTop (mkF m 72 #[.val (.ref a1), .val (.ref a2), .val (.ref a1), .val (.ref a2)] [(.int (1 : Int32))])) _
            exact retN X7 hx (t := .boolean) Bd.returns (by simp) (hb hby d4_72) hr
          · show Q_4 k1 l1 m1 c1 k2 l2 m2 c2 h0 n0 _ T7.heap _
            rw [e7]
            exact ⟨by rw [if_neg q0, own_bz_t (Or.inr ⟨q2, Or.inl q3⟩)], N0, rfl⟩
      · obtain ⟨fs, hr, hrun, hended, hW, hsame⟩ := X6.leave (v := some (.int (0 : Int32))) (fun h => by rw [Bd.returns] at h; cases h)
        refine ⟨_, _, pre0 _ ?_, hrun, hended, _, _, rfl, ?_, ⟨_, rfl⟩, hW, hsame.mono (by decide) (by decide)⟩
        · show Steps p.tables e below (s₁.setTop (mkF m 0 #[.val (.ref a1), .val (.ref a2), .unset, .unset] [])) _
          refine XS.aloadN X0.here hx rfl (hb hby d4_0) rfl rfl ?_
          show Steps p.tables e below (s₁.setTop (mkF m 1 #[.val (.ref a1), .val (.ref a2), .unset, .unset] [(.ref a1)])) _
          refine st1 _ ?_
          show Steps p.tables e below (T1.setTop (mkF m 4 #[.val (.ref a1), .val (.ref a2), .unset, .unset] [(.double (FP.i2d k1))])) _
          refine XS.aloadN X1.here hx rfl (hb hby d4_4) rfl rfl ?_
          show Steps p.tables e below (T1.setTop (mkF m 5 #[.val (.ref a1), .val (.ref a2), .unset, .unset] [(.ref a2), (.double (FP.i2d k1))])) _
          refine st2 _ ?_
          show Steps p.tables e below (T2.setTop (mkF m 8 #[.val (.ref a1), .val (.ref a2), .unset, .unset] [(.double (FP.i2d k2)), (.double (FP.i2d k1))])) _
          refine XS.dcmpS X2.here hx rfl (hb hby d4_8) rfl rfl ?_
          show Steps p.tables e below (T2.setTop (mkF m 9 #[.val (.ref a1), .val (.ref a2), .unset, .unset] [(.int (cmpValue (FP.dcmp (FP.i2d k1) (FP.i2d k2)) .g))])) _
          refine XS.ifNo X2.here hx rfl (hb hby d4_9) rfl ((if0 _ _).trans (flt (fun q => q0 ((own_dc k1 k2 .g).2.2.mp q))).2.2.1) ?_
          show Steps p.tables e below (T2.setTop (mkF m 12 #[.val (.ref a1), .val (.ref a2), .unset, .unset] [])) _
          refine XS.aloadN X2.here hx rfl (hb hby d4_12) rfl rfl ?_
          show Steps p.tables e below (T2.setTop (mkF m 13 #[.val (.ref a1), .val (.ref a2), .unset, .unset] [(.ref a1)])) _
          refine XS.goto X2.here hx rfl (pc0 := 13) (pc' := 17) rfl (hb hby d4_13) (by decide) (by decide) ?_
          show Steps p.tables e below (T2.setTop (mkF m 17 #[.val (.ref a1), .val (.ref a2), .unset, .unset] [(.ref a1)])) _
          refine XS.astoreN X2.here hx rfl (hb hby d4_17) rfl rfl (l' := #[.val (.ref a1), .val (.ref a2), .val (.ref a1), .unset]) rfl ?_
          show Steps p.tables e below (T2.setTop (mkF m 18 #[.val (.ref a1), .val (.ref a2), .val (.ref a1), .unset] [])) _
          refine XS.aloadN X2.here hx rfl (hb hby d4_18) rfl rfl ?_
          show Steps p.tables e below (T2.setTop (mkF m 19 #[.val (.ref a1), .val (.ref a2), .val (.ref a1), .unset] [(.ref a1)])) _
          refine XS.aloadN X2.here hx rfl (hb hby d4_19) rfl rfl ?_
          show Steps p.tables e below (T2.setTop (mkF m 20 #[.val (.ref a1), .val (.ref a2), .val (.ref a1), .unset] [(.ref a1), (.ref a1)])) _
          refine XS.acmpNo X2.here hx rfl (hb hby d4_20) rfl (by simp [if_acmp.holds]) ?_
          show Steps p.tables e below (T2.setTop (mkF m 23 #[.val (.ref a1), .val (.ref a2), .val (.ref a1), .unset] [])) _
          refine XS.aloadN X2.here hx rfl (hb hby d4_23) rfl rfl ?_
          show Steps p.tables e below (T2.setTop (mkF m 24 #[.val (.ref a1), .val (.ref a2), .val (.ref a1), .unset] [(.ref a2)])) _
          refine XS.goto X2.here hx rfl (pc0 := 24) (pc' := 28) rfl (hb hby d4_24) (by decide) (by decide) ?_
          show Steps p.tables e below (T2.setTop (mkF m 28 #[.val (.ref a1), .val (.ref a2), .val (.ref a1), .unset] [(.ref a2)])) _
          refine XS.astoreN X2.here hx rfl (hb hby d4_28) rfl rfl (l' := #[.val (.ref a1), .val (.ref a2), .val (.ref a1), .val (.ref a2)]) rfl ?_
          show Steps p.tables e below (T2.setTop (mkF m 29 #[.val (.ref a1), .val (.ref a2), .val (.ref a1), .val (.ref a2)] [])) _
          refine XS.aloadN X2.here hx rfl (hb hby d4_29) rfl rfl ?_
          show Steps p.tables e below (T2.setTop (mkF m 30 #[.val (.ref a1), .val (.ref a2), .val (.ref a1), .val (.ref a2)] [(.ref a2)])) _
          refine st3 _ ?_
          show Steps p.tables e below (T3.setTop (mkF m 33 #[.val (.ref a1), .val (.ref a2), .val (.ref a1), .val (.ref a2)] [(.double (FP.i2d k2))])) _
          refine XS.aloadN X3.here hx rfl (hb hby d4_33) rfl rfl ?_
          show Steps p.tables e below (T3.setTop (mkF m 34 #[.val (.ref a1), .val (.ref a2), .val (.ref a1), .val (.ref a2)] [(.ref a1), (.double (FP.i2d k2))])) _
          refine st4 _ ?_
          show Steps p.tables e below (T4.setTop (mkF m 37 #[.val (.ref a1), .val (.ref a2), .val (.ref a1), .val (.ref a2)] [(.double (FP.i2d m1)), (.double (FP.i2d k2))])) _
          refine XS.dcmpS X4.here hx rfl (hb hby d4_37) rfl rfl ?_
          show Steps p.tables e below (T4.setTop (mkF m 38 #[.val (.ref a1), .val (.ref a2), .val (.ref a1), .val (.ref a2)] [(.int (cmpValue (FP.dcmp (FP.i2d k2) (FP.i2d m1)) .g))])) _
          refine XS.ifNo X4.here hx rfl (hb hby d4_38) rfl ((if0 _ _).trans (flt (fun q => q1 ((own_dc k2 m1 .g).1.mp q))).1) ?_
          show Steps p.tables e below (T4.setTop (mkF m 41 #[.val (.ref a1), .val (.ref a2), .val (.ref a1), .val (.ref a2)] [])) _
          refine XS.aloadN X4.here hx rfl (hb hby d4_41) rfl rfl ?_
          show Steps p.tables e below (T4.setTop (mkF m 42 #[.val (.ref a1), .val (.ref a2), .val (.ref a1), .val (.ref a2)] [(.ref a2)])) _
          refine st5 _ ?_
          show Steps p.tables e below (T5.setTop (mkF m 45 #[.val (.ref a1), .val (.ref a2), .val (.ref a1), .val (.ref a2)] [(.double (FP.i2d k2))])) _
          refine XS.aloadN X5.here hx rfl (hb hby d4_45) rfl rfl ?_
          show Steps p.tables e below (T5.setTop (mkF m 46 #[.val (.ref a1), .val (.ref a2), .val (.ref a1), .val (.ref a2)] [(.ref a1), (.double (FP.i2d k2))])) _
          refine st6 _ ?_
          show Steps p.tables e below (T6.setTop (mkF m 49 #[.val (.ref a1), .val (.ref a2), .val (.ref a1), .val (.ref a2)] [(.double (FP.i2d m1)), (.double (FP.i2d k2))])) _
          refine XS.dcmpS X6.here hx rfl (hb hby d4_49) rfl rfl ?_
          show Steps p.tables e below (T6.setTop (mkF m 50 #[.val (.ref a1), .val (.ref a2), .val (.ref a1), .val (.ref a2)] [(.int (cmpValue (FP.dcmp (FP.i2d k2) (FP.i2d m1)) .l))])) _
          refine XS.ifYes X6.here hx rfl (pc0 := 50) (pc' := 71) rfl (hb hby d4_50) rfl ((if0 _ _).trans (feq (fun q => q2 ((own_dc k2 m1 .l).2.1.mp q))).2) (by decide) (by decide) ?_
          show Steps p.tables e below (T6.setTop (mkF m 71 #[.val (.ref a1), .val (.ref a2), .val (.ref a1), .val (.ref a2)] [])) _
          refine XS.iconst X6.here hx rfl (hb hby d4_71) ?_
          show Steps p.tables e below (T6.setTop (mkF m 72 #[.val (.ref a1), .val (.ref a2), .val (.ref a1), .val (.ref a2)] [(.int (0 : Int32))])) _
          exact retN X6 hx (t := .boolean) Bd.returns (by simp) (hb hby d4_72) hr
        · show Q_4 k1 l1 m1 c1 k2 l2 m2 c2 h0 n0 _ T6.heap _
          rw [e6]
          exact ⟨by rw [if_neg q0, own_bz_f (fun q => q.elim q1 (fun r => q2 r.1))], N0, rfl⟩
theorem ef_0 (m : MethodId) (x0 : Int32) (x1 : Int32) (x2 : Int32) (x3 : Int32) (x4 : Int32) : entryFrame m #[(.int x0), (.int x1), (.int x2), (.int x3), (.int x4)] maxLocals = mkF m 0 #[.val (.int x0), .val (.int x1), .val (.int x2), .val (.int x3), .val (.int x4), .unset, .unset, .unset, .unset, .unset, .unset, .unset, .unset, .unset, .unset, .unset] [] := by first | (simp [entryFrame, mkF, argsToLocals, Value.category, maxLocals]; done) | rfl
def Q_0 (n0 : Nat) (v : Option Value) (h : Heap) (L : List Loc) : Prop := v = some (.int 1) ∧ Fr n0 L
set_option maxRecDepth 65536 in
set_option maxHeartbeats 40000000 in
theorem rm_0 (l : Launch) (Z : State) (a0 : Array Value) (hw : ∀ d ∈ tables_1, d.before a0 Z = true) (ws : List Jvm.Cond) (p1 p2 p3 p4 p5 : Int32) (h0 : Heap) (n0 : Nat) (Z0 : n0 ≤ h0.size)  :
    MetFree l x (head1 (Jvm.Cond.code x code maxLocals ret :: ws) room_1) (fun a U => a = #[(.int p1), (.int p2), (.int p3), (.int p4), (.int p5)] ∧ Z.Warmed39 U.vm ∧ U.heap = h0) (fun _ _ _ _ _ => True) (fun _ U o U' => ∃ v L, o = .returned v ∧ Q_0 n0 v U'.heap L ∧ FrameEnd U o U' L 2 8) := by
  refine MetFree.of_bodySF (plainFor_of_name pn_0) hisR ?_
  intro p e s m args below meth c s₁ Bd hml0 hP hK
  obtain ⟨rfl, hZ, hh⟩ := hP
  have hx := Bd.exec
  have hby := Bd.bytes
  have hml : c.maxLocals = 16 := hml0
  have hown : s.vm.findClass "com/example/aerotome/aerotome/geometry/IntervalJoinsPinLaw" = some m.cls := findClass_of_methodNamed Bd.named
  have hnm := (name_of_methodNamed Bd.named Bd.method).1
  have X0 : Stand p l e room_1 s m #[(.int p1), (.int p2), (.int p3), (.int p4), (.int p5)] below meth c s₁ [] 0 0 := Stand.of_body Bd
  have e0 : s₁.heap = h0 := by rw [← hh, Bd.state]; rfl
  have N0 := Fr.nil n0
  have pre0 : ∀ t, Steps p.tables e below (s₁.setTop (mkF m 0 #[.val (.int p1), .val (.int p2), .val (.int p3), .val (.int p4), .val (.int p5), .unset, .unset, .unset, .unset, .unset, .unset, .unset, .unset, .unset, .unset, .unset] [])) t → Steps p.tables e below (s₁.setTop (entryFrame m #[(.int p1), (.int p2), (.int p3), (.int p4), (.int p5)] maxLocals)) t := fun t k => castTop (ef_0 m (p1) (p2) (p3) (p4) (p5)) k
  obtain ⟨k1, hk1⟩ : ∃ z : Int32, z = (p1 &&& (7 : Int32)) - (4 : Int32) := ⟨_, rfl⟩
  obtain ⟨m1, hm1⟩ : ∃ z : Int32, z = k1 + (p2 &&& (3 : Int32)) := ⟨_, rfl⟩
  obtain ⟨k2, hk2⟩ : ∃ z : Int32, z = (p3 &&& (7 : Int32)) - (4 : Int32) := ⟨_, rfl⟩
  obtain ⟨m2, hm2⟩ : ∃ z : Int32, z = k2 + (p4 &&& (3 : Int32)) := ⟨_, rfl⟩
  obtain ⟨l1, hl1⟩ : ∃ z : Int32, z = if (p5 &&& (1 : Int32)) = (0 : Int32) then (if k1 = m1 then (1 : Int32) else 0) else 1 := ⟨_, rfl⟩
  obtain ⟨c1, hc1⟩ : ∃ z : Int32, z = if (p5 &&& (2 : Int32)) = (0 : Int32) then (if k1 = m1 then (1 : Int32) else 0) else 1 := ⟨_, rfl⟩
  obtain ⟨l2, hl2⟩ : ∃ z : Int32, z = if (p5 &&& (4 : Int32)) = (0 : Int32) then (if k2 = m2 then (1 : Int32) else 0) else 1 := ⟨_, rfl⟩
  obtain ⟨c2, hc2⟩ : ∃ z : Int32, z = if (p5 &&& (8 : Int32)) = (0 : Int32) then (if k2 = m2 then (1 : Int32) else 0) else 1 := ⟨_, rfl⟩
  have bit : ∀ (q r : Prop) [Decidable q] [Decidable r] (z : Int32), (z = if q then (if r then (1 : Int32) else 0) else 1) → own_bit z ∧ (r → z = 1) := by
    intro q r _ _ z hz
    by_cases h1 : q <;> by_cases h2 : r <;> simp only [h1, h2, if_true, if_false] at hz <;> subst hz
    · exact ⟨Or.inr rfl, fun _ => rfl⟩
    · exact ⟨Or.inl rfl, fun h => absurd h h2⟩
    · exact ⟨Or.inr rfl, fun _ => rfl⟩
    · exact ⟨Or.inr rfl, fun _ => rfl⟩
  have bl1 := bit _ _ _ hl1
  have bc1 := bit _ _ _ hc1
  have bl2 := bit _ _ _ hl2
  have bc2 := bit _ _ _ hc2
  have v1 : k1 < m1 ∨ (k1 = m1 ∧ l1 = 1 ∧ c1 = 1) := by
    have h := own_ends p1 p2
    rw [← hk1, ← hm1] at h
    exact h.imp id (fun q => ⟨q, bl1.2 q, bc1.2 q⟩)
  have v2 : k2 < m2 ∨ (k2 = m2 ∧ l2 = 1 ∧ c2 = 1) := by
    have h := own_ends p3 p4
    rw [← hk2, ← hm2] at h
    exact h.imp id (fun q => ⟨q, bl2.2 q, bc2.2 q⟩)
  obtain ⟨ex, hex⟩ : ∃ z : Int32, z = (if ¬ (own_bz (own_sp m1 c1 k2 l2)) = (0 : Int32) then (0 : Int32) else if ¬ (own_bz (own_sp m2 c2 k1 l1)) = (0 : Int32) then 0 else 1) := ⟨_, rfl⟩
  obtain ⟨T1, h1, X1, e1, E1, A1, D1, -, st1⟩ := newO X0 hx hZ hown (hw _ (List.mem_of_getElem? (i := 0) rfl)) (hw _ (List.mem_of_getElem? (i := 1) rfl)) (hw _ (List.mem_of_getElem? (i := 2) rfl)) e0 (g := (mkF m 117 #[.val (.int p1), .val (.int p2), .val (.int p3), .val (.int p4), .val (.int p5), .val (.int k1), .val (.int m1), .val (.int k2), .val (.int m2), .val (.int l1), .val (.int c1), .val (.int l2), .val (.int c2), .unset, .unset, .unset] [])) rfl (hb hby at_117) (by decide) (by decide)
  obtain ⟨a1, g1⟩ : ∃ z, z = h0.size := ⟨_, rfl⟩
  rw [← g1] at A1 D1 st1
  have F1_0 : Fld Z h1 a1 "com/example/aerotome/aerotome/geometry/Interval" "lo" "D" (.double (0 : UInt64)) := (D1 (Or.inr (hw _ (List.mem_of_getElem? (i := 15) rfl))) (ty := .double) (by decide))
  have F1_1 : Fld Z h1 a1 "com/example/aerotome/aerotome/geometry/Interval" "loClosed" "Z" (.int (0 : Int32)) := (D1 (Or.inr (hw _ (List.mem_of_getElem? (i := 17) rfl))) (ty := .boolean) (by decide))
  have F1_2 : Fld Z h1 a1 "com/example/aerotome/aerotome/geometry/Interval" "hi" "D" (.double (0 : UInt64)) := (D1 (Or.inr (hw _ (List.mem_of_getElem? (i := 19) rfl))) (ty := .double) (by decide))
  have F1_3 : Fld Z h1 a1 "com/example/aerotome/aerotome/geometry/Interval" "hiClosed" "Z" (.int (0 : Int32)) := (D1 (Or.inr (hw _ (List.mem_of_getElem? (i := 21) rfl))) (ty := .boolean) (by decide))
  have Z1 : n0 ≤ h1.size := Nat.le_trans Z0 E1.1
  obtain ⟨_, _, ⟨T2, L2, k2, n2⟩, -, X2, ⟨Lc2, hQ2, l2, y2, z2⟩, st2⟩ := X1.specialBack hx (y := (⟨"com/example/aerotome/aerotome/geometry/Interval", "<init>", "(DZDZ)V"⟩ : MethodName)) rfl hown (mvT hZ (hw _ (List.mem_of_getElem? (i := 3) rfl))) (mvT hZ (hw _ (List.mem_of_getElem? (i := 4) rfl))) (mvT hZ (hw _ (List.mem_of_getElem? (i := 5) rfl))) (by decide) (backOf (W := 1) (rm_1 l Z a0 hw [] a1 k1 l1 m1 c1 h1 n0 Z1 F1_0 F1_1 F1_2 F1_3 A1 (Nat.le_trans Z0 (Nat.le_of_eq g1.symm)) bl1.1 bc1.1 v1) hZ (hw _ (List.mem_of_getElem? (i := 5) rfl)) (hw _ (List.mem_of_getElem? (i := 2) rfl)) (by decide) (by decide)) (g := (mkF m 131 #[.val (.int p1), .val (.int p2), .val (.int p3), .val (.int p4), .val (.int p5), .val (.int k1), .val (.int m1), .val (.int k2), .val (.int m2), .val (.int l1), .val (.int c1), .val (.int l2), .val (.int c2), .unset, .unset, .unset] [(.int c1), (.double (FP.i2d m1)), (.int l1), (.double (FP.i2d k1)), (.ref a1), (.ref a1)])) rfl (by rw [hml]; rfl) (Steps.refl _) (a := a1) (argsL := [(.double (FP.i2d k1)), (.int l1), (.double (FP.i2d m1)), (.int c1)]) (rest := [(.ref a1)]) (lenOf pd_1 rfl) rfl (by show 2 * 0 + _ ≤ _; exact Nat.le_of_eq rfl) (hb hby at_131) (fun _ _ => ⟨rfl, e1, (by decide : 1 + 0 ≤ _), (by decide : 4 + 0 ≤ _)⟩)
  dsimp only [Pt.U, Pt.locs, Pt.cells, Pt.slots] at X2 l2 y2 z2 st2 hQ2
  subst l2 y2 z2
  obtain ⟨rfl, N2, K2, B2, F2_0, F2_1, F2_2, F2_3⟩ := hQ2
  have N2b := Fr.app N0 N2
  have Z2 : n0 ≤ T2.heap.size := Nat.le_trans Z1 K2.1
  obtain ⟨T3, h3, X3, e3, E3, A3, D3, -, st3⟩ := newO X2 hx hZ hown (hw _ (List.mem_of_getElem? (i := 0) rfl)) (hw _ (List.mem_of_getElem? (i := 1) rfl)) (hw _ (List.mem_of_getElem? (i := 2) rfl)) rfl (g := (mkF m 136 #[.val (.int p1), .val (.int p2), .val (.int p3), .val (.int p4), .val (.int p5), .val (.int k1), .val (.int m1), .val (.int k2), .val (.int m2), .val (.int l1), .val (.int c1), .val (.int l2), .val (.int c2), .val (.ref a1), .unset, .unset] [])) rfl (hb hby at_136) (by decide) (by decide)
  obtain ⟨a3, g3⟩ : ∃ z, z = T2.heap.size := ⟨_, rfl⟩
  rw [← g3] at A3 D3 st3
  have F3_0 : Fld Z h3 a3 "com/example/aerotome/aerotome/geometry/Interval" "lo" "D" (.double (0 : UInt64)) := (D3 (Or.inr (hw _ (List.mem_of_getElem? (i := 15) rfl))) (ty := .double) (by decide))
  have F3_1 : Fld Z h3 a3 "com/example/aerotome/aerotome/geometry/Interval" "loClosed" "Z" (.int (0 : Int32)) := (D3 (Or.inr (hw _ (List.mem_of_getElem? (i := 17) rfl))) (ty := .boolean) (by decide))
  have F3_2 : Fld Z h3 a3 "com/example/aerotome/aerotome/geometry/Interval" "hi" "D" (.double (0 : UInt64)) := (D3 (Or.inr (hw _ (List.mem_of_getElem? (i := 19) rfl))) (ty := .double) (by decide))
  have F3_3 : Fld Z h3 a3 "com/example/aerotome/aerotome/geometry/Interval" "hiClosed" "Z" (.int (0 : Int32)) := (D3 (Or.inr (hw _ (List.mem_of_getElem? (i := 21) rfl))) (ty := .boolean) (by decide))
  have Z3 : n0 ≤ h3.size := Nat.le_trans Z2 E3.1
  have ne13 : a1 ≠ a3 := Nat.ne_of_lt (Nat.lt_of_lt_of_le B2.lt (Nat.le_of_eq g3.symm))
  obtain ⟨_, _, ⟨T4, L4, k4, n4⟩, -, X4, ⟨Lc4, hQ4, l4, y4, z4⟩, st4⟩ := X3.specialBack hx (y := (⟨"com/example/aerotome/aerotome/geometry/Interval", "<init>", "(DZDZ)V"⟩ : MethodName)) rfl hown (mvT hZ (hw _ (List.mem_of_getElem? (i := 3) rfl))) (mvT hZ (hw _ (List.mem_of_getElem? (i := 4) rfl))) (mvT hZ (hw _ (List.mem_of_getElem? (i := 5) rfl))) (by decide) (backOf (W := 1) (rm_1 l Z a0 hw [] a3 k2 l2 m2 c2 h3 n0 Z3 F3_0 F3_1 F3_2 F3_3 A3 (Nat.le_trans Z2 (Nat.le_of_eq g3.symm)) bl2.1 bc2.1 v2) hZ (hw _ (List.mem_of_getElem? (i := 5) rfl)) (hw _ (List.mem_of_getElem? (i := 2) rfl)) (by decide) (by decide)) (g := (mkF m 150 #[.val (.int p1), .val (.int p2), .val (.int p3), .val (.int p4), .val (.int p5), .val (.int k1), .val (.int m1), .val (.int k2), .val (.int m2), .val (.int l1), .val (.int c1), .val (.int l2), .val (.int c2), .val (.ref a1), .unset, .unset] [(.int c2), (.double (FP.i2d m2)), (.int l2), (.double (FP.i2d k2)), (.ref a3), (.ref a3)])) rfl (by rw [hml]; rfl) (Steps.refl _) (a := a3) (argsL := [(.double (FP.i2d k2)), (.int l2), (.double (FP.i2d m2)), (.int c2)]) (rest := [(.ref a3)]) (lenOf pd_1 rfl) rfl (by show 2 * 0 + _ ≤ _; exact Nat.le_of_eq rfl) (hb hby at_150) (fun _ _ => ⟨rfl, e3, (by decide : 2 + 0 ≤ _), (by decide : 8 + 0 ≤ _)⟩)
  dsimp only [Pt.U, Pt.locs, Pt.cells, Pt.slots] at X4 l4 y4 z4 st4 hQ4
  subst l4 y4 z4
  obtain ⟨rfl, N4, K4, B4, F4_0, F4_1, F4_2, F4_3⟩ := hQ4
  have N4b := Fr.app N2b N4
  have Z4 : n0 ≤ T4.heap.size := Nat.le_trans Z3 K4.1
  have nm13 : a1 ∉ [a3] := fun q => ne13 (List.mem_singleton.mp q)
  have B4e : Exa Z T4.heap a1 "com/example/aerotome/aerotome/geometry/Interval" := (B2.ext E3).keep K4
  have G0 : Fld Z T4.heap a1 "com/example/aerotome/aerotome/geometry/Interval" "lo" "D" (.double (FP.i2d k1)) := (F2_0.ext E3).keep K4 nm13
  have G1 : Fld Z T4.heap a1 "com/example/aerotome/aerotome/geometry/Interval" "loClosed" "Z" (.int l1) := (F2_1.ext E3).keep K4 nm13
  have G2 : Fld Z T4.heap a1 "com/example/aerotome/aerotome/geometry/Interval" "hi" "D" (.double (FP.i2d m1)) := (F2_2.ext E3).keep K4 nm13
  have G3 : Fld Z T4.heap a1 "com/example/aerotome/aerotome/geometry/Interval" "hiClosed" "Z" (.int c1) := (F2_3.ext E3).keep K4 nm13
  have seg : ∃ T' L', Stand p l e room_1 s m #[(.int p1), (.int p2), (.int p3), (.int p4), (.int p5)] below meth c T' L' 2 8 ∧ T'.heap = T4.heap ∧ Fr n0 L' ∧ ∀ target, Steps p.tables e below (T'.setTop (mkF m 188 #[.val (.int p1), .val (.int p2), .val (.int p3), .val (.int p4), .val (.int p5), .val (.int k1), .val (.int m1), .val (.int k2), .val (.int m2), .val (.int l1), .val (.int c1), .val (.int l2), .val (.int c2), .val (.ref a1), .val (.ref a3), .unset] [(.int ex)])) target → Steps p.tables e below (T4.setTop (mkF m 155 #[.val (.int p1), .val (.int p2), .val (.int p3), .val (.int p4), .val (.int p5), .val (.int k1), .val (.int m1), .val (.int k2), .val (.int m2), .val (.int l1), .val (.int c1), .val (.int l2), .val (.int c2), .val (.ref a1), .val (.ref a3), .unset] [])) target := by
    obtain ⟨_, _, ⟨T5, L5, k5, n5⟩, -, X5, ⟨Lc5, hQ5, l5, y5, z5⟩, st5⟩ := Jvm.LawKit.callS X4 hx (y := (⟨"com/example/aerotome/aerotome/geometry/IntervalJoinsPinLaw", "separated", "(IZIZ)Z"⟩ : MethodName)) hown (mvT hZ (hw _ (List.mem_of_getElem? (i := 22) rfl))) (mvT hZ (hw _ (List.mem_of_getElem? (i := 23) rfl))) (mvT hZ (hw _ (List.mem_of_getElem? (i := 24) rfl))) (mvT hZ (hw _ (List.mem_of_getElem? (i := 25) rfl))) (by decide) (backOf (W := 0) (rm_3 l Z a0 hw [] m1 c1 k2 l2 T4.heap n0 Z4) hZ (hw _ (List.mem_of_getElem? (i := 25) rfl)) (hw _ (List.mem_of_getElem? (i := 24) rfl)) (by decide) (by decide)) (g := (mkF m 163 #[.val (.int p1), .val (.int p2), .val (.int p3), .val (.int p4), .val (.int p5), .val (.int k1), .val (.int m1), .val (.int k2), .val (.int m2), .val (.int l1), .val (.int c1), .val (.int l2), .val (.int c2), .val (.ref a1), .val (.ref a3), .unset] [(.int l2), (.int k2), (.int c1), (.int m1)])) rfl (by rw [hml]; rfl) (argsL := [(.int m1), (.int c1), (.int k2), (.int l2)]) (rest := []) (lenOf pd_3 rfl) rfl (by show 2 * 0 + _ ≤ _; exact Nat.le_of_eq rfl) (hb hby at_163) (fun _ _ => ⟨rfl, rfl, (by decide : 2 + 0 ≤ _), (by decide : 8 + 0 ≤ _)⟩)
    dsimp only [Pt.U, Pt.locs, Pt.cells, Pt.slots] at X5 l5 y5 z5 st5 hQ5
    subst l5 y5 z5
    obtain ⟨rfl, N5, e5⟩ := hQ5
    by_cases s1 : (own_bz (own_sp m1 c1 k2 l2)) = (0 : Int32)
    · obtain ⟨_, _, ⟨T6, L6, k6, n6⟩, -, X6, ⟨Lc6, hQ6, l6, y6, z6⟩, st6⟩ := Jvm.LawKit.callS X5 hx (y := (⟨"com/example/aerotome/aerotome/geometry/IntervalJoinsPinLaw", "separated", "(IZIZ)Z"⟩ : MethodName)) hown (mvT hZ (hw _ (List.mem_of_getElem? (i := 22) rfl))) (mvT hZ (hw _ (List.mem_of_getElem? (i := 23) rfl))) (mvT hZ (hw _ (List.mem_of_getElem? (i := 24) rfl))) (mvT hZ (hw _ (List.mem_of_getElem? (i := 25) rfl))) (by decide) (backOf (W := 0) (rm_3 l Z a0 hw [] m2 c2 k1 l1 T4.heap n0 Z4) hZ (hw _ (List.mem_of_getElem? (i := 25) rfl)) (hw _ (List.mem_of_getElem? (i := 24) rfl)) (by decide) (by decide)) (g := (mkF m 177 #[.val (.int p1), .val (.int p2), .val (.int p3), .val (.int p4), .val (.int p5), .val (.int k1), .val (.int m1), .val (.int k2), .val (.int m2), .val (.int l1), .val (.int c1), .val (.int l2), .val (.int c2), .val (.ref a1), .val (.ref a3), .unset] [(.int l1), (.int k1), (.int c2), (.int m2)])) rfl (by rw [hml]; rfl) (argsL := [(.int m2), (.int c2), (.int k1), (.int l1)]) (rest := []) (lenOf pd_3 rfl) rfl (by show 2 * 0 + _ ≤ _; exact Nat.le_of_eq rfl) (hb hby at_177) (fun _ _ => ⟨rfl, e5, (by decide : 2 + 0 ≤ _), (by decide : 8 + 0 ≤ _)⟩)
      dsimp only [Pt.U, Pt.locs, Pt.cells, Pt.slots] at X6 l6 y6 z6 st6 hQ6
      subst l6 y6 z6
      obtain ⟨rfl, N6, e6⟩ := hQ6
      refine ⟨T6, _, X6, e6, Fr.app (Fr.app N4b N5) N6, fun target k => ?_⟩
      rw [hex, if_neg (fun q => q s1)] at k
      show Steps p.tables e below (T4.setTop (mkF m 155 #[.val (.int p1), .val (.int p2), .val (.int p3), .val (.int p4), .val (.int p5), .val (.int k1), .val (.int m1), .val (.int k2), .val (.int m2), .val (.int l1), .val (.int c1), .val (.int l2), .val (.int c2), .val (.ref a1), .val (.ref a3), .unset] [])) _
      refine XS.iload X4.here hx rfl (hb hby at_155) rfl ?_
      show Steps p.tables e below (T4.setTop (mkF m 157 #[.val (.int p1), .val (.int p2), .val (.int p3), .val (.int p4), .val (.int p5), .val (.int k1), .val (.int m1), .val (.int k2), .val (.int m2), .val (.int l1), .val (.int c1), .val (.int l2), .val (.int c2), .val (.ref a1), .val (.ref a3), .unset] [(.int m1)])) _
      refine XS.iload X4.here hx rfl (hb hby at_157) rfl ?_
      show Steps p.tables e below (T4.setTop (mkF m 159 #[.val (.int p1), .val (.int p2), .val (.int p3), .val (.int p4), .val (.int p5), .val (.int k1), .val (.int m1), .val (.int k2), .val (.int m2), .val (.int l1), .val (.int c1), .val (.int l2), .val (.int c2), .val (.ref a1), .val (.ref a3), .unset] [(.int c1), (.int m1)])) _
      refine XS.iload X4.here hx rfl (hb hby at_159) rfl ?_
      show Steps p.tables e below (T4.setTop (mkF m 161 #[.val (.int p1), .val (.int p2), .val (.int p3), .val (.int p4), .val (.int p5), .val (.int k1), .val (.int m1), .val (.int k2), .val (.int m2), .val (.int l1), .val (.int c1), .val (.int l2), .val (.int c2), .val (.ref a1), .val (.ref a3), .unset] [(.int k2), (.int c1), (.int m1)])) _
      refine XS.iload X4.here hx rfl (hb hby at_161) rfl ?_
      show Steps p.tables e below (T4.setTop (mkF m 163 #[.val (.int p1), .val (.int p2), .val (.int p3), .val (.int p4), .val (.int p5), .val (.int k1), .val (.int m1), .val (.int k2), .val (.int m2), .val (.int l1), .val (.int c1), .val (.int l2), .val (.int c2), .val (.ref a1), .val (.ref a3), .unset] [(.int l2), (.int k2), (.int c1), (.int m1)])) _
      refine st5 _ ?_
      show Steps p.tables e below (T5.setTop (mkF m 166 #[.val (.int p1), .val (.int p2), .val (.int p3), .val (.int p4), .val (.int p5), .val (.int k1), .val (.int m1), .val (.int k2), .val (.int m2), .val (.int l1), .val (.int c1), .val (.int l2), .val (.int c2), .val (.ref a1), .val (.ref a3), .unset] [(.int (own_bz (own_sp m1 c1 k2 l2)))])) _
      refine XS.ifNo X5.here hx rfl (hb hby at_166) rfl ((if0 _ _).trans (teq s1).2) ?_
      show Steps p.tables e below (T5.setTop (mkF m 169 #[.val (.int p1), .val (.int p2), .val (.int p3), .val (.int p4), .val (.int p5), .val (.int k1), .val (.int m1), .val (.int k2), .val (.int m2), .val (.int l1), .val (.int c1), .val (.int l2), .val (.int c2), .val (.ref a1), .val (.ref a3), .unset] [])) _
      refine XS.iload X5.here hx rfl (hb hby at_169) rfl ?_
      show Steps p.tables e below (T5.setTop (mkF m 171 #[.val (.int p1), .val (.int p2), .val (.int p3), .val (.int p4), .val (.int p5), .val (.int k1), .val (.int m1), .val (.int k2), .val (.int m2), .val (.int l1), .val (.int c1), .val (.int l2), .val (.int c2), .val (.ref a1), .val (.ref a3), .unset] [(.int m2)])) _
      refine XS.iload X5.here hx rfl (hb hby at_171) rfl ?_
      show Steps p.tables e below (T5.setTop (mkF m 173 #[.val (.int p1), .val (.int p2), .val (.int p3), .val (.int p4), .val (.int p5), .val (.int k1), .val (.int m1), .val (.int k2), .val (.int m2), .val (.int l1), .val (.int c1), .val (.int l2), .val (.int c2), .val (.ref a1), .val (.ref a3), .unset] [(.int c2), (.int m2)])) _
      refine XS.iload X5.here hx rfl (hb hby at_173) rfl ?_
      show Steps p.tables e below (T5.setTop (mkF m 175 #[.val (.int p1), .val (.int p2), .val (.int p3), .val (.int p4), .val (.int p5), .val (.int k1), .val (.int m1), .val (.int k2), .val (.int m2), .val (.int l1), .val (.int c1), .val (.int l2), .val (.int c2), .val (.ref a1), .val (.ref a3), .unset] [(.int k1), (.int c2), (.int m2)])) _
      refine XS.iload X5.here hx rfl (hb hby at_175) rfl ?_
      show Steps p.tables e below (T5.setTop (mkF m 177 #[.val (.int p1), .val (.int p2), .val (.int p3), .val (.int p4), .val (.int p5), .val (.int k1), .val (.int m1), .val (.int k2), .val (.int m2), .val (.int l1), .val (.int c1), .val (.int l2), .val (.int c2), .val (.ref a1), .val (.ref a3), .unset] [(.int l1), (.int k1), (.int c2), (.int m2)])) _
      refine st6 _ ?_
      show Steps p.tables e below (T6.setTop (mkF m 180 #[.val (.int p1), .val (.int p2), .val (.int p3), .val (.int p4), .val (.int p5), .val (.int k1), .val (.int m1), .val (.int k2), .val (.int m2), .val (.int l1), .val (.int c1), .val (.int l2), .val (.int c2), .val (.ref a1), .val (.ref a3), .unset] [(.int (own_bz (own_sp m2 c2 k1 l1)))])) _
      by_cases s2 : (own_bz (own_sp m2 c2 k1 l1)) = (0 : Int32)
      · refine XS.ifNo X6.here hx rfl (hb hby at_180) rfl ((if0 _ _).trans (teq s2).2) ?_
        show Steps p.tables e below (T6.setTop (mkF m 183 #[.val (.int p1), .val (.int p2), .val (.int p3), .val (.int p4), .val (.int p5), .val (.int k1), .val (.int m1), .val (.int k2), .val (.int m2), .val (.int l1), .val (.int c1), .val (.int l2), .val (.int c2), .val (.ref a1), .val (.ref a3), .unset] [])) _
        refine XS.iconst X6.here hx rfl (hb hby at_183) ?_
        show Steps p.tables e below (T6.setTop (mkF m 184 #[.val (.int p1), .val (.int p2), .val (.int p3), .val (.int p4), .val (.int p5), .val (.int k1), .val (.int m1), .val (.int k2), .val (.int m2), .val (.int l1), .val (.int c1), .val (.int l2), .val (.int c2), .val (.ref a1), .val (.ref a3), .unset] [(.int (1 : Int32))])) _
        refine XS.goto X6.here hx rfl (pc0 := 184) (pc' := 188) rfl (hb hby at_184) (by decide) (by decide) ?_
        show Steps p.tables e below (T6.setTop (mkF m 188 #[.val (.int p1), .val (.int p2), .val (.int p3), .val (.int p4), .val (.int p5), .val (.int k1), .val (.int m1), .val (.int k2), .val (.int m2), .val (.int l1), .val (.int c1), .val (.int l2), .val (.int c2), .val (.ref a1), .val (.ref a3), .unset] [(.int (1 : Int32))])) _
        rw [if_neg (fun q => q s2)] at k
        exact k
      · refine XS.ifYes X6.here hx rfl (pc0 := 180) (pc' := 187) rfl (hb hby at_180) rfl ((if0 _ _).trans (feq s2).2) (by decide) (by decide) ?_
        show Steps p.tables e below (T6.setTop (mkF m 187 #[.val (.int p1), .val (.int p2), .val (.int p3), .val (.int p4), .val (.int p5), .val (.int k1), .val (.int m1), .val (.int k2), .val (.int m2), .val (.int l1), .val (.int c1), .val (.int l2), .val (.int c2), .val (.ref a1), .val (.ref a3), .unset] [])) _
        refine XS.iconst X6.here hx rfl (hb hby at_187) ?_
        show Steps p.tables e below (T6.setTop (mkF m 188 #[.val (.int p1), .val (.int p2), .val (.int p3), .val (.int p4), .val (.int p5), .val (.int k1), .val (.int m1), .val (.int k2), .val (.int m2), .val (.int l1), .val (.int c1), .val (.int l2), .val (.int c2), .val (.ref a1), .val (.ref a3), .unset] [(.int (0 : Int32))])) _
        rw [if_pos s2] at k
        exact k
    · refine ⟨T5, _, X5, e5, Fr.app N4b N5, fun target k => ?_⟩
      rw [hex, if_pos s1] at k
      show Steps p.tables e below (T4.setTop (mkF m 155 #[.val (.int p1), .val (.int p2), .val (.int p3), .val (.int p4), .val (.int p5), .val (.int k1), .val (.int m1), .val (.int k2), .val (.int m2), .val (.int l1), .val (.int c1), .val (.int l2), .val (.int c2), .val (.ref a1), .val (.ref a3), .unset] [])) _
      refine XS.iload X4.here hx rfl (hb hby at_155) rfl ?_
      show Steps p.tables e below (T4.setTop (mkF m 157 #[.val (.int p1), .val (.int p2), .val (.int p3), .val (.int p4), .val (.int p5), .val (.int k1), .val (.int m1), .val (.int k2), .val (.int m2), .val (.int l1), .val (.int c1), .val (.int l2), .val (.int c2), .val (.ref a1), .val (.ref a3), .unset] [(.int m1)])) _
      refine XS.iload X4.here hx rfl (hb hby at_157) rfl ?_
      show Steps p.tables e below (T4.setTop (mkF m 159 #[.val (.int p1), .val (.int p2), .val (.int p3), .val (.int p4), .val (.int p5), .val (.int k1), .val (.int m1), .val (.int k2), .val (.int m2), .val (.int l1), .val (.int c1), .val (.int l2), .val (.int c2), .val (.ref a1), .val (.ref a3), .unset] [(.int c1), (.int m1)])) _
      refine XS.iload X4.here hx rfl (hb hby at_159) rfl ?_
      show Steps p.tables e below (T4.setTop (mkF m 161 #[.val (.int p1), .val (.int p2), .val (.int p3), .val (.int p4), .val (.int p5), .val (.int k1), .val (.int m1), .val (.int k2), .val (.int m2), .val (.int l1), .val (.int c1), .val (.int l2), .val (.int c2), .val (.ref a1), .val (.ref a3), .unset] [(.int k2), (.int c1), (.int m1)])) _
      refine XS.iload X4.here hx rfl (hb hby at_161) rfl ?_
      show Steps p.tables e below (T4.setTop (mkF m 163 #[.val (.int p1), .val (.int p2), .val (.int p3), .val (.int p4), .val (.int p5), .val (.int k1), .val (.int m1), .val (.int k2), .val (.int m2), .val (.int l1), .val (.int c1), .val (.int l2), .val (.int c2), .val (.ref a1), .val (.ref a3), .unset] [(.int l2), (.int k2), (.int c1), (.int m1)])) _
      refine st5 _ ?_
      show Steps p.tables e below (T5.setTop (mkF m 166 #[.val (.int p1), .val (.int p2), .val (.int p3), .val (.int p4), .val (.int p5), .val (.int k1), .val (.int m1), .val (.int k2), .val (.int m2), .val (.int l1), .val (.int c1), .val (.int l2), .val (.int c2), .val (.ref a1), .val (.ref a3), .unset] [(.int (own_bz (own_sp m1 c1 k2 l2)))])) _
      refine XS.ifYes X5.here hx rfl (pc0 := 166) (pc' := 187) rfl (hb hby at_166) rfl ((if0 _ _).trans (feq s1).2) (by decide) (by decide) ?_
      show Steps p.tables e below (T5.setTop (mkF m 187 #[.val (.int p1), .val (.int p2), .val (.int p3), .val (.int p4), .val (.int p5), .val (.int k1), .val (.int m1), .val (.int k2), .val (.int m2), .val (.int l1), .val (.int c1), .val (.int l2), .val (.int c2), .val (.ref a1), .val (.ref a3), .unset] [])) _
      refine XS.iconst X5.here hx rfl (hb hby at_187) ?_
      show Steps p.tables e below (T5.setTop (mkF m 188 #[.val (.int p1), .val (.int p2), .val (.int p3), .val (.int p4), .val (.int p5), .val (.int k1), .val (.int m1), .val (.int k2), .val (.int m2), .val (.int l1), .val (.int c1), .val (.int l2), .val (.int c2), .val (.ref a1), .val (.ref a3), .unset] [(.int (0 : Int32))])) _
      exact k
  obtain ⟨T7, L7, X7, e7, N7, st7⟩ := seg
  obtain ⟨cq8, kq8, qa8, qb8, qc8⟩ := isOf hZ e7 B4e
  obtain ⟨_, _, ⟨T8, L8, k8, n8⟩, -, X8, ⟨Lc8, hQ8, l8, y8, z8⟩, st8⟩ := X7.virtualBack hx (y := (⟨"com/example/aerotome/aerotome/geometry/Interval", "joins", "(Lcom/example/aerotome/aerotome/geometry/Interval;)Z"⟩ : MethodName)) (z := (⟨"com/example/aerotome/aerotome/geometry/Interval", "joins", "(Lcom/example/aerotome/aerotome/geometry/Interval;)Z"⟩ : MethodName)) hown (mvT hZ (hw _ (List.mem_of_getElem? (i := 26) rfl))) (mvT hZ (hw _ (List.mem_of_getElem? (i := 27) rfl))) (notFace_of_selects (args := #[]) (mvT hZ (hw _ (List.mem_of_getElem? (i := 29) rfl)))) (mvT hZ (hw _ (List.mem_of_getElem? (i := 29) rfl))) (mvT hZ (hw _ (List.mem_of_getElem? (i := 28) rfl))) (by decide) (backOf (W := 0) (rm_4 l Z a0 hw [] a1 a3 k1 l1 m1 c1 k2 l2 m2 c2 T4.heap n0 Z4 G0 G1 G2 G3 F4_0 F4_1 F4_2 F4_3 ne13) hZ (hw _ (List.mem_of_getElem? (i := 30) rfl)) (hw _ (List.mem_of_getElem? (i := 2) rfl)) (by decide) (by decide)) qa8 qc8 (g := (mkF m 194 #[.val (.int p1), .val (.int p2), .val (.int p3), .val (.int p4), .val (.int p5), .val (.int k1), .val (.int m1), .val (.int k2), .val (.int m2), .val (.int l1), .val (.int c1), .val (.int l2), .val (.int c2), .val (.ref a1), .val (.ref a3), .val (.int ex)] [(.ref a3), (.ref a1)])) rfl (by rw [hml]; rfl) (Steps.refl _) (argsL := [(.ref a3)]) (rest := []) (lenOf pd_4 rfl) rfl (by show 2 * 0 + _ ≤ _; exact Nat.le_of_eq rfl) (hb hby at_194) (fun _ _ => ⟨rfl, e7, (by decide : 2 + 0 ≤ _), (by decide : 8 + 0 ≤ _)⟩)
  dsimp only [Pt.U, Pt.locs, Pt.cells, Pt.slots] at X8 l8 y8 z8 st8 hQ8
  subst l8 y8 z8
  obtain ⟨rfl, N8, e8⟩ := hQ8
  have fine : (if k2 < k1 then own_bz (own_jn k1 m2 c2 l1) else own_bz (own_jn k2 m1 c1 l2)) = ex := by rw [hex]; exact own_law v1 v2
  obtain ⟨fs, hr, hrun, hended, hW, hsame⟩ := X8.leave (v := some (.int (1 : Int32))) (fun h => by rw [Bd.returns] at h; cases h)
  refine ⟨_, _, pre0 _ ?_, hrun, hended, _, _, rfl, ?_, ⟨_, rfl⟩, hW, hsame.mono (by decide) (by decide)⟩
  · have k188 : Steps p.tables e below (T7.setTop (mkF m 188 #[.val (.int p1), .val (.int p2), .val (.int p3), .val (.int p4), .val (.int p5), .val (.int k1), .val (.int m1), .val (.int k2), .val (.int m2), .val (.int l1), .val (.int c1), .val (.int l2), .val (.int c2), .val (.ref a1), .val (.ref a3), .unset] [(.int ex)])) (T8.setFrames fs) := by
      show Steps p.tables e below (T7.setTop (mkF m 188 #[.val (.int p1), .val (.int p2), .val (.int p3), .val (.int p4), .val (.int p5), .val (.int k1), .val (.int m1), .val (.int k2), .val (.int m2), .val (.int l1), .val (.int c1), .val (.int l2), .val (.int c2), .val (.ref a1), .val (.ref a3), .unset] [(.int ex)])) _
      refine XS.istore X7.here hx rfl (hb hby at_188) rfl (l' := #[.val (.int p1), .val (.int p2), .val (.int p3), .val (.int p4), .val (.int p5), .val (.int k1), .val (.int m1), .val (.int k2), .val (.int m2), .val (.int l1), .val (.int c1), .val (.int l2), .val (.int c2), .val (.ref a1), .val (.ref a3), .val (.int ex)]) rfl ?_
      show Steps p.tables e below (T7.setTop (mkF m 190 #[.val (.int p1), .val (.int p2), .val (.int p3), .val (.int p4), .val (.int p5), .val (.int k1), .val (.int m1), .val (.int k2), .val (.int m2), .val (.int l1), .val (.int c1), .val (.int l2), .val (.int c2), .val (.ref a1), .val (.ref a3), .val (.int ex)] [])) _
      refine XS.aload X7.here hx rfl (hb hby at_190) rfl rfl ?_
      show Steps p.tables e below (T7.setTop (mkF m 192 #[.val (.int p1), .val (.int p2), .val (.int p3), .val (.int p4), .val (.int p5), .val (.int k1), .val (.int m1), .val (.int k2), .val (.int m2), .val (.int l1), .val (.int c1), .val (.int l2), .val (.int c2), .val (.ref a1), .val (.ref a3), .val (.int ex)] [(.ref a1)])) _
      refine XS.aload X7.here hx rfl (hb hby at_192) rfl rfl ?_
      show Steps p.tables e below (T7.setTop (mkF m 194 #[.val (.int p1), .val (.int p2), .val (.int p3), .val (.int p4), .val (.int p5), .val (.int k1), .val (.int m1), .val (.int k2), .val (.int m2), .val (.int l1), .val (.int c1), .val (.int l2), .val (.int c2), .val (.ref a1), .val (.ref a3), .val (.int ex)] [(.ref a3), (.ref a1)])) _
      refine st8.trans ?_
      show Steps p.tables e below (T8.setTop (mkF m 197 #[.val (.int p1), .val (.int p2), .val (.int p3), .val (.int p4), .val (.int p5), .val (.int k1), .val (.int m1), .val (.int k2), .val (.int m2), .val (.int l1), .val (.int c1), .val (.int l2), .val (.int c2), .val (.ref a1), .val (.ref a3), .val (.int ex)] [(.int (if k2 < k1 then own_bz (own_jn k1 m2 c2 l1) else own_bz (own_jn k2 m1 c1 l2)))])) _
      refine XS.iload X8.here hx rfl (hb hby at_197) rfl ?_
      show Steps p.tables e below (T8.setTop (mkF m 199 #[.val (.int p1), .val (.int p2), .val (.int p3), .val (.int p4), .val (.int p5), .val (.int k1), .val (.int m1), .val (.int k2), .val (.int m2), .val (.int l1), .val (.int c1), .val (.int l2), .val (.int c2), .val (.ref a1), .val (.ref a3), .val (.int ex)] [(.int ex), (.int (if k2 < k1 then own_bz (own_jn k1 m2 c2 l1) else own_bz (own_jn k2 m1 c1 l2)))])) _
      refine XS.icmpNo X8.here hx rfl (hb hby at_199) rfl (teq fine).2 ?_
      show Steps p.tables e below (T8.setTop (mkF m 202 #[.val (.int p1), .val (.int p2), .val (.int p3), .val (.int p4), .val (.int p5), .val (.int k1), .val (.int m1), .val (.int k2), .val (.int m2), .val (.int l1), .val (.int c1), .val (.int l2), .val (.int c2), .val (.ref a1), .val (.ref a3), .val (.int ex)] [])) _
      refine XS.iconst X8.here hx rfl (hb hby at_202) ?_
      show Steps p.tables e below (T8.setTop (mkF m 203 #[.val (.int p1), .val (.int p2), .val (.int p3), .val (.int p4), .val (.int p5), .val (.int k1), .val (.int m1), .val (.int k2), .val (.int m2), .val (.int l1), .val (.int c1), .val (.int l2), .val (.int c2), .val (.ref a1), .val (.ref a3), .val (.int ex)] [(.int (1 : Int32))])) _
      refine XS.goto X8.here hx rfl (pc0 := 203) (pc' := 207) rfl (hb hby at_203) (by decide) (by decide) ?_
      show Steps p.tables e below (T8.setTop (mkF m 207 #[.val (.int p1), .val (.int p2), .val (.int p3), .val (.int p4), .val (.int p5), .val (.int k1), .val (.int m1), .val (.int k2), .val (.int m2), .val (.int l1), .val (.int c1), .val (.int l2), .val (.int c2), .val (.ref a1), .val (.ref a3), .val (.int ex)] [(.int (1 : Int32))])) _
      exact retN X8 hx (t := .boolean) Bd.returns (by simp) (hb hby at_207) hr
    have k117 : Steps p.tables e below (s₁.setTop (mkF m 117 #[.val (.int p1), .val (.int p2), .val (.int p3), .val (.int p4), .val (.int p5), .val (.int k1), .val (.int m1), .val (.int k2), .val (.int m2), .val (.int l1), .val (.int c1), .val (.int l2), .val (.int c2), .unset, .unset, .unset] [])) (T8.setFrames fs) := by
      show Steps p.tables e below (s₁.setTop (mkF m 117 #[.val (.int p1), .val (.int p2), .val (.int p3), .val (.int p4), .val (.int p5), .val (.int k1), .val (.int m1), .val (.int k2), .val (.int m2), .val (.int l1), .val (.int c1), .val (.int l2), .val (.int c2), .unset, .unset, .unset] [])) _
      refine st1 _ ?_
      show Steps p.tables e below (T1.setTop (mkF m 120 #[.val (.int p1), .val (.int p2), .val (.int p3), .val (.int p4), .val (.int p5), .val (.int k1), .val (.int m1), .val (.int k2), .val (.int m2), .val (.int l1), .val (.int c1), .val (.int l2), .val (.int c2), .unset, .unset, .unset] [(.ref a1)])) _
      refine XS.dup X1.here hx rfl (hb hby at_120) rfl rfl ?_
      show Steps p.tables e below (T1.setTop (mkF m 121 #[.val (.int p1), .val (.int p2), .val (.int p3), .val (.int p4), .val (.int p5), .val (.int k1), .val (.int m1), .val (.int k2), .val (.int m2), .val (.int l1), .val (.int c1), .val (.int l2), .val (.int c2), .unset, .unset, .unset] [(.ref a1), (.ref a1)])) _
      refine XS.iload X1.here hx rfl (hb hby at_121) rfl ?_
      show Steps p.tables e below (T1.setTop (mkF m 123 #[.val (.int p1), .val (.int p2), .val (.int p3), .val (.int p4), .val (.int p5), .val (.int k1), .val (.int m1), .val (.int k2), .val (.int m2), .val (.int l1), .val (.int c1), .val (.int l2), .val (.int c2), .unset, .unset, .unset] [(.int k1), (.ref a1), (.ref a1)])) _
      refine XS.i2dS X1.here hx rfl (hb hby at_123) rfl rfl ?_
      show Steps p.tables e below (T1.setTop (mkF m 124 #[.val (.int p1), .val (.int p2), .val (.int p3), .val (.int p4), .val (.int p5), .val (.int k1), .val (.int m1), .val (.int k2), .val (.int m2), .val (.int l1), .val (.int c1), .val (.int l2), .val (.int c2), .unset, .unset, .unset] [(.double (FP.i2d k1)), (.ref a1), (.ref a1)])) _
      refine XS.iload X1.here hx rfl (hb hby at_124) rfl ?_
      show Steps p.tables e below (T1.setTop (mkF m 126 #[.val (.int p1), .val (.int p2), .val (.int p3), .val (.int p4), .val (.int p5), .val (.int k1), .val (.int m1), .val (.int k2), .val (.int m2), .val (.int l1), .val (.int c1), .val (.int l2), .val (.int c2), .unset, .unset, .unset] [(.int l1), (.double (FP.i2d k1)), (.ref a1), (.ref a1)])) _
      refine XS.iload X1.here hx rfl (hb hby at_126) rfl ?_
      show Steps p.tables e below (T1.setTop (mkF m 128 #[.val (.int p1), .val (.int p2), .val (.int p3), .val (.int p4), .val (.int p5), .val (.int k1), .val (.int m1), .val (.int k2), .val (.int m2), .val (.int l1), .val (.int c1), .val (.int l2), .val (.int c2), .unset, .unset, .unset] [(.int m1), (.int l1), (.double (FP.i2d k1)), (.ref a1), (.ref a1)])) _
      refine XS.i2dS X1.here hx rfl (hb hby at_128) rfl rfl ?_
      show Steps p.tables e below (T1.setTop (mkF m 129 #[.val (.int p1), .val (.int p2), .val (.int p3), .val (.int p4), .val (.int p5), .val (.int k1), .val (.int m1), .val (.int k2), .val (.int m2), .val (.int l1), .val (.int c1), .val (.int l2), .val (.int c2), .unset, .unset, .unset] [(.double (FP.i2d m1)), (.int l1), (.double (FP.i2d k1)), (.ref a1), (.ref a1)])) _
      refine XS.iload X1.here hx rfl (hb hby at_129) rfl ?_
      show Steps p.tables e below (T1.setTop (mkF m 131 #[.val (.int p1), .val (.int p2), .val (.int p3), .val (.int p4), .val (.int p5), .val (.int k1), .val (.int m1), .val (.int k2), .val (.int m2), .val (.int l1), .val (.int c1), .val (.int l2), .val (.int c2), .unset, .unset, .unset] [(.int c1), (.double (FP.i2d m1)), (.int l1), (.double (FP.i2d k1)), (.ref a1), (.ref a1)])) _
      refine st2.trans ?_
      show Steps p.tables e below (T2.setTop (mkF m 134 #[.val (.int p1), .val (.int p2), .val (.int p3), .val (.int p4), .val (.int p5), .val (.int k1), .val (.int m1), .val (.int k2), .val (.int m2), .val (.int l1), .val (.int c1), .val (.int l2), .val (.int c2), .unset, .unset, .unset] [(.ref a1)])) _
      refine XS.astore X2.here hx rfl (hb hby at_134) rfl rfl (l' := #[.val (.int p1), .val (.int p2), .val (.int p3), .val (.int p4), .val (.int p5), .val (.int k1), .val (.int m1), .val (.int k2), .val (.int m2), .val (.int l1), .val (.int c1), .val (.int l2), .val (.int c2), .val (.ref a1), .unset, .unset]) rfl ?_
      show Steps p.tables e below (T2.setTop (mkF m 136 #[.val (.int p1), .val (.int p2), .val (.int p3), .val (.int p4), .val (.int p5), .val (.int k1), .val (.int m1), .val (.int k2), .val (.int m2), .val (.int l1), .val (.int c1), .val (.int l2), .val (.int c2), .val (.ref a1), .unset, .unset] [])) _
      refine st3 _ ?_
      show Steps p.tables e below (T3.setTop (mkF m 139 #[.val (.int p1), .val (.int p2), .val (.int p3), .val (.int p4), .val (.int p5), .val (.int k1), .val (.int m1), .val (.int k2), .val (.int m2), .val (.int l1), .val (.int c1), .val (.int l2), .val (.int c2), .val (.ref a1), .unset, .unset] [(.ref a3)])) _
      refine XS.dup X3.here hx rfl (hb hby at_139) rfl rfl ?_
      show Steps p.tables e below (T3.setTop (mkF m 140 #[.val (.int p1), .val (.int p2), .val (.int p3), .val (.int p4), .val (.int p5), .val (.int k1), .val (.int m1), .val (.int k2), .val (.int m2), .val (.int l1), .val (.int c1), .val (.int l2), .val (.int c2), .val (.ref a1), .unset, .unset] [(.ref a3), (.ref a3)])) _
      refine XS.iload X3.here hx rfl (hb hby at_140) rfl ?_
      show Steps p.tables e below (T3.setTop (mkF m 142 #[.val (.int p1), .val (.int p2), .val (.int p3), .val (.int p4), .val (.int p5), .val (.int k1), .val (.int m1), .val (.int k2), .val (.int m2), .val (.int l1), .val (.int c1), .val (.int l2), .val (.int c2), .val (.ref a1), .unset, .unset] [(.int k2), (.ref a3), (.ref a3)])) _
      refine XS.i2dS X3.here hx rfl (hb hby at_142) rfl rfl ?_
      show Steps p.tables e below (T3.setTop (mkF m 143 #[.val (.int p1), .val (.int p2), .val (.int p3), .val (.int p4), .val (.int p5), .val (.int k1), .val (.int m1), .val (.int k2), .val (.int m2), .val (.int l1), .val (.int c1), .val (.int l2), .val (.int c2), .val (.ref a1), .unset, .unset] [(.double (FP.i2d k2)), (.ref a3), (.ref a3)])) _
      refine XS.iload X3.here hx rfl (hb hby at_143) rfl ?_
      show Steps p.tables e below (T3.setTop (mkF m 145 #[.val (.int p1), .val (.int p2), .val (.int p3), .val (.int p4), .val (.int p5), .val (.int k1), .val (.int m1), .val (.int k2), .val (.int m2), .val (.int l1), .val (.int c1), .val (.int l2), .val (.int c2), .val (.ref a1), .unset, .unset] [(.int l2), (.double (FP.i2d k2)), (.ref a3), (.ref a3)])) _
      refine XS.iload X3.here hx rfl (hb hby at_145) rfl ?_
      show Steps p.tables e below (T3.setTop (mkF m 147 #[.val (.int p1), .val (.int p2), .val (.int p3), .val (.int p4), .val (.int p5), .val (.int k1), .val (.int m1), .val (.int k2), .val (.int m2), .val (.int l1), .val (.int c1), .val (.int l2), .val (.int c2), .val (.ref a1), .unset, .unset] [(.int m2), (.int l2), (.double (FP.i2d k2)), (.ref a3), (.ref a3)])) _
      refine XS.i2dS X3.here hx rfl (hb hby at_147) rfl rfl ?_
      show Steps p.tables e below (T3.setTop (mkF m 148 #[.val (.int p1), .val (.int p2), .val (.int p3), .val (.int p4), .val (.int p5), .val (.int k1), .val (.int m1), .val (.int k2), .val (.int m2), .val (.int l1), .val (.int c1), .val (.int l2), .val (.int c2), .val (.ref a1), .unset, .unset] [(.double (FP.i2d m2)), (.int l2), (.double (FP.i2d k2)), (.ref a3), (.ref a3)])) _
      refine XS.iload X3.here hx rfl (hb hby at_148) rfl ?_
      show Steps p.tables e below (T3.setTop (mkF m 150 #[.val (.int p1), .val (.int p2), .val (.int p3), .val (.int p4), .val (.int p5), .val (.int k1), .val (.int m1), .val (.int k2), .val (.int m2), .val (.int l1), .val (.int c1), .val (.int l2), .val (.int c2), .val (.ref a1), .unset, .unset] [(.int c2), (.double (FP.i2d m2)), (.int l2), (.double (FP.i2d k2)), (.ref a3), (.ref a3)])) _
      refine st4.trans ?_
      show Steps p.tables e below (T4.setTop (mkF m 153 #[.val (.int p1), .val (.int p2), .val (.int p3), .val (.int p4), .val (.int p5), .val (.int k1), .val (.int m1), .val (.int k2), .val (.int m2), .val (.int l1), .val (.int c1), .val (.int l2), .val (.int c2), .val (.ref a1), .unset, .unset] [(.ref a3)])) _
      refine XS.astore X4.here hx rfl (hb hby at_153) rfl rfl (l' := #[.val (.int p1), .val (.int p2), .val (.int p3), .val (.int p4), .val (.int p5), .val (.int k1), .val (.int m1), .val (.int k2), .val (.int m2), .val (.int l1), .val (.int c1), .val (.int l2), .val (.int c2), .val (.ref a1), .val (.ref a3), .unset]) rfl ?_
      show Steps p.tables e below (T4.setTop (mkF m 155 #[.val (.int p1), .val (.int p2), .val (.int p3), .val (.int p4), .val (.int p5), .val (.int k1), .val (.int m1), .val (.int k2), .val (.int m2), .val (.int l1), .val (.int c1), .val (.int l2), .val (.int c2), .val (.ref a1), .val (.ref a3), .unset] [])) _
      exact st7 _ k188
    have m115 : ∀ z, z = c2 → Steps p.tables e below (s₁.setTop (mkF m 115 #[.val (.int p1), .val (.int p2), .val (.int p3), .val (.int p4), .val (.int p5), .val (.int k1), .val (.int m1), .val (.int k2), .val (.int m2), .val (.int l1), .val (.int c1), .val (.int l2), .unset, .unset, .unset, .unset] [(.int z)])) (T8.setFrames fs) := by
      intro z hz; rw [hz]
      show Steps p.tables e below (s₁.setTop (mkF m 115 #[.val (.int p1), .val (.int p2), .val (.int p3), .val (.int p4), .val (.int p5), .val (.int k1), .val (.int m1), .val (.int k2), .val (.int m2), .val (.int l1), .val (.int c1), .val (.int l2), .unset, .unset, .unset, .unset] [(.int c2)])) _
      refine XS.istore X0.here hx rfl (hb hby at_115) rfl (l' := #[.val (.int p1), .val (.int p2), .val (.int p3), .val (.int p4), .val (.int p5), .val (.int k1), .val (.int m1), .val (.int k2), .val (.int m2), .val (.int l1), .val (.int c1), .val (.int l2), .val (.int c2), .unset, .unset, .unset]) rfl ?_
      show Steps p.tables e below (s₁.setTop (mkF m 117 #[.val (.int p1), .val (.int p2), .val (.int p3), .val (.int p4), .val (.int p5), .val (.int k1), .val (.int m1), .val (.int k2), .val (.int m2), .val (.int l1), .val (.int c1), .val (.int l2), .val (.int c2), .unset, .unset, .unset] [])) _
      exact k117
    have k95 : Steps p.tables e below (s₁.setTop (mkF m 95 #[.val (.int p1), .val (.int p2), .val (.int p3), .val (.int p4), .val (.int p5), .val (.int k1), .val (.int m1), .val (.int k2), .val (.int m2), .val (.int l1), .val (.int c1), .val (.int l2), .unset, .unset, .unset, .unset] [])) (T8.setFrames fs) := by
      show Steps p.tables e below (s₁.setTop (mkF m 95 #[.val (.int p1), .val (.int p2), .val (.int p3), .val (.int p4), .val (.int p5), .val (.int k1), .val (.int m1), .val (.int k2), .val (.int m2), .val (.int l1), .val (.int c1), .val (.int l2), .unset, .unset, .unset, .unset] [])) _
      refine XS.iload X0.here hx rfl (hb hby at_95) rfl ?_
      show Steps p.tables e below (s₁.setTop (mkF m 97 #[.val (.int p1), .val (.int p2), .val (.int p3), .val (.int p4), .val (.int p5), .val (.int k1), .val (.int m1), .val (.int k2), .val (.int m2), .val (.int l1), .val (.int c1), .val (.int l2), .unset, .unset, .unset, .unset] [(.int p5)])) _
      refine XS.bipush X0.here hx rfl (hb hby at_97) ?_
      show Steps p.tables e below (s₁.setTop (mkF m 99 #[.val (.int p1), .val (.int p2), .val (.int p3), .val (.int p4), .val (.int p5), .val (.int k1), .val (.int m1), .val (.int k2), .val (.int m2), .val (.int l1), .val (.int c1), .val (.int l2), .unset, .unset, .unset, .unset] [(.int (8 : Int32)), (.int p5)])) _
      refine XS.iand X0.here hx rfl (hb hby at_99) rfl ?_
      show Steps p.tables e below (s₁.setTop (mkF m 100 #[.val (.int p1), .val (.int p2), .val (.int p3), .val (.int p4), .val (.int p5), .val (.int k1), .val (.int m1), .val (.int k2), .val (.int m2), .val (.int l1), .val (.int c1), .val (.int l2), .unset, .unset, .unset, .unset] [(.int (p5 &&& (8 : Int32)))])) _
      by_cases b1 : (p5 &&& (8 : Int32)) = (0 : Int32)
      · refine XS.ifNo X0.here hx rfl (hb hby at_100) rfl ((if0 _ _).trans (teq b1).2) ?_
        show Steps p.tables e below (s₁.setTop (mkF m 103 #[.val (.int p1), .val (.int p2), .val (.int p3), .val (.int p4), .val (.int p5), .val (.int k1), .val (.int m1), .val (.int k2), .val (.int m2), .val (.int l1), .val (.int c1), .val (.int l2), .unset, .unset, .unset, .unset] [])) _
        refine XS.iload X0.here hx rfl (hb hby at_103) rfl ?_
        show Steps p.tables e below (s₁.setTop (mkF m 105 #[.val (.int p1), .val (.int p2), .val (.int p3), .val (.int p4), .val (.int p5), .val (.int k1), .val (.int m1), .val (.int k2), .val (.int m2), .val (.int l1), .val (.int c1), .val (.int l2), .unset, .unset, .unset, .unset] [(.int k2)])) _
        refine XS.iload X0.here hx rfl (hb hby at_105) rfl ?_
        show Steps p.tables e below (s₁.setTop (mkF m 107 #[.val (.int p1), .val (.int p2), .val (.int p3), .val (.int p4), .val (.int p5), .val (.int k1), .val (.int m1), .val (.int k2), .val (.int m2), .val (.int l1), .val (.int c1), .val (.int l2), .unset, .unset, .unset, .unset] [(.int m2), (.int k2)])) _
        by_cases b2 : k2 = m2
        · refine XS.icmpNo X0.here hx rfl (hb hby at_107) rfl (teq b2).2 ?_
          show Steps p.tables e below (s₁.setTop (mkF m 110 #[.val (.int p1), .val (.int p2), .val (.int p3), .val (.int p4), .val (.int p5), .val (.int k1), .val (.int m1), .val (.int k2), .val (.int m2), .val (.int l1), .val (.int c1), .val (.int l2), .unset, .unset, .unset, .unset] [])) _
          refine XS.iconst X0.here hx rfl (hb hby at_110) ?_
          show Steps p.tables e below (s₁.setTop (mkF m 111 #[.val (.int p1), .val (.int p2), .val (.int p3), .val (.int p4), .val (.int p5), .val (.int k1), .val (.int m1), .val (.int k2), .val (.int m2), .val (.int l1), .val (.int c1), .val (.int l2), .unset, .unset, .unset, .unset] [(.int (1 : Int32))])) _
          refine XS.goto X0.here hx rfl (pc0 := 111) (pc' := 115) rfl (hb hby at_111) (by decide) (by decide) ?_
          show Steps p.tables e below (s₁.setTop (mkF m 115 #[.val (.int p1), .val (.int p2), .val (.int p3), .val (.int p4), .val (.int p5), .val (.int k1), .val (.int m1), .val (.int k2), .val (.int m2), .val (.int l1), .val (.int c1), .val (.int l2), .unset, .unset, .unset, .unset] [(.int (1 : Int32))])) _
          exact m115 _ (by rw [hc2, if_pos b1, if_pos b2])
        · refine XS.icmpYes X0.here hx rfl (pc0 := 107) (pc' := 114) rfl (hb hby at_107) rfl (feq b2).2 (by decide) (by decide) ?_
          show Steps p.tables e below (s₁.setTop (mkF m 114 #[.val (.int p1), .val (.int p2), .val (.int p3), .val (.int p4), .val (.int p5), .val (.int k1), .val (.int m1), .val (.int k2), .val (.int m2), .val (.int l1), .val (.int c1), .val (.int l2), .unset, .unset, .unset, .unset] [])) _
          refine XS.iconst X0.here hx rfl (hb hby at_114) ?_
          show Steps p.tables e below (s₁.setTop (mkF m 115 #[.val (.int p1), .val (.int p2), .val (.int p3), .val (.int p4), .val (.int p5), .val (.int k1), .val (.int m1), .val (.int k2), .val (.int m2), .val (.int l1), .val (.int c1), .val (.int l2), .unset, .unset, .unset, .unset] [(.int (0 : Int32))])) _
          exact m115 _ (by rw [hc2, if_pos b1, if_neg b2])
      · refine XS.ifYes X0.here hx rfl (pc0 := 100) (pc' := 110) rfl (hb hby at_100) rfl ((if0 _ _).trans (feq b1).2) (by decide) (by decide) ?_
        show Steps p.tables e below (s₁.setTop (mkF m 110 #[.val (.int p1), .val (.int p2), .val (.int p3), .val (.int p4), .val (.int p5), .val (.int k1), .val (.int m1), .val (.int k2), .val (.int m2), .val (.int l1), .val (.int c1), .val (.int l2), .unset, .unset, .unset, .unset] [])) _
        refine XS.iconst X0.here hx rfl (hb hby at_110) ?_
        show Steps p.tables e below (s₁.setTop (mkF m 111 #[.val (.int p1), .val (.int p2), .val (.int p3), .val (.int p4), .val (.int p5), .val (.int k1), .val (.int m1), .val (.int k2), .val (.int m2), .val (.int l1), .val (.int c1), .val (.int l2), .unset, .unset, .unset, .unset] [(.int (1 : Int32))])) _
        refine XS.goto X0.here hx rfl (pc0 := 111) (pc' := 115) rfl (hb hby at_111) (by decide) (by decide) ?_
        show Steps p.tables e below (s₁.setTop (mkF m 115 #[.val (.int p1), .val (.int p2), .val (.int p3), .val (.int p4), .val (.int p5), .val (.int k1), .val (.int m1), .val (.int k2), .val (.int m2), .val (.int l1), .val (.int c1), .val (.int l2), .unset, .unset, .unset, .unset] [(.int (1 : Int32))])) _
        exact m115 _ (by rw [hc2, if_neg b1])
    have m93 : ∀ z, z = l2 → Steps p.tables e below (s₁.setTop (mkF m 93 #[.val (.int p1), .val (.int p2), .val (.int p3), .val (.int p4), .val (.int p5), .val (.int k1), .val (.int m1), .val (.int k2), .val (.int m2), .val (.int l1), .val (.int c1), .unset, .unset, .unset, .unset, .unset] [(.int z)])) (T8.setFrames fs) := by
      intro z hz; rw [hz]
      show Steps p.tables e below (s₁.setTop (mkF m 93 #[.val (.int p1), .val (.int p2), .val (.int p3), .val (.int p4), .val (.int p5), .val (.int k1), .val (.int m1), .val (.int k2), .val (.int m2), .val (.int l1), .val (.int c1), .unset, .unset, .unset, .unset, .unset] [(.int l2)])) _
      refine XS.istore X0.here hx rfl (hb hby at_93) rfl (l' := #[.val (.int p1), .val (.int p2), .val (.int p3), .val (.int p4), .val (.int p5), .val (.int k1), .val (.int m1), .val (.int k2), .val (.int m2), .val (.int l1), .val (.int c1), .val (.int l2), .unset, .unset, .unset, .unset]) rfl ?_
      show Steps p.tables e below (s₁.setTop (mkF m 95 #[.val (.int p1), .val (.int p2), .val (.int p3), .val (.int p4), .val (.int p5), .val (.int k1), .val (.int m1), .val (.int k2), .val (.int m2), .val (.int l1), .val (.int c1), .val (.int l2), .unset, .unset, .unset, .unset] [])) _
      exact k95
    have k74 : Steps p.tables e below (s₁.setTop (mkF m 74 #[.val (.int p1), .val (.int p2), .val (.int p3), .val (.int p4), .val (.int p5), .val (.int k1), .val (.int m1), .val (.int k2), .val (.int m2), .val (.int l1), .val (.int c1), .unset, .unset, .unset, .unset, .unset] [])) (T8.setFrames fs) := by
      show Steps p.tables e below (s₁.setTop (mkF m 74 #[.val (.int p1), .val (.int p2), .val (.int p3), .val (.int p4), .val (.int p5), .val (.int k1), .val (.int m1), .val (.int k2), .val (.int m2), .val (.int l1), .val (.int c1), .unset, .unset, .unset, .unset, .unset] [])) _
      refine XS.iload X0.here hx rfl (hb hby at_74) rfl ?_
      show Steps p.tables e below (s₁.setTop (mkF m 76 #[.val (.int p1), .val (.int p2), .val (.int p3), .val (.int p4), .val (.int p5), .val (.int k1), .val (.int m1), .val (.int k2), .val (.int m2), .val (.int l1), .val (.int c1), .unset, .unset, .unset, .unset, .unset] [(.int p5)])) _
      refine XS.iconst X0.here hx rfl (hb hby at_76) ?_
      show Steps p.tables e below (s₁.setTop (mkF m 77 #[.val (.int p1), .val (.int p2), .val (.int p3), .val (.int p4), .val (.int p5), .val (.int k1), .val (.int m1), .val (.int k2), .val (.int m2), .val (.int l1), .val (.int c1), .unset, .unset, .unset, .unset, .unset] [(.int (4 : Int32)), (.int p5)])) _
      refine XS.iand X0.here hx rfl (hb hby at_77) rfl ?_
      show Steps p.tables e below (s₁.setTop (mkF m 78 #[.val (.int p1), .val (.int p2), .val (.int p3), .val (.int p4), .val (.int p5), .val (.int k1), .val (.int m1), .val (.int k2), .val (.int m2), .val (.int l1), .val (.int c1), .unset, .unset, .unset, .unset, .unset] [(.int (p5 &&& (4 : Int32)))])) _
      by_cases b1 : (p5 &&& (4 : Int32)) = (0 : Int32)
      · refine XS.ifNo X0.here hx rfl (hb hby at_78) rfl ((if0 _ _).trans (teq b1).2) ?_
        show Steps p.tables e below (s₁.setTop (mkF m 81 #[.val (.int p1), .val (.int p2), .val (.int p3), .val (.int p4), .val (.int p5), .val (.int k1), .val (.int m1), .val (.int k2), .val (.int m2), .val (.int l1), .val (.int c1), .unset, .unset, .unset, .unset, .unset] [])) _
        refine XS.iload X0.here hx rfl (hb hby at_81) rfl ?_
        show Steps p.tables e below (s₁.setTop (mkF m 83 #[.val (.int p1), .val (.int p2), .val (.int p3), .val (.int p4), .val (.int p5), .val (.int k1), .val (.int m1), .val (.int k2), .val (.int m2), .val (.int l1), .val (.int c1), .unset, .unset, .unset, .unset, .unset] [(.int k2)])) _
        refine XS.iload X0.here hx rfl (hb hby at_83) rfl ?_
        show Steps p.tables e below (s₁.setTop (mkF m 85 #[.val (.int p1), .val (.int p2), .val (.int p3), .val (.int p4), .val (.int p5), .val (.int k1), .val (.int m1), .val (.int k2), .val (.int m2), .val (.int l1), .val (.int c1), .unset, .unset, .unset, .unset, .unset] [(.int m2), (.int k2)])) _
        by_cases b2 : k2 = m2
        · refine XS.icmpNo X0.here hx rfl (hb hby at_85) rfl (teq b2).2 ?_
          show Steps p.tables e below (s₁.setTop (mkF m 88 #[.val (.int p1), .val (.int p2), .val (.int p3), .val (.int p4), .val (.int p5), .val (.int k1), .val (.int m1), .val (.int k2), .val (.int m2), .val (.int l1), .val (.int c1), .unset, .unset, .unset, .unset, .unset] [])) _
          refine XS.iconst X0.here hx rfl (hb hby at_88) ?_
          show Steps p.tables e below (s₁.setTop (mkF m 89 #[.val (.int p1), .val (.int p2), .val (.int p3), .val (.int p4), .val (.int p5), .val (.int k1), .val (.int m1), .val (.int k2), .val (.int m2), .val (.int l1), .val (.int c1), .unset, .unset, .unset, .unset, .unset] [(.int (1 : Int32))])) _
          refine XS.goto X0.here hx rfl (pc0 := 89) (pc' := 93) rfl (hb hby at_89) (by decide) (by decide) ?_
          show Steps p.tables e below (s₁.setTop (mkF m 93 #[.val (.int p1), .val (.int p2), .val (.int p3), .val (.int p4), .val (.int p5), .val (.int k1), .val (.int m1), .val (.int k2), .val (.int m2), .val (.int l1), .val (.int c1), .unset, .unset, .unset, .unset, .unset] [(.int (1 : Int32))])) _
          exact m93 _ (by rw [hl2, if_pos b1, if_pos b2])
        · refine XS.icmpYes X0.here hx rfl (pc0 := 85) (pc' := 92) rfl (hb hby at_85) rfl (feq b2).2 (by decide) (by decide) ?_
          show Steps p.tables e below (s₁.setTop (mkF m 92 #[.val (.int p1), .val (.int p2), .val (.int p3), .val (.int p4), .val (.int p5), .val (.int k1), .val (.int m1), .val (.int k2), .val (.int m2), .val (.int l1), .val (.int c1), .unset, .unset, .unset, .unset, .unset] [])) _
          refine XS.iconst X0.here hx rfl (hb hby at_92) ?_
          show Steps p.tables e below (s₁.setTop (mkF m 93 #[.val (.int p1), .val (.int p2), .val (.int p3), .val (.int p4), .val (.int p5), .val (.int k1), .val (.int m1), .val (.int k2), .val (.int m2), .val (.int l1), .val (.int c1), .unset, .unset, .unset, .unset, .unset] [(.int (0 : Int32))])) _
          exact m93 _ (by rw [hl2, if_pos b1, if_neg b2])
      · refine XS.ifYes X0.here hx rfl (pc0 := 78) (pc' := 88) rfl (hb hby at_78) rfl ((if0 _ _).trans (feq b1).2) (by decide) (by decide) ?_
        show Steps p.tables e below (s₁.setTop (mkF m 88 #[.val (.int p1), .val (.int p2), .val (.int p3), .val (.int p4), .val (.int p5), .val (.int k1), .val (.int m1), .val (.int k2), .val (.int m2), .val (.int l1), .val (.int c1), .unset, .unset, .unset, .unset, .unset] [])) _
        refine XS.iconst X0.here hx rfl (hb hby at_88) ?_
        show Steps p.tables e below (s₁.setTop (mkF m 89 #[.val (.int p1), .val (.int p2), .val (.int p3), .val (.int p4), .val (.int p5), .val (.int k1), .val (.int m1), .val (.int k2), .val (.int m2), .val (.int l1), .val (.int c1), .unset, .unset, .unset, .unset, .unset] [(.int (1 : Int32))])) _
        refine XS.goto X0.here hx rfl (pc0 := 89) (pc' := 93) rfl (hb hby at_89) (by decide) (by decide) ?_
        show Steps p.tables e below (s₁.setTop (mkF m 93 #[.val (.int p1), .val (.int p2), .val (.int p3), .val (.int p4), .val (.int p5), .val (.int k1), .val (.int m1), .val (.int k2), .val (.int m2), .val (.int l1), .val (.int c1), .unset, .unset, .unset, .unset, .unset] [(.int (1 : Int32))])) _
        exact m93 _ (by rw [hl2, if_neg b1])
    have m72 : ∀ z, z = c1 → Steps p.tables e below (s₁.setTop (mkF m 72 #[.val (.int p1), .val (.int p2), .val (.int p3), .val (.int p4), .val (.int p5), .val (.int k1), .val (.int m1), .val (.int k2), .val (.int m2), .val (.int l1), .unset, .unset, .unset, .unset, .unset, .unset] [(.int z)])) (T8.setFrames fs) := by
      intro z hz; rw [hz]
      show Steps p.tables e below (s₁.setTop (mkF m 72 #[.val (.int p1), .val (.int p2), .val (.int p3), .val (.int p4), .val (.int p5), .val (.int k1), .val (.int m1), .val (.int k2), .val (.int m2), .val (.int l1), .unset, .unset, .unset, .unset, .unset, .unset] [(.int c1)])) _
      refine XS.istore X0.here hx rfl (hb hby at_72) rfl (l' := #[.val (.int p1), .val (.int p2), .val (.int p3), .val (.int p4), .val (.int p5), .val (.int k1), .val (.int m1), .val (.int k2), .val (.int m2), .val (.int l1), .val (.int c1), .unset, .unset, .unset, .unset, .unset]) rfl ?_
      show Steps p.tables e below (s₁.setTop (mkF m 74 #[.val (.int p1), .val (.int p2), .val (.int p3), .val (.int p4), .val (.int p5), .val (.int k1), .val (.int m1), .val (.int k2), .val (.int m2), .val (.int l1), .val (.int c1), .unset, .unset, .unset, .unset, .unset] [])) _
      exact k74
    have k53 : Steps p.tables e below (s₁.setTop (mkF m 53 #[.val (.int p1), .val (.int p2), .val (.int p3), .val (.int p4), .val (.int p5), .val (.int k1), .val (.int m1), .val (.int k2), .val (.int m2), .val (.int l1), .unset, .unset, .unset, .unset, .unset, .unset] [])) (T8.setFrames fs) := by
      show Steps p.tables e below (s₁.setTop (mkF m 53 #[.val (.int p1), .val (.int p2), .val (.int p3), .val (.int p4), .val (.int p5), .val (.int k1), .val (.int m1), .val (.int k2), .val (.int m2), .val (.int l1), .unset, .unset, .unset, .unset, .unset, .unset] [])) _
      refine XS.iload X0.here hx rfl (hb hby at_53) rfl ?_
      show Steps p.tables e below (s₁.setTop (mkF m 55 #[.val (.int p1), .val (.int p2), .val (.int p3), .val (.int p4), .val (.int p5), .val (.int k1), .val (.int m1), .val (.int k2), .val (.int m2), .val (.int l1), .unset, .unset, .unset, .unset, .unset, .unset] [(.int p5)])) _
      refine XS.iconst X0.here hx rfl (hb hby at_55) ?_
      show Steps p.tables e below (s₁.setTop (mkF m 56 #[.val (.int p1), .val (.int p2), .val (.int p3), .val (.int p4), .val (.int p5), .val (.int k1), .val (.int m1), .val (.int k2), .val (.int m2), .val (.int l1), .unset, .unset, .unset, .unset, .unset, .unset] [(.int (2 : Int32)), (.int p5)])) _
      refine XS.iand X0.here hx rfl (hb hby at_56) rfl ?_
      show Steps p.tables e below (s₁.setTop (mkF m 57 #[.val (.int p1), .val (.int p2), .val (.int p3), .val (.int p4), .val (.int p5), .val (.int k1), .val (.int m1), .val (.int k2), .val (.int m2), .val (.int l1), .unset, .unset, .unset, .unset, .unset, .unset] [(.int (p5 &&& (2 : Int32)))])) _
      by_cases b1 : (p5 &&& (2 : Int32)) = (0 : Int32)
      · refine XS.ifNo X0.here hx rfl (hb hby at_57) rfl ((if0 _ _).trans (teq b1).2) ?_
        show Steps p.tables e below (s₁.setTop (mkF m 60 #[.val (.int p1), .val (.int p2), .val (.int p3), .val (.int p4), .val (.int p5), .val (.int k1), .val (.int m1), .val (.int k2), .val (.int m2), .val (.int l1), .unset, .unset, .unset, .unset, .unset, .unset] [])) _
        refine XS.iload X0.here hx rfl (hb hby at_60) rfl ?_
        show Steps p.tables e below (s₁.setTop (mkF m 62 #[.val (.int p1), .val (.int p2), .val (.int p3), .val (.int p4), .val (.int p5), .val (.int k1), .val (.int m1), .val (.int k2), .val (.int m2), .val (.int l1), .unset, .unset, .unset, .unset, .unset, .unset] [(.int k1)])) _
        refine XS.iload X0.here hx rfl (hb hby at_62) rfl ?_
        show Steps p.tables e below (s₁.setTop (mkF m 64 #[.val (.int p1), .val (.int p2), .val (.int p3), .val (.int p4), .val (.int p5), .val (.int k1), .val (.int m1), .val (.int k2), .val (.int m2), .val (.int l1), .unset, .unset, .unset, .unset, .unset, .unset] [(.int m1), (.int k1)])) _
        by_cases b2 : k1 = m1
        · refine XS.icmpNo X0.here hx rfl (hb hby at_64) rfl (teq b2).2 ?_
          show Steps p.tables e below (s₁.setTop (mkF m 67 #[.val (.int p1), .val (.int p2), .val (.int p3), .val (.int p4), .val (.int p5), .val (.int k1), .val (.int m1), .val (.int k2), .val (.int m2), .val (.int l1), .unset, .unset, .unset, .unset, .unset, .unset] [])) _
          refine XS.iconst X0.here hx rfl (hb hby at_67) ?_
          show Steps p.tables e below (s₁.setTop (mkF m 68 #[.val (.int p1), .val (.int p2), .val (.int p3), .val (.int p4), .val (.int p5), .val (.int k1), .val (.int m1), .val (.int k2), .val (.int m2), .val (.int l1), .unset, .unset, .unset, .unset, .unset, .unset] [(.int (1 : Int32))])) _
          refine XS.goto X0.here hx rfl (pc0 := 68) (pc' := 72) rfl (hb hby at_68) (by decide) (by decide) ?_
          show Steps p.tables e below (s₁.setTop (mkF m 72 #[.val (.int p1), .val (.int p2), .val (.int p3), .val (.int p4), .val (.int p5), .val (.int k1), .val (.int m1), .val (.int k2), .val (.int m2), .val (.int l1), .unset, .unset, .unset, .unset, .unset, .unset] [(.int (1 : Int32))])) _
          exact m72 _ (by rw [hc1, if_pos b1, if_pos b2])
        · refine XS.icmpYes X0.here hx rfl (pc0 := 64) (pc' := 71) rfl (hb hby at_64) rfl (feq b2).2 (by decide) (by decide) ?_
          show Steps p.tables e below (s₁.setTop (mkF m 71 #[.val (.int p1), .val (.int p2), .val (.int p3), .val (.int p4), .val (.int p5), .val (.int k1), .val (.int m1), .val (.int k2), .val (.int m2), .val (.int l1), .unset, .unset, .unset, .unset, .unset, .unset] [])) _
          refine XS.iconst X0.here hx rfl (hb hby at_71) ?_
          show Steps p.tables e below (s₁.setTop (mkF m 72 #[.val (.int p1), .val (.int p2), .val (.int p3), .val (.int p4), .val (.int p5), .val (.int k1), .val (.int m1), .val (.int k2), .val (.int m2), .val (.int l1), .unset, .unset, .unset, .unset, .unset, .unset] [(.int (0 : Int32))])) _
          exact m72 _ (by rw [hc1, if_pos b1, if_neg b2])
      · refine XS.ifYes X0.here hx rfl (pc0 := 57) (pc' := 67) rfl (hb hby at_57) rfl ((if0 _ _).trans (feq b1).2) (by decide) (by decide) ?_
        show Steps p.tables e below (s₁.setTop (mkF m 67 #[.val (.int p1), .val (.int p2), .val (.int p3), .val (.int p4), .val (.int p5), .val (.int k1), .val (.int m1), .val (.int k2), .val (.int m2), .val (.int l1), .unset, .unset, .unset, .unset, .unset, .unset] [])) _
        refine XS.iconst X0.here hx rfl (hb hby at_67) ?_
        show Steps p.tables e below (s₁.setTop (mkF m 68 #[.val (.int p1), .val (.int p2), .val (.int p3), .val (.int p4), .val (.int p5), .val (.int k1), .val (.int m1), .val (.int k2), .val (.int m2), .val (.int l1), .unset, .unset, .unset, .unset, .unset, .unset] [(.int (1 : Int32))])) _
        refine XS.goto X0.here hx rfl (pc0 := 68) (pc' := 72) rfl (hb hby at_68) (by decide) (by decide) ?_
        show Steps p.tables e below (s₁.setTop (mkF m 72 #[.val (.int p1), .val (.int p2), .val (.int p3), .val (.int p4), .val (.int p5), .val (.int k1), .val (.int m1), .val (.int k2), .val (.int m2), .val (.int l1), .unset, .unset, .unset, .unset, .unset, .unset] [(.int (1 : Int32))])) _
        exact m72 _ (by rw [hc1, if_neg b1])
    have m51 : ∀ z, z = l1 → Steps p.tables e below (s₁.setTop (mkF m 51 #[.val (.int p1), .val (.int p2), .val (.int p3), .val (.int p4), .val (.int p5), .val (.int k1), .val (.int m1), .val (.int k2), .val (.int m2), .unset, .unset, .unset, .unset, .unset, .unset, .unset] [(.int z)])) (T8.setFrames fs) := by
      intro z hz; rw [hz]
      show Steps p.tables e below (s₁.setTop (mkF m 51 #[.val (.int p1), .val (.int p2), .val (.int p3), .val (.int p4), .val (.int p5), .val (.int k1), .val (.int m1), .val (.int k2), .val (.int m2), .unset, .unset, .unset, .unset, .unset, .unset, .unset] [(.int l1)])) _
      refine XS.istore X0.here hx rfl (hb hby at_51) rfl (l' := #[.val (.int p1), .val (.int p2), .val (.int p3), .val (.int p4), .val (.int p5), .val (.int k1), .val (.int m1), .val (.int k2), .val (.int m2), .val (.int l1), .unset, .unset, .unset, .unset, .unset, .unset]) rfl ?_
      show Steps p.tables e below (s₁.setTop (mkF m 53 #[.val (.int p1), .val (.int p2), .val (.int p3), .val (.int p4), .val (.int p5), .val (.int k1), .val (.int m1), .val (.int k2), .val (.int m2), .val (.int l1), .unset, .unset, .unset, .unset, .unset, .unset] [])) _
      exact k53
    have k32 : Steps p.tables e below (s₁.setTop (mkF m 32 #[.val (.int p1), .val (.int p2), .val (.int p3), .val (.int p4), .val (.int p5), .val (.int k1), .val (.int m1), .val (.int k2), .val (.int m2), .unset, .unset, .unset, .unset, .unset, .unset, .unset] [])) (T8.setFrames fs) := by
      show Steps p.tables e below (s₁.setTop (mkF m 32 #[.val (.int p1), .val (.int p2), .val (.int p3), .val (.int p4), .val (.int p5), .val (.int k1), .val (.int m1), .val (.int k2), .val (.int m2), .unset, .unset, .unset, .unset, .unset, .unset, .unset] [])) _
      refine XS.iload X0.here hx rfl (hb hby at_32) rfl ?_
      show Steps p.tables e below (s₁.setTop (mkF m 34 #[.val (.int p1), .val (.int p2), .val (.int p3), .val (.int p4), .val (.int p5), .val (.int k1), .val (.int m1), .val (.int k2), .val (.int m2), .unset, .unset, .unset, .unset, .unset, .unset, .unset] [(.int p5)])) _
      refine XS.iconst X0.here hx rfl (hb hby at_34) ?_
      show Steps p.tables e below (s₁.setTop (mkF m 35 #[.val (.int p1), .val (.int p2), .val (.int p3), .val (.int p4), .val (.int p5), .val (.int k1), .val (.int m1), .val (.int k2), .val (.int m2), .unset, .unset, .unset, .unset, .unset, .unset, .unset] [(.int (1 : Int32)), (.int p5)])) _
      refine XS.iand X0.here hx rfl (hb hby at_35) rfl ?_
      show Steps p.tables e below (s₁.setTop (mkF m 36 #[.val (.int p1), .val (.int p2), .val (.int p3), .val (.int p4), .val (.int p5), .val (.int k1), .val (.int m1), .val (.int k2), .val (.int m2), .unset, .unset, .unset, .unset, .unset, .unset, .unset] [(.int (p5 &&& (1 : Int32)))])) _
      by_cases b1 : (p5 &&& (1 : Int32)) = (0 : Int32)
      · refine XS.ifNo X0.here hx rfl (hb hby at_36) rfl ((if0 _ _).trans (teq b1).2) ?_
        show Steps p.tables e below (s₁.setTop (mkF m 39 #[.val (.int p1), .val (.int p2), .val (.int p3), .val (.int p4), .val (.int p5), .val (.int k1), .val (.int m1), .val (.int k2), .val (.int m2), .unset, .unset, .unset, .unset, .unset, .unset, .unset] [])) _
        refine XS.iload X0.here hx rfl (hb hby at_39) rfl ?_
        show Steps p.tables e below (s₁.setTop (mkF m 41 #[.val (.int p1), .val (.int p2), .val (.int p3), .val (.int p4), .val (.int p5), .val (.int k1), .val (.int m1), .val (.int k2), .val (.int m2), .unset, .unset, .unset, .unset, .unset, .unset, .unset] [(.int k1)])) _
        refine XS.iload X0.here hx rfl (hb hby at_41) rfl ?_
        show Steps p.tables e below (s₁.setTop (mkF m 43 #[.val (.int p1), .val (.int p2), .val (.int p3), .val (.int p4), .val (.int p5), .val (.int k1), .val (.int m1), .val (.int k2), .val (.int m2), .unset, .unset, .unset, .unset, .unset, .unset, .unset] [(.int m1), (.int k1)])) _
        by_cases b2 : k1 = m1
        · refine XS.icmpNo X0.here hx rfl (hb hby at_43) rfl (teq b2).2 ?_
          show Steps p.tables e below (s₁.setTop (mkF m 46 #[.val (.int p1), .val (.int p2), .val (.int p3), .val (.int p4), .val (.int p5), .val (.int k1), .val (.int m1), .val (.int k2), .val (.int m2), .unset, .unset, .unset, .unset, .unset, .unset, .unset] [])) _
          refine XS.iconst X0.here hx rfl (hb hby at_46) ?_
          show Steps p.tables e below (s₁.setTop (mkF m 47 #[.val (.int p1), .val (.int p2), .val (.int p3), .val (.int p4), .val (.int p5), .val (.int k1), .val (.int m1), .val (.int k2), .val (.int m2), .unset, .unset, .unset, .unset, .unset, .unset, .unset] [(.int (1 : Int32))])) _
          refine XS.goto X0.here hx rfl (pc0 := 47) (pc' := 51) rfl (hb hby at_47) (by decide) (by decide) ?_
          show Steps p.tables e below (s₁.setTop (mkF m 51 #[.val (.int p1), .val (.int p2), .val (.int p3), .val (.int p4), .val (.int p5), .val (.int k1), .val (.int m1), .val (.int k2), .val (.int m2), .unset, .unset, .unset, .unset, .unset, .unset, .unset] [(.int (1 : Int32))])) _
          exact m51 _ (by rw [hl1, if_pos b1, if_pos b2])
        · refine XS.icmpYes X0.here hx rfl (pc0 := 43) (pc' := 50) rfl (hb hby at_43) rfl (feq b2).2 (by decide) (by decide) ?_
          show Steps p.tables e below (s₁.setTop (mkF m 50 #[.val (.int p1), .val (.int p2), .val (.int p3), .val (.int p4), .val (.int p5), .val (.int k1), .val (.int m1), .val (.int k2), .val (.int m2), .unset, .unset, .unset, .unset, .unset, .unset, .unset] [])) _
          refine XS.iconst X0.here hx rfl (hb hby at_50) ?_
          show Steps p.tables e below (s₁.setTop (mkF m 51 #[.val (.int p1), .val (.int p2), .val (.int p3), .val (.int p4), .val (.int p5), .val (.int k1), .val (.int m1), .val (.int k2), .val (.int m2), .unset, .unset, .unset, .unset, .unset, .unset, .unset] [(.int (0 : Int32))])) _
          exact m51 _ (by rw [hl1, if_pos b1, if_neg b2])
      · refine XS.ifYes X0.here hx rfl (pc0 := 36) (pc' := 46) rfl (hb hby at_36) rfl ((if0 _ _).trans (feq b1).2) (by decide) (by decide) ?_
        show Steps p.tables e below (s₁.setTop (mkF m 46 #[.val (.int p1), .val (.int p2), .val (.int p3), .val (.int p4), .val (.int p5), .val (.int k1), .val (.int m1), .val (.int k2), .val (.int m2), .unset, .unset, .unset, .unset, .unset, .unset, .unset] [])) _
        refine XS.iconst X0.here hx rfl (hb hby at_46) ?_
        show Steps p.tables e below (s₁.setTop (mkF m 47 #[.val (.int p1), .val (.int p2), .val (.int p3), .val (.int p4), .val (.int p5), .val (.int k1), .val (.int m1), .val (.int k2), .val (.int m2), .unset, .unset, .unset, .unset, .unset, .unset, .unset] [(.int (1 : Int32))])) _
        refine XS.goto X0.here hx rfl (pc0 := 47) (pc' := 51) rfl (hb hby at_47) (by decide) (by decide) ?_
        show Steps p.tables e below (s₁.setTop (mkF m 51 #[.val (.int p1), .val (.int p2), .val (.int p3), .val (.int p4), .val (.int p5), .val (.int k1), .val (.int m1), .val (.int k2), .val (.int m2), .unset, .unset, .unset, .unset, .unset, .unset, .unset] [(.int (1 : Int32))])) _
        exact m51 _ (by rw [hl1, if_neg b1])
    show Steps p.tables e below (s₁.setTop (mkF m 0 #[.val (.int p1), .val (.int p2), .val (.int p3), .val (.int p4), .val (.int p5), .unset, .unset, .unset, .unset, .unset, .unset, .unset, .unset, .unset, .unset, .unset] [])) _
    refine XS.iloadN X0.here hx rfl (hb hby at_0) rfl ?_
    show Steps p.tables e below (s₁.setTop (mkF m 1 #[.val (.int p1), .val (.int p2), .val (.int p3), .val (.int p4), .val (.int p5), .unset, .unset, .unset, .unset, .unset, .unset, .unset, .unset, .unset, .unset, .unset] [(.int p1)])) _
    refine XS.bipush X0.here hx rfl (hb hby at_1) ?_
    show Steps p.tables e below (s₁.setTop (mkF m 3 #[.val (.int p1), .val (.int p2), .val (.int p3), .val (.int p4), .val (.int p5), .unset, .unset, .unset, .unset, .unset, .unset, .unset, .unset, .unset, .unset, .unset] [(.int (7 : Int32)), (.int p1)])) _
    refine XS.iand X0.here hx rfl (hb hby at_3) rfl ?_
    show Steps p.tables e below (s₁.setTop (mkF m 4 #[.val (.int p1), .val (.int p2), .val (.int p3), .val (.int p4), .val (.int p5), .unset, .unset, .unset, .unset, .unset, .unset, .unset, .unset, .unset, .unset, .unset] [(.int (p1 &&& (7 : Int32)))])) _
    refine XS.iconst X0.here hx rfl (hb hby at_4) ?_
    show Steps p.tables e below (s₁.setTop (mkF m 5 #[.val (.int p1), .val (.int p2), .val (.int p3), .val (.int p4), .val (.int p5), .unset, .unset, .unset, .unset, .unset, .unset, .unset, .unset, .unset, .unset, .unset] [(.int (4 : Int32)), (.int (p1 &&& (7 : Int32)))])) _
    refine XS.isub X0.here hx rfl (hb hby at_5) rfl ?_
    show Steps p.tables e below (s₁.setTop (mkF m 6 #[.val (.int p1), .val (.int p2), .val (.int p3), .val (.int p4), .val (.int p5), .unset, .unset, .unset, .unset, .unset, .unset, .unset, .unset, .unset, .unset, .unset] [(.int ((p1 &&& (7 : Int32)) - (4 : Int32)))])) _
    refine XS.istore X0.here hx rfl (hb hby at_6) rfl (l' := #[.val (.int p1), .val (.int p2), .val (.int p3), .val (.int p4), .val (.int p5), .val (.int k1), .unset, .unset, .unset, .unset, .unset, .unset, .unset, .unset, .unset, .unset]) (by rw [hk1]; rfl) ?_
    show Steps p.tables e below (s₁.setTop (mkF m 8 #[.val (.int p1), .val (.int p2), .val (.int p3), .val (.int p4), .val (.int p5), .val (.int k1), .unset, .unset, .unset, .unset, .unset, .unset, .unset, .unset, .unset, .unset] [])) _
    refine XS.iload X0.here hx rfl (hb hby at_8) rfl ?_
    show Steps p.tables e below (s₁.setTop (mkF m 10 #[.val (.int p1), .val (.int p2), .val (.int p3), .val (.int p4), .val (.int p5), .val (.int k1), .unset, .unset, .unset, .unset, .unset, .unset, .unset, .unset, .unset, .unset] [(.int k1)])) _
    refine XS.iloadN X0.here hx rfl (hb hby at_10) rfl ?_
    show Steps p.tables e below (s₁.setTop (mkF m 11 #[.val (.int p1), .val (.int p2), .val (.int p3), .val (.int p4), .val (.int p5), .val (.int k1), .unset, .unset, .unset, .unset, .unset, .unset, .unset, .unset, .unset, .unset] [(.int p2), (.int k1)])) _
    refine XS.iconst X0.here hx rfl (hb hby at_11) ?_
    show Steps p.tables e below (s₁.setTop (mkF m 12 #[.val (.int p1), .val (.int p2), .val (.int p3), .val (.int p4), .val (.int p5), .val (.int k1), .unset, .unset, .unset, .unset, .unset, .unset, .unset, .unset, .unset, .unset] [(.int (3 : Int32)), (.int p2), (.int k1)])) _
    refine XS.iand X0.here hx rfl (hb hby at_12) rfl ?_
    show Steps p.tables e below (s₁.setTop (mkF m 13 #[.val (.int p1), .val (.int p2), .val (.int p3), .val (.int p4), .val (.int p5), .val (.int k1), .unset, .unset, .unset, .unset, .unset, .unset, .unset, .unset, .unset, .unset] [(.int (p2 &&& (3 : Int32))), (.int k1)])) _
    refine XS.iadd X0.here hx rfl (hb hby at_13) rfl ?_
    show Steps p.tables e below (s₁.setTop (mkF m 14 #[.val (.int p1), .val (.int p2), .val (.int p3), .val (.int p4), .val (.int p5), .val (.int k1), .unset, .unset, .unset, .unset, .unset, .unset, .unset, .unset, .unset, .unset] [(.int (k1 + (p2 &&& (3 : Int32))))])) _
    refine XS.istore X0.here hx rfl (hb hby at_14) rfl (l' := #[.val (.int p1), .val (.int p2), .val (.int p3), .val (.int p4), .val (.int p5), .val (.int k1), .val (.int m1), .unset, .unset, .unset, .unset, .unset, .unset, .unset, .unset, .unset]) (by rw [hm1]; rfl) ?_
    show Steps p.tables e below (s₁.setTop (mkF m 16 #[.val (.int p1), .val (.int p2), .val (.int p3), .val (.int p4), .val (.int p5), .val (.int k1), .val (.int m1), .unset, .unset, .unset, .unset, .unset, .unset, .unset, .unset, .unset] [])) _
    refine XS.iloadN X0.here hx rfl (hb hby at_16) rfl ?_
    show Steps p.tables e below (s₁.setTop (mkF m 17 #[.val (.int p1), .val (.int p2), .val (.int p3), .val (.int p4), .val (.int p5), .val (.int k1), .val (.int m1), .unset, .unset, .unset, .unset, .unset, .unset, .unset, .unset, .unset] [(.int p3)])) _
    refine XS.bipush X0.here hx rfl (hb hby at_17) ?_
    show Steps p.tables e below (s₁.setTop (mkF m 19 #[.val (.int p1), .val (.int p2), .val (.int p3), .val (.int p4), .val (.int p5), .val (.int k1), .val (.int m1), .unset, .unset, .unset, .unset, .unset, .unset, .unset, .unset, .unset] [(.int (7 : Int32)), (.int p3)])) _
    refine XS.iand X0.here hx rfl (hb hby at_19) rfl ?_
    show Steps p.tables e below (s₁.setTop (mkF m 20 #[.val (.int p1), .val (.int p2), .val (.int p3), .val (.int p4), .val (.int p5), .val (.int k1), .val (.int m1), .unset, .unset, .unset, .unset, .unset, .unset, .unset, .unset, .unset] [(.int (p3 &&& (7 : Int32)))])) _
    refine XS.iconst X0.here hx rfl (hb hby at_20) ?_
    show Steps p.tables e below (s₁.setTop (mkF m 21 #[.val (.int p1), .val (.int p2), .val (.int p3), .val (.int p4), .val (.int p5), .val (.int k1), .val (.int m1), .unset, .unset, .unset, .unset, .unset, .unset, .unset, .unset, .unset] [(.int (4 : Int32)), (.int (p3 &&& (7 : Int32)))])) _
    refine XS.isub X0.here hx rfl (hb hby at_21) rfl ?_
    show Steps p.tables e below (s₁.setTop (mkF m 22 #[.val (.int p1), .val (.int p2), .val (.int p3), .val (.int p4), .val (.int p5), .val (.int k1), .val (.int m1), .unset, .unset, .unset, .unset, .unset, .unset, .unset, .unset, .unset] [(.int ((p3 &&& (7 : Int32)) - (4 : Int32)))])) _
    refine XS.istore X0.here hx rfl (hb hby at_22) rfl (l' := #[.val (.int p1), .val (.int p2), .val (.int p3), .val (.int p4), .val (.int p5), .val (.int k1), .val (.int m1), .val (.int k2), .unset, .unset, .unset, .unset, .unset, .unset, .unset, .unset]) (by rw [hk2]; rfl) ?_
    show Steps p.tables e below (s₁.setTop (mkF m 24 #[.val (.int p1), .val (.int p2), .val (.int p3), .val (.int p4), .val (.int p5), .val (.int k1), .val (.int m1), .val (.int k2), .unset, .unset, .unset, .unset, .unset, .unset, .unset, .unset] [])) _
    refine XS.iload X0.here hx rfl (hb hby at_24) rfl ?_
    show Steps p.tables e below (s₁.setTop (mkF m 26 #[.val (.int p1), .val (.int p2), .val (.int p3), .val (.int p4), .val (.int p5), .val (.int k1), .val (.int m1), .val (.int k2), .unset, .unset, .unset, .unset, .unset, .unset, .unset, .unset] [(.int k2)])) _
    refine XS.iloadN X0.here hx rfl (hb hby at_26) rfl ?_
    show Steps p.tables e below (s₁.setTop (mkF m 27 #[.val (.int p1), .val (.int p2), .val (.int p3), .val (.int p4), .val (.int p5), .val (.int k1), .val (.int m1), .val (.int k2), .unset, .unset, .unset, .unset, .unset, .unset, .unset, .unset] [(.int p4), (.int k2)])) _
    refine XS.iconst X0.here hx rfl (hb hby at_27) ?_
    show Steps p.tables e below (s₁.setTop (mkF m 28 #[.val (.int p1), .val (.int p2), .val (.int p3), .val (.int p4), .val (.int p5), .val (.int k1), .val (.int m1), .val (.int k2), .unset, .unset, .unset, .unset, .unset, .unset, .unset, .unset] [(.int (3 : Int32)), (.int p4), (.int k2)])) _
    refine XS.iand X0.here hx rfl (hb hby at_28) rfl ?_
    show Steps p.tables e below (s₁.setTop (mkF m 29 #[.val (.int p1), .val (.int p2), .val (.int p3), .val (.int p4), .val (.int p5), .val (.int k1), .val (.int m1), .val (.int k2), .unset, .unset, .unset, .unset, .unset, .unset, .unset, .unset] [(.int (p4 &&& (3 : Int32))), (.int k2)])) _
    refine XS.iadd X0.here hx rfl (hb hby at_29) rfl ?_
    show Steps p.tables e below (s₁.setTop (mkF m 30 #[.val (.int p1), .val (.int p2), .val (.int p3), .val (.int p4), .val (.int p5), .val (.int k1), .val (.int m1), .val (.int k2), .unset, .unset, .unset, .unset, .unset, .unset, .unset, .unset] [(.int (k2 + (p4 &&& (3 : Int32))))])) _
    refine XS.istore X0.here hx rfl (hb hby at_30) rfl (l' := #[.val (.int p1), .val (.int p2), .val (.int p3), .val (.int p4), .val (.int p5), .val (.int k1), .val (.int m1), .val (.int k2), .val (.int m2), .unset, .unset, .unset, .unset, .unset, .unset, .unset]) (by rw [hm2]; rfl) ?_
    show Steps p.tables e below (s₁.setTop (mkF m 32 #[.val (.int p1), .val (.int p2), .val (.int p3), .val (.int p4), .val (.int p5), .val (.int k1), .val (.int m1), .val (.int k2), .val (.int m2), .unset, .unset, .unset, .unset, .unset, .unset, .unset] [])) _
    exact k32
  · exact ⟨rfl, Fr.app N7 N8⟩
set_option maxRecDepth 65536 in
set_option maxHeartbeats 40000000 in
theorem comes_1 {Post : Tables → Env → Array Value → State → Outcome → State → Prop} (hpost : ∀ tb e args s v u, (limb_1_1.after args s (.returned v) u = true ∧ limb_1_2.after args s (.returned v) u = true ∧ True) → FrameEnd s (.returned v) u (Jvm.fieldLocs frame_1_writes args s ++ Jvm.arrayLocs frame_1_arrays args s ++ Jvm.staticLocs frame_1_statics s) 16 128 → Post tb e args s (.returned v) u) :
    ArmFor flags0 classFile x code maxLocals ret World_1 tables_1 room_1 Calls_1 rest_1 Pre_1 Post := by
  intro l hfl _ _ p e ha hc hk s m args below hf hA hF happ hP
  obtain ⟨hcalls, hrest, hpre⟩ := hP
  obtain ⟨-, -, -, hnamed, -, -, -, hat⟩ := (Spec.applies_iff hf).mp happ
  obtain ⟨hg, hn⟩ := and_e (Cond.before_iff.mp (show (Jvm.Cond.and given_1 narrow_1).before args s = true from hpre))
  obtain ⟨h1, g0⟩ := and_e hg
  obtain ⟨c0, g1⟩ := and_e g0
  obtain ⟨c1, g2⟩ := and_e g1
  obtain ⟨c2, g3⟩ := and_e g2
  obtain ⟨c3, g4⟩ := and_e g3
  obtain ⟨w0, w1, w2, w3, w4, rfl⟩ : ∃ w0 w1 w2 w3 w4 : Value, args = #[w0, w1, w2, w3, w4] := by
    have hs : args.size = 5 := by simpa [Cond.value, given_1] using h1
    obtain ⟨L⟩ := args
    match L, hs with
    | [w0, w1, w2, w3, w4], _ => exact ⟨w0, w1, w2, w3, w4, rfl⟩
  have hw := fun d (hd : d ∈ tables_1) => atoms_spec (ws := Jvm.Cond.code x code maxLocals ret :: tables_1) hat d (List.mem_cons_of_mem _ hd)
  obtain ⟨i0, q0⟩ := is_v c0
  obtain rfl : w0 = (.int i0) := Option.some.inj q0
  obtain ⟨i1, q1⟩ := is_v c1
  obtain rfl : w1 = (.int i1) := Option.some.inj q1
  obtain ⟨i2, q2⟩ := is_v c2
  obtain rfl : w2 = (.int i2) := Option.some.inj q2
  obtain ⟨i3, q3⟩ := is_v c3
  obtain rfl : w3 = (.int i3) := Option.some.inj q3
  obtain ⟨i4, q4⟩ := is_v g4
  obtain rfl : w4 = (.int i4) := Option.some.inj q4
  obtain ⟨n, o, h1, h2, h3, _, L, rfl, ⟨rfl, N⟩, hq⟩ := rm_0 l s _ hw tables_1 i0 i1 i2 i3 i4 s.heap s.heap.size (Nat.le_refl _)  p e ha hc hk s m _ below hf ((Spec.applies_iff_loose hf).mp happ).1 ⟨rfl, State.Warmed39.refl s, rfl⟩ trivial
  refine ⟨n, _, h1, h2, h3, hpost _ _ _ _ _ _ ⟨Cond.after_iff.mpr rfl, Cond.after_iff.mpr (eq_i res_at (Term.int_eval (1)) rfl), trivial⟩ ⟨hq.1, hq.2.1, (hq.2.2.sift fun y hy => Or.inr (N y hy)).mono (by decide) (by decide)⟩⟩
theorem main_1_1 : Claimed_1_1 := comes_1 fun _ _ _ _ _ _ h hF => ⟨h.1, hF⟩
theorem main_1_2 : Claimed_1_2 := comes_1 fun _ _ _ _ _ _ h hF => ⟨h.2.1, hF⟩
end Jvm.Pilot.@@N@@
namespace Jvm.Pilot.@@N@@
open Jvm Jvm.ClassFile Sem Op Lib Jvm.Free Jvm.Stand Jvm.Pilot.@@N@@.Jvm.D
/-! MADE BY PROGRAM (witnessworld.py) out of the Statement's table words and the real class files: 10 classes; the members and pool entries that the words name. The judged class is class 1, her method 1. -/
namespace start1
open Jvm.ClassFile
def u (s : String) : CpInfo := .utf8 (stringToUtf16 s)
/-- a pool by its gaps: so many unusable entries, then the entry; so many at the end -/
def gap : Nat → List CpInfo → List CpInfo
  | 0, r => r
  | n + 1, r => .unusable :: gap n r
def poolList (es : List (Nat × CpInfo)) (last : Nat) : List CpInfo := es.foldr (fun e r => gap e.1 (e.2 :: r)) (gap last [])
def pool (es : List (Nat × CpInfo)) (last : Nat) : Array CpInfo := ⟨poolList es last⟩
def fileOf (pool : Array CpInfo) (this : Nat) (attrs : Array Attribute := #[]) (ms : Array MethodInfo := #[]) (fl : Nat := 33) (sup : Nat := 0) (ifs : Array Nat := #[]) (fds : Array FieldInfo := #[]) : ClassFile where
  minorVersion := 0
  majorVersion := 65
  constantPool := pool
  accessFlags := fl
  thisClass := this
  superClass := sup
  interfaces := ifs
  fields := fds
  methods := ms
  attributes := attrs
def plain (name : String) (sup : Option ClassId) : Class where
  name := name
  kind := .ordinary
  loader := none
  accessFlags := 33
  super := sup
  interfaces := #[]
  cf := none
  fields := #[]
  methods := #[]
  instanceTypes := #[]
  staticTypes := #[]
  resolved := #[]
  callSites := []
  init := .initialized
  statics := none
  mirror := none

def pool0 : Array CpInfo := pool [(5, u "<init>"), (0, u "()V"), (1, .class_ 10), (1, u "java/lang/Object")] 113

def k0c0 : Code := { maxStack := 0, maxLocals := 1, code := object_method_1_code, exceptionTable := #[], attributes := #[] }
def k0m0 : Method := { name := "<init>", desc := "()V", sig := { parameters := [], returnType := none }, accessFlags := 1, code := some k0c0 }
/-- java/lang/Object -/
def k0 : Class := { plain "java/lang/Object" none with
  accessFlags := 33
  interfaces := #[]
  cf := some (fileOf pool0 8 #[] #[{ accessFlags := 1, nameIndex := 5, descriptorIndex := 6, attributes := #[] }] 33 0 #[] #[])
  fields := #[]
  methods := #[k0m0]
  instanceTypes := #[]
  staticTypes := #[]
  resolved := Array.replicate 124 none
  statics := none }

def pool1 : Array CpInfo := pool [(2, .class_ 4), (1, u "java/lang/Object"), (0, u "<init>"), (0, u "()V"), (0, .class_ 8), (0, u "com/example/aerotome/aerotome/geometry/Interval"), (0, .methodref 7 10), (0, .nameAndType 5 11), (0, u "(DZDZ)V"), (0, .methodref 13 14), (0, .class_ 15), (0, .nameAndType 16 17), (0, u "com/example/aerotome/aerotome/geometry/IntervalJoinsPinLaw"), (0, u "separated"), (0, u "(IZIZ)Z"), (0, .methodref 7 19), (0, .nameAndType 20 21), (0, u "joins"), (0, u "(Lcom/example/aerotome/aerotome/geometry/Interval;)Z"), (2, u "law"), (0, u "(IIIII)Z")] 3

def k1m0 : Method := { name := "<init>", desc := "()V", sig := { parameters := [], returnType := none }, accessFlags := 1, code := none }
def k1c1 : Code := { maxStack := 8, maxLocals := 16, code := code, exceptionTable := #[], attributes := #[] }
def k1m1 : Method := { name := "law", desc := "(IIIII)Z", sig := { parameters := [.int, .int, .int, .int, .int], returnType := some .boolean }, accessFlags := 9, code := some k1c1 }
def k1c2 : Code := { maxStack := 2, maxLocals := 4, code := method_3_code, exceptionTable := #[], attributes := #[] }
def k1m2 : Method := { name := "separated", desc := "(IZIZ)Z", sig := { parameters := [.int, .boolean, .int, .boolean], returnType := some .boolean }, accessFlags := 10, code := some k1c2 }
/-- com/example/aerotome/aerotome/geometry/IntervalJoinsPinLaw -/
def k1 : Class := { plain "com/example/aerotome/aerotome/geometry/IntervalJoinsPinLaw" (some 0) with
  accessFlags := 49
  interfaces := #[]
  cf := some (fileOf pool1 13 #[] #[{ accessFlags := 1, nameIndex := 5, descriptorIndex := 6, attributes := #[] }, { accessFlags := 9, nameIndex := 24, descriptorIndex := 25, attributes := #[] }, { accessFlags := 10, nameIndex := 16, descriptorIndex := 17, attributes := #[] }] 49 2 #[] #[])
  fields := #[]
  methods := #[k1m0, k1m1, k1m2]
  instanceTypes := #[]
  staticTypes := #[]
  resolved := Array.replicate 29 none
  statics := none }

def pool2 : Array CpInfo := pool [(1, .methodref 2 3), (0, .class_ 4), (0, .nameAndType 5 6), (0, u "java/lang/Object"), (0, u "<init>"), (0, u "()V"), (0, .class_ 8), (0, u "java/lang/Record")] 13

def k2c0 : Code := { maxStack := 1, maxLocals := 1, code := jdk_30_method_1_code, exceptionTable := #[], attributes := #[] }
def k2m0 : Method := { name := "<init>", desc := "()V", sig := { parameters := [], returnType := none }, accessFlags := 4, code := some k2c0 }
/-- java/lang/Record -/
def k2 : Class := { plain "java/lang/Record" (some 0) with
  accessFlags := 1057
  interfaces := #[]
  cf := some (fileOf pool2 7 #[] #[{ accessFlags := 4, nameIndex := 5, descriptorIndex := 6, attributes := #[] }] 1057 2 #[] #[])
  fields := #[]
  methods := #[k2m0]
  instanceTypes := #[]
  staticTypes := #[]
  resolved := Array.replicate 22 none
  statics := none }

def pool3 : Array CpInfo := pool [(1, .methodref 2 3), (0, .class_ 4), (0, .nameAndType 5 6), (0, u "java/lang/Record"), (0, u "<init>"), (0, u "()V"), (9, .fieldref 17 18), (0, .class_ 19), (0, .nameAndType 20 21), (0, u "com/example/aerotome/aerotome/geometry/Interval"), (0, u "lo"), (0, u "D"), (0, .fieldref 17 23), (0, .nameAndType 24 25), (0, u "loClosed"), (0, u "Z"), (0, .fieldref 17 27), (0, .nameAndType 28 21), (0, u "hi"), (0, .fieldref 17 30), (0, .nameAndType 31 25), (0, u "hiClosed"), (2, u "(DZDZ)V"), (26, u "joins"), (0, u "(Lcom/example/aerotome/aerotome/geometry/Interval;)Z")] 36

def k3c0 : Code := { maxStack := 6, maxLocals := 7, code := prog_9_method_1_code, exceptionTable := #[], attributes := #[] }
def k3m0 : Method := { name := "<init>", desc := "(DZDZ)V", sig := { parameters := [.double, .boolean, .double, .boolean], returnType := none }, accessFlags := 1, code := some k3c0 }
def k3c1 : Code := { maxStack := 4, maxLocals := 4, code := prog_9_method_6_code, exceptionTable := #[], attributes := #[] }
def k3m1 : Method := { name := "joins", desc := "(Lcom/example/aerotome/aerotome/geometry/Interval;)Z", sig := { parameters := [(.object "com/example/aerotome/aerotome/geometry/Interval")], returnType := some .boolean }, accessFlags := 1, code := some k3c1 }
/-- com/example/aerotome/aerotome/geometry/Interval -/
def k3 : Class := { plain "com/example/aerotome/aerotome/geometry/Interval" (some 2) with
  accessFlags := 49
  interfaces := #[]
  cf := some (fileOf pool3 17 #[] #[{ accessFlags := 1, nameIndex := 5, descriptorIndex := 34, attributes := #[] }, { accessFlags := 1, nameIndex := 61, descriptorIndex := 62, attributes := #[] }] 49 2 #[] #[{ accessFlags := 18, nameIndex := 20, descriptorIndex := 21, attributes := #[] }, { accessFlags := 18, nameIndex := 24, descriptorIndex := 25, attributes := #[] }, { accessFlags := 18, nameIndex := 28, descriptorIndex := 21, attributes := #[] }, { accessFlags := 18, nameIndex := 31, descriptorIndex := 25, attributes := #[] }])
  fields := #[{ name := "lo", type := .double, accessFlags := 18, slot := 0, constantValue := 0 }, { name := "loClosed", type := .boolean, accessFlags := 18, slot := 1, constantValue := 0 }, { name := "hi", type := .double, accessFlags := 18, slot := 2, constantValue := 0 }, { name := "hiClosed", type := .boolean, accessFlags := 18, slot := 3, constantValue := 0 }]
  methods := #[k3m0, k3m1]
  instanceTypes := #[.double, .boolean, .double, .boolean]
  staticTypes := #[]
  resolved := Array.replicate 99 none
  statics := none }

def pool4 : Array CpInfo := pool [(1, u "java/lang/Cloneable"), (0, .class_ 1), (0, u "java/lang/Object"), (0, .class_ 3)] 3

/-- java/lang/Cloneable -/
def k4 : Class := { plain "java/lang/Cloneable" (some 0) with
  accessFlags := 1537
  interfaces := #[]
  cf := some (fileOf pool4 2 #[] #[] 1537 4 #[] #[])
  fields := #[]
  methods := #[]
  instanceTypes := #[]
  staticTypes := #[]
  resolved := Array.replicate 8 none
  statics := none }

def pool5 : Array CpInfo := pool [(1, u "java/io/Serializable"), (0, .class_ 1), (0, u "java/lang/Object"), (0, .class_ 3)] 3

/-- java/io/Serializable -/
def k5 : Class := { plain "java/io/Serializable" (some 0) with
  accessFlags := 1537
  interfaces := #[]
  cf := some (fileOf pool5 2 #[] #[] 1537 4 #[] #[])
  fields := #[]
  methods := #[]
  instanceTypes := #[]
  staticTypes := #[]
  resolved := Array.replicate 8 none
  statics := none }

/-- the primitive byte -/
def k6 : Class := { plain "byte" none with kind := .primitive 'B', accessFlags := 0x411 }
/-- [B -/
def k7 : Class := { plain "[B" (some 0) with kind := .array 6 .byte, interfaces := #[4, 5], accessFlags := 1041 }

/-- the primitive int -/
def k8 : Class := { plain "int" none with kind := .primitive 'I', accessFlags := 0x411 }
/-- [I -/
def k9 : Class := { plain "[I" (some 0) with kind := .array 8 .int, interfaces := #[4, 5], accessFlags := 1041 }

def heap : Heap := #[]
def classes : Array Class := #[k0, k1, k2, k3, k4, k5, k6, k7, k8, k9]
def interned : List (Array UInt16 × Addr) := []
def slotsUsed : Nat := 0
def theMethod : MethodId := ⟨1, 1⟩
def args0 : Array Value := #[.int 5, .int 7, .int 3, .int 9, .int 1]
def aboutOver (below : List Frame) : State where
  vm := { classes := classes, interned := interned.toArray }
  heap := heap
  slotsUsed := slotsUsed
  threads := #[{ frames := .invoking theMethod args0 :: below }]
def below0 : List Frame := [.native { method := ⟨0, 0⟩, args := #[] }]
def about1 : State := aboutOver below0
def p0 : Program := .bare "" "" ""
def e0 : Env := launch0.env 0 0 0
theorem w_frames : about1.frames = Frame.invoking theMethod args0 :: below0 := rfl
set_option maxRecDepth 65536 in
theorem w_args : argsFit about1.vm theMethod args0 = true := by decide +kernel
set_option maxRecDepth 65536 in
theorem w_heap : heapFits about1 = true := by decide +kernel
set_option maxRecDepth 65536 in
theorem w_runnable : about1.curStatus? = some .runnable := by decide +kernel
set_option maxRecDepth 65536 in
theorem w_alone : about1.alone = true := by decide +kernel
set_option maxRecDepth 65536 in
theorem w_named : about1.methodNamed? x = some theMethod := by decide +kernel
set_option maxRecDepth 65536 in
theorem w_hears : about1.hears theMethod below0 = true := by decide +kernel
set_option maxRecDepth 65536 in
theorem w_ripe : about1.ripe theMethod args0 below0 = true := by decide +kernel
theorem w_running : about1.status = .running := rfl
set_option maxRecDepth 65536 in
theorem w_room : about1.hasRoom e0.platform room_1 = true :=
  launch0.hasRoom_least _ room_1 (by decide +kernel) (by decide +kernel) (by decide +kernel) (by decide +kernel) (by decide +kernel) (by decide +kernel)
theorem allAtoms_all (ts : List Jvm.Cond) (a : Array Jvm.Value) (st : Jvm.State) : (allAtoms ts).before a st = ts.all (fun c => c.before a st) := by
  induction ts with
  | nil => rfl
  | cons c t ih =>
    show (Jvm.Cond.and c (allAtoms t)).before a st = _
    rw [Jvm.Cond.before_and, ih, List.all_cons]
def words1 : List Jvm.Cond := Jvm.Cond.code x code maxLocals ret :: tables_1
/-- a 'code' word, met by the world's own term for the bytes: nothing is compared byte by byte -/
theorem code_word {y : MethodName} {bytes : ByteArray} {mx : Nat} {rt : Option FieldType} {a : Array Value} {s : State} {m : MethodId} {meth : Method} {c : Code} (h1 : s.methodNamed? y = some m) (h2 : s.vm.method? m = some meth) (h3 : meth.code = some c) (h4 : c.code = bytes)
    (h5 : (c.maxLocals == mx && c.exceptionTable.isEmpty && decide (c.maxStack ≤ mostOperands) && decide (meth.sig.returnType = rt) && !meth.locks && decide (parseMethodDescriptor y.desc = some meth.sig)) = true) : (Jvm.Cond.code y bytes mx rt).before a s = true := by
  simp only [Bool.and_eq_true, beq_iff_eq, Bool.not_eq_true', decide_eq_true_eq] at h5
  obtain ⟨⟨⟨⟨⟨g1, g2⟩, g3⟩, g4⟩, g5⟩, g6⟩ := h5
  simp [Cond.before, Cond.holds, Cond.value, h1, h2, h3, h4, g1, g2, g3, g4, g5, g6]
def isCode : Jvm.Cond → Bool
  | .code _ _ _ _ => true
  | _ => false
theorem all_split {L : List Jvm.Cond} {P : Jvm.Cond → Bool} (h1 : L.all (fun c => isCode c || P c) = true) (h2 : ∀ c ∈ L.filter isCode, P c = true) : L.all P = true := by
  refine List.all_eq_true.mpr fun c hc => ?_
  have h := List.all_eq_true.mp h1 c hc
  rcases Bool.eq_false_or_eq_true (isCode c) with hi | hi
  · exact h2 c (List.mem_filter.mpr ⟨hc, hi⟩)
  · simpa [hi] using h
set_option maxRecDepth 65536 in
theorem w_c0 : (Jvm.Cond.code x code maxLocals ret).before args0 about1 = true := code_word (m := ⟨1, 1⟩) (meth := k1m1) (c := k1c1) (by decide +kernel) rfl rfl rfl (by decide +kernel)
set_option maxRecDepth 65536 in
theorem w_c1 : (Jvm.Cond.code ({ cls := "com/example/aerotome/aerotome/geometry/Interval", name := "<init>", desc := "(DZDZ)V" } : Jvm.MethodName) prog_9_method_1_code (7 : Nat) (Option.none : Option Jvm.ClassFile.FieldType)).before args0 about1 = true := code_word (m := ⟨3, 0⟩) (meth := k3m0) (c := k3c0) (by decide +kernel) rfl rfl rfl (by decide +kernel)
set_option maxRecDepth 65536 in
theorem w_c2 : (Jvm.Cond.code ({ cls := "java/lang/Record", name := "<init>", desc := "()V" } : Jvm.MethodName) jdk_30_method_1_code (1 : Nat) (Option.none : Option Jvm.ClassFile.FieldType)).before args0 about1 = true := code_word (m := ⟨2, 0⟩) (meth := k2m0) (c := k2c0) (by decide +kernel) rfl rfl rfl (by decide +kernel)
set_option maxRecDepth 65536 in
theorem w_c3 : (Jvm.Cond.code ({ cls := "java/lang/Object", name := "<init>", desc := "()V" } : Jvm.MethodName) object_method_1_code (1 : Nat) (Option.none : Option Jvm.ClassFile.FieldType)).before args0 about1 = true := code_word (m := ⟨0, 0⟩) (meth := k0m0) (c := k0c0) (by decide +kernel) rfl rfl rfl (by decide +kernel)
set_option maxRecDepth 65536 in
theorem w_c4 : (Jvm.Cond.code ({ cls := "com/example/aerotome/aerotome/geometry/IntervalJoinsPinLaw", name := "separated", desc := "(IZIZ)Z" } : Jvm.MethodName) method_3_code (4 : Nat) (Option.some Jvm.ClassFile.FieldType.boolean)).before args0 about1 = true := code_word (m := ⟨1, 2⟩) (meth := k1m2) (c := k1c2) (by decide +kernel) rfl rfl rfl (by decide +kernel)
set_option maxRecDepth 65536 in
theorem w_c5 : (Jvm.Cond.code ({ cls := "com/example/aerotome/aerotome/geometry/Interval", name := "joins", desc := "(Lcom/example/aerotome/aerotome/geometry/Interval;)Z" } : Jvm.MethodName) prog_9_method_6_code (4 : Nat) (Option.some Jvm.ClassFile.FieldType.boolean)).before args0 about1 = true := code_word (m := ⟨3, 1⟩) (meth := k3m1) (c := k3c1) (by decide +kernel) rfl rfl rfl (by decide +kernel)
def codes1 : List Jvm.Cond := [Jvm.Cond.code x code maxLocals ret, Jvm.Cond.code ({ cls := "com/example/aerotome/aerotome/geometry/Interval", name := "<init>", desc := "(DZDZ)V" } : Jvm.MethodName) prog_9_method_1_code (7 : Nat) (Option.none : Option Jvm.ClassFile.FieldType), Jvm.Cond.code ({ cls := "java/lang/Record", name := "<init>", desc := "()V" } : Jvm.MethodName) jdk_30_method_1_code (1 : Nat) (Option.none : Option Jvm.ClassFile.FieldType), Jvm.Cond.code ({ cls := "java/lang/Object", name := "<init>", desc := "()V" } : Jvm.MethodName) object_method_1_code (1 : Nat) (Option.none : Option Jvm.ClassFile.FieldType), Jvm.Cond.code ({ cls := "com/example/aerotome/aerotome/geometry/IntervalJoinsPinLaw", name := "separated", desc := "(IZIZ)Z" } : Jvm.MethodName) method_3_code (4 : Nat) (Option.some Jvm.ClassFile.FieldType.boolean), Jvm.Cond.code ({ cls := "com/example/aerotome/aerotome/geometry/Interval", name := "joins", desc := "(Lcom/example/aerotome/aerotome/geometry/Interval;)Z" } : Jvm.MethodName) prog_9_method_6_code (4 : Nat) (Option.some Jvm.ClassFile.FieldType.boolean)]
set_option maxRecDepth 65536 in
theorem codes_eq : words1.filter isCode = codes1 := rfl
theorem w_codes : ∀ c ∈ words1.filter isCode, c.before args0 about1 = true := by
  rw [codes_eq]
  intro c hc
  simp only [codes1, List.mem_cons, List.not_mem_nil, or_false] at hc
  rcases hc with rfl | rfl | rfl | rfl | rfl | rfl
  · exact w_c0
  · exact w_c1
  · exact w_c2
  · exact w_c3
  · exact w_c4
  · exact w_c5
set_option maxRecDepth 65536 in
theorem w_t1 : (words1.take 24).all (fun c => isCode c || c.before args0 about1) = true := by decide +kernel
set_option maxRecDepth 65536 in
theorem w_t2 : (words1.drop 24).all (fun c => isCode c || c.before args0 about1) = true := by decide +kernel
theorem w_tables : (allAtoms (Jvm.Cond.code x code maxLocals ret :: tables_1)).before args0 about1 = true := by
  rw [allAtoms_all]
  show words1.all (fun c => c.before args0 about1) = true
  refine all_split ?_ w_codes
  rw [← List.take_append_drop 24 words1, List.all_append, w_t1, w_t2]
  rfl
set_option maxRecDepth 65536 in
theorem w_case : (Jvm.Cond.and given_1 narrow_1).before args0 about1 = true := by decide +kernel
theorem w_applies : (headSpec (Jvm.Cond.code x code maxLocals ret :: tables_1) room_1).applies x e0.platform about1 = true :=
  (Spec.applies_iff w_frames).mpr ⟨w_running, w_runnable, w_alone, w_named, w_hears, w_ripe, w_room, w_tables⟩
theorem atStart : AtStart classFile x code maxLocals ret World_1 tables_1 room_1 Calls_1 rest_1 Pre_1 launch0 p0 e0 about1 theMethod args0 below0 :=
  ⟨lists_1, trivial, launch0.admits_env _ _ _, launch0.least_env, fairChoices_fair.cas, fairChoices_fair.clock, w_frames, w_args, w_heap, w_applies, trivial, trivial, w_case⟩
end start1
theorem witness_1 : WitnessClaimed_1 := ⟨start1.p0, start1.e0, start1.about1, start1.theMethod, start1.args0, start1.below0, start1.atStart⟩
end Jvm.Pilot.@@N@@
