import JvmDerived
import JvmDerived.Pilot.@@N@@Statement
import JvmDerived.Pilot.@@N@@Code
set_option linter.unusedVariables false
set_option linter.unusedSimpArgs false
@@BLOCK:NumsL.lean.txt@@
namespace Jvm.Pilot.@@N@@
open Jvm Jvm.ClassFile Sem Op Lib Jvm.Free Jvm.Stand Jvm.LawKit Jvm.RoadKit Bundle Jvm.Pilot.@@N@@.Jvm.D
def own_bz (c : Prop) [Decidable c] : Int32 := if c then 1 else 0
theorem own_bz_t {c : Prop} [Decidable c] (h : c) : own_bz c = 1 := if_pos h
theorem own_bz_f {c : Prop} [Decidable c] (h : ¬ c) : own_bz c = 0 := if_neg h
theorem own_nar (c : Prop) [Decidable c] : nar .boolean (own_bz c) = own_bz c := by
  by_cases h : c
  · rw [own_bz_t h]; rfl
  · rw [own_bz_f h]; rfl
abbrev own_z (x : UInt64) : Int32 := cmpValue (FP.dcmp x FP.dconst0) .l
theorem own_z0 : own_z FP.dconst0 = (0 : Int32) := by decide +kernel
theorem own_zn : own_z 9223372036854775808 = (0 : Int32) := by decide +kernel
theorem own_zi (a : Int32) : own_z (FP.i2d a) = (0 : Int32) ↔ a = 0 := by
  have e : FP.dcmp (FP.i2d a) FP.dconst0 = some (compare a.toInt 0) := FP.Core.dcmp_int (FP.Core.i2d_int a) (show FP.Core.DInt 0 FP.dconst0 from by show FP.Core.Whole 0 (FP.Core.val64 FP.Core.dconst0); rw [FP.Core.val64_dconst0]; show FP.Core.signed false (0 * _) = 0 * _; rw [Nat.zero_mul, FP.Core.signed_zero, Int.zero_mul])
  show cmpValue (FP.dcmp (FP.i2d a) FP.dconst0) .l = (0 : Int32) ↔ a = 0
  rw [e, FP.Core.compare_ite, ← Int32.toInt_inj (x := a), Int32.toInt_zero]
  by_cases h1 : a.toInt < 0
  · rw [if_pos h1]; exact ⟨fun q => absurd q (by decide), fun q => absurd q (by omega)⟩
  · rw [if_neg h1]
    by_cases h2 : a.toInt = 0
    · rw [if_pos h2]; exact ⟨fun _ => h2, fun _ => by decide⟩
    · rw [if_neg h2]; exact ⟨fun q => absurd q (by decide), fun q => absurd q h2⟩
theorem d2_0 : decode jdk_30_method_1_code 0 = .ok (.aload_n 0, 1) := by decide +kernel
theorem d2_1 : decode jdk_30_method_1_code 1 = .ok (.invokespecial 1, 3) := by decide +kernel
theorem d2_4 : decode jdk_30_method_1_code 4 = .ok (.return_, 1) := by decide +kernel
theorem pn_2 : plainName "java/lang/Record" = true := by first | (simp [plainName, overriddenIn]; done) | decide +kernel
theorem pd_2 : parseMethodDescriptor "()V" = some ⟨[], none⟩ := by decide +kernel
theorem ef_2 (m : MethodId) (x0 : Addr) : entryFrame m #[(.ref x0)] 1 = mkF m 0 #[.val (.ref x0)] [] := by first | (simp [entryFrame, mkF, argsToLocals, Value.category]; done) | rfl
def Q_2 (h0 : Heap) (n0 : Nat) (v : Option Value) (h : Heap) (L : List Loc) : Prop := v = none ∧ Fr n0 L ∧ h = h0
set_option maxRecDepth 65536 in
set_option maxHeartbeats 40000000 in
theorem rm_2 (l : Launch) (Z : State) (a0 : Array Value) (hw : ∀ d ∈ tables_1, d.before a0 Z = true) (ws : List Jvm.Cond) (a1 : Addr) (h0 : Heap) (n0 : Nat) (Z0 : n0 ≤ h0.size)  :
    MetFree l (⟨"java/lang/Record", "<init>", "()V"⟩ : MethodName) (head1 (Jvm.Cond.code (⟨"java/lang/Record", "<init>", "()V"⟩ : MethodName) jdk_30_method_1_code 1 none :: ws) ({ frames := 1, cells := 0, slots := 0, locals := 12 } : Room)) (fun a U => a = #[(.ref a1)] ∧ Z.Warmed39 U.vm ∧ U.heap = h0) (fun _ _ _ _ _ => True) (fun _ U o U' => ∃ v L, o = .returned v ∧ Q_2 h0 n0 v U'.heap L ∧ FrameEnd U o U' L 0 0) := by
  refine MetFree.of_bodySF (plainFor_of_name pn_2) hisR ?_
  intro p e s m args below meth c s₁ Bd hml0 hP hK
  obtain ⟨rfl, hZ, hh⟩ := hP
  have hx := Bd.exec
  have hby := Bd.bytes
  have hml : c.maxLocals = 1 := hml0
  have hown : s.vm.findClass "java/lang/Record" = some m.cls := findClass_of_methodNamed Bd.named
  have hnm := (name_of_methodNamed Bd.named Bd.method).1
  have X0 : Stand p l e ({ frames := 1, cells := 0, slots := 0, locals := 12 } : Room) s m #[(.ref a1)] below meth c s₁ [] 0 0 := Stand.of_body Bd
  have e0 : s₁.heap = h0 := by rw [← hh, Bd.state]; rfl
  have N0 := Fr.nil n0
  have pre0 : ∀ t, Steps p.tables e below (s₁.setTop (mkF m 0 #[.val (.ref a1)] [])) t → Steps p.tables e below (s₁.setTop (entryFrame m #[(.ref a1)] 1)) t := fun t k => castTop (ef_2 m (a1)) k
  obtain ⟨T2, X2, e2, st2⟩ := initO X0 hx hZ hown (hw _ (List.mem_of_getElem? (i := 11) rfl)) (hw _ (List.mem_of_getElem? (i := 12) rfl)) (hw _ (List.mem_of_getElem? (i := 13) rfl)) e0 (g := (mkF m 1 #[.val (.ref a1)] [(.ref a1)])) rfl (by rw [hml]; rfl) rfl (hb hby d2_1) (by decide) (W := 0) (by show 2 * 0 + _ ≤ _; exact Nat.le_of_eq rfl) (by decide)
  obtain ⟨fs, hr, hrun, hended, hW, hsame⟩ := X2.leave (v := none) (fun _ => rfl)
  refine ⟨_, _, pre0 _ ?_, hrun, hended, _, _, rfl, ?_, ⟨_, rfl⟩, hW, hsame.mono (by decide) (by decide)⟩
  · show Steps p.tables e below (s₁.setTop (mkF m 0 #[.val (.ref a1)] [])) _
    refine XS.aloadN X0.here hx rfl (hb hby d2_0) rfl rfl ?_
    show Steps p.tables e below (s₁.setTop (mkF m 1 #[.val (.ref a1)] [(.ref a1)])) _
    refine st2 _ ?_
    show Steps p.tables e below (T2.setTop (mkF m 4 #[.val (.ref a1)] [])) _
    exact X2.returnOut hx Bd.returns (hb hby d2_4) hr
  · show Q_2 h0 n0 _ T2.heap _
    rw [e2]
    exact ⟨rfl, N0, rfl⟩
theorem d1_0 : decode prog_16_method_1_code 0 = .ok (.aload_n 0, 1) := by decide +kernel
theorem d1_1 : decode prog_16_method_1_code 1 = .ok (.invokespecial 1, 3) := by decide +kernel
theorem d1_4 : decode prog_16_method_1_code 4 = .ok (.aload_n 0, 1) := by decide +kernel
theorem d1_5 : decode prog_16_method_1_code 5 = .ok (.dload_n 1, 1) := by decide +kernel
theorem d1_6 : decode prog_16_method_1_code 6 = .ok (.putfield 7, 3) := by decide +kernel
theorem d1_9 : decode prog_16_method_1_code 9 = .ok (.aload_n 0, 1) := by decide +kernel
theorem d1_10 : decode prog_16_method_1_code 10 = .ok (.dload_n 3, 1) := by decide +kernel
theorem d1_11 : decode prog_16_method_1_code 11 = .ok (.putfield 13, 3) := by decide +kernel
theorem d1_14 : decode prog_16_method_1_code 14 = .ok (.return_, 1) := by decide +kernel
theorem pn_1 : plainName "com/example/bidwave/bidwave/experiment/Report$Quotient" = true := by first | (simp [plainName, overriddenIn]; done) | decide +kernel
theorem pd_1 : parseMethodDescriptor "(DD)V" = some ⟨[.double, .double], none⟩ := by decide +kernel
theorem ef_1 (m : MethodId) (x0 : Addr) (x1 : UInt64) (x2 : UInt64) : entryFrame m #[(.ref x0), (.double x1), (.double x2)] 5 = mkF m 0 #[.val (.ref x0), .val (.double x1), .second, .val (.double x2), .second] [] := by first | (simp [entryFrame, mkF, argsToLocals, Value.category]; done) | rfl
def Q_1 (Z : State) (a1 : Addr) (p2 p3 : UInt64) (h0 : Heap) (n0 : Nat) (v : Option Value) (h : Heap) (L : List Loc) : Prop := v = none ∧ Fr n0 L ∧ Keep h0 h [a1] ∧ Exa Z h a1 "com/example/bidwave/bidwave/experiment/Report$Quotient" ∧ Fld Z h a1 "com/example/bidwave/bidwave/experiment/Report$Quotient" "dividend" "D" (.double p2) ∧ Fld Z h a1 "com/example/bidwave/bidwave/experiment/Report$Quotient" "divisor" "D" (.double p3)
set_option maxRecDepth 65536 in
set_option maxHeartbeats 40000000 in
theorem rm_1 (l : Launch) (Z : State) (a0 : Array Value) (hw : ∀ d ∈ tables_1, d.before a0 Z = true) (ws : List Jvm.Cond) (a1 : Addr) (p2 p3 : UInt64) (h0 : Heap) (n0 : Nat) (Z0 : n0 ≤ h0.size) (F0 : Fld Z h0 a1 "com/example/bidwave/bidwave/experiment/Report$Quotient" "dividend" "D" (.double (0 : UInt64))) (F1 : Fld Z h0 a1 "com/example/bidwave/bidwave/experiment/Report$Quotient" "divisor" "D" (.double (0 : UInt64))) (E0 : Exa Z h0 a1 "com/example/bidwave/bidwave/experiment/Report$Quotient") (g0 : n0 ≤ a1) :
    MetFree l (⟨"com/example/bidwave/bidwave/experiment/Report$Quotient", "<init>", "(DD)V"⟩ : MethodName) (head1 (Jvm.Cond.code (⟨"com/example/bidwave/bidwave/experiment/Report$Quotient", "<init>", "(DD)V"⟩ : MethodName) prog_16_method_1_code 5 none :: ws) ({ frames := 2, cells := 0, slots := 0, locals := 24 } : Room)) (fun a U => a = #[(.ref a1), (.double p2), (.double p3)] ∧ Z.Warmed39 U.vm ∧ U.heap = h0) (fun _ _ _ _ _ => True) (fun _ U o U' => ∃ v L, o = .returned v ∧ Q_1 Z a1 p2 p3 h0 n0 v U'.heap L ∧ FrameEnd U o U' L 0 0) := by
  refine MetFree.of_bodySF (plainFor_of_name pn_1) hisR ?_
  intro p e s m args below meth c s₁ Bd hml0 hP hK
  obtain ⟨rfl, hZ, hh⟩ := hP
  have hx := Bd.exec
  have hby := Bd.bytes
  have hml : c.maxLocals = 5 := hml0
  have hown : s.vm.findClass "com/example/bidwave/bidwave/experiment/Report$Quotient" = some m.cls := findClass_of_methodNamed Bd.named
  have hnm := (name_of_methodNamed Bd.named Bd.method).1
  have X0 : Stand p l e ({ frames := 2, cells := 0, slots := 0, locals := 24 } : Room) s m #[(.ref a1), (.double p2), (.double p3)] below meth c s₁ [] 0 0 := Stand.of_body Bd
  have e0 : s₁.heap = h0 := by rw [← hh, Bd.state]; rfl
  have N0 := Fr.nil n0
  have pre0 : ∀ t, Steps p.tables e below (s₁.setTop (mkF m 0 #[.val (.ref a1), .val (.double p2), .second, .val (.double p3), .second] [])) t → Steps p.tables e below (s₁.setTop (entryFrame m #[(.ref a1), (.double p2), (.double p3)] 5)) t := fun t k => castTop (ef_1 m (a1) (p2) (p3)) k
  obtain ⟨_, _, ⟨T1, L1, k1, n1⟩, -, X1, ⟨Lc1, hQ1, l1, y1, z1⟩, st1⟩ := X0.specialBack hx (y := (⟨"java/lang/Record", "<init>", "()V"⟩ : MethodName)) rfl hown (mvT hZ (hw _ (List.mem_of_getElem? (i := 6) rfl))) (mvT hZ (hw _ (List.mem_of_getElem? (i := 7) rfl))) (mvT hZ (hw _ (List.mem_of_getElem? (i := 10) rfl))) (by decide) (backOf (W := 0) (rm_2 l Z a0 hw [] a1 h0 n0 Z0) hZ (hw _ (List.mem_of_getElem? (i := 10) rfl)) (hw _ (List.mem_of_getElem? (i := 9) rfl)) (by decide) (by decide)) (g := (mkF m 1 #[.val (.ref a1), .val (.double p2), .second, .val (.double p3), .second] [(.ref a1)])) rfl (by rw [hml]; rfl) (Steps.refl _) (a := a1) (argsL := []) (rest := []) (lenOf pd_2 rfl) rfl (by show 2 * 0 + _ ≤ _; exact Nat.le_of_eq rfl) (hb hby d1_1) (fun _ _ => ⟨rfl, e0, (by decide : 0 + 0 ≤ _), (by decide : 0 + 0 ≤ _)⟩)
  dsimp only [Pt.U, Pt.locs, Pt.cells, Pt.slots] at X1 l1 y1 z1 st1 hQ1
  subst l1 y1 z1
  obtain ⟨rfl, N1, e1⟩ := hQ1
  have N1b := Fr.app N0 N1
  obtain ⟨T3, h3, X3, e3, W3, st3⟩ := putF X1 hx hZ hown (host := "") (Or.inl (hw _ (List.mem_of_getElem? (i := 14) rfl))) Via.refl e1 F0 E0 (Or.inr ⟨(hw _ (List.mem_of_getElem? (i := 15) rfl)), rfl, hnm⟩) (hw _ (List.mem_of_getElem? (i := 1) rfl)) (ty := .double) (by decide) rfl rfl (g := (mkF m 6 #[.val (.ref a1), .val (.double p2), .second, .val (.double p3), .second] [(.double p2), (.ref a1)])) rfl rfl (hb hby d1_6)
  have N3 := Fr.snoc X3 N1b g0
  have K3 : Keep h0 h3 [a1] := ((Keep.refl _ _).wr W3 (Or.inl (List.mem_of_getElem? (i := 0) rfl)))
  have E3 : Exa Z h3 a1 "com/example/bidwave/bidwave/experiment/Report$Quotient" := (E0.wr W3)
  have F3_0 : Fld Z h3 a1 "com/example/bidwave/bidwave/experiment/Report$Quotient" "dividend" "D" (.double p2) := (F0.same W3)
  have F3_1 : Fld Z h3 a1 "com/example/bidwave/bidwave/experiment/Report$Quotient" "divisor" "D" (.double (0 : UInt64)) := (F1.other W3 (Or.inr (slot_ne (Or.inr (hw _ (List.mem_of_getElem? (i := 17) rfl))) (Or.inr (hw _ (List.mem_of_getElem? (i := 15) rfl))) (by decide) (t := .double) (t' := .double) (by decide) (by decide))))
  obtain ⟨T4, h4, X4, e4, W4, st4⟩ := putF X3 hx hZ hown (host := "") (Or.inl (hw _ (List.mem_of_getElem? (i := 16) rfl))) Via.refl e3 F3_1 E3 (Or.inr ⟨(hw _ (List.mem_of_getElem? (i := 17) rfl)), rfl, hnm⟩) (hw _ (List.mem_of_getElem? (i := 1) rfl)) (ty := .double) (by decide) rfl rfl (g := (mkF m 11 #[.val (.ref a1), .val (.double p2), .second, .val (.double p3), .second] [(.double p3), (.ref a1)])) rfl rfl (hb hby d1_11)
  have N4 := Fr.snoc X4 N3 g0
  have K4 : Keep h0 h4 [a1] := (K3.wr W4 (Or.inl (List.mem_of_getElem? (i := 0) rfl)))
  have E4 : Exa Z h4 a1 "com/example/bidwave/bidwave/experiment/Report$Quotient" := (E3.wr W4)
  have F4_0 : Fld Z h4 a1 "com/example/bidwave/bidwave/experiment/Report$Quotient" "dividend" "D" (.double p2) := (F3_0.other W4 (Or.inr (slot_ne (Or.inr (hw _ (List.mem_of_getElem? (i := 15) rfl))) (Or.inr (hw _ (List.mem_of_getElem? (i := 17) rfl))) (by decide) (t := .double) (t' := .double) (by decide) (by decide))))
  have F4_1 : Fld Z h4 a1 "com/example/bidwave/bidwave/experiment/Report$Quotient" "divisor" "D" (.double p3) := (F3_1.same W4)
  obtain ⟨fs, hr, hrun, hended, hW, hsame⟩ := X4.leave (v := none) (fun _ => rfl)
  refine ⟨_, _, pre0 _ ?_, hrun, hended, _, _, rfl, ?_, ⟨_, rfl⟩, hW, hsame.mono (by decide) (by decide)⟩
  · show Steps p.tables e below (s₁.setTop (mkF m 0 #[.val (.ref a1), .val (.double p2), .second, .val (.double p3), .second] [])) _
    refine XS.aloadN X0.here hx rfl (hb hby d1_0) rfl rfl ?_
    show Steps p.tables e below (s₁.setTop (mkF m 1 #[.val (.ref a1), .val (.double p2), .second, .val (.double p3), .second] [(.ref a1)])) _
    refine st1.trans ?_
    show Steps p.tables e below (T1.setTop (mkF m 4 #[.val (.ref a1), .val (.double p2), .second, .val (.double p3), .second] [])) _
    refine XS.aloadN X1.here hx rfl (hb hby d1_4) rfl rfl ?_
    show Steps p.tables e below (T1.setTop (mkF m 5 #[.val (.ref a1), .val (.double p2), .second, .val (.double p3), .second] [(.ref a1)])) _
    refine XS.dloadN X1.here hx rfl (hb hby d1_5) rfl ?_
    show Steps p.tables e below (T1.setTop (mkF m 6 #[.val (.ref a1), .val (.double p2), .second, .val (.double p3), .second] [(.double p2), (.ref a1)])) _
    refine st3 _ ?_
    show Steps p.tables e below (T3.setTop (mkF m 9 #[.val (.ref a1), .val (.double p2), .second, .val (.double p3), .second] [])) _
    refine XS.aloadN X3.here hx rfl (hb hby d1_9) rfl rfl ?_
    show Steps p.tables e below (T3.setTop (mkF m 10 #[.val (.ref a1), .val (.double p2), .second, .val (.double p3), .second] [(.ref a1)])) _
    refine XS.dloadN X3.here hx rfl (hb hby d1_10) rfl ?_
    show Steps p.tables e below (T3.setTop (mkF m 11 #[.val (.ref a1), .val (.double p2), .second, .val (.double p3), .second] [(.double p3), (.ref a1)])) _
    refine st4 _ ?_
    show Steps p.tables e below (T4.setTop (mkF m 14 #[.val (.ref a1), .val (.double p2), .second, .val (.double p3), .second] [])) _
    exact X4.returnOut hx Bd.returns (hb hby d1_14) hr
  · show Q_1 Z a1 p2 p3 h0 n0 _ T4.heap _
    rw [e4]
    exact ⟨rfl, N4, K4, E4, F4_0, F4_1⟩
theorem pd_4 : parseMethodDescriptor "()Z" = some ⟨[], some .boolean⟩ := by decide +kernel
theorem ef_4 (m : MethodId) (x0 : Addr) : entryFrame m #[(.ref x0)] 1 = mkF m 0 #[.val (.ref x0)] [] := by first | (simp [entryFrame, mkF, argsToLocals, Value.category]; done) | rfl
theorem ef_5 (m : MethodId) (x0 : Addr) : entryFrame m #[(.ref x0)] 1 = mkF m 0 #[.val (.ref x0)] [] := by first | (simp [entryFrame, mkF, argsToLocals, Value.category]; done) | rfl
theorem d4_0 : decode prog_16_method_3_code 0 = .ok (.aload_n 0, 1) := by decide +kernel
theorem d4_1 : decode prog_16_method_3_code 1 = .ok (.getfield 7, 3) := by decide +kernel
theorem d4_4 : decode prog_16_method_3_code 4 = .ok (.dconst 0, 1) := by decide +kernel
theorem d4_5 : decode prog_16_method_3_code 5 = .ok (.dcmp .l, 1) := by decide +kernel
theorem d4_6 : decode prog_16_method_3_code 6 = .ok (.ifCond .eq 16, 3) := by decide +kernel
theorem d4_9 : decode prog_16_method_3_code 9 = .ok (.aload_n 0, 1) := by decide +kernel
theorem d4_10 : decode prog_16_method_3_code 10 = .ok (.getfield 13, 3) := by decide +kernel
theorem d4_13 : decode prog_16_method_3_code 13 = .ok (.dconst 0, 1) := by decide +kernel
theorem d4_14 : decode prog_16_method_3_code 14 = .ok (.dcmp .l, 1) := by decide +kernel
theorem d4_15 : decode prog_16_method_3_code 15 = .ok (.ifCond .ne 7, 3) := by decide +kernel
theorem d4_18 : decode prog_16_method_3_code 18 = .ok (.iconst 1, 1) := by decide +kernel
theorem d4_19 : decode prog_16_method_3_code 19 = .ok (.goto 4, 3) := by decide +kernel
theorem d4_22 : decode prog_16_method_3_code 22 = .ok (.iconst 0, 1) := by decide +kernel
theorem d4_23 : decode prog_16_method_3_code 23 = .ok (.ireturn, 1) := by decide +kernel
def Q_4 (x y : UInt64) (h0 : Heap) (n0 : Nat) (v : Option Value) (h : Heap) (L : List Loc) : Prop := v = some (.int (own_bz (¬ own_z x = (0 : Int32) ∧ own_z y = (0 : Int32)))) ∧ Fr n0 L ∧ h = h0
set_option maxRecDepth 65536 in
set_option maxHeartbeats 40000000 in
theorem rm_4 (l : Launch) (Z : State) (a0 : Array Value) (hw : ∀ d ∈ tables_1, d.before a0 Z = true) (ws : List Jvm.Cond) (a1 : Addr) (x y : UInt64) (h0 : Heap) (n0 : Nat) (Z0 : n0 ≤ h0.size) (F0 : Fld Z h0 a1 "com/example/bidwave/bidwave/experiment/Report$Quotient" "dividend" "D" (.double x)) (F1 : Fld Z h0 a1 "com/example/bidwave/bidwave/experiment/Report$Quotient" "divisor" "D" (.double y)) :
    MetFree l (⟨"com/example/bidwave/bidwave/experiment/Report$Quotient", "isUnbounded", "()Z"⟩ : MethodName) (head1 (Jvm.Cond.code (⟨"com/example/bidwave/bidwave/experiment/Report$Quotient", "isUnbounded", "()Z"⟩ : MethodName) prog_16_method_3_code 1 (some .boolean) :: ws) ({ frames := 0, cells := 0, slots := 0, locals := 0 } : Room)) (fun a U => a = #[(.ref a1)] ∧ Z.Warmed39 U.vm ∧ U.heap = h0) (fun _ _ _ _ _ => True) (fun _ U o U' => ∃ v L, o = .returned v ∧ Q_4 x y h0 n0 v U'.heap L ∧ FrameEnd U o U' L 0 0) := by
  refine MetFree.of_bodySF (plainFor_of_name pn_1) hisR ?_
  intro p e s m args below meth c s₁ Bd hml0 hP hK
  obtain ⟨rfl, hZ, hh⟩ := hP
  have hx := Bd.exec
  have hby := Bd.bytes
  have hml : c.maxLocals = 1 := hml0
  have hown : s.vm.findClass "com/example/bidwave/bidwave/experiment/Report$Quotient" = some m.cls := findClass_of_methodNamed Bd.named
  have hnm := (name_of_methodNamed Bd.named Bd.method).1
  have X0 : Stand p l e ({ frames := 0, cells := 0, slots := 0, locals := 0 } : Room) s m #[(.ref a1)] below meth c s₁ [] 0 0 := Stand.of_body Bd
  have e0 : s₁.heap = h0 := by rw [← hh, Bd.state]; rfl
  have N0 := Fr.nil n0
  have pre0 : ∀ t, Steps p.tables e below (s₁.setTop (mkF m 0 #[.val (.ref a1)] [])) t → Steps p.tables e below (s₁.setTop (entryFrame m #[(.ref a1)] 1)) t := fun t k => castTop (ef_4 m (a1)) k
  obtain ⟨T1, X1, e1, st1⟩ := getF X0 hx hZ hown (host := "") (Or.inl (hw _ (List.mem_of_getElem? (i := 14) rfl))) Via.refl e0 F0 (g := (mkF m 1 #[.val (.ref a1)] [(.ref a1)])) rfl rfl (hb hby d4_1)
  by_cases c1 : own_z x = (0 : Int32)
  · obtain ⟨fs, hr, hrun, hended, hW, hsame⟩ := X1.leave (v := some (.int (0 : Int32))) (fun h => by rw [Bd.returns] at h; cases h)
    refine ⟨_, _, pre0 _ ?_, hrun, hended, _, _, rfl, ?_, ⟨_, rfl⟩, hW, hsame.mono (by decide) (by decide)⟩
    · show Steps p.tables e below (s₁.setTop (mkF m 0 #[.val (.ref a1)] [])) _
      refine XS.aloadN X0.here hx rfl (hb hby d4_0) rfl rfl ?_
      show Steps p.tables e below (s₁.setTop (mkF m 1 #[.val (.ref a1)] [(.ref a1)])) _
      refine st1 _ ?_
      show Steps p.tables e below (T1.setTop (mkF m 4 #[.val (.ref a1)] [(.double x)])) _
      refine XS.dconst0 X1.here hx rfl (hb hby d4_4) rfl ?_
      show Steps p.tables e below (T1.setTop (mkF m 5 #[.val (.ref a1)] [(.double FP.dconst0), (.double x)])) _
      refine XS.dcmpS X1.here hx rfl (hb hby d4_5) rfl rfl ?_
      show Steps p.tables e below (T1.setTop (mkF m 6 #[.val (.ref a1)] [(.int (cmpValue (FP.dcmp x FP.dconst0) .l))])) _
      refine XS.ifYes X1.here hx rfl (pc0 := 6) (pc' := 22) rfl (hb hby d4_6) rfl ((if0 _ _).trans (teq c1).1) (by decide) (by decide) ?_
      show Steps p.tables e below (T1.setTop (mkF m 22 #[.val (.ref a1)] [])) _
      refine XS.iconst X1.here hx rfl (hb hby d4_22) ?_
      show Steps p.tables e below (T1.setTop (mkF m 23 #[.val (.ref a1)] [(.int (0 : Int32))])) _
      exact retN X1 hx (t := .boolean) Bd.returns (by simp) (hb hby d4_23) hr
    · show Q_4 x y h0 n0 _ T1.heap _
      rw [e1]
      exact ⟨by rw [own_bz_f (fun q => q.1 c1)], N0, rfl⟩
  · obtain ⟨T2, X2, e2, st2⟩ := getF X1 hx hZ hown (host := "") (Or.inl (hw _ (List.mem_of_getElem? (i := 16) rfl))) Via.refl e1 F1 (g := (mkF m 10 #[.val (.ref a1)] [(.ref a1)])) rfl rfl (hb hby d4_10)
    by_cases c2 : own_z y = (0 : Int32)
    · obtain ⟨fs, hr, hrun, hended, hW, hsame⟩ := X2.leave (v := some (.int (1 : Int32))) (fun h => by rw [Bd.returns] at h; cases h)
      refine ⟨_, _, pre0 _ ?_, hrun, hended, _, _, rfl, ?_, ⟨_, rfl⟩, hW, hsame.mono (by decide) (by decide)⟩
      · show Steps p.tables e below (s₁.setTop (mkF m 0 #[.val (.ref a1)] [])) _
        refine XS.aloadN X0.here hx rfl (hb hby d4_0) rfl rfl ?_
        show Steps p.tables e below (s₁.setTop (mkF m 1 #[.val (.ref a1)] [(.ref a1)])) _
        refine st1 _ ?_
        show Steps p.tables e below (T1.setTop (mkF m 4 #[.val (.ref a1)] [(.double x)])) _
        refine XS.dconst0 X1.here hx rfl (hb hby d4_4) rfl ?_
        show Steps p.tables e below (T1.setTop (mkF m 5 #[.val (.ref a1)] [(.double FP.dconst0), (.double x)])) _
        refine XS.dcmpS X1.here hx rfl (hb hby d4_5) rfl rfl ?_
        show Steps p.tables e below (T1.setTop (mkF m 6 #[.val (.ref a1)] [(.int (cmpValue (FP.dcmp x FP.dconst0) .l))])) _
        refine XS.ifNo X1.here hx rfl (hb hby d4_6) rfl ((if0 _ _).trans (feq c1).1) ?_
        show Steps p.tables e below (T1.setTop (mkF m 9 #[.val (.ref a1)] [])) _
        refine XS.aloadN X1.here hx rfl (hb hby d4_9) rfl rfl ?_
        show Steps p.tables e below (T1.setTop (mkF m 10 #[.val (.ref a1)] [(.ref a1)])) _
        refine st2 _ ?_
        show Steps p.tables e below (T2.setTop (mkF m 13 #[.val (.ref a1)] [(.double y)])) _
        refine XS.dconst0 X2.here hx rfl (hb hby d4_13) rfl ?_
        show Steps p.tables e below (T2.setTop (mkF m 14 #[.val (.ref a1)] [(.double FP.dconst0), (.double y)])) _
        refine XS.dcmpS X2.here hx rfl (hb hby d4_14) rfl rfl ?_
        show Steps p.tables e below (T2.setTop (mkF m 15 #[.val (.ref a1)] [(.int (cmpValue (FP.dcmp y FP.dconst0) .l))])) _
        refine XS.ifNo X2.here hx rfl (hb hby d4_15) rfl ((if0 _ _).trans (teq c2).2) ?_
        show Steps p.tables e below (T2.setTop (mkF m 18 #[.val (.ref a1)] [])) _
        refine XS.iconst X2.here hx rfl (hb hby d4_18) ?_
        show Steps p.tables e below (T2.setTop (mkF m 19 #[.val (.ref a1)] [(.int (1 : Int32))])) _
        refine XS.goto X2.here hx rfl (pc0 := 19) (pc' := 23) rfl (hb hby d4_19) (by decide) (by decide) ?_
        show Steps p.tables e below (T2.setTop (mkF m 23 #[.val (.ref a1)] [(.int (1 : Int32))])) _
        exact retN X2 hx (t := .boolean) Bd.returns (by simp) (hb hby d4_23) hr
      · show Q_4 x y h0 n0 _ T2.heap _
        rw [e2]
        exact ⟨by rw [own_bz_t ⟨c1, c2⟩], N0, rfl⟩
    · obtain ⟨fs, hr, hrun, hended, hW, hsame⟩ := X2.leave (v := some (.int (0 : Int32))) (fun h => by rw [Bd.returns] at h; cases h)
      refine ⟨_, _, pre0 _ ?_, hrun, hended, _, _, rfl, ?_, ⟨_, rfl⟩, hW, hsame.mono (by decide) (by decide)⟩
      · show Steps p.tables e below (s₁.setTop (mkF m 0 #[.val (.ref a1)] [])) _
        refine XS.aloadN X0.here hx rfl (hb hby d4_0) rfl rfl ?_
        show Steps p.tables e below (s₁.setTop (mkF m 1 #[.val (.ref a1)] [(.ref a1)])) _
        refine st1 _ ?_
        show Steps p.tables e below (T1.setTop (mkF m 4 #[.val (.ref a1)] [(.double x)])) _
        refine XS.dconst0 X1.here hx rfl (hb hby d4_4) rfl ?_
        show Steps p.tables e below (T1.setTop (mkF m 5 #[.val (.ref a1)] [(.double FP.dconst0), (.double x)])) _
        refine XS.dcmpS X1.here hx rfl (hb hby d4_5) rfl rfl ?_
        show Steps p.tables e below (T1.setTop (mkF m 6 #[.val (.ref a1)] [(.int (cmpValue (FP.dcmp x FP.dconst0) .l))])) _
        refine XS.ifNo X1.here hx rfl (hb hby d4_6) rfl ((if0 _ _).trans (feq c1).1) ?_
        show Steps p.tables e below (T1.setTop (mkF m 9 #[.val (.ref a1)] [])) _
        refine XS.aloadN X1.here hx rfl (hb hby d4_9) rfl rfl ?_
        show Steps p.tables e below (T1.setTop (mkF m 10 #[.val (.ref a1)] [(.ref a1)])) _
        refine st2 _ ?_
        show Steps p.tables e below (T2.setTop (mkF m 13 #[.val (.ref a1)] [(.double y)])) _
        refine XS.dconst0 X2.here hx rfl (hb hby d4_13) rfl ?_
        show Steps p.tables e below (T2.setTop (mkF m 14 #[.val (.ref a1)] [(.double FP.dconst0), (.double y)])) _
        refine XS.dcmpS X2.here hx rfl (hb hby d4_14) rfl rfl ?_
        show Steps p.tables e below (T2.setTop (mkF m 15 #[.val (.ref a1)] [(.int (cmpValue (FP.dcmp y FP.dconst0) .l))])) _
        refine XS.ifYes X2.here hx rfl (pc0 := 15) (pc' := 22) rfl (hb hby d4_15) rfl ((if0 _ _).trans (feq c2).2) (by decide) (by decide) ?_
        show Steps p.tables e below (T2.setTop (mkF m 22 #[.val (.ref a1)] [])) _
        refine XS.iconst X2.here hx rfl (hb hby d4_22) ?_
        show Steps p.tables e below (T2.setTop (mkF m 23 #[.val (.ref a1)] [(.int (0 : Int32))])) _
        exact retN X2 hx (t := .boolean) Bd.returns (by simp) (hb hby d4_23) hr
      · show Q_4 x y h0 n0 _ T2.heap _
        rw [e2]
        exact ⟨by rw [own_bz_f (fun q => c2 q.2)], N0, rfl⟩
theorem d5_0 : decode prog_16_method_2_code 0 = .ok (.aload_n 0, 1) := by decide +kernel
theorem d5_1 : decode prog_16_method_2_code 1 = .ok (.getfield 7, 3) := by decide +kernel
theorem d5_4 : decode prog_16_method_2_code 4 = .ok (.dconst 0, 1) := by decide +kernel
theorem d5_5 : decode prog_16_method_2_code 5 = .ok (.dcmp .l, 1) := by decide +kernel
theorem d5_6 : decode prog_16_method_2_code 6 = .ok (.ifCond .ne 16, 3) := by decide +kernel
theorem d5_9 : decode prog_16_method_2_code 9 = .ok (.aload_n 0, 1) := by decide +kernel
theorem d5_10 : decode prog_16_method_2_code 10 = .ok (.getfield 13, 3) := by decide +kernel
theorem d5_13 : decode prog_16_method_2_code 13 = .ok (.dconst 0, 1) := by decide +kernel
theorem d5_14 : decode prog_16_method_2_code 14 = .ok (.dcmp .l, 1) := by decide +kernel
theorem d5_15 : decode prog_16_method_2_code 15 = .ok (.ifCond .ne 7, 3) := by decide +kernel
theorem d5_18 : decode prog_16_method_2_code 18 = .ok (.iconst 1, 1) := by decide +kernel
theorem d5_19 : decode prog_16_method_2_code 19 = .ok (.goto 4, 3) := by decide +kernel
theorem d5_22 : decode prog_16_method_2_code 22 = .ok (.iconst 0, 1) := by decide +kernel
theorem d5_23 : decode prog_16_method_2_code 23 = .ok (.ireturn, 1) := by decide +kernel
def Q_5 (x y : UInt64) (h0 : Heap) (n0 : Nat) (v : Option Value) (h : Heap) (L : List Loc) : Prop := v = some (.int (own_bz (own_z x = (0 : Int32) ∧ own_z y = (0 : Int32)))) ∧ Fr n0 L ∧ h = h0
set_option maxRecDepth 65536 in
set_option maxHeartbeats 40000000 in
theorem rm_5 (l : Launch) (Z : State) (a0 : Array Value) (hw : ∀ d ∈ tables_1, d.before a0 Z = true) (ws : List Jvm.Cond) (a1 : Addr) (x y : UInt64) (h0 : Heap) (n0 : Nat) (Z0 : n0 ≤ h0.size) (F0 : Fld Z h0 a1 "com/example/bidwave/bidwave/experiment/Report$Quotient" "dividend" "D" (.double x)) (F1 : Fld Z h0 a1 "com/example/bidwave/bidwave/experiment/Report$Quotient" "divisor" "D" (.double y)) :
    MetFree l (⟨"com/example/bidwave/bidwave/experiment/Report$Quotient", "isUndefined", "()Z"⟩ : MethodName) (head1 (Jvm.Cond.code (⟨"com/example/bidwave/bidwave/experiment/Report$Quotient", "isUndefined", "()Z"⟩ : MethodName) prog_16_method_2_code 1 (some .boolean) :: ws) ({ frames := 0, cells := 0, slots := 0, locals := 0 } : Room)) (fun a U => a = #[(.ref a1)] ∧ Z.Warmed39 U.vm ∧ U.heap = h0) (fun _ _ _ _ _ => True) (fun _ U o U' => ∃ v L, o = .returned v ∧ Q_5 x y h0 n0 v U'.heap L ∧ FrameEnd U o U' L 0 0) := by
  refine MetFree.of_bodySF (plainFor_of_name pn_1) hisR ?_
  intro p e s m args below meth c s₁ Bd hml0 hP hK
  obtain ⟨rfl, hZ, hh⟩ := hP
  have hx := Bd.exec
  have hby := Bd.bytes
  have hml : c.maxLocals = 1 := hml0
  have hown : s.vm.findClass "com/example/bidwave/bidwave/experiment/Report$Quotient" = some m.cls := findClass_of_methodNamed Bd.named
  have hnm := (name_of_methodNamed Bd.named Bd.method).1
  have X0 : Stand p l e ({ frames := 0, cells := 0, slots := 0, locals := 0 } : Room) s m #[(.ref a1)] below meth c s₁ [] 0 0 := Stand.of_body Bd
  have e0 : s₁.heap = h0 := by rw [← hh, Bd.state]; rfl
  have N0 := Fr.nil n0
  have pre0 : ∀ t, Steps p.tables e below (s₁.setTop (mkF m 0 #[.val (.ref a1)] [])) t → Steps p.tables e below (s₁.setTop (entryFrame m #[(.ref a1)] 1)) t := fun t k => castTop (ef_5 m (a1)) k
  obtain ⟨T1, X1, e1, st1⟩ := getF X0 hx hZ hown (host := "") (Or.inl (hw _ (List.mem_of_getElem? (i := 14) rfl))) Via.refl e0 F0 (g := (mkF m 1 #[.val (.ref a1)] [(.ref a1)])) rfl rfl (hb hby d5_1)
  by_cases c1 : own_z x = (0 : Int32)
  · obtain ⟨T2, X2, e2, st2⟩ := getF X1 hx hZ hown (host := "") (Or.inl (hw _ (List.mem_of_getElem? (i := 16) rfl))) Via.refl e1 F1 (g := (mkF m 10 #[.val (.ref a1)] [(.ref a1)])) rfl rfl (hb hby d5_10)
    by_cases c2 : own_z y = (0 : Int32)
    · obtain ⟨fs, hr, hrun, hended, hW, hsame⟩ := X2.leave (v := some (.int (1 : Int32))) (fun h => by rw [Bd.returns] at h; cases h)
      refine ⟨_, _, pre0 _ ?_, hrun, hended, _, _, rfl, ?_, ⟨_, rfl⟩, hW, hsame.mono (by decide) (by decide)⟩
      · show Steps p.tables e below (s₁.setTop (mkF m 0 #[.val (.ref a1)] [])) _
        refine XS.aloadN X0.here hx rfl (hb hby d5_0) rfl rfl ?_
        show Steps p.tables e below (s₁.setTop (mkF m 1 #[.val (.ref a1)] [(.ref a1)])) _
        refine st1 _ ?_
        show Steps p.tables e below (T1.setTop (mkF m 4 #[.val (.ref a1)] [(.double x)])) _
        refine XS.dconst0 X1.here hx rfl (hb hby d5_4) rfl ?_
        show Steps p.tables e below (T1.setTop (mkF m 5 #[.val (.ref a1)] [(.double FP.dconst0), (.double x)])) _
        refine XS.dcmpS X1.here hx rfl (hb hby d5_5) rfl rfl ?_
        show Steps p.tables e below (T1.setTop (mkF m 6 #[.val (.ref a1)] [(.int (cmpValue (FP.dcmp x FP.dconst0) .l))])) _
        refine XS.ifNo X1.here hx rfl (hb hby d5_6) rfl ((if0 _ _).trans (teq c1).2) ?_
        show Steps p.tables e below (T1.setTop (mkF m 9 #[.val (.ref a1)] [])) _
        refine XS.aloadN X1.here hx rfl (hb hby d5_9) rfl rfl ?_
        show Steps p.tables e below (T1.setTop (mkF m 10 #[.val (.ref a1)] [(.ref a1)])) _
        refine st2 _ ?_
        show Steps p.tables e below (T2.setTop (mkF m 13 #[.val (.ref a1)] [(.double y)])) _
        refine XS.dconst0 X2.here hx rfl (hb hby d5_13) rfl ?_
        show Steps p.tables e below (T2.setTop (mkF m 14 #[.val (.ref a1)] [(.double FP.dconst0), (.double y)])) _
        refine XS.dcmpS X2.here hx rfl (hb hby d5_14) rfl rfl ?_
        show Steps p.tables e below (T2.setTop (mkF m 15 #[.val (.ref a1)] [(.int (cmpValue (FP.dcmp y FP.dconst0) .l))])) _
        refine XS.ifNo X2.here hx rfl (hb hby d5_15) rfl ((if0 _ _).trans (teq c2).2) ?_
        show Steps p.tables e below (T2.setTop (mkF m 18 #[.val (.ref a1)] [])) _
        refine XS.iconst X2.here hx rfl (hb hby d5_18) ?_
        show Steps p.tables e below (T2.setTop (mkF m 19 #[.val (.ref a1)] [(.int (1 : Int32))])) _
        refine XS.goto X2.here hx rfl (pc0 := 19) (pc' := 23) rfl (hb hby d5_19) (by decide) (by decide) ?_
        show Steps p.tables e below (T2.setTop (mkF m 23 #[.val (.ref a1)] [(.int (1 : Int32))])) _
        exact retN X2 hx (t := .boolean) Bd.returns (by simp) (hb hby d5_23) hr
      · show Q_5 x y h0 n0 _ T2.heap _
        rw [e2]
        exact ⟨by rw [own_bz_t ⟨c1, c2⟩], N0, rfl⟩
    · obtain ⟨fs, hr, hrun, hended, hW, hsame⟩ := X2.leave (v := some (.int (0 : Int32))) (fun h => by rw [Bd.returns] at h; cases h)
      refine ⟨_, _, pre0 _ ?_, hrun, hended, _, _, rfl, ?_, ⟨_, rfl⟩, hW, hsame.mono (by decide) (by decide)⟩
      · show Steps p.tables e below (s₁.setTop (mkF m 0 #[.val (.ref a1)] [])) _
        refine XS.aloadN X0.here hx rfl (hb hby d5_0) rfl rfl ?_
        show Steps p.tables e below (s₁.setTop (mkF m 1 #[.val (.ref a1)] [(.ref a1)])) _
        refine st1 _ ?_
        show Steps p.tables e below (T1.setTop (mkF m 4 #[.val (.ref a1)] [(.double x)])) _
        refine XS.dconst0 X1.here hx rfl (hb hby d5_4) rfl ?_
        show Steps p.tables e below (T1.setTop (mkF m 5 #[.val (.ref a1)] [(.double FP.dconst0), (.double x)])) _
        refine XS.dcmpS X1.here hx rfl (hb hby d5_5) rfl rfl ?_
        show Steps p.tables e below (T1.setTop (mkF m 6 #[.val (.ref a1)] [(.int (cmpValue (FP.dcmp x FP.dconst0) .l))])) _
        refine XS.ifNo X1.here hx rfl (hb hby d5_6) rfl ((if0 _ _).trans (teq c1).2) ?_
        show Steps p.tables e below (T1.setTop (mkF m 9 #[.val (.ref a1)] [])) _
        refine XS.aloadN X1.here hx rfl (hb hby d5_9) rfl rfl ?_
        show Steps p.tables e below (T1.setTop (mkF m 10 #[.val (.ref a1)] [(.ref a1)])) _
        refine st2 _ ?_
        show Steps p.tables e below (T2.setTop (mkF m 13 #[.val (.ref a1)] [(.double y)])) _
        refine XS.dconst0 X2.here hx rfl (hb hby d5_13) rfl ?_
        show Steps p.tables e below (T2.setTop (mkF m 14 #[.val (.ref a1)] [(.double FP.dconst0), (.double y)])) _
        refine XS.dcmpS X2.here hx rfl (hb hby d5_14) rfl rfl ?_
        show Steps p.tables e below (T2.setTop (mkF m 15 #[.val (.ref a1)] [(.int (cmpValue (FP.dcmp y FP.dconst0) .l))])) _
        refine XS.ifYes X2.here hx rfl (pc0 := 15) (pc' := 22) rfl (hb hby d5_15) rfl ((if0 _ _).trans (feq c2).2) (by decide) (by decide) ?_
        show Steps p.tables e below (T2.setTop (mkF m 22 #[.val (.ref a1)] [])) _
        refine XS.iconst X2.here hx rfl (hb hby d5_22) ?_
        show Steps p.tables e below (T2.setTop (mkF m 23 #[.val (.ref a1)] [(.int (0 : Int32))])) _
        exact retN X2 hx (t := .boolean) Bd.returns (by simp) (hb hby d5_23) hr
      · show Q_5 x y h0 n0 _ T2.heap _
        rw [e2]
        exact ⟨by rw [own_bz_f (fun q => c2 q.2)], N0, rfl⟩
  · obtain ⟨fs, hr, hrun, hended, hW, hsame⟩ := X1.leave (v := some (.int (0 : Int32))) (fun h => by rw [Bd.returns] at h; cases h)
    refine ⟨_, _, pre0 _ ?_, hrun, hended, _, _, rfl, ?_, ⟨_, rfl⟩, hW, hsame.mono (by decide) (by decide)⟩
    · show Steps p.tables e below (s₁.setTop (mkF m 0 #[.val (.ref a1)] [])) _
      refine XS.aloadN X0.here hx rfl (hb hby d5_0) rfl rfl ?_
      show Steps p.tables e below (s₁.setTop (mkF m 1 #[.val (.ref a1)] [(.ref a1)])) _
      refine st1 _ ?_
      show Steps p.tables e below (T1.setTop (mkF m 4 #[.val (.ref a1)] [(.double x)])) _
      refine XS.dconst0 X1.here hx rfl (hb hby d5_4) rfl ?_
      show Steps p.tables e below (T1.setTop (mkF m 5 #[.val (.ref a1)] [(.double FP.dconst0), (.double x)])) _
      refine XS.dcmpS X1.here hx rfl (hb hby d5_5) rfl rfl ?_
      show Steps p.tables e below (T1.setTop (mkF m 6 #[.val (.ref a1)] [(.int (cmpValue (FP.dcmp x FP.dconst0) .l))])) _
      refine XS.ifYes X1.here hx rfl (pc0 := 6) (pc' := 22) rfl (hb hby d5_6) rfl ((if0 _ _).trans (feq c1).2) (by decide) (by decide) ?_
      show Steps p.tables e below (T1.setTop (mkF m 22 #[.val (.ref a1)] [])) _
      refine XS.iconst X1.here hx rfl (hb hby d5_22) ?_
      show Steps p.tables e below (T1.setTop (mkF m 23 #[.val (.ref a1)] [(.int (0 : Int32))])) _
      exact retN X1 hx (t := .boolean) Bd.returns (by simp) (hb hby d5_23) hr
    · show Q_5 x y h0 n0 _ T1.heap _
      rw [e1]
      exact ⟨by rw [own_bz_f (fun q => c1 q.1)], N0, rfl⟩
theorem pn_0 : plainName "com/example/bidwave/bidwave/experiment/QuotientIsUnboundedPinLaw" = true := by first | (simp [plainName, overriddenIn]; done) | decide +kernel
theorem ef_0 (m : MethodId) (x0 : Int32) (x1 : Int32) (x2 : Int32) : entryFrame m #[(.int x0), (.int x1), (.int x2)] maxLocals = mkF m 0 #[.val (.int x0), .val (.int x1), .val (.int x2), .unset, .unset, .unset, .unset, .unset, .unset, .unset, .unset, .unset, .unset, .unset, .unset] [] := by first | (simp [entryFrame, mkF, argsToLocals, Value.category, maxLocals]; done) | rfl
def Q_0 (n0 : Nat) (v : Option Value) (h : Heap) (L : List Loc) : Prop := v = some (.int 1) ∧ Fr n0 L
set_option maxRecDepth 65536 in
set_option maxHeartbeats 40000000 in
theorem rm_0 (l : Launch) (Z : State) (a0 : Array Value) (hw : ∀ d ∈ tables_1, d.before a0 Z = true) (ws : List Jvm.Cond) (p1 p2 p3 : Int32) (h0 : Heap) (n0 : Nat) (Z0 : n0 ≤ h0.size)  :
    MetFree l x (head1 (Jvm.Cond.code x code maxLocals ret :: ws) room_1) (fun a U => a = #[(.int p1), (.int p2), (.int p3)] ∧ Z.Warmed39 U.vm ∧ U.heap = h0) (fun _ _ _ _ _ => True) (fun _ U o U' => ∃ v L, o = .returned v ∧ Q_0 n0 v U'.heap L ∧ FrameEnd U o U' L 1 2) := by
  refine MetFree.of_bodySF (plainFor_of_name pn_0) hisR ?_
  intro p e s m args below meth c s₁ Bd hml0 hP hK
  obtain ⟨rfl, hZ, hh⟩ := hP
  have hx := Bd.exec
  have hby := Bd.bytes
  have hml : c.maxLocals = 15 := hml0
  have hown : s.vm.findClass "com/example/bidwave/bidwave/experiment/QuotientIsUnboundedPinLaw" = some m.cls := findClass_of_methodNamed Bd.named
  have hnm := (name_of_methodNamed Bd.named Bd.method).1
  have X0 : Stand p l e room_1 s m #[(.int p1), (.int p2), (.int p3)] below meth c s₁ [] 0 0 := Stand.of_body Bd
  have e0 : s₁.heap = h0 := by rw [← hh, Bd.state]; rfl
  have N0 := Fr.nil n0
  have pre0 : ∀ t, Steps p.tables e below (s₁.setTop (mkF m 0 #[.val (.int p1), .val (.int p2), .val (.int p3), .unset, .unset, .unset, .unset, .unset, .unset, .unset, .unset, .unset, .unset, .unset, .unset] [])) t → Steps p.tables e below (s₁.setTop (entryFrame m #[(.int p1), (.int p2), (.int p3)] maxLocals)) t := fun t k => castTop (ef_0 m (p1) (p2) (p3)) k
  obtain ⟨dm, hdm⟩ : ∃ z : Int32, z = p3 &&& (3 : Int32) := ⟨_, rfl⟩
  obtain ⟨vm, hvm⟩ : ∃ z : Int32, z = ((p3.toUInt32 >>> ((2 : Int32) &&& 31).toUInt32).toInt32) &&& (3 : Int32) := ⟨_, rfl⟩
  obtain ⟨sm, hsm⟩ : ∃ z : Int32, z = p2 % (2 : Int32) := ⟨_, rfl⟩
  obtain ⟨x, hx1⟩ : ∃ z : UInt64, z = if dm = (0 : Int32) then FP.dconst0 else if dm = (1 : Int32) then (9223372036854775808 : UInt64) else FP.i2d p1 := ⟨_, rfl⟩
  obtain ⟨xz, hxz⟩ : ∃ z : Int32, z = if dm = (0 : Int32) then (1 : Int32) else if dm = (1 : Int32) then 1 else if p1 = (0 : Int32) then 1 else 0 := ⟨_, rfl⟩
  obtain ⟨y, hy1⟩ : ∃ z : UInt64, z = if vm = (0 : Int32) then FP.dconst0 else if vm = (1 : Int32) then (9223372036854775808 : UInt64) else if vm = (2 : Int32) then FP.i2d p2 else FP.i2d sm := ⟨_, rfl⟩
  obtain ⟨yz, hyz⟩ : ∃ z : Int32, z = if vm = (0 : Int32) then (1 : Int32) else if vm = (1 : Int32) then 1 else if vm = (2 : Int32) then (if p2 = (0 : Int32) then 1 else 0) else (if sm = (0 : Int32) then 1 else 0) := ⟨_, rfl⟩
  have xf : own_z x = (0 : Int32) ↔ ¬ xz = (0 : Int32) := by
    rw [hx1, hxz]
    by_cases c1 : dm = (0 : Int32)
    · rw [if_pos c1, if_pos c1]; exact ⟨fun _ => by decide, fun _ => own_z0⟩
    · rw [if_neg c1, if_neg c1]
      by_cases c2 : dm = (1 : Int32)
      · rw [if_pos c2, if_pos c2]; exact ⟨fun _ => by decide, fun _ => own_zn⟩
      · rw [if_neg c2, if_neg c2, own_zi]
        by_cases c3 : p1 = (0 : Int32)
        · rw [if_pos c3]; exact ⟨fun _ => by decide, fun _ => c3⟩
        · rw [if_neg c3]; exact ⟨fun q => absurd q c3, fun q => absurd rfl q⟩
  have yf : own_z y = (0 : Int32) ↔ ¬ yz = (0 : Int32) := by
    rw [hy1, hyz]
    by_cases c1 : vm = (0 : Int32)
    · rw [if_pos c1, if_pos c1]; exact ⟨fun _ => by decide, fun _ => own_z0⟩
    · rw [if_neg c1, if_neg c1]
      by_cases c2 : vm = (1 : Int32)
      · rw [if_pos c2, if_pos c2]; exact ⟨fun _ => by decide, fun _ => own_zn⟩
      · rw [if_neg c2, if_neg c2]
        by_cases c4 : vm = (2 : Int32)
        · rw [if_pos c4, if_pos c4, own_zi]
          by_cases c3 : p2 = (0 : Int32)
          · rw [if_pos c3]; exact ⟨fun _ => by decide, fun _ => c3⟩
          · rw [if_neg c3]; exact ⟨fun q => absurd q c3, fun q => absurd rfl q⟩
        · rw [if_neg c4, if_neg c4, own_zi]
          by_cases c3 : sm = (0 : Int32)
          · rw [if_pos c3]; exact ⟨fun _ => by decide, fun _ => c3⟩
          · rw [if_neg c3]; exact ⟨fun q => absurd q c3, fun q => absurd rfl q⟩
  obtain ⟨ex, hex⟩ : ∃ z : Int32, z = (own_bz (¬ own_z x = (0 : Int32) ∧ own_z y = (0 : Int32))) := ⟨_, rfl⟩
  obtain ⟨T1, h1, X1, e1, E1, A1, D1, -, st1⟩ := newO X0 hx hZ hown (hw _ (List.mem_of_getElem? (i := 0) rfl)) (hw _ (List.mem_of_getElem? (i := 1) rfl)) (hw _ (List.mem_of_getElem? (i := 2) rfl)) e0 (g := (mkF m 132 #[.val (.int p1), .val (.int p2), .val (.int p3), .val (.int dm), .val (.int vm), .val (.double x), .second, .val (.int xz), .val (.int sm), .val (.double y), .second, .val (.int yz), .unset, .unset, .unset] [])) rfl (hb hby at_132) (by decide) (by decide)
  obtain ⟨a1, g1⟩ : ∃ z, z = h0.size := ⟨_, rfl⟩
  rw [← g1] at A1 D1 st1
  have F1_0 : Fld Z h1 a1 "com/example/bidwave/bidwave/experiment/Report$Quotient" "dividend" "D" (.double (0 : UInt64)) := (D1 (Or.inr (hw _ (List.mem_of_getElem? (i := 15) rfl))) (ty := .double) (by decide))
  have F1_1 : Fld Z h1 a1 "com/example/bidwave/bidwave/experiment/Report$Quotient" "divisor" "D" (.double (0 : UInt64)) := (D1 (Or.inr (hw _ (List.mem_of_getElem? (i := 17) rfl))) (ty := .double) (by decide))
  have Z1 : n0 ≤ h1.size := Nat.le_trans Z0 E1.1
  obtain ⟨_, _, ⟨T2, L2, k2, n2⟩, -, X2, ⟨Lc2, hQ2, l2, y2, z2⟩, st2⟩ := X1.specialBack hx (y := (⟨"com/example/bidwave/bidwave/experiment/Report$Quotient", "<init>", "(DD)V"⟩ : MethodName)) rfl hown (mvT hZ (hw _ (List.mem_of_getElem? (i := 3) rfl))) (mvT hZ (hw _ (List.mem_of_getElem? (i := 4) rfl))) (mvT hZ (hw _ (List.mem_of_getElem? (i := 5) rfl))) (by decide) (backOf (W := 1) (rm_1 l Z a0 hw [] a1 x y h1 n0 Z1 F1_0 F1_1 A1 (Nat.le_trans Z0 (Nat.le_of_eq g1.symm))) hZ (hw _ (List.mem_of_getElem? (i := 5) rfl)) (hw _ (List.mem_of_getElem? (i := 2) rfl)) (by decide) (by decide)) (g := (mkF m 140 #[.val (.int p1), .val (.int p2), .val (.int p3), .val (.int dm), .val (.int vm), .val (.double x), .second, .val (.int xz), .val (.int sm), .val (.double y), .second, .val (.int yz), .unset, .unset, .unset] [(.double y), (.double x), (.ref a1), (.ref a1)])) rfl (by rw [hml]; rfl) (Steps.refl _) (a := a1) (argsL := [(.double x), (.double y)]) (rest := [(.ref a1)]) (lenOf pd_1 rfl) rfl (by show 2 * 0 + _ ≤ _; exact Nat.le_of_eq rfl) (hb hby at_140) (fun _ _ => ⟨rfl, e1, (by decide : 1 + 0 ≤ _), (by decide : 2 + 0 ≤ _)⟩)
  dsimp only [Pt.U, Pt.locs, Pt.cells, Pt.slots] at X2 l2 y2 z2 st2 hQ2
  subst l2 y2 z2
  obtain ⟨rfl, N2, K2, B2, F2_0, F2_1⟩ := hQ2
  have N2b := Fr.app N0 N2
  have Z2 : n0 ≤ T2.heap.size := Nat.le_trans Z1 K2.1
  obtain ⟨cq3, kq3, qa3, qb3, qc3⟩ := isOf hZ rfl B2
  obtain ⟨_, _, ⟨T3, L3, k3, n3⟩, -, X3, ⟨Lc3, hQ3, l3, y3, z3⟩, st3⟩ := X2.virtualBack hx (y := (⟨"com/example/bidwave/bidwave/experiment/Report$Quotient", "isUnbounded", "()Z"⟩ : MethodName)) (z := (⟨"com/example/bidwave/bidwave/experiment/Report$Quotient", "isUnbounded", "()Z"⟩ : MethodName)) hown (mvT hZ (hw _ (List.mem_of_getElem? (i := 18) rfl))) (mvT hZ (hw _ (List.mem_of_getElem? (i := 19) rfl))) (notFace_of_selects (args := #[]) (mvT hZ (hw _ (List.mem_of_getElem? (i := 21) rfl)))) (mvT hZ (hw _ (List.mem_of_getElem? (i := 21) rfl))) (mvT hZ (hw _ (List.mem_of_getElem? (i := 20) rfl))) (by decide) (backOf (W := 0) (rm_4 l Z a0 hw [] a1 x y T2.heap n0 Z2 F2_0 F2_1) hZ (hw _ (List.mem_of_getElem? (i := 22) rfl)) (hw _ (List.mem_of_getElem? (i := 2) rfl)) (by decide) (by decide)) qa3 qc3 (g := (mkF m 164 #[.val (.int p1), .val (.int p2), .val (.int p3), .val (.int dm), .val (.int vm), .val (.double x), .second, .val (.int xz), .val (.int sm), .val (.double y), .second, .val (.int yz), .val (.ref a1), .val (.int ex), .unset] [(.ref a1)])) rfl (by rw [hml]; rfl) (Steps.refl _) (argsL := []) (rest := []) (lenOf pd_4 rfl) rfl (by show 2 * 0 + _ ≤ _; exact Nat.le_of_eq rfl) (hb hby at_164) (fun _ _ => ⟨rfl, rfl, (by decide : 1 + 0 ≤ _), (by decide : 2 + 0 ≤ _)⟩)
  dsimp only [Pt.U, Pt.locs, Pt.cells, Pt.slots] at X3 l3 y3 z3 st3 hQ3
  subst l3 y3 z3
  obtain ⟨rfl, N3, e3⟩ := hQ3
  have N3b := Fr.app N2b N3
  have seg : ∃ T' L', Stand p l e room_1 s m #[(.int p1), (.int p2), (.int p3)] below meth c T' L' 1 2 ∧ Fr n0 L' ∧ ∀ target, Steps p.tables e below (T'.setTop (mkF m 189 #[.val (.int p1), .val (.int p2), .val (.int p3), .val (.int dm), .val (.int vm), .val (.double x), .second, .val (.int xz), .val (.int sm), .val (.double y), .second, .val (.int yz), .val (.ref a1), .val (.int ex), .val (.int (own_bz (¬ own_z x = (0 : Int32) ∧ own_z y = (0 : Int32))))] [])) target → Steps p.tables e below (T3.setTop (mkF m 176 #[.val (.int p1), .val (.int p2), .val (.int p3), .val (.int dm), .val (.int vm), .val (.double x), .second, .val (.int xz), .val (.int sm), .val (.double y), .second, .val (.int yz), .val (.ref a1), .val (.int ex), .val (.int (own_bz (¬ own_z x = (0 : Int32) ∧ own_z y = (0 : Int32))))] [])) target := by
    by_cases cu : (own_bz (¬ own_z x = (0 : Int32) ∧ own_z y = (0 : Int32))) = (0 : Int32)
    · refine ⟨T3, _, X3, N3b, fun target k => ?_⟩
      show Steps p.tables e below (T3.setTop (mkF m 176 #[.val (.int p1), .val (.int p2), .val (.int p3), .val (.int dm), .val (.int vm), .val (.double x), .second, .val (.int xz), .val (.int sm), .val (.double y), .second, .val (.int yz), .val (.ref a1), .val (.int ex), .val (.int (own_bz (¬ own_z x = (0 : Int32) ∧ own_z y = (0 : Int32))))] [])) _
      refine XS.iload X3.here hx rfl (hb hby at_176) rfl ?_
      show Steps p.tables e below (T3.setTop (mkF m 178 #[.val (.int p1), .val (.int p2), .val (.int p3), .val (.int dm), .val (.int vm), .val (.double x), .second, .val (.int xz), .val (.int sm), .val (.double y), .second, .val (.int yz), .val (.ref a1), .val (.int ex), .val (.int (own_bz (¬ own_z x = (0 : Int32) ∧ own_z y = (0 : Int32))))] [(.int (own_bz (¬ own_z x = (0 : Int32) ∧ own_z y = (0 : Int32))))])) _
      refine XS.ifYes X3.here hx rfl (pc0 := 178) (pc' := 189) rfl (hb hby at_178) rfl ((if0 _ _).trans (teq cu).1) (by decide) (by decide) ?_
      show Steps p.tables e below (T3.setTop (mkF m 189 #[.val (.int p1), .val (.int p2), .val (.int p3), .val (.int dm), .val (.int vm), .val (.double x), .second, .val (.int xz), .val (.int sm), .val (.double y), .second, .val (.int yz), .val (.ref a1), .val (.int ex), .val (.int (own_bz (¬ own_z x = (0 : Int32) ∧ own_z y = (0 : Int32))))] [])) _
      exact k
    · obtain ⟨cq4, kq4, qa4, qb4, qc4⟩ := isOf hZ e3 B2
      obtain ⟨_, _, ⟨T4, L4, k4, n4⟩, -, X4, ⟨Lc4, hQ4, l4, y4, z4⟩, st4⟩ := X3.virtualBack hx (y := (⟨"com/example/bidwave/bidwave/experiment/Report$Quotient", "isUndefined", "()Z"⟩ : MethodName)) (z := (⟨"com/example/bidwave/bidwave/experiment/Report$Quotient", "isUndefined", "()Z"⟩ : MethodName)) hown (mvT hZ (hw _ (List.mem_of_getElem? (i := 23) rfl))) (mvT hZ (hw _ (List.mem_of_getElem? (i := 24) rfl))) (notFace_of_selects (args := #[]) (mvT hZ (hw _ (List.mem_of_getElem? (i := 26) rfl)))) (mvT hZ (hw _ (List.mem_of_getElem? (i := 26) rfl))) (mvT hZ (hw _ (List.mem_of_getElem? (i := 25) rfl))) (by decide) (backOf (W := 0) (rm_5 l Z a0 hw [] a1 x y T2.heap n0 Z2 F2_0 F2_1) hZ (hw _ (List.mem_of_getElem? (i := 27) rfl)) (hw _ (List.mem_of_getElem? (i := 2) rfl)) (by decide) (by decide)) qa4 qc4 (g := (mkF m 183 #[.val (.int p1), .val (.int p2), .val (.int p3), .val (.int dm), .val (.int vm), .val (.double x), .second, .val (.int xz), .val (.int sm), .val (.double y), .second, .val (.int yz), .val (.ref a1), .val (.int ex), .val (.int (own_bz (¬ own_z x = (0 : Int32) ∧ own_z y = (0 : Int32))))] [(.ref a1)])) rfl (by rw [hml]; rfl) (Steps.refl _) (argsL := []) (rest := []) (lenOf pd_4 rfl) rfl (by show 2 * 0 + _ ≤ _; exact Nat.le_of_eq rfl) (hb hby at_183) (fun _ _ => ⟨rfl, e3, (by decide : 1 + 0 ≤ _), (by decide : 2 + 0 ≤ _)⟩)
      dsimp only [Pt.U, Pt.locs, Pt.cells, Pt.slots] at X4 l4 y4 z4 st4 hQ4
      subst l4 y4 z4
      obtain ⟨rfl, N4, e4⟩ := hQ4
      have ud : (own_bz (own_z x = (0 : Int32) ∧ own_z y = (0 : Int32))) = (0 : Int32) := own_bz_f (fun q => cu (own_bz_f (fun r => r.1 q.1)))
      refine ⟨T4, _, X4, Fr.app N3b N4, fun target k => ?_⟩
      show Steps p.tables e below (T3.setTop (mkF m 176 #[.val (.int p1), .val (.int p2), .val (.int p3), .val (.int dm), .val (.int vm), .val (.double x), .second, .val (.int xz), .val (.int sm), .val (.double y), .second, .val (.int yz), .val (.ref a1), .val (.int ex), .val (.int (own_bz (¬ own_z x = (0 : Int32) ∧ own_z y = (0 : Int32))))] [])) _
      refine XS.iload X3.here hx rfl (hb hby at_176) rfl ?_
      show Steps p.tables e below (T3.setTop (mkF m 178 #[.val (.int p1), .val (.int p2), .val (.int p3), .val (.int dm), .val (.int vm), .val (.double x), .second, .val (.int xz), .val (.int sm), .val (.double y), .second, .val (.int yz), .val (.ref a1), .val (.int ex), .val (.int (own_bz (¬ own_z x = (0 : Int32) ∧ own_z y = (0 : Int32))))] [(.int (own_bz (¬ own_z x = (0 : Int32) ∧ own_z y = (0 : Int32))))])) _
      refine XS.ifNo X3.here hx rfl (hb hby at_178) rfl ((if0 _ _).trans (feq cu).1) ?_
      show Steps p.tables e below (T3.setTop (mkF m 181 #[.val (.int p1), .val (.int p2), .val (.int p3), .val (.int dm), .val (.int vm), .val (.double x), .second, .val (.int xz), .val (.int sm), .val (.double y), .second, .val (.int yz), .val (.ref a1), .val (.int ex), .val (.int (own_bz (¬ own_z x = (0 : Int32) ∧ own_z y = (0 : Int32))))] [])) _
      refine XS.aload X3.here hx rfl (hb hby at_181) rfl rfl ?_
      show Steps p.tables e below (T3.setTop (mkF m 183 #[.val (.int p1), .val (.int p2), .val (.int p3), .val (.int dm), .val (.int vm), .val (.double x), .second, .val (.int xz), .val (.int sm), .val (.double y), .second, .val (.int yz), .val (.ref a1), .val (.int ex), .val (.int (own_bz (¬ own_z x = (0 : Int32) ∧ own_z y = (0 : Int32))))] [(.ref a1)])) _
      refine st4.trans ?_
      show Steps p.tables e below (T4.setTop (mkF m 186 #[.val (.int p1), .val (.int p2), .val (.int p3), .val (.int dm), .val (.int vm), .val (.double x), .second, .val (.int xz), .val (.int sm), .val (.double y), .second, .val (.int yz), .val (.ref a1), .val (.int ex), .val (.int (own_bz (¬ own_z x = (0 : Int32) ∧ own_z y = (0 : Int32))))] [(.int (own_bz (own_z x = (0 : Int32) ∧ own_z y = (0 : Int32))))])) _
      refine XS.ifNo X4.here hx rfl (hb hby at_186) rfl ((if0 _ _).trans (teq ud).2) ?_
      show Steps p.tables e below (T4.setTop (mkF m 189 #[.val (.int p1), .val (.int p2), .val (.int p3), .val (.int dm), .val (.int vm), .val (.double x), .second, .val (.int xz), .val (.int sm), .val (.double y), .second, .val (.int yz), .val (.ref a1), .val (.int ex), .val (.int (own_bz (¬ own_z x = (0 : Int32) ∧ own_z y = (0 : Int32))))] [])) _
      exact k
  obtain ⟨T5, L5, X5, N5, st5⟩ := seg
  obtain ⟨fs, hr, hrun, hended, hW, hsame⟩ := X5.leave (v := some (.int (1 : Int32))) (fun h => by rw [Bd.returns] at h; cases h)
  refine ⟨_, _, pre0 _ ?_, hrun, hended, _, _, rfl, ?_, ⟨_, rfl⟩, hW, hsame.mono (by decide) (by decide)⟩
  · have k189 : Steps p.tables e below (T5.setTop (mkF m 189 #[.val (.int p1), .val (.int p2), .val (.int p3), .val (.int dm), .val (.int vm), .val (.double x), .second, .val (.int xz), .val (.int sm), .val (.double y), .second, .val (.int yz), .val (.ref a1), .val (.int ex), .val (.int (own_bz (¬ own_z x = (0 : Int32) ∧ own_z y = (0 : Int32))))] [])) (T5.setFrames fs) := by
      show Steps p.tables e below (T5.setTop (mkF m 189 #[.val (.int p1), .val (.int p2), .val (.int p3), .val (.int dm), .val (.int vm), .val (.double x), .second, .val (.int xz), .val (.int sm), .val (.double y), .second, .val (.int yz), .val (.ref a1), .val (.int ex), .val (.int (own_bz (¬ own_z x = (0 : Int32) ∧ own_z y = (0 : Int32))))] [])) _
      refine XS.iconst X5.here hx rfl (hb hby at_189) ?_
      show Steps p.tables e below (T5.setTop (mkF m 190 #[.val (.int p1), .val (.int p2), .val (.int p3), .val (.int dm), .val (.int vm), .val (.double x), .second, .val (.int xz), .val (.int sm), .val (.double y), .second, .val (.int yz), .val (.ref a1), .val (.int ex), .val (.int (own_bz (¬ own_z x = (0 : Int32) ∧ own_z y = (0 : Int32))))] [(.int (1 : Int32))])) _
      refine XS.goto X5.here hx rfl (pc0 := 190) (pc' := 194) rfl (hb hby at_190) (by decide) (by decide) ?_
      show Steps p.tables e below (T5.setTop (mkF m 194 #[.val (.int p1), .val (.int p2), .val (.int p3), .val (.int dm), .val (.int vm), .val (.double x), .second, .val (.int xz), .val (.int sm), .val (.double y), .second, .val (.int yz), .val (.ref a1), .val (.int ex), .val (.int (own_bz (¬ own_z x = (0 : Int32) ∧ own_z y = (0 : Int32))))] [(.int (1 : Int32))])) _
      exact retN X5 hx (t := .boolean) Bd.returns (by simp) (hb hby at_194) hr
    have k160 : ∀ z, z = ex → Steps p.tables e below (T2.setTop (mkF m 160 #[.val (.int p1), .val (.int p2), .val (.int p3), .val (.int dm), .val (.int vm), .val (.double x), .second, .val (.int xz), .val (.int sm), .val (.double y), .second, .val (.int yz), .val (.ref a1), .unset, .unset] [(.int z)])) (T5.setFrames fs) := by
      intro z hz; rw [hz]
      show Steps p.tables e below (T2.setTop (mkF m 160 #[.val (.int p1), .val (.int p2), .val (.int p3), .val (.int dm), .val (.int vm), .val (.double x), .second, .val (.int xz), .val (.int sm), .val (.double y), .second, .val (.int yz), .val (.ref a1), .unset, .unset] [(.int ex)])) _
      refine XS.istore X2.here hx rfl (hb hby at_160) rfl (l' := #[.val (.int p1), .val (.int p2), .val (.int p3), .val (.int dm), .val (.int vm), .val (.double x), .second, .val (.int xz), .val (.int sm), .val (.double y), .second, .val (.int yz), .val (.ref a1), .val (.int ex), .unset]) rfl ?_
      show Steps p.tables e below (T2.setTop (mkF m 162 #[.val (.int p1), .val (.int p2), .val (.int p3), .val (.int dm), .val (.int vm), .val (.double x), .second, .val (.int xz), .val (.int sm), .val (.double y), .second, .val (.int yz), .val (.ref a1), .val (.int ex), .unset] [])) _
      refine XS.aload X2.here hx rfl (hb hby at_162) rfl rfl ?_
      show Steps p.tables e below (T2.setTop (mkF m 164 #[.val (.int p1), .val (.int p2), .val (.int p3), .val (.int dm), .val (.int vm), .val (.double x), .second, .val (.int xz), .val (.int sm), .val (.double y), .second, .val (.int yz), .val (.ref a1), .val (.int ex), .unset] [(.ref a1)])) _
      refine st3.trans ?_
      show Steps p.tables e below (T3.setTop (mkF m 167 #[.val (.int p1), .val (.int p2), .val (.int p3), .val (.int dm), .val (.int vm), .val (.double x), .second, .val (.int xz), .val (.int sm), .val (.double y), .second, .val (.int yz), .val (.ref a1), .val (.int ex), .unset] [(.int (own_bz (¬ own_z x = (0 : Int32) ∧ own_z y = (0 : Int32))))])) _
      refine XS.istore X3.here hx rfl (hb hby at_167) rfl (l' := #[.val (.int p1), .val (.int p2), .val (.int p3), .val (.int dm), .val (.int vm), .val (.double x), .second, .val (.int xz), .val (.int sm), .val (.double y), .second, .val (.int yz), .val (.ref a1), .val (.int ex), .val (.int (own_bz (¬ own_z x = (0 : Int32) ∧ own_z y = (0 : Int32))))]) rfl ?_
      show Steps p.tables e below (T3.setTop (mkF m 169 #[.val (.int p1), .val (.int p2), .val (.int p3), .val (.int dm), .val (.int vm), .val (.double x), .second, .val (.int xz), .val (.int sm), .val (.double y), .second, .val (.int yz), .val (.ref a1), .val (.int ex), .val (.int (own_bz (¬ own_z x = (0 : Int32) ∧ own_z y = (0 : Int32))))] [])) _
      refine XS.iload X3.here hx rfl (hb hby at_169) rfl ?_
      show Steps p.tables e below (T3.setTop (mkF m 171 #[.val (.int p1), .val (.int p2), .val (.int p3), .val (.int dm), .val (.int vm), .val (.double x), .second, .val (.int xz), .val (.int sm), .val (.double y), .second, .val (.int yz), .val (.ref a1), .val (.int ex), .val (.int (own_bz (¬ own_z x = (0 : Int32) ∧ own_z y = (0 : Int32))))] [(.int (own_bz (¬ own_z x = (0 : Int32) ∧ own_z y = (0 : Int32))))])) _
      refine XS.iload X3.here hx rfl (hb hby at_171) rfl ?_
      show Steps p.tables e below (T3.setTop (mkF m 173 #[.val (.int p1), .val (.int p2), .val (.int p3), .val (.int dm), .val (.int vm), .val (.double x), .second, .val (.int xz), .val (.int sm), .val (.double y), .second, .val (.int yz), .val (.ref a1), .val (.int ex), .val (.int (own_bz (¬ own_z x = (0 : Int32) ∧ own_z y = (0 : Int32))))] [(.int ex), (.int (own_bz (¬ own_z x = (0 : Int32) ∧ own_z y = (0 : Int32))))])) _
      refine XS.icmpNo X3.here hx rfl (hb hby at_173) rfl (teq hex.symm).2 ?_
      show Steps p.tables e below (T3.setTop (mkF m 176 #[.val (.int p1), .val (.int p2), .val (.int p3), .val (.int dm), .val (.int vm), .val (.double x), .second, .val (.int xz), .val (.int sm), .val (.double y), .second, .val (.int yz), .val (.ref a1), .val (.int ex), .val (.int (own_bz (¬ own_z x = (0 : Int32) ∧ own_z y = (0 : Int32))))] [])) _
      exact st5 _ k189
    have k132 : ∀ y' yz', y' = y → yz' = yz → Steps p.tables e below (s₁.setTop (mkF m 132 #[.val (.int p1), .val (.int p2), .val (.int p3), .val (.int dm), .val (.int vm), .val (.double x), .second, .val (.int xz), .val (.int sm), .val (.double y'), .second, .val (.int yz'), .unset, .unset, .unset] [])) (T5.setFrames fs) := by
      intro y' yz' h1 h2; rw [h1, h2]
      show Steps p.tables e below (s₁.setTop (mkF m 132 #[.val (.int p1), .val (.int p2), .val (.int p3), .val (.int dm), .val (.int vm), .val (.double x), .second, .val (.int xz), .val (.int sm), .val (.double y), .second, .val (.int yz), .unset, .unset, .unset] [])) _
      refine st1 _ ?_
      show Steps p.tables e below (T1.setTop (mkF m 135 #[.val (.int p1), .val (.int p2), .val (.int p3), .val (.int dm), .val (.int vm), .val (.double x), .second, .val (.int xz), .val (.int sm), .val (.double y), .second, .val (.int yz), .unset, .unset, .unset] [(.ref a1)])) _
      refine XS.dup X1.here hx rfl (hb hby at_135) rfl rfl ?_
      show Steps p.tables e below (T1.setTop (mkF m 136 #[.val (.int p1), .val (.int p2), .val (.int p3), .val (.int dm), .val (.int vm), .val (.double x), .second, .val (.int xz), .val (.int sm), .val (.double y), .second, .val (.int yz), .unset, .unset, .unset] [(.ref a1), (.ref a1)])) _
      refine XS.dload X1.here hx rfl (hb hby at_136) rfl ?_
      show Steps p.tables e below (T1.setTop (mkF m 138 #[.val (.int p1), .val (.int p2), .val (.int p3), .val (.int dm), .val (.int vm), .val (.double x), .second, .val (.int xz), .val (.int sm), .val (.double y), .second, .val (.int yz), .unset, .unset, .unset] [(.double x), (.ref a1), (.ref a1)])) _
      refine XS.dload X1.here hx rfl (hb hby at_138) rfl ?_
      show Steps p.tables e below (T1.setTop (mkF m 140 #[.val (.int p1), .val (.int p2), .val (.int p3), .val (.int dm), .val (.int vm), .val (.double x), .second, .val (.int xz), .val (.int sm), .val (.double y), .second, .val (.int yz), .unset, .unset, .unset] [(.double y), (.double x), (.ref a1), (.ref a1)])) _
      refine st2.trans ?_
      show Steps p.tables e below (T2.setTop (mkF m 143 #[.val (.int p1), .val (.int p2), .val (.int p3), .val (.int dm), .val (.int vm), .val (.double x), .second, .val (.int xz), .val (.int sm), .val (.double y), .second, .val (.int yz), .unset, .unset, .unset] [(.ref a1)])) _
      refine XS.astore X2.here hx rfl (hb hby at_143) rfl rfl (l' := #[.val (.int p1), .val (.int p2), .val (.int p3), .val (.int dm), .val (.int vm), .val (.double x), .second, .val (.int xz), .val (.int sm), .val (.double y), .second, .val (.int yz), .val (.ref a1), .unset, .unset]) rfl ?_
      show Steps p.tables e below (T2.setTop (mkF m 145 #[.val (.int p1), .val (.int p2), .val (.int p3), .val (.int dm), .val (.int vm), .val (.double x), .second, .val (.int xz), .val (.int sm), .val (.double y), .second, .val (.int yz), .val (.ref a1), .unset, .unset] [])) _
      refine XS.iload X2.here hx rfl (hb hby at_145) rfl ?_
      show Steps p.tables e below (T2.setTop (mkF m 147 #[.val (.int p1), .val (.int p2), .val (.int p3), .val (.int dm), .val (.int vm), .val (.double x), .second, .val (.int xz), .val (.int sm), .val (.double y), .second, .val (.int yz), .val (.ref a1), .unset, .unset] [(.int xz)])) _
      by_cases c1 : xz = (0 : Int32)
      · refine XS.ifNo X2.here hx rfl (hb hby at_147) rfl ((if0 _ _).trans (teq c1).2) ?_
        show Steps p.tables e below (T2.setTop (mkF m 150 #[.val (.int p1), .val (.int p2), .val (.int p3), .val (.int dm), .val (.int vm), .val (.double x), .second, .val (.int xz), .val (.int sm), .val (.double y), .second, .val (.int yz), .val (.ref a1), .unset, .unset] [])) _
        refine XS.iload X2.here hx rfl (hb hby at_150) rfl ?_
        show Steps p.tables e below (T2.setTop (mkF m 152 #[.val (.int p1), .val (.int p2), .val (.int p3), .val (.int dm), .val (.int vm), .val (.double x), .second, .val (.int xz), .val (.int sm), .val (.double y), .second, .val (.int yz), .val (.ref a1), .unset, .unset] [(.int yz)])) _
        by_cases c2 : yz = (0 : Int32)
        · refine XS.ifYes X2.here hx rfl (pc0 := 152) (pc' := 159) rfl (hb hby at_152) rfl ((if0 _ _).trans (teq c2).1) (by decide) (by decide) ?_
          show Steps p.tables e below (T2.setTop (mkF m 159 #[.val (.int p1), .val (.int p2), .val (.int p3), .val (.int dm), .val (.int vm), .val (.double x), .second, .val (.int xz), .val (.int sm), .val (.double y), .second, .val (.int yz), .val (.ref a1), .unset, .unset] [])) _
          refine XS.iconst X2.here hx rfl (hb hby at_159) ?_
          show Steps p.tables e below (T2.setTop (mkF m 160 #[.val (.int p1), .val (.int p2), .val (.int p3), .val (.int dm), .val (.int vm), .val (.double x), .second, .val (.int xz), .val (.int sm), .val (.double y), .second, .val (.int yz), .val (.ref a1), .unset, .unset] [(.int (0 : Int32))])) _
          exact k160 _ (by rw [hex, own_bz_f (fun q => (yf.mp q.2) c2)])
        · refine XS.ifNo X2.here hx rfl (hb hby at_152) rfl ((if0 _ _).trans (feq c2).1) ?_
          show Steps p.tables e below (T2.setTop (mkF m 155 #[.val (.int p1), .val (.int p2), .val (.int p3), .val (.int dm), .val (.int vm), .val (.double x), .second, .val (.int xz), .val (.int sm), .val (.double y), .second, .val (.int yz), .val (.ref a1), .unset, .unset] [])) _
          refine XS.iconst X2.here hx rfl (hb hby at_155) ?_
          show Steps p.tables e below (T2.setTop (mkF m 156 #[.val (.int p1), .val (.int p2), .val (.int p3), .val (.int dm), .val (.int vm), .val (.double x), .second, .val (.int xz), .val (.int sm), .val (.double y), .second, .val (.int yz), .val (.ref a1), .unset, .unset] [(.int (1 : Int32))])) _
          refine XS.goto X2.here hx rfl (pc0 := 156) (pc' := 160) rfl (hb hby at_156) (by decide) (by decide) ?_
          show Steps p.tables e below (T2.setTop (mkF m 160 #[.val (.int p1), .val (.int p2), .val (.int p3), .val (.int dm), .val (.int vm), .val (.double x), .second, .val (.int xz), .val (.int sm), .val (.double y), .second, .val (.int yz), .val (.ref a1), .unset, .unset] [(.int (1 : Int32))])) _
          exact k160 _ (by rw [hex, own_bz_t ⟨fun q => (xf.mp q) c1, yf.mpr c2⟩])
      · refine XS.ifYes X2.here hx rfl (pc0 := 147) (pc' := 159) rfl (hb hby at_147) rfl ((if0 _ _).trans (feq c1).2) (by decide) (by decide) ?_
        show Steps p.tables e below (T2.setTop (mkF m 159 #[.val (.int p1), .val (.int p2), .val (.int p3), .val (.int dm), .val (.int vm), .val (.double x), .second, .val (.int xz), .val (.int sm), .val (.double y), .second, .val (.int yz), .val (.ref a1), .unset, .unset] [])) _
        refine XS.iconst X2.here hx rfl (hb hby at_159) ?_
        show Steps p.tables e below (T2.setTop (mkF m 160 #[.val (.int p1), .val (.int p2), .val (.int p3), .val (.int dm), .val (.int vm), .val (.double x), .second, .val (.int xz), .val (.int sm), .val (.double y), .second, .val (.int yz), .val (.ref a1), .unset, .unset] [(.int (0 : Int32))])) _
        exact k160 _ (by rw [hex, own_bz_f (fun q => q.1 (xf.mpr c1))])
    have k55 : ∀ x' xz', x' = x → xz' = xz → Steps p.tables e below (s₁.setTop (mkF m 55 #[.val (.int p1), .val (.int p2), .val (.int p3), .val (.int dm), .val (.int vm), .val (.double x'), .second, .val (.int xz'), .unset, .unset, .unset, .unset, .unset, .unset, .unset] [])) (T5.setFrames fs) := by
      intro x' xz' h1 h2; rw [h1, h2]
      show Steps p.tables e below (s₁.setTop (mkF m 55 #[.val (.int p1), .val (.int p2), .val (.int p3), .val (.int dm), .val (.int vm), .val (.double x), .second, .val (.int xz), .unset, .unset, .unset, .unset, .unset, .unset, .unset] [])) _
      refine XS.iloadN X0.here hx rfl (hb hby at_55) rfl ?_
      show Steps p.tables e below (s₁.setTop (mkF m 56 #[.val (.int p1), .val (.int p2), .val (.int p3), .val (.int dm), .val (.int vm), .val (.double x), .second, .val (.int xz), .unset, .unset, .unset, .unset, .unset, .unset, .unset] [(.int p2)])) _
      refine XS.iconst X0.here hx rfl (hb hby at_56) ?_
      show Steps p.tables e below (s₁.setTop (mkF m 57 #[.val (.int p1), .val (.int p2), .val (.int p3), .val (.int dm), .val (.int vm), .val (.double x), .second, .val (.int xz), .unset, .unset, .unset, .unset, .unset, .unset, .unset] [(.int (2 : Int32)), (.int p2)])) _
      refine iremM X0 hx rfl (hb hby at_57) rfl (by decide) ?_
      show Steps p.tables e below (s₁.setTop (mkF m 58 #[.val (.int p1), .val (.int p2), .val (.int p3), .val (.int dm), .val (.int vm), .val (.double x), .second, .val (.int xz), .unset, .unset, .unset, .unset, .unset, .unset, .unset] [(.int (p2 % (2 : Int32)))])) _
      refine XS.istore X0.here hx rfl (hb hby at_58) rfl (l' := #[.val (.int p1), .val (.int p2), .val (.int p3), .val (.int dm), .val (.int vm), .val (.double x), .second, .val (.int xz), .val (.int sm), .unset, .unset, .unset, .unset, .unset, .unset]) (by rw [hsm]; rfl) ?_
      show Steps p.tables e below (s₁.setTop (mkF m 60 #[.val (.int p1), .val (.int p2), .val (.int p3), .val (.int dm), .val (.int vm), .val (.double x), .second, .val (.int xz), .val (.int sm), .unset, .unset, .unset, .unset, .unset, .unset] [])) _
      refine XS.iload X0.here hx rfl (hb hby at_60) rfl ?_
      show Steps p.tables e below (s₁.setTop (mkF m 62 #[.val (.int p1), .val (.int p2), .val (.int p3), .val (.int dm), .val (.int vm), .val (.double x), .second, .val (.int xz), .val (.int sm), .unset, .unset, .unset, .unset, .unset, .unset] [(.int vm)])) _
      by_cases d1 : vm = (0 : Int32)
      · refine XS.ifNo X0.here hx rfl (hb hby at_62) rfl ((if0 _ _).trans (teq d1).2) ?_
        show Steps p.tables e below (s₁.setTop (mkF m 65 #[.val (.int p1), .val (.int p2), .val (.int p3), .val (.int dm), .val (.int vm), .val (.double x), .second, .val (.int xz), .val (.int sm), .unset, .unset, .unset, .unset, .unset, .unset] [])) _
        refine XS.dconst0 X0.here hx rfl (hb hby at_65) rfl ?_
        show Steps p.tables e below (s₁.setTop (mkF m 66 #[.val (.int p1), .val (.int p2), .val (.int p3), .val (.int dm), .val (.int vm), .val (.double x), .second, .val (.int xz), .val (.int sm), .unset, .unset, .unset, .unset, .unset, .unset] [(.double FP.dconst0)])) _
        refine XS.dstore X0.here hx rfl (hb hby at_66) rfl (l' := #[.val (.int p1), .val (.int p2), .val (.int p3), .val (.int dm), .val (.int vm), .val (.double x), .second, .val (.int xz), .val (.int sm), .val (.double FP.dconst0), .second, .unset, .unset, .unset, .unset]) rfl ?_
        show Steps p.tables e below (s₁.setTop (mkF m 68 #[.val (.int p1), .val (.int p2), .val (.int p3), .val (.int dm), .val (.int vm), .val (.double x), .second, .val (.int xz), .val (.int sm), .val (.double FP.dconst0), .second, .unset, .unset, .unset, .unset] [])) _
        refine XS.iconst X0.here hx rfl (hb hby at_68) ?_
        show Steps p.tables e below (s₁.setTop (mkF m 69 #[.val (.int p1), .val (.int p2), .val (.int p3), .val (.int dm), .val (.int vm), .val (.double x), .second, .val (.int xz), .val (.int sm), .val (.double FP.dconst0), .second, .unset, .unset, .unset, .unset] [(.int (1 : Int32))])) _
        refine XS.istore X0.here hx rfl (hb hby at_69) rfl (l' := #[.val (.int p1), .val (.int p2), .val (.int p3), .val (.int dm), .val (.int vm), .val (.double x), .second, .val (.int xz), .val (.int sm), .val (.double FP.dconst0), .second, .val (.int (1 : Int32)), .unset, .unset, .unset]) rfl ?_
        show Steps p.tables e below (s₁.setTop (mkF m 71 #[.val (.int p1), .val (.int p2), .val (.int p3), .val (.int dm), .val (.int vm), .val (.double x), .second, .val (.int xz), .val (.int sm), .val (.double FP.dconst0), .second, .val (.int (1 : Int32)), .unset, .unset, .unset] [])) _
        refine XS.goto X0.here hx rfl (pc0 := 71) (pc' := 132) rfl (hb hby at_71) (by decide) (by decide) ?_
        show Steps p.tables e below (s₁.setTop (mkF m 132 #[.val (.int p1), .val (.int p2), .val (.int p3), .val (.int dm), .val (.int vm), .val (.double x), .second, .val (.int xz), .val (.int sm), .val (.double FP.dconst0), .second, .val (.int (1 : Int32)), .unset, .unset, .unset] [])) _
        exact k132 _ _ (by rw [hy1, if_pos d1]) (by rw [hyz, if_pos d1])
      · refine XS.ifYes X0.here hx rfl (pc0 := 62) (pc' := 74) rfl (hb hby at_62) rfl ((if0 _ _).trans (feq d1).2) (by decide) (by decide) ?_
        show Steps p.tables e below (s₁.setTop (mkF m 74 #[.val (.int p1), .val (.int p2), .val (.int p3), .val (.int dm), .val (.int vm), .val (.double x), .second, .val (.int xz), .val (.int sm), .unset, .unset, .unset, .unset, .unset, .unset] [])) _
        refine XS.iload X0.here hx rfl (hb hby at_74) rfl ?_
        show Steps p.tables e below (s₁.setTop (mkF m 76 #[.val (.int p1), .val (.int p2), .val (.int p3), .val (.int dm), .val (.int vm), .val (.double x), .second, .val (.int xz), .val (.int sm), .unset, .unset, .unset, .unset, .unset, .unset] [(.int vm)])) _
        refine XS.iconst X0.here hx rfl (hb hby at_76) ?_
        show Steps p.tables e below (s₁.setTop (mkF m 77 #[.val (.int p1), .val (.int p2), .val (.int p3), .val (.int dm), .val (.int vm), .val (.double x), .second, .val (.int xz), .val (.int sm), .unset, .unset, .unset, .unset, .unset, .unset] [(.int (1 : Int32)), (.int vm)])) _
        by_cases d2 : vm = (1 : Int32)
        · refine XS.icmpNo X0.here hx rfl (hb hby at_77) rfl (teq d2).2 ?_
          show Steps p.tables e below (s₁.setTop (mkF m 80 #[.val (.int p1), .val (.int p2), .val (.int p3), .val (.int dm), .val (.int vm), .val (.double x), .second, .val (.int xz), .val (.int sm), .unset, .unset, .unset, .unset, .unset, .unset] [])) _
          refine X0.ldc2DoubleC hx hown (mvT hZ (hw _ (List.mem_of_getElem? (i := 28) rfl))) (g := (mkF m 80 #[.val (.int p1), .val (.int p2), .val (.int p3), .val (.int dm), .val (.int vm), .val (.double x), .second, .val (.int xz), .val (.int sm), .unset, .unset, .unset, .unset, .unset, .unset] [])) rfl (hb hby at_80) _ ?_
          show Steps p.tables e below (s₁.setTop (mkF m 83 #[.val (.int p1), .val (.int p2), .val (.int p3), .val (.int dm), .val (.int vm), .val (.double x), .second, .val (.int xz), .val (.int sm), .unset, .unset, .unset, .unset, .unset, .unset] [(.double (9223372036854775808 : UInt64))])) _
          refine XS.dstore X0.here hx rfl (hb hby at_83) rfl (l' := #[.val (.int p1), .val (.int p2), .val (.int p3), .val (.int dm), .val (.int vm), .val (.double x), .second, .val (.int xz), .val (.int sm), .val (.double (9223372036854775808 : UInt64)), .second, .unset, .unset, .unset, .unset]) rfl ?_
          show Steps p.tables e below (s₁.setTop (mkF m 85 #[.val (.int p1), .val (.int p2), .val (.int p3), .val (.int dm), .val (.int vm), .val (.double x), .second, .val (.int xz), .val (.int sm), .val (.double (9223372036854775808 : UInt64)), .second, .unset, .unset, .unset, .unset] [])) _
          refine XS.iconst X0.here hx rfl (hb hby at_85) ?_
          show Steps p.tables e below (s₁.setTop (mkF m 86 #[.val (.int p1), .val (.int p2), .val (.int p3), .val (.int dm), .val (.int vm), .val (.double x), .second, .val (.int xz), .val (.int sm), .val (.double (9223372036854775808 : UInt64)), .second, .unset, .unset, .unset, .unset] [(.int (1 : Int32))])) _
          refine XS.istore X0.here hx rfl (hb hby at_86) rfl (l' := #[.val (.int p1), .val (.int p2), .val (.int p3), .val (.int dm), .val (.int vm), .val (.double x), .second, .val (.int xz), .val (.int sm), .val (.double (9223372036854775808 : UInt64)), .second, .val (.int (1 : Int32)), .unset, .unset, .unset]) rfl ?_
          show Steps p.tables e below (s₁.setTop (mkF m 88 #[.val (.int p1), .val (.int p2), .val (.int p3), .val (.int dm), .val (.int vm), .val (.double x), .second, .val (.int xz), .val (.int sm), .val (.double (9223372036854775808 : UInt64)), .second, .val (.int (1 : Int32)), .unset, .unset, .unset] [])) _
          refine XS.goto X0.here hx rfl (pc0 := 88) (pc' := 132) rfl (hb hby at_88) (by decide) (by decide) ?_
          show Steps p.tables e below (s₁.setTop (mkF m 132 #[.val (.int p1), .val (.int p2), .val (.int p3), .val (.int dm), .val (.int vm), .val (.double x), .second, .val (.int xz), .val (.int sm), .val (.double (9223372036854775808 : UInt64)), .second, .val (.int (1 : Int32)), .unset, .unset, .unset] [])) _
          exact k132 _ _ (by rw [hy1, if_neg d1, if_pos d2]) (by rw [hyz, if_neg d1, if_pos d2])
        · refine XS.icmpYes X0.here hx rfl (pc0 := 77) (pc' := 91) rfl (hb hby at_77) rfl (feq d2).2 (by decide) (by decide) ?_
          show Steps p.tables e below (s₁.setTop (mkF m 91 #[.val (.int p1), .val (.int p2), .val (.int p3), .val (.int dm), .val (.int vm), .val (.double x), .second, .val (.int xz), .val (.int sm), .unset, .unset, .unset, .unset, .unset, .unset] [])) _
          refine XS.iload X0.here hx rfl (hb hby at_91) rfl ?_
          show Steps p.tables e below (s₁.setTop (mkF m 93 #[.val (.int p1), .val (.int p2), .val (.int p3), .val (.int dm), .val (.int vm), .val (.double x), .second, .val (.int xz), .val (.int sm), .unset, .unset, .unset, .unset, .unset, .unset] [(.int vm)])) _
          refine XS.iconst X0.here hx rfl (hb hby at_93) ?_
          show Steps p.tables e below (s₁.setTop (mkF m 94 #[.val (.int p1), .val (.int p2), .val (.int p3), .val (.int dm), .val (.int vm), .val (.double x), .second, .val (.int xz), .val (.int sm), .unset, .unset, .unset, .unset, .unset, .unset] [(.int (2 : Int32)), (.int vm)])) _
          by_cases d3 : vm = (2 : Int32)
          · refine XS.icmpNo X0.here hx rfl (hb hby at_94) rfl (teq d3).2 ?_
            show Steps p.tables e below (s₁.setTop (mkF m 97 #[.val (.int p1), .val (.int p2), .val (.int p3), .val (.int dm), .val (.int vm), .val (.double x), .second, .val (.int xz), .val (.int sm), .unset, .unset, .unset, .unset, .unset, .unset] [])) _
            refine XS.iloadN X0.here hx rfl (hb hby at_97) rfl ?_
            show Steps p.tables e below (s₁.setTop (mkF m 98 #[.val (.int p1), .val (.int p2), .val (.int p3), .val (.int dm), .val (.int vm), .val (.double x), .second, .val (.int xz), .val (.int sm), .unset, .unset, .unset, .unset, .unset, .unset] [(.int p2)])) _
            refine XS.i2dS X0.here hx rfl (hb hby at_98) rfl rfl ?_
            show Steps p.tables e below (s₁.setTop (mkF m 99 #[.val (.int p1), .val (.int p2), .val (.int p3), .val (.int dm), .val (.int vm), .val (.double x), .second, .val (.int xz), .val (.int sm), .unset, .unset, .unset, .unset, .unset, .unset] [(.double (FP.i2d p2))])) _
            refine XS.dstore X0.here hx rfl (hb hby at_99) rfl (l' := #[.val (.int p1), .val (.int p2), .val (.int p3), .val (.int dm), .val (.int vm), .val (.double x), .second, .val (.int xz), .val (.int sm), .val (.double (FP.i2d p2)), .second, .unset, .unset, .unset, .unset]) rfl ?_
            show Steps p.tables e below (s₁.setTop (mkF m 101 #[.val (.int p1), .val (.int p2), .val (.int p3), .val (.int dm), .val (.int vm), .val (.double x), .second, .val (.int xz), .val (.int sm), .val (.double (FP.i2d p2)), .second, .unset, .unset, .unset, .unset] [])) _
            refine XS.iloadN X0.here hx rfl (hb hby at_101) rfl ?_
            show Steps p.tables e below (s₁.setTop (mkF m 102 #[.val (.int p1), .val (.int p2), .val (.int p3), .val (.int dm), .val (.int vm), .val (.double x), .second, .val (.int xz), .val (.int sm), .val (.double (FP.i2d p2)), .second, .unset, .unset, .unset, .unset] [(.int p2)])) _
            by_cases d4 : p2 = (0 : Int32)
            · refine XS.ifNo X0.here hx rfl (hb hby at_102) rfl ((if0 _ _).trans (teq d4).2) ?_
              show Steps p.tables e below (s₁.setTop (mkF m 105 #[.val (.int p1), .val (.int p2), .val (.int p3), .val (.int dm), .val (.int vm), .val (.double x), .second, .val (.int xz), .val (.int sm), .val (.double (FP.i2d p2)), .second, .unset, .unset, .unset, .unset] [])) _
              refine XS.iconst X0.here hx rfl (hb hby at_105) ?_
              show Steps p.tables e below (s₁.setTop (mkF m 106 #[.val (.int p1), .val (.int p2), .val (.int p3), .val (.int dm), .val (.int vm), .val (.double x), .second, .val (.int xz), .val (.int sm), .val (.double (FP.i2d p2)), .second, .unset, .unset, .unset, .unset] [(.int (1 : Int32))])) _
              refine XS.goto X0.here hx rfl (pc0 := 106) (pc' := 110) rfl (hb hby at_106) (by decide) (by decide) ?_
              show Steps p.tables e below (s₁.setTop (mkF m 110 #[.val (.int p1), .val (.int p2), .val (.int p3), .val (.int dm), .val (.int vm), .val (.double x), .second, .val (.int xz), .val (.int sm), .val (.double (FP.i2d p2)), .second, .unset, .unset, .unset, .unset] [(.int (1 : Int32))])) _
              refine XS.istore X0.here hx rfl (hb hby at_110) rfl (l' := #[.val (.int p1), .val (.int p2), .val (.int p3), .val (.int dm), .val (.int vm), .val (.double x), .second, .val (.int xz), .val (.int sm), .val (.double (FP.i2d p2)), .second, .val (.int (1 : Int32)), .unset, .unset, .unset]) rfl ?_
              show Steps p.tables e below (s₁.setTop (mkF m 112 #[.val (.int p1), .val (.int p2), .val (.int p3), .val (.int dm), .val (.int vm), .val (.double x), .second, .val (.int xz), .val (.int sm), .val (.double (FP.i2d p2)), .second, .val (.int (1 : Int32)), .unset, .unset, .unset] [])) _
              refine XS.goto X0.here hx rfl (pc0 := 112) (pc' := 132) rfl (hb hby at_112) (by decide) (by decide) ?_
              show Steps p.tables e below (s₁.setTop (mkF m 132 #[.val (.int p1), .val (.int p2), .val (.int p3), .val (.int dm), .val (.int vm), .val (.double x), .second, .val (.int xz), .val (.int sm), .val (.double (FP.i2d p2)), .second, .val (.int (1 : Int32)), .unset, .unset, .unset] [])) _
              exact k132 _ _ (by rw [hy1, if_neg d1, if_neg d2, if_pos d3]) (by rw [hyz, if_neg d1, if_neg d2, if_pos d3, if_pos d4])
            · refine XS.ifYes X0.here hx rfl (pc0 := 102) (pc' := 109) rfl (hb hby at_102) rfl ((if0 _ _).trans (feq d4).2) (by decide) (by decide) ?_
              show Steps p.tables e below (s₁.setTop (mkF m 109 #[.val (.int p1), .val (.int p2), .val (.int p3), .val (.int dm), .val (.int vm), .val (.double x), .second, .val (.int xz), .val (.int sm), .val (.double (FP.i2d p2)), .second, .unset, .unset, .unset, .unset] [])) _
              refine XS.iconst X0.here hx rfl (hb hby at_109) ?_
              show Steps p.tables e below (s₁.setTop (mkF m 110 #[.val (.int p1), .val (.int p2), .val (.int p3), .val (.int dm), .val (.int vm), .val (.double x), .second, .val (.int xz), .val (.int sm), .val (.double (FP.i2d p2)), .second, .unset, .unset, .unset, .unset] [(.int (0 : Int32))])) _
              refine XS.istore X0.here hx rfl (hb hby at_110) rfl (l' := #[.val (.int p1), .val (.int p2), .val (.int p3), .val (.int dm), .val (.int vm), .val (.double x), .second, .val (.int xz), .val (.int sm), .val (.double (FP.i2d p2)), .second, .val (.int (0 : Int32)), .unset, .unset, .unset]) rfl ?_
              show Steps p.tables e below (s₁.setTop (mkF m 112 #[.val (.int p1), .val (.int p2), .val (.int p3), .val (.int dm), .val (.int vm), .val (.double x), .second, .val (.int xz), .val (.int sm), .val (.double (FP.i2d p2)), .second, .val (.int (0 : Int32)), .unset, .unset, .unset] [])) _
              refine XS.goto X0.here hx rfl (pc0 := 112) (pc' := 132) rfl (hb hby at_112) (by decide) (by decide) ?_
              show Steps p.tables e below (s₁.setTop (mkF m 132 #[.val (.int p1), .val (.int p2), .val (.int p3), .val (.int dm), .val (.int vm), .val (.double x), .second, .val (.int xz), .val (.int sm), .val (.double (FP.i2d p2)), .second, .val (.int (0 : Int32)), .unset, .unset, .unset] [])) _
              exact k132 _ _ (by rw [hy1, if_neg d1, if_neg d2, if_pos d3]) (by rw [hyz, if_neg d1, if_neg d2, if_pos d3, if_neg d4])
          · refine XS.icmpYes X0.here hx rfl (pc0 := 94) (pc' := 115) rfl (hb hby at_94) rfl (feq d3).2 (by decide) (by decide) ?_
            show Steps p.tables e below (s₁.setTop (mkF m 115 #[.val (.int p1), .val (.int p2), .val (.int p3), .val (.int dm), .val (.int vm), .val (.double x), .second, .val (.int xz), .val (.int sm), .unset, .unset, .unset, .unset, .unset, .unset] [])) _
            refine XS.iload X0.here hx rfl (hb hby at_115) rfl ?_
            show Steps p.tables e below (s₁.setTop (mkF m 117 #[.val (.int p1), .val (.int p2), .val (.int p3), .val (.int dm), .val (.int vm), .val (.double x), .second, .val (.int xz), .val (.int sm), .unset, .unset, .unset, .unset, .unset, .unset] [(.int sm)])) _
            refine XS.i2dS X0.here hx rfl (hb hby at_117) rfl rfl ?_
            show Steps p.tables e below (s₁.setTop (mkF m 118 #[.val (.int p1), .val (.int p2), .val (.int p3), .val (.int dm), .val (.int vm), .val (.double x), .second, .val (.int xz), .val (.int sm), .unset, .unset, .unset, .unset, .unset, .unset] [(.double (FP.i2d sm))])) _
            refine XS.dstore X0.here hx rfl (hb hby at_118) rfl (l' := #[.val (.int p1), .val (.int p2), .val (.int p3), .val (.int dm), .val (.int vm), .val (.double x), .second, .val (.int xz), .val (.int sm), .val (.double (FP.i2d sm)), .second, .unset, .unset, .unset, .unset]) rfl ?_
            show Steps p.tables e below (s₁.setTop (mkF m 120 #[.val (.int p1), .val (.int p2), .val (.int p3), .val (.int dm), .val (.int vm), .val (.double x), .second, .val (.int xz), .val (.int sm), .val (.double (FP.i2d sm)), .second, .unset, .unset, .unset, .unset] [])) _
            refine XS.iload X0.here hx rfl (hb hby at_120) rfl ?_
            show Steps p.tables e below (s₁.setTop (mkF m 122 #[.val (.int p1), .val (.int p2), .val (.int p3), .val (.int dm), .val (.int vm), .val (.double x), .second, .val (.int xz), .val (.int sm), .val (.double (FP.i2d sm)), .second, .unset, .unset, .unset, .unset] [(.int sm)])) _
            by_cases d4 : sm = (0 : Int32)
            · refine XS.ifNo X0.here hx rfl (hb hby at_122) rfl ((if0 _ _).trans (teq d4).2) ?_
              show Steps p.tables e below (s₁.setTop (mkF m 125 #[.val (.int p1), .val (.int p2), .val (.int p3), .val (.int dm), .val (.int vm), .val (.double x), .second, .val (.int xz), .val (.int sm), .val (.double (FP.i2d sm)), .second, .unset, .unset, .unset, .unset] [])) _
              refine XS.iconst X0.here hx rfl (hb hby at_125) ?_
              show Steps p.tables e below (s₁.setTop (mkF m 126 #[.val (.int p1), .val (.int p2), .val (.int p3), .val (.int dm), .val (.int vm), .val (.double x), .second, .val (.int xz), .val (.int sm), .val (.double (FP.i2d sm)), .second, .unset, .unset, .unset, .unset] [(.int (1 : Int32))])) _
              refine XS.goto X0.here hx rfl (pc0 := 126) (pc' := 130) rfl (hb hby at_126) (by decide) (by decide) ?_
              show Steps p.tables e below (s₁.setTop (mkF m 130 #[.val (.int p1), .val (.int p2), .val (.int p3), .val (.int dm), .val (.int vm), .val (.double x), .second, .val (.int xz), .val (.int sm), .val (.double (FP.i2d sm)), .second, .unset, .unset, .unset, .unset] [(.int (1 : Int32))])) _
              refine XS.istore X0.here hx rfl (hb hby at_130) rfl (l' := #[.val (.int p1), .val (.int p2), .val (.int p3), .val (.int dm), .val (.int vm), .val (.double x), .second, .val (.int xz), .val (.int sm), .val (.double (FP.i2d sm)), .second, .val (.int (1 : Int32)), .unset, .unset, .unset]) rfl ?_
              show Steps p.tables e below (s₁.setTop (mkF m 132 #[.val (.int p1), .val (.int p2), .val (.int p3), .val (.int dm), .val (.int vm), .val (.double x), .second, .val (.int xz), .val (.int sm), .val (.double (FP.i2d sm)), .second, .val (.int (1 : Int32)), .unset, .unset, .unset] [])) _
              exact k132 _ _ (by rw [hy1, if_neg d1, if_neg d2, if_neg d3]) (by rw [hyz, if_neg d1, if_neg d2, if_neg d3, if_pos d4])
            · refine XS.ifYes X0.here hx rfl (pc0 := 122) (pc' := 129) rfl (hb hby at_122) rfl ((if0 _ _).trans (feq d4).2) (by decide) (by decide) ?_
              show Steps p.tables e below (s₁.setTop (mkF m 129 #[.val (.int p1), .val (.int p2), .val (.int p3), .val (.int dm), .val (.int vm), .val (.double x), .second, .val (.int xz), .val (.int sm), .val (.double (FP.i2d sm)), .second, .unset, .unset, .unset, .unset] [])) _
              refine XS.iconst X0.here hx rfl (hb hby at_129) ?_
              show Steps p.tables e below (s₁.setTop (mkF m 130 #[.val (.int p1), .val (.int p2), .val (.int p3), .val (.int dm), .val (.int vm), .val (.double x), .second, .val (.int xz), .val (.int sm), .val (.double (FP.i2d sm)), .second, .unset, .unset, .unset, .unset] [(.int (0 : Int32))])) _
              refine XS.istore X0.here hx rfl (hb hby at_130) rfl (l' := #[.val (.int p1), .val (.int p2), .val (.int p3), .val (.int dm), .val (.int vm), .val (.double x), .second, .val (.int xz), .val (.int sm), .val (.double (FP.i2d sm)), .second, .val (.int (0 : Int32)), .unset, .unset, .unset]) rfl ?_
              show Steps p.tables e below (s₁.setTop (mkF m 132 #[.val (.int p1), .val (.int p2), .val (.int p3), .val (.int dm), .val (.int vm), .val (.double x), .second, .val (.int xz), .val (.int sm), .val (.double (FP.i2d sm)), .second, .val (.int (0 : Int32)), .unset, .unset, .unset] [])) _
              exact k132 _ _ (by rw [hy1, if_neg d1, if_neg d2, if_neg d3]) (by rw [hyz, if_neg d1, if_neg d2, if_neg d3, if_neg d4])
    show Steps p.tables e below (s₁.setTop (mkF m 0 #[.val (.int p1), .val (.int p2), .val (.int p3), .unset, .unset, .unset, .unset, .unset, .unset, .unset, .unset, .unset, .unset, .unset, .unset] [])) _
    refine XS.iloadN X0.here hx rfl (hb hby at_0) rfl ?_
    show Steps p.tables e below (s₁.setTop (mkF m 1 #[.val (.int p1), .val (.int p2), .val (.int p3), .unset, .unset, .unset, .unset, .unset, .unset, .unset, .unset, .unset, .unset, .unset, .unset] [(.int p3)])) _
    refine XS.iconst X0.here hx rfl (hb hby at_1) ?_
    show Steps p.tables e below (s₁.setTop (mkF m 2 #[.val (.int p1), .val (.int p2), .val (.int p3), .unset, .unset, .unset, .unset, .unset, .unset, .unset, .unset, .unset, .unset, .unset, .unset] [(.int (3 : Int32)), (.int p3)])) _
    refine XS.iand X0.here hx rfl (hb hby at_2) rfl ?_
    show Steps p.tables e below (s₁.setTop (mkF m 3 #[.val (.int p1), .val (.int p2), .val (.int p3), .unset, .unset, .unset, .unset, .unset, .unset, .unset, .unset, .unset, .unset, .unset, .unset] [(.int (p3 &&& (3 : Int32)))])) _
    refine XS.istoreN X0.here hx rfl (hb hby at_3) rfl (l' := #[.val (.int p1), .val (.int p2), .val (.int p3), .val (.int dm), .unset, .unset, .unset, .unset, .unset, .unset, .unset, .unset, .unset, .unset, .unset]) (by rw [hdm]; rfl) ?_
    show Steps p.tables e below (s₁.setTop (mkF m 4 #[.val (.int p1), .val (.int p2), .val (.int p3), .val (.int dm), .unset, .unset, .unset, .unset, .unset, .unset, .unset, .unset, .unset, .unset, .unset] [])) _
    refine XS.iloadN X0.here hx rfl (hb hby at_4) rfl ?_
    show Steps p.tables e below (s₁.setTop (mkF m 5 #[.val (.int p1), .val (.int p2), .val (.int p3), .val (.int dm), .unset, .unset, .unset, .unset, .unset, .unset, .unset, .unset, .unset, .unset, .unset] [(.int p3)])) _
    refine XS.iconst X0.here hx rfl (hb hby at_5) ?_
    show Steps p.tables e below (s₁.setTop (mkF m 6 #[.val (.int p1), .val (.int p2), .val (.int p3), .val (.int dm), .unset, .unset, .unset, .unset, .unset, .unset, .unset, .unset, .unset, .unset, .unset] [(.int (2 : Int32)), (.int p3)])) _
    refine XS.iushr X0.here hx rfl (hb hby at_6) rfl ?_
    show Steps p.tables e below (s₁.setTop (mkF m 7 #[.val (.int p1), .val (.int p2), .val (.int p3), .val (.int dm), .unset, .unset, .unset, .unset, .unset, .unset, .unset, .unset, .unset, .unset, .unset] [(.int ((p3.toUInt32 >>> ((2 : Int32) &&& 31).toUInt32).toInt32))])) _
    refine XS.iconst X0.here hx rfl (hb hby at_7) ?_
    show Steps p.tables e below (s₁.setTop (mkF m 8 #[.val (.int p1), .val (.int p2), .val (.int p3), .val (.int dm), .unset, .unset, .unset, .unset, .unset, .unset, .unset, .unset, .unset, .unset, .unset] [(.int (3 : Int32)), (.int ((p3.toUInt32 >>> ((2 : Int32) &&& 31).toUInt32).toInt32))])) _
    refine XS.iand X0.here hx rfl (hb hby at_8) rfl ?_
    show Steps p.tables e below (s₁.setTop (mkF m 9 #[.val (.int p1), .val (.int p2), .val (.int p3), .val (.int dm), .unset, .unset, .unset, .unset, .unset, .unset, .unset, .unset, .unset, .unset, .unset] [(.int (((p3.toUInt32 >>> ((2 : Int32) &&& 31).toUInt32).toInt32) &&& (3 : Int32)))])) _
    refine XS.istore X0.here hx rfl (hb hby at_9) rfl (l' := #[.val (.int p1), .val (.int p2), .val (.int p3), .val (.int dm), .val (.int vm), .unset, .unset, .unset, .unset, .unset, .unset, .unset, .unset, .unset, .unset]) (by rw [hvm]; rfl) ?_
    show Steps p.tables e below (s₁.setTop (mkF m 11 #[.val (.int p1), .val (.int p2), .val (.int p3), .val (.int dm), .val (.int vm), .unset, .unset, .unset, .unset, .unset, .unset, .unset, .unset, .unset, .unset] [])) _
    refine XS.iloadN X0.here hx rfl (hb hby at_11) rfl ?_
    show Steps p.tables e below (s₁.setTop (mkF m 12 #[.val (.int p1), .val (.int p2), .val (.int p3), .val (.int dm), .val (.int vm), .unset, .unset, .unset, .unset, .unset, .unset, .unset, .unset, .unset, .unset] [(.int dm)])) _
    by_cases b1 : dm = (0 : Int32)
    · refine XS.ifNo X0.here hx rfl (hb hby at_12) rfl ((if0 _ _).trans (teq b1).2) ?_
      show Steps p.tables e below (s₁.setTop (mkF m 15 #[.val (.int p1), .val (.int p2), .val (.int p3), .val (.int dm), .val (.int vm), .unset, .unset, .unset, .unset, .unset, .unset, .unset, .unset, .unset, .unset] [])) _
      refine XS.dconst0 X0.here hx rfl (hb hby at_15) rfl ?_
      show Steps p.tables e below (s₁.setTop (mkF m 16 #[.val (.int p1), .val (.int p2), .val (.int p3), .val (.int dm), .val (.int vm), .unset, .unset, .unset, .unset, .unset, .unset, .unset, .unset, .unset, .unset] [(.double FP.dconst0)])) _
      refine XS.dstore X0.here hx rfl (hb hby at_16) rfl (l' := #[.val (.int p1), .val (.int p2), .val (.int p3), .val (.int dm), .val (.int vm), .val (.double FP.dconst0), .second, .unset, .unset, .unset, .unset, .unset, .unset, .unset, .unset]) rfl ?_
      show Steps p.tables e below (s₁.setTop (mkF m 18 #[.val (.int p1), .val (.int p2), .val (.int p3), .val (.int dm), .val (.int vm), .val (.double FP.dconst0), .second, .unset, .unset, .unset, .unset, .unset, .unset, .unset, .unset] [])) _
      refine XS.iconst X0.here hx rfl (hb hby at_18) ?_
      show Steps p.tables e below (s₁.setTop (mkF m 19 #[.val (.int p1), .val (.int p2), .val (.int p3), .val (.int dm), .val (.int vm), .val (.double FP.dconst0), .second, .unset, .unset, .unset, .unset, .unset, .unset, .unset, .unset] [(.int (1 : Int32))])) _
      refine XS.istore X0.here hx rfl (hb hby at_19) rfl (l' := #[.val (.int p1), .val (.int p2), .val (.int p3), .val (.int dm), .val (.int vm), .val (.double FP.dconst0), .second, .val (.int (1 : Int32)), .unset, .unset, .unset, .unset, .unset, .unset, .unset]) rfl ?_
      show Steps p.tables e below (s₁.setTop (mkF m 21 #[.val (.int p1), .val (.int p2), .val (.int p3), .val (.int dm), .val (.int vm), .val (.double FP.dconst0), .second, .val (.int (1 : Int32)), .unset, .unset, .unset, .unset, .unset, .unset, .unset] [])) _
      refine XS.goto X0.here hx rfl (pc0 := 21) (pc' := 55) rfl (hb hby at_21) (by decide) (by decide) ?_
      show Steps p.tables e below (s₁.setTop (mkF m 55 #[.val (.int p1), .val (.int p2), .val (.int p3), .val (.int dm), .val (.int vm), .val (.double FP.dconst0), .second, .val (.int (1 : Int32)), .unset, .unset, .unset, .unset, .unset, .unset, .unset] [])) _
      exact k55 _ _ (by rw [hx1, if_pos b1]) (by rw [hxz, if_pos b1])
    · refine XS.ifYes X0.here hx rfl (pc0 := 12) (pc' := 24) rfl (hb hby at_12) rfl ((if0 _ _).trans (feq b1).2) (by decide) (by decide) ?_
      show Steps p.tables e below (s₁.setTop (mkF m 24 #[.val (.int p1), .val (.int p2), .val (.int p3), .val (.int dm), .val (.int vm), .unset, .unset, .unset, .unset, .unset, .unset, .unset, .unset, .unset, .unset] [])) _
      refine XS.iloadN X0.here hx rfl (hb hby at_24) rfl ?_
      show Steps p.tables e below (s₁.setTop (mkF m 25 #[.val (.int p1), .val (.int p2), .val (.int p3), .val (.int dm), .val (.int vm), .unset, .unset, .unset, .unset, .unset, .unset, .unset, .unset, .unset, .unset] [(.int dm)])) _
      refine XS.iconst X0.here hx rfl (hb hby at_25) ?_
      show Steps p.tables e below (s₁.setTop (mkF m 26 #[.val (.int p1), .val (.int p2), .val (.int p3), .val (.int dm), .val (.int vm), .unset, .unset, .unset, .unset, .unset, .unset, .unset, .unset, .unset, .unset] [(.int (1 : Int32)), (.int dm)])) _
      by_cases b2 : dm = (1 : Int32)
      · refine XS.icmpNo X0.here hx rfl (hb hby at_26) rfl (teq b2).2 ?_
        show Steps p.tables e below (s₁.setTop (mkF m 29 #[.val (.int p1), .val (.int p2), .val (.int p3), .val (.int dm), .val (.int vm), .unset, .unset, .unset, .unset, .unset, .unset, .unset, .unset, .unset, .unset] [])) _
        refine X0.ldc2DoubleC hx hown (mvT hZ (hw _ (List.mem_of_getElem? (i := 28) rfl))) (g := (mkF m 29 #[.val (.int p1), .val (.int p2), .val (.int p3), .val (.int dm), .val (.int vm), .unset, .unset, .unset, .unset, .unset, .unset, .unset, .unset, .unset, .unset] [])) rfl (hb hby at_29) _ ?_
        show Steps p.tables e below (s₁.setTop (mkF m 32 #[.val (.int p1), .val (.int p2), .val (.int p3), .val (.int dm), .val (.int vm), .unset, .unset, .unset, .unset, .unset, .unset, .unset, .unset, .unset, .unset] [(.double (9223372036854775808 : UInt64))])) _
        refine XS.dstore X0.here hx rfl (hb hby at_32) rfl (l' := #[.val (.int p1), .val (.int p2), .val (.int p3), .val (.int dm), .val (.int vm), .val (.double (9223372036854775808 : UInt64)), .second, .unset, .unset, .unset, .unset, .unset, .unset, .unset, .unset]) rfl ?_
        show Steps p.tables e below (s₁.setTop (mkF m 34 #[.val (.int p1), .val (.int p2), .val (.int p3), .val (.int dm), .val (.int vm), .val (.double (9223372036854775808 : UInt64)), .second, .unset, .unset, .unset, .unset, .unset, .unset, .unset, .unset] [])) _
        refine XS.iconst X0.here hx rfl (hb hby at_34) ?_
        show Steps p.tables e below (s₁.setTop (mkF m 35 #[.val (.int p1), .val (.int p2), .val (.int p3), .val (.int dm), .val (.int vm), .val (.double (9223372036854775808 : UInt64)), .second, .unset, .unset, .unset, .unset, .unset, .unset, .unset, .unset] [(.int (1 : Int32))])) _
        refine XS.istore X0.here hx rfl (hb hby at_35) rfl (l' := #[.val (.int p1), .val (.int p2), .val (.int p3), .val (.int dm), .val (.int vm), .val (.double (9223372036854775808 : UInt64)), .second, .val (.int (1 : Int32)), .unset, .unset, .unset, .unset, .unset, .unset, .unset]) rfl ?_
        show Steps p.tables e below (s₁.setTop (mkF m 37 #[.val (.int p1), .val (.int p2), .val (.int p3), .val (.int dm), .val (.int vm), .val (.double (9223372036854775808 : UInt64)), .second, .val (.int (1 : Int32)), .unset, .unset, .unset, .unset, .unset, .unset, .unset] [])) _
        refine XS.goto X0.here hx rfl (pc0 := 37) (pc' := 55) rfl (hb hby at_37) (by decide) (by decide) ?_
        show Steps p.tables e below (s₁.setTop (mkF m 55 #[.val (.int p1), .val (.int p2), .val (.int p3), .val (.int dm), .val (.int vm), .val (.double (9223372036854775808 : UInt64)), .second, .val (.int (1 : Int32)), .unset, .unset, .unset, .unset, .unset, .unset, .unset] [])) _
        exact k55 _ _ (by rw [hx1, if_neg b1, if_pos b2]) (by rw [hxz, if_neg b1, if_pos b2])
      · refine XS.icmpYes X0.here hx rfl (pc0 := 26) (pc' := 40) rfl (hb hby at_26) rfl (feq b2).2 (by decide) (by decide) ?_
        show Steps p.tables e below (s₁.setTop (mkF m 40 #[.val (.int p1), .val (.int p2), .val (.int p3), .val (.int dm), .val (.int vm), .unset, .unset, .unset, .unset, .unset, .unset, .unset, .unset, .unset, .unset] [])) _
        refine XS.iloadN X0.here hx rfl (hb hby at_40) rfl ?_
        show Steps p.tables e below (s₁.setTop (mkF m 41 #[.val (.int p1), .val (.int p2), .val (.int p3), .val (.int dm), .val (.int vm), .unset, .unset, .unset, .unset, .unset, .unset, .unset, .unset, .unset, .unset] [(.int p1)])) _
        refine XS.i2dS X0.here hx rfl (hb hby at_41) rfl rfl ?_
        show Steps p.tables e below (s₁.setTop (mkF m 42 #[.val (.int p1), .val (.int p2), .val (.int p3), .val (.int dm), .val (.int vm), .unset, .unset, .unset, .unset, .unset, .unset, .unset, .unset, .unset, .unset] [(.double (FP.i2d p1))])) _
        refine XS.dstore X0.here hx rfl (hb hby at_42) rfl (l' := #[.val (.int p1), .val (.int p2), .val (.int p3), .val (.int dm), .val (.int vm), .val (.double (FP.i2d p1)), .second, .unset, .unset, .unset, .unset, .unset, .unset, .unset, .unset]) rfl ?_
        show Steps p.tables e below (s₁.setTop (mkF m 44 #[.val (.int p1), .val (.int p2), .val (.int p3), .val (.int dm), .val (.int vm), .val (.double (FP.i2d p1)), .second, .unset, .unset, .unset, .unset, .unset, .unset, .unset, .unset] [])) _
        refine XS.iloadN X0.here hx rfl (hb hby at_44) rfl ?_
        show Steps p.tables e below (s₁.setTop (mkF m 45 #[.val (.int p1), .val (.int p2), .val (.int p3), .val (.int dm), .val (.int vm), .val (.double (FP.i2d p1)), .second, .unset, .unset, .unset, .unset, .unset, .unset, .unset, .unset] [(.int p1)])) _
        by_cases b3 : p1 = (0 : Int32)
        · refine XS.ifNo X0.here hx rfl (hb hby at_45) rfl ((if0 _ _).trans (teq b3).2) ?_
          show Steps p.tables e below (s₁.setTop (mkF m 48 #[.val (.int p1), .val (.int p2), .val (.int p3), .val (.int dm), .val (.int vm), .val (.double (FP.i2d p1)), .second, .unset, .unset, .unset, .unset, .unset, .unset, .unset, .unset] [])) _
          refine XS.iconst X0.here hx rfl (hb hby at_48) ?_
          show Steps p.tables e below (s₁.setTop (mkF m 49 #[.val (.int p1), .val (.int p2), .val (.int p3), .val (.int dm), .val (.int vm), .val (.double (FP.i2d p1)), .second, .unset, .unset, .unset, .unset, .unset, .unset, .unset, .unset] [(.int (1 : Int32))])) _
          refine XS.goto X0.here hx rfl (pc0 := 49) (pc' := 53) rfl (hb hby at_49) (by decide) (by decide) ?_
          show Steps p.tables e below (s₁.setTop (mkF m 53 #[.val (.int p1), .val (.int p2), .val (.int p3), .val (.int dm), .val (.int vm), .val (.double (FP.i2d p1)), .second, .unset, .unset, .unset, .unset, .unset, .unset, .unset, .unset] [(.int (1 : Int32))])) _
          refine XS.istore X0.here hx rfl (hb hby at_53) rfl (l' := #[.val (.int p1), .val (.int p2), .val (.int p3), .val (.int dm), .val (.int vm), .val (.double (FP.i2d p1)), .second, .val (.int (1 : Int32)), .unset, .unset, .unset, .unset, .unset, .unset, .unset]) rfl ?_
          show Steps p.tables e below (s₁.setTop (mkF m 55 #[.val (.int p1), .val (.int p2), .val (.int p3), .val (.int dm), .val (.int vm), .val (.double (FP.i2d p1)), .second, .val (.int (1 : Int32)), .unset, .unset, .unset, .unset, .unset, .unset, .unset] [])) _
          exact k55 _ _ (by rw [hx1, if_neg b1, if_neg b2]) (by rw [hxz, if_neg b1, if_neg b2, if_pos b3])
        · refine XS.ifYes X0.here hx rfl (pc0 := 45) (pc' := 52) rfl (hb hby at_45) rfl ((if0 _ _).trans (feq b3).2) (by decide) (by decide) ?_
          show Steps p.tables e below (s₁.setTop (mkF m 52 #[.val (.int p1), .val (.int p2), .val (.int p3), .val (.int dm), .val (.int vm), .val (.double (FP.i2d p1)), .second, .unset, .unset, .unset, .unset, .unset, .unset, .unset, .unset] [])) _
          refine XS.iconst X0.here hx rfl (hb hby at_52) ?_
          show Steps p.tables e below (s₁.setTop (mkF m 53 #[.val (.int p1), .val (.int p2), .val (.int p3), .val (.int dm), .val (.int vm), .val (.double (FP.i2d p1)), .second, .unset, .unset, .unset, .unset, .unset, .unset, .unset, .unset] [(.int (0 : Int32))])) _
          refine XS.istore X0.here hx rfl (hb hby at_53) rfl (l' := #[.val (.int p1), .val (.int p2), .val (.int p3), .val (.int dm), .val (.int vm), .val (.double (FP.i2d p1)), .second, .val (.int (0 : Int32)), .unset, .unset, .unset, .unset, .unset, .unset, .unset]) rfl ?_
          show Steps p.tables e below (s₁.setTop (mkF m 55 #[.val (.int p1), .val (.int p2), .val (.int p3), .val (.int dm), .val (.int vm), .val (.double (FP.i2d p1)), .second, .val (.int (0 : Int32)), .unset, .unset, .unset, .unset, .unset, .unset, .unset] [])) _
          exact k55 _ _ (by rw [hx1, if_neg b1, if_neg b2]) (by rw [hxz, if_neg b1, if_neg b2, if_neg b3])
  · exact ⟨rfl, N5⟩
set_option maxRecDepth 65536 in
set_option maxHeartbeats 40000000 in
theorem comes_1 {Post : Tables → Env → Array Value → State → Outcome → State → Prop} (hpost : ∀ tb e args s v u, (limb_1_1.after args s (.returned v) u = true ∧ limb_1_2.after args s (.returned v) u = true ∧ True) → FrameEnd s (.returned v) u (Jvm.fieldLocs frame_1_writes args s ++ Jvm.arrayLocs frame_1_arrays args s ++ Jvm.staticLocs frame_1_statics s) 16 128 → Post tb e args s (.returned v) u) :
    ArmFor flags0 classFile x code maxLocals ret World_1 tables_1 room_1 Calls_1 rest_1 Pre_1 Post := by
  intro l hfl _ _ p e ha hc hk s m args below hf hA hF happ hP
  obtain ⟨hcalls, hrest, hpre⟩ := hP
  obtain ⟨-, -, -, hnamed, -, -, -, hat⟩ := (Spec.applies_iff hf).mp happ
  obtain ⟨hg, hn⟩ := and_e (Cond.before_iff.mp (show (Jvm.Cond.and given_1 narrow_1).before args s = true from hpre))
  obtain ⟨h1, g0⟩ := and_e hg
  obtain ⟨c0, g1⟩ := and_e g0
  obtain ⟨c1, g2⟩ := and_e g1
  obtain ⟨w0, w1, w2, rfl⟩ : ∃ w0 w1 w2 : Value, args = #[w0, w1, w2] := by
    have hs : args.size = 3 := by simpa [Cond.value, given_1] using h1
    obtain ⟨L⟩ := args
    match L, hs with
    | [w0, w1, w2], _ => exact ⟨w0, w1, w2, rfl⟩
  have hw := fun d (hd : d ∈ tables_1) => atoms_spec (ws := Jvm.Cond.code x code maxLocals ret :: tables_1) hat d (List.mem_cons_of_mem _ hd)
  obtain ⟨i0, q0⟩ := is_v c0
  obtain rfl : w0 = (.int i0) := Option.some.inj q0
  obtain ⟨i1, q1⟩ := is_v c1
  obtain rfl : w1 = (.int i1) := Option.some.inj q1
  obtain ⟨i2, q2⟩ := is_v g2
  obtain rfl : w2 = (.int i2) := Option.some.inj q2
  obtain ⟨n, o, h1, h2, h3, _, L, rfl, ⟨rfl, N⟩, hq⟩ := rm_0 l s _ hw tables_1 i0 i1 i2 s.heap s.heap.size (Nat.le_refl _)  p e ha hc hk s m _ below hf ((Spec.applies_iff_loose hf).mp happ).1 ⟨rfl, State.Warmed39.refl s, rfl⟩ trivial
  refine ⟨n, _, h1, h2, h3, hpost _ _ _ _ _ _ ⟨Cond.after_iff.mpr rfl, Cond.after_iff.mpr (eq_i res_at (Term.int_eval (1)) rfl), trivial⟩ ⟨hq.1, hq.2.1, (hq.2.2.sift fun y hy => Or.inr (N y hy)).mono (by decide) (by decide)⟩⟩
theorem main_1_1 : Claimed_1_1 := comes_1 fun _ _ _ _ _ _ h hF => ⟨h.1, hF⟩
theorem main_1_2 : Claimed_1_2 := comes_1 fun _ _ _ _ _ _ h hF => ⟨h.2.1, hF⟩
end Jvm.Pilot.@@N@@
namespace Jvm.Pilot.@@N@@
open Jvm Jvm.ClassFile Sem Op Lib Jvm.Free Jvm.Stand Jvm.Pilot.@@N@@.Jvm.D
/-! MADE BY PROGRAM (witnessworld.py) out of the Statement's table words and the real class files: 10 classes; the members and pool entries that the words name. The judged class is class 1, her method 1. -/
namespace start1
open Jvm.ClassFile
def u (s : String) : CpInfo := .utf8 (stringToUtf16 s)
/-- a pool by its gaps: so many unusable entries, then the entry; so many at the end -/
def gap : Nat → List CpInfo → List CpInfo
  | 0, r => r
  | n + 1, r => .unusable :: gap n r
def poolList (es : List (Nat × CpInfo)) (last : Nat) : List CpInfo := es.foldr (fun e r => gap e.1 (e.2 :: r)) (gap last [])
def pool (es : List (Nat × CpInfo)) (last : Nat) : Array CpInfo := ⟨poolList es last⟩
def fileOf (pool : Array CpInfo) (this : Nat) (attrs : Array Attribute := #[]) (ms : Array MethodInfo := #[]) (fl : Nat := 33) (sup : Nat := 0) (ifs : Array Nat := #[]) (fds : Array FieldInfo := #[]) : ClassFile where
  minorVersion := 0
  majorVersion := 65
  constantPool := pool
  accessFlags := fl
  thisClass := this
  superClass := sup
  interfaces := ifs
  fields := fds
  methods := ms
  attributes := attrs
def plain (name : String) (sup : Option ClassId) : Class where
  name := name
  kind := .ordinary
  loader := none
  accessFlags := 33
  super := sup
  interfaces := #[]
  cf := none
  fields := #[]
  methods := #[]
  instanceTypes := #[]
  staticTypes := #[]
  resolved := #[]
  callSites := []
  init := .initialized
  statics := none
  mirror := none

def pool0 : Array CpInfo := pool [(5, u "<init>"), (0, u "()V"), (1, .class_ 10), (1, u "java/lang/Object")] 113

def k0c0 : Code := { maxStack := 0, maxLocals := 1, code := object_method_1_code, exceptionTable := #[], attributes := #[] }
def k0m0 : Method := { name := "<init>", desc := "()V", sig := { parameters := [], returnType := none }, accessFlags := 1, code := some k0c0 }
/-- java/lang/Object -/
def k0 : Class := { plain "java/lang/Object" none with
  accessFlags := 33
  interfaces := #[]
  cf := some (fileOf pool0 8 #[] #[{ accessFlags := 1, nameIndex := 5, descriptorIndex := 6, attributes := #[] }] 33 0 #[] #[])
  fields := #[]
  methods := #[k0m0]
  instanceTypes := #[]
  staticTypes := #[]
  resolved := Array.replicate 124 none
  statics := none }

def pool1 : Array CpInfo := pool [(2, .class_ 4), (1, u "java/lang/Object"), (0, u "<init>"), (0, u "()V"), (0, .double 9223372036854775808), (1, .class_ 10), (0, u "com/example/bidwave/bidwave/experiment/Report$Quotient"), (0, .methodref 9 12), (0, .nameAndType 5 13), (0, u "(DD)V"), (0, .methodref 9 15), (0, .nameAndType 16 17), (0, u "isUnbounded"), (0, u "()Z"), (0, .methodref 9 19), (0, .nameAndType 20 17), (0, u "isUndefined"), (0, .class_ 22), (0, u "com/example/bidwave/bidwave/experiment/QuotientIsUnboundedPinLaw"), (2, u "law"), (0, u "(III)Z")] 7

def k1m0 : Method := { name := "<init>", desc := "()V", sig := { parameters := [], returnType := none }, accessFlags := 1, code := none }
def k1c1 : Code := { maxStack := 6, maxLocals := 15, code := code, exceptionTable := #[], attributes := #[] }
def k1m1 : Method := { name := "law", desc := "(III)Z", sig := { parameters := [.int, .int, .int], returnType := some .boolean }, accessFlags := 9, code := some k1c1 }
/-- com/example/bidwave/bidwave/experiment/QuotientIsUnboundedPinLaw -/
def k1 : Class := { plain "com/example/bidwave/bidwave/experiment/QuotientIsUnboundedPinLaw" (some 0) with
  accessFlags := 49
  interfaces := #[]
  cf := some (fileOf pool1 21 #[] #[{ accessFlags := 1, nameIndex := 5, descriptorIndex := 6, attributes := #[] }, { accessFlags := 9, nameIndex := 25, descriptorIndex := 26, attributes := #[] }] 49 2 #[] #[])
  fields := #[]
  methods := #[k1m0, k1m1]
  instanceTypes := #[]
  staticTypes := #[]
  resolved := Array.replicate 34 none
  statics := none }

def pool2 : Array CpInfo := pool [(1, .methodref 2 3), (0, .class_ 4), (0, .nameAndType 5 6), (0, u "java/lang/Object"), (0, u "<init>"), (0, u "()V"), (0, .class_ 8), (0, u "java/lang/Record")] 13

def k2c0 : Code := { maxStack := 1, maxLocals := 1, code := jdk_30_method_1_code, exceptionTable := #[], attributes := #[] }
def k2m0 : Method := { name := "<init>", desc := "()V", sig := { parameters := [], returnType := none }, accessFlags := 4, code := some k2c0 }
/-- java/lang/Record -/
def k2 : Class := { plain "java/lang/Record" (some 0) with
  accessFlags := 1057
  interfaces := #[]
  cf := some (fileOf pool2 7 #[] #[{ accessFlags := 4, nameIndex := 5, descriptorIndex := 6, attributes := #[] }] 1057 2 #[] #[])
  fields := #[]
  methods := #[k2m0]
  instanceTypes := #[]
  staticTypes := #[]
  resolved := Array.replicate 22 none
  statics := none }

def pool3 : Array CpInfo := pool [(1, .methodref 2 3), (0, .class_ 4), (0, .nameAndType 5 6), (0, u "java/lang/Record"), (0, u "<init>"), (0, u "()V"), (0, .fieldref 8 9), (0, .class_ 10), (0, .nameAndType 11 12), (0, u "com/example/bidwave/bidwave/experiment/Report$Quotient"), (0, u "dividend"), (0, u "D"), (0, .fieldref 8 14), (0, .nameAndType 15 12), (0, u "divisor"), (12, u "(DD)V"), (3, u "isUndefined"), (0, u "()Z"), (1, u "isUnbounded"), (8, .class_ 45), (0, u "com/example/bidwave/bidwave/experiment/Report")] 20

def k3c0 : Code := { maxStack := 3, maxLocals := 5, code := prog_16_method_1_code, exceptionTable := #[], attributes := #[] }
def k3m0 : Method := { name := "<init>", desc := "(DD)V", sig := { parameters := [.double, .double], returnType := none }, accessFlags := 1, code := some k3c0 }
def k3c1 : Code := { maxStack := 4, maxLocals := 1, code := prog_16_method_2_code, exceptionTable := #[], attributes := #[] }
def k3m1 : Method := { name := "isUndefined", desc := "()Z", sig := { parameters := [], returnType := some .boolean }, accessFlags := 1, code := some k3c1 }
def k3c2 : Code := { maxStack := 4, maxLocals := 1, code := prog_16_method_3_code, exceptionTable := #[], attributes := #[] }
def k3m2 : Method := { name := "isUnbounded", desc := "()Z", sig := { parameters := [], returnType := some .boolean }, accessFlags := 1, code := some k3c2 }
/-- com/example/bidwave/bidwave/experiment/Report$Quotient -/
def k3 : Class := { plain "com/example/bidwave/bidwave/experiment/Report$Quotient" (some 2) with
  accessFlags := 49
  interfaces := #[]
  cf := some (fileOf pool3 8 #[.nestHost 44] #[{ accessFlags := 1, nameIndex := 5, descriptorIndex := 28, attributes := #[] }, { accessFlags := 1, nameIndex := 32, descriptorIndex := 33, attributes := #[] }, { accessFlags := 1, nameIndex := 35, descriptorIndex := 33, attributes := #[] }] 49 2 #[] #[{ accessFlags := 18, nameIndex := 11, descriptorIndex := 12, attributes := #[] }, { accessFlags := 18, nameIndex := 15, descriptorIndex := 12, attributes := #[] }])
  fields := #[{ name := "dividend", type := .double, accessFlags := 18, slot := 0, constantValue := 0 }, { name := "divisor", type := .double, accessFlags := 18, slot := 1, constantValue := 0 }]
  methods := #[k3m0, k3m1, k3m2]
  instanceTypes := #[.double, .double]
  staticTypes := #[]
  resolved := Array.replicate 66 none
  statics := none }

def pool4 : Array CpInfo := pool [(1, u "java/lang/Cloneable"), (0, .class_ 1), (0, u "java/lang/Object"), (0, .class_ 3)] 3

/-- java/lang/Cloneable -/
def k4 : Class := { plain "java/lang/Cloneable" (some 0) with
  accessFlags := 1537
  interfaces := #[]
  cf := some (fileOf pool4 2 #[] #[] 1537 4 #[] #[])
  fields := #[]
  methods := #[]
  instanceTypes := #[]
  staticTypes := #[]
  resolved := Array.replicate 8 none
  statics := none }

def pool5 : Array CpInfo := pool [(1, u "java/io/Serializable"), (0, .class_ 1), (0, u "java/lang/Object"), (0, .class_ 3)] 3

/-- java/io/Serializable -/
def k5 : Class := { plain "java/io/Serializable" (some 0) with
  accessFlags := 1537
  interfaces := #[]
  cf := some (fileOf pool5 2 #[] #[] 1537 4 #[] #[])
  fields := #[]
  methods := #[]
  instanceTypes := #[]
  staticTypes := #[]
  resolved := Array.replicate 8 none
  statics := none }

/-- the primitive byte -/
def k6 : Class := { plain "byte" none with kind := .primitive 'B', accessFlags := 0x411 }
/-- [B -/
def k7 : Class := { plain "[B" (some 0) with kind := .array 6 .byte, interfaces := #[4, 5], accessFlags := 1041 }

/-- the primitive int -/
def k8 : Class := { plain "int" none with kind := .primitive 'I', accessFlags := 0x411 }
/-- [I -/
def k9 : Class := { plain "[I" (some 0) with kind := .array 8 .int, interfaces := #[4, 5], accessFlags := 1041 }

def heap : Heap := #[]
def classes : Array Class := #[k0, k1, k2, k3, k4, k5, k6, k7, k8, k9]
def interned : List (Array UInt16 × Addr) := []
def slotsUsed : Nat := 0
def theMethod : MethodId := ⟨1, 1⟩
def args0 : Array Value := #[.int 5, .int 7, .int 3]
def aboutOver (below : List Frame) : State where
  vm := { classes := classes, interned := interned.toArray }
  heap := heap
  slotsUsed := slotsUsed
  threads := #[{ frames := .invoking theMethod args0 :: below }]
def below0 : List Frame := [.native { method := ⟨0, 0⟩, args := #[] }]
def about1 : State := aboutOver below0
def p0 : Program := .bare "" "" ""
def e0 : Env := launch0.env 0 0 0
theorem w_frames : about1.frames = Frame.invoking theMethod args0 :: below0 := rfl
set_option maxRecDepth 65536 in
theorem w_args : argsFit about1.vm theMethod args0 = true := by decide +kernel
set_option maxRecDepth 65536 in
theorem w_heap : heapFits about1 = true := by decide +kernel
set_option maxRecDepth 65536 in
theorem w_runnable : about1.curStatus? = some .runnable := by decide +kernel
set_option maxRecDepth 65536 in
theorem w_alone : about1.alone = true := by decide +kernel
set_option maxRecDepth 65536 in
theorem w_named : about1.methodNamed? x = some theMethod := by decide +kernel
set_option maxRecDepth 65536 in
theorem w_hears : about1.hears theMethod below0 = true := by decide +kernel
set_option maxRecDepth 65536 in
theorem w_ripe : about1.ripe theMethod args0 below0 = true := by decide +kernel
theorem w_running : about1.status = .running := rfl
set_option maxRecDepth 65536 in
theorem w_room : about1.hasRoom e0.platform room_1 = true :=
  launch0.hasRoom_least _ room_1 (by decide +kernel) (by decide +kernel) (by decide +kernel) (by decide +kernel) (by decide +kernel) (by decide +kernel)
theorem allAtoms_all (ts : List Jvm.Cond) (a : Array Jvm.Value) (st : Jvm.State) : (allAtoms ts).before a st = ts.all (fun c => c.before a st) := by
  induction ts with
  | nil => rfl
  | cons c t ih =>
    show (Jvm.Cond.and c (allAtoms t)).before a st = _
    rw [Jvm.Cond.before_and, ih, List.all_cons]
def words1 : List Jvm.Cond := Jvm.Cond.code x code maxLocals ret :: tables_1
/-- a 'code' word, met by the world's own term for the bytes: nothing is compared byte by byte -/
theorem code_word {y : MethodName} {bytes : ByteArray} {mx : Nat} {rt : Option FieldType} {a : Array Value} {s : State} {m : MethodId} {meth : Method} {c : Code} (h1 : s.methodNamed? y = some m) (h2 : s.vm.method? m = some meth) (h3 : meth.code = some c) (h4 : c.code = bytes)
    (h5 : (c.maxLocals == mx && c.exceptionTable.isEmpty && decide (c.maxStack ≤ mostOperands) && decide (meth.sig.returnType = rt) && !meth.locks && decide (parseMethodDescriptor y.desc = some meth.sig)) = true) : (Jvm.Cond.code y bytes mx rt).before a s = true := by
  simp only [Bool.and_eq_true, beq_iff_eq, Bool.not_eq_true', decide_eq_true_eq] at h5
  obtain ⟨⟨⟨⟨⟨g1, g2⟩, g3⟩, g4⟩, g5⟩, g6⟩ := h5
  simp [Cond.before, Cond.holds, Cond.value, h1, h2, h3, h4, g1, g2, g3, g4, g5, g6]
def isCode : Jvm.Cond → Bool
  | .code _ _ _ _ => true
  | _ => false
theorem all_split {L : List Jvm.Cond} {P : Jvm.Cond → Bool} (h1 : L.all (fun c => isCode c || P c) = true) (h2 : ∀ c ∈ L.filter isCode, P c = true) : L.all P = true := by
  refine List.all_eq_true.mpr fun c hc => ?_
  have h := List.all_eq_true.mp h1 c hc
  rcases Bool.eq_false_or_eq_true (isCode c) with hi | hi
  · exact h2 c (List.mem_filter.mpr ⟨hc, hi⟩)
  · simpa [hi] using h
set_option maxRecDepth 65536 in
theorem w_c0 : (Jvm.Cond.code x code maxLocals ret).before args0 about1 = true := code_word (m := ⟨1, 1⟩) (meth := k1m1) (c := k1c1) (by decide +kernel) rfl rfl rfl (by decide +kernel)
set_option maxRecDepth 65536 in
theorem w_c1 : (Jvm.Cond.code ({ cls := "com/example/bidwave/bidwave/experiment/Report$Quotient", name := "<init>", desc := "(DD)V" } : Jvm.MethodName) prog_16_method_1_code (5 : Nat) (Option.none : Option Jvm.ClassFile.FieldType)).before args0 about1 = true := code_word (m := ⟨3, 0⟩) (meth := k3m0) (c := k3c0) (by decide +kernel) rfl rfl rfl (by decide +kernel)
set_option maxRecDepth 65536 in
theorem w_c2 : (Jvm.Cond.code ({ cls := "java/lang/Record", name := "<init>", desc := "()V" } : Jvm.MethodName) jdk_30_method_1_code (1 : Nat) (Option.none : Option Jvm.ClassFile.FieldType)).before args0 about1 = true := code_word (m := ⟨2, 0⟩) (meth := k2m0) (c := k2c0) (by decide +kernel) rfl rfl rfl (by decide +kernel)
set_option maxRecDepth 65536 in
theorem w_c3 : (Jvm.Cond.code ({ cls := "java/lang/Object", name := "<init>", desc := "()V" } : Jvm.MethodName) object_method_1_code (1 : Nat) (Option.none : Option Jvm.ClassFile.FieldType)).before args0 about1 = true := code_word (m := ⟨0, 0⟩) (meth := k0m0) (c := k0c0) (by decide +kernel) rfl rfl rfl (by decide +kernel)
set_option maxRecDepth 65536 in
theorem w_c4 : (Jvm.Cond.code ({ cls := "com/example/bidwave/bidwave/experiment/Report$Quotient", name := "isUnbounded", desc := "()Z" } : Jvm.MethodName) prog_16_method_3_code (1 : Nat) (Option.some Jvm.ClassFile.FieldType.boolean)).before args0 about1 = true := code_word (m := ⟨3, 2⟩) (meth := k3m2) (c := k3c2) (by decide +kernel) rfl rfl rfl (by decide +kernel)
set_option maxRecDepth 65536 in
theorem w_c5 : (Jvm.Cond.code ({ cls := "com/example/bidwave/bidwave/experiment/Report$Quotient", name := "isUndefined", desc := "()Z" } : Jvm.MethodName) prog_16_method_2_code (1 : Nat) (Option.some Jvm.ClassFile.FieldType.boolean)).before args0 about1 = true := code_word (m := ⟨3, 1⟩) (meth := k3m1) (c := k3c1) (by decide +kernel) rfl rfl rfl (by decide +kernel)
def codes1 : List Jvm.Cond := [Jvm.Cond.code x code maxLocals ret, Jvm.Cond.code ({ cls := "com/example/bidwave/bidwave/experiment/Report$Quotient", name := "<init>", desc := "(DD)V" } : Jvm.MethodName) prog_16_method_1_code (5 : Nat) (Option.none : Option Jvm.ClassFile.FieldType), Jvm.Cond.code ({ cls := "java/lang/Record", name := "<init>", desc := "()V" } : Jvm.MethodName) jdk_30_method_1_code (1 : Nat) (Option.none : Option Jvm.ClassFile.FieldType), Jvm.Cond.code ({ cls := "java/lang/Object", name := "<init>", desc := "()V" } : Jvm.MethodName) object_method_1_code (1 : Nat) (Option.none : Option Jvm.ClassFile.FieldType), Jvm.Cond.code ({ cls := "com/example/bidwave/bidwave/experiment/Report$Quotient", name := "isUnbounded", desc := "()Z" } : Jvm.MethodName) prog_16_method_3_code (1 : Nat) (Option.some Jvm.ClassFile.FieldType.boolean), Jvm.Cond.code ({ cls := "com/example/bidwave/bidwave/experiment/Report$Quotient", name := "isUndefined", desc := "()Z" } : Jvm.MethodName) prog_16_method_2_code (1 : Nat) (Option.some Jvm.ClassFile.FieldType.boolean)]
set_option maxRecDepth 65536 in
theorem codes_eq : words1.filter isCode = codes1 := rfl
theorem w_codes : ∀ c ∈ words1.filter isCode, c.before args0 about1 = true := by
  rw [codes_eq]
  intro c hc
  simp only [codes1, List.mem_cons, List.not_mem_nil, or_false] at hc
  rcases hc with rfl | rfl | rfl | rfl | rfl | rfl
  · exact w_c0
  · exact w_c1
  · exact w_c2
  · exact w_c3
  · exact w_c4
  · exact w_c5
set_option maxRecDepth 65536 in
theorem w_t1 : (words1.take 24).all (fun c => isCode c || c.before args0 about1) = true := by decide +kernel
set_option maxRecDepth 65536 in
theorem w_t2 : (words1.drop 24).all (fun c => isCode c || c.before args0 about1) = true := by decide +kernel
theorem w_tables : (allAtoms (Jvm.Cond.code x code maxLocals ret :: tables_1)).before args0 about1 = true := by
  rw [allAtoms_all]
  show words1.all (fun c => c.before args0 about1) = true
  refine all_split ?_ w_codes
  rw [← List.take_append_drop 24 words1, List.all_append, w_t1, w_t2]
  rfl
set_option maxRecDepth 65536 in
theorem w_case : (Jvm.Cond.and given_1 narrow_1).before args0 about1 = true := by decide +kernel
theorem w_applies : (headSpec (Jvm.Cond.code x code maxLocals ret :: tables_1) room_1).applies x e0.platform about1 = true :=
  (Spec.applies_iff w_frames).mpr ⟨w_running, w_runnable, w_alone, w_named, w_hears, w_ripe, w_room, w_tables⟩
theorem atStart : AtStart classFile x code maxLocals ret World_1 tables_1 room_1 Calls_1 rest_1 Pre_1 launch0 p0 e0 about1 theMethod args0 below0 :=
  ⟨lists_1, trivial, launch0.admits_env _ _ _, launch0.least_env, fairChoices_fair.cas, fairChoices_fair.clock, w_frames, w_args, w_heap, w_applies, trivial, trivial, w_case⟩
end start1
theorem witness_1 : WitnessClaimed_1 := ⟨start1.p0, start1.e0, start1.about1, start1.theMethod, start1.args0, start1.below0, start1.atStart⟩
end Jvm.Pilot.@@N@@
