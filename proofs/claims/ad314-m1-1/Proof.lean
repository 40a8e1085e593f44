import JvmDerived
import JvmDerived.Pilot.@@N@@Statement
import JvmDerived.Pilot.@@N@@Code
set_option linter.unusedVariables false
set_option linter.unusedSimpArgs false
@@BLOCK:NumsL.lean.txt@@
namespace Jvm.Pilot.@@N@@
open Jvm Jvm.ClassFile Sem Op Lib Jvm.Free Jvm.Stand Jvm.LawKit Jvm.RoadKit Bundle Jvm.Pilot.@@N@@.Jvm.D
def own_bz (c : Prop) [Decidable c] : Int32 := if c then 1 else 0
theorem own_bz_t {c : Prop} [Decidable c] (h : c) : own_bz c = 1 := if_pos h
theorem own_bz_f {c : Prop} [Decidable c] (h : ¬ c) : own_bz c = 0 := if_neg h
theorem own_nar (c : Prop) [Decidable c] : nar .boolean (own_bz c) = own_bz c := by
  by_cases h : c
  · rw [own_bz_t h]; rfl
  · rw [own_bz_f h]; rfl
abbrev own_lex (d1 f1 d2 f2 : Int32) : Prop := d1 < d2 ∨ (d1 = d2 ∧ f1 < f2)
theorem own_dc (a b : Int32) (o : CmpOp) : (cmpValue (FP.dcmp (FP.i2d a) (FP.i2d b)) o < (0 : Int32) ↔ a < b) ∧ (cmpValue (FP.dcmp (FP.i2d a) (FP.i2d b)) o = (0 : Int32) ↔ a = b) := by
  have e : FP.dcmp (FP.i2d a) (FP.i2d b) = some (compare a.toInt b.toInt) := FP.Core.dcmp_int (FP.Core.i2d_int a) (FP.Core.i2d_int b)
  rw [e, FP.Core.compare_ite, Int32.lt_iff_toInt_lt (x := a), ← Int32.toInt_inj (x := a)]
  by_cases h1 : a.toInt < b.toInt
  · rw [if_pos h1]
    have h2 : ¬ a.toInt = b.toInt := by omega
    cases o <;> exact ⟨⟨fun _ => h1, fun _ => by decide⟩, ⟨fun q => absurd q (by decide), fun q => absurd q h2⟩⟩
  · rw [if_neg h1]
    by_cases h2 : a.toInt = b.toInt
    · rw [if_pos h2]
      cases o <;> exact ⟨⟨fun q => absurd q (by decide), fun q => absurd q h1⟩, ⟨fun _ => h2, fun _ => by decide⟩⟩
    · rw [if_neg h2]
      cases o <;> exact ⟨⟨fun q => absurd q (by decide), fun q => absurd q h1⟩, ⟨fun q => absurd q (by decide), fun q => absurd q h2⟩⟩
theorem d2_0 : decode jdk_30_method_1_code 0 = .ok (.aload_n 0, 1) := by decide +kernel
theorem d2_1 : decode jdk_30_method_1_code 1 = .ok (.invokespecial 1, 3) := by decide +kernel
theorem d2_4 : decode jdk_30_method_1_code 4 = .ok (.return_, 1) := by decide +kernel
theorem pn_2 : plainName "java/lang/Record" = true := by first | (simp [plainName, overriddenIn]; done) | decide +kernel
theorem pd_2 : parseMethodDescriptor "()V" = some ⟨[], none⟩ := by decide +kernel
theorem ef_2 (m : MethodId) (x0 : Addr) : entryFrame m #[(.ref x0)] 1 = mkF m 0 #[.val (.ref x0)] [] := by first | (simp [entryFrame, mkF, argsToLocals, Value.category]; done) | rfl
def Q_2 (h0 : Heap) (n0 : Nat) (v : Option Value) (h : Heap) (L : List Loc) : Prop := v = none ∧ Fr n0 L ∧ h = h0
set_option maxRecDepth 65536 in
set_option maxHeartbeats 40000000 in
theorem rm_2 (l : Launch) (Z : State) (a0 : Array Value) (hw : ∀ d ∈ tables_1, d.before a0 Z = true) (ws : List Jvm.Cond) (a1 : Addr) (h0 : Heap) (n0 : Nat) (Z0 : n0 ≤ h0.size)  :
    MetFree l (⟨"java/lang/Record", "<init>", "()V"⟩ : MethodName) (head1 (Jvm.Cond.code (⟨"java/lang/Record", "<init>", "()V"⟩ : MethodName) jdk_30_method_1_code 1 none :: ws) ({ frames := 1, cells := 0, slots := 0, locals := 12 } : Room)) (fun a U => a = #[(.ref a1)] ∧ Z.Warmed39 U.vm ∧ U.heap = h0) (fun _ _ _ _ _ => True) (fun _ U o U' => ∃ v L, o = .returned v ∧ Q_2 h0 n0 v U'.heap L ∧ FrameEnd U o U' L 0 0) := by
  refine MetFree.of_bodySF (plainFor_of_name pn_2) hisR ?_
  intro p e s m args below meth c s₁ Bd hml0 hP hK
  obtain ⟨rfl, hZ, hh⟩ := hP
  have hx := Bd.exec
  have hby := Bd.bytes
  have hml : c.maxLocals = 1 := hml0
  have hown : s.vm.findClass "java/lang/Record" = some m.cls := findClass_of_methodNamed Bd.named
  have hnm := (name_of_methodNamed Bd.named Bd.method).1
  have X0 : Stand p l e ({ frames := 1, cells := 0, slots := 0, locals := 12 } : Room) s m #[(.ref a1)] below meth c s₁ [] 0 0 := Stand.of_body Bd
  have e0 : s₁.heap = h0 := by rw [← hh, Bd.state]; rfl
  have N0 := Fr.nil n0
  have pre0 : ∀ t, Steps p.tables e below (s₁.setTop (mkF m 0 #[.val (.ref a1)] [])) t → Steps p.tables e below (s₁.setTop (entryFrame m #[(.ref a1)] 1)) t := fun t k => castTop (ef_2 m (a1)) k
  obtain ⟨T2, X2, e2, st2⟩ := initO X0 hx hZ hown (hw _ (List.mem_of_getElem? (i := 11) rfl)) (hw _ (List.mem_of_getElem? (i := 12) rfl)) (hw _ (List.mem_of_getElem? (i := 13) rfl)) e0 (g := (mkF m 1 #[.val (.ref a1)] [(.ref a1)])) rfl (by rw [hml]; rfl) rfl (hb hby d2_1) (by decide) (W := 0) (by show 2 * 0 + _ ≤ _; exact Nat.le_of_eq rfl) (by decide)
  obtain ⟨fs, hr, hrun, hended, hW, hsame⟩ := X2.leave (v := none) (fun _ => rfl)
  refine ⟨_, _, pre0 _ ?_, hrun, hended, _, _, rfl, ?_, ⟨_, rfl⟩, hW, hsame.mono (by decide) (by decide)⟩
  · show Steps p.tables e below (s₁.setTop (mkF m 0 #[.val (.ref a1)] [])) _
    refine XS.aloadN X0.here hx rfl (hb hby d2_0) rfl rfl ?_
    show Steps p.tables e below (s₁.setTop (mkF m 1 #[.val (.ref a1)] [(.ref a1)])) _
    refine st2 _ ?_
    show Steps p.tables e below (T2.setTop (mkF m 4 #[.val (.ref a1)] [])) _
    exact X2.returnOut hx Bd.returns (hb hby d2_4) hr
  · show Q_2 h0 n0 _ T2.heap _
    rw [e2]
    exact ⟨rfl, N0, rfl⟩
theorem d1_0 : decode prog_17_method_1_code 0 = .ok (.aload_n 0, 1) := by decide +kernel
theorem d1_1 : decode prog_17_method_1_code 1 = .ok (.invokespecial 1, 3) := by decide +kernel
theorem d1_4 : decode prog_17_method_1_code 4 = .ok (.aload_n 0, 1) := by decide +kernel
theorem d1_5 : decode prog_17_method_1_code 5 = .ok (.iload_n 1, 1) := by decide +kernel
theorem d1_6 : decode prog_17_method_1_code 6 = .ok (.putfield 7, 3) := by decide +kernel
theorem d1_9 : decode prog_17_method_1_code 9 = .ok (.aload_n 0, 1) := by decide +kernel
theorem d1_10 : decode prog_17_method_1_code 10 = .ok (.iload_n 2, 1) := by decide +kernel
theorem d1_11 : decode prog_17_method_1_code 11 = .ok (.putfield 13, 3) := by decide +kernel
theorem d1_14 : decode prog_17_method_1_code 14 = .ok (.aload_n 0, 1) := by decide +kernel
theorem d1_15 : decode prog_17_method_1_code 15 = .ok (.dload_n 3, 1) := by decide +kernel
theorem d1_16 : decode prog_17_method_1_code 16 = .ok (.putfield 16, 3) := by decide +kernel
theorem d1_19 : decode prog_17_method_1_code 19 = .ok (.aload_n 0, 1) := by decide +kernel
theorem d1_20 : decode prog_17_method_1_code 20 = .ok (.iload 5, 2) := by decide +kernel
theorem d1_22 : decode prog_17_method_1_code 22 = .ok (.putfield 20, 3) := by decide +kernel
theorem d1_25 : decode prog_17_method_1_code 25 = .ok (.return_, 1) := by decide +kernel
theorem pn_1 : plainName "tessera/ColorDistanceExchange$Entry" = true := by first | (simp [plainName, overriddenIn]; done) | decide +kernel
theorem pd_1 : parseMethodDescriptor "(IIDI)V" = some ⟨[.int, .int, .double, .int], none⟩ := by decide +kernel
theorem ef_1 (m : MethodId) (x0 : Addr) (x1 : Int32) (x2 : Int32) (x3 : UInt64) (x4 : Int32) : entryFrame m #[(.ref x0), (.int x1), (.int x2), (.double x3), (.int x4)] 6 = mkF m 0 #[.val (.ref x0), .val (.int x1), .val (.int x2), .val (.double x3), .second, .val (.int x4)] [] := by first | (simp [entryFrame, mkF, argsToLocals, Value.category]; done) | rfl
def Q_1 (Z : State) (a1 : Addr) (p4 : UInt64) (p5 : Int32) (h0 : Heap) (n0 : Nat) (v : Option Value) (h : Heap) (L : List Loc) : Prop := v = none ∧ Fr n0 L ∧ Keep h0 h [a1] ∧ Exa Z h a1 "tessera/ColorDistanceExchange$Entry" ∧ Fld Z h a1 "tessera/ColorDistanceExchange$Entry" "distance" "D" (.double p4) ∧ Fld Z h a1 "tessera/ColorDistanceExchange$Entry" "flat" "I" (.int p5)
set_option maxRecDepth 65536 in
set_option maxHeartbeats 40000000 in
theorem rm_1 (l : Launch) (Z : State) (a0 : Array Value) (hw : ∀ d ∈ tables_1, d.before a0 Z = true) (ws : List Jvm.Cond) (a1 : Addr) (p2 p3 : Int32) (p4 : UInt64) (p5 : Int32) (h0 : Heap) (n0 : Nat) (Z0 : n0 ≤ h0.size) (F0 : Fld Z h0 a1 "tessera/ColorDistanceExchange$Entry" "node" "I" (.int (0 : Int32))) (F1 : Fld Z h0 a1 "tessera/ColorDistanceExchange$Entry" "version" "I" (.int (0 : Int32))) (F2 : Fld Z h0 a1 "tessera/ColorDistanceExchange$Entry" "distance" "D" (.double (0 : UInt64))) (F3 : Fld Z h0 a1 "tessera/ColorDistanceExchange$Entry" "flat" "I" (.int (0 : Int32))) (E0 : Exa Z h0 a1 "tessera/ColorDistanceExchange$Entry") (g0 : n0 ≤ a1) :
    MetFree l (⟨"tessera/ColorDistanceExchange$Entry", "<init>", "(IIDI)V"⟩ : MethodName) (head1 (Jvm.Cond.code (⟨"tessera/ColorDistanceExchange$Entry", "<init>", "(IIDI)V"⟩ : MethodName) prog_17_method_1_code 6 none :: ws) ({ frames := 2, cells := 0, slots := 0, locals := 24 } : Room)) (fun a U => a = #[(.ref a1), (.int p2), (.int p3), (.double p4), (.int p5)] ∧ Z.Warmed39 U.vm ∧ U.heap = h0) (fun _ _ _ _ _ => True) (fun _ U o U' => ∃ v L, o = .returned v ∧ Q_1 Z a1 p4 p5 h0 n0 v U'.heap L ∧ FrameEnd U o U' L 0 0) := by
  refine MetFree.of_bodySF (plainFor_of_name pn_1) hisR ?_
  intro p e s m args below meth c s₁ Bd hml0 hP hK
  obtain ⟨rfl, hZ, hh⟩ := hP
  have hx := Bd.exec
  have hby := Bd.bytes
  have hml : c.maxLocals = 6 := hml0
  have hown : s.vm.findClass "tessera/ColorDistanceExchange$Entry" = some m.cls := findClass_of_methodNamed Bd.named
  have hnm := (name_of_methodNamed Bd.named Bd.method).1
  have X0 : Stand p l e ({ frames := 2, cells := 0, slots := 0, locals := 24 } : Room) s m #[(.ref a1), (.int p2), (.int p3), (.double p4), (.int p5)] below meth c s₁ [] 0 0 := Stand.of_body Bd
  have e0 : s₁.heap = h0 := by rw [← hh, Bd.state]; rfl
  have N0 := Fr.nil n0
  have pre0 : ∀ t, Steps p.tables e below (s₁.setTop (mkF m 0 #[.val (.ref a1), .val (.int p2), .val (.int p3), .val (.double p4), .second, .val (.int p5)] [])) t → Steps p.tables e below (s₁.setTop (entryFrame m #[(.ref a1), (.int p2), (.int p3), (.double p4), (.int p5)] 6)) t := fun t k => castTop (ef_1 m (a1) (p2) (p3) (p4) (p5)) k
  obtain ⟨_, _, ⟨T1, L1, k1, n1⟩, -, X1, ⟨Lc1, hQ1, l1, y1, z1⟩, st1⟩ := X0.specialBack hx (y := (⟨"java/lang/Record", "<init>", "()V"⟩ : MethodName)) rfl hown (mvT hZ (hw _ (List.mem_of_getElem? (i := 6) rfl))) (mvT hZ (hw _ (List.mem_of_getElem? (i := 7) rfl))) (mvT hZ (hw _ (List.mem_of_getElem? (i := 10) rfl))) (by decide) (backOf (W := 0) (rm_2 l Z a0 hw [] a1 h0 n0 Z0) hZ (hw _ (List.mem_of_getElem? (i := 10) rfl)) (hw _ (List.mem_of_getElem? (i := 9) rfl)) (by decide) (by decide)) (g := (mkF m 1 #[.val (.ref a1), .val (.int p2), .val (.int p3), .val (.double p4), .second, .val (.int p5)] [(.ref a1)])) rfl (by rw [hml]; rfl) (Steps.refl _) (a := a1) (argsL := []) (rest := []) (lenOf pd_2 rfl) rfl (by show 2 * 0 + _ ≤ _; exact Nat.le_of_eq rfl) (hb hby d1_1) (fun _ _ => ⟨rfl, e0, (by decide : 0 + 0 ≤ _), (by decide : 0 + 0 ≤ _)⟩)
  dsimp only [Pt.U, Pt.locs, Pt.cells, Pt.slots] at X1 l1 y1 z1 st1 hQ1
  subst l1 y1 z1
  obtain ⟨rfl, N1, e1⟩ := hQ1
  have N1b := Fr.app N0 N1
  obtain ⟨T3, h3, X3, e3, W3, st3⟩ := putF X1 hx hZ hown (host := "") (Or.inl (hw _ (List.mem_of_getElem? (i := 14) rfl))) Via.refl e1 F0 E0 (Or.inr ⟨(hw _ (List.mem_of_getElem? (i := 15) rfl)), rfl, hnm⟩) (hw _ (List.mem_of_getElem? (i := 1) rfl)) (ty := .int) (by decide) rfl rfl (g := (mkF m 6 #[.val (.ref a1), .val (.int p2), .val (.int p3), .val (.double p4), .second, .val (.int p5)] [(.int p2), (.ref a1)])) rfl rfl (hb hby d1_6)
  have N3 := Fr.snoc X3 N1b g0
  have K3 : Keep h0 h3 [a1] := ((Keep.refl _ _).wr W3 (Or.inl (List.mem_of_getElem? (i := 0) rfl)))
  have E3 : Exa Z h3 a1 "tessera/ColorDistanceExchange$Entry" := (E0.wr W3)
  have F3_0 : Fld Z h3 a1 "tessera/ColorDistanceExchange$Entry" "node" "I" (.int p2) := (F0.same W3)
  have F3_1 : Fld Z h3 a1 "tessera/ColorDistanceExchange$Entry" "version" "I" (.int (0 : Int32)) := (F1.other W3 (Or.inr (slot_ne (Or.inr (hw _ (List.mem_of_getElem? (i := 17) rfl))) (Or.inr (hw _ (List.mem_of_getElem? (i := 15) rfl))) (by decide) (t := .int) (t' := .int) (by decide) (by decide))))
  have F3_2 : Fld Z h3 a1 "tessera/ColorDistanceExchange$Entry" "distance" "D" (.double (0 : UInt64)) := (F2.other W3 (Or.inr (slot_ne (Or.inr (hw _ (List.mem_of_getElem? (i := 19) rfl))) (Or.inr (hw _ (List.mem_of_getElem? (i := 15) rfl))) (by decide) (t := .double) (t' := .int) (by decide) (by decide))))
  have F3_3 : Fld Z h3 a1 "tessera/ColorDistanceExchange$Entry" "flat" "I" (.int (0 : Int32)) := (F3.other W3 (Or.inr (slot_ne (Or.inr (hw _ (List.mem_of_getElem? (i := 21) rfl))) (Or.inr (hw _ (List.mem_of_getElem? (i := 15) rfl))) (by decide) (t := .int) (t' := .int) (by decide) (by decide))))
  obtain ⟨T4, h4, X4, e4, W4, st4⟩ := putF X3 hx hZ hown (host := "") (Or.inl (hw _ (List.mem_of_getElem? (i := 16) rfl))) Via.refl e3 F3_1 E3 (Or.inr ⟨(hw _ (List.mem_of_getElem? (i := 17) rfl)), rfl, hnm⟩) (hw _ (List.mem_of_getElem? (i := 1) rfl)) (ty := .int) (by decide) rfl rfl (g := (mkF m 11 #[.val (.ref a1), .val (.int p2), .val (.int p3), .val (.double p4), .second, .val (.int p5)] [(.int p3), (.ref a1)])) rfl rfl (hb hby d1_11)
  have N4 := Fr.snoc X4 N3 g0
  have K4 : Keep h0 h4 [a1] := (K3.wr W4 (Or.inl (List.mem_of_getElem? (i := 0) rfl)))
  have E4 : Exa Z h4 a1 "tessera/ColorDistanceExchange$Entry" := (E3.wr W4)
  have F4_0 : Fld Z h4 a1 "tessera/ColorDistanceExchange$Entry" "node" "I" (.int p2) := (F3_0.other W4 (Or.inr (slot_ne (Or.inr (hw _ (List.mem_of_getElem? (i := 15) rfl))) (Or.inr (hw _ (List.mem_of_getElem? (i := 17) rfl))) (by decide) (t := .int) (t' := .int) (by decide) (by decide))))
  have F4_1 : Fld Z h4 a1 "tessera/ColorDistanceExchange$Entry" "version" "I" (.int p3) := (F3_1.same W4)
  have F4_2 : Fld Z h4 a1 "tessera/ColorDistanceExchange$Entry" "distance" "D" (.double (0 : UInt64)) := (F3_2.other W4 (Or.inr (slot_ne (Or.inr (hw _ (List.mem_of_getElem? (i := 19) rfl))) (Or.inr (hw _ (List.mem_of_getElem? (i := 17) rfl))) (by decide) (t := .double) (t' := .int) (by decide) (by decide))))
  have F4_3 : Fld Z h4 a1 "tessera/ColorDistanceExchange$Entry" "flat" "I" (.int (0 : Int32)) := (F3_3.other W4 (Or.inr (slot_ne (Or.inr (hw _ (List.mem_of_getElem? (i := 21) rfl))) (Or.inr (hw _ (List.mem_of_getElem? (i := 17) rfl))) (by decide) (t := .int) (t' := .int) (by decide) (by decide))))
  obtain ⟨T5, h5, X5, e5, W5, st5⟩ := putF X4 hx hZ hown (host := "") (Or.inl (hw _ (List.mem_of_getElem? (i := 18) rfl))) Via.refl e4 F4_2 E4 (Or.inr ⟨(hw _ (List.mem_of_getElem? (i := 19) rfl)), rfl, hnm⟩) (hw _ (List.mem_of_getElem? (i := 1) rfl)) (ty := .double) (by decide) rfl rfl (g := (mkF m 16 #[.val (.ref a1), .val (.int p2), .val (.int p3), .val (.double p4), .second, .val (.int p5)] [(.double p4), (.ref a1)])) rfl rfl (hb hby d1_16)
  have N5 := Fr.snoc X5 N4 g0
  have K5 : Keep h0 h5 [a1] := (K4.wr W5 (Or.inl (List.mem_of_getElem? (i := 0) rfl)))
  have E5 : Exa Z h5 a1 "tessera/ColorDistanceExchange$Entry" := (E4.wr W5)
  have F5_0 : Fld Z h5 a1 "tessera/ColorDistanceExchange$Entry" "node" "I" (.int p2) := (F4_0.other W5 (Or.inr (slot_ne (Or.inr (hw _ (List.mem_of_getElem? (i := 15) rfl))) (Or.inr (hw _ (List.mem_of_getElem? (i := 19) rfl))) (by decide) (t := .int) (t' := .double) (by decide) (by decide))))
  have F5_1 : Fld Z h5 a1 "tessera/ColorDistanceExchange$Entry" "version" "I" (.int p3) := (F4_1.other W5 (Or.inr (slot_ne (Or.inr (hw _ (List.mem_of_getElem? (i := 17) rfl))) (Or.inr (hw _ (List.mem_of_getElem? (i := 19) rfl))) (by decide) (t := .int) (t' := .double) (by decide) (by decide))))
  have F5_2 : Fld Z h5 a1 "tessera/ColorDistanceExchange$Entry" "distance" "D" (.double p4) := (F4_2.same W5)
  have F5_3 : Fld Z h5 a1 "tessera/ColorDistanceExchange$Entry" "flat" "I" (.int (0 : Int32)) := (F4_3.other W5 (Or.inr (slot_ne (Or.inr (hw _ (List.mem_of_getElem? (i := 21) rfl))) (Or.inr (hw _ (List.mem_of_getElem? (i := 19) rfl))) (by decide) (t := .int) (t' := .double) (by decide) (by decide))))
  obtain ⟨T6, h6, X6, e6, W6, st6⟩ := putF X5 hx hZ hown (host := "") (Or.inl (hw _ (List.mem_of_getElem? (i := 20) rfl))) Via.refl e5 F5_3 E5 (Or.inr ⟨(hw _ (List.mem_of_getElem? (i := 21) rfl)), rfl, hnm⟩) (hw _ (List.mem_of_getElem? (i := 1) rfl)) (ty := .int) (by decide) rfl rfl (g := (mkF m 22 #[.val (.ref a1), .val (.int p2), .val (.int p3), .val (.double p4), .second, .val (.int p5)] [(.int p5), (.ref a1)])) rfl rfl (hb hby d1_22)
  have N6 := Fr.snoc X6 N5 g0
  have K6 : Keep h0 h6 [a1] := (K5.wr W6 (Or.inl (List.mem_of_getElem? (i := 0) rfl)))
  have E6 : Exa Z h6 a1 "tessera/ColorDistanceExchange$Entry" := (E5.wr W6)
  have F6_0 : Fld Z h6 a1 "tessera/ColorDistanceExchange$Entry" "node" "I" (.int p2) := (F5_0.other W6 (Or.inr (slot_ne (Or.inr (hw _ (List.mem_of_getElem? (i := 15) rfl))) (Or.inr (hw _ (List.mem_of_getElem? (i := 21) rfl))) (by decide) (t := .int) (t' := .int) (by decide) (by decide))))
  have F6_1 : Fld Z h6 a1 "tessera/ColorDistanceExchange$Entry" "version" "I" (.int p3) := (F5_1.other W6 (Or.inr (slot_ne (Or.inr (hw _ (List.mem_of_getElem? (i := 17) rfl))) (Or.inr (hw _ (List.mem_of_getElem? (i := 21) rfl))) (by decide) (t := .int) (t' := .int) (by decide) (by decide))))
  have F6_2 : Fld Z h6 a1 "tessera/ColorDistanceExchange$Entry" "distance" "D" (.double p4) := (F5_2.other W6 (Or.inr (slot_ne (Or.inr (hw _ (List.mem_of_getElem? (i := 19) rfl))) (Or.inr (hw _ (List.mem_of_getElem? (i := 21) rfl))) (by decide) (t := .double) (t' := .int) (by decide) (by decide))))
  have F6_3 : Fld Z h6 a1 "tessera/ColorDistanceExchange$Entry" "flat" "I" (.int p5) := (F5_3.same W6)
  obtain ⟨fs, hr, hrun, hended, hW, hsame⟩ := X6.leave (v := none) (fun _ => rfl)
  refine ⟨_, _, pre0 _ ?_, hrun, hended, _, _, rfl, ?_, ⟨_, rfl⟩, hW, hsame.mono (by decide) (by decide)⟩
  · show Steps p.tables e below (s₁.setTop (mkF m 0 #[.val (.ref a1), .val (.int p2), .val (.int p3), .val (.double p4), .second, .val (.int p5)] [])) _
    refine XS.aloadN X0.here hx rfl (hb hby d1_0) rfl rfl ?_
    show Steps p.tables e below (s₁.setTop (mkF m 1 #[.val (.ref a1), .val (.int p2), .val (.int p3), .val (.double p4), .second, .val (.int p5)] [(.ref a1)])) _
    refine st1.trans ?_
    show Steps p.tables e below (T1.setTop (mkF m 4 #[.val (.ref a1), .val (.int p2), .val (.int p3), .val (.double p4), .second, .val (.int p5)] [])) _
    refine XS.aloadN X1.here hx rfl (hb hby d1_4) rfl rfl ?_
    show Steps p.tables e below (T1.setTop (mkF m 5 #[.val (.ref a1), .val (.int p2), .val (.int p3), .val (.double p4), .second, .val (.int p5)] [(.ref a1)])) _
    refine XS.iloadN X1.here hx rfl (hb hby d1_5) rfl ?_
    show Steps p.tables e below (T1.setTop (mkF m 6 #[.val (.ref a1), .val (.int p2), .val (.int p3), .val (.double p4), .second, .val (.int p5)] [(.int p2), (.ref a1)])) _
    refine st3 _ ?_
    show Steps p.tables e below (T3.setTop (mkF m 9 #[.val (.ref a1), .val (.int p2), .val (.int p3), .val (.double p4), .second, .val (.int p5)] [])) _
    refine XS.aloadN X3.here hx rfl (hb hby d1_9) rfl rfl ?_
    show Steps p.tables e below (T3.setTop (mkF m 10 #[.val (.ref a1), .val (.int p2), .val (.int p3), .val (.double p4), .second, .val (.int p5)] [(.ref a1)])) _
    refine XS.iloadN X3.here hx rfl (hb hby d1_10) rfl ?_
    show Steps p.tables e below (T3.setTop (mkF m 11 #[.val (.ref a1), .val (.int p2), .val (.int p3), .val (.double p4), .second, .val (.int p5)] [(.int p3), (.ref a1)])) _
    refine st4 _ ?_
    show Steps p.tables e below (T4.setTop (mkF m 14 #[.val (.ref a1), .val (.int p2), .val (.int p3), .val (.double p4), .second, .val (.int p5)] [])) _
    refine XS.aloadN X4.here hx rfl (hb hby d1_14) rfl rfl ?_
    show Steps p.tables e below (T4.setTop (mkF m 15 #[.val (.ref a1), .val (.int p2), .val (.int p3), .val (.double p4), .second, .val (.int p5)] [(.ref a1)])) _
    refine XS.dloadN X4.here hx rfl (hb hby d1_15) rfl ?_
    show Steps p.tables e below (T4.setTop (mkF m 16 #[.val (.ref a1), .val (.int p2), .val (.int p3), .val (.double p4), .second, .val (.int p5)] [(.double p4), (.ref a1)])) _
    refine st5 _ ?_
    show Steps p.tables e below (T5.setTop (mkF m 19 #[.val (.ref a1), .val (.int p2), .val (.int p3), .val (.double p4), .second, .val (.int p5)] [])) _
    refine XS.aloadN X5.here hx rfl (hb hby d1_19) rfl rfl ?_
    show Steps p.tables e below (T5.setTop (mkF m 20 #[.val (.ref a1), .val (.int p2), .val (.int p3), .val (.double p4), .second, .val (.int p5)] [(.ref a1)])) _
    refine XS.iload X5.here hx rfl (hb hby d1_20) rfl ?_
    show Steps p.tables e below (T5.setTop (mkF m 22 #[.val (.ref a1), .val (.int p2), .val (.int p3), .val (.double p4), .second, .val (.int p5)] [(.int p5), (.ref a1)])) _
    refine st6 _ ?_
    show Steps p.tables e below (T6.setTop (mkF m 25 #[.val (.ref a1), .val (.int p2), .val (.int p3), .val (.double p4), .second, .val (.int p5)] [])) _
    exact X6.returnOut hx Bd.returns (hb hby d1_25) hr
  · show Q_1 Z a1 p4 p5 h0 n0 _ T6.heap _
    rw [e6]
    exact ⟨rfl, N6, K6, E6, F6_2, F6_3⟩
theorem d4_0 : decode prog_17_method_3_code 0 = .ok (.aload_n 0, 1) := by decide +kernel
theorem d4_1 : decode prog_17_method_3_code 1 = .ok (.getfield 16, 3) := by decide +kernel
theorem d4_4 : decode prog_17_method_3_code 4 = .ok (.dload_n 1, 1) := by decide +kernel
theorem d4_5 : decode prog_17_method_3_code 5 = .ok (.dcmp .g, 1) := by decide +kernel
theorem d4_6 : decode prog_17_method_3_code 6 = .ok (.ifCond .lt 20, 3) := by decide +kernel
theorem d4_9 : decode prog_17_method_3_code 9 = .ok (.aload_n 0, 1) := by decide +kernel
theorem d4_10 : decode prog_17_method_3_code 10 = .ok (.getfield 16, 3) := by decide +kernel
theorem d4_13 : decode prog_17_method_3_code 13 = .ok (.dload_n 1, 1) := by decide +kernel
theorem d4_14 : decode prog_17_method_3_code 14 = .ok (.dcmp .l, 1) := by decide +kernel
theorem d4_15 : decode prog_17_method_3_code 15 = .ok (.ifCond .ne 15, 3) := by decide +kernel
theorem d4_18 : decode prog_17_method_3_code 18 = .ok (.aload_n 0, 1) := by decide +kernel
theorem d4_19 : decode prog_17_method_3_code 19 = .ok (.getfield 20, 3) := by decide +kernel
theorem d4_22 : decode prog_17_method_3_code 22 = .ok (.iload_n 3, 1) := by decide +kernel
theorem d4_23 : decode prog_17_method_3_code 23 = .ok (.if_icmp .ge 7, 3) := by decide +kernel
theorem d4_26 : decode prog_17_method_3_code 26 = .ok (.iconst 1, 1) := by decide +kernel
theorem d4_27 : decode prog_17_method_3_code 27 = .ok (.goto 4, 3) := by decide +kernel
theorem d4_30 : decode prog_17_method_3_code 30 = .ok (.iconst 0, 1) := by decide +kernel
theorem d4_31 : decode prog_17_method_3_code 31 = .ok (.ireturn, 1) := by decide +kernel
theorem pd_4 : parseMethodDescriptor "(DI)Z" = some ⟨[.double, .int], some .boolean⟩ := by decide +kernel
theorem ef_4 (m : MethodId) (x0 : Addr) (x1 : UInt64) (x2 : Int32) : entryFrame m #[(.ref x0), (.double x1), (.int x2)] 4 = mkF m 0 #[.val (.ref x0), .val (.double x1), .second, .val (.int x2)] [] := by first | (simp [entryFrame, mkF, argsToLocals, Value.category]; done) | rfl
def Q_4 (k1 f1 k2 f2 : Int32) (h0 : Heap) (n0 : Nat) (v : Option Value) (h : Heap) (L : List Loc) : Prop := v = some (.int (own_bz (own_lex k1 f1 k2 f2))) ∧ Fr n0 L ∧ h = h0
set_option maxRecDepth 65536 in
set_option maxHeartbeats 40000000 in
theorem rm_4 (l : Launch) (Z : State) (a0 : Array Value) (hw : ∀ d ∈ tables_1, d.before a0 Z = true) (ws : List Jvm.Cond) (a1 : Addr) (k1 f1 k2 f2 : Int32) (h0 : Heap) (n0 : Nat) (Z0 : n0 ≤ h0.size) (F2 : Fld Z h0 a1 "tessera/ColorDistanceExchange$Entry" "distance" "D" (.double (FP.i2d k1))) (F3 : Fld Z h0 a1 "tessera/ColorDistanceExchange$Entry" "flat" "I" (.int f1)) :
    MetFree l (⟨"tessera/ColorDistanceExchange$Entry", "shorter", "(DI)Z"⟩ : MethodName) (head1 (Jvm.Cond.code (⟨"tessera/ColorDistanceExchange$Entry", "shorter", "(DI)Z"⟩ : MethodName) prog_17_method_3_code 4 (some .boolean) :: ws) ({ frames := 0, cells := 0, slots := 0, locals := 0 } : Room)) (fun a U => a = #[(.ref a1), (.double (FP.i2d k2)), (.int f2)] ∧ Z.Warmed39 U.vm ∧ U.heap = h0) (fun _ _ _ _ _ => True) (fun _ U o U' => ∃ v L, o = .returned v ∧ Q_4 k1 f1 k2 f2 h0 n0 v U'.heap L ∧ FrameEnd U o U' L 0 0) := by
  refine MetFree.of_bodySF (plainFor_of_name pn_1) hisR ?_
  intro p e s m args below meth c s₁ Bd hml0 hP hK
  obtain ⟨rfl, hZ, hh⟩ := hP
  have hx := Bd.exec
  have hby := Bd.bytes
  have hml : c.maxLocals = 4 := hml0
  have hown : s.vm.findClass "tessera/ColorDistanceExchange$Entry" = some m.cls := findClass_of_methodNamed Bd.named
  have hnm := (name_of_methodNamed Bd.named Bd.method).1
  have X0 : Stand p l e ({ frames := 0, cells := 0, slots := 0, locals := 0 } : Room) s m #[(.ref a1), (.double (FP.i2d k2)), (.int f2)] below meth c s₁ [] 0 0 := Stand.of_body Bd
  have e0 : s₁.heap = h0 := by rw [← hh, Bd.state]; rfl
  have N0 := Fr.nil n0
  have pre0 : ∀ t, Steps p.tables e below (s₁.setTop (mkF m 0 #[.val (.ref a1), .val (.double (FP.i2d k2)), .second, .val (.int f2)] [])) t → Steps p.tables e below (s₁.setTop (entryFrame m #[(.ref a1), (.double (FP.i2d k2)), (.int f2)] 4)) t := fun t k => castTop (ef_4 m (a1) ((FP.i2d k2)) (f2)) k
  obtain ⟨T1, X1, e1, st1⟩ := getF X0 hx hZ hown (host := "") (Or.inl (hw _ (List.mem_of_getElem? (i := 18) rfl))) Via.refl e0 F2 (g := (mkF m 1 #[.val (.ref a1), .val (.double (FP.i2d k2)), .second, .val (.int f2)] [(.ref a1)])) rfl rfl (hb hby d4_1)
  by_cases c1 : k1 < k2
  · obtain ⟨fs, hr, hrun, hended, hW, hsame⟩ := X1.leave (v := some (.int (1 : Int32))) (fun h => by rw [Bd.returns] at h; cases h)
    refine ⟨_, _, pre0 _ ?_, hrun, hended, _, _, rfl, ?_, ⟨_, rfl⟩, hW, hsame.mono (by decide) (by decide)⟩
    · show Steps p.tables e below (s₁.setTop (mkF m 0 #[.val (.ref a1), .val (.double (FP.i2d k2)), .second, .val (.int f2)] [])) _
      refine XS.aloadN X0.here hx rfl (hb hby d4_0) rfl rfl ?_
      show Steps p.tables e below (s₁.setTop (mkF m 1 #[.val (.ref a1), .val (.double (FP.i2d k2)), .second, .val (.int f2)] [(.ref a1)])) _
      refine st1 _ ?_
      show Steps p.tables e below (T1.setTop (mkF m 4 #[.val (.ref a1), .val (.double (FP.i2d k2)), .second, .val (.int f2)] [(.double (FP.i2d k1))])) _
      refine XS.dloadN X1.here hx rfl (hb hby d4_4) rfl ?_
      show Steps p.tables e below (T1.setTop (mkF m 5 #[.val (.ref a1), .val (.double (FP.i2d k2)), .second, .val (.int f2)] [(.double (FP.i2d k2)), (.double (FP.i2d k1))])) _
      refine XS.dcmpS X1.here hx rfl (hb hby d4_5) rfl rfl ?_
      show Steps p.tables e below (T1.setTop (mkF m 6 #[.val (.ref a1), .val (.double (FP.i2d k2)), .second, .val (.int f2)] [(.int (cmpValue (FP.dcmp (FP.i2d k1) (FP.i2d k2)) .g))])) _
      refine XS.ifYes X1.here hx rfl (pc0 := 6) (pc' := 26) rfl (hb hby d4_6) rfl ((if0 _ _).trans (tlt ((own_dc k1 k2 .g).1.mpr c1)).1) (by decide) (by decide) ?_
      show Steps p.tables e below (T1.setTop (mkF m 26 #[.val (.ref a1), .val (.double (FP.i2d k2)), .second, .val (.int f2)] [])) _
      refine XS.iconst X1.here hx rfl (hb hby d4_26) ?_
      show Steps p.tables e below (T1.setTop (mkF m 27 #[.val (.ref a1), .val (.double (FP.i2d k2)), .second, .val (.int f2)] [(.int (1 : Int32))])) _
      refine XS.goto X1.here hx rfl (pc0 := 27) (pc' := 31) rfl (hb hby d4_27) (by decide) (by decide) ?_
      show Steps p.tables e below (T1.setTop (mkF m 31 #[.val (.ref a1), .val (.double (FP.i2d k2)), .second, .val (.int f2)] [(.int (1 : Int32))])) _
      exact retN X1 hx (t := .boolean) Bd.returns (by simp) (hb hby d4_31) hr
    · show Q_4 k1 f1 k2 f2 h0 n0 _ T1.heap _
      rw [e1]
      exact ⟨by rw [own_bz_t (Or.inl c1)], N0, rfl⟩
  · obtain ⟨T2, X2, e2, st2⟩ := getF X1 hx hZ hown (host := "") (Or.inl (hw _ (List.mem_of_getElem? (i := 18) rfl))) Via.refl e1 F2 (g := (mkF m 10 #[.val (.ref a1), .val (.double (FP.i2d k2)), .second, .val (.int f2)] [(.ref a1)])) rfl rfl (hb hby d4_10)
    by_cases c2 : k1 = k2
    · obtain ⟨T3, X3, e3, st3⟩ := getF X2 hx hZ hown (host := "") (Or.inl (hw _ (List.mem_of_getElem? (i := 20) rfl))) Via.refl e2 F3 (g := (mkF m 19 #[.val (.ref a1), .val (.double (FP.i2d k2)), .second, .val (.int f2)] [(.ref a1)])) rfl rfl (hb hby d4_19)
      by_cases c3 : f1 < f2
      · obtain ⟨fs, hr, hrun, hended, hW, hsame⟩ := X3.leave (v := some (.int (1 : Int32))) (fun h => by rw [Bd.returns] at h; cases h)
        refine ⟨_, _, pre0 _ ?_, hrun, hended, _, _, rfl, ?_, ⟨_, rfl⟩, hW, hsame.mono (by decide) (by decide)⟩
        · show Steps p.tables e below (s₁.setTop (mkF m 0 #[.val (.ref a1), .val (.double (FP.i2d k2)), .second, .val (.int f2)] [])) _
          refine XS.aloadN X0.here hx rfl (hb hby d4_0) rfl rfl ?_
          show Steps p.tables e below (s₁.setTop (mkF m 1 #[.val (.ref a1), .val (.double (FP.i2d k2)), .second, .val (.int f2)] [(.ref a1)])) _
          refine st1 _ ?_
          show Steps p.tables e below (T1.setTop (mkF m 4 #[.val (.ref a1), .val (.double (FP.i2d k2)), .second, .val (.int f2)] [(.double (FP.i2d k1))])) _
          refine XS.dloadN X1.here hx rfl (hb hby d4_4) rfl ?_
          show Steps p.tables e below (T1.setTop (mkF m 5 #[.val (.ref a1), .val (.double (FP.i2d k2)), .second, .val (.int f2)] [(.double (FP.i2d k2)), (.double (FP.i2d k1))])) _
          refine XS.dcmpS X1.here hx rfl (hb hby d4_5) rfl rfl ?_
          show Steps p.tables e below (T1.setTop (mkF m 6 #[.val (.ref a1), .val (.double (FP.i2d k2)), .second, .val (.int f2)] [(.int (cmpValue (FP.dcmp (FP.i2d k1) (FP.i2d k2)) .g))])) _
          refine XS.ifNo X1.here hx rfl (hb hby d4_6) rfl ((if0 _ _).trans (flt (fun q => c1 ((own_dc k1 k2 .g).1.mp q))).1) ?_
          show Steps p.tables e below (T1.setTop (mkF m 9 #[.val (.ref a1), .val (.double (FP.i2d k2)), .second, .val (.int f2)] [])) _
          refine XS.aloadN X1.here hx rfl (hb hby d4_9) rfl rfl ?_
          show Steps p.tables e below (T1.setTop (mkF m 10 #[.val (.ref a1), .val (.double (FP.i2d k2)), .second, .val (.int f2)] [(.ref a1)])) _
          refine st2 _ ?_
          show Steps p.tables e below (T2.setTop (mkF m 13 #[.val (.ref a1), .val (.double (FP.i2d k2)), .second, .val (.int f2)] [(.double (FP.i2d k1))])) _
          refine XS.dloadN X2.here hx rfl (hb hby d4_13) rfl ?_
          show Steps p.tables e below (T2.setTop (mkF m 14 #[.val (.ref a1), .val (.double (FP.i2d k2)), .second, .val (.int f2)] [(.double (FP.i2d k2)), (.double (FP.i2d k1))])) _
          refine XS.dcmpS X2.here hx rfl (hb hby d4_14) rfl rfl ?_
          show Steps p.tables e below (T2.setTop (mkF m 15 #[.val (.ref a1), .val (.double (FP.i2d k2)), .second, .val (.int f2)] [(.int (cmpValue (FP.dcmp (FP.i2d k1) (FP.i2d k2)) .l))])) _
          refine XS.ifNo X2.here hx rfl (hb hby d4_15) rfl ((if0 _ _).trans (teq ((own_dc k1 k2 .l).2.mpr c2)).2) ?_
          show Steps p.tables e below (T2.setTop (mkF m 18 #[.val (.ref a1), .val (.double (FP.i2d k2)), .second, .val (.int f2)] [])) _
          refine XS.aloadN X2.here hx rfl (hb hby d4_18) rfl rfl ?_
          show Steps p.tables e below (T2.setTop (mkF m 19 #[.val (.ref a1), .val (.double (FP.i2d k2)), .second, .val (.int f2)] [(.ref a1)])) _
          refine st3 _ ?_
          show Steps p.tables e below (T3.setTop (mkF m 22 #[.val (.ref a1), .val (.double (FP.i2d k2)), .second, .val (.int f2)] [(.int f1)])) _
          refine XS.iloadN X3.here hx rfl (hb hby d4_22) rfl ?_
          show Steps p.tables e below (T3.setTop (mkF m 23 #[.val (.ref a1), .val (.double (FP.i2d k2)), .second, .val (.int f2)] [(.int f2), (.int f1)])) _
          refine XS.icmpNo X3.here hx rfl (hb hby d4_23) rfl (tlt c3).2.1 ?_
          show Steps p.tables e below (T3.setTop (mkF m 26 #[.val (.ref a1), .val (.double (FP.i2d k2)), .second, .val (.int f2)] [])) _
          refine XS.iconst X3.here hx rfl (hb hby d4_26) ?_
          show Steps p.tables e below (T3.setTop (mkF m 27 #[.val (.ref a1), .val (.double (FP.i2d k2)), .second, .val (.int f2)] [(.int (1 : Int32))])) _
          refine XS.goto X3.here hx rfl (pc0 := 27) (pc' := 31) rfl (hb hby d4_27) (by decide) (by decide) ?_
          show Steps p.tables e below (T3.setTop (mkF m 31 #[.val (.ref a1), .val (.double (FP.i2d k2)), .second, .val (.int f2)] [(.int (1 : Int32))])) _
          exact retN X3 hx (t := .boolean) Bd.returns (by simp) (hb hby d4_31) hr
        · show Q_4 k1 f1 k2 f2 h0 n0 _ T3.heap _
          rw [e3]
          exact ⟨by rw [own_bz_t (Or.inr ⟨c2, c3⟩)], N0, rfl⟩
      · obtain ⟨fs, hr, hrun, hended, hW, hsame⟩ := X3.leave (v := some (.int (0 : Int32))) (fun h => by rw [Bd.returns] at h; cases h)
        refine ⟨_, _, pre0 _ ?_, hrun, hended, _, _, rfl, ?_, ⟨_, rfl⟩, hW, hsame.mono (by decide) (by decide)⟩
        · show Steps p.tables e below (s₁.setTop (mkF m 0 #[.val (.ref a1), .val (.double (FP.i2d k2)), .second, .val (.int f2)] [])) _
          refine XS.aloadN X0.here hx rfl (hb hby d4_0) rfl rfl ?_
          show Steps p.tables e below (s₁.setTop (mkF m 1 #[.val (.ref a1), .val (.double (FP.i2d k2)), .second, .val (.int f2)] [(.ref a1)])) _
          refine st1 _ ?_
          show Steps p.tables e below (T1.setTop (mkF m 4 #[.val (.ref a1), .val (.double (FP.i2d k2)), .second, .val (.int f2)] [(.double (FP.i2d k1))])) _
          refine XS.dloadN X1.here hx rfl (hb hby d4_4) rfl ?_
          show Steps p.tables e below (T1.setTop (mkF m 5 #[.val (.ref a1), .val (.double (FP.i2d k2)), .second, .val (.int f2)] [(.double (FP.i2d k2)), (.double (FP.i2d k1))])) _
          refine XS.dcmpS X1.here hx rfl (hb hby d4_5) rfl rfl ?_
          show Steps p.tables e below (T1.setTop (mkF m 6 #[.val (.ref a1), .val (.double (FP.i2d k2)), .second, .val (.int f2)] [(.int (cmpValue (FP.dcmp (FP.i2d k1) (FP.i2d k2)) .g))])) _
          refine XS.ifNo X1.here hx rfl (hb hby d4_6) rfl ((if0 _ _).trans (flt (fun q => c1 ((own_dc k1 k2 .g).1.mp q))).1) ?_
          show Steps p.tables e below (T1.setTop (mkF m 9 #[.val (.ref a1), .val (.double (FP.i2d k2)), .second, .val (.int f2)] [])) _
          refine XS.aloadN X1.here hx rfl (hb hby d4_9) rfl rfl ?_
          show Steps p.tables e below (T1.setTop (mkF m 10 #[.val (.ref a1), .val (.double (FP.i2d k2)), .second, .val (.int f2)] [(.ref a1)])) _
          refine st2 _ ?_
          show Steps p.tables e below (T2.setTop (mkF m 13 #[.val (.ref a1), .val (.double (FP.i2d k2)), .second, .val (.int f2)] [(.double (FP.i2d k1))])) _
          refine XS.dloadN X2.here hx rfl (hb hby d4_13) rfl ?_
          show Steps p.tables e below (T2.setTop (mkF m 14 #[.val (.ref a1), .val (.double (FP.i2d k2)), .second, .val (.int f2)] [(.double (FP.i2d k2)), (.double (FP.i2d k1))])) _
          refine XS.dcmpS X2.here hx rfl (hb hby d4_14) rfl rfl ?_
          show Steps p.tables e below (T2.setTop (mkF m 15 #[.val (.ref a1), .val (.double (FP.i2d k2)), .second, .val (.int f2)] [(.int (cmpValue (FP.dcmp (FP.i2d k1) (FP.i2d k2)) .l))])) _
          refine XS.ifNo X2.here hx rfl (hb hby d4_15) rfl ((if0 _ _).trans (teq ((own_dc k1 k2 .l).2.mpr c2)).2) ?_
          show Steps p.tables e below (T2.setTop (mkF m 18 #[.val (.ref a1), .val (.double (FP.i2d k2)), .second, .val (.int f2)] [])) _
          refine XS.aloadN X2.here hx rfl (hb hby d4_18) rfl rfl ?_
          show Steps p.tables e below (T2.setTop (mkF m 19 #[.val (.ref a1), .val (.double (FP.i2d k2)), .second, .val (.int f2)] [(.ref a1)])) _
          refine st3 _ ?_
          show Steps p.tables e below (T3.setTop (mkF m 22 #[.val (.ref a1), .val (.double (FP.i2d k2)), .second, .val (.int f2)] [(.int f1)])) _
          refine XS.iloadN X3.here hx rfl (hb hby d4_22) rfl ?_
          show Steps p.tables e below (T3.setTop (mkF m 23 #[.val (.ref a1), .val (.double (FP.i2d k2)), .second, .val (.int f2)] [(.int f2), (.int f1)])) _
          refine XS.icmpYes X3.here hx rfl (pc0 := 23) (pc' := 30) rfl (hb hby d4_23) rfl (flt c3).2.1 (by decide) (by decide) ?_
          show Steps p.tables e below (T3.setTop (mkF m 30 #[.val (.ref a1), .val (.double (FP.i2d k2)), .second, .val (.int f2)] [])) _
          refine XS.iconst X3.here hx rfl (hb hby d4_30) ?_
          show Steps p.tables e below (T3.setTop (mkF m 31 #[.val (.ref a1), .val (.double (FP.i2d k2)), .second, .val (.int f2)] [(.int (0 : Int32))])) _
          exact retN X3 hx (t := .boolean) Bd.returns (by simp) (hb hby d4_31) hr
        · show Q_4 k1 f1 k2 f2 h0 n0 _ T3.heap _
          rw [e3]
          exact ⟨by rw [own_bz_f (fun q => q.elim c1 (fun r => c3 r.2))], N0, rfl⟩
    · obtain ⟨fs, hr, hrun, hended, hW, hsame⟩ := X2.leave (v := some (.int (0 : Int32))) (fun h => by rw [Bd.returns] at h; cases h)
      refine ⟨_, _, pre0 _ ?_, hrun, hended, _, _, rfl, ?_, ⟨_, rfl⟩, hW, hsame.mono (by decide) (by decide)⟩
      · show Steps p.tables e below (s₁.setTop (mkF m 0 #[.val (.ref a1), .val (.double (FP.i2d k2)), .second, .val (.int f2)] [])) _
        refine XS.aloadN X0.here hx rfl (hb hby d4_0) rfl rfl ?_
        show Steps p.tables e below (s₁.setTop (mkF m 1 #[.val (.ref a1), .val (.double (FP.i2d k2)), .second, .val (.int f2)] [(.ref a1)])) _
        refine st1 _ ?_
        show Steps p.tables e below (T1.setTop (mkF m 4 #[.val (.ref a1), .val (.double (FP.i2d k2)), .second, .val (.int f2)] [(.double (FP.i2d k1))])) _
        refine XS.dloadN X1.here hx rfl (hb hby d4_4) rfl ?_
        show Steps p.tables e below (T1.setTop (mkF m 5 #[.val (.ref a1), .val (.double (FP.i2d k2)), .second, .val (.int f2)] [(.double (FP.i2d k2)), (.double (FP.i2d k1))])) _
        refine XS.dcmpS X1.here hx rfl (hb hby d4_5) rfl rfl ?_
        show Steps p.tables e below (T1.setTop (mkF m 6 #[.val (.ref a1), .val (.double (FP.i2d k2)), .second, .val (.int f2)] [(.int (cmpValue (FP.dcmp (FP.i2d k1) (FP.i2d k2)) .g))])) _
        refine XS.ifNo X1.here hx rfl (hb hby d4_6) rfl ((if0 _ _).trans (flt (fun q => c1 ((own_dc k1 k2 .g).1.mp q))).1) ?_
        show Steps p.tables e below (T1.setTop (mkF m 9 #[.val (.ref a1), .val (.double (FP.i2d k2)), .second, .val (.int f2)] [])) _
        refine XS.aloadN X1.here hx rfl (hb hby d4_9) rfl rfl ?_
        show Steps p.tables e below (T1.setTop (mkF m 10 #[.val (.ref a1), .val (.double (FP.i2d k2)), .second, .val (.int f2)] [(.ref a1)])) _
        refine st2 _ ?_
        show Steps p.tables e below (T2.setTop (mkF m 13 #[.val (.ref a1), .val (.double (FP.i2d k2)), .second, .val (.int f2)] [(.double (FP.i2d k1))])) _
        refine XS.dloadN X2.here hx rfl (hb hby d4_13) rfl ?_
        show Steps p.tables e below (T2.setTop (mkF m 14 #[.val (.ref a1), .val (.double (FP.i2d k2)), .second, .val (.int f2)] [(.double (FP.i2d k2)), (.double (FP.i2d k1))])) _
        refine XS.dcmpS X2.here hx rfl (hb hby d4_14) rfl rfl ?_
        show Steps p.tables e below (T2.setTop (mkF m 15 #[.val (.ref a1), .val (.double (FP.i2d k2)), .second, .val (.int f2)] [(.int (cmpValue (FP.dcmp (FP.i2d k1) (FP.i2d k2)) .l))])) _
        refine XS.ifYes X2.here hx rfl (pc0 := 15) (pc' := 30) rfl (hb hby d4_15) rfl ((if0 _ _).trans (feq (fun q => c2 ((own_dc k1 k2 .l).2.mp q))).2) (by decide) (by decide) ?_
        show Steps p.tables e below (T2.setTop (mkF m 30 #[.val (.ref a1), .val (.double (FP.i2d k2)), .second, .val (.int f2)] [])) _
        refine XS.iconst X2.here hx rfl (hb hby d4_30) ?_
        show Steps p.tables e below (T2.setTop (mkF m 31 #[.val (.ref a1), .val (.double (FP.i2d k2)), .second, .val (.int f2)] [(.int (0 : Int32))])) _
        exact retN X2 hx (t := .boolean) Bd.returns (by simp) (hb hby d4_31) hr
      · show Q_4 k1 f1 k2 f2 h0 n0 _ T2.heap _
        rw [e2]
        exact ⟨by rw [own_bz_f (fun q => q.elim c1 (fun r => c2 r.1))], N0, rfl⟩
theorem d5_0 : decode method_2_code 0 = .ok (.iload_n 0, 1) := by decide +kernel
theorem d5_1 : decode method_2_code 1 = .ok (.iload_n 2, 1) := by decide +kernel
theorem d5_2 : decode method_2_code 2 = .ok (.if_icmp .ge 5, 3) := by decide +kernel
theorem d5_5 : decode method_2_code 5 = .ok (.iconst 1, 1) := by decide +kernel
theorem d5_6 : decode method_2_code 6 = .ok (.ireturn, 1) := by decide +kernel
theorem d5_7 : decode method_2_code 7 = .ok (.iload_n 0, 1) := by decide +kernel
theorem d5_8 : decode method_2_code 8 = .ok (.iload_n 2, 1) := by decide +kernel
theorem d5_9 : decode method_2_code 9 = .ok (.if_icmp .le 5, 3) := by decide +kernel
theorem d5_12 : decode method_2_code 12 = .ok (.iconst 0, 1) := by decide +kernel
theorem d5_13 : decode method_2_code 13 = .ok (.ireturn, 1) := by decide +kernel
theorem d5_14 : decode method_2_code 14 = .ok (.iload_n 1, 1) := by decide +kernel
theorem d5_15 : decode method_2_code 15 = .ok (.iload_n 3, 1) := by decide +kernel
theorem d5_16 : decode method_2_code 16 = .ok (.if_icmp .ge 7, 3) := by decide +kernel
theorem d5_19 : decode method_2_code 19 = .ok (.iconst 1, 1) := by decide +kernel
theorem d5_20 : decode method_2_code 20 = .ok (.goto 4, 3) := by decide +kernel
theorem d5_23 : decode method_2_code 23 = .ok (.iconst 0, 1) := by decide +kernel
theorem d5_24 : decode method_2_code 24 = .ok (.ireturn, 1) := by decide +kernel
theorem pn_0 : plainName "tessera/EntryShorterPinLaw" = true := by first | (simp [plainName, overriddenIn]; done) | decide +kernel
theorem pd_5 : parseMethodDescriptor "(IIII)Z" = some ⟨[.int, .int, .int, .int], some .boolean⟩ := by decide +kernel
theorem ef_5 (m : MethodId) (x0 : Int32) (x1 : Int32) (x2 : Int32) (x3 : Int32) : entryFrame m #[(.int x0), (.int x1), (.int x2), (.int x3)] 4 = mkF m 0 #[.val (.int x0), .val (.int x1), .val (.int x2), .val (.int x3)] [] := by first | (simp [entryFrame, mkF, argsToLocals, Value.category]; done) | rfl
def Q_5 (k1 f1 k2 f2 : Int32) (h0 : Heap) (n0 : Nat) (v : Option Value) (h : Heap) (L : List Loc) : Prop := v = some (.int (own_bz (own_lex k1 f1 k2 f2))) ∧ Fr n0 L ∧ h = h0
set_option maxRecDepth 65536 in
set_option maxHeartbeats 40000000 in
theorem rm_5 (l : Launch) (Z : State) (a0 : Array Value) (hw : ∀ d ∈ tables_1, d.before a0 Z = true) (ws : List Jvm.Cond) (k1 f1 k2 f2 : Int32) (h0 : Heap) (n0 : Nat) (Z0 : n0 ≤ h0.size)  :
    MetFree l (⟨"tessera/EntryShorterPinLaw", "lex", "(IIII)Z"⟩ : MethodName) (head1 (Jvm.Cond.code (⟨"tessera/EntryShorterPinLaw", "lex", "(IIII)Z"⟩ : MethodName) method_2_code 4 (some .boolean) :: ws) ({ frames := 0, cells := 0, slots := 0, locals := 0 } : Room)) (fun a U => a = #[(.int k1), (.int f1), (.int k2), (.int f2)] ∧ Z.Warmed39 U.vm ∧ U.heap = h0) (fun _ _ _ _ _ => True) (fun _ U o U' => ∃ v L, o = .returned v ∧ Q_5 k1 f1 k2 f2 h0 n0 v U'.heap L ∧ FrameEnd U o U' L 0 0) := by
  refine MetFree.of_bodySF (plainFor_of_name pn_0) hisR ?_
  intro p e s m args below meth c s₁ Bd hml0 hP hK
  obtain ⟨rfl, hZ, hh⟩ := hP
  have hx := Bd.exec
  have hby := Bd.bytes
  have hml : c.maxLocals = 4 := hml0
  have hown : s.vm.findClass "tessera/EntryShorterPinLaw" = some m.cls := findClass_of_methodNamed Bd.named
  have hnm := (name_of_methodNamed Bd.named Bd.method).1
  have X0 : Stand p l e ({ frames := 0, cells := 0, slots := 0, locals := 0 } : Room) s m #[(.int k1), (.int f1), (.int k2), (.int f2)] below meth c s₁ [] 0 0 := Stand.of_body Bd
  have e0 : s₁.heap = h0 := by rw [← hh, Bd.state]; rfl
  have N0 := Fr.nil n0
  have pre0 : ∀ t, Steps p.tables e below (s₁.setTop (mkF m 0 #[.val (.int k1), .val (.int f1), .val (.int k2), .val (.int f2)] [])) t → Steps p.tables e below (s₁.setTop (entryFrame m #[(.int k1), (.int f1), (.int k2), (.int f2)] 4)) t := fun t k => castTop (ef_5 m (k1) (f1) (k2) (f2)) k
  obtain ⟨fs, hr, hrun, hended, hW, hsame⟩ := X0.leave (v := some (.int (nar .boolean (own_bz (own_lex k1 f1 k2 f2))))) (fun h => by rw [Bd.returns] at h; cases h)
  refine ⟨_, _, pre0 _ ?_, hrun, hended, _, _, rfl, ?_, ⟨_, rfl⟩, hW, hsame.mono (by decide) (by decide)⟩
  · have kr6 : ∀ z, z = own_bz (own_lex k1 f1 k2 f2) → Steps p.tables e below (s₁.setTop (mkF m 6 #[.val (.int k1), .val (.int f1), .val (.int k2), .val (.int f2)] [(.int z)])) (s₁.setFrames fs) := by
      intro z hz; subst hz; exact retN X0 hx (t := .boolean) Bd.returns (by simp) (hb hby d5_6) hr
    have kr13 : ∀ z, z = own_bz (own_lex k1 f1 k2 f2) → Steps p.tables e below (s₁.setTop (mkF m 13 #[.val (.int k1), .val (.int f1), .val (.int k2), .val (.int f2)] [(.int z)])) (s₁.setFrames fs) := by
      intro z hz; subst hz; exact retN X0 hx (t := .boolean) Bd.returns (by simp) (hb hby d5_13) hr
    have kr24 : ∀ z, z = own_bz (own_lex k1 f1 k2 f2) → Steps p.tables e below (s₁.setTop (mkF m 24 #[.val (.int k1), .val (.int f1), .val (.int k2), .val (.int f2)] [(.int z)])) (s₁.setFrames fs) := by
      intro z hz; subst hz; exact retN X0 hx (t := .boolean) Bd.returns (by simp) (hb hby d5_24) hr
    show Steps p.tables e below (s₁.setTop (mkF m 0 #[.val (.int k1), .val (.int f1), .val (.int k2), .val (.int f2)] [])) _
    refine XS.iloadN X0.here hx rfl (hb hby d5_0) rfl ?_
    show Steps p.tables e below (s₁.setTop (mkF m 1 #[.val (.int k1), .val (.int f1), .val (.int k2), .val (.int f2)] [(.int k1)])) _
    refine XS.iloadN X0.here hx rfl (hb hby d5_1) rfl ?_
    show Steps p.tables e below (s₁.setTop (mkF m 2 #[.val (.int k1), .val (.int f1), .val (.int k2), .val (.int f2)] [(.int k2), (.int k1)])) _
    by_cases c1 : k1 < k2
    · refine XS.icmpNo X0.here hx rfl (hb hby d5_2) rfl (tlt c1).2.1 ?_
      show Steps p.tables e below (s₁.setTop (mkF m 5 #[.val (.int k1), .val (.int f1), .val (.int k2), .val (.int f2)] [])) _
      refine XS.iconst X0.here hx rfl (hb hby d5_5) ?_
      show Steps p.tables e below (s₁.setTop (mkF m 6 #[.val (.int k1), .val (.int f1), .val (.int k2), .val (.int f2)] [(.int (1 : Int32))])) _
      exact kr6 _ (by rw [own_bz_t (Or.inl c1)])
    · refine XS.icmpYes X0.here hx rfl (pc0 := 2) (pc' := 7) rfl (hb hby d5_2) rfl (flt c1).2.1 (by decide) (by decide) ?_
      show Steps p.tables e below (s₁.setTop (mkF m 7 #[.val (.int k1), .val (.int f1), .val (.int k2), .val (.int f2)] [])) _
      refine XS.iloadN X0.here hx rfl (hb hby d5_7) rfl ?_
      show Steps p.tables e below (s₁.setTop (mkF m 8 #[.val (.int k1), .val (.int f1), .val (.int k2), .val (.int f2)] [(.int k1)])) _
      refine XS.iloadN X0.here hx rfl (hb hby d5_8) rfl ?_
      show Steps p.tables e below (s₁.setTop (mkF m 9 #[.val (.int k1), .val (.int f1), .val (.int k2), .val (.int f2)] [(.int k2), (.int k1)])) _
      by_cases c2 : k2 < k1
      · refine XS.icmpNo X0.here hx rfl (hb hby d5_9) rfl (tlt c2).2.2.2 ?_
        show Steps p.tables e below (s₁.setTop (mkF m 12 #[.val (.int k1), .val (.int f1), .val (.int k2), .val (.int f2)] [])) _
        refine XS.iconst X0.here hx rfl (hb hby d5_12) ?_
        show Steps p.tables e below (s₁.setTop (mkF m 13 #[.val (.int k1), .val (.int f1), .val (.int k2), .val (.int f2)] [(.int (0 : Int32))])) _
        exact kr13 _ (by rw [own_bz_f (fun q => q.elim c1 (fun r => absurd c2 (by rw [r.1]; exact Int32.lt_irrefl)))])
      · refine XS.icmpYes X0.here hx rfl (pc0 := 9) (pc' := 14) rfl (hb hby d5_9) rfl (flt c2).2.2.2 (by decide) (by decide) ?_
        show Steps p.tables e below (s₁.setTop (mkF m 14 #[.val (.int k1), .val (.int f1), .val (.int k2), .val (.int f2)] [])) _
        refine XS.iloadN X0.here hx rfl (hb hby d5_14) rfl ?_
        show Steps p.tables e below (s₁.setTop (mkF m 15 #[.val (.int k1), .val (.int f1), .val (.int k2), .val (.int f2)] [(.int f1)])) _
        refine XS.iloadN X0.here hx rfl (hb hby d5_15) rfl ?_
        show Steps p.tables e below (s₁.setTop (mkF m 16 #[.val (.int k1), .val (.int f1), .val (.int k2), .val (.int f2)] [(.int f2), (.int f1)])) _
        by_cases c3 : f1 < f2
        · refine XS.icmpNo X0.here hx rfl (hb hby d5_16) rfl (tlt c3).2.1 ?_
          show Steps p.tables e below (s₁.setTop (mkF m 19 #[.val (.int k1), .val (.int f1), .val (.int k2), .val (.int f2)] [])) _
          refine XS.iconst X0.here hx rfl (hb hby d5_19) ?_
          show Steps p.tables e below (s₁.setTop (mkF m 20 #[.val (.int k1), .val (.int f1), .val (.int k2), .val (.int f2)] [(.int (1 : Int32))])) _
          refine XS.goto X0.here hx rfl (pc0 := 20) (pc' := 24) rfl (hb hby d5_20) (by decide) (by decide) ?_
          show Steps p.tables e below (s₁.setTop (mkF m 24 #[.val (.int k1), .val (.int f1), .val (.int k2), .val (.int f2)] [(.int (1 : Int32))])) _
          have ek : k1 = k2 := Int32.toInt_inj.mp (by have q1 : ¬ k1.toInt < k2.toInt := fun q => c1 (Int32.lt_iff_toInt_lt.mpr q); have q2 : ¬ k2.toInt < k1.toInt := fun q => c2 (Int32.lt_iff_toInt_lt.mpr q); omega)
          exact kr24 _ (by rw [own_bz_t (Or.inr ⟨ek, c3⟩)])
        · refine XS.icmpYes X0.here hx rfl (pc0 := 16) (pc' := 23) rfl (hb hby d5_16) rfl (flt c3).2.1 (by decide) (by decide) ?_
          show Steps p.tables e below (s₁.setTop (mkF m 23 #[.val (.int k1), .val (.int f1), .val (.int k2), .val (.int f2)] [])) _
          refine XS.iconst X0.here hx rfl (hb hby d5_23) ?_
          show Steps p.tables e below (s₁.setTop (mkF m 24 #[.val (.int k1), .val (.int f1), .val (.int k2), .val (.int f2)] [(.int (0 : Int32))])) _
          exact kr24 _ (by rw [own_bz_f (fun q => q.elim c1 (fun r => c3 r.2))])
  · show Q_5 k1 f1 k2 f2 h0 n0 _ s₁.heap _
    rw [e0]
    exact ⟨congrArg (fun z => some (Value.int z)) (own_nar _), N0, rfl⟩
theorem ef_0 (m : MethodId) (x0 : Int32) (x1 : Int32) (x2 : Int32) (x3 : Int32) (x4 : Int32) (x5 : Int32) : entryFrame m #[(.int x0), (.int x1), (.int x2), (.int x3), (.int x4), (.int x5)] maxLocals = mkF m 0 #[.val (.int x0), .val (.int x1), .val (.int x2), .val (.int x3), .val (.int x4), .val (.int x5), .unset, .unset, .unset, .unset, .unset, .unset, .unset, .unset, .unset, .unset, .unset] [] := by first | (simp [entryFrame, mkF, argsToLocals, Value.category, maxLocals]; done) | rfl
def Q_0 (n0 : Nat) (v : Option Value) (h : Heap) (L : List Loc) : Prop := v = some (.int 1) ∧ Fr n0 L
set_option maxRecDepth 65536 in
set_option maxHeartbeats 40000000 in
theorem rm_0 (l : Launch) (Z : State) (a0 : Array Value) (hw : ∀ d ∈ tables_1, d.before a0 Z = true) (ws : List Jvm.Cond) (p1 p2 p3 p4 p5 p6 : Int32) (h0 : Heap) (n0 : Nat) (Z0 : n0 ≤ h0.size)  :
    MetFree l x (head1 (Jvm.Cond.code x code maxLocals ret :: ws) room_1) (fun a U => a = #[(.int p1), (.int p2), (.int p3), (.int p4), (.int p5), (.int p6)] ∧ Z.Warmed39 U.vm ∧ U.heap = h0) (fun _ _ _ _ _ => True) (fun _ U o U' => ∃ v L, o = .returned v ∧ Q_0 n0 v U'.heap L ∧ FrameEnd U o U' L 2 8) := by
  refine MetFree.of_bodySF (plainFor_of_name pn_0) hisR ?_
  intro p e s m args below meth c s₁ Bd hml0 hP hK
  obtain ⟨rfl, hZ, hh⟩ := hP
  have hx := Bd.exec
  have hby := Bd.bytes
  have hml : c.maxLocals = 17 := hml0
  have hown : s.vm.findClass "tessera/EntryShorterPinLaw" = some m.cls := findClass_of_methodNamed Bd.named
  have hnm := (name_of_methodNamed Bd.named Bd.method).1
  have X0 : Stand p l e room_1 s m #[(.int p1), (.int p2), (.int p3), (.int p4), (.int p5), (.int p6)] below meth c s₁ [] 0 0 := Stand.of_body Bd
  have e0 : s₁.heap = h0 := by rw [← hh, Bd.state]; rfl
  have N0 := Fr.nil n0
  have pre0 : ∀ t, Steps p.tables e below (s₁.setTop (mkF m 0 #[.val (.int p1), .val (.int p2), .val (.int p3), .val (.int p4), .val (.int p5), .val (.int p6), .unset, .unset, .unset, .unset, .unset, .unset, .unset, .unset, .unset, .unset, .unset] [])) t → Steps p.tables e below (s₁.setTop (entryFrame m #[(.int p1), (.int p2), (.int p3), (.int p4), (.int p5), (.int p6)] maxLocals)) t := fun t k => castTop (ef_0 m (p1) (p2) (p3) (p4) (p5) (p6)) k
  obtain ⟨ka, hka⟩ : ∃ z : Int32, z = p1 % (8 : Int32) := ⟨_, rfl⟩
  obtain ⟨kb, hkb⟩ : ∃ z : Int32, z = p2 % (8 : Int32) := ⟨_, rfl⟩
  obtain ⟨T1, h1, X1, e1, E1, A1, D1, -, st1⟩ := newO X0 hx hZ hown (hw _ (List.mem_of_getElem? (i := 0) rfl)) (hw _ (List.mem_of_getElem? (i := 1) rfl)) (hw _ (List.mem_of_getElem? (i := 2) rfl)) e0 (g := (mkF m 22 #[.val (.int p1), .val (.int p2), .val (.int p3), .val (.int p4), .val (.int p5), .val (.int p6), .val (.int ka), .val (.int kb), .val (.double (FP.i2d ka)), .second, .val (.double (FP.i2d kb)), .second, .unset, .unset, .unset, .unset, .unset] [])) rfl (hb hby at_22) (by decide) (by decide)
  obtain ⟨a1, g1⟩ : ∃ z, z = h0.size := ⟨_, rfl⟩
  rw [← g1] at A1 D1 st1
  have F1_0 : Fld Z h1 a1 "tessera/ColorDistanceExchange$Entry" "node" "I" (.int (0 : Int32)) := (D1 (Or.inr (hw _ (List.mem_of_getElem? (i := 15) rfl))) (ty := .int) (by decide))
  have F1_1 : Fld Z h1 a1 "tessera/ColorDistanceExchange$Entry" "version" "I" (.int (0 : Int32)) := (D1 (Or.inr (hw _ (List.mem_of_getElem? (i := 17) rfl))) (ty := .int) (by decide))
  have F1_2 : Fld Z h1 a1 "tessera/ColorDistanceExchange$Entry" "distance" "D" (.double (0 : UInt64)) := (D1 (Or.inr (hw _ (List.mem_of_getElem? (i := 19) rfl))) (ty := .double) (by decide))
  have F1_3 : Fld Z h1 a1 "tessera/ColorDistanceExchange$Entry" "flat" "I" (.int (0 : Int32)) := (D1 (Or.inr (hw _ (List.mem_of_getElem? (i := 21) rfl))) (ty := .int) (by decide))
  have Z1 : n0 ≤ h1.size := Nat.le_trans Z0 E1.1
  obtain ⟨_, _, ⟨T2, L2, k2, n2⟩, -, X2, ⟨Lc2, hQ2, l2, y2, z2⟩, st2⟩ := X1.specialBack hx (y := (⟨"tessera/ColorDistanceExchange$Entry", "<init>", "(IIDI)V"⟩ : MethodName)) rfl hown (mvT hZ (hw _ (List.mem_of_getElem? (i := 3) rfl))) (mvT hZ (hw _ (List.mem_of_getElem? (i := 4) rfl))) (mvT hZ (hw _ (List.mem_of_getElem? (i := 5) rfl))) (by decide) (backOf (W := 1) (rm_1 l Z a0 hw [] a1 p5 p6 (FP.i2d ka) p3 h1 n0 Z1 F1_0 F1_1 F1_2 F1_3 A1 (Nat.le_trans Z0 (Nat.le_of_eq g1.symm))) hZ (hw _ (List.mem_of_getElem? (i := 5) rfl)) (hw _ (List.mem_of_getElem? (i := 2) rfl)) (by decide) (by decide)) (g := (mkF m 33 #[.val (.int p1), .val (.int p2), .val (.int p3), .val (.int p4), .val (.int p5), .val (.int p6), .val (.int ka), .val (.int kb), .val (.double (FP.i2d ka)), .second, .val (.double (FP.i2d kb)), .second, .unset, .unset, .unset, .unset, .unset] [(.int p3), (.double (FP.i2d ka)), (.int p6), (.int p5), (.ref a1), (.ref a1)])) rfl (by rw [hml]; rfl) (Steps.refl _) (a := a1) (argsL := [(.int p5), (.int p6), (.double (FP.i2d ka)), (.int p3)]) (rest := [(.ref a1)]) (lenOf pd_1 rfl) rfl (by show 2 * 0 + _ ≤ _; exact Nat.le_of_eq rfl) (hb hby at_33) (fun _ _ => ⟨rfl, e1, (by decide : 1 + 0 ≤ _), (by decide : 4 + 0 ≤ _)⟩)
  dsimp only [Pt.U, Pt.locs, Pt.cells, Pt.slots] at X2 l2 y2 z2 st2 hQ2
  subst l2 y2 z2
  obtain ⟨rfl, N2, K2, B2, F2_2, F2_3⟩ := hQ2
  have N2b := Fr.app N0 N2
  have Z2 : n0 ≤ T2.heap.size := Nat.le_trans Z1 K2.1
  obtain ⟨T3, h3, X3, e3, E3, A3, D3, -, st3⟩ := newO X2 hx hZ hown (hw _ (List.mem_of_getElem? (i := 0) rfl)) (hw _ (List.mem_of_getElem? (i := 1) rfl)) (hw _ (List.mem_of_getElem? (i := 2) rfl)) rfl (g := (mkF m 38 #[.val (.int p1), .val (.int p2), .val (.int p3), .val (.int p4), .val (.int p5), .val (.int p6), .val (.int ka), .val (.int kb), .val (.double (FP.i2d ka)), .second, .val (.double (FP.i2d kb)), .second, .val (.ref a1), .unset, .unset, .unset, .unset] [])) rfl (hb hby at_38) (by decide) (by decide)
  obtain ⟨a3, g3⟩ : ∃ z, z = T2.heap.size := ⟨_, rfl⟩
  rw [← g3] at A3 D3 st3
  have F3_0 : Fld Z h3 a3 "tessera/ColorDistanceExchange$Entry" "node" "I" (.int (0 : Int32)) := (D3 (Or.inr (hw _ (List.mem_of_getElem? (i := 15) rfl))) (ty := .int) (by decide))
  have F3_1 : Fld Z h3 a3 "tessera/ColorDistanceExchange$Entry" "version" "I" (.int (0 : Int32)) := (D3 (Or.inr (hw _ (List.mem_of_getElem? (i := 17) rfl))) (ty := .int) (by decide))
  have F3_2 : Fld Z h3 a3 "tessera/ColorDistanceExchange$Entry" "distance" "D" (.double (0 : UInt64)) := (D3 (Or.inr (hw _ (List.mem_of_getElem? (i := 19) rfl))) (ty := .double) (by decide))
  have F3_3 : Fld Z h3 a3 "tessera/ColorDistanceExchange$Entry" "flat" "I" (.int (0 : Int32)) := (D3 (Or.inr (hw _ (List.mem_of_getElem? (i := 21) rfl))) (ty := .int) (by decide))
  have Z3 : n0 ≤ h3.size := Nat.le_trans Z2 E3.1
  have ne13 : a1 ≠ a3 := Nat.ne_of_lt (Nat.lt_of_lt_of_le B2.lt (Nat.le_of_eq g3.symm))
  obtain ⟨_, _, ⟨T4, L4, k4, n4⟩, -, X4, ⟨Lc4, hQ4, l4, y4, z4⟩, st4⟩ := X3.specialBack hx (y := (⟨"tessera/ColorDistanceExchange$Entry", "<init>", "(IIDI)V"⟩ : MethodName)) rfl hown (mvT hZ (hw _ (List.mem_of_getElem? (i := 3) rfl))) (mvT hZ (hw _ (List.mem_of_getElem? (i := 4) rfl))) (mvT hZ (hw _ (List.mem_of_getElem? (i := 5) rfl))) (by decide) (backOf (W := 1) (rm_1 l Z a0 hw [] a3 p5 p6 (FP.i2d kb) p4 h3 n0 Z3 F3_0 F3_1 F3_2 F3_3 A3 (Nat.le_trans Z2 (Nat.le_of_eq g3.symm))) hZ (hw _ (List.mem_of_getElem? (i := 5) rfl)) (hw _ (List.mem_of_getElem? (i := 2) rfl)) (by decide) (by decide)) (g := (mkF m 49 #[.val (.int p1), .val (.int p2), .val (.int p3), .val (.int p4), .val (.int p5), .val (.int p6), .val (.int ka), .val (.int kb), .val (.double (FP.i2d ka)), .second, .val (.double (FP.i2d kb)), .second, .val (.ref a1), .unset, .unset, .unset, .unset] [(.int p4), (.double (FP.i2d kb)), (.int p6), (.int p5), (.ref a3), (.ref a3)])) rfl (by rw [hml]; rfl) (Steps.refl _) (a := a3) (argsL := [(.int p5), (.int p6), (.double (FP.i2d kb)), (.int p4)]) (rest := [(.ref a3)]) (lenOf pd_1 rfl) rfl (by show 2 * 0 + _ ≤ _; exact Nat.le_of_eq rfl) (hb hby at_49) (fun _ _ => ⟨rfl, e3, (by decide : 2 + 0 ≤ _), (by decide : 8 + 0 ≤ _)⟩)
  dsimp only [Pt.U, Pt.locs, Pt.cells, Pt.slots] at X4 l4 y4 z4 st4 hQ4
  subst l4 y4 z4
  obtain ⟨rfl, N4, K4, B4, F4_2, F4_3⟩ := hQ4
  have N4b := Fr.app N2b N4
  have Z4 : n0 ≤ T4.heap.size := Nat.le_trans Z3 K4.1
  have nm13 : a1 ∉ [a3] := fun q => ne13 (List.mem_singleton.mp q)
  have B4e : Exa Z T4.heap a1 "tessera/ColorDistanceExchange$Entry" := (B2.ext E3).keep K4
  have G2 : Fld Z T4.heap a1 "tessera/ColorDistanceExchange$Entry" "distance" "D" (.double (FP.i2d ka)) := (F2_2.ext E3).keep K4 nm13
  have G3 : Fld Z T4.heap a1 "tessera/ColorDistanceExchange$Entry" "flat" "I" (.int p3) := (F2_3.ext E3).keep K4 nm13
  obtain ⟨cq5, kq5, qa5, qb5, qc5⟩ := isOf hZ rfl B4e
  obtain ⟨_, _, ⟨T5, L5, k5, n5⟩, -, X5, ⟨Lc5, hQ5, l5, y5, z5⟩, st5⟩ := X4.virtualBack hx (y := (⟨"tessera/ColorDistanceExchange$Entry", "shorter", "(DI)Z"⟩ : MethodName)) (z := (⟨"tessera/ColorDistanceExchange$Entry", "shorter", "(DI)Z"⟩ : MethodName)) hown (mvT hZ (hw _ (List.mem_of_getElem? (i := 22) rfl))) (mvT hZ (hw _ (List.mem_of_getElem? (i := 23) rfl))) (notFace_of_selects (args := #[]) (mvT hZ (hw _ (List.mem_of_getElem? (i := 25) rfl)))) (mvT hZ (hw _ (List.mem_of_getElem? (i := 25) rfl))) (mvT hZ (hw _ (List.mem_of_getElem? (i := 24) rfl))) (by decide) (backOf (W := 0) (rm_4 l Z a0 hw [] a1 ka p3 kb p4 T4.heap n0 Z4 G2 G3) hZ (hw _ (List.mem_of_getElem? (i := 26) rfl)) (hw _ (List.mem_of_getElem? (i := 2) rfl)) (by decide) (by decide)) qa5 qc5 (g := (mkF m 59 #[.val (.int p1), .val (.int p2), .val (.int p3), .val (.int p4), .val (.int p5), .val (.int p6), .val (.int ka), .val (.int kb), .val (.double (FP.i2d ka)), .second, .val (.double (FP.i2d kb)), .second, .val (.ref a1), .val (.ref a3), .unset, .unset, .unset] [(.int p4), (.double (FP.i2d kb)), (.ref a1)])) rfl (by rw [hml]; rfl) (Steps.refl _) (argsL := [(.double (FP.i2d kb)), (.int p4)]) (rest := []) (lenOf pd_4 rfl) rfl (by show 2 * 0 + _ ≤ _; exact Nat.le_of_eq rfl) (hb hby at_59) (fun _ _ => ⟨rfl, rfl, (by decide : 2 + 0 ≤ _), (by decide : 8 + 0 ≤ _)⟩)
  dsimp only [Pt.U, Pt.locs, Pt.cells, Pt.slots] at X5 l5 y5 z5 st5 hQ5
  subst l5 y5 z5
  obtain ⟨rfl, N5, e5⟩ := hQ5
  have N5b := Fr.app N4b N5
  obtain ⟨cq6, kq6, qa6, qb6, qc6⟩ := isOf hZ e5 B4
  obtain ⟨_, _, ⟨T6, L6, k6, n6⟩, -, X6, ⟨Lc6, hQ6, l6, y6, z6⟩, st6⟩ := X5.virtualBack hx (y := (⟨"tessera/ColorDistanceExchange$Entry", "shorter", "(DI)Z"⟩ : MethodName)) (z := (⟨"tessera/ColorDistanceExchange$Entry", "shorter", "(DI)Z"⟩ : MethodName)) hown (mvT hZ (hw _ (List.mem_of_getElem? (i := 22) rfl))) (mvT hZ (hw _ (List.mem_of_getElem? (i := 23) rfl))) (notFace_of_selects (args := #[]) (mvT hZ (hw _ (List.mem_of_getElem? (i := 25) rfl)))) (mvT hZ (hw _ (List.mem_of_getElem? (i := 25) rfl))) (mvT hZ (hw _ (List.mem_of_getElem? (i := 24) rfl))) (by decide) (backOf (W := 0) (rm_4 l Z a0 hw [] a3 kb p4 ka p3 T4.heap n0 Z4 F4_2 F4_3) hZ (hw _ (List.mem_of_getElem? (i := 26) rfl)) (hw _ (List.mem_of_getElem? (i := 2) rfl)) (by decide) (by decide)) qa6 qc6 (g := (mkF m 69 #[.val (.int p1), .val (.int p2), .val (.int p3), .val (.int p4), .val (.int p5), .val (.int p6), .val (.int ka), .val (.int kb), .val (.double (FP.i2d ka)), .second, .val (.double (FP.i2d kb)), .second, .val (.ref a1), .val (.ref a3), .val (.int (own_bz (own_lex ka p3 kb p4))), .unset, .unset] [(.int p3), (.double (FP.i2d ka)), (.ref a3)])) rfl (by rw [hml]; rfl) (Steps.refl _) (argsL := [(.double (FP.i2d ka)), (.int p3)]) (rest := []) (lenOf pd_4 rfl) rfl (by show 2 * 0 + _ ≤ _; exact Nat.le_of_eq rfl) (hb hby at_69) (fun _ _ => ⟨rfl, e5, (by decide : 2 + 0 ≤ _), (by decide : 8 + 0 ≤ _)⟩)
  dsimp only [Pt.U, Pt.locs, Pt.cells, Pt.slots] at X6 l6 y6 z6 st6 hQ6
  subst l6 y6 z6
  obtain ⟨rfl, N6, e6⟩ := hQ6
  have N6b := Fr.app N5b N6
  obtain ⟨cq7, kq7, qa7, qb7, qc7⟩ := isOf hZ e6 B4e
  obtain ⟨_, _, ⟨T7, L7, k7, n7⟩, -, X7, ⟨Lc7, hQ7, l7, y7, z7⟩, st7⟩ := X6.virtualBack hx (y := (⟨"tessera/ColorDistanceExchange$Entry", "shorter", "(DI)Z"⟩ : MethodName)) (z := (⟨"tessera/ColorDistanceExchange$Entry", "shorter", "(DI)Z"⟩ : MethodName)) hown (mvT hZ (hw _ (List.mem_of_getElem? (i := 22) rfl))) (mvT hZ (hw _ (List.mem_of_getElem? (i := 23) rfl))) (notFace_of_selects (args := #[]) (mvT hZ (hw _ (List.mem_of_getElem? (i := 25) rfl)))) (mvT hZ (hw _ (List.mem_of_getElem? (i := 25) rfl))) (mvT hZ (hw _ (List.mem_of_getElem? (i := 24) rfl))) (by decide) (backOf (W := 0) (rm_4 l Z a0 hw [] a1 ka p3 ka p3 T4.heap n0 Z4 G2 G3) hZ (hw _ (List.mem_of_getElem? (i := 26) rfl)) (hw _ (List.mem_of_getElem? (i := 2) rfl)) (by decide) (by decide)) qa7 qc7 (g := (mkF m 79 #[.val (.int p1), .val (.int p2), .val (.int p3), .val (.int p4), .val (.int p5), .val (.int p6), .val (.int ka), .val (.int kb), .val (.double (FP.i2d ka)), .second, .val (.double (FP.i2d kb)), .second, .val (.ref a1), .val (.ref a3), .val (.int (own_bz (own_lex ka p3 kb p4))), .val (.int (own_bz (own_lex kb p4 ka p3))), .unset] [(.int p3), (.double (FP.i2d ka)), (.ref a1)])) rfl (by rw [hml]; rfl) (Steps.refl _) (argsL := [(.double (FP.i2d ka)), (.int p3)]) (rest := []) (lenOf pd_4 rfl) rfl (by show 2 * 0 + _ ≤ _; exact Nat.le_of_eq rfl) (hb hby at_79) (fun _ _ => ⟨rfl, e6, (by decide : 2 + 0 ≤ _), (by decide : 8 + 0 ≤ _)⟩)
  dsimp only [Pt.U, Pt.locs, Pt.cells, Pt.slots] at X7 l7 y7 z7 st7 hQ7
  subst l7 y7 z7
  obtain ⟨rfl, N7, e7⟩ := hQ7
  have N7b := Fr.app N6b N7
  obtain ⟨_, _, ⟨T8, L8, k8, n8⟩, -, X8, ⟨Lc8, hQ8, l8, y8, z8⟩, st8⟩ := Jvm.LawKit.callS X7 hx (y := (⟨"tessera/EntryShorterPinLaw", "lex", "(IIII)Z"⟩ : MethodName)) hown (mvT hZ (hw _ (List.mem_of_getElem? (i := 27) rfl))) (mvT hZ (hw _ (List.mem_of_getElem? (i := 28) rfl))) (mvT hZ (hw _ (List.mem_of_getElem? (i := 29) rfl))) (mvT hZ (hw _ (List.mem_of_getElem? (i := 30) rfl))) (by decide) (backOf (W := 1) (rm_5 l Z a0 hw [] ka p3 kb p4 T4.heap n0 Z4) hZ (hw _ (List.mem_of_getElem? (i := 30) rfl)) (hw _ (List.mem_of_getElem? (i := 29) rfl)) (by decide) (by decide)) (g := (mkF m 92 #[.val (.int p1), .val (.int p2), .val (.int p3), .val (.int p4), .val (.int p5), .val (.int p6), .val (.int ka), .val (.int kb), .val (.double (FP.i2d ka)), .second, .val (.double (FP.i2d kb)), .second, .val (.ref a1), .val (.ref a3), .val (.int (own_bz (own_lex ka p3 kb p4))), .val (.int (own_bz (own_lex kb p4 ka p3))), .val (.int (own_bz (own_lex ka p3 ka p3)))] [(.int p4), (.int kb), (.int p3), (.int ka), (.int (own_bz (own_lex ka p3 kb p4)))])) rfl (by rw [hml]; rfl) (argsL := [(.int ka), (.int p3), (.int kb), (.int p4)]) (rest := [(.int (own_bz (own_lex ka p3 kb p4)))]) (lenOf pd_5 rfl) rfl (by show 2 * 0 + _ ≤ _; exact Nat.le_of_eq rfl) (hb hby at_92) (fun _ _ => ⟨rfl, e7, (by decide : 2 + 0 ≤ _), (by decide : 8 + 0 ≤ _)⟩)
  dsimp only [Pt.U, Pt.locs, Pt.cells, Pt.slots] at X8 l8 y8 z8 st8 hQ8
  subst l8 y8 z8
  obtain ⟨rfl, N8, e8⟩ := hQ8
  have N8b := Fr.app N7b N8
  obtain ⟨_, _, ⟨T9, L9, k9, n9⟩, -, X9, ⟨Lc9, hQ9, l9, y9, z9⟩, st9⟩ := Jvm.LawKit.callS X8 hx (y := (⟨"tessera/EntryShorterPinLaw", "lex", "(IIII)Z"⟩ : MethodName)) hown (mvT hZ (hw _ (List.mem_of_getElem? (i := 27) rfl))) (mvT hZ (hw _ (List.mem_of_getElem? (i := 28) rfl))) (mvT hZ (hw _ (List.mem_of_getElem? (i := 29) rfl))) (mvT hZ (hw _ (List.mem_of_getElem? (i := 30) rfl))) (by decide) (backOf (W := 1) (rm_5 l Z a0 hw [] kb p4 ka p3 T4.heap n0 Z4) hZ (hw _ (List.mem_of_getElem? (i := 30) rfl)) (hw _ (List.mem_of_getElem? (i := 29) rfl)) (by decide) (by decide)) (g := (mkF m 106 #[.val (.int p1), .val (.int p2), .val (.int p3), .val (.int p4), .val (.int p5), .val (.int p6), .val (.int ka), .val (.int kb), .val (.double (FP.i2d ka)), .second, .val (.double (FP.i2d kb)), .second, .val (.ref a1), .val (.ref a3), .val (.int (own_bz (own_lex ka p3 kb p4))), .val (.int (own_bz (own_lex kb p4 ka p3))), .val (.int (own_bz (own_lex ka p3 ka p3)))] [(.int p3), (.int ka), (.int p4), (.int kb), (.int (own_bz (own_lex kb p4 ka p3)))])) rfl (by rw [hml]; rfl) (argsL := [(.int kb), (.int p4), (.int ka), (.int p3)]) (rest := [(.int (own_bz (own_lex kb p4 ka p3)))]) (lenOf pd_5 rfl) rfl (by show 2 * 0 + _ ≤ _; exact Nat.le_of_eq rfl) (hb hby at_106) (fun _ _ => ⟨rfl, e8, (by decide : 2 + 0 ≤ _), (by decide : 8 + 0 ≤ _)⟩)
  dsimp only [Pt.U, Pt.locs, Pt.cells, Pt.slots] at X9 l9 y9 z9 st9 hQ9
  subst l9 y9 z9
  obtain ⟨rfl, N9, e9⟩ := hQ9
  have N9b := Fr.app N8b N9
  have self0 : own_bz (own_lex ka p3 ka p3) = (0 : Int32) := own_bz_f (fun q => q.elim Int32.lt_irrefl (fun r => Int32.lt_irrefl r.2))
  have both : own_bz (own_lex ka p3 kb p4) = (0 : Int32) ∨ own_bz (own_lex kb p4 ka p3) = (0 : Int32) := by
    by_cases c1 : own_lex ka p3 kb p4
    · refine Or.inr (own_bz_f fun c2 => ?_)
      simp only [own_lex, Int32.lt_iff_toInt_lt, ← Int32.toInt_inj] at c1 c2
      omega
    · exact Or.inl (own_bz_f c1)
  obtain ⟨fs, hr, hrun, hended, hW, hsame⟩ := X9.leave (v := some (.int (1 : Int32))) (fun h => by rw [Bd.returns] at h; cases h)
  refine ⟨_, _, pre0 _ ?_, hrun, hended, _, _, rfl, ?_, ⟨_, rfl⟩, hW, hsame.mono (by decide) (by decide)⟩
  · show Steps p.tables e below (s₁.setTop (mkF m 0 #[.val (.int p1), .val (.int p2), .val (.int p3), .val (.int p4), .val (.int p5), .val (.int p6), .unset, .unset, .unset, .unset, .unset, .unset, .unset, .unset, .unset, .unset, .unset] [])) _
    refine XS.iloadN X0.here hx rfl (hb hby at_0) rfl ?_
    show Steps p.tables e below (s₁.setTop (mkF m 1 #[.val (.int p1), .val (.int p2), .val (.int p3), .val (.int p4), .val (.int p5), .val (.int p6), .unset, .unset, .unset, .unset, .unset, .unset, .unset, .unset, .unset, .unset, .unset] [(.int p1)])) _
    refine XS.bipush X0.here hx rfl (hb hby at_1) ?_
    show Steps p.tables e below (s₁.setTop (mkF m 3 #[.val (.int p1), .val (.int p2), .val (.int p3), .val (.int p4), .val (.int p5), .val (.int p6), .unset, .unset, .unset, .unset, .unset, .unset, .unset, .unset, .unset, .unset, .unset] [(.int (8 : Int32)), (.int p1)])) _
    refine iremM X0 hx rfl (hb hby at_3) rfl (by decide) ?_
    show Steps p.tables e below (s₁.setTop (mkF m 4 #[.val (.int p1), .val (.int p2), .val (.int p3), .val (.int p4), .val (.int p5), .val (.int p6), .unset, .unset, .unset, .unset, .unset, .unset, .unset, .unset, .unset, .unset, .unset] [(.int (p1 % (8 : Int32)))])) _
    refine XS.istore X0.here hx rfl (hb hby at_4) rfl (l' := #[.val (.int p1), .val (.int p2), .val (.int p3), .val (.int p4), .val (.int p5), .val (.int p6), .val (.int ka), .unset, .unset, .unset, .unset, .unset, .unset, .unset, .unset, .unset, .unset]) (by rw [hka]; rfl) ?_
    show Steps p.tables e below (s₁.setTop (mkF m 6 #[.val (.int p1), .val (.int p2), .val (.int p3), .val (.int p4), .val (.int p5), .val (.int p6), .val (.int ka), .unset, .unset, .unset, .unset, .unset, .unset, .unset, .unset, .unset, .unset] [])) _
    refine XS.iloadN X0.here hx rfl (hb hby at_6) rfl ?_
    show Steps p.tables e below (s₁.setTop (mkF m 7 #[.val (.int p1), .val (.int p2), .val (.int p3), .val (.int p4), .val (.int p5), .val (.int p6), .val (.int ka), .unset, .unset, .unset, .unset, .unset, .unset, .unset, .unset, .unset, .unset] [(.int p2)])) _
    refine XS.bipush X0.here hx rfl (hb hby at_7) ?_
    show Steps p.tables e below (s₁.setTop (mkF m 9 #[.val (.int p1), .val (.int p2), .val (.int p3), .val (.int p4), .val (.int p5), .val (.int p6), .val (.int ka), .unset, .unset, .unset, .unset, .unset, .unset, .unset, .unset, .unset, .unset] [(.int (8 : Int32)), (.int p2)])) _
    refine iremM X0 hx rfl (hb hby at_9) rfl (by decide) ?_
    show Steps p.tables e below (s₁.setTop (mkF m 10 #[.val (.int p1), .val (.int p2), .val (.int p3), .val (.int p4), .val (.int p5), .val (.int p6), .val (.int ka), .unset, .unset, .unset, .unset, .unset, .unset, .unset, .unset, .unset, .unset] [(.int (p2 % (8 : Int32)))])) _
    refine XS.istore X0.here hx rfl (hb hby at_10) rfl (l' := #[.val (.int p1), .val (.int p2), .val (.int p3), .val (.int p4), .val (.int p5), .val (.int p6), .val (.int ka), .val (.int kb), .unset, .unset, .unset, .unset, .unset, .unset, .unset, .unset, .unset]) (by rw [hkb]; rfl) ?_
    show Steps p.tables e below (s₁.setTop (mkF m 12 #[.val (.int p1), .val (.int p2), .val (.int p3), .val (.int p4), .val (.int p5), .val (.int p6), .val (.int ka), .val (.int kb), .unset, .unset, .unset, .unset, .unset, .unset, .unset, .unset, .unset] [])) _
    refine XS.iload X0.here hx rfl (hb hby at_12) rfl ?_
    show Steps p.tables e below (s₁.setTop (mkF m 14 #[.val (.int p1), .val (.int p2), .val (.int p3), .val (.int p4), .val (.int p5), .val (.int p6), .val (.int ka), .val (.int kb), .unset, .unset, .unset, .unset, .unset, .unset, .unset, .unset, .unset] [(.int ka)])) _
    refine XS.i2dS X0.here hx rfl (hb hby at_14) rfl rfl ?_
    show Steps p.tables e below (s₁.setTop (mkF m 15 #[.val (.int p1), .val (.int p2), .val (.int p3), .val (.int p4), .val (.int p5), .val (.int p6), .val (.int ka), .val (.int kb), .unset, .unset, .unset, .unset, .unset, .unset, .unset, .unset, .unset] [(.double (FP.i2d ka))])) _
    refine XS.dstore X0.here hx rfl (hb hby at_15) rfl (l' := #[.val (.int p1), .val (.int p2), .val (.int p3), .val (.int p4), .val (.int p5), .val (.int p6), .val (.int ka), .val (.int kb), .val (.double (FP.i2d ka)), .second, .unset, .unset, .unset, .unset, .unset, .unset, .unset]) rfl ?_
    show Steps p.tables e below (s₁.setTop (mkF m 17 #[.val (.int p1), .val (.int p2), .val (.int p3), .val (.int p4), .val (.int p5), .val (.int p6), .val (.int ka), .val (.int kb), .val (.double (FP.i2d ka)), .second, .unset, .unset, .unset, .unset, .unset, .unset, .unset] [])) _
    refine XS.iload X0.here hx rfl (hb hby at_17) rfl ?_
    show Steps p.tables e below (s₁.setTop (mkF m 19 #[.val (.int p1), .val (.int p2), .val (.int p3), .val (.int p4), .val (.int p5), .val (.int p6), .val (.int ka), .val (.int kb), .val (.double (FP.i2d ka)), .second, .unset, .unset, .unset, .unset, .unset, .unset, .unset] [(.int kb)])) _
    refine XS.i2dS X0.here hx rfl (hb hby at_19) rfl rfl ?_
    show Steps p.tables e below (s₁.setTop (mkF m 20 #[.val (.int p1), .val (.int p2), .val (.int p3), .val (.int p4), .val (.int p5), .val (.int p6), .val (.int ka), .val (.int kb), .val (.double (FP.i2d ka)), .second, .unset, .unset, .unset, .unset, .unset, .unset, .unset] [(.double (FP.i2d kb))])) _
    refine XS.dstore X0.here hx rfl (hb hby at_20) rfl (l' := #[.val (.int p1), .val (.int p2), .val (.int p3), .val (.int p4), .val (.int p5), .val (.int p6), .val (.int ka), .val (.int kb), .val (.double (FP.i2d ka)), .second, .val (.double (FP.i2d kb)), .second, .unset, .unset, .unset, .unset, .unset]) rfl ?_
    show Steps p.tables e below (s₁.setTop (mkF m 22 #[.val (.int p1), .val (.int p2), .val (.int p3), .val (.int p4), .val (.int p5), .val (.int p6), .val (.int ka), .val (.int kb), .val (.double (FP.i2d ka)), .second, .val (.double (FP.i2d kb)), .second, .unset, .unset, .unset, .unset, .unset] [])) _
    refine st1 _ ?_
    show Steps p.tables e below (T1.setTop (mkF m 25 #[.val (.int p1), .val (.int p2), .val (.int p3), .val (.int p4), .val (.int p5), .val (.int p6), .val (.int ka), .val (.int kb), .val (.double (FP.i2d ka)), .second, .val (.double (FP.i2d kb)), .second, .unset, .unset, .unset, .unset, .unset] [(.ref a1)])) _
    refine XS.dup X1.here hx rfl (hb hby at_25) rfl rfl ?_
    show Steps p.tables e below (T1.setTop (mkF m 26 #[.val (.int p1), .val (.int p2), .val (.int p3), .val (.int p4), .val (.int p5), .val (.int p6), .val (.int ka), .val (.int kb), .val (.double (FP.i2d ka)), .second, .val (.double (FP.i2d kb)), .second, .unset, .unset, .unset, .unset, .unset] [(.ref a1), (.ref a1)])) _
    refine XS.iload X1.here hx rfl (hb hby at_26) rfl ?_
    show Steps p.tables e below (T1.setTop (mkF m 28 #[.val (.int p1), .val (.int p2), .val (.int p3), .val (.int p4), .val (.int p5), .val (.int p6), .val (.int ka), .val (.int kb), .val (.double (FP.i2d ka)), .second, .val (.double (FP.i2d kb)), .second, .unset, .unset, .unset, .unset, .unset] [(.int p5), (.ref a1), (.ref a1)])) _
    refine XS.iload X1.here hx rfl (hb hby at_28) rfl ?_
    show Steps p.tables e below (T1.setTop (mkF m 30 #[.val (.int p1), .val (.int p2), .val (.int p3), .val (.int p4), .val (.int p5), .val (.int p6), .val (.int ka), .val (.int kb), .val (.double (FP.i2d ka)), .second, .val (.double (FP.i2d kb)), .second, .unset, .unset, .unset, .unset, .unset] [(.int p6), (.int p5), (.ref a1), (.ref a1)])) _
    refine XS.dload X1.here hx rfl (hb hby at_30) rfl ?_
    show Steps p.tables e below (T1.setTop (mkF m 32 #[.val (.int p1), .val (.int p2), .val (.int p3), .val (.int p4), .val (.int p5), .val (.int p6), .val (.int ka), .val (.int kb), .val (.double (FP.i2d ka)), .second, .val (.double (FP.i2d kb)), .second, .unset, .unset, .unset, .unset, .unset] [(.double (FP.i2d ka)), (.int p6), (.int p5), (.ref a1), (.ref a1)])) _
    refine XS.iloadN X1.here hx rfl (hb hby at_32) rfl ?_
    show Steps p.tables e below (T1.setTop (mkF m 33 #[.val (.int p1), .val (.int p2), .val (.int p3), .val (.int p4), .val (.int p5), .val (.int p6), .val (.int ka), .val (.int kb), .val (.double (FP.i2d ka)), .second, .val (.double (FP.i2d kb)), .second, .unset, .unset, .unset, .unset, .unset] [(.int p3), (.double (FP.i2d ka)), (.int p6), (.int p5), (.ref a1), (.ref a1)])) _
    refine st2.trans ?_
    show Steps p.tables e below (T2.setTop (mkF m 36 #[.val (.int p1), .val (.int p2), .val (.int p3), .val (.int p4), .val (.int p5), .val (.int p6), .val (.int ka), .val (.int kb), .val (.double (FP.i2d ka)), .second, .val (.double (FP.i2d kb)), .second, .unset, .unset, .unset, .unset, .unset] [(.ref a1)])) _
    refine XS.astore X2.here hx rfl (hb hby at_36) rfl rfl (l' := #[.val (.int p1), .val (.int p2), .val (.int p3), .val (.int p4), .val (.int p5), .val (.int p6), .val (.int ka), .val (.int kb), .val (.double (FP.i2d ka)), .second, .val (.double (FP.i2d kb)), .second, .val (.ref a1), .unset, .unset, .unset, .unset]) rfl ?_
    show Steps p.tables e below (T2.setTop (mkF m 38 #[.val (.int p1), .val (.int p2), .val (.int p3), .val (.int p4), .val (.int p5), .val (.int p6), .val (.int ka), .val (.int kb), .val (.double (FP.i2d ka)), .second, .val (.double (FP.i2d kb)), .second, .val (.ref a1), .unset, .unset, .unset, .unset] [])) _
    refine st3 _ ?_
    show Steps p.tables e below (T3.setTop (mkF m 41 #[.val (.int p1), .val (.int p2), .val (.int p3), .val (.int p4), .val (.int p5), .val (.int p6), .val (.int ka), .val (.int kb), .val (.double (FP.i2d ka)), .second, .val (.double (FP.i2d kb)), .second, .val (.ref a1), .unset, .unset, .unset, .unset] [(.ref a3)])) _
    refine XS.dup X3.here hx rfl (hb hby at_41) rfl rfl ?_
    show Steps p.tables e below (T3.setTop (mkF m 42 #[.val (.int p1), .val (.int p2), .val (.int p3), .val (.int p4), .val (.int p5), .val (.int p6), .val (.int ka), .val (.int kb), .val (.double (FP.i2d ka)), .second, .val (.double (FP.i2d kb)), .second, .val (.ref a1), .unset, .unset, .unset, .unset] [(.ref a3), (.ref a3)])) _
    refine XS.iload X3.here hx rfl (hb hby at_42) rfl ?_
    show Steps p.tables e below (T3.setTop (mkF m 44 #[.val (.int p1), .val (.int p2), .val (.int p3), .val (.int p4), .val (.int p5), .val (.int p6), .val (.int ka), .val (.int kb), .val (.double (FP.i2d ka)), .second, .val (.double (FP.i2d kb)), .second, .val (.ref a1), .unset, .unset, .unset, .unset] [(.int p5), (.ref a3), (.ref a3)])) _
    refine XS.iload X3.here hx rfl (hb hby at_44) rfl ?_
    show Steps p.tables e below (T3.setTop (mkF m 46 #[.val (.int p1), .val (.int p2), .val (.int p3), .val (.int p4), .val (.int p5), .val (.int p6), .val (.int ka), .val (.int kb), .val (.double (FP.i2d ka)), .second, .val (.double (FP.i2d kb)), .second, .val (.ref a1), .unset, .unset, .unset, .unset] [(.int p6), (.int p5), (.ref a3), (.ref a3)])) _
    refine XS.dload X3.here hx rfl (hb hby at_46) rfl ?_
    show Steps p.tables e below (T3.setTop (mkF m 48 #[.val (.int p1), .val (.int p2), .val (.int p3), .val (.int p4), .val (.int p5), .val (.int p6), .val (.int ka), .val (.int kb), .val (.double (FP.i2d ka)), .second, .val (.double (FP.i2d kb)), .second, .val (.ref a1), .unset, .unset, .unset, .unset] [(.double (FP.i2d kb)), (.int p6), (.int p5), (.ref a3), (.ref a3)])) _
    refine XS.iloadN X3.here hx rfl (hb hby at_48) rfl ?_
    show Steps p.tables e below (T3.setTop (mkF m 49 #[.val (.int p1), .val (.int p2), .val (.int p3), .val (.int p4), .val (.int p5), .val (.int p6), .val (.int ka), .val (.int kb), .val (.double (FP.i2d ka)), .second, .val (.double (FP.i2d kb)), .second, .val (.ref a1), .unset, .unset, .unset, .unset] [(.int p4), (.double (FP.i2d kb)), (.int p6), (.int p5), (.ref a3), (.ref a3)])) _
    refine st4.trans ?_
    show Steps p.tables e below (T4.setTop (mkF m 52 #[.val (.int p1), .val (.int p2), .val (.int p3), .val (.int p4), .val (.int p5), .val (.int p6), .val (.int ka), .val (.int kb), .val (.double (FP.i2d ka)), .second, .val (.double (FP.i2d kb)), .second, .val (.ref a1), .unset, .unset, .unset, .unset] [(.ref a3)])) _
    refine XS.astore X4.here hx rfl (hb hby at_52) rfl rfl (l' := #[.val (.int p1), .val (.int p2), .val (.int p3), .val (.int p4), .val (.int p5), .val (.int p6), .val (.int ka), .val (.int kb), .val (.double (FP.i2d ka)), .second, .val (.double (FP.i2d kb)), .second, .val (.ref a1), .val (.ref a3), .unset, .unset, .unset]) rfl ?_
    show Steps p.tables e below (T4.setTop (mkF m 54 #[.val (.int p1), .val (.int p2), .val (.int p3), .val (.int p4), .val (.int p5), .val (.int p6), .val (.int ka), .val (.int kb), .val (.double (FP.i2d ka)), .second, .val (.double (FP.i2d kb)), .second, .val (.ref a1), .val (.ref a3), .unset, .unset, .unset] [])) _
    refine XS.aload X4.here hx rfl (hb hby at_54) rfl rfl ?_
    show Steps p.tables e below (T4.setTop (mkF m 56 #[.val (.int p1), .val (.int p2), .val (.int p3), .val (.int p4), .val (.int p5), .val (.int p6), .val (.int ka), .val (.int kb), .val (.double (FP.i2d ka)), .second, .val (.double (FP.i2d kb)), .second, .val (.ref a1), .val (.ref a3), .unset, .unset, .unset] [(.ref a1)])) _
    refine XS.dload X4.here hx rfl (hb hby at_56) rfl ?_
    show Steps p.tables e below (T4.setTop (mkF m 58 #[.val (.int p1), .val (.int p2), .val (.int p3), .val (.int p4), .val (.int p5), .val (.int p6), .val (.int ka), .val (.int kb), .val (.double (FP.i2d ka)), .second, .val (.double (FP.i2d kb)), .second, .val (.ref a1), .val (.ref a3), .unset, .unset, .unset] [(.double (FP.i2d kb)), (.ref a1)])) _
    refine XS.iloadN X4.here hx rfl (hb hby at_58) rfl ?_
    show Steps p.tables e below (T4.setTop (mkF m 59 #[.val (.int p1), .val (.int p2), .val (.int p3), .val (.int p4), .val (.int p5), .val (.int p6), .val (.int ka), .val (.int kb), .val (.double (FP.i2d ka)), .second, .val (.double (FP.i2d kb)), .second, .val (.ref a1), .val (.ref a3), .unset, .unset, .unset] [(.int p4), (.double (FP.i2d kb)), (.ref a1)])) _
    refine st5.trans ?_
    show Steps p.tables e below (T5.setTop (mkF m 62 #[.val (.int p1), .val (.int p2), .val (.int p3), .val (.int p4), .val (.int p5), .val (.int p6), .val (.int ka), .val (.int kb), .val (.double (FP.i2d ka)), .second, .val (.double (FP.i2d kb)), .second, .val (.ref a1), .val (.ref a3), .unset, .unset, .unset] [(.int (own_bz (own_lex ka p3 kb p4)))])) _
    refine XS.istore X5.here hx rfl (hb hby at_62) rfl (l' := #[.val (.int p1), .val (.int p2), .val (.int p3), .val (.int p4), .val (.int p5), .val (.int p6), .val (.int ka), .val (.int kb), .val (.double (FP.i2d ka)), .second, .val (.double (FP.i2d kb)), .second, .val (.ref a1), .val (.ref a3), .val (.int (own_bz (own_lex ka p3 kb p4))), .unset, .unset]) rfl ?_
    show Steps p.tables e below (T5.setTop (mkF m 64 #[.val (.int p1), .val (.int p2), .val (.int p3), .val (.int p4), .val (.int p5), .val (.int p6), .val (.int ka), .val (.int kb), .val (.double (FP.i2d ka)), .second, .val (.double (FP.i2d kb)), .second, .val (.ref a1), .val (.ref a3), .val (.int (own_bz (own_lex ka p3 kb p4))), .unset, .unset] [])) _
    refine XS.aload X5.here hx rfl (hb hby at_64) rfl rfl ?_
    show Steps p.tables e below (T5.setTop (mkF m 66 #[.val (.int p1), .val (.int p2), .val (.int p3), .val (.int p4), .val (.int p5), .val (.int p6), .val (.int ka), .val (.int kb), .val (.double (FP.i2d ka)), .second, .val (.double (FP.i2d kb)), .second, .val (.ref a1), .val (.ref a3), .val (.int (own_bz (own_lex ka p3 kb p4))), .unset, .unset] [(.ref a3)])) _
    refine XS.dload X5.here hx rfl (hb hby at_66) rfl ?_
    show Steps p.tables e below (T5.setTop (mkF m 68 #[.val (.int p1), .val (.int p2), .val (.int p3), .val (.int p4), .val (.int p5), .val (.int p6), .val (.int ka), .val (.int kb), .val (.double (FP.i2d ka)), .second, .val (.double (FP.i2d kb)), .second, .val (.ref a1), .val (.ref a3), .val (.int (own_bz (own_lex ka p3 kb p4))), .unset, .unset] [(.double (FP.i2d ka)), (.ref a3)])) _
    refine XS.iloadN X5.here hx rfl (hb hby at_68) rfl ?_
    show Steps p.tables e below (T5.setTop (mkF m 69 #[.val (.int p1), .val (.int p2), .val (.int p3), .val (.int p4), .val (.int p5), .val (.int p6), .val (.int ka), .val (.int kb), .val (.double (FP.i2d ka)), .second, .val (.double (FP.i2d kb)), .second, .val (.ref a1), .val (.ref a3), .val (.int (own_bz (own_lex ka p3 kb p4))), .unset, .unset] [(.int p3), (.double (FP.i2d ka)), (.ref a3)])) _
    refine st6.trans ?_
    show Steps p.tables e below (T6.setTop (mkF m 72 #[.val (.int p1), .val (.int p2), .val (.int p3), .val (.int p4), .val (.int p5), .val (.int p6), .val (.int ka), .val (.int kb), .val (.double (FP.i2d ka)), .second, .val (.double (FP.i2d kb)), .second, .val (.ref a1), .val (.ref a3), .val (.int (own_bz (own_lex ka p3 kb p4))), .unset, .unset] [(.int (own_bz (own_lex kb p4 ka p3)))])) _
    refine XS.istore X6.here hx rfl (hb hby at_72) rfl (l' := #[.val (.int p1), .val (.int p2), .val (.int p3), .val (.int p4), .val (.int p5), .val (.int p6), .val (.int ka), .val (.int kb), .val (.double (FP.i2d ka)), .second, .val (.double (FP.i2d kb)), .second, .val (.ref a1), .val (.ref a3), .val (.int (own_bz (own_lex ka p3 kb p4))), .val (.int (own_bz (own_lex kb p4 ka p3))), .unset]) rfl ?_
    show Steps p.tables e below (T6.setTop (mkF m 74 #[.val (.int p1), .val (.int p2), .val (.int p3), .val (.int p4), .val (.int p5), .val (.int p6), .val (.int ka), .val (.int kb), .val (.double (FP.i2d ka)), .second, .val (.double (FP.i2d kb)), .second, .val (.ref a1), .val (.ref a3), .val (.int (own_bz (own_lex ka p3 kb p4))), .val (.int (own_bz (own_lex kb p4 ka p3))), .unset] [])) _
    refine XS.aload X6.here hx rfl (hb hby at_74) rfl rfl ?_
    show Steps p.tables e below (T6.setTop (mkF m 76 #[.val (.int p1), .val (.int p2), .val (.int p3), .val (.int p4), .val (.int p5), .val (.int p6), .val (.int ka), .val (.int kb), .val (.double (FP.i2d ka)), .second, .val (.double (FP.i2d kb)), .second, .val (.ref a1), .val (.ref a3), .val (.int (own_bz (own_lex ka p3 kb p4))), .val (.int (own_bz (own_lex kb p4 ka p3))), .unset] [(.ref a1)])) _
    refine XS.dload X6.here hx rfl (hb hby at_76) rfl ?_
    show Steps p.tables e below (T6.setTop (mkF m 78 #[.val (.int p1), .val (.int p2), .val (.int p3), .val (.int p4), .val (.int p5), .val (.int p6), .val (.int ka), .val (.int kb), .val (.double (FP.i2d ka)), .second, .val (.double (FP.i2d kb)), .second, .val (.ref a1), .val (.ref a3), .val (.int (own_bz (own_lex ka p3 kb p4))), .val (.int (own_bz (own_lex kb p4 ka p3))), .unset] [(.double (FP.i2d ka)), (.ref a1)])) _
    refine XS.iloadN X6.here hx rfl (hb hby at_78) rfl ?_
    show Steps p.tables e below (T6.setTop (mkF m 79 #[.val (.int p1), .val (.int p2), .val (.int p3), .val (.int p4), .val (.int p5), .val (.int p6), .val (.int ka), .val (.int kb), .val (.double (FP.i2d ka)), .second, .val (.double (FP.i2d kb)), .second, .val (.ref a1), .val (.ref a3), .val (.int (own_bz (own_lex ka p3 kb p4))), .val (.int (own_bz (own_lex kb p4 ka p3))), .unset] [(.int p3), (.double (FP.i2d ka)), (.ref a1)])) _
    refine st7.trans ?_
    show Steps p.tables e below (T7.setTop (mkF m 82 #[.val (.int p1), .val (.int p2), .val (.int p3), .val (.int p4), .val (.int p5), .val (.int p6), .val (.int ka), .val (.int kb), .val (.double (FP.i2d ka)), .second, .val (.double (FP.i2d kb)), .second, .val (.ref a1), .val (.ref a3), .val (.int (own_bz (own_lex ka p3 kb p4))), .val (.int (own_bz (own_lex kb p4 ka p3))), .unset] [(.int (own_bz (own_lex ka p3 ka p3)))])) _
    refine XS.istore X7.here hx rfl (hb hby at_82) rfl (l' := #[.val (.int p1), .val (.int p2), .val (.int p3), .val (.int p4), .val (.int p5), .val (.int p6), .val (.int ka), .val (.int kb), .val (.double (FP.i2d ka)), .second, .val (.double (FP.i2d kb)), .second, .val (.ref a1), .val (.ref a3), .val (.int (own_bz (own_lex ka p3 kb p4))), .val (.int (own_bz (own_lex kb p4 ka p3))), .val (.int (own_bz (own_lex ka p3 ka p3)))]) rfl ?_
    show Steps p.tables e below (T7.setTop (mkF m 84 #[.val (.int p1), .val (.int p2), .val (.int p3), .val (.int p4), .val (.int p5), .val (.int p6), .val (.int ka), .val (.int kb), .val (.double (FP.i2d ka)), .second, .val (.double (FP.i2d kb)), .second, .val (.ref a1), .val (.ref a3), .val (.int (own_bz (own_lex ka p3 kb p4))), .val (.int (own_bz (own_lex kb p4 ka p3))), .val (.int (own_bz (own_lex ka p3 ka p3)))] [])) _
    refine XS.iload X7.here hx rfl (hb hby at_84) rfl ?_
    show Steps p.tables e below (T7.setTop (mkF m 86 #[.val (.int p1), .val (.int p2), .val (.int p3), .val (.int p4), .val (.int p5), .val (.int p6), .val (.int ka), .val (.int kb), .val (.double (FP.i2d ka)), .second, .val (.double (FP.i2d kb)), .second, .val (.ref a1), .val (.ref a3), .val (.int (own_bz (own_lex ka p3 kb p4))), .val (.int (own_bz (own_lex kb p4 ka p3))), .val (.int (own_bz (own_lex ka p3 ka p3)))] [(.int (own_bz (own_lex ka p3 kb p4)))])) _
    refine XS.iload X7.here hx rfl (hb hby at_86) rfl ?_
    show Steps p.tables e below (T7.setTop (mkF m 88 #[.val (.int p1), .val (.int p2), .val (.int p3), .val (.int p4), .val (.int p5), .val (.int p6), .val (.int ka), .val (.int kb), .val (.double (FP.i2d ka)), .second, .val (.double (FP.i2d kb)), .second, .val (.ref a1), .val (.ref a3), .val (.int (own_bz (own_lex ka p3 kb p4))), .val (.int (own_bz (own_lex kb p4 ka p3))), .val (.int (own_bz (own_lex ka p3 ka p3)))] [(.int ka), (.int (own_bz (own_lex ka p3 kb p4)))])) _
    refine XS.iloadN X7.here hx rfl (hb hby at_88) rfl ?_
    show Steps p.tables e below (T7.setTop (mkF m 89 #[.val (.int p1), .val (.int p2), .val (.int p3), .val (.int p4), .val (.int p5), .val (.int p6), .val (.int ka), .val (.int kb), .val (.double (FP.i2d ka)), .second, .val (.double (FP.i2d kb)), .second, .val (.ref a1), .val (.ref a3), .val (.int (own_bz (own_lex ka p3 kb p4))), .val (.int (own_bz (own_lex kb p4 ka p3))), .val (.int (own_bz (own_lex ka p3 ka p3)))] [(.int p3), (.int ka), (.int (own_bz (own_lex ka p3 kb p4)))])) _
    refine XS.iload X7.here hx rfl (hb hby at_89) rfl ?_
    show Steps p.tables e below (T7.setTop (mkF m 91 #[.val (.int p1), .val (.int p2), .val (.int p3), .val (.int p4), .val (.int p5), .val (.int p6), .val (.int ka), .val (.int kb), .val (.double (FP.i2d ka)), .second, .val (.double (FP.i2d kb)), .second, .val (.ref a1), .val (.ref a3), .val (.int (own_bz (own_lex ka p3 kb p4))), .val (.int (own_bz (own_lex kb p4 ka p3))), .val (.int (own_bz (own_lex ka p3 ka p3)))] [(.int kb), (.int p3), (.int ka), (.int (own_bz (own_lex ka p3 kb p4)))])) _
    refine XS.iloadN X7.here hx rfl (hb hby at_91) rfl ?_
    show Steps p.tables e below (T7.setTop (mkF m 92 #[.val (.int p1), .val (.int p2), .val (.int p3), .val (.int p4), .val (.int p5), .val (.int p6), .val (.int ka), .val (.int kb), .val (.double (FP.i2d ka)), .second, .val (.double (FP.i2d kb)), .second, .val (.ref a1), .val (.ref a3), .val (.int (own_bz (own_lex ka p3 kb p4))), .val (.int (own_bz (own_lex kb p4 ka p3))), .val (.int (own_bz (own_lex ka p3 ka p3)))] [(.int p4), (.int kb), (.int p3), (.int ka), (.int (own_bz (own_lex ka p3 kb p4)))])) _
    refine st8 _ ?_
    show Steps p.tables e below (T8.setTop (mkF m 95 #[.val (.int p1), .val (.int p2), .val (.int p3), .val (.int p4), .val (.int p5), .val (.int p6), .val (.int ka), .val (.int kb), .val (.double (FP.i2d ka)), .second, .val (.double (FP.i2d kb)), .second, .val (.ref a1), .val (.ref a3), .val (.int (own_bz (own_lex ka p3 kb p4))), .val (.int (own_bz (own_lex kb p4 ka p3))), .val (.int (own_bz (own_lex ka p3 ka p3)))] [(.int (own_bz (own_lex ka p3 kb p4))), (.int (own_bz (own_lex ka p3 kb p4)))])) _
    refine XS.icmpNo X8.here hx rfl (hb hby at_95) rfl (teq (rfl : (own_bz (own_lex ka p3 kb p4)) = (own_bz (own_lex ka p3 kb p4)))).2 ?_
    show Steps p.tables e below (T8.setTop (mkF m 98 #[.val (.int p1), .val (.int p2), .val (.int p3), .val (.int p4), .val (.int p5), .val (.int p6), .val (.int ka), .val (.int kb), .val (.double (FP.i2d ka)), .second, .val (.double (FP.i2d kb)), .second, .val (.ref a1), .val (.ref a3), .val (.int (own_bz (own_lex ka p3 kb p4))), .val (.int (own_bz (own_lex kb p4 ka p3))), .val (.int (own_bz (own_lex ka p3 ka p3)))] [])) _
    refine XS.iload X8.here hx rfl (hb hby at_98) rfl ?_
    show Steps p.tables e below (T8.setTop (mkF m 100 #[.val (.int p1), .val (.int p2), .val (.int p3), .val (.int p4), .val (.int p5), .val (.int p6), .val (.int ka), .val (.int kb), .val (.double (FP.i2d ka)), .second, .val (.double (FP.i2d kb)), .second, .val (.ref a1), .val (.ref a3), .val (.int (own_bz (own_lex ka p3 kb p4))), .val (.int (own_bz (own_lex kb p4 ka p3))), .val (.int (own_bz (own_lex ka p3 ka p3)))] [(.int (own_bz (own_lex kb p4 ka p3)))])) _
    refine XS.iload X8.here hx rfl (hb hby at_100) rfl ?_
    show Steps p.tables e below (T8.setTop (mkF m 102 #[.val (.int p1), .val (.int p2), .val (.int p3), .val (.int p4), .val (.int p5), .val (.int p6), .val (.int ka), .val (.int kb), .val (.double (FP.i2d ka)), .second, .val (.double (FP.i2d kb)), .second, .val (.ref a1), .val (.ref a3), .val (.int (own_bz (own_lex ka p3 kb p4))), .val (.int (own_bz (own_lex kb p4 ka p3))), .val (.int (own_bz (own_lex ka p3 ka p3)))] [(.int kb), (.int (own_bz (own_lex kb p4 ka p3)))])) _
    refine XS.iloadN X8.here hx rfl (hb hby at_102) rfl ?_
    show Steps p.tables e below (T8.setTop (mkF m 103 #[.val (.int p1), .val (.int p2), .val (.int p3), .val (.int p4), .val (.int p5), .val (.int p6), .val (.int ka), .val (.int kb), .val (.double (FP.i2d ka)), .second, .val (.double (FP.i2d kb)), .second, .val (.ref a1), .val (.ref a3), .val (.int (own_bz (own_lex ka p3 kb p4))), .val (.int (own_bz (own_lex kb p4 ka p3))), .val (.int (own_bz (own_lex ka p3 ka p3)))] [(.int p4), (.int kb), (.int (own_bz (own_lex kb p4 ka p3)))])) _
    refine XS.iload X8.here hx rfl (hb hby at_103) rfl ?_
    show Steps p.tables e below (T8.setTop (mkF m 105 #[.val (.int p1), .val (.int p2), .val (.int p3), .val (.int p4), .val (.int p5), .val (.int p6), .val (.int ka), .val (.int kb), .val (.double (FP.i2d ka)), .second, .val (.double (FP.i2d kb)), .second, .val (.ref a1), .val (.ref a3), .val (.int (own_bz (own_lex ka p3 kb p4))), .val (.int (own_bz (own_lex kb p4 ka p3))), .val (.int (own_bz (own_lex ka p3 ka p3)))] [(.int ka), (.int p4), (.int kb), (.int (own_bz (own_lex kb p4 ka p3)))])) _
    refine XS.iloadN X8.here hx rfl (hb hby at_105) rfl ?_
    show Steps p.tables e below (T8.setTop (mkF m 106 #[.val (.int p1), .val (.int p2), .val (.int p3), .val (.int p4), .val (.int p5), .val (.int p6), .val (.int ka), .val (.int kb), .val (.double (FP.i2d ka)), .second, .val (.double (FP.i2d kb)), .second, .val (.ref a1), .val (.ref a3), .val (.int (own_bz (own_lex ka p3 kb p4))), .val (.int (own_bz (own_lex kb p4 ka p3))), .val (.int (own_bz (own_lex ka p3 ka p3)))] [(.int p3), (.int ka), (.int p4), (.int kb), (.int (own_bz (own_lex kb p4 ka p3)))])) _
    refine st9 _ ?_
    show Steps p.tables e below (T9.setTop (mkF m 109 #[.val (.int p1), .val (.int p2), .val (.int p3), .val (.int p4), .val (.int p5), .val (.int p6), .val (.int ka), .val (.int kb), .val (.double (FP.i2d ka)), .second, .val (.double (FP.i2d kb)), .second, .val (.ref a1), .val (.ref a3), .val (.int (own_bz (own_lex ka p3 kb p4))), .val (.int (own_bz (own_lex kb p4 ka p3))), .val (.int (own_bz (own_lex ka p3 ka p3)))] [(.int (own_bz (own_lex kb p4 ka p3))), (.int (own_bz (own_lex kb p4 ka p3)))])) _
    refine XS.icmpNo X9.here hx rfl (hb hby at_109) rfl (teq (rfl : (own_bz (own_lex kb p4 ka p3)) = (own_bz (own_lex kb p4 ka p3)))).2 ?_
    show Steps p.tables e below (T9.setTop (mkF m 112 #[.val (.int p1), .val (.int p2), .val (.int p3), .val (.int p4), .val (.int p5), .val (.int p6), .val (.int ka), .val (.int kb), .val (.double (FP.i2d ka)), .second, .val (.double (FP.i2d kb)), .second, .val (.ref a1), .val (.ref a3), .val (.int (own_bz (own_lex ka p3 kb p4))), .val (.int (own_bz (own_lex kb p4 ka p3))), .val (.int (own_bz (own_lex ka p3 ka p3)))] [])) _
    refine XS.iload X9.here hx rfl (hb hby at_112) rfl ?_
    show Steps p.tables e below (T9.setTop (mkF m 114 #[.val (.int p1), .val (.int p2), .val (.int p3), .val (.int p4), .val (.int p5), .val (.int p6), .val (.int ka), .val (.int kb), .val (.double (FP.i2d ka)), .second, .val (.double (FP.i2d kb)), .second, .val (.ref a1), .val (.ref a3), .val (.int (own_bz (own_lex ka p3 kb p4))), .val (.int (own_bz (own_lex kb p4 ka p3))), .val (.int (own_bz (own_lex ka p3 ka p3)))] [(.int (own_bz (own_lex ka p3 ka p3)))])) _
    refine XS.ifNo X9.here hx rfl (hb hby at_114) rfl ((if0 _ _).trans (teq self0).2) ?_
    show Steps p.tables e below (T9.setTop (mkF m 117 #[.val (.int p1), .val (.int p2), .val (.int p3), .val (.int p4), .val (.int p5), .val (.int p6), .val (.int ka), .val (.int kb), .val (.double (FP.i2d ka)), .second, .val (.double (FP.i2d kb)), .second, .val (.ref a1), .val (.ref a3), .val (.int (own_bz (own_lex ka p3 kb p4))), .val (.int (own_bz (own_lex kb p4 ka p3))), .val (.int (own_bz (own_lex ka p3 ka p3)))] [])) _
    refine XS.iload X9.here hx rfl (hb hby at_117) rfl ?_
    show Steps p.tables e below (T9.setTop (mkF m 119 #[.val (.int p1), .val (.int p2), .val (.int p3), .val (.int p4), .val (.int p5), .val (.int p6), .val (.int ka), .val (.int kb), .val (.double (FP.i2d ka)), .second, .val (.double (FP.i2d kb)), .second, .val (.ref a1), .val (.ref a3), .val (.int (own_bz (own_lex ka p3 kb p4))), .val (.int (own_bz (own_lex kb p4 ka p3))), .val (.int (own_bz (own_lex ka p3 ka p3)))] [(.int (own_bz (own_lex ka p3 kb p4)))])) _
    by_cases c4 : (own_bz (own_lex ka p3 kb p4)) = (0 : Int32)
    · refine XS.ifYes X9.here hx rfl (pc0 := 119) (pc' := 127) rfl (hb hby at_119) rfl ((if0 _ _).trans (teq c4).1) (by decide) (by decide) ?_
      show Steps p.tables e below (T9.setTop (mkF m 127 #[.val (.int p1), .val (.int p2), .val (.int p3), .val (.int p4), .val (.int p5), .val (.int p6), .val (.int ka), .val (.int kb), .val (.double (FP.i2d ka)), .second, .val (.double (FP.i2d kb)), .second, .val (.ref a1), .val (.ref a3), .val (.int (own_bz (own_lex ka p3 kb p4))), .val (.int (own_bz (own_lex kb p4 ka p3))), .val (.int (own_bz (own_lex ka p3 ka p3)))] [])) _
      refine XS.iconst X9.here hx rfl (hb hby at_127) ?_
      show Steps p.tables e below (T9.setTop (mkF m 128 #[.val (.int p1), .val (.int p2), .val (.int p3), .val (.int p4), .val (.int p5), .val (.int p6), .val (.int ka), .val (.int kb), .val (.double (FP.i2d ka)), .second, .val (.double (FP.i2d kb)), .second, .val (.ref a1), .val (.ref a3), .val (.int (own_bz (own_lex ka p3 kb p4))), .val (.int (own_bz (own_lex kb p4 ka p3))), .val (.int (own_bz (own_lex ka p3 ka p3)))] [(.int (1 : Int32))])) _
      refine XS.goto X9.here hx rfl (pc0 := 128) (pc' := 132) rfl (hb hby at_128) (by decide) (by decide) ?_
      show Steps p.tables e below (T9.setTop (mkF m 132 #[.val (.int p1), .val (.int p2), .val (.int p3), .val (.int p4), .val (.int p5), .val (.int p6), .val (.int ka), .val (.int kb), .val (.double (FP.i2d ka)), .second, .val (.double (FP.i2d kb)), .second, .val (.ref a1), .val (.ref a3), .val (.int (own_bz (own_lex ka p3 kb p4))), .val (.int (own_bz (own_lex kb p4 ka p3))), .val (.int (own_bz (own_lex ka p3 ka p3)))] [(.int (1 : Int32))])) _
      exact retN X9 hx (t := .boolean) Bd.returns (by simp) (hb hby at_132) hr
    · refine XS.ifNo X9.here hx rfl (hb hby at_119) rfl ((if0 _ _).trans (feq c4).1) ?_
      show Steps p.tables e below (T9.setTop (mkF m 122 #[.val (.int p1), .val (.int p2), .val (.int p3), .val (.int p4), .val (.int p5), .val (.int p6), .val (.int ka), .val (.int kb), .val (.double (FP.i2d ka)), .second, .val (.double (FP.i2d kb)), .second, .val (.ref a1), .val (.ref a3), .val (.int (own_bz (own_lex ka p3 kb p4))), .val (.int (own_bz (own_lex kb p4 ka p3))), .val (.int (own_bz (own_lex ka p3 ka p3)))] [])) _
      refine XS.iload X9.here hx rfl (hb hby at_122) rfl ?_
      show Steps p.tables e below (T9.setTop (mkF m 124 #[.val (.int p1), .val (.int p2), .val (.int p3), .val (.int p4), .val (.int p5), .val (.int p6), .val (.int ka), .val (.int kb), .val (.double (FP.i2d ka)), .second, .val (.double (FP.i2d kb)), .second, .val (.ref a1), .val (.ref a3), .val (.int (own_bz (own_lex ka p3 kb p4))), .val (.int (own_bz (own_lex kb p4 ka p3))), .val (.int (own_bz (own_lex ka p3 ka p3)))] [(.int (own_bz (own_lex kb p4 ka p3)))])) _
      refine XS.ifNo X9.here hx rfl (hb hby at_124) rfl ((if0 _ _).trans (teq (both.resolve_left c4)).2) ?_
      show Steps p.tables e below (T9.setTop (mkF m 127 #[.val (.int p1), .val (.int p2), .val (.int p3), .val (.int p4), .val (.int p5), .val (.int p6), .val (.int ka), .val (.int kb), .val (.double (FP.i2d ka)), .second, .val (.double (FP.i2d kb)), .second, .val (.ref a1), .val (.ref a3), .val (.int (own_bz (own_lex ka p3 kb p4))), .val (.int (own_bz (own_lex kb p4 ka p3))), .val (.int (own_bz (own_lex ka p3 ka p3)))] [])) _
      refine XS.iconst X9.here hx rfl (hb hby at_127) ?_
      show Steps p.tables e below (T9.setTop (mkF m 128 #[.val (.int p1), .val (.int p2), .val (.int p3), .val (.int p4), .val (.int p5), .val (.int p6), .val (.int ka), .val (.int kb), .val (.double (FP.i2d ka)), .second, .val (.double (FP.i2d kb)), .second, .val (.ref a1), .val (.ref a3), .val (.int (own_bz (own_lex ka p3 kb p4))), .val (.int (own_bz (own_lex kb p4 ka p3))), .val (.int (own_bz (own_lex ka p3 ka p3)))] [(.int (1 : Int32))])) _
      refine XS.goto X9.here hx rfl (pc0 := 128) (pc' := 132) rfl (hb hby at_128) (by decide) (by decide) ?_
      show Steps p.tables e below (T9.setTop (mkF m 132 #[.val (.int p1), .val (.int p2), .val (.int p3), .val (.int p4), .val (.int p5), .val (.int p6), .val (.int ka), .val (.int kb), .val (.double (FP.i2d ka)), .second, .val (.double (FP.i2d kb)), .second, .val (.ref a1), .val (.ref a3), .val (.int (own_bz (own_lex ka p3 kb p4))), .val (.int (own_bz (own_lex kb p4 ka p3))), .val (.int (own_bz (own_lex ka p3 ka p3)))] [(.int (1 : Int32))])) _
      exact retN X9 hx (t := .boolean) Bd.returns (by simp) (hb hby at_132) hr
  · exact ⟨rfl, N9b⟩
set_option maxRecDepth 65536 in
set_option maxHeartbeats 40000000 in
theorem comes_1 {Post : Tables → Env → Array Value → State → Outcome → State → Prop} (hpost : ∀ tb e args s v u, (limb_1_1.after args s (.returned v) u = true ∧ limb_1_2.after args s (.returned v) u = true ∧ True) → FrameEnd s (.returned v) u (Jvm.fieldLocs frame_1_writes args s ++ Jvm.arrayLocs frame_1_arrays args s ++ Jvm.staticLocs frame_1_statics s) 16 128 → Post tb e args s (.returned v) u) :
    ArmFor flags0 classFile x code maxLocals ret World_1 tables_1 room_1 Calls_1 rest_1 Pre_1 Post := by
  intro l hfl _ _ p e ha hc hk s m args below hf hA hF happ hP
  obtain ⟨hcalls, hrest, hpre⟩ := hP
  obtain ⟨-, -, -, hnamed, -, -, -, hat⟩ := (Spec.applies_iff hf).mp happ
  obtain ⟨hg, hn⟩ := and_e (Cond.before_iff.mp (show (Jvm.Cond.and given_1 narrow_1).before args s = true from hpre))
  obtain ⟨h1, g0⟩ := and_e hg
  obtain ⟨c0, g1⟩ := and_e g0
  obtain ⟨c1, g2⟩ := and_e g1
  obtain ⟨c2, g3⟩ := and_e g2
  obtain ⟨c3, g4⟩ := and_e g3
  obtain ⟨c4, g5⟩ := and_e g4
  obtain ⟨w0, w1, w2, w3, w4, w5, rfl⟩ : ∃ w0 w1 w2 w3 w4 w5 : Value, args = #[w0, w1, w2, w3, w4, w5] := by
    have hs : args.size = 6 := by simpa [Cond.value, given_1] using h1
    obtain ⟨L⟩ := args
    match L, hs with
    | [w0, w1, w2, w3, w4, w5], _ => exact ⟨w0, w1, w2, w3, w4, w5, rfl⟩
  have hw := fun d (hd : d ∈ tables_1) => atoms_spec (ws := Jvm.Cond.code x code maxLocals ret :: tables_1) hat d (List.mem_cons_of_mem _ hd)
  obtain ⟨i0, q0⟩ := is_v c0
  obtain rfl : w0 = (.int i0) := Option.some.inj q0
  obtain ⟨i1, q1⟩ := is_v c1
  obtain rfl : w1 = (.int i1) := Option.some.inj q1
  obtain ⟨i2, q2⟩ := is_v c2
  obtain rfl : w2 = (.int i2) := Option.some.inj q2
  obtain ⟨i3, q3⟩ := is_v c3
  obtain rfl : w3 = (.int i3) := Option.some.inj q3
  obtain ⟨i4, q4⟩ := is_v c4
  obtain rfl : w4 = (.int i4) := Option.some.inj q4
  obtain ⟨i5, q5⟩ := is_v g5
  obtain rfl : w5 = (.int i5) := Option.some.inj q5
  obtain ⟨n, o, h1, h2, h3, _, L, rfl, ⟨rfl, N⟩, hq⟩ := rm_0 l s _ hw tables_1 i0 i1 i2 i3 i4 i5 s.heap s.heap.size (Nat.le_refl _)  p e ha hc hk s m _ below hf ((Spec.applies_iff_loose hf).mp happ).1 ⟨rfl, State.Warmed39.refl s, rfl⟩ trivial
  refine ⟨n, _, h1, h2, h3, hpost _ _ _ _ _ _ ⟨Cond.after_iff.mpr rfl, Cond.after_iff.mpr (eq_i res_at (Term.int_eval (1)) rfl), trivial⟩ ⟨hq.1, hq.2.1, (hq.2.2.sift fun y hy => Or.inr (N y hy)).mono (by decide) (by decide)⟩⟩
theorem main_1_1 : Claimed_1_1 := comes_1 fun _ _ _ _ _ _ h hF => ⟨h.1, hF⟩
theorem main_1_2 : Claimed_1_2 := comes_1 fun _ _ _ _ _ _ h hF => ⟨h.2.1, hF⟩
end Jvm.Pilot.@@N@@
namespace Jvm.Pilot.@@N@@
open Jvm Jvm.ClassFile Sem Op Lib Jvm.Free Jvm.Stand Jvm.Pilot.@@N@@.Jvm.D
/-! MADE BY PROGRAM (witnessworld.py) out of the Statement's table words and the real class files: 10 classes; the members and pool entries that the words name. The judged class is class 1, her method 2. -/
namespace start1
open Jvm.ClassFile
def u (s : String) : CpInfo := .utf8 (stringToUtf16 s)
/-- a pool by its gaps: so many unusable entries, then the entry; so many at the end -/
def gap : Nat → List CpInfo → List CpInfo
  | 0, r => r
  | n + 1, r => .unusable :: gap n r
def poolList (es : List (Nat × CpInfo)) (last : Nat) : List CpInfo := es.foldr (fun e r => gap e.1 (e.2 :: r)) (gap last [])
def pool (es : List (Nat × CpInfo)) (last : Nat) : Array CpInfo := ⟨poolList es last⟩
def fileOf (pool : Array CpInfo) (this : Nat) (attrs : Array Attribute := #[]) (ms : Array MethodInfo := #[]) (fl : Nat := 33) (sup : Nat := 0) (ifs : Array Nat := #[]) (fds : Array FieldInfo := #[]) : ClassFile where
  minorVersion := 0
  majorVersion := 65
  constantPool := pool
  accessFlags := fl
  thisClass := this
  superClass := sup
  interfaces := ifs
  fields := fds
  methods := ms
  attributes := attrs
def plain (name : String) (sup : Option ClassId) : Class where
  name := name
  kind := .ordinary
  loader := none
  accessFlags := 33
  super := sup
  interfaces := #[]
  cf := none
  fields := #[]
  methods := #[]
  instanceTypes := #[]
  staticTypes := #[]
  resolved := #[]
  callSites := []
  init := .initialized
  statics := none
  mirror := none

def pool0 : Array CpInfo := pool [(5, u "<init>"), (0, u "()V"), (1, .class_ 10), (1, u "java/lang/Object")] 113

def k0c0 : Code := { maxStack := 0, maxLocals := 1, code := object_method_1_code, exceptionTable := #[], attributes := #[] }
def k0m0 : Method := { name := "<init>", desc := "()V", sig := { parameters := [], returnType := none }, accessFlags := 1, code := some k0c0 }
/-- java/lang/Object -/
def k0 : Class := { plain "java/lang/Object" none with
  accessFlags := 33
  interfaces := #[]
  cf := some (fileOf pool0 8 #[] #[{ accessFlags := 1, nameIndex := 5, descriptorIndex := 6, attributes := #[] }] 33 0 #[] #[])
  fields := #[]
  methods := #[k0m0]
  instanceTypes := #[]
  staticTypes := #[]
  resolved := Array.replicate 124 none
  statics := none }

def pool1 : Array CpInfo := pool [(2, .class_ 4), (1, u "java/lang/Object"), (0, u "<init>"), (0, u "()V"), (0, .class_ 8), (0, u "tessera/ColorDistanceExchange$Entry"), (0, .methodref 7 10), (0, .nameAndType 5 11), (0, u "(IIDI)V"), (0, .methodref 7 13), (0, .nameAndType 14 15), (0, u "shorter"), (0, u "(DI)Z"), (0, .methodref 17 18), (0, .class_ 19), (0, .nameAndType 20 21), (0, u "tessera/EntryShorterPinLaw"), (0, u "lex"), (0, u "(IIII)Z"), (3, u "law"), (0, u "(IIIIII)Z")] 6

def k1m0 : Method := { name := "<init>", desc := "()V", sig := { parameters := [], returnType := none }, accessFlags := 1, code := none }
def k1c1 : Code := { maxStack := 2, maxLocals := 4, code := method_2_code, exceptionTable := #[], attributes := #[] }
def k1m1 : Method := { name := "lex", desc := "(IIII)Z", sig := { parameters := [.int, .int, .int, .int], returnType := some .boolean }, accessFlags := 10, code := some k1c1 }
def k1c2 : Code := { maxStack := 7, maxLocals := 17, code := code, exceptionTable := #[], attributes := #[] }
def k1m2 : Method := { name := "law", desc := "(IIIIII)Z", sig := { parameters := [.int, .int, .int, .int, .int, .int], returnType := some .boolean }, accessFlags := 9, code := some k1c2 }
/-- tessera/EntryShorterPinLaw -/
def k1 : Class := { plain "tessera/EntryShorterPinLaw" (some 0) with
  accessFlags := 49
  interfaces := #[]
  cf := some (fileOf pool1 17 #[] #[{ accessFlags := 1, nameIndex := 5, descriptorIndex := 6, attributes := #[] }, { accessFlags := 10, nameIndex := 20, descriptorIndex := 21, attributes := #[] }, { accessFlags := 9, nameIndex := 25, descriptorIndex := 26, attributes := #[] }] 49 2 #[] #[])
  fields := #[]
  methods := #[k1m0, k1m1, k1m2]
  instanceTypes := #[]
  staticTypes := #[]
  resolved := Array.replicate 33 none
  statics := none }

def pool2 : Array CpInfo := pool [(1, .methodref 2 3), (0, .class_ 4), (0, .nameAndType 5 6), (0, u "java/lang/Object"), (0, u "<init>"), (0, u "()V"), (0, .class_ 8), (0, u "java/lang/Record")] 13

def k2c0 : Code := { maxStack := 1, maxLocals := 1, code := jdk_30_method_1_code, exceptionTable := #[], attributes := #[] }
def k2m0 : Method := { name := "<init>", desc := "()V", sig := { parameters := [], returnType := none }, accessFlags := 4, code := some k2c0 }
/-- java/lang/Record -/
def k2 : Class := { plain "java/lang/Record" (some 0) with
  accessFlags := 1057
  interfaces := #[]
  cf := some (fileOf pool2 7 #[] #[{ accessFlags := 4, nameIndex := 5, descriptorIndex := 6, attributes := #[] }] 1057 2 #[] #[])
  fields := #[]
  methods := #[k2m0]
  instanceTypes := #[]
  staticTypes := #[]
  resolved := Array.replicate 22 none
  statics := none }

def pool3 : Array CpInfo := pool [(1, .methodref 2 3), (0, .class_ 4), (0, .nameAndType 5 6), (0, u "java/lang/Record"), (0, u "<init>"), (0, u "()V"), (0, .fieldref 8 9), (0, .class_ 10), (0, .nameAndType 11 12), (0, u "tessera/ColorDistanceExchange$Entry"), (0, u "node"), (0, u "I"), (0, .fieldref 8 14), (0, .nameAndType 15 12), (0, u "version"), (0, .fieldref 8 17), (0, .nameAndType 18 19), (0, u "distance"), (0, u "D"), (0, .fieldref 8 21), (0, .nameAndType 22 12), (0, u "flat"), (2, u "shorter"), (0, u "(DI)Z"), (2, u "(IIDI)V"), (26, .class_ 57), (0, u "tessera/ColorDistanceExchange")] 22

def k3c0 : Code := { maxStack := 3, maxLocals := 6, code := prog_17_method_1_code, exceptionTable := #[], attributes := #[] }
def k3m0 : Method := { name := "<init>", desc := "(IIDI)V", sig := { parameters := [.int, .int, .double, .int], returnType := none }, accessFlags := 0, code := some k3c0 }
def k3c1 : Code := { maxStack := 4, maxLocals := 4, code := prog_17_method_3_code, exceptionTable := #[], attributes := #[] }
def k3m1 : Method := { name := "shorter", desc := "(DI)Z", sig := { parameters := [.double, .int], returnType := some .boolean }, accessFlags := 0, code := some k3c1 }
/-- tessera/ColorDistanceExchange$Entry -/
def k3 : Class := { plain "tessera/ColorDistanceExchange$Entry" (some 2) with
  accessFlags := 48
  interfaces := #[]
  cf := some (fileOf pool3 8 #[.nestHost 56] #[{ accessFlags := 0, nameIndex := 5, descriptorIndex := 29, attributes := #[] }, { accessFlags := 0, nameIndex := 25, descriptorIndex := 26, attributes := #[] }] 48 2 #[] #[{ accessFlags := 18, nameIndex := 11, descriptorIndex := 12, attributes := #[] }, { accessFlags := 18, nameIndex := 15, descriptorIndex := 12, attributes := #[] }, { accessFlags := 18, nameIndex := 18, descriptorIndex := 19, attributes := #[] }, { accessFlags := 18, nameIndex := 22, descriptorIndex := 12, attributes := #[] }])
  fields := #[{ name := "node", type := .int, accessFlags := 18, slot := 0, constantValue := 0 }, { name := "version", type := .int, accessFlags := 18, slot := 1, constantValue := 0 }, { name := "distance", type := .double, accessFlags := 18, slot := 2, constantValue := 0 }, { name := "flat", type := .int, accessFlags := 18, slot := 3, constantValue := 0 }]
  methods := #[k3m0, k3m1]
  instanceTypes := #[.int, .int, .double, .int]
  staticTypes := #[]
  resolved := Array.replicate 80 none
  statics := none }

def pool4 : Array CpInfo := pool [(1, u "java/lang/Cloneable"), (0, .class_ 1), (0, u "java/lang/Object"), (0, .class_ 3)] 3

/-- java/lang/Cloneable -/
def k4 : Class := { plain "java/lang/Cloneable" (some 0) with
  accessFlags := 1537
  interfaces := #[]
  cf := some (fileOf pool4 2 #[] #[] 1537 4 #[] #[])
  fields := #[]
  methods := #[]
  instanceTypes := #[]
  staticTypes := #[]
  resolved := Array.replicate 8 none
  statics := none }

def pool5 : Array CpInfo := pool [(1, u "java/io/Serializable"), (0, .class_ 1), (0, u "java/lang/Object"), (0, .class_ 3)] 3

/-- java/io/Serializable -/
def k5 : Class := { plain "java/io/Serializable" (some 0) with
  accessFlags := 1537
  interfaces := #[]
  cf := some (fileOf pool5 2 #[] #[] 1537 4 #[] #[])
  fields := #[]
  methods := #[]
  instanceTypes := #[]
  staticTypes := #[]
  resolved := Array.replicate 8 none
  statics := none }

/-- the primitive byte -/
def k6 : Class := { plain "byte" none with kind := .primitive 'B', accessFlags := 0x411 }
/-- [B -/
def k7 : Class := { plain "[B" (some 0) with kind := .array 6 .byte, interfaces := #[4, 5], accessFlags := 1041 }

/-- the primitive int -/
def k8 : Class := { plain "int" none with kind := .primitive 'I', accessFlags := 0x411 }
/-- [I -/
def k9 : Class := { plain "[I" (some 0) with kind := .array 8 .int, interfaces := #[4, 5], accessFlags := 1041 }

def heap : Heap := #[]
def classes : Array Class := #[k0, k1, k2, k3, k4, k5, k6, k7, k8, k9]
def interned : List (Array UInt16 × Addr) := []
def slotsUsed : Nat := 0
def theMethod : MethodId := ⟨1, 2⟩
def args0 : Array Value := #[.int 5, .int 7, .int 3, .int 9, .int 1, .int 2]
def aboutOver (below : List Frame) : State where
  vm := { classes := classes, interned := interned.toArray }
  heap := heap
  slotsUsed := slotsUsed
  threads := #[{ frames := .invoking theMethod args0 :: below }]
def below0 : List Frame := [.native { method := ⟨0, 0⟩, args := #[] }]
def about1 : State := aboutOver below0
def p0 : Program := .bare "" "" ""
def e0 : Env := launch0.env 0 0 0
theorem w_frames : about1.frames = Frame.invoking theMethod args0 :: below0 := rfl
set_option maxRecDepth 65536 in
theorem w_args : argsFit about1.vm theMethod args0 = true := by decide +kernel
set_option maxRecDepth 65536 in
theorem w_heap : heapFits about1 = true := by decide +kernel
set_option maxRecDepth 65536 in
theorem w_runnable : about1.curStatus? = some .runnable := by decide +kernel
set_option maxRecDepth 65536 in
theorem w_alone : about1.alone = true := by decide +kernel
set_option maxRecDepth 65536 in
theorem w_named : about1.methodNamed? x = some theMethod := by decide +kernel
set_option maxRecDepth 65536 in
theorem w_hears : about1.hears theMethod below0 = true := by decide +kernel
set_option maxRecDepth 65536 in
theorem w_ripe : about1.ripe theMethod args0 below0 = true := by decide +kernel
theorem w_running : about1.status = .running := rfl
set_option maxRecDepth 65536 in
theorem w_room : about1.hasRoom e0.platform room_1 = true :=
  launch0.hasRoom_least _ room_1 (by decide +kernel) (by decide +kernel) (by decide +kernel) (by decide +kernel) (by decide +kernel) (by decide +kernel)
theorem allAtoms_all (ts : List Jvm.Cond) (a : Array Jvm.Value) (st : Jvm.State) : (allAtoms ts).before a st = ts.all (fun c => c.before a st) := by
  induction ts with
  | nil => rfl
  | cons c t ih =>
    show (Jvm.Cond.and c (allAtoms t)).before a st = _
    rw [Jvm.Cond.before_and, ih, List.all_cons]
def words1 : List Jvm.Cond := Jvm.Cond.code x code maxLocals ret :: tables_1
/-- a 'code' word, met by the world's own term for the bytes: nothing is compared byte by byte -/
theorem code_word {y : MethodName} {bytes : ByteArray} {mx : Nat} {rt : Option FieldType} {a : Array Value} {s : State} {m : MethodId} {meth : Method} {c : Code} (h1 : s.methodNamed? y = some m) (h2 : s.vm.method? m = some meth) (h3 : meth.code = some c) (h4 : c.code = bytes)
    (h5 : (c.maxLocals == mx && c.exceptionTable.isEmpty && decide (c.maxStack ≤ mostOperands) && decide (meth.sig.returnType = rt) && !meth.locks && decide (parseMethodDescriptor y.desc = some meth.sig)) = true) : (Jvm.Cond.code y bytes mx rt).before a s = true := by
  simp only [Bool.and_eq_true, beq_iff_eq, Bool.not_eq_true', decide_eq_true_eq] at h5
  obtain ⟨⟨⟨⟨⟨g1, g2⟩, g3⟩, g4⟩, g5⟩, g6⟩ := h5
  simp [Cond.before, Cond.holds, Cond.value, h1, h2, h3, h4, g1, g2, g3, g4, g5, g6]
def isCode : Jvm.Cond → Bool
  | .code _ _ _ _ => true
  | _ => false
theorem all_split {L : List Jvm.Cond} {P : Jvm.Cond → Bool} (h1 : L.all (fun c => isCode c || P c) = true) (h2 : ∀ c ∈ L.filter isCode, P c = true) : L.all P = true := by
  refine List.all_eq_true.mpr fun c hc => ?_
  have h := List.all_eq_true.mp h1 c hc
  rcases Bool.eq_false_or_eq_true (isCode c) with hi | hi
  · exact h2 c (List.mem_filter.mpr ⟨hc, hi⟩)
  · simpa [hi] using h
set_option maxRecDepth 65536 in
theorem w_c0 : (Jvm.Cond.code x code maxLocals ret).before args0 about1 = true := code_word (m := ⟨1, 2⟩) (meth := k1m2) (c := k1c2) (by decide +kernel) rfl rfl rfl (by decide +kernel)
set_option maxRecDepth 65536 in
theorem w_c1 : (Jvm.Cond.code ({ cls := "tessera/ColorDistanceExchange$Entry", name := "<init>", desc := "(IIDI)V" } : Jvm.MethodName) prog_17_method_1_code (6 : Nat) (Option.none : Option Jvm.ClassFile.FieldType)).before args0 about1 = true := code_word (m := ⟨3, 0⟩) (meth := k3m0) (c := k3c0) (by decide +kernel) rfl rfl rfl (by decide +kernel)
set_option maxRecDepth 65536 in
theorem w_c2 : (Jvm.Cond.code ({ cls := "java/lang/Record", name := "<init>", desc := "()V" } : Jvm.MethodName) jdk_30_method_1_code (1 : Nat) (Option.none : Option Jvm.ClassFile.FieldType)).before args0 about1 = true := code_word (m := ⟨2, 0⟩) (meth := k2m0) (c := k2c0) (by decide +kernel) rfl rfl rfl (by decide +kernel)
set_option maxRecDepth 65536 in
theorem w_c3 : (Jvm.Cond.code ({ cls := "java/lang/Object", name := "<init>", desc := "()V" } : Jvm.MethodName) object_method_1_code (1 : Nat) (Option.none : Option Jvm.ClassFile.FieldType)).before args0 about1 = true := code_word (m := ⟨0, 0⟩) (meth := k0m0) (c := k0c0) (by decide +kernel) rfl rfl rfl (by decide +kernel)
set_option maxRecDepth 65536 in
theorem w_c4 : (Jvm.Cond.code ({ cls := "tessera/ColorDistanceExchange$Entry", name := "shorter", desc := "(DI)Z" } : Jvm.MethodName) prog_17_method_3_code (4 : Nat) (Option.some Jvm.ClassFile.FieldType.boolean)).before args0 about1 = true := code_word (m := ⟨3, 1⟩) (meth := k3m1) (c := k3c1) (by decide +kernel) rfl rfl rfl (by decide +kernel)
set_option maxRecDepth 65536 in
theorem w_c5 : (Jvm.Cond.code ({ cls := "tessera/EntryShorterPinLaw", name := "lex", desc := "(IIII)Z" } : Jvm.MethodName) method_2_code (4 : Nat) (Option.some Jvm.ClassFile.FieldType.boolean)).before args0 about1 = true := code_word (m := ⟨1, 1⟩) (meth := k1m1) (c := k1c1) (by decide +kernel) rfl rfl rfl (by decide +kernel)
def codes1 : List Jvm.Cond := [Jvm.Cond.code x code maxLocals ret, Jvm.Cond.code ({ cls := "tessera/ColorDistanceExchange$Entry", name := "<init>", desc := "(IIDI)V" } : Jvm.MethodName) prog_17_method_1_code (6 : Nat) (Option.none : Option Jvm.ClassFile.FieldType), Jvm.Cond.code ({ cls := "java/lang/Record", name := "<init>", desc := "()V" } : Jvm.MethodName) jdk_30_method_1_code (1 : Nat) (Option.none : Option Jvm.ClassFile.FieldType), Jvm.Cond.code ({ cls := "java/lang/Object", name := "<init>", desc := "()V" } : Jvm.MethodName) object_method_1_code (1 : Nat) (Option.none : Option Jvm.ClassFile.FieldType), Jvm.Cond.code ({ cls := "tessera/ColorDistanceExchange$Entry", name := "shorter", desc := "(DI)Z" } : Jvm.MethodName) prog_17_method_3_code (4 : Nat) (Option.some Jvm.ClassFile.FieldType.boolean), Jvm.Cond.code ({ cls := "tessera/EntryShorterPinLaw", name := "lex", desc := "(IIII)Z" } : Jvm.MethodName) method_2_code (4 : Nat) (Option.some Jvm.ClassFile.FieldType.boolean)]
set_option maxRecDepth 65536 in
theorem codes_eq : words1.filter isCode = codes1 := rfl
theorem w_codes : ∀ c ∈ words1.filter isCode, c.before args0 about1 = true := by
  rw [codes_eq]
  intro c hc
  simp only [codes1, List.mem_cons, List.not_mem_nil, or_false] at hc
  rcases hc with rfl | rfl | rfl | rfl | rfl | rfl
  · exact w_c0
  · exact w_c1
  · exact w_c2
  · exact w_c3
  · exact w_c4
  · exact w_c5
set_option maxRecDepth 65536 in
theorem w_t1 : (words1.take 24).all (fun c => isCode c || c.before args0 about1) = true := by decide +kernel
set_option maxRecDepth 65536 in
theorem w_t2 : (words1.drop 24).all (fun c => isCode c || c.before args0 about1) = true := by decide +kernel
theorem w_tables : (allAtoms (Jvm.Cond.code x code maxLocals ret :: tables_1)).before args0 about1 = true := by
  rw [allAtoms_all]
  show words1.all (fun c => c.before args0 about1) = true
  refine all_split ?_ w_codes
  rw [← List.take_append_drop 24 words1, List.all_append, w_t1, w_t2]
  rfl
set_option maxRecDepth 65536 in
theorem w_case : (Jvm.Cond.and given_1 narrow_1).before args0 about1 = true := by decide +kernel
theorem w_applies : (headSpec (Jvm.Cond.code x code maxLocals ret :: tables_1) room_1).applies x e0.platform about1 = true :=
  (Spec.applies_iff w_frames).mpr ⟨w_running, w_runnable, w_alone, w_named, w_hears, w_ripe, w_room, w_tables⟩
theorem atStart : AtStart classFile x code maxLocals ret World_1 tables_1 room_1 Calls_1 rest_1 Pre_1 launch0 p0 e0 about1 theMethod args0 below0 :=
  ⟨lists_1, trivial, launch0.admits_env _ _ _, launch0.least_env, fairChoices_fair.cas, fairChoices_fair.clock, w_frames, w_args, w_heap, w_applies, trivial, trivial, w_case⟩
end start1
theorem witness_1 : WitnessClaimed_1 := ⟨start1.p0, start1.e0, start1.about1, start1.theMethod, start1.args0, start1.below0, start1.atStart⟩
end Jvm.Pilot.@@N@@
