import JvmDerived
import JvmDerived.Pilot.@@N@@Statement
import JvmDerived.Pilot.@@N@@Code
set_option linter.unusedVariables false
set_option linter.unusedSimpArgs false
namespace Jvm.Pilot.@@N@@
open Jvm Jvm.ClassFile Sem Op Lib Jvm.Free Jvm.Stand Jvm.LawKit Jvm.RoadKit Bundle Jvm.Pilot.@@N@@.Jvm.D
theorem own_ifc {P Q : Prop} [Decidable P] [Decidable Q] {α : Type} {a b : α} (h : P ↔ Q) : (if P then a else b) = if Q then a else b := by
  by_cases q : P
  · rw [if_pos q, if_pos (h.mp q)]
  · rw [if_neg q, if_neg (fun r => q (h.mpr r))]
theorem own_lc_eq {x y : Int64} (h : x = y) : ifCond.holds .eq (lcmpW x y) = true ∧ ifCond.holds .ne (lcmpW x y) = false := ⟨(if0 _ _).trans (teq ((lw_eq x y).mpr h)).1, (if0 _ _).trans (teq ((lw_eq x y).mpr h)).2⟩
theorem own_lc_ne {x y : Int64} (h : ¬ x = y) : ifCond.holds .eq (lcmpW x y) = false ∧ ifCond.holds .ne (lcmpW x y) = true := ⟨(if0 _ _).trans (feq (mt (lw_eq x y).mp h)).1, (if0 _ _).trans (feq (mt (lw_eq x y).mp h)).2⟩
theorem own_lc_lt {x y : Int64} (h : x < y) : ifCond.holds .lt (lcmpW x y) = true ∧ ifCond.holds .ge (lcmpW x y) = false := ⟨(if0 _ _).trans (tlt ((lw_lt x y).mpr h)).1, (if0 _ _).trans (tlt ((lw_lt x y).mpr h)).2.1⟩
theorem own_lc_nlt {x y : Int64} (h : ¬ x < y) : ifCond.holds .lt (lcmpW x y) = false ∧ ifCond.holds .ge (lcmpW x y) = true := ⟨(if0 _ _).trans (flt (mt (lw_lt x y).mp h)).1, (if0 _ _).trans (flt (mt (lw_lt x y).mp h)).2.1⟩
theorem own_lc_gt {x y : Int64} (h : y < x) : ifCond.holds .gt (lcmpW x y) = true ∧ ifCond.holds .le (lcmpW x y) = false := ⟨(if0 _ _).trans (tlt ((lw_gt x y).mpr h)).2.2.1, (if0 _ _).trans (tlt ((lw_gt x y).mpr h)).2.2.2⟩
theorem own_lc_ngt {x y : Int64} (h : ¬ y < x) : ifCond.holds .gt (lcmpW x y) = false ∧ ifCond.holds .le (lcmpW x y) = true := ⟨(if0 _ _).trans (flt (mt (lw_gt x y).mp h)).2.2.1, (if0 _ _).trans (flt (mt (lw_gt x y).mp h)).2.2.2⟩
theorem own_nar (p : Int32) : nar .char (nar .char (p.toUInt32.toUInt16.toUInt32.toInt32)) = (p.toUInt32.toUInt16.toUInt32.toInt32) := by
  show ((p.toUInt32.toUInt16.toUInt32.toInt32).toUInt32.toUInt16.toUInt32.toInt32).toUInt32.toUInt16.toUInt32.toInt32 = _
  simp only [UInt32.toUInt32_toInt32, UInt16.toUInt16_toUInt32]
theorem own_miss {p : Int32} {k : Int} {q : Int32} (h : ¬ p = q) (e : k = q.toInt) : ¬ k = p.toInt := fun r => h (Int32.toInt_inj.mp (r.symm.trans e))
theorem d2_0 : decode jdk_30_method_1_code 0 = .ok (.aload_n 0, 1) := by decide +kernel
theorem d2_1 : decode jdk_30_method_1_code 1 = .ok (.invokespecial 1, 3) := by decide +kernel
theorem d2_4 : decode jdk_30_method_1_code 4 = .ok (.return_, 1) := by decide +kernel
theorem pn_2 : plainName "java/lang/Record" = true := by first | (simp [plainName, overriddenIn]; done) | decide +kernel
theorem ef_2 (m : MethodId) (x0 : Addr) : entryFrame m #[(.ref x0)] 1 = mkF m 0 #[.val (.ref x0)] [] := by first | (simp [entryFrame, mkF, argsToLocals, Value.category]; done) | rfl
def Q2 (Z : State) (a1 : Addr) (h0 : Heap) (n0 : Nat) (v : Option Value) (h : Heap) (L : List Loc) : Prop := v = none ∧ Fr n0 L ∧ h = h0
set_option maxRecDepth 65536 in
set_option maxHeartbeats 40000000 in
theorem rm2 (l : Launch) (Z : State) (a0 : Array Value) (hw : ∀ d ∈ tables_1, d.before a0 Z = true) (ws : List Jvm.Cond) (a1 : Addr) (h0 : Heap) (n0 : Nat) (Z0 : n0 ≤ h0.size) :
    MetFree l (⟨"java/lang/Record", "<init>", "()V"⟩ : MethodName) (head1 (Jvm.Cond.code (⟨"java/lang/Record", "<init>", "()V"⟩ : MethodName) jdk_30_method_1_code 1 none :: ws) ({ frames := 1, cells := 0, slots := 0, locals := 12 } : Room)) (fun a U => a = #[(.ref a1)] ∧ Z.Warmed39 U.vm ∧ U.heap = h0) (fun _ _ _ _ _ => True) (fun _ U o U' => ∃ v L, o = .returned v ∧ Q2 Z a1 h0 n0 v U'.heap L ∧ FrameEnd U o U' L ({ frames := 1, cells := 0, slots := 0, locals := 12 } : Room).cells ({ frames := 1, cells := 0, slots := 0, locals := 12 } : Room).slots) := by
  refine MetFree.of_bodySF (plainFor_of_name pn_2) hisR ?_
  intro p e s m args below meth c s₁ Bd hml0 hP hK
  obtain ⟨rfl, hZ, hh⟩ := hP
  have hx := Bd.exec
  have hby := Bd.bytes
  have hml : c.maxLocals = 1 := hml0
  have hown : s.vm.findClass "java/lang/Record" = some m.cls := findClass_of_methodNamed Bd.named
  have hnm := (name_of_methodNamed Bd.named Bd.method).1
  have X0 : Stand p l e ({ frames := 1, cells := 0, slots := 0, locals := 12 } : Room) s m #[(.ref a1)] below meth c s₁ [] 0 0 := Stand.of_body Bd
  have e0 : s₁.heap = h0 := by rw [← hh, Bd.state]; rfl
  have N0 := Fr.nil n0
  have pre0 : ∀ t, Steps p.tables e below (s₁.setTop (mkF m 0 #[.val (.ref a1)] [])) t → Steps p.tables e below (s₁.setTop (entryFrame m #[(.ref a1)] 1)) t := fun t k => castTop (ef_2 m a1) k
  obtain ⟨T2, X2, e2, st2⟩ := initO X0 hx hZ hown (hw _ (List.mem_of_getElem? (i := 11) rfl)) (hw _ (List.mem_of_getElem? (i := 12) rfl)) (hw _ (List.mem_of_getElem? (i := 13) rfl)) e0 (g := (mkF m 1 #[.val (.ref a1)] [(.ref a1)])) rfl (by rw [hml]; rfl) rfl (hb hby d2_1) (by decide) (W := 0) (by show 2 * 0 + _ ≤ _; exact Nat.le_of_eq rfl) (by decide)
  obtain ⟨fs, hr, hrun, hended, hW, hsame⟩ := X2.leave (v := none) (fun _ => rfl)
  refine ⟨_, _, pre0 _ ?_, hrun, hended, _, _, rfl, ?_, ⟨_, rfl⟩, hW, hsame.mono (by decide) (by decide)⟩
  · show Steps p.tables e below (s₁.setTop (mkF m 0 #[.val (.ref a1)] [])) _
    refine XS.aloadN X0.here hx rfl (hb hby d2_0) rfl rfl ?_
    show Steps p.tables e below (s₁.setTop (mkF m 1 #[.val (.ref a1)] [(.ref a1)])) _
    refine st2 _ ?_
    show Steps p.tables e below (T2.setTop (mkF m 4 #[.val (.ref a1)] [])) _
    exact X2.returnOut hx Bd.returns (hb hby d2_4) hr
  · show Q2 Z a1 h0 n0 _ T2.heap _
    rw [e2]
    exact ⟨rfl, N0, rfl⟩
theorem d1_0 : decode prog_69_method_1_code 0 = .ok (.aload_n 0, 1) := by decide +kernel
theorem d1_1 : decode prog_69_method_1_code 1 = .ok (.invokespecial 1, 3) := by decide +kernel
theorem d1_4 : decode prog_69_method_1_code 4 = .ok (.aload_n 0, 1) := by decide +kernel
theorem d1_5 : decode prog_69_method_1_code 5 = .ok (.iload_n 1, 1) := by decide +kernel
theorem d1_6 : decode prog_69_method_1_code 6 = .ok (.putfield 7, 3) := by decide +kernel
theorem d1_9 : decode prog_69_method_1_code 9 = .ok (.aload_n 0, 1) := by decide +kernel
theorem d1_10 : decode prog_69_method_1_code 10 = .ok (.iload_n 2, 1) := by decide +kernel
theorem d1_11 : decode prog_69_method_1_code 11 = .ok (.putfield 13, 3) := by decide +kernel
theorem d1_14 : decode prog_69_method_1_code 14 = .ok (.aload_n 0, 1) := by decide +kernel
theorem d1_15 : decode prog_69_method_1_code 15 = .ok (.iload_n 3, 1) := by decide +kernel
theorem d1_16 : decode prog_69_method_1_code 16 = .ok (.putfield 16, 3) := by decide +kernel
theorem d1_19 : decode prog_69_method_1_code 19 = .ok (.aload_n 0, 1) := by decide +kernel
theorem d1_20 : decode prog_69_method_1_code 20 = .ok (.iload 4, 2) := by decide +kernel
theorem d1_22 : decode prog_69_method_1_code 22 = .ok (.putfield 19, 3) := by decide +kernel
theorem d1_25 : decode prog_69_method_1_code 25 = .ok (.return_, 1) := by decide +kernel
theorem pn_1 : plainName "com/example/epicrisis/epicrisis/lab/AstmRecord$Delimiters" = true := by first | (simp [plainName, overriddenIn]; done) | decide +kernel
theorem pd_1_1 : parseMethodDescriptor "()V" = some ⟨[], none⟩ := by decide +kernel
theorem ef_1 (m : MethodId) (x0 : Addr) (x1 : Int32) (x2 : Int32) (x3 : Int32) (x4 : Int32) : entryFrame m #[(.ref x0), (.int x1), (.int x2), (.int x3), (.int x4)] 5 = mkF m 0 #[.val (.ref x0), .val (.int x1), .val (.int x2), .val (.int x3), .val (.int x4)] [] := by first | (simp [entryFrame, mkF, argsToLocals, Value.category]; done) | rfl
def Q1 (Z : State) (a1 : Addr) (p2 : Int32) (p3 : Int32) (p4 : Int32) (p5 : Int32) (u_field_a1 : Value) (u_repeat_a1 : Value) (u_component_a1 : Value) (u_escape_a1 : Value) (h0 : Heap) (n0 : Nat) (v : Option Value) (h : Heap) (L : List Loc) : Prop := v = none ∧ Fr n0 L ∧ Keep h0 h [a1] ∧ Exa Z h a1 "com/example/epicrisis/epicrisis/lab/AstmRecord$Delimiters" ∧ Fld Z h a1 "com/example/epicrisis/epicrisis/lab/AstmRecord$Delimiters" "field" "C" (.int (nar .char p2)) ∧ Fld Z h a1 "com/example/epicrisis/epicrisis/lab/AstmRecord$Delimiters" "repeat" "C" (.int (nar .char p3)) ∧ Fld Z h a1 "com/example/epicrisis/epicrisis/lab/AstmRecord$Delimiters" "component" "C" (.int (nar .char p4)) ∧ Fld Z h a1 "com/example/epicrisis/epicrisis/lab/AstmRecord$Delimiters" "escape" "C" (.int (nar .char p5))
set_option maxRecDepth 65536 in
set_option maxHeartbeats 40000000 in
theorem rm1 (l : Launch) (Z : State) (a0 : Array Value) (hw : ∀ d ∈ tables_1, d.before a0 Z = true) (ws : List Jvm.Cond) (a1 : Addr) (p2 : Int32) (p3 : Int32) (p4 : Int32) (p5 : Int32) (u_field_a1 : Value) (u_repeat_a1 : Value) (u_component_a1 : Value) (u_escape_a1 : Value) (h0 : Heap) (n0 : Nat) (Z0 : n0 ≤ h0.size) (E_a1 : Exa Z h0 a1 "com/example/epicrisis/epicrisis/lab/AstmRecord$Delimiters") (F_field_a1 : Fld Z h0 a1 "com/example/epicrisis/epicrisis/lab/AstmRecord$Delimiters" "field" "C" u_field_a1) (g_a1 : n0 ≤ a1) (F_repeat_a1 : Fld Z h0 a1 "com/example/epicrisis/epicrisis/lab/AstmRecord$Delimiters" "repeat" "C" u_repeat_a1) (F_component_a1 : Fld Z h0 a1 "com/example/epicrisis/epicrisis/lab/AstmRecord$Delimiters" "component" "C" u_component_a1) (F_escape_a1 : Fld Z h0 a1 "com/example/epicrisis/epicrisis/lab/AstmRecord$Delimiters" "escape" "C" u_escape_a1) :
    MetFree l (⟨"com/example/epicrisis/epicrisis/lab/AstmRecord$Delimiters", "<init>", "(CCCC)V"⟩ : MethodName) (head1 (Jvm.Cond.code (⟨"com/example/epicrisis/epicrisis/lab/AstmRecord$Delimiters", "<init>", "(CCCC)V"⟩ : MethodName) prog_69_method_1_code 5 none :: ws) ({ frames := 2, cells := 0, slots := 0, locals := 24 } : Room)) (fun a U => a = #[(.ref a1), (.int p2), (.int p3), (.int p4), (.int p5)] ∧ Z.Warmed39 U.vm ∧ U.heap = h0) (fun _ _ _ _ _ => True) (fun _ U o U' => ∃ v L, o = .returned v ∧ Q1 Z a1 p2 p3 p4 p5 u_field_a1 u_repeat_a1 u_component_a1 u_escape_a1 h0 n0 v U'.heap L ∧ FrameEnd U o U' L ({ frames := 2, cells := 0, slots := 0, locals := 24 } : Room).cells ({ frames := 2, cells := 0, slots := 0, locals := 24 } : Room).slots) := by
  refine MetFree.of_bodySF (plainFor_of_name pn_1) hisR ?_
  intro p e s m args below meth c s₁ Bd hml0 hP hK
  obtain ⟨rfl, hZ, hh⟩ := hP
  have hx := Bd.exec
  have hby := Bd.bytes
  have hml : c.maxLocals = 5 := hml0
  have hown : s.vm.findClass "com/example/epicrisis/epicrisis/lab/AstmRecord$Delimiters" = some m.cls := findClass_of_methodNamed Bd.named
  have hnm := (name_of_methodNamed Bd.named Bd.method).1
  have X0 : Stand p l e ({ frames := 2, cells := 0, slots := 0, locals := 24 } : Room) s m #[(.ref a1), (.int p2), (.int p3), (.int p4), (.int p5)] below meth c s₁ [] 0 0 := Stand.of_body Bd
  have e0 : s₁.heap = h0 := by rw [← hh, Bd.state]; rfl
  have N0 := Fr.nil n0
  have pre0 : ∀ t, Steps p.tables e below (s₁.setTop (mkF m 0 #[.val (.ref a1), .val (.int p2), .val (.int p3), .val (.int p4), .val (.int p5)] [])) t → Steps p.tables e below (s₁.setTop (entryFrame m #[(.ref a1), (.int p2), (.int p3), (.int p4), (.int p5)] 5)) t := fun t k => castTop (ef_1 m a1 p2 p3 p4 p5) k
  obtain ⟨_, _, ⟨T6, L6, k6, n6⟩, -, X6, ⟨Lc6, hQ6, l6, y6, z6⟩, st6⟩ := X0.specialBack hx (y := (⟨"java/lang/Record", "<init>", "()V"⟩ : MethodName)) rfl hown (mvT hZ (hw _ (List.mem_of_getElem? (i := 6) rfl))) (mvT hZ (hw _ (List.mem_of_getElem? (i := 7) rfl))) (mvT hZ (hw _ (List.mem_of_getElem? (i := 10) rfl))) (by decide) (backOf (W := 0) (rm2 l Z a0 hw [] a1 h0 n0 Z0) hZ (hw _ (List.mem_of_getElem? (i := 10) rfl)) (hw _ (List.mem_of_getElem? (i := 9) rfl)) (by decide) (by decide)) (g := (mkF m 1 #[.val (.ref a1), .val (.int p2), .val (.int p3), .val (.int p4), .val (.int p5)] [(.ref a1)])) rfl (by rw [hml]; rfl) (Steps.refl _) (a := a1) (argsL := []) (rest := []) (lenOf pd_1_1 rfl) rfl (by show 2 * 0 + _ ≤ _; exact Nat.le_of_eq rfl) (hb hby d1_1) (fun _ _ => ⟨rfl, e0, (by decide : 0 + 0 ≤ _), (by decide : 0 + 0 ≤ _)⟩)
  dsimp only [Pt.U, Pt.locs, Pt.cells, Pt.slots] at X6 l6 y6 z6 st6 hQ6
  subst l6 y6 z6
  obtain ⟨rfl, N6q, e6⟩ := hQ6
  have N6 := Fr.app N0 N6q
  obtain ⟨T7, h7, X7, e7, W7, st7⟩ := putFN X6 hx hZ hown (hw _ (List.mem_of_getElem? (i := 14) rfl)) Via.refl e6 F_field_a1 E_a1 (Or.inr ⟨(hw _ (List.mem_of_getElem? (i := 15) rfl)), rfl, hnm⟩) (hw _ (List.mem_of_getElem? (i := 1) rfl)) (ty := .char) (v' := (.int (nar .char p2))) (by decide) rfl (fits_nar_char _) (g := (mkF m 6 #[.val (.ref a1), .val (.int p2), .val (.int p3), .val (.int p4), .val (.int p5)] [(.int p2), (.ref a1)])) rfl rfl (hb hby d1_6)
  have Fw7 := F_field_a1.same W7
  have K7 : Keep h0 h7 [a1] := (Keep.refl h0 [a1]).wr W7 (Or.inl (List.mem_of_getElem? (i := 0) rfl))
  have N7 := Fr.snoc X7 N6 g_a1
  obtain ⟨T8, h8, X8, e8, W8, st8⟩ := putFN X7 hx hZ hown (hw _ (List.mem_of_getElem? (i := 16) rfl)) Via.refl e7 (F_repeat_a1.other W7 (Or.inr (slot_ne (Or.inr (hw _ (List.mem_of_getElem? (i := 17) rfl))) (Or.inr (hw _ (List.mem_of_getElem? (i := 15) rfl))) (by decide) (t := .char) (t' := .char) (by decide) (by decide)))) (E_a1.wr W7) (Or.inr ⟨(hw _ (List.mem_of_getElem? (i := 17) rfl)), rfl, hnm⟩) (hw _ (List.mem_of_getElem? (i := 1) rfl)) (ty := .char) (v' := (.int (nar .char p3))) (by decide) rfl (fits_nar_char _) (g := (mkF m 11 #[.val (.ref a1), .val (.int p2), .val (.int p3), .val (.int p4), .val (.int p5)] [(.int p3), (.ref a1)])) rfl rfl (hb hby d1_11)
  have Fw8 := (F_repeat_a1.other W7 (Or.inr (slot_ne (Or.inr (hw _ (List.mem_of_getElem? (i := 17) rfl))) (Or.inr (hw _ (List.mem_of_getElem? (i := 15) rfl))) (by decide) (t := .char) (t' := .char) (by decide) (by decide)))).same W8
  have K8 : Keep h0 h8 [a1] := K7.wr W8 (Or.inl (List.mem_of_getElem? (i := 0) rfl))
  have N8 := Fr.snoc X8 N7 g_a1
  obtain ⟨T9, h9, X9, e9, W9, st9⟩ := putFN X8 hx hZ hown (hw _ (List.mem_of_getElem? (i := 18) rfl)) Via.refl e8 ((F_component_a1.other W7 (Or.inr (slot_ne (Or.inr (hw _ (List.mem_of_getElem? (i := 19) rfl))) (Or.inr (hw _ (List.mem_of_getElem? (i := 15) rfl))) (by decide) (t := .char) (t' := .char) (by decide) (by decide)))).other W8 (Or.inr (slot_ne (Or.inr (hw _ (List.mem_of_getElem? (i := 19) rfl))) (Or.inr (hw _ (List.mem_of_getElem? (i := 17) rfl))) (by decide) (t := .char) (t' := .char) (by decide) (by decide)))) ((E_a1.wr W7).wr W8) (Or.inr ⟨(hw _ (List.mem_of_getElem? (i := 19) rfl)), rfl, hnm⟩) (hw _ (List.mem_of_getElem? (i := 1) rfl)) (ty := .char) (v' := (.int (nar .char p4))) (by decide) rfl (fits_nar_char _) (g := (mkF m 16 #[.val (.ref a1), .val (.int p2), .val (.int p3), .val (.int p4), .val (.int p5)] [(.int p4), (.ref a1)])) rfl rfl (hb hby d1_16)
  have Fw9 := ((F_component_a1.other W7 (Or.inr (slot_ne (Or.inr (hw _ (List.mem_of_getElem? (i := 19) rfl))) (Or.inr (hw _ (List.mem_of_getElem? (i := 15) rfl))) (by decide) (t := .char) (t' := .char) (by decide) (by decide)))).other W8 (Or.inr (slot_ne (Or.inr (hw _ (List.mem_of_getElem? (i := 19) rfl))) (Or.inr (hw _ (List.mem_of_getElem? (i := 17) rfl))) (by decide) (t := .char) (t' := .char) (by decide) (by decide)))).same W9
  have K9 : Keep h0 h9 [a1] := K8.wr W9 (Or.inl (List.mem_of_getElem? (i := 0) rfl))
  have N9 := Fr.snoc X9 N8 g_a1
  obtain ⟨T10, h10, X10, e10, W10, st10⟩ := putFN X9 hx hZ hown (hw _ (List.mem_of_getElem? (i := 20) rfl)) Via.refl e9 (((F_escape_a1.other W7 (Or.inr (slot_ne (Or.inr (hw _ (List.mem_of_getElem? (i := 21) rfl))) (Or.inr (hw _ (List.mem_of_getElem? (i := 15) rfl))) (by decide) (t := .char) (t' := .char) (by decide) (by decide)))).other W8 (Or.inr (slot_ne (Or.inr (hw _ (List.mem_of_getElem? (i := 21) rfl))) (Or.inr (hw _ (List.mem_of_getElem? (i := 17) rfl))) (by decide) (t := .char) (t' := .char) (by decide) (by decide)))).other W9 (Or.inr (slot_ne (Or.inr (hw _ (List.mem_of_getElem? (i := 21) rfl))) (Or.inr (hw _ (List.mem_of_getElem? (i := 19) rfl))) (by decide) (t := .char) (t' := .char) (by decide) (by decide)))) (((E_a1.wr W7).wr W8).wr W9) (Or.inr ⟨(hw _ (List.mem_of_getElem? (i := 21) rfl)), rfl, hnm⟩) (hw _ (List.mem_of_getElem? (i := 1) rfl)) (ty := .char) (v' := (.int (nar .char p5))) (by decide) rfl (fits_nar_char _) (g := (mkF m 22 #[.val (.ref a1), .val (.int p2), .val (.int p3), .val (.int p4), .val (.int p5)] [(.int p5), (.ref a1)])) rfl rfl (hb hby d1_22)
  have Fw10 := (((F_escape_a1.other W7 (Or.inr (slot_ne (Or.inr (hw _ (List.mem_of_getElem? (i := 21) rfl))) (Or.inr (hw _ (List.mem_of_getElem? (i := 15) rfl))) (by decide) (t := .char) (t' := .char) (by decide) (by decide)))).other W8 (Or.inr (slot_ne (Or.inr (hw _ (List.mem_of_getElem? (i := 21) rfl))) (Or.inr (hw _ (List.mem_of_getElem? (i := 17) rfl))) (by decide) (t := .char) (t' := .char) (by decide) (by decide)))).other W9 (Or.inr (slot_ne (Or.inr (hw _ (List.mem_of_getElem? (i := 21) rfl))) (Or.inr (hw _ (List.mem_of_getElem? (i := 19) rfl))) (by decide) (t := .char) (t' := .char) (by decide) (by decide)))).same W10
  have K10 : Keep h0 h10 [a1] := K9.wr W10 (Or.inl (List.mem_of_getElem? (i := 0) rfl))
  have N10 := Fr.snoc X10 N9 g_a1
  obtain ⟨fs, hr, hrun, hended, hW, hsame⟩ := X10.leave (v := none) (fun _ => rfl)
  refine ⟨_, _, pre0 _ ?_, hrun, hended, _, _, rfl, ?_, ⟨_, rfl⟩, hW, hsame.mono (by decide) (by decide)⟩
  · show Steps p.tables e below (s₁.setTop (mkF m 0 #[.val (.ref a1), .val (.int p2), .val (.int p3), .val (.int p4), .val (.int p5)] [])) _
    refine XS.aloadN X0.here hx rfl (hb hby d1_0) rfl rfl ?_
    show Steps p.tables e below (s₁.setTop (mkF m 1 #[.val (.ref a1), .val (.int p2), .val (.int p3), .val (.int p4), .val (.int p5)] [(.ref a1)])) _
    refine st6.trans ?_
    show Steps p.tables e below (T6.setTop (mkF m 4 #[.val (.ref a1), .val (.int p2), .val (.int p3), .val (.int p4), .val (.int p5)] [])) _
    refine XS.aloadN X6.here hx rfl (hb hby d1_4) rfl rfl ?_
    show Steps p.tables e below (T6.setTop (mkF m 5 #[.val (.ref a1), .val (.int p2), .val (.int p3), .val (.int p4), .val (.int p5)] [(.ref a1)])) _
    refine XS.iloadN X6.here hx rfl (hb hby d1_5) rfl ?_
    show Steps p.tables e below (T6.setTop (mkF m 6 #[.val (.ref a1), .val (.int p2), .val (.int p3), .val (.int p4), .val (.int p5)] [(.int p2), (.ref a1)])) _
    refine st7 _ ?_
    show Steps p.tables e below (T7.setTop (mkF m 9 #[.val (.ref a1), .val (.int p2), .val (.int p3), .val (.int p4), .val (.int p5)] [])) _
    refine XS.aloadN X7.here hx rfl (hb hby d1_9) rfl rfl ?_
    show Steps p.tables e below (T7.setTop (mkF m 10 #[.val (.ref a1), .val (.int p2), .val (.int p3), .val (.int p4), .val (.int p5)] [(.ref a1)])) _
    refine XS.iloadN X7.here hx rfl (hb hby d1_10) rfl ?_
    show Steps p.tables e below (T7.setTop (mkF m 11 #[.val (.ref a1), .val (.int p2), .val (.int p3), .val (.int p4), .val (.int p5)] [(.int p3), (.ref a1)])) _
    refine st8 _ ?_
    show Steps p.tables e below (T8.setTop (mkF m 14 #[.val (.ref a1), .val (.int p2), .val (.int p3), .val (.int p4), .val (.int p5)] [])) _
    refine XS.aloadN X8.here hx rfl (hb hby d1_14) rfl rfl ?_
    show Steps p.tables e below (T8.setTop (mkF m 15 #[.val (.ref a1), .val (.int p2), .val (.int p3), .val (.int p4), .val (.int p5)] [(.ref a1)])) _
    refine XS.iloadN X8.here hx rfl (hb hby d1_15) rfl ?_
    show Steps p.tables e below (T8.setTop (mkF m 16 #[.val (.ref a1), .val (.int p2), .val (.int p3), .val (.int p4), .val (.int p5)] [(.int p4), (.ref a1)])) _
    refine st9 _ ?_
    show Steps p.tables e below (T9.setTop (mkF m 19 #[.val (.ref a1), .val (.int p2), .val (.int p3), .val (.int p4), .val (.int p5)] [])) _
    refine XS.aloadN X9.here hx rfl (hb hby d1_19) rfl rfl ?_
    show Steps p.tables e below (T9.setTop (mkF m 20 #[.val (.ref a1), .val (.int p2), .val (.int p3), .val (.int p4), .val (.int p5)] [(.ref a1)])) _
    refine XS.iload X9.here hx rfl (hb hby d1_20) rfl ?_
    show Steps p.tables e below (T9.setTop (mkF m 22 #[.val (.ref a1), .val (.int p2), .val (.int p3), .val (.int p4), .val (.int p5)] [(.int p5), (.ref a1)])) _
    refine st10 _ ?_
    show Steps p.tables e below (T10.setTop (mkF m 25 #[.val (.ref a1), .val (.int p2), .val (.int p3), .val (.int p4), .val (.int p5)] [])) _
    exact X10.returnOut hx Bd.returns (hb hby d1_25) hr
  · show Q1 Z a1 p2 p3 p4 p5 u_field_a1 u_repeat_a1 u_component_a1 u_escape_a1 h0 n0 _ T10.heap _
    rw [e10]
    exact ⟨rfl, N10, K10, ((((E_a1.wr W7).wr W8).wr W9).wr W10), (((Fw7.other W8 (Or.inr (slot_ne (Or.inr (hw _ (List.mem_of_getElem? (i := 15) rfl))) (Or.inr (hw _ (List.mem_of_getElem? (i := 17) rfl))) (by decide) (t := .char) (t' := .char) (by decide) (by decide)))).other W9 (Or.inr (slot_ne (Or.inr (hw _ (List.mem_of_getElem? (i := 15) rfl))) (Or.inr (hw _ (List.mem_of_getElem? (i := 19) rfl))) (by decide) (t := .char) (t' := .char) (by decide) (by decide)))).other W10 (Or.inr (slot_ne (Or.inr (hw _ (List.mem_of_getElem? (i := 15) rfl))) (Or.inr (hw _ (List.mem_of_getElem? (i := 21) rfl))) (by decide) (t := .char) (t' := .char) (by decide) (by decide)))), ((Fw8.other W9 (Or.inr (slot_ne (Or.inr (hw _ (List.mem_of_getElem? (i := 17) rfl))) (Or.inr (hw _ (List.mem_of_getElem? (i := 19) rfl))) (by decide) (t := .char) (t' := .char) (by decide) (by decide)))).other W10 (Or.inr (slot_ne (Or.inr (hw _ (List.mem_of_getElem? (i := 17) rfl))) (Or.inr (hw _ (List.mem_of_getElem? (i := 21) rfl))) (by decide) (t := .char) (t' := .char) (by decide) (by decide)))), (Fw9.other W10 (Or.inr (slot_ne (Or.inr (hw _ (List.mem_of_getElem? (i := 19) rfl))) (Or.inr (hw _ (List.mem_of_getElem? (i := 21) rfl))) (by decide) (t := .char) (t' := .char) (by decide) (by decide)))), Fw10⟩
theorem d4_0 : decode prog_69_method_3_code 0 = .ok (.iload_n 1, 1) := by decide +kernel
theorem d4_1 : decode prog_69_method_3_code 1 = .ok (.lookupswitch 63 #[(69, 58), (70, 43), (82, 53), (83, 48)], 43) := by decide +kernel
theorem d4_44 : decode prog_69_method_3_code 44 = .ok (.aload_n 0, 1) := by decide +kernel
theorem d4_45 : decode prog_69_method_3_code 45 = .ok (.getfield 7, 3) := by decide +kernel
theorem d4_48 : decode prog_69_method_3_code 48 = .ok (.ireturn, 1) := by decide +kernel
theorem d4_49 : decode prog_69_method_3_code 49 = .ok (.aload_n 0, 1) := by decide +kernel
theorem d4_50 : decode prog_69_method_3_code 50 = .ok (.getfield 16, 3) := by decide +kernel
theorem d4_53 : decode prog_69_method_3_code 53 = .ok (.ireturn, 1) := by decide +kernel
theorem d4_54 : decode prog_69_method_3_code 54 = .ok (.aload_n 0, 1) := by decide +kernel
theorem d4_55 : decode prog_69_method_3_code 55 = .ok (.getfield 13, 3) := by decide +kernel
theorem d4_58 : decode prog_69_method_3_code 58 = .ok (.ireturn, 1) := by decide +kernel
theorem d4_59 : decode prog_69_method_3_code 59 = .ok (.aload_n 0, 1) := by decide +kernel
theorem d4_60 : decode prog_69_method_3_code 60 = .ok (.getfield 19, 3) := by decide +kernel
theorem d4_63 : decode prog_69_method_3_code 63 = .ok (.ireturn, 1) := by decide +kernel
theorem d4_64 : decode prog_69_method_3_code 64 = .ok (.iconst 0, 1) := by decide +kernel
theorem d4_65 : decode prog_69_method_3_code 65 = .ok (.ireturn, 1) := by decide +kernel
theorem ef_4 (m : MethodId) (x0 : Addr) (x1 : Int32) : entryFrame m #[(.ref x0), (.int x1)] 2 = mkF m 0 #[.val (.ref x0), .val (.int x1)] [] := by first | (simp [entryFrame, mkF, argsToLocals, Value.category]; done) | rfl
def Q4 (Z : State) (a1 : Addr) (p2 : Int32) (w1 : Int32) (w2 : Int32) (w3 : Int32) (w4 : Int32) (h0 : Heap) (n0 : Nat) (v : Option Value) (h : Heap) (L : List Loc) : Prop := (∃ z : Int32, v = some (.int z) ∧ z = if p2 = (70 : Int32) then nar .char w1 else if p2 = (83 : Int32) then nar .char w3 else if p2 = (82 : Int32) then nar .char w2 else if p2 = (69 : Int32) then nar .char w4 else (0 : Int32)) ∧ Fr n0 L ∧ h = h0
set_option maxRecDepth 65536 in
set_option maxHeartbeats 40000000 in
theorem rm4 (l : Launch) (Z : State) (a0 : Array Value) (hw : ∀ d ∈ tables_1, d.before a0 Z = true) (ws : List Jvm.Cond) (a1 : Addr) (p2 : Int32) (w1 : Int32) (w2 : Int32) (w3 : Int32) (w4 : Int32) (h0 : Heap) (n0 : Nat) (Z0 : n0 ≤ h0.size) (F_field : Fld Z h0 a1 "com/example/epicrisis/epicrisis/lab/AstmRecord$Delimiters" "field" "C" (.int w1)) (F_repeat : Fld Z h0 a1 "com/example/epicrisis/epicrisis/lab/AstmRecord$Delimiters" "repeat" "C" (.int w2)) (F_component : Fld Z h0 a1 "com/example/epicrisis/epicrisis/lab/AstmRecord$Delimiters" "component" "C" (.int w3)) (F_escape : Fld Z h0 a1 "com/example/epicrisis/epicrisis/lab/AstmRecord$Delimiters" "escape" "C" (.int w4)) :
    MetFree l (⟨"com/example/epicrisis/epicrisis/lab/AstmRecord$Delimiters", "escaped", "(C)C"⟩ : MethodName) (head1 (Jvm.Cond.code (⟨"com/example/epicrisis/epicrisis/lab/AstmRecord$Delimiters", "escaped", "(C)C"⟩ : MethodName) prog_69_method_3_code 2 (some .char) :: ws) ({ frames := 0, cells := 0, slots := 0, locals := 0 } : Room)) (fun a U => a = #[(.ref a1), (.int p2)] ∧ Z.Warmed39 U.vm ∧ U.heap = h0) (fun _ _ _ _ _ => True) (fun _ U o U' => ∃ v L, o = .returned v ∧ Q4 Z a1 p2 w1 w2 w3 w4 h0 n0 v U'.heap L ∧ FrameEnd U o U' L ({ frames := 0, cells := 0, slots := 0, locals := 0 } : Room).cells ({ frames := 0, cells := 0, slots := 0, locals := 0 } : Room).slots) := by
  refine MetFree.of_bodySF (plainFor_of_name pn_1) hisR ?_
  intro p e s m args below meth c s₁ Bd hml0 hP hK
  obtain ⟨rfl, hZ, hh⟩ := hP
  have hx := Bd.exec
  have hby := Bd.bytes
  have hml : c.maxLocals = 2 := hml0
  have hown : s.vm.findClass "com/example/epicrisis/epicrisis/lab/AstmRecord$Delimiters" = some m.cls := findClass_of_methodNamed Bd.named
  have hnm := (name_of_methodNamed Bd.named Bd.method).1
  have X0 : Stand p l e ({ frames := 0, cells := 0, slots := 0, locals := 0 } : Room) s m #[(.ref a1), (.int p2)] below meth c s₁ [] 0 0 := Stand.of_body Bd
  have e0 : s₁.heap = h0 := by rw [← hh, Bd.state]; rfl
  have N0 := Fr.nil n0
  have pre0 : ∀ t, Steps p.tables e below (s₁.setTop (mkF m 0 #[.val (.ref a1), .val (.int p2)] [])) t → Steps p.tables e below (s₁.setTop (entryFrame m #[(.ref a1), (.int p2)] 2)) t := fun t k => castTop (ef_4 m a1 p2) k
  by_cases c70 : p2 = (70 : Int32)
  · obtain ⟨T5, X5, e5, st5⟩ := getF X0 hx hZ hown (host := "") (Or.inl (hw _ (List.mem_of_getElem? (i := 14) rfl))) Via.refl e0 F_field (g := (mkF m 45 #[.val (.ref a1), .val (.int p2)] [(.ref a1)])) rfl rfl (hb hby d4_45)
    obtain ⟨fs, hr, hrun, hended, hW, hsame⟩ := X5.leave (v := some (.int (nar .char w1))) (fun h => by rw [Bd.returns] at h; cases h)
    refine ⟨_, _, pre0 _ ?_, hrun, hended, _, _, rfl, ?_, ⟨_, rfl⟩, hW, hsame.mono (by decide) (by decide)⟩
    · show Steps p.tables e below (s₁.setTop (mkF m 0 #[.val (.ref a1), .val (.int p2)] [])) _
      refine XS.iloadN X0.here hx rfl (hb hby d4_0) rfl ?_
      show Steps p.tables e below (s₁.setTop (mkF m 1 #[.val (.ref a1), .val (.int p2)] [(.int p2)])) _
      refine X0.lookupswitchHit hx (g := (mkF m 1 #[.val (.ref a1), .val (.int p2)] [(.int p2)])) rfl (k := p2) (rest := []) rfl (hb hby d4_1) (by decide) (a := 70) (off := 43) (by rw [c70]; decide) (by show (0 : Int) ≤ (1 : Nat) + 43; decide) _ ?_
      show Steps p.tables e below (s₁.setTop (mkF m 44 #[.val (.ref a1), .val (.int p2)] [])) _
      refine XS.aloadN X0.here hx rfl (hb hby d4_44) rfl rfl ?_
      show Steps p.tables e below (s₁.setTop (mkF m 45 #[.val (.ref a1), .val (.int p2)] [(.ref a1)])) _
      refine st5 _ ?_
      show Steps p.tables e below (T5.setTop (mkF m 48 #[.val (.ref a1), .val (.int p2)] [(.int w1)])) _
      exact retN X5 hx (t := .char) Bd.returns (by simp) (hb hby d4_48) hr
    · show Q4 Z a1 p2 w1 w2 w3 w4 h0 n0 _ T5.heap _
      rw [e5]
      exact ⟨⟨_, rfl, by rw [if_pos c70]⟩, N0, rfl⟩
  · by_cases c83 : p2 = (83 : Int32)
    · obtain ⟨T5, X5, e5, st5⟩ := getF X0 hx hZ hown (host := "") (Or.inl (hw _ (List.mem_of_getElem? (i := 18) rfl))) Via.refl e0 F_component (g := (mkF m 50 #[.val (.ref a1), .val (.int p2)] [(.ref a1)])) rfl rfl (hb hby d4_50)
      obtain ⟨fs, hr, hrun, hended, hW, hsame⟩ := X5.leave (v := some (.int (nar .char w3))) (fun h => by rw [Bd.returns] at h; cases h)
      refine ⟨_, _, pre0 _ ?_, hrun, hended, _, _, rfl, ?_, ⟨_, rfl⟩, hW, hsame.mono (by decide) (by decide)⟩
      · show Steps p.tables e below (s₁.setTop (mkF m 0 #[.val (.ref a1), .val (.int p2)] [])) _
        refine XS.iloadN X0.here hx rfl (hb hby d4_0) rfl ?_
        show Steps p.tables e below (s₁.setTop (mkF m 1 #[.val (.ref a1), .val (.int p2)] [(.int p2)])) _
        refine X0.lookupswitchHit hx (g := (mkF m 1 #[.val (.ref a1), .val (.int p2)] [(.int p2)])) rfl (k := p2) (rest := []) rfl (hb hby d4_1) (by decide) (a := 83) (off := 48) (by rw [c83]; decide) (by show (0 : Int) ≤ (1 : Nat) + 48; decide) _ ?_
        show Steps p.tables e below (s₁.setTop (mkF m 49 #[.val (.ref a1), .val (.int p2)] [])) _
        refine XS.aloadN X0.here hx rfl (hb hby d4_49) rfl rfl ?_
        show Steps p.tables e below (s₁.setTop (mkF m 50 #[.val (.ref a1), .val (.int p2)] [(.ref a1)])) _
        refine st5 _ ?_
        show Steps p.tables e below (T5.setTop (mkF m 53 #[.val (.ref a1), .val (.int p2)] [(.int w3)])) _
        exact retN X5 hx (t := .char) Bd.returns (by simp) (hb hby d4_53) hr
      · show Q4 Z a1 p2 w1 w2 w3 w4 h0 n0 _ T5.heap _
        rw [e5]
        exact ⟨⟨_, rfl, by rw [if_neg c70, if_pos c83]⟩, N0, rfl⟩
    · by_cases c82 : p2 = (82 : Int32)
      · obtain ⟨T5, X5, e5, st5⟩ := getF X0 hx hZ hown (host := "") (Or.inl (hw _ (List.mem_of_getElem? (i := 16) rfl))) Via.refl e0 F_repeat (g := (mkF m 55 #[.val (.ref a1), .val (.int p2)] [(.ref a1)])) rfl rfl (hb hby d4_55)
        obtain ⟨fs, hr, hrun, hended, hW, hsame⟩ := X5.leave (v := some (.int (nar .char w2))) (fun h => by rw [Bd.returns] at h; cases h)
        refine ⟨_, _, pre0 _ ?_, hrun, hended, _, _, rfl, ?_, ⟨_, rfl⟩, hW, hsame.mono (by decide) (by decide)⟩
        · show Steps p.tables e below (s₁.setTop (mkF m 0 #[.val (.ref a1), .val (.int p2)] [])) _
          refine XS.iloadN X0.here hx rfl (hb hby d4_0) rfl ?_
          show Steps p.tables e below (s₁.setTop (mkF m 1 #[.val (.ref a1), .val (.int p2)] [(.int p2)])) _
          refine X0.lookupswitchHit hx (g := (mkF m 1 #[.val (.ref a1), .val (.int p2)] [(.int p2)])) rfl (k := p2) (rest := []) rfl (hb hby d4_1) (by decide) (a := 82) (off := 53) (by rw [c82]; decide) (by show (0 : Int) ≤ (1 : Nat) + 53; decide) _ ?_
          show Steps p.tables e below (s₁.setTop (mkF m 54 #[.val (.ref a1), .val (.int p2)] [])) _
          refine XS.aloadN X0.here hx rfl (hb hby d4_54) rfl rfl ?_
          show Steps p.tables e below (s₁.setTop (mkF m 55 #[.val (.ref a1), .val (.int p2)] [(.ref a1)])) _
          refine st5 _ ?_
          show Steps p.tables e below (T5.setTop (mkF m 58 #[.val (.ref a1), .val (.int p2)] [(.int w2)])) _
          exact retN X5 hx (t := .char) Bd.returns (by simp) (hb hby d4_58) hr
        · show Q4 Z a1 p2 w1 w2 w3 w4 h0 n0 _ T5.heap _
          rw [e5]
          exact ⟨⟨_, rfl, by rw [if_neg c70, if_neg c83, if_pos c82]⟩, N0, rfl⟩
      · by_cases c69 : p2 = (69 : Int32)
        · obtain ⟨T5, X5, e5, st5⟩ := getF X0 hx hZ hown (host := "") (Or.inl (hw _ (List.mem_of_getElem? (i := 20) rfl))) Via.refl e0 F_escape (g := (mkF m 60 #[.val (.ref a1), .val (.int p2)] [(.ref a1)])) rfl rfl (hb hby d4_60)
          obtain ⟨fs, hr, hrun, hended, hW, hsame⟩ := X5.leave (v := some (.int (nar .char w4))) (fun h => by rw [Bd.returns] at h; cases h)
          refine ⟨_, _, pre0 _ ?_, hrun, hended, _, _, rfl, ?_, ⟨_, rfl⟩, hW, hsame.mono (by decide) (by decide)⟩
          · show Steps p.tables e below (s₁.setTop (mkF m 0 #[.val (.ref a1), .val (.int p2)] [])) _
            refine XS.iloadN X0.here hx rfl (hb hby d4_0) rfl ?_
            show Steps p.tables e below (s₁.setTop (mkF m 1 #[.val (.ref a1), .val (.int p2)] [(.int p2)])) _
            refine X0.lookupswitchHit hx (g := (mkF m 1 #[.val (.ref a1), .val (.int p2)] [(.int p2)])) rfl (k := p2) (rest := []) rfl (hb hby d4_1) (by decide) (a := 69) (off := 58) (by rw [c69]; decide) (by show (0 : Int) ≤ (1 : Nat) + 58; decide) _ ?_
            show Steps p.tables e below (s₁.setTop (mkF m 59 #[.val (.ref a1), .val (.int p2)] [])) _
            refine XS.aloadN X0.here hx rfl (hb hby d4_59) rfl rfl ?_
            show Steps p.tables e below (s₁.setTop (mkF m 60 #[.val (.ref a1), .val (.int p2)] [(.ref a1)])) _
            refine st5 _ ?_
            show Steps p.tables e below (T5.setTop (mkF m 63 #[.val (.ref a1), .val (.int p2)] [(.int w4)])) _
            exact retN X5 hx (t := .char) Bd.returns (by simp) (hb hby d4_63) hr
          · show Q4 Z a1 p2 w1 w2 w3 w4 h0 n0 _ T5.heap _
            rw [e5]
            exact ⟨⟨_, rfl, by rw [if_neg c70, if_neg c83, if_neg c82, if_pos c69]⟩, N0, rfl⟩
        · obtain ⟨fs, hr, hrun, hended, hW, hsame⟩ := X0.leave (v := some (.int (0 : Int32))) (fun h => by rw [Bd.returns] at h; cases h)
          refine ⟨_, _, pre0 _ ?_, hrun, hended, _, _, rfl, ?_, ⟨_, rfl⟩, hW, hsame.mono (by decide) (by decide)⟩
          · show Steps p.tables e below (s₁.setTop (mkF m 0 #[.val (.ref a1), .val (.int p2)] [])) _
            refine XS.iloadN X0.here hx rfl (hb hby d4_0) rfl ?_
            show Steps p.tables e below (s₁.setTop (mkF m 1 #[.val (.ref a1), .val (.int p2)] [(.int p2)])) _
            have mis : (#[(69, 58), (70, 43), (82, 53), (83, 48)] : Array (Int × Int)).find? (·.1 == p2.toInt) = none := by
              refine Array.find?_eq_none.mpr ?_
              intro y hy q
              simp only [List.mem_toArray, List.mem_cons, List.not_mem_nil, or_false] at hy
              have q := eq_of_beq q
              rcases hy with rfl | rfl | rfl | rfl
              · exact own_miss c69 (by decide) q
              · exact own_miss c70 (by decide) q
              · exact own_miss c82 (by decide) q
              · exact own_miss c83 (by decide) q
            refine X0.lookupswitchMiss hx (g := (mkF m 1 #[.val (.ref a1), .val (.int p2)] [(.int p2)])) rfl (k := p2) (rest := []) rfl (hb hby d4_1) (by decide) mis (by show (0 : Int) ≤ (1 : Nat) + 63; decide) _ ?_
            show Steps p.tables e below (s₁.setTop (mkF m 64 #[.val (.ref a1), .val (.int p2)] [])) _
            refine XS.iconst X0.here hx rfl (hb hby d4_64) ?_
            show Steps p.tables e below (s₁.setTop (mkF m 65 #[.val (.ref a1), .val (.int p2)] [(.int (0 : Int32))])) _
            exact retN X0 hx (t := .char) Bd.returns (by simp) (hb hby d4_65) hr
          · show Q4 Z a1 p2 w1 w2 w3 w4 h0 n0 _ s₁.heap _
            rw [e0]
            exact ⟨⟨_, rfl, by rw [if_neg c70, if_neg c83, if_neg c82, if_neg c69]⟩, N0, rfl⟩
theorem pd_1 : parseMethodDescriptor "(CCCC)V" = some ⟨[.char, .char, .char, .char], none⟩ := by decide +kernel
theorem pd_4 : parseMethodDescriptor "(C)C" = some ⟨[.char], some .char⟩ := by decide +kernel
theorem pn_0 : plainName "com/example/epicrisis/epicrisis/lab/DelimitersEscapedPinLaw" = true := by first | (simp [plainName, overriddenIn]; done) | decide +kernel
theorem ef_0 (m : MethodId) (x0 : Int32) (x1 : Int32) (x2 : Int32) (x3 : Int32) (x4 : Int32) (x5 : Int32) : entryFrame m #[(.int x0), (.int x1), (.int x2), (.int x3), (.int x4), (.int x5)] maxLocals = mkF m 0 #[.val (.int x0), .val (.int x1), .val (.int x2), .val (.int x3), .val (.int x4), .val (.int x5), .unset, .unset, .unset, .unset, .unset, .unset, .unset, .unset, .unset] [] := by first | (simp [entryFrame, mkF, argsToLocals, Value.category, maxLocals]; done) | rfl
def Q0 (Z : State) (p1 : Int32) (p2 : Int32) (p3 : Int32) (p4 : Int32) (p5 : Int32) (p6 : Int32) (h0 : Heap) (n0 : Nat) (v : Option Value) (h : Heap) (L : List Loc) : Prop := v = some (.int 1) ∧ Fr n0 L
set_option maxRecDepth 65536 in
set_option maxHeartbeats 40000000 in
theorem rm0 (l : Launch) (Z : State) (a0 : Array Value) (hw : ∀ d ∈ tables_1, d.before a0 Z = true) (ws : List Jvm.Cond) (p1 : Int32) (p2 : Int32) (p3 : Int32) (p4 : Int32) (p5 : Int32) (p6 : Int32) (h0 : Heap) (n0 : Nat) (Z0 : n0 ≤ h0.size) :
    MetFree l x (head1 (Jvm.Cond.code x code maxLocals ret :: ws) room_1) (fun a U => a = #[(.int p1), (.int p2), (.int p3), (.int p4), (.int p5), (.int p6)] ∧ Z.Warmed39 U.vm ∧ U.heap = h0) (fun _ _ _ _ _ => True) (fun _ U o U' => ∃ v L, o = .returned v ∧ Q0 Z p1 p2 p3 p4 p5 p6 h0 n0 v U'.heap L ∧ FrameEnd U o U' L room_1.cells room_1.slots) := by
  refine MetFree.of_bodySF (plainFor_of_name pn_0) hisR ?_
  intro p e s m args below meth c s₁ Bd hml0 hP hK
  obtain ⟨rfl, hZ, hh⟩ := hP
  have hx := Bd.exec
  have hby := Bd.bytes
  have hml : c.maxLocals = 15 := hml0
  have hown : s.vm.findClass "com/example/epicrisis/epicrisis/lab/DelimitersEscapedPinLaw" = some m.cls := findClass_of_methodNamed Bd.named
  have hnm := (name_of_methodNamed Bd.named Bd.method).1
  have X0 : Stand p l e room_1 s m #[(.int p1), (.int p2), (.int p3), (.int p4), (.int p5), (.int p6)] below meth c s₁ [] 0 0 := Stand.of_body Bd
  have e0 : s₁.heap = h0 := by rw [← hh, Bd.state]; rfl
  have N0 := Fr.nil n0
  have pre0 : ∀ t, Steps p.tables e below (s₁.setTop (mkF m 0 #[.val (.int p1), .val (.int p2), .val (.int p3), .val (.int p4), .val (.int p5), .val (.int p6), .unset, .unset, .unset, .unset, .unset, .unset, .unset, .unset, .unset] [])) t → Steps p.tables e below (s₁.setTop (entryFrame m #[(.int p1), (.int p2), (.int p3), (.int p4), (.int p5), (.int p6)] maxLocals)) t := fun t k => castTop (ef_0 m p1 p2 p3 p4 p5 p6) k
  obtain ⟨ch1, ch2, ch3, ch4, kk, hsA, sA⟩ : ∃ (ch1 : Int32) (ch2 : Int32) (ch3 : Int32) (ch4 : Int32) (kk : Int32), (nar .char (nar .char ch1) = ch1 ∧ nar .char (nar .char ch2) = ch2 ∧ nar .char (nar .char ch3) = ch3 ∧ nar .char (nar .char ch4) = ch4) ∧ ∀ t, Steps p.tables e below (s₁.setTop (mkF m 23 #[.val (.int p1), .val (.int p2), .val (.int p3), .val (.int p4), .val (.int p5), .val (.int p6), .val (.int ch1), .val (.int ch2), .val (.int ch3), .val (.int ch4), .val (.int kk), .unset, .unset, .unset, .unset] [])) t → Steps p.tables e below (s₁.setTop (mkF m 0 #[.val (.int p1), .val (.int p2), .val (.int p3), .val (.int p4), .val (.int p5), .val (.int p6), .unset, .unset, .unset, .unset, .unset, .unset, .unset, .unset, .unset] [])) t := by
    refine ⟨(p1.toUInt32.toUInt16.toUInt32.toInt32), (p2.toUInt32.toUInt16.toUInt32.toInt32), (p3.toUInt32.toUInt16.toUInt32.toInt32), (p4.toUInt32.toUInt16.toUInt32.toInt32), (p6 &&& (7 : Int32)), ⟨own_nar p1, own_nar p2, own_nar p3, own_nar p4⟩, fun t k => ?_⟩
    show Steps p.tables e below (s₁.setTop (mkF m 0 #[.val (.int p1), .val (.int p2), .val (.int p3), .val (.int p4), .val (.int p5), .val (.int p6), .unset, .unset, .unset, .unset, .unset, .unset, .unset, .unset, .unset] [])) _
    refine XS.iloadN X0.here hx rfl (hb hby at_0) rfl ?_
    show Steps p.tables e below (s₁.setTop (mkF m 1 #[.val (.int p1), .val (.int p2), .val (.int p3), .val (.int p4), .val (.int p5), .val (.int p6), .unset, .unset, .unset, .unset, .unset, .unset, .unset, .unset, .unset] [(.int p1)])) _
    refine XS.i2c X0.here hx rfl (hb hby at_1) rfl ?_
    show Steps p.tables e below (s₁.setTop (mkF m 2 #[.val (.int p1), .val (.int p2), .val (.int p3), .val (.int p4), .val (.int p5), .val (.int p6), .unset, .unset, .unset, .unset, .unset, .unset, .unset, .unset, .unset] [(.int (p1.toUInt32.toUInt16.toUInt32.toInt32))])) _
    refine XS.istore X0.here hx rfl (hb hby at_2) rfl (l' := #[.val (.int p1), .val (.int p2), .val (.int p3), .val (.int p4), .val (.int p5), .val (.int p6), .val (.int (p1.toUInt32.toUInt16.toUInt32.toInt32)), .unset, .unset, .unset, .unset, .unset, .unset, .unset, .unset]) rfl ?_
    show Steps p.tables e below (s₁.setTop (mkF m 4 #[.val (.int p1), .val (.int p2), .val (.int p3), .val (.int p4), .val (.int p5), .val (.int p6), .val (.int (p1.toUInt32.toUInt16.toUInt32.toInt32)), .unset, .unset, .unset, .unset, .unset, .unset, .unset, .unset] [])) _
    refine XS.iloadN X0.here hx rfl (hb hby at_4) rfl ?_
    show Steps p.tables e below (s₁.setTop (mkF m 5 #[.val (.int p1), .val (.int p2), .val (.int p3), .val (.int p4), .val (.int p5), .val (.int p6), .val (.int (p1.toUInt32.toUInt16.toUInt32.toInt32)), .unset, .unset, .unset, .unset, .unset, .unset, .unset, .unset] [(.int p2)])) _
    refine XS.i2c X0.here hx rfl (hb hby at_5) rfl ?_
    show Steps p.tables e below (s₁.setTop (mkF m 6 #[.val (.int p1), .val (.int p2), .val (.int p3), .val (.int p4), .val (.int p5), .val (.int p6), .val (.int (p1.toUInt32.toUInt16.toUInt32.toInt32)), .unset, .unset, .unset, .unset, .unset, .unset, .unset, .unset] [(.int (p2.toUInt32.toUInt16.toUInt32.toInt32))])) _
    refine XS.istore X0.here hx rfl (hb hby at_6) rfl (l' := #[.val (.int p1), .val (.int p2), .val (.int p3), .val (.int p4), .val (.int p5), .val (.int p6), .val (.int (p1.toUInt32.toUInt16.toUInt32.toInt32)), .val (.int (p2.toUInt32.toUInt16.toUInt32.toInt32)), .unset, .unset, .unset, .unset, .unset, .unset, .unset]) rfl ?_
    show Steps p.tables e below (s₁.setTop (mkF m 8 #[.val (.int p1), .val (.int p2), .val (.int p3), .val (.int p4), .val (.int p5), .val (.int p6), .val (.int (p1.toUInt32.toUInt16.toUInt32.toInt32)), .val (.int (p2.toUInt32.toUInt16.toUInt32.toInt32)), .unset, .unset, .unset, .unset, .unset, .unset, .unset] [])) _
    refine XS.iloadN X0.here hx rfl (hb hby at_8) rfl ?_
    show Steps p.tables e below (s₁.setTop (mkF m 9 #[.val (.int p1), .val (.int p2), .val (.int p3), .val (.int p4), .val (.int p5), .val (.int p6), .val (.int (p1.toUInt32.toUInt16.toUInt32.toInt32)), .val (.int (p2.toUInt32.toUInt16.toUInt32.toInt32)), .unset, .unset, .unset, .unset, .unset, .unset, .unset] [(.int p3)])) _
    refine XS.i2c X0.here hx rfl (hb hby at_9) rfl ?_
    show Steps p.tables e below (s₁.setTop (mkF m 10 #[.val (.int p1), .val (.int p2), .val (.int p3), .val (.int p4), .val (.int p5), .val (.int p6), .val (.int (p1.toUInt32.toUInt16.toUInt32.toInt32)), .val (.int (p2.toUInt32.toUInt16.toUInt32.toInt32)), .unset, .unset, .unset, .unset, .unset, .unset, .unset] [(.int (p3.toUInt32.toUInt16.toUInt32.toInt32))])) _
    refine XS.istore X0.here hx rfl (hb hby at_10) rfl (l' := #[.val (.int p1), .val (.int p2), .val (.int p3), .val (.int p4), .val (.int p5), .val (.int p6), .val (.int (p1.toUInt32.toUInt16.toUInt32.toInt32)), .val (.int (p2.toUInt32.toUInt16.toUInt32.toInt32)), .val (.int (p3.toUInt32.toUInt16.toUInt32.toInt32)), .unset, .unset, .unset, .unset, .unset, .unset]) rfl ?_
    show Steps p.tables e below (s₁.setTop (mkF m 12 #[.val (.int p1), .val (.int p2), .val (.int p3), .val (.int p4), .val (.int p5), .val (.int p6), .val (.int (p1.toUInt32.toUInt16.toUInt32.toInt32)), .val (.int (p2.toUInt32.toUInt16.toUInt32.toInt32)), .val (.int (p3.toUInt32.toUInt16.toUInt32.toInt32)), .unset, .unset, .unset, .unset, .unset, .unset] [])) _
    refine XS.iloadN X0.here hx rfl (hb hby at_12) rfl ?_
    show Steps p.tables e below (s₁.setTop (mkF m 13 #[.val (.int p1), .val (.int p2), .val (.int p3), .val (.int p4), .val (.int p5), .val (.int p6), .val (.int (p1.toUInt32.toUInt16.toUInt32.toInt32)), .val (.int (p2.toUInt32.toUInt16.toUInt32.toInt32)), .val (.int (p3.toUInt32.toUInt16.toUInt32.toInt32)), .unset, .unset, .unset, .unset, .unset, .unset] [(.int p4)])) _
    refine XS.i2c X0.here hx rfl (hb hby at_13) rfl ?_
    show Steps p.tables e below (s₁.setTop (mkF m 14 #[.val (.int p1), .val (.int p2), .val (.int p3), .val (.int p4), .val (.int p5), .val (.int p6), .val (.int (p1.toUInt32.toUInt16.toUInt32.toInt32)), .val (.int (p2.toUInt32.toUInt16.toUInt32.toInt32)), .val (.int (p3.toUInt32.toUInt16.toUInt32.toInt32)), .unset, .unset, .unset, .unset, .unset, .unset] [(.int (p4.toUInt32.toUInt16.toUInt32.toInt32))])) _
    refine XS.istore X0.here hx rfl (hb hby at_14) rfl (l' := #[.val (.int p1), .val (.int p2), .val (.int p3), .val (.int p4), .val (.int p5), .val (.int p6), .val (.int (p1.toUInt32.toUInt16.toUInt32.toInt32)), .val (.int (p2.toUInt32.toUInt16.toUInt32.toInt32)), .val (.int (p3.toUInt32.toUInt16.toUInt32.toInt32)), .val (.int (p4.toUInt32.toUInt16.toUInt32.toInt32)), .unset, .unset, .unset, .unset, .unset]) rfl ?_
    show Steps p.tables e below (s₁.setTop (mkF m 16 #[.val (.int p1), .val (.int p2), .val (.int p3), .val (.int p4), .val (.int p5), .val (.int p6), .val (.int (p1.toUInt32.toUInt16.toUInt32.toInt32)), .val (.int (p2.toUInt32.toUInt16.toUInt32.toInt32)), .val (.int (p3.toUInt32.toUInt16.toUInt32.toInt32)), .val (.int (p4.toUInt32.toUInt16.toUInt32.toInt32)), .unset, .unset, .unset, .unset, .unset] [])) _
    refine XS.iload X0.here hx rfl (hb hby at_16) rfl ?_
    show Steps p.tables e below (s₁.setTop (mkF m 18 #[.val (.int p1), .val (.int p2), .val (.int p3), .val (.int p4), .val (.int p5), .val (.int p6), .val (.int (p1.toUInt32.toUInt16.toUInt32.toInt32)), .val (.int (p2.toUInt32.toUInt16.toUInt32.toInt32)), .val (.int (p3.toUInt32.toUInt16.toUInt32.toInt32)), .val (.int (p4.toUInt32.toUInt16.toUInt32.toInt32)), .unset, .unset, .unset, .unset, .unset] [(.int p6)])) _
    refine XS.bipush X0.here hx rfl (hb hby at_18) ?_
    show Steps p.tables e below (s₁.setTop (mkF m 20 #[.val (.int p1), .val (.int p2), .val (.int p3), .val (.int p4), .val (.int p5), .val (.int p6), .val (.int (p1.toUInt32.toUInt16.toUInt32.toInt32)), .val (.int (p2.toUInt32.toUInt16.toUInt32.toInt32)), .val (.int (p3.toUInt32.toUInt16.toUInt32.toInt32)), .val (.int (p4.toUInt32.toUInt16.toUInt32.toInt32)), .unset, .unset, .unset, .unset, .unset] [(.int (7 : Int32)), (.int p6)])) _
    refine XS.iand X0.here hx rfl (hb hby at_20) rfl ?_
    show Steps p.tables e below (s₁.setTop (mkF m 21 #[.val (.int p1), .val (.int p2), .val (.int p3), .val (.int p4), .val (.int p5), .val (.int p6), .val (.int (p1.toUInt32.toUInt16.toUInt32.toInt32)), .val (.int (p2.toUInt32.toUInt16.toUInt32.toInt32)), .val (.int (p3.toUInt32.toUInt16.toUInt32.toInt32)), .val (.int (p4.toUInt32.toUInt16.toUInt32.toInt32)), .unset, .unset, .unset, .unset, .unset] [(.int (p6 &&& (7 : Int32)))])) _
    refine XS.istore X0.here hx rfl (hb hby at_21) rfl (l' := #[.val (.int p1), .val (.int p2), .val (.int p3), .val (.int p4), .val (.int p5), .val (.int p6), .val (.int (p1.toUInt32.toUInt16.toUInt32.toInt32)), .val (.int (p2.toUInt32.toUInt16.toUInt32.toInt32)), .val (.int (p3.toUInt32.toUInt16.toUInt32.toInt32)), .val (.int (p4.toUInt32.toUInt16.toUInt32.toInt32)), .val (.int (p6 &&& (7 : Int32))), .unset, .unset, .unset, .unset]) rfl ?_
    show Steps p.tables e below (s₁.setTop (mkF m 23 #[.val (.int p1), .val (.int p2), .val (.int p3), .val (.int p4), .val (.int p5), .val (.int p6), .val (.int (p1.toUInt32.toUInt16.toUInt32.toInt32)), .val (.int (p2.toUInt32.toUInt16.toUInt32.toInt32)), .val (.int (p3.toUInt32.toUInt16.toUInt32.toInt32)), .val (.int (p4.toUInt32.toUInt16.toUInt32.toInt32)), .val (.int (p6 &&& (7 : Int32))), .unset, .unset, .unset, .unset] [])) _
    exact k
  obtain ⟨cd, hsB, sB⟩ : ∃ (cd : Int32), (True) ∧ ∀ t, Steps p.tables e below (s₁.setTop (mkF m 79 #[.val (.int p1), .val (.int p2), .val (.int p3), .val (.int p4), .val (.int p5), .val (.int p6), .val (.int ch1), .val (.int ch2), .val (.int ch3), .val (.int ch4), .val (.int kk), .val (.int cd), .unset, .unset, .unset] [])) t → Steps p.tables e below (s₁.setTop (mkF m 23 #[.val (.int p1), .val (.int p2), .val (.int p3), .val (.int p4), .val (.int p5), .val (.int p6), .val (.int ch1), .val (.int ch2), .val (.int ch3), .val (.int ch4), .val (.int kk), .unset, .unset, .unset, .unset] [])) t := by
    by_cases c25 : kk = (0 : Int32)
    · refine ⟨(70 : Int32), trivial, fun t k => ?_⟩
      show Steps p.tables e below (s₁.setTop (mkF m 23 #[.val (.int p1), .val (.int p2), .val (.int p3), .val (.int p4), .val (.int p5), .val (.int p6), .val (.int ch1), .val (.int ch2), .val (.int ch3), .val (.int ch4), .val (.int kk), .unset, .unset, .unset, .unset] [])) _
      refine XS.iload X0.here hx rfl (hb hby at_23) rfl ?_
      show Steps p.tables e below (s₁.setTop (mkF m 25 #[.val (.int p1), .val (.int p2), .val (.int p3), .val (.int p4), .val (.int p5), .val (.int p6), .val (.int ch1), .val (.int ch2), .val (.int ch3), .val (.int ch4), .val (.int kk), .unset, .unset, .unset, .unset] [(.int kk)])) _
      refine XS.ifNo X0.here hx rfl (hb hby at_25) rfl ((if0 _ _).trans (teq c25).2) ?_
      show Steps p.tables e below (s₁.setTop (mkF m 28 #[.val (.int p1), .val (.int p2), .val (.int p3), .val (.int p4), .val (.int p5), .val (.int p6), .val (.int ch1), .val (.int ch2), .val (.int ch3), .val (.int ch4), .val (.int kk), .unset, .unset, .unset, .unset] [])) _
      refine XS.bipush X0.here hx rfl (hb hby at_28) ?_
      show Steps p.tables e below (s₁.setTop (mkF m 30 #[.val (.int p1), .val (.int p2), .val (.int p3), .val (.int p4), .val (.int p5), .val (.int p6), .val (.int ch1), .val (.int ch2), .val (.int ch3), .val (.int ch4), .val (.int kk), .unset, .unset, .unset, .unset] [(.int (70 : Int32))])) _
      refine XS.istore X0.here hx rfl (hb hby at_30) rfl (l' := #[.val (.int p1), .val (.int p2), .val (.int p3), .val (.int p4), .val (.int p5), .val (.int p6), .val (.int ch1), .val (.int ch2), .val (.int ch3), .val (.int ch4), .val (.int kk), .val (.int (70 : Int32)), .unset, .unset, .unset]) rfl ?_
      show Steps p.tables e below (s₁.setTop (mkF m 32 #[.val (.int p1), .val (.int p2), .val (.int p3), .val (.int p4), .val (.int p5), .val (.int p6), .val (.int ch1), .val (.int ch2), .val (.int ch3), .val (.int ch4), .val (.int kk), .val (.int (70 : Int32)), .unset, .unset, .unset] [])) _
      refine XS.goto X0.here hx rfl (pc0 := 32) (pc' := 79) rfl (hb hby at_32) (by decide) (by decide) ?_
      show Steps p.tables e below (s₁.setTop (mkF m 79 #[.val (.int p1), .val (.int p2), .val (.int p3), .val (.int p4), .val (.int p5), .val (.int p6), .val (.int ch1), .val (.int ch2), .val (.int ch3), .val (.int ch4), .val (.int kk), .val (.int (70 : Int32)), .unset, .unset, .unset] [])) _
      exact k
    · by_cases c38 : kk = (1 : Int32)
      · refine ⟨(83 : Int32), trivial, fun t k => ?_⟩
        show Steps p.tables e below (s₁.setTop (mkF m 23 #[.val (.int p1), .val (.int p2), .val (.int p3), .val (.int p4), .val (.int p5), .val (.int p6), .val (.int ch1), .val (.int ch2), .val (.int ch3), .val (.int ch4), .val (.int kk), .unset, .unset, .unset, .unset] [])) _
        refine XS.iload X0.here hx rfl (hb hby at_23) rfl ?_
        show Steps p.tables e below (s₁.setTop (mkF m 25 #[.val (.int p1), .val (.int p2), .val (.int p3), .val (.int p4), .val (.int p5), .val (.int p6), .val (.int ch1), .val (.int ch2), .val (.int ch3), .val (.int ch4), .val (.int kk), .unset, .unset, .unset, .unset] [(.int kk)])) _
        refine XS.ifYes X0.here hx rfl (pc0 := 25) (pc' := 35) rfl (hb hby at_25) rfl ((if0 _ _).trans (feq c25).2) (by decide) (by decide) ?_
        show Steps p.tables e below (s₁.setTop (mkF m 35 #[.val (.int p1), .val (.int p2), .val (.int p3), .val (.int p4), .val (.int p5), .val (.int p6), .val (.int ch1), .val (.int ch2), .val (.int ch3), .val (.int ch4), .val (.int kk), .unset, .unset, .unset, .unset] [])) _
        refine XS.iload X0.here hx rfl (hb hby at_35) rfl ?_
        show Steps p.tables e below (s₁.setTop (mkF m 37 #[.val (.int p1), .val (.int p2), .val (.int p3), .val (.int p4), .val (.int p5), .val (.int p6), .val (.int ch1), .val (.int ch2), .val (.int ch3), .val (.int ch4), .val (.int kk), .unset, .unset, .unset, .unset] [(.int kk)])) _
        refine XS.iconst X0.here hx rfl (hb hby at_37) ?_
        show Steps p.tables e below (s₁.setTop (mkF m 38 #[.val (.int p1), .val (.int p2), .val (.int p3), .val (.int p4), .val (.int p5), .val (.int p6), .val (.int ch1), .val (.int ch2), .val (.int ch3), .val (.int ch4), .val (.int kk), .unset, .unset, .unset, .unset] [(.int (1 : Int32)), (.int kk)])) _
        refine XS.icmpNo X0.here hx rfl (hb hby at_38) rfl (teq c38).2 ?_
        show Steps p.tables e below (s₁.setTop (mkF m 41 #[.val (.int p1), .val (.int p2), .val (.int p3), .val (.int p4), .val (.int p5), .val (.int p6), .val (.int ch1), .val (.int ch2), .val (.int ch3), .val (.int ch4), .val (.int kk), .unset, .unset, .unset, .unset] [])) _
        refine XS.bipush X0.here hx rfl (hb hby at_41) ?_
        show Steps p.tables e below (s₁.setTop (mkF m 43 #[.val (.int p1), .val (.int p2), .val (.int p3), .val (.int p4), .val (.int p5), .val (.int p6), .val (.int ch1), .val (.int ch2), .val (.int ch3), .val (.int ch4), .val (.int kk), .unset, .unset, .unset, .unset] [(.int (83 : Int32))])) _
        refine XS.istore X0.here hx rfl (hb hby at_43) rfl (l' := #[.val (.int p1), .val (.int p2), .val (.int p3), .val (.int p4), .val (.int p5), .val (.int p6), .val (.int ch1), .val (.int ch2), .val (.int ch3), .val (.int ch4), .val (.int kk), .val (.int (83 : Int32)), .unset, .unset, .unset]) rfl ?_
        show Steps p.tables e below (s₁.setTop (mkF m 45 #[.val (.int p1), .val (.int p2), .val (.int p3), .val (.int p4), .val (.int p5), .val (.int p6), .val (.int ch1), .val (.int ch2), .val (.int ch3), .val (.int ch4), .val (.int kk), .val (.int (83 : Int32)), .unset, .unset, .unset] [])) _
        refine XS.goto X0.here hx rfl (pc0 := 45) (pc' := 79) rfl (hb hby at_45) (by decide) (by decide) ?_
        show Steps p.tables e below (s₁.setTop (mkF m 79 #[.val (.int p1), .val (.int p2), .val (.int p3), .val (.int p4), .val (.int p5), .val (.int p6), .val (.int ch1), .val (.int ch2), .val (.int ch3), .val (.int ch4), .val (.int kk), .val (.int (83 : Int32)), .unset, .unset, .unset] [])) _
        exact k
      · by_cases c51 : kk = (2 : Int32)
        · refine ⟨(82 : Int32), trivial, fun t k => ?_⟩
          show Steps p.tables e below (s₁.setTop (mkF m 23 #[.val (.int p1), .val (.int p2), .val (.int p3), .val (.int p4), .val (.int p5), .val (.int p6), .val (.int ch1), .val (.int ch2), .val (.int ch3), .val (.int ch4), .val (.int kk), .unset, .unset, .unset, .unset] [])) _
          refine XS.iload X0.here hx rfl (hb hby at_23) rfl ?_
          show Steps p.tables e below (s₁.setTop (mkF m 25 #[.val (.int p1), .val (.int p2), .val (.int p3), .val (.int p4), .val (.int p5), .val (.int p6), .val (.int ch1), .val (.int ch2), .val (.int ch3), .val (.int ch4), .val (.int kk), .unset, .unset, .unset, .unset] [(.int kk)])) _
          refine XS.ifYes X0.here hx rfl (pc0 := 25) (pc' := 35) rfl (hb hby at_25) rfl ((if0 _ _).trans (feq c25).2) (by decide) (by decide) ?_
          show Steps p.tables e below (s₁.setTop (mkF m 35 #[.val (.int p1), .val (.int p2), .val (.int p3), .val (.int p4), .val (.int p5), .val (.int p6), .val (.int ch1), .val (.int ch2), .val (.int ch3), .val (.int ch4), .val (.int kk), .unset, .unset, .unset, .unset] [])) _
          refine XS.iload X0.here hx rfl (hb hby at_35) rfl ?_
          show Steps p.tables e below (s₁.setTop (mkF m 37 #[.val (.int p1), .val (.int p2), .val (.int p3), .val (.int p4), .val (.int p5), .val (.int p6), .val (.int ch1), .val (.int ch2), .val (.int ch3), .val (.int ch4), .val (.int kk), .unset, .unset, .unset, .unset] [(.int kk)])) _
          refine XS.iconst X0.here hx rfl (hb hby at_37) ?_
          show Steps p.tables e below (s₁.setTop (mkF m 38 #[.val (.int p1), .val (.int p2), .val (.int p3), .val (.int p4), .val (.int p5), .val (.int p6), .val (.int ch1), .val (.int ch2), .val (.int ch3), .val (.int ch4), .val (.int kk), .unset, .unset, .unset, .unset] [(.int (1 : Int32)), (.int kk)])) _
          refine XS.icmpYes X0.here hx rfl (pc0 := 38) (pc' := 48) rfl (hb hby at_38) rfl (feq c38).2 (by decide) (by decide) ?_
          show Steps p.tables e below (s₁.setTop (mkF m 48 #[.val (.int p1), .val (.int p2), .val (.int p3), .val (.int p4), .val (.int p5), .val (.int p6), .val (.int ch1), .val (.int ch2), .val (.int ch3), .val (.int ch4), .val (.int kk), .unset, .unset, .unset, .unset] [])) _
          refine XS.iload X0.here hx rfl (hb hby at_48) rfl ?_
          show Steps p.tables e below (s₁.setTop (mkF m 50 #[.val (.int p1), .val (.int p2), .val (.int p3), .val (.int p4), .val (.int p5), .val (.int p6), .val (.int ch1), .val (.int ch2), .val (.int ch3), .val (.int ch4), .val (.int kk), .unset, .unset, .unset, .unset] [(.int kk)])) _
          refine XS.iconst X0.here hx rfl (hb hby at_50) ?_
          show Steps p.tables e below (s₁.setTop (mkF m 51 #[.val (.int p1), .val (.int p2), .val (.int p3), .val (.int p4), .val (.int p5), .val (.int p6), .val (.int ch1), .val (.int ch2), .val (.int ch3), .val (.int ch4), .val (.int kk), .unset, .unset, .unset, .unset] [(.int (2 : Int32)), (.int kk)])) _
          refine XS.icmpNo X0.here hx rfl (hb hby at_51) rfl (teq c51).2 ?_
          show Steps p.tables e below (s₁.setTop (mkF m 54 #[.val (.int p1), .val (.int p2), .val (.int p3), .val (.int p4), .val (.int p5), .val (.int p6), .val (.int ch1), .val (.int ch2), .val (.int ch3), .val (.int ch4), .val (.int kk), .unset, .unset, .unset, .unset] [])) _
          refine XS.bipush X0.here hx rfl (hb hby at_54) ?_
          show Steps p.tables e below (s₁.setTop (mkF m 56 #[.val (.int p1), .val (.int p2), .val (.int p3), .val (.int p4), .val (.int p5), .val (.int p6), .val (.int ch1), .val (.int ch2), .val (.int ch3), .val (.int ch4), .val (.int kk), .unset, .unset, .unset, .unset] [(.int (82 : Int32))])) _
          refine XS.istore X0.here hx rfl (hb hby at_56) rfl (l' := #[.val (.int p1), .val (.int p2), .val (.int p3), .val (.int p4), .val (.int p5), .val (.int p6), .val (.int ch1), .val (.int ch2), .val (.int ch3), .val (.int ch4), .val (.int kk), .val (.int (82 : Int32)), .unset, .unset, .unset]) rfl ?_
          show Steps p.tables e below (s₁.setTop (mkF m 58 #[.val (.int p1), .val (.int p2), .val (.int p3), .val (.int p4), .val (.int p5), .val (.int p6), .val (.int ch1), .val (.int ch2), .val (.int ch3), .val (.int ch4), .val (.int kk), .val (.int (82 : Int32)), .unset, .unset, .unset] [])) _
          refine XS.goto X0.here hx rfl (pc0 := 58) (pc' := 79) rfl (hb hby at_58) (by decide) (by decide) ?_
          show Steps p.tables e below (s₁.setTop (mkF m 79 #[.val (.int p1), .val (.int p2), .val (.int p3), .val (.int p4), .val (.int p5), .val (.int p6), .val (.int ch1), .val (.int ch2), .val (.int ch3), .val (.int ch4), .val (.int kk), .val (.int (82 : Int32)), .unset, .unset, .unset] [])) _
          exact k
        · by_cases c64 : kk = (3 : Int32)
          · refine ⟨(69 : Int32), trivial, fun t k => ?_⟩
            show Steps p.tables e below (s₁.setTop (mkF m 23 #[.val (.int p1), .val (.int p2), .val (.int p3), .val (.int p4), .val (.int p5), .val (.int p6), .val (.int ch1), .val (.int ch2), .val (.int ch3), .val (.int ch4), .val (.int kk), .unset, .unset, .unset, .unset] [])) _
            refine XS.iload X0.here hx rfl (hb hby at_23) rfl ?_
            show Steps p.tables e below (s₁.setTop (mkF m 25 #[.val (.int p1), .val (.int p2), .val (.int p3), .val (.int p4), .val (.int p5), .val (.int p6), .val (.int ch1), .val (.int ch2), .val (.int ch3), .val (.int ch4), .val (.int kk), .unset, .unset, .unset, .unset] [(.int kk)])) _
            refine XS.ifYes X0.here hx rfl (pc0 := 25) (pc' := 35) rfl (hb hby at_25) rfl ((if0 _ _).trans (feq c25).2) (by decide) (by decide) ?_
            show Steps p.tables e below (s₁.setTop (mkF m 35 #[.val (.int p1), .val (.int p2), .val (.int p3), .val (.int p4), .val (.int p5), .val (.int p6), .val (.int ch1), .val (.int ch2), .val (.int ch3), .val (.int ch4), .val (.int kk), .unset, .unset, .unset, .unset] [])) _
            refine XS.iload X0.here hx rfl (hb hby at_35) rfl ?_
            show Steps p.tables e below (s₁.setTop (mkF m 37 #[.val (.int p1), .val (.int p2), .val (.int p3), .val (.int p4), .val (.int p5), .val (.int p6), .val (.int ch1), .val (.int ch2), .val (.int ch3), .val (.int ch4), .val (.int kk), .unset, .unset, .unset, .unset] [(.int kk)])) _
            refine XS.iconst X0.here hx rfl (hb hby at_37) ?_
            show Steps p.tables e below (s₁.setTop (mkF m 38 #[.val (.int p1), .val (.int p2), .val (.int p3), .val (.int p4), .val (.int p5), .val (.int p6), .val (.int ch1), .val (.int ch2), .val (.int ch3), .val (.int ch4), .val (.int kk), .unset, .unset, .unset, .unset] [(.int (1 : Int32)), (.int kk)])) _
            refine XS.icmpYes X0.here hx rfl (pc0 := 38) (pc' := 48) rfl (hb hby at_38) rfl (feq c38).2 (by decide) (by decide) ?_
            show Steps p.tables e below (s₁.setTop (mkF m 48 #[.val (.int p1), .val (.int p2), .val (.int p3), .val (.int p4), .val (.int p5), .val (.int p6), .val (.int ch1), .val (.int ch2), .val (.int ch3), .val (.int ch4), .val (.int kk), .unset, .unset, .unset, .unset] [])) _
            refine XS.iload X0.here hx rfl (hb hby at_48) rfl ?_
            show Steps p.tables e below (s₁.setTop (mkF m 50 #[.val (.int p1), .val (.int p2), .val (.int p3), .val (.int p4), .val (.int p5), .val (.int p6), .val (.int ch1), .val (.int ch2), .val (.int ch3), .val (.int ch4), .val (.int kk), .unset, .unset, .unset, .unset] [(.int kk)])) _
            refine XS.iconst X0.here hx rfl (hb hby at_50) ?_
            show Steps p.tables e below (s₁.setTop (mkF m 51 #[.val (.int p1), .val (.int p2), .val (.int p3), .val (.int p4), .val (.int p5), .val (.int p6), .val (.int ch1), .val (.int ch2), .val (.int ch3), .val (.int ch4), .val (.int kk), .unset, .unset, .unset, .unset] [(.int (2 : Int32)), (.int kk)])) _
            refine XS.icmpYes X0.here hx rfl (pc0 := 51) (pc' := 61) rfl (hb hby at_51) rfl (feq c51).2 (by decide) (by decide) ?_
            show Steps p.tables e below (s₁.setTop (mkF m 61 #[.val (.int p1), .val (.int p2), .val (.int p3), .val (.int p4), .val (.int p5), .val (.int p6), .val (.int ch1), .val (.int ch2), .val (.int ch3), .val (.int ch4), .val (.int kk), .unset, .unset, .unset, .unset] [])) _
            refine XS.iload X0.here hx rfl (hb hby at_61) rfl ?_
            show Steps p.tables e below (s₁.setTop (mkF m 63 #[.val (.int p1), .val (.int p2), .val (.int p3), .val (.int p4), .val (.int p5), .val (.int p6), .val (.int ch1), .val (.int ch2), .val (.int ch3), .val (.int ch4), .val (.int kk), .unset, .unset, .unset, .unset] [(.int kk)])) _
            refine XS.iconst X0.here hx rfl (hb hby at_63) ?_
            show Steps p.tables e below (s₁.setTop (mkF m 64 #[.val (.int p1), .val (.int p2), .val (.int p3), .val (.int p4), .val (.int p5), .val (.int p6), .val (.int ch1), .val (.int ch2), .val (.int ch3), .val (.int ch4), .val (.int kk), .unset, .unset, .unset, .unset] [(.int (3 : Int32)), (.int kk)])) _
            refine XS.icmpNo X0.here hx rfl (hb hby at_64) rfl (teq c64).2 ?_
            show Steps p.tables e below (s₁.setTop (mkF m 67 #[.val (.int p1), .val (.int p2), .val (.int p3), .val (.int p4), .val (.int p5), .val (.int p6), .val (.int ch1), .val (.int ch2), .val (.int ch3), .val (.int ch4), .val (.int kk), .unset, .unset, .unset, .unset] [])) _
            refine XS.bipush X0.here hx rfl (hb hby at_67) ?_
            show Steps p.tables e below (s₁.setTop (mkF m 69 #[.val (.int p1), .val (.int p2), .val (.int p3), .val (.int p4), .val (.int p5), .val (.int p6), .val (.int ch1), .val (.int ch2), .val (.int ch3), .val (.int ch4), .val (.int kk), .unset, .unset, .unset, .unset] [(.int (69 : Int32))])) _
            refine XS.istore X0.here hx rfl (hb hby at_69) rfl (l' := #[.val (.int p1), .val (.int p2), .val (.int p3), .val (.int p4), .val (.int p5), .val (.int p6), .val (.int ch1), .val (.int ch2), .val (.int ch3), .val (.int ch4), .val (.int kk), .val (.int (69 : Int32)), .unset, .unset, .unset]) rfl ?_
            show Steps p.tables e below (s₁.setTop (mkF m 71 #[.val (.int p1), .val (.int p2), .val (.int p3), .val (.int p4), .val (.int p5), .val (.int p6), .val (.int ch1), .val (.int ch2), .val (.int ch3), .val (.int ch4), .val (.int kk), .val (.int (69 : Int32)), .unset, .unset, .unset] [])) _
            refine XS.goto X0.here hx rfl (pc0 := 71) (pc' := 79) rfl (hb hby at_71) (by decide) (by decide) ?_
            show Steps p.tables e below (s₁.setTop (mkF m 79 #[.val (.int p1), .val (.int p2), .val (.int p3), .val (.int p4), .val (.int p5), .val (.int p6), .val (.int ch1), .val (.int ch2), .val (.int ch3), .val (.int ch4), .val (.int kk), .val (.int (69 : Int32)), .unset, .unset, .unset] [])) _
            exact k
          · refine ⟨(p5.toUInt32.toUInt16.toUInt32.toInt32), trivial, fun t k => ?_⟩
            show Steps p.tables e below (s₁.setTop (mkF m 23 #[.val (.int p1), .val (.int p2), .val (.int p3), .val (.int p4), .val (.int p5), .val (.int p6), .val (.int ch1), .val (.int ch2), .val (.int ch3), .val (.int ch4), .val (.int kk), .unset, .unset, .unset, .unset] [])) _
            refine XS.iload X0.here hx rfl (hb hby at_23) rfl ?_
            show Steps p.tables e below (s₁.setTop (mkF m 25 #[.val (.int p1), .val (.int p2), .val (.int p3), .val (.int p4), .val (.int p5), .val (.int p6), .val (.int ch1), .val (.int ch2), .val (.int ch3), .val (.int ch4), .val (.int kk), .unset, .unset, .unset, .unset] [(.int kk)])) _
            refine XS.ifYes X0.here hx rfl (pc0 := 25) (pc' := 35) rfl (hb hby at_25) rfl ((if0 _ _).trans (feq c25).2) (by decide) (by decide) ?_
            show Steps p.tables e below (s₁.setTop (mkF m 35 #[.val (.int p1), .val (.int p2), .val (.int p3), .val (.int p4), .val (.int p5), .val (.int p6), .val (.int ch1), .val (.int ch2), .val (.int ch3), .val (.int ch4), .val (.int kk), .unset, .unset, .unset, .unset] [])) _
            refine XS.iload X0.here hx rfl (hb hby at_35) rfl ?_
            show Steps p.tables e below (s₁.setTop (mkF m 37 #[.val (.int p1), .val (.int p2), .val (.int p3), .val (.int p4), .val (.int p5), .val (.int p6), .val (.int ch1), .val (.int ch2), .val (.int ch3), .val (.int ch4), .val (.int kk), .unset, .unset, .unset, .unset] [(.int kk)])) _
            refine XS.iconst X0.here hx rfl (hb hby at_37) ?_
            show Steps p.tables e below (s₁.setTop (mkF m 38 #[.val (.int p1), .val (.int p2), .val (.int p3), .val (.int p4), .val (.int p5), .val (.int p6), .val (.int ch1), .val (.int ch2), .val (.int ch3), .val (.int ch4), .val (.int kk), .unset, .unset, .unset, .unset] [(.int (1 : Int32)), (.int kk)])) _
            refine XS.icmpYes X0.here hx rfl (pc0 := 38) (pc' := 48) rfl (hb hby at_38) rfl (feq c38).2 (by decide) (by decide) ?_
            show Steps p.tables e below (s₁.setTop (mkF m 48 #[.val (.int p1), .val (.int p2), .val (.int p3), .val (.int p4), .val (.int p5), .val (.int p6), .val (.int ch1), .val (.int ch2), .val (.int ch3), .val (.int ch4), .val (.int kk), .unset, .unset, .unset, .unset] [])) _
            refine XS.iload X0.here hx rfl (hb hby at_48) rfl ?_
            show Steps p.tables e below (s₁.setTop (mkF m 50 #[.val (.int p1), .val (.int p2), .val (.int p3), .val (.int p4), .val (.int p5), .val (.int p6), .val (.int ch1), .val (.int ch2), .val (.int ch3), .val (.int ch4), .val (.int kk), .unset, .unset, .unset, .unset] [(.int kk)])) _
            refine XS.iconst X0.here hx rfl (hb hby at_50) ?_
            show Steps p.tables e below (s₁.setTop (mkF m 51 #[.val (.int p1), .val (.int p2), .val (.int p3), .val (.int p4), .val (.int p5), .val (.int p6), .val (.int ch1), .val (.int ch2), .val (.int ch3), .val (.int ch4), .val (.int kk), .unset, .unset, .unset, .unset] [(.int (2 : Int32)), (.int kk)])) _
            refine XS.icmpYes X0.here hx rfl (pc0 := 51) (pc' := 61) rfl (hb hby at_51) rfl (feq c51).2 (by decide) (by decide) ?_
            show Steps p.tables e below (s₁.setTop (mkF m 61 #[.val (.int p1), .val (.int p2), .val (.int p3), .val (.int p4), .val (.int p5), .val (.int p6), .val (.int ch1), .val (.int ch2), .val (.int ch3), .val (.int ch4), .val (.int kk), .unset, .unset, .unset, .unset] [])) _
            refine XS.iload X0.here hx rfl (hb hby at_61) rfl ?_
            show Steps p.tables e below (s₁.setTop (mkF m 63 #[.val (.int p1), .val (.int p2), .val (.int p3), .val (.int p4), .val (.int p5), .val (.int p6), .val (.int ch1), .val (.int ch2), .val (.int ch3), .val (.int ch4), .val (.int kk), .unset, .unset, .unset, .unset] [(.int kk)])) _
            refine XS.iconst X0.here hx rfl (hb hby at_63) ?_
            show Steps p.tables e below (s₁.setTop (mkF m 64 #[.val (.int p1), .val (.int p2), .val (.int p3), .val (.int p4), .val (.int p5), .val (.int p6), .val (.int ch1), .val (.int ch2), .val (.int ch3), .val (.int ch4), .val (.int kk), .unset, .unset, .unset, .unset] [(.int (3 : Int32)), (.int kk)])) _
            refine XS.icmpYes X0.here hx rfl (pc0 := 64) (pc' := 74) rfl (hb hby at_64) rfl (feq c64).2 (by decide) (by decide) ?_
            show Steps p.tables e below (s₁.setTop (mkF m 74 #[.val (.int p1), .val (.int p2), .val (.int p3), .val (.int p4), .val (.int p5), .val (.int p6), .val (.int ch1), .val (.int ch2), .val (.int ch3), .val (.int ch4), .val (.int kk), .unset, .unset, .unset, .unset] [])) _
            refine XS.iload X0.here hx rfl (hb hby at_74) rfl ?_
            show Steps p.tables e below (s₁.setTop (mkF m 76 #[.val (.int p1), .val (.int p2), .val (.int p3), .val (.int p4), .val (.int p5), .val (.int p6), .val (.int ch1), .val (.int ch2), .val (.int ch3), .val (.int ch4), .val (.int kk), .unset, .unset, .unset, .unset] [(.int p5)])) _
            refine XS.i2c X0.here hx rfl (hb hby at_76) rfl ?_
            show Steps p.tables e below (s₁.setTop (mkF m 77 #[.val (.int p1), .val (.int p2), .val (.int p3), .val (.int p4), .val (.int p5), .val (.int p6), .val (.int ch1), .val (.int ch2), .val (.int ch3), .val (.int ch4), .val (.int kk), .unset, .unset, .unset, .unset] [(.int (p5.toUInt32.toUInt16.toUInt32.toInt32))])) _
            refine XS.istore X0.here hx rfl (hb hby at_77) rfl (l' := #[.val (.int p1), .val (.int p2), .val (.int p3), .val (.int p4), .val (.int p5), .val (.int p6), .val (.int ch1), .val (.int ch2), .val (.int ch3), .val (.int ch4), .val (.int kk), .val (.int (p5.toUInt32.toUInt16.toUInt32.toInt32)), .unset, .unset, .unset]) rfl ?_
            show Steps p.tables e below (s₁.setTop (mkF m 79 #[.val (.int p1), .val (.int p2), .val (.int p3), .val (.int p4), .val (.int p5), .val (.int p6), .val (.int ch1), .val (.int ch2), .val (.int ch3), .val (.int ch4), .val (.int kk), .val (.int (p5.toUInt32.toUInt16.toUInt32.toInt32)), .unset, .unset, .unset] [])) _
            exact k
  obtain ⟨T5, h5, X5, e5, E5, A5, D5, -, st5⟩ := newO X0 hx hZ hown (hw _ (List.mem_of_getElem? (i := 0) rfl)) (hw _ (List.mem_of_getElem? (i := 1) rfl)) (hw _ (List.mem_of_getElem? (i := 2) rfl)) e0 (g := (mkF m 79 #[.val (.int p1), .val (.int p2), .val (.int p3), .val (.int p4), .val (.int p5), .val (.int p6), .val (.int ch1), .val (.int ch2), .val (.int ch3), .val (.int ch4), .val (.int kk), .val (.int cd), .unset, .unset, .unset] [])) rfl (hb hby at_79) (by decide) (by decide)
  obtain ⟨b5, g5⟩ : ∃ z, z = h0.size := ⟨_, rfl⟩
  rw [← g5] at A5 D5 st5
  have F_field : Fld Z h5 b5 "com/example/epicrisis/epicrisis/lab/AstmRecord$Delimiters" "field" "C" (.int (0 : Int32)) := D5 (Or.inr (hw _ (List.mem_of_getElem? (i := 15) rfl))) (ty := .char) (by decide)
  have F_repeat : Fld Z h5 b5 "com/example/epicrisis/epicrisis/lab/AstmRecord$Delimiters" "repeat" "C" (.int (0 : Int32)) := D5 (Or.inr (hw _ (List.mem_of_getElem? (i := 17) rfl))) (ty := .char) (by decide)
  have F_component : Fld Z h5 b5 "com/example/epicrisis/epicrisis/lab/AstmRecord$Delimiters" "component" "C" (.int (0 : Int32)) := D5 (Or.inr (hw _ (List.mem_of_getElem? (i := 19) rfl))) (ty := .char) (by decide)
  have F_escape : Fld Z h5 b5 "com/example/epicrisis/epicrisis/lab/AstmRecord$Delimiters" "escape" "C" (.int (0 : Int32)) := D5 (Or.inr (hw _ (List.mem_of_getElem? (i := 21) rfl))) (ty := .char) (by decide)
  have g_b5 : n0 ≤ b5 := Nat.le_trans Z0 (Nat.le_of_eq g5.symm)
  have Z5 : n0 ≤ h5.size := Nat.le_trans Z0 E5.1
  obtain ⟨_, _, ⟨T6, L6, k6, n6⟩, -, X6, ⟨Lc6, hQ6, l6, y6, z6⟩, st6⟩ := X5.specialBack hx (y := (⟨"com/example/epicrisis/epicrisis/lab/AstmRecord$Delimiters", "<init>", "(CCCC)V"⟩ : MethodName)) rfl hown (mvT hZ (hw _ (List.mem_of_getElem? (i := 3) rfl))) (mvT hZ (hw _ (List.mem_of_getElem? (i := 4) rfl))) (mvT hZ (hw _ (List.mem_of_getElem? (i := 5) rfl))) (by decide) (backOf (W := 1) (rm1 l Z a0 hw [] b5 ch1 ch2 ch3 ch4 _ _ _ _ h5 n0 Z5 A5 F_field g_b5 F_repeat F_component F_escape) hZ (hw _ (List.mem_of_getElem? (i := 5) rfl)) (hw _ (List.mem_of_getElem? (i := 2) rfl)) (by decide) (by decide)) (g := (mkF m 91 #[.val (.int p1), .val (.int p2), .val (.int p3), .val (.int p4), .val (.int p5), .val (.int p6), .val (.int ch1), .val (.int ch2), .val (.int ch3), .val (.int ch4), .val (.int kk), .val (.int cd), .unset, .unset, .unset] [(.int ch4), (.int ch3), (.int ch2), (.int ch1), (.ref b5), (.ref b5)])) rfl (by rw [hml]; rfl) (Steps.refl _) (a := b5) (argsL := [(.int ch1), (.int ch2), (.int ch3), (.int ch4)]) (rest := [(.ref b5)]) (lenOf pd_1 rfl) rfl (by show 2 * 0 + _ ≤ _; exact Nat.le_of_eq rfl) (hb hby at_91) (fun _ _ => ⟨rfl, e5, (by decide : 1 + 0 ≤ _), (by decide : 4 + 0 ≤ _)⟩)
  dsimp only [Pt.U, Pt.locs, Pt.cells, Pt.slots] at X6 l6 y6 z6 st6 hQ6
  subst l6 y6 z6
  obtain ⟨rfl, N6q, K6, E6, G1, G2, G3, G4⟩ := hQ6
  have N6 := Fr.app N0 N6q
  have Z6 : n0 ≤ T6.heap.size := Nat.le_trans Z5 K6.1
  obtain ⟨cq7, kq7, q7a, q7b, q7c⟩ := isOf hZ rfl E6
  obtain ⟨_, _, ⟨T7, L7, k7, n7⟩, -, X7, ⟨Lc7, hQ7, l7, y7, z7⟩, st7⟩ := X6.virtualBack hx (y := (⟨"com/example/epicrisis/epicrisis/lab/AstmRecord$Delimiters", "escaped", "(C)C"⟩ : MethodName)) (z := (⟨"com/example/epicrisis/epicrisis/lab/AstmRecord$Delimiters", "escaped", "(C)C"⟩ : MethodName)) hown (mvT hZ (hw _ (List.mem_of_getElem? (i := 22) rfl))) (mvT hZ (hw _ (List.mem_of_getElem? (i := 23) rfl))) (notFace_of_selects (args := #[]) (mvT hZ (hw _ (List.mem_of_getElem? (i := 25) rfl)))) (mvT hZ (hw _ (List.mem_of_getElem? (i := 25) rfl))) (mvT hZ (hw _ (List.mem_of_getElem? (i := 24) rfl))) (by decide) (backOf (W := 0) (rm4 l Z a0 hw [] b5 cd (nar .char ch1) (nar .char ch2) (nar .char ch3) (nar .char ch4) T6.heap n0 Z6 G1 G2 G3 G4) hZ (hw _ (List.mem_of_getElem? (i := 26) rfl)) (hw _ (List.mem_of_getElem? (i := 2) rfl)) (by decide) (by decide)) q7a q7c (g := (mkF m 100 #[.val (.int p1), .val (.int p2), .val (.int p3), .val (.int p4), .val (.int p5), .val (.int p6), .val (.int ch1), .val (.int ch2), .val (.int ch3), .val (.int ch4), .val (.int kk), .val (.int cd), .val (.ref b5), .unset, .unset] [(.int cd), (.ref b5)])) rfl (by rw [hml]; rfl) (Steps.refl _) (argsL := [(.int cd)]) (rest := []) (lenOf pd_4 rfl) rfl (by show 2 * 0 + _ ≤ _; exact Nat.le_of_eq rfl) (hb hby at_100) (fun _ _ => ⟨rfl, rfl, (by decide : 1 + 0 ≤ _), (by decide : 4 + 0 ≤ _)⟩)
  dsimp only [Pt.U, Pt.locs, Pt.cells, Pt.slots] at X7 l7 y7 z7 st7 hQ7
  subst l7 y7 z7
  obtain ⟨⟨gt, rfl, hgt⟩, N7q, e7⟩ := hQ7
  have N7 := Fr.app N6 N7q
  obtain ⟨wt, hsC, sC⟩ : ∃ (wt : Int32), (wt = if cd = (70 : Int32) then ch1 else if cd = (83 : Int32) then ch3 else if cd = (82 : Int32) then ch2 else if cd = (69 : Int32) then ch4 else (0 : Int32)) ∧ ∀ t, Steps p.tables e below (T7.setTop (mkF m 164 #[.val (.int p1), .val (.int p2), .val (.int p3), .val (.int p4), .val (.int p5), .val (.int p6), .val (.int ch1), .val (.int ch2), .val (.int ch3), .val (.int ch4), .val (.int kk), .val (.int cd), .val (.ref b5), .val (.int gt), .val (.int wt)] [])) t → Steps p.tables e below (T7.setTop (mkF m 105 #[.val (.int p1), .val (.int p2), .val (.int p3), .val (.int p4), .val (.int p5), .val (.int p6), .val (.int ch1), .val (.int ch2), .val (.int ch3), .val (.int ch4), .val (.int kk), .val (.int cd), .val (.ref b5), .val (.int gt), .unset] [])) t := by
    by_cases c109 : cd = (70 : Int32)
    · refine ⟨ch1, (by rw [if_pos c109]), fun t k => ?_⟩
      show Steps p.tables e below (T7.setTop (mkF m 105 #[.val (.int p1), .val (.int p2), .val (.int p3), .val (.int p4), .val (.int p5), .val (.int p6), .val (.int ch1), .val (.int ch2), .val (.int ch3), .val (.int ch4), .val (.int kk), .val (.int cd), .val (.ref b5), .val (.int gt), .unset] [])) _
      refine XS.iload X7.here hx rfl (hb hby at_105) rfl ?_
      show Steps p.tables e below (T7.setTop (mkF m 107 #[.val (.int p1), .val (.int p2), .val (.int p3), .val (.int p4), .val (.int p5), .val (.int p6), .val (.int ch1), .val (.int ch2), .val (.int ch3), .val (.int ch4), .val (.int kk), .val (.int cd), .val (.ref b5), .val (.int gt), .unset] [(.int cd)])) _
      refine XS.bipush X7.here hx rfl (hb hby at_107) ?_
      show Steps p.tables e below (T7.setTop (mkF m 109 #[.val (.int p1), .val (.int p2), .val (.int p3), .val (.int p4), .val (.int p5), .val (.int p6), .val (.int ch1), .val (.int ch2), .val (.int ch3), .val (.int ch4), .val (.int kk), .val (.int cd), .val (.ref b5), .val (.int gt), .unset] [(.int (70 : Int32)), (.int cd)])) _
      refine XS.icmpNo X7.here hx rfl (hb hby at_109) rfl (teq c109).2 ?_
      show Steps p.tables e below (T7.setTop (mkF m 112 #[.val (.int p1), .val (.int p2), .val (.int p3), .val (.int p4), .val (.int p5), .val (.int p6), .val (.int ch1), .val (.int ch2), .val (.int ch3), .val (.int ch4), .val (.int kk), .val (.int cd), .val (.ref b5), .val (.int gt), .unset] [])) _
      refine XS.iload X7.here hx rfl (hb hby at_112) rfl ?_
      show Steps p.tables e below (T7.setTop (mkF m 114 #[.val (.int p1), .val (.int p2), .val (.int p3), .val (.int p4), .val (.int p5), .val (.int p6), .val (.int ch1), .val (.int ch2), .val (.int ch3), .val (.int ch4), .val (.int kk), .val (.int cd), .val (.ref b5), .val (.int gt), .unset] [(.int ch1)])) _
      refine XS.istore X7.here hx rfl (hb hby at_114) rfl (l' := #[.val (.int p1), .val (.int p2), .val (.int p3), .val (.int p4), .val (.int p5), .val (.int p6), .val (.int ch1), .val (.int ch2), .val (.int ch3), .val (.int ch4), .val (.int kk), .val (.int cd), .val (.ref b5), .val (.int gt), .val (.int ch1)]) rfl ?_
      show Steps p.tables e below (T7.setTop (mkF m 116 #[.val (.int p1), .val (.int p2), .val (.int p3), .val (.int p4), .val (.int p5), .val (.int p6), .val (.int ch1), .val (.int ch2), .val (.int ch3), .val (.int ch4), .val (.int kk), .val (.int cd), .val (.ref b5), .val (.int gt), .val (.int ch1)] [])) _
      refine XS.goto X7.here hx rfl (pc0 := 116) (pc' := 164) rfl (hb hby at_116) (by decide) (by decide) ?_
      show Steps p.tables e below (T7.setTop (mkF m 164 #[.val (.int p1), .val (.int p2), .val (.int p3), .val (.int p4), .val (.int p5), .val (.int p6), .val (.int ch1), .val (.int ch2), .val (.int ch3), .val (.int ch4), .val (.int kk), .val (.int cd), .val (.ref b5), .val (.int gt), .val (.int ch1)] [])) _
      exact k
    · by_cases c123 : cd = (83 : Int32)
      · refine ⟨ch3, (by rw [if_neg c109, if_pos c123]), fun t k => ?_⟩
        show Steps p.tables e below (T7.setTop (mkF m 105 #[.val (.int p1), .val (.int p2), .val (.int p3), .val (.int p4), .val (.int p5), .val (.int p6), .val (.int ch1), .val (.int ch2), .val (.int ch3), .val (.int ch4), .val (.int kk), .val (.int cd), .val (.ref b5), .val (.int gt), .unset] [])) _
        refine XS.iload X7.here hx rfl (hb hby at_105) rfl ?_
        show Steps p.tables e below (T7.setTop (mkF m 107 #[.val (.int p1), .val (.int p2), .val (.int p3), .val (.int p4), .val (.int p5), .val (.int p6), .val (.int ch1), .val (.int ch2), .val (.int ch3), .val (.int ch4), .val (.int kk), .val (.int cd), .val (.ref b5), .val (.int gt), .unset] [(.int cd)])) _
        refine XS.bipush X7.here hx rfl (hb hby at_107) ?_
        show Steps p.tables e below (T7.setTop (mkF m 109 #[.val (.int p1), .val (.int p2), .val (.int p3), .val (.int p4), .val (.int p5), .val (.int p6), .val (.int ch1), .val (.int ch2), .val (.int ch3), .val (.int ch4), .val (.int kk), .val (.int cd), .val (.ref b5), .val (.int gt), .unset] [(.int (70 : Int32)), (.int cd)])) _
        refine XS.icmpYes X7.here hx rfl (pc0 := 109) (pc' := 119) rfl (hb hby at_109) rfl (feq c109).2 (by decide) (by decide) ?_
        show Steps p.tables e below (T7.setTop (mkF m 119 #[.val (.int p1), .val (.int p2), .val (.int p3), .val (.int p4), .val (.int p5), .val (.int p6), .val (.int ch1), .val (.int ch2), .val (.int ch3), .val (.int ch4), .val (.int kk), .val (.int cd), .val (.ref b5), .val (.int gt), .unset] [])) _
        refine XS.iload X7.here hx rfl (hb hby at_119) rfl ?_
        show Steps p.tables e below (T7.setTop (mkF m 121 #[.val (.int p1), .val (.int p2), .val (.int p3), .val (.int p4), .val (.int p5), .val (.int p6), .val (.int ch1), .val (.int ch2), .val (.int ch3), .val (.int ch4), .val (.int kk), .val (.int cd), .val (.ref b5), .val (.int gt), .unset] [(.int cd)])) _
        refine XS.bipush X7.here hx rfl (hb hby at_121) ?_
        show Steps p.tables e below (T7.setTop (mkF m 123 #[.val (.int p1), .val (.int p2), .val (.int p3), .val (.int p4), .val (.int p5), .val (.int p6), .val (.int ch1), .val (.int ch2), .val (.int ch3), .val (.int ch4), .val (.int kk), .val (.int cd), .val (.ref b5), .val (.int gt), .unset] [(.int (83 : Int32)), (.int cd)])) _
        refine XS.icmpNo X7.here hx rfl (hb hby at_123) rfl (teq c123).2 ?_
        show Steps p.tables e below (T7.setTop (mkF m 126 #[.val (.int p1), .val (.int p2), .val (.int p3), .val (.int p4), .val (.int p5), .val (.int p6), .val (.int ch1), .val (.int ch2), .val (.int ch3), .val (.int ch4), .val (.int kk), .val (.int cd), .val (.ref b5), .val (.int gt), .unset] [])) _
        refine XS.iload X7.here hx rfl (hb hby at_126) rfl ?_
        show Steps p.tables e below (T7.setTop (mkF m 128 #[.val (.int p1), .val (.int p2), .val (.int p3), .val (.int p4), .val (.int p5), .val (.int p6), .val (.int ch1), .val (.int ch2), .val (.int ch3), .val (.int ch4), .val (.int kk), .val (.int cd), .val (.ref b5), .val (.int gt), .unset] [(.int ch3)])) _
        refine XS.istore X7.here hx rfl (hb hby at_128) rfl (l' := #[.val (.int p1), .val (.int p2), .val (.int p3), .val (.int p4), .val (.int p5), .val (.int p6), .val (.int ch1), .val (.int ch2), .val (.int ch3), .val (.int ch4), .val (.int kk), .val (.int cd), .val (.ref b5), .val (.int gt), .val (.int ch3)]) rfl ?_
        show Steps p.tables e below (T7.setTop (mkF m 130 #[.val (.int p1), .val (.int p2), .val (.int p3), .val (.int p4), .val (.int p5), .val (.int p6), .val (.int ch1), .val (.int ch2), .val (.int ch3), .val (.int ch4), .val (.int kk), .val (.int cd), .val (.ref b5), .val (.int gt), .val (.int ch3)] [])) _
        refine XS.goto X7.here hx rfl (pc0 := 130) (pc' := 164) rfl (hb hby at_130) (by decide) (by decide) ?_
        show Steps p.tables e below (T7.setTop (mkF m 164 #[.val (.int p1), .val (.int p2), .val (.int p3), .val (.int p4), .val (.int p5), .val (.int p6), .val (.int ch1), .val (.int ch2), .val (.int ch3), .val (.int ch4), .val (.int kk), .val (.int cd), .val (.ref b5), .val (.int gt), .val (.int ch3)] [])) _
        exact k
      · by_cases c137 : cd = (82 : Int32)
        · refine ⟨ch2, (by rw [if_neg c109, if_neg c123, if_pos c137]), fun t k => ?_⟩
          show Steps p.tables e below (T7.setTop (mkF m 105 #[.val (.int p1), .val (.int p2), .val (.int p3), .val (.int p4), .val (.int p5), .val (.int p6), .val (.int ch1), .val (.int ch2), .val (.int ch3), .val (.int ch4), .val (.int kk), .val (.int cd), .val (.ref b5), .val (.int gt), .unset] [])) _
          refine XS.iload X7.here hx rfl (hb hby at_105) rfl ?_
          show Steps p.tables e below (T7.setTop (mkF m 107 #[.val (.int p1), .val (.int p2), .val (.int p3), .val (.int p4), .val (.int p5), .val (.int p6), .val (.int ch1), .val (.int ch2), .val (.int ch3), .val (.int ch4), .val (.int kk), .val (.int cd), .val (.ref b5), .val (.int gt), .unset] [(.int cd)])) _
          refine XS.bipush X7.here hx rfl (hb hby at_107) ?_
          show Steps p.tables e below (T7.setTop (mkF m 109 #[.val (.int p1), .val (.int p2), .val (.int p3), .val (.int p4), .val (.int p5), .val (.int p6), .val (.int ch1), .val (.int ch2), .val (.int ch3), .val (.int ch4), .val (.int kk), .val (.int cd), .val (.ref b5), .val (.int gt), .unset] [(.int (70 : Int32)), (.int cd)])) _
          refine XS.icmpYes X7.here hx rfl (pc0 := 109) (pc' := 119) rfl (hb hby at_109) rfl (feq c109).2 (by decide) (by decide) ?_
          show Steps p.tables e below (T7.setTop (mkF m 119 #[.val (.int p1), .val (.int p2), .val (.int p3), .val (.int p4), .val (.int p5), .val (.int p6), .val (.int ch1), .val (.int ch2), .val (.int ch3), .val (.int ch4), .val (.int kk), .val (.int cd), .val (.ref b5), .val (.int gt), .unset] [])) _
          refine XS.iload X7.here hx rfl (hb hby at_119) rfl ?_
          show Steps p.tables e below (T7.setTop (mkF m 121 #[.val (.int p1), .val (.int p2), .val (.int p3), .val (.int p4), .val (.int p5), .val (.int p6), .val (.int ch1), .val (.int ch2), .val (.int ch3), .val (.int ch4), .val (.int kk), .val (.int cd), .val (.ref b5), .val (.int gt), .unset] [(.int cd)])) _
          refine XS.bipush X7.here hx rfl (hb hby at_121) ?_
          show Steps p.tables e below (T7.setTop (mkF m 123 #[.val (.int p1), .val (.int p2), .val (.int p3), .val (.int p4), .val (.int p5), .val (.int p6), .val (.int ch1), .val (.int ch2), .val (.int ch3), .val (.int ch4), .val (.int kk), .val (.int cd), .val (.ref b5), .val (.int gt), .unset] [(.int (83 : Int32)), (.int cd)])) _
          refine XS.icmpYes X7.here hx rfl (pc0 := 123) (pc' := 133) rfl (hb hby at_123) rfl (feq c123).2 (by decide) (by decide) ?_
          show Steps p.tables e below (T7.setTop (mkF m 133 #[.val (.int p1), .val (.int p2), .val (.int p3), .val (.int p4), .val (.int p5), .val (.int p6), .val (.int ch1), .val (.int ch2), .val (.int ch3), .val (.int ch4), .val (.int kk), .val (.int cd), .val (.ref b5), .val (.int gt), .unset] [])) _
          refine XS.iload X7.here hx rfl (hb hby at_133) rfl ?_
          show Steps p.tables e below (T7.setTop (mkF m 135 #[.val (.int p1), .val (.int p2), .val (.int p3), .val (.int p4), .val (.int p5), .val (.int p6), .val (.int ch1), .val (.int ch2), .val (.int ch3), .val (.int ch4), .val (.int kk), .val (.int cd), .val (.ref b5), .val (.int gt), .unset] [(.int cd)])) _
          refine XS.bipush X7.here hx rfl (hb hby at_135) ?_
          show Steps p.tables e below (T7.setTop (mkF m 137 #[.val (.int p1), .val (.int p2), .val (.int p3), .val (.int p4), .val (.int p5), .val (.int p6), .val (.int ch1), .val (.int ch2), .val (.int ch3), .val (.int ch4), .val (.int kk), .val (.int cd), .val (.ref b5), .val (.int gt), .unset] [(.int (82 : Int32)), (.int cd)])) _
          refine XS.icmpNo X7.here hx rfl (hb hby at_137) rfl (teq c137).2 ?_
          show Steps p.tables e below (T7.setTop (mkF m 140 #[.val (.int p1), .val (.int p2), .val (.int p3), .val (.int p4), .val (.int p5), .val (.int p6), .val (.int ch1), .val (.int ch2), .val (.int ch3), .val (.int ch4), .val (.int kk), .val (.int cd), .val (.ref b5), .val (.int gt), .unset] [])) _
          refine XS.iload X7.here hx rfl (hb hby at_140) rfl ?_
          show Steps p.tables e below (T7.setTop (mkF m 142 #[.val (.int p1), .val (.int p2), .val (.int p3), .val (.int p4), .val (.int p5), .val (.int p6), .val (.int ch1), .val (.int ch2), .val (.int ch3), .val (.int ch4), .val (.int kk), .val (.int cd), .val (.ref b5), .val (.int gt), .unset] [(.int ch2)])) _
          refine XS.istore X7.here hx rfl (hb hby at_142) rfl (l' := #[.val (.int p1), .val (.int p2), .val (.int p3), .val (.int p4), .val (.int p5), .val (.int p6), .val (.int ch1), .val (.int ch2), .val (.int ch3), .val (.int ch4), .val (.int kk), .val (.int cd), .val (.ref b5), .val (.int gt), .val (.int ch2)]) rfl ?_
          show Steps p.tables e below (T7.setTop (mkF m 144 #[.val (.int p1), .val (.int p2), .val (.int p3), .val (.int p4), .val (.int p5), .val (.int p6), .val (.int ch1), .val (.int ch2), .val (.int ch3), .val (.int ch4), .val (.int kk), .val (.int cd), .val (.ref b5), .val (.int gt), .val (.int ch2)] [])) _
          refine XS.goto X7.here hx rfl (pc0 := 144) (pc' := 164) rfl (hb hby at_144) (by decide) (by decide) ?_
          show Steps p.tables e below (T7.setTop (mkF m 164 #[.val (.int p1), .val (.int p2), .val (.int p3), .val (.int p4), .val (.int p5), .val (.int p6), .val (.int ch1), .val (.int ch2), .val (.int ch3), .val (.int ch4), .val (.int kk), .val (.int cd), .val (.ref b5), .val (.int gt), .val (.int ch2)] [])) _
          exact k
        · by_cases c151 : cd = (69 : Int32)
          · refine ⟨ch4, (by rw [if_neg c109, if_neg c123, if_neg c137, if_pos c151]), fun t k => ?_⟩
            show Steps p.tables e below (T7.setTop (mkF m 105 #[.val (.int p1), .val (.int p2), .val (.int p3), .val (.int p4), .val (.int p5), .val (.int p6), .val (.int ch1), .val (.int ch2), .val (.int ch3), .val (.int ch4), .val (.int kk), .val (.int cd), .val (.ref b5), .val (.int gt), .unset] [])) _
            refine XS.iload X7.here hx rfl (hb hby at_105) rfl ?_
            show Steps p.tables e below (T7.setTop (mkF m 107 #[.val (.int p1), .val (.int p2), .val (.int p3), .val (.int p4), .val (.int p5), .val (.int p6), .val (.int ch1), .val (.int ch2), .val (.int ch3), .val (.int ch4), .val (.int kk), .val (.int cd), .val (.ref b5), .val (.int gt), .unset] [(.int cd)])) _
            refine XS.bipush X7.here hx rfl (hb hby at_107) ?_
            show Steps p.tables e below (T7.setTop (mkF m 109 #[.val (.int p1), .val (.int p2), .val (.int p3), .val (.int p4), .val (.int p5), .val (.int p6), .val (.int ch1), .val (.int ch2), .val (.int ch3), .val (.int ch4), .val (.int kk), .val (.int cd), .val (.ref b5), .val (.int gt), .unset] [(.int (70 : Int32)), (.int cd)])) _
            refine XS.icmpYes X7.here hx rfl (pc0 := 109) (pc' := 119) rfl (hb hby at_109) rfl (feq c109).2 (by decide) (by decide) ?_
            show Steps p.tables e below (T7.setTop (mkF m 119 #[.val (.int p1), .val (.int p2), .val (.int p3), .val (.int p4), .val (.int p5), .val (.int p6), .val (.int ch1), .val (.int ch2), .val (.int ch3), .val (.int ch4), .val (.int kk), .val (.int cd), .val (.ref b5), .val (.int gt), .unset] [])) _
            refine XS.iload X7.here hx rfl (hb hby at_119) rfl ?_
            show Steps p.tables e below (T7.setTop (mkF m 121 #[.val (.int p1), .val (.int p2), .val (.int p3), .val (.int p4), .val (.int p5), .val (.int p6), .val (.int ch1), .val (.int ch2), .val (.int ch3), .val (.int ch4), .val (.int kk), .val (.int cd), .val (.ref b5), .val (.int gt), .unset] [(.int cd)])) _
            refine XS.bipush X7.here hx rfl (hb hby at_121) ?_
            show Steps p.tables e below (T7.setTop (mkF m 123 #[.val (.int p1), .val (.int p2), .val (.int p3), .val (.int p4), .val (.int p5), .val (.int p6), .val (.int ch1), .val (.int ch2), .val (.int ch3), .val (.int ch4), .val (.int kk), .val (.int cd), .val (.ref b5), .val (.int gt), .unset] [(.int (83 : Int32)), (.int cd)])) _
            refine XS.icmpYes X7.here hx rfl (pc0 := 123) (pc' := 133) rfl (hb hby at_123) rfl (feq c123).2 (by decide) (by decide) ?_
            show Steps p.tables e below (T7.setTop (mkF m 133 #[.val (.int p1), .val (.int p2), .val (.int p3), .val (.int p4), .val (.int p5), .val (.int p6), .val (.int ch1), .val (.int ch2), .val (.int ch3), .val (.int ch4), .val (.int kk), .val (.int cd), .val (.ref b5), .val (.int gt), .unset] [])) _
            refine XS.iload X7.here hx rfl (hb hby at_133) rfl ?_
            show Steps p.tables e below (T7.setTop (mkF m 135 #[.val (.int p1), .val (.int p2), .val (.int p3), .val (.int p4), .val (.int p5), .val (.int p6), .val (.int ch1), .val (.int ch2), .val (.int ch3), .val (.int ch4), .val (.int kk), .val (.int cd), .val (.ref b5), .val (.int gt), .unset] [(.int cd)])) _
            refine XS.bipush X7.here hx rfl (hb hby at_135) ?_
            show Steps p.tables e below (T7.setTop (mkF m 137 #[.val (.int p1), .val (.int p2), .val (.int p3), .val (.int p4), .val (.int p5), .val (.int p6), .val (.int ch1), .val (.int ch2), .val (.int ch3), .val (.int ch4), .val (.int kk), .val (.int cd), .val (.ref b5), .val (.int gt), .unset] [(.int (82 : Int32)), (.int cd)])) _
            refine XS.icmpYes X7.here hx rfl (pc0 := 137) (pc' := 147) rfl (hb hby at_137) rfl (feq c137).2 (by decide) (by decide) ?_
            show Steps p.tables e below (T7.setTop (mkF m 147 #[.val (.int p1), .val (.int p2), .val (.int p3), .val (.int p4), .val (.int p5), .val (.int p6), .val (.int ch1), .val (.int ch2), .val (.int ch3), .val (.int ch4), .val (.int kk), .val (.int cd), .val (.ref b5), .val (.int gt), .unset] [])) _
            refine XS.iload X7.here hx rfl (hb hby at_147) rfl ?_
            show Steps p.tables e below (T7.setTop (mkF m 149 #[.val (.int p1), .val (.int p2), .val (.int p3), .val (.int p4), .val (.int p5), .val (.int p6), .val (.int ch1), .val (.int ch2), .val (.int ch3), .val (.int ch4), .val (.int kk), .val (.int cd), .val (.ref b5), .val (.int gt), .unset] [(.int cd)])) _
            refine XS.bipush X7.here hx rfl (hb hby at_149) ?_
            show Steps p.tables e below (T7.setTop (mkF m 151 #[.val (.int p1), .val (.int p2), .val (.int p3), .val (.int p4), .val (.int p5), .val (.int p6), .val (.int ch1), .val (.int ch2), .val (.int ch3), .val (.int ch4), .val (.int kk), .val (.int cd), .val (.ref b5), .val (.int gt), .unset] [(.int (69 : Int32)), (.int cd)])) _
            refine XS.icmpNo X7.here hx rfl (hb hby at_151) rfl (teq c151).2 ?_
            show Steps p.tables e below (T7.setTop (mkF m 154 #[.val (.int p1), .val (.int p2), .val (.int p3), .val (.int p4), .val (.int p5), .val (.int p6), .val (.int ch1), .val (.int ch2), .val (.int ch3), .val (.int ch4), .val (.int kk), .val (.int cd), .val (.ref b5), .val (.int gt), .unset] [])) _
            refine XS.iload X7.here hx rfl (hb hby at_154) rfl ?_
            show Steps p.tables e below (T7.setTop (mkF m 156 #[.val (.int p1), .val (.int p2), .val (.int p3), .val (.int p4), .val (.int p5), .val (.int p6), .val (.int ch1), .val (.int ch2), .val (.int ch3), .val (.int ch4), .val (.int kk), .val (.int cd), .val (.ref b5), .val (.int gt), .unset] [(.int ch4)])) _
            refine XS.istore X7.here hx rfl (hb hby at_156) rfl (l' := #[.val (.int p1), .val (.int p2), .val (.int p3), .val (.int p4), .val (.int p5), .val (.int p6), .val (.int ch1), .val (.int ch2), .val (.int ch3), .val (.int ch4), .val (.int kk), .val (.int cd), .val (.ref b5), .val (.int gt), .val (.int ch4)]) rfl ?_
            show Steps p.tables e below (T7.setTop (mkF m 158 #[.val (.int p1), .val (.int p2), .val (.int p3), .val (.int p4), .val (.int p5), .val (.int p6), .val (.int ch1), .val (.int ch2), .val (.int ch3), .val (.int ch4), .val (.int kk), .val (.int cd), .val (.ref b5), .val (.int gt), .val (.int ch4)] [])) _
            refine XS.goto X7.here hx rfl (pc0 := 158) (pc' := 164) rfl (hb hby at_158) (by decide) (by decide) ?_
            show Steps p.tables e below (T7.setTop (mkF m 164 #[.val (.int p1), .val (.int p2), .val (.int p3), .val (.int p4), .val (.int p5), .val (.int p6), .val (.int ch1), .val (.int ch2), .val (.int ch3), .val (.int ch4), .val (.int kk), .val (.int cd), .val (.ref b5), .val (.int gt), .val (.int ch4)] [])) _
            exact k
          · refine ⟨(0 : Int32), (by rw [if_neg c109, if_neg c123, if_neg c137, if_neg c151]), fun t k => ?_⟩
            show Steps p.tables e below (T7.setTop (mkF m 105 #[.val (.int p1), .val (.int p2), .val (.int p3), .val (.int p4), .val (.int p5), .val (.int p6), .val (.int ch1), .val (.int ch2), .val (.int ch3), .val (.int ch4), .val (.int kk), .val (.int cd), .val (.ref b5), .val (.int gt), .unset] [])) _
            refine XS.iload X7.here hx rfl (hb hby at_105) rfl ?_
            show Steps p.tables e below (T7.setTop (mkF m 107 #[.val (.int p1), .val (.int p2), .val (.int p3), .val (.int p4), .val (.int p5), .val (.int p6), .val (.int ch1), .val (.int ch2), .val (.int ch3), .val (.int ch4), .val (.int kk), .val (.int cd), .val (.ref b5), .val (.int gt), .unset] [(.int cd)])) _
            refine XS.bipush X7.here hx rfl (hb hby at_107) ?_
            show Steps p.tables e below (T7.setTop (mkF m 109 #[.val (.int p1), .val (.int p2), .val (.int p3), .val (.int p4), .val (.int p5), .val (.int p6), .val (.int ch1), .val (.int ch2), .val (.int ch3), .val (.int ch4), .val (.int kk), .val (.int cd), .val (.ref b5), .val (.int gt), .unset] [(.int (70 : Int32)), (.int cd)])) _
            refine XS.icmpYes X7.here hx rfl (pc0 := 109) (pc' := 119) rfl (hb hby at_109) rfl (feq c109).2 (by decide) (by decide) ?_
            show Steps p.tables e below (T7.setTop (mkF m 119 #[.val (.int p1), .val (.int p2), .val (.int p3), .val (.int p4), .val (.int p5), .val (.int p6), .val (.int ch1), .val (.int ch2), .val (.int ch3), .val (.int ch4), .val (.int kk), .val (.int cd), .val (.ref b5), .val (.int gt), .unset] [])) _
            refine XS.iload X7.here hx rfl (hb hby at_119) rfl ?_
            show Steps p.tables e below (T7.setTop (mkF m 121 #[.val (.int p1), .val (.int p2), .val (.int p3), .val (.int p4), .val (.int p5), .val (.int p6), .val (.int ch1), .val (.int ch2), .val (.int ch3), .val (.int ch4), .val (.int kk), .val (.int cd), .val (.ref b5), .val (.int gt), .unset] [(.int cd)])) _
            refine XS.bipush X7.here hx rfl (hb hby at_121) ?_
            show Steps p.tables e below (T7.setTop (mkF m 123 #[.val (.int p1), .val (.int p2), .val (.int p3), .val (.int p4), .val (.int p5), .val (.int p6), .val (.int ch1), .val (.int ch2), .val (.int ch3), .val (.int ch4), .val (.int kk), .val (.int cd), .val (.ref b5), .val (.int gt), .unset] [(.int (83 : Int32)), (.int cd)])) _
            refine XS.icmpYes X7.here hx rfl (pc0 := 123) (pc' := 133) rfl (hb hby at_123) rfl (feq c123).2 (by decide) (by decide) ?_
            show Steps p.tables e below (T7.setTop (mkF m 133 #[.val (.int p1), .val (.int p2), .val (.int p3), .val (.int p4), .val (.int p5), .val (.int p6), .val (.int ch1), .val (.int ch2), .val (.int ch3), .val (.int ch4), .val (.int kk), .val (.int cd), .val (.ref b5), .val (.int gt), .unset] [])) _
            refine XS.iload X7.here hx rfl (hb hby at_133) rfl ?_
            show Steps p.tables e below (T7.setTop (mkF m 135 #[.val (.int p1), .val (.int p2), .val (.int p3), .val (.int p4), .val (.int p5), .val (.int p6), .val (.int ch1), .val (.int ch2), .val (.int ch3), .val (.int ch4), .val (.int kk), .val (.int cd), .val (.ref b5), .val (.int gt), .unset] [(.int cd)])) _
            refine XS.bipush X7.here hx rfl (hb hby at_135) ?_
            show Steps p.tables e below (T7.setTop (mkF m 137 #[.val (.int p1), .val (.int p2), .val (.int p3), .val (.int p4), .val (.int p5), .val (.int p6), .val (.int ch1), .val (.int ch2), .val (.int ch3), .val (.int ch4), .val (.int kk), .val (.int cd), .val (.ref b5), .val (.int gt), .unset] [(.int (82 : Int32)), (.int cd)])) _
            refine XS.icmpYes X7.here hx rfl (pc0 := 137) (pc' := 147) rfl (hb hby at_137) rfl (feq c137).2 (by decide) (by decide) ?_
            show Steps p.tables e below (T7.setTop (mkF m 147 #[.val (.int p1), .val (.int p2), .val (.int p3), .val (.int p4), .val (.int p5), .val (.int p6), .val (.int ch1), .val (.int ch2), .val (.int ch3), .val (.int ch4), .val (.int kk), .val (.int cd), .val (.ref b5), .val (.int gt), .unset] [])) _
            refine XS.iload X7.here hx rfl (hb hby at_147) rfl ?_
            show Steps p.tables e below (T7.setTop (mkF m 149 #[.val (.int p1), .val (.int p2), .val (.int p3), .val (.int p4), .val (.int p5), .val (.int p6), .val (.int ch1), .val (.int ch2), .val (.int ch3), .val (.int ch4), .val (.int kk), .val (.int cd), .val (.ref b5), .val (.int gt), .unset] [(.int cd)])) _
            refine XS.bipush X7.here hx rfl (hb hby at_149) ?_
            show Steps p.tables e below (T7.setTop (mkF m 151 #[.val (.int p1), .val (.int p2), .val (.int p3), .val (.int p4), .val (.int p5), .val (.int p6), .val (.int ch1), .val (.int ch2), .val (.int ch3), .val (.int ch4), .val (.int kk), .val (.int cd), .val (.ref b5), .val (.int gt), .unset] [(.int (69 : Int32)), (.int cd)])) _
            refine XS.icmpYes X7.here hx rfl (pc0 := 151) (pc' := 161) rfl (hb hby at_151) rfl (feq c151).2 (by decide) (by decide) ?_
            show Steps p.tables e below (T7.setTop (mkF m 161 #[.val (.int p1), .val (.int p2), .val (.int p3), .val (.int p4), .val (.int p5), .val (.int p6), .val (.int ch1), .val (.int ch2), .val (.int ch3), .val (.int ch4), .val (.int kk), .val (.int cd), .val (.ref b5), .val (.int gt), .unset] [])) _
            refine XS.iconst X7.here hx rfl (hb hby at_161) ?_
            show Steps p.tables e below (T7.setTop (mkF m 162 #[.val (.int p1), .val (.int p2), .val (.int p3), .val (.int p4), .val (.int p5), .val (.int p6), .val (.int ch1), .val (.int ch2), .val (.int ch3), .val (.int ch4), .val (.int kk), .val (.int cd), .val (.ref b5), .val (.int gt), .unset] [(.int (0 : Int32))])) _
            refine XS.istore X7.here hx rfl (hb hby at_162) rfl (l' := #[.val (.int p1), .val (.int p2), .val (.int p3), .val (.int p4), .val (.int p5), .val (.int p6), .val (.int ch1), .val (.int ch2), .val (.int ch3), .val (.int ch4), .val (.int kk), .val (.int cd), .val (.ref b5), .val (.int gt), .val (.int (0 : Int32))]) rfl ?_
            show Steps p.tables e below (T7.setTop (mkF m 164 #[.val (.int p1), .val (.int p2), .val (.int p3), .val (.int p4), .val (.int p5), .val (.int p6), .val (.int ch1), .val (.int ch2), .val (.int ch3), .val (.int ch4), .val (.int kk), .val (.int cd), .val (.ref b5), .val (.int gt), .val (.int (0 : Int32))] [])) _
            exact k
  have hkk : gt = wt := by rw [hgt, hsC, hsA.1, hsA.2.1, hsA.2.2.1, hsA.2.2.2]
  obtain ⟨fs, hr, hrun, hended, hW, hsame⟩ := X7.leave (v := some (.int (1 : Int32))) (fun h => by rw [Bd.returns] at h; cases h)
  refine ⟨_, _, pre0 _ ?_, hrun, hended, _, _, rfl, ?_, ⟨_, rfl⟩, hW, hsame.mono (by decide) (by decide)⟩
  · refine sA _ ?_
    refine sB _ ?_
    show Steps p.tables e below (s₁.setTop (mkF m 79 #[.val (.int p1), .val (.int p2), .val (.int p3), .val (.int p4), .val (.int p5), .val (.int p6), .val (.int ch1), .val (.int ch2), .val (.int ch3), .val (.int ch4), .val (.int kk), .val (.int cd), .unset, .unset, .unset] [])) _
    refine st5 _ ?_
    show Steps p.tables e below (T5.setTop (mkF m 82 #[.val (.int p1), .val (.int p2), .val (.int p3), .val (.int p4), .val (.int p5), .val (.int p6), .val (.int ch1), .val (.int ch2), .val (.int ch3), .val (.int ch4), .val (.int kk), .val (.int cd), .unset, .unset, .unset] [(.ref b5)])) _
    refine XS.dup X5.here hx rfl (hb hby at_82) rfl rfl ?_
    show Steps p.tables e below (T5.setTop (mkF m 83 #[.val (.int p1), .val (.int p2), .val (.int p3), .val (.int p4), .val (.int p5), .val (.int p6), .val (.int ch1), .val (.int ch2), .val (.int ch3), .val (.int ch4), .val (.int kk), .val (.int cd), .unset, .unset, .unset] [(.ref b5), (.ref b5)])) _
    refine XS.iload X5.here hx rfl (hb hby at_83) rfl ?_
    show Steps p.tables e below (T5.setTop (mkF m 85 #[.val (.int p1), .val (.int p2), .val (.int p3), .val (.int p4), .val (.int p5), .val (.int p6), .val (.int ch1), .val (.int ch2), .val (.int ch3), .val (.int ch4), .val (.int kk), .val (.int cd), .unset, .unset, .unset] [(.int ch1), (.ref b5), (.ref b5)])) _
    refine XS.iload X5.here hx rfl (hb hby at_85) rfl ?_
    show Steps p.tables e below (T5.setTop (mkF m 87 #[.val (.int p1), .val (.int p2), .val (.int p3), .val (.int p4), .val (.int p5), .val (.int p6), .val (.int ch1), .val (.int ch2), .val (.int ch3), .val (.int ch4), .val (.int kk), .val (.int cd), .unset, .unset, .unset] [(.int ch2), (.int ch1), (.ref b5), (.ref b5)])) _
    refine XS.iload X5.here hx rfl (hb hby at_87) rfl ?_
    show Steps p.tables e below (T5.setTop (mkF m 89 #[.val (.int p1), .val (.int p2), .val (.int p3), .val (.int p4), .val (.int p5), .val (.int p6), .val (.int ch1), .val (.int ch2), .val (.int ch3), .val (.int ch4), .val (.int kk), .val (.int cd), .unset, .unset, .unset] [(.int ch3), (.int ch2), (.int ch1), (.ref b5), (.ref b5)])) _
    refine XS.iload X5.here hx rfl (hb hby at_89) rfl ?_
    show Steps p.tables e below (T5.setTop (mkF m 91 #[.val (.int p1), .val (.int p2), .val (.int p3), .val (.int p4), .val (.int p5), .val (.int p6), .val (.int ch1), .val (.int ch2), .val (.int ch3), .val (.int ch4), .val (.int kk), .val (.int cd), .unset, .unset, .unset] [(.int ch4), (.int ch3), (.int ch2), (.int ch1), (.ref b5), (.ref b5)])) _
    refine st6.trans ?_
    show Steps p.tables e below (T6.setTop (mkF m 94 #[.val (.int p1), .val (.int p2), .val (.int p3), .val (.int p4), .val (.int p5), .val (.int p6), .val (.int ch1), .val (.int ch2), .val (.int ch3), .val (.int ch4), .val (.int kk), .val (.int cd), .unset, .unset, .unset] [(.ref b5)])) _
    refine XS.astore X6.here hx rfl (hb hby at_94) rfl rfl (l' := #[.val (.int p1), .val (.int p2), .val (.int p3), .val (.int p4), .val (.int p5), .val (.int p6), .val (.int ch1), .val (.int ch2), .val (.int ch3), .val (.int ch4), .val (.int kk), .val (.int cd), .val (.ref b5), .unset, .unset]) rfl ?_
    show Steps p.tables e below (T6.setTop (mkF m 96 #[.val (.int p1), .val (.int p2), .val (.int p3), .val (.int p4), .val (.int p5), .val (.int p6), .val (.int ch1), .val (.int ch2), .val (.int ch3), .val (.int ch4), .val (.int kk), .val (.int cd), .val (.ref b5), .unset, .unset] [])) _
    refine XS.aload X6.here hx rfl (hb hby at_96) rfl rfl ?_
    show Steps p.tables e below (T6.setTop (mkF m 98 #[.val (.int p1), .val (.int p2), .val (.int p3), .val (.int p4), .val (.int p5), .val (.int p6), .val (.int ch1), .val (.int ch2), .val (.int ch3), .val (.int ch4), .val (.int kk), .val (.int cd), .val (.ref b5), .unset, .unset] [(.ref b5)])) _
    refine XS.iload X6.here hx rfl (hb hby at_98) rfl ?_
    show Steps p.tables e below (T6.setTop (mkF m 100 #[.val (.int p1), .val (.int p2), .val (.int p3), .val (.int p4), .val (.int p5), .val (.int p6), .val (.int ch1), .val (.int ch2), .val (.int ch3), .val (.int ch4), .val (.int kk), .val (.int cd), .val (.ref b5), .unset, .unset] [(.int cd), (.ref b5)])) _
    refine st7.trans ?_
    show Steps p.tables e below (T7.setTop (mkF m 103 #[.val (.int p1), .val (.int p2), .val (.int p3), .val (.int p4), .val (.int p5), .val (.int p6), .val (.int ch1), .val (.int ch2), .val (.int ch3), .val (.int ch4), .val (.int kk), .val (.int cd), .val (.ref b5), .unset, .unset] [(.int gt)])) _
    refine XS.istore X7.here hx rfl (hb hby at_103) rfl (l' := #[.val (.int p1), .val (.int p2), .val (.int p3), .val (.int p4), .val (.int p5), .val (.int p6), .val (.int ch1), .val (.int ch2), .val (.int ch3), .val (.int ch4), .val (.int kk), .val (.int cd), .val (.ref b5), .val (.int gt), .unset]) rfl ?_
    show Steps p.tables e below (T7.setTop (mkF m 105 #[.val (.int p1), .val (.int p2), .val (.int p3), .val (.int p4), .val (.int p5), .val (.int p6), .val (.int ch1), .val (.int ch2), .val (.int ch3), .val (.int ch4), .val (.int kk), .val (.int cd), .val (.ref b5), .val (.int gt), .unset] [])) _
    refine sC _ ?_
    show Steps p.tables e below (T7.setTop (mkF m 164 #[.val (.int p1), .val (.int p2), .val (.int p3), .val (.int p4), .val (.int p5), .val (.int p6), .val (.int ch1), .val (.int ch2), .val (.int ch3), .val (.int ch4), .val (.int kk), .val (.int cd), .val (.ref b5), .val (.int gt), .val (.int wt)] [])) _
    refine XS.iload X7.here hx rfl (hb hby at_164) rfl ?_
    show Steps p.tables e below (T7.setTop (mkF m 166 #[.val (.int p1), .val (.int p2), .val (.int p3), .val (.int p4), .val (.int p5), .val (.int p6), .val (.int ch1), .val (.int ch2), .val (.int ch3), .val (.int ch4), .val (.int kk), .val (.int cd), .val (.ref b5), .val (.int gt), .val (.int wt)] [(.int gt)])) _
    refine XS.iload X7.here hx rfl (hb hby at_166) rfl ?_
    show Steps p.tables e below (T7.setTop (mkF m 168 #[.val (.int p1), .val (.int p2), .val (.int p3), .val (.int p4), .val (.int p5), .val (.int p6), .val (.int ch1), .val (.int ch2), .val (.int ch3), .val (.int ch4), .val (.int kk), .val (.int cd), .val (.ref b5), .val (.int gt), .val (.int wt)] [(.int wt), (.int gt)])) _
    refine XS.icmpNo X7.here hx rfl (hb hby at_168) rfl (teq hkk).2 ?_
    show Steps p.tables e below (T7.setTop (mkF m 171 #[.val (.int p1), .val (.int p2), .val (.int p3), .val (.int p4), .val (.int p5), .val (.int p6), .val (.int ch1), .val (.int ch2), .val (.int ch3), .val (.int ch4), .val (.int kk), .val (.int cd), .val (.ref b5), .val (.int gt), .val (.int wt)] [])) _
    refine XS.iconst X7.here hx rfl (hb hby at_171) ?_
    show Steps p.tables e below (T7.setTop (mkF m 172 #[.val (.int p1), .val (.int p2), .val (.int p3), .val (.int p4), .val (.int p5), .val (.int p6), .val (.int ch1), .val (.int ch2), .val (.int ch3), .val (.int ch4), .val (.int kk), .val (.int cd), .val (.ref b5), .val (.int gt), .val (.int wt)] [(.int (1 : Int32))])) _
    refine XS.goto X7.here hx rfl (pc0 := 172) (pc' := 176) rfl (hb hby at_172) (by decide) (by decide) ?_
    show Steps p.tables e below (T7.setTop (mkF m 176 #[.val (.int p1), .val (.int p2), .val (.int p3), .val (.int p4), .val (.int p5), .val (.int p6), .val (.int ch1), .val (.int ch2), .val (.int ch3), .val (.int ch4), .val (.int kk), .val (.int cd), .val (.ref b5), .val (.int gt), .val (.int wt)] [(.int (1 : Int32))])) _
    exact retN X7 hx (t := .boolean) Bd.returns (by simp) (hb hby at_176) hr
  · show Q0 Z p1 p2 p3 p4 p5 p6 h0 n0 _ T7.heap _
    exact ⟨rfl, N7⟩
set_option maxRecDepth 65536 in
set_option maxHeartbeats 40000000 in
theorem comes_1 {Post : Tables → Env → Array Value → State → Outcome → State → Prop} (hpost : ∀ tb e args s v u, (limb_1_1.after args s (.returned v) u = true ∧ limb_1_2.after args s (.returned v) u = true ∧ True) → FrameEnd s (.returned v) u (Jvm.fieldLocs frame_1_writes args s ++ Jvm.arrayLocs frame_1_arrays args s ++ Jvm.staticLocs frame_1_statics s) 16 128 → Post tb e args s (.returned v) u) :
    ArmFor flags0 classFile x code maxLocals ret World_1 tables_1 room_1 Calls_1 rest_1 Pre_1 Post := by
  intro l hfl _ _ p e ha hc hk s m args below hf hA hF happ hP
  obtain ⟨hcalls, hrest, hpre⟩ := hP
  obtain ⟨-, -, -, hnamed, -, -, -, hat⟩ := (Spec.applies_iff hf).mp happ
  obtain ⟨hg, hn⟩ := and_e (Cond.before_iff.mp (show (Jvm.Cond.and given_1 narrow_1).before args s = true from hpre))
  obtain ⟨gc, hg0⟩ := and_e hg
  obtain ⟨ga0, hg1⟩ := and_e hg0
  obtain ⟨ga1, hg2⟩ := and_e hg1
  obtain ⟨ga2, hg3⟩ := and_e hg2
  obtain ⟨ga3, hg4⟩ := and_e hg3
  obtain ⟨ga4, hg5⟩ := and_e hg4
  obtain ⟨w0, w1, w2, w3, w4, w5, rfl⟩ : ∃ w0 w1 w2 w3 w4 w5 : Value, args = #[w0, w1, w2, w3, w4, w5] := by
    have hs : args.size = 6 := by simpa [Cond.value, given_1] using gc
    obtain ⟨L⟩ := args
    match L, hs with
    | [w0, w1, w2, w3, w4, w5], _ => exact ⟨w0, w1, w2, w3, w4, w5, rfl⟩
  have hw := fun d (hd : d ∈ tables_1) => atoms_spec (ws := Jvm.Cond.code x code maxLocals ret :: tables_1) hat d (List.mem_cons_of_mem _ hd)
  obtain ⟨i0, ei0⟩ := is_v ga0
  obtain rfl : w0 = (.int i0) := Option.some.inj ei0
  obtain ⟨i1, ei1⟩ := is_v ga1
  obtain rfl : w1 = (.int i1) := Option.some.inj ei1
  obtain ⟨i2, ei2⟩ := is_v ga2
  obtain rfl : w2 = (.int i2) := Option.some.inj ei2
  obtain ⟨i3, ei3⟩ := is_v ga3
  obtain rfl : w3 = (.int i3) := Option.some.inj ei3
  obtain ⟨i4, ei4⟩ := is_v ga4
  obtain rfl : w4 = (.int i4) := Option.some.inj ei4
  obtain ⟨i5, ei5⟩ := is_v hg5
  obtain rfl : w5 = (.int i5) := Option.some.inj ei5
  obtain ⟨n, o, h1, h2, h3, _, L, rfl, ⟨rfl, N⟩, hq⟩ := rm0 l s _ hw tables_1 i0 i1 i2 i3 i4 i5 s.heap s.heap.size (Nat.le_refl _) p e ha hc hk s m _ below hf ((Spec.applies_iff_loose hf).mp happ).1 ⟨rfl, State.Warmed39.refl s, rfl⟩ trivial
  refine ⟨n, _, h1, h2, h3, hpost _ _ _ _ _ _ ⟨Cond.after_iff.mpr rfl, Cond.after_iff.mpr (eq_i res_at (Term.int_eval (1)) rfl), trivial⟩ ⟨hq.1, hq.2.1, (hq.2.2.sift fun y hy => Or.inr (N y hy)).mono (by decide) (by decide)⟩⟩
theorem main_1_1 : Claimed_1_1 := comes_1 fun _ _ _ _ _ _ h hF => ⟨h.1, hF⟩
theorem main_1_2 : Claimed_1_2 := comes_1 fun _ _ _ _ _ _ h hF => ⟨h.2.1, hF⟩
end Jvm.Pilot.@@N@@
namespace Jvm.Pilot.@@N@@
open Jvm Jvm.ClassFile Sem Op Lib Jvm.Free Jvm.Stand Jvm.Pilot.@@N@@.Jvm.D
/-! MADE BY PROGRAM (witnessworld.py) out of the Statement's table words and the real class files: 10 classes; the members and pool entries that the words name. The judged class is class 1, her method 1. -/
namespace start1
open Jvm.ClassFile
def u (s : String) : CpInfo := .utf8 (stringToUtf16 s)
/-- a pool by its gaps: so many unusable entries, then the entry; so many at the end -/
def gap : Nat → List CpInfo → List CpInfo
  | 0, r => r
  | n + 1, r => .unusable :: gap n r
def poolList (es : List (Nat × CpInfo)) (last : Nat) : List CpInfo := es.foldr (fun e r => gap e.1 (e.2 :: r)) (gap last [])
def pool (es : List (Nat × CpInfo)) (last : Nat) : Array CpInfo := ⟨poolList es last⟩
def fileOf (pool : Array CpInfo) (this : Nat) (attrs : Array Attribute := #[]) (ms : Array MethodInfo := #[]) (fl : Nat := 33) (sup : Nat := 0) (ifs : Array Nat := #[]) (fds : Array FieldInfo := #[]) : ClassFile where
  minorVersion := 0
  majorVersion := 65
  constantPool := pool
  accessFlags := fl
  thisClass := this
  superClass := sup
  interfaces := ifs
  fields := fds
  methods := ms
  attributes := attrs
def plain (name : String) (sup : Option ClassId) : Class where
  name := name
  kind := .ordinary
  loader := none
  accessFlags := 33
  super := sup
  interfaces := #[]
  cf := none
  fields := #[]
  methods := #[]
  instanceTypes := #[]
  staticTypes := #[]
  resolved := #[]
  callSites := []
  init := .initialized
  statics := none
  mirror := none

def pool0 : Array CpInfo := pool [(5, u "<init>"), (0, u "()V"), (1, .class_ 10), (1, u "java/lang/Object")] 113

def k0c0 : Code := { maxStack := 0, maxLocals := 1, code := object_method_1_code, exceptionTable := #[], attributes := #[] }
def k0m0 : Method := { name := "<init>", desc := "()V", sig := { parameters := [], returnType := none }, accessFlags := 1, code := some k0c0 }
/-- java/lang/Object -/
def k0 : Class := { plain "java/lang/Object" none with
  accessFlags := 33
  interfaces := #[]
  cf := some (fileOf pool0 8 #[] #[{ accessFlags := 1, nameIndex := 5, descriptorIndex := 6, attributes := #[] }] 33 0 #[] #[])
  fields := #[]
  methods := #[k0m0]
  instanceTypes := #[]
  staticTypes := #[]
  resolved := Array.replicate 124 none
  statics := none }

def pool1 : Array CpInfo := pool [(2, .class_ 4), (1, u "java/lang/Object"), (0, u "<init>"), (0, u "()V"), (0, .class_ 8), (0, u "com/example/epicrisis/epicrisis/lab/AstmRecord$Delimiters"), (0, .methodref 7 10), (0, .nameAndType 5 11), (0, u "(CCCC)V"), (0, .methodref 7 13), (0, .nameAndType 14 15), (0, u "escaped"), (0, u "(C)C"), (0, .class_ 17), (0, u "com/example/epicrisis/epicrisis/lab/DelimitersEscapedPinLaw"), (2, u "law"), (0, u "(IIIIII)Z")] 7

def k1m0 : Method := { name := "<init>", desc := "()V", sig := { parameters := [], returnType := none }, accessFlags := 1, code := none }
def k1c1 : Code := { maxStack := 6, maxLocals := 15, code := code, exceptionTable := #[], attributes := #[] }
def k1m1 : Method := { name := "law", desc := "(IIIIII)Z", sig := { parameters := [.int, .int, .int, .int, .int, .int], returnType := some .boolean }, accessFlags := 9, code := some k1c1 }
/-- com/example/epicrisis/epicrisis/lab/DelimitersEscapedPinLaw -/
def k1 : Class := { plain "com/example/epicrisis/epicrisis/lab/DelimitersEscapedPinLaw" (some 0) with
  accessFlags := 49
  interfaces := #[]
  cf := some (fileOf pool1 16 #[] #[{ accessFlags := 1, nameIndex := 5, descriptorIndex := 6, attributes := #[] }, { accessFlags := 9, nameIndex := 20, descriptorIndex := 21, attributes := #[] }] 49 2 #[] #[])
  fields := #[]
  methods := #[k1m0, k1m1]
  instanceTypes := #[]
  staticTypes := #[]
  resolved := Array.replicate 29 none
  statics := none }

def pool2 : Array CpInfo := pool [(1, .methodref 2 3), (0, .class_ 4), (0, .nameAndType 5 6), (0, u "java/lang/Object"), (0, u "<init>"), (0, u "()V"), (0, .class_ 8), (0, u "java/lang/Record")] 13

def k2c0 : Code := { maxStack := 1, maxLocals := 1, code := jdk_30_method_1_code, exceptionTable := #[], attributes := #[] }
def k2m0 : Method := { name := "<init>", desc := "()V", sig := { parameters := [], returnType := none }, accessFlags := 4, code := some k2c0 }
/-- java/lang/Record -/
def k2 : Class := { plain "java/lang/Record" (some 0) with
  accessFlags := 1057
  interfaces := #[]
  cf := some (fileOf pool2 7 #[] #[{ accessFlags := 4, nameIndex := 5, descriptorIndex := 6, attributes := #[] }] 1057 2 #[] #[])
  fields := #[]
  methods := #[k2m0]
  instanceTypes := #[]
  staticTypes := #[]
  resolved := Array.replicate 22 none
  statics := none }

def pool3 : Array CpInfo := pool [(1, .methodref 2 3), (0, .class_ 4), (0, .nameAndType 5 6), (0, u "java/lang/Record"), (0, u "<init>"), (0, u "()V"), (0, .fieldref 8 9), (0, .class_ 10), (0, .nameAndType 11 12), (0, u "com/example/epicrisis/epicrisis/lab/AstmRecord$Delimiters"), (0, u "field"), (0, u "C"), (0, .fieldref 8 14), (0, .nameAndType 15 12), (0, u "repeat"), (0, .fieldref 8 17), (0, .nameAndType 18 12), (0, u "component"), (0, .fieldref 8 20), (0, .nameAndType 21 12), (0, u "escape"), (26, u "(CCCC)V"), (18, u "escaped"), (0, u "(C)C"), (6, .class_ 76), (0, u "com/example/epicrisis/epicrisis/lab/AstmRecord")] 22

def k3c0 : Code := { maxStack := 2, maxLocals := 5, code := prog_69_method_1_code, exceptionTable := #[], attributes := #[] }
def k3m0 : Method := { name := "<init>", desc := "(CCCC)V", sig := { parameters := [.char, .char, .char, .char], returnType := none }, accessFlags := 0, code := some k3c0 }
def k3c1 : Code := { maxStack := 1, maxLocals := 2, code := prog_69_method_3_code, exceptionTable := #[], attributes := #[] }
def k3m1 : Method := { name := "escaped", desc := "(C)C", sig := { parameters := [.char], returnType := some .char }, accessFlags := 0, code := some k3c1 }
/-- com/example/epicrisis/epicrisis/lab/AstmRecord$Delimiters -/
def k3 : Class := { plain "com/example/epicrisis/epicrisis/lab/AstmRecord$Delimiters" (some 2) with
  accessFlags := 48
  interfaces := #[]
  cf := some (fileOf pool3 8 #[.nestHost 75] #[{ accessFlags := 0, nameIndex := 5, descriptorIndex := 48, attributes := #[] }, { accessFlags := 0, nameIndex := 67, descriptorIndex := 68, attributes := #[] }] 48 2 #[] #[{ accessFlags := 18, nameIndex := 11, descriptorIndex := 12, attributes := #[] }, { accessFlags := 18, nameIndex := 15, descriptorIndex := 12, attributes := #[] }, { accessFlags := 18, nameIndex := 18, descriptorIndex := 12, attributes := #[] }, { accessFlags := 18, nameIndex := 21, descriptorIndex := 12, attributes := #[] }])
  fields := #[{ name := "field", type := .char, accessFlags := 18, slot := 0, constantValue := 0 }, { name := "repeat", type := .char, accessFlags := 18, slot := 1, constantValue := 0 }, { name := "component", type := .char, accessFlags := 18, slot := 2, constantValue := 0 }, { name := "escape", type := .char, accessFlags := 18, slot := 3, constantValue := 0 }]
  methods := #[k3m0, k3m1]
  instanceTypes := #[.char, .char, .char, .char]
  staticTypes := #[]
  resolved := Array.replicate 99 none
  statics := none }

def pool4 : Array CpInfo := pool [(1, u "java/lang/Cloneable"), (0, .class_ 1), (0, u "java/lang/Object"), (0, .class_ 3)] 3

/-- java/lang/Cloneable -/
def k4 : Class := { plain "java/lang/Cloneable" (some 0) with
  accessFlags := 1537
  interfaces := #[]
  cf := some (fileOf pool4 2 #[] #[] 1537 4 #[] #[])
  fields := #[]
  methods := #[]
  instanceTypes := #[]
  staticTypes := #[]
  resolved := Array.replicate 8 none
  statics := none }

def pool5 : Array CpInfo := pool [(1, u "java/io/Serializable"), (0, .class_ 1), (0, u "java/lang/Object"), (0, .class_ 3)] 3

/-- java/io/Serializable -/
def k5 : Class := { plain "java/io/Serializable" (some 0) with
  accessFlags := 1537
  interfaces := #[]
  cf := some (fileOf pool5 2 #[] #[] 1537 4 #[] #[])
  fields := #[]
  methods := #[]
  instanceTypes := #[]
  staticTypes := #[]
  resolved := Array.replicate 8 none
  statics := none }

/-- the primitive byte -/
def k6 : Class := { plain "byte" none with kind := .primitive 'B', accessFlags := 0x411 }
/-- [B -/
def k7 : Class := { plain "[B" (some 0) with kind := .array 6 .byte, interfaces := #[4, 5], accessFlags := 1041 }

/-- the primitive int -/
def k8 : Class := { plain "int" none with kind := .primitive 'I', accessFlags := 0x411 }
/-- [I -/
def k9 : Class := { plain "[I" (some 0) with kind := .array 8 .int, interfaces := #[4, 5], accessFlags := 1041 }

def heap : Heap := #[]
def classes : Array Class := #[k0, k1, k2, k3, k4, k5, k6, k7, k8, k9]
def interned : List (Array UInt16 × Addr) := []
def slotsUsed : Nat := 0
def theMethod : MethodId := ⟨1, 1⟩
def args0 : Array Value := #[.int 5, .int 6, .int 7, .int 8, .int 9, .int 1]
def aboutOver (below : List Frame) : State where
  vm := { classes := classes, interned := interned.toArray }
  heap := heap
  slotsUsed := slotsUsed
  threads := #[{ frames := .invoking theMethod args0 :: below }]
def below0 : List Frame := [.native { method := ⟨0, 0⟩, args := #[] }]
def about1 : State := aboutOver below0
def p0 : Program := .bare "" "" ""
def e0 : Env := launch0.env 0 0 0
theorem w_frames : about1.frames = Frame.invoking theMethod args0 :: below0 := rfl
set_option maxRecDepth 65536 in
theorem w_args : argsFit about1.vm theMethod args0 = true := by decide +kernel
set_option maxRecDepth 65536 in
theorem w_heap : heapFits about1 = true := by decide +kernel
set_option maxRecDepth 65536 in
theorem w_runnable : about1.curStatus? = some .runnable := by decide +kernel
set_option maxRecDepth 65536 in
theorem w_alone : about1.alone = true := by decide +kernel
set_option maxRecDepth 65536 in
theorem w_named : about1.methodNamed? x = some theMethod := by decide +kernel
set_option maxRecDepth 65536 in
theorem w_hears : about1.hears theMethod below0 = true := by decide +kernel
set_option maxRecDepth 65536 in
theorem w_ripe : about1.ripe theMethod args0 below0 = true := by decide +kernel
theorem w_running : about1.status = .running := rfl
set_option maxRecDepth 65536 in
theorem w_room : about1.hasRoom e0.platform room_1 = true :=
  launch0.hasRoom_least _ room_1 (by decide +kernel) (by decide +kernel) (by decide +kernel) (by decide +kernel) (by decide +kernel) (by decide +kernel)
theorem allAtoms_all (ts : List Jvm.Cond) (a : Array Jvm.Value) (st : Jvm.State) : (allAtoms ts).before a st = ts.all (fun c => c.before a st) := by
  induction ts with
  | nil => rfl
  | cons c t ih =>
    show (Jvm.Cond.and c (allAtoms t)).before a st = _
    rw [Jvm.Cond.before_and, ih, List.all_cons]
def words1 : List Jvm.Cond := Jvm.Cond.code x code maxLocals ret :: tables_1
/-- a 'code' word, met by the world's own term for the bytes: nothing is compared byte by byte -/
theorem code_word {y : MethodName} {bytes : ByteArray} {mx : Nat} {rt : Option FieldType} {a : Array Value} {s : State} {m : MethodId} {meth : Method} {c : Code} (h1 : s.methodNamed? y = some m) (h2 : s.vm.method? m = some meth) (h3 : meth.code = some c) (h4 : c.code = bytes)
    (h5 : (c.maxLocals == mx && c.exceptionTable.isEmpty && decide (c.maxStack ≤ mostOperands) && decide (meth.sig.returnType = rt) && !meth.locks && decide (parseMethodDescriptor y.desc = some meth.sig)) = true) : (Jvm.Cond.code y bytes mx rt).before a s = true := by
  simp only [Bool.and_eq_true, beq_iff_eq, Bool.not_eq_true', decide_eq_true_eq] at h5
  obtain ⟨⟨⟨⟨⟨g1, g2⟩, g3⟩, g4⟩, g5⟩, g6⟩ := h5
  simp [Cond.before, Cond.holds, Cond.value, h1, h2, h3, h4, g1, g2, g3, g4, g5, g6]
def isCode : Jvm.Cond → Bool
  | .code _ _ _ _ => true
  | _ => false
theorem all_split {L : List Jvm.Cond} {P : Jvm.Cond → Bool} (h1 : L.all (fun c => isCode c || P c) = true) (h2 : ∀ c ∈ L.filter isCode, P c = true) : L.all P = true := by
  refine List.all_eq_true.mpr fun c hc => ?_
  have h := List.all_eq_true.mp h1 c hc
  rcases Bool.eq_false_or_eq_true (isCode c) with hi | hi
  · exact h2 c (List.mem_filter.mpr ⟨hc, hi⟩)
  · simpa [hi] using h
set_option maxRecDepth 65536 in
theorem w_c0 : (Jvm.Cond.code x code maxLocals ret).before args0 about1 = true := code_word (m := ⟨1, 1⟩) (meth := k1m1) (c := k1c1) (by decide +kernel) rfl rfl rfl (by decide +kernel)
set_option maxRecDepth 65536 in
theorem w_c1 : (Jvm.Cond.code ({ cls := "com/example/epicrisis/epicrisis/lab/AstmRecord$Delimiters", name := "<init>", desc := "(CCCC)V" } : Jvm.MethodName) prog_69_method_1_code (5 : Nat) (Option.none : Option Jvm.ClassFile.FieldType)).before args0 about1 = true := code_word (m := ⟨3, 0⟩) (meth := k3m0) (c := k3c0) (by decide +kernel) rfl rfl rfl (by decide +kernel)
set_option maxRecDepth 65536 in
theorem w_c2 : (Jvm.Cond.code ({ cls := "java/lang/Record", name := "<init>", desc := "()V" } : Jvm.MethodName) jdk_30_method_1_code (1 : Nat) (Option.none : Option Jvm.ClassFile.FieldType)).before args0 about1 = true := code_word (m := ⟨2, 0⟩) (meth := k2m0) (c := k2c0) (by decide +kernel) rfl rfl rfl (by decide +kernel)
set_option maxRecDepth 65536 in
theorem w_c3 : (Jvm.Cond.code ({ cls := "java/lang/Object", name := "<init>", desc := "()V" } : Jvm.MethodName) object_method_1_code (1 : Nat) (Option.none : Option Jvm.ClassFile.FieldType)).before args0 about1 = true := code_word (m := ⟨0, 0⟩) (meth := k0m0) (c := k0c0) (by decide +kernel) rfl rfl rfl (by decide +kernel)
set_option maxRecDepth 65536 in
theorem w_c4 : (Jvm.Cond.code ({ cls := "com/example/epicrisis/epicrisis/lab/AstmRecord$Delimiters", name := "escaped", desc := "(C)C" } : Jvm.MethodName) prog_69_method_3_code (2 : Nat) (Option.some Jvm.ClassFile.FieldType.char)).before args0 about1 = true := code_word (m := ⟨3, 1⟩) (meth := k3m1) (c := k3c1) (by decide +kernel) rfl rfl rfl (by decide +kernel)
def codes1 : List Jvm.Cond := [Jvm.Cond.code x code maxLocals ret, Jvm.Cond.code ({ cls := "com/example/epicrisis/epicrisis/lab/AstmRecord$Delimiters", name := "<init>", desc := "(CCCC)V" } : Jvm.MethodName) prog_69_method_1_code (5 : Nat) (Option.none : Option Jvm.ClassFile.FieldType), Jvm.Cond.code ({ cls := "java/lang/Record", name := "<init>", desc := "()V" } : Jvm.MethodName) jdk_30_method_1_code (1 : Nat) (Option.none : Option Jvm.ClassFile.FieldType), Jvm.Cond.code ({ cls := "java/lang/Object", name := "<init>", desc := "()V" } : Jvm.MethodName) object_method_1_code (1 : Nat) (Option.none : Option Jvm.ClassFile.FieldType), Jvm.Cond.code ({ cls := "com/example/epicrisis/epicrisis/lab/AstmRecord$Delimiters", name := "escaped", desc := "(C)C" } : Jvm.MethodName) prog_69_method_3_code (2 : Nat) (Option.some Jvm.ClassFile.FieldType.char)]
set_option maxRecDepth 65536 in
theorem codes_eq : words1.filter isCode = codes1 := rfl
theorem w_codes : ∀ c ∈ words1.filter isCode, c.before args0 about1 = true := by
  rw [codes_eq]
  intro c hc
  simp only [codes1, List.mem_cons, List.not_mem_nil, or_false] at hc
  rcases hc with rfl | rfl | rfl | rfl | rfl
  · exact w_c0
  · exact w_c1
  · exact w_c2
  · exact w_c3
  · exact w_c4
set_option maxRecDepth 65536 in
theorem w_t1 : (words1.take 24).all (fun c => isCode c || c.before args0 about1) = true := by decide +kernel
set_option maxRecDepth 65536 in
theorem w_t2 : (words1.drop 24).all (fun c => isCode c || c.before args0 about1) = true := by decide +kernel
theorem w_tables : (allAtoms (Jvm.Cond.code x code maxLocals ret :: tables_1)).before args0 about1 = true := by
  rw [allAtoms_all]
  show words1.all (fun c => c.before args0 about1) = true
  refine all_split ?_ w_codes
  rw [← List.take_append_drop 24 words1, List.all_append, w_t1, w_t2]
  rfl
set_option maxRecDepth 65536 in
theorem w_case : (Jvm.Cond.and given_1 narrow_1).before args0 about1 = true := by decide +kernel
theorem w_applies : (headSpec (Jvm.Cond.code x code maxLocals ret :: tables_1) room_1).applies x e0.platform about1 = true :=
  (Spec.applies_iff w_frames).mpr ⟨w_running, w_runnable, w_alone, w_named, w_hears, w_ripe, w_room, w_tables⟩
theorem atStart : AtStart classFile x code maxLocals ret World_1 tables_1 room_1 Calls_1 rest_1 Pre_1 launch0 p0 e0 about1 theMethod args0 below0 :=
  ⟨lists_1, trivial, launch0.admits_env _ _ _, launch0.least_env, fairChoices_fair.cas, fairChoices_fair.clock, w_frames, w_args, w_heap, w_applies, trivial, trivial, w_case⟩
end start1
theorem witness_1 : WitnessClaimed_1 := ⟨start1.p0, start1.e0, start1.about1, start1.theMethod, start1.args0, start1.below0, start1.atStart⟩
end Jvm.Pilot.@@N@@
