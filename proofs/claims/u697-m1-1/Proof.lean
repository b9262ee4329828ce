import JvmDerived
import JvmDerived.Pilot.@@N@@Statement
import JvmDerived.Pilot.@@N@@Code
set_option linter.unusedVariables false
set_option linter.unusedSimpArgs false
namespace Jvm.Pilot.@@N@@
open Jvm Jvm.ClassFile Sem Op Lib Jvm.Free Jvm.Stand Jvm.LawKit Jvm.RoadKit Bundle Jvm.Pilot.@@N@@.Jvm.D
theorem own_ifc {P Q : Prop} [Decidable P] [Decidable Q] {α : Type} {a b : α} (h : P ↔ Q) : (if P then a else b) = if Q then a else b := by
  by_cases q : P
  · rw [if_pos q, if_pos (h.mp q)]
  · rw [if_neg q, if_neg (fun r => q (h.mpr r))]
theorem own_lc_eq {x y : Int64} (h : x = y) : ifCond.holds .eq (lcmpW x y) = true ∧ ifCond.holds .ne (lcmpW x y) = false := ⟨(if0 _ _).trans (teq ((lw_eq x y).mpr h)).1, (if0 _ _).trans (teq ((lw_eq x y).mpr h)).2⟩
theorem own_lc_ne {x y : Int64} (h : ¬ x = y) : ifCond.holds .eq (lcmpW x y) = false ∧ ifCond.holds .ne (lcmpW x y) = true := ⟨(if0 _ _).trans (feq (mt (lw_eq x y).mp h)).1, (if0 _ _).trans (feq (mt (lw_eq x y).mp h)).2⟩
theorem own_lc_lt {x y : Int64} (h : x < y) : ifCond.holds .lt (lcmpW x y) = true ∧ ifCond.holds .ge (lcmpW x y) = false := ⟨(if0 _ _).trans (tlt ((lw_lt x y).mpr h)).1, (if0 _ _).trans (tlt ((lw_lt x y).mpr h)).2.1⟩
theorem own_lc_nlt {x y : Int64} (h : ¬ x < y) : ifCond.holds .lt (lcmpW x y) = false ∧ ifCond.holds .ge (lcmpW x y) = true := ⟨(if0 _ _).trans (flt (mt (lw_lt x y).mp h)).1, (if0 _ _).trans (flt (mt (lw_lt x y).mp h)).2.1⟩
theorem own_lc_gt {x y : Int64} (h : y < x) : ifCond.holds .gt (lcmpW x y) = true ∧ ifCond.holds .le (lcmpW x y) = false := ⟨(if0 _ _).trans (tlt ((lw_gt x y).mpr h)).2.2.1, (if0 _ _).trans (tlt ((lw_gt x y).mpr h)).2.2.2⟩
theorem own_lc_ngt {x y : Int64} (h : ¬ y < x) : ifCond.holds .gt (lcmpW x y) = false ∧ ifCond.holds .le (lcmpW x y) = true := ⟨(if0 _ _).trans (flt (mt (lw_gt x y).mp h)).2.2.1, (if0 _ _).trans (flt (mt (lw_gt x y).mp h)).2.2.2⟩
theorem own_z : (0 : Int64).toInt = 0 := by decide +kernel
theorem own_a (a b : Int64) : a = (a + b) - b := by
  rw [← Int64.toInt_inj]
  have h1 := c_ladd a b
  have h2 := c_lsub (a + b) b
  have r1 := rng64 a
  have r2 := rng64 ((a + b) - b)
  omega
theorem own_b (a b d : Int64) : a = ((a + b) + d) - b ↔ d = (0 : Int64) := by
  rw [← Int64.toInt_inj, ← Int64.toInt_inj, own_z]
  have h1 := c_ladd a b
  have h2 := c_ladd (a + b) d
  have h3 := c_lsub ((a + b) + d) b
  have r1 := rng64 a
  have r2 := rng64 (((a + b) + d) - b)
  have r3 := rng64 d
  omega
theorem own_c (b f : Int64) : (b + f) = b ↔ f = (0 : Int64) := by
  rw [← Int64.toInt_inj, ← Int64.toInt_inj, own_z]
  have h1 := c_ladd b f
  have r1 := rng64 b
  have r2 := rng64 (b + f)
  have r3 := rng64 f
  omega
theorem d1_0 : decode prog_40_method_1_code 0 = .ok (.aload_n 0, 1) := by decide +kernel
theorem d1_1 : decode prog_40_method_1_code 1 = .ok (.invokespecial 1, 3) := by decide +kernel
theorem d1_4 : decode prog_40_method_1_code 4 = .ok (.aload_n 0, 1) := by decide +kernel
theorem d1_5 : decode prog_40_method_1_code 5 = .ok (.lload_n 1, 1) := by decide +kernel
theorem d1_6 : decode prog_40_method_1_code 6 = .ok (.putfield 7, 3) := by decide +kernel
theorem d1_9 : decode prog_40_method_1_code 9 = .ok (.aload_n 0, 1) := by decide +kernel
theorem d1_10 : decode prog_40_method_1_code 10 = .ok (.lload_n 3, 1) := by decide +kernel
theorem d1_11 : decode prog_40_method_1_code 11 = .ok (.putfield 13, 3) := by decide +kernel
theorem d1_14 : decode prog_40_method_1_code 14 = .ok (.return_, 1) := by decide +kernel
theorem pn_1 : plainName "com/example/ilox/ilox/bench/Ledger" = true := by first | (simp [plainName, overriddenIn]; done) | decide +kernel
theorem ef_1 (m : MethodId) (x0 : Addr) (x1 : Int64) (x2 : Int64) : entryFrame m #[(.ref x0), (.long x1), (.long x2)] 5 = mkF m 0 #[.val (.ref x0), .val (.long x1), .second, .val (.long x2), .second] [] := by first | (simp [entryFrame, mkF, argsToLocals, Value.category]; done) | rfl
def Q1 (Z : State) (a1 : Addr) (q2 : Int64) (q3 : Int64) (u_left_a1 : Value) (u_rows_a1 : Value) (h0 : Heap) (n0 : Nat) (v : Option Value) (h : Heap) (L : List Loc) : Prop := v = none ∧ Fr n0 L ∧ Keep h0 h [a1] ∧ Exa Z h a1 "com/example/ilox/ilox/bench/Ledger" ∧ Fld Z h a1 "com/example/ilox/ilox/bench/Ledger" "left" "J" (.long q2) ∧ Fld Z h a1 "com/example/ilox/ilox/bench/Ledger" "rows" "J" (.long q3)
set_option maxRecDepth 65536 in
set_option maxHeartbeats 40000000 in
theorem rm1 (l : Launch) (Z : State) (a0 : Array Value) (hw : ∀ d ∈ tables_1, d.before a0 Z = true) (ws : List Jvm.Cond) (a1 : Addr) (q2 : Int64) (q3 : Int64) (u_left_a1 : Value) (u_rows_a1 : Value) (h0 : Heap) (n0 : Nat) (Z0 : n0 ≤ h0.size) (E_a1 : Exa Z h0 a1 "com/example/ilox/ilox/bench/Ledger") (F_left_a1 : Fld Z h0 a1 "com/example/ilox/ilox/bench/Ledger" "left" "J" u_left_a1) (g_a1 : n0 ≤ a1) (F_rows_a1 : Fld Z h0 a1 "com/example/ilox/ilox/bench/Ledger" "rows" "J" u_rows_a1) :
    MetFree l (⟨"com/example/ilox/ilox/bench/Ledger", "<init>", "(JJ)V"⟩ : MethodName) (head1 (Jvm.Cond.code (⟨"com/example/ilox/ilox/bench/Ledger", "<init>", "(JJ)V"⟩ : MethodName) prog_40_method_1_code 5 none :: ws) ({ frames := 1, cells := 0, slots := 0, locals := 12 } : Room)) (fun a U => a = #[(.ref a1), (.long q2), (.long q3)] ∧ Z.Warmed39 U.vm ∧ U.heap = h0) (fun _ _ _ _ _ => True) (fun _ U o U' => ∃ v L, o = .returned v ∧ Q1 Z a1 q2 q3 u_left_a1 u_rows_a1 h0 n0 v U'.heap L ∧ FrameEnd U o U' L ({ frames := 1, cells := 0, slots := 0, locals := 12 } : Room).cells ({ frames := 1, cells := 0, slots := 0, locals := 12 } : Room).slots) := by
  refine MetFree.of_bodySF (plainFor_of_name pn_1) hisR ?_
  intro p e s m args below meth c s₁ Bd hml0 hP hK
  obtain ⟨rfl, hZ, hh⟩ := hP
  have hx := Bd.exec
  have hby := Bd.bytes
  have hml : c.maxLocals = 5 := hml0
  have hown : s.vm.findClass "com/example/ilox/ilox/bench/Ledger" = some m.cls := findClass_of_methodNamed Bd.named
  have hnm := (name_of_methodNamed Bd.named Bd.method).1
  have X0 : Stand p l e ({ frames := 1, cells := 0, slots := 0, locals := 12 } : Room) s m #[(.ref a1), (.long q2), (.long q3)] below meth c s₁ [] 0 0 := Stand.of_body Bd
  have e0 : s₁.heap = h0 := by rw [← hh, Bd.state]; rfl
  have N0 := Fr.nil n0
  have pre0 : ∀ t, Steps p.tables e below (s₁.setTop (mkF m 0 #[.val (.ref a1), .val (.long q2), .second, .val (.long q3), .second] [])) t → Steps p.tables e below (s₁.setTop (entryFrame m #[(.ref a1), (.long q2), (.long q3)] 5)) t := fun t k => castTop (ef_1 m a1 q2 q3) k
  obtain ⟨T4, X4, e4, st4⟩ := initO X0 hx hZ hown (hw _ (List.mem_of_getElem? (i := 6) rfl)) (hw _ (List.mem_of_getElem? (i := 7) rfl)) (hw _ (List.mem_of_getElem? (i := 8) rfl)) e0 (g := (mkF m 1 #[.val (.ref a1), .val (.long q2), .second, .val (.long q3), .second] [(.ref a1)])) rfl (by rw [hml]; rfl) rfl (hb hby d1_1) (by decide) (W := 0) (by show 2 * 0 + _ ≤ _; exact Nat.le_of_eq rfl) (by decide)
  obtain ⟨T5, h5, X5, e5, W5, st5⟩ := putF X4 hx hZ hown (host := "") (Or.inl (hw _ (List.mem_of_getElem? (i := 9) rfl))) Via.refl e4 F_left_a1 E_a1 (Or.inr ⟨(hw _ (List.mem_of_getElem? (i := 10) rfl)), rfl, hnm⟩) (hw _ (List.mem_of_getElem? (i := 1) rfl)) (ty := .long) (by decide) rfl rfl (g := (mkF m 6 #[.val (.ref a1), .val (.long q2), .second, .val (.long q3), .second] [(.long q2), (.ref a1)])) rfl rfl (hb hby d1_6)
  have Fw5 := F_left_a1.same W5
  have K5 : Keep h0 h5 [a1] := (Keep.refl h0 [a1]).wr W5 (Or.inl (List.mem_of_getElem? (i := 0) rfl))
  have N5 := Fr.snoc X5 N0 g_a1
  obtain ⟨T6, h6, X6, e6, W6, st6⟩ := putF X5 hx hZ hown (host := "") (Or.inl (hw _ (List.mem_of_getElem? (i := 11) rfl))) Via.refl e5 (F_rows_a1.other W5 (Or.inr (slot_ne (Or.inr (hw _ (List.mem_of_getElem? (i := 12) rfl))) (Or.inr (hw _ (List.mem_of_getElem? (i := 10) rfl))) (by decide) (t := .long) (t' := .long) (by decide) (by decide)))) (E_a1.wr W5) (Or.inr ⟨(hw _ (List.mem_of_getElem? (i := 12) rfl)), rfl, hnm⟩) (hw _ (List.mem_of_getElem? (i := 1) rfl)) (ty := .long) (by decide) rfl rfl (g := (mkF m 11 #[.val (.ref a1), .val (.long q2), .second, .val (.long q3), .second] [(.long q3), (.ref a1)])) rfl rfl (hb hby d1_11)
  have Fw6 := (F_rows_a1.other W5 (Or.inr (slot_ne (Or.inr (hw _ (List.mem_of_getElem? (i := 12) rfl))) (Or.inr (hw _ (List.mem_of_getElem? (i := 10) rfl))) (by decide) (t := .long) (t' := .long) (by decide) (by decide)))).same W6
  have K6 : Keep h0 h6 [a1] := K5.wr W6 (Or.inl (List.mem_of_getElem? (i := 0) rfl))
  have N6 := Fr.snoc X6 N5 g_a1
  obtain ⟨fs, hr, hrun, hended, hW, hsame⟩ := X6.leave (v := none) (fun _ => rfl)
  refine ⟨_, _, pre0 _ ?_, hrun, hended, _, _, rfl, ?_, ⟨_, rfl⟩, hW, hsame.mono (by decide) (by decide)⟩
  · show Steps p.tables e below (s₁.setTop (mkF m 0 #[.val (.ref a1), .val (.long q2), .second, .val (.long q3), .second] [])) _
    refine XS.aloadN X0.here hx rfl (hb hby d1_0) rfl rfl ?_
    show Steps p.tables e below (s₁.setTop (mkF m 1 #[.val (.ref a1), .val (.long q2), .second, .val (.long q3), .second] [(.ref a1)])) _
    refine st4 _ ?_
    show Steps p.tables e below (T4.setTop (mkF m 4 #[.val (.ref a1), .val (.long q2), .second, .val (.long q3), .second] [])) _
    refine XS.aloadN X4.here hx rfl (hb hby d1_4) rfl rfl ?_
    show Steps p.tables e below (T4.setTop (mkF m 5 #[.val (.ref a1), .val (.long q2), .second, .val (.long q3), .second] [(.ref a1)])) _
    refine XS.lloadN X4.here hx rfl (hb hby d1_5) rfl ?_
    show Steps p.tables e below (T4.setTop (mkF m 6 #[.val (.ref a1), .val (.long q2), .second, .val (.long q3), .second] [(.long q2), (.ref a1)])) _
    refine st5 _ ?_
    show Steps p.tables e below (T5.setTop (mkF m 9 #[.val (.ref a1), .val (.long q2), .second, .val (.long q3), .second] [])) _
    refine XS.aloadN X5.here hx rfl (hb hby d1_9) rfl rfl ?_
    show Steps p.tables e below (T5.setTop (mkF m 10 #[.val (.ref a1), .val (.long q2), .second, .val (.long q3), .second] [(.ref a1)])) _
    refine XS.lloadN X5.here hx rfl (hb hby d1_10) rfl ?_
    show Steps p.tables e below (T5.setTop (mkF m 11 #[.val (.ref a1), .val (.long q2), .second, .val (.long q3), .second] [(.long q3), (.ref a1)])) _
    refine st6 _ ?_
    show Steps p.tables e below (T6.setTop (mkF m 14 #[.val (.ref a1), .val (.long q2), .second, .val (.long q3), .second] [])) _
    exact X6.returnOut hx Bd.returns (hb hby d1_14) hr
  · show Q1 Z a1 q2 q3 u_left_a1 u_rows_a1 h0 n0 _ T6.heap _
    rw [e6]
    exact ⟨rfl, N6, K6, ((E_a1.wr W5).wr W6), (Fw5.other W6 (Or.inr (slot_ne (Or.inr (hw _ (List.mem_of_getElem? (i := 10) rfl))) (Or.inr (hw _ (List.mem_of_getElem? (i := 12) rfl))) (by decide) (t := .long) (t' := .long) (by decide) (by decide)))), Fw6⟩
theorem d3_0 : decode prog_40_method_4_code 0 = .ok (.lload_n 3, 1) := by decide +kernel
theorem d3_1 : decode prog_40_method_4_code 1 = .ok (.aload_n 0, 1) := by decide +kernel
theorem d3_2 : decode prog_40_method_4_code 2 = .ok (.getfield 13, 3) := by decide +kernel
theorem d3_5 : decode prog_40_method_4_code 5 = .ok (.lcmp, 1) := by decide +kernel
theorem d3_6 : decode prog_40_method_4_code 6 = .ok (.ifCond .ne 21, 3) := by decide +kernel
theorem d3_9 : decode prog_40_method_4_code 9 = .ok (.aload_n 0, 1) := by decide +kernel
theorem d3_10 : decode prog_40_method_4_code 10 = .ok (.getfield 7, 3) := by decide +kernel
theorem d3_13 : decode prog_40_method_4_code 13 = .ok (.lload_n 1, 1) := by decide +kernel
theorem d3_14 : decode prog_40_method_4_code 14 = .ok (.aload_n 0, 1) := by decide +kernel
theorem d3_15 : decode prog_40_method_4_code 15 = .ok (.getfield 13, 3) := by decide +kernel
theorem d3_18 : decode prog_40_method_4_code 18 = .ok (.lsub, 1) := by decide +kernel
theorem d3_19 : decode prog_40_method_4_code 19 = .ok (.lcmp, 1) := by decide +kernel
theorem d3_20 : decode prog_40_method_4_code 20 = .ok (.ifCond .ne 7, 3) := by decide +kernel
theorem d3_23 : decode prog_40_method_4_code 23 = .ok (.iconst 1, 1) := by decide +kernel
theorem d3_24 : decode prog_40_method_4_code 24 = .ok (.goto 4, 3) := by decide +kernel
theorem d3_27 : decode prog_40_method_4_code 27 = .ok (.iconst 0, 1) := by decide +kernel
theorem d3_28 : decode prog_40_method_4_code 28 = .ok (.ireturn, 1) := by decide +kernel
theorem ef_3 (m : MethodId) (x0 : Addr) (x1 : Int64) (x2 : Int64) : entryFrame m #[(.ref x0), (.long x1), (.long x2)] 5 = mkF m 0 #[.val (.ref x0), .val (.long x1), .second, .val (.long x2), .second] [] := by first | (simp [entryFrame, mkF, argsToLocals, Value.category]; done) | rfl
def Q3 (Z : State) (a1 : Addr) (q2 : Int64) (q3 : Int64) (w4 : Int64) (w6 : Int64) (h0 : Heap) (n0 : Nat) (v : Option Value) (h : Heap) (L : List Loc) : Prop := (∃ z : Int32, v = some (.int z) ∧ z = if q3 = w4 ∧ w6 = (q2 - w4) then (1 : Int32) else 0) ∧ Fr n0 L ∧ h = h0
set_option maxRecDepth 65536 in
set_option maxHeartbeats 40000000 in
theorem rm3 (l : Launch) (Z : State) (a0 : Array Value) (hw : ∀ d ∈ tables_1, d.before a0 Z = true) (ws : List Jvm.Cond) (a1 : Addr) (q2 : Int64) (q3 : Int64) (w4 : Int64) (w6 : Int64) (h0 : Heap) (n0 : Nat) (Z0 : n0 ≤ h0.size) (F_rows : Fld Z h0 a1 "com/example/ilox/ilox/bench/Ledger" "rows" "J" (.long w4)) (F_left : Fld Z h0 a1 "com/example/ilox/ilox/bench/Ledger" "left" "J" (.long w6)) :
    MetFree l (⟨"com/example/ilox/ilox/bench/Ledger", "holds", "(JJ)Z"⟩ : MethodName) (head1 (Jvm.Cond.code (⟨"com/example/ilox/ilox/bench/Ledger", "holds", "(JJ)Z"⟩ : MethodName) prog_40_method_4_code 5 (some .boolean) :: ws) ({ frames := 0, cells := 0, slots := 0, locals := 0 } : Room)) (fun a U => a = #[(.ref a1), (.long q2), (.long q3)] ∧ Z.Warmed39 U.vm ∧ U.heap = h0) (fun _ _ _ _ _ => True) (fun _ U o U' => ∃ v L, o = .returned v ∧ Q3 Z a1 q2 q3 w4 w6 h0 n0 v U'.heap L ∧ FrameEnd U o U' L ({ frames := 0, cells := 0, slots := 0, locals := 0 } : Room).cells ({ frames := 0, cells := 0, slots := 0, locals := 0 } : Room).slots) := by
  refine MetFree.of_bodySF (plainFor_of_name pn_1) hisR ?_
  intro p e s m args below meth c s₁ Bd hml0 hP hK
  obtain ⟨rfl, hZ, hh⟩ := hP
  have hx := Bd.exec
  have hby := Bd.bytes
  have hml : c.maxLocals = 5 := hml0
  have hown : s.vm.findClass "com/example/ilox/ilox/bench/Ledger" = some m.cls := findClass_of_methodNamed Bd.named
  have hnm := (name_of_methodNamed Bd.named Bd.method).1
  have X0 : Stand p l e ({ frames := 0, cells := 0, slots := 0, locals := 0 } : Room) s m #[(.ref a1), (.long q2), (.long q3)] below meth c s₁ [] 0 0 := Stand.of_body Bd
  have e0 : s₁.heap = h0 := by rw [← hh, Bd.state]; rfl
  have N0 := Fr.nil n0
  have pre0 : ∀ t, Steps p.tables e below (s₁.setTop (mkF m 0 #[.val (.ref a1), .val (.long q2), .second, .val (.long q3), .second] [])) t → Steps p.tables e below (s₁.setTop (entryFrame m #[(.ref a1), (.long q2), (.long q3)] 5)) t := fun t k => castTop (ef_3 m a1 q2 q3) k
  obtain ⟨T5, X5, e5, st5⟩ := getF X0 hx hZ hown (host := "") (Or.inl (hw _ (List.mem_of_getElem? (i := 11) rfl))) Via.refl e0 F_rows (g := (mkF m 2 #[.val (.ref a1), .val (.long q2), .second, .val (.long q3), .second] [(.ref a1), (.long q3)])) rfl rfl (hb hby d3_2)
  by_cases c6 : q3 = w4
  · obtain ⟨T7, X7, e7, st7⟩ := getF X5 hx hZ hown (host := "") (Or.inl (hw _ (List.mem_of_getElem? (i := 9) rfl))) Via.refl e5 F_left (g := (mkF m 10 #[.val (.ref a1), .val (.long q2), .second, .val (.long q3), .second] [(.ref a1)])) rfl rfl (hb hby d3_10)
    obtain ⟨T8, X8, e8, st8⟩ := getF X7 hx hZ hown (host := "") (Or.inl (hw _ (List.mem_of_getElem? (i := 11) rfl))) Via.refl e7 F_rows (g := (mkF m 15 #[.val (.ref a1), .val (.long q2), .second, .val (.long q3), .second] [(.ref a1), (.long q2), (.long w6)])) rfl rfl (hb hby d3_15)
    by_cases c20 : w6 = (q2 - w4)
    · obtain ⟨fs, hr, hrun, hended, hW, hsame⟩ := X8.leave (v := some (.int (1 : Int32))) (fun h => by rw [Bd.returns] at h; cases h)
      refine ⟨_, _, pre0 _ ?_, hrun, hended, _, _, rfl, ?_, ⟨_, rfl⟩, hW, hsame.mono (by decide) (by decide)⟩
      · show Steps p.tables e below (s₁.setTop (mkF m 0 #[.val (.ref a1), .val (.long q2), .second, .val (.long q3), .second] [])) _
        refine XS.lloadN X0.here hx rfl (hb hby d3_0) rfl ?_
        show Steps p.tables e below (s₁.setTop (mkF m 1 #[.val (.ref a1), .val (.long q2), .second, .val (.long q3), .second] [(.long q3)])) _
        refine XS.aloadN X0.here hx rfl (hb hby d3_1) rfl rfl ?_
        show Steps p.tables e below (s₁.setTop (mkF m 2 #[.val (.ref a1), .val (.long q2), .second, .val (.long q3), .second] [(.ref a1), (.long q3)])) _
        refine st5 _ ?_
        show Steps p.tables e below (T5.setTop (mkF m 5 #[.val (.ref a1), .val (.long q2), .second, .val (.long q3), .second] [(.long w4), (.long q3)])) _
        refine XS.lcmp X5.here hx rfl (hb hby d3_5) rfl ?_
        show Steps p.tables e below (T5.setTop (mkF m 6 #[.val (.ref a1), .val (.long q2), .second, .val (.long q3), .second] [(.int (lcmpW q3 w4))])) _
        refine XS.ifNo X5.here hx rfl (hb hby d3_6) rfl (own_lc_eq c6).2 ?_
        show Steps p.tables e below (T5.setTop (mkF m 9 #[.val (.ref a1), .val (.long q2), .second, .val (.long q3), .second] [])) _
        refine XS.aloadN X5.here hx rfl (hb hby d3_9) rfl rfl ?_
        show Steps p.tables e below (T5.setTop (mkF m 10 #[.val (.ref a1), .val (.long q2), .second, .val (.long q3), .second] [(.ref a1)])) _
        refine st7 _ ?_
        show Steps p.tables e below (T7.setTop (mkF m 13 #[.val (.ref a1), .val (.long q2), .second, .val (.long q3), .second] [(.long w6)])) _
        refine XS.lloadN X7.here hx rfl (hb hby d3_13) rfl ?_
        show Steps p.tables e below (T7.setTop (mkF m 14 #[.val (.ref a1), .val (.long q2), .second, .val (.long q3), .second] [(.long q2), (.long w6)])) _
        refine XS.aloadN X7.here hx rfl (hb hby d3_14) rfl rfl ?_
        show Steps p.tables e below (T7.setTop (mkF m 15 #[.val (.ref a1), .val (.long q2), .second, .val (.long q3), .second] [(.ref a1), (.long q2), (.long w6)])) _
        refine st8 _ ?_
        show Steps p.tables e below (T8.setTop (mkF m 18 #[.val (.ref a1), .val (.long q2), .second, .val (.long q3), .second] [(.long w4), (.long q2), (.long w6)])) _
        refine XS.lsub X8.here hx rfl (hb hby d3_18) rfl ?_
        show Steps p.tables e below (T8.setTop (mkF m 19 #[.val (.ref a1), .val (.long q2), .second, .val (.long q3), .second] [(.long (q2 - w4)), (.long w6)])) _
        refine XS.lcmp X8.here hx rfl (hb hby d3_19) rfl ?_
        show Steps p.tables e below (T8.setTop (mkF m 20 #[.val (.ref a1), .val (.long q2), .second, .val (.long q3), .second] [(.int (lcmpW w6 (q2 - w4)))])) _
        refine XS.ifNo X8.here hx rfl (hb hby d3_20) rfl (own_lc_eq c20).2 ?_
        show Steps p.tables e below (T8.setTop (mkF m 23 #[.val (.ref a1), .val (.long q2), .second, .val (.long q3), .second] [])) _
        refine XS.iconst X8.here hx rfl (hb hby d3_23) ?_
        show Steps p.tables e below (T8.setTop (mkF m 24 #[.val (.ref a1), .val (.long q2), .second, .val (.long q3), .second] [(.int (1 : Int32))])) _
        refine XS.goto X8.here hx rfl (pc0 := 24) (pc' := 28) rfl (hb hby d3_24) (by decide) (by decide) ?_
        show Steps p.tables e below (T8.setTop (mkF m 28 #[.val (.ref a1), .val (.long q2), .second, .val (.long q3), .second] [(.int (1 : Int32))])) _
        exact retN X8 hx (t := .boolean) Bd.returns (by simp) (hb hby d3_28) hr
      · show Q3 Z a1 q2 q3 w4 w6 h0 n0 _ T8.heap _
        rw [e8]
        exact ⟨⟨_, rfl, (if_pos ⟨c6, c20⟩).symm⟩, N0, rfl⟩
    · obtain ⟨fs, hr, hrun, hended, hW, hsame⟩ := X8.leave (v := some (.int (0 : Int32))) (fun h => by rw [Bd.returns] at h; cases h)
      refine ⟨_, _, pre0 _ ?_, hrun, hended, _, _, rfl, ?_, ⟨_, rfl⟩, hW, hsame.mono (by decide) (by decide)⟩
      · show Steps p.tables e below (s₁.setTop (mkF m 0 #[.val (.ref a1), .val (.long q2), .second, .val (.long q3), .second] [])) _
        refine XS.lloadN X0.here hx rfl (hb hby d3_0) rfl ?_
        show Steps p.tables e below (s₁.setTop (mkF m 1 #[.val (.ref a1), .val (.long q2), .second, .val (.long q3), .second] [(.long q3)])) _
        refine XS.aloadN X0.here hx rfl (hb hby d3_1) rfl rfl ?_
        show Steps p.tables e below (s₁.setTop (mkF m 2 #[.val (.ref a1), .val (.long q2), .second, .val (.long q3), .second] [(.ref a1), (.long q3)])) _
        refine st5 _ ?_
        show Steps p.tables e below (T5.setTop (mkF m 5 #[.val (.ref a1), .val (.long q2), .second, .val (.long q3), .second] [(.long w4), (.long q3)])) _
        refine XS.lcmp X5.here hx rfl (hb hby d3_5) rfl ?_
        show Steps p.tables e below (T5.setTop (mkF m 6 #[.val (.ref a1), .val (.long q2), .second, .val (.long q3), .second] [(.int (lcmpW q3 w4))])) _
        refine XS.ifNo X5.here hx rfl (hb hby d3_6) rfl (own_lc_eq c6).2 ?_
        show Steps p.tables e below (T5.setTop (mkF m 9 #[.val (.ref a1), .val (.long q2), .second, .val (.long q3), .second] [])) _
        refine XS.aloadN X5.here hx rfl (hb hby d3_9) rfl rfl ?_
        show Steps p.tables e below (T5.setTop (mkF m 10 #[.val (.ref a1), .val (.long q2), .second, .val (.long q3), .second] [(.ref a1)])) _
        refine st7 _ ?_
        show Steps p.tables e below (T7.setTop (mkF m 13 #[.val (.ref a1), .val (.long q2), .second, .val (.long q3), .second] [(.long w6)])) _
        refine XS.lloadN X7.here hx rfl (hb hby d3_13) rfl ?_
        show Steps p.tables e below (T7.setTop (mkF m 14 #[.val (.ref a1), .val (.long q2), .second, .val (.long q3), .second] [(.long q2), (.long w6)])) _
        refine XS.aloadN X7.here hx rfl (hb hby d3_14) rfl rfl ?_
        show Steps p.tables e below (T7.setTop (mkF m 15 #[.val (.ref a1), .val (.long q2), .second, .val (.long q3), .second] [(.ref a1), (.long q2), (.long w6)])) _
        refine st8 _ ?_
        show Steps p.tables e below (T8.setTop (mkF m 18 #[.val (.ref a1), .val (.long q2), .second, .val (.long q3), .second] [(.long w4), (.long q2), (.long w6)])) _
        refine XS.lsub X8.here hx rfl (hb hby d3_18) rfl ?_
        show Steps p.tables e below (T8.setTop (mkF m 19 #[.val (.ref a1), .val (.long q2), .second, .val (.long q3), .second] [(.long (q2 - w4)), (.long w6)])) _
        refine XS.lcmp X8.here hx rfl (hb hby d3_19) rfl ?_
        show Steps p.tables e below (T8.setTop (mkF m 20 #[.val (.ref a1), .val (.long q2), .second, .val (.long q3), .second] [(.int (lcmpW w6 (q2 - w4)))])) _
        refine XS.ifYes X8.here hx rfl (pc0 := 20) (pc' := 27) rfl (hb hby d3_20) rfl (own_lc_ne c20).2 (by decide) (by decide) ?_
        show Steps p.tables e below (T8.setTop (mkF m 27 #[.val (.ref a1), .val (.long q2), .second, .val (.long q3), .second] [])) _
        refine XS.iconst X8.here hx rfl (hb hby d3_27) ?_
        show Steps p.tables e below (T8.setTop (mkF m 28 #[.val (.ref a1), .val (.long q2), .second, .val (.long q3), .second] [(.int (0 : Int32))])) _
        exact retN X8 hx (t := .boolean) Bd.returns (by simp) (hb hby d3_28) hr
      · show Q3 Z a1 q2 q3 w4 w6 h0 n0 _ T8.heap _
        rw [e8]
        exact ⟨⟨_, rfl, (if_neg (fun q => c20 q.2)).symm⟩, N0, rfl⟩
  · obtain ⟨fs, hr, hrun, hended, hW, hsame⟩ := X5.leave (v := some (.int (0 : Int32))) (fun h => by rw [Bd.returns] at h; cases h)
    refine ⟨_, _, pre0 _ ?_, hrun, hended, _, _, rfl, ?_, ⟨_, rfl⟩, hW, hsame.mono (by decide) (by decide)⟩
    · show Steps p.tables e below (s₁.setTop (mkF m 0 #[.val (.ref a1), .val (.long q2), .second, .val (.long q3), .second] [])) _
      refine XS.lloadN X0.here hx rfl (hb hby d3_0) rfl ?_
      show Steps p.tables e below (s₁.setTop (mkF m 1 #[.val (.ref a1), .val (.long q2), .second, .val (.long q3), .second] [(.long q3)])) _
      refine XS.aloadN X0.here hx rfl (hb hby d3_1) rfl rfl ?_
      show Steps p.tables e below (s₁.setTop (mkF m 2 #[.val (.ref a1), .val (.long q2), .second, .val (.long q3), .second] [(.ref a1), (.long q3)])) _
      refine st5 _ ?_
      show Steps p.tables e below (T5.setTop (mkF m 5 #[.val (.ref a1), .val (.long q2), .second, .val (.long q3), .second] [(.long w4), (.long q3)])) _
      refine XS.lcmp X5.here hx rfl (hb hby d3_5) rfl ?_
      show Steps p.tables e below (T5.setTop (mkF m 6 #[.val (.ref a1), .val (.long q2), .second, .val (.long q3), .second] [(.int (lcmpW q3 w4))])) _
      refine XS.ifYes X5.here hx rfl (pc0 := 6) (pc' := 27) rfl (hb hby d3_6) rfl (own_lc_ne c6).2 (by decide) (by decide) ?_
      show Steps p.tables e below (T5.setTop (mkF m 27 #[.val (.ref a1), .val (.long q2), .second, .val (.long q3), .second] [])) _
      refine XS.iconst X5.here hx rfl (hb hby d3_27) ?_
      show Steps p.tables e below (T5.setTop (mkF m 28 #[.val (.ref a1), .val (.long q2), .second, .val (.long q3), .second] [(.int (0 : Int32))])) _
      exact retN X5 hx (t := .boolean) Bd.returns (by simp) (hb hby d3_28) hr
    · show Q3 Z a1 q2 q3 w4 w6 h0 n0 _ T5.heap _
      rw [e5]
      exact ⟨⟨_, rfl, (if_neg (fun q => c6 q.1)).symm⟩, N0, rfl⟩
theorem pd_1 : parseMethodDescriptor "(JJ)V" = some ⟨[.long, .long], none⟩ := by decide +kernel
theorem pd_3 : parseMethodDescriptor "(JJ)Z" = some ⟨[.long, .long], some .boolean⟩ := by decide +kernel
theorem pn_0 : plainName "com/example/ilox/ilox/bench/LedgerHoldsPinLaw" = true := by first | (simp [plainName, overriddenIn]; done) | decide +kernel
theorem ef_0 (m : MethodId) (x0 : Int64) (x1 : Int64) (x2 : Int64) (x3 : Int64) : entryFrame m #[(.long x0), (.long x1), (.long x2), (.long x3)] maxLocals = mkF m 0 #[.val (.long x0), .second, .val (.long x1), .second, .val (.long x2), .second, .val (.long x3), .second, .unset, .unset, .unset, .unset, .unset, .unset, .unset] [] := by first | (simp [entryFrame, mkF, argsToLocals, Value.category, maxLocals]; done) | rfl
def Q0 (Z : State) (q1 : Int64) (q2 : Int64) (q3 : Int64) (q4 : Int64) (h0 : Heap) (n0 : Nat) (v : Option Value) (h : Heap) (L : List Loc) : Prop := v = some (.int 1) ∧ Fr n0 L
set_option maxRecDepth 65536 in
set_option maxHeartbeats 40000000 in
theorem rm0 (l : Launch) (Z : State) (a0 : Array Value) (hw : ∀ d ∈ tables_1, d.before a0 Z = true) (ws : List Jvm.Cond) (q1 : Int64) (q2 : Int64) (q3 : Int64) (q4 : Int64) (h0 : Heap) (n0 : Nat) (Z0 : n0 ≤ h0.size) :
    MetFree l x (head1 (Jvm.Cond.code x code maxLocals ret :: ws) room_1) (fun a U => a = #[(.long q1), (.long q2), (.long q3), (.long q4)] ∧ Z.Warmed39 U.vm ∧ U.heap = h0) (fun _ _ _ _ _ => True) (fun _ U o U' => ∃ v L, o = .returned v ∧ Q0 Z q1 q2 q3 q4 h0 n0 v U'.heap L ∧ FrameEnd U o U' L room_1.cells room_1.slots) := by
  refine MetFree.of_bodySF (plainFor_of_name pn_0) hisR ?_
  intro p e s m args below meth c s₁ Bd hml0 hP hK
  obtain ⟨rfl, hZ, hh⟩ := hP
  have hx := Bd.exec
  have hby := Bd.bytes
  have hml : c.maxLocals = 15 := hml0
  have hown : s.vm.findClass "com/example/ilox/ilox/bench/LedgerHoldsPinLaw" = some m.cls := findClass_of_methodNamed Bd.named
  have hnm := (name_of_methodNamed Bd.named Bd.method).1
  have X0 : Stand p l e room_1 s m #[(.long q1), (.long q2), (.long q3), (.long q4)] below meth c s₁ [] 0 0 := Stand.of_body Bd
  have e0 : s₁.heap = h0 := by rw [← hh, Bd.state]; rfl
  have N0 := Fr.nil n0
  have pre0 : ∀ t, Steps p.tables e below (s₁.setTop (mkF m 0 #[.val (.long q1), .second, .val (.long q2), .second, .val (.long q3), .second, .val (.long q4), .second, .unset, .unset, .unset, .unset, .unset, .unset, .unset] [])) t → Steps p.tables e below (s₁.setTop (entryFrame m #[(.long q1), (.long q2), (.long q3), (.long q4)] maxLocals)) t := fun t k => castTop (ef_0 m q1 q2 q3 q4) k
  obtain ⟨T5, h5, X5, e5, E5, A5, D5, -, st5⟩ := newO X0 hx hZ hown (hw _ (List.mem_of_getElem? (i := 0) rfl)) (hw _ (List.mem_of_getElem? (i := 1) rfl)) (hw _ (List.mem_of_getElem? (i := 2) rfl)) e0 (g := (mkF m 0 #[.val (.long q1), .second, .val (.long q2), .second, .val (.long q3), .second, .val (.long q4), .second, .unset, .unset, .unset, .unset, .unset, .unset, .unset] [])) rfl (hb hby at_0) (by decide) (by decide)
  obtain ⟨b5, g5⟩ : ∃ z, z = h0.size := ⟨_, rfl⟩
  rw [← g5] at A5 D5 st5
  have F_left : Fld Z h5 b5 "com/example/ilox/ilox/bench/Ledger" "left" "J" (.long (0 : Int64)) := D5 (Or.inr (hw _ (List.mem_of_getElem? (i := 10) rfl))) (ty := .long) (by decide)
  have F_rows : Fld Z h5 b5 "com/example/ilox/ilox/bench/Ledger" "rows" "J" (.long (0 : Int64)) := D5 (Or.inr (hw _ (List.mem_of_getElem? (i := 12) rfl))) (ty := .long) (by decide)
  have g_b5 : n0 ≤ b5 := Nat.le_trans Z0 (Nat.le_of_eq g5.symm)
  have Z5 : n0 ≤ h5.size := Nat.le_trans Z0 E5.1
  obtain ⟨_, _, ⟨T6, L6, k6, n6⟩, -, X6, ⟨Lc6, hQ6, l6, y6, z6⟩, st6⟩ := X5.specialBack hx (y := (⟨"com/example/ilox/ilox/bench/Ledger", "<init>", "(JJ)V"⟩ : MethodName)) rfl hown (mvT hZ (hw _ (List.mem_of_getElem? (i := 3) rfl))) (mvT hZ (hw _ (List.mem_of_getElem? (i := 4) rfl))) (mvT hZ (hw _ (List.mem_of_getElem? (i := 5) rfl))) (by decide) (backOf (W := 1) (rm1 l Z a0 hw [] b5 q1 q2 _ _ h5 n0 Z5 A5 F_left g_b5 F_rows) hZ (hw _ (List.mem_of_getElem? (i := 5) rfl)) (hw _ (List.mem_of_getElem? (i := 2) rfl)) (by decide) (by decide)) (g := (mkF m 6 #[.val (.long q1), .second, .val (.long q2), .second, .val (.long q3), .second, .val (.long q4), .second, .unset, .unset, .unset, .unset, .unset, .unset, .unset] [(.long q2), (.long q1), (.ref b5), (.ref b5)])) rfl (by rw [hml]; rfl) (Steps.refl _) (a := b5) (argsL := [(.long q1), (.long q2)]) (rest := [(.ref b5)]) (lenOf pd_1 rfl) rfl (by show 2 * 0 + _ ≤ _; exact Nat.le_of_eq rfl) (hb hby at_6) (fun _ _ => ⟨rfl, e5, (by decide : 1 + 0 ≤ _), (by decide : 2 + 0 ≤ _)⟩)
  dsimp only [Pt.U, Pt.locs, Pt.cells, Pt.slots] at X6 l6 y6 z6 st6 hQ6
  subst l6 y6 z6
  obtain ⟨rfl, N6q, K6, E6, Fl6, Fr6⟩ := hQ6
  have N6 := Fr.app N0 N6q
  have Z6 : n0 ≤ T6.heap.size := Nat.le_trans Z5 K6.1
  obtain ⟨cq7, kq7, q7a, q7b, q7c⟩ := isOf hZ rfl E6
  obtain ⟨_, _, ⟨T7, L7, k7, n7⟩, -, X7, ⟨Lc7, hQ7, l7, y7, z7⟩, st7⟩ := X6.virtualBack hx (y := (⟨"com/example/ilox/ilox/bench/Ledger", "holds", "(JJ)Z"⟩ : MethodName)) (z := (⟨"com/example/ilox/ilox/bench/Ledger", "holds", "(JJ)Z"⟩ : MethodName)) hown (mvT hZ (hw _ (List.mem_of_getElem? (i := 13) rfl))) (mvT hZ (hw _ (List.mem_of_getElem? (i := 14) rfl))) (notFace_of_selects (args := #[]) (mvT hZ (hw _ (List.mem_of_getElem? (i := 16) rfl)))) (mvT hZ (hw _ (List.mem_of_getElem? (i := 16) rfl))) (mvT hZ (hw _ (List.mem_of_getElem? (i := 15) rfl))) (by decide) (backOf (W := 0) (rm3 l Z a0 hw [] b5 (q1 + q2) q2 q2 q1 T6.heap n0 Z6 Fr6 Fl6) hZ (hw _ (List.mem_of_getElem? (i := 17) rfl)) (hw _ (List.mem_of_getElem? (i := 2) rfl)) (by decide) (by decide)) q7a q7c (g := (mkF m 21 #[.val (.long q1), .second, .val (.long q2), .second, .val (.long q3), .second, .val (.long q4), .second, .val (.ref b5), .val (.long (q1 + q2)), .second, .unset, .unset, .unset, .unset] [(.long q2), (.long (q1 + q2)), (.ref b5)])) rfl (by rw [hml]; rfl) (Steps.refl _) (argsL := [(.long (q1 + q2)), (.long q2)]) (rest := []) (lenOf pd_3 rfl) rfl (by show 2 * 0 + _ ≤ _; exact Nat.le_of_eq rfl) (hb hby at_21) (fun _ _ => ⟨rfl, rfl, (by decide : 1 + 0 ≤ _), (by decide : 2 + 0 ≤ _)⟩)
  dsimp only [Pt.U, Pt.locs, Pt.cells, Pt.slots] at X7 l7 y7 z7 st7 hQ7
  subst l7 y7 z7
  obtain ⟨⟨v7, rfl, hv7⟩, N7q, e7⟩ := hQ7
  have N7 := Fr.app N6 N7q
  obtain ⟨cq8, kq8, q8a, q8b, q8c⟩ := isOf hZ e7 E6
  obtain ⟨_, _, ⟨T8, L8, k8, n8⟩, -, X8, ⟨Lc8, hQ8, l8, y8, z8⟩, st8⟩ := X7.virtualBack hx (y := (⟨"com/example/ilox/ilox/bench/Ledger", "holds", "(JJ)Z"⟩ : MethodName)) (z := (⟨"com/example/ilox/ilox/bench/Ledger", "holds", "(JJ)Z"⟩ : MethodName)) hown (mvT hZ (hw _ (List.mem_of_getElem? (i := 13) rfl))) (mvT hZ (hw _ (List.mem_of_getElem? (i := 14) rfl))) (notFace_of_selects (args := #[]) (mvT hZ (hw _ (List.mem_of_getElem? (i := 16) rfl)))) (mvT hZ (hw _ (List.mem_of_getElem? (i := 16) rfl))) (mvT hZ (hw _ (List.mem_of_getElem? (i := 15) rfl))) (by decide) (backOf (W := 0) (rm3 l Z a0 hw [] b5 ((q1 + q2) + q3) q2 q2 q1 T6.heap n0 Z6 Fr6 Fl6) hZ (hw _ (List.mem_of_getElem? (i := 17) rfl)) (hw _ (List.mem_of_getElem? (i := 2) rfl)) (by decide) (by decide)) q8a q8c (g := (mkF m 34 #[.val (.long q1), .second, .val (.long q2), .second, .val (.long q3), .second, .val (.long q4), .second, .val (.ref b5), .val (.long (q1 + q2)), .second, .val (.int v7), .unset, .unset, .unset] [(.long q2), (.long ((q1 + q2) + q3)), (.ref b5)])) rfl (by rw [hml]; rfl) (Steps.refl _) (argsL := [(.long ((q1 + q2) + q3)), (.long q2)]) (rest := []) (lenOf pd_3 rfl) rfl (by show 2 * 0 + _ ≤ _; exact Nat.le_of_eq rfl) (hb hby at_34) (fun _ _ => ⟨rfl, e7, (by decide : 1 + 0 ≤ _), (by decide : 2 + 0 ≤ _)⟩)
  dsimp only [Pt.U, Pt.locs, Pt.cells, Pt.slots] at X8 l8 y8 z8 st8 hQ8
  subst l8 y8 z8
  obtain ⟨⟨v8, rfl, hv8⟩, N8q, e8⟩ := hQ8
  have N8 := Fr.app N7 N8q
  obtain ⟨cq9, kq9, q9a, q9b, q9c⟩ := isOf hZ e8 E6
  obtain ⟨_, _, ⟨T9, L9, k9, n9⟩, -, X9, ⟨Lc9, hQ9, l9, y9, z9⟩, st9⟩ := X8.virtualBack hx (y := (⟨"com/example/ilox/ilox/bench/Ledger", "holds", "(JJ)Z"⟩ : MethodName)) (z := (⟨"com/example/ilox/ilox/bench/Ledger", "holds", "(JJ)Z"⟩ : MethodName)) hown (mvT hZ (hw _ (List.mem_of_getElem? (i := 13) rfl))) (mvT hZ (hw _ (List.mem_of_getElem? (i := 14) rfl))) (notFace_of_selects (args := #[]) (mvT hZ (hw _ (List.mem_of_getElem? (i := 16) rfl)))) (mvT hZ (hw _ (List.mem_of_getElem? (i := 16) rfl))) (mvT hZ (hw _ (List.mem_of_getElem? (i := 15) rfl))) (by decide) (backOf (W := 0) (rm3 l Z a0 hw [] b5 (q1 + q2) (q2 + q4) q2 q1 T6.heap n0 Z6 Fr6 Fl6) hZ (hw _ (List.mem_of_getElem? (i := 17) rfl)) (hw _ (List.mem_of_getElem? (i := 2) rfl)) (by decide) (by decide)) q9a q9c (g := (mkF m 47 #[.val (.long q1), .second, .val (.long q2), .second, .val (.long q3), .second, .val (.long q4), .second, .val (.ref b5), .val (.long (q1 + q2)), .second, .val (.int v7), .val (.int v8), .unset, .unset] [(.long (q2 + q4)), (.long (q1 + q2)), (.ref b5)])) rfl (by rw [hml]; rfl) (Steps.refl _) (argsL := [(.long (q1 + q2)), (.long (q2 + q4))]) (rest := []) (lenOf pd_3 rfl) rfl (by show 2 * 0 + _ ≤ _; exact Nat.le_of_eq rfl) (hb hby at_47) (fun _ _ => ⟨rfl, e8, (by decide : 1 + 0 ≤ _), (by decide : 2 + 0 ≤ _)⟩)
  dsimp only [Pt.U, Pt.locs, Pt.cells, Pt.slots] at X9 l9 y9 z9 st9 hQ9
  subst l9 y9 z9
  obtain ⟨⟨v9, rfl, hv9⟩, N9q, e9⟩ := hQ9
  have N9 := Fr.app N8 N9q
  obtain ⟨cq10, kq10, q10a, q10b, q10c⟩ := isOf hZ e9 E6
  obtain ⟨_, _, ⟨T10, L10, k10, n10⟩, -, X10, ⟨Lc10, hQ10, l10, y10, z10⟩, st10⟩ := X9.virtualBack hx (y := (⟨"com/example/ilox/ilox/bench/Ledger", "holds", "(JJ)Z"⟩ : MethodName)) (z := (⟨"com/example/ilox/ilox/bench/Ledger", "holds", "(JJ)Z"⟩ : MethodName)) hown (mvT hZ (hw _ (List.mem_of_getElem? (i := 13) rfl))) (mvT hZ (hw _ (List.mem_of_getElem? (i := 14) rfl))) (notFace_of_selects (args := #[]) (mvT hZ (hw _ (List.mem_of_getElem? (i := 16) rfl)))) (mvT hZ (hw _ (List.mem_of_getElem? (i := 16) rfl))) (mvT hZ (hw _ (List.mem_of_getElem? (i := 15) rfl))) (by decide) (backOf (W := 0) (rm3 l Z a0 hw [] b5 ((q1 + q2) + q3) (q2 + q4) q2 q1 T6.heap n0 Z6 Fr6 Fl6) hZ (hw _ (List.mem_of_getElem? (i := 17) rfl)) (hw _ (List.mem_of_getElem? (i := 2) rfl)) (by decide) (by decide)) q10a q10c (g := (mkF m 63 #[.val (.long q1), .second, .val (.long q2), .second, .val (.long q3), .second, .val (.long q4), .second, .val (.ref b5), .val (.long (q1 + q2)), .second, .val (.int v7), .val (.int v8), .val (.int v9), .unset] [(.long (q2 + q4)), (.long ((q1 + q2) + q3)), (.ref b5)])) rfl (by rw [hml]; rfl) (Steps.refl _) (argsL := [(.long ((q1 + q2) + q3)), (.long (q2 + q4))]) (rest := []) (lenOf pd_3 rfl) rfl (by show 2 * 0 + _ ≤ _; exact Nat.le_of_eq rfl) (hb hby at_63) (fun _ _ => ⟨rfl, e9, (by decide : 1 + 0 ≤ _), (by decide : 2 + 0 ≤ _)⟩)
  dsimp only [Pt.U, Pt.locs, Pt.cells, Pt.slots] at X10 l10 y10 z10 st10 hQ10
  subst l10 y10 z10
  obtain ⟨⟨v10, rfl, hv10⟩, N10q, e10⟩ := hQ10
  have N10 := Fr.app N9 N10q
  obtain ⟨u8, hsF, sF⟩ : ∃ (u8 : Int32), (u8 = if q3 = (0 : Int64) then (1 : Int32) else 0) ∧ ∀ t, Steps p.tables e below (T10.setTop (mkF m 87 #[.val (.long q1), .second, .val (.long q2), .second, .val (.long q3), .second, .val (.long q4), .second, .val (.ref b5), .val (.long (q1 + q2)), .second, .val (.int v7), .val (.int v8), .val (.int v9), .val (.int v10)] [(.int u8), (.int v8)])) t → Steps p.tables e below (T10.setTop (mkF m 73 #[.val (.long q1), .second, .val (.long q2), .second, .val (.long q3), .second, .val (.long q4), .second, .val (.ref b5), .val (.long (q1 + q2)), .second, .val (.int v7), .val (.int v8), .val (.int v9), .val (.int v10)] [])) t := by
    by_cases c79 : q3 = (0 : Int64)
    · refine ⟨(1 : Int32), (if_pos c79).symm, fun t k => ?_⟩
      show Steps p.tables e below (T10.setTop (mkF m 73 #[.val (.long q1), .second, .val (.long q2), .second, .val (.long q3), .second, .val (.long q4), .second, .val (.ref b5), .val (.long (q1 + q2)), .second, .val (.int v7), .val (.int v8), .val (.int v9), .val (.int v10)] [])) _
      refine XS.iload X10.here hx rfl (hb hby at_73) rfl ?_
      show Steps p.tables e below (T10.setTop (mkF m 75 #[.val (.long q1), .second, .val (.long q2), .second, .val (.long q3), .second, .val (.long q4), .second, .val (.ref b5), .val (.long (q1 + q2)), .second, .val (.int v7), .val (.int v8), .val (.int v9), .val (.int v10)] [(.int v8)])) _
      refine XS.lload X10.here hx rfl (hb hby at_75) rfl ?_
      show Steps p.tables e below (T10.setTop (mkF m 77 #[.val (.long q1), .second, .val (.long q2), .second, .val (.long q3), .second, .val (.long q4), .second, .val (.ref b5), .val (.long (q1 + q2)), .second, .val (.int v7), .val (.int v8), .val (.int v9), .val (.int v10)] [(.long q3), (.int v8)])) _
      refine XS.lconst X10.here hx rfl (hb hby at_77) ?_
      show Steps p.tables e below (T10.setTop (mkF m 78 #[.val (.long q1), .second, .val (.long q2), .second, .val (.long q3), .second, .val (.long q4), .second, .val (.ref b5), .val (.long (q1 + q2)), .second, .val (.int v7), .val (.int v8), .val (.int v9), .val (.int v10)] [(.long (0 : Int64)), (.long q3), (.int v8)])) _
      refine XS.lcmp X10.here hx rfl (hb hby at_78) rfl ?_
      show Steps p.tables e below (T10.setTop (mkF m 79 #[.val (.long q1), .second, .val (.long q2), .second, .val (.long q3), .second, .val (.long q4), .second, .val (.ref b5), .val (.long (q1 + q2)), .second, .val (.int v7), .val (.int v8), .val (.int v9), .val (.int v10)] [(.int (lcmpW q3 (0 : Int64))), (.int v8)])) _
      refine XS.ifNo X10.here hx rfl (hb hby at_79) rfl (own_lc_eq c79).2 ?_
      show Steps p.tables e below (T10.setTop (mkF m 82 #[.val (.long q1), .second, .val (.long q2), .second, .val (.long q3), .second, .val (.long q4), .second, .val (.ref b5), .val (.long (q1 + q2)), .second, .val (.int v7), .val (.int v8), .val (.int v9), .val (.int v10)] [(.int v8)])) _
      refine XS.iconst X10.here hx rfl (hb hby at_82) ?_
      show Steps p.tables e below (T10.setTop (mkF m 83 #[.val (.long q1), .second, .val (.long q2), .second, .val (.long q3), .second, .val (.long q4), .second, .val (.ref b5), .val (.long (q1 + q2)), .second, .val (.int v7), .val (.int v8), .val (.int v9), .val (.int v10)] [(.int (1 : Int32)), (.int v8)])) _
      refine XS.goto X10.here hx rfl (pc0 := 83) (pc' := 87) rfl (hb hby at_83) (by decide) (by decide) ?_
      show Steps p.tables e below (T10.setTop (mkF m 87 #[.val (.long q1), .second, .val (.long q2), .second, .val (.long q3), .second, .val (.long q4), .second, .val (.ref b5), .val (.long (q1 + q2)), .second, .val (.int v7), .val (.int v8), .val (.int v9), .val (.int v10)] [(.int (1 : Int32)), (.int v8)])) _
      exact k
    · refine ⟨(0 : Int32), (if_neg c79).symm, fun t k => ?_⟩
      show Steps p.tables e below (T10.setTop (mkF m 73 #[.val (.long q1), .second, .val (.long q2), .second, .val (.long q3), .second, .val (.long q4), .second, .val (.ref b5), .val (.long (q1 + q2)), .second, .val (.int v7), .val (.int v8), .val (.int v9), .val (.int v10)] [])) _
      refine XS.iload X10.here hx rfl (hb hby at_73) rfl ?_
      show Steps p.tables e below (T10.setTop (mkF m 75 #[.val (.long q1), .second, .val (.long q2), .second, .val (.long q3), .second, .val (.long q4), .second, .val (.ref b5), .val (.long (q1 + q2)), .second, .val (.int v7), .val (.int v8), .val (.int v9), .val (.int v10)] [(.int v8)])) _
      refine XS.lload X10.here hx rfl (hb hby at_75) rfl ?_
      show Steps p.tables e below (T10.setTop (mkF m 77 #[.val (.long q1), .second, .val (.long q2), .second, .val (.long q3), .second, .val (.long q4), .second, .val (.ref b5), .val (.long (q1 + q2)), .second, .val (.int v7), .val (.int v8), .val (.int v9), .val (.int v10)] [(.long q3), (.int v8)])) _
      refine XS.lconst X10.here hx rfl (hb hby at_77) ?_
      show Steps p.tables e below (T10.setTop (mkF m 78 #[.val (.long q1), .second, .val (.long q2), .second, .val (.long q3), .second, .val (.long q4), .second, .val (.ref b5), .val (.long (q1 + q2)), .second, .val (.int v7), .val (.int v8), .val (.int v9), .val (.int v10)] [(.long (0 : Int64)), (.long q3), (.int v8)])) _
      refine XS.lcmp X10.here hx rfl (hb hby at_78) rfl ?_
      show Steps p.tables e below (T10.setTop (mkF m 79 #[.val (.long q1), .second, .val (.long q2), .second, .val (.long q3), .second, .val (.long q4), .second, .val (.ref b5), .val (.long (q1 + q2)), .second, .val (.int v7), .val (.int v8), .val (.int v9), .val (.int v10)] [(.int (lcmpW q3 (0 : Int64))), (.int v8)])) _
      refine XS.ifYes X10.here hx rfl (pc0 := 79) (pc' := 86) rfl (hb hby at_79) rfl (own_lc_ne c79).2 (by decide) (by decide) ?_
      show Steps p.tables e below (T10.setTop (mkF m 86 #[.val (.long q1), .second, .val (.long q2), .second, .val (.long q3), .second, .val (.long q4), .second, .val (.ref b5), .val (.long (q1 + q2)), .second, .val (.int v7), .val (.int v8), .val (.int v9), .val (.int v10)] [(.int v8)])) _
      refine XS.iconst X10.here hx rfl (hb hby at_86) ?_
      show Steps p.tables e below (T10.setTop (mkF m 87 #[.val (.long q1), .second, .val (.long q2), .second, .val (.long q3), .second, .val (.long q4), .second, .val (.ref b5), .val (.long (q1 + q2)), .second, .val (.int v7), .val (.int v8), .val (.int v9), .val (.int v10)] [(.int (0 : Int32)), (.int v8)])) _
      exact k
  obtain ⟨u9, hsG, sG⟩ : ∃ (u9 : Int32), (u9 = if q4 = (0 : Int64) then (1 : Int32) else 0) ∧ ∀ t, Steps p.tables e below (T10.setTop (mkF m 104 #[.val (.long q1), .second, .val (.long q2), .second, .val (.long q3), .second, .val (.long q4), .second, .val (.ref b5), .val (.long (q1 + q2)), .second, .val (.int v7), .val (.int v8), .val (.int v9), .val (.int v10)] [(.int u9), (.int v9)])) t → Steps p.tables e below (T10.setTop (mkF m 90 #[.val (.long q1), .second, .val (.long q2), .second, .val (.long q3), .second, .val (.long q4), .second, .val (.ref b5), .val (.long (q1 + q2)), .second, .val (.int v7), .val (.int v8), .val (.int v9), .val (.int v10)] [])) t := by
    by_cases c96 : q4 = (0 : Int64)
    · refine ⟨(1 : Int32), (if_pos c96).symm, fun t k => ?_⟩
      show Steps p.tables e below (T10.setTop (mkF m 90 #[.val (.long q1), .second, .val (.long q2), .second, .val (.long q3), .second, .val (.long q4), .second, .val (.ref b5), .val (.long (q1 + q2)), .second, .val (.int v7), .val (.int v8), .val (.int v9), .val (.int v10)] [])) _
      refine XS.iload X10.here hx rfl (hb hby at_90) rfl ?_
      show Steps p.tables e below (T10.setTop (mkF m 92 #[.val (.long q1), .second, .val (.long q2), .second, .val (.long q3), .second, .val (.long q4), .second, .val (.ref b5), .val (.long (q1 + q2)), .second, .val (.int v7), .val (.int v8), .val (.int v9), .val (.int v10)] [(.int v9)])) _
      refine XS.lload X10.here hx rfl (hb hby at_92) rfl ?_
      show Steps p.tables e below (T10.setTop (mkF m 94 #[.val (.long q1), .second, .val (.long q2), .second, .val (.long q3), .second, .val (.long q4), .second, .val (.ref b5), .val (.long (q1 + q2)), .second, .val (.int v7), .val (.int v8), .val (.int v9), .val (.int v10)] [(.long q4), (.int v9)])) _
      refine XS.lconst X10.here hx rfl (hb hby at_94) ?_
      show Steps p.tables e below (T10.setTop (mkF m 95 #[.val (.long q1), .second, .val (.long q2), .second, .val (.long q3), .second, .val (.long q4), .second, .val (.ref b5), .val (.long (q1 + q2)), .second, .val (.int v7), .val (.int v8), .val (.int v9), .val (.int v10)] [(.long (0 : Int64)), (.long q4), (.int v9)])) _
      refine XS.lcmp X10.here hx rfl (hb hby at_95) rfl ?_
      show Steps p.tables e below (T10.setTop (mkF m 96 #[.val (.long q1), .second, .val (.long q2), .second, .val (.long q3), .second, .val (.long q4), .second, .val (.ref b5), .val (.long (q1 + q2)), .second, .val (.int v7), .val (.int v8), .val (.int v9), .val (.int v10)] [(.int (lcmpW q4 (0 : Int64))), (.int v9)])) _
      refine XS.ifNo X10.here hx rfl (hb hby at_96) rfl (own_lc_eq c96).2 ?_
      show Steps p.tables e below (T10.setTop (mkF m 99 #[.val (.long q1), .second, .val (.long q2), .second, .val (.long q3), .second, .val (.long q4), .second, .val (.ref b5), .val (.long (q1 + q2)), .second, .val (.int v7), .val (.int v8), .val (.int v9), .val (.int v10)] [(.int v9)])) _
      refine XS.iconst X10.here hx rfl (hb hby at_99) ?_
      show Steps p.tables e below (T10.setTop (mkF m 100 #[.val (.long q1), .second, .val (.long q2), .second, .val (.long q3), .second, .val (.long q4), .second, .val (.ref b5), .val (.long (q1 + q2)), .second, .val (.int v7), .val (.int v8), .val (.int v9), .val (.int v10)] [(.int (1 : Int32)), (.int v9)])) _
      refine XS.goto X10.here hx rfl (pc0 := 100) (pc' := 104) rfl (hb hby at_100) (by decide) (by decide) ?_
      show Steps p.tables e below (T10.setTop (mkF m 104 #[.val (.long q1), .second, .val (.long q2), .second, .val (.long q3), .second, .val (.long q4), .second, .val (.ref b5), .val (.long (q1 + q2)), .second, .val (.int v7), .val (.int v8), .val (.int v9), .val (.int v10)] [(.int (1 : Int32)), (.int v9)])) _
      exact k
    · refine ⟨(0 : Int32), (if_neg c96).symm, fun t k => ?_⟩
      show Steps p.tables e below (T10.setTop (mkF m 90 #[.val (.long q1), .second, .val (.long q2), .second, .val (.long q3), .second, .val (.long q4), .second, .val (.ref b5), .val (.long (q1 + q2)), .second, .val (.int v7), .val (.int v8), .val (.int v9), .val (.int v10)] [])) _
      refine XS.iload X10.here hx rfl (hb hby at_90) rfl ?_
      show Steps p.tables e below (T10.setTop (mkF m 92 #[.val (.long q1), .second, .val (.long q2), .second, .val (.long q3), .second, .val (.long q4), .second, .val (.ref b5), .val (.long (q1 + q2)), .second, .val (.int v7), .val (.int v8), .val (.int v9), .val (.int v10)] [(.int v9)])) _
      refine XS.lload X10.here hx rfl (hb hby at_92) rfl ?_
      show Steps p.tables e below (T10.setTop (mkF m 94 #[.val (.long q1), .second, .val (.long q2), .second, .val (.long q3), .second, .val (.long q4), .second, .val (.ref b5), .val (.long (q1 + q2)), .second, .val (.int v7), .val (.int v8), .val (.int v9), .val (.int v10)] [(.long q4), (.int v9)])) _
      refine XS.lconst X10.here hx rfl (hb hby at_94) ?_
      show Steps p.tables e below (T10.setTop (mkF m 95 #[.val (.long q1), .second, .val (.long q2), .second, .val (.long q3), .second, .val (.long q4), .second, .val (.ref b5), .val (.long (q1 + q2)), .second, .val (.int v7), .val (.int v8), .val (.int v9), .val (.int v10)] [(.long (0 : Int64)), (.long q4), (.int v9)])) _
      refine XS.lcmp X10.here hx rfl (hb hby at_95) rfl ?_
      show Steps p.tables e below (T10.setTop (mkF m 96 #[.val (.long q1), .second, .val (.long q2), .second, .val (.long q3), .second, .val (.long q4), .second, .val (.ref b5), .val (.long (q1 + q2)), .second, .val (.int v7), .val (.int v8), .val (.int v9), .val (.int v10)] [(.int (lcmpW q4 (0 : Int64))), (.int v9)])) _
      refine XS.ifYes X10.here hx rfl (pc0 := 96) (pc' := 103) rfl (hb hby at_96) rfl (own_lc_ne c96).2 (by decide) (by decide) ?_
      show Steps p.tables e below (T10.setTop (mkF m 103 #[.val (.long q1), .second, .val (.long q2), .second, .val (.long q3), .second, .val (.long q4), .second, .val (.ref b5), .val (.long (q1 + q2)), .second, .val (.int v7), .val (.int v8), .val (.int v9), .val (.int v10)] [(.int v9)])) _
      refine XS.iconst X10.here hx rfl (hb hby at_103) ?_
      show Steps p.tables e below (T10.setTop (mkF m 104 #[.val (.long q1), .second, .val (.long q2), .second, .val (.long q3), .second, .val (.long q4), .second, .val (.ref b5), .val (.long (q1 + q2)), .second, .val (.int v7), .val (.int v8), .val (.int v9), .val (.int v10)] [(.int (0 : Int32)), (.int v9)])) _
      exact k
  obtain ⟨u10, hsH, sH⟩ : ∃ (u10 : Int32), (u10 = if q3 = (0 : Int64) ∧ q4 = (0 : Int64) then (1 : Int32) else 0) ∧ ∀ t, Steps p.tables e below (T10.setTop (mkF m 128 #[.val (.long q1), .second, .val (.long q2), .second, .val (.long q3), .second, .val (.long q4), .second, .val (.ref b5), .val (.long (q1 + q2)), .second, .val (.int v7), .val (.int v8), .val (.int v9), .val (.int v10)] [(.int u10), (.int v10)])) t → Steps p.tables e below (T10.setTop (mkF m 107 #[.val (.long q1), .second, .val (.long q2), .second, .val (.long q3), .second, .val (.long q4), .second, .val (.ref b5), .val (.long (q1 + q2)), .second, .val (.int v7), .val (.int v8), .val (.int v9), .val (.int v10)] [])) t := by
    by_cases c113 : q3 = (0 : Int64)
    · by_cases c120 : q4 = (0 : Int64)
      · refine ⟨(1 : Int32), (if_pos ⟨c113, c120⟩).symm, fun t k => ?_⟩
        show Steps p.tables e below (T10.setTop (mkF m 107 #[.val (.long q1), .second, .val (.long q2), .second, .val (.long q3), .second, .val (.long q4), .second, .val (.ref b5), .val (.long (q1 + q2)), .second, .val (.int v7), .val (.int v8), .val (.int v9), .val (.int v10)] [])) _
        refine XS.iload X10.here hx rfl (hb hby at_107) rfl ?_
        show Steps p.tables e below (T10.setTop (mkF m 109 #[.val (.long q1), .second, .val (.long q2), .second, .val (.long q3), .second, .val (.long q4), .second, .val (.ref b5), .val (.long (q1 + q2)), .second, .val (.int v7), .val (.int v8), .val (.int v9), .val (.int v10)] [(.int v10)])) _
        refine XS.lload X10.here hx rfl (hb hby at_109) rfl ?_
        show Steps p.tables e below (T10.setTop (mkF m 111 #[.val (.long q1), .second, .val (.long q2), .second, .val (.long q3), .second, .val (.long q4), .second, .val (.ref b5), .val (.long (q1 + q2)), .second, .val (.int v7), .val (.int v8), .val (.int v9), .val (.int v10)] [(.long q3), (.int v10)])) _
        refine XS.lconst X10.here hx rfl (hb hby at_111) ?_
        show Steps p.tables e below (T10.setTop (mkF m 112 #[.val (.long q1), .second, .val (.long q2), .second, .val (.long q3), .second, .val (.long q4), .second, .val (.ref b5), .val (.long (q1 + q2)), .second, .val (.int v7), .val (.int v8), .val (.int v9), .val (.int v10)] [(.long (0 : Int64)), (.long q3), (.int v10)])) _
        refine XS.lcmp X10.here hx rfl (hb hby at_112) rfl ?_
        show Steps p.tables e below (T10.setTop (mkF m 113 #[.val (.long q1), .second, .val (.long q2), .second, .val (.long q3), .second, .val (.long q4), .second, .val (.ref b5), .val (.long (q1 + q2)), .second, .val (.int v7), .val (.int v8), .val (.int v9), .val (.int v10)] [(.int (lcmpW q3 (0 : Int64))), (.int v10)])) _
        refine XS.ifNo X10.here hx rfl (hb hby at_113) rfl (own_lc_eq c113).2 ?_
        show Steps p.tables e below (T10.setTop (mkF m 116 #[.val (.long q1), .second, .val (.long q2), .second, .val (.long q3), .second, .val (.long q4), .second, .val (.ref b5), .val (.long (q1 + q2)), .second, .val (.int v7), .val (.int v8), .val (.int v9), .val (.int v10)] [(.int v10)])) _
        refine XS.lload X10.here hx rfl (hb hby at_116) rfl ?_
        show Steps p.tables e below (T10.setTop (mkF m 118 #[.val (.long q1), .second, .val (.long q2), .second, .val (.long q3), .second, .val (.long q4), .second, .val (.ref b5), .val (.long (q1 + q2)), .second, .val (.int v7), .val (.int v8), .val (.int v9), .val (.int v10)] [(.long q4), (.int v10)])) _
        refine XS.lconst X10.here hx rfl (hb hby at_118) ?_
        show Steps p.tables e below (T10.setTop (mkF m 119 #[.val (.long q1), .second, .val (.long q2), .second, .val (.long q3), .second, .val (.long q4), .second, .val (.ref b5), .val (.long (q1 + q2)), .second, .val (.int v7), .val (.int v8), .val (.int v9), .val (.int v10)] [(.long (0 : Int64)), (.long q4), (.int v10)])) _
        refine XS.lcmp X10.here hx rfl (hb hby at_119) rfl ?_
        show Steps p.tables e below (T10.setTop (mkF m 120 #[.val (.long q1), .second, .val (.long q2), .second, .val (.long q3), .second, .val (.long q4), .second, .val (.ref b5), .val (.long (q1 + q2)), .second, .val (.int v7), .val (.int v8), .val (.int v9), .val (.int v10)] [(.int (lcmpW q4 (0 : Int64))), (.int v10)])) _
        refine XS.ifNo X10.here hx rfl (hb hby at_120) rfl (own_lc_eq c120).2 ?_
        show Steps p.tables e below (T10.setTop (mkF m 123 #[.val (.long q1), .second, .val (.long q2), .second, .val (.long q3), .second, .val (.long q4), .second, .val (.ref b5), .val (.long (q1 + q2)), .second, .val (.int v7), .val (.int v8), .val (.int v9), .val (.int v10)] [(.int v10)])) _
        refine XS.iconst X10.here hx rfl (hb hby at_123) ?_
        show Steps p.tables e below (T10.setTop (mkF m 124 #[.val (.long q1), .second, .val (.long q2), .second, .val (.long q3), .second, .val (.long q4), .second, .val (.ref b5), .val (.long (q1 + q2)), .second, .val (.int v7), .val (.int v8), .val (.int v9), .val (.int v10)] [(.int (1 : Int32)), (.int v10)])) _
        refine XS.goto X10.here hx rfl (pc0 := 124) (pc' := 128) rfl (hb hby at_124) (by decide) (by decide) ?_
        show Steps p.tables e below (T10.setTop (mkF m 128 #[.val (.long q1), .second, .val (.long q2), .second, .val (.long q3), .second, .val (.long q4), .second, .val (.ref b5), .val (.long (q1 + q2)), .second, .val (.int v7), .val (.int v8), .val (.int v9), .val (.int v10)] [(.int (1 : Int32)), (.int v10)])) _
        exact k
      · refine ⟨(0 : Int32), (if_neg (fun q => c120 q.2)).symm, fun t k => ?_⟩
        show Steps p.tables e below (T10.setTop (mkF m 107 #[.val (.long q1), .second, .val (.long q2), .second, .val (.long q3), .second, .val (.long q4), .second, .val (.ref b5), .val (.long (q1 + q2)), .second, .val (.int v7), .val (.int v8), .val (.int v9), .val (.int v10)] [])) _
        refine XS.iload X10.here hx rfl (hb hby at_107) rfl ?_
        show Steps p.tables e below (T10.setTop (mkF m 109 #[.val (.long q1), .second, .val (.long q2), .second, .val (.long q3), .second, .val (.long q4), .second, .val (.ref b5), .val (.long (q1 + q2)), .second, .val (.int v7), .val (.int v8), .val (.int v9), .val (.int v10)] [(.int v10)])) _
        refine XS.lload X10.here hx rfl (hb hby at_109) rfl ?_
        show Steps p.tables e below (T10.setTop (mkF m 111 #[.val (.long q1), .second, .val (.long q2), .second, .val (.long q3), .second, .val (.long q4), .second, .val (.ref b5), .val (.long (q1 + q2)), .second, .val (.int v7), .val (.int v8), .val (.int v9), .val (.int v10)] [(.long q3), (.int v10)])) _
        refine XS.lconst X10.here hx rfl (hb hby at_111) ?_
        show Steps p.tables e below (T10.setTop (mkF m 112 #[.val (.long q1), .second, .val (.long q2), .second, .val (.long q3), .second, .val (.long q4), .second, .val (.ref b5), .val (.long (q1 + q2)), .second, .val (.int v7), .val (.int v8), .val (.int v9), .val (.int v10)] [(.long (0 : Int64)), (.long q3), (.int v10)])) _
        refine XS.lcmp X10.here hx rfl (hb hby at_112) rfl ?_
        show Steps p.tables e below (T10.setTop (mkF m 113 #[.val (.long q1), .second, .val (.long q2), .second, .val (.long q3), .second, .val (.long q4), .second, .val (.ref b5), .val (.long (q1 + q2)), .second, .val (.int v7), .val (.int v8), .val (.int v9), .val (.int v10)] [(.int (lcmpW q3 (0 : Int64))), (.int v10)])) _
        refine XS.ifNo X10.here hx rfl (hb hby at_113) rfl (own_lc_eq c113).2 ?_
        show Steps p.tables e below (T10.setTop (mkF m 116 #[.val (.long q1), .second, .val (.long q2), .second, .val (.long q3), .second, .val (.long q4), .second, .val (.ref b5), .val (.long (q1 + q2)), .second, .val (.int v7), .val (.int v8), .val (.int v9), .val (.int v10)] [(.int v10)])) _
        refine XS.lload X10.here hx rfl (hb hby at_116) rfl ?_
        show Steps p.tables e below (T10.setTop (mkF m 118 #[.val (.long q1), .second, .val (.long q2), .second, .val (.long q3), .second, .val (.long q4), .second, .val (.ref b5), .val (.long (q1 + q2)), .second, .val (.int v7), .val (.int v8), .val (.int v9), .val (.int v10)] [(.long q4), (.int v10)])) _
        refine XS.lconst X10.here hx rfl (hb hby at_118) ?_
        show Steps p.tables e below (T10.setTop (mkF m 119 #[.val (.long q1), .second, .val (.long q2), .second, .val (.long q3), .second, .val (.long q4), .second, .val (.ref b5), .val (.long (q1 + q2)), .second, .val (.int v7), .val (.int v8), .val (.int v9), .val (.int v10)] [(.long (0 : Int64)), (.long q4), (.int v10)])) _
        refine XS.lcmp X10.here hx rfl (hb hby at_119) rfl ?_
        show Steps p.tables e below (T10.setTop (mkF m 120 #[.val (.long q1), .second, .val (.long q2), .second, .val (.long q3), .second, .val (.long q4), .second, .val (.ref b5), .val (.long (q1 + q2)), .second, .val (.int v7), .val (.int v8), .val (.int v9), .val (.int v10)] [(.int (lcmpW q4 (0 : Int64))), (.int v10)])) _
        refine XS.ifYes X10.here hx rfl (pc0 := 120) (pc' := 127) rfl (hb hby at_120) rfl (own_lc_ne c120).2 (by decide) (by decide) ?_
        show Steps p.tables e below (T10.setTop (mkF m 127 #[.val (.long q1), .second, .val (.long q2), .second, .val (.long q3), .second, .val (.long q4), .second, .val (.ref b5), .val (.long (q1 + q2)), .second, .val (.int v7), .val (.int v8), .val (.int v9), .val (.int v10)] [(.int v10)])) _
        refine XS.iconst X10.here hx rfl (hb hby at_127) ?_
        show Steps p.tables e below (T10.setTop (mkF m 128 #[.val (.long q1), .second, .val (.long q2), .second, .val (.long q3), .second, .val (.long q4), .second, .val (.ref b5), .val (.long (q1 + q2)), .second, .val (.int v7), .val (.int v8), .val (.int v9), .val (.int v10)] [(.int (0 : Int32)), (.int v10)])) _
        exact k
    · refine ⟨(0 : Int32), (if_neg (fun q => c113 q.1)).symm, fun t k => ?_⟩
      show Steps p.tables e below (T10.setTop (mkF m 107 #[.val (.long q1), .second, .val (.long q2), .second, .val (.long q3), .second, .val (.long q4), .second, .val (.ref b5), .val (.long (q1 + q2)), .second, .val (.int v7), .val (.int v8), .val (.int v9), .val (.int v10)] [])) _
      refine XS.iload X10.here hx rfl (hb hby at_107) rfl ?_
      show Steps p.tables e below (T10.setTop (mkF m 109 #[.val (.long q1), .second, .val (.long q2), .second, .val (.long q3), .second, .val (.long q4), .second, .val (.ref b5), .val (.long (q1 + q2)), .second, .val (.int v7), .val (.int v8), .val (.int v9), .val (.int v10)] [(.int v10)])) _
      refine XS.lload X10.here hx rfl (hb hby at_109) rfl ?_
      show Steps p.tables e below (T10.setTop (mkF m 111 #[.val (.long q1), .second, .val (.long q2), .second, .val (.long q3), .second, .val (.long q4), .second, .val (.ref b5), .val (.long (q1 + q2)), .second, .val (.int v7), .val (.int v8), .val (.int v9), .val (.int v10)] [(.long q3), (.int v10)])) _
      refine XS.lconst X10.here hx rfl (hb hby at_111) ?_
      show Steps p.tables e below (T10.setTop (mkF m 112 #[.val (.long q1), .second, .val (.long q2), .second, .val (.long q3), .second, .val (.long q4), .second, .val (.ref b5), .val (.long (q1 + q2)), .second, .val (.int v7), .val (.int v8), .val (.int v9), .val (.int v10)] [(.long (0 : Int64)), (.long q3), (.int v10)])) _
      refine XS.lcmp X10.here hx rfl (hb hby at_112) rfl ?_
      show Steps p.tables e below (T10.setTop (mkF m 113 #[.val (.long q1), .second, .val (.long q2), .second, .val (.long q3), .second, .val (.long q4), .second, .val (.ref b5), .val (.long (q1 + q2)), .second, .val (.int v7), .val (.int v8), .val (.int v9), .val (.int v10)] [(.int (lcmpW q3 (0 : Int64))), (.int v10)])) _
      refine XS.ifYes X10.here hx rfl (pc0 := 113) (pc' := 127) rfl (hb hby at_113) rfl (own_lc_ne c113).2 (by decide) (by decide) ?_
      show Steps p.tables e below (T10.setTop (mkF m 127 #[.val (.long q1), .second, .val (.long q2), .second, .val (.long q3), .second, .val (.long q4), .second, .val (.ref b5), .val (.long (q1 + q2)), .second, .val (.int v7), .val (.int v8), .val (.int v9), .val (.int v10)] [(.int v10)])) _
      refine XS.iconst X10.here hx rfl (hb hby at_127) ?_
      show Steps p.tables e below (T10.setTop (mkF m 128 #[.val (.long q1), .second, .val (.long q2), .second, .val (.long q3), .second, .val (.long q4), .second, .val (.ref b5), .val (.long (q1 + q2)), .second, .val (.int v7), .val (.int v8), .val (.int v9), .val (.int v10)] [(.int (0 : Int32)), (.int v10)])) _
      exact k
  have k7 : ¬ v7 = (0 : Int32) := by rw [hv7, if_pos ⟨rfl, own_a q1 q2⟩]; decide
  have k8 : v8 = u8 := by rw [hv8, hsF]; exact own_ifc ⟨fun q => (own_b q1 q2 q3).mp q.2, fun q => ⟨rfl, (own_b q1 q2 q3).mpr q⟩⟩
  have k9 : v9 = u9 := by rw [hv9, hsG]; exact own_ifc ⟨fun q => (own_c q2 q4).mp q.1, fun q => ⟨(own_c q2 q4).mpr q, own_a q1 q2⟩⟩
  have k10 : v10 = u10 := by rw [hv10, hsH]; exact own_ifc ⟨fun q => ⟨(own_b q1 q2 q3).mp q.2, (own_c q2 q4).mp q.1⟩, fun q => ⟨(own_c q2 q4).mpr q.2, (own_b q1 q2 q3).mpr q.1⟩⟩
  obtain ⟨fs, hr, hrun, hended, hW, hsame⟩ := X10.leave (v := some (.int (1 : Int32))) (fun h => by rw [Bd.returns] at h; cases h)
  refine ⟨_, _, pre0 _ ?_, hrun, hended, _, _, rfl, ?_, ⟨_, rfl⟩, hW, hsame.mono (by decide) (by decide)⟩
  · show Steps p.tables e below (s₁.setTop (mkF m 0 #[.val (.long q1), .second, .val (.long q2), .second, .val (.long q3), .second, .val (.long q4), .second, .unset, .unset, .unset, .unset, .unset, .unset, .unset] [])) _
    refine st5 _ ?_
    show Steps p.tables e below (T5.setTop (mkF m 3 #[.val (.long q1), .second, .val (.long q2), .second, .val (.long q3), .second, .val (.long q4), .second, .unset, .unset, .unset, .unset, .unset, .unset, .unset] [(.ref b5)])) _
    refine XS.dup X5.here hx rfl (hb hby at_3) rfl rfl ?_
    show Steps p.tables e below (T5.setTop (mkF m 4 #[.val (.long q1), .second, .val (.long q2), .second, .val (.long q3), .second, .val (.long q4), .second, .unset, .unset, .unset, .unset, .unset, .unset, .unset] [(.ref b5), (.ref b5)])) _
    refine XS.lloadN X5.here hx rfl (hb hby at_4) rfl ?_
    show Steps p.tables e below (T5.setTop (mkF m 5 #[.val (.long q1), .second, .val (.long q2), .second, .val (.long q3), .second, .val (.long q4), .second, .unset, .unset, .unset, .unset, .unset, .unset, .unset] [(.long q1), (.ref b5), (.ref b5)])) _
    refine XS.lloadN X5.here hx rfl (hb hby at_5) rfl ?_
    show Steps p.tables e below (T5.setTop (mkF m 6 #[.val (.long q1), .second, .val (.long q2), .second, .val (.long q3), .second, .val (.long q4), .second, .unset, .unset, .unset, .unset, .unset, .unset, .unset] [(.long q2), (.long q1), (.ref b5), (.ref b5)])) _
    refine st6.trans ?_
    show Steps p.tables e below (T6.setTop (mkF m 9 #[.val (.long q1), .second, .val (.long q2), .second, .val (.long q3), .second, .val (.long q4), .second, .unset, .unset, .unset, .unset, .unset, .unset, .unset] [(.ref b5)])) _
    refine XS.astore X6.here hx rfl (hb hby at_9) rfl rfl (l' := #[.val (.long q1), .second, .val (.long q2), .second, .val (.long q3), .second, .val (.long q4), .second, .val (.ref b5), .unset, .unset, .unset, .unset, .unset, .unset]) rfl ?_
    show Steps p.tables e below (T6.setTop (mkF m 11 #[.val (.long q1), .second, .val (.long q2), .second, .val (.long q3), .second, .val (.long q4), .second, .val (.ref b5), .unset, .unset, .unset, .unset, .unset, .unset] [])) _
    refine XS.lloadN X6.here hx rfl (hb hby at_11) rfl ?_
    show Steps p.tables e below (T6.setTop (mkF m 12 #[.val (.long q1), .second, .val (.long q2), .second, .val (.long q3), .second, .val (.long q4), .second, .val (.ref b5), .unset, .unset, .unset, .unset, .unset, .unset] [(.long q1)])) _
    refine XS.lloadN X6.here hx rfl (hb hby at_12) rfl ?_
    show Steps p.tables e below (T6.setTop (mkF m 13 #[.val (.long q1), .second, .val (.long q2), .second, .val (.long q3), .second, .val (.long q4), .second, .val (.ref b5), .unset, .unset, .unset, .unset, .unset, .unset] [(.long q2), (.long q1)])) _
    refine XS.ladd X6.here hx rfl (hb hby at_13) rfl ?_
    show Steps p.tables e below (T6.setTop (mkF m 14 #[.val (.long q1), .second, .val (.long q2), .second, .val (.long q3), .second, .val (.long q4), .second, .val (.ref b5), .unset, .unset, .unset, .unset, .unset, .unset] [(.long (q1 + q2))])) _
    refine XS.lstore X6.here hx rfl (hb hby at_14) rfl (l' := #[.val (.long q1), .second, .val (.long q2), .second, .val (.long q3), .second, .val (.long q4), .second, .val (.ref b5), .val (.long (q1 + q2)), .second, .unset, .unset, .unset, .unset]) rfl ?_
    show Steps p.tables e below (T6.setTop (mkF m 16 #[.val (.long q1), .second, .val (.long q2), .second, .val (.long q3), .second, .val (.long q4), .second, .val (.ref b5), .val (.long (q1 + q2)), .second, .unset, .unset, .unset, .unset] [])) _
    refine XS.aload X6.here hx rfl (hb hby at_16) rfl rfl ?_
    show Steps p.tables e below (T6.setTop (mkF m 18 #[.val (.long q1), .second, .val (.long q2), .second, .val (.long q3), .second, .val (.long q4), .second, .val (.ref b5), .val (.long (q1 + q2)), .second, .unset, .unset, .unset, .unset] [(.ref b5)])) _
    refine XS.lload X6.here hx rfl (hb hby at_18) rfl ?_
    show Steps p.tables e below (T6.setTop (mkF m 20 #[.val (.long q1), .second, .val (.long q2), .second, .val (.long q3), .second, .val (.long q4), .second, .val (.ref b5), .val (.long (q1 + q2)), .second, .unset, .unset, .unset, .unset] [(.long (q1 + q2)), (.ref b5)])) _
    refine XS.lloadN X6.here hx rfl (hb hby at_20) rfl ?_
    show Steps p.tables e below (T6.setTop (mkF m 21 #[.val (.long q1), .second, .val (.long q2), .second, .val (.long q3), .second, .val (.long q4), .second, .val (.ref b5), .val (.long (q1 + q2)), .second, .unset, .unset, .unset, .unset] [(.long q2), (.long (q1 + q2)), (.ref b5)])) _
    refine st7.trans ?_
    show Steps p.tables e below (T7.setTop (mkF m 24 #[.val (.long q1), .second, .val (.long q2), .second, .val (.long q3), .second, .val (.long q4), .second, .val (.ref b5), .val (.long (q1 + q2)), .second, .unset, .unset, .unset, .unset] [(.int v7)])) _
    refine XS.istore X7.here hx rfl (hb hby at_24) rfl (l' := #[.val (.long q1), .second, .val (.long q2), .second, .val (.long q3), .second, .val (.long q4), .second, .val (.ref b5), .val (.long (q1 + q2)), .second, .val (.int v7), .unset, .unset, .unset]) rfl ?_
    show Steps p.tables e below (T7.setTop (mkF m 26 #[.val (.long q1), .second, .val (.long q2), .second, .val (.long q3), .second, .val (.long q4), .second, .val (.ref b5), .val (.long (q1 + q2)), .second, .val (.int v7), .unset, .unset, .unset] [])) _
    refine XS.aload X7.here hx rfl (hb hby at_26) rfl rfl ?_
    show Steps p.tables e below (T7.setTop (mkF m 28 #[.val (.long q1), .second, .val (.long q2), .second, .val (.long q3), .second, .val (.long q4), .second, .val (.ref b5), .val (.long (q1 + q2)), .second, .val (.int v7), .unset, .unset, .unset] [(.ref b5)])) _
    refine XS.lload X7.here hx rfl (hb hby at_28) rfl ?_
    show Steps p.tables e below (T7.setTop (mkF m 30 #[.val (.long q1), .second, .val (.long q2), .second, .val (.long q3), .second, .val (.long q4), .second, .val (.ref b5), .val (.long (q1 + q2)), .second, .val (.int v7), .unset, .unset, .unset] [(.long (q1 + q2)), (.ref b5)])) _
    refine XS.lload X7.here hx rfl (hb hby at_30) rfl ?_
    show Steps p.tables e below (T7.setTop (mkF m 32 #[.val (.long q1), .second, .val (.long q2), .second, .val (.long q3), .second, .val (.long q4), .second, .val (.ref b5), .val (.long (q1 + q2)), .second, .val (.int v7), .unset, .unset, .unset] [(.long q3), (.long (q1 + q2)), (.ref b5)])) _
    refine XS.ladd X7.here hx rfl (hb hby at_32) rfl ?_
    show Steps p.tables e below (T7.setTop (mkF m 33 #[.val (.long q1), .second, .val (.long q2), .second, .val (.long q3), .second, .val (.long q4), .second, .val (.ref b5), .val (.long (q1 + q2)), .second, .val (.int v7), .unset, .unset, .unset] [(.long ((q1 + q2) + q3)), (.ref b5)])) _
    refine XS.lloadN X7.here hx rfl (hb hby at_33) rfl ?_
    show Steps p.tables e below (T7.setTop (mkF m 34 #[.val (.long q1), .second, .val (.long q2), .second, .val (.long q3), .second, .val (.long q4), .second, .val (.ref b5), .val (.long (q1 + q2)), .second, .val (.int v7), .unset, .unset, .unset] [(.long q2), (.long ((q1 + q2) + q3)), (.ref b5)])) _
    refine st8.trans ?_
    show Steps p.tables e below (T8.setTop (mkF m 37 #[.val (.long q1), .second, .val (.long q2), .second, .val (.long q3), .second, .val (.long q4), .second, .val (.ref b5), .val (.long (q1 + q2)), .second, .val (.int v7), .unset, .unset, .unset] [(.int v8)])) _
    refine XS.istore X8.here hx rfl (hb hby at_37) rfl (l' := #[.val (.long q1), .second, .val (.long q2), .second, .val (.long q3), .second, .val (.long q4), .second, .val (.ref b5), .val (.long (q1 + q2)), .second, .val (.int v7), .val (.int v8), .unset, .unset]) rfl ?_
    show Steps p.tables e below (T8.setTop (mkF m 39 #[.val (.long q1), .second, .val (.long q2), .second, .val (.long q3), .second, .val (.long q4), .second, .val (.ref b5), .val (.long (q1 + q2)), .second, .val (.int v7), .val (.int v8), .unset, .unset] [])) _
    refine XS.aload X8.here hx rfl (hb hby at_39) rfl rfl ?_
    show Steps p.tables e below (T8.setTop (mkF m 41 #[.val (.long q1), .second, .val (.long q2), .second, .val (.long q3), .second, .val (.long q4), .second, .val (.ref b5), .val (.long (q1 + q2)), .second, .val (.int v7), .val (.int v8), .unset, .unset] [(.ref b5)])) _
    refine XS.lload X8.here hx rfl (hb hby at_41) rfl ?_
    show Steps p.tables e below (T8.setTop (mkF m 43 #[.val (.long q1), .second, .val (.long q2), .second, .val (.long q3), .second, .val (.long q4), .second, .val (.ref b5), .val (.long (q1 + q2)), .second, .val (.int v7), .val (.int v8), .unset, .unset] [(.long (q1 + q2)), (.ref b5)])) _
    refine XS.lloadN X8.here hx rfl (hb hby at_43) rfl ?_
    show Steps p.tables e below (T8.setTop (mkF m 44 #[.val (.long q1), .second, .val (.long q2), .second, .val (.long q3), .second, .val (.long q4), .second, .val (.ref b5), .val (.long (q1 + q2)), .second, .val (.int v7), .val (.int v8), .unset, .unset] [(.long q2), (.long (q1 + q2)), (.ref b5)])) _
    refine XS.lload X8.here hx rfl (hb hby at_44) rfl ?_
    show Steps p.tables e below (T8.setTop (mkF m 46 #[.val (.long q1), .second, .val (.long q2), .second, .val (.long q3), .second, .val (.long q4), .second, .val (.ref b5), .val (.long (q1 + q2)), .second, .val (.int v7), .val (.int v8), .unset, .unset] [(.long q4), (.long q2), (.long (q1 + q2)), (.ref b5)])) _
    refine XS.ladd X8.here hx rfl (hb hby at_46) rfl ?_
    show Steps p.tables e below (T8.setTop (mkF m 47 #[.val (.long q1), .second, .val (.long q2), .second, .val (.long q3), .second, .val (.long q4), .second, .val (.ref b5), .val (.long (q1 + q2)), .second, .val (.int v7), .val (.int v8), .unset, .unset] [(.long (q2 + q4)), (.long (q1 + q2)), (.ref b5)])) _
    refine st9.trans ?_
    show Steps p.tables e below (T9.setTop (mkF m 50 #[.val (.long q1), .second, .val (.long q2), .second, .val (.long q3), .second, .val (.long q4), .second, .val (.ref b5), .val (.long (q1 + q2)), .second, .val (.int v7), .val (.int v8), .unset, .unset] [(.int v9)])) _
    refine XS.istore X9.here hx rfl (hb hby at_50) rfl (l' := #[.val (.long q1), .second, .val (.long q2), .second, .val (.long q3), .second, .val (.long q4), .second, .val (.ref b5), .val (.long (q1 + q2)), .second, .val (.int v7), .val (.int v8), .val (.int v9), .unset]) rfl ?_
    show Steps p.tables e below (T9.setTop (mkF m 52 #[.val (.long q1), .second, .val (.long q2), .second, .val (.long q3), .second, .val (.long q4), .second, .val (.ref b5), .val (.long (q1 + q2)), .second, .val (.int v7), .val (.int v8), .val (.int v9), .unset] [])) _
    refine XS.aload X9.here hx rfl (hb hby at_52) rfl rfl ?_
    show Steps p.tables e below (T9.setTop (mkF m 54 #[.val (.long q1), .second, .val (.long q2), .second, .val (.long q3), .second, .val (.long q4), .second, .val (.ref b5), .val (.long (q1 + q2)), .second, .val (.int v7), .val (.int v8), .val (.int v9), .unset] [(.ref b5)])) _
    refine XS.lload X9.here hx rfl (hb hby at_54) rfl ?_
    show Steps p.tables e below (T9.setTop (mkF m 56 #[.val (.long q1), .second, .val (.long q2), .second, .val (.long q3), .second, .val (.long q4), .second, .val (.ref b5), .val (.long (q1 + q2)), .second, .val (.int v7), .val (.int v8), .val (.int v9), .unset] [(.long (q1 + q2)), (.ref b5)])) _
    refine XS.lload X9.here hx rfl (hb hby at_56) rfl ?_
    show Steps p.tables e below (T9.setTop (mkF m 58 #[.val (.long q1), .second, .val (.long q2), .second, .val (.long q3), .second, .val (.long q4), .second, .val (.ref b5), .val (.long (q1 + q2)), .second, .val (.int v7), .val (.int v8), .val (.int v9), .unset] [(.long q3), (.long (q1 + q2)), (.ref b5)])) _
    refine XS.ladd X9.here hx rfl (hb hby at_58) rfl ?_
    show Steps p.tables e below (T9.setTop (mkF m 59 #[.val (.long q1), .second, .val (.long q2), .second, .val (.long q3), .second, .val (.long q4), .second, .val (.ref b5), .val (.long (q1 + q2)), .second, .val (.int v7), .val (.int v8), .val (.int v9), .unset] [(.long ((q1 + q2) + q3)), (.ref b5)])) _
    refine XS.lloadN X9.here hx rfl (hb hby at_59) rfl ?_
    show Steps p.tables e below (T9.setTop (mkF m 60 #[.val (.long q1), .second, .val (.long q2), .second, .val (.long q3), .second, .val (.long q4), .second, .val (.ref b5), .val (.long (q1 + q2)), .second, .val (.int v7), .val (.int v8), .val (.int v9), .unset] [(.long q2), (.long ((q1 + q2) + q3)), (.ref b5)])) _
    refine XS.lload X9.here hx rfl (hb hby at_60) rfl ?_
    show Steps p.tables e below (T9.setTop (mkF m 62 #[.val (.long q1), .second, .val (.long q2), .second, .val (.long q3), .second, .val (.long q4), .second, .val (.ref b5), .val (.long (q1 + q2)), .second, .val (.int v7), .val (.int v8), .val (.int v9), .unset] [(.long q4), (.long q2), (.long ((q1 + q2) + q3)), (.ref b5)])) _
    refine XS.ladd X9.here hx rfl (hb hby at_62) rfl ?_
    show Steps p.tables e below (T9.setTop (mkF m 63 #[.val (.long q1), .second, .val (.long q2), .second, .val (.long q3), .second, .val (.long q4), .second, .val (.ref b5), .val (.long (q1 + q2)), .second, .val (.int v7), .val (.int v8), .val (.int v9), .unset] [(.long (q2 + q4)), (.long ((q1 + q2) + q3)), (.ref b5)])) _
    refine st10.trans ?_
    show Steps p.tables e below (T10.setTop (mkF m 66 #[.val (.long q1), .second, .val (.long q2), .second, .val (.long q3), .second, .val (.long q4), .second, .val (.ref b5), .val (.long (q1 + q2)), .second, .val (.int v7), .val (.int v8), .val (.int v9), .unset] [(.int v10)])) _
    refine XS.istore X10.here hx rfl (hb hby at_66) rfl (l' := #[.val (.long q1), .second, .val (.long q2), .second, .val (.long q3), .second, .val (.long q4), .second, .val (.ref b5), .val (.long (q1 + q2)), .second, .val (.int v7), .val (.int v8), .val (.int v9), .val (.int v10)]) rfl ?_
    show Steps p.tables e below (T10.setTop (mkF m 68 #[.val (.long q1), .second, .val (.long q2), .second, .val (.long q3), .second, .val (.long q4), .second, .val (.ref b5), .val (.long (q1 + q2)), .second, .val (.int v7), .val (.int v8), .val (.int v9), .val (.int v10)] [])) _
    refine XS.iload X10.here hx rfl (hb hby at_68) rfl ?_
    show Steps p.tables e below (T10.setTop (mkF m 70 #[.val (.long q1), .second, .val (.long q2), .second, .val (.long q3), .second, .val (.long q4), .second, .val (.ref b5), .val (.long (q1 + q2)), .second, .val (.int v7), .val (.int v8), .val (.int v9), .val (.int v10)] [(.int v7)])) _
    refine XS.ifNo X10.here hx rfl (hb hby at_70) rfl ((if0 _ _).trans (feq k7).1) ?_
    show Steps p.tables e below (T10.setTop (mkF m 73 #[.val (.long q1), .second, .val (.long q2), .second, .val (.long q3), .second, .val (.long q4), .second, .val (.ref b5), .val (.long (q1 + q2)), .second, .val (.int v7), .val (.int v8), .val (.int v9), .val (.int v10)] [])) _
    refine sF _ ?_
    show Steps p.tables e below (T10.setTop (mkF m 87 #[.val (.long q1), .second, .val (.long q2), .second, .val (.long q3), .second, .val (.long q4), .second, .val (.ref b5), .val (.long (q1 + q2)), .second, .val (.int v7), .val (.int v8), .val (.int v9), .val (.int v10)] [(.int u8), (.int v8)])) _
    refine XS.icmpNo X10.here hx rfl (hb hby at_87) rfl (teq k8).2 ?_
    show Steps p.tables e below (T10.setTop (mkF m 90 #[.val (.long q1), .second, .val (.long q2), .second, .val (.long q3), .second, .val (.long q4), .second, .val (.ref b5), .val (.long (q1 + q2)), .second, .val (.int v7), .val (.int v8), .val (.int v9), .val (.int v10)] [])) _
    refine sG _ ?_
    show Steps p.tables e below (T10.setTop (mkF m 104 #[.val (.long q1), .second, .val (.long q2), .second, .val (.long q3), .second, .val (.long q4), .second, .val (.ref b5), .val (.long (q1 + q2)), .second, .val (.int v7), .val (.int v8), .val (.int v9), .val (.int v10)] [(.int u9), (.int v9)])) _
    refine XS.icmpNo X10.here hx rfl (hb hby at_104) rfl (teq k9).2 ?_
    show Steps p.tables e below (T10.setTop (mkF m 107 #[.val (.long q1), .second, .val (.long q2), .second, .val (.long q3), .second, .val (.long q4), .second, .val (.ref b5), .val (.long (q1 + q2)), .second, .val (.int v7), .val (.int v8), .val (.int v9), .val (.int v10)] [])) _
    refine sH _ ?_
    show Steps p.tables e below (T10.setTop (mkF m 128 #[.val (.long q1), .second, .val (.long q2), .second, .val (.long q3), .second, .val (.long q4), .second, .val (.ref b5), .val (.long (q1 + q2)), .second, .val (.int v7), .val (.int v8), .val (.int v9), .val (.int v10)] [(.int u10), (.int v10)])) _
    refine XS.icmpNo X10.here hx rfl (hb hby at_128) rfl (teq k10).2 ?_
    show Steps p.tables e below (T10.setTop (mkF m 131 #[.val (.long q1), .second, .val (.long q2), .second, .val (.long q3), .second, .val (.long q4), .second, .val (.ref b5), .val (.long (q1 + q2)), .second, .val (.int v7), .val (.int v8), .val (.int v9), .val (.int v10)] [])) _
    refine XS.iconst X10.here hx rfl (hb hby at_131) ?_
    show Steps p.tables e below (T10.setTop (mkF m 132 #[.val (.long q1), .second, .val (.long q2), .second, .val (.long q3), .second, .val (.long q4), .second, .val (.ref b5), .val (.long (q1 + q2)), .second, .val (.int v7), .val (.int v8), .val (.int v9), .val (.int v10)] [(.int (1 : Int32))])) _
    refine XS.goto X10.here hx rfl (pc0 := 132) (pc' := 136) rfl (hb hby at_132) (by decide) (by decide) ?_
    show Steps p.tables e below (T10.setTop (mkF m 136 #[.val (.long q1), .second, .val (.long q2), .second, .val (.long q3), .second, .val (.long q4), .second, .val (.ref b5), .val (.long (q1 + q2)), .second, .val (.int v7), .val (.int v8), .val (.int v9), .val (.int v10)] [(.int (1 : Int32))])) _
    exact retN X10 hx (t := .boolean) Bd.returns (by simp) (hb hby at_136) hr
  · show Q0 Z q1 q2 q3 q4 h0 n0 _ T10.heap _
    exact ⟨rfl, N10⟩
set_option maxRecDepth 65536 in
set_option maxHeartbeats 40000000 in
theorem comes_1 {Post : Tables → Env → Array Value → State → Outcome → State → Prop} (hpost : ∀ tb e args s v u, (limb_1_1.after args s (.returned v) u = true ∧ limb_1_2.after args s (.returned v) u = true ∧ True) → FrameEnd s (.returned v) u (Jvm.fieldLocs frame_1_writes args s ++ Jvm.arrayLocs frame_1_arrays args s ++ Jvm.staticLocs frame_1_statics s) 16 128 → Post tb e args s (.returned v) u) :
    ArmFor flags0 classFile x code maxLocals ret World_1 tables_1 room_1 Calls_1 rest_1 Pre_1 Post := by
  intro l hfl _ _ p e ha hc hk s m args below hf hA hF happ hP
  obtain ⟨hcalls, hrest, hpre⟩ := hP
  obtain ⟨-, -, -, hnamed, -, -, -, hat⟩ := (Spec.applies_iff hf).mp happ
  obtain ⟨hg, hn⟩ := and_e (Cond.before_iff.mp (show (Jvm.Cond.and given_1 narrow_1).before args s = true from hpre))
  obtain ⟨gc, hg0⟩ := and_e hg
  obtain ⟨ga0, hg1⟩ := and_e hg0
  obtain ⟨ga1, hg2⟩ := and_e hg1
  obtain ⟨ga2, hg3⟩ := and_e hg2
  obtain ⟨w0, w1, w2, w3, rfl⟩ : ∃ w0 w1 w2 w3 : Value, args = #[w0, w1, w2, w3] := by
    have hs : args.size = 4 := by simpa [Cond.value, given_1] using gc
    obtain ⟨L⟩ := args
    match L, hs with
    | [w0, w1, w2, w3], _ => exact ⟨w0, w1, w2, w3, rfl⟩
  have hw := fun d (hd : d ∈ tables_1) => atoms_spec (ws := Jvm.Cond.code x code maxLocals ret :: tables_1) hat d (List.mem_cons_of_mem _ hd)
  obtain ⟨i0, ei0⟩ := isL_v ga0
  obtain rfl : w0 = (.long i0) := Option.some.inj ei0
  obtain ⟨i1, ei1⟩ := isL_v ga1
  obtain rfl : w1 = (.long i1) := Option.some.inj ei1
  obtain ⟨i2, ei2⟩ := isL_v ga2
  obtain rfl : w2 = (.long i2) := Option.some.inj ei2
  obtain ⟨i3, ei3⟩ := isL_v hg3
  obtain rfl : w3 = (.long i3) := Option.some.inj ei3
  obtain ⟨n, o, h1, h2, h3, _, L, rfl, ⟨rfl, N⟩, hq⟩ := rm0 l s _ hw tables_1 i0 i1 i2 i3 s.heap s.heap.size (Nat.le_refl _) p e ha hc hk s m _ below hf ((Spec.applies_iff_loose hf).mp happ).1 ⟨rfl, State.Warmed39.refl s, rfl⟩ trivial
  refine ⟨n, _, h1, h2, h3, hpost _ _ _ _ _ _ ⟨Cond.after_iff.mpr rfl, Cond.after_iff.mpr (eq_i res_at (Term.int_eval (1)) rfl), trivial⟩ ⟨hq.1, hq.2.1, (hq.2.2.sift fun y hy => Or.inr (N y hy)).mono (by decide) (by decide)⟩⟩
theorem main_1_1 : Claimed_1_1 := comes_1 fun _ _ _ _ _ _ h hF => ⟨h.1, hF⟩
theorem main_1_2 : Claimed_1_2 := comes_1 fun _ _ _ _ _ _ h hF => ⟨h.2.1, hF⟩
end Jvm.Pilot.@@N@@
namespace Jvm.Pilot.@@N@@
open Jvm Jvm.ClassFile Sem Op Lib Jvm.Free Jvm.Stand Jvm.Pilot.@@N@@.Jvm.D
/-! MADE BY PROGRAM (witnessworld.py) out of the Statement's table words and the real class files: 9 classes; the members and pool entries that the words name. The judged class is class 1, her method 1. -/
namespace start1
open Jvm.ClassFile
def u (s : String) : CpInfo := .utf8 (stringToUtf16 s)
/-- a pool by its gaps: so many unusable entries, then the entry; so many at the end -/
def gap : Nat → List CpInfo → List CpInfo
  | 0, r => r
  | n + 1, r => .unusable :: gap n r
def poolList (es : List (Nat × CpInfo)) (last : Nat) : List CpInfo := es.foldr (fun e r => gap e.1 (e.2 :: r)) (gap last [])
def pool (es : List (Nat × CpInfo)) (last : Nat) : Array CpInfo := ⟨poolList es last⟩
def fileOf (pool : Array CpInfo) (this : Nat) (attrs : Array Attribute := #[]) (ms : Array MethodInfo := #[]) (fl : Nat := 33) (sup : Nat := 0) (ifs : Array Nat := #[]) (fds : Array FieldInfo := #[]) : ClassFile where
  minorVersion := 0
  majorVersion := 65
  constantPool := pool
  accessFlags := fl
  thisClass := this
  superClass := sup
  interfaces := ifs
  fields := fds
  methods := ms
  attributes := attrs
def plain (name : String) (sup : Option ClassId) : Class where
  name := name
  kind := .ordinary
  loader := none
  accessFlags := 33
  super := sup
  interfaces := #[]
  cf := none
  fields := #[]
  methods := #[]
  instanceTypes := #[]
  staticTypes := #[]
  resolved := #[]
  callSites := []
  init := .initialized
  statics := none
  mirror := none

def pool0 : Array CpInfo := pool [(5, u "<init>"), (0, u "()V"), (1, .class_ 10), (1, u "java/lang/Object")] 113

def k0c0 : Code := { maxStack := 0, maxLocals := 1, code := object_method_1_code, exceptionTable := #[], attributes := #[] }
def k0m0 : Method := { name := "<init>", desc := "()V", sig := { parameters := [], returnType := none }, accessFlags := 1, code := some k0c0 }
/-- java/lang/Object -/
def k0 : Class := { plain "java/lang/Object" none with
  accessFlags := 33
  interfaces := #[]
  cf := some (fileOf pool0 8 #[] #[{ accessFlags := 1, nameIndex := 5, descriptorIndex := 6, attributes := #[] }] 33 0 #[] #[])
  fields := #[]
  methods := #[k0m0]
  instanceTypes := #[]
  staticTypes := #[]
  resolved := Array.replicate 124 none
  statics := none }

def pool1 : Array CpInfo := pool [(2, .class_ 4), (1, u "java/lang/Object"), (0, u "<init>"), (0, u "()V"), (0, .class_ 8), (0, u "com/example/ilox/ilox/bench/Ledger"), (0, .methodref 7 10), (0, .nameAndType 5 11), (0, u "(JJ)V"), (0, .methodref 7 13), (0, .nameAndType 14 15), (0, u "holds"), (0, u "(JJ)Z"), (0, .class_ 17), (0, u "com/example/ilox/ilox/bench/LedgerHoldsPinLaw"), (2, u "law"), (0, u "(JJJJ)Z")] 3

def k1m0 : Method := { name := "<init>", desc := "()V", sig := { parameters := [], returnType := none }, accessFlags := 2, code := none }
def k1c1 : Code := { maxStack := 7, maxLocals := 15, code := code, exceptionTable := #[], attributes := #[] }
def k1m1 : Method := { name := "law", desc := "(JJJJ)Z", sig := { parameters := [.long, .long, .long, .long], returnType := some .boolean }, accessFlags := 9, code := some k1c1 }
/-- com/example/ilox/ilox/bench/LedgerHoldsPinLaw -/
def k1 : Class := { plain "com/example/ilox/ilox/bench/LedgerHoldsPinLaw" (some 0) with
  accessFlags := 49
  interfaces := #[]
  cf := some (fileOf pool1 16 #[] #[{ accessFlags := 2, nameIndex := 5, descriptorIndex := 6, attributes := #[] }, { accessFlags := 9, nameIndex := 20, descriptorIndex := 21, attributes := #[] }] 49 2 #[] #[])
  fields := #[]
  methods := #[k1m0, k1m1]
  instanceTypes := #[]
  staticTypes := #[]
  resolved := Array.replicate 25 none
  statics := none }

def pool2 : Array CpInfo := pool [(1, .methodref 2 3), (0, .class_ 4), (0, .nameAndType 5 6), (0, u "java/lang/Object"), (0, u "<init>"), (0, u "()V"), (0, .fieldref 8 9), (0, .class_ 10), (0, .nameAndType 11 12), (0, u "com/example/ilox/ilox/bench/Ledger"), (0, u "left"), (0, u "J"), (0, .fieldref 8 14), (0, .nameAndType 15 12), (0, u "rows"), (0, u "(JJ)V"), (3, u "holds"), (0, u "(JJ)Z")] 3

def k2c0 : Code := { maxStack := 3, maxLocals := 5, code := prog_40_method_1_code, exceptionTable := #[], attributes := #[] }
def k2m0 : Method := { name := "<init>", desc := "(JJ)V", sig := { parameters := [.long, .long], returnType := none }, accessFlags := 0, code := some k2c0 }
def k2c1 : Code := { maxStack := 6, maxLocals := 5, code := prog_40_method_4_code, exceptionTable := #[], attributes := #[] }
def k2m1 : Method := { name := "holds", desc := "(JJ)Z", sig := { parameters := [.long, .long], returnType := some .boolean }, accessFlags := 0, code := some k2c1 }
/-- com/example/ilox/ilox/bench/Ledger -/
def k2 : Class := { plain "com/example/ilox/ilox/bench/Ledger" (some 0) with
  accessFlags := 32
  interfaces := #[]
  cf := some (fileOf pool2 8 #[] #[{ accessFlags := 0, nameIndex := 5, descriptorIndex := 16, attributes := #[] }, { accessFlags := 0, nameIndex := 20, descriptorIndex := 21, attributes := #[] }] 32 2 #[] #[{ accessFlags := 18, nameIndex := 11, descriptorIndex := 12, attributes := #[] }, { accessFlags := 18, nameIndex := 15, descriptorIndex := 12, attributes := #[] }])
  fields := #[{ name := "left", type := .long, accessFlags := 18, slot := 0, constantValue := 0 }, { name := "rows", type := .long, accessFlags := 18, slot := 1, constantValue := 0 }]
  methods := #[k2m0, k2m1]
  instanceTypes := #[.long, .long]
  staticTypes := #[]
  resolved := Array.replicate 25 none
  statics := none }

def pool3 : Array CpInfo := pool [(1, u "java/lang/Cloneable"), (0, .class_ 1), (0, u "java/lang/Object"), (0, .class_ 3)] 3

/-- java/lang/Cloneable -/
def k3 : Class := { plain "java/lang/Cloneable" (some 0) with
  accessFlags := 1537
  interfaces := #[]
  cf := some (fileOf pool3 2 #[] #[] 1537 4 #[] #[])
  fields := #[]
  methods := #[]
  instanceTypes := #[]
  staticTypes := #[]
  resolved := Array.replicate 8 none
  statics := none }

def pool4 : Array CpInfo := pool [(1, u "java/io/Serializable"), (0, .class_ 1), (0, u "java/lang/Object"), (0, .class_ 3)] 3

/-- java/io/Serializable -/
def k4 : Class := { plain "java/io/Serializable" (some 0) with
  accessFlags := 1537
  interfaces := #[]
  cf := some (fileOf pool4 2 #[] #[] 1537 4 #[] #[])
  fields := #[]
  methods := #[]
  instanceTypes := #[]
  staticTypes := #[]
  resolved := Array.replicate 8 none
  statics := none }

/-- the primitive byte -/
def k5 : Class := { plain "byte" none with kind := .primitive 'B', accessFlags := 0x411 }
/-- [B -/
def k6 : Class := { plain "[B" (some 0) with kind := .array 5 .byte, interfaces := #[3, 4], accessFlags := 1041 }

/-- the primitive int -/
def k7 : Class := { plain "int" none with kind := .primitive 'I', accessFlags := 0x411 }
/-- [I -/
def k8 : Class := { plain "[I" (some 0) with kind := .array 7 .int, interfaces := #[3, 4], accessFlags := 1041 }

def heap : Heap := #[]
def classes : Array Class := #[k0, k1, k2, k3, k4, k5, k6, k7, k8]
def interned : List (Array UInt16 × Addr) := []
def slotsUsed : Nat := 0
def theMethod : MethodId := ⟨1, 1⟩
def args0 : Array Value := #[.long 5, .long 6, .long 7, .long 8]
def aboutOver (below : List Frame) : State where
  vm := { classes := classes, interned := interned.toArray }
  heap := heap
  slotsUsed := slotsUsed
  threads := #[{ frames := .invoking theMethod args0 :: below }]
def below0 : List Frame := [.native { method := ⟨0, 0⟩, args := #[] }]
def about1 : State := aboutOver below0
def p0 : Program := .bare "" "" ""
def e0 : Env := launch0.env 0 0 0
theorem w_frames : about1.frames = Frame.invoking theMethod args0 :: below0 := rfl
set_option maxRecDepth 65536 in
theorem w_args : argsFit about1.vm theMethod args0 = true := by decide +kernel
set_option maxRecDepth 65536 in
theorem w_heap : heapFits about1 = true := by decide +kernel
set_option maxRecDepth 65536 in
theorem w_runnable : about1.curStatus? = some .runnable := by decide +kernel
set_option maxRecDepth 65536 in
theorem w_alone : about1.alone = true := by decide +kernel
set_option maxRecDepth 65536 in
theorem w_named : about1.methodNamed? x = some theMethod := by decide +kernel
set_option maxRecDepth 65536 in
theorem w_hears : about1.hears theMethod below0 = true := by decide +kernel
set_option maxRecDepth 65536 in
theorem w_ripe : about1.ripe theMethod args0 below0 = true := by decide +kernel
theorem w_running : about1.status = .running := rfl
set_option maxRecDepth 65536 in
theorem w_room : about1.hasRoom e0.platform room_1 = true :=
  launch0.hasRoom_least _ room_1 (by decide +kernel) (by decide +kernel) (by decide +kernel) (by decide +kernel) (by decide +kernel) (by decide +kernel)
theorem allAtoms_all (ts : List Jvm.Cond) (a : Array Jvm.Value) (st : Jvm.State) : (allAtoms ts).before a st = ts.all (fun c => c.before a st) := by
  induction ts with
  | nil => rfl
  | cons c t ih =>
    show (Jvm.Cond.and c (allAtoms t)).before a st = _
    rw [Jvm.Cond.before_and, ih, List.all_cons]
def words1 : List Jvm.Cond := Jvm.Cond.code x code maxLocals ret :: tables_1
/-- a 'code' word, met by the world's own term for the bytes: nothing is compared byte by byte -/
theorem code_word {y : MethodName} {bytes : ByteArray} {mx : Nat} {rt : Option FieldType} {a : Array Value} {s : State} {m : MethodId} {meth : Method} {c : Code} (h1 : s.methodNamed? y = some m) (h2 : s.vm.method? m = some meth) (h3 : meth.code = some c) (h4 : c.code = bytes)
    (h5 : (c.maxLocals == mx && c.exceptionTable.isEmpty && decide (c.maxStack ≤ mostOperands) && decide (meth.sig.returnType = rt) && !meth.locks && decide (parseMethodDescriptor y.desc = some meth.sig)) = true) : (Jvm.Cond.code y bytes mx rt).before a s = true := by
  simp only [Bool.and_eq_true, beq_iff_eq, Bool.not_eq_true', decide_eq_true_eq] at h5
  obtain ⟨⟨⟨⟨⟨g1, g2⟩, g3⟩, g4⟩, g5⟩, g6⟩ := h5
  simp [Cond.before, Cond.holds, Cond.value, h1, h2, h3, h4, g1, g2, g3, g4, g5, g6]
def isCode : Jvm.Cond → Bool
  | .code _ _ _ _ => true
  | _ => false
theorem all_split {L : List Jvm.Cond} {P : Jvm.Cond → Bool} (h1 : L.all (fun c => isCode c || P c) = true) (h2 : ∀ c ∈ L.filter isCode, P c = true) : L.all P = true := by
  refine List.all_eq_true.mpr fun c hc => ?_
  have h := List.all_eq_true.mp h1 c hc
  rcases Bool.eq_false_or_eq_true (isCode c) with hi | hi
  · exact h2 c (List.mem_filter.mpr ⟨hc, hi⟩)
  · simpa [hi] using h
set_option maxRecDepth 65536 in
theorem w_c0 : (Jvm.Cond.code x code maxLocals ret).before args0 about1 = true := code_word (m := ⟨1, 1⟩) (meth := k1m1) (c := k1c1) (by decide +kernel) rfl rfl rfl (by decide +kernel)
set_option maxRecDepth 65536 in
theorem w_c1 : (Jvm.Cond.code ({ cls := "com/example/ilox/ilox/bench/Ledger", name := "<init>", desc := "(JJ)V" } : Jvm.MethodName) prog_40_method_1_code (5 : Nat) (Option.none : Option Jvm.ClassFile.FieldType)).before args0 about1 = true := code_word (m := ⟨2, 0⟩) (meth := k2m0) (c := k2c0) (by decide +kernel) rfl rfl rfl (by decide +kernel)
set_option maxRecDepth 65536 in
theorem w_c2 : (Jvm.Cond.code ({ cls := "java/lang/Object", name := "<init>", desc := "()V" } : Jvm.MethodName) object_method_1_code (1 : Nat) (Option.none : Option Jvm.ClassFile.FieldType)).before args0 about1 = true := code_word (m := ⟨0, 0⟩) (meth := k0m0) (c := k0c0) (by decide +kernel) rfl rfl rfl (by decide +kernel)
set_option maxRecDepth 65536 in
theorem w_c3 : (Jvm.Cond.code ({ cls := "com/example/ilox/ilox/bench/Ledger", name := "holds", desc := "(JJ)Z" } : Jvm.MethodName) prog_40_method_4_code (5 : Nat) (Option.some Jvm.ClassFile.FieldType.boolean)).before args0 about1 = true := code_word (m := ⟨2, 1⟩) (meth := k2m1) (c := k2c1) (by decide +kernel) rfl rfl rfl (by decide +kernel)
def codes1 : List Jvm.Cond := [Jvm.Cond.code x code maxLocals ret, Jvm.Cond.code ({ cls := "com/example/ilox/ilox/bench/Ledger", name := "<init>", desc := "(JJ)V" } : Jvm.MethodName) prog_40_method_1_code (5 : Nat) (Option.none : Option Jvm.ClassFile.FieldType), Jvm.Cond.code ({ cls := "java/lang/Object", name := "<init>", desc := "()V" } : Jvm.MethodName) object_method_1_code (1 : Nat) (Option.none : Option Jvm.ClassFile.FieldType), Jvm.Cond.code ({ cls := "com/example/ilox/ilox/bench/Ledger", name := "holds", desc := "(JJ)Z" } : Jvm.MethodName) prog_40_method_4_code (5 : Nat) (Option.some Jvm.ClassFile.FieldType.boolean)]
set_option maxRecDepth 65536 in
theorem codes_eq : words1.filter isCode = codes1 := rfl
theorem w_codes : ∀ c ∈ words1.filter isCode, c.before args0 about1 = true := by
  rw [codes_eq]
  intro c hc
  simp only [codes1, List.mem_cons, List.not_mem_nil, or_false] at hc
  rcases hc with rfl | rfl | rfl | rfl
  · exact w_c0
  · exact w_c1
  · exact w_c2
  · exact w_c3
set_option maxRecDepth 65536 in
theorem w_t1 : words1.all (fun c => isCode c || c.before args0 about1) = true := by decide +kernel
theorem w_tables : (allAtoms (Jvm.Cond.code x code maxLocals ret :: tables_1)).before args0 about1 = true := by
  rw [allAtoms_all]
  show words1.all (fun c => c.before args0 about1) = true
  refine all_split ?_ w_codes
  rw [w_t1]
set_option maxRecDepth 65536 in
theorem w_case : (Jvm.Cond.and given_1 narrow_1).before args0 about1 = true := by decide +kernel
theorem w_applies : (headSpec (Jvm.Cond.code x code maxLocals ret :: tables_1) room_1).applies x e0.platform about1 = true :=
  (Spec.applies_iff w_frames).mpr ⟨w_running, w_runnable, w_alone, w_named, w_hears, w_ripe, w_room, w_tables⟩
theorem atStart : AtStart classFile x code maxLocals ret World_1 tables_1 room_1 Calls_1 rest_1 Pre_1 launch0 p0 e0 about1 theMethod args0 below0 :=
  ⟨lists_1, trivial, launch0.admits_env _ _ _, launch0.least_env, fairChoices_fair.cas, fairChoices_fair.clock, w_frames, w_args, w_heap, w_applies, trivial, trivial, w_case⟩
end start1
theorem witness_1 : WitnessClaimed_1 := ⟨start1.p0, start1.e0, start1.about1, start1.theMethod, start1.args0, start1.below0, start1.atStart⟩
end Jvm.Pilot.@@N@@
