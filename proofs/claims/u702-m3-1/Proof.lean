import JvmDerived
import JvmDerived.Pilot.@@N@@Statement
import JvmDerived.Pilot.@@N@@Code
set_option linter.unusedVariables false
set_option linter.unusedSimpArgs false
namespace Jvm.Pilot.@@N@@
open Jvm Jvm.ClassFile Sem Op Lib Jvm.Free Jvm.Stand Jvm.LawKit Jvm.RoadKit Bundle Jvm.Pilot.@@N@@.Jvm.D
theorem own_ifc {P Q : Prop} [Decidable P] [Decidable Q] {α : Type} {a b : α} (h : P ↔ Q) : (if P then a else b) = if Q then a else b := by
  by_cases q : P
  · rw [if_pos q, if_pos (h.mp q)]
  · rw [if_neg q, if_neg (fun r => q (h.mpr r))]
theorem own_lc_eq {x y : Int64} (h : x = y) : ifCond.holds .eq (lcmpW x y) = true ∧ ifCond.holds .ne (lcmpW x y) = false := ⟨(if0 _ _).trans (teq ((lw_eq x y).mpr h)).1, (if0 _ _).trans (teq ((lw_eq x y).mpr h)).2⟩
theorem own_lc_ne {x y : Int64} (h : ¬ x = y) : ifCond.holds .eq (lcmpW x y) = false ∧ ifCond.holds .ne (lcmpW x y) = true := ⟨(if0 _ _).trans (feq (mt (lw_eq x y).mp h)).1, (if0 _ _).trans (feq (mt (lw_eq x y).mp h)).2⟩
theorem own_lc_lt {x y : Int64} (h : x < y) : ifCond.holds .lt (lcmpW x y) = true ∧ ifCond.holds .ge (lcmpW x y) = false := ⟨(if0 _ _).trans (tlt ((lw_lt x y).mpr h)).1, (if0 _ _).trans (tlt ((lw_lt x y).mpr h)).2.1⟩
theorem own_lc_nlt {x y : Int64} (h : ¬ x < y) : ifCond.holds .lt (lcmpW x y) = false ∧ ifCond.holds .ge (lcmpW x y) = true := ⟨(if0 _ _).trans (flt (mt (lw_lt x y).mp h)).1, (if0 _ _).trans (flt (mt (lw_lt x y).mp h)).2.1⟩
theorem own_lc_gt {x y : Int64} (h : y < x) : ifCond.holds .gt (lcmpW x y) = true ∧ ifCond.holds .le (lcmpW x y) = false := ⟨(if0 _ _).trans (tlt ((lw_gt x y).mpr h)).2.2.1, (if0 _ _).trans (tlt ((lw_gt x y).mpr h)).2.2.2⟩
theorem own_lc_ngt {x y : Int64} (h : ¬ y < x) : ifCond.holds .gt (lcmpW x y) = false ∧ ifCond.holds .le (lcmpW x y) = true := ⟨(if0 _ _).trans (flt (mt (lw_gt x y).mp h)).2.2.1, (if0 _ _).trans (flt (mt (lw_gt x y).mp h)).2.2.2⟩
/-- what BlockWriter.mask returns -/
def own_mask (p : Int32) : Int64 := if p = 64 then -1 else ((1 : Int64) <<< (p &&& 0x3f).toInt64) - 1
theorem own_key : ∀ (i : Fin 65) (j : Fin 64), (decide ((((own_mask (Int32.ofInt (i.val : Int))).toUInt64 >>> ((Int32.ofInt (j.val : Int)) &&& 0x3f).toInt64.toUInt64).toInt64 &&& (1 : Int64)) = (1 : Int64))) = decide (Int32.ofInt (j.val : Int) < Int32.ofInt (i.val : Int)) := by decide +kernel
theorem own_bits (w b : Int32) (h1 : 0 ≤ w.toInt) (h2 : w.toInt < 65) (h3 : 0 ≤ b.toInt) (h4 : b.toInt < 64) : ((((own_mask w).toUInt64 >>> (b &&& 0x3f).toInt64.toUInt64).toInt64 &&& (1 : Int64)) = (1 : Int64)) ↔ b < w := by
  have e1 : Int32.ofInt ((w.toInt.toNat : Nat) : Int) = w := by rw [Int.toNat_of_nonneg h1, Int32.ofInt_toInt]
  have e2 : Int32.ofInt ((b.toInt.toNat : Nat) : Int) = b := by rw [Int.toNat_of_nonneg h3, Int32.ofInt_toInt]
  have k := own_key ⟨w.toInt.toNat, by omega⟩ ⟨b.toInt.toNat, by omega⟩
  dsimp only at k
  rw [e1, e2] at k
  exact decide_eq_decide.mp k
theorem own_width (p : Int32) : 0 ≤ ((p &&& (2147483647 : Int32)) - ((p &&& (2147483647 : Int32)) / (65 : Int32)) * (65 : Int32)).toInt ∧ ((p &&& (2147483647 : Int32)) - ((p &&& (2147483647 : Int32)) / (65 : Int32)) * (65 : Int32)).toInt < 65 := by
  have a := c_and p (2147483647 : Int32) (by decide)
  generalize (p &&& (2147483647 : Int32)) = w at *
  have r := rng32 w
  have d := (c_idiv w (65 : Int32) 65 (by decide) (by decide)).1 a.1
  have q := c_imul (w / (65 : Int32)) (65 : Int32)
  have s := c_isub w ((w / (65 : Int32)) * (65 : Int32))
  have e : (65 : Int32).toInt = 65 := by decide +kernel
  have r2 := rng32 ((w / (65 : Int32)) * (65 : Int32))
  have r3 := rng32 (w - (w / (65 : Int32)) * (65 : Int32))
  rw [e, d] at q
  omega
theorem own_bit (p : Int32) : 0 ≤ (p &&& (63 : Int32)).toInt ∧ (p &&& (63 : Int32)).toInt < 64 := by
  have a := c_and p (63 : Int32) (by decide)
  have e : (63 : Int32).toInt = 63 := by decide +kernel
  omega
theorem d1_0 : decode prog_21_method_15_code 0 = .ok (.iload_n 0, 1) := by decide +kernel
theorem d1_1 : decode prog_21_method_15_code 1 = .ok (.bipush 64, 2) := by decide +kernel
theorem d1_3 : decode prog_21_method_15_code 3 = .ok (.if_icmp .ne 9, 3) := by decide +kernel
theorem d1_6 : decode prog_21_method_15_code 6 = .ok (.ldc2_w 84, 3) := by decide +kernel
theorem d1_9 : decode prog_21_method_15_code 9 = .ok (.goto 8, 3) := by decide +kernel
theorem d1_12 : decode prog_21_method_15_code 12 = .ok (.lconst 1, 1) := by decide +kernel
theorem d1_13 : decode prog_21_method_15_code 13 = .ok (.iload_n 0, 1) := by decide +kernel
theorem d1_14 : decode prog_21_method_15_code 14 = .ok (.lshl, 1) := by decide +kernel
theorem d1_15 : decode prog_21_method_15_code 15 = .ok (.lconst 1, 1) := by decide +kernel
theorem d1_16 : decode prog_21_method_15_code 16 = .ok (.lsub, 1) := by decide +kernel
theorem d1_17 : decode prog_21_method_15_code 17 = .ok (.lreturn, 1) := by decide +kernel
theorem pn_1 : plainName "com/example/meander/meander/store/BlockWriter" = true := by first | (simp [plainName, overriddenIn]; done) | decide +kernel
theorem ef_1 (m : MethodId) (x0 : Int32) : entryFrame m #[(.int x0)] 1 = mkF m 0 #[.val (.int x0)] [] := by first | (simp [entryFrame, mkF, argsToLocals, Value.category]; done) | rfl
def Q1 (Z : State) (p1 : Int32) (h0 : Heap) (n0 : Nat) (v : Option Value) (h : Heap) (L : List Loc) : Prop := (∃ z : Int64, v = some (.long z) ∧ z = own_mask p1) ∧ Fr n0 L ∧ h = h0
set_option maxRecDepth 65536 in
set_option maxHeartbeats 40000000 in
theorem rm1 (l : Launch) (Z : State) (a0 : Array Value) (hw : ∀ d ∈ tables_1, d.before a0 Z = true) (ws : List Jvm.Cond) (p1 : Int32) (h0 : Heap) (n0 : Nat) (Z0 : n0 ≤ h0.size) :
    MetFree l (⟨"com/example/meander/meander/store/BlockWriter", "mask", "(I)J"⟩ : MethodName) (head1 (Jvm.Cond.code (⟨"com/example/meander/meander/store/BlockWriter", "mask", "(I)J"⟩ : MethodName) prog_21_method_15_code 1 (some .long) :: ws) ({ frames := 0, cells := 0, slots := 0, locals := 0 } : Room)) (fun a U => a = #[(.int p1)] ∧ Z.Warmed39 U.vm ∧ U.heap = h0) (fun _ _ _ _ _ => True) (fun _ U o U' => ∃ v L, o = .returned v ∧ Q1 Z p1 h0 n0 v U'.heap L ∧ FrameEnd U o U' L ({ frames := 0, cells := 0, slots := 0, locals := 0 } : Room).cells ({ frames := 0, cells := 0, slots := 0, locals := 0 } : Room).slots) := by
  refine MetFree.of_bodySF (plainFor_of_name pn_1) hisR ?_
  intro p e s m args below meth c s₁ Bd hml0 hP hK
  obtain ⟨rfl, hZ, hh⟩ := hP
  have hx := Bd.exec
  have hby := Bd.bytes
  have hml : c.maxLocals = 1 := hml0
  have hown : s.vm.findClass "com/example/meander/meander/store/BlockWriter" = some m.cls := findClass_of_methodNamed Bd.named
  have hnm := (name_of_methodNamed Bd.named Bd.method).1
  have X0 : Stand p l e ({ frames := 0, cells := 0, slots := 0, locals := 0 } : Room) s m #[(.int p1)] below meth c s₁ [] 0 0 := Stand.of_body Bd
  have e0 : s₁.heap = h0 := by rw [← hh, Bd.state]; rfl
  have N0 := Fr.nil n0
  have pre0 : ∀ t, Steps p.tables e below (s₁.setTop (mkF m 0 #[.val (.int p1)] [])) t → Steps p.tables e below (s₁.setTop (entryFrame m #[(.int p1)] 1)) t := fun t k => castTop (ef_1 m p1) k
  obtain ⟨fs, hr, hrun, hended, hW, hsame⟩ := X0.leave (v := some (.long (own_mask p1))) (fun h => by rw [Bd.returns] at h; cases h)
  refine ⟨_, _, pre0 _ ?_, hrun, hended, _, _, rfl, ?_, ⟨_, rfl⟩, hW, hsame.mono (by decide) (by decide)⟩
  · by_cases c3 : p1 = (64 : Int32)
    · have hz : own_mask p1 = (-1 : Int64) := if_pos c3
      rw [hz] at hr
      show Steps p.tables e below (s₁.setTop (mkF m 0 #[.val (.int p1)] [])) _
      refine XS.iloadN X0.here hx rfl (hb hby d1_0) rfl ?_
      show Steps p.tables e below (s₁.setTop (mkF m 1 #[.val (.int p1)] [(.int p1)])) _
      refine XS.bipush X0.here hx rfl (hb hby d1_1) ?_
      show Steps p.tables e below (s₁.setTop (mkF m 3 #[.val (.int p1)] [(.int (64 : Int32)), (.int p1)])) _
      refine XS.icmpNo X0.here hx rfl (hb hby d1_3) rfl (teq c3).2 ?_
      show Steps p.tables e below (s₁.setTop (mkF m 6 #[.val (.int p1)] [])) _
      refine X0.ldc2Long hx hown (mvT hZ (hw _ (List.mem_of_getElem? (i := 5) rfl))) (g := (mkF m 6 #[.val (.int p1)] [])) rfl (hb hby d1_6) _ ?_
      show Steps p.tables e below (s₁.setTop (mkF m 9 #[.val (.int p1)] [(.long (-1 : Int64))])) _
      refine XS.goto X0.here hx rfl (pc0 := 9) (pc' := 17) rfl (hb hby d1_9) (by decide) (by decide) ?_
      show Steps p.tables e below (s₁.setTop (mkF m 17 #[.val (.int p1)] [(.long (-1 : Int64))])) _
      exact X0.lreturnOut hx Bd.returns (hb hby d1_17) hr
    · have hz : own_mask p1 = (((1 : Int64) <<< (p1 &&& 0x3f).toInt64) - (1 : Int64)) := if_neg c3
      rw [hz] at hr
      show Steps p.tables e below (s₁.setTop (mkF m 0 #[.val (.int p1)] [])) _
      refine XS.iloadN X0.here hx rfl (hb hby d1_0) rfl ?_
      show Steps p.tables e below (s₁.setTop (mkF m 1 #[.val (.int p1)] [(.int p1)])) _
      refine XS.bipush X0.here hx rfl (hb hby d1_1) ?_
      show Steps p.tables e below (s₁.setTop (mkF m 3 #[.val (.int p1)] [(.int (64 : Int32)), (.int p1)])) _
      refine XS.icmpYes X0.here hx rfl (pc0 := 3) (pc' := 12) rfl (hb hby d1_3) rfl (feq c3).2 (by decide) (by decide) ?_
      show Steps p.tables e below (s₁.setTop (mkF m 12 #[.val (.int p1)] [])) _
      refine XS.lconst X0.here hx rfl (hb hby d1_12) ?_
      show Steps p.tables e below (s₁.setTop (mkF m 13 #[.val (.int p1)] [(.long (1 : Int64))])) _
      refine XS.iloadN X0.here hx rfl (hb hby d1_13) rfl ?_
      show Steps p.tables e below (s₁.setTop (mkF m 14 #[.val (.int p1)] [(.int p1), (.long (1 : Int64))])) _
      refine XS.lshl X0.here hx rfl (hb hby d1_14) rfl ?_
      show Steps p.tables e below (s₁.setTop (mkF m 15 #[.val (.int p1)] [(.long ((1 : Int64) <<< (p1 &&& 0x3f).toInt64))])) _
      refine XS.lconst X0.here hx rfl (hb hby d1_15) ?_
      show Steps p.tables e below (s₁.setTop (mkF m 16 #[.val (.int p1)] [(.long (1 : Int64)), (.long ((1 : Int64) <<< (p1 &&& 0x3f).toInt64))])) _
      refine XS.lsub X0.here hx rfl (hb hby d1_16) rfl ?_
      show Steps p.tables e below (s₁.setTop (mkF m 17 #[.val (.int p1)] [(.long (((1 : Int64) <<< (p1 &&& 0x3f).toInt64) - (1 : Int64)))])) _
      exact X0.lreturnOut hx Bd.returns (hb hby d1_17) hr
  · show Q1 Z p1 h0 n0 _ s₁.heap _
    rw [e0]
    exact ⟨⟨_, rfl, rfl⟩, N0, rfl⟩
theorem pd_1 : parseMethodDescriptor "(I)J" = some ⟨[.int], some .long⟩ := by decide +kernel
theorem pn_0 : plainName "com/example/meander/meander/store/BlockWriterMaskPinLaw" = true := by first | (simp [plainName, overriddenIn]; done) | decide +kernel
theorem ef_0 (m : MethodId) (x0 : Int32) (x1 : Int32) : entryFrame m #[(.int x0), (.int x1)] maxLocals = mkF m 0 #[.val (.int x0), .val (.int x1), .unset, .unset, .unset, .unset, .unset, .unset] [] := by first | (simp [entryFrame, mkF, argsToLocals, Value.category, maxLocals]; done) | rfl
def Q0 (Z : State) (p1 : Int32) (p2 : Int32) (h0 : Heap) (n0 : Nat) (v : Option Value) (h : Heap) (L : List Loc) : Prop := v = some (.int 1) ∧ Fr n0 L
set_option maxRecDepth 65536 in
set_option maxHeartbeats 40000000 in
theorem rm0 (l : Launch) (Z : State) (a0 : Array Value) (hw : ∀ d ∈ tables_1, d.before a0 Z = true) (ws : List Jvm.Cond) (p1 : Int32) (p2 : Int32) (h0 : Heap) (n0 : Nat) (Z0 : n0 ≤ h0.size) :
    MetFree l x (head1 (Jvm.Cond.code x code maxLocals ret :: ws) room_1) (fun a U => a = #[(.int p1), (.int p2)] ∧ Z.Warmed39 U.vm ∧ U.heap = h0) (fun _ _ _ _ _ => True) (fun _ U o U' => ∃ v L, o = .returned v ∧ Q0 Z p1 p2 h0 n0 v U'.heap L ∧ FrameEnd U o U' L room_1.cells room_1.slots) := by
  refine MetFree.of_bodySF (plainFor_of_name pn_0) hisR ?_
  intro p e s m args below meth c s₁ Bd hml0 hP hK
  obtain ⟨rfl, hZ, hh⟩ := hP
  have hx := Bd.exec
  have hby := Bd.bytes
  have hml : c.maxLocals = 8 := hml0
  have hown : s.vm.findClass "com/example/meander/meander/store/BlockWriterMaskPinLaw" = some m.cls := findClass_of_methodNamed Bd.named
  have hnm := (name_of_methodNamed Bd.named Bd.method).1
  have X0 : Stand p l e room_1 s m #[(.int p1), (.int p2)] below meth c s₁ [] 0 0 := Stand.of_body Bd
  have e0 : s₁.heap = h0 := by rw [← hh, Bd.state]; rfl
  have N0 := Fr.nil n0
  have pre0 : ∀ t, Steps p.tables e below (s₁.setTop (mkF m 0 #[.val (.int p1), .val (.int p2), .unset, .unset, .unset, .unset, .unset, .unset] [])) t → Steps p.tables e below (s₁.setTop (entryFrame m #[(.int p1), (.int p2)] maxLocals)) t := fun t k => castTop (ef_0 m p1 p2) k
  obtain ⟨wd, bt, hsA, sA⟩ : ∃ (wd : Int32) (bt : Int32), (wd = ((p1 &&& (2147483647 : Int32)) - ((p1 &&& (2147483647 : Int32)) / (65 : Int32)) * (65 : Int32)) ∧ bt = (p2 &&& (63 : Int32))) ∧ ∀ t, Steps p.tables e below (s₁.setTop (mkF m 14 #[.val (.int p1), .val (.int p2), .val (.int wd), .val (.int bt), .unset, .unset, .unset, .unset] [(.int wd)])) t → Steps p.tables e below (s₁.setTop (mkF m 0 #[.val (.int p1), .val (.int p2), .unset, .unset, .unset, .unset, .unset, .unset] [])) t := by
    refine ⟨((p1 &&& (2147483647 : Int32)) - ((p1 &&& (2147483647 : Int32)) / (65 : Int32)) * (65 : Int32)), (p2 &&& (63 : Int32)), ⟨rfl, rfl⟩, fun t k => ?_⟩
    show Steps p.tables e below (s₁.setTop (mkF m 0 #[.val (.int p1), .val (.int p2), .unset, .unset, .unset, .unset, .unset, .unset] [])) _
    refine XS.iloadN X0.here hx rfl (hb hby at_0) rfl ?_
    show Steps p.tables e below (s₁.setTop (mkF m 1 #[.val (.int p1), .val (.int p2), .unset, .unset, .unset, .unset, .unset, .unset] [(.int p1)])) _
    refine X0.ldcInt hx hown (mvT hZ (hw _ (List.mem_of_getElem? (i := 0) rfl))) (g := (mkF m 1 #[.val (.int p1), .val (.int p2), .unset, .unset, .unset, .unset, .unset, .unset] [(.int p1)])) rfl (hb hby at_1) _ ?_
    show Steps p.tables e below (s₁.setTop (mkF m 3 #[.val (.int p1), .val (.int p2), .unset, .unset, .unset, .unset, .unset, .unset] [(.int (2147483647 : Int32)), (.int p1)])) _
    refine XS.iand X0.here hx rfl (hb hby at_3) rfl ?_
    show Steps p.tables e below (s₁.setTop (mkF m 4 #[.val (.int p1), .val (.int p2), .unset, .unset, .unset, .unset, .unset, .unset] [(.int (p1 &&& (2147483647 : Int32)))])) _
    refine XS.bipush X0.here hx rfl (hb hby at_4) ?_
    show Steps p.tables e below (s₁.setTop (mkF m 6 #[.val (.int p1), .val (.int p2), .unset, .unset, .unset, .unset, .unset, .unset] [(.int (65 : Int32)), (.int (p1 &&& (2147483647 : Int32)))])) _
    refine XS.irem X0.here hx rfl (hb hby at_6) rfl (by decide) ?_
    show Steps p.tables e below (s₁.setTop (mkF m 7 #[.val (.int p1), .val (.int p2), .unset, .unset, .unset, .unset, .unset, .unset] [(.int ((p1 &&& (2147483647 : Int32)) - ((p1 &&& (2147483647 : Int32)) / (65 : Int32)) * (65 : Int32)))])) _
    refine XS.istoreN X0.here hx rfl (hb hby at_7) rfl (l' := #[.val (.int p1), .val (.int p2), .val (.int ((p1 &&& (2147483647 : Int32)) - ((p1 &&& (2147483647 : Int32)) / (65 : Int32)) * (65 : Int32))), .unset, .unset, .unset, .unset, .unset]) rfl ?_
    show Steps p.tables e below (s₁.setTop (mkF m 8 #[.val (.int p1), .val (.int p2), .val (.int ((p1 &&& (2147483647 : Int32)) - ((p1 &&& (2147483647 : Int32)) / (65 : Int32)) * (65 : Int32))), .unset, .unset, .unset, .unset, .unset] [])) _
    refine XS.iloadN X0.here hx rfl (hb hby at_8) rfl ?_
    show Steps p.tables e below (s₁.setTop (mkF m 9 #[.val (.int p1), .val (.int p2), .val (.int ((p1 &&& (2147483647 : Int32)) - ((p1 &&& (2147483647 : Int32)) / (65 : Int32)) * (65 : Int32))), .unset, .unset, .unset, .unset, .unset] [(.int p2)])) _
    refine XS.bipush X0.here hx rfl (hb hby at_9) ?_
    show Steps p.tables e below (s₁.setTop (mkF m 11 #[.val (.int p1), .val (.int p2), .val (.int ((p1 &&& (2147483647 : Int32)) - ((p1 &&& (2147483647 : Int32)) / (65 : Int32)) * (65 : Int32))), .unset, .unset, .unset, .unset, .unset] [(.int (63 : Int32)), (.int p2)])) _
    refine XS.iand X0.here hx rfl (hb hby at_11) rfl ?_
    show Steps p.tables e below (s₁.setTop (mkF m 12 #[.val (.int p1), .val (.int p2), .val (.int ((p1 &&& (2147483647 : Int32)) - ((p1 &&& (2147483647 : Int32)) / (65 : Int32)) * (65 : Int32))), .unset, .unset, .unset, .unset, .unset] [(.int (p2 &&& (63 : Int32)))])) _
    refine XS.istoreN X0.here hx rfl (hb hby at_12) rfl (l' := #[.val (.int p1), .val (.int p2), .val (.int ((p1 &&& (2147483647 : Int32)) - ((p1 &&& (2147483647 : Int32)) / (65 : Int32)) * (65 : Int32))), .val (.int (p2 &&& (63 : Int32))), .unset, .unset, .unset, .unset]) rfl ?_
    show Steps p.tables e below (s₁.setTop (mkF m 13 #[.val (.int p1), .val (.int p2), .val (.int ((p1 &&& (2147483647 : Int32)) - ((p1 &&& (2147483647 : Int32)) / (65 : Int32)) * (65 : Int32))), .val (.int (p2 &&& (63 : Int32))), .unset, .unset, .unset, .unset] [])) _
    refine XS.iloadN X0.here hx rfl (hb hby at_13) rfl ?_
    show Steps p.tables e below (s₁.setTop (mkF m 14 #[.val (.int p1), .val (.int p2), .val (.int ((p1 &&& (2147483647 : Int32)) - ((p1 &&& (2147483647 : Int32)) / (65 : Int32)) * (65 : Int32))), .val (.int (p2 &&& (63 : Int32))), .unset, .unset, .unset, .unset] [(.int ((p1 &&& (2147483647 : Int32)) - ((p1 &&& (2147483647 : Int32)) / (65 : Int32)) * (65 : Int32)))])) _
    exact k
  have hwd : 0 ≤ wd.toInt ∧ wd.toInt < 65 := by rw [hsA.1]; exact own_width p1
  have hbt : 0 ≤ bt.toInt ∧ bt.toInt < 64 := by rw [hsA.2]; exact own_bit p2
  obtain ⟨_, _, ⟨T5, L5, k5, n5⟩, -, X5, ⟨Lc5, hQ5, l5, y5, z5⟩, st5⟩ := Jvm.LawKit.callS X0 hx (y := (⟨"com/example/meander/meander/store/BlockWriter", "mask", "(I)J"⟩ : MethodName)) hown (mvT hZ (hw _ (List.mem_of_getElem? (i := 1) rfl))) (mvT hZ (hw _ (List.mem_of_getElem? (i := 2) rfl))) (mvT hZ (hw _ (List.mem_of_getElem? (i := 3) rfl))) (mvT hZ (hw _ (List.mem_of_getElem? (i := 4) rfl))) (by decide) (backOf (W := 0) (rm1 l Z a0 hw [] wd h0 n0 Z0) hZ (hw _ (List.mem_of_getElem? (i := 4) rfl)) (hw _ (List.mem_of_getElem? (i := 3) rfl)) (by decide) (by decide)) (g := (mkF m 14 #[.val (.int p1), .val (.int p2), .val (.int wd), .val (.int bt), .unset, .unset, .unset, .unset] [(.int wd)])) rfl (by rw [hml]; rfl) (argsL := [(.int wd)]) (rest := []) (lenOf pd_1 rfl) rfl (by show 2 * 0 + _ ≤ _; exact Nat.le_of_eq rfl) (hb hby at_14) (fun _ _ => ⟨rfl, e0, (by decide : 0 + 0 ≤ _), (by decide : 0 + 0 ≤ _)⟩)
  dsimp only [Pt.U, Pt.locs, Pt.cells, Pt.slots] at X5 l5 y5 z5 st5 hQ5
  subst l5 y5 z5
  obtain ⟨⟨mk, rfl, hmk⟩, N5, e5⟩ := hQ5
  have N6 := Fr.app N0 N5
  obtain ⟨st, hsB, sB⟩ : ∃ (st : Int32), (st = if ((((mk.toUInt64 >>> (bt &&& 0x3f).toInt64.toUInt64).toInt64) &&& (1 : Int64)) = (1 : Int64)) then (1 : Int32) else 0) ∧ ∀ t, Steps p.tables e below (T5.setTop (mkF m 37 #[.val (.int p1), .val (.int p2), .val (.int wd), .val (.int bt), .val (.long mk), .second, .val (.int st), .unset] [])) t → Steps p.tables e below (T5.setTop (mkF m 17 #[.val (.int p1), .val (.int p2), .val (.int wd), .val (.int bt), .unset, .unset, .unset, .unset] [(.long mk)])) t := by
    by_cases c27 : (((mk.toUInt64 >>> (bt &&& 0x3f).toInt64.toUInt64).toInt64) &&& (1 : Int64)) = (1 : Int64)
    · refine ⟨(1 : Int32), (if_pos c27).symm, fun t k => ?_⟩
      show Steps p.tables e below (T5.setTop (mkF m 17 #[.val (.int p1), .val (.int p2), .val (.int wd), .val (.int bt), .unset, .unset, .unset, .unset] [(.long mk)])) _
      refine XS.lstore X5.here hx rfl (hb hby at_17) rfl (l' := #[.val (.int p1), .val (.int p2), .val (.int wd), .val (.int bt), .val (.long mk), .second, .unset, .unset]) rfl ?_
      show Steps p.tables e below (T5.setTop (mkF m 19 #[.val (.int p1), .val (.int p2), .val (.int wd), .val (.int bt), .val (.long mk), .second, .unset, .unset] [])) _
      refine XS.lload X5.here hx rfl (hb hby at_19) rfl ?_
      show Steps p.tables e below (T5.setTop (mkF m 21 #[.val (.int p1), .val (.int p2), .val (.int wd), .val (.int bt), .val (.long mk), .second, .unset, .unset] [(.long mk)])) _
      refine XS.iloadN X5.here hx rfl (hb hby at_21) rfl ?_
      show Steps p.tables e below (T5.setTop (mkF m 22 #[.val (.int p1), .val (.int p2), .val (.int wd), .val (.int bt), .val (.long mk), .second, .unset, .unset] [(.int bt), (.long mk)])) _
      refine XS.lushr X5.here hx rfl (hb hby at_22) rfl ?_
      show Steps p.tables e below (T5.setTop (mkF m 23 #[.val (.int p1), .val (.int p2), .val (.int wd), .val (.int bt), .val (.long mk), .second, .unset, .unset] [(.long ((mk.toUInt64 >>> (bt &&& 0x3f).toInt64.toUInt64).toInt64))])) _
      refine XS.lconst X5.here hx rfl (hb hby at_23) ?_
      show Steps p.tables e below (T5.setTop (mkF m 24 #[.val (.int p1), .val (.int p2), .val (.int wd), .val (.int bt), .val (.long mk), .second, .unset, .unset] [(.long (1 : Int64)), (.long ((mk.toUInt64 >>> (bt &&& 0x3f).toInt64.toUInt64).toInt64))])) _
      refine XS.land X5.here hx rfl (hb hby at_24) rfl ?_
      show Steps p.tables e below (T5.setTop (mkF m 25 #[.val (.int p1), .val (.int p2), .val (.int wd), .val (.int bt), .val (.long mk), .second, .unset, .unset] [(.long (((mk.toUInt64 >>> (bt &&& 0x3f).toInt64.toUInt64).toInt64) &&& (1 : Int64)))])) _
      refine XS.lconst X5.here hx rfl (hb hby at_25) ?_
      show Steps p.tables e below (T5.setTop (mkF m 26 #[.val (.int p1), .val (.int p2), .val (.int wd), .val (.int bt), .val (.long mk), .second, .unset, .unset] [(.long (1 : Int64)), (.long (((mk.toUInt64 >>> (bt &&& 0x3f).toInt64.toUInt64).toInt64) &&& (1 : Int64)))])) _
      refine XS.lcmp X5.here hx rfl (hb hby at_26) rfl ?_
      show Steps p.tables e below (T5.setTop (mkF m 27 #[.val (.int p1), .val (.int p2), .val (.int wd), .val (.int bt), .val (.long mk), .second, .unset, .unset] [(.int (lcmpW (((mk.toUInt64 >>> (bt &&& 0x3f).toInt64.toUInt64).toInt64) &&& (1 : Int64)) (1 : Int64)))])) _
      refine XS.ifNo X5.here hx rfl (hb hby at_27) rfl (own_lc_eq c27).2 ?_
      show Steps p.tables e below (T5.setTop (mkF m 30 #[.val (.int p1), .val (.int p2), .val (.int wd), .val (.int bt), .val (.long mk), .second, .unset, .unset] [])) _
      refine XS.iconst X5.here hx rfl (hb hby at_30) ?_
      show Steps p.tables e below (T5.setTop (mkF m 31 #[.val (.int p1), .val (.int p2), .val (.int wd), .val (.int bt), .val (.long mk), .second, .unset, .unset] [(.int (1 : Int32))])) _
      refine XS.goto X5.here hx rfl (pc0 := 31) (pc' := 35) rfl (hb hby at_31) (by decide) (by decide) ?_
      show Steps p.tables e below (T5.setTop (mkF m 35 #[.val (.int p1), .val (.int p2), .val (.int wd), .val (.int bt), .val (.long mk), .second, .unset, .unset] [(.int (1 : Int32))])) _
      refine XS.istore X5.here hx rfl (hb hby at_35) rfl (l' := #[.val (.int p1), .val (.int p2), .val (.int wd), .val (.int bt), .val (.long mk), .second, .val (.int (1 : Int32)), .unset]) rfl ?_
      show Steps p.tables e below (T5.setTop (mkF m 37 #[.val (.int p1), .val (.int p2), .val (.int wd), .val (.int bt), .val (.long mk), .second, .val (.int (1 : Int32)), .unset] [])) _
      exact k
    · refine ⟨(0 : Int32), (if_neg c27).symm, fun t k => ?_⟩
      show Steps p.tables e below (T5.setTop (mkF m 17 #[.val (.int p1), .val (.int p2), .val (.int wd), .val (.int bt), .unset, .unset, .unset, .unset] [(.long mk)])) _
      refine XS.lstore X5.here hx rfl (hb hby at_17) rfl (l' := #[.val (.int p1), .val (.int p2), .val (.int wd), .val (.int bt), .val (.long mk), .second, .unset, .unset]) rfl ?_
      show Steps p.tables e below (T5.setTop (mkF m 19 #[.val (.int p1), .val (.int p2), .val (.int wd), .val (.int bt), .val (.long mk), .second, .unset, .unset] [])) _
      refine XS.lload X5.here hx rfl (hb hby at_19) rfl ?_
      show Steps p.tables e below (T5.setTop (mkF m 21 #[.val (.int p1), .val (.int p2), .val (.int wd), .val (.int bt), .val (.long mk), .second, .unset, .unset] [(.long mk)])) _
      refine XS.iloadN X5.here hx rfl (hb hby at_21) rfl ?_
      show Steps p.tables e below (T5.setTop (mkF m 22 #[.val (.int p1), .val (.int p2), .val (.int wd), .val (.int bt), .val (.long mk), .second, .unset, .unset] [(.int bt), (.long mk)])) _
      refine XS.lushr X5.here hx rfl (hb hby at_22) rfl ?_
      show Steps p.tables e below (T5.setTop (mkF m 23 #[.val (.int p1), .val (.int p2), .val (.int wd), .val (.int bt), .val (.long mk), .second, .unset, .unset] [(.long ((mk.toUInt64 >>> (bt &&& 0x3f).toInt64.toUInt64).toInt64))])) _
      refine XS.lconst X5.here hx rfl (hb hby at_23) ?_
      show Steps p.tables e below (T5.setTop (mkF m 24 #[.val (.int p1), .val (.int p2), .val (.int wd), .val (.int bt), .val (.long mk), .second, .unset, .unset] [(.long (1 : Int64)), (.long ((mk.toUInt64 >>> (bt &&& 0x3f).toInt64.toUInt64).toInt64))])) _
      refine XS.land X5.here hx rfl (hb hby at_24) rfl ?_
      show Steps p.tables e below (T5.setTop (mkF m 25 #[.val (.int p1), .val (.int p2), .val (.int wd), .val (.int bt), .val (.long mk), .second, .unset, .unset] [(.long (((mk.toUInt64 >>> (bt &&& 0x3f).toInt64.toUInt64).toInt64) &&& (1 : Int64)))])) _
      refine XS.lconst X5.here hx rfl (hb hby at_25) ?_
      show Steps p.tables e below (T5.setTop (mkF m 26 #[.val (.int p1), .val (.int p2), .val (.int wd), .val (.int bt), .val (.long mk), .second, .unset, .unset] [(.long (1 : Int64)), (.long (((mk.toUInt64 >>> (bt &&& 0x3f).toInt64.toUInt64).toInt64) &&& (1 : Int64)))])) _
      refine XS.lcmp X5.here hx rfl (hb hby at_26) rfl ?_
      show Steps p.tables e below (T5.setTop (mkF m 27 #[.val (.int p1), .val (.int p2), .val (.int wd), .val (.int bt), .val (.long mk), .second, .unset, .unset] [(.int (lcmpW (((mk.toUInt64 >>> (bt &&& 0x3f).toInt64.toUInt64).toInt64) &&& (1 : Int64)) (1 : Int64)))])) _
      refine XS.ifYes X5.here hx rfl (pc0 := 27) (pc' := 34) rfl (hb hby at_27) rfl (own_lc_ne c27).2 (by decide) (by decide) ?_
      show Steps p.tables e below (T5.setTop (mkF m 34 #[.val (.int p1), .val (.int p2), .val (.int wd), .val (.int bt), .val (.long mk), .second, .unset, .unset] [])) _
      refine XS.iconst X5.here hx rfl (hb hby at_34) ?_
      show Steps p.tables e below (T5.setTop (mkF m 35 #[.val (.int p1), .val (.int p2), .val (.int wd), .val (.int bt), .val (.long mk), .second, .unset, .unset] [(.int (0 : Int32))])) _
      refine XS.istore X5.here hx rfl (hb hby at_35) rfl (l' := #[.val (.int p1), .val (.int p2), .val (.int wd), .val (.int bt), .val (.long mk), .second, .val (.int (0 : Int32)), .unset]) rfl ?_
      show Steps p.tables e below (T5.setTop (mkF m 37 #[.val (.int p1), .val (.int p2), .val (.int wd), .val (.int bt), .val (.long mk), .second, .val (.int (0 : Int32)), .unset] [])) _
      exact k
  obtain ⟨xp, hsC, sC⟩ : ∃ (xp : Int32), (xp = if bt < wd then (1 : Int32) else 0) ∧ ∀ t, Steps p.tables e below (T5.setTop (mkF m 49 #[.val (.int p1), .val (.int p2), .val (.int wd), .val (.int bt), .val (.long mk), .second, .val (.int st), .val (.int xp)] [])) t → Steps p.tables e below (T5.setTop (mkF m 37 #[.val (.int p1), .val (.int p2), .val (.int wd), .val (.int bt), .val (.long mk), .second, .val (.int st), .unset] [])) t := by
    by_cases c39 : bt < wd
    · refine ⟨(1 : Int32), (if_pos c39).symm, fun t k => ?_⟩
      show Steps p.tables e below (T5.setTop (mkF m 37 #[.val (.int p1), .val (.int p2), .val (.int wd), .val (.int bt), .val (.long mk), .second, .val (.int st), .unset] [])) _
      refine XS.iloadN X5.here hx rfl (hb hby at_37) rfl ?_
      show Steps p.tables e below (T5.setTop (mkF m 38 #[.val (.int p1), .val (.int p2), .val (.int wd), .val (.int bt), .val (.long mk), .second, .val (.int st), .unset] [(.int bt)])) _
      refine XS.iloadN X5.here hx rfl (hb hby at_38) rfl ?_
      show Steps p.tables e below (T5.setTop (mkF m 39 #[.val (.int p1), .val (.int p2), .val (.int wd), .val (.int bt), .val (.long mk), .second, .val (.int st), .unset] [(.int wd), (.int bt)])) _
      refine XS.icmpNo X5.here hx rfl (hb hby at_39) rfl (tlt c39).2.1 ?_
      show Steps p.tables e below (T5.setTop (mkF m 42 #[.val (.int p1), .val (.int p2), .val (.int wd), .val (.int bt), .val (.long mk), .second, .val (.int st), .unset] [])) _
      refine XS.iconst X5.here hx rfl (hb hby at_42) ?_
      show Steps p.tables e below (T5.setTop (mkF m 43 #[.val (.int p1), .val (.int p2), .val (.int wd), .val (.int bt), .val (.long mk), .second, .val (.int st), .unset] [(.int (1 : Int32))])) _
      refine XS.goto X5.here hx rfl (pc0 := 43) (pc' := 47) rfl (hb hby at_43) (by decide) (by decide) ?_
      show Steps p.tables e below (T5.setTop (mkF m 47 #[.val (.int p1), .val (.int p2), .val (.int wd), .val (.int bt), .val (.long mk), .second, .val (.int st), .unset] [(.int (1 : Int32))])) _
      refine XS.istore X5.here hx rfl (hb hby at_47) rfl (l' := #[.val (.int p1), .val (.int p2), .val (.int wd), .val (.int bt), .val (.long mk), .second, .val (.int st), .val (.int (1 : Int32))]) rfl ?_
      show Steps p.tables e below (T5.setTop (mkF m 49 #[.val (.int p1), .val (.int p2), .val (.int wd), .val (.int bt), .val (.long mk), .second, .val (.int st), .val (.int (1 : Int32))] [])) _
      exact k
    · refine ⟨(0 : Int32), (if_neg c39).symm, fun t k => ?_⟩
      show Steps p.tables e below (T5.setTop (mkF m 37 #[.val (.int p1), .val (.int p2), .val (.int wd), .val (.int bt), .val (.long mk), .second, .val (.int st), .unset] [])) _
      refine XS.iloadN X5.here hx rfl (hb hby at_37) rfl ?_
      show Steps p.tables e below (T5.setTop (mkF m 38 #[.val (.int p1), .val (.int p2), .val (.int wd), .val (.int bt), .val (.long mk), .second, .val (.int st), .unset] [(.int bt)])) _
      refine XS.iloadN X5.here hx rfl (hb hby at_38) rfl ?_
      show Steps p.tables e below (T5.setTop (mkF m 39 #[.val (.int p1), .val (.int p2), .val (.int wd), .val (.int bt), .val (.long mk), .second, .val (.int st), .unset] [(.int wd), (.int bt)])) _
      refine XS.icmpYes X5.here hx rfl (pc0 := 39) (pc' := 46) rfl (hb hby at_39) rfl (flt c39).2.1 (by decide) (by decide) ?_
      show Steps p.tables e below (T5.setTop (mkF m 46 #[.val (.int p1), .val (.int p2), .val (.int wd), .val (.int bt), .val (.long mk), .second, .val (.int st), .unset] [])) _
      refine XS.iconst X5.here hx rfl (hb hby at_46) ?_
      show Steps p.tables e below (T5.setTop (mkF m 47 #[.val (.int p1), .val (.int p2), .val (.int wd), .val (.int bt), .val (.long mk), .second, .val (.int st), .unset] [(.int (0 : Int32))])) _
      refine XS.istore X5.here hx rfl (hb hby at_47) rfl (l' := #[.val (.int p1), .val (.int p2), .val (.int wd), .val (.int bt), .val (.long mk), .second, .val (.int st), .val (.int (0 : Int32))]) rfl ?_
      show Steps p.tables e below (T5.setTop (mkF m 49 #[.val (.int p1), .val (.int p2), .val (.int wd), .val (.int bt), .val (.long mk), .second, .val (.int st), .val (.int (0 : Int32))] [])) _
      exact k
  have hst : st = xp := by
    rw [hsB, hsC, hmk]
    exact own_ifc (own_bits wd bt hwd.1 hwd.2 hbt.1 hbt.2)
  obtain ⟨fs, hr, hrun, hended, hW, hsame⟩ := X5.leave (v := some (.int (1 : Int32))) (fun h => by rw [Bd.returns] at h; cases h)
  refine ⟨_, _, pre0 _ ?_, hrun, hended, _, _, rfl, ?_, ⟨_, rfl⟩, hW, hsame.mono (by decide) (by decide)⟩
  · refine sA _ ?_
    refine st5 _ ?_
    refine sB _ ?_
    refine sC _ ?_
    show Steps p.tables e below (T5.setTop (mkF m 49 #[.val (.int p1), .val (.int p2), .val (.int wd), .val (.int bt), .val (.long mk), .second, .val (.int st), .val (.int xp)] [])) _
    refine XS.iload X5.here hx rfl (hb hby at_49) rfl ?_
    show Steps p.tables e below (T5.setTop (mkF m 51 #[.val (.int p1), .val (.int p2), .val (.int wd), .val (.int bt), .val (.long mk), .second, .val (.int st), .val (.int xp)] [(.int st)])) _
    refine XS.iload X5.here hx rfl (hb hby at_51) rfl ?_
    show Steps p.tables e below (T5.setTop (mkF m 53 #[.val (.int p1), .val (.int p2), .val (.int wd), .val (.int bt), .val (.long mk), .second, .val (.int st), .val (.int xp)] [(.int xp), (.int st)])) _
    refine XS.icmpNo X5.here hx rfl (hb hby at_53) rfl (teq hst).2 ?_
    show Steps p.tables e below (T5.setTop (mkF m 56 #[.val (.int p1), .val (.int p2), .val (.int wd), .val (.int bt), .val (.long mk), .second, .val (.int st), .val (.int xp)] [])) _
    refine XS.iconst X5.here hx rfl (hb hby at_56) ?_
    show Steps p.tables e below (T5.setTop (mkF m 57 #[.val (.int p1), .val (.int p2), .val (.int wd), .val (.int bt), .val (.long mk), .second, .val (.int st), .val (.int xp)] [(.int (1 : Int32))])) _
    refine XS.goto X5.here hx rfl (pc0 := 57) (pc' := 61) rfl (hb hby at_57) (by decide) (by decide) ?_
    show Steps p.tables e below (T5.setTop (mkF m 61 #[.val (.int p1), .val (.int p2), .val (.int wd), .val (.int bt), .val (.long mk), .second, .val (.int st), .val (.int xp)] [(.int (1 : Int32))])) _
    exact retN X5 hx (t := .boolean) Bd.returns (by simp) (hb hby at_61) hr
  · show Q0 Z p1 p2 h0 n0 _ T5.heap _
    exact ⟨rfl, N6⟩
set_option maxRecDepth 65536 in
set_option maxHeartbeats 40000000 in
theorem comes_1 {Post : Tables → Env → Array Value → State → Outcome → State → Prop} (hpost : ∀ tb e args s v u, (limb_1_1.after args s (.returned v) u = true ∧ limb_1_2.after args s (.returned v) u = true ∧ True) → FrameEnd s (.returned v) u (Jvm.fieldLocs frame_1_writes args s ++ Jvm.arrayLocs frame_1_arrays args s ++ Jvm.staticLocs frame_1_statics s) 0 0 → Post tb e args s (.returned v) u) :
    ArmFor flags0 classFile x code maxLocals ret World_1 tables_1 room_1 Calls_1 rest_1 Pre_1 Post := by
  intro l hfl _ _ p e ha hc hk s m args below hf hA hF happ hP
  obtain ⟨hcalls, hrest, hpre⟩ := hP
  obtain ⟨-, -, -, hnamed, -, -, -, hat⟩ := (Spec.applies_iff hf).mp happ
  obtain ⟨hg, hn⟩ := and_e (Cond.before_iff.mp (show (Jvm.Cond.and given_1 narrow_1).before args s = true from hpre))
  obtain ⟨gc, hg0⟩ := and_e hg
  obtain ⟨ga0, hg1⟩ := and_e hg0
  obtain ⟨w0, w1, rfl⟩ : ∃ w0 w1 : Value, args = #[w0, w1] := by
    have hs : args.size = 2 := by simpa [Cond.value, given_1] using gc
    obtain ⟨L⟩ := args
    match L, hs with
    | [w0, w1], _ => exact ⟨w0, w1, rfl⟩
  have hw := fun d (hd : d ∈ tables_1) => atoms_spec (ws := Jvm.Cond.code x code maxLocals ret :: tables_1) hat d (List.mem_cons_of_mem _ hd)
  obtain ⟨i0, ei0⟩ := is_v ga0
  obtain rfl : w0 = (.int i0) := Option.some.inj ei0
  obtain ⟨i1, ei1⟩ := is_v hg1
  obtain rfl : w1 = (.int i1) := Option.some.inj ei1
  obtain ⟨n, o, h1, h2, h3, _, L, rfl, ⟨rfl, N⟩, hq⟩ := rm0 l s _ hw tables_1 i0 i1 s.heap s.heap.size (Nat.le_refl _) p e ha hc hk s m _ below hf ((Spec.applies_iff_loose hf).mp happ).1 ⟨rfl, State.Warmed39.refl s, rfl⟩ trivial
  refine ⟨n, _, h1, h2, h3, hpost _ _ _ _ _ _ ⟨Cond.after_iff.mpr rfl, Cond.after_iff.mpr (eq_i res_at (Term.int_eval (1)) rfl), trivial⟩ ⟨hq.1, hq.2.1, (hq.2.2.sift fun y hy => Or.inr (N y hy)).mono (by decide) (by decide)⟩⟩
theorem main_1_1 : Claimed_1_1 := comes_1 fun _ _ _ _ _ _ h hF => ⟨h.1, hF⟩
theorem main_1_2 : Claimed_1_2 := comes_1 fun _ _ _ _ _ _ h hF => ⟨h.2.1, hF⟩
end Jvm.Pilot.@@N@@
namespace Jvm.Pilot.@@N@@
open Jvm Jvm.ClassFile Sem Op Lib Jvm.Free Jvm.Stand Jvm.Pilot.@@N@@.Jvm.D
/-! MADE BY PROGRAM (witnessworld.py) out of the Statement's table words and the real class files: 9 classes; the members and pool entries that the words name. The judged class is class 1, her method 1. -/
namespace start1
open Jvm.ClassFile
def u (s : String) : CpInfo := .utf8 (stringToUtf16 s)
/-- a pool by its gaps: so many unusable entries, then the entry; so many at the end -/
def gap : Nat → List CpInfo → List CpInfo
  | 0, r => r
  | n + 1, r => .unusable :: gap n r
def poolList (es : List (Nat × CpInfo)) (last : Nat) : List CpInfo := es.foldr (fun e r => gap e.1 (e.2 :: r)) (gap last [])
def pool (es : List (Nat × CpInfo)) (last : Nat) : Array CpInfo := ⟨poolList es last⟩
def fileOf (pool : Array CpInfo) (this : Nat) (attrs : Array Attribute := #[]) (ms : Array MethodInfo := #[]) (fl : Nat := 33) (sup : Nat := 0) (ifs : Array Nat := #[]) (fds : Array FieldInfo := #[]) : ClassFile where
  minorVersion := 0
  majorVersion := 65
  constantPool := pool
  accessFlags := fl
  thisClass := this
  superClass := sup
  interfaces := ifs
  fields := fds
  methods := ms
  attributes := attrs
def plain (name : String) (sup : Option ClassId) : Class where
  name := name
  kind := .ordinary
  loader := none
  accessFlags := 33
  super := sup
  interfaces := #[]
  cf := none
  fields := #[]
  methods := #[]
  instanceTypes := #[]
  staticTypes := #[]
  resolved := #[]
  callSites := []
  init := .initialized
  statics := none
  mirror := none

def pool0 : Array CpInfo := pool [(5, u "<init>"), (0, u "()V"), (1, .class_ 10), (1, u "java/lang/Object")] 113

def k0m0 : Method := { name := "<init>", desc := "()V", sig := { parameters := [], returnType := none }, accessFlags := 1, code := none }
/-- java/lang/Object -/
def k0 : Class := { plain "java/lang/Object" none with
  accessFlags := 33
  interfaces := #[]
  cf := some (fileOf pool0 8 #[] #[{ accessFlags := 1, nameIndex := 5, descriptorIndex := 6, attributes := #[] }] 33 0 #[] #[])
  fields := #[]
  methods := #[k0m0]
  instanceTypes := #[]
  staticTypes := #[]
  resolved := Array.replicate 124 none
  statics := none }

def pool1 : Array CpInfo := pool [(2, .class_ 4), (1, u "java/lang/Object"), (0, u "<init>"), (0, u "()V"), (0, .integer 2147483647), (0, .methodref 9 10), (0, .class_ 11), (0, .nameAndType 12 13), (0, u "com/example/meander/meander/store/BlockWriter"), (0, u "mask"), (0, u "(I)J"), (0, .class_ 15), (0, u "com/example/meander/meander/store/BlockWriterMaskPinLaw"), (2, u "law"), (0, u "(II)Z")] 3

def k1m0 : Method := { name := "<init>", desc := "()V", sig := { parameters := [], returnType := none }, accessFlags := 2, code := none }
def k1c1 : Code := { maxStack := 4, maxLocals := 8, code := code, exceptionTable := #[], attributes := #[] }
def k1m1 : Method := { name := "law", desc := "(II)Z", sig := { parameters := [.int, .int], returnType := some .boolean }, accessFlags := 9, code := some k1c1 }
/-- com/example/meander/meander/store/BlockWriterMaskPinLaw -/
def k1 : Class := { plain "com/example/meander/meander/store/BlockWriterMaskPinLaw" (some 0) with
  accessFlags := 49
  interfaces := #[]
  cf := some (fileOf pool1 14 #[] #[{ accessFlags := 2, nameIndex := 5, descriptorIndex := 6, attributes := #[] }, { accessFlags := 9, nameIndex := 18, descriptorIndex := 19, attributes := #[] }] 49 2 #[] #[])
  fields := #[]
  methods := #[k1m0, k1m1]
  instanceTypes := #[]
  staticTypes := #[]
  resolved := Array.replicate 23 none
  statics := none }

def pool2 : Array CpInfo := pool [(2, .class_ 4), (1, u "java/lang/Object"), (0, u "<init>"), (0, u "()V"), (1, .class_ 10), (1, u "com/example/meander/meander/store/BlockWriter"), (0, u "bytes"), (0, u "[B"), (2, u "length"), (0, u "I"), (35, u "mask"), (0, u "(I)J"), (2, u "LONGS"), (0, u "Ljava/lang/invoke/VarHandle;"), (26, .long 18446744073709551615)] 44

def k2m0 : Method := { name := "<init>", desc := "()V", sig := { parameters := [], returnType := none }, accessFlags := 0, code := none }
def k2c1 : Code := { maxStack := 4, maxLocals := 1, code := prog_21_method_15_code, exceptionTable := #[], attributes := #[] }
def k2m1 : Method := { name := "mask", desc := "(I)J", sig := { parameters := [.int], returnType := some .long }, accessFlags := 8, code := some k2c1 }
/-- com/example/meander/meander/store/BlockWriter -/
def k2 : Class := { plain "com/example/meander/meander/store/BlockWriter" (some 0) with
  accessFlags := 48
  interfaces := #[]
  cf := some (fileOf pool2 8 #[] #[{ accessFlags := 0, nameIndex := 5, descriptorIndex := 6, attributes := #[] }, { accessFlags := 8, nameIndex := 52, descriptorIndex := 53, attributes := #[] }] 48 2 #[] #[{ accessFlags := 26, nameIndex := 56, descriptorIndex := 57, attributes := #[] }, { accessFlags := 2, nameIndex := 11, descriptorIndex := 12, attributes := #[] }, { accessFlags := 2, nameIndex := 15, descriptorIndex := 16, attributes := #[] }])
  fields := #[{ name := "LONGS", type := (.object "java/lang/invoke/VarHandle"), accessFlags := 26, slot := 0, constantValue := 0 }, { name := "bytes", type := (.array .byte), accessFlags := 2, slot := 0, constantValue := 0 }, { name := "length", type := .int, accessFlags := 2, slot := 1, constantValue := 0 }]
  methods := #[k2m0, k2m1]
  instanceTypes := #[(.array .byte), .int]
  staticTypes := #[(.object "java/lang/invoke/VarHandle")]
  resolved := Array.replicate 129 none
  statics := none }

def pool3 : Array CpInfo := pool [(1, u "java/lang/Cloneable"), (0, .class_ 1), (0, u "java/lang/Object"), (0, .class_ 3)] 3

/-- java/lang/Cloneable -/
def k3 : Class := { plain "java/lang/Cloneable" (some 0) with
  accessFlags := 1537
  interfaces := #[]
  cf := some (fileOf pool3 2 #[] #[] 1537 4 #[] #[])
  fields := #[]
  methods := #[]
  instanceTypes := #[]
  staticTypes := #[]
  resolved := Array.replicate 8 none
  statics := none }

def pool4 : Array CpInfo := pool [(1, u "java/io/Serializable"), (0, .class_ 1), (0, u "java/lang/Object"), (0, .class_ 3)] 3

/-- java/io/Serializable -/
def k4 : Class := { plain "java/io/Serializable" (some 0) with
  accessFlags := 1537
  interfaces := #[]
  cf := some (fileOf pool4 2 #[] #[] 1537 4 #[] #[])
  fields := #[]
  methods := #[]
  instanceTypes := #[]
  staticTypes := #[]
  resolved := Array.replicate 8 none
  statics := none }

/-- the primitive byte -/
def k5 : Class := { plain "byte" none with kind := .primitive 'B', accessFlags := 0x411 }
/-- [B -/
def k6 : Class := { plain "[B" (some 0) with kind := .array 5 .byte, interfaces := #[3, 4], accessFlags := 1041 }

/-- the primitive int -/
def k7 : Class := { plain "int" none with kind := .primitive 'I', accessFlags := 0x411 }
/-- [I -/
def k8 : Class := { plain "[I" (some 0) with kind := .array 7 .int, interfaces := #[3, 4], accessFlags := 1041 }

def heap : Heap := #[]
def classes : Array Class := #[k0, k1, k2, k3, k4, k5, k6, k7, k8]
def interned : List (Array UInt16 × Addr) := []
def slotsUsed : Nat := 0
def theMethod : MethodId := ⟨1, 1⟩
def args0 : Array Value := #[.int 5, .int 6]
def aboutOver (below : List Frame) : State where
  vm := { classes := classes, interned := interned.toArray }
  heap := heap
  slotsUsed := slotsUsed
  threads := #[{ frames := .invoking theMethod args0 :: below }]
def below0 : List Frame := [.native { method := ⟨0, 0⟩, args := #[] }]
def about1 : State := aboutOver below0
def p0 : Program := .bare "" "" ""
def e0 : Env := launch0.env 0 0 0
theorem w_frames : about1.frames = Frame.invoking theMethod args0 :: below0 := rfl
set_option maxRecDepth 65536 in
theorem w_args : argsFit about1.vm theMethod args0 = true := by decide +kernel
set_option maxRecDepth 65536 in
theorem w_heap : heapFits about1 = true := by decide +kernel
set_option maxRecDepth 65536 in
theorem w_runnable : about1.curStatus? = some .runnable := by decide +kernel
set_option maxRecDepth 65536 in
theorem w_alone : about1.alone = true := by decide +kernel
set_option maxRecDepth 65536 in
theorem w_named : about1.methodNamed? x = some theMethod := by decide +kernel
set_option maxRecDepth 65536 in
theorem w_hears : about1.hears theMethod below0 = true := by decide +kernel
set_option maxRecDepth 65536 in
theorem w_ripe : about1.ripe theMethod args0 below0 = true := by decide +kernel
theorem w_running : about1.status = .running := rfl
set_option maxRecDepth 65536 in
theorem w_room : about1.hasRoom e0.platform room_1 = true :=
  launch0.hasRoom_least _ room_1 (by decide +kernel) (by decide +kernel) (by decide +kernel) (by decide +kernel) (by decide +kernel) (by decide +kernel)
theorem allAtoms_all (ts : List Jvm.Cond) (a : Array Jvm.Value) (st : Jvm.State) : (allAtoms ts).before a st = ts.all (fun c => c.before a st) := by
  induction ts with
  | nil => rfl
  | cons c t ih =>
    show (Jvm.Cond.and c (allAtoms t)).before a st = _
    rw [Jvm.Cond.before_and, ih, List.all_cons]
def words1 : List Jvm.Cond := Jvm.Cond.code x code maxLocals ret :: tables_1
/-- a 'code' word, met by the world's own term for the bytes: nothing is compared byte by byte -/
theorem code_word {y : MethodName} {bytes : ByteArray} {mx : Nat} {rt : Option FieldType} {a : Array Value} {s : State} {m : MethodId} {meth : Method} {c : Code} (h1 : s.methodNamed? y = some m) (h2 : s.vm.method? m = some meth) (h3 : meth.code = some c) (h4 : c.code = bytes)
    (h5 : (c.maxLocals == mx && c.exceptionTable.isEmpty && decide (c.maxStack ≤ mostOperands) && decide (meth.sig.returnType = rt) && !meth.locks && decide (parseMethodDescriptor y.desc = some meth.sig)) = true) : (Jvm.Cond.code y bytes mx rt).before a s = true := by
  simp only [Bool.and_eq_true, beq_iff_eq, Bool.not_eq_true', decide_eq_true_eq] at h5
  obtain ⟨⟨⟨⟨⟨g1, g2⟩, g3⟩, g4⟩, g5⟩, g6⟩ := h5
  simp [Cond.before, Cond.holds, Cond.value, h1, h2, h3, h4, g1, g2, g3, g4, g5, g6]
def isCode : Jvm.Cond → Bool
  | .code _ _ _ _ => true
  | _ => false
theorem all_split {L : List Jvm.Cond} {P : Jvm.Cond → Bool} (h1 : L.all (fun c => isCode c || P c) = true) (h2 : ∀ c ∈ L.filter isCode, P c = true) : L.all P = true := by
  refine List.all_eq_true.mpr fun c hc => ?_
  have h := List.all_eq_true.mp h1 c hc
  rcases Bool.eq_false_or_eq_true (isCode c) with hi | hi
  · exact h2 c (List.mem_filter.mpr ⟨hc, hi⟩)
  · simpa [hi] using h
set_option maxRecDepth 65536 in
theorem w_c0 : (Jvm.Cond.code x code maxLocals ret).before args0 about1 = true := code_word (m := ⟨1, 1⟩) (meth := k1m1) (c := k1c1) (by decide +kernel) rfl rfl rfl (by decide +kernel)
set_option maxRecDepth 65536 in
theorem w_c1 : (Jvm.Cond.code ({ cls := "com/example/meander/meander/store/BlockWriter", name := "mask", desc := "(I)J" } : Jvm.MethodName) prog_21_method_15_code (1 : Nat) (Option.some Jvm.ClassFile.FieldType.long)).before args0 about1 = true := code_word (m := ⟨2, 1⟩) (meth := k2m1) (c := k2c1) (by decide +kernel) rfl rfl rfl (by decide +kernel)
def codes1 : List Jvm.Cond := [Jvm.Cond.code x code maxLocals ret, Jvm.Cond.code ({ cls := "com/example/meander/meander/store/BlockWriter", name := "mask", desc := "(I)J" } : Jvm.MethodName) prog_21_method_15_code (1 : Nat) (Option.some Jvm.ClassFile.FieldType.long)]
set_option maxRecDepth 65536 in
theorem codes_eq : words1.filter isCode = codes1 := rfl
theorem w_codes : ∀ c ∈ words1.filter isCode, c.before args0 about1 = true := by
  rw [codes_eq]
  intro c hc
  simp only [codes1, List.mem_cons, List.not_mem_nil, or_false] at hc
  rcases hc with rfl | rfl
  · exact w_c0
  · exact w_c1
set_option maxRecDepth 65536 in
theorem w_t1 : words1.all (fun c => isCode c || c.before args0 about1) = true := by decide +kernel
theorem w_tables : (allAtoms (Jvm.Cond.code x code maxLocals ret :: tables_1)).before args0 about1 = true := by
  rw [allAtoms_all]
  show words1.all (fun c => c.before args0 about1) = true
  refine all_split ?_ w_codes
  rw [w_t1]
set_option maxRecDepth 65536 in
theorem w_case : (Jvm.Cond.and given_1 narrow_1).before args0 about1 = true := by decide +kernel
theorem w_applies : (headSpec (Jvm.Cond.code x code maxLocals ret :: tables_1) room_1).applies x e0.platform about1 = true :=
  (Spec.applies_iff w_frames).mpr ⟨w_running, w_runnable, w_alone, w_named, w_hears, w_ripe, w_room, w_tables⟩
theorem atStart : AtStart classFile x code maxLocals ret World_1 tables_1 room_1 Calls_1 rest_1 Pre_1 launch0 p0 e0 about1 theMethod args0 below0 :=
  ⟨lists_1, trivial, launch0.admits_env _ _ _, launch0.least_env, fairChoices_fair.cas, fairChoices_fair.clock, w_frames, w_args, w_heap, w_applies, trivial, trivial, w_case⟩
end start1
theorem witness_1 : WitnessClaimed_1 := ⟨start1.p0, start1.e0, start1.about1, start1.theMethod, start1.args0, start1.below0, start1.atStart⟩
end Jvm.Pilot.@@N@@
