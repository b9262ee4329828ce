import JvmDerived
import JvmDerived.Pilot.@@N@@Statement
import JvmDerived.Pilot.@@N@@Code
set_option linter.unusedVariables false
set_option linter.unusedSimpArgs false
namespace Jvm.Pilot.@@N@@
open Jvm Jvm.ClassFile Sem Op Lib Jvm.Free Jvm.Stand Jvm.LawKit Jvm.RoadKit Bundle Jvm.Pilot.@@N@@.Jvm.D
theorem own_ifc {P Q : Prop} [Decidable P] [Decidable Q] {α : Type} {a b : α} (h : P ↔ Q) : (if P then a else b) = if Q then a else b := by
  by_cases q : P
  · rw [if_pos q, if_pos (h.mp q)]
  · rw [if_neg q, if_neg (fun r => q (h.mpr r))]
theorem own_lc_eq {x y : Int64} (h : x = y) : ifCond.holds .eq (lcmpW x y) = true ∧ ifCond.holds .ne (lcmpW x y) = false := ⟨(if0 _ _).trans (teq ((lw_eq x y).mpr h)).1, (if0 _ _).trans (teq ((lw_eq x y).mpr h)).2⟩
theorem own_lc_ne {x y : Int64} (h : ¬ x = y) : ifCond.holds .eq (lcmpW x y) = false ∧ ifCond.holds .ne (lcmpW x y) = true := ⟨(if0 _ _).trans (feq (mt (lw_eq x y).mp h)).1, (if0 _ _).trans (feq (mt (lw_eq x y).mp h)).2⟩
theorem own_lc_lt {x y : Int64} (h : x < y) : ifCond.holds .lt (lcmpW x y) = true ∧ ifCond.holds .ge (lcmpW x y) = false := ⟨(if0 _ _).trans (tlt ((lw_lt x y).mpr h)).1, (if0 _ _).trans (tlt ((lw_lt x y).mpr h)).2.1⟩
theorem own_lc_nlt {x y : Int64} (h : ¬ x < y) : ifCond.holds .lt (lcmpW x y) = false ∧ ifCond.holds .ge (lcmpW x y) = true := ⟨(if0 _ _).trans (flt (mt (lw_lt x y).mp h)).1, (if0 _ _).trans (flt (mt (lw_lt x y).mp h)).2.1⟩
theorem own_lc_gt {x y : Int64} (h : y < x) : ifCond.holds .gt (lcmpW x y) = true ∧ ifCond.holds .le (lcmpW x y) = false := ⟨(if0 _ _).trans (tlt ((lw_gt x y).mpr h)).2.2.1, (if0 _ _).trans (tlt ((lw_gt x y).mpr h)).2.2.2⟩
theorem own_lc_ngt {x y : Int64} (h : ¬ y < x) : ifCond.holds .gt (lcmpW x y) = false ∧ ifCond.holds .le (lcmpW x y) = true := ⟨(if0 _ _).trans (flt (mt (lw_gt x y).mp h)).2.2.1, (if0 _ _).trans (flt (mt (lw_gt x y).mp h)).2.2.2⟩
theorem own_key : ∀ i : Fin 256, decide (¬ ((Int32.ofInt (i.val : Int) ||| (32 : Int32)) - (97 : Int32)) < (0 : Int32) ∧ ((Int32.ofInt (i.val : Int) ||| (32 : Int32)) - (97 : Int32)) < (26 : Int32)) = decide ((¬ Int32.ofInt (i.val : Int) < (97 : Int32) ∧ ¬ (122 : Int32) < Int32.ofInt (i.val : Int)) ∨ (¬ Int32.ofInt (i.val : Int) < (65 : Int32) ∧ ¬ (90 : Int32) < Int32.ofInt (i.val : Int))) := by decide +kernel
theorem own_letter (c : Int32) (h1 : 0 ≤ c.toInt) (h2 : c.toInt < 65536) : (¬ ((c ||| (32 : Int32)) - (97 : Int32)) < (0 : Int32) ∧ ((c ||| (32 : Int32)) - (97 : Int32)) < (26 : Int32)) ↔ ((¬ c < (97 : Int32) ∧ ¬ (122 : Int32) < c) ∨ (¬ c < (65 : Int32) ∧ ¬ (90 : Int32) < c)) := by
  by_cases h : c.toInt < 256
  · have e1 : Int32.ofInt ((c.toInt.toNat : Nat) : Int) = c := by rw [Int.toNat_of_nonneg h1, Int32.ofInt_toInt]
    have k := own_key ⟨c.toInt.toNat, by omega⟩
    dsimp only at k
    rw [e1] at k
    exact decide_eq_decide.mp k
  · have g := (c_or0 c (32 : Int32) h1 (by decide)).1
    have r := rng32 (c ||| (32 : Int32))
    have s := c_isub (c ||| (32 : Int32)) (97 : Int32)
    have r2 := rng32 ((c ||| (32 : Int32)) - (97 : Int32))
    have e0 : (0 : Int32).toInt = 0 := by decide +kernel
    have e1 : (97 : Int32).toInt = 97 := by decide +kernel
    have e2 : (26 : Int32).toInt = 26 := by decide +kernel
    have e3 : (122 : Int32).toInt = 122 := by decide +kernel
    have e4 : (65 : Int32).toInt = 65 := by decide +kernel
    have e5 : (90 : Int32).toInt = 90 := by decide +kernel
    rw [e1] at s
    simp only [Int32.lt_iff_toInt_lt, e0, e1, e2, e3, e4, e5]
    omega
theorem own_digit (c : Int32) (h1 : 0 ≤ c.toInt) (h2 : c.toInt < 65536) : (¬ (c - (48 : Int32)) < (0 : Int32) ∧ (c - (48 : Int32)) < (10 : Int32)) ↔ (¬ c < (48 : Int32) ∧ ¬ (57 : Int32) < c) := by
  have s := c_isub c (48 : Int32)
  have r2 := rng32 (c - (48 : Int32))
  have e0 : (0 : Int32).toInt = 0 := by decide +kernel
  have e1 : (48 : Int32).toInt = 48 := by decide +kernel
  have e2 : (10 : Int32).toInt = 10 := by decide +kernel
  have e3 : (57 : Int32).toInt = 57 := by decide +kernel
  rw [e1] at s
  simp only [Int32.lt_iff_toInt_lt, e0, e1, e2, e3]
  omega
theorem own_one (P : Prop) [Decidable P] : (¬ (if P then (1 : Int32) else 0) = (0 : Int32)) ↔ P := by
  by_cases h : P
  · rw [if_pos h]; exact ⟨fun _ => h, fun _ => by decide⟩
  · rw [if_neg h]; exact ⟨fun q => absurd rfl q, fun q => absurd q h⟩
theorem own_all (c : Int32) (h1 : 0 ≤ c.toInt) (h2 : c.toInt < 65536) : ((¬ c < (97 : Int32) ∧ ¬ (122 : Int32) < c) ∨ (¬ c < (65 : Int32) ∧ ¬ (90 : Int32) < c) ∨ (¬ c < (48 : Int32) ∧ ¬ (57 : Int32) < c) ∨ c = (45 : Int32) ∨ c = (95 : Int32) ∨ c = (46 : Int32)) ↔ (¬ (if ¬ ((c ||| (32 : Int32)) - (97 : Int32)) < (0 : Int32) ∧ ((c ||| (32 : Int32)) - (97 : Int32)) < (26 : Int32) then (1 : Int32) else 0) = (0 : Int32) ∨ ¬ (if ¬ (c - (48 : Int32)) < (0 : Int32) ∧ (c - (48 : Int32)) < (10 : Int32) then (1 : Int32) else 0) = (0 : Int32) ∨ ¬ (if c = (45 : Int32) ∨ c = (95 : Int32) ∨ c = (46 : Int32) then (1 : Int32) else 0) = (0 : Int32)) := by
  rw [own_one, own_one, own_one, own_letter c h1 h2, own_digit c h1 h2, or_assoc]
theorem d1_0 : decode prog_66_method_4_code 0 = .ok (.iload_n 0, 1) := by decide +kernel
theorem d1_1 : decode prog_66_method_4_code 1 = .ok (.bipush 97, 2) := by decide +kernel
theorem d1_3 : decode prog_66_method_4_code 3 = .ok (.if_icmp .lt 9, 3) := by decide +kernel
theorem d1_6 : decode prog_66_method_4_code 6 = .ok (.iload_n 0, 1) := by decide +kernel
theorem d1_7 : decode prog_66_method_4_code 7 = .ok (.bipush 122, 2) := by decide +kernel
theorem d1_9 : decode prog_66_method_4_code 9 = .ok (.if_icmp .le 45, 3) := by decide +kernel
theorem d1_12 : decode prog_66_method_4_code 12 = .ok (.iload_n 0, 1) := by decide +kernel
theorem d1_13 : decode prog_66_method_4_code 13 = .ok (.bipush 65, 2) := by decide +kernel
theorem d1_15 : decode prog_66_method_4_code 15 = .ok (.if_icmp .lt 9, 3) := by decide +kernel
theorem d1_18 : decode prog_66_method_4_code 18 = .ok (.iload_n 0, 1) := by decide +kernel
theorem d1_19 : decode prog_66_method_4_code 19 = .ok (.bipush 90, 2) := by decide +kernel
theorem d1_21 : decode prog_66_method_4_code 21 = .ok (.if_icmp .le 33, 3) := by decide +kernel
theorem d1_24 : decode prog_66_method_4_code 24 = .ok (.iload_n 0, 1) := by decide +kernel
theorem d1_25 : decode prog_66_method_4_code 25 = .ok (.bipush 48, 2) := by decide +kernel
theorem d1_27 : decode prog_66_method_4_code 27 = .ok (.if_icmp .lt 9, 3) := by decide +kernel
theorem d1_30 : decode prog_66_method_4_code 30 = .ok (.iload_n 0, 1) := by decide +kernel
theorem d1_31 : decode prog_66_method_4_code 31 = .ok (.bipush 57, 2) := by decide +kernel
theorem d1_33 : decode prog_66_method_4_code 33 = .ok (.if_icmp .le 21, 3) := by decide +kernel
theorem d1_36 : decode prog_66_method_4_code 36 = .ok (.iload_n 0, 1) := by decide +kernel
theorem d1_37 : decode prog_66_method_4_code 37 = .ok (.bipush 45, 2) := by decide +kernel
theorem d1_39 : decode prog_66_method_4_code 39 = .ok (.if_icmp .eq 15, 3) := by decide +kernel
theorem d1_42 : decode prog_66_method_4_code 42 = .ok (.iload_n 0, 1) := by decide +kernel
theorem d1_43 : decode prog_66_method_4_code 43 = .ok (.bipush 95, 2) := by decide +kernel
theorem d1_45 : decode prog_66_method_4_code 45 = .ok (.if_icmp .eq 9, 3) := by decide +kernel
theorem d1_48 : decode prog_66_method_4_code 48 = .ok (.iload_n 0, 1) := by decide +kernel
theorem d1_49 : decode prog_66_method_4_code 49 = .ok (.bipush 46, 2) := by decide +kernel
theorem d1_51 : decode prog_66_method_4_code 51 = .ok (.if_icmp .ne 7, 3) := by decide +kernel
theorem d1_54 : decode prog_66_method_4_code 54 = .ok (.iconst 1, 1) := by decide +kernel
theorem d1_55 : decode prog_66_method_4_code 55 = .ok (.goto 4, 3) := by decide +kernel
theorem d1_58 : decode prog_66_method_4_code 58 = .ok (.iconst 0, 1) := by decide +kernel
theorem d1_59 : decode prog_66_method_4_code 59 = .ok (.ireturn, 1) := by decide +kernel
theorem pn_1 : plainName "com/example/cardea/cardea/text/Names" = true := by first | (simp [plainName, overriddenIn]; done) | decide +kernel
theorem ef_1 (m : MethodId) (x0 : Int32) : entryFrame m #[(.int x0)] 1 = mkF m 0 #[.val (.int x0)] [] := by first | (simp [entryFrame, mkF, argsToLocals, Value.category]; done) | rfl
def Q1 (Z : State) (p1 : Int32) (h0 : Heap) (n0 : Nat) (v : Option Value) (h : Heap) (L : List Loc) : Prop := (∃ z : Int32, v = some (.int z) ∧ z = if (¬ p1 < (97 : Int32) ∧ ¬ (122 : Int32) < p1) ∨ (¬ p1 < (65 : Int32) ∧ ¬ (90 : Int32) < p1) ∨ (¬ p1 < (48 : Int32) ∧ ¬ (57 : Int32) < p1) ∨ p1 = (45 : Int32) ∨ p1 = (95 : Int32) ∨ p1 = (46 : Int32) then (1 : Int32) else 0) ∧ Fr n0 L ∧ h = h0
set_option maxRecDepth 65536 in
set_option maxHeartbeats 40000000 in
theorem rm1 (l : Launch) (Z : State) (a0 : Array Value) (hw : ∀ d ∈ tables_1, d.before a0 Z = true) (ws : List Jvm.Cond) (p1 : Int32) (h0 : Heap) (n0 : Nat) (Z0 : n0 ≤ h0.size) :
    MetFree l (⟨"com/example/cardea/cardea/text/Names", "isNameChar", "(C)Z"⟩ : MethodName) (head1 (Jvm.Cond.code (⟨"com/example/cardea/cardea/text/Names", "isNameChar", "(C)Z"⟩ : MethodName) prog_66_method_4_code 1 (some .boolean) :: ws) ({ frames := 0, cells := 0, slots := 0, locals := 0 } : Room)) (fun a U => a = #[(.int p1)] ∧ Z.Warmed39 U.vm ∧ U.heap = h0) (fun _ _ _ _ _ => True) (fun _ U o U' => ∃ v L, o = .returned v ∧ Q1 Z p1 h0 n0 v U'.heap L ∧ FrameEnd U o U' L ({ frames := 0, cells := 0, slots := 0, locals := 0 } : Room).cells ({ frames := 0, cells := 0, slots := 0, locals := 0 } : Room).slots) := by
  refine MetFree.of_bodySF (plainFor_of_name pn_1) hisR ?_
  intro p e s m args below meth c s₁ Bd hml0 hP hK
  obtain ⟨rfl, hZ, hh⟩ := hP
  have hx := Bd.exec
  have hby := Bd.bytes
  have hml : c.maxLocals = 1 := hml0
  have hown : s.vm.findClass "com/example/cardea/cardea/text/Names" = some m.cls := findClass_of_methodNamed Bd.named
  have hnm := (name_of_methodNamed Bd.named Bd.method).1
  have X0 : Stand p l e ({ frames := 0, cells := 0, slots := 0, locals := 0 } : Room) s m #[(.int p1)] below meth c s₁ [] 0 0 := Stand.of_body Bd
  have e0 : s₁.heap = h0 := by rw [← hh, Bd.state]; rfl
  have N0 := Fr.nil n0
  have pre0 : ∀ t, Steps p.tables e below (s₁.setTop (mkF m 0 #[.val (.int p1)] [])) t → Steps p.tables e below (s₁.setTop (entryFrame m #[(.int p1)] 1)) t := fun t k => castTop (ef_1 m p1) k
  obtain ⟨fs, hr, hrun, hended, hW, hsame⟩ := X0.leave (v := some (.int (if (¬ p1 < (97 : Int32) ∧ ¬ (122 : Int32) < p1) ∨ (¬ p1 < (65 : Int32) ∧ ¬ (90 : Int32) < p1) ∨ (¬ p1 < (48 : Int32) ∧ ¬ (57 : Int32) < p1) ∨ p1 = (45 : Int32) ∨ p1 = (95 : Int32) ∨ p1 = (46 : Int32) then (1 : Int32) else 0))) (fun h => by rw [Bd.returns] at h; cases h)
  refine ⟨_, _, pre0 _ ?_, hrun, hended, _, _, rfl, ?_, ⟨_, rfl⟩, hW, hsame.mono (by decide) (by decide)⟩
  · have go54 : (if (¬ p1 < (97 : Int32) ∧ ¬ (122 : Int32) < p1) ∨ (¬ p1 < (65 : Int32) ∧ ¬ (90 : Int32) < p1) ∨ (¬ p1 < (48 : Int32) ∧ ¬ (57 : Int32) < p1) ∨ p1 = (45 : Int32) ∨ p1 = (95 : Int32) ∨ p1 = (46 : Int32) then (1 : Int32) else 0) = (1 : Int32) → Steps p.tables e below (s₁.setTop (mkF m 54 #[.val (.int p1)] [])) (s₁.setFrames fs) := by
      intro hz
      rw [hz] at hr
      show Steps p.tables e below (s₁.setTop (mkF m 54 #[.val (.int p1)] [])) _
      refine XS.iconst X0.here hx rfl (hb hby d1_54) ?_
      show Steps p.tables e below (s₁.setTop (mkF m 55 #[.val (.int p1)] [(.int (1 : Int32))])) _
      refine XS.goto X0.here hx rfl (pc0 := 55) (pc' := 59) rfl (hb hby d1_55) (by decide) (by decide) ?_
      show Steps p.tables e below (s₁.setTop (mkF m 59 #[.val (.int p1)] [(.int (1 : Int32))])) _
      exact retN X0 hx (t := .boolean) Bd.returns (by simp) (hb hby d1_59) hr
    have go58 : (if (¬ p1 < (97 : Int32) ∧ ¬ (122 : Int32) < p1) ∨ (¬ p1 < (65 : Int32) ∧ ¬ (90 : Int32) < p1) ∨ (¬ p1 < (48 : Int32) ∧ ¬ (57 : Int32) < p1) ∨ p1 = (45 : Int32) ∨ p1 = (95 : Int32) ∨ p1 = (46 : Int32) then (1 : Int32) else 0) = (0 : Int32) → Steps p.tables e below (s₁.setTop (mkF m 58 #[.val (.int p1)] [])) (s₁.setFrames fs) := by
      intro hz
      rw [hz] at hr
      show Steps p.tables e below (s₁.setTop (mkF m 58 #[.val (.int p1)] [])) _
      refine XS.iconst X0.here hx rfl (hb hby d1_58) ?_
      show Steps p.tables e below (s₁.setTop (mkF m 59 #[.val (.int p1)] [(.int (0 : Int32))])) _
      exact retN X0 hx (t := .boolean) Bd.returns (by simp) (hb hby d1_59) hr
    by_cases g1 : ¬ p1 < (97 : Int32) ∧ ¬ (122 : Int32) < p1
    · show Steps p.tables e below (s₁.setTop (mkF m 0 #[.val (.int p1)] [])) _
      refine XS.iloadN X0.here hx rfl (hb hby d1_0) rfl ?_
      show Steps p.tables e below (s₁.setTop (mkF m 1 #[.val (.int p1)] [(.int p1)])) _
      refine XS.bipush X0.here hx rfl (hb hby d1_1) ?_
      show Steps p.tables e below (s₁.setTop (mkF m 3 #[.val (.int p1)] [(.int (97 : Int32)), (.int p1)])) _
      refine XS.icmpNo X0.here hx rfl (hb hby d1_3) rfl (flt g1.1).1 ?_
      show Steps p.tables e below (s₁.setTop (mkF m 6 #[.val (.int p1)] [])) _
      refine XS.iloadN X0.here hx rfl (hb hby d1_6) rfl ?_
      show Steps p.tables e below (s₁.setTop (mkF m 7 #[.val (.int p1)] [(.int p1)])) _
      refine XS.bipush X0.here hx rfl (hb hby d1_7) ?_
      show Steps p.tables e below (s₁.setTop (mkF m 9 #[.val (.int p1)] [(.int (122 : Int32)), (.int p1)])) _
      refine XS.icmpYes X0.here hx rfl (pc0 := 9) (pc' := 54) rfl (hb hby d1_9) rfl (flt g1.2).2.2.2 (by decide) (by decide) ?_
      show Steps p.tables e below (s₁.setTop (mkF m 54 #[.val (.int p1)] [])) _
      exact go54 (if_pos (Or.inl (g1)))
    · have s12 : ∀ t, Steps p.tables e below (s₁.setTop (mkF m 12 #[.val (.int p1)] [])) t → Steps p.tables e below (s₁.setTop (mkF m 0 #[.val (.int p1)] [])) t := by
        by_cases c3 : p1 < (97 : Int32)
        · intro t k
          show Steps p.tables e below (s₁.setTop (mkF m 0 #[.val (.int p1)] [])) _
          refine XS.iloadN X0.here hx rfl (hb hby d1_0) rfl ?_
          show Steps p.tables e below (s₁.setTop (mkF m 1 #[.val (.int p1)] [(.int p1)])) _
          refine XS.bipush X0.here hx rfl (hb hby d1_1) ?_
          show Steps p.tables e below (s₁.setTop (mkF m 3 #[.val (.int p1)] [(.int (97 : Int32)), (.int p1)])) _
          refine XS.icmpYes X0.here hx rfl (pc0 := 3) (pc' := 12) rfl (hb hby d1_3) rfl (tlt c3).1 (by decide) (by decide) ?_
          show Steps p.tables e below (s₁.setTop (mkF m 12 #[.val (.int p1)] [])) _
          exact k
        · by_cases c9 : (122 : Int32) < p1
          · intro t k
            show Steps p.tables e below (s₁.setTop (mkF m 0 #[.val (.int p1)] [])) _
            refine XS.iloadN X0.here hx rfl (hb hby d1_0) rfl ?_
            show Steps p.tables e below (s₁.setTop (mkF m 1 #[.val (.int p1)] [(.int p1)])) _
            refine XS.bipush X0.here hx rfl (hb hby d1_1) ?_
            show Steps p.tables e below (s₁.setTop (mkF m 3 #[.val (.int p1)] [(.int (97 : Int32)), (.int p1)])) _
            refine XS.icmpNo X0.here hx rfl (hb hby d1_3) rfl (flt c3).1 ?_
            show Steps p.tables e below (s₁.setTop (mkF m 6 #[.val (.int p1)] [])) _
            refine XS.iloadN X0.here hx rfl (hb hby d1_6) rfl ?_
            show Steps p.tables e below (s₁.setTop (mkF m 7 #[.val (.int p1)] [(.int p1)])) _
            refine XS.bipush X0.here hx rfl (hb hby d1_7) ?_
            show Steps p.tables e below (s₁.setTop (mkF m 9 #[.val (.int p1)] [(.int (122 : Int32)), (.int p1)])) _
            refine XS.icmpNo X0.here hx rfl (hb hby d1_9) rfl (tlt c9).2.2.2 ?_
            show Steps p.tables e below (s₁.setTop (mkF m 12 #[.val (.int p1)] [])) _
            exact k
          · exact absurd ⟨c3, c9⟩ g1
      refine s12 _ ?_
      by_cases g2 : ¬ p1 < (65 : Int32) ∧ ¬ (90 : Int32) < p1
      · show Steps p.tables e below (s₁.setTop (mkF m 12 #[.val (.int p1)] [])) _
        refine XS.iloadN X0.here hx rfl (hb hby d1_12) rfl ?_
        show Steps p.tables e below (s₁.setTop (mkF m 13 #[.val (.int p1)] [(.int p1)])) _
        refine XS.bipush X0.here hx rfl (hb hby d1_13) ?_
        show Steps p.tables e below (s₁.setTop (mkF m 15 #[.val (.int p1)] [(.int (65 : Int32)), (.int p1)])) _
        refine XS.icmpNo X0.here hx rfl (hb hby d1_15) rfl (flt g2.1).1 ?_
        show Steps p.tables e below (s₁.setTop (mkF m 18 #[.val (.int p1)] [])) _
        refine XS.iloadN X0.here hx rfl (hb hby d1_18) rfl ?_
        show Steps p.tables e below (s₁.setTop (mkF m 19 #[.val (.int p1)] [(.int p1)])) _
        refine XS.bipush X0.here hx rfl (hb hby d1_19) ?_
        show Steps p.tables e below (s₁.setTop (mkF m 21 #[.val (.int p1)] [(.int (90 : Int32)), (.int p1)])) _
        refine XS.icmpYes X0.here hx rfl (pc0 := 21) (pc' := 54) rfl (hb hby d1_21) rfl (flt g2.2).2.2.2 (by decide) (by decide) ?_
        show Steps p.tables e below (s₁.setTop (mkF m 54 #[.val (.int p1)] [])) _
        exact go54 (if_pos (Or.inr (Or.inl (g2))))
      · have s24 : ∀ t, Steps p.tables e below (s₁.setTop (mkF m 24 #[.val (.int p1)] [])) t → Steps p.tables e below (s₁.setTop (mkF m 12 #[.val (.int p1)] [])) t := by
          by_cases c15 : p1 < (65 : Int32)
          · intro t k
            show Steps p.tables e below (s₁.setTop (mkF m 12 #[.val (.int p1)] [])) _
            refine XS.iloadN X0.here hx rfl (hb hby d1_12) rfl ?_
            show Steps p.tables e below (s₁.setTop (mkF m 13 #[.val (.int p1)] [(.int p1)])) _
            refine XS.bipush X0.here hx rfl (hb hby d1_13) ?_
            show Steps p.tables e below (s₁.setTop (mkF m 15 #[.val (.int p1)] [(.int (65 : Int32)), (.int p1)])) _
            refine XS.icmpYes X0.here hx rfl (pc0 := 15) (pc' := 24) rfl (hb hby d1_15) rfl (tlt c15).1 (by decide) (by decide) ?_
            show Steps p.tables e below (s₁.setTop (mkF m 24 #[.val (.int p1)] [])) _
            exact k
          · by_cases c21 : (90 : Int32) < p1
            · intro t k
              show Steps p.tables e below (s₁.setTop (mkF m 12 #[.val (.int p1)] [])) _
              refine XS.iloadN X0.here hx rfl (hb hby d1_12) rfl ?_
              show Steps p.tables e below (s₁.setTop (mkF m 13 #[.val (.int p1)] [(.int p1)])) _
              refine XS.bipush X0.here hx rfl (hb hby d1_13) ?_
              show Steps p.tables e below (s₁.setTop (mkF m 15 #[.val (.int p1)] [(.int (65 : Int32)), (.int p1)])) _
              refine XS.icmpNo X0.here hx rfl (hb hby d1_15) rfl (flt c15).1 ?_
              show Steps p.tables e below (s₁.setTop (mkF m 18 #[.val (.int p1)] [])) _
              refine XS.iloadN X0.here hx rfl (hb hby d1_18) rfl ?_
              show Steps p.tables e below (s₁.setTop (mkF m 19 #[.val (.int p1)] [(.int p1)])) _
              refine XS.bipush X0.here hx rfl (hb hby d1_19) ?_
              show Steps p.tables e below (s₁.setTop (mkF m 21 #[.val (.int p1)] [(.int (90 : Int32)), (.int p1)])) _
              refine XS.icmpNo X0.here hx rfl (hb hby d1_21) rfl (tlt c21).2.2.2 ?_
              show Steps p.tables e below (s₁.setTop (mkF m 24 #[.val (.int p1)] [])) _
              exact k
            · exact absurd ⟨c15, c21⟩ g2
        refine s24 _ ?_
        by_cases g3 : ¬ p1 < (48 : Int32) ∧ ¬ (57 : Int32) < p1
        · show Steps p.tables e below (s₁.setTop (mkF m 24 #[.val (.int p1)] [])) _
          refine XS.iloadN X0.here hx rfl (hb hby d1_24) rfl ?_
          show Steps p.tables e below (s₁.setTop (mkF m 25 #[.val (.int p1)] [(.int p1)])) _
          refine XS.bipush X0.here hx rfl (hb hby d1_25) ?_
          show Steps p.tables e below (s₁.setTop (mkF m 27 #[.val (.int p1)] [(.int (48 : Int32)), (.int p1)])) _
          refine XS.icmpNo X0.here hx rfl (hb hby d1_27) rfl (flt g3.1).1 ?_
          show Steps p.tables e below (s₁.setTop (mkF m 30 #[.val (.int p1)] [])) _
          refine XS.iloadN X0.here hx rfl (hb hby d1_30) rfl ?_
          show Steps p.tables e below (s₁.setTop (mkF m 31 #[.val (.int p1)] [(.int p1)])) _
          refine XS.bipush X0.here hx rfl (hb hby d1_31) ?_
          show Steps p.tables e below (s₁.setTop (mkF m 33 #[.val (.int p1)] [(.int (57 : Int32)), (.int p1)])) _
          refine XS.icmpYes X0.here hx rfl (pc0 := 33) (pc' := 54) rfl (hb hby d1_33) rfl (flt g3.2).2.2.2 (by decide) (by decide) ?_
          show Steps p.tables e below (s₁.setTop (mkF m 54 #[.val (.int p1)] [])) _
          exact go54 (if_pos (Or.inr (Or.inr (Or.inl (g3)))))
        · have s36 : ∀ t, Steps p.tables e below (s₁.setTop (mkF m 36 #[.val (.int p1)] [])) t → Steps p.tables e below (s₁.setTop (mkF m 24 #[.val (.int p1)] [])) t := by
            by_cases c27 : p1 < (48 : Int32)
            · intro t k
              show Steps p.tables e below (s₁.setTop (mkF m 24 #[.val (.int p1)] [])) _
              refine XS.iloadN X0.here hx rfl (hb hby d1_24) rfl ?_
              show Steps p.tables e below (s₁.setTop (mkF m 25 #[.val (.int p1)] [(.int p1)])) _
              refine XS.bipush X0.here hx rfl (hb hby d1_25) ?_
              show Steps p.tables e below (s₁.setTop (mkF m 27 #[.val (.int p1)] [(.int (48 : Int32)), (.int p1)])) _
              refine XS.icmpYes X0.here hx rfl (pc0 := 27) (pc' := 36) rfl (hb hby d1_27) rfl (tlt c27).1 (by decide) (by decide) ?_
              show Steps p.tables e below (s₁.setTop (mkF m 36 #[.val (.int p1)] [])) _
              exact k
            · by_cases c33 : (57 : Int32) < p1
              · intro t k
                show Steps p.tables e below (s₁.setTop (mkF m 24 #[.val (.int p1)] [])) _
                refine XS.iloadN X0.here hx rfl (hb hby d1_24) rfl ?_
                show Steps p.tables e below (s₁.setTop (mkF m 25 #[.val (.int p1)] [(.int p1)])) _
                refine XS.bipush X0.here hx rfl (hb hby d1_25) ?_
                show Steps p.tables e below (s₁.setTop (mkF m 27 #[.val (.int p1)] [(.int (48 : Int32)), (.int p1)])) _
                refine XS.icmpNo X0.here hx rfl (hb hby d1_27) rfl (flt c27).1 ?_
                show Steps p.tables e below (s₁.setTop (mkF m 30 #[.val (.int p1)] [])) _
                refine XS.iloadN X0.here hx rfl (hb hby d1_30) rfl ?_
                show Steps p.tables e below (s₁.setTop (mkF m 31 #[.val (.int p1)] [(.int p1)])) _
                refine XS.bipush X0.here hx rfl (hb hby d1_31) ?_
                show Steps p.tables e below (s₁.setTop (mkF m 33 #[.val (.int p1)] [(.int (57 : Int32)), (.int p1)])) _
                refine XS.icmpNo X0.here hx rfl (hb hby d1_33) rfl (tlt c33).2.2.2 ?_
                show Steps p.tables e below (s₁.setTop (mkF m 36 #[.val (.int p1)] [])) _
                exact k
              · exact absurd ⟨c27, c33⟩ g3
          refine s36 _ ?_
          by_cases g4 : p1 = (45 : Int32)
          · show Steps p.tables e below (s₁.setTop (mkF m 36 #[.val (.int p1)] [])) _
            refine XS.iloadN X0.here hx rfl (hb hby d1_36) rfl ?_
            show Steps p.tables e below (s₁.setTop (mkF m 37 #[.val (.int p1)] [(.int p1)])) _
            refine XS.bipush X0.here hx rfl (hb hby d1_37) ?_
            show Steps p.tables e below (s₁.setTop (mkF m 39 #[.val (.int p1)] [(.int (45 : Int32)), (.int p1)])) _
            refine XS.icmpYes X0.here hx rfl (pc0 := 39) (pc' := 54) rfl (hb hby d1_39) rfl (teq g4).1 (by decide) (by decide) ?_
            show Steps p.tables e below (s₁.setTop (mkF m 54 #[.val (.int p1)] [])) _
            exact go54 (if_pos (Or.inr (Or.inr (Or.inr (Or.inl (g4))))))
          · show Steps p.tables e below (s₁.setTop (mkF m 36 #[.val (.int p1)] [])) _
            refine XS.iloadN X0.here hx rfl (hb hby d1_36) rfl ?_
            show Steps p.tables e below (s₁.setTop (mkF m 37 #[.val (.int p1)] [(.int p1)])) _
            refine XS.bipush X0.here hx rfl (hb hby d1_37) ?_
            show Steps p.tables e below (s₁.setTop (mkF m 39 #[.val (.int p1)] [(.int (45 : Int32)), (.int p1)])) _
            refine XS.icmpNo X0.here hx rfl (hb hby d1_39) rfl (feq g4).1 ?_
            show Steps p.tables e below (s₁.setTop (mkF m 42 #[.val (.int p1)] [])) _
            by_cases g5 : p1 = (95 : Int32)
            · show Steps p.tables e below (s₁.setTop (mkF m 42 #[.val (.int p1)] [])) _
              refine XS.iloadN X0.here hx rfl (hb hby d1_42) rfl ?_
              show Steps p.tables e below (s₁.setTop (mkF m 43 #[.val (.int p1)] [(.int p1)])) _
              refine XS.bipush X0.here hx rfl (hb hby d1_43) ?_
              show Steps p.tables e below (s₁.setTop (mkF m 45 #[.val (.int p1)] [(.int (95 : Int32)), (.int p1)])) _
              refine XS.icmpYes X0.here hx rfl (pc0 := 45) (pc' := 54) rfl (hb hby d1_45) rfl (teq g5).1 (by decide) (by decide) ?_
              show Steps p.tables e below (s₁.setTop (mkF m 54 #[.val (.int p1)] [])) _
              exact go54 (if_pos (Or.inr (Or.inr (Or.inr (Or.inr (Or.inl (g5)))))))
            · show Steps p.tables e below (s₁.setTop (mkF m 42 #[.val (.int p1)] [])) _
              refine XS.iloadN X0.here hx rfl (hb hby d1_42) rfl ?_
              show Steps p.tables e below (s₁.setTop (mkF m 43 #[.val (.int p1)] [(.int p1)])) _
              refine XS.bipush X0.here hx rfl (hb hby d1_43) ?_
              show Steps p.tables e below (s₁.setTop (mkF m 45 #[.val (.int p1)] [(.int (95 : Int32)), (.int p1)])) _
              refine XS.icmpNo X0.here hx rfl (hb hby d1_45) rfl (feq g5).1 ?_
              show Steps p.tables e below (s₁.setTop (mkF m 48 #[.val (.int p1)] [])) _
              by_cases g6 : p1 = (46 : Int32)
              · show Steps p.tables e below (s₁.setTop (mkF m 48 #[.val (.int p1)] [])) _
                refine XS.iloadN X0.here hx rfl (hb hby d1_48) rfl ?_
                show Steps p.tables e below (s₁.setTop (mkF m 49 #[.val (.int p1)] [(.int p1)])) _
                refine XS.bipush X0.here hx rfl (hb hby d1_49) ?_
                show Steps p.tables e below (s₁.setTop (mkF m 51 #[.val (.int p1)] [(.int (46 : Int32)), (.int p1)])) _
                refine XS.icmpNo X0.here hx rfl (hb hby d1_51) rfl (teq g6).2 ?_
                show Steps p.tables e below (s₁.setTop (mkF m 54 #[.val (.int p1)] [])) _
                exact go54 (if_pos (Or.inr (Or.inr (Or.inr (Or.inr (Or.inr (g6)))))))
              · show Steps p.tables e below (s₁.setTop (mkF m 48 #[.val (.int p1)] [])) _
                refine XS.iloadN X0.here hx rfl (hb hby d1_48) rfl ?_
                show Steps p.tables e below (s₁.setTop (mkF m 49 #[.val (.int p1)] [(.int p1)])) _
                refine XS.bipush X0.here hx rfl (hb hby d1_49) ?_
                show Steps p.tables e below (s₁.setTop (mkF m 51 #[.val (.int p1)] [(.int (46 : Int32)), (.int p1)])) _
                refine XS.icmpYes X0.here hx rfl (pc0 := 51) (pc' := 58) rfl (hb hby d1_51) rfl (feq g6).2 (by decide) (by decide) ?_
                show Steps p.tables e below (s₁.setTop (mkF m 58 #[.val (.int p1)] [])) _
                exact go58 (if_neg (fun q => q.elim g1 (fun q => q.elim g2 (fun q => q.elim g3 (fun q => q.elim g4 (fun q => q.elim g5 (g6)))))))
  · show Q1 Z p1 h0 n0 _ s₁.heap _
    rw [e0]
    exact ⟨⟨_, rfl, rfl⟩, N0, rfl⟩
theorem pd_1 : parseMethodDescriptor "(C)Z" = some ⟨[.char], some .boolean⟩ := by decide +kernel
theorem pn_0 : plainName "com/example/cardea/cardea/text/NamesIsNameCharPinLaw" = true := by first | (simp [plainName, overriddenIn]; done) | decide +kernel
theorem ef_0 (m : MethodId) (x0 : Int32) : entryFrame m #[(.int x0)] maxLocals = mkF m 0 #[.val (.int x0), .unset, .unset, .unset, .unset, .unset, .unset, .unset, .unset, .unset] [] := by first | (simp [entryFrame, mkF, argsToLocals, Value.category, maxLocals]; done) | rfl
def Q0 (Z : State) (p1 : Int32) (h0 : Heap) (n0 : Nat) (v : Option Value) (h : Heap) (L : List Loc) : Prop := v = some (.int 1) ∧ Fr n0 L
set_option maxRecDepth 65536 in
set_option maxHeartbeats 40000000 in
theorem rm0 (l : Launch) (Z : State) (a0 : Array Value) (hw : ∀ d ∈ tables_1, d.before a0 Z = true) (ws : List Jvm.Cond) (p1 : Int32) (h0 : Heap) (n0 : Nat) (Z0 : n0 ≤ h0.size) :
    MetFree l x (head1 (Jvm.Cond.code x code maxLocals ret :: ws) room_1) (fun a U => a = #[(.int p1)] ∧ Z.Warmed39 U.vm ∧ U.heap = h0) (fun _ _ _ _ _ => True) (fun _ U o U' => ∃ v L, o = .returned v ∧ Q0 Z p1 h0 n0 v U'.heap L ∧ FrameEnd U o U' L room_1.cells room_1.slots) := by
  refine MetFree.of_bodySF (plainFor_of_name pn_0) hisR ?_
  intro p e s m args below meth c s₁ Bd hml0 hP hK
  obtain ⟨rfl, hZ, hh⟩ := hP
  have hx := Bd.exec
  have hby := Bd.bytes
  have hml : c.maxLocals = 10 := hml0
  have hown : s.vm.findClass "com/example/cardea/cardea/text/NamesIsNameCharPinLaw" = some m.cls := findClass_of_methodNamed Bd.named
  have hnm := (name_of_methodNamed Bd.named Bd.method).1
  have X0 : Stand p l e room_1 s m #[(.int p1)] below meth c s₁ [] 0 0 := Stand.of_body Bd
  have e0 : s₁.heap = h0 := by rw [← hh, Bd.state]; rfl
  have N0 := Fr.nil n0
  have pre0 : ∀ t, Steps p.tables e below (s₁.setTop (mkF m 0 #[.val (.int p1), .unset, .unset, .unset, .unset, .unset, .unset, .unset, .unset, .unset] [])) t → Steps p.tables e below (s₁.setTop (entryFrame m #[(.int p1)] maxLocals)) t := fun t k => castTop (ef_0 m p1) k
  obtain ⟨ch, hsA, sA⟩ : ∃ (ch : Int32), (ch = (p1.toUInt32.toUInt16.toUInt32.toInt32)) ∧ ∀ t, Steps p.tables e below (s₁.setTop (mkF m 16 #[.val (.int p1), .val (.int ch), .val (.int ch), .val (.int (ch ||| (32 : Int32))), .val (.int ((ch ||| (32 : Int32)) - (97 : Int32))), .unset, .unset, .unset, .unset, .unset] [])) t → Steps p.tables e below (s₁.setTop (mkF m 0 #[.val (.int p1), .unset, .unset, .unset, .unset, .unset, .unset, .unset, .unset, .unset] [])) t := by
    refine ⟨(p1.toUInt32.toUInt16.toUInt32.toInt32), rfl, fun t k => ?_⟩
    show Steps p.tables e below (s₁.setTop (mkF m 0 #[.val (.int p1), .unset, .unset, .unset, .unset, .unset, .unset, .unset, .unset, .unset] [])) _
    refine XS.iloadN X0.here hx rfl (hb hby at_0) rfl ?_
    show Steps p.tables e below (s₁.setTop (mkF m 1 #[.val (.int p1), .unset, .unset, .unset, .unset, .unset, .unset, .unset, .unset, .unset] [(.int p1)])) _
    refine XS.i2c X0.here hx rfl (hb hby at_1) rfl ?_
    show Steps p.tables e below (s₁.setTop (mkF m 2 #[.val (.int p1), .unset, .unset, .unset, .unset, .unset, .unset, .unset, .unset, .unset] [(.int (p1.toUInt32.toUInt16.toUInt32.toInt32))])) _
    refine XS.istoreN X0.here hx rfl (hb hby at_2) rfl (l' := #[.val (.int p1), .val (.int (p1.toUInt32.toUInt16.toUInt32.toInt32)), .unset, .unset, .unset, .unset, .unset, .unset, .unset, .unset]) rfl ?_
    show Steps p.tables e below (s₁.setTop (mkF m 3 #[.val (.int p1), .val (.int (p1.toUInt32.toUInt16.toUInt32.toInt32)), .unset, .unset, .unset, .unset, .unset, .unset, .unset, .unset] [])) _
    refine XS.iloadN X0.here hx rfl (hb hby at_3) rfl ?_
    show Steps p.tables e below (s₁.setTop (mkF m 4 #[.val (.int p1), .val (.int (p1.toUInt32.toUInt16.toUInt32.toInt32)), .unset, .unset, .unset, .unset, .unset, .unset, .unset, .unset] [(.int (p1.toUInt32.toUInt16.toUInt32.toInt32))])) _
    refine XS.istoreN X0.here hx rfl (hb hby at_4) rfl (l' := #[.val (.int p1), .val (.int (p1.toUInt32.toUInt16.toUInt32.toInt32)), .val (.int (p1.toUInt32.toUInt16.toUInt32.toInt32)), .unset, .unset, .unset, .unset, .unset, .unset, .unset]) rfl ?_
    show Steps p.tables e below (s₁.setTop (mkF m 5 #[.val (.int p1), .val (.int (p1.toUInt32.toUInt16.toUInt32.toInt32)), .val (.int (p1.toUInt32.toUInt16.toUInt32.toInt32)), .unset, .unset, .unset, .unset, .unset, .unset, .unset] [])) _
    refine XS.iloadN X0.here hx rfl (hb hby at_5) rfl ?_
    show Steps p.tables e below (s₁.setTop (mkF m 6 #[.val (.int p1), .val (.int (p1.toUInt32.toUInt16.toUInt32.toInt32)), .val (.int (p1.toUInt32.toUInt16.toUInt32.toInt32)), .unset, .unset, .unset, .unset, .unset, .unset, .unset] [(.int (p1.toUInt32.toUInt16.toUInt32.toInt32))])) _
    refine XS.bipush X0.here hx rfl (hb hby at_6) ?_
    show Steps p.tables e below (s₁.setTop (mkF m 8 #[.val (.int p1), .val (.int (p1.toUInt32.toUInt16.toUInt32.toInt32)), .val (.int (p1.toUInt32.toUInt16.toUInt32.toInt32)), .unset, .unset, .unset, .unset, .unset, .unset, .unset] [(.int (32 : Int32)), (.int (p1.toUInt32.toUInt16.toUInt32.toInt32))])) _
    refine XS.ior X0.here hx rfl (hb hby at_8) rfl ?_
    show Steps p.tables e below (s₁.setTop (mkF m 9 #[.val (.int p1), .val (.int (p1.toUInt32.toUInt16.toUInt32.toInt32)), .val (.int (p1.toUInt32.toUInt16.toUInt32.toInt32)), .unset, .unset, .unset, .unset, .unset, .unset, .unset] [(.int ((p1.toUInt32.toUInt16.toUInt32.toInt32) ||| (32 : Int32)))])) _
    refine XS.istoreN X0.here hx rfl (hb hby at_9) rfl (l' := #[.val (.int p1), .val (.int (p1.toUInt32.toUInt16.toUInt32.toInt32)), .val (.int (p1.toUInt32.toUInt16.toUInt32.toInt32)), .val (.int ((p1.toUInt32.toUInt16.toUInt32.toInt32) ||| (32 : Int32))), .unset, .unset, .unset, .unset, .unset, .unset]) rfl ?_
    show Steps p.tables e below (s₁.setTop (mkF m 10 #[.val (.int p1), .val (.int (p1.toUInt32.toUInt16.toUInt32.toInt32)), .val (.int (p1.toUInt32.toUInt16.toUInt32.toInt32)), .val (.int ((p1.toUInt32.toUInt16.toUInt32.toInt32) ||| (32 : Int32))), .unset, .unset, .unset, .unset, .unset, .unset] [])) _
    refine XS.iloadN X0.here hx rfl (hb hby at_10) rfl ?_
    show Steps p.tables e below (s₁.setTop (mkF m 11 #[.val (.int p1), .val (.int (p1.toUInt32.toUInt16.toUInt32.toInt32)), .val (.int (p1.toUInt32.toUInt16.toUInt32.toInt32)), .val (.int ((p1.toUInt32.toUInt16.toUInt32.toInt32) ||| (32 : Int32))), .unset, .unset, .unset, .unset, .unset, .unset] [(.int ((p1.toUInt32.toUInt16.toUInt32.toInt32) ||| (32 : Int32)))])) _
    refine XS.bipush X0.here hx rfl (hb hby at_11) ?_
    show Steps p.tables e below (s₁.setTop (mkF m 13 #[.val (.int p1), .val (.int (p1.toUInt32.toUInt16.toUInt32.toInt32)), .val (.int (p1.toUInt32.toUInt16.toUInt32.toInt32)), .val (.int ((p1.toUInt32.toUInt16.toUInt32.toInt32) ||| (32 : Int32))), .unset, .unset, .unset, .unset, .unset, .unset] [(.int (97 : Int32)), (.int ((p1.toUInt32.toUInt16.toUInt32.toInt32) ||| (32 : Int32)))])) _
    refine XS.isub X0.here hx rfl (hb hby at_13) rfl ?_
    show Steps p.tables e below (s₁.setTop (mkF m 14 #[.val (.int p1), .val (.int (p1.toUInt32.toUInt16.toUInt32.toInt32)), .val (.int (p1.toUInt32.toUInt16.toUInt32.toInt32)), .val (.int ((p1.toUInt32.toUInt16.toUInt32.toInt32) ||| (32 : Int32))), .unset, .unset, .unset, .unset, .unset, .unset] [(.int (((p1.toUInt32.toUInt16.toUInt32.toInt32) ||| (32 : Int32)) - (97 : Int32)))])) _
    refine XS.istore X0.here hx rfl (hb hby at_14) rfl (l' := #[.val (.int p1), .val (.int (p1.toUInt32.toUInt16.toUInt32.toInt32)), .val (.int (p1.toUInt32.toUInt16.toUInt32.toInt32)), .val (.int ((p1.toUInt32.toUInt16.toUInt32.toInt32) ||| (32 : Int32))), .val (.int (((p1.toUInt32.toUInt16.toUInt32.toInt32) ||| (32 : Int32)) - (97 : Int32))), .unset, .unset, .unset, .unset, .unset]) rfl ?_
    show Steps p.tables e below (s₁.setTop (mkF m 16 #[.val (.int p1), .val (.int (p1.toUInt32.toUInt16.toUInt32.toInt32)), .val (.int (p1.toUInt32.toUInt16.toUInt32.toInt32)), .val (.int ((p1.toUInt32.toUInt16.toUInt32.toInt32) ||| (32 : Int32))), .val (.int (((p1.toUInt32.toUInt16.toUInt32.toInt32) ||| (32 : Int32)) - (97 : Int32))), .unset, .unset, .unset, .unset, .unset] [])) _
    exact k
  have hr1 : 0 ≤ ch.toInt ∧ ch.toInt < 65536 := by rw [hsA]; exact (c_i2c p1).2
  obtain ⟨vl, hsB, sB⟩ : ∃ (vl : Int32), (vl = if ¬ ((ch ||| (32 : Int32)) - (97 : Int32)) < (0 : Int32) ∧ ((ch ||| (32 : Int32)) - (97 : Int32)) < (26 : Int32) then (1 : Int32) else 0) ∧ ∀ t, Steps p.tables e below (s₁.setTop (mkF m 35 #[.val (.int p1), .val (.int ch), .val (.int ch), .val (.int (ch ||| (32 : Int32))), .val (.int ((ch ||| (32 : Int32)) - (97 : Int32))), .val (.int vl), .unset, .unset, .unset, .unset] [])) t → Steps p.tables e below (s₁.setTop (mkF m 16 #[.val (.int p1), .val (.int ch), .val (.int ch), .val (.int (ch ||| (32 : Int32))), .val (.int ((ch ||| (32 : Int32)) - (97 : Int32))), .unset, .unset, .unset, .unset, .unset] [])) t := by
    by_cases c18 : ((ch ||| (32 : Int32)) - (97 : Int32)) < (0 : Int32)
    · refine ⟨(0 : Int32), (if_neg (fun q => q.1 c18)).symm, fun t k => ?_⟩
      show Steps p.tables e below (s₁.setTop (mkF m 16 #[.val (.int p1), .val (.int ch), .val (.int ch), .val (.int (ch ||| (32 : Int32))), .val (.int ((ch ||| (32 : Int32)) - (97 : Int32))), .unset, .unset, .unset, .unset, .unset] [])) _
      refine XS.iload X0.here hx rfl (hb hby at_16) rfl ?_
      show Steps p.tables e below (s₁.setTop (mkF m 18 #[.val (.int p1), .val (.int ch), .val (.int ch), .val (.int (ch ||| (32 : Int32))), .val (.int ((ch ||| (32 : Int32)) - (97 : Int32))), .unset, .unset, .unset, .unset, .unset] [(.int ((ch ||| (32 : Int32)) - (97 : Int32)))])) _
      refine XS.ifYes X0.here hx rfl (pc0 := 18) (pc' := 32) rfl (hb hby at_18) rfl ((if0 _ _).trans (tlt c18).1) (by decide) (by decide) ?_
      show Steps p.tables e below (s₁.setTop (mkF m 32 #[.val (.int p1), .val (.int ch), .val (.int ch), .val (.int (ch ||| (32 : Int32))), .val (.int ((ch ||| (32 : Int32)) - (97 : Int32))), .unset, .unset, .unset, .unset, .unset] [])) _
      refine XS.iconst X0.here hx rfl (hb hby at_32) ?_
      show Steps p.tables e below (s₁.setTop (mkF m 33 #[.val (.int p1), .val (.int ch), .val (.int ch), .val (.int (ch ||| (32 : Int32))), .val (.int ((ch ||| (32 : Int32)) - (97 : Int32))), .unset, .unset, .unset, .unset, .unset] [(.int (0 : Int32))])) _
      refine XS.istore X0.here hx rfl (hb hby at_33) rfl (l' := #[.val (.int p1), .val (.int ch), .val (.int ch), .val (.int (ch ||| (32 : Int32))), .val (.int ((ch ||| (32 : Int32)) - (97 : Int32))), .val (.int (0 : Int32)), .unset, .unset, .unset, .unset]) rfl ?_
      show Steps p.tables e below (s₁.setTop (mkF m 35 #[.val (.int p1), .val (.int ch), .val (.int ch), .val (.int (ch ||| (32 : Int32))), .val (.int ((ch ||| (32 : Int32)) - (97 : Int32))), .val (.int (0 : Int32)), .unset, .unset, .unset, .unset] [])) _
      exact k
    · by_cases c25 : ((ch ||| (32 : Int32)) - (97 : Int32)) < (26 : Int32)
      · refine ⟨(1 : Int32), (if_pos ⟨c18, c25⟩).symm, fun t k => ?_⟩
        show Steps p.tables e below (s₁.setTop (mkF m 16 #[.val (.int p1), .val (.int ch), .val (.int ch), .val (.int (ch ||| (32 : Int32))), .val (.int ((ch ||| (32 : Int32)) - (97 : Int32))), .unset, .unset, .unset, .unset, .unset] [])) _
        refine XS.iload X0.here hx rfl (hb hby at_16) rfl ?_
        show Steps p.tables e below (s₁.setTop (mkF m 18 #[.val (.int p1), .val (.int ch), .val (.int ch), .val (.int (ch ||| (32 : Int32))), .val (.int ((ch ||| (32 : Int32)) - (97 : Int32))), .unset, .unset, .unset, .unset, .unset] [(.int ((ch ||| (32 : Int32)) - (97 : Int32)))])) _
        refine XS.ifNo X0.here hx rfl (hb hby at_18) rfl ((if0 _ _).trans (flt c18).1) ?_
        show Steps p.tables e below (s₁.setTop (mkF m 21 #[.val (.int p1), .val (.int ch), .val (.int ch), .val (.int (ch ||| (32 : Int32))), .val (.int ((ch ||| (32 : Int32)) - (97 : Int32))), .unset, .unset, .unset, .unset, .unset] [])) _
        refine XS.iload X0.here hx rfl (hb hby at_21) rfl ?_
        show Steps p.tables e below (s₁.setTop (mkF m 23 #[.val (.int p1), .val (.int ch), .val (.int ch), .val (.int (ch ||| (32 : Int32))), .val (.int ((ch ||| (32 : Int32)) - (97 : Int32))), .unset, .unset, .unset, .unset, .unset] [(.int ((ch ||| (32 : Int32)) - (97 : Int32)))])) _
        refine XS.bipush X0.here hx rfl (hb hby at_23) ?_
        show Steps p.tables e below (s₁.setTop (mkF m 25 #[.val (.int p1), .val (.int ch), .val (.int ch), .val (.int (ch ||| (32 : Int32))), .val (.int ((ch ||| (32 : Int32)) - (97 : Int32))), .unset, .unset, .unset, .unset, .unset] [(.int (26 : Int32)), (.int ((ch ||| (32 : Int32)) - (97 : Int32)))])) _
        refine XS.icmpNo X0.here hx rfl (hb hby at_25) rfl (tlt c25).2.1 ?_
        show Steps p.tables e below (s₁.setTop (mkF m 28 #[.val (.int p1), .val (.int ch), .val (.int ch), .val (.int (ch ||| (32 : Int32))), .val (.int ((ch ||| (32 : Int32)) - (97 : Int32))), .unset, .unset, .unset, .unset, .unset] [])) _
        refine XS.iconst X0.here hx rfl (hb hby at_28) ?_
        show Steps p.tables e below (s₁.setTop (mkF m 29 #[.val (.int p1), .val (.int ch), .val (.int ch), .val (.int (ch ||| (32 : Int32))), .val (.int ((ch ||| (32 : Int32)) - (97 : Int32))), .unset, .unset, .unset, .unset, .unset] [(.int (1 : Int32))])) _
        refine XS.goto X0.here hx rfl (pc0 := 29) (pc' := 33) rfl (hb hby at_29) (by decide) (by decide) ?_
        show Steps p.tables e below (s₁.setTop (mkF m 33 #[.val (.int p1), .val (.int ch), .val (.int ch), .val (.int (ch ||| (32 : Int32))), .val (.int ((ch ||| (32 : Int32)) - (97 : Int32))), .unset, .unset, .unset, .unset, .unset] [(.int (1 : Int32))])) _
        refine XS.istore X0.here hx rfl (hb hby at_33) rfl (l' := #[.val (.int p1), .val (.int ch), .val (.int ch), .val (.int (ch ||| (32 : Int32))), .val (.int ((ch ||| (32 : Int32)) - (97 : Int32))), .val (.int (1 : Int32)), .unset, .unset, .unset, .unset]) rfl ?_
        show Steps p.tables e below (s₁.setTop (mkF m 35 #[.val (.int p1), .val (.int ch), .val (.int ch), .val (.int (ch ||| (32 : Int32))), .val (.int ((ch ||| (32 : Int32)) - (97 : Int32))), .val (.int (1 : Int32)), .unset, .unset, .unset, .unset] [])) _
        exact k
      · refine ⟨(0 : Int32), (if_neg (fun q => c25 q.2)).symm, fun t k => ?_⟩
        show Steps p.tables e below (s₁.setTop (mkF m 16 #[.val (.int p1), .val (.int ch), .val (.int ch), .val (.int (ch ||| (32 : Int32))), .val (.int ((ch ||| (32 : Int32)) - (97 : Int32))), .unset, .unset, .unset, .unset, .unset] [])) _
        refine XS.iload X0.here hx rfl (hb hby at_16) rfl ?_
        show Steps p.tables e below (s₁.setTop (mkF m 18 #[.val (.int p1), .val (.int ch), .val (.int ch), .val (.int (ch ||| (32 : Int32))), .val (.int ((ch ||| (32 : Int32)) - (97 : Int32))), .unset, .unset, .unset, .unset, .unset] [(.int ((ch ||| (32 : Int32)) - (97 : Int32)))])) _
        refine XS.ifNo X0.here hx rfl (hb hby at_18) rfl ((if0 _ _).trans (flt c18).1) ?_
        show Steps p.tables e below (s₁.setTop (mkF m 21 #[.val (.int p1), .val (.int ch), .val (.int ch), .val (.int (ch ||| (32 : Int32))), .val (.int ((ch ||| (32 : Int32)) - (97 : Int32))), .unset, .unset, .unset, .unset, .unset] [])) _
        refine XS.iload X0.here hx rfl (hb hby at_21) rfl ?_
        show Steps p.tables e below (s₁.setTop (mkF m 23 #[.val (.int p1), .val (.int ch), .val (.int ch), .val (.int (ch ||| (32 : Int32))), .val (.int ((ch ||| (32 : Int32)) - (97 : Int32))), .unset, .unset, .unset, .unset, .unset] [(.int ((ch ||| (32 : Int32)) - (97 : Int32)))])) _
        refine XS.bipush X0.here hx rfl (hb hby at_23) ?_
        show Steps p.tables e below (s₁.setTop (mkF m 25 #[.val (.int p1), .val (.int ch), .val (.int ch), .val (.int (ch ||| (32 : Int32))), .val (.int ((ch ||| (32 : Int32)) - (97 : Int32))), .unset, .unset, .unset, .unset, .unset] [(.int (26 : Int32)), (.int ((ch ||| (32 : Int32)) - (97 : Int32)))])) _
        refine XS.icmpYes X0.here hx rfl (pc0 := 25) (pc' := 32) rfl (hb hby at_25) rfl (flt c25).2.1 (by decide) (by decide) ?_
        show Steps p.tables e below (s₁.setTop (mkF m 32 #[.val (.int p1), .val (.int ch), .val (.int ch), .val (.int (ch ||| (32 : Int32))), .val (.int ((ch ||| (32 : Int32)) - (97 : Int32))), .unset, .unset, .unset, .unset, .unset] [])) _
        refine XS.iconst X0.here hx rfl (hb hby at_32) ?_
        show Steps p.tables e below (s₁.setTop (mkF m 33 #[.val (.int p1), .val (.int ch), .val (.int ch), .val (.int (ch ||| (32 : Int32))), .val (.int ((ch ||| (32 : Int32)) - (97 : Int32))), .unset, .unset, .unset, .unset, .unset] [(.int (0 : Int32))])) _
        refine XS.istore X0.here hx rfl (hb hby at_33) rfl (l' := #[.val (.int p1), .val (.int ch), .val (.int ch), .val (.int (ch ||| (32 : Int32))), .val (.int ((ch ||| (32 : Int32)) - (97 : Int32))), .val (.int (0 : Int32)), .unset, .unset, .unset, .unset]) rfl ?_
        show Steps p.tables e below (s₁.setTop (mkF m 35 #[.val (.int p1), .val (.int ch), .val (.int ch), .val (.int (ch ||| (32 : Int32))), .val (.int ((ch ||| (32 : Int32)) - (97 : Int32))), .val (.int (0 : Int32)), .unset, .unset, .unset, .unset] [])) _
        exact k
  obtain ⟨vd, hsC, sC⟩ : ∃ (vd : Int32), (vd = if ¬ (ch - (48 : Int32)) < (0 : Int32) ∧ (ch - (48 : Int32)) < (10 : Int32) then (1 : Int32) else 0) ∧ ∀ t, Steps p.tables e below (s₁.setTop (mkF m 60 #[.val (.int p1), .val (.int ch), .val (.int ch), .val (.int (ch ||| (32 : Int32))), .val (.int ((ch ||| (32 : Int32)) - (97 : Int32))), .val (.int vl), .val (.int (ch - (48 : Int32))), .val (.int vd), .unset, .unset] [])) t → Steps p.tables e below (s₁.setTop (mkF m 35 #[.val (.int p1), .val (.int ch), .val (.int ch), .val (.int (ch ||| (32 : Int32))), .val (.int ((ch ||| (32 : Int32)) - (97 : Int32))), .val (.int vl), .unset, .unset, .unset, .unset] [])) t := by
    by_cases c43 : (ch - (48 : Int32)) < (0 : Int32)
    · refine ⟨(0 : Int32), (if_neg (fun q => q.1 c43)).symm, fun t k => ?_⟩
      show Steps p.tables e below (s₁.setTop (mkF m 35 #[.val (.int p1), .val (.int ch), .val (.int ch), .val (.int (ch ||| (32 : Int32))), .val (.int ((ch ||| (32 : Int32)) - (97 : Int32))), .val (.int vl), .unset, .unset, .unset, .unset] [])) _
      refine XS.iloadN X0.here hx rfl (hb hby at_35) rfl ?_
      show Steps p.tables e below (s₁.setTop (mkF m 36 #[.val (.int p1), .val (.int ch), .val (.int ch), .val (.int (ch ||| (32 : Int32))), .val (.int ((ch ||| (32 : Int32)) - (97 : Int32))), .val (.int vl), .unset, .unset, .unset, .unset] [(.int ch)])) _
      refine XS.bipush X0.here hx rfl (hb hby at_36) ?_
      show Steps p.tables e below (s₁.setTop (mkF m 38 #[.val (.int p1), .val (.int ch), .val (.int ch), .val (.int (ch ||| (32 : Int32))), .val (.int ((ch ||| (32 : Int32)) - (97 : Int32))), .val (.int vl), .unset, .unset, .unset, .unset] [(.int (48 : Int32)), (.int ch)])) _
      refine XS.isub X0.here hx rfl (hb hby at_38) rfl ?_
      show Steps p.tables e below (s₁.setTop (mkF m 39 #[.val (.int p1), .val (.int ch), .val (.int ch), .val (.int (ch ||| (32 : Int32))), .val (.int ((ch ||| (32 : Int32)) - (97 : Int32))), .val (.int vl), .unset, .unset, .unset, .unset] [(.int (ch - (48 : Int32)))])) _
      refine XS.istore X0.here hx rfl (hb hby at_39) rfl (l' := #[.val (.int p1), .val (.int ch), .val (.int ch), .val (.int (ch ||| (32 : Int32))), .val (.int ((ch ||| (32 : Int32)) - (97 : Int32))), .val (.int vl), .val (.int (ch - (48 : Int32))), .unset, .unset, .unset]) rfl ?_
      show Steps p.tables e below (s₁.setTop (mkF m 41 #[.val (.int p1), .val (.int ch), .val (.int ch), .val (.int (ch ||| (32 : Int32))), .val (.int ((ch ||| (32 : Int32)) - (97 : Int32))), .val (.int vl), .val (.int (ch - (48 : Int32))), .unset, .unset, .unset] [])) _
      refine XS.iload X0.here hx rfl (hb hby at_41) rfl ?_
      show Steps p.tables e below (s₁.setTop (mkF m 43 #[.val (.int p1), .val (.int ch), .val (.int ch), .val (.int (ch ||| (32 : Int32))), .val (.int ((ch ||| (32 : Int32)) - (97 : Int32))), .val (.int vl), .val (.int (ch - (48 : Int32))), .unset, .unset, .unset] [(.int (ch - (48 : Int32)))])) _
      refine XS.ifYes X0.here hx rfl (pc0 := 43) (pc' := 57) rfl (hb hby at_43) rfl ((if0 _ _).trans (tlt c43).1) (by decide) (by decide) ?_
      show Steps p.tables e below (s₁.setTop (mkF m 57 #[.val (.int p1), .val (.int ch), .val (.int ch), .val (.int (ch ||| (32 : Int32))), .val (.int ((ch ||| (32 : Int32)) - (97 : Int32))), .val (.int vl), .val (.int (ch - (48 : Int32))), .unset, .unset, .unset] [])) _
      refine XS.iconst X0.here hx rfl (hb hby at_57) ?_
      show Steps p.tables e below (s₁.setTop (mkF m 58 #[.val (.int p1), .val (.int ch), .val (.int ch), .val (.int (ch ||| (32 : Int32))), .val (.int ((ch ||| (32 : Int32)) - (97 : Int32))), .val (.int vl), .val (.int (ch - (48 : Int32))), .unset, .unset, .unset] [(.int (0 : Int32))])) _
      refine XS.istore X0.here hx rfl (hb hby at_58) rfl (l' := #[.val (.int p1), .val (.int ch), .val (.int ch), .val (.int (ch ||| (32 : Int32))), .val (.int ((ch ||| (32 : Int32)) - (97 : Int32))), .val (.int vl), .val (.int (ch - (48 : Int32))), .val (.int (0 : Int32)), .unset, .unset]) rfl ?_
      show Steps p.tables e below (s₁.setTop (mkF m 60 #[.val (.int p1), .val (.int ch), .val (.int ch), .val (.int (ch ||| (32 : Int32))), .val (.int ((ch ||| (32 : Int32)) - (97 : Int32))), .val (.int vl), .val (.int (ch - (48 : Int32))), .val (.int (0 : Int32)), .unset, .unset] [])) _
      exact k
    · by_cases c50 : (ch - (48 : Int32)) < (10 : Int32)
      · refine ⟨(1 : Int32), (if_pos ⟨c43, c50⟩).symm, fun t k => ?_⟩
        show Steps p.tables e below (s₁.setTop (mkF m 35 #[.val (.int p1), .val (.int ch), .val (.int ch), .val (.int (ch ||| (32 : Int32))), .val (.int ((ch ||| (32 : Int32)) - (97 : Int32))), .val (.int vl), .unset, .unset, .unset, .unset] [])) _
        refine XS.iloadN X0.here hx rfl (hb hby at_35) rfl ?_
        show Steps p.tables e below (s₁.setTop (mkF m 36 #[.val (.int p1), .val (.int ch), .val (.int ch), .val (.int (ch ||| (32 : Int32))), .val (.int ((ch ||| (32 : Int32)) - (97 : Int32))), .val (.int vl), .unset, .unset, .unset, .unset] [(.int ch)])) _
        refine XS.bipush X0.here hx rfl (hb hby at_36) ?_
        show Steps p.tables e below (s₁.setTop (mkF m 38 #[.val (.int p1), .val (.int ch), .val (.int ch), .val (.int (ch ||| (32 : Int32))), .val (.int ((ch ||| (32 : Int32)) - (97 : Int32))), .val (.int vl), .unset, .unset, .unset, .unset] [(.int (48 : Int32)), (.int ch)])) _
        refine XS.isub X0.here hx rfl (hb hby at_38) rfl ?_
        show Steps p.tables e below (s₁.setTop (mkF m 39 #[.val (.int p1), .val (.int ch), .val (.int ch), .val (.int (ch ||| (32 : Int32))), .val (.int ((ch ||| (32 : Int32)) - (97 : Int32))), .val (.int vl), .unset, .unset, .unset, .unset] [(.int (ch - (48 : Int32)))])) _
        refine XS.istore X0.here hx rfl (hb hby at_39) rfl (l' := #[.val (.int p1), .val (.int ch), .val (.int ch), .val (.int (ch ||| (32 : Int32))), .val (.int ((ch ||| (32 : Int32)) - (97 : Int32))), .val (.int vl), .val (.int (ch - (48 : Int32))), .unset, .unset, .unset]) rfl ?_
        show Steps p.tables e below (s₁.setTop (mkF m 41 #[.val (.int p1), .val (.int ch), .val (.int ch), .val (.int (ch ||| (32 : Int32))), .val (.int ((ch ||| (32 : Int32)) - (97 : Int32))), .val (.int vl), .val (.int (ch - (48 : Int32))), .unset, .unset, .unset] [])) _
        refine XS.iload X0.here hx rfl (hb hby at_41) rfl ?_
        show Steps p.tables e below (s₁.setTop (mkF m 43 #[.val (.int p1), .val (.int ch), .val (.int ch), .val (.int (ch ||| (32 : Int32))), .val (.int ((ch ||| (32 : Int32)) - (97 : Int32))), .val (.int vl), .val (.int (ch - (48 : Int32))), .unset, .unset, .unset] [(.int (ch - (48 : Int32)))])) _
        refine XS.ifNo X0.here hx rfl (hb hby at_43) rfl ((if0 _ _).trans (flt c43).1) ?_
        show Steps p.tables e below (s₁.setTop (mkF m 46 #[.val (.int p1), .val (.int ch), .val (.int ch), .val (.int (ch ||| (32 : Int32))), .val (.int ((ch ||| (32 : Int32)) - (97 : Int32))), .val (.int vl), .val (.int (ch - (48 : Int32))), .unset, .unset, .unset] [])) _
        refine XS.iload X0.here hx rfl (hb hby at_46) rfl ?_
        show Steps p.tables e below (s₁.setTop (mkF m 48 #[.val (.int p1), .val (.int ch), .val (.int ch), .val (.int (ch ||| (32 : Int32))), .val (.int ((ch ||| (32 : Int32)) - (97 : Int32))), .val (.int vl), .val (.int (ch - (48 : Int32))), .unset, .unset, .unset] [(.int (ch - (48 : Int32)))])) _
        refine XS.bipush X0.here hx rfl (hb hby at_48) ?_
        show Steps p.tables e below (s₁.setTop (mkF m 50 #[.val (.int p1), .val (.int ch), .val (.int ch), .val (.int (ch ||| (32 : Int32))), .val (.int ((ch ||| (32 : Int32)) - (97 : Int32))), .val (.int vl), .val (.int (ch - (48 : Int32))), .unset, .unset, .unset] [(.int (10 : Int32)), (.int (ch - (48 : Int32)))])) _
        refine XS.icmpNo X0.here hx rfl (hb hby at_50) rfl (tlt c50).2.1 ?_
        show Steps p.tables e below (s₁.setTop (mkF m 53 #[.val (.int p1), .val (.int ch), .val (.int ch), .val (.int (ch ||| (32 : Int32))), .val (.int ((ch ||| (32 : Int32)) - (97 : Int32))), .val (.int vl), .val (.int (ch - (48 : Int32))), .unset, .unset, .unset] [])) _
        refine XS.iconst X0.here hx rfl (hb hby at_53) ?_
        show Steps p.tables e below (s₁.setTop (mkF m 54 #[.val (.int p1), .val (.int ch), .val (.int ch), .val (.int (ch ||| (32 : Int32))), .val (.int ((ch ||| (32 : Int32)) - (97 : Int32))), .val (.int vl), .val (.int (ch - (48 : Int32))), .unset, .unset, .unset] [(.int (1 : Int32))])) _
        refine XS.goto X0.here hx rfl (pc0 := 54) (pc' := 58) rfl (hb hby at_54) (by decide) (by decide) ?_
        show Steps p.tables e below (s₁.setTop (mkF m 58 #[.val (.int p1), .val (.int ch), .val (.int ch), .val (.int (ch ||| (32 : Int32))), .val (.int ((ch ||| (32 : Int32)) - (97 : Int32))), .val (.int vl), .val (.int (ch - (48 : Int32))), .unset, .unset, .unset] [(.int (1 : Int32))])) _
        refine XS.istore X0.here hx rfl (hb hby at_58) rfl (l' := #[.val (.int p1), .val (.int ch), .val (.int ch), .val (.int (ch ||| (32 : Int32))), .val (.int ((ch ||| (32 : Int32)) - (97 : Int32))), .val (.int vl), .val (.int (ch - (48 : Int32))), .val (.int (1 : Int32)), .unset, .unset]) rfl ?_
        show Steps p.tables e below (s₁.setTop (mkF m 60 #[.val (.int p1), .val (.int ch), .val (.int ch), .val (.int (ch ||| (32 : Int32))), .val (.int ((ch ||| (32 : Int32)) - (97 : Int32))), .val (.int vl), .val (.int (ch - (48 : Int32))), .val (.int (1 : Int32)), .unset, .unset] [])) _
        exact k
      · refine ⟨(0 : Int32), (if_neg (fun q => c50 q.2)).symm, fun t k => ?_⟩
        show Steps p.tables e below (s₁.setTop (mkF m 35 #[.val (.int p1), .val (.int ch), .val (.int ch), .val (.int (ch ||| (32 : Int32))), .val (.int ((ch ||| (32 : Int32)) - (97 : Int32))), .val (.int vl), .unset, .unset, .unset, .unset] [])) _
        refine XS.iloadN X0.here hx rfl (hb hby at_35) rfl ?_
        show Steps p.tables e below (s₁.setTop (mkF m 36 #[.val (.int p1), .val (.int ch), .val (.int ch), .val (.int (ch ||| (32 : Int32))), .val (.int ((ch ||| (32 : Int32)) - (97 : Int32))), .val (.int vl), .unset, .unset, .unset, .unset] [(.int ch)])) _
        refine XS.bipush X0.here hx rfl (hb hby at_36) ?_
        show Steps p.tables e below (s₁.setTop (mkF m 38 #[.val (.int p1), .val (.int ch), .val (.int ch), .val (.int (ch ||| (32 : Int32))), .val (.int ((ch ||| (32 : Int32)) - (97 : Int32))), .val (.int vl), .unset, .unset, .unset, .unset] [(.int (48 : Int32)), (.int ch)])) _
        refine XS.isub X0.here hx rfl (hb hby at_38) rfl ?_
        show Steps p.tables e below (s₁.setTop (mkF m 39 #[.val (.int p1), .val (.int ch), .val (.int ch), .val (.int (ch ||| (32 : Int32))), .val (.int ((ch ||| (32 : Int32)) - (97 : Int32))), .val (.int vl), .unset, .unset, .unset, .unset] [(.int (ch - (48 : Int32)))])) _
        refine XS.istore X0.here hx rfl (hb hby at_39) rfl (l' := #[.val (.int p1), .val (.int ch), .val (.int ch), .val (.int (ch ||| (32 : Int32))), .val (.int ((ch ||| (32 : Int32)) - (97 : Int32))), .val (.int vl), .val (.int (ch - (48 : Int32))), .unset, .unset, .unset]) rfl ?_
        show Steps p.tables e below (s₁.setTop (mkF m 41 #[.val (.int p1), .val (.int ch), .val (.int ch), .val (.int (ch ||| (32 : Int32))), .val (.int ((ch ||| (32 : Int32)) - (97 : Int32))), .val (.int vl), .val (.int (ch - (48 : Int32))), .unset, .unset, .unset] [])) _
        refine XS.iload X0.here hx rfl (hb hby at_41) rfl ?_
        show Steps p.tables e below (s₁.setTop (mkF m 43 #[.val (.int p1), .val (.int ch), .val (.int ch), .val (.int (ch ||| (32 : Int32))), .val (.int ((ch ||| (32 : Int32)) - (97 : Int32))), .val (.int vl), .val (.int (ch - (48 : Int32))), .unset, .unset, .unset] [(.int (ch - (48 : Int32)))])) _
        refine XS.ifNo X0.here hx rfl (hb hby at_43) rfl ((if0 _ _).trans (flt c43).1) ?_
        show Steps p.tables e below (s₁.setTop (mkF m 46 #[.val (.int p1), .val (.int ch), .val (.int ch), .val (.int (ch ||| (32 : Int32))), .val (.int ((ch ||| (32 : Int32)) - (97 : Int32))), .val (.int vl), .val (.int (ch - (48 : Int32))), .unset, .unset, .unset] [])) _
        refine XS.iload X0.here hx rfl (hb hby at_46) rfl ?_
        show Steps p.tables e below (s₁.setTop (mkF m 48 #[.val (.int p1), .val (.int ch), .val (.int ch), .val (.int (ch ||| (32 : Int32))), .val (.int ((ch ||| (32 : Int32)) - (97 : Int32))), .val (.int vl), .val (.int (ch - (48 : Int32))), .unset, .unset, .unset] [(.int (ch - (48 : Int32)))])) _
        refine XS.bipush X0.here hx rfl (hb hby at_48) ?_
        show Steps p.tables e below (s₁.setTop (mkF m 50 #[.val (.int p1), .val (.int ch), .val (.int ch), .val (.int (ch ||| (32 : Int32))), .val (.int ((ch ||| (32 : Int32)) - (97 : Int32))), .val (.int vl), .val (.int (ch - (48 : Int32))), .unset, .unset, .unset] [(.int (10 : Int32)), (.int (ch - (48 : Int32)))])) _
        refine XS.icmpYes X0.here hx rfl (pc0 := 50) (pc' := 57) rfl (hb hby at_50) rfl (flt c50).2.1 (by decide) (by decide) ?_
        show Steps p.tables e below (s₁.setTop (mkF m 57 #[.val (.int p1), .val (.int ch), .val (.int ch), .val (.int (ch ||| (32 : Int32))), .val (.int ((ch ||| (32 : Int32)) - (97 : Int32))), .val (.int vl), .val (.int (ch - (48 : Int32))), .unset, .unset, .unset] [])) _
        refine XS.iconst X0.here hx rfl (hb hby at_57) ?_
        show Steps p.tables e below (s₁.setTop (mkF m 58 #[.val (.int p1), .val (.int ch), .val (.int ch), .val (.int (ch ||| (32 : Int32))), .val (.int ((ch ||| (32 : Int32)) - (97 : Int32))), .val (.int vl), .val (.int (ch - (48 : Int32))), .unset, .unset, .unset] [(.int (0 : Int32))])) _
        refine XS.istore X0.here hx rfl (hb hby at_58) rfl (l' := #[.val (.int p1), .val (.int ch), .val (.int ch), .val (.int (ch ||| (32 : Int32))), .val (.int ((ch ||| (32 : Int32)) - (97 : Int32))), .val (.int vl), .val (.int (ch - (48 : Int32))), .val (.int (0 : Int32)), .unset, .unset]) rfl ?_
        show Steps p.tables e below (s₁.setTop (mkF m 60 #[.val (.int p1), .val (.int ch), .val (.int ch), .val (.int (ch ||| (32 : Int32))), .val (.int ((ch ||| (32 : Int32)) - (97 : Int32))), .val (.int vl), .val (.int (ch - (48 : Int32))), .val (.int (0 : Int32)), .unset, .unset] [])) _
        exact k
  obtain ⟨vp, hsD, sD⟩ : ∃ (vp : Int32), (vp = if ch = (45 : Int32) ∨ ch = (95 : Int32) ∨ ch = (46 : Int32) then (1 : Int32) else 0) ∧ ∀ t, Steps p.tables e below (s₁.setTop (mkF m 85 #[.val (.int p1), .val (.int ch), .val (.int ch), .val (.int (ch ||| (32 : Int32))), .val (.int ((ch ||| (32 : Int32)) - (97 : Int32))), .val (.int vl), .val (.int (ch - (48 : Int32))), .val (.int vd), .val (.int vp), .unset] [])) t → Steps p.tables e below (s₁.setTop (mkF m 60 #[.val (.int p1), .val (.int ch), .val (.int ch), .val (.int (ch ||| (32 : Int32))), .val (.int ((ch ||| (32 : Int32)) - (97 : Int32))), .val (.int vl), .val (.int (ch - (48 : Int32))), .val (.int vd), .unset, .unset] [])) t := by
    by_cases c63 : ch = (45 : Int32)
    · refine ⟨(1 : Int32), (if_pos (Or.inl (c63))).symm, fun t k => ?_⟩
      show Steps p.tables e below (s₁.setTop (mkF m 60 #[.val (.int p1), .val (.int ch), .val (.int ch), .val (.int (ch ||| (32 : Int32))), .val (.int ((ch ||| (32 : Int32)) - (97 : Int32))), .val (.int vl), .val (.int (ch - (48 : Int32))), .val (.int vd), .unset, .unset] [])) _
      refine XS.iloadN X0.here hx rfl (hb hby at_60) rfl ?_
      show Steps p.tables e below (s₁.setTop (mkF m 61 #[.val (.int p1), .val (.int ch), .val (.int ch), .val (.int (ch ||| (32 : Int32))), .val (.int ((ch ||| (32 : Int32)) - (97 : Int32))), .val (.int vl), .val (.int (ch - (48 : Int32))), .val (.int vd), .unset, .unset] [(.int ch)])) _
      refine XS.bipush X0.here hx rfl (hb hby at_61) ?_
      show Steps p.tables e below (s₁.setTop (mkF m 63 #[.val (.int p1), .val (.int ch), .val (.int ch), .val (.int (ch ||| (32 : Int32))), .val (.int ((ch ||| (32 : Int32)) - (97 : Int32))), .val (.int vl), .val (.int (ch - (48 : Int32))), .val (.int vd), .unset, .unset] [(.int (45 : Int32)), (.int ch)])) _
      refine XS.icmpYes X0.here hx rfl (pc0 := 63) (pc' := 78) rfl (hb hby at_63) rfl (teq c63).1 (by decide) (by decide) ?_
      show Steps p.tables e below (s₁.setTop (mkF m 78 #[.val (.int p1), .val (.int ch), .val (.int ch), .val (.int (ch ||| (32 : Int32))), .val (.int ((ch ||| (32 : Int32)) - (97 : Int32))), .val (.int vl), .val (.int (ch - (48 : Int32))), .val (.int vd), .unset, .unset] [])) _
      refine XS.iconst X0.here hx rfl (hb hby at_78) ?_
      show Steps p.tables e below (s₁.setTop (mkF m 79 #[.val (.int p1), .val (.int ch), .val (.int ch), .val (.int (ch ||| (32 : Int32))), .val (.int ((ch ||| (32 : Int32)) - (97 : Int32))), .val (.int vl), .val (.int (ch - (48 : Int32))), .val (.int vd), .unset, .unset] [(.int (1 : Int32))])) _
      refine XS.goto X0.here hx rfl (pc0 := 79) (pc' := 83) rfl (hb hby at_79) (by decide) (by decide) ?_
      show Steps p.tables e below (s₁.setTop (mkF m 83 #[.val (.int p1), .val (.int ch), .val (.int ch), .val (.int (ch ||| (32 : Int32))), .val (.int ((ch ||| (32 : Int32)) - (97 : Int32))), .val (.int vl), .val (.int (ch - (48 : Int32))), .val (.int vd), .unset, .unset] [(.int (1 : Int32))])) _
      refine XS.istore X0.here hx rfl (hb hby at_83) rfl (l' := #[.val (.int p1), .val (.int ch), .val (.int ch), .val (.int (ch ||| (32 : Int32))), .val (.int ((ch ||| (32 : Int32)) - (97 : Int32))), .val (.int vl), .val (.int (ch - (48 : Int32))), .val (.int vd), .val (.int (1 : Int32)), .unset]) rfl ?_
      show Steps p.tables e below (s₁.setTop (mkF m 85 #[.val (.int p1), .val (.int ch), .val (.int ch), .val (.int (ch ||| (32 : Int32))), .val (.int ((ch ||| (32 : Int32)) - (97 : Int32))), .val (.int vl), .val (.int (ch - (48 : Int32))), .val (.int vd), .val (.int (1 : Int32)), .unset] [])) _
      exact k
    · by_cases c69 : ch = (95 : Int32)
      · refine ⟨(1 : Int32), (if_pos (Or.inr (Or.inl (c69)))).symm, fun t k => ?_⟩
        show Steps p.tables e below (s₁.setTop (mkF m 60 #[.val (.int p1), .val (.int ch), .val (.int ch), .val (.int (ch ||| (32 : Int32))), .val (.int ((ch ||| (32 : Int32)) - (97 : Int32))), .val (.int vl), .val (.int (ch - (48 : Int32))), .val (.int vd), .unset, .unset] [])) _
        refine XS.iloadN X0.here hx rfl (hb hby at_60) rfl ?_
        show Steps p.tables e below (s₁.setTop (mkF m 61 #[.val (.int p1), .val (.int ch), .val (.int ch), .val (.int (ch ||| (32 : Int32))), .val (.int ((ch ||| (32 : Int32)) - (97 : Int32))), .val (.int vl), .val (.int (ch - (48 : Int32))), .val (.int vd), .unset, .unset] [(.int ch)])) _
        refine XS.bipush X0.here hx rfl (hb hby at_61) ?_
        show Steps p.tables e below (s₁.setTop (mkF m 63 #[.val (.int p1), .val (.int ch), .val (.int ch), .val (.int (ch ||| (32 : Int32))), .val (.int ((ch ||| (32 : Int32)) - (97 : Int32))), .val (.int vl), .val (.int (ch - (48 : Int32))), .val (.int vd), .unset, .unset] [(.int (45 : Int32)), (.int ch)])) _
        refine XS.icmpNo X0.here hx rfl (hb hby at_63) rfl (feq c63).1 ?_
        show Steps p.tables e below (s₁.setTop (mkF m 66 #[.val (.int p1), .val (.int ch), .val (.int ch), .val (.int (ch ||| (32 : Int32))), .val (.int ((ch ||| (32 : Int32)) - (97 : Int32))), .val (.int vl), .val (.int (ch - (48 : Int32))), .val (.int vd), .unset, .unset] [])) _
        refine XS.iloadN X0.here hx rfl (hb hby at_66) rfl ?_
        show Steps p.tables e below (s₁.setTop (mkF m 67 #[.val (.int p1), .val (.int ch), .val (.int ch), .val (.int (ch ||| (32 : Int32))), .val (.int ((ch ||| (32 : Int32)) - (97 : Int32))), .val (.int vl), .val (.int (ch - (48 : Int32))), .val (.int vd), .unset, .unset] [(.int ch)])) _
        refine XS.bipush X0.here hx rfl (hb hby at_67) ?_
        show Steps p.tables e below (s₁.setTop (mkF m 69 #[.val (.int p1), .val (.int ch), .val (.int ch), .val (.int (ch ||| (32 : Int32))), .val (.int ((ch ||| (32 : Int32)) - (97 : Int32))), .val (.int vl), .val (.int (ch - (48 : Int32))), .val (.int vd), .unset, .unset] [(.int (95 : Int32)), (.int ch)])) _
        refine XS.icmpYes X0.here hx rfl (pc0 := 69) (pc' := 78) rfl (hb hby at_69) rfl (teq c69).1 (by decide) (by decide) ?_
        show Steps p.tables e below (s₁.setTop (mkF m 78 #[.val (.int p1), .val (.int ch), .val (.int ch), .val (.int (ch ||| (32 : Int32))), .val (.int ((ch ||| (32 : Int32)) - (97 : Int32))), .val (.int vl), .val (.int (ch - (48 : Int32))), .val (.int vd), .unset, .unset] [])) _
        refine XS.iconst X0.here hx rfl (hb hby at_78) ?_
        show Steps p.tables e below (s₁.setTop (mkF m 79 #[.val (.int p1), .val (.int ch), .val (.int ch), .val (.int (ch ||| (32 : Int32))), .val (.int ((ch ||| (32 : Int32)) - (97 : Int32))), .val (.int vl), .val (.int (ch - (48 : Int32))), .val (.int vd), .unset, .unset] [(.int (1 : Int32))])) _
        refine XS.goto X0.here hx rfl (pc0 := 79) (pc' := 83) rfl (hb hby at_79) (by decide) (by decide) ?_
        show Steps p.tables e below (s₁.setTop (mkF m 83 #[.val (.int p1), .val (.int ch), .val (.int ch), .val (.int (ch ||| (32 : Int32))), .val (.int ((ch ||| (32 : Int32)) - (97 : Int32))), .val (.int vl), .val (.int (ch - (48 : Int32))), .val (.int vd), .unset, .unset] [(.int (1 : Int32))])) _
        refine XS.istore X0.here hx rfl (hb hby at_83) rfl (l' := #[.val (.int p1), .val (.int ch), .val (.int ch), .val (.int (ch ||| (32 : Int32))), .val (.int ((ch ||| (32 : Int32)) - (97 : Int32))), .val (.int vl), .val (.int (ch - (48 : Int32))), .val (.int vd), .val (.int (1 : Int32)), .unset]) rfl ?_
        show Steps p.tables e below (s₁.setTop (mkF m 85 #[.val (.int p1), .val (.int ch), .val (.int ch), .val (.int (ch ||| (32 : Int32))), .val (.int ((ch ||| (32 : Int32)) - (97 : Int32))), .val (.int vl), .val (.int (ch - (48 : Int32))), .val (.int vd), .val (.int (1 : Int32)), .unset] [])) _
        exact k
      · by_cases c75 : ch = (46 : Int32)
        · refine ⟨(1 : Int32), (if_pos (Or.inr (Or.inr (c75)))).symm, fun t k => ?_⟩
          show Steps p.tables e below (s₁.setTop (mkF m 60 #[.val (.int p1), .val (.int ch), .val (.int ch), .val (.int (ch ||| (32 : Int32))), .val (.int ((ch ||| (32 : Int32)) - (97 : Int32))), .val (.int vl), .val (.int (ch - (48 : Int32))), .val (.int vd), .unset, .unset] [])) _
          refine XS.iloadN X0.here hx rfl (hb hby at_60) rfl ?_
          show Steps p.tables e below (s₁.setTop (mkF m 61 #[.val (.int p1), .val (.int ch), .val (.int ch), .val (.int (ch ||| (32 : Int32))), .val (.int ((ch ||| (32 : Int32)) - (97 : Int32))), .val (.int vl), .val (.int (ch - (48 : Int32))), .val (.int vd), .unset, .unset] [(.int ch)])) _
          refine XS.bipush X0.here hx rfl (hb hby at_61) ?_
          show Steps p.tables e below (s₁.setTop (mkF m 63 #[.val (.int p1), .val (.int ch), .val (.int ch), .val (.int (ch ||| (32 : Int32))), .val (.int ((ch ||| (32 : Int32)) - (97 : Int32))), .val (.int vl), .val (.int (ch - (48 : Int32))), .val (.int vd), .unset, .unset] [(.int (45 : Int32)), (.int ch)])) _
          refine XS.icmpNo X0.here hx rfl (hb hby at_63) rfl (feq c63).1 ?_
          show Steps p.tables e below (s₁.setTop (mkF m 66 #[.val (.int p1), .val (.int ch), .val (.int ch), .val (.int (ch ||| (32 : Int32))), .val (.int ((ch ||| (32 : Int32)) - (97 : Int32))), .val (.int vl), .val (.int (ch - (48 : Int32))), .val (.int vd), .unset, .unset] [])) _
          refine XS.iloadN X0.here hx rfl (hb hby at_66) rfl ?_
          show Steps p.tables e below (s₁.setTop (mkF m 67 #[.val (.int p1), .val (.int ch), .val (.int ch), .val (.int (ch ||| (32 : Int32))), .val (.int ((ch ||| (32 : Int32)) - (97 : Int32))), .val (.int vl), .val (.int (ch - (48 : Int32))), .val (.int vd), .unset, .unset] [(.int ch)])) _
          refine XS.bipush X0.here hx rfl (hb hby at_67) ?_
          show Steps p.tables e below (s₁.setTop (mkF m 69 #[.val (.int p1), .val (.int ch), .val (.int ch), .val (.int (ch ||| (32 : Int32))), .val (.int ((ch ||| (32 : Int32)) - (97 : Int32))), .val (.int vl), .val (.int (ch - (48 : Int32))), .val (.int vd), .unset, .unset] [(.int (95 : Int32)), (.int ch)])) _
          refine XS.icmpNo X0.here hx rfl (hb hby at_69) rfl (feq c69).1 ?_
          show Steps p.tables e below (s₁.setTop (mkF m 72 #[.val (.int p1), .val (.int ch), .val (.int ch), .val (.int (ch ||| (32 : Int32))), .val (.int ((ch ||| (32 : Int32)) - (97 : Int32))), .val (.int vl), .val (.int (ch - (48 : Int32))), .val (.int vd), .unset, .unset] [])) _
          refine XS.iloadN X0.here hx rfl (hb hby at_72) rfl ?_
          show Steps p.tables e below (s₁.setTop (mkF m 73 #[.val (.int p1), .val (.int ch), .val (.int ch), .val (.int (ch ||| (32 : Int32))), .val (.int ((ch ||| (32 : Int32)) - (97 : Int32))), .val (.int vl), .val (.int (ch - (48 : Int32))), .val (.int vd), .unset, .unset] [(.int ch)])) _
          refine XS.bipush X0.here hx rfl (hb hby at_73) ?_
          show Steps p.tables e below (s₁.setTop (mkF m 75 #[.val (.int p1), .val (.int ch), .val (.int ch), .val (.int (ch ||| (32 : Int32))), .val (.int ((ch ||| (32 : Int32)) - (97 : Int32))), .val (.int vl), .val (.int (ch - (48 : Int32))), .val (.int vd), .unset, .unset] [(.int (46 : Int32)), (.int ch)])) _
          refine XS.icmpNo X0.here hx rfl (hb hby at_75) rfl (teq c75).2 ?_
          show Steps p.tables e below (s₁.setTop (mkF m 78 #[.val (.int p1), .val (.int ch), .val (.int ch), .val (.int (ch ||| (32 : Int32))), .val (.int ((ch ||| (32 : Int32)) - (97 : Int32))), .val (.int vl), .val (.int (ch - (48 : Int32))), .val (.int vd), .unset, .unset] [])) _
          refine XS.iconst X0.here hx rfl (hb hby at_78) ?_
          show Steps p.tables e below (s₁.setTop (mkF m 79 #[.val (.int p1), .val (.int ch), .val (.int ch), .val (.int (ch ||| (32 : Int32))), .val (.int ((ch ||| (32 : Int32)) - (97 : Int32))), .val (.int vl), .val (.int (ch - (48 : Int32))), .val (.int vd), .unset, .unset] [(.int (1 : Int32))])) _
          refine XS.goto X0.here hx rfl (pc0 := 79) (pc' := 83) rfl (hb hby at_79) (by decide) (by decide) ?_
          show Steps p.tables e below (s₁.setTop (mkF m 83 #[.val (.int p1), .val (.int ch), .val (.int ch), .val (.int (ch ||| (32 : Int32))), .val (.int ((ch ||| (32 : Int32)) - (97 : Int32))), .val (.int vl), .val (.int (ch - (48 : Int32))), .val (.int vd), .unset, .unset] [(.int (1 : Int32))])) _
          refine XS.istore X0.here hx rfl (hb hby at_83) rfl (l' := #[.val (.int p1), .val (.int ch), .val (.int ch), .val (.int (ch ||| (32 : Int32))), .val (.int ((ch ||| (32 : Int32)) - (97 : Int32))), .val (.int vl), .val (.int (ch - (48 : Int32))), .val (.int vd), .val (.int (1 : Int32)), .unset]) rfl ?_
          show Steps p.tables e below (s₁.setTop (mkF m 85 #[.val (.int p1), .val (.int ch), .val (.int ch), .val (.int (ch ||| (32 : Int32))), .val (.int ((ch ||| (32 : Int32)) - (97 : Int32))), .val (.int vl), .val (.int (ch - (48 : Int32))), .val (.int vd), .val (.int (1 : Int32)), .unset] [])) _
          exact k
        · refine ⟨(0 : Int32), (if_neg (fun q => q.elim (fun q => c63 q) (fun q => q.elim (fun q => c69 q) (fun q => c75 q)))).symm, fun t k => ?_⟩
          show Steps p.tables e below (s₁.setTop (mkF m 60 #[.val (.int p1), .val (.int ch), .val (.int ch), .val (.int (ch ||| (32 : Int32))), .val (.int ((ch ||| (32 : Int32)) - (97 : Int32))), .val (.int vl), .val (.int (ch - (48 : Int32))), .val (.int vd), .unset, .unset] [])) _
          refine XS.iloadN X0.here hx rfl (hb hby at_60) rfl ?_
          show Steps p.tables e below (s₁.setTop (mkF m 61 #[.val (.int p1), .val (.int ch), .val (.int ch), .val (.int (ch ||| (32 : Int32))), .val (.int ((ch ||| (32 : Int32)) - (97 : Int32))), .val (.int vl), .val (.int (ch - (48 : Int32))), .val (.int vd), .unset, .unset] [(.int ch)])) _
          refine XS.bipush X0.here hx rfl (hb hby at_61) ?_
          show Steps p.tables e below (s₁.setTop (mkF m 63 #[.val (.int p1), .val (.int ch), .val (.int ch), .val (.int (ch ||| (32 : Int32))), .val (.int ((ch ||| (32 : Int32)) - (97 : Int32))), .val (.int vl), .val (.int (ch - (48 : Int32))), .val (.int vd), .unset, .unset] [(.int (45 : Int32)), (.int ch)])) _
          refine XS.icmpNo X0.here hx rfl (hb hby at_63) rfl (feq c63).1 ?_
          show Steps p.tables e below (s₁.setTop (mkF m 66 #[.val (.int p1), .val (.int ch), .val (.int ch), .val (.int (ch ||| (32 : Int32))), .val (.int ((ch ||| (32 : Int32)) - (97 : Int32))), .val (.int vl), .val (.int (ch - (48 : Int32))), .val (.int vd), .unset, .unset] [])) _
          refine XS.iloadN X0.here hx rfl (hb hby at_66) rfl ?_
          show Steps p.tables e below (s₁.setTop (mkF m 67 #[.val (.int p1), .val (.int ch), .val (.int ch), .val (.int (ch ||| (32 : Int32))), .val (.int ((ch ||| (32 : Int32)) - (97 : Int32))), .val (.int vl), .val (.int (ch - (48 : Int32))), .val (.int vd), .unset, .unset] [(.int ch)])) _
          refine XS.bipush X0.here hx rfl (hb hby at_67) ?_
          show Steps p.tables e below (s₁.setTop (mkF m 69 #[.val (.int p1), .val (.int ch), .val (.int ch), .val (.int (ch ||| (32 : Int32))), .val (.int ((ch ||| (32 : Int32)) - (97 : Int32))), .val (.int vl), .val (.int (ch - (48 : Int32))), .val (.int vd), .unset, .unset] [(.int (95 : Int32)), (.int ch)])) _
          refine XS.icmpNo X0.here hx rfl (hb hby at_69) rfl (feq c69).1 ?_
          show Steps p.tables e below (s₁.setTop (mkF m 72 #[.val (.int p1), .val (.int ch), .val (.int ch), .val (.int (ch ||| (32 : Int32))), .val (.int ((ch ||| (32 : Int32)) - (97 : Int32))), .val (.int vl), .val (.int (ch - (48 : Int32))), .val (.int vd), .unset, .unset] [])) _
          refine XS.iloadN X0.here hx rfl (hb hby at_72) rfl ?_
          show Steps p.tables e below (s₁.setTop (mkF m 73 #[.val (.int p1), .val (.int ch), .val (.int ch), .val (.int (ch ||| (32 : Int32))), .val (.int ((ch ||| (32 : Int32)) - (97 : Int32))), .val (.int vl), .val (.int (ch - (48 : Int32))), .val (.int vd), .unset, .unset] [(.int ch)])) _
          refine XS.bipush X0.here hx rfl (hb hby at_73) ?_
          show Steps p.tables e below (s₁.setTop (mkF m 75 #[.val (.int p1), .val (.int ch), .val (.int ch), .val (.int (ch ||| (32 : Int32))), .val (.int ((ch ||| (32 : Int32)) - (97 : Int32))), .val (.int vl), .val (.int (ch - (48 : Int32))), .val (.int vd), .unset, .unset] [(.int (46 : Int32)), (.int ch)])) _
          refine XS.icmpYes X0.here hx rfl (pc0 := 75) (pc' := 82) rfl (hb hby at_75) rfl (feq c75).2 (by decide) (by decide) ?_
          show Steps p.tables e below (s₁.setTop (mkF m 82 #[.val (.int p1), .val (.int ch), .val (.int ch), .val (.int (ch ||| (32 : Int32))), .val (.int ((ch ||| (32 : Int32)) - (97 : Int32))), .val (.int vl), .val (.int (ch - (48 : Int32))), .val (.int vd), .unset, .unset] [])) _
          refine XS.iconst X0.here hx rfl (hb hby at_82) ?_
          show Steps p.tables e below (s₁.setTop (mkF m 83 #[.val (.int p1), .val (.int ch), .val (.int ch), .val (.int (ch ||| (32 : Int32))), .val (.int ((ch ||| (32 : Int32)) - (97 : Int32))), .val (.int vl), .val (.int (ch - (48 : Int32))), .val (.int vd), .unset, .unset] [(.int (0 : Int32))])) _
          refine XS.istore X0.here hx rfl (hb hby at_83) rfl (l' := #[.val (.int p1), .val (.int ch), .val (.int ch), .val (.int (ch ||| (32 : Int32))), .val (.int ((ch ||| (32 : Int32)) - (97 : Int32))), .val (.int vl), .val (.int (ch - (48 : Int32))), .val (.int vd), .val (.int (0 : Int32)), .unset]) rfl ?_
          show Steps p.tables e below (s₁.setTop (mkF m 85 #[.val (.int p1), .val (.int ch), .val (.int ch), .val (.int (ch ||| (32 : Int32))), .val (.int ((ch ||| (32 : Int32)) - (97 : Int32))), .val (.int vl), .val (.int (ch - (48 : Int32))), .val (.int vd), .val (.int (0 : Int32)), .unset] [])) _
          exact k
  obtain ⟨vx, hsE, sE⟩ : ∃ (vx : Int32), (vx = if ¬ vl = (0 : Int32) ∨ ¬ vd = (0 : Int32) ∨ ¬ vp = (0 : Int32) then (1 : Int32) else 0) ∧ ∀ t, Steps p.tables e below (s₁.setTop (mkF m 108 #[.val (.int p1), .val (.int ch), .val (.int ch), .val (.int (ch ||| (32 : Int32))), .val (.int ((ch ||| (32 : Int32)) - (97 : Int32))), .val (.int vl), .val (.int (ch - (48 : Int32))), .val (.int vd), .val (.int vp), .val (.int vx)] [(.int ch)])) t → Steps p.tables e below (s₁.setTop (mkF m 85 #[.val (.int p1), .val (.int ch), .val (.int ch), .val (.int (ch ||| (32 : Int32))), .val (.int ((ch ||| (32 : Int32)) - (97 : Int32))), .val (.int vl), .val (.int (ch - (48 : Int32))), .val (.int vd), .val (.int vp), .unset] [])) t := by
    by_cases c87 : vl = (0 : Int32)
    · by_cases c92 : vd = (0 : Int32)
      · by_cases c97 : vp = (0 : Int32)
        · refine ⟨(0 : Int32), (if_neg (fun q => q.elim (fun q => q c87) (fun q => q.elim (fun q => q c92) (fun q => q c97)))).symm, fun t k => ?_⟩
          show Steps p.tables e below (s₁.setTop (mkF m 85 #[.val (.int p1), .val (.int ch), .val (.int ch), .val (.int (ch ||| (32 : Int32))), .val (.int ((ch ||| (32 : Int32)) - (97 : Int32))), .val (.int vl), .val (.int (ch - (48 : Int32))), .val (.int vd), .val (.int vp), .unset] [])) _
          refine XS.iload X0.here hx rfl (hb hby at_85) rfl ?_
          show Steps p.tables e below (s₁.setTop (mkF m 87 #[.val (.int p1), .val (.int ch), .val (.int ch), .val (.int (ch ||| (32 : Int32))), .val (.int ((ch ||| (32 : Int32)) - (97 : Int32))), .val (.int vl), .val (.int (ch - (48 : Int32))), .val (.int vd), .val (.int vp), .unset] [(.int vl)])) _
          refine XS.ifNo X0.here hx rfl (hb hby at_87) rfl ((if0 _ _).trans (teq c87).2) ?_
          show Steps p.tables e below (s₁.setTop (mkF m 90 #[.val (.int p1), .val (.int ch), .val (.int ch), .val (.int (ch ||| (32 : Int32))), .val (.int ((ch ||| (32 : Int32)) - (97 : Int32))), .val (.int vl), .val (.int (ch - (48 : Int32))), .val (.int vd), .val (.int vp), .unset] [])) _
          refine XS.iload X0.here hx rfl (hb hby at_90) rfl ?_
          show Steps p.tables e below (s₁.setTop (mkF m 92 #[.val (.int p1), .val (.int ch), .val (.int ch), .val (.int (ch ||| (32 : Int32))), .val (.int ((ch ||| (32 : Int32)) - (97 : Int32))), .val (.int vl), .val (.int (ch - (48 : Int32))), .val (.int vd), .val (.int vp), .unset] [(.int vd)])) _
          refine XS.ifNo X0.here hx rfl (hb hby at_92) rfl ((if0 _ _).trans (teq c92).2) ?_
          show Steps p.tables e below (s₁.setTop (mkF m 95 #[.val (.int p1), .val (.int ch), .val (.int ch), .val (.int (ch ||| (32 : Int32))), .val (.int ((ch ||| (32 : Int32)) - (97 : Int32))), .val (.int vl), .val (.int (ch - (48 : Int32))), .val (.int vd), .val (.int vp), .unset] [])) _
          refine XS.iload X0.here hx rfl (hb hby at_95) rfl ?_
          show Steps p.tables e below (s₁.setTop (mkF m 97 #[.val (.int p1), .val (.int ch), .val (.int ch), .val (.int (ch ||| (32 : Int32))), .val (.int ((ch ||| (32 : Int32)) - (97 : Int32))), .val (.int vl), .val (.int (ch - (48 : Int32))), .val (.int vd), .val (.int vp), .unset] [(.int vp)])) _
          refine XS.ifYes X0.here hx rfl (pc0 := 97) (pc' := 104) rfl (hb hby at_97) rfl ((if0 _ _).trans (teq c97).1) (by decide) (by decide) ?_
          show Steps p.tables e below (s₁.setTop (mkF m 104 #[.val (.int p1), .val (.int ch), .val (.int ch), .val (.int (ch ||| (32 : Int32))), .val (.int ((ch ||| (32 : Int32)) - (97 : Int32))), .val (.int vl), .val (.int (ch - (48 : Int32))), .val (.int vd), .val (.int vp), .unset] [])) _
          refine XS.iconst X0.here hx rfl (hb hby at_104) ?_
          show Steps p.tables e below (s₁.setTop (mkF m 105 #[.val (.int p1), .val (.int ch), .val (.int ch), .val (.int (ch ||| (32 : Int32))), .val (.int ((ch ||| (32 : Int32)) - (97 : Int32))), .val (.int vl), .val (.int (ch - (48 : Int32))), .val (.int vd), .val (.int vp), .unset] [(.int (0 : Int32))])) _
          refine XS.istore X0.here hx rfl (hb hby at_105) rfl (l' := #[.val (.int p1), .val (.int ch), .val (.int ch), .val (.int (ch ||| (32 : Int32))), .val (.int ((ch ||| (32 : Int32)) - (97 : Int32))), .val (.int vl), .val (.int (ch - (48 : Int32))), .val (.int vd), .val (.int vp), .val (.int (0 : Int32))]) rfl ?_
          show Steps p.tables e below (s₁.setTop (mkF m 107 #[.val (.int p1), .val (.int ch), .val (.int ch), .val (.int (ch ||| (32 : Int32))), .val (.int ((ch ||| (32 : Int32)) - (97 : Int32))), .val (.int vl), .val (.int (ch - (48 : Int32))), .val (.int vd), .val (.int vp), .val (.int (0 : Int32))] [])) _
          refine XS.iloadN X0.here hx rfl (hb hby at_107) rfl ?_
          show Steps p.tables e below (s₁.setTop (mkF m 108 #[.val (.int p1), .val (.int ch), .val (.int ch), .val (.int (ch ||| (32 : Int32))), .val (.int ((ch ||| (32 : Int32)) - (97 : Int32))), .val (.int vl), .val (.int (ch - (48 : Int32))), .val (.int vd), .val (.int vp), .val (.int (0 : Int32))] [(.int ch)])) _
          exact k
        · refine ⟨(1 : Int32), (if_pos (Or.inr (Or.inr (c97)))).symm, fun t k => ?_⟩
          show Steps p.tables e below (s₁.setTop (mkF m 85 #[.val (.int p1), .val (.int ch), .val (.int ch), .val (.int (ch ||| (32 : Int32))), .val (.int ((ch ||| (32 : Int32)) - (97 : Int32))), .val (.int vl), .val (.int (ch - (48 : Int32))), .val (.int vd), .val (.int vp), .unset] [])) _
          refine XS.iload X0.here hx rfl (hb hby at_85) rfl ?_
          show Steps p.tables e below (s₁.setTop (mkF m 87 #[.val (.int p1), .val (.int ch), .val (.int ch), .val (.int (ch ||| (32 : Int32))), .val (.int ((ch ||| (32 : Int32)) - (97 : Int32))), .val (.int vl), .val (.int (ch - (48 : Int32))), .val (.int vd), .val (.int vp), .unset] [(.int vl)])) _
          refine XS.ifNo X0.here hx rfl (hb hby at_87) rfl ((if0 _ _).trans (teq c87).2) ?_
          show Steps p.tables e below (s₁.setTop (mkF m 90 #[.val (.int p1), .val (.int ch), .val (.int ch), .val (.int (ch ||| (32 : Int32))), .val (.int ((ch ||| (32 : Int32)) - (97 : Int32))), .val (.int vl), .val (.int (ch - (48 : Int32))), .val (.int vd), .val (.int vp), .unset] [])) _
          refine XS.iload X0.here hx rfl (hb hby at_90) rfl ?_
          show Steps p.tables e below (s₁.setTop (mkF m 92 #[.val (.int p1), .val (.int ch), .val (.int ch), .val (.int (ch ||| (32 : Int32))), .val (.int ((ch ||| (32 : Int32)) - (97 : Int32))), .val (.int vl), .val (.int (ch - (48 : Int32))), .val (.int vd), .val (.int vp), .unset] [(.int vd)])) _
          refine XS.ifNo X0.here hx rfl (hb hby at_92) rfl ((if0 _ _).trans (teq c92).2) ?_
          show Steps p.tables e below (s₁.setTop (mkF m 95 #[.val (.int p1), .val (.int ch), .val (.int ch), .val (.int (ch ||| (32 : Int32))), .val (.int ((ch ||| (32 : Int32)) - (97 : Int32))), .val (.int vl), .val (.int (ch - (48 : Int32))), .val (.int vd), .val (.int vp), .unset] [])) _
          refine XS.iload X0.here hx rfl (hb hby at_95) rfl ?_
          show Steps p.tables e below (s₁.setTop (mkF m 97 #[.val (.int p1), .val (.int ch), .val (.int ch), .val (.int (ch ||| (32 : Int32))), .val (.int ((ch ||| (32 : Int32)) - (97 : Int32))), .val (.int vl), .val (.int (ch - (48 : Int32))), .val (.int vd), .val (.int vp), .unset] [(.int vp)])) _
          refine XS.ifNo X0.here hx rfl (hb hby at_97) rfl ((if0 _ _).trans (feq c97).1) ?_
          show Steps p.tables e below (s₁.setTop (mkF m 100 #[.val (.int p1), .val (.int ch), .val (.int ch), .val (.int (ch ||| (32 : Int32))), .val (.int ((ch ||| (32 : Int32)) - (97 : Int32))), .val (.int vl), .val (.int (ch - (48 : Int32))), .val (.int vd), .val (.int vp), .unset] [])) _
          refine XS.iconst X0.here hx rfl (hb hby at_100) ?_
          show Steps p.tables e below (s₁.setTop (mkF m 101 #[.val (.int p1), .val (.int ch), .val (.int ch), .val (.int (ch ||| (32 : Int32))), .val (.int ((ch ||| (32 : Int32)) - (97 : Int32))), .val (.int vl), .val (.int (ch - (48 : Int32))), .val (.int vd), .val (.int vp), .unset] [(.int (1 : Int32))])) _
          refine XS.goto X0.here hx rfl (pc0 := 101) (pc' := 105) rfl (hb hby at_101) (by decide) (by decide) ?_
          show Steps p.tables e below (s₁.setTop (mkF m 105 #[.val (.int p1), .val (.int ch), .val (.int ch), .val (.int (ch ||| (32 : Int32))), .val (.int ((ch ||| (32 : Int32)) - (97 : Int32))), .val (.int vl), .val (.int (ch - (48 : Int32))), .val (.int vd), .val (.int vp), .unset] [(.int (1 : Int32))])) _
          refine XS.istore X0.here hx rfl (hb hby at_105) rfl (l' := #[.val (.int p1), .val (.int ch), .val (.int ch), .val (.int (ch ||| (32 : Int32))), .val (.int ((ch ||| (32 : Int32)) - (97 : Int32))), .val (.int vl), .val (.int (ch - (48 : Int32))), .val (.int vd), .val (.int vp), .val (.int (1 : Int32))]) rfl ?_
          show Steps p.tables e below (s₁.setTop (mkF m 107 #[.val (.int p1), .val (.int ch), .val (.int ch), .val (.int (ch ||| (32 : Int32))), .val (.int ((ch ||| (32 : Int32)) - (97 : Int32))), .val (.int vl), .val (.int (ch - (48 : Int32))), .val (.int vd), .val (.int vp), .val (.int (1 : Int32))] [])) _
          refine XS.iloadN X0.here hx rfl (hb hby at_107) rfl ?_
          show Steps p.tables e below (s₁.setTop (mkF m 108 #[.val (.int p1), .val (.int ch), .val (.int ch), .val (.int (ch ||| (32 : Int32))), .val (.int ((ch ||| (32 : Int32)) - (97 : Int32))), .val (.int vl), .val (.int (ch - (48 : Int32))), .val (.int vd), .val (.int vp), .val (.int (1 : Int32))] [(.int ch)])) _
          exact k
      · refine ⟨(1 : Int32), (if_pos (Or.inr (Or.inl (c92)))).symm, fun t k => ?_⟩
        show Steps p.tables e below (s₁.setTop (mkF m 85 #[.val (.int p1), .val (.int ch), .val (.int ch), .val (.int (ch ||| (32 : Int32))), .val (.int ((ch ||| (32 : Int32)) - (97 : Int32))), .val (.int vl), .val (.int (ch - (48 : Int32))), .val (.int vd), .val (.int vp), .unset] [])) _
        refine XS.iload X0.here hx rfl (hb hby at_85) rfl ?_
        show Steps p.tables e below (s₁.setTop (mkF m 87 #[.val (.int p1), .val (.int ch), .val (.int ch), .val (.int (ch ||| (32 : Int32))), .val (.int ((ch ||| (32 : Int32)) - (97 : Int32))), .val (.int vl), .val (.int (ch - (48 : Int32))), .val (.int vd), .val (.int vp), .unset] [(.int vl)])) _
        refine XS.ifNo X0.here hx rfl (hb hby at_87) rfl ((if0 _ _).trans (teq c87).2) ?_
        show Steps p.tables e below (s₁.setTop (mkF m 90 #[.val (.int p1), .val (.int ch), .val (.int ch), .val (.int (ch ||| (32 : Int32))), .val (.int ((ch ||| (32 : Int32)) - (97 : Int32))), .val (.int vl), .val (.int (ch - (48 : Int32))), .val (.int vd), .val (.int vp), .unset] [])) _
        refine XS.iload X0.here hx rfl (hb hby at_90) rfl ?_
        show Steps p.tables e below (s₁.setTop (mkF m 92 #[.val (.int p1), .val (.int ch), .val (.int ch), .val (.int (ch ||| (32 : Int32))), .val (.int ((ch ||| (32 : Int32)) - (97 : Int32))), .val (.int vl), .val (.int (ch - (48 : Int32))), .val (.int vd), .val (.int vp), .unset] [(.int vd)])) _
        refine XS.ifYes X0.here hx rfl (pc0 := 92) (pc' := 100) rfl (hb hby at_92) rfl ((if0 _ _).trans (feq c92).2) (by decide) (by decide) ?_
        show Steps p.tables e below (s₁.setTop (mkF m 100 #[.val (.int p1), .val (.int ch), .val (.int ch), .val (.int (ch ||| (32 : Int32))), .val (.int ((ch ||| (32 : Int32)) - (97 : Int32))), .val (.int vl), .val (.int (ch - (48 : Int32))), .val (.int vd), .val (.int vp), .unset] [])) _
        refine XS.iconst X0.here hx rfl (hb hby at_100) ?_
        show Steps p.tables e below (s₁.setTop (mkF m 101 #[.val (.int p1), .val (.int ch), .val (.int ch), .val (.int (ch ||| (32 : Int32))), .val (.int ((ch ||| (32 : Int32)) - (97 : Int32))), .val (.int vl), .val (.int (ch - (48 : Int32))), .val (.int vd), .val (.int vp), .unset] [(.int (1 : Int32))])) _
        refine XS.goto X0.here hx rfl (pc0 := 101) (pc' := 105) rfl (hb hby at_101) (by decide) (by decide) ?_
        show Steps p.tables e below (s₁.setTop (mkF m 105 #[.val (.int p1), .val (.int ch), .val (.int ch), .val (.int (ch ||| (32 : Int32))), .val (.int ((ch ||| (32 : Int32)) - (97 : Int32))), .val (.int vl), .val (.int (ch - (48 : Int32))), .val (.int vd), .val (.int vp), .unset] [(.int (1 : Int32))])) _
        refine XS.istore X0.here hx rfl (hb hby at_105) rfl (l' := #[.val (.int p1), .val (.int ch), .val (.int ch), .val (.int (ch ||| (32 : Int32))), .val (.int ((ch ||| (32 : Int32)) - (97 : Int32))), .val (.int vl), .val (.int (ch - (48 : Int32))), .val (.int vd), .val (.int vp), .val (.int (1 : Int32))]) rfl ?_
        show Steps p.tables e below (s₁.setTop (mkF m 107 #[.val (.int p1), .val (.int ch), .val (.int ch), .val (.int (ch ||| (32 : Int32))), .val (.int ((ch ||| (32 : Int32)) - (97 : Int32))), .val (.int vl), .val (.int (ch - (48 : Int32))), .val (.int vd), .val (.int vp), .val (.int (1 : Int32))] [])) _
        refine XS.iloadN X0.here hx rfl (hb hby at_107) rfl ?_
        show Steps p.tables e below (s₁.setTop (mkF m 108 #[.val (.int p1), .val (.int ch), .val (.int ch), .val (.int (ch ||| (32 : Int32))), .val (.int ((ch ||| (32 : Int32)) - (97 : Int32))), .val (.int vl), .val (.int (ch - (48 : Int32))), .val (.int vd), .val (.int vp), .val (.int (1 : Int32))] [(.int ch)])) _
        exact k
    · refine ⟨(1 : Int32), (if_pos (Or.inl (c87))).symm, fun t k => ?_⟩
      show Steps p.tables e below (s₁.setTop (mkF m 85 #[.val (.int p1), .val (.int ch), .val (.int ch), .val (.int (ch ||| (32 : Int32))), .val (.int ((ch ||| (32 : Int32)) - (97 : Int32))), .val (.int vl), .val (.int (ch - (48 : Int32))), .val (.int vd), .val (.int vp), .unset] [])) _
      refine XS.iload X0.here hx rfl (hb hby at_85) rfl ?_
      show Steps p.tables e below (s₁.setTop (mkF m 87 #[.val (.int p1), .val (.int ch), .val (.int ch), .val (.int (ch ||| (32 : Int32))), .val (.int ((ch ||| (32 : Int32)) - (97 : Int32))), .val (.int vl), .val (.int (ch - (48 : Int32))), .val (.int vd), .val (.int vp), .unset] [(.int vl)])) _
      refine XS.ifYes X0.here hx rfl (pc0 := 87) (pc' := 100) rfl (hb hby at_87) rfl ((if0 _ _).trans (feq c87).2) (by decide) (by decide) ?_
      show Steps p.tables e below (s₁.setTop (mkF m 100 #[.val (.int p1), .val (.int ch), .val (.int ch), .val (.int (ch ||| (32 : Int32))), .val (.int ((ch ||| (32 : Int32)) - (97 : Int32))), .val (.int vl), .val (.int (ch - (48 : Int32))), .val (.int vd), .val (.int vp), .unset] [])) _
      refine XS.iconst X0.here hx rfl (hb hby at_100) ?_
      show Steps p.tables e below (s₁.setTop (mkF m 101 #[.val (.int p1), .val (.int ch), .val (.int ch), .val (.int (ch ||| (32 : Int32))), .val (.int ((ch ||| (32 : Int32)) - (97 : Int32))), .val (.int vl), .val (.int (ch - (48 : Int32))), .val (.int vd), .val (.int vp), .unset] [(.int (1 : Int32))])) _
      refine XS.goto X0.here hx rfl (pc0 := 101) (pc' := 105) rfl (hb hby at_101) (by decide) (by decide) ?_
      show Steps p.tables e below (s₁.setTop (mkF m 105 #[.val (.int p1), .val (.int ch), .val (.int ch), .val (.int (ch ||| (32 : Int32))), .val (.int ((ch ||| (32 : Int32)) - (97 : Int32))), .val (.int vl), .val (.int (ch - (48 : Int32))), .val (.int vd), .val (.int vp), .unset] [(.int (1 : Int32))])) _
      refine XS.istore X0.here hx rfl (hb hby at_105) rfl (l' := #[.val (.int p1), .val (.int ch), .val (.int ch), .val (.int (ch ||| (32 : Int32))), .val (.int ((ch ||| (32 : Int32)) - (97 : Int32))), .val (.int vl), .val (.int (ch - (48 : Int32))), .val (.int vd), .val (.int vp), .val (.int (1 : Int32))]) rfl ?_
      show Steps p.tables e below (s₁.setTop (mkF m 107 #[.val (.int p1), .val (.int ch), .val (.int ch), .val (.int (ch ||| (32 : Int32))), .val (.int ((ch ||| (32 : Int32)) - (97 : Int32))), .val (.int vl), .val (.int (ch - (48 : Int32))), .val (.int vd), .val (.int vp), .val (.int (1 : Int32))] [])) _
      refine XS.iloadN X0.here hx rfl (hb hby at_107) rfl ?_
      show Steps p.tables e below (s₁.setTop (mkF m 108 #[.val (.int p1), .val (.int ch), .val (.int ch), .val (.int (ch ||| (32 : Int32))), .val (.int ((ch ||| (32 : Int32)) - (97 : Int32))), .val (.int vl), .val (.int (ch - (48 : Int32))), .val (.int vd), .val (.int vp), .val (.int (1 : Int32))] [(.int ch)])) _
      exact k
  obtain ⟨_, _, ⟨T5, L5, k5, n5⟩, -, X5, ⟨Lc5, hQ5, l5, y5, z5⟩, st5⟩ := Jvm.LawKit.callS X0 hx (y := (⟨"com/example/cardea/cardea/text/Names", "isNameChar", "(C)Z"⟩ : MethodName)) hown (mvT hZ (hw _ (List.mem_of_getElem? (i := 0) rfl))) (mvT hZ (hw _ (List.mem_of_getElem? (i := 1) rfl))) (mvT hZ (hw _ (List.mem_of_getElem? (i := 2) rfl))) (mvT hZ (hw _ (List.mem_of_getElem? (i := 3) rfl))) (by decide) (backOf (W := 0) (rm1 l Z a0 hw [] ch h0 n0 Z0) hZ (hw _ (List.mem_of_getElem? (i := 3) rfl)) (hw _ (List.mem_of_getElem? (i := 2) rfl)) (by decide) (by decide)) (g := (mkF m 108 #[.val (.int p1), .val (.int ch), .val (.int ch), .val (.int (ch ||| (32 : Int32))), .val (.int ((ch ||| (32 : Int32)) - (97 : Int32))), .val (.int vl), .val (.int (ch - (48 : Int32))), .val (.int vd), .val (.int vp), .val (.int vx)] [(.int ch)])) rfl (by rw [hml]; rfl) (argsL := [(.int ch)]) (rest := []) (lenOf pd_1 rfl) rfl (by show 2 * 0 + _ ≤ _; exact Nat.le_of_eq rfl) (hb hby at_108) (fun _ _ => ⟨rfl, e0, (by decide : 0 + 0 ≤ _), (by decide : 0 + 0 ≤ _)⟩)
  dsimp only [Pt.U, Pt.locs, Pt.cells, Pt.slots] at X5 l5 y5 z5 st5 hQ5
  subst l5 y5 z5
  obtain ⟨⟨vz, rfl, hvz⟩, N5, e5⟩ := hQ5
  have M5 := Fr.app N0 N5
  have hk : vz = vx := by
    rw [hvz, hsE, hsB, hsC, hsD]
    exact own_ifc (own_all ch hr1.1 hr1.2)
  obtain ⟨fs, hr, hrun, hended, hW, hsame⟩ := X5.leave (v := some (.int (1 : Int32))) (fun h => by rw [Bd.returns] at h; cases h)
  refine ⟨_, _, pre0 _ ?_, hrun, hended, _, _, rfl, ?_, ⟨_, rfl⟩, hW, hsame.mono (by decide) (by decide)⟩
  · refine sA _ ?_
    refine sB _ ?_
    refine sC _ ?_
    refine sD _ ?_
    refine sE _ ?_
    refine st5 _ ?_
    show Steps p.tables e below (T5.setTop (mkF m 111 #[.val (.int p1), .val (.int ch), .val (.int ch), .val (.int (ch ||| (32 : Int32))), .val (.int ((ch ||| (32 : Int32)) - (97 : Int32))), .val (.int vl), .val (.int (ch - (48 : Int32))), .val (.int vd), .val (.int vp), .val (.int vx)] [(.int vz)])) _
    refine XS.iload X5.here hx rfl (hb hby at_111) rfl ?_
    show Steps p.tables e below (T5.setTop (mkF m 113 #[.val (.int p1), .val (.int ch), .val (.int ch), .val (.int (ch ||| (32 : Int32))), .val (.int ((ch ||| (32 : Int32)) - (97 : Int32))), .val (.int vl), .val (.int (ch - (48 : Int32))), .val (.int vd), .val (.int vp), .val (.int vx)] [(.int vx), (.int vz)])) _
    refine XS.icmpNo X5.here hx rfl (hb hby at_113) rfl (teq hk).2 ?_
    show Steps p.tables e below (T5.setTop (mkF m 116 #[.val (.int p1), .val (.int ch), .val (.int ch), .val (.int (ch ||| (32 : Int32))), .val (.int ((ch ||| (32 : Int32)) - (97 : Int32))), .val (.int vl), .val (.int (ch - (48 : Int32))), .val (.int vd), .val (.int vp), .val (.int vx)] [])) _
    refine XS.iconst X5.here hx rfl (hb hby at_116) ?_
    show Steps p.tables e below (T5.setTop (mkF m 117 #[.val (.int p1), .val (.int ch), .val (.int ch), .val (.int (ch ||| (32 : Int32))), .val (.int ((ch ||| (32 : Int32)) - (97 : Int32))), .val (.int vl), .val (.int (ch - (48 : Int32))), .val (.int vd), .val (.int vp), .val (.int vx)] [(.int (1 : Int32))])) _
    refine XS.goto X5.here hx rfl (pc0 := 117) (pc' := 121) rfl (hb hby at_117) (by decide) (by decide) ?_
    show Steps p.tables e below (T5.setTop (mkF m 121 #[.val (.int p1), .val (.int ch), .val (.int ch), .val (.int (ch ||| (32 : Int32))), .val (.int ((ch ||| (32 : Int32)) - (97 : Int32))), .val (.int vl), .val (.int (ch - (48 : Int32))), .val (.int vd), .val (.int vp), .val (.int vx)] [(.int (1 : Int32))])) _
    exact retN X5 hx (t := .boolean) Bd.returns (by simp) (hb hby at_121) hr
  · show Q0 Z p1 h0 n0 _ T5.heap _
    exact ⟨rfl, M5⟩
set_option maxRecDepth 65536 in
set_option maxHeartbeats 40000000 in
theorem comes_1 {Post : Tables → Env → Array Value → State → Outcome → State → Prop} (hpost : ∀ tb e args s v u, (limb_1_1.after args s (.returned v) u = true ∧ limb_1_2.after args s (.returned v) u = true ∧ True) → FrameEnd s (.returned v) u (Jvm.fieldLocs frame_1_writes args s ++ Jvm.arrayLocs frame_1_arrays args s ++ Jvm.staticLocs frame_1_statics s) 0 0 → Post tb e args s (.returned v) u) :
    ArmFor flags0 classFile x code maxLocals ret World_1 tables_1 room_1 Calls_1 rest_1 Pre_1 Post := by
  intro l hfl _ _ p e ha hc hk s m args below hf hA hF happ hP
  obtain ⟨hcalls, hrest, hpre⟩ := hP
  obtain ⟨-, -, -, hnamed, -, -, -, hat⟩ := (Spec.applies_iff hf).mp happ
  obtain ⟨hg, hn⟩ := and_e (Cond.before_iff.mp (show (Jvm.Cond.and given_1 narrow_1).before args s = true from hpre))
  obtain ⟨gc, hg0⟩ := and_e hg
  obtain ⟨w0, rfl⟩ : ∃ w0 : Value, args = #[w0] := by
    have hs : args.size = 1 := by simpa [Cond.value, given_1] using gc
    obtain ⟨L⟩ := args
    match L, hs with
    | [w0], _ => exact ⟨w0, rfl⟩
  have hw := fun d (hd : d ∈ tables_1) => atoms_spec (ws := Jvm.Cond.code x code maxLocals ret :: tables_1) hat d (List.mem_cons_of_mem _ hd)
  obtain ⟨i0, ei0⟩ := is_v hg0
  obtain rfl : w0 = (.int i0) := Option.some.inj ei0
  obtain ⟨n, o, h1, h2, h3, _, L, rfl, ⟨rfl, N⟩, hq⟩ := rm0 l s _ hw tables_1 i0 s.heap s.heap.size (Nat.le_refl _) p e ha hc hk s m _ below hf ((Spec.applies_iff_loose hf).mp happ).1 ⟨rfl, State.Warmed39.refl s, rfl⟩ trivial
  refine ⟨n, _, h1, h2, h3, hpost _ _ _ _ _ _ ⟨Cond.after_iff.mpr rfl, Cond.after_iff.mpr (eq_i res_at (Term.int_eval (1)) rfl), trivial⟩ ⟨hq.1, hq.2.1, (hq.2.2.sift fun y hy => Or.inr (N y hy)).mono (by decide) (by decide)⟩⟩
theorem main_1_1 : Claimed_1_1 := comes_1 fun _ _ _ _ _ _ h hF => ⟨h.1, hF⟩
theorem main_1_2 : Claimed_1_2 := comes_1 fun _ _ _ _ _ _ h hF => ⟨h.2.1, hF⟩
end Jvm.Pilot.@@N@@
namespace Jvm.Pilot.@@N@@
open Jvm Jvm.ClassFile Sem Op Lib Jvm.Free Jvm.Stand Jvm.Pilot.@@N@@.Jvm.D
/-! MADE BY PROGRAM (witnessworld.py) out of the Statement's table words and the real class files: 9 classes; the members and pool entries that the words name. The judged class is class 1, her method 1. -/
namespace start1
open Jvm.ClassFile
def u (s : String) : CpInfo := .utf8 (stringToUtf16 s)
/-- a pool by its gaps: so many unusable entries, then the entry; so many at the end -/
def gap : Nat → List CpInfo → List CpInfo
  | 0, r => r
  | n + 1, r => .unusable :: gap n r
def poolList (es : List (Nat × CpInfo)) (last : Nat) : List CpInfo := es.foldr (fun e r => gap e.1 (e.2 :: r)) (gap last [])
def pool (es : List (Nat × CpInfo)) (last : Nat) : Array CpInfo := ⟨poolList es last⟩
def fileOf (pool : Array CpInfo) (this : Nat) (attrs : Array Attribute := #[]) (ms : Array MethodInfo := #[]) (fl : Nat := 33) (sup : Nat := 0) (ifs : Array Nat := #[]) (fds : Array FieldInfo := #[]) : ClassFile where
  minorVersion := 0
  majorVersion := 65
  constantPool := pool
  accessFlags := fl
  thisClass := this
  superClass := sup
  interfaces := ifs
  fields := fds
  methods := ms
  attributes := attrs
def plain (name : String) (sup : Option ClassId) : Class where
  name := name
  kind := .ordinary
  loader := none
  accessFlags := 33
  super := sup
  interfaces := #[]
  cf := none
  fields := #[]
  methods := #[]
  instanceTypes := #[]
  staticTypes := #[]
  resolved := #[]
  callSites := []
  init := .initialized
  statics := none
  mirror := none

def pool0 : Array CpInfo := pool [(5, u "<init>"), (0, u "()V"), (1, .class_ 10), (1, u "java/lang/Object")] 113

def k0m0 : Method := { name := "<init>", desc := "()V", sig := { parameters := [], returnType := none }, accessFlags := 1, code := none }
/-- java/lang/Object -/
def k0 : Class := { plain "java/lang/Object" none with
  accessFlags := 33
  interfaces := #[]
  cf := some (fileOf pool0 8 #[] #[{ accessFlags := 1, nameIndex := 5, descriptorIndex := 6, attributes := #[] }] 33 0 #[] #[])
  fields := #[]
  methods := #[k0m0]
  instanceTypes := #[]
  staticTypes := #[]
  resolved := Array.replicate 124 none
  statics := none }

def pool1 : Array CpInfo := pool [(2, .class_ 4), (1, u "java/lang/Object"), (0, u "<init>"), (0, u "()V"), (0, .methodref 8 9), (0, .class_ 10), (0, .nameAndType 11 12), (0, u "com/example/cardea/cardea/text/Names"), (0, u "isNameChar"), (0, u "(C)Z"), (0, .class_ 14), (0, u "com/example/cardea/cardea/text/NamesIsNameCharPinLaw"), (2, u "law"), (0, u "(I)Z")] 3

def k1m0 : Method := { name := "<init>", desc := "()V", sig := { parameters := [], returnType := none }, accessFlags := 2, code := none }
def k1c1 : Code := { maxStack := 2, maxLocals := 10, code := code, exceptionTable := #[], attributes := #[] }
def k1m1 : Method := { name := "law", desc := "(I)Z", sig := { parameters := [.int], returnType := some .boolean }, accessFlags := 9, code := some k1c1 }
/-- com/example/cardea/cardea/text/NamesIsNameCharPinLaw -/
def k1 : Class := { plain "com/example/cardea/cardea/text/NamesIsNameCharPinLaw" (some 0) with
  accessFlags := 49
  interfaces := #[]
  cf := some (fileOf pool1 13 #[] #[{ accessFlags := 2, nameIndex := 5, descriptorIndex := 6, attributes := #[] }, { accessFlags := 9, nameIndex := 17, descriptorIndex := 18, attributes := #[] }] 49 2 #[] #[])
  fields := #[]
  methods := #[k1m0, k1m1]
  instanceTypes := #[]
  staticTypes := #[]
  resolved := Array.replicate 22 none
  statics := none }

def pool2 : Array CpInfo := pool [(2, .class_ 4), (1, u "java/lang/Object"), (0, u "<init>"), (0, u "()V"), (15, .class_ 24), (1, u "com/example/cardea/cardea/text/Names"), (0, u "isNameChar"), (0, u "(C)Z")] 34

def k2m0 : Method := { name := "<init>", desc := "()V", sig := { parameters := [], returnType := none }, accessFlags := 2, code := none }
def k2c1 : Code := { maxStack := 2, maxLocals := 1, code := prog_66_method_4_code, exceptionTable := #[], attributes := #[] }
def k2m1 : Method := { name := "isNameChar", desc := "(C)Z", sig := { parameters := [.char], returnType := some .boolean }, accessFlags := 9, code := some k2c1 }
/-- com/example/cardea/cardea/text/Names -/
def k2 : Class := { plain "com/example/cardea/cardea/text/Names" (some 0) with
  accessFlags := 49
  interfaces := #[]
  cf := some (fileOf pool2 22 #[] #[{ accessFlags := 2, nameIndex := 5, descriptorIndex := 6, attributes := #[] }, { accessFlags := 9, nameIndex := 25, descriptorIndex := 26, attributes := #[] }] 49 2 #[] #[])
  fields := #[]
  methods := #[k2m0, k2m1]
  instanceTypes := #[]
  staticTypes := #[]
  resolved := Array.replicate 61 none
  statics := none }

def pool3 : Array CpInfo := pool [(1, u "java/lang/Cloneable"), (0, .class_ 1), (0, u "java/lang/Object"), (0, .class_ 3)] 3

/-- java/lang/Cloneable -/
def k3 : Class := { plain "java/lang/Cloneable" (some 0) with
  accessFlags := 1537
  interfaces := #[]
  cf := some (fileOf pool3 2 #[] #[] 1537 4 #[] #[])
  fields := #[]
  methods := #[]
  instanceTypes := #[]
  staticTypes := #[]
  resolved := Array.replicate 8 none
  statics := none }

def pool4 : Array CpInfo := pool [(1, u "java/io/Serializable"), (0, .class_ 1), (0, u "java/lang/Object"), (0, .class_ 3)] 3

/-- java/io/Serializable -/
def k4 : Class := { plain "java/io/Serializable" (some 0) with
  accessFlags := 1537
  interfaces := #[]
  cf := some (fileOf pool4 2 #[] #[] 1537 4 #[] #[])
  fields := #[]
  methods := #[]
  instanceTypes := #[]
  staticTypes := #[]
  resolved := Array.replicate 8 none
  statics := none }

/-- the primitive byte -/
def k5 : Class := { plain "byte" none with kind := .primitive 'B', accessFlags := 0x411 }
/-- [B -/
def k6 : Class := { plain "[B" (some 0) with kind := .array 5 .byte, interfaces := #[3, 4], accessFlags := 1041 }

/-- the primitive int -/
def k7 : Class := { plain "int" none with kind := .primitive 'I', accessFlags := 0x411 }
/-- [I -/
def k8 : Class := { plain "[I" (some 0) with kind := .array 7 .int, interfaces := #[3, 4], accessFlags := 1041 }

def heap : Heap := #[]
def classes : Array Class := #[k0, k1, k2, k3, k4, k5, k6, k7, k8]
def interned : List (Array UInt16 × Addr) := []
def slotsUsed : Nat := 0
def theMethod : MethodId := ⟨1, 1⟩
def args0 : Array Value := #[.int 97]
def aboutOver (below : List Frame) : State where
  vm := { classes := classes, interned := interned.toArray }
  heap := heap
  slotsUsed := slotsUsed
  threads := #[{ frames := .invoking theMethod args0 :: below }]
def below0 : List Frame := [.native { method := ⟨0, 0⟩, args := #[] }]
def about1 : State := aboutOver below0
def p0 : Program := .bare "" "" ""
def e0 : Env := launch0.env 0 0 0
theorem w_frames : about1.frames = Frame.invoking theMethod args0 :: below0 := rfl
set_option maxRecDepth 65536 in
theorem w_args : argsFit about1.vm theMethod args0 = true := by decide +kernel
set_option maxRecDepth 65536 in
theorem w_heap : heapFits about1 = true := by decide +kernel
set_option maxRecDepth 65536 in
theorem w_runnable : about1.curStatus? = some .runnable := by decide +kernel
set_option maxRecDepth 65536 in
theorem w_alone : about1.alone = true := by decide +kernel
set_option maxRecDepth 65536 in
theorem w_named : about1.methodNamed? x = some theMethod := by decide +kernel
set_option maxRecDepth 65536 in
theorem w_hears : about1.hears theMethod below0 = true := by decide +kernel
set_option maxRecDepth 65536 in
theorem w_ripe : about1.ripe theMethod args0 below0 = true := by decide +kernel
theorem w_running : about1.status = .running := rfl
set_option maxRecDepth 65536 in
theorem w_room : about1.hasRoom e0.platform room_1 = true :=
  launch0.hasRoom_least _ room_1 (by decide +kernel) (by decide +kernel) (by decide +kernel) (by decide +kernel) (by decide +kernel) (by decide +kernel)
theorem allAtoms_all (ts : List Jvm.Cond) (a : Array Jvm.Value) (st : Jvm.State) : (allAtoms ts).before a st = ts.all (fun c => c.before a st) := by
  induction ts with
  | nil => rfl
  | cons c t ih =>
    show (Jvm.Cond.and c (allAtoms t)).before a st = _
    rw [Jvm.Cond.before_and, ih, List.all_cons]
def words1 : List Jvm.Cond := Jvm.Cond.code x code maxLocals ret :: tables_1
/-- a 'code' word, met by the world's own term for the bytes: nothing is compared byte by byte -/
theorem code_word {y : MethodName} {bytes : ByteArray} {mx : Nat} {rt : Option FieldType} {a : Array Value} {s : State} {m : MethodId} {meth : Method} {c : Code} (h1 : s.methodNamed? y = some m) (h2 : s.vm.method? m = some meth) (h3 : meth.code = some c) (h4 : c.code = bytes)
    (h5 : (c.maxLocals == mx && c.exceptionTable.isEmpty && decide (c.maxStack ≤ mostOperands) && decide (meth.sig.returnType = rt) && !meth.locks && decide (parseMethodDescriptor y.desc = some meth.sig)) = true) : (Jvm.Cond.code y bytes mx rt).before a s = true := by
  simp only [Bool.and_eq_true, beq_iff_eq, Bool.not_eq_true', decide_eq_true_eq] at h5
  obtain ⟨⟨⟨⟨⟨g1, g2⟩, g3⟩, g4⟩, g5⟩, g6⟩ := h5
  simp [Cond.before, Cond.holds, Cond.value, h1, h2, h3, h4, g1, g2, g3, g4, g5, g6]
def isCode : Jvm.Cond → Bool
  | .code _ _ _ _ => true
  | _ => false
theorem all_split {L : List Jvm.Cond} {P : Jvm.Cond → Bool} (h1 : L.all (fun c => isCode c || P c) = true) (h2 : ∀ c ∈ L.filter isCode, P c = true) : L.all P = true := by
  refine List.all_eq_true.mpr fun c hc => ?_
  have h := List.all_eq_true.mp h1 c hc
  rcases Bool.eq_false_or_eq_true (isCode c) with hi | hi
  · exact h2 c (List.mem_filter.mpr ⟨hc, hi⟩)
  · simpa [hi] using h
set_option maxRecDepth 65536 in
theorem w_c0 : (Jvm.Cond.code x code maxLocals ret).before args0 about1 = true := code_word (m := ⟨1, 1⟩) (meth := k1m1) (c := k1c1) (by decide +kernel) rfl rfl rfl (by decide +kernel)
set_option maxRecDepth 65536 in
theorem w_c1 : (Jvm.Cond.code ({ cls := "com/example/cardea/cardea/text/Names", name := "isNameChar", desc := "(C)Z" } : Jvm.MethodName) prog_66_method_4_code (1 : Nat) (Option.some Jvm.ClassFile.FieldType.boolean)).before args0 about1 = true := code_word (m := ⟨2, 1⟩) (meth := k2m1) (c := k2c1) (by decide +kernel) rfl rfl rfl (by decide +kernel)
def codes1 : List Jvm.Cond := [Jvm.Cond.code x code maxLocals ret, Jvm.Cond.code ({ cls := "com/example/cardea/cardea/text/Names", name := "isNameChar", desc := "(C)Z" } : Jvm.MethodName) prog_66_method_4_code (1 : Nat) (Option.some Jvm.ClassFile.FieldType.boolean)]
set_option maxRecDepth 65536 in
theorem codes_eq : words1.filter isCode = codes1 := rfl
theorem w_codes : ∀ c ∈ words1.filter isCode, c.before args0 about1 = true := by
  rw [codes_eq]
  intro c hc
  simp only [codes1, List.mem_cons, List.not_mem_nil, or_false] at hc
  rcases hc with rfl | rfl
  · exact w_c0
  · exact w_c1
set_option maxRecDepth 65536 in
theorem w_t1 : words1.all (fun c => isCode c || c.before args0 about1) = true := by decide +kernel
theorem w_tables : (allAtoms (Jvm.Cond.code x code maxLocals ret :: tables_1)).before args0 about1 = true := by
  rw [allAtoms_all]
  show words1.all (fun c => c.before args0 about1) = true
  refine all_split ?_ w_codes
  rw [w_t1]
set_option maxRecDepth 65536 in
theorem w_case : (Jvm.Cond.and given_1 narrow_1).before args0 about1 = true := by decide +kernel
theorem w_applies : (headSpec (Jvm.Cond.code x code maxLocals ret :: tables_1) room_1).applies x e0.platform about1 = true :=
  (Spec.applies_iff w_frames).mpr ⟨w_running, w_runnable, w_alone, w_named, w_hears, w_ripe, w_room, w_tables⟩
theorem atStart : AtStart classFile x code maxLocals ret World_1 tables_1 room_1 Calls_1 rest_1 Pre_1 launch0 p0 e0 about1 theMethod args0 below0 :=
  ⟨lists_1, trivial, launch0.admits_env _ _ _, launch0.least_env, fairChoices_fair.cas, fairChoices_fair.clock, w_frames, w_args, w_heap, w_applies, trivial, trivial, w_case⟩
end start1
theorem witness_1 : WitnessClaimed_1 := ⟨start1.p0, start1.e0, start1.about1, start1.theMethod, start1.args0, start1.below0, start1.atStart⟩
end Jvm.Pilot.@@N@@
