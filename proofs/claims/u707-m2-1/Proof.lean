import JvmDerived
import JvmDerived.Pilot.@@N@@Statement
import JvmDerived.Pilot.@@N@@Code
set_option linter.unusedVariables false
set_option linter.unusedSimpArgs false
namespace Jvm.Pilot.@@N@@
open Jvm Jvm.ClassFile Sem Op Lib Jvm.Free Jvm.Stand Jvm.LawKit Jvm.RoadKit Bundle Jvm.Pilot.@@N@@.Jvm.D
theorem own_ifc {P Q : Prop} [Decidable P] [Decidable Q] {α : Type} {a b : α} (h : P ↔ Q) : (if P then a else b) = if Q then a else b := by
  by_cases q : P
  · rw [if_pos q, if_pos (h.mp q)]
  · rw [if_neg q, if_neg (fun r => q (h.mpr r))]
theorem own_lc_eq {x y : Int64} (h : x = y) : ifCond.holds .eq (lcmpW x y) = true ∧ ifCond.holds .ne (lcmpW x y) = false := ⟨(if0 _ _).trans (teq ((lw_eq x y).mpr h)).1, (if0 _ _).trans (teq ((lw_eq x y).mpr h)).2⟩
theorem own_lc_ne {x y : Int64} (h : ¬ x = y) : ifCond.holds .eq (lcmpW x y) = false ∧ ifCond.holds .ne (lcmpW x y) = true := ⟨(if0 _ _).trans (feq (mt (lw_eq x y).mp h)).1, (if0 _ _).trans (feq (mt (lw_eq x y).mp h)).2⟩
theorem own_lc_lt {x y : Int64} (h : x < y) : ifCond.holds .lt (lcmpW x y) = true ∧ ifCond.holds .ge (lcmpW x y) = false := ⟨(if0 _ _).trans (tlt ((lw_lt x y).mpr h)).1, (if0 _ _).trans (tlt ((lw_lt x y).mpr h)).2.1⟩
theorem own_lc_nlt {x y : Int64} (h : ¬ x < y) : ifCond.holds .lt (lcmpW x y) = false ∧ ifCond.holds .ge (lcmpW x y) = true := ⟨(if0 _ _).trans (flt (mt (lw_lt x y).mp h)).1, (if0 _ _).trans (flt (mt (lw_lt x y).mp h)).2.1⟩
theorem own_lc_gt {x y : Int64} (h : y < x) : ifCond.holds .gt (lcmpW x y) = true ∧ ifCond.holds .le (lcmpW x y) = false := ⟨(if0 _ _).trans (tlt ((lw_gt x y).mpr h)).2.2.1, (if0 _ _).trans (tlt ((lw_gt x y).mpr h)).2.2.2⟩
theorem own_lc_ngt {x y : Int64} (h : ¬ y < x) : ifCond.holds .gt (lcmpW x y) = false ∧ ifCond.holds .le (lcmpW x y) = true := ⟨(if0 _ _).trans (flt (mt (lw_gt x y).mp h)).2.2.1, (if0 _ _).trans (flt (mt (lw_gt x y).mp h)).2.2.2⟩
/-! an array of n longs that holds f 0 .. f (n - 1) -/
def own_ar (Z : State) (h : Heap) (a : Addr) (n : Nat) (f : Nat → Int64) : Prop := ∃ c : Cell, Arr Z h a c .long ∧ c.slots.size = n ∧ ∀ k, k < n → c.slots[k]? = some (.long (f k))
theorem own_ext {Z : State} {h h' : Heap} {a : Addr} {n : Nat} {f : Nat → Int64} (V : own_ar Z h a n f) (E : Ext h h') : own_ar Z h' a n f := by obtain ⟨c, A, r⟩ := V; exact ⟨c, A.ext E, r⟩
theorem own_other {Z : State} {h h' : Heap} {a b : Addr} {n sl : Nat} {v : Value} {f : Nat → Int64} (V : own_ar Z h b n f) (W : Wr h h' a sl v) (q : b ≠ a) : own_ar Z h' b n f := by obtain ⟨c, A, r⟩ := V; exact ⟨c, A.other W q, r⟩
theorem own_keep {Z : State} {h h' : Heap} {a : Addr} {n : Nat} {ws : List Addr} {f : Nat → Int64} (V : own_ar Z h a n f) (K : Keep h h' ws) (q : a ∉ ws) : own_ar Z h' a n f := by obtain ⟨c, A, r⟩ := V; exact ⟨c, ⟨K.2.1 a c A.1 q, A.2⟩, r⟩
theorem own_lt {Z : State} {h : Heap} {a : Addr} {n : Nat} {f : Nat → Int64} (V : own_ar Z h a n f) : a < h.size := by obtain ⟨c, A, -⟩ := V; exact A.lt
theorem own_congr {Z : State} {h : Heap} {a : Addr} {n : Nat} {f g : Nat → Int64} (V : own_ar Z h a n f) (q : ∀ k, k < n → f k = g k) : own_ar Z h a n g := by obtain ⟨c, A, S, H⟩ := V; exact ⟨c, A, S, fun k hk => by rw [← q k hk]; exact H k hk⟩
theorem own_newA {Z : State} {h : Heap} {a : Addr} {k : ClassId} {n : Int32} {N : Nat} (A : Arr Z h a (newA k .long n) .long) (e : n.toNatClampNeg = N) : own_ar Z h a N (fun _ => 0) :=
  ⟨_, A, (sz_new _ _ _).trans e, fun i hi => by
    show (Array.replicate n.toNatClampNeg (defaultValue .long))[i]? = some (.long 0)
    rw [Array.getElem?_replicate, if_pos (by omega)]; rfl⟩
theorem own_store {Z : State} {h h' : Heap} {a : Addr} {n : Nat} {f : Nat → Int64} {c : Cell} {j : Nat} {J : Int32} {v : Int64} (A : Arr Z h a c .long) (S : c.slots.size = n) (H : ∀ k, k < n → c.slots[k]? = some (.long (f k))) (W : Wr h h' a J.toNatClampNeg (.long v)) (e : J.toNatClampNeg = j) : own_ar Z h' a n (fun k => if k = j then v else f k) := by
  rw [e] at W
  refine ⟨_, A.same W, (sz_set _ _ _).trans S, fun k hk => ?_⟩
  show (c.slots.setIfInBounds j (.long v))[k]? = _
  rw [Array.getElem?_setIfInBounds]
  by_cases q : j = k
  · subst q
    rw [if_pos rfl, if_pos (by omega)]
    show some (Value.long v) = some (Value.long (if j = j then v else f j))
    rw [if_pos rfl]
  · rw [if_neg q, H k hk]
    show some (Value.long (f k)) = some (Value.long (if k = j then v else f k))
    rw [if_neg (fun r : k = j => q r.symm)]
/-- the indices -/
theorem own_clamp {x : Int32} {i : Nat} (h : x.toInt = (i : Int)) : x.toNatClampNeg = i := by show x.toInt.toNat = i; omega
theorem own_nneg {x : Int32} (h : 0 ≤ x.toInt) : ¬ x < 0 := by
  have e0 : (0 : Int32).toInt = 0 := by decide +kernel
  rw [Int32.lt_iff_toInt_lt, e0]; omega
theorem own_in {x : Int32} {i n : Nat} {c : Cell} (h : x.toInt = (i : Int)) (S : c.slots.size = n) (q : i < n) : ¬ (x < 0 ∨ c.slots.size ≤ x.toNatClampNeg) := by
  rw [own_clamp h, S]
  exact fun r => r.elim (own_nneg (by omega)) (fun r => by omega)
theorem own_at {x : Int32} {i n : Nat} {c : Cell} {f : Nat → Int64} (h : x.toInt = (i : Int)) (H : ∀ k, k < n → c.slots[k]? = some (.long (f k))) (q : i < n) : c.slots[x.toNatClampNeg]? = some (.long (f i)) := by rw [own_clamp h]; exact H i q
theorem own_sub {x r : Int32} {i : Nat} (h : x.toInt = (i : Int)) (h0 : 0 ≤ r.toInt) (h1 : r.toInt ≤ (i : Int)) : (x - r).toInt = ((i - r.toInt.toNat : Nat) : Int) := by
  have a := c_isub x r
  have r1 := rng32 x
  have r2 := rng32 r
  have r3 := rng32 (x - r)
  omega
/-! what one place becomes -/
abbrev own_imp (f : Nat → Int64) (r : Int32) (w : Int64) (i : Nat) : Prop := r.toInt ≤ (i : Int) ∧ f i < f (i - r.toInt.toNat) + w
def own_new (f : Nat → Int64) (r : Int32) (w : Int64) (i : Nat) : Int64 := if own_imp f r w i then f (i - r.toInt.toNat) + w else f i
def own_pw : Nat → Int64
  | 0 => 1
  | 1 => 2
  | 2 => 4
  | _ => 8
def own_bit (f : Nat → Int64) (r : Int32) (w : Int64) (i : Nat) : Int64 := if own_imp f r w i then own_pw i else 0
def own_or (f : Nat → Int64) (r : Int32) (w : Int64) : Nat → Int64 → Int64
  | 0, t => t
  | n + 1, t => own_or f r w n (t ||| own_bit f r w n)
theorem own_or0 (f : Nat → Int64) (r : Int32) (w : Int64) : ∀ (n : Nat) (t : Int64), (∀ k, k < n → ¬ own_imp f r w k) → own_or f r w n t = t
  | 0, t, _ => rfl
  | n + 1, t, q => by
    show own_or f r w n (t ||| own_bit f r w n) = t
    have z : own_bit f r w n = 0 := if_neg (q n (Nat.lt_succ_self n))
    rw [z, Int64.or_zero]
    exact own_or0 f r w n t (fun k hk => q k (Nat.lt_succ_of_lt hk))
theorem own_swap (t a b c d : Int64) : (((t ||| d) ||| c) ||| b) ||| a = (((t ||| a) ||| b) ||| c) ||| d := by
  apply Int64.toBitVec_inj.mp
  show (((t.toBitVec ||| d.toBitVec) ||| c.toBitVec) ||| b.toBitVec) ||| a.toBitVec = (((t.toBitVec ||| a.toBitVec) ||| b.toBitVec) ||| c.toBitVec) ||| d.toBitVec
  ac_rfl
theorem own_or4 (f : Nat → Int64) (r : Int32) (w t : Int64) : own_or f r w 4 t = (((t ||| own_bit f r w 0) ||| own_bit f r w 1) ||| own_bit f r w 2) ||| own_bit f r w 3 := by
  show (((t ||| own_bit f r w 3) ||| own_bit f r w 2) ||| own_bit f r w 1) ||| own_bit f r w 0 = _
  exact own_swap t _ _ _ _
theorem own_shl {x : Int32} {i : Nat} (h : x.toInt = (i : Int)) (q : i < 4) : ((1 : Int64) <<< (x &&& 0x3f).toInt64) = own_pw i := by
  have e : x = Int32.ofInt (i : Int) := by rw [← h, Int32.ofInt_toInt]
  rw [e]
  have : ∀ j : Fin 4, ((1 : Int64) <<< ((Int32.ofInt (j.val : Int)) &&& 0x3f).toInt64) = own_pw j.val := by decide +kernel
  exact this ⟨i, q⟩
theorem own_shr {x : Int32} {i : Nat} (h : x.toInt = (i : Int)) (q : i < 4) : ((x.toUInt32 >>> ((6 : Int32) &&& 31).toUInt32).toInt32).toInt = ((0 : Nat) : Int) := by
  have e : x = Int32.ofInt (i : Int) := by rw [← h, Int32.ofInt_toInt]
  rw [e]
  have : ∀ j : Fin 4, (((Int32.ofInt (j.val : Int)).toUInt32 >>> ((6 : Int32) &&& 31).toUInt32).toInt32).toInt = ((0 : Nat) : Int) := by decide +kernel
  exact this ⟨i, q⟩
theorem own_dec {x : Int32} {i : Nat} (h : x.toInt = (i : Int)) (q : i < 4) : (x + (-1 : Int32)).toInt = (i : Int) - 1 := by
  have a := c_iadd x (-1 : Int32)
  have e : (-1 : Int32).toInt = -1 := by decide +kernel
  have r := rng32 (x + (-1 : Int32))
  rw [e] at a
  omega
theorem own_lts {x y : Int32} : x < y ↔ x.toInt < y.toInt := Int32.lt_iff_toInt_lt
def own_f (a b c d : Int64) : Nat → Int64
  | 0 => a
  | 1 => b
  | 2 => c
  | _ => d
theorem own_four (a b c d : Int64) : ∀ k, k < 4 → (if k = 3 then d else if k = 2 then c else if k = 1 then b else if k = 0 then a else 0) = own_f a b c d k
  | 0, _ => rfl
  | 1, _ => rfl
  | 2, _ => rfl
  | 3, _ => rfl
  | _ + 4, h => absurd h (by omega)
theorem own_zero {P : Prop} [Decidable P] {z : Int32} (h : z = if P then (1 : Int32) else 0) : (z = (0 : Int32) → ¬ P) ∧ (¬ z = (0 : Int32) → P) := by
  by_cases p : P
  · rw [if_pos p] at h; exact ⟨fun q => absurd (h.symm.trans q) (by decide), fun _ => p⟩
  · rw [if_neg p] at h; exact ⟨fun _ => p, fun q => absurd h q⟩
/-- the two slots of the long that the loop writes: unset, or a long -/
def own_s67 (s6 s7 : Slot) : Prop := (s6 = .unset ∧ s7 = .unset) ∨ ∃ w : Int64, s6 = .val (.long w) ∧ s7 = .second
theorem d3_0 : decode method_2_code 0 = .ok (.iload_n 1, 1) := by decide +kernel
theorem d3_1 : decode method_2_code 1 = .ok (.iload_n 2, 1) := by decide +kernel
theorem d3_2 : decode method_2_code 2 = .ok (.if_icmp .ge 5, 3) := by decide +kernel
theorem d3_5 : decode method_2_code 5 = .ok (.iconst 0, 1) := by decide +kernel
theorem d3_6 : decode method_2_code 6 = .ok (.ireturn, 1) := by decide +kernel
theorem d3_7 : decode method_2_code 7 = .ok (.aload_n 0, 1) := by decide +kernel
theorem d3_8 : decode method_2_code 8 = .ok (.iload_n 1, 1) := by decide +kernel
theorem d3_9 : decode method_2_code 9 = .ok (.iload_n 2, 1) := by decide +kernel
theorem d3_10 : decode method_2_code 10 = .ok (.isub, 1) := by decide +kernel
theorem d3_11 : decode method_2_code 11 = .ok (.laload, 1) := by decide +kernel
theorem d3_12 : decode method_2_code 12 = .ok (.lload_n 3, 1) := by decide +kernel
theorem d3_13 : decode method_2_code 13 = .ok (.ladd, 1) := by decide +kernel
theorem d3_14 : decode method_2_code 14 = .ok (.aload_n 0, 1) := by decide +kernel
theorem d3_15 : decode method_2_code 15 = .ok (.iload_n 1, 1) := by decide +kernel
theorem d3_16 : decode method_2_code 16 = .ok (.laload, 1) := by decide +kernel
theorem d3_17 : decode method_2_code 17 = .ok (.lcmp, 1) := by decide +kernel
theorem d3_18 : decode method_2_code 18 = .ok (.ifCond .le 7, 3) := by decide +kernel
theorem d3_21 : decode method_2_code 21 = .ok (.iconst 1, 1) := by decide +kernel
theorem d3_22 : decode method_2_code 22 = .ok (.goto 4, 3) := by decide +kernel
theorem d3_25 : decode method_2_code 25 = .ok (.iconst 0, 1) := by decide +kernel
theorem d3_26 : decode method_2_code 26 = .ok (.ireturn, 1) := by decide +kernel
theorem pn_3 : plainName "com/example/chromabin/chromabin/packing/RoomKnapsackIncludePinLaw" = true := by first | (simp [plainName, overriddenIn]; done) | decide +kernel
theorem ef_3 (m : MethodId) (x0 : Addr) (x1 : Int32) (x2 : Int32) (x3 : Int64) : entryFrame m #[(.ref x0), (.int x1), (.int x2), (.long x3)] 5 = mkF m 0 #[.val (.ref x0), .val (.int x1), .val (.int x2), .val (.long x3), .second] [] := by first | (simp [entryFrame, mkF, argsToLocals, Value.category]; done) | rfl
def Q3 (Z : State) (a1 : Addr) (p2 : Int32) (p3 : Int32) (q4 : Int64) (f : Nat → Int64) (i : Nat) (h0 : Heap) (n0 : Nat) (v : Option Value) (h : Heap) (L : List Loc) : Prop := (∃ z : Int32, v = some (.int z) ∧ z = if own_imp f p3 q4 i then (1 : Int32) else 0) ∧ Fr n0 L ∧ h = h0
set_option maxRecDepth 65536 in
set_option maxHeartbeats 40000000 in
theorem rm3 (l : Launch) (Z : State) (a0 : Array Value) (hw : ∀ d ∈ tables_1, d.before a0 Z = true) (ws : List Jvm.Cond) (a1 : Addr) (p2 : Int32) (p3 : Int32) (q4 : Int64) (f : Nat → Int64) (i : Nat) (h0 : Heap) (n0 : Nat) (Z0 : n0 ≤ h0.size) (V : own_ar Z h0 a1 4 f) (hi : p2.toInt = (i : Int)) (hi4 : i < 4) (hr0 : 0 ≤ p3.toInt) :
    MetFree l (⟨"com/example/chromabin/chromabin/packing/RoomKnapsackIncludePinLaw", "improves", "([JIIJ)Z"⟩ : MethodName) (head1 (Jvm.Cond.code (⟨"com/example/chromabin/chromabin/packing/RoomKnapsackIncludePinLaw", "improves", "([JIIJ)Z"⟩ : MethodName) method_2_code 5 (some .boolean) :: ws) ({ frames := 0, cells := 0, slots := 0, locals := 0 } : Room)) (fun a U => a = #[(.ref a1), (.int p2), (.int p3), (.long q4)] ∧ Z.Warmed39 U.vm ∧ U.heap = h0) (fun _ _ _ _ _ => True) (fun _ U o U' => ∃ v L, o = .returned v ∧ Q3 Z a1 p2 p3 q4 f i h0 n0 v U'.heap L ∧ FrameEnd U o U' L ({ frames := 0, cells := 0, slots := 0, locals := 0 } : Room).cells ({ frames := 0, cells := 0, slots := 0, locals := 0 } : Room).slots) := by
  refine MetFree.of_bodySF (plainFor_of_name pn_3) hisR ?_
  intro p e s m args below meth c s₁ Bd hml0 hP hK
  obtain ⟨rfl, hZ, hh⟩ := hP
  have hx := Bd.exec
  have hby := Bd.bytes
  have hml : c.maxLocals = 5 := hml0
  have hown : s.vm.findClass "com/example/chromabin/chromabin/packing/RoomKnapsackIncludePinLaw" = some m.cls := findClass_of_methodNamed Bd.named
  have hnm := (name_of_methodNamed Bd.named Bd.method).1
  have X0 : Stand p l e ({ frames := 0, cells := 0, slots := 0, locals := 0 } : Room) s m #[(.ref a1), (.int p2), (.int p3), (.long q4)] below meth c s₁ [] 0 0 := Stand.of_body Bd
  have e0 : s₁.heap = h0 := by rw [← hh, Bd.state]; rfl
  have N0 := Fr.nil n0
  have pre0 : ∀ t, Steps p.tables e below (s₁.setTop (mkF m 0 #[.val (.ref a1), .val (.int p2), .val (.int p3), .val (.long q4), .second] [])) t → Steps p.tables e below (s₁.setTop (entryFrame m #[(.ref a1), (.int p2), (.int p3), (.long q4)] 5)) t := fun t k => castTop (ef_3 m a1 p2 p3 q4) k
  obtain ⟨c1, A1, S1, H1⟩ := V
  by_cases c2 : p2 < p3
  · obtain ⟨fs, hr, hrun, hended, hW, hsame⟩ := X0.leave (v := some (.int (0 : Int32))) (fun h => by rw [Bd.returns] at h; cases h)
    refine ⟨_, _, pre0 _ ?_, hrun, hended, _, _, rfl, ?_, ⟨_, rfl⟩, hW, hsame.mono (by decide) (by decide)⟩
    · show Steps p.tables e below (s₁.setTop (mkF m 0 #[.val (.ref a1), .val (.int p2), .val (.int p3), .val (.long q4), .second] [])) _
      refine XS.iloadN X0.here hx rfl (hb hby d3_0) rfl ?_
      show Steps p.tables e below (s₁.setTop (mkF m 1 #[.val (.ref a1), .val (.int p2), .val (.int p3), .val (.long q4), .second] [(.int p2)])) _
      refine XS.iloadN X0.here hx rfl (hb hby d3_1) rfl ?_
      show Steps p.tables e below (s₁.setTop (mkF m 2 #[.val (.ref a1), .val (.int p2), .val (.int p3), .val (.long q4), .second] [(.int p3), (.int p2)])) _
      refine XS.icmpNo X0.here hx rfl (hb hby d3_2) rfl (tlt c2).2.1 ?_
      show Steps p.tables e below (s₁.setTop (mkF m 5 #[.val (.ref a1), .val (.int p2), .val (.int p3), .val (.long q4), .second] [])) _
      refine XS.iconst X0.here hx rfl (hb hby d3_5) ?_
      show Steps p.tables e below (s₁.setTop (mkF m 6 #[.val (.ref a1), .val (.int p2), .val (.int p3), .val (.long q4), .second] [(.int (0 : Int32))])) _
      exact retN X0 hx (t := .boolean) Bd.returns (by simp) (hb hby d3_6) hr
    · show Q3 Z a1 p2 p3 q4 f i h0 n0 _ s₁.heap _
      rw [e0]
      exact ⟨⟨_, rfl, (if_neg (fun q => by have h1 := q.1; have h2 := own_lts.mp c2; omega)).symm⟩, N0, rfl⟩
  · have hri : p3.toInt ≤ (i : Int) := by have := mt own_lts.mpr c2; omega
    have js := own_sub hi hr0 hri
    have hin11 := own_in js S1 (show i - p3.toInt.toNat < 4 by omega)
    have hat11 := own_at js H1 (show i - p3.toInt.toNat < 4 by omega)
    have hin16 := own_in hi S1 hi4
    have hat16 := own_at hi H1 hi4
    by_cases c18 : f i < (f (i - p3.toInt.toNat) + q4)
    · obtain ⟨fs, hr, hrun, hended, hW, hsame⟩ := X0.leave (v := some (.int (1 : Int32))) (fun h => by rw [Bd.returns] at h; cases h)
      refine ⟨_, _, pre0 _ ?_, hrun, hended, _, _, rfl, ?_, ⟨_, rfl⟩, hW, hsame.mono (by decide) (by decide)⟩
      · show Steps p.tables e below (s₁.setTop (mkF m 0 #[.val (.ref a1), .val (.int p2), .val (.int p3), .val (.long q4), .second] [])) _
        refine XS.iloadN X0.here hx rfl (hb hby d3_0) rfl ?_
        show Steps p.tables e below (s₁.setTop (mkF m 1 #[.val (.ref a1), .val (.int p2), .val (.int p3), .val (.long q4), .second] [(.int p2)])) _
        refine XS.iloadN X0.here hx rfl (hb hby d3_1) rfl ?_
        show Steps p.tables e below (s₁.setTop (mkF m 2 #[.val (.ref a1), .val (.int p2), .val (.int p3), .val (.long q4), .second] [(.int p3), (.int p2)])) _
        refine XS.icmpYes X0.here hx rfl (pc0 := 2) (pc' := 7) rfl (hb hby d3_2) rfl (flt c2).2.1 (by decide) (by decide) ?_
        show Steps p.tables e below (s₁.setTop (mkF m 7 #[.val (.ref a1), .val (.int p2), .val (.int p3), .val (.long q4), .second] [])) _
        refine XS.aloadN X0.here hx rfl (hb hby d3_7) rfl rfl ?_
        show Steps p.tables e below (s₁.setTop (mkF m 8 #[.val (.ref a1), .val (.int p2), .val (.int p3), .val (.long q4), .second] [(.ref a1)])) _
        refine XS.iloadN X0.here hx rfl (hb hby d3_8) rfl ?_
        show Steps p.tables e below (s₁.setTop (mkF m 9 #[.val (.ref a1), .val (.int p2), .val (.int p3), .val (.long q4), .second] [(.int p2), (.ref a1)])) _
        refine XS.iloadN X0.here hx rfl (hb hby d3_9) rfl ?_
        show Steps p.tables e below (s₁.setTop (mkF m 10 #[.val (.ref a1), .val (.int p2), .val (.int p3), .val (.long q4), .second] [(.int p3), (.int p2), (.ref a1)])) _
        refine XS.isub X0.here hx rfl (hb hby d3_10) rfl ?_
        show Steps p.tables e below (s₁.setTop (mkF m 11 #[.val (.ref a1), .val (.int p2), .val (.int p3), .val (.long q4), .second] [(.int (p2 - p3)), (.ref a1)])) _
        refine X0.laload hx (j := (p2 - p3)) (v := (.long (f (i - p3.toInt.toNat)))) (by rw [e0]; exact A1.1) (State.isArrayOf_alike hZ.alike A1.2.1) A1.2.2 hin11 hat11 (g := (mkF m 11 #[.val (.ref a1), .val (.int p2), .val (.int p3), .val (.long q4), .second] [(.int (p2 - p3)), (.ref a1)])) rfl rfl (hb hby d3_11) _ ?_
        show Steps p.tables e below (s₁.setTop (mkF m 12 #[.val (.ref a1), .val (.int p2), .val (.int p3), .val (.long q4), .second] [(.long (f (i - p3.toInt.toNat)))])) _
        refine XS.lloadN X0.here hx rfl (hb hby d3_12) rfl ?_
        show Steps p.tables e below (s₁.setTop (mkF m 13 #[.val (.ref a1), .val (.int p2), .val (.int p3), .val (.long q4), .second] [(.long q4), (.long (f (i - p3.toInt.toNat)))])) _
        refine XS.ladd X0.here hx rfl (hb hby d3_13) rfl ?_
        show Steps p.tables e below (s₁.setTop (mkF m 14 #[.val (.ref a1), .val (.int p2), .val (.int p3), .val (.long q4), .second] [(.long ((f (i - p3.toInt.toNat)) + q4))])) _
        refine XS.aloadN X0.here hx rfl (hb hby d3_14) rfl rfl ?_
        show Steps p.tables e below (s₁.setTop (mkF m 15 #[.val (.ref a1), .val (.int p2), .val (.int p3), .val (.long q4), .second] [(.ref a1), (.long ((f (i - p3.toInt.toNat)) + q4))])) _
        refine XS.iloadN X0.here hx rfl (hb hby d3_15) rfl ?_
        show Steps p.tables e below (s₁.setTop (mkF m 16 #[.val (.ref a1), .val (.int p2), .val (.int p3), .val (.long q4), .second] [(.int p2), (.ref a1), (.long ((f (i - p3.toInt.toNat)) + q4))])) _
        refine X0.laload hx (j := p2) (v := (.long (f i))) (by rw [e0]; exact A1.1) (State.isArrayOf_alike hZ.alike A1.2.1) A1.2.2 hin16 hat16 (g := (mkF m 16 #[.val (.ref a1), .val (.int p2), .val (.int p3), .val (.long q4), .second] [(.int p2), (.ref a1), (.long ((f (i - p3.toInt.toNat)) + q4))])) rfl rfl (hb hby d3_16) _ ?_
        show Steps p.tables e below (s₁.setTop (mkF m 17 #[.val (.ref a1), .val (.int p2), .val (.int p3), .val (.long q4), .second] [(.long (f i)), (.long ((f (i - p3.toInt.toNat)) + q4))])) _
        refine XS.lcmp X0.here hx rfl (hb hby d3_17) rfl ?_
        show Steps p.tables e below (s₁.setTop (mkF m 18 #[.val (.ref a1), .val (.int p2), .val (.int p3), .val (.long q4), .second] [(.int (lcmpW ((f (i - p3.toInt.toNat)) + q4) (f i)))])) _
        refine XS.ifNo X0.here hx rfl (hb hby d3_18) rfl (own_lc_gt c18).2 ?_
        show Steps p.tables e below (s₁.setTop (mkF m 21 #[.val (.ref a1), .val (.int p2), .val (.int p3), .val (.long q4), .second] [])) _
        refine XS.iconst X0.here hx rfl (hb hby d3_21) ?_
        show Steps p.tables e below (s₁.setTop (mkF m 22 #[.val (.ref a1), .val (.int p2), .val (.int p3), .val (.long q4), .second] [(.int (1 : Int32))])) _
        refine XS.goto X0.here hx rfl (pc0 := 22) (pc' := 26) rfl (hb hby d3_22) (by decide) (by decide) ?_
        show Steps p.tables e below (s₁.setTop (mkF m 26 #[.val (.ref a1), .val (.int p2), .val (.int p3), .val (.long q4), .second] [(.int (1 : Int32))])) _
        exact retN X0 hx (t := .boolean) Bd.returns (by simp) (hb hby d3_26) hr
      · show Q3 Z a1 p2 p3 q4 f i h0 n0 _ s₁.heap _
        rw [e0]
        exact ⟨⟨_, rfl, (if_pos ⟨hri, c18⟩).symm⟩, N0, rfl⟩
    · obtain ⟨fs, hr, hrun, hended, hW, hsame⟩ := X0.leave (v := some (.int (0 : Int32))) (fun h => by rw [Bd.returns] at h; cases h)
      refine ⟨_, _, pre0 _ ?_, hrun, hended, _, _, rfl, ?_, ⟨_, rfl⟩, hW, hsame.mono (by decide) (by decide)⟩
      · show Steps p.tables e below (s₁.setTop (mkF m 0 #[.val (.ref a1), .val (.int p2), .val (.int p3), .val (.long q4), .second] [])) _
        refine XS.iloadN X0.here hx rfl (hb hby d3_0) rfl ?_
        show Steps p.tables e below (s₁.setTop (mkF m 1 #[.val (.ref a1), .val (.int p2), .val (.int p3), .val (.long q4), .second] [(.int p2)])) _
        refine XS.iloadN X0.here hx rfl (hb hby d3_1) rfl ?_
        show Steps p.tables e below (s₁.setTop (mkF m 2 #[.val (.ref a1), .val (.int p2), .val (.int p3), .val (.long q4), .second] [(.int p3), (.int p2)])) _
        refine XS.icmpYes X0.here hx rfl (pc0 := 2) (pc' := 7) rfl (hb hby d3_2) rfl (flt c2).2.1 (by decide) (by decide) ?_
        show Steps p.tables e below (s₁.setTop (mkF m 7 #[.val (.ref a1), .val (.int p2), .val (.int p3), .val (.long q4), .second] [])) _
        refine XS.aloadN X0.here hx rfl (hb hby d3_7) rfl rfl ?_
        show Steps p.tables e below (s₁.setTop (mkF m 8 #[.val (.ref a1), .val (.int p2), .val (.int p3), .val (.long q4), .second] [(.ref a1)])) _
        refine XS.iloadN X0.here hx rfl (hb hby d3_8) rfl ?_
        show Steps p.tables e below (s₁.setTop (mkF m 9 #[.val (.ref a1), .val (.int p2), .val (.int p3), .val (.long q4), .second] [(.int p2), (.ref a1)])) _
        refine XS.iloadN X0.here hx rfl (hb hby d3_9) rfl ?_
        show Steps p.tables e below (s₁.setTop (mkF m 10 #[.val (.ref a1), .val (.int p2), .val (.int p3), .val (.long q4), .second] [(.int p3), (.int p2), (.ref a1)])) _
        refine XS.isub X0.here hx rfl (hb hby d3_10) rfl ?_
        show Steps p.tables e below (s₁.setTop (mkF m 11 #[.val (.ref a1), .val (.int p2), .val (.int p3), .val (.long q4), .second] [(.int (p2 - p3)), (.ref a1)])) _
        refine X0.laload hx (j := (p2 - p3)) (v := (.long (f (i - p3.toInt.toNat)))) (by rw [e0]; exact A1.1) (State.isArrayOf_alike hZ.alike A1.2.1) A1.2.2 hin11 hat11 (g := (mkF m 11 #[.val (.ref a1), .val (.int p2), .val (.int p3), .val (.long q4), .second] [(.int (p2 - p3)), (.ref a1)])) rfl rfl (hb hby d3_11) _ ?_
        show Steps p.tables e below (s₁.setTop (mkF m 12 #[.val (.ref a1), .val (.int p2), .val (.int p3), .val (.long q4), .second] [(.long (f (i - p3.toInt.toNat)))])) _
        refine XS.lloadN X0.here hx rfl (hb hby d3_12) rfl ?_
        show Steps p.tables e below (s₁.setTop (mkF m 13 #[.val (.ref a1), .val (.int p2), .val (.int p3), .val (.long q4), .second] [(.long q4), (.long (f (i - p3.toInt.toNat)))])) _
        refine XS.ladd X0.here hx rfl (hb hby d3_13) rfl ?_
        show Steps p.tables e below (s₁.setTop (mkF m 14 #[.val (.ref a1), .val (.int p2), .val (.int p3), .val (.long q4), .second] [(.long ((f (i - p3.toInt.toNat)) + q4))])) _
        refine XS.aloadN X0.here hx rfl (hb hby d3_14) rfl rfl ?_
        show Steps p.tables e below (s₁.setTop (mkF m 15 #[.val (.ref a1), .val (.int p2), .val (.int p3), .val (.long q4), .second] [(.ref a1), (.long ((f (i - p3.toInt.toNat)) + q4))])) _
        refine XS.iloadN X0.here hx rfl (hb hby d3_15) rfl ?_
        show Steps p.tables e below (s₁.setTop (mkF m 16 #[.val (.ref a1), .val (.int p2), .val (.int p3), .val (.long q4), .second] [(.int p2), (.ref a1), (.long ((f (i - p3.toInt.toNat)) + q4))])) _
        refine X0.laload hx (j := p2) (v := (.long (f i))) (by rw [e0]; exact A1.1) (State.isArrayOf_alike hZ.alike A1.2.1) A1.2.2 hin16 hat16 (g := (mkF m 16 #[.val (.ref a1), .val (.int p2), .val (.int p3), .val (.long q4), .second] [(.int p2), (.ref a1), (.long ((f (i - p3.toInt.toNat)) + q4))])) rfl rfl (hb hby d3_16) _ ?_
        show Steps p.tables e below (s₁.setTop (mkF m 17 #[.val (.ref a1), .val (.int p2), .val (.int p3), .val (.long q4), .second] [(.long (f i)), (.long ((f (i - p3.toInt.toNat)) + q4))])) _
        refine XS.lcmp X0.here hx rfl (hb hby d3_17) rfl ?_
        show Steps p.tables e below (s₁.setTop (mkF m 18 #[.val (.ref a1), .val (.int p2), .val (.int p3), .val (.long q4), .second] [(.int (lcmpW ((f (i - p3.toInt.toNat)) + q4) (f i)))])) _
        refine XS.ifYes X0.here hx rfl (pc0 := 18) (pc' := 25) rfl (hb hby d3_18) rfl (own_lc_ngt c18).2 (by decide) (by decide) ?_
        show Steps p.tables e below (s₁.setTop (mkF m 25 #[.val (.ref a1), .val (.int p2), .val (.int p3), .val (.long q4), .second] [])) _
        refine XS.iconst X0.here hx rfl (hb hby d3_25) ?_
        show Steps p.tables e below (s₁.setTop (mkF m 26 #[.val (.ref a1), .val (.int p2), .val (.int p3), .val (.long q4), .second] [(.int (0 : Int32))])) _
        exact retN X0 hx (t := .boolean) Bd.returns (by simp) (hb hby d3_26) hr
      · show Q3 Z a1 p2 p3 q4 f i h0 n0 _ s₁.heap _
        rw [e0]
        exact ⟨⟨_, rfl, (if_neg (fun q => c18 q.2)).symm⟩, N0, rfl⟩
theorem pd_3 : parseMethodDescriptor "([JIIJ)Z" = some ⟨[(.array .long), .int, .int, .long], some .boolean⟩ := by decide +kernel
theorem d2_0 : decode method_3_code 0 = .ok (.aload_n 0, 1) := by decide +kernel
theorem d2_1 : decode method_3_code 1 = .ok (.iload_n 1, 1) := by decide +kernel
theorem d2_2 : decode method_3_code 2 = .ok (.iload_n 2, 1) := by decide +kernel
theorem d2_3 : decode method_3_code 3 = .ok (.lload_n 3, 1) := by decide +kernel
theorem d2_4 : decode method_3_code 4 = .ok (.invokestatic 7, 3) := by decide +kernel
theorem d2_7 : decode method_3_code 7 = .ok (.ifCond .eq 13, 3) := by decide +kernel
theorem d2_10 : decode method_3_code 10 = .ok (.aload_n 0, 1) := by decide +kernel
theorem d2_11 : decode method_3_code 11 = .ok (.iload_n 1, 1) := by decide +kernel
theorem d2_12 : decode method_3_code 12 = .ok (.iload_n 2, 1) := by decide +kernel
theorem d2_13 : decode method_3_code 13 = .ok (.isub, 1) := by decide +kernel
theorem d2_14 : decode method_3_code 14 = .ok (.laload, 1) := by decide +kernel
theorem d2_15 : decode method_3_code 15 = .ok (.lload_n 3, 1) := by decide +kernel
theorem d2_16 : decode method_3_code 16 = .ok (.ladd, 1) := by decide +kernel
theorem d2_17 : decode method_3_code 17 = .ok (.goto 6, 3) := by decide +kernel
theorem d2_20 : decode method_3_code 20 = .ok (.aload_n 0, 1) := by decide +kernel
theorem d2_21 : decode method_3_code 21 = .ok (.iload_n 1, 1) := by decide +kernel
theorem d2_22 : decode method_3_code 22 = .ok (.laload, 1) := by decide +kernel
theorem d2_23 : decode method_3_code 23 = .ok (.lreturn, 1) := by decide +kernel
theorem ef_2 (m : MethodId) (x0 : Addr) (x1 : Int32) (x2 : Int32) (x3 : Int64) : entryFrame m #[(.ref x0), (.int x1), (.int x2), (.long x3)] 5 = mkF m 0 #[.val (.ref x0), .val (.int x1), .val (.int x2), .val (.long x3), .second] [] := by first | (simp [entryFrame, mkF, argsToLocals, Value.category]; done) | rfl
def Q2 (Z : State) (a1 : Addr) (p2 : Int32) (p3 : Int32) (q4 : Int64) (f : Nat → Int64) (i : Nat) (h0 : Heap) (n0 : Nat) (v : Option Value) (h : Heap) (L : List Loc) : Prop := (∃ z : Int64, v = some (.long z) ∧ z = own_new f p3 q4 i) ∧ Fr n0 L ∧ h = h0
set_option maxRecDepth 65536 in
set_option maxHeartbeats 40000000 in
theorem rm2 (l : Launch) (Z : State) (a0 : Array Value) (hw : ∀ d ∈ tables_1, d.before a0 Z = true) (ws : List Jvm.Cond) (a1 : Addr) (p2 : Int32) (p3 : Int32) (q4 : Int64) (f : Nat → Int64) (i : Nat) (h0 : Heap) (n0 : Nat) (Z0 : n0 ≤ h0.size) (V : own_ar Z h0 a1 4 f) (hi : p2.toInt = (i : Int)) (hi4 : i < 4) (hr0 : 0 ≤ p3.toInt) :
    MetFree l (⟨"com/example/chromabin/chromabin/packing/RoomKnapsackIncludePinLaw", "expect", "([JIIJ)J"⟩ : MethodName) (head1 (Jvm.Cond.code (⟨"com/example/chromabin/chromabin/packing/RoomKnapsackIncludePinLaw", "expect", "([JIIJ)J"⟩ : MethodName) method_3_code 5 (some .long) :: ws) ({ frames := 1, cells := 0, slots := 0, locals := 16 } : Room)) (fun a U => a = #[(.ref a1), (.int p2), (.int p3), (.long q4)] ∧ Z.Warmed39 U.vm ∧ U.heap = h0) (fun _ _ _ _ _ => True) (fun _ U o U' => ∃ v L, o = .returned v ∧ Q2 Z a1 p2 p3 q4 f i h0 n0 v U'.heap L ∧ FrameEnd U o U' L ({ frames := 1, cells := 0, slots := 0, locals := 16 } : Room).cells ({ frames := 1, cells := 0, slots := 0, locals := 16 } : Room).slots) := by
  refine MetFree.of_bodySF (plainFor_of_name pn_3) hisR ?_
  intro p e s m args below meth c s₁ Bd hml0 hP hK
  obtain ⟨rfl, hZ, hh⟩ := hP
  have hx := Bd.exec
  have hby := Bd.bytes
  have hml : c.maxLocals = 5 := hml0
  have hown : s.vm.findClass "com/example/chromabin/chromabin/packing/RoomKnapsackIncludePinLaw" = some m.cls := findClass_of_methodNamed Bd.named
  have hnm := (name_of_methodNamed Bd.named Bd.method).1
  have X0 : Stand p l e ({ frames := 1, cells := 0, slots := 0, locals := 16 } : Room) s m #[(.ref a1), (.int p2), (.int p3), (.long q4)] below meth c s₁ [] 0 0 := Stand.of_body Bd
  have e0 : s₁.heap = h0 := by rw [← hh, Bd.state]; rfl
  have N0 := Fr.nil n0
  have pre0 : ∀ t, Steps p.tables e below (s₁.setTop (mkF m 0 #[.val (.ref a1), .val (.int p2), .val (.int p3), .val (.long q4), .second] [])) t → Steps p.tables e below (s₁.setTop (entryFrame m #[(.ref a1), (.int p2), (.int p3), (.long q4)] 5)) t := fun t k => castTop (ef_2 m a1 p2 p3 q4) k
  obtain ⟨_, _, ⟨T5, L5, k5, n5⟩, -, X5, ⟨Lc5, hQ5, l5, y5, z5⟩, st5⟩ := Jvm.LawKit.callS X0 hx (y := (⟨"com/example/chromabin/chromabin/packing/RoomKnapsackIncludePinLaw", "improves", "([JIIJ)Z"⟩ : MethodName)) hown (mvT hZ (hw _ (List.mem_of_getElem? (i := 9) rfl))) (mvT hZ (hw _ (List.mem_of_getElem? (i := 10) rfl))) (mvT hZ (hw _ (List.mem_of_getElem? (i := 7) rfl))) (mvT hZ (hw _ (List.mem_of_getElem? (i := 11) rfl))) (by decide) (backOf (W := 0) (rm3 l Z a0 hw [] a1 p2 p3 q4 f i h0 n0 Z0 V hi hi4 hr0) hZ (hw _ (List.mem_of_getElem? (i := 11) rfl)) (hw _ (List.mem_of_getElem? (i := 7) rfl)) (by decide) (by decide)) (g := (mkF m 4 #[.val (.ref a1), .val (.int p2), .val (.int p3), .val (.long q4), .second] [(.long q4), (.int p3), (.int p2), (.ref a1)])) rfl (by rw [hml]; rfl) (argsL := [(.ref a1), (.int p2), (.int p3), (.long q4)]) (rest := []) (lenOf pd_3 rfl) rfl (by show 2 * 0 + _ ≤ _; exact Nat.le_of_eq rfl) (hb hby d2_4) (fun _ _ => ⟨rfl, e0, (by decide : 0 + 0 ≤ _), (by decide : 0 + 0 ≤ _)⟩)
  dsimp only [Pt.U, Pt.locs, Pt.cells, Pt.slots] at X5 l5 y5 z5 st5 hQ5
  subst l5 y5 z5
  obtain ⟨⟨z, rfl, hz⟩, N5q, e5⟩ := hQ5
  have N5 := Fr.app N0 N5q
  obtain ⟨c1, A1, S1, H1⟩ := V
  by_cases c7 : z = (0 : Int32)
  · have np := (own_zero hz).1 c7
    have hin22 := own_in hi S1 hi4
    have hat22 := own_at hi H1 hi4
    obtain ⟨fs, hr, hrun, hended, hW, hsame⟩ := X5.leave (v := some (.long (f i))) (fun h => by rw [Bd.returns] at h; cases h)
    refine ⟨_, _, pre0 _ ?_, hrun, hended, _, _, rfl, ?_, ⟨_, rfl⟩, hW, hsame.mono (by decide) (by decide)⟩
    · show Steps p.tables e below (s₁.setTop (mkF m 0 #[.val (.ref a1), .val (.int p2), .val (.int p3), .val (.long q4), .second] [])) _
      refine XS.aloadN X0.here hx rfl (hb hby d2_0) rfl rfl ?_
      show Steps p.tables e below (s₁.setTop (mkF m 1 #[.val (.ref a1), .val (.int p2), .val (.int p3), .val (.long q4), .second] [(.ref a1)])) _
      refine XS.iloadN X0.here hx rfl (hb hby d2_1) rfl ?_
      show Steps p.tables e below (s₁.setTop (mkF m 2 #[.val (.ref a1), .val (.int p2), .val (.int p3), .val (.long q4), .second] [(.int p2), (.ref a1)])) _
      refine XS.iloadN X0.here hx rfl (hb hby d2_2) rfl ?_
      show Steps p.tables e below (s₁.setTop (mkF m 3 #[.val (.ref a1), .val (.int p2), .val (.int p3), .val (.long q4), .second] [(.int p3), (.int p2), (.ref a1)])) _
      refine XS.lloadN X0.here hx rfl (hb hby d2_3) rfl ?_
      show Steps p.tables e below (s₁.setTop (mkF m 4 #[.val (.ref a1), .val (.int p2), .val (.int p3), .val (.long q4), .second] [(.long q4), (.int p3), (.int p2), (.ref a1)])) _
      refine st5 _ ?_
      show Steps p.tables e below (T5.setTop (mkF m 7 #[.val (.ref a1), .val (.int p2), .val (.int p3), .val (.long q4), .second] [(.int z)])) _
      refine XS.ifYes X5.here hx rfl (pc0 := 7) (pc' := 20) rfl (hb hby d2_7) rfl ((if0 _ _).trans (teq c7).1) (by decide) (by decide) ?_
      show Steps p.tables e below (T5.setTop (mkF m 20 #[.val (.ref a1), .val (.int p2), .val (.int p3), .val (.long q4), .second] [])) _
      refine XS.aloadN X5.here hx rfl (hb hby d2_20) rfl rfl ?_
      show Steps p.tables e below (T5.setTop (mkF m 21 #[.val (.ref a1), .val (.int p2), .val (.int p3), .val (.long q4), .second] [(.ref a1)])) _
      refine XS.iloadN X5.here hx rfl (hb hby d2_21) rfl ?_
      show Steps p.tables e below (T5.setTop (mkF m 22 #[.val (.ref a1), .val (.int p2), .val (.int p3), .val (.long q4), .second] [(.int p2), (.ref a1)])) _
      refine X5.laload hx (j := p2) (v := (.long (f i))) (by rw [e5]; exact A1.1) (State.isArrayOf_alike hZ.alike A1.2.1) A1.2.2 hin22 hat22 (g := (mkF m 22 #[.val (.ref a1), .val (.int p2), .val (.int p3), .val (.long q4), .second] [(.int p2), (.ref a1)])) rfl rfl (hb hby d2_22) _ ?_
      show Steps p.tables e below (T5.setTop (mkF m 23 #[.val (.ref a1), .val (.int p2), .val (.int p3), .val (.long q4), .second] [(.long (f i))])) _
      exact X5.lreturnOut hx Bd.returns (hb hby d2_23) hr
    · show Q2 Z a1 p2 p3 q4 f i h0 n0 _ T5.heap _
      rw [e5]
      exact ⟨⟨_, rfl, (if_neg np).symm⟩, N5, rfl⟩
  · have np := (own_zero hz).2 c7
    have js := own_sub hi hr0 np.1
    have hin14 := own_in js S1 (show i - p3.toInt.toNat < 4 by omega)
    have hat14 := own_at js H1 (show i - p3.toInt.toNat < 4 by omega)
    obtain ⟨fs, hr, hrun, hended, hW, hsame⟩ := X5.leave (v := some (.long (f (i - p3.toInt.toNat) + q4))) (fun h => by rw [Bd.returns] at h; cases h)
    refine ⟨_, _, pre0 _ ?_, hrun, hended, _, _, rfl, ?_, ⟨_, rfl⟩, hW, hsame.mono (by decide) (by decide)⟩
    · show Steps p.tables e below (s₁.setTop (mkF m 0 #[.val (.ref a1), .val (.int p2), .val (.int p3), .val (.long q4), .second] [])) _
      refine XS.aloadN X0.here hx rfl (hb hby d2_0) rfl rfl ?_
      show Steps p.tables e below (s₁.setTop (mkF m 1 #[.val (.ref a1), .val (.int p2), .val (.int p3), .val (.long q4), .second] [(.ref a1)])) _
      refine XS.iloadN X0.here hx rfl (hb hby d2_1) rfl ?_
      show Steps p.tables e below (s₁.setTop (mkF m 2 #[.val (.ref a1), .val (.int p2), .val (.int p3), .val (.long q4), .second] [(.int p2), (.ref a1)])) _
      refine XS.iloadN X0.here hx rfl (hb hby d2_2) rfl ?_
      show Steps p.tables e below (s₁.setTop (mkF m 3 #[.val (.ref a1), .val (.int p2), .val (.int p3), .val (.long q4), .second] [(.int p3), (.int p2), (.ref a1)])) _
      refine XS.lloadN X0.here hx rfl (hb hby d2_3) rfl ?_
      show Steps p.tables e below (s₁.setTop (mkF m 4 #[.val (.ref a1), .val (.int p2), .val (.int p3), .val (.long q4), .second] [(.long q4), (.int p3), (.int p2), (.ref a1)])) _
      refine st5 _ ?_
      show Steps p.tables e below (T5.setTop (mkF m 7 #[.val (.ref a1), .val (.int p2), .val (.int p3), .val (.long q4), .second] [(.int z)])) _
      refine XS.ifNo X5.here hx rfl (hb hby d2_7) rfl ((if0 _ _).trans (feq c7).1) ?_
      show Steps p.tables e below (T5.setTop (mkF m 10 #[.val (.ref a1), .val (.int p2), .val (.int p3), .val (.long q4), .second] [])) _
      refine XS.aloadN X5.here hx rfl (hb hby d2_10) rfl rfl ?_
      show Steps p.tables e below (T5.setTop (mkF m 11 #[.val (.ref a1), .val (.int p2), .val (.int p3), .val (.long q4), .second] [(.ref a1)])) _
      refine XS.iloadN X5.here hx rfl (hb hby d2_11) rfl ?_
      show Steps p.tables e below (T5.setTop (mkF m 12 #[.val (.ref a1), .val (.int p2), .val (.int p3), .val (.long q4), .second] [(.int p2), (.ref a1)])) _
      refine XS.iloadN X5.here hx rfl (hb hby d2_12) rfl ?_
      show Steps p.tables e below (T5.setTop (mkF m 13 #[.val (.ref a1), .val (.int p2), .val (.int p3), .val (.long q4), .second] [(.int p3), (.int p2), (.ref a1)])) _
      refine XS.isub X5.here hx rfl (hb hby d2_13) rfl ?_
      show Steps p.tables e below (T5.setTop (mkF m 14 #[.val (.ref a1), .val (.int p2), .val (.int p3), .val (.long q4), .second] [(.int (p2 - p3)), (.ref a1)])) _
      refine X5.laload hx (j := (p2 - p3)) (v := (.long (f (i - p3.toInt.toNat)))) (by rw [e5]; exact A1.1) (State.isArrayOf_alike hZ.alike A1.2.1) A1.2.2 hin14 hat14 (g := (mkF m 14 #[.val (.ref a1), .val (.int p2), .val (.int p3), .val (.long q4), .second] [(.int (p2 - p3)), (.ref a1)])) rfl rfl (hb hby d2_14) _ ?_
      show Steps p.tables e below (T5.setTop (mkF m 15 #[.val (.ref a1), .val (.int p2), .val (.int p3), .val (.long q4), .second] [(.long (f (i - p3.toInt.toNat)))])) _
      refine XS.lloadN X5.here hx rfl (hb hby d2_15) rfl ?_
      show Steps p.tables e below (T5.setTop (mkF m 16 #[.val (.ref a1), .val (.int p2), .val (.int p3), .val (.long q4), .second] [(.long q4), (.long (f (i - p3.toInt.toNat)))])) _
      refine XS.ladd X5.here hx rfl (hb hby d2_16) rfl ?_
      show Steps p.tables e below (T5.setTop (mkF m 17 #[.val (.ref a1), .val (.int p2), .val (.int p3), .val (.long q4), .second] [(.long ((f (i - p3.toInt.toNat)) + q4))])) _
      refine XS.goto X5.here hx rfl (pc0 := 17) (pc' := 23) rfl (hb hby d2_17) (by decide) (by decide) ?_
      show Steps p.tables e below (T5.setTop (mkF m 23 #[.val (.ref a1), .val (.int p2), .val (.int p3), .val (.long q4), .second] [(.long ((f (i - p3.toInt.toNat)) + q4))])) _
      exact X5.lreturnOut hx Bd.returns (hb hby d2_23) hr
    · show Q2 Z a1 p2 p3 q4 f i h0 n0 _ T5.heap _
      rw [e5]
      exact ⟨⟨_, rfl, (if_pos np).symm⟩, N5, rfl⟩
theorem d1_0 : decode prog_89_method_5_code 0 = .ok (.aload_n 0, 1) := by decide +kernel
theorem d1_1 : decode prog_89_method_5_code 1 = .ok (.arraylength, 1) := by decide +kernel
theorem d1_2 : decode prog_89_method_5_code 2 = .ok (.iconst 1, 1) := by decide +kernel
theorem d1_3 : decode prog_89_method_5_code 3 = .ok (.isub, 1) := by decide +kernel
theorem d1_4 : decode prog_89_method_5_code 4 = .ok (.istore 5, 2) := by decide +kernel
theorem d1_6 : decode prog_89_method_5_code 6 = .ok (.iload 5, 2) := by decide +kernel
theorem d1_8 : decode prog_89_method_5_code 8 = .ok (.iload_n 1, 1) := by decide +kernel
theorem d1_9 : decode prog_89_method_5_code 9 = .ok (.if_icmp .lt 55, 3) := by decide +kernel
theorem d1_12 : decode prog_89_method_5_code 12 = .ok (.aload_n 0, 1) := by decide +kernel
theorem d1_13 : decode prog_89_method_5_code 13 = .ok (.iload 5, 2) := by decide +kernel
theorem d1_15 : decode prog_89_method_5_code 15 = .ok (.iload_n 1, 1) := by decide +kernel
theorem d1_16 : decode prog_89_method_5_code 16 = .ok (.isub, 1) := by decide +kernel
theorem d1_17 : decode prog_89_method_5_code 17 = .ok (.laload, 1) := by decide +kernel
theorem d1_18 : decode prog_89_method_5_code 18 = .ok (.lload_n 2, 1) := by decide +kernel
theorem d1_19 : decode prog_89_method_5_code 19 = .ok (.ladd, 1) := by decide +kernel
theorem d1_20 : decode prog_89_method_5_code 20 = .ok (.lstore 6, 2) := by decide +kernel
theorem d1_22 : decode prog_89_method_5_code 22 = .ok (.lload 6, 2) := by decide +kernel
theorem d1_24 : decode prog_89_method_5_code 24 = .ok (.aload_n 0, 1) := by decide +kernel
theorem d1_25 : decode prog_89_method_5_code 25 = .ok (.iload 5, 2) := by decide +kernel
theorem d1_27 : decode prog_89_method_5_code 27 = .ok (.laload, 1) := by decide +kernel
theorem d1_28 : decode prog_89_method_5_code 28 = .ok (.lcmp, 1) := by decide +kernel
theorem d1_29 : decode prog_89_method_5_code 29 = .ok (.ifCond .le 29, 3) := by decide +kernel
theorem d1_32 : decode prog_89_method_5_code 32 = .ok (.aload_n 0, 1) := by decide +kernel
theorem d1_33 : decode prog_89_method_5_code 33 = .ok (.iload 5, 2) := by decide +kernel
theorem d1_35 : decode prog_89_method_5_code 35 = .ok (.lload 6, 2) := by decide +kernel
theorem d1_37 : decode prog_89_method_5_code 37 = .ok (.lastore, 1) := by decide +kernel
theorem d1_38 : decode prog_89_method_5_code 38 = .ok (.aload 4, 2) := by decide +kernel
theorem d1_40 : decode prog_89_method_5_code 40 = .ok (.ifnull 18, 3) := by decide +kernel
theorem d1_43 : decode prog_89_method_5_code 43 = .ok (.aload 4, 2) := by decide +kernel
theorem d1_45 : decode prog_89_method_5_code 45 = .ok (.iload 5, 2) := by decide +kernel
theorem d1_47 : decode prog_89_method_5_code 47 = .ok (.bipush 6, 2) := by decide +kernel
theorem d1_49 : decode prog_89_method_5_code 49 = .ok (.iushr, 1) := by decide +kernel
theorem d1_50 : decode prog_89_method_5_code 50 = .ok (.dup2, 1) := by decide +kernel
theorem d1_51 : decode prog_89_method_5_code 51 = .ok (.laload, 1) := by decide +kernel
theorem d1_52 : decode prog_89_method_5_code 52 = .ok (.lconst 1, 1) := by decide +kernel
theorem d1_53 : decode prog_89_method_5_code 53 = .ok (.iload 5, 2) := by decide +kernel
theorem d1_55 : decode prog_89_method_5_code 55 = .ok (.lshl, 1) := by decide +kernel
theorem d1_56 : decode prog_89_method_5_code 56 = .ok (.lor, 1) := by decide +kernel
theorem d1_57 : decode prog_89_method_5_code 57 = .ok (.lastore, 1) := by decide +kernel
theorem d1_58 : decode prog_89_method_5_code 58 = .ok (.iinc 5 (-1), 3) := by decide +kernel
theorem d1_61 : decode prog_89_method_5_code 61 = .ok (.goto (-55), 3) := by decide +kernel
theorem d1_64 : decode prog_89_method_5_code 64 = .ok (.return_, 1) := by decide +kernel
theorem pn_1 : plainName "com/example/chromabin/chromabin/packing/RoomKnapsack" = true := by first | (simp [plainName, overriddenIn]; done) | decide +kernel
set_option maxRecDepth 65536 in
set_option maxHeartbeats 40000000 in
theorem tnN {p : Program} {l : Launch} {e : Env} {R : Room} {s : State} {m : MethodId} {args : Array Value} {below : List Frame} {meth : Method} {c : Code} {cells slots : Nat} {Z : State} (a1 : Addr) (rm : Int32) (wt : Int64) (n0 : Nat) (hx : p.tables.exec = Jvm.exec) (hZ : Z.Warmed39 s.vm) (hby : c.code = prog_89_method_5_code) (g1 : n0 ≤ a1) (hr0 : 0 ≤ rm.toInt) {T0 : State} {h0 : Heap} {locs : List Loc} (iv : Int32) (s6 s7 : Slot) (i : Nat) (g : Nat → Int64) (tk : Int64) (X0 : Stand p l e R s m args below meth c T0 locs cells slots) (e0 : T0.heap = h0) (N0 : Fr n0 locs) (V1 : own_ar Z h0 a1 4 g) (hi : iv.toInt = (i : Int)) (hi4 : i < 4) (hri : rm.toInt ≤ (i : Int)) (hs : own_s67 s6 s7) :
    ∃ (T' : State) (h' : Heap) (locs' : List Loc) (s6' s7' : Slot), Stand p l e R s m args below meth c T' locs' cells slots ∧ T'.heap = h' ∧ Fr n0 locs' ∧ Keep h0 h' [a1] ∧ own_ar Z h' a1 4 (fun k => if k = i then own_new g rm wt i else g k) ∧ own_s67 s6' s7' ∧
      ∀ t, Steps p.tables e below (T'.setTop (mkF m 6 #[.val (.ref a1), .val (.int rm), .val (.long wt), .second, .val .null, .val (.int (iv + (-1 : Int32))), s6', s7'] [])) t → Steps p.tables e below (T0.setTop (mkF m 6 #[.val (.ref a1), .val (.int rm), .val (.long wt), .second, .val .null, .val (.int iv), s6, s7] [])) t := by
  obtain ⟨c1, A1, S1, H1⟩ := V1
  have js := own_sub hi hr0 hri
  have hin17 := own_in js S1 (show i - rm.toInt.toNat < 4 by omega)
  have hat17 := own_at js H1 (show i - rm.toInt.toNat < 4 by omega)
  have hin27 := own_in hi S1 hi4
  have hat27 := own_at hi H1 hi4
  have c9 : ¬ iv < rm := by rw [own_lts]; omega
  have hst : storeLocals #[.val (.ref a1), .val (.int rm), .val (.long wt), .second, .val .null, .val (.int iv), s6, s7] 6 (.long (g (i - rm.toInt.toNat) + wt)) = some #[.val (.ref a1), .val (.int rm), .val (.long wt), .second, .val .null, .val (.int iv), .val (.long (g (i - rm.toInt.toNat) + wt)), .second] := by rcases hs with ⟨rfl, rfl⟩ | ⟨w, rfl, rfl⟩ <;> rfl
  by_cases c29 : g i < (g (i - rm.toInt.toNat) + wt)
  · obtain ⟨T7, h7, X7, e7, W7, st7⟩ := stJ X0 hx hZ e0 A1 (j := iv) hin27 (g := (mkF m 37 #[.val (.ref a1), .val (.int rm), .val (.long wt), .second, .val .null, .val (.int iv), .val (.long (g (i - rm.toInt.toNat) + wt)), .second] [(.long (g (i - rm.toInt.toNat) + wt)), (.int iv), (.ref a1)])) rfl rfl (hb hby d1_37)
    have V7 := own_store A1 S1 H1 W7 (own_clamp hi)
    have N7 := Fr.snoc X7 N0 g1
    have K7 : Keep h0 h7 [a1] := (Keep.refl h0 [a1]).wr W7 (Or.inl (List.mem_of_getElem? (i := 0) rfl))
    have hnew : own_new g rm wt i = g (i - rm.toInt.toNat) + wt := if_pos ⟨hri, c29⟩
    rw [← hnew] at V7
    refine ⟨T7, h7, _, .val (.long (g (i - rm.toInt.toNat) + wt)), .second, X7, e7, N7, K7, V7, Or.inr ⟨_, rfl, rfl⟩, fun t k => ?_⟩
    show Steps p.tables e below (T0.setTop (mkF m 6 #[.val (.ref a1), .val (.int rm), .val (.long wt), .second, .val .null, .val (.int iv), s6, s7] [])) _
    refine XS.iload X0.here hx rfl (hb hby d1_6) rfl ?_
    show Steps p.tables e below (T0.setTop (mkF m 8 #[.val (.ref a1), .val (.int rm), .val (.long wt), .second, .val .null, .val (.int iv), s6, s7] [(.int iv)])) _
    refine XS.iloadN X0.here hx rfl (hb hby d1_8) rfl ?_
    show Steps p.tables e below (T0.setTop (mkF m 9 #[.val (.ref a1), .val (.int rm), .val (.long wt), .second, .val .null, .val (.int iv), s6, s7] [(.int rm), (.int iv)])) _
    refine XS.icmpNo X0.here hx rfl (hb hby d1_9) rfl (flt c9).1 ?_
    show Steps p.tables e below (T0.setTop (mkF m 12 #[.val (.ref a1), .val (.int rm), .val (.long wt), .second, .val .null, .val (.int iv), s6, s7] [])) _
    refine XS.aloadN X0.here hx rfl (hb hby d1_12) rfl rfl ?_
    show Steps p.tables e below (T0.setTop (mkF m 13 #[.val (.ref a1), .val (.int rm), .val (.long wt), .second, .val .null, .val (.int iv), s6, s7] [(.ref a1)])) _
    refine XS.iload X0.here hx rfl (hb hby d1_13) rfl ?_
    show Steps p.tables e below (T0.setTop (mkF m 15 #[.val (.ref a1), .val (.int rm), .val (.long wt), .second, .val .null, .val (.int iv), s6, s7] [(.int iv), (.ref a1)])) _
    refine XS.iloadN X0.here hx rfl (hb hby d1_15) rfl ?_
    show Steps p.tables e below (T0.setTop (mkF m 16 #[.val (.ref a1), .val (.int rm), .val (.long wt), .second, .val .null, .val (.int iv), s6, s7] [(.int rm), (.int iv), (.ref a1)])) _
    refine XS.isub X0.here hx rfl (hb hby d1_16) rfl ?_
    show Steps p.tables e below (T0.setTop (mkF m 17 #[.val (.ref a1), .val (.int rm), .val (.long wt), .second, .val .null, .val (.int iv), s6, s7] [(.int (iv - rm)), (.ref a1)])) _
    refine X0.laload hx (j := (iv - rm)) (v := (.long (g (i - rm.toInt.toNat)))) (by rw [e0]; exact A1.1) (State.isArrayOf_alike hZ.alike A1.2.1) A1.2.2 hin17 hat17 (g := (mkF m 17 #[.val (.ref a1), .val (.int rm), .val (.long wt), .second, .val .null, .val (.int iv), s6, s7] [(.int (iv - rm)), (.ref a1)])) rfl rfl (hb hby d1_17) _ ?_
    show Steps p.tables e below (T0.setTop (mkF m 18 #[.val (.ref a1), .val (.int rm), .val (.long wt), .second, .val .null, .val (.int iv), s6, s7] [(.long (g (i - rm.toInt.toNat)))])) _
    refine XS.lloadN X0.here hx rfl (hb hby d1_18) rfl ?_
    show Steps p.tables e below (T0.setTop (mkF m 19 #[.val (.ref a1), .val (.int rm), .val (.long wt), .second, .val .null, .val (.int iv), s6, s7] [(.long wt), (.long (g (i - rm.toInt.toNat)))])) _
    refine XS.ladd X0.here hx rfl (hb hby d1_19) rfl ?_
    show Steps p.tables e below (T0.setTop (mkF m 20 #[.val (.ref a1), .val (.int rm), .val (.long wt), .second, .val .null, .val (.int iv), s6, s7] [(.long ((g (i - rm.toInt.toNat)) + wt))])) _
    refine XS.lstore X0.here hx rfl (hb hby d1_20) rfl (l' := #[.val (.ref a1), .val (.int rm), .val (.long wt), .second, .val .null, .val (.int iv), .val (.long (g (i - rm.toInt.toNat) + wt)), .second]) hst ?_
    show Steps p.tables e below (T0.setTop (mkF m 22 #[.val (.ref a1), .val (.int rm), .val (.long wt), .second, .val .null, .val (.int iv), .val (.long (g (i - rm.toInt.toNat) + wt)), .second] [])) _
    refine XS.lload X0.here hx rfl (hb hby d1_22) rfl ?_
    show Steps p.tables e below (T0.setTop (mkF m 24 #[.val (.ref a1), .val (.int rm), .val (.long wt), .second, .val .null, .val (.int iv), .val (.long (g (i - rm.toInt.toNat) + wt)), .second] [(.long (g (i - rm.toInt.toNat) + wt))])) _
    refine XS.aloadN X0.here hx rfl (hb hby d1_24) rfl rfl ?_
    show Steps p.tables e below (T0.setTop (mkF m 25 #[.val (.ref a1), .val (.int rm), .val (.long wt), .second, .val .null, .val (.int iv), .val (.long (g (i - rm.toInt.toNat) + wt)), .second] [(.ref a1), (.long (g (i - rm.toInt.toNat) + wt))])) _
    refine XS.iload X0.here hx rfl (hb hby d1_25) rfl ?_
    show Steps p.tables e below (T0.setTop (mkF m 27 #[.val (.ref a1), .val (.int rm), .val (.long wt), .second, .val .null, .val (.int iv), .val (.long (g (i - rm.toInt.toNat) + wt)), .second] [(.int iv), (.ref a1), (.long (g (i - rm.toInt.toNat) + wt))])) _
    refine X0.laload hx (j := iv) (v := (.long (g i))) (by rw [e0]; exact A1.1) (State.isArrayOf_alike hZ.alike A1.2.1) A1.2.2 hin27 hat27 (g := (mkF m 27 #[.val (.ref a1), .val (.int rm), .val (.long wt), .second, .val .null, .val (.int iv), .val (.long (g (i - rm.toInt.toNat) + wt)), .second] [(.int iv), (.ref a1), (.long (g (i - rm.toInt.toNat) + wt))])) rfl rfl (hb hby d1_27) _ ?_
    show Steps p.tables e below (T0.setTop (mkF m 28 #[.val (.ref a1), .val (.int rm), .val (.long wt), .second, .val .null, .val (.int iv), .val (.long (g (i - rm.toInt.toNat) + wt)), .second] [(.long (g i)), (.long (g (i - rm.toInt.toNat) + wt))])) _
    refine XS.lcmp X0.here hx rfl (hb hby d1_28) rfl ?_
    show Steps p.tables e below (T0.setTop (mkF m 29 #[.val (.ref a1), .val (.int rm), .val (.long wt), .second, .val .null, .val (.int iv), .val (.long (g (i - rm.toInt.toNat) + wt)), .second] [(.int (lcmpW (g (i - rm.toInt.toNat) + wt) (g i)))])) _
    refine XS.ifNo X0.here hx rfl (hb hby d1_29) rfl (own_lc_gt c29).2 ?_
    show Steps p.tables e below (T0.setTop (mkF m 32 #[.val (.ref a1), .val (.int rm), .val (.long wt), .second, .val .null, .val (.int iv), .val (.long (g (i - rm.toInt.toNat) + wt)), .second] [])) _
    refine XS.aloadN X0.here hx rfl (hb hby d1_32) rfl rfl ?_
    show Steps p.tables e below (T0.setTop (mkF m 33 #[.val (.ref a1), .val (.int rm), .val (.long wt), .second, .val .null, .val (.int iv), .val (.long (g (i - rm.toInt.toNat) + wt)), .second] [(.ref a1)])) _
    refine XS.iload X0.here hx rfl (hb hby d1_33) rfl ?_
    show Steps p.tables e below (T0.setTop (mkF m 35 #[.val (.ref a1), .val (.int rm), .val (.long wt), .second, .val .null, .val (.int iv), .val (.long (g (i - rm.toInt.toNat) + wt)), .second] [(.int iv), (.ref a1)])) _
    refine XS.lload X0.here hx rfl (hb hby d1_35) rfl ?_
    show Steps p.tables e below (T0.setTop (mkF m 37 #[.val (.ref a1), .val (.int rm), .val (.long wt), .second, .val .null, .val (.int iv), .val (.long (g (i - rm.toInt.toNat) + wt)), .second] [(.long (g (i - rm.toInt.toNat) + wt)), (.int iv), (.ref a1)])) _
    refine st7 _ ?_
    show Steps p.tables e below (T7.setTop (mkF m 38 #[.val (.ref a1), .val (.int rm), .val (.long wt), .second, .val .null, .val (.int iv), .val (.long (g (i - rm.toInt.toNat) + wt)), .second] [])) _
    refine XS.aload X7.here hx rfl (hb hby d1_38) rfl rfl ?_
    show Steps p.tables e below (T7.setTop (mkF m 40 #[.val (.ref a1), .val (.int rm), .val (.long wt), .second, .val .null, .val (.int iv), .val (.long (g (i - rm.toInt.toNat) + wt)), .second] [.null])) _
    refine XS.ifnullYes X7.here hx rfl (pc0 := 40) (pc' := 58) rfl (hb hby d1_40) rfl (by decide) (by decide) ?_
    show Steps p.tables e below (T7.setTop (mkF m 58 #[.val (.ref a1), .val (.int rm), .val (.long wt), .second, .val .null, .val (.int iv), .val (.long (g (i - rm.toInt.toNat) + wt)), .second] [])) _
    refine XS.iinc X7.here hx rfl (hb hby d1_58) rfl (l' := #[.val (.ref a1), .val (.int rm), .val (.long wt), .second, .val .null, .val (.int (iv + (-1 : Int32))), .val (.long (g (i - rm.toInt.toNat) + wt)), .second]) rfl ?_
    show Steps p.tables e below (T7.setTop (mkF m 61 #[.val (.ref a1), .val (.int rm), .val (.long wt), .second, .val .null, .val (.int (iv + (-1 : Int32))), .val (.long (g (i - rm.toInt.toNat) + wt)), .second] [])) _
    refine XS.goto X7.here hx rfl (pc0 := 61) (pc' := 6) rfl (hb hby d1_61) (by decide) (by decide) ?_
    show Steps p.tables e below (T7.setTop (mkF m 6 #[.val (.ref a1), .val (.int rm), .val (.long wt), .second, .val .null, .val (.int (iv + (-1 : Int32))), .val (.long (g (i - rm.toInt.toNat) + wt)), .second] [])) _
    exact k
  · have hnew : own_new g rm wt i = g i := if_neg (fun q => c29 q.2)
    have V7 : own_ar Z h0 a1 4 (fun k => if k = i then own_new g rm wt i else g k) := own_congr ⟨c1, A1, S1, H1⟩ (fun k hk => by
      by_cases q : k = i
      · rw [if_pos q, hnew, q]
      · rw [if_neg q])
    refine ⟨T0, h0, _, .val (.long (g (i - rm.toInt.toNat) + wt)), .second, X0, e0, N0, Keep.refl h0 [a1], V7, Or.inr ⟨_, rfl, rfl⟩, fun t k => ?_⟩
    show Steps p.tables e below (T0.setTop (mkF m 6 #[.val (.ref a1), .val (.int rm), .val (.long wt), .second, .val .null, .val (.int iv), s6, s7] [])) _
    refine XS.iload X0.here hx rfl (hb hby d1_6) rfl ?_
    show Steps p.tables e below (T0.setTop (mkF m 8 #[.val (.ref a1), .val (.int rm), .val (.long wt), .second, .val .null, .val (.int iv), s6, s7] [(.int iv)])) _
    refine XS.iloadN X0.here hx rfl (hb hby d1_8) rfl ?_
    show Steps p.tables e below (T0.setTop (mkF m 9 #[.val (.ref a1), .val (.int rm), .val (.long wt), .second, .val .null, .val (.int iv), s6, s7] [(.int rm), (.int iv)])) _
    refine XS.icmpNo X0.here hx rfl (hb hby d1_9) rfl (flt c9).1 ?_
    show Steps p.tables e below (T0.setTop (mkF m 12 #[.val (.ref a1), .val (.int rm), .val (.long wt), .second, .val .null, .val (.int iv), s6, s7] [])) _
    refine XS.aloadN X0.here hx rfl (hb hby d1_12) rfl rfl ?_
    show Steps p.tables e below (T0.setTop (mkF m 13 #[.val (.ref a1), .val (.int rm), .val (.long wt), .second, .val .null, .val (.int iv), s6, s7] [(.ref a1)])) _
    refine XS.iload X0.here hx rfl (hb hby d1_13) rfl ?_
    show Steps p.tables e below (T0.setTop (mkF m 15 #[.val (.ref a1), .val (.int rm), .val (.long wt), .second, .val .null, .val (.int iv), s6, s7] [(.int iv), (.ref a1)])) _
    refine XS.iloadN X0.here hx rfl (hb hby d1_15) rfl ?_
    show Steps p.tables e below (T0.setTop (mkF m 16 #[.val (.ref a1), .val (.int rm), .val (.long wt), .second, .val .null, .val (.int iv), s6, s7] [(.int rm), (.int iv), (.ref a1)])) _
    refine XS.isub X0.here hx rfl (hb hby d1_16) rfl ?_
    show Steps p.tables e below (T0.setTop (mkF m 17 #[.val (.ref a1), .val (.int rm), .val (.long wt), .second, .val .null, .val (.int iv), s6, s7] [(.int (iv - rm)), (.ref a1)])) _
    refine X0.laload hx (j := (iv - rm)) (v := (.long (g (i - rm.toInt.toNat)))) (by rw [e0]; exact A1.1) (State.isArrayOf_alike hZ.alike A1.2.1) A1.2.2 hin17 hat17 (g := (mkF m 17 #[.val (.ref a1), .val (.int rm), .val (.long wt), .second, .val .null, .val (.int iv), s6, s7] [(.int (iv - rm)), (.ref a1)])) rfl rfl (hb hby d1_17) _ ?_
    show Steps p.tables e below (T0.setTop (mkF m 18 #[.val (.ref a1), .val (.int rm), .val (.long wt), .second, .val .null, .val (.int iv), s6, s7] [(.long (g (i - rm.toInt.toNat)))])) _
    refine XS.lloadN X0.here hx rfl (hb hby d1_18) rfl ?_
    show Steps p.tables e below (T0.setTop (mkF m 19 #[.val (.ref a1), .val (.int rm), .val (.long wt), .second, .val .null, .val (.int iv), s6, s7] [(.long wt), (.long (g (i - rm.toInt.toNat)))])) _
    refine XS.ladd X0.here hx rfl (hb hby d1_19) rfl ?_
    show Steps p.tables e below (T0.setTop (mkF m 20 #[.val (.ref a1), .val (.int rm), .val (.long wt), .second, .val .null, .val (.int iv), s6, s7] [(.long ((g (i - rm.toInt.toNat)) + wt))])) _
    refine XS.lstore X0.here hx rfl (hb hby d1_20) rfl (l' := #[.val (.ref a1), .val (.int rm), .val (.long wt), .second, .val .null, .val (.int iv), .val (.long (g (i - rm.toInt.toNat) + wt)), .second]) hst ?_
    show Steps p.tables e below (T0.setTop (mkF m 22 #[.val (.ref a1), .val (.int rm), .val (.long wt), .second, .val .null, .val (.int iv), .val (.long (g (i - rm.toInt.toNat) + wt)), .second] [])) _
    refine XS.lload X0.here hx rfl (hb hby d1_22) rfl ?_
    show Steps p.tables e below (T0.setTop (mkF m 24 #[.val (.ref a1), .val (.int rm), .val (.long wt), .second, .val .null, .val (.int iv), .val (.long (g (i - rm.toInt.toNat) + wt)), .second] [(.long (g (i - rm.toInt.toNat) + wt))])) _
    refine XS.aloadN X0.here hx rfl (hb hby d1_24) rfl rfl ?_
    show Steps p.tables e below (T0.setTop (mkF m 25 #[.val (.ref a1), .val (.int rm), .val (.long wt), .second, .val .null, .val (.int iv), .val (.long (g (i - rm.toInt.toNat) + wt)), .second] [(.ref a1), (.long (g (i - rm.toInt.toNat) + wt))])) _
    refine XS.iload X0.here hx rfl (hb hby d1_25) rfl ?_
    show Steps p.tables e below (T0.setTop (mkF m 27 #[.val (.ref a1), .val (.int rm), .val (.long wt), .second, .val .null, .val (.int iv), .val (.long (g (i - rm.toInt.toNat) + wt)), .second] [(.int iv), (.ref a1), (.long (g (i - rm.toInt.toNat) + wt))])) _
    refine X0.laload hx (j := iv) (v := (.long (g i))) (by rw [e0]; exact A1.1) (State.isArrayOf_alike hZ.alike A1.2.1) A1.2.2 hin27 hat27 (g := (mkF m 27 #[.val (.ref a1), .val (.int rm), .val (.long wt), .second, .val .null, .val (.int iv), .val (.long (g (i - rm.toInt.toNat) + wt)), .second] [(.int iv), (.ref a1), (.long (g (i - rm.toInt.toNat) + wt))])) rfl rfl (hb hby d1_27) _ ?_
    show Steps p.tables e below (T0.setTop (mkF m 28 #[.val (.ref a1), .val (.int rm), .val (.long wt), .second, .val .null, .val (.int iv), .val (.long (g (i - rm.toInt.toNat) + wt)), .second] [(.long (g i)), (.long (g (i - rm.toInt.toNat) + wt))])) _
    refine XS.lcmp X0.here hx rfl (hb hby d1_28) rfl ?_
    show Steps p.tables e below (T0.setTop (mkF m 29 #[.val (.ref a1), .val (.int rm), .val (.long wt), .second, .val .null, .val (.int iv), .val (.long (g (i - rm.toInt.toNat) + wt)), .second] [(.int (lcmpW (g (i - rm.toInt.toNat) + wt) (g i)))])) _
    refine XS.ifYes X0.here hx rfl (pc0 := 29) (pc' := 58) rfl (hb hby d1_29) rfl (own_lc_ngt c29).2 (by decide) (by decide) ?_
    show Steps p.tables e below (T0.setTop (mkF m 58 #[.val (.ref a1), .val (.int rm), .val (.long wt), .second, .val .null, .val (.int iv), .val (.long (g (i - rm.toInt.toNat) + wt)), .second] [])) _
    refine XS.iinc X0.here hx rfl (hb hby d1_58) rfl (l' := #[.val (.ref a1), .val (.int rm), .val (.long wt), .second, .val .null, .val (.int (iv + (-1 : Int32))), .val (.long (g (i - rm.toInt.toNat) + wt)), .second]) rfl ?_
    show Steps p.tables e below (T0.setTop (mkF m 61 #[.val (.ref a1), .val (.int rm), .val (.long wt), .second, .val .null, .val (.int (iv + (-1 : Int32))), .val (.long (g (i - rm.toInt.toNat) + wt)), .second] [])) _
    refine XS.goto X0.here hx rfl (pc0 := 61) (pc' := 6) rfl (hb hby d1_61) (by decide) (by decide) ?_
    show Steps p.tables e below (T0.setTop (mkF m 6 #[.val (.ref a1), .val (.int rm), .val (.long wt), .second, .val .null, .val (.int (iv + (-1 : Int32))), .val (.long (g (i - rm.toInt.toNat) + wt)), .second] [])) _
    exact k
theorem lpN {p : Program} {l : Launch} {e : Env} {R : Room} {s : State} {m : MethodId} {args : Array Value} {below : List Frame} {meth : Method} {c : Code} {cells slots : Nat} {Z : State} (a1 : Addr) (rm : Int32) (wt : Int64) (n0 : Nat) (hx : p.tables.exec = Jvm.exec) (hZ : Z.Warmed39 s.vm) (hby : c.code = prog_89_method_5_code) (g1 : n0 ≤ a1) (hr0 : 0 ≤ rm.toInt) (f : Nat → Int64) :
    ∀ (n : Nat) (iv : Int32) (s6 s7 : Slot) (g : Nat → Int64) (tk : Int64) (T0 : State) (h0 : Heap) (locs : List Loc), n ≤ 4 → iv.toInt = (n : Int) - 1 → Stand p l e R s m args below meth c T0 locs cells slots → T0.heap = h0 → Fr n0 locs → own_ar Z h0 a1 4 g → (∀ k, k < n → g k = f k) → (∀ k, n ≤ k → k < 4 → g k = own_new f rm wt k) → own_s67 s6 s7 →
      ∃ (T' : State) (h' : Heap) (locs' : List Loc) (Ls : Array Slot), Stand p l e R s m args below meth c T' locs' cells slots ∧ T'.heap = h' ∧ Fr n0 locs' ∧ Keep h0 h' [a1] ∧ own_ar Z h' a1 4 (own_new f rm wt) ∧
        ∀ t, Steps p.tables e below (T'.setTop (mkF m 64 Ls [])) t → Steps p.tables e below (T0.setTop (mkF m 6 #[.val (.ref a1), .val (.int rm), .val (.long wt), .second, .val .null, .val (.int iv), s6, s7] [])) t := by
  intro n
  induction n with
  | zero =>
    intro iv s6 s7 g tk T0 h0 locs hn hi X0 e0 N0 V1 G1 G2 hs
    have c9 : iv < rm := by rw [own_lts]; omega
    refine ⟨T0, h0, locs, #[.val (.ref a1), .val (.int rm), .val (.long wt), .second, .val .null, .val (.int iv), s6, s7], X0, e0, N0, Keep.refl h0 [a1], own_congr V1 (fun k hk => G2 k (Nat.zero_le k) hk), fun t k => ?_⟩
    show Steps p.tables e below (T0.setTop (mkF m 6 #[.val (.ref a1), .val (.int rm), .val (.long wt), .second, .val .null, .val (.int iv), s6, s7] [])) _
    refine XS.iload X0.here hx rfl (hb hby d1_6) rfl ?_
    show Steps p.tables e below (T0.setTop (mkF m 8 #[.val (.ref a1), .val (.int rm), .val (.long wt), .second, .val .null, .val (.int iv), s6, s7] [(.int iv)])) _
    refine XS.iloadN X0.here hx rfl (hb hby d1_8) rfl ?_
    show Steps p.tables e below (T0.setTop (mkF m 9 #[.val (.ref a1), .val (.int rm), .val (.long wt), .second, .val .null, .val (.int iv), s6, s7] [(.int rm), (.int iv)])) _
    refine XS.icmpYes X0.here hx rfl (pc0 := 9) (pc' := 64) rfl (hb hby d1_9) rfl (tlt c9).1 (by decide) (by decide) ?_
    show Steps p.tables e below (T0.setTop (mkF m 64 #[.val (.ref a1), .val (.int rm), .val (.long wt), .second, .val .null, .val (.int iv), s6, s7] [])) _
    exact k
  | succ n ih =>
    intro iv s6 s7 g tk T0 h0 locs hn hi X0 e0 N0 V1 G1 G2 hs
    have hi' : iv.toInt = (n : Int) := by omega
    by_cases c9 : iv < rm
    · have hlt : (n : Int) < rm.toInt := by have := own_lts.mp c9; omega
      have hno : ∀ k, k < n + 1 → ¬ own_imp f rm wt k := fun k hk q => by have := q.1; omega
      have V1' : own_ar Z h0 a1 4 (own_new f rm wt) := own_congr V1 (fun k hk => by
        by_cases q : k < n + 1
        · rw [G1 k q]; exact (if_neg (hno k q)).symm
        · exact G2 k (by omega) hk)
      refine ⟨T0, h0, locs, #[.val (.ref a1), .val (.int rm), .val (.long wt), .second, .val .null, .val (.int iv), s6, s7], X0, e0, N0, Keep.refl h0 [a1], V1', fun t k => ?_⟩
      show Steps p.tables e below (T0.setTop (mkF m 6 #[.val (.ref a1), .val (.int rm), .val (.long wt), .second, .val .null, .val (.int iv), s6, s7] [])) _
      refine XS.iload X0.here hx rfl (hb hby d1_6) rfl ?_
      show Steps p.tables e below (T0.setTop (mkF m 8 #[.val (.ref a1), .val (.int rm), .val (.long wt), .second, .val .null, .val (.int iv), s6, s7] [(.int iv)])) _
      refine XS.iloadN X0.here hx rfl (hb hby d1_8) rfl ?_
      show Steps p.tables e below (T0.setTop (mkF m 9 #[.val (.ref a1), .val (.int rm), .val (.long wt), .second, .val .null, .val (.int iv), s6, s7] [(.int rm), (.int iv)])) _
      refine XS.icmpYes X0.here hx rfl (pc0 := 9) (pc' := 64) rfl (hb hby d1_9) rfl (tlt c9).1 (by decide) (by decide) ?_
      show Steps p.tables e below (T0.setTop (mkF m 64 #[.val (.ref a1), .val (.int rm), .val (.long wt), .second, .val .null, .val (.int iv), s6, s7] [])) _
      exact k
    · have hri : rm.toInt ≤ (n : Int) := by have := mt own_lts.mpr c9; omega
      have hgi : own_imp g rm wt n ↔ own_imp f rm wt n := by
        have u1 := G1 n (by omega)
        have u2 := G1 (n - rm.toInt.toNat) (by omega)
        show (_ ∧ _) ↔ (_ ∧ _)
        rw [u1, u2]
      have hnew : own_new g rm wt n = own_new f rm wt n := by
        show (if own_imp g rm wt n then g (n - rm.toInt.toNat) + wt else g n) = if own_imp f rm wt n then f (n - rm.toInt.toNat) + wt else f n
        by_cases q : own_imp f rm wt n
        · rw [if_pos (hgi.mpr q), if_pos q, G1 (n - rm.toInt.toNat) (by omega)]
        · rw [if_neg (fun r => q (hgi.mp r)), if_neg q, G1 n (by omega)]
      obtain ⟨T1, h1, L1, s6', s7', X1, e1, N1, K1, W1, hs1, st1⟩ := tnN a1 rm wt n0 hx hZ hby g1 hr0 iv s6 s7 n g tk X0 e0 N0 V1 hi' (by omega) hri hs
      have F1 : ∀ k, k < n → (fun k => if k = n then own_new g rm wt n else g k) k = f k := fun k hk => by
        show (if k = n then own_new g rm wt n else g k) = f k
        rw [if_neg (by omega)]; exact G1 k (by omega)
      have F2 : ∀ k, n ≤ k → k < 4 → (fun k => if k = n then own_new g rm wt n else g k) k = own_new f rm wt k := fun k hk hk4 => by
        show (if k = n then own_new g rm wt n else g k) = own_new f rm wt k
        by_cases q : k = n
        · rw [if_pos q, hnew, q]
        · rw [if_neg q]; exact G2 k (by omega) hk4
      obtain ⟨T2, h2, L2, Ls, X2, e2, N2, K2, W2, st2⟩ := ih (iv + (-1 : Int32)) s6' s7' _ tk T1 h1 L1 (by omega) (own_dec hi' (by omega)) X1 e1 N1 W1 F1 F2 hs1
      exact ⟨T2, h2, L2, Ls, X2, e2, N2, K1.trans K2 (fun x hx => Or.inl hx), W2, fun t k => st1 t (st2 t k)⟩
theorem ef_1N (m : MethodId) (x0 : Addr) (x1 : Int32) (x2 : Int64) : entryFrame m #[(.ref x0), (.int x1), (.long x2), .null] 8 = mkF m 0 #[.val (.ref x0), .val (.int x1), .val (.long x2), .second, .val .null, .unset, .unset, .unset] [] := by first | (simp [entryFrame, mkF, argsToLocals, Value.category]; done) | rfl
def Q1N (Z : State) (a1 : Addr) (rm : Int32) (wt : Int64) (f : Nat → Int64) (tk : Int64) (h0 : Heap) (n0 : Nat) (v : Option Value) (h : Heap) (L : List Loc) : Prop := v = none ∧ Fr n0 L ∧ Keep h0 h [a1] ∧ own_ar Z h a1 4 (own_new f rm wt)
set_option maxRecDepth 65536 in
set_option maxHeartbeats 40000000 in
theorem rm1N (l : Launch) (Z : State) (a0 : Array Value) (hw : ∀ d ∈ tables_1, d.before a0 Z = true) (ws : List Jvm.Cond) (a1 : Addr) (rm : Int32) (wt : Int64) (f : Nat → Int64) (tk : Int64) (h0 : Heap) (n0 : Nat) (Z0 : n0 ≤ h0.size) (V1 : own_ar Z h0 a1 4 f) (g1 : n0 ≤ a1) (hr0 : 0 ≤ rm.toInt) :
    MetFree l site_131 (head1 (Jvm.Cond.code site_131 prog_89_method_5_code 8 none :: ws) ({ frames := 0, cells := 0, slots := 0, locals := 0 } : Room)) (fun a U => a = #[(.ref a1), (.int rm), (.long wt), .null] ∧ Z.Warmed39 U.vm ∧ U.heap = h0) (fun _ _ _ _ _ => True) (fun _ U o U' => ∃ v L, o = .returned v ∧ Q1N Z a1 rm wt f tk h0 n0 v U'.heap L ∧ FrameEnd U o U' L ({ frames := 0, cells := 0, slots := 0, locals := 0 } : Room).cells ({ frames := 0, cells := 0, slots := 0, locals := 0 } : Room).slots) := by
  refine MetFree.of_bodySF (plainFor_of_name pn_1) hisR ?_
  intro p e s m args below meth c s₁ Bd hml0 hP hK
  obtain ⟨rfl, hZ, hh⟩ := hP
  have hx := Bd.exec
  have hby := Bd.bytes
  have hml : c.maxLocals = 8 := hml0
  have hown : s.vm.findClass "com/example/chromabin/chromabin/packing/RoomKnapsack" = some m.cls := findClass_of_methodNamed Bd.named
  have hnm := (name_of_methodNamed Bd.named Bd.method).1
  have X0 : Stand p l e ({ frames := 0, cells := 0, slots := 0, locals := 0 } : Room) s m #[(.ref a1), (.int rm), (.long wt), .null] below meth c s₁ [] 0 0 := Stand.of_body Bd
  have e0 : s₁.heap = h0 := by rw [← hh, Bd.state]; rfl
  have N0 := Fr.nil n0
  have pre0 : ∀ t, Steps p.tables e below (s₁.setTop (mkF m 0 #[.val (.ref a1), .val (.int rm), .val (.long wt), .second, .val .null, .unset, .unset, .unset] [])) t → Steps p.tables e below (s₁.setTop (entryFrame m #[(.ref a1), (.int rm), (.long wt), .null] 8)) t := fun t k => castTop (ef_1N m a1 rm wt) k
  obtain ⟨T1, h1, L1, Ls, X1, e1, N1, K1, W1, st1⟩ := lpN a1 rm wt n0 hx hZ hby g1 hr0 f 4 ((4 : Int32) - (1 : Int32)) .unset .unset f tk s₁ h0 [] (by decide) (by decide) X0 e0 N0 V1 (fun _ _ => rfl) (fun k hk hk4 => absurd hk (by omega)) (Or.inl ⟨rfl, rfl⟩)
  obtain ⟨c1, A1, S1, H1⟩ := V1
  obtain ⟨fs, hr, hrun, hended, hW, hsame⟩ := X1.leave (v := none) (fun _ => rfl)
  refine ⟨_, _, pre0 _ ?_, hrun, hended, _, _, rfl, ?_, ⟨_, rfl⟩, hW, hsame.mono (by decide) (by decide)⟩
  · show Steps p.tables e below (s₁.setTop (mkF m 0 #[.val (.ref a1), .val (.int rm), .val (.long wt), .second, .val .null, .unset, .unset, .unset] [])) _
    refine XS.aloadN X0.here hx rfl (hb hby d1_0) rfl rfl ?_
    show Steps p.tables e below (s₁.setTop (mkF m 1 #[.val (.ref a1), .val (.int rm), .val (.long wt), .second, .val .null, .unset, .unset, .unset] [(.ref a1)])) _
    refine X0.arraylength hx (by rw [e0]; exact A1.1) (State.isArrayOf_alike hZ.alike A1.2.1) (g := (mkF m 1 #[.val (.ref a1), .val (.int rm), .val (.long wt), .second, .val .null, .unset, .unset, .unset] [(.ref a1)])) rfl rfl (hb hby d1_1) _ ?_
    rw [S1]
    show Steps p.tables e below (s₁.setTop (mkF m 2 #[.val (.ref a1), .val (.int rm), .val (.long wt), .second, .val .null, .unset, .unset, .unset] [(.int (4 : Int32))])) _
    refine XS.iconst X0.here hx rfl (hb hby d1_2) ?_
    show Steps p.tables e below (s₁.setTop (mkF m 3 #[.val (.ref a1), .val (.int rm), .val (.long wt), .second, .val .null, .unset, .unset, .unset] [(.int (1 : Int32)), (.int (4 : Int32))])) _
    refine XS.isub X0.here hx rfl (hb hby d1_3) rfl ?_
    show Steps p.tables e below (s₁.setTop (mkF m 4 #[.val (.ref a1), .val (.int rm), .val (.long wt), .second, .val .null, .unset, .unset, .unset] [(.int ((4 : Int32) - (1 : Int32)))])) _
    refine XS.istore X0.here hx rfl (hb hby d1_4) rfl (l' := #[.val (.ref a1), .val (.int rm), .val (.long wt), .second, .val .null, .val (.int ((4 : Int32) - (1 : Int32))), .unset, .unset]) rfl ?_
    show Steps p.tables e below (s₁.setTop (mkF m 6 #[.val (.ref a1), .val (.int rm), .val (.long wt), .second, .val .null, .val (.int ((4 : Int32) - (1 : Int32))), .unset, .unset] [])) _
    refine st1 _ ?_
    exact X1.returnOut hx Bd.returns (hb hby d1_64) hr
  · show Q1N Z a1 rm wt f tk h0 n0 _ T1.heap _
    rw [e1]
    exact ⟨rfl, N1, K1, W1⟩
set_option maxRecDepth 65536 in
set_option maxHeartbeats 40000000 in
theorem tnR {p : Program} {l : Launch} {e : Env} {R : Room} {s : State} {m : MethodId} {args : Array Value} {below : List Frame} {meth : Method} {c : Code} {cells slots : Nat} {Z : State} (a1 : Addr) (rm : Int32) (wt : Int64) (o4 : Addr) (n0 : Nat) (hx : p.tables.exec = Jvm.exec) (hZ : Z.Warmed39 s.vm) (hby : c.code = prog_89_method_5_code) (g1 : n0 ≤ a1) (g4 : n0 ≤ o4) (hne : o4 ≠ a1) (hr0 : 0 ≤ rm.toInt) {T0 : State} {h0 : Heap} {locs : List Loc} (iv : Int32) (s6 s7 : Slot) (i : Nat) (g : Nat → Int64) (tk : Int64) (X0 : Stand p l e R s m args below meth c T0 locs cells slots) (e0 : T0.heap = h0) (N0 : Fr n0 locs) (V1 : own_ar Z h0 a1 4 g) (V4 : own_ar Z h0 o4 1 (fun _ => tk)) (hi : iv.toInt = (i : Int)) (hi4 : i < 4) (hri : rm.toInt ≤ (i : Int)) (hs : own_s67 s6 s7) :
    ∃ (T' : State) (h' : Heap) (locs' : List Loc) (s6' s7' : Slot), Stand p l e R s m args below meth c T' locs' cells slots ∧ T'.heap = h' ∧ Fr n0 locs' ∧ Keep h0 h' [a1, o4] ∧ own_ar Z h' a1 4 (fun k => if k = i then own_new g rm wt i else g k) ∧ own_ar Z h' o4 1 (fun _ => tk ||| own_bit g rm wt i) ∧ own_s67 s6' s7' ∧
      ∀ t, Steps p.tables e below (T'.setTop (mkF m 6 #[.val (.ref a1), .val (.int rm), .val (.long wt), .second, .val (.ref o4), .val (.int (iv + (-1 : Int32))), s6', s7'] [])) t → Steps p.tables e below (T0.setTop (mkF m 6 #[.val (.ref a1), .val (.int rm), .val (.long wt), .second, .val (.ref o4), .val (.int iv), s6, s7] [])) t := by
  obtain ⟨c1, A1, S1, H1⟩ := V1
  have js := own_sub hi hr0 hri
  have hin17 := own_in js S1 (show i - rm.toInt.toNat < 4 by omega)
  have hat17 := own_at js H1 (show i - rm.toInt.toNat < 4 by omega)
  have hin27 := own_in hi S1 hi4
  have hat27 := own_at hi H1 hi4
  have c9 : ¬ iv < rm := by rw [own_lts]; omega
  have hst : storeLocals #[.val (.ref a1), .val (.int rm), .val (.long wt), .second, .val (.ref o4), .val (.int iv), s6, s7] 6 (.long (g (i - rm.toInt.toNat) + wt)) = some #[.val (.ref a1), .val (.int rm), .val (.long wt), .second, .val (.ref o4), .val (.int iv), .val (.long (g (i - rm.toInt.toNat) + wt)), .second] := by rcases hs with ⟨rfl, rfl⟩ | ⟨w, rfl, rfl⟩ <;> rfl
  by_cases c29 : g i < (g (i - rm.toInt.toNat) + wt)
  · obtain ⟨T7, h7, X7, e7, W7, st7⟩ := stJ X0 hx hZ e0 A1 (j := iv) hin27 (g := (mkF m 37 #[.val (.ref a1), .val (.int rm), .val (.long wt), .second, .val (.ref o4), .val (.int iv), .val (.long (g (i - rm.toInt.toNat) + wt)), .second] [(.long (g (i - rm.toInt.toNat) + wt)), (.int iv), (.ref a1)])) rfl rfl (hb hby d1_37)
    have V7 := own_store A1 S1 H1 W7 (own_clamp hi)
    have N7 := Fr.snoc X7 N0 g1
    have K7 : Keep h0 h7 [a1, o4] := (Keep.refl h0 [a1, o4]).wr W7 (Or.inl (List.mem_of_getElem? (i := 0) rfl))
    have hnew : own_new g rm wt i = g (i - rm.toInt.toNat) + wt := if_pos ⟨hri, c29⟩
    rw [← hnew] at V7
    obtain ⟨c4, A4, S4, H4⟩ := own_other V4 W7 hne
    have h0s := own_shr hi hi4
    have hin51 := own_in h0s S4 (by decide)
    have hat51 := own_at h0s H4 (by decide)
    obtain ⟨T8, h8, X8, e8, W8, st8⟩ := stJ X7 hx hZ e7 A4 (j := ((iv.toUInt32 >>> ((6 : Int32) &&& 31).toUInt32).toInt32)) hin51 (g := (mkF m 57 #[.val (.ref a1), .val (.int rm), .val (.long wt), .second, .val (.ref o4), .val (.int iv), .val (.long (g (i - rm.toInt.toNat) + wt)), .second] [(.long (tk ||| ((1 : Int64) <<< (iv &&& 0x3f).toInt64))), (.int ((iv.toUInt32 >>> ((6 : Int32) &&& 31).toUInt32).toInt32)), (.ref o4)])) rfl rfl (hb hby d1_57)
    have V8 := own_store A4 S4 H4 W8 (own_clamp h0s)
    have N8 := Fr.snoc X8 N7 g4
    have K8 : Keep h0 h8 [a1, o4] := K7.wr W8 (Or.inl (List.mem_of_getElem? (i := 1) rfl))
    have V9 := own_other V7 W8 (fun q => hne q.symm)
    have V10 : own_ar Z h8 o4 1 (fun _ => tk ||| own_bit g rm wt i) := own_congr V8 (fun k hk => by
      have hk0 : k = 0 := by omega
      subst hk0
      rw [if_pos rfl, own_shl hi hi4]
      exact congrArg (tk ||| ·) (show own_pw i = own_bit g rm wt i from (if_pos ⟨hri, c29⟩).symm))
    refine ⟨T8, h8, _, .val (.long (g (i - rm.toInt.toNat) + wt)), .second, X8, e8, N8, K8, V9, V10, Or.inr ⟨_, rfl, rfl⟩, fun t k => ?_⟩
    show Steps p.tables e below (T0.setTop (mkF m 6 #[.val (.ref a1), .val (.int rm), .val (.long wt), .second, .val (.ref o4), .val (.int iv), s6, s7] [])) _
    refine XS.iload X0.here hx rfl (hb hby d1_6) rfl ?_
    show Steps p.tables e below (T0.setTop (mkF m 8 #[.val (.ref a1), .val (.int rm), .val (.long wt), .second, .val (.ref o4), .val (.int iv), s6, s7] [(.int iv)])) _
    refine XS.iloadN X0.here hx rfl (hb hby d1_8) rfl ?_
    show Steps p.tables e below (T0.setTop (mkF m 9 #[.val (.ref a1), .val (.int rm), .val (.long wt), .second, .val (.ref o4), .val (.int iv), s6, s7] [(.int rm), (.int iv)])) _
    refine XS.icmpNo X0.here hx rfl (hb hby d1_9) rfl (flt c9).1 ?_
    show Steps p.tables e below (T0.setTop (mkF m 12 #[.val (.ref a1), .val (.int rm), .val (.long wt), .second, .val (.ref o4), .val (.int iv), s6, s7] [])) _
    refine XS.aloadN X0.here hx rfl (hb hby d1_12) rfl rfl ?_
    show Steps p.tables e below (T0.setTop (mkF m 13 #[.val (.ref a1), .val (.int rm), .val (.long wt), .second, .val (.ref o4), .val (.int iv), s6, s7] [(.ref a1)])) _
    refine XS.iload X0.here hx rfl (hb hby d1_13) rfl ?_
    show Steps p.tables e below (T0.setTop (mkF m 15 #[.val (.ref a1), .val (.int rm), .val (.long wt), .second, .val (.ref o4), .val (.int iv), s6, s7] [(.int iv), (.ref a1)])) _
    refine XS.iloadN X0.here hx rfl (hb hby d1_15) rfl ?_
    show Steps p.tables e below (T0.setTop (mkF m 16 #[.val (.ref a1), .val (.int rm), .val (.long wt), .second, .val (.ref o4), .val (.int iv), s6, s7] [(.int rm), (.int iv), (.ref a1)])) _
    refine XS.isub X0.here hx rfl (hb hby d1_16) rfl ?_
    show Steps p.tables e below (T0.setTop (mkF m 17 #[.val (.ref a1), .val (.int rm), .val (.long wt), .second, .val (.ref o4), .val (.int iv), s6, s7] [(.int (iv - rm)), (.ref a1)])) _
    refine X0.laload hx (j := (iv - rm)) (v := (.long (g (i - rm.toInt.toNat)))) (by rw [e0]; exact A1.1) (State.isArrayOf_alike hZ.alike A1.2.1) A1.2.2 hin17 hat17 (g := (mkF m 17 #[.val (.ref a1), .val (.int rm), .val (.long wt), .second, .val (.ref o4), .val (.int iv), s6, s7] [(.int (iv - rm)), (.ref a1)])) rfl rfl (hb hby d1_17) _ ?_
    show Steps p.tables e below (T0.setTop (mkF m 18 #[.val (.ref a1), .val (.int rm), .val (.long wt), .second, .val (.ref o4), .val (.int iv), s6, s7] [(.long (g (i - rm.toInt.toNat)))])) _
    refine XS.lloadN X0.here hx rfl (hb hby d1_18) rfl ?_
    show Steps p.tables e below (T0.setTop (mkF m 19 #[.val (.ref a1), .val (.int rm), .val (.long wt), .second, .val (.ref o4), .val (.int iv), s6, s7] [(.long wt), (.long (g (i - rm.toInt.toNat)))])) _
    refine XS.ladd X0.here hx rfl (hb hby d1_19) rfl ?_
    show Steps p.tables e below (T0.setTop (mkF m 20 #[.val (.ref a1), .val (.int rm), .val (.long wt), .second, .val (.ref o4), .val (.int iv), s6, s7] [(.long ((g (i - rm.toInt.toNat)) + wt))])) _
    refine XS.lstore X0.here hx rfl (hb hby d1_20) rfl (l' := #[.val (.ref a1), .val (.int rm), .val (.long wt), .second, .val (.ref o4), .val (.int iv), .val (.long (g (i - rm.toInt.toNat) + wt)), .second]) hst ?_
    show Steps p.tables e below (T0.setTop (mkF m 22 #[.val (.ref a1), .val (.int rm), .val (.long wt), .second, .val (.ref o4), .val (.int iv), .val (.long (g (i - rm.toInt.toNat) + wt)), .second] [])) _
    refine XS.lload X0.here hx rfl (hb hby d1_22) rfl ?_
    show Steps p.tables e below (T0.setTop (mkF m 24 #[.val (.ref a1), .val (.int rm), .val (.long wt), .second, .val (.ref o4), .val (.int iv), .val (.long (g (i - rm.toInt.toNat) + wt)), .second] [(.long (g (i - rm.toInt.toNat) + wt))])) _
    refine XS.aloadN X0.here hx rfl (hb hby d1_24) rfl rfl ?_
    show Steps p.tables e below (T0.setTop (mkF m 25 #[.val (.ref a1), .val (.int rm), .val (.long wt), .second, .val (.ref o4), .val (.int iv), .val (.long (g (i - rm.toInt.toNat) + wt)), .second] [(.ref a1), (.long (g (i - rm.toInt.toNat) + wt))])) _
    refine XS.iload X0.here hx rfl (hb hby d1_25) rfl ?_
    show Steps p.tables e below (T0.setTop (mkF m 27 #[.val (.ref a1), .val (.int rm), .val (.long wt), .second, .val (.ref o4), .val (.int iv), .val (.long (g (i - rm.toInt.toNat) + wt)), .second] [(.int iv), (.ref a1), (.long (g (i - rm.toInt.toNat) + wt))])) _
    refine X0.laload hx (j := iv) (v := (.long (g i))) (by rw [e0]; exact A1.1) (State.isArrayOf_alike hZ.alike A1.2.1) A1.2.2 hin27 hat27 (g := (mkF m 27 #[.val (.ref a1), .val (.int rm), .val (.long wt), .second, .val (.ref o4), .val (.int iv), .val (.long (g (i - rm.toInt.toNat) + wt)), .second] [(.int iv), (.ref a1), (.long (g (i - rm.toInt.toNat) + wt))])) rfl rfl (hb hby d1_27) _ ?_
    show Steps p.tables e below (T0.setTop (mkF m 28 #[.val (.ref a1), .val (.int rm), .val (.long wt), .second, .val (.ref o4), .val (.int iv), .val (.long (g (i - rm.toInt.toNat) + wt)), .second] [(.long (g i)), (.long (g (i - rm.toInt.toNat) + wt))])) _
    refine XS.lcmp X0.here hx rfl (hb hby d1_28) rfl ?_
    show Steps p.tables e below (T0.setTop (mkF m 29 #[.val (.ref a1), .val (.int rm), .val (.long wt), .second, .val (.ref o4), .val (.int iv), .val (.long (g (i - rm.toInt.toNat) + wt)), .second] [(.int (lcmpW (g (i - rm.toInt.toNat) + wt) (g i)))])) _
    refine XS.ifNo X0.here hx rfl (hb hby d1_29) rfl (own_lc_gt c29).2 ?_
    show Steps p.tables e below (T0.setTop (mkF m 32 #[.val (.ref a1), .val (.int rm), .val (.long wt), .second, .val (.ref o4), .val (.int iv), .val (.long (g (i - rm.toInt.toNat) + wt)), .second] [])) _
    refine XS.aloadN X0.here hx rfl (hb hby d1_32) rfl rfl ?_
    show Steps p.tables e below (T0.setTop (mkF m 33 #[.val (.ref a1), .val (.int rm), .val (.long wt), .second, .val (.ref o4), .val (.int iv), .val (.long (g (i - rm.toInt.toNat) + wt)), .second] [(.ref a1)])) _
    refine XS.iload X0.here hx rfl (hb hby d1_33) rfl ?_
    show Steps p.tables e below (T0.setTop (mkF m 35 #[.val (.ref a1), .val (.int rm), .val (.long wt), .second, .val (.ref o4), .val (.int iv), .val (.long (g (i - rm.toInt.toNat) + wt)), .second] [(.int iv), (.ref a1)])) _
    refine XS.lload X0.here hx rfl (hb hby d1_35) rfl ?_
    show Steps p.tables e below (T0.setTop (mkF m 37 #[.val (.ref a1), .val (.int rm), .val (.long wt), .second, .val (.ref o4), .val (.int iv), .val (.long (g (i - rm.toInt.toNat) + wt)), .second] [(.long (g (i - rm.toInt.toNat) + wt)), (.int iv), (.ref a1)])) _
    refine st7 _ ?_
    show Steps p.tables e below (T7.setTop (mkF m 38 #[.val (.ref a1), .val (.int rm), .val (.long wt), .second, .val (.ref o4), .val (.int iv), .val (.long (g (i - rm.toInt.toNat) + wt)), .second] [])) _
    refine XS.aload X7.here hx rfl (hb hby d1_38) rfl rfl ?_
    show Steps p.tables e below (T7.setTop (mkF m 40 #[.val (.ref a1), .val (.int rm), .val (.long wt), .second, .val (.ref o4), .val (.int iv), .val (.long (g (i - rm.toInt.toNat) + wt)), .second] [(.ref o4)])) _
    refine XS.ifnullNo X7.here hx rfl (hb hby d1_40) rfl ?_
    show Steps p.tables e below (T7.setTop (mkF m 43 #[.val (.ref a1), .val (.int rm), .val (.long wt), .second, .val (.ref o4), .val (.int iv), .val (.long (g (i - rm.toInt.toNat) + wt)), .second] [])) _
    refine XS.aload X7.here hx rfl (hb hby d1_43) rfl rfl ?_
    show Steps p.tables e below (T7.setTop (mkF m 45 #[.val (.ref a1), .val (.int rm), .val (.long wt), .second, .val (.ref o4), .val (.int iv), .val (.long (g (i - rm.toInt.toNat) + wt)), .second] [(.ref o4)])) _
    refine XS.iload X7.here hx rfl (hb hby d1_45) rfl ?_
    show Steps p.tables e below (T7.setTop (mkF m 47 #[.val (.ref a1), .val (.int rm), .val (.long wt), .second, .val (.ref o4), .val (.int iv), .val (.long (g (i - rm.toInt.toNat) + wt)), .second] [(.int iv), (.ref o4)])) _
    refine XS.bipush X7.here hx rfl (hb hby d1_47) ?_
    show Steps p.tables e below (T7.setTop (mkF m 49 #[.val (.ref a1), .val (.int rm), .val (.long wt), .second, .val (.ref o4), .val (.int iv), .val (.long (g (i - rm.toInt.toNat) + wt)), .second] [(.int (6 : Int32)), (.int iv), (.ref o4)])) _
    refine XS.iushr X7.here hx rfl (hb hby d1_49) rfl ?_
    show Steps p.tables e below (T7.setTop (mkF m 50 #[.val (.ref a1), .val (.int rm), .val (.long wt), .second, .val (.ref o4), .val (.int iv), .val (.long (g (i - rm.toInt.toNat) + wt)), .second] [(.int ((iv.toUInt32 >>> ((6 : Int32) &&& 31).toUInt32).toInt32)), (.ref o4)])) _
    refine XT.dup2 X7.here hx rfl (hb hby d1_50) rfl rfl rfl ?_
    show Steps p.tables e below (T7.setTop (mkF m 51 #[.val (.ref a1), .val (.int rm), .val (.long wt), .second, .val (.ref o4), .val (.int iv), .val (.long (g (i - rm.toInt.toNat) + wt)), .second] [(.int ((iv.toUInt32 >>> ((6 : Int32) &&& 31).toUInt32).toInt32)), (.ref o4), (.int ((iv.toUInt32 >>> ((6 : Int32) &&& 31).toUInt32).toInt32)), (.ref o4)])) _
    refine X7.laload hx (j := ((iv.toUInt32 >>> ((6 : Int32) &&& 31).toUInt32).toInt32)) (v := (.long tk)) (by rw [e7]; exact A4.1) (State.isArrayOf_alike hZ.alike A4.2.1) A4.2.2 hin51 hat51 (g := (mkF m 51 #[.val (.ref a1), .val (.int rm), .val (.long wt), .second, .val (.ref o4), .val (.int iv), .val (.long (g (i - rm.toInt.toNat) + wt)), .second] [(.int ((iv.toUInt32 >>> ((6 : Int32) &&& 31).toUInt32).toInt32)), (.ref o4), (.int ((iv.toUInt32 >>> ((6 : Int32) &&& 31).toUInt32).toInt32)), (.ref o4)])) rfl rfl (hb hby d1_51) _ ?_
    show Steps p.tables e below (T7.setTop (mkF m 52 #[.val (.ref a1), .val (.int rm), .val (.long wt), .second, .val (.ref o4), .val (.int iv), .val (.long (g (i - rm.toInt.toNat) + wt)), .second] [(.long tk), (.int ((iv.toUInt32 >>> ((6 : Int32) &&& 31).toUInt32).toInt32)), (.ref o4)])) _
    refine XS.lconst X7.here hx rfl (hb hby d1_52) ?_
    show Steps p.tables e below (T7.setTop (mkF m 53 #[.val (.ref a1), .val (.int rm), .val (.long wt), .second, .val (.ref o4), .val (.int iv), .val (.long (g (i - rm.toInt.toNat) + wt)), .second] [(.long (1 : Int64)), (.long tk), (.int ((iv.toUInt32 >>> ((6 : Int32) &&& 31).toUInt32).toInt32)), (.ref o4)])) _
    refine XS.iload X7.here hx rfl (hb hby d1_53) rfl ?_
    show Steps p.tables e below (T7.setTop (mkF m 55 #[.val (.ref a1), .val (.int rm), .val (.long wt), .second, .val (.ref o4), .val (.int iv), .val (.long (g (i - rm.toInt.toNat) + wt)), .second] [(.int iv), (.long (1 : Int64)), (.long tk), (.int ((iv.toUInt32 >>> ((6 : Int32) &&& 31).toUInt32).toInt32)), (.ref o4)])) _
    refine XS.lshl X7.here hx rfl (hb hby d1_55) rfl ?_
    show Steps p.tables e below (T7.setTop (mkF m 56 #[.val (.ref a1), .val (.int rm), .val (.long wt), .second, .val (.ref o4), .val (.int iv), .val (.long (g (i - rm.toInt.toNat) + wt)), .second] [(.long ((1 : Int64) <<< (iv &&& 0x3f).toInt64)), (.long tk), (.int ((iv.toUInt32 >>> ((6 : Int32) &&& 31).toUInt32).toInt32)), (.ref o4)])) _
    refine XS.lor X7.here hx rfl (hb hby d1_56) rfl ?_
    show Steps p.tables e below (T7.setTop (mkF m 57 #[.val (.ref a1), .val (.int rm), .val (.long wt), .second, .val (.ref o4), .val (.int iv), .val (.long (g (i - rm.toInt.toNat) + wt)), .second] [(.long (tk ||| ((1 : Int64) <<< (iv &&& 0x3f).toInt64))), (.int ((iv.toUInt32 >>> ((6 : Int32) &&& 31).toUInt32).toInt32)), (.ref o4)])) _
    refine st8 _ ?_
    show Steps p.tables e below (T8.setTop (mkF m 58 #[.val (.ref a1), .val (.int rm), .val (.long wt), .second, .val (.ref o4), .val (.int iv), .val (.long (g (i - rm.toInt.toNat) + wt)), .second] [])) _
    refine XS.iinc X8.here hx rfl (hb hby d1_58) rfl (l' := #[.val (.ref a1), .val (.int rm), .val (.long wt), .second, .val (.ref o4), .val (.int (iv + (-1 : Int32))), .val (.long (g (i - rm.toInt.toNat) + wt)), .second]) rfl ?_
    show Steps p.tables e below (T8.setTop (mkF m 61 #[.val (.ref a1), .val (.int rm), .val (.long wt), .second, .val (.ref o4), .val (.int (iv + (-1 : Int32))), .val (.long (g (i - rm.toInt.toNat) + wt)), .second] [])) _
    refine XS.goto X8.here hx rfl (pc0 := 61) (pc' := 6) rfl (hb hby d1_61) (by decide) (by decide) ?_
    show Steps p.tables e below (T8.setTop (mkF m 6 #[.val (.ref a1), .val (.int rm), .val (.long wt), .second, .val (.ref o4), .val (.int (iv + (-1 : Int32))), .val (.long (g (i - rm.toInt.toNat) + wt)), .second] [])) _
    exact k
  · have hnew : own_new g rm wt i = g i := if_neg (fun q => c29 q.2)
    have V7 : own_ar Z h0 a1 4 (fun k => if k = i then own_new g rm wt i else g k) := own_congr ⟨c1, A1, S1, H1⟩ (fun k hk => by
      by_cases q : k = i
      · rw [if_pos q, hnew, q]
      · rw [if_neg q])
    have V8 : own_ar Z h0 o4 1 (fun _ => tk ||| own_bit g rm wt i) := own_congr V4 (fun k hk => by
      have z : own_bit g rm wt i = 0 := if_neg (fun q => c29 q.2)
      rw [z, Int64.or_zero])
    refine ⟨T0, h0, _, .val (.long (g (i - rm.toInt.toNat) + wt)), .second, X0, e0, N0, Keep.refl h0 [a1, o4], V7, V8, Or.inr ⟨_, rfl, rfl⟩, fun t k => ?_⟩
    show Steps p.tables e below (T0.setTop (mkF m 6 #[.val (.ref a1), .val (.int rm), .val (.long wt), .second, .val (.ref o4), .val (.int iv), s6, s7] [])) _
    refine XS.iload X0.here hx rfl (hb hby d1_6) rfl ?_
    show Steps p.tables e below (T0.setTop (mkF m 8 #[.val (.ref a1), .val (.int rm), .val (.long wt), .second, .val (.ref o4), .val (.int iv), s6, s7] [(.int iv)])) _
    refine XS.iloadN X0.here hx rfl (hb hby d1_8) rfl ?_
    show Steps p.tables e below (T0.setTop (mkF m 9 #[.val (.ref a1), .val (.int rm), .val (.long wt), .second, .val (.ref o4), .val (.int iv), s6, s7] [(.int rm), (.int iv)])) _
    refine XS.icmpNo X0.here hx rfl (hb hby d1_9) rfl (flt c9).1 ?_
    show Steps p.tables e below (T0.setTop (mkF m 12 #[.val (.ref a1), .val (.int rm), .val (.long wt), .second, .val (.ref o4), .val (.int iv), s6, s7] [])) _
    refine XS.aloadN X0.here hx rfl (hb hby d1_12) rfl rfl ?_
    show Steps p.tables e below (T0.setTop (mkF m 13 #[.val (.ref a1), .val (.int rm), .val (.long wt), .second, .val (.ref o4), .val (.int iv), s6, s7] [(.ref a1)])) _
    refine XS.iload X0.here hx rfl (hb hby d1_13) rfl ?_
    show Steps p.tables e below (T0.setTop (mkF m 15 #[.val (.ref a1), .val (.int rm), .val (.long wt), .second, .val (.ref o4), .val (.int iv), s6, s7] [(.int iv), (.ref a1)])) _
    refine XS.iloadN X0.here hx rfl (hb hby d1_15) rfl ?_
    show Steps p.tables e below (T0.setTop (mkF m 16 #[.val (.ref a1), .val (.int rm), .val (.long wt), .second, .val (.ref o4), .val (.int iv), s6, s7] [(.int rm), (.int iv), (.ref a1)])) _
    refine XS.isub X0.here hx rfl (hb hby d1_16) rfl ?_
    show Steps p.tables e below (T0.setTop (mkF m 17 #[.val (.ref a1), .val (.int rm), .val (.long wt), .second, .val (.ref o4), .val (.int iv), s6, s7] [(.int (iv - rm)), (.ref a1)])) _
    refine X0.laload hx (j := (iv - rm)) (v := (.long (g (i - rm.toInt.toNat)))) (by rw [e0]; exact A1.1) (State.isArrayOf_alike hZ.alike A1.2.1) A1.2.2 hin17 hat17 (g := (mkF m 17 #[.val (.ref a1), .val (.int rm), .val (.long wt), .second, .val (.ref o4), .val (.int iv), s6, s7] [(.int (iv - rm)), (.ref a1)])) rfl rfl (hb hby d1_17) _ ?_
    show Steps p.tables e below (T0.setTop (mkF m 18 #[.val (.ref a1), .val (.int rm), .val (.long wt), .second, .val (.ref o4), .val (.int iv), s6, s7] [(.long (g (i - rm.toInt.toNat)))])) _
    refine XS.lloadN X0.here hx rfl (hb hby d1_18) rfl ?_
    show Steps p.tables e below (T0.setTop (mkF m 19 #[.val (.ref a1), .val (.int rm), .val (.long wt), .second, .val (.ref o4), .val (.int iv), s6, s7] [(.long wt), (.long (g (i - rm.toInt.toNat)))])) _
    refine XS.ladd X0.here hx rfl (hb hby d1_19) rfl ?_
    show Steps p.tables e below (T0.setTop (mkF m 20 #[.val (.ref a1), .val (.int rm), .val (.long wt), .second, .val (.ref o4), .val (.int iv), s6, s7] [(.long ((g (i - rm.toInt.toNat)) + wt))])) _
    refine XS.lstore X0.here hx rfl (hb hby d1_20) rfl (l' := #[.val (.ref a1), .val (.int rm), .val (.long wt), .second, .val (.ref o4), .val (.int iv), .val (.long (g (i - rm.toInt.toNat) + wt)), .second]) hst ?_
    show Steps p.tables e below (T0.setTop (mkF m 22 #[.val (.ref a1), .val (.int rm), .val (.long wt), .second, .val (.ref o4), .val (.int iv), .val (.long (g (i - rm.toInt.toNat) + wt)), .second] [])) _
    refine XS.lload X0.here hx rfl (hb hby d1_22) rfl ?_
    show Steps p.tables e below (T0.setTop (mkF m 24 #[.val (.ref a1), .val (.int rm), .val (.long wt), .second, .val (.ref o4), .val (.int iv), .val (.long (g (i - rm.toInt.toNat) + wt)), .second] [(.long (g (i - rm.toInt.toNat) + wt))])) _
    refine XS.aloadN X0.here hx rfl (hb hby d1_24) rfl rfl ?_
    show Steps p.tables e below (T0.setTop (mkF m 25 #[.val (.ref a1), .val (.int rm), .val (.long wt), .second, .val (.ref o4), .val (.int iv), .val (.long (g (i - rm.toInt.toNat) + wt)), .second] [(.ref a1), (.long (g (i - rm.toInt.toNat) + wt))])) _
    refine XS.iload X0.here hx rfl (hb hby d1_25) rfl ?_
    show Steps p.tables e below (T0.setTop (mkF m 27 #[.val (.ref a1), .val (.int rm), .val (.long wt), .second, .val (.ref o4), .val (.int iv), .val (.long (g (i - rm.toInt.toNat) + wt)), .second] [(.int iv), (.ref a1), (.long (g (i - rm.toInt.toNat) + wt))])) _
    refine X0.laload hx (j := iv) (v := (.long (g i))) (by rw [e0]; exact A1.1) (State.isArrayOf_alike hZ.alike A1.2.1) A1.2.2 hin27 hat27 (g := (mkF m 27 #[.val (.ref a1), .val (.int rm), .val (.long wt), .second, .val (.ref o4), .val (.int iv), .val (.long (g (i - rm.toInt.toNat) + wt)), .second] [(.int iv), (.ref a1), (.long (g (i - rm.toInt.toNat) + wt))])) rfl rfl (hb hby d1_27) _ ?_
    show Steps p.tables e below (T0.setTop (mkF m 28 #[.val (.ref a1), .val (.int rm), .val (.long wt), .second, .val (.ref o4), .val (.int iv), .val (.long (g (i - rm.toInt.toNat) + wt)), .second] [(.long (g i)), (.long (g (i - rm.toInt.toNat) + wt))])) _
    refine XS.lcmp X0.here hx rfl (hb hby d1_28) rfl ?_
    show Steps p.tables e below (T0.setTop (mkF m 29 #[.val (.ref a1), .val (.int rm), .val (.long wt), .second, .val (.ref o4), .val (.int iv), .val (.long (g (i - rm.toInt.toNat) + wt)), .second] [(.int (lcmpW (g (i - rm.toInt.toNat) + wt) (g i)))])) _
    refine XS.ifYes X0.here hx rfl (pc0 := 29) (pc' := 58) rfl (hb hby d1_29) rfl (own_lc_ngt c29).2 (by decide) (by decide) ?_
    show Steps p.tables e below (T0.setTop (mkF m 58 #[.val (.ref a1), .val (.int rm), .val (.long wt), .second, .val (.ref o4), .val (.int iv), .val (.long (g (i - rm.toInt.toNat) + wt)), .second] [])) _
    refine XS.iinc X0.here hx rfl (hb hby d1_58) rfl (l' := #[.val (.ref a1), .val (.int rm), .val (.long wt), .second, .val (.ref o4), .val (.int (iv + (-1 : Int32))), .val (.long (g (i - rm.toInt.toNat) + wt)), .second]) rfl ?_
    show Steps p.tables e below (T0.setTop (mkF m 61 #[.val (.ref a1), .val (.int rm), .val (.long wt), .second, .val (.ref o4), .val (.int (iv + (-1 : Int32))), .val (.long (g (i - rm.toInt.toNat) + wt)), .second] [])) _
    refine XS.goto X0.here hx rfl (pc0 := 61) (pc' := 6) rfl (hb hby d1_61) (by decide) (by decide) ?_
    show Steps p.tables e below (T0.setTop (mkF m 6 #[.val (.ref a1), .val (.int rm), .val (.long wt), .second, .val (.ref o4), .val (.int (iv + (-1 : Int32))), .val (.long (g (i - rm.toInt.toNat) + wt)), .second] [])) _
    exact k
theorem lpR {p : Program} {l : Launch} {e : Env} {R : Room} {s : State} {m : MethodId} {args : Array Value} {below : List Frame} {meth : Method} {c : Code} {cells slots : Nat} {Z : State} (a1 : Addr) (rm : Int32) (wt : Int64) (o4 : Addr) (n0 : Nat) (hx : p.tables.exec = Jvm.exec) (hZ : Z.Warmed39 s.vm) (hby : c.code = prog_89_method_5_code) (g1 : n0 ≤ a1) (g4 : n0 ≤ o4) (hne : o4 ≠ a1) (hr0 : 0 ≤ rm.toInt) (f : Nat → Int64) :
    ∀ (n : Nat) (iv : Int32) (s6 s7 : Slot) (g : Nat → Int64) (tk : Int64) (T0 : State) (h0 : Heap) (locs : List Loc), n ≤ 4 → iv.toInt = (n : Int) - 1 → Stand p l e R s m args below meth c T0 locs cells slots → T0.heap = h0 → Fr n0 locs → own_ar Z h0 a1 4 g → own_ar Z h0 o4 1 (fun _ => tk) → (∀ k, k < n → g k = f k) → (∀ k, n ≤ k → k < 4 → g k = own_new f rm wt k) → own_s67 s6 s7 →
      ∃ (T' : State) (h' : Heap) (locs' : List Loc) (Ls : Array Slot), Stand p l e R s m args below meth c T' locs' cells slots ∧ T'.heap = h' ∧ Fr n0 locs' ∧ Keep h0 h' [a1, o4] ∧ own_ar Z h' a1 4 (own_new f rm wt) ∧ own_ar Z h' o4 1 (fun _ => own_or f rm wt n tk) ∧
        ∀ t, Steps p.tables e below (T'.setTop (mkF m 64 Ls [])) t → Steps p.tables e below (T0.setTop (mkF m 6 #[.val (.ref a1), .val (.int rm), .val (.long wt), .second, .val (.ref o4), .val (.int iv), s6, s7] [])) t := by
  intro n
  induction n with
  | zero =>
    intro iv s6 s7 g tk T0 h0 locs hn hi X0 e0 N0 V1 V4 G1 G2 hs
    have c9 : iv < rm := by rw [own_lts]; omega
    refine ⟨T0, h0, locs, #[.val (.ref a1), .val (.int rm), .val (.long wt), .second, .val (.ref o4), .val (.int iv), s6, s7], X0, e0, N0, Keep.refl h0 [a1, o4], own_congr V1 (fun k hk => G2 k (Nat.zero_le k) hk), V4, fun t k => ?_⟩
    show Steps p.tables e below (T0.setTop (mkF m 6 #[.val (.ref a1), .val (.int rm), .val (.long wt), .second, .val (.ref o4), .val (.int iv), s6, s7] [])) _
    refine XS.iload X0.here hx rfl (hb hby d1_6) rfl ?_
    show Steps p.tables e below (T0.setTop (mkF m 8 #[.val (.ref a1), .val (.int rm), .val (.long wt), .second, .val (.ref o4), .val (.int iv), s6, s7] [(.int iv)])) _
    refine XS.iloadN X0.here hx rfl (hb hby d1_8) rfl ?_
    show Steps p.tables e below (T0.setTop (mkF m 9 #[.val (.ref a1), .val (.int rm), .val (.long wt), .second, .val (.ref o4), .val (.int iv), s6, s7] [(.int rm), (.int iv)])) _
    refine XS.icmpYes X0.here hx rfl (pc0 := 9) (pc' := 64) rfl (hb hby d1_9) rfl (tlt c9).1 (by decide) (by decide) ?_
    show Steps p.tables e below (T0.setTop (mkF m 64 #[.val (.ref a1), .val (.int rm), .val (.long wt), .second, .val (.ref o4), .val (.int iv), s6, s7] [])) _
    exact k
  | succ n ih =>
    intro iv s6 s7 g tk T0 h0 locs hn hi X0 e0 N0 V1 V4 G1 G2 hs
    have hi' : iv.toInt = (n : Int) := by omega
    by_cases c9 : iv < rm
    · have hlt : (n : Int) < rm.toInt := by have := own_lts.mp c9; omega
      have hno : ∀ k, k < n + 1 → ¬ own_imp f rm wt k := fun k hk q => by have := q.1; omega
      have V1' : own_ar Z h0 a1 4 (own_new f rm wt) := own_congr V1 (fun k hk => by
        by_cases q : k < n + 1
        · rw [G1 k q]; exact (if_neg (hno k q)).symm
        · exact G2 k (by omega) hk)
      have V4' : own_ar Z h0 o4 1 (fun _ => own_or f rm wt (n + 1) tk) := own_congr V4 (fun k hk => (own_or0 f rm wt (n + 1) tk hno).symm)
      refine ⟨T0, h0, locs, #[.val (.ref a1), .val (.int rm), .val (.long wt), .second, .val (.ref o4), .val (.int iv), s6, s7], X0, e0, N0, Keep.refl h0 [a1, o4], V1', V4', fun t k => ?_⟩
      show Steps p.tables e below (T0.setTop (mkF m 6 #[.val (.ref a1), .val (.int rm), .val (.long wt), .second, .val (.ref o4), .val (.int iv), s6, s7] [])) _
      refine XS.iload X0.here hx rfl (hb hby d1_6) rfl ?_
      show Steps p.tables e below (T0.setTop (mkF m 8 #[.val (.ref a1), .val (.int rm), .val (.long wt), .second, .val (.ref o4), .val (.int iv), s6, s7] [(.int iv)])) _
      refine XS.iloadN X0.here hx rfl (hb hby d1_8) rfl ?_
      show Steps p.tables e below (T0.setTop (mkF m 9 #[.val (.ref a1), .val (.int rm), .val (.long wt), .second, .val (.ref o4), .val (.int iv), s6, s7] [(.int rm), (.int iv)])) _
      refine XS.icmpYes X0.here hx rfl (pc0 := 9) (pc' := 64) rfl (hb hby d1_9) rfl (tlt c9).1 (by decide) (by decide) ?_
      show Steps p.tables e below (T0.setTop (mkF m 64 #[.val (.ref a1), .val (.int rm), .val (.long wt), .second, .val (.ref o4), .val (.int iv), s6, s7] [])) _
      exact k
    · have hri : rm.toInt ≤ (n : Int) := by have := mt own_lts.mpr c9; omega
      have hgi : own_imp g rm wt n ↔ own_imp f rm wt n := by
        have u1 := G1 n (by omega)
        have u2 := G1 (n - rm.toInt.toNat) (by omega)
        show (_ ∧ _) ↔ (_ ∧ _)
        rw [u1, u2]
      have hnew : own_new g rm wt n = own_new f rm wt n := by
        show (if own_imp g rm wt n then g (n - rm.toInt.toNat) + wt else g n) = if own_imp f rm wt n then f (n - rm.toInt.toNat) + wt else f n
        by_cases q : own_imp f rm wt n
        · rw [if_pos (hgi.mpr q), if_pos q, G1 (n - rm.toInt.toNat) (by omega)]
        · rw [if_neg (fun r => q (hgi.mp r)), if_neg q, G1 n (by omega)]
      have hbit : own_bit g rm wt n = own_bit f rm wt n := by unfold own_bit; exact own_ifc hgi
      obtain ⟨T1, h1, L1, s6', s7', X1, e1, N1, K1, W1, U1, hs1, st1⟩ := tnR a1 rm wt o4 n0 hx hZ hby g1 g4 hne hr0 iv s6 s7 n g tk X0 e0 N0 V1 V4 hi' (by omega) hri hs
      have F1 : ∀ k, k < n → (fun k => if k = n then own_new g rm wt n else g k) k = f k := fun k hk => by
        show (if k = n then own_new g rm wt n else g k) = f k
        rw [if_neg (by omega)]; exact G1 k (by omega)
      have F2 : ∀ k, n ≤ k → k < 4 → (fun k => if k = n then own_new g rm wt n else g k) k = own_new f rm wt k := fun k hk hk4 => by
        show (if k = n then own_new g rm wt n else g k) = own_new f rm wt k
        by_cases q : k = n
        · rw [if_pos q, hnew, q]
        · rw [if_neg q]; exact G2 k (by omega) hk4
      obtain ⟨T2, h2, L2, Ls, X2, e2, N2, K2, W2, U2, st2⟩ := ih (iv + (-1 : Int32)) s6' s7' _ _ T1 h1 L1 (by omega) (own_dec hi' (by omega)) X1 e1 N1 W1 U1 F1 F2 hs1
      have U3 : own_ar Z h2 o4 1 (fun _ => own_or f rm wt (n + 1) tk) := by rw [hbit] at U2; exact U2
      exact ⟨T2, h2, L2, Ls, X2, e2, N2, K1.trans K2 (fun x hx => Or.inl hx), W2, U3, fun t k => st1 t (st2 t k)⟩
theorem ef_1R (m : MethodId) (x0 : Addr) (x1 : Int32) (x2 : Int64) (x3 : Addr) : entryFrame m #[(.ref x0), (.int x1), (.long x2), (.ref x3)] 8 = mkF m 0 #[.val (.ref x0), .val (.int x1), .val (.long x2), .second, .val (.ref x3), .unset, .unset, .unset] [] := by first | (simp [entryFrame, mkF, argsToLocals, Value.category]; done) | rfl
def Q1R (Z : State) (a1 : Addr) (rm : Int32) (wt : Int64) (o4 : Addr) (f : Nat → Int64) (tk : Int64) (h0 : Heap) (n0 : Nat) (v : Option Value) (h : Heap) (L : List Loc) : Prop := v = none ∧ Fr n0 L ∧ Keep h0 h [a1, o4] ∧ own_ar Z h a1 4 (own_new f rm wt) ∧ own_ar Z h o4 1 (fun _ => own_or f rm wt 4 tk)
set_option maxRecDepth 65536 in
set_option maxHeartbeats 40000000 in
theorem rm1R (l : Launch) (Z : State) (a0 : Array Value) (hw : ∀ d ∈ tables_1, d.before a0 Z = true) (ws : List Jvm.Cond) (a1 : Addr) (rm : Int32) (wt : Int64) (o4 : Addr) (f : Nat → Int64) (tk : Int64) (h0 : Heap) (n0 : Nat) (Z0 : n0 ≤ h0.size) (V1 : own_ar Z h0 a1 4 f) (V4 : own_ar Z h0 o4 1 (fun _ => tk)) (g4 : n0 ≤ o4) (hne : o4 ≠ a1) (g1 : n0 ≤ a1) (hr0 : 0 ≤ rm.toInt) :
    MetFree l site_131 (head1 (Jvm.Cond.code site_131 prog_89_method_5_code 8 none :: ws) ({ frames := 0, cells := 0, slots := 0, locals := 0 } : Room)) (fun a U => a = #[(.ref a1), (.int rm), (.long wt), (.ref o4)] ∧ Z.Warmed39 U.vm ∧ U.heap = h0) (fun _ _ _ _ _ => True) (fun _ U o U' => ∃ v L, o = .returned v ∧ Q1R Z a1 rm wt o4 f tk h0 n0 v U'.heap L ∧ FrameEnd U o U' L ({ frames := 0, cells := 0, slots := 0, locals := 0 } : Room).cells ({ frames := 0, cells := 0, slots := 0, locals := 0 } : Room).slots) := by
  refine MetFree.of_bodySF (plainFor_of_name pn_1) hisR ?_
  intro p e s m args below meth c s₁ Bd hml0 hP hK
  obtain ⟨rfl, hZ, hh⟩ := hP
  have hx := Bd.exec
  have hby := Bd.bytes
  have hml : c.maxLocals = 8 := hml0
  have hown : s.vm.findClass "com/example/chromabin/chromabin/packing/RoomKnapsack" = some m.cls := findClass_of_methodNamed Bd.named
  have hnm := (name_of_methodNamed Bd.named Bd.method).1
  have X0 : Stand p l e ({ frames := 0, cells := 0, slots := 0, locals := 0 } : Room) s m #[(.ref a1), (.int rm), (.long wt), (.ref o4)] below meth c s₁ [] 0 0 := Stand.of_body Bd
  have e0 : s₁.heap = h0 := by rw [← hh, Bd.state]; rfl
  have N0 := Fr.nil n0
  have pre0 : ∀ t, Steps p.tables e below (s₁.setTop (mkF m 0 #[.val (.ref a1), .val (.int rm), .val (.long wt), .second, .val (.ref o4), .unset, .unset, .unset] [])) t → Steps p.tables e below (s₁.setTop (entryFrame m #[(.ref a1), (.int rm), (.long wt), (.ref o4)] 8)) t := fun t k => castTop (ef_1R m a1 rm wt o4) k
  obtain ⟨T1, h1, L1, Ls, X1, e1, N1, K1, W1, U1, st1⟩ := lpR a1 rm wt o4 n0 hx hZ hby g1 g4 hne hr0 f 4 ((4 : Int32) - (1 : Int32)) .unset .unset f tk s₁ h0 [] (by decide) (by decide) X0 e0 N0 V1 V4 (fun _ _ => rfl) (fun k hk hk4 => absurd hk (by omega)) (Or.inl ⟨rfl, rfl⟩)
  obtain ⟨c1, A1, S1, H1⟩ := V1
  obtain ⟨fs, hr, hrun, hended, hW, hsame⟩ := X1.leave (v := none) (fun _ => rfl)
  refine ⟨_, _, pre0 _ ?_, hrun, hended, _, _, rfl, ?_, ⟨_, rfl⟩, hW, hsame.mono (by decide) (by decide)⟩
  · show Steps p.tables e below (s₁.setTop (mkF m 0 #[.val (.ref a1), .val (.int rm), .val (.long wt), .second, .val (.ref o4), .unset, .unset, .unset] [])) _
    refine XS.aloadN X0.here hx rfl (hb hby d1_0) rfl rfl ?_
    show Steps p.tables e below (s₁.setTop (mkF m 1 #[.val (.ref a1), .val (.int rm), .val (.long wt), .second, .val (.ref o4), .unset, .unset, .unset] [(.ref a1)])) _
    refine X0.arraylength hx (by rw [e0]; exact A1.1) (State.isArrayOf_alike hZ.alike A1.2.1) (g := (mkF m 1 #[.val (.ref a1), .val (.int rm), .val (.long wt), .second, .val (.ref o4), .unset, .unset, .unset] [(.ref a1)])) rfl rfl (hb hby d1_1) _ ?_
    rw [S1]
    show Steps p.tables e below (s₁.setTop (mkF m 2 #[.val (.ref a1), .val (.int rm), .val (.long wt), .second, .val (.ref o4), .unset, .unset, .unset] [(.int (4 : Int32))])) _
    refine XS.iconst X0.here hx rfl (hb hby d1_2) ?_
    show Steps p.tables e below (s₁.setTop (mkF m 3 #[.val (.ref a1), .val (.int rm), .val (.long wt), .second, .val (.ref o4), .unset, .unset, .unset] [(.int (1 : Int32)), (.int (4 : Int32))])) _
    refine XS.isub X0.here hx rfl (hb hby d1_3) rfl ?_
    show Steps p.tables e below (s₁.setTop (mkF m 4 #[.val (.ref a1), .val (.int rm), .val (.long wt), .second, .val (.ref o4), .unset, .unset, .unset] [(.int ((4 : Int32) - (1 : Int32)))])) _
    refine XS.istore X0.here hx rfl (hb hby d1_4) rfl (l' := #[.val (.ref a1), .val (.int rm), .val (.long wt), .second, .val (.ref o4), .val (.int ((4 : Int32) - (1 : Int32))), .unset, .unset]) rfl ?_
    show Steps p.tables e below (s₁.setTop (mkF m 6 #[.val (.ref a1), .val (.int rm), .val (.long wt), .second, .val (.ref o4), .val (.int ((4 : Int32) - (1 : Int32))), .unset, .unset] [])) _
    refine st1 _ ?_
    exact X1.returnOut hx Bd.returns (hb hby d1_64) hr
  · show Q1R Z a1 rm wt o4 f tk h0 n0 _ T1.heap _
    rw [e1]
    exact ⟨rfl, N1, K1, W1, U1⟩
theorem pd_1 : parseMethodDescriptor "([JIJ[J)V" = some ⟨[(.array .long), .int, .long, (.array .long)], none⟩ := by decide +kernel
theorem pd_2 : parseMethodDescriptor "([JIIJ)J" = some ⟨[(.array .long), .int, .int, .long], some .long⟩ := by decide +kernel
set_option maxRecDepth 65536 in
set_option maxHeartbeats 40000000 in
theorem tlN {p : Program} {l : Launch} {e : Env} {s : State} {m : MethodId} {args : Array Value} {below : List Frame} {meth : Method} {c : Code} {cells slots : Nat} {Z : State} {a0 : Array Value} {T0 : State} {h0 : Heap} {locs : List Loc} (hw : ∀ d ∈ tables_1, d.before a0 Z = true) (q1 q2 q3 : Int64) (p4 : Int32) (q5 : Int64) (p6 rm : Int32) (wt : Int64) (kp : Int32) (b0 b1 b2 b3 : Int64) (oa ob : Addr) (n0 : Nat) (X0 : Stand p l e room_1 s m args below meth c T0 locs cells slots) (hcl : cells ≤ 16) (hsl : slots ≤ 128) (hx : p.tables.exec = Jvm.exec) (hZ : Z.Warmed39 s.vm) (hby : c.code = code) (hml : c.maxLocals = 28) (hown : s.vm.findClass "com/example/chromabin/chromabin/packing/RoomKnapsackIncludePinLaw" = some m.cls) (e0 : T0.heap = h0) (N0 : Fr n0 locs) (Z0 : n0 ≤ h0.size) (hr0 : 0 ≤ rm.toInt) (Vo : own_ar Z h0 oa 4 (own_f b0 b1 b2 b3)) (Vb : own_ar Z h0 ob 4 (own_new (own_f b0 b1 b2 b3) rm wt)) :
    ∃ (T' : State) (locs' : List Loc) (Ls : Array Slot), Stand p l e room_1 s m args below meth c T' locs' cells slots ∧ Fr n0 locs' ∧ ∀ t, Steps p.tables e below (T'.setTop (mkF m 390 Ls [(.int (1 : Int32))])) t → Steps p.tables e below (T0.setTop (mkF m 134 #[.val (.long q1), .second, .val (.long q2), .second, .val (.long q3), .second, .val (.int p4), .val (.long q5), .second, .val (.int p6), .val (.int rm), .val (.long wt), .second, .val (.int kp), .val (.long b0), .second, .val (.long b1), .second, .val (.long b2), .second, .val (.long b3), .second, .val (.ref oa), .val (.ref ob), .val .null, .unset, .unset, .unset] [])) t := by
  obtain ⟨cb, Ab, Sb, Hb⟩ := Vb
  have s148 : ∀ t, Steps p.tables e below (T0.setTop (mkF m 148 #[.val (.long q1), .second, .val (.long q2), .second, .val (.long q3), .second, .val (.int p4), .val (.long q5), .second, .val (.int p6), .val (.int rm), .val (.long wt), .second, .val (.int kp), .val (.long b0), .second, .val (.long b1), .second, .val (.long b2), .second, .val (.long b3), .second, .val (.ref oa), .val (.ref ob), .val .null, .val (.int (1 : Int32)), .unset, .unset] [])) t → Steps p.tables e below (T0.setTop (mkF m 134 #[.val (.long q1), .second, .val (.long q2), .second, .val (.long q3), .second, .val (.int p4), .val (.long q5), .second, .val (.int p6), .val (.int rm), .val (.long wt), .second, .val (.int kp), .val (.long b0), .second, .val (.long b1), .second, .val (.long b2), .second, .val (.long b3), .second, .val (.ref oa), .val (.ref ob), .val .null, .unset, .unset, .unset] [])) t := by
    intro t k
    show Steps p.tables e below (T0.setTop (mkF m 134 #[.val (.long q1), .second, .val (.long q2), .second, .val (.long q3), .second, .val (.int p4), .val (.long q5), .second, .val (.int p6), .val (.int rm), .val (.long wt), .second, .val (.int kp), .val (.long b0), .second, .val (.long b1), .second, .val (.long b2), .second, .val (.long b3), .second, .val (.ref oa), .val (.ref ob), .val .null, .unset, .unset, .unset] [])) _
    refine XS.aload X0.here hx rfl (hb hby at_134) rfl rfl ?_
    show Steps p.tables e below (T0.setTop (mkF m 136 #[.val (.long q1), .second, .val (.long q2), .second, .val (.long q3), .second, .val (.int p4), .val (.long q5), .second, .val (.int p6), .val (.int rm), .val (.long wt), .second, .val (.int kp), .val (.long b0), .second, .val (.long b1), .second, .val (.long b2), .second, .val (.long b3), .second, .val (.ref oa), .val (.ref ob), .val .null, .unset, .unset, .unset] [(.ref ob)])) _
    refine X0.arraylength hx (by rw [e0]; exact Ab.1) (State.isArrayOf_alike hZ.alike Ab.2.1) (g := (mkF m 136 #[.val (.long q1), .second, .val (.long q2), .second, .val (.long q3), .second, .val (.int p4), .val (.long q5), .second, .val (.int p6), .val (.int rm), .val (.long wt), .second, .val (.int kp), .val (.long b0), .second, .val (.long b1), .second, .val (.long b2), .second, .val (.long b3), .second, .val (.ref oa), .val (.ref ob), .val .null, .unset, .unset, .unset] [(.ref ob)])) rfl rfl (hb hby at_136) _ ?_
    rw [Sb]
    show Steps p.tables e below (T0.setTop (mkF m 137 #[.val (.long q1), .second, .val (.long q2), .second, .val (.long q3), .second, .val (.int p4), .val (.long q5), .second, .val (.int p6), .val (.int rm), .val (.long wt), .second, .val (.int kp), .val (.long b0), .second, .val (.long b1), .second, .val (.long b2), .second, .val (.long b3), .second, .val (.ref oa), .val (.ref ob), .val .null, .unset, .unset, .unset] [(.int (4 : Int32))])) _
    refine XS.iconst X0.here hx rfl (hb hby at_137) ?_
    show Steps p.tables e below (T0.setTop (mkF m 138 #[.val (.long q1), .second, .val (.long q2), .second, .val (.long q3), .second, .val (.int p4), .val (.long q5), .second, .val (.int p6), .val (.int rm), .val (.long wt), .second, .val (.int kp), .val (.long b0), .second, .val (.long b1), .second, .val (.long b2), .second, .val (.long b3), .second, .val (.ref oa), .val (.ref ob), .val .null, .unset, .unset, .unset] [(.int (4 : Int32)), (.int (4 : Int32))])) _
    refine XS.icmpNo X0.here hx rfl (hb hby at_138) rfl (teq (rfl : (4 : Int32) = (4 : Int32))).2 ?_
    show Steps p.tables e below (T0.setTop (mkF m 141 #[.val (.long q1), .second, .val (.long q2), .second, .val (.long q3), .second, .val (.int p4), .val (.long q5), .second, .val (.int p6), .val (.int rm), .val (.long wt), .second, .val (.int kp), .val (.long b0), .second, .val (.long b1), .second, .val (.long b2), .second, .val (.long b3), .second, .val (.ref oa), .val (.ref ob), .val .null, .unset, .unset, .unset] [])) _
    refine XS.iconst X0.here hx rfl (hb hby at_141) ?_
    show Steps p.tables e below (T0.setTop (mkF m 142 #[.val (.long q1), .second, .val (.long q2), .second, .val (.long q3), .second, .val (.int p4), .val (.long q5), .second, .val (.int p6), .val (.int rm), .val (.long wt), .second, .val (.int kp), .val (.long b0), .second, .val (.long b1), .second, .val (.long b2), .second, .val (.long b3), .second, .val (.ref oa), .val (.ref ob), .val .null, .unset, .unset, .unset] [(.int (1 : Int32))])) _
    refine XS.goto X0.here hx rfl (pc0 := 142) (pc' := 146) rfl (hb hby at_142) (by decide) (by decide) ?_
    show Steps p.tables e below (T0.setTop (mkF m 146 #[.val (.long q1), .second, .val (.long q2), .second, .val (.long q3), .second, .val (.int p4), .val (.long q5), .second, .val (.int p6), .val (.int rm), .val (.long wt), .second, .val (.int kp), .val (.long b0), .second, .val (.long b1), .second, .val (.long b2), .second, .val (.long b3), .second, .val (.ref oa), .val (.ref ob), .val .null, .unset, .unset, .unset] [(.int (1 : Int32))])) _
    refine XS.istore X0.here hx rfl (hb hby at_146) rfl (l' := #[.val (.long q1), .second, .val (.long q2), .second, .val (.long q3), .second, .val (.int p4), .val (.long q5), .second, .val (.int p6), .val (.int rm), .val (.long wt), .second, .val (.int kp), .val (.long b0), .second, .val (.long b1), .second, .val (.long b2), .second, .val (.long b3), .second, .val (.ref oa), .val (.ref ob), .val .null, .val (.int (1 : Int32)), .unset, .unset]) rfl ?_
    show Steps p.tables e below (T0.setTop (mkF m 148 #[.val (.long q1), .second, .val (.long q2), .second, .val (.long q3), .second, .val (.int p4), .val (.long q5), .second, .val (.int p6), .val (.int rm), .val (.long wt), .second, .val (.int kp), .val (.long b0), .second, .val (.long b1), .second, .val (.long b2), .second, .val (.long b3), .second, .val (.ref oa), .val (.ref ob), .val .null, .val (.int (1 : Int32)), .unset, .unset] [])) _
    exact k
  have s164 : ∀ t, Steps p.tables e below (T0.setTop (mkF m 164 #[.val (.long q1), .second, .val (.long q2), .second, .val (.long q3), .second, .val (.int p4), .val (.long q5), .second, .val (.int p6), .val (.int rm), .val (.long wt), .second, .val (.int kp), .val (.long b0), .second, .val (.long b1), .second, .val (.long b2), .second, .val (.long b3), .second, .val (.ref oa), .val (.ref ob), .val .null, .val (.int (1 : Int32)), .unset, .unset] [(.long wt), (.int rm), (.int (0 : Int32)), (.ref oa), (.long (own_new (own_f b0 b1 b2 b3) rm wt 0))])) t → Steps p.tables e below (T0.setTop (mkF m 148 #[.val (.long q1), .second, .val (.long q2), .second, .val (.long q3), .second, .val (.int p4), .val (.long q5), .second, .val (.int p6), .val (.int rm), .val (.long wt), .second, .val (.int kp), .val (.long b0), .second, .val (.long b1), .second, .val (.long b2), .second, .val (.long b3), .second, .val (.ref oa), .val (.ref ob), .val .null, .val (.int (1 : Int32)), .unset, .unset] [])) t := by
    intro t k
    show Steps p.tables e below (T0.setTop (mkF m 148 #[.val (.long q1), .second, .val (.long q2), .second, .val (.long q3), .second, .val (.int p4), .val (.long q5), .second, .val (.int p6), .val (.int rm), .val (.long wt), .second, .val (.int kp), .val (.long b0), .second, .val (.long b1), .second, .val (.long b2), .second, .val (.long b3), .second, .val (.ref oa), .val (.ref ob), .val .null, .val (.int (1 : Int32)), .unset, .unset] [])) _
    refine XS.iload X0.here hx rfl (hb hby at_148) rfl ?_
    show Steps p.tables e below (T0.setTop (mkF m 150 #[.val (.long q1), .second, .val (.long q2), .second, .val (.long q3), .second, .val (.int p4), .val (.long q5), .second, .val (.int p6), .val (.int rm), .val (.long wt), .second, .val (.int kp), .val (.long b0), .second, .val (.long b1), .second, .val (.long b2), .second, .val (.long b3), .second, .val (.ref oa), .val (.ref ob), .val .null, .val (.int (1 : Int32)), .unset, .unset] [(.int (1 : Int32))])) _
    refine XS.ifNo X0.here hx rfl (hb hby at_150) rfl ((if0 _ _).trans (feq (by decide : ¬ (1 : Int32) = (0 : Int32))).1) ?_
    show Steps p.tables e below (T0.setTop (mkF m 153 #[.val (.long q1), .second, .val (.long q2), .second, .val (.long q3), .second, .val (.int p4), .val (.long q5), .second, .val (.int p6), .val (.int rm), .val (.long wt), .second, .val (.int kp), .val (.long b0), .second, .val (.long b1), .second, .val (.long b2), .second, .val (.long b3), .second, .val (.ref oa), .val (.ref ob), .val .null, .val (.int (1 : Int32)), .unset, .unset] [])) _
    refine XS.aload X0.here hx rfl (hb hby at_153) rfl rfl ?_
    show Steps p.tables e below (T0.setTop (mkF m 155 #[.val (.long q1), .second, .val (.long q2), .second, .val (.long q3), .second, .val (.int p4), .val (.long q5), .second, .val (.int p6), .val (.int rm), .val (.long wt), .second, .val (.int kp), .val (.long b0), .second, .val (.long b1), .second, .val (.long b2), .second, .val (.long b3), .second, .val (.ref oa), .val (.ref ob), .val .null, .val (.int (1 : Int32)), .unset, .unset] [(.ref ob)])) _
    refine XS.iconst X0.here hx rfl (hb hby at_155) ?_
    show Steps p.tables e below (T0.setTop (mkF m 156 #[.val (.long q1), .second, .val (.long q2), .second, .val (.long q3), .second, .val (.int p4), .val (.long q5), .second, .val (.int p6), .val (.int rm), .val (.long wt), .second, .val (.int kp), .val (.long b0), .second, .val (.long b1), .second, .val (.long b2), .second, .val (.long b3), .second, .val (.ref oa), .val (.ref ob), .val .null, .val (.int (1 : Int32)), .unset, .unset] [(.int (0 : Int32)), (.ref ob)])) _
    refine X0.laload hx (j := (0 : Int32)) (v := (.long (own_new (own_f b0 b1 b2 b3) rm wt 0))) (by rw [e0]; exact Ab.1) (State.isArrayOf_alike hZ.alike Ab.2.1) Ab.2.2 (own_in (i := 0) (by decide) Sb (by decide)) (own_at (i := 0) (by decide) Hb (by decide)) (g := (mkF m 156 #[.val (.long q1), .second, .val (.long q2), .second, .val (.long q3), .second, .val (.int p4), .val (.long q5), .second, .val (.int p6), .val (.int rm), .val (.long wt), .second, .val (.int kp), .val (.long b0), .second, .val (.long b1), .second, .val (.long b2), .second, .val (.long b3), .second, .val (.ref oa), .val (.ref ob), .val .null, .val (.int (1 : Int32)), .unset, .unset] [(.int (0 : Int32)), (.ref ob)])) rfl rfl (hb hby at_156) _ ?_
    show Steps p.tables e below (T0.setTop (mkF m 157 #[.val (.long q1), .second, .val (.long q2), .second, .val (.long q3), .second, .val (.int p4), .val (.long q5), .second, .val (.int p6), .val (.int rm), .val (.long wt), .second, .val (.int kp), .val (.long b0), .second, .val (.long b1), .second, .val (.long b2), .second, .val (.long b3), .second, .val (.ref oa), .val (.ref ob), .val .null, .val (.int (1 : Int32)), .unset, .unset] [(.long (own_new (own_f b0 b1 b2 b3) rm wt 0))])) _
    refine XS.aload X0.here hx rfl (hb hby at_157) rfl rfl ?_
    show Steps p.tables e below (T0.setTop (mkF m 159 #[.val (.long q1), .second, .val (.long q2), .second, .val (.long q3), .second, .val (.int p4), .val (.long q5), .second, .val (.int p6), .val (.int rm), .val (.long wt), .second, .val (.int kp), .val (.long b0), .second, .val (.long b1), .second, .val (.long b2), .second, .val (.long b3), .second, .val (.ref oa), .val (.ref ob), .val .null, .val (.int (1 : Int32)), .unset, .unset] [(.ref oa), (.long (own_new (own_f b0 b1 b2 b3) rm wt 0))])) _
    refine XS.iconst X0.here hx rfl (hb hby at_159) ?_
    show Steps p.tables e below (T0.setTop (mkF m 160 #[.val (.long q1), .second, .val (.long q2), .second, .val (.long q3), .second, .val (.int p4), .val (.long q5), .second, .val (.int p6), .val (.int rm), .val (.long wt), .second, .val (.int kp), .val (.long b0), .second, .val (.long b1), .second, .val (.long b2), .second, .val (.long b3), .second, .val (.ref oa), .val (.ref ob), .val .null, .val (.int (1 : Int32)), .unset, .unset] [(.int (0 : Int32)), (.ref oa), (.long (own_new (own_f b0 b1 b2 b3) rm wt 0))])) _
    refine XS.iload X0.here hx rfl (hb hby at_160) rfl ?_
    show Steps p.tables e below (T0.setTop (mkF m 162 #[.val (.long q1), .second, .val (.long q2), .second, .val (.long q3), .second, .val (.int p4), .val (.long q5), .second, .val (.int p6), .val (.int rm), .val (.long wt), .second, .val (.int kp), .val (.long b0), .second, .val (.long b1), .second, .val (.long b2), .second, .val (.long b3), .second, .val (.ref oa), .val (.ref ob), .val .null, .val (.int (1 : Int32)), .unset, .unset] [(.int rm), (.int (0 : Int32)), (.ref oa), (.long (own_new (own_f b0 b1 b2 b3) rm wt 0))])) _
    refine XS.lload X0.here hx rfl (hb hby at_162) rfl ?_
    show Steps p.tables e below (T0.setTop (mkF m 164 #[.val (.long q1), .second, .val (.long q2), .second, .val (.long q3), .second, .val (.int p4), .val (.long q5), .second, .val (.int p6), .val (.int rm), .val (.long wt), .second, .val (.int kp), .val (.long b0), .second, .val (.long b1), .second, .val (.long b2), .second, .val (.long b3), .second, .val (.ref oa), .val (.ref ob), .val .null, .val (.int (1 : Int32)), .unset, .unset] [(.long wt), (.int rm), (.int (0 : Int32)), (.ref oa), (.long (own_new (own_f b0 b1 b2 b3) rm wt 0))])) _
    exact k
  obtain ⟨_, _, ⟨T5, L5, k5, n5⟩, -, X5, ⟨Lc5, hQ5, l5, y5, z5⟩, st5⟩ := Jvm.LawKit.callS X0 hx (y := (⟨"com/example/chromabin/chromabin/packing/RoomKnapsackIncludePinLaw", "expect", "([JIIJ)J"⟩ : MethodName)) hown (mvT hZ (hw _ (List.mem_of_getElem? (i := 5) rfl))) (mvT hZ (hw _ (List.mem_of_getElem? (i := 6) rfl))) (mvT hZ (hw _ (List.mem_of_getElem? (i := 7) rfl))) (mvT hZ (hw _ (List.mem_of_getElem? (i := 8) rfl))) (by decide) (backOf (W := 2) (rm2 l Z a0 hw [] oa (0 : Int32) rm wt (own_f b0 b1 b2 b3) 0 h0 n0 Z0 Vo (by decide) (by decide) hr0) hZ (hw _ (List.mem_of_getElem? (i := 8) rfl)) (hw _ (List.mem_of_getElem? (i := 7) rfl)) (by decide) (by decide)) (g := (mkF m 164 #[.val (.long q1), .second, .val (.long q2), .second, .val (.long q3), .second, .val (.int p4), .val (.long q5), .second, .val (.int p6), .val (.int rm), .val (.long wt), .second, .val (.int kp), .val (.long b0), .second, .val (.long b1), .second, .val (.long b2), .second, .val (.long b3), .second, .val (.ref oa), .val (.ref ob), .val .null, .val (.int (1 : Int32)), .unset, .unset] [(.long wt), (.int rm), (.int (0 : Int32)), (.ref oa), (.long (own_new (own_f b0 b1 b2 b3) rm wt 0))])) rfl (by rw [hml]; rfl) (argsL := [(.ref oa), (.int (0 : Int32)), (.int rm), (.long wt)]) (rest := [(.long (own_new (own_f b0 b1 b2 b3) rm wt 0))]) (lenOf pd_2 rfl) rfl (by show 2 * 0 + _ ≤ _; exact Nat.le_of_eq rfl) (hb hby at_164) (fun _ _ => ⟨rfl, e0, hcl, hsl⟩)
  dsimp only [Pt.U, Pt.locs, Pt.cells, Pt.slots] at X5 l5 y5 z5 st5 hQ5
  subst l5 y5 z5
  obtain ⟨⟨z5, rfl, hz5⟩, N5q, e5⟩ := hQ5
  have N5 := Fr.app N0 N5q
  have Y5 : Stand p l e room_1 s m args below meth c T5 _ _ _ := X5
  have s178 : ∀ t, Steps p.tables e below (T5.setTop (mkF m 178 #[.val (.long q1), .second, .val (.long q2), .second, .val (.long q3), .second, .val (.int p4), .val (.long q5), .second, .val (.int p6), .val (.int rm), .val (.long wt), .second, .val (.int kp), .val (.long b0), .second, .val (.long b1), .second, .val (.long b2), .second, .val (.long b3), .second, .val (.ref oa), .val (.ref ob), .val .null, .val (.int (1 : Int32)), .unset, .unset] [])) t → Steps p.tables e below (T5.setTop (mkF m 167 #[.val (.long q1), .second, .val (.long q2), .second, .val (.long q3), .second, .val (.int p4), .val (.long q5), .second, .val (.int p6), .val (.int rm), .val (.long wt), .second, .val (.int kp), .val (.long b0), .second, .val (.long b1), .second, .val (.long b2), .second, .val (.long b3), .second, .val (.ref oa), .val (.ref ob), .val .null, .val (.int (1 : Int32)), .unset, .unset] [(.long z5), (.long (own_new (own_f b0 b1 b2 b3) rm wt 0))])) t := by
    intro t k
    show Steps p.tables e below (T5.setTop (mkF m 167 #[.val (.long q1), .second, .val (.long q2), .second, .val (.long q3), .second, .val (.int p4), .val (.long q5), .second, .val (.int p6), .val (.int rm), .val (.long wt), .second, .val (.int kp), .val (.long b0), .second, .val (.long b1), .second, .val (.long b2), .second, .val (.long b3), .second, .val (.ref oa), .val (.ref ob), .val .null, .val (.int (1 : Int32)), .unset, .unset] [(.long z5), (.long (own_new (own_f b0 b1 b2 b3) rm wt 0))])) _
    refine XS.lcmp Y5.here hx rfl (hb hby at_167) rfl ?_
    show Steps p.tables e below (T5.setTop (mkF m 168 #[.val (.long q1), .second, .val (.long q2), .second, .val (.long q3), .second, .val (.int p4), .val (.long q5), .second, .val (.int p6), .val (.int rm), .val (.long wt), .second, .val (.int kp), .val (.long b0), .second, .val (.long b1), .second, .val (.long b2), .second, .val (.long b3), .second, .val (.ref oa), .val (.ref ob), .val .null, .val (.int (1 : Int32)), .unset, .unset] [(.int (lcmpW (own_new (own_f b0 b1 b2 b3) rm wt 0) z5))])) _
    refine XS.ifNo Y5.here hx rfl (hb hby at_168) rfl (own_lc_eq hz5.symm).2 ?_
    show Steps p.tables e below (T5.setTop (mkF m 171 #[.val (.long q1), .second, .val (.long q2), .second, .val (.long q3), .second, .val (.int p4), .val (.long q5), .second, .val (.int p6), .val (.int rm), .val (.long wt), .second, .val (.int kp), .val (.long b0), .second, .val (.long b1), .second, .val (.long b2), .second, .val (.long b3), .second, .val (.ref oa), .val (.ref ob), .val .null, .val (.int (1 : Int32)), .unset, .unset] [])) _
    refine XS.iconst Y5.here hx rfl (hb hby at_171) ?_
    show Steps p.tables e below (T5.setTop (mkF m 172 #[.val (.long q1), .second, .val (.long q2), .second, .val (.long q3), .second, .val (.int p4), .val (.long q5), .second, .val (.int p6), .val (.int rm), .val (.long wt), .second, .val (.int kp), .val (.long b0), .second, .val (.long b1), .second, .val (.long b2), .second, .val (.long b3), .second, .val (.ref oa), .val (.ref ob), .val .null, .val (.int (1 : Int32)), .unset, .unset] [(.int (1 : Int32))])) _
    refine XS.goto Y5.here hx rfl (pc0 := 172) (pc' := 176) rfl (hb hby at_172) (by decide) (by decide) ?_
    show Steps p.tables e below (T5.setTop (mkF m 176 #[.val (.long q1), .second, .val (.long q2), .second, .val (.long q3), .second, .val (.int p4), .val (.long q5), .second, .val (.int p6), .val (.int rm), .val (.long wt), .second, .val (.int kp), .val (.long b0), .second, .val (.long b1), .second, .val (.long b2), .second, .val (.long b3), .second, .val (.ref oa), .val (.ref ob), .val .null, .val (.int (1 : Int32)), .unset, .unset] [(.int (1 : Int32))])) _
    refine XS.istore Y5.here hx rfl (hb hby at_176) rfl (l' := #[.val (.long q1), .second, .val (.long q2), .second, .val (.long q3), .second, .val (.int p4), .val (.long q5), .second, .val (.int p6), .val (.int rm), .val (.long wt), .second, .val (.int kp), .val (.long b0), .second, .val (.long b1), .second, .val (.long b2), .second, .val (.long b3), .second, .val (.ref oa), .val (.ref ob), .val .null, .val (.int (1 : Int32)), .unset, .unset]) rfl ?_
    show Steps p.tables e below (T5.setTop (mkF m 178 #[.val (.long q1), .second, .val (.long q2), .second, .val (.long q3), .second, .val (.int p4), .val (.long q5), .second, .val (.int p6), .val (.int rm), .val (.long wt), .second, .val (.int kp), .val (.long b0), .second, .val (.long b1), .second, .val (.long b2), .second, .val (.long b3), .second, .val (.ref oa), .val (.ref ob), .val .null, .val (.int (1 : Int32)), .unset, .unset] [])) _
    exact k
  have s194 : ∀ t, Steps p.tables e below (T5.setTop (mkF m 194 #[.val (.long q1), .second, .val (.long q2), .second, .val (.long q3), .second, .val (.int p4), .val (.long q5), .second, .val (.int p6), .val (.int rm), .val (.long wt), .second, .val (.int kp), .val (.long b0), .second, .val (.long b1), .second, .val (.long b2), .second, .val (.long b3), .second, .val (.ref oa), .val (.ref ob), .val .null, .val (.int (1 : Int32)), .unset, .unset] [(.long wt), (.int rm), (.int (1 : Int32)), (.ref oa), (.long (own_new (own_f b0 b1 b2 b3) rm wt 1))])) t → Steps p.tables e below (T5.setTop (mkF m 178 #[.val (.long q1), .second, .val (.long q2), .second, .val (.long q3), .second, .val (.int p4), .val (.long q5), .second, .val (.int p6), .val (.int rm), .val (.long wt), .second, .val (.int kp), .val (.long b0), .second, .val (.long b1), .second, .val (.long b2), .second, .val (.long b3), .second, .val (.ref oa), .val (.ref ob), .val .null, .val (.int (1 : Int32)), .unset, .unset] [])) t := by
    intro t k
    show Steps p.tables e below (T5.setTop (mkF m 178 #[.val (.long q1), .second, .val (.long q2), .second, .val (.long q3), .second, .val (.int p4), .val (.long q5), .second, .val (.int p6), .val (.int rm), .val (.long wt), .second, .val (.int kp), .val (.long b0), .second, .val (.long b1), .second, .val (.long b2), .second, .val (.long b3), .second, .val (.ref oa), .val (.ref ob), .val .null, .val (.int (1 : Int32)), .unset, .unset] [])) _
    refine XS.iload Y5.here hx rfl (hb hby at_178) rfl ?_
    show Steps p.tables e below (T5.setTop (mkF m 180 #[.val (.long q1), .second, .val (.long q2), .second, .val (.long q3), .second, .val (.int p4), .val (.long q5), .second, .val (.int p6), .val (.int rm), .val (.long wt), .second, .val (.int kp), .val (.long b0), .second, .val (.long b1), .second, .val (.long b2), .second, .val (.long b3), .second, .val (.ref oa), .val (.ref ob), .val .null, .val (.int (1 : Int32)), .unset, .unset] [(.int (1 : Int32))])) _
    refine XS.ifNo Y5.here hx rfl (hb hby at_180) rfl ((if0 _ _).trans (feq (by decide : ¬ (1 : Int32) = (0 : Int32))).1) ?_
    show Steps p.tables e below (T5.setTop (mkF m 183 #[.val (.long q1), .second, .val (.long q2), .second, .val (.long q3), .second, .val (.int p4), .val (.long q5), .second, .val (.int p6), .val (.int rm), .val (.long wt), .second, .val (.int kp), .val (.long b0), .second, .val (.long b1), .second, .val (.long b2), .second, .val (.long b3), .second, .val (.ref oa), .val (.ref ob), .val .null, .val (.int (1 : Int32)), .unset, .unset] [])) _
    refine XS.aload Y5.here hx rfl (hb hby at_183) rfl rfl ?_
    show Steps p.tables e below (T5.setTop (mkF m 185 #[.val (.long q1), .second, .val (.long q2), .second, .val (.long q3), .second, .val (.int p4), .val (.long q5), .second, .val (.int p6), .val (.int rm), .val (.long wt), .second, .val (.int kp), .val (.long b0), .second, .val (.long b1), .second, .val (.long b2), .second, .val (.long b3), .second, .val (.ref oa), .val (.ref ob), .val .null, .val (.int (1 : Int32)), .unset, .unset] [(.ref ob)])) _
    refine XS.iconst Y5.here hx rfl (hb hby at_185) ?_
    show Steps p.tables e below (T5.setTop (mkF m 186 #[.val (.long q1), .second, .val (.long q2), .second, .val (.long q3), .second, .val (.int p4), .val (.long q5), .second, .val (.int p6), .val (.int rm), .val (.long wt), .second, .val (.int kp), .val (.long b0), .second, .val (.long b1), .second, .val (.long b2), .second, .val (.long b3), .second, .val (.ref oa), .val (.ref ob), .val .null, .val (.int (1 : Int32)), .unset, .unset] [(.int (1 : Int32)), (.ref ob)])) _
    refine Y5.laload hx (j := (1 : Int32)) (v := (.long (own_new (own_f b0 b1 b2 b3) rm wt 1))) (by rw [e5]; exact Ab.1) (State.isArrayOf_alike hZ.alike Ab.2.1) Ab.2.2 (own_in (i := 1) (by decide) Sb (by decide)) (own_at (i := 1) (by decide) Hb (by decide)) (g := (mkF m 186 #[.val (.long q1), .second, .val (.long q2), .second, .val (.long q3), .second, .val (.int p4), .val (.long q5), .second, .val (.int p6), .val (.int rm), .val (.long wt), .second, .val (.int kp), .val (.long b0), .second, .val (.long b1), .second, .val (.long b2), .second, .val (.long b3), .second, .val (.ref oa), .val (.ref ob), .val .null, .val (.int (1 : Int32)), .unset, .unset] [(.int (1 : Int32)), (.ref ob)])) rfl rfl (hb hby at_186) _ ?_
    show Steps p.tables e below (T5.setTop (mkF m 187 #[.val (.long q1), .second, .val (.long q2), .second, .val (.long q3), .second, .val (.int p4), .val (.long q5), .second, .val (.int p6), .val (.int rm), .val (.long wt), .second, .val (.int kp), .val (.long b0), .second, .val (.long b1), .second, .val (.long b2), .second, .val (.long b3), .second, .val (.ref oa), .val (.ref ob), .val .null, .val (.int (1 : Int32)), .unset, .unset] [(.long (own_new (own_f b0 b1 b2 b3) rm wt 1))])) _
    refine XS.aload Y5.here hx rfl (hb hby at_187) rfl rfl ?_
    show Steps p.tables e below (T5.setTop (mkF m 189 #[.val (.long q1), .second, .val (.long q2), .second, .val (.long q3), .second, .val (.int p4), .val (.long q5), .second, .val (.int p6), .val (.int rm), .val (.long wt), .second, .val (.int kp), .val (.long b0), .second, .val (.long b1), .second, .val (.long b2), .second, .val (.long b3), .second, .val (.ref oa), .val (.ref ob), .val .null, .val (.int (1 : Int32)), .unset, .unset] [(.ref oa), (.long (own_new (own_f b0 b1 b2 b3) rm wt 1))])) _
    refine XS.iconst Y5.here hx rfl (hb hby at_189) ?_
    show Steps p.tables e below (T5.setTop (mkF m 190 #[.val (.long q1), .second, .val (.long q2), .second, .val (.long q3), .second, .val (.int p4), .val (.long q5), .second, .val (.int p6), .val (.int rm), .val (.long wt), .second, .val (.int kp), .val (.long b0), .second, .val (.long b1), .second, .val (.long b2), .second, .val (.long b3), .second, .val (.ref oa), .val (.ref ob), .val .null, .val (.int (1 : Int32)), .unset, .unset] [(.int (1 : Int32)), (.ref oa), (.long (own_new (own_f b0 b1 b2 b3) rm wt 1))])) _
    refine XS.iload Y5.here hx rfl (hb hby at_190) rfl ?_
    show Steps p.tables e below (T5.setTop (mkF m 192 #[.val (.long q1), .second, .val (.long q2), .second, .val (.long q3), .second, .val (.int p4), .val (.long q5), .second, .val (.int p6), .val (.int rm), .val (.long wt), .second, .val (.int kp), .val (.long b0), .second, .val (.long b1), .second, .val (.long b2), .second, .val (.long b3), .second, .val (.ref oa), .val (.ref ob), .val .null, .val (.int (1 : Int32)), .unset, .unset] [(.int rm), (.int (1 : Int32)), (.ref oa), (.long (own_new (own_f b0 b1 b2 b3) rm wt 1))])) _
    refine XS.lload Y5.here hx rfl (hb hby at_192) rfl ?_
    show Steps p.tables e below (T5.setTop (mkF m 194 #[.val (.long q1), .second, .val (.long q2), .second, .val (.long q3), .second, .val (.int p4), .val (.long q5), .second, .val (.int p6), .val (.int rm), .val (.long wt), .second, .val (.int kp), .val (.long b0), .second, .val (.long b1), .second, .val (.long b2), .second, .val (.long b3), .second, .val (.ref oa), .val (.ref ob), .val .null, .val (.int (1 : Int32)), .unset, .unset] [(.long wt), (.int rm), (.int (1 : Int32)), (.ref oa), (.long (own_new (own_f b0 b1 b2 b3) rm wt 1))])) _
    exact k
  obtain ⟨_, _, ⟨T6, L6, k6, n6⟩, -, X6, ⟨Lc6, hQ6, l6, y6, z6⟩, st6⟩ := Jvm.LawKit.callS Y5 hx (y := (⟨"com/example/chromabin/chromabin/packing/RoomKnapsackIncludePinLaw", "expect", "([JIIJ)J"⟩ : MethodName)) hown (mvT hZ (hw _ (List.mem_of_getElem? (i := 5) rfl))) (mvT hZ (hw _ (List.mem_of_getElem? (i := 6) rfl))) (mvT hZ (hw _ (List.mem_of_getElem? (i := 7) rfl))) (mvT hZ (hw _ (List.mem_of_getElem? (i := 8) rfl))) (by decide) (backOf (W := 2) (rm2 l Z a0 hw [] oa (1 : Int32) rm wt (own_f b0 b1 b2 b3) 1 h0 n0 Z0 Vo (by decide) (by decide) hr0) hZ (hw _ (List.mem_of_getElem? (i := 8) rfl)) (hw _ (List.mem_of_getElem? (i := 7) rfl)) (by decide) (by decide)) (g := (mkF m 194 #[.val (.long q1), .second, .val (.long q2), .second, .val (.long q3), .second, .val (.int p4), .val (.long q5), .second, .val (.int p6), .val (.int rm), .val (.long wt), .second, .val (.int kp), .val (.long b0), .second, .val (.long b1), .second, .val (.long b2), .second, .val (.long b3), .second, .val (.ref oa), .val (.ref ob), .val .null, .val (.int (1 : Int32)), .unset, .unset] [(.long wt), (.int rm), (.int (1 : Int32)), (.ref oa), (.long (own_new (own_f b0 b1 b2 b3) rm wt 1))])) rfl (by rw [hml]; rfl) (argsL := [(.ref oa), (.int (1 : Int32)), (.int rm), (.long wt)]) (rest := [(.long (own_new (own_f b0 b1 b2 b3) rm wt 1))]) (lenOf pd_2 rfl) rfl (by show 2 * 0 + _ ≤ _; exact Nat.le_of_eq rfl) (hb hby at_194) (fun _ _ => ⟨rfl, e5, hcl, hsl⟩)
  dsimp only [Pt.U, Pt.locs, Pt.cells, Pt.slots] at X6 l6 y6 z6 st6 hQ6
  subst l6 y6 z6
  obtain ⟨⟨z6, rfl, hz6⟩, N6q, e6⟩ := hQ6
  have N6 := Fr.app N5 N6q
  have Y6 : Stand p l e room_1 s m args below meth c T6 _ _ _ := X6
  have s208 : ∀ t, Steps p.tables e below (T6.setTop (mkF m 208 #[.val (.long q1), .second, .val (.long q2), .second, .val (.long q3), .second, .val (.int p4), .val (.long q5), .second, .val (.int p6), .val (.int rm), .val (.long wt), .second, .val (.int kp), .val (.long b0), .second, .val (.long b1), .second, .val (.long b2), .second, .val (.long b3), .second, .val (.ref oa), .val (.ref ob), .val .null, .val (.int (1 : Int32)), .unset, .unset] [])) t → Steps p.tables e below (T6.setTop (mkF m 197 #[.val (.long q1), .second, .val (.long q2), .second, .val (.long q3), .second, .val (.int p4), .val (.long q5), .second, .val (.int p6), .val (.int rm), .val (.long wt), .second, .val (.int kp), .val (.long b0), .second, .val (.long b1), .second, .val (.long b2), .second, .val (.long b3), .second, .val (.ref oa), .val (.ref ob), .val .null, .val (.int (1 : Int32)), .unset, .unset] [(.long z6), (.long (own_new (own_f b0 b1 b2 b3) rm wt 1))])) t := by
    intro t k
    show Steps p.tables e below (T6.setTop (mkF m 197 #[.val (.long q1), .second, .val (.long q2), .second, .val (.long q3), .second, .val (.int p4), .val (.long q5), .second, .val (.int p6), .val (.int rm), .val (.long wt), .second, .val (.int kp), .val (.long b0), .second, .val (.long b1), .second, .val (.long b2), .second, .val (.long b3), .second, .val (.ref oa), .val (.ref ob), .val .null, .val (.int (1 : Int32)), .unset, .unset] [(.long z6), (.long (own_new (own_f b0 b1 b2 b3) rm wt 1))])) _
    refine XS.lcmp Y6.here hx rfl (hb hby at_197) rfl ?_
    show Steps p.tables e below (T6.setTop (mkF m 198 #[.val (.long q1), .second, .val (.long q2), .second, .val (.long q3), .second, .val (.int p4), .val (.long q5), .second, .val (.int p6), .val (.int rm), .val (.long wt), .second, .val (.int kp), .val (.long b0), .second, .val (.long b1), .second, .val (.long b2), .second, .val (.long b3), .second, .val (.ref oa), .val (.ref ob), .val .null, .val (.int (1 : Int32)), .unset, .unset] [(.int (lcmpW (own_new (own_f b0 b1 b2 b3) rm wt 1) z6))])) _
    refine XS.ifNo Y6.here hx rfl (hb hby at_198) rfl (own_lc_eq hz6.symm).2 ?_
    show Steps p.tables e below (T6.setTop (mkF m 201 #[.val (.long q1), .second, .val (.long q2), .second, .val (.long q3), .second, .val (.int p4), .val (.long q5), .second, .val (.int p6), .val (.int rm), .val (.long wt), .second, .val (.int kp), .val (.long b0), .second, .val (.long b1), .second, .val (.long b2), .second, .val (.long b3), .second, .val (.ref oa), .val (.ref ob), .val .null, .val (.int (1 : Int32)), .unset, .unset] [])) _
    refine XS.iconst Y6.here hx rfl (hb hby at_201) ?_
    show Steps p.tables e below (T6.setTop (mkF m 202 #[.val (.long q1), .second, .val (.long q2), .second, .val (.long q3), .second, .val (.int p4), .val (.long q5), .second, .val (.int p6), .val (.int rm), .val (.long wt), .second, .val (.int kp), .val (.long b0), .second, .val (.long b1), .second, .val (.long b2), .second, .val (.long b3), .second, .val (.ref oa), .val (.ref ob), .val .null, .val (.int (1 : Int32)), .unset, .unset] [(.int (1 : Int32))])) _
    refine XS.goto Y6.here hx rfl (pc0 := 202) (pc' := 206) rfl (hb hby at_202) (by decide) (by decide) ?_
    show Steps p.tables e below (T6.setTop (mkF m 206 #[.val (.long q1), .second, .val (.long q2), .second, .val (.long q3), .second, .val (.int p4), .val (.long q5), .second, .val (.int p6), .val (.int rm), .val (.long wt), .second, .val (.int kp), .val (.long b0), .second, .val (.long b1), .second, .val (.long b2), .second, .val (.long b3), .second, .val (.ref oa), .val (.ref ob), .val .null, .val (.int (1 : Int32)), .unset, .unset] [(.int (1 : Int32))])) _
    refine XS.istore Y6.here hx rfl (hb hby at_206) rfl (l' := #[.val (.long q1), .second, .val (.long q2), .second, .val (.long q3), .second, .val (.int p4), .val (.long q5), .second, .val (.int p6), .val (.int rm), .val (.long wt), .second, .val (.int kp), .val (.long b0), .second, .val (.long b1), .second, .val (.long b2), .second, .val (.long b3), .second, .val (.ref oa), .val (.ref ob), .val .null, .val (.int (1 : Int32)), .unset, .unset]) rfl ?_
    show Steps p.tables e below (T6.setTop (mkF m 208 #[.val (.long q1), .second, .val (.long q2), .second, .val (.long q3), .second, .val (.int p4), .val (.long q5), .second, .val (.int p6), .val (.int rm), .val (.long wt), .second, .val (.int kp), .val (.long b0), .second, .val (.long b1), .second, .val (.long b2), .second, .val (.long b3), .second, .val (.ref oa), .val (.ref ob), .val .null, .val (.int (1 : Int32)), .unset, .unset] [])) _
    exact k
  have s224 : ∀ t, Steps p.tables e below (T6.setTop (mkF m 224 #[.val (.long q1), .second, .val (.long q2), .second, .val (.long q3), .second, .val (.int p4), .val (.long q5), .second, .val (.int p6), .val (.int rm), .val (.long wt), .second, .val (.int kp), .val (.long b0), .second, .val (.long b1), .second, .val (.long b2), .second, .val (.long b3), .second, .val (.ref oa), .val (.ref ob), .val .null, .val (.int (1 : Int32)), .unset, .unset] [(.long wt), (.int rm), (.int (2 : Int32)), (.ref oa), (.long (own_new (own_f b0 b1 b2 b3) rm wt 2))])) t → Steps p.tables e below (T6.setTop (mkF m 208 #[.val (.long q1), .second, .val (.long q2), .second, .val (.long q3), .second, .val (.int p4), .val (.long q5), .second, .val (.int p6), .val (.int rm), .val (.long wt), .second, .val (.int kp), .val (.long b0), .second, .val (.long b1), .second, .val (.long b2), .second, .val (.long b3), .second, .val (.ref oa), .val (.ref ob), .val .null, .val (.int (1 : Int32)), .unset, .unset] [])) t := by
    intro t k
    show Steps p.tables e below (T6.setTop (mkF m 208 #[.val (.long q1), .second, .val (.long q2), .second, .val (.long q3), .second, .val (.int p4), .val (.long q5), .second, .val (.int p6), .val (.int rm), .val (.long wt), .second, .val (.int kp), .val (.long b0), .second, .val (.long b1), .second, .val (.long b2), .second, .val (.long b3), .second, .val (.ref oa), .val (.ref ob), .val .null, .val (.int (1 : Int32)), .unset, .unset] [])) _
    refine XS.iload Y6.here hx rfl (hb hby at_208) rfl ?_
    show Steps p.tables e below (T6.setTop (mkF m 210 #[.val (.long q1), .second, .val (.long q2), .second, .val (.long q3), .second, .val (.int p4), .val (.long q5), .second, .val (.int p6), .val (.int rm), .val (.long wt), .second, .val (.int kp), .val (.long b0), .second, .val (.long b1), .second, .val (.long b2), .second, .val (.long b3), .second, .val (.ref oa), .val (.ref ob), .val .null, .val (.int (1 : Int32)), .unset, .unset] [(.int (1 : Int32))])) _
    refine XS.ifNo Y6.here hx rfl (hb hby at_210) rfl ((if0 _ _).trans (feq (by decide : ¬ (1 : Int32) = (0 : Int32))).1) ?_
    show Steps p.tables e below (T6.setTop (mkF m 213 #[.val (.long q1), .second, .val (.long q2), .second, .val (.long q3), .second, .val (.int p4), .val (.long q5), .second, .val (.int p6), .val (.int rm), .val (.long wt), .second, .val (.int kp), .val (.long b0), .second, .val (.long b1), .second, .val (.long b2), .second, .val (.long b3), .second, .val (.ref oa), .val (.ref ob), .val .null, .val (.int (1 : Int32)), .unset, .unset] [])) _
    refine XS.aload Y6.here hx rfl (hb hby at_213) rfl rfl ?_
    show Steps p.tables e below (T6.setTop (mkF m 215 #[.val (.long q1), .second, .val (.long q2), .second, .val (.long q3), .second, .val (.int p4), .val (.long q5), .second, .val (.int p6), .val (.int rm), .val (.long wt), .second, .val (.int kp), .val (.long b0), .second, .val (.long b1), .second, .val (.long b2), .second, .val (.long b3), .second, .val (.ref oa), .val (.ref ob), .val .null, .val (.int (1 : Int32)), .unset, .unset] [(.ref ob)])) _
    refine XS.iconst Y6.here hx rfl (hb hby at_215) ?_
    show Steps p.tables e below (T6.setTop (mkF m 216 #[.val (.long q1), .second, .val (.long q2), .second, .val (.long q3), .second, .val (.int p4), .val (.long q5), .second, .val (.int p6), .val (.int rm), .val (.long wt), .second, .val (.int kp), .val (.long b0), .second, .val (.long b1), .second, .val (.long b2), .second, .val (.long b3), .second, .val (.ref oa), .val (.ref ob), .val .null, .val (.int (1 : Int32)), .unset, .unset] [(.int (2 : Int32)), (.ref ob)])) _
    refine Y6.laload hx (j := (2 : Int32)) (v := (.long (own_new (own_f b0 b1 b2 b3) rm wt 2))) (by rw [e6]; exact Ab.1) (State.isArrayOf_alike hZ.alike Ab.2.1) Ab.2.2 (own_in (i := 2) (by decide) Sb (by decide)) (own_at (i := 2) (by decide) Hb (by decide)) (g := (mkF m 216 #[.val (.long q1), .second, .val (.long q2), .second, .val (.long q3), .second, .val (.int p4), .val (.long q5), .second, .val (.int p6), .val (.int rm), .val (.long wt), .second, .val (.int kp), .val (.long b0), .second, .val (.long b1), .second, .val (.long b2), .second, .val (.long b3), .second, .val (.ref oa), .val (.ref ob), .val .null, .val (.int (1 : Int32)), .unset, .unset] [(.int (2 : Int32)), (.ref ob)])) rfl rfl (hb hby at_216) _ ?_
    show Steps p.tables e below (T6.setTop (mkF m 217 #[.val (.long q1), .second, .val (.long q2), .second, .val (.long q3), .second, .val (.int p4), .val (.long q5), .second, .val (.int p6), .val (.int rm), .val (.long wt), .second, .val (.int kp), .val (.long b0), .second, .val (.long b1), .second, .val (.long b2), .second, .val (.long b3), .second, .val (.ref oa), .val (.ref ob), .val .null, .val (.int (1 : Int32)), .unset, .unset] [(.long (own_new (own_f b0 b1 b2 b3) rm wt 2))])) _
    refine XS.aload Y6.here hx rfl (hb hby at_217) rfl rfl ?_
    show Steps p.tables e below (T6.setTop (mkF m 219 #[.val (.long q1), .second, .val (.long q2), .second, .val (.long q3), .second, .val (.int p4), .val (.long q5), .second, .val (.int p6), .val (.int rm), .val (.long wt), .second, .val (.int kp), .val (.long b0), .second, .val (.long b1), .second, .val (.long b2), .second, .val (.long b3), .second, .val (.ref oa), .val (.ref ob), .val .null, .val (.int (1 : Int32)), .unset, .unset] [(.ref oa), (.long (own_new (own_f b0 b1 b2 b3) rm wt 2))])) _
    refine XS.iconst Y6.here hx rfl (hb hby at_219) ?_
    show Steps p.tables e below (T6.setTop (mkF m 220 #[.val (.long q1), .second, .val (.long q2), .second, .val (.long q3), .second, .val (.int p4), .val (.long q5), .second, .val (.int p6), .val (.int rm), .val (.long wt), .second, .val (.int kp), .val (.long b0), .second, .val (.long b1), .second, .val (.long b2), .second, .val (.long b3), .second, .val (.ref oa), .val (.ref ob), .val .null, .val (.int (1 : Int32)), .unset, .unset] [(.int (2 : Int32)), (.ref oa), (.long (own_new (own_f b0 b1 b2 b3) rm wt 2))])) _
    refine XS.iload Y6.here hx rfl (hb hby at_220) rfl ?_
    show Steps p.tables e below (T6.setTop (mkF m 222 #[.val (.long q1), .second, .val (.long q2), .second, .val (.long q3), .second, .val (.int p4), .val (.long q5), .second, .val (.int p6), .val (.int rm), .val (.long wt), .second, .val (.int kp), .val (.long b0), .second, .val (.long b1), .second, .val (.long b2), .second, .val (.long b3), .second, .val (.ref oa), .val (.ref ob), .val .null, .val (.int (1 : Int32)), .unset, .unset] [(.int rm), (.int (2 : Int32)), (.ref oa), (.long (own_new (own_f b0 b1 b2 b3) rm wt 2))])) _
    refine XS.lload Y6.here hx rfl (hb hby at_222) rfl ?_
    show Steps p.tables e below (T6.setTop (mkF m 224 #[.val (.long q1), .second, .val (.long q2), .second, .val (.long q3), .second, .val (.int p4), .val (.long q5), .second, .val (.int p6), .val (.int rm), .val (.long wt), .second, .val (.int kp), .val (.long b0), .second, .val (.long b1), .second, .val (.long b2), .second, .val (.long b3), .second, .val (.ref oa), .val (.ref ob), .val .null, .val (.int (1 : Int32)), .unset, .unset] [(.long wt), (.int rm), (.int (2 : Int32)), (.ref oa), (.long (own_new (own_f b0 b1 b2 b3) rm wt 2))])) _
    exact k
  obtain ⟨_, _, ⟨T7, L7, k7, n7⟩, -, X7, ⟨Lc7, hQ7, l7, y7, z7⟩, st7⟩ := Jvm.LawKit.callS Y6 hx (y := (⟨"com/example/chromabin/chromabin/packing/RoomKnapsackIncludePinLaw", "expect", "([JIIJ)J"⟩ : MethodName)) hown (mvT hZ (hw _ (List.mem_of_getElem? (i := 5) rfl))) (mvT hZ (hw _ (List.mem_of_getElem? (i := 6) rfl))) (mvT hZ (hw _ (List.mem_of_getElem? (i := 7) rfl))) (mvT hZ (hw _ (List.mem_of_getElem? (i := 8) rfl))) (by decide) (backOf (W := 2) (rm2 l Z a0 hw [] oa (2 : Int32) rm wt (own_f b0 b1 b2 b3) 2 h0 n0 Z0 Vo (by decide) (by decide) hr0) hZ (hw _ (List.mem_of_getElem? (i := 8) rfl)) (hw _ (List.mem_of_getElem? (i := 7) rfl)) (by decide) (by decide)) (g := (mkF m 224 #[.val (.long q1), .second, .val (.long q2), .second, .val (.long q3), .second, .val (.int p4), .val (.long q5), .second, .val (.int p6), .val (.int rm), .val (.long wt), .second, .val (.int kp), .val (.long b0), .second, .val (.long b1), .second, .val (.long b2), .second, .val (.long b3), .second, .val (.ref oa), .val (.ref ob), .val .null, .val (.int (1 : Int32)), .unset, .unset] [(.long wt), (.int rm), (.int (2 : Int32)), (.ref oa), (.long (own_new (own_f b0 b1 b2 b3) rm wt 2))])) rfl (by rw [hml]; rfl) (argsL := [(.ref oa), (.int (2 : Int32)), (.int rm), (.long wt)]) (rest := [(.long (own_new (own_f b0 b1 b2 b3) rm wt 2))]) (lenOf pd_2 rfl) rfl (by show 2 * 0 + _ ≤ _; exact Nat.le_of_eq rfl) (hb hby at_224) (fun _ _ => ⟨rfl, e6, hcl, hsl⟩)
  dsimp only [Pt.U, Pt.locs, Pt.cells, Pt.slots] at X7 l7 y7 z7 st7 hQ7
  subst l7 y7 z7
  obtain ⟨⟨z7, rfl, hz7⟩, N7q, e7⟩ := hQ7
  have N7 := Fr.app N6 N7q
  have Y7 : Stand p l e room_1 s m args below meth c T7 _ _ _ := X7
  have s238 : ∀ t, Steps p.tables e below (T7.setTop (mkF m 238 #[.val (.long q1), .second, .val (.long q2), .second, .val (.long q3), .second, .val (.int p4), .val (.long q5), .second, .val (.int p6), .val (.int rm), .val (.long wt), .second, .val (.int kp), .val (.long b0), .second, .val (.long b1), .second, .val (.long b2), .second, .val (.long b3), .second, .val (.ref oa), .val (.ref ob), .val .null, .val (.int (1 : Int32)), .unset, .unset] [])) t → Steps p.tables e below (T7.setTop (mkF m 227 #[.val (.long q1), .second, .val (.long q2), .second, .val (.long q3), .second, .val (.int p4), .val (.long q5), .second, .val (.int p6), .val (.int rm), .val (.long wt), .second, .val (.int kp), .val (.long b0), .second, .val (.long b1), .second, .val (.long b2), .second, .val (.long b3), .second, .val (.ref oa), .val (.ref ob), .val .null, .val (.int (1 : Int32)), .unset, .unset] [(.long z7), (.long (own_new (own_f b0 b1 b2 b3) rm wt 2))])) t := by
    intro t k
    show Steps p.tables e below (T7.setTop (mkF m 227 #[.val (.long q1), .second, .val (.long q2), .second, .val (.long q3), .second, .val (.int p4), .val (.long q5), .second, .val (.int p6), .val (.int rm), .val (.long wt), .second, .val (.int kp), .val (.long b0), .second, .val (.long b1), .second, .val (.long b2), .second, .val (.long b3), .second, .val (.ref oa), .val (.ref ob), .val .null, .val (.int (1 : Int32)), .unset, .unset] [(.long z7), (.long (own_new (own_f b0 b1 b2 b3) rm wt 2))])) _
    refine XS.lcmp Y7.here hx rfl (hb hby at_227) rfl ?_
    show Steps p.tables e below (T7.setTop (mkF m 228 #[.val (.long q1), .second, .val (.long q2), .second, .val (.long q3), .second, .val (.int p4), .val (.long q5), .second, .val (.int p6), .val (.int rm), .val (.long wt), .second, .val (.int kp), .val (.long b0), .second, .val (.long b1), .second, .val (.long b2), .second, .val (.long b3), .second, .val (.ref oa), .val (.ref ob), .val .null, .val (.int (1 : Int32)), .unset, .unset] [(.int (lcmpW (own_new (own_f b0 b1 b2 b3) rm wt 2) z7))])) _
    refine XS.ifNo Y7.here hx rfl (hb hby at_228) rfl (own_lc_eq hz7.symm).2 ?_
    show Steps p.tables e below (T7.setTop (mkF m 231 #[.val (.long q1), .second, .val (.long q2), .second, .val (.long q3), .second, .val (.int p4), .val (.long q5), .second, .val (.int p6), .val (.int rm), .val (.long wt), .second, .val (.int kp), .val (.long b0), .second, .val (.long b1), .second, .val (.long b2), .second, .val (.long b3), .second, .val (.ref oa), .val (.ref ob), .val .null, .val (.int (1 : Int32)), .unset, .unset] [])) _
    refine XS.iconst Y7.here hx rfl (hb hby at_231) ?_
    show Steps p.tables e below (T7.setTop (mkF m 232 #[.val (.long q1), .second, .val (.long q2), .second, .val (.long q3), .second, .val (.int p4), .val (.long q5), .second, .val (.int p6), .val (.int rm), .val (.long wt), .second, .val (.int kp), .val (.long b0), .second, .val (.long b1), .second, .val (.long b2), .second, .val (.long b3), .second, .val (.ref oa), .val (.ref ob), .val .null, .val (.int (1 : Int32)), .unset, .unset] [(.int (1 : Int32))])) _
    refine XS.goto Y7.here hx rfl (pc0 := 232) (pc' := 236) rfl (hb hby at_232) (by decide) (by decide) ?_
    show Steps p.tables e below (T7.setTop (mkF m 236 #[.val (.long q1), .second, .val (.long q2), .second, .val (.long q3), .second, .val (.int p4), .val (.long q5), .second, .val (.int p6), .val (.int rm), .val (.long wt), .second, .val (.int kp), .val (.long b0), .second, .val (.long b1), .second, .val (.long b2), .second, .val (.long b3), .second, .val (.ref oa), .val (.ref ob), .val .null, .val (.int (1 : Int32)), .unset, .unset] [(.int (1 : Int32))])) _
    refine XS.istore Y7.here hx rfl (hb hby at_236) rfl (l' := #[.val (.long q1), .second, .val (.long q2), .second, .val (.long q3), .second, .val (.int p4), .val (.long q5), .second, .val (.int p6), .val (.int rm), .val (.long wt), .second, .val (.int kp), .val (.long b0), .second, .val (.long b1), .second, .val (.long b2), .second, .val (.long b3), .second, .val (.ref oa), .val (.ref ob), .val .null, .val (.int (1 : Int32)), .unset, .unset]) rfl ?_
    show Steps p.tables e below (T7.setTop (mkF m 238 #[.val (.long q1), .second, .val (.long q2), .second, .val (.long q3), .second, .val (.int p4), .val (.long q5), .second, .val (.int p6), .val (.int rm), .val (.long wt), .second, .val (.int kp), .val (.long b0), .second, .val (.long b1), .second, .val (.long b2), .second, .val (.long b3), .second, .val (.ref oa), .val (.ref ob), .val .null, .val (.int (1 : Int32)), .unset, .unset] [])) _
    exact k
  have s254 : ∀ t, Steps p.tables e below (T7.setTop (mkF m 254 #[.val (.long q1), .second, .val (.long q2), .second, .val (.long q3), .second, .val (.int p4), .val (.long q5), .second, .val (.int p6), .val (.int rm), .val (.long wt), .second, .val (.int kp), .val (.long b0), .second, .val (.long b1), .second, .val (.long b2), .second, .val (.long b3), .second, .val (.ref oa), .val (.ref ob), .val .null, .val (.int (1 : Int32)), .unset, .unset] [(.long wt), (.int rm), (.int (3 : Int32)), (.ref oa), (.long (own_new (own_f b0 b1 b2 b3) rm wt 3))])) t → Steps p.tables e below (T7.setTop (mkF m 238 #[.val (.long q1), .second, .val (.long q2), .second, .val (.long q3), .second, .val (.int p4), .val (.long q5), .second, .val (.int p6), .val (.int rm), .val (.long wt), .second, .val (.int kp), .val (.long b0), .second, .val (.long b1), .second, .val (.long b2), .second, .val (.long b3), .second, .val (.ref oa), .val (.ref ob), .val .null, .val (.int (1 : Int32)), .unset, .unset] [])) t := by
    intro t k
    show Steps p.tables e below (T7.setTop (mkF m 238 #[.val (.long q1), .second, .val (.long q2), .second, .val (.long q3), .second, .val (.int p4), .val (.long q5), .second, .val (.int p6), .val (.int rm), .val (.long wt), .second, .val (.int kp), .val (.long b0), .second, .val (.long b1), .second, .val (.long b2), .second, .val (.long b3), .second, .val (.ref oa), .val (.ref ob), .val .null, .val (.int (1 : Int32)), .unset, .unset] [])) _
    refine XS.iload Y7.here hx rfl (hb hby at_238) rfl ?_
    show Steps p.tables e below (T7.setTop (mkF m 240 #[.val (.long q1), .second, .val (.long q2), .second, .val (.long q3), .second, .val (.int p4), .val (.long q5), .second, .val (.int p6), .val (.int rm), .val (.long wt), .second, .val (.int kp), .val (.long b0), .second, .val (.long b1), .second, .val (.long b2), .second, .val (.long b3), .second, .val (.ref oa), .val (.ref ob), .val .null, .val (.int (1 : Int32)), .unset, .unset] [(.int (1 : Int32))])) _
    refine XS.ifNo Y7.here hx rfl (hb hby at_240) rfl ((if0 _ _).trans (feq (by decide : ¬ (1 : Int32) = (0 : Int32))).1) ?_
    show Steps p.tables e below (T7.setTop (mkF m 243 #[.val (.long q1), .second, .val (.long q2), .second, .val (.long q3), .second, .val (.int p4), .val (.long q5), .second, .val (.int p6), .val (.int rm), .val (.long wt), .second, .val (.int kp), .val (.long b0), .second, .val (.long b1), .second, .val (.long b2), .second, .val (.long b3), .second, .val (.ref oa), .val (.ref ob), .val .null, .val (.int (1 : Int32)), .unset, .unset] [])) _
    refine XS.aload Y7.here hx rfl (hb hby at_243) rfl rfl ?_
    show Steps p.tables e below (T7.setTop (mkF m 245 #[.val (.long q1), .second, .val (.long q2), .second, .val (.long q3), .second, .val (.int p4), .val (.long q5), .second, .val (.int p6), .val (.int rm), .val (.long wt), .second, .val (.int kp), .val (.long b0), .second, .val (.long b1), .second, .val (.long b2), .second, .val (.long b3), .second, .val (.ref oa), .val (.ref ob), .val .null, .val (.int (1 : Int32)), .unset, .unset] [(.ref ob)])) _
    refine XS.iconst Y7.here hx rfl (hb hby at_245) ?_
    show Steps p.tables e below (T7.setTop (mkF m 246 #[.val (.long q1), .second, .val (.long q2), .second, .val (.long q3), .second, .val (.int p4), .val (.long q5), .second, .val (.int p6), .val (.int rm), .val (.long wt), .second, .val (.int kp), .val (.long b0), .second, .val (.long b1), .second, .val (.long b2), .second, .val (.long b3), .second, .val (.ref oa), .val (.ref ob), .val .null, .val (.int (1 : Int32)), .unset, .unset] [(.int (3 : Int32)), (.ref ob)])) _
    refine Y7.laload hx (j := (3 : Int32)) (v := (.long (own_new (own_f b0 b1 b2 b3) rm wt 3))) (by rw [e7]; exact Ab.1) (State.isArrayOf_alike hZ.alike Ab.2.1) Ab.2.2 (own_in (i := 3) (by decide) Sb (by decide)) (own_at (i := 3) (by decide) Hb (by decide)) (g := (mkF m 246 #[.val (.long q1), .second, .val (.long q2), .second, .val (.long q3), .second, .val (.int p4), .val (.long q5), .second, .val (.int p6), .val (.int rm), .val (.long wt), .second, .val (.int kp), .val (.long b0), .second, .val (.long b1), .second, .val (.long b2), .second, .val (.long b3), .second, .val (.ref oa), .val (.ref ob), .val .null, .val (.int (1 : Int32)), .unset, .unset] [(.int (3 : Int32)), (.ref ob)])) rfl rfl (hb hby at_246) _ ?_
    show Steps p.tables e below (T7.setTop (mkF m 247 #[.val (.long q1), .second, .val (.long q2), .second, .val (.long q3), .second, .val (.int p4), .val (.long q5), .second, .val (.int p6), .val (.int rm), .val (.long wt), .second, .val (.int kp), .val (.long b0), .second, .val (.long b1), .second, .val (.long b2), .second, .val (.long b3), .second, .val (.ref oa), .val (.ref ob), .val .null, .val (.int (1 : Int32)), .unset, .unset] [(.long (own_new (own_f b0 b1 b2 b3) rm wt 3))])) _
    refine XS.aload Y7.here hx rfl (hb hby at_247) rfl rfl ?_
    show Steps p.tables e below (T7.setTop (mkF m 249 #[.val (.long q1), .second, .val (.long q2), .second, .val (.long q3), .second, .val (.int p4), .val (.long q5), .second, .val (.int p6), .val (.int rm), .val (.long wt), .second, .val (.int kp), .val (.long b0), .second, .val (.long b1), .second, .val (.long b2), .second, .val (.long b3), .second, .val (.ref oa), .val (.ref ob), .val .null, .val (.int (1 : Int32)), .unset, .unset] [(.ref oa), (.long (own_new (own_f b0 b1 b2 b3) rm wt 3))])) _
    refine XS.iconst Y7.here hx rfl (hb hby at_249) ?_
    show Steps p.tables e below (T7.setTop (mkF m 250 #[.val (.long q1), .second, .val (.long q2), .second, .val (.long q3), .second, .val (.int p4), .val (.long q5), .second, .val (.int p6), .val (.int rm), .val (.long wt), .second, .val (.int kp), .val (.long b0), .second, .val (.long b1), .second, .val (.long b2), .second, .val (.long b3), .second, .val (.ref oa), .val (.ref ob), .val .null, .val (.int (1 : Int32)), .unset, .unset] [(.int (3 : Int32)), (.ref oa), (.long (own_new (own_f b0 b1 b2 b3) rm wt 3))])) _
    refine XS.iload Y7.here hx rfl (hb hby at_250) rfl ?_
    show Steps p.tables e below (T7.setTop (mkF m 252 #[.val (.long q1), .second, .val (.long q2), .second, .val (.long q3), .second, .val (.int p4), .val (.long q5), .second, .val (.int p6), .val (.int rm), .val (.long wt), .second, .val (.int kp), .val (.long b0), .second, .val (.long b1), .second, .val (.long b2), .second, .val (.long b3), .second, .val (.ref oa), .val (.ref ob), .val .null, .val (.int (1 : Int32)), .unset, .unset] [(.int rm), (.int (3 : Int32)), (.ref oa), (.long (own_new (own_f b0 b1 b2 b3) rm wt 3))])) _
    refine XS.lload Y7.here hx rfl (hb hby at_252) rfl ?_
    show Steps p.tables e below (T7.setTop (mkF m 254 #[.val (.long q1), .second, .val (.long q2), .second, .val (.long q3), .second, .val (.int p4), .val (.long q5), .second, .val (.int p6), .val (.int rm), .val (.long wt), .second, .val (.int kp), .val (.long b0), .second, .val (.long b1), .second, .val (.long b2), .second, .val (.long b3), .second, .val (.ref oa), .val (.ref ob), .val .null, .val (.int (1 : Int32)), .unset, .unset] [(.long wt), (.int rm), (.int (3 : Int32)), (.ref oa), (.long (own_new (own_f b0 b1 b2 b3) rm wt 3))])) _
    exact k
  obtain ⟨_, _, ⟨T8, L8, k8, n8⟩, -, X8, ⟨Lc8, hQ8, l8, y8, z8⟩, st8⟩ := Jvm.LawKit.callS Y7 hx (y := (⟨"com/example/chromabin/chromabin/packing/RoomKnapsackIncludePinLaw", "expect", "([JIIJ)J"⟩ : MethodName)) hown (mvT hZ (hw _ (List.mem_of_getElem? (i := 5) rfl))) (mvT hZ (hw _ (List.mem_of_getElem? (i := 6) rfl))) (mvT hZ (hw _ (List.mem_of_getElem? (i := 7) rfl))) (mvT hZ (hw _ (List.mem_of_getElem? (i := 8) rfl))) (by decide) (backOf (W := 2) (rm2 l Z a0 hw [] oa (3 : Int32) rm wt (own_f b0 b1 b2 b3) 3 h0 n0 Z0 Vo (by decide) (by decide) hr0) hZ (hw _ (List.mem_of_getElem? (i := 8) rfl)) (hw _ (List.mem_of_getElem? (i := 7) rfl)) (by decide) (by decide)) (g := (mkF m 254 #[.val (.long q1), .second, .val (.long q2), .second, .val (.long q3), .second, .val (.int p4), .val (.long q5), .second, .val (.int p6), .val (.int rm), .val (.long wt), .second, .val (.int kp), .val (.long b0), .second, .val (.long b1), .second, .val (.long b2), .second, .val (.long b3), .second, .val (.ref oa), .val (.ref ob), .val .null, .val (.int (1 : Int32)), .unset, .unset] [(.long wt), (.int rm), (.int (3 : Int32)), (.ref oa), (.long (own_new (own_f b0 b1 b2 b3) rm wt 3))])) rfl (by rw [hml]; rfl) (argsL := [(.ref oa), (.int (3 : Int32)), (.int rm), (.long wt)]) (rest := [(.long (own_new (own_f b0 b1 b2 b3) rm wt 3))]) (lenOf pd_2 rfl) rfl (by show 2 * 0 + _ ≤ _; exact Nat.le_of_eq rfl) (hb hby at_254) (fun _ _ => ⟨rfl, e7, hcl, hsl⟩)
  dsimp only [Pt.U, Pt.locs, Pt.cells, Pt.slots] at X8 l8 y8 z8 st8 hQ8
  subst l8 y8 z8
  obtain ⟨⟨z8, rfl, hz8⟩, N8q, e8⟩ := hQ8
  have N8 := Fr.app N7 N8q
  have Y8 : Stand p l e room_1 s m args below meth c T8 _ _ _ := X8
  have s268 : ∀ t, Steps p.tables e below (T8.setTop (mkF m 268 #[.val (.long q1), .second, .val (.long q2), .second, .val (.long q3), .second, .val (.int p4), .val (.long q5), .second, .val (.int p6), .val (.int rm), .val (.long wt), .second, .val (.int kp), .val (.long b0), .second, .val (.long b1), .second, .val (.long b2), .second, .val (.long b3), .second, .val (.ref oa), .val (.ref ob), .val .null, .val (.int (1 : Int32)), .unset, .unset] [])) t → Steps p.tables e below (T8.setTop (mkF m 257 #[.val (.long q1), .second, .val (.long q2), .second, .val (.long q3), .second, .val (.int p4), .val (.long q5), .second, .val (.int p6), .val (.int rm), .val (.long wt), .second, .val (.int kp), .val (.long b0), .second, .val (.long b1), .second, .val (.long b2), .second, .val (.long b3), .second, .val (.ref oa), .val (.ref ob), .val .null, .val (.int (1 : Int32)), .unset, .unset] [(.long z8), (.long (own_new (own_f b0 b1 b2 b3) rm wt 3))])) t := by
    intro t k
    show Steps p.tables e below (T8.setTop (mkF m 257 #[.val (.long q1), .second, .val (.long q2), .second, .val (.long q3), .second, .val (.int p4), .val (.long q5), .second, .val (.int p6), .val (.int rm), .val (.long wt), .second, .val (.int kp), .val (.long b0), .second, .val (.long b1), .second, .val (.long b2), .second, .val (.long b3), .second, .val (.ref oa), .val (.ref ob), .val .null, .val (.int (1 : Int32)), .unset, .unset] [(.long z8), (.long (own_new (own_f b0 b1 b2 b3) rm wt 3))])) _
    refine XS.lcmp Y8.here hx rfl (hb hby at_257) rfl ?_
    show Steps p.tables e below (T8.setTop (mkF m 258 #[.val (.long q1), .second, .val (.long q2), .second, .val (.long q3), .second, .val (.int p4), .val (.long q5), .second, .val (.int p6), .val (.int rm), .val (.long wt), .second, .val (.int kp), .val (.long b0), .second, .val (.long b1), .second, .val (.long b2), .second, .val (.long b3), .second, .val (.ref oa), .val (.ref ob), .val .null, .val (.int (1 : Int32)), .unset, .unset] [(.int (lcmpW (own_new (own_f b0 b1 b2 b3) rm wt 3) z8))])) _
    refine XS.ifNo Y8.here hx rfl (hb hby at_258) rfl (own_lc_eq hz8.symm).2 ?_
    show Steps p.tables e below (T8.setTop (mkF m 261 #[.val (.long q1), .second, .val (.long q2), .second, .val (.long q3), .second, .val (.int p4), .val (.long q5), .second, .val (.int p6), .val (.int rm), .val (.long wt), .second, .val (.int kp), .val (.long b0), .second, .val (.long b1), .second, .val (.long b2), .second, .val (.long b3), .second, .val (.ref oa), .val (.ref ob), .val .null, .val (.int (1 : Int32)), .unset, .unset] [])) _
    refine XS.iconst Y8.here hx rfl (hb hby at_261) ?_
    show Steps p.tables e below (T8.setTop (mkF m 262 #[.val (.long q1), .second, .val (.long q2), .second, .val (.long q3), .second, .val (.int p4), .val (.long q5), .second, .val (.int p6), .val (.int rm), .val (.long wt), .second, .val (.int kp), .val (.long b0), .second, .val (.long b1), .second, .val (.long b2), .second, .val (.long b3), .second, .val (.ref oa), .val (.ref ob), .val .null, .val (.int (1 : Int32)), .unset, .unset] [(.int (1 : Int32))])) _
    refine XS.goto Y8.here hx rfl (pc0 := 262) (pc' := 266) rfl (hb hby at_262) (by decide) (by decide) ?_
    show Steps p.tables e below (T8.setTop (mkF m 266 #[.val (.long q1), .second, .val (.long q2), .second, .val (.long q3), .second, .val (.int p4), .val (.long q5), .second, .val (.int p6), .val (.int rm), .val (.long wt), .second, .val (.int kp), .val (.long b0), .second, .val (.long b1), .second, .val (.long b2), .second, .val (.long b3), .second, .val (.ref oa), .val (.ref ob), .val .null, .val (.int (1 : Int32)), .unset, .unset] [(.int (1 : Int32))])) _
    refine XS.istore Y8.here hx rfl (hb hby at_266) rfl (l' := #[.val (.long q1), .second, .val (.long q2), .second, .val (.long q3), .second, .val (.int p4), .val (.long q5), .second, .val (.int p6), .val (.int rm), .val (.long wt), .second, .val (.int kp), .val (.long b0), .second, .val (.long b1), .second, .val (.long b2), .second, .val (.long b3), .second, .val (.ref oa), .val (.ref ob), .val .null, .val (.int (1 : Int32)), .unset, .unset]) rfl ?_
    show Steps p.tables e below (T8.setTop (mkF m 268 #[.val (.long q1), .second, .val (.long q2), .second, .val (.long q3), .second, .val (.int p4), .val (.long q5), .second, .val (.int p6), .val (.int rm), .val (.long wt), .second, .val (.int kp), .val (.long b0), .second, .val (.long b1), .second, .val (.long b2), .second, .val (.long b3), .second, .val (.ref oa), .val (.ref ob), .val .null, .val (.int (1 : Int32)), .unset, .unset] [])) _
    exact k
  have s279 : ∀ t, Steps p.tables e below (T8.setTop (mkF m 279 #[.val (.long q1), .second, .val (.long q2), .second, .val (.long q3), .second, .val (.int p4), .val (.long q5), .second, .val (.int p6), .val (.int rm), .val (.long wt), .second, .val (.int kp), .val (.long b0), .second, .val (.long b1), .second, .val (.long b2), .second, .val (.long b3), .second, .val (.ref oa), .val (.ref ob), .val .null, .val (.int (1 : Int32)), .val (.long q5), .second] [(.long wt), (.int rm), (.int (0 : Int32)), (.ref oa)])) t → Steps p.tables e below (T8.setTop (mkF m 268 #[.val (.long q1), .second, .val (.long q2), .second, .val (.long q3), .second, .val (.int p4), .val (.long q5), .second, .val (.int p6), .val (.int rm), .val (.long wt), .second, .val (.int kp), .val (.long b0), .second, .val (.long b1), .second, .val (.long b2), .second, .val (.long b3), .second, .val (.ref oa), .val (.ref ob), .val .null, .val (.int (1 : Int32)), .unset, .unset] [])) t := by
    intro t k
    show Steps p.tables e below (T8.setTop (mkF m 268 #[.val (.long q1), .second, .val (.long q2), .second, .val (.long q3), .second, .val (.int p4), .val (.long q5), .second, .val (.int p6), .val (.int rm), .val (.long wt), .second, .val (.int kp), .val (.long b0), .second, .val (.long b1), .second, .val (.long b2), .second, .val (.long b3), .second, .val (.ref oa), .val (.ref ob), .val .null, .val (.int (1 : Int32)), .unset, .unset] [])) _
    refine XS.lload Y8.here hx rfl (hb hby at_268) rfl ?_
    show Steps p.tables e below (T8.setTop (mkF m 270 #[.val (.long q1), .second, .val (.long q2), .second, .val (.long q3), .second, .val (.int p4), .val (.long q5), .second, .val (.int p6), .val (.int rm), .val (.long wt), .second, .val (.int kp), .val (.long b0), .second, .val (.long b1), .second, .val (.long b2), .second, .val (.long b3), .second, .val (.ref oa), .val (.ref ob), .val .null, .val (.int (1 : Int32)), .unset, .unset] [(.long q5)])) _
    refine XS.lstore Y8.here hx rfl (hb hby at_270) rfl (l' := #[.val (.long q1), .second, .val (.long q2), .second, .val (.long q3), .second, .val (.int p4), .val (.long q5), .second, .val (.int p6), .val (.int rm), .val (.long wt), .second, .val (.int kp), .val (.long b0), .second, .val (.long b1), .second, .val (.long b2), .second, .val (.long b3), .second, .val (.ref oa), .val (.ref ob), .val .null, .val (.int (1 : Int32)), .val (.long q5), .second]) rfl ?_
    show Steps p.tables e below (T8.setTop (mkF m 272 #[.val (.long q1), .second, .val (.long q2), .second, .val (.long q3), .second, .val (.int p4), .val (.long q5), .second, .val (.int p6), .val (.int rm), .val (.long wt), .second, .val (.int kp), .val (.long b0), .second, .val (.long b1), .second, .val (.long b2), .second, .val (.long b3), .second, .val (.ref oa), .val (.ref ob), .val .null, .val (.int (1 : Int32)), .val (.long q5), .second] [])) _
    refine XS.aload Y8.here hx rfl (hb hby at_272) rfl rfl ?_
    show Steps p.tables e below (T8.setTop (mkF m 274 #[.val (.long q1), .second, .val (.long q2), .second, .val (.long q3), .second, .val (.int p4), .val (.long q5), .second, .val (.int p6), .val (.int rm), .val (.long wt), .second, .val (.int kp), .val (.long b0), .second, .val (.long b1), .second, .val (.long b2), .second, .val (.long b3), .second, .val (.ref oa), .val (.ref ob), .val .null, .val (.int (1 : Int32)), .val (.long q5), .second] [(.ref oa)])) _
    refine XS.iconst Y8.here hx rfl (hb hby at_274) ?_
    show Steps p.tables e below (T8.setTop (mkF m 275 #[.val (.long q1), .second, .val (.long q2), .second, .val (.long q3), .second, .val (.int p4), .val (.long q5), .second, .val (.int p6), .val (.int rm), .val (.long wt), .second, .val (.int kp), .val (.long b0), .second, .val (.long b1), .second, .val (.long b2), .second, .val (.long b3), .second, .val (.ref oa), .val (.ref ob), .val .null, .val (.int (1 : Int32)), .val (.long q5), .second] [(.int (0 : Int32)), (.ref oa)])) _
    refine XS.iload Y8.here hx rfl (hb hby at_275) rfl ?_
    show Steps p.tables e below (T8.setTop (mkF m 277 #[.val (.long q1), .second, .val (.long q2), .second, .val (.long q3), .second, .val (.int p4), .val (.long q5), .second, .val (.int p6), .val (.int rm), .val (.long wt), .second, .val (.int kp), .val (.long b0), .second, .val (.long b1), .second, .val (.long b2), .second, .val (.long b3), .second, .val (.ref oa), .val (.ref ob), .val .null, .val (.int (1 : Int32)), .val (.long q5), .second] [(.int rm), (.int (0 : Int32)), (.ref oa)])) _
    refine XS.lload Y8.here hx rfl (hb hby at_277) rfl ?_
    show Steps p.tables e below (T8.setTop (mkF m 279 #[.val (.long q1), .second, .val (.long q2), .second, .val (.long q3), .second, .val (.int p4), .val (.long q5), .second, .val (.int p6), .val (.int rm), .val (.long wt), .second, .val (.int kp), .val (.long b0), .second, .val (.long b1), .second, .val (.long b2), .second, .val (.long b3), .second, .val (.ref oa), .val (.ref ob), .val .null, .val (.int (1 : Int32)), .val (.long q5), .second] [(.long wt), (.int rm), (.int (0 : Int32)), (.ref oa)])) _
    exact k
  obtain ⟨_, _, ⟨T9, L9, k9, n9⟩, -, X9, ⟨Lc9, hQ9, l9, y9, z9⟩, st9⟩ := Jvm.LawKit.callS Y8 hx (y := (⟨"com/example/chromabin/chromabin/packing/RoomKnapsackIncludePinLaw", "improves", "([JIIJ)Z"⟩ : MethodName)) hown (mvT hZ (hw _ (List.mem_of_getElem? (i := 9) rfl))) (mvT hZ (hw _ (List.mem_of_getElem? (i := 10) rfl))) (mvT hZ (hw _ (List.mem_of_getElem? (i := 7) rfl))) (mvT hZ (hw _ (List.mem_of_getElem? (i := 11) rfl))) (by decide) (backOf (W := 0) (rm3 l Z a0 hw [] oa (0 : Int32) rm wt (own_f b0 b1 b2 b3) 0 h0 n0 Z0 Vo (by decide) (by decide) hr0) hZ (hw _ (List.mem_of_getElem? (i := 11) rfl)) (hw _ (List.mem_of_getElem? (i := 7) rfl)) (by decide) (by decide)) (g := (mkF m 279 #[.val (.long q1), .second, .val (.long q2), .second, .val (.long q3), .second, .val (.int p4), .val (.long q5), .second, .val (.int p6), .val (.int rm), .val (.long wt), .second, .val (.int kp), .val (.long b0), .second, .val (.long b1), .second, .val (.long b2), .second, .val (.long b3), .second, .val (.ref oa), .val (.ref ob), .val .null, .val (.int (1 : Int32)), .val (.long q5), .second] [(.long wt), (.int rm), (.int (0 : Int32)), (.ref oa)])) rfl (by rw [hml]; rfl) (argsL := [(.ref oa), (.int (0 : Int32)), (.int rm), (.long wt)]) (rest := []) (lenOf pd_3 rfl) rfl (by show 2 * 0 + _ ≤ _; exact Nat.le_of_eq rfl) (hb hby at_279) (fun _ _ => ⟨rfl, e8, hcl, hsl⟩)
  dsimp only [Pt.U, Pt.locs, Pt.cells, Pt.slots] at X9 l9 y9 z9 st9 hQ9
  subst l9 y9 z9
  obtain ⟨⟨z9, rfl, hz9⟩, N9q, e9⟩ := hQ9
  have N9 := Fr.app N8 N9q
  have Y9 : Stand p l e room_1 s m args below meth c T9 _ _ _ := X9
  obtain ⟨u0, hs291, s291⟩ : ∃ (u0 : Int64), (u0 = q5 ||| own_bit (own_f b0 b1 b2 b3) rm wt 0) ∧ ∀ t, Steps p.tables e below (T9.setTop (mkF m 291 #[.val (.long q1), .second, .val (.long q2), .second, .val (.long q3), .second, .val (.int p4), .val (.long q5), .second, .val (.int p6), .val (.int rm), .val (.long wt), .second, .val (.int kp), .val (.long b0), .second, .val (.long b1), .second, .val (.long b2), .second, .val (.long b3), .second, .val (.ref oa), .val (.ref ob), .val .null, .val (.int (1 : Int32)), .val (.long u0), .second] [])) t → Steps p.tables e below (T9.setTop (mkF m 282 #[.val (.long q1), .second, .val (.long q2), .second, .val (.long q3), .second, .val (.int p4), .val (.long q5), .second, .val (.int p6), .val (.int rm), .val (.long wt), .second, .val (.int kp), .val (.long b0), .second, .val (.long b1), .second, .val (.long b2), .second, .val (.long b3), .second, .val (.ref oa), .val (.ref ob), .val .null, .val (.int (1 : Int32)), .val (.long q5), .second] [(.int z9)])) t := by
    by_cases c282 : z9 = (0 : Int32)
    · refine ⟨q5, (by rw [show own_bit (own_f b0 b1 b2 b3) rm wt 0 = 0 from if_neg ((own_zero hz9).1 c282), Int64.or_zero]), fun t k => ?_⟩
      show Steps p.tables e below (T9.setTop (mkF m 282 #[.val (.long q1), .second, .val (.long q2), .second, .val (.long q3), .second, .val (.int p4), .val (.long q5), .second, .val (.int p6), .val (.int rm), .val (.long wt), .second, .val (.int kp), .val (.long b0), .second, .val (.long b1), .second, .val (.long b2), .second, .val (.long b3), .second, .val (.ref oa), .val (.ref ob), .val .null, .val (.int (1 : Int32)), .val (.long q5), .second] [(.int z9)])) _
      refine XS.ifYes Y9.here hx rfl (pc0 := 282) (pc' := 291) rfl (hb hby at_282) rfl ((if0 _ _).trans (teq c282).1) (by decide) (by decide) ?_
      show Steps p.tables e below (T9.setTop (mkF m 291 #[.val (.long q1), .second, .val (.long q2), .second, .val (.long q3), .second, .val (.int p4), .val (.long q5), .second, .val (.int p6), .val (.int rm), .val (.long wt), .second, .val (.int kp), .val (.long b0), .second, .val (.long b1), .second, .val (.long b2), .second, .val (.long b3), .second, .val (.ref oa), .val (.ref ob), .val .null, .val (.int (1 : Int32)), .val (.long q5), .second] [])) _
      exact k
    · refine ⟨(q5 ||| (1 : Int64)), (by rw [show own_bit (own_f b0 b1 b2 b3) rm wt 0 = (1 : Int64) from if_pos ((own_zero hz9).2 c282)]), fun t k => ?_⟩
      show Steps p.tables e below (T9.setTop (mkF m 282 #[.val (.long q1), .second, .val (.long q2), .second, .val (.long q3), .second, .val (.int p4), .val (.long q5), .second, .val (.int p6), .val (.int rm), .val (.long wt), .second, .val (.int kp), .val (.long b0), .second, .val (.long b1), .second, .val (.long b2), .second, .val (.long b3), .second, .val (.ref oa), .val (.ref ob), .val .null, .val (.int (1 : Int32)), .val (.long q5), .second] [(.int z9)])) _
      refine XS.ifNo Y9.here hx rfl (hb hby at_282) rfl ((if0 _ _).trans (feq c282).1) ?_
      show Steps p.tables e below (T9.setTop (mkF m 285 #[.val (.long q1), .second, .val (.long q2), .second, .val (.long q3), .second, .val (.int p4), .val (.long q5), .second, .val (.int p6), .val (.int rm), .val (.long wt), .second, .val (.int kp), .val (.long b0), .second, .val (.long b1), .second, .val (.long b2), .second, .val (.long b3), .second, .val (.ref oa), .val (.ref ob), .val .null, .val (.int (1 : Int32)), .val (.long q5), .second] [])) _
      refine XS.lload Y9.here hx rfl (hb hby at_285) rfl ?_
      show Steps p.tables e below (T9.setTop (mkF m 287 #[.val (.long q1), .second, .val (.long q2), .second, .val (.long q3), .second, .val (.int p4), .val (.long q5), .second, .val (.int p6), .val (.int rm), .val (.long wt), .second, .val (.int kp), .val (.long b0), .second, .val (.long b1), .second, .val (.long b2), .second, .val (.long b3), .second, .val (.ref oa), .val (.ref ob), .val .null, .val (.int (1 : Int32)), .val (.long q5), .second] [(.long q5)])) _
      refine XS.lconst Y9.here hx rfl (hb hby at_287) ?_
      show Steps p.tables e below (T9.setTop (mkF m 288 #[.val (.long q1), .second, .val (.long q2), .second, .val (.long q3), .second, .val (.int p4), .val (.long q5), .second, .val (.int p6), .val (.int rm), .val (.long wt), .second, .val (.int kp), .val (.long b0), .second, .val (.long b1), .second, .val (.long b2), .second, .val (.long b3), .second, .val (.ref oa), .val (.ref ob), .val .null, .val (.int (1 : Int32)), .val (.long q5), .second] [(.long (1 : Int64)), (.long q5)])) _
      refine XS.lor Y9.here hx rfl (hb hby at_288) rfl ?_
      show Steps p.tables e below (T9.setTop (mkF m 289 #[.val (.long q1), .second, .val (.long q2), .second, .val (.long q3), .second, .val (.int p4), .val (.long q5), .second, .val (.int p6), .val (.int rm), .val (.long wt), .second, .val (.int kp), .val (.long b0), .second, .val (.long b1), .second, .val (.long b2), .second, .val (.long b3), .second, .val (.ref oa), .val (.ref ob), .val .null, .val (.int (1 : Int32)), .val (.long q5), .second] [(.long (q5 ||| (1 : Int64)))])) _
      refine XS.lstore Y9.here hx rfl (hb hby at_289) rfl (l' := #[.val (.long q1), .second, .val (.long q2), .second, .val (.long q3), .second, .val (.int p4), .val (.long q5), .second, .val (.int p6), .val (.int rm), .val (.long wt), .second, .val (.int kp), .val (.long b0), .second, .val (.long b1), .second, .val (.long b2), .second, .val (.long b3), .second, .val (.ref oa), .val (.ref ob), .val .null, .val (.int (1 : Int32)), .val (.long (q5 ||| (1 : Int64))), .second]) rfl ?_
      show Steps p.tables e below (T9.setTop (mkF m 291 #[.val (.long q1), .second, .val (.long q2), .second, .val (.long q3), .second, .val (.int p4), .val (.long q5), .second, .val (.int p6), .val (.int rm), .val (.long wt), .second, .val (.int kp), .val (.long b0), .second, .val (.long b1), .second, .val (.long b2), .second, .val (.long b3), .second, .val (.ref oa), .val (.ref ob), .val .null, .val (.int (1 : Int32)), .val (.long (q5 ||| (1 : Int64))), .second] [])) _
      exact k
  have s298 : ∀ t, Steps p.tables e below (T9.setTop (mkF m 298 #[.val (.long q1), .second, .val (.long q2), .second, .val (.long q3), .second, .val (.int p4), .val (.long q5), .second, .val (.int p6), .val (.int rm), .val (.long wt), .second, .val (.int kp), .val (.long b0), .second, .val (.long b1), .second, .val (.long b2), .second, .val (.long b3), .second, .val (.ref oa), .val (.ref ob), .val .null, .val (.int (1 : Int32)), .val (.long u0), .second] [(.long wt), (.int rm), (.int (1 : Int32)), (.ref oa)])) t → Steps p.tables e below (T9.setTop (mkF m 291 #[.val (.long q1), .second, .val (.long q2), .second, .val (.long q3), .second, .val (.int p4), .val (.long q5), .second, .val (.int p6), .val (.int rm), .val (.long wt), .second, .val (.int kp), .val (.long b0), .second, .val (.long b1), .second, .val (.long b2), .second, .val (.long b3), .second, .val (.ref oa), .val (.ref ob), .val .null, .val (.int (1 : Int32)), .val (.long u0), .second] [])) t := by
    intro t k
    show Steps p.tables e below (T9.setTop (mkF m 291 #[.val (.long q1), .second, .val (.long q2), .second, .val (.long q3), .second, .val (.int p4), .val (.long q5), .second, .val (.int p6), .val (.int rm), .val (.long wt), .second, .val (.int kp), .val (.long b0), .second, .val (.long b1), .second, .val (.long b2), .second, .val (.long b3), .second, .val (.ref oa), .val (.ref ob), .val .null, .val (.int (1 : Int32)), .val (.long u0), .second] [])) _
    refine XS.aload Y9.here hx rfl (hb hby at_291) rfl rfl ?_
    show Steps p.tables e below (T9.setTop (mkF m 293 #[.val (.long q1), .second, .val (.long q2), .second, .val (.long q3), .second, .val (.int p4), .val (.long q5), .second, .val (.int p6), .val (.int rm), .val (.long wt), .second, .val (.int kp), .val (.long b0), .second, .val (.long b1), .second, .val (.long b2), .second, .val (.long b3), .second, .val (.ref oa), .val (.ref ob), .val .null, .val (.int (1 : Int32)), .val (.long u0), .second] [(.ref oa)])) _
    refine XS.iconst Y9.here hx rfl (hb hby at_293) ?_
    show Steps p.tables e below (T9.setTop (mkF m 294 #[.val (.long q1), .second, .val (.long q2), .second, .val (.long q3), .second, .val (.int p4), .val (.long q5), .second, .val (.int p6), .val (.int rm), .val (.long wt), .second, .val (.int kp), .val (.long b0), .second, .val (.long b1), .second, .val (.long b2), .second, .val (.long b3), .second, .val (.ref oa), .val (.ref ob), .val .null, .val (.int (1 : Int32)), .val (.long u0), .second] [(.int (1 : Int32)), (.ref oa)])) _
    refine XS.iload Y9.here hx rfl (hb hby at_294) rfl ?_
    show Steps p.tables e below (T9.setTop (mkF m 296 #[.val (.long q1), .second, .val (.long q2), .second, .val (.long q3), .second, .val (.int p4), .val (.long q5), .second, .val (.int p6), .val (.int rm), .val (.long wt), .second, .val (.int kp), .val (.long b0), .second, .val (.long b1), .second, .val (.long b2), .second, .val (.long b3), .second, .val (.ref oa), .val (.ref ob), .val .null, .val (.int (1 : Int32)), .val (.long u0), .second] [(.int rm), (.int (1 : Int32)), (.ref oa)])) _
    refine XS.lload Y9.here hx rfl (hb hby at_296) rfl ?_
    show Steps p.tables e below (T9.setTop (mkF m 298 #[.val (.long q1), .second, .val (.long q2), .second, .val (.long q3), .second, .val (.int p4), .val (.long q5), .second, .val (.int p6), .val (.int rm), .val (.long wt), .second, .val (.int kp), .val (.long b0), .second, .val (.long b1), .second, .val (.long b2), .second, .val (.long b3), .second, .val (.ref oa), .val (.ref ob), .val .null, .val (.int (1 : Int32)), .val (.long u0), .second] [(.long wt), (.int rm), (.int (1 : Int32)), (.ref oa)])) _
    exact k
  obtain ⟨_, _, ⟨T10, L10, k10, n10⟩, -, X10, ⟨Lc10, hQ10, l10, y10, z10⟩, st10⟩ := Jvm.LawKit.callS Y9 hx (y := (⟨"com/example/chromabin/chromabin/packing/RoomKnapsackIncludePinLaw", "improves", "([JIIJ)Z"⟩ : MethodName)) hown (mvT hZ (hw _ (List.mem_of_getElem? (i := 9) rfl))) (mvT hZ (hw _ (List.mem_of_getElem? (i := 10) rfl))) (mvT hZ (hw _ (List.mem_of_getElem? (i := 7) rfl))) (mvT hZ (hw _ (List.mem_of_getElem? (i := 11) rfl))) (by decide) (backOf (W := 0) (rm3 l Z a0 hw [] oa (1 : Int32) rm wt (own_f b0 b1 b2 b3) 1 h0 n0 Z0 Vo (by decide) (by decide) hr0) hZ (hw _ (List.mem_of_getElem? (i := 11) rfl)) (hw _ (List.mem_of_getElem? (i := 7) rfl)) (by decide) (by decide)) (g := (mkF m 298 #[.val (.long q1), .second, .val (.long q2), .second, .val (.long q3), .second, .val (.int p4), .val (.long q5), .second, .val (.int p6), .val (.int rm), .val (.long wt), .second, .val (.int kp), .val (.long b0), .second, .val (.long b1), .second, .val (.long b2), .second, .val (.long b3), .second, .val (.ref oa), .val (.ref ob), .val .null, .val (.int (1 : Int32)), .val (.long u0), .second] [(.long wt), (.int rm), (.int (1 : Int32)), (.ref oa)])) rfl (by rw [hml]; rfl) (argsL := [(.ref oa), (.int (1 : Int32)), (.int rm), (.long wt)]) (rest := []) (lenOf pd_3 rfl) rfl (by show 2 * 0 + _ ≤ _; exact Nat.le_of_eq rfl) (hb hby at_298) (fun _ _ => ⟨rfl, e9, hcl, hsl⟩)
  dsimp only [Pt.U, Pt.locs, Pt.cells, Pt.slots] at X10 l10 y10 z10 st10 hQ10
  subst l10 y10 z10
  obtain ⟨⟨z10, rfl, hz10⟩, N10q, e10⟩ := hQ10
  have N10 := Fr.app N9 N10q
  have Y10 : Stand p l e room_1 s m args below meth c T10 _ _ _ := X10
  obtain ⟨u1, hs312, s312⟩ : ∃ (u1 : Int64), (u1 = u0 ||| own_bit (own_f b0 b1 b2 b3) rm wt 1) ∧ ∀ t, Steps p.tables e below (T10.setTop (mkF m 312 #[.val (.long q1), .second, .val (.long q2), .second, .val (.long q3), .second, .val (.int p4), .val (.long q5), .second, .val (.int p6), .val (.int rm), .val (.long wt), .second, .val (.int kp), .val (.long b0), .second, .val (.long b1), .second, .val (.long b2), .second, .val (.long b3), .second, .val (.ref oa), .val (.ref ob), .val .null, .val (.int (1 : Int32)), .val (.long u1), .second] [])) t → Steps p.tables e below (T10.setTop (mkF m 301 #[.val (.long q1), .second, .val (.long q2), .second, .val (.long q3), .second, .val (.int p4), .val (.long q5), .second, .val (.int p6), .val (.int rm), .val (.long wt), .second, .val (.int kp), .val (.long b0), .second, .val (.long b1), .second, .val (.long b2), .second, .val (.long b3), .second, .val (.ref oa), .val (.ref ob), .val .null, .val (.int (1 : Int32)), .val (.long u0), .second] [(.int z10)])) t := by
    by_cases c301 : z10 = (0 : Int32)
    · refine ⟨u0, (by rw [show own_bit (own_f b0 b1 b2 b3) rm wt 1 = 0 from if_neg ((own_zero hz10).1 c301), Int64.or_zero]), fun t k => ?_⟩
      show Steps p.tables e below (T10.setTop (mkF m 301 #[.val (.long q1), .second, .val (.long q2), .second, .val (.long q3), .second, .val (.int p4), .val (.long q5), .second, .val (.int p6), .val (.int rm), .val (.long wt), .second, .val (.int kp), .val (.long b0), .second, .val (.long b1), .second, .val (.long b2), .second, .val (.long b3), .second, .val (.ref oa), .val (.ref ob), .val .null, .val (.int (1 : Int32)), .val (.long u0), .second] [(.int z10)])) _
      refine XS.ifYes Y10.here hx rfl (pc0 := 301) (pc' := 312) rfl (hb hby at_301) rfl ((if0 _ _).trans (teq c301).1) (by decide) (by decide) ?_
      show Steps p.tables e below (T10.setTop (mkF m 312 #[.val (.long q1), .second, .val (.long q2), .second, .val (.long q3), .second, .val (.int p4), .val (.long q5), .second, .val (.int p6), .val (.int rm), .val (.long wt), .second, .val (.int kp), .val (.long b0), .second, .val (.long b1), .second, .val (.long b2), .second, .val (.long b3), .second, .val (.ref oa), .val (.ref ob), .val .null, .val (.int (1 : Int32)), .val (.long u0), .second] [])) _
      exact k
    · refine ⟨(u0 ||| (2 : Int64)), (by rw [show own_bit (own_f b0 b1 b2 b3) rm wt 1 = (2 : Int64) from if_pos ((own_zero hz10).2 c301)]), fun t k => ?_⟩
      show Steps p.tables e below (T10.setTop (mkF m 301 #[.val (.long q1), .second, .val (.long q2), .second, .val (.long q3), .second, .val (.int p4), .val (.long q5), .second, .val (.int p6), .val (.int rm), .val (.long wt), .second, .val (.int kp), .val (.long b0), .second, .val (.long b1), .second, .val (.long b2), .second, .val (.long b3), .second, .val (.ref oa), .val (.ref ob), .val .null, .val (.int (1 : Int32)), .val (.long u0), .second] [(.int z10)])) _
      refine XS.ifNo Y10.here hx rfl (hb hby at_301) rfl ((if0 _ _).trans (feq c301).1) ?_
      show Steps p.tables e below (T10.setTop (mkF m 304 #[.val (.long q1), .second, .val (.long q2), .second, .val (.long q3), .second, .val (.int p4), .val (.long q5), .second, .val (.int p6), .val (.int rm), .val (.long wt), .second, .val (.int kp), .val (.long b0), .second, .val (.long b1), .second, .val (.long b2), .second, .val (.long b3), .second, .val (.ref oa), .val (.ref ob), .val .null, .val (.int (1 : Int32)), .val (.long u0), .second] [])) _
      refine XS.lload Y10.here hx rfl (hb hby at_304) rfl ?_
      show Steps p.tables e below (T10.setTop (mkF m 306 #[.val (.long q1), .second, .val (.long q2), .second, .val (.long q3), .second, .val (.int p4), .val (.long q5), .second, .val (.int p6), .val (.int rm), .val (.long wt), .second, .val (.int kp), .val (.long b0), .second, .val (.long b1), .second, .val (.long b2), .second, .val (.long b3), .second, .val (.ref oa), .val (.ref ob), .val .null, .val (.int (1 : Int32)), .val (.long u0), .second] [(.long u0)])) _
      refine Y10.ldc2Long hx hown (mvT hZ (hw _ (List.mem_of_getElem? (i := 14) rfl))) (g := (mkF m 306 #[.val (.long q1), .second, .val (.long q2), .second, .val (.long q3), .second, .val (.int p4), .val (.long q5), .second, .val (.int p6), .val (.int rm), .val (.long wt), .second, .val (.int kp), .val (.long b0), .second, .val (.long b1), .second, .val (.long b2), .second, .val (.long b3), .second, .val (.ref oa), .val (.ref ob), .val .null, .val (.int (1 : Int32)), .val (.long u0), .second] [(.long u0)])) rfl (hb hby at_306) _ ?_
      show Steps p.tables e below (T10.setTop (mkF m 309 #[.val (.long q1), .second, .val (.long q2), .second, .val (.long q3), .second, .val (.int p4), .val (.long q5), .second, .val (.int p6), .val (.int rm), .val (.long wt), .second, .val (.int kp), .val (.long b0), .second, .val (.long b1), .second, .val (.long b2), .second, .val (.long b3), .second, .val (.ref oa), .val (.ref ob), .val .null, .val (.int (1 : Int32)), .val (.long u0), .second] [(.long (2 : Int64)), (.long u0)])) _
      refine XS.lor Y10.here hx rfl (hb hby at_309) rfl ?_
      show Steps p.tables e below (T10.setTop (mkF m 310 #[.val (.long q1), .second, .val (.long q2), .second, .val (.long q3), .second, .val (.int p4), .val (.long q5), .second, .val (.int p6), .val (.int rm), .val (.long wt), .second, .val (.int kp), .val (.long b0), .second, .val (.long b1), .second, .val (.long b2), .second, .val (.long b3), .second, .val (.ref oa), .val (.ref ob), .val .null, .val (.int (1 : Int32)), .val (.long u0), .second] [(.long (u0 ||| (2 : Int64)))])) _
      refine XS.lstore Y10.here hx rfl (hb hby at_310) rfl (l' := #[.val (.long q1), .second, .val (.long q2), .second, .val (.long q3), .second, .val (.int p4), .val (.long q5), .second, .val (.int p6), .val (.int rm), .val (.long wt), .second, .val (.int kp), .val (.long b0), .second, .val (.long b1), .second, .val (.long b2), .second, .val (.long b3), .second, .val (.ref oa), .val (.ref ob), .val .null, .val (.int (1 : Int32)), .val (.long (u0 ||| (2 : Int64))), .second]) rfl ?_
      show Steps p.tables e below (T10.setTop (mkF m 312 #[.val (.long q1), .second, .val (.long q2), .second, .val (.long q3), .second, .val (.int p4), .val (.long q5), .second, .val (.int p6), .val (.int rm), .val (.long wt), .second, .val (.int kp), .val (.long b0), .second, .val (.long b1), .second, .val (.long b2), .second, .val (.long b3), .second, .val (.ref oa), .val (.ref ob), .val .null, .val (.int (1 : Int32)), .val (.long (u0 ||| (2 : Int64))), .second] [])) _
      exact k
  have s319 : ∀ t, Steps p.tables e below (T10.setTop (mkF m 319 #[.val (.long q1), .second, .val (.long q2), .second, .val (.long q3), .second, .val (.int p4), .val (.long q5), .second, .val (.int p6), .val (.int rm), .val (.long wt), .second, .val (.int kp), .val (.long b0), .second, .val (.long b1), .second, .val (.long b2), .second, .val (.long b3), .second, .val (.ref oa), .val (.ref ob), .val .null, .val (.int (1 : Int32)), .val (.long u1), .second] [(.long wt), (.int rm), (.int (2 : Int32)), (.ref oa)])) t → Steps p.tables e below (T10.setTop (mkF m 312 #[.val (.long q1), .second, .val (.long q2), .second, .val (.long q3), .second, .val (.int p4), .val (.long q5), .second, .val (.int p6), .val (.int rm), .val (.long wt), .second, .val (.int kp), .val (.long b0), .second, .val (.long b1), .second, .val (.long b2), .second, .val (.long b3), .second, .val (.ref oa), .val (.ref ob), .val .null, .val (.int (1 : Int32)), .val (.long u1), .second] [])) t := by
    intro t k
    show Steps p.tables e below (T10.setTop (mkF m 312 #[.val (.long q1), .second, .val (.long q2), .second, .val (.long q3), .second, .val (.int p4), .val (.long q5), .second, .val (.int p6), .val (.int rm), .val (.long wt), .second, .val (.int kp), .val (.long b0), .second, .val (.long b1), .second, .val (.long b2), .second, .val (.long b3), .second, .val (.ref oa), .val (.ref ob), .val .null, .val (.int (1 : Int32)), .val (.long u1), .second] [])) _
    refine XS.aload Y10.here hx rfl (hb hby at_312) rfl rfl ?_
    show Steps p.tables e below (T10.setTop (mkF m 314 #[.val (.long q1), .second, .val (.long q2), .second, .val (.long q3), .second, .val (.int p4), .val (.long q5), .second, .val (.int p6), .val (.int rm), .val (.long wt), .second, .val (.int kp), .val (.long b0), .second, .val (.long b1), .second, .val (.long b2), .second, .val (.long b3), .second, .val (.ref oa), .val (.ref ob), .val .null, .val (.int (1 : Int32)), .val (.long u1), .second] [(.ref oa)])) _
    refine XS.iconst Y10.here hx rfl (hb hby at_314) ?_
    show Steps p.tables e below (T10.setTop (mkF m 315 #[.val (.long q1), .second, .val (.long q2), .second, .val (.long q3), .second, .val (.int p4), .val (.long q5), .second, .val (.int p6), .val (.int rm), .val (.long wt), .second, .val (.int kp), .val (.long b0), .second, .val (.long b1), .second, .val (.long b2), .second, .val (.long b3), .second, .val (.ref oa), .val (.ref ob), .val .null, .val (.int (1 : Int32)), .val (.long u1), .second] [(.int (2 : Int32)), (.ref oa)])) _
    refine XS.iload Y10.here hx rfl (hb hby at_315) rfl ?_
    show Steps p.tables e below (T10.setTop (mkF m 317 #[.val (.long q1), .second, .val (.long q2), .second, .val (.long q3), .second, .val (.int p4), .val (.long q5), .second, .val (.int p6), .val (.int rm), .val (.long wt), .second, .val (.int kp), .val (.long b0), .second, .val (.long b1), .second, .val (.long b2), .second, .val (.long b3), .second, .val (.ref oa), .val (.ref ob), .val .null, .val (.int (1 : Int32)), .val (.long u1), .second] [(.int rm), (.int (2 : Int32)), (.ref oa)])) _
    refine XS.lload Y10.here hx rfl (hb hby at_317) rfl ?_
    show Steps p.tables e below (T10.setTop (mkF m 319 #[.val (.long q1), .second, .val (.long q2), .second, .val (.long q3), .second, .val (.int p4), .val (.long q5), .second, .val (.int p6), .val (.int rm), .val (.long wt), .second, .val (.int kp), .val (.long b0), .second, .val (.long b1), .second, .val (.long b2), .second, .val (.long b3), .second, .val (.ref oa), .val (.ref ob), .val .null, .val (.int (1 : Int32)), .val (.long u1), .second] [(.long wt), (.int rm), (.int (2 : Int32)), (.ref oa)])) _
    exact k
  obtain ⟨_, _, ⟨T11, L11, k11, n11⟩, -, X11, ⟨Lc11, hQ11, l11, y11, z11⟩, st11⟩ := Jvm.LawKit.callS Y10 hx (y := (⟨"com/example/chromabin/chromabin/packing/RoomKnapsackIncludePinLaw", "improves", "([JIIJ)Z"⟩ : MethodName)) hown (mvT hZ (hw _ (List.mem_of_getElem? (i := 9) rfl))) (mvT hZ (hw _ (List.mem_of_getElem? (i := 10) rfl))) (mvT hZ (hw _ (List.mem_of_getElem? (i := 7) rfl))) (mvT hZ (hw _ (List.mem_of_getElem? (i := 11) rfl))) (by decide) (backOf (W := 0) (rm3 l Z a0 hw [] oa (2 : Int32) rm wt (own_f b0 b1 b2 b3) 2 h0 n0 Z0 Vo (by decide) (by decide) hr0) hZ (hw _ (List.mem_of_getElem? (i := 11) rfl)) (hw _ (List.mem_of_getElem? (i := 7) rfl)) (by decide) (by decide)) (g := (mkF m 319 #[.val (.long q1), .second, .val (.long q2), .second, .val (.long q3), .second, .val (.int p4), .val (.long q5), .second, .val (.int p6), .val (.int rm), .val (.long wt), .second, .val (.int kp), .val (.long b0), .second, .val (.long b1), .second, .val (.long b2), .second, .val (.long b3), .second, .val (.ref oa), .val (.ref ob), .val .null, .val (.int (1 : Int32)), .val (.long u1), .second] [(.long wt), (.int rm), (.int (2 : Int32)), (.ref oa)])) rfl (by rw [hml]; rfl) (argsL := [(.ref oa), (.int (2 : Int32)), (.int rm), (.long wt)]) (rest := []) (lenOf pd_3 rfl) rfl (by show 2 * 0 + _ ≤ _; exact Nat.le_of_eq rfl) (hb hby at_319) (fun _ _ => ⟨rfl, e10, hcl, hsl⟩)
  dsimp only [Pt.U, Pt.locs, Pt.cells, Pt.slots] at X11 l11 y11 z11 st11 hQ11
  subst l11 y11 z11
  obtain ⟨⟨z11, rfl, hz11⟩, N11q, e11⟩ := hQ11
  have N11 := Fr.app N10 N11q
  have Y11 : Stand p l e room_1 s m args below meth c T11 _ _ _ := X11
  obtain ⟨u2, hs333, s333⟩ : ∃ (u2 : Int64), (u2 = u1 ||| own_bit (own_f b0 b1 b2 b3) rm wt 2) ∧ ∀ t, Steps p.tables e below (T11.setTop (mkF m 333 #[.val (.long q1), .second, .val (.long q2), .second, .val (.long q3), .second, .val (.int p4), .val (.long q5), .second, .val (.int p6), .val (.int rm), .val (.long wt), .second, .val (.int kp), .val (.long b0), .second, .val (.long b1), .second, .val (.long b2), .second, .val (.long b3), .second, .val (.ref oa), .val (.ref ob), .val .null, .val (.int (1 : Int32)), .val (.long u2), .second] [])) t → Steps p.tables e below (T11.setTop (mkF m 322 #[.val (.long q1), .second, .val (.long q2), .second, .val (.long q3), .second, .val (.int p4), .val (.long q5), .second, .val (.int p6), .val (.int rm), .val (.long wt), .second, .val (.int kp), .val (.long b0), .second, .val (.long b1), .second, .val (.long b2), .second, .val (.long b3), .second, .val (.ref oa), .val (.ref ob), .val .null, .val (.int (1 : Int32)), .val (.long u1), .second] [(.int z11)])) t := by
    by_cases c322 : z11 = (0 : Int32)
    · refine ⟨u1, (by rw [show own_bit (own_f b0 b1 b2 b3) rm wt 2 = 0 from if_neg ((own_zero hz11).1 c322), Int64.or_zero]), fun t k => ?_⟩
      show Steps p.tables e below (T11.setTop (mkF m 322 #[.val (.long q1), .second, .val (.long q2), .second, .val (.long q3), .second, .val (.int p4), .val (.long q5), .second, .val (.int p6), .val (.int rm), .val (.long wt), .second, .val (.int kp), .val (.long b0), .second, .val (.long b1), .second, .val (.long b2), .second, .val (.long b3), .second, .val (.ref oa), .val (.ref ob), .val .null, .val (.int (1 : Int32)), .val (.long u1), .second] [(.int z11)])) _
      refine XS.ifYes Y11.here hx rfl (pc0 := 322) (pc' := 333) rfl (hb hby at_322) rfl ((if0 _ _).trans (teq c322).1) (by decide) (by decide) ?_
      show Steps p.tables e below (T11.setTop (mkF m 333 #[.val (.long q1), .second, .val (.long q2), .second, .val (.long q3), .second, .val (.int p4), .val (.long q5), .second, .val (.int p6), .val (.int rm), .val (.long wt), .second, .val (.int kp), .val (.long b0), .second, .val (.long b1), .second, .val (.long b2), .second, .val (.long b3), .second, .val (.ref oa), .val (.ref ob), .val .null, .val (.int (1 : Int32)), .val (.long u1), .second] [])) _
      exact k
    · refine ⟨(u1 ||| (4 : Int64)), (by rw [show own_bit (own_f b0 b1 b2 b3) rm wt 2 = (4 : Int64) from if_pos ((own_zero hz11).2 c322)]), fun t k => ?_⟩
      show Steps p.tables e below (T11.setTop (mkF m 322 #[.val (.long q1), .second, .val (.long q2), .second, .val (.long q3), .second, .val (.int p4), .val (.long q5), .second, .val (.int p6), .val (.int rm), .val (.long wt), .second, .val (.int kp), .val (.long b0), .second, .val (.long b1), .second, .val (.long b2), .second, .val (.long b3), .second, .val (.ref oa), .val (.ref ob), .val .null, .val (.int (1 : Int32)), .val (.long u1), .second] [(.int z11)])) _
      refine XS.ifNo Y11.here hx rfl (hb hby at_322) rfl ((if0 _ _).trans (feq c322).1) ?_
      show Steps p.tables e below (T11.setTop (mkF m 325 #[.val (.long q1), .second, .val (.long q2), .second, .val (.long q3), .second, .val (.int p4), .val (.long q5), .second, .val (.int p6), .val (.int rm), .val (.long wt), .second, .val (.int kp), .val (.long b0), .second, .val (.long b1), .second, .val (.long b2), .second, .val (.long b3), .second, .val (.ref oa), .val (.ref ob), .val .null, .val (.int (1 : Int32)), .val (.long u1), .second] [])) _
      refine XS.lload Y11.here hx rfl (hb hby at_325) rfl ?_
      show Steps p.tables e below (T11.setTop (mkF m 327 #[.val (.long q1), .second, .val (.long q2), .second, .val (.long q3), .second, .val (.int p4), .val (.long q5), .second, .val (.int p6), .val (.int rm), .val (.long wt), .second, .val (.int kp), .val (.long b0), .second, .val (.long b1), .second, .val (.long b2), .second, .val (.long b3), .second, .val (.ref oa), .val (.ref ob), .val .null, .val (.int (1 : Int32)), .val (.long u1), .second] [(.long u1)])) _
      refine Y11.ldc2Long hx hown (mvT hZ (hw _ (List.mem_of_getElem? (i := 12) rfl))) (g := (mkF m 327 #[.val (.long q1), .second, .val (.long q2), .second, .val (.long q3), .second, .val (.int p4), .val (.long q5), .second, .val (.int p6), .val (.int rm), .val (.long wt), .second, .val (.int kp), .val (.long b0), .second, .val (.long b1), .second, .val (.long b2), .second, .val (.long b3), .second, .val (.ref oa), .val (.ref ob), .val .null, .val (.int (1 : Int32)), .val (.long u1), .second] [(.long u1)])) rfl (hb hby at_327) _ ?_
      show Steps p.tables e below (T11.setTop (mkF m 330 #[.val (.long q1), .second, .val (.long q2), .second, .val (.long q3), .second, .val (.int p4), .val (.long q5), .second, .val (.int p6), .val (.int rm), .val (.long wt), .second, .val (.int kp), .val (.long b0), .second, .val (.long b1), .second, .val (.long b2), .second, .val (.long b3), .second, .val (.ref oa), .val (.ref ob), .val .null, .val (.int (1 : Int32)), .val (.long u1), .second] [(.long (4 : Int64)), (.long u1)])) _
      refine XS.lor Y11.here hx rfl (hb hby at_330) rfl ?_
      show Steps p.tables e below (T11.setTop (mkF m 331 #[.val (.long q1), .second, .val (.long q2), .second, .val (.long q3), .second, .val (.int p4), .val (.long q5), .second, .val (.int p6), .val (.int rm), .val (.long wt), .second, .val (.int kp), .val (.long b0), .second, .val (.long b1), .second, .val (.long b2), .second, .val (.long b3), .second, .val (.ref oa), .val (.ref ob), .val .null, .val (.int (1 : Int32)), .val (.long u1), .second] [(.long (u1 ||| (4 : Int64)))])) _
      refine XS.lstore Y11.here hx rfl (hb hby at_331) rfl (l' := #[.val (.long q1), .second, .val (.long q2), .second, .val (.long q3), .second, .val (.int p4), .val (.long q5), .second, .val (.int p6), .val (.int rm), .val (.long wt), .second, .val (.int kp), .val (.long b0), .second, .val (.long b1), .second, .val (.long b2), .second, .val (.long b3), .second, .val (.ref oa), .val (.ref ob), .val .null, .val (.int (1 : Int32)), .val (.long (u1 ||| (4 : Int64))), .second]) rfl ?_
      show Steps p.tables e below (T11.setTop (mkF m 333 #[.val (.long q1), .second, .val (.long q2), .second, .val (.long q3), .second, .val (.int p4), .val (.long q5), .second, .val (.int p6), .val (.int rm), .val (.long wt), .second, .val (.int kp), .val (.long b0), .second, .val (.long b1), .second, .val (.long b2), .second, .val (.long b3), .second, .val (.ref oa), .val (.ref ob), .val .null, .val (.int (1 : Int32)), .val (.long (u1 ||| (4 : Int64))), .second] [])) _
      exact k
  have s340 : ∀ t, Steps p.tables e below (T11.setTop (mkF m 340 #[.val (.long q1), .second, .val (.long q2), .second, .val (.long q3), .second, .val (.int p4), .val (.long q5), .second, .val (.int p6), .val (.int rm), .val (.long wt), .second, .val (.int kp), .val (.long b0), .second, .val (.long b1), .second, .val (.long b2), .second, .val (.long b3), .second, .val (.ref oa), .val (.ref ob), .val .null, .val (.int (1 : Int32)), .val (.long u2), .second] [(.long wt), (.int rm), (.int (3 : Int32)), (.ref oa)])) t → Steps p.tables e below (T11.setTop (mkF m 333 #[.val (.long q1), .second, .val (.long q2), .second, .val (.long q3), .second, .val (.int p4), .val (.long q5), .second, .val (.int p6), .val (.int rm), .val (.long wt), .second, .val (.int kp), .val (.long b0), .second, .val (.long b1), .second, .val (.long b2), .second, .val (.long b3), .second, .val (.ref oa), .val (.ref ob), .val .null, .val (.int (1 : Int32)), .val (.long u2), .second] [])) t := by
    intro t k
    show Steps p.tables e below (T11.setTop (mkF m 333 #[.val (.long q1), .second, .val (.long q2), .second, .val (.long q3), .second, .val (.int p4), .val (.long q5), .second, .val (.int p6), .val (.int rm), .val (.long wt), .second, .val (.int kp), .val (.long b0), .second, .val (.long b1), .second, .val (.long b2), .second, .val (.long b3), .second, .val (.ref oa), .val (.ref ob), .val .null, .val (.int (1 : Int32)), .val (.long u2), .second] [])) _
    refine XS.aload Y11.here hx rfl (hb hby at_333) rfl rfl ?_
    show Steps p.tables e below (T11.setTop (mkF m 335 #[.val (.long q1), .second, .val (.long q2), .second, .val (.long q3), .second, .val (.int p4), .val (.long q5), .second, .val (.int p6), .val (.int rm), .val (.long wt), .second, .val (.int kp), .val (.long b0), .second, .val (.long b1), .second, .val (.long b2), .second, .val (.long b3), .second, .val (.ref oa), .val (.ref ob), .val .null, .val (.int (1 : Int32)), .val (.long u2), .second] [(.ref oa)])) _
    refine XS.iconst Y11.here hx rfl (hb hby at_335) ?_
    show Steps p.tables e below (T11.setTop (mkF m 336 #[.val (.long q1), .second, .val (.long q2), .second, .val (.long q3), .second, .val (.int p4), .val (.long q5), .second, .val (.int p6), .val (.int rm), .val (.long wt), .second, .val (.int kp), .val (.long b0), .second, .val (.long b1), .second, .val (.long b2), .second, .val (.long b3), .second, .val (.ref oa), .val (.ref ob), .val .null, .val (.int (1 : Int32)), .val (.long u2), .second] [(.int (3 : Int32)), (.ref oa)])) _
    refine XS.iload Y11.here hx rfl (hb hby at_336) rfl ?_
    show Steps p.tables e below (T11.setTop (mkF m 338 #[.val (.long q1), .second, .val (.long q2), .second, .val (.long q3), .second, .val (.int p4), .val (.long q5), .second, .val (.int p6), .val (.int rm), .val (.long wt), .second, .val (.int kp), .val (.long b0), .second, .val (.long b1), .second, .val (.long b2), .second, .val (.long b3), .second, .val (.ref oa), .val (.ref ob), .val .null, .val (.int (1 : Int32)), .val (.long u2), .second] [(.int rm), (.int (3 : Int32)), (.ref oa)])) _
    refine XS.lload Y11.here hx rfl (hb hby at_338) rfl ?_
    show Steps p.tables e below (T11.setTop (mkF m 340 #[.val (.long q1), .second, .val (.long q2), .second, .val (.long q3), .second, .val (.int p4), .val (.long q5), .second, .val (.int p6), .val (.int rm), .val (.long wt), .second, .val (.int kp), .val (.long b0), .second, .val (.long b1), .second, .val (.long b2), .second, .val (.long b3), .second, .val (.ref oa), .val (.ref ob), .val .null, .val (.int (1 : Int32)), .val (.long u2), .second] [(.long wt), (.int rm), (.int (3 : Int32)), (.ref oa)])) _
    exact k
  obtain ⟨_, _, ⟨T12, L12, k12, n12⟩, -, X12, ⟨Lc12, hQ12, l12, y12, z12⟩, st12⟩ := Jvm.LawKit.callS Y11 hx (y := (⟨"com/example/chromabin/chromabin/packing/RoomKnapsackIncludePinLaw", "improves", "([JIIJ)Z"⟩ : MethodName)) hown (mvT hZ (hw _ (List.mem_of_getElem? (i := 9) rfl))) (mvT hZ (hw _ (List.mem_of_getElem? (i := 10) rfl))) (mvT hZ (hw _ (List.mem_of_getElem? (i := 7) rfl))) (mvT hZ (hw _ (List.mem_of_getElem? (i := 11) rfl))) (by decide) (backOf (W := 0) (rm3 l Z a0 hw [] oa (3 : Int32) rm wt (own_f b0 b1 b2 b3) 3 h0 n0 Z0 Vo (by decide) (by decide) hr0) hZ (hw _ (List.mem_of_getElem? (i := 11) rfl)) (hw _ (List.mem_of_getElem? (i := 7) rfl)) (by decide) (by decide)) (g := (mkF m 340 #[.val (.long q1), .second, .val (.long q2), .second, .val (.long q3), .second, .val (.int p4), .val (.long q5), .second, .val (.int p6), .val (.int rm), .val (.long wt), .second, .val (.int kp), .val (.long b0), .second, .val (.long b1), .second, .val (.long b2), .second, .val (.long b3), .second, .val (.ref oa), .val (.ref ob), .val .null, .val (.int (1 : Int32)), .val (.long u2), .second] [(.long wt), (.int rm), (.int (3 : Int32)), (.ref oa)])) rfl (by rw [hml]; rfl) (argsL := [(.ref oa), (.int (3 : Int32)), (.int rm), (.long wt)]) (rest := []) (lenOf pd_3 rfl) rfl (by show 2 * 0 + _ ≤ _; exact Nat.le_of_eq rfl) (hb hby at_340) (fun _ _ => ⟨rfl, e11, hcl, hsl⟩)
  dsimp only [Pt.U, Pt.locs, Pt.cells, Pt.slots] at X12 l12 y12 z12 st12 hQ12
  subst l12 y12 z12
  obtain ⟨⟨z12, rfl, hz12⟩, N12q, e12⟩ := hQ12
  have N12 := Fr.app N11 N12q
  have Y12 : Stand p l e room_1 s m args below meth c T12 _ _ _ := X12
  obtain ⟨u3, hs354, s354⟩ : ∃ (u3 : Int64), (u3 = u2 ||| own_bit (own_f b0 b1 b2 b3) rm wt 3) ∧ ∀ t, Steps p.tables e below (T12.setTop (mkF m 354 #[.val (.long q1), .second, .val (.long q2), .second, .val (.long q3), .second, .val (.int p4), .val (.long q5), .second, .val (.int p6), .val (.int rm), .val (.long wt), .second, .val (.int kp), .val (.long b0), .second, .val (.long b1), .second, .val (.long b2), .second, .val (.long b3), .second, .val (.ref oa), .val (.ref ob), .val .null, .val (.int (1 : Int32)), .val (.long u3), .second] [])) t → Steps p.tables e below (T12.setTop (mkF m 343 #[.val (.long q1), .second, .val (.long q2), .second, .val (.long q3), .second, .val (.int p4), .val (.long q5), .second, .val (.int p6), .val (.int rm), .val (.long wt), .second, .val (.int kp), .val (.long b0), .second, .val (.long b1), .second, .val (.long b2), .second, .val (.long b3), .second, .val (.ref oa), .val (.ref ob), .val .null, .val (.int (1 : Int32)), .val (.long u2), .second] [(.int z12)])) t := by
    by_cases c343 : z12 = (0 : Int32)
    · refine ⟨u2, (by rw [show own_bit (own_f b0 b1 b2 b3) rm wt 3 = 0 from if_neg ((own_zero hz12).1 c343), Int64.or_zero]), fun t k => ?_⟩
      show Steps p.tables e below (T12.setTop (mkF m 343 #[.val (.long q1), .second, .val (.long q2), .second, .val (.long q3), .second, .val (.int p4), .val (.long q5), .second, .val (.int p6), .val (.int rm), .val (.long wt), .second, .val (.int kp), .val (.long b0), .second, .val (.long b1), .second, .val (.long b2), .second, .val (.long b3), .second, .val (.ref oa), .val (.ref ob), .val .null, .val (.int (1 : Int32)), .val (.long u2), .second] [(.int z12)])) _
      refine XS.ifYes Y12.here hx rfl (pc0 := 343) (pc' := 354) rfl (hb hby at_343) rfl ((if0 _ _).trans (teq c343).1) (by decide) (by decide) ?_
      show Steps p.tables e below (T12.setTop (mkF m 354 #[.val (.long q1), .second, .val (.long q2), .second, .val (.long q3), .second, .val (.int p4), .val (.long q5), .second, .val (.int p6), .val (.int rm), .val (.long wt), .second, .val (.int kp), .val (.long b0), .second, .val (.long b1), .second, .val (.long b2), .second, .val (.long b3), .second, .val (.ref oa), .val (.ref ob), .val .null, .val (.int (1 : Int32)), .val (.long u2), .second] [])) _
      exact k
    · refine ⟨(u2 ||| (8 : Int64)), (by rw [show own_bit (own_f b0 b1 b2 b3) rm wt 3 = (8 : Int64) from if_pos ((own_zero hz12).2 c343)]), fun t k => ?_⟩
      show Steps p.tables e below (T12.setTop (mkF m 343 #[.val (.long q1), .second, .val (.long q2), .second, .val (.long q3), .second, .val (.int p4), .val (.long q5), .second, .val (.int p6), .val (.int rm), .val (.long wt), .second, .val (.int kp), .val (.long b0), .second, .val (.long b1), .second, .val (.long b2), .second, .val (.long b3), .second, .val (.ref oa), .val (.ref ob), .val .null, .val (.int (1 : Int32)), .val (.long u2), .second] [(.int z12)])) _
      refine XS.ifNo Y12.here hx rfl (hb hby at_343) rfl ((if0 _ _).trans (feq c343).1) ?_
      show Steps p.tables e below (T12.setTop (mkF m 346 #[.val (.long q1), .second, .val (.long q2), .second, .val (.long q3), .second, .val (.int p4), .val (.long q5), .second, .val (.int p6), .val (.int rm), .val (.long wt), .second, .val (.int kp), .val (.long b0), .second, .val (.long b1), .second, .val (.long b2), .second, .val (.long b3), .second, .val (.ref oa), .val (.ref ob), .val .null, .val (.int (1 : Int32)), .val (.long u2), .second] [])) _
      refine XS.lload Y12.here hx rfl (hb hby at_346) rfl ?_
      show Steps p.tables e below (T12.setTop (mkF m 348 #[.val (.long q1), .second, .val (.long q2), .second, .val (.long q3), .second, .val (.int p4), .val (.long q5), .second, .val (.int p6), .val (.int rm), .val (.long wt), .second, .val (.int kp), .val (.long b0), .second, .val (.long b1), .second, .val (.long b2), .second, .val (.long b3), .second, .val (.ref oa), .val (.ref ob), .val .null, .val (.int (1 : Int32)), .val (.long u2), .second] [(.long u2)])) _
      refine Y12.ldc2Long hx hown (mvT hZ (hw _ (List.mem_of_getElem? (i := 13) rfl))) (g := (mkF m 348 #[.val (.long q1), .second, .val (.long q2), .second, .val (.long q3), .second, .val (.int p4), .val (.long q5), .second, .val (.int p6), .val (.int rm), .val (.long wt), .second, .val (.int kp), .val (.long b0), .second, .val (.long b1), .second, .val (.long b2), .second, .val (.long b3), .second, .val (.ref oa), .val (.ref ob), .val .null, .val (.int (1 : Int32)), .val (.long u2), .second] [(.long u2)])) rfl (hb hby at_348) _ ?_
      show Steps p.tables e below (T12.setTop (mkF m 351 #[.val (.long q1), .second, .val (.long q2), .second, .val (.long q3), .second, .val (.int p4), .val (.long q5), .second, .val (.int p6), .val (.int rm), .val (.long wt), .second, .val (.int kp), .val (.long b0), .second, .val (.long b1), .second, .val (.long b2), .second, .val (.long b3), .second, .val (.ref oa), .val (.ref ob), .val .null, .val (.int (1 : Int32)), .val (.long u2), .second] [(.long (8 : Int64)), (.long u2)])) _
      refine XS.lor Y12.here hx rfl (hb hby at_351) rfl ?_
      show Steps p.tables e below (T12.setTop (mkF m 352 #[.val (.long q1), .second, .val (.long q2), .second, .val (.long q3), .second, .val (.int p4), .val (.long q5), .second, .val (.int p6), .val (.int rm), .val (.long wt), .second, .val (.int kp), .val (.long b0), .second, .val (.long b1), .second, .val (.long b2), .second, .val (.long b3), .second, .val (.ref oa), .val (.ref ob), .val .null, .val (.int (1 : Int32)), .val (.long u2), .second] [(.long (u2 ||| (8 : Int64)))])) _
      refine XS.lstore Y12.here hx rfl (hb hby at_352) rfl (l' := #[.val (.long q1), .second, .val (.long q2), .second, .val (.long q3), .second, .val (.int p4), .val (.long q5), .second, .val (.int p6), .val (.int rm), .val (.long wt), .second, .val (.int kp), .val (.long b0), .second, .val (.long b1), .second, .val (.long b2), .second, .val (.long b3), .second, .val (.ref oa), .val (.ref ob), .val .null, .val (.int (1 : Int32)), .val (.long (u2 ||| (8 : Int64))), .second]) rfl ?_
      show Steps p.tables e below (T12.setTop (mkF m 354 #[.val (.long q1), .second, .val (.long q2), .second, .val (.long q3), .second, .val (.int p4), .val (.long q5), .second, .val (.int p6), .val (.int rm), .val (.long wt), .second, .val (.int kp), .val (.long b0), .second, .val (.long b1), .second, .val (.long b2), .second, .val (.long b3), .second, .val (.ref oa), .val (.ref ob), .val .null, .val (.int (1 : Int32)), .val (.long (u2 ||| (8 : Int64))), .second] [])) _
      exact k
  refine ⟨T12, _, #[.val (.long q1), .second, .val (.long q2), .second, .val (.long q3), .second, .val (.int p4), .val (.long q5), .second, .val (.int p6), .val (.int rm), .val (.long wt), .second, .val (.int kp), .val (.long b0), .second, .val (.long b1), .second, .val (.long b2), .second, .val (.long b3), .second, .val (.ref oa), .val (.ref ob), .val .null, .val (.int (1 : Int32)), .val (.long u3), .second], Y12, N12, fun t k => ?_⟩
  refine s148 _ ?_
  refine s164 _ ?_
  refine st5 _ ?_
  refine s178 _ ?_
  refine s194 _ ?_
  refine st6 _ ?_
  refine s208 _ ?_
  refine s224 _ ?_
  refine st7 _ ?_
  refine s238 _ ?_
  refine s254 _ ?_
  refine st8 _ ?_
  refine s268 _ ?_
  refine s279 _ ?_
  refine st9 _ ?_
  refine s291 _ ?_
  refine s298 _ ?_
  refine st10 _ ?_
  refine s312 _ ?_
  refine s319 _ ?_
  refine st11 _ ?_
  refine s333 _ ?_
  refine s340 _ ?_
  refine st12 _ ?_
  refine s354 _ ?_
  show Steps p.tables e below (T12.setTop (mkF m 354 #[.val (.long q1), .second, .val (.long q2), .second, .val (.long q3), .second, .val (.int p4), .val (.long q5), .second, .val (.int p6), .val (.int rm), .val (.long wt), .second, .val (.int kp), .val (.long b0), .second, .val (.long b1), .second, .val (.long b2), .second, .val (.long b3), .second, .val (.ref oa), .val (.ref ob), .val .null, .val (.int (1 : Int32)), .val (.long u3), .second] [])) _
  refine XS.aload Y12.here hx rfl (hb hby at_354) rfl rfl ?_
  show Steps p.tables e below (T12.setTop (mkF m 356 #[.val (.long q1), .second, .val (.long q2), .second, .val (.long q3), .second, .val (.int p4), .val (.long q5), .second, .val (.int p6), .val (.int rm), .val (.long wt), .second, .val (.int kp), .val (.long b0), .second, .val (.long b1), .second, .val (.long b2), .second, .val (.long b3), .second, .val (.ref oa), .val (.ref ob), .val .null, .val (.int (1 : Int32)), .val (.long u3), .second] [.null])) _
  refine XS.ifnullYes Y12.here hx rfl (pc0 := 356) (pc' := 388) rfl (hb hby at_356) rfl (by decide) (by decide) ?_
  show Steps p.tables e below (T12.setTop (mkF m 388 #[.val (.long q1), .second, .val (.long q2), .second, .val (.long q3), .second, .val (.int p4), .val (.long q5), .second, .val (.int p6), .val (.int rm), .val (.long wt), .second, .val (.int kp), .val (.long b0), .second, .val (.long b1), .second, .val (.long b2), .second, .val (.long b3), .second, .val (.ref oa), .val (.ref ob), .val .null, .val (.int (1 : Int32)), .val (.long u3), .second] [])) _
  refine XS.iload Y12.here hx rfl (hb hby at_388) rfl ?_
  show Steps p.tables e below (T12.setTop (mkF m 390 #[.val (.long q1), .second, .val (.long q2), .second, .val (.long q3), .second, .val (.int p4), .val (.long q5), .second, .val (.int p6), .val (.int rm), .val (.long wt), .second, .val (.int kp), .val (.long b0), .second, .val (.long b1), .second, .val (.long b2), .second, .val (.long b3), .second, .val (.ref oa), .val (.ref ob), .val .null, .val (.int (1 : Int32)), .val (.long u3), .second] [(.int (1 : Int32))])) _
  exact k
set_option maxRecDepth 65536 in
set_option maxHeartbeats 40000000 in
theorem tlR {p : Program} {l : Launch} {e : Env} {s : State} {m : MethodId} {args : Array Value} {below : List Frame} {meth : Method} {c : Code} {cells slots : Nat} {Z : State} {a0 : Array Value} {T0 : State} {h0 : Heap} {locs : List Loc} (hw : ∀ d ∈ tables_1, d.before a0 Z = true) (q1 q2 q3 : Int64) (p4 : Int32) (q5 : Int64) (p6 rm : Int32) (wt : Int64) (kp : Int32) (b0 b1 b2 b3 : Int64) (oa ob : Addr) (o4 : Addr) (n0 : Nat) (X0 : Stand p l e room_1 s m args below meth c T0 locs cells slots) (hcl : cells ≤ 16) (hsl : slots ≤ 128) (hx : p.tables.exec = Jvm.exec) (hZ : Z.Warmed39 s.vm) (hby : c.code = code) (hml : c.maxLocals = 28) (hown : s.vm.findClass "com/example/chromabin/chromabin/packing/RoomKnapsackIncludePinLaw" = some m.cls) (e0 : T0.heap = h0) (N0 : Fr n0 locs) (Z0 : n0 ≤ h0.size) (hr0 : 0 ≤ rm.toInt) (Vo : own_ar Z h0 oa 4 (own_f b0 b1 b2 b3)) (Vb : own_ar Z h0 ob 4 (own_new (own_f b0 b1 b2 b3) rm wt)) (V4 : own_ar Z h0 o4 1 (fun _ => own_or (own_f b0 b1 b2 b3) rm wt 4 q5)) :
    ∃ (T' : State) (locs' : List Loc) (Ls : Array Slot), Stand p l e room_1 s m args below meth c T' locs' cells slots ∧ Fr n0 locs' ∧ ∀ t, Steps p.tables e below (T'.setTop (mkF m 390 Ls [(.int (1 : Int32))])) t → Steps p.tables e below (T0.setTop (mkF m 134 #[.val (.long q1), .second, .val (.long q2), .second, .val (.long q3), .second, .val (.int p4), .val (.long q5), .second, .val (.int p6), .val (.int rm), .val (.long wt), .second, .val (.int kp), .val (.long b0), .second, .val (.long b1), .second, .val (.long b2), .second, .val (.long b3), .second, .val (.ref oa), .val (.ref ob), .val (.ref o4), .unset, .unset, .unset] [])) t := by
  obtain ⟨cb, Ab, Sb, Hb⟩ := Vb
  obtain ⟨c4, A4, S4, H4⟩ := V4
  have s148 : ∀ t, Steps p.tables e below (T0.setTop (mkF m 148 #[.val (.long q1), .second, .val (.long q2), .second, .val (.long q3), .second, .val (.int p4), .val (.long q5), .second, .val (.int p6), .val (.int rm), .val (.long wt), .second, .val (.int kp), .val (.long b0), .second, .val (.long b1), .second, .val (.long b2), .second, .val (.long b3), .second, .val (.ref oa), .val (.ref ob), .val (.ref o4), .val (.int (1 : Int32)), .unset, .unset] [])) t → Steps p.tables e below (T0.setTop (mkF m 134 #[.val (.long q1), .second, .val (.long q2), .second, .val (.long q3), .second, .val (.int p4), .val (.long q5), .second, .val (.int p6), .val (.int rm), .val (.long wt), .second, .val (.int kp), .val (.long b0), .second, .val (.long b1), .second, .val (.long b2), .second, .val (.long b3), .second, .val (.ref oa), .val (.ref ob), .val (.ref o4), .unset, .unset, .unset] [])) t := by
    intro t k
    show Steps p.tables e below (T0.setTop (mkF m 134 #[.val (.long q1), .second, .val (.long q2), .second, .val (.long q3), .second, .val (.int p4), .val (.long q5), .second, .val (.int p6), .val (.int rm), .val (.long wt), .second, .val (.int kp), .val (.long b0), .second, .val (.long b1), .second, .val (.long b2), .second, .val (.long b3), .second, .val (.ref oa), .val (.ref ob), .val (.ref o4), .unset, .unset, .unset] [])) _
    refine XS.aload X0.here hx rfl (hb hby at_134) rfl rfl ?_
    show Steps p.tables e below (T0.setTop (mkF m 136 #[.val (.long q1), .second, .val (.long q2), .second, .val (.long q3), .second, .val (.int p4), .val (.long q5), .second, .val (.int p6), .val (.int rm), .val (.long wt), .second, .val (.int kp), .val (.long b0), .second, .val (.long b1), .second, .val (.long b2), .second, .val (.long b3), .second, .val (.ref oa), .val (.ref ob), .val (.ref o4), .unset, .unset, .unset] [(.ref ob)])) _
    refine X0.arraylength hx (by rw [e0]; exact Ab.1) (State.isArrayOf_alike hZ.alike Ab.2.1) (g := (mkF m 136 #[.val (.long q1), .second, .val (.long q2), .second, .val (.long q3), .second, .val (.int p4), .val (.long q5), .second, .val (.int p6), .val (.int rm), .val (.long wt), .second, .val (.int kp), .val (.long b0), .second, .val (.long b1), .second, .val (.long b2), .second, .val (.long b3), .second, .val (.ref oa), .val (.ref ob), .val (.ref o4), .unset, .unset, .unset] [(.ref ob)])) rfl rfl (hb hby at_136) _ ?_
    rw [Sb]
    show Steps p.tables e below (T0.setTop (mkF m 137 #[.val (.long q1), .second, .val (.long q2), .second, .val (.long q3), .second, .val (.int p4), .val (.long q5), .second, .val (.int p6), .val (.int rm), .val (.long wt), .second, .val (.int kp), .val (.long b0), .second, .val (.long b1), .second, .val (.long b2), .second, .val (.long b3), .second, .val (.ref oa), .val (.ref ob), .val (.ref o4), .unset, .unset, .unset] [(.int (4 : Int32))])) _
    refine XS.iconst X0.here hx rfl (hb hby at_137) ?_
    show Steps p.tables e below (T0.setTop (mkF m 138 #[.val (.long q1), .second, .val (.long q2), .second, .val (.long q3), .second, .val (.int p4), .val (.long q5), .second, .val (.int p6), .val (.int rm), .val (.long wt), .second, .val (.int kp), .val (.long b0), .second, .val (.long b1), .second, .val (.long b2), .second, .val (.long b3), .second, .val (.ref oa), .val (.ref ob), .val (.ref o4), .unset, .unset, .unset] [(.int (4 : Int32)), (.int (4 : Int32))])) _
    refine XS.icmpNo X0.here hx rfl (hb hby at_138) rfl (teq (rfl : (4 : Int32) = (4 : Int32))).2 ?_
    show Steps p.tables e below (T0.setTop (mkF m 141 #[.val (.long q1), .second, .val (.long q2), .second, .val (.long q3), .second, .val (.int p4), .val (.long q5), .second, .val (.int p6), .val (.int rm), .val (.long wt), .second, .val (.int kp), .val (.long b0), .second, .val (.long b1), .second, .val (.long b2), .second, .val (.long b3), .second, .val (.ref oa), .val (.ref ob), .val (.ref o4), .unset, .unset, .unset] [])) _
    refine XS.iconst X0.here hx rfl (hb hby at_141) ?_
    show Steps p.tables e below (T0.setTop (mkF m 142 #[.val (.long q1), .second, .val (.long q2), .second, .val (.long q3), .second, .val (.int p4), .val (.long q5), .second, .val (.int p6), .val (.int rm), .val (.long wt), .second, .val (.int kp), .val (.long b0), .second, .val (.long b1), .second, .val (.long b2), .second, .val (.long b3), .second, .val (.ref oa), .val (.ref ob), .val (.ref o4), .unset, .unset, .unset] [(.int (1 : Int32))])) _
    refine XS.goto X0.here hx rfl (pc0 := 142) (pc' := 146) rfl (hb hby at_142) (by decide) (by decide) ?_
    show Steps p.tables e below (T0.setTop (mkF m 146 #[.val (.long q1), .second, .val (.long q2), .second, .val (.long q3), .second, .val (.int p4), .val (.long q5), .second, .val (.int p6), .val (.int rm), .val (.long wt), .second, .val (.int kp), .val (.long b0), .second, .val (.long b1), .second, .val (.long b2), .second, .val (.long b3), .second, .val (.ref oa), .val (.ref ob), .val (.ref o4), .unset, .unset, .unset] [(.int (1 : Int32))])) _
    refine XS.istore X0.here hx rfl (hb hby at_146) rfl (l' := #[.val (.long q1), .second, .val (.long q2), .second, .val (.long q3), .second, .val (.int p4), .val (.long q5), .second, .val (.int p6), .val (.int rm), .val (.long wt), .second, .val (.int kp), .val (.long b0), .second, .val (.long b1), .second, .val (.long b2), .second, .val (.long b3), .second, .val (.ref oa), .val (.ref ob), .val (.ref o4), .val (.int (1 : Int32)), .unset, .unset]) rfl ?_
    show Steps p.tables e below (T0.setTop (mkF m 148 #[.val (.long q1), .second, .val (.long q2), .second, .val (.long q3), .second, .val (.int p4), .val (.long q5), .second, .val (.int p6), .val (.int rm), .val (.long wt), .second, .val (.int kp), .val (.long b0), .second, .val (.long b1), .second, .val (.long b2), .second, .val (.long b3), .second, .val (.ref oa), .val (.ref ob), .val (.ref o4), .val (.int (1 : Int32)), .unset, .unset] [])) _
    exact k
  have s164 : ∀ t, Steps p.tables e below (T0.setTop (mkF m 164 #[.val (.long q1), .second, .val (.long q2), .second, .val (.long q3), .second, .val (.int p4), .val (.long q5), .second, .val (.int p6), .val (.int rm), .val (.long wt), .second, .val (.int kp), .val (.long b0), .second, .val (.long b1), .second, .val (.long b2), .second, .val (.long b3), .second, .val (.ref oa), .val (.ref ob), .val (.ref o4), .val (.int (1 : Int32)), .unset, .unset] [(.long wt), (.int rm), (.int (0 : Int32)), (.ref oa), (.long (own_new (own_f b0 b1 b2 b3) rm wt 0))])) t → Steps p.tables e below (T0.setTop (mkF m 148 #[.val (.long q1), .second, .val (.long q2), .second, .val (.long q3), .second, .val (.int p4), .val (.long q5), .second, .val (.int p6), .val (.int rm), .val (.long wt), .second, .val (.int kp), .val (.long b0), .second, .val (.long b1), .second, .val (.long b2), .second, .val (.long b3), .second, .val (.ref oa), .val (.ref ob), .val (.ref o4), .val (.int (1 : Int32)), .unset, .unset] [])) t := by
    intro t k
    show Steps p.tables e below (T0.setTop (mkF m 148 #[.val (.long q1), .second, .val (.long q2), .second, .val (.long q3), .second, .val (.int p4), .val (.long q5), .second, .val (.int p6), .val (.int rm), .val (.long wt), .second, .val (.int kp), .val (.long b0), .second, .val (.long b1), .second, .val (.long b2), .second, .val (.long b3), .second, .val (.ref oa), .val (.ref ob), .val (.ref o4), .val (.int (1 : Int32)), .unset, .unset] [])) _
    refine XS.iload X0.here hx rfl (hb hby at_148) rfl ?_
    show Steps p.tables e below (T0.setTop (mkF m 150 #[.val (.long q1), .second, .val (.long q2), .second, .val (.long q3), .second, .val (.int p4), .val (.long q5), .second, .val (.int p6), .val (.int rm), .val (.long wt), .second, .val (.int kp), .val (.long b0), .second, .val (.long b1), .second, .val (.long b2), .second, .val (.long b3), .second, .val (.ref oa), .val (.ref ob), .val (.ref o4), .val (.int (1 : Int32)), .unset, .unset] [(.int (1 : Int32))])) _
    refine XS.ifNo X0.here hx rfl (hb hby at_150) rfl ((if0 _ _).trans (feq (by decide : ¬ (1 : Int32) = (0 : Int32))).1) ?_
    show Steps p.tables e below (T0.setTop (mkF m 153 #[.val (.long q1), .second, .val (.long q2), .second, .val (.long q3), .second, .val (.int p4), .val (.long q5), .second, .val (.int p6), .val (.int rm), .val (.long wt), .second, .val (.int kp), .val (.long b0), .second, .val (.long b1), .second, .val (.long b2), .second, .val (.long b3), .second, .val (.ref oa), .val (.ref ob), .val (.ref o4), .val (.int (1 : Int32)), .unset, .unset] [])) _
    refine XS.aload X0.here hx rfl (hb hby at_153) rfl rfl ?_
    show Steps p.tables e below (T0.setTop (mkF m 155 #[.val (.long q1), .second, .val (.long q2), .second, .val (.long q3), .second, .val (.int p4), .val (.long q5), .second, .val (.int p6), .val (.int rm), .val (.long wt), .second, .val (.int kp), .val (.long b0), .second, .val (.long b1), .second, .val (.long b2), .second, .val (.long b3), .second, .val (.ref oa), .val (.ref ob), .val (.ref o4), .val (.int (1 : Int32)), .unset, .unset] [(.ref ob)])) _
    refine XS.iconst X0.here hx rfl (hb hby at_155) ?_
    show Steps p.tables e below (T0.setTop (mkF m 156 #[.val (.long q1), .second, .val (.long q2), .second, .val (.long q3), .second, .val (.int p4), .val (.long q5), .second, .val (.int p6), .val (.int rm), .val (.long wt), .second, .val (.int kp), .val (.long b0), .second, .val (.long b1), .second, .val (.long b2), .second, .val (.long b3), .second, .val (.ref oa), .val (.ref ob), .val (.ref o4), .val (.int (1 : Int32)), .unset, .unset] [(.int (0 : Int32)), (.ref ob)])) _
    refine X0.laload hx (j := (0 : Int32)) (v := (.long (own_new (own_f b0 b1 b2 b3) rm wt 0))) (by rw [e0]; exact Ab.1) (State.isArrayOf_alike hZ.alike Ab.2.1) Ab.2.2 (own_in (i := 0) (by decide) Sb (by decide)) (own_at (i := 0) (by decide) Hb (by decide)) (g := (mkF m 156 #[.val (.long q1), .second, .val (.long q2), .second, .val (.long q3), .second, .val (.int p4), .val (.long q5), .second, .val (.int p6), .val (.int rm), .val (.long wt), .second, .val (.int kp), .val (.long b0), .second, .val (.long b1), .second, .val (.long b2), .second, .val (.long b3), .second, .val (.ref oa), .val (.ref ob), .val (.ref o4), .val (.int (1 : Int32)), .unset, .unset] [(.int (0 : Int32)), (.ref ob)])) rfl rfl (hb hby at_156) _ ?_
    show Steps p.tables e below (T0.setTop (mkF m 157 #[.val (.long q1), .second, .val (.long q2), .second, .val (.long q3), .second, .val (.int p4), .val (.long q5), .second, .val (.int p6), .val (.int rm), .val (.long wt), .second, .val (.int kp), .val (.long b0), .second, .val (.long b1), .second, .val (.long b2), .second, .val (.long b3), .second, .val (.ref oa), .val (.ref ob), .val (.ref o4), .val (.int (1 : Int32)), .unset, .unset] [(.long (own_new (own_f b0 b1 b2 b3) rm wt 0))])) _
    refine XS.aload X0.here hx rfl (hb hby at_157) rfl rfl ?_
    show Steps p.tables e below (T0.setTop (mkF m 159 #[.val (.long q1), .second, .val (.long q2), .second, .val (.long q3), .second, .val (.int p4), .val (.long q5), .second, .val (.int p6), .val (.int rm), .val (.long wt), .second, .val (.int kp), .val (.long b0), .second, .val (.long b1), .second, .val (.long b2), .second, .val (.long b3), .second, .val (.ref oa), .val (.ref ob), .val (.ref o4), .val (.int (1 : Int32)), .unset, .unset] [(.ref oa), (.long (own_new (own_f b0 b1 b2 b3) rm wt 0))])) _
    refine XS.iconst X0.here hx rfl (hb hby at_159) ?_
    show Steps p.tables e below (T0.setTop (mkF m 160 #[.val (.long q1), .second, .val (.long q2), .second, .val (.long q3), .second, .val (.int p4), .val (.long q5), .second, .val (.int p6), .val (.int rm), .val (.long wt), .second, .val (.int kp), .val (.long b0), .second, .val (.long b1), .second, .val (.long b2), .second, .val (.long b3), .second, .val (.ref oa), .val (.ref ob), .val (.ref o4), .val (.int (1 : Int32)), .unset, .unset] [(.int (0 : Int32)), (.ref oa), (.long (own_new (own_f b0 b1 b2 b3) rm wt 0))])) _
    refine XS.iload X0.here hx rfl (hb hby at_160) rfl ?_
    show Steps p.tables e below (T0.setTop (mkF m 162 #[.val (.long q1), .second, .val (.long q2), .second, .val (.long q3), .second, .val (.int p4), .val (.long q5), .second, .val (.int p6), .val (.int rm), .val (.long wt), .second, .val (.int kp), .val (.long b0), .second, .val (.long b1), .second, .val (.long b2), .second, .val (.long b3), .second, .val (.ref oa), .val (.ref ob), .val (.ref o4), .val (.int (1 : Int32)), .unset, .unset] [(.int rm), (.int (0 : Int32)), (.ref oa), (.long (own_new (own_f b0 b1 b2 b3) rm wt 0))])) _
    refine XS.lload X0.here hx rfl (hb hby at_162) rfl ?_
    show Steps p.tables e below (T0.setTop (mkF m 164 #[.val (.long q1), .second, .val (.long q2), .second, .val (.long q3), .second, .val (.int p4), .val (.long q5), .second, .val (.int p6), .val (.int rm), .val (.long wt), .second, .val (.int kp), .val (.long b0), .second, .val (.long b1), .second, .val (.long b2), .second, .val (.long b3), .second, .val (.ref oa), .val (.ref ob), .val (.ref o4), .val (.int (1 : Int32)), .unset, .unset] [(.long wt), (.int rm), (.int (0 : Int32)), (.ref oa), (.long (own_new (own_f b0 b1 b2 b3) rm wt 0))])) _
    exact k
  obtain ⟨_, _, ⟨T5, L5, k5, n5⟩, -, X5, ⟨Lc5, hQ5, l5, y5, z5⟩, st5⟩ := Jvm.LawKit.callS X0 hx (y := (⟨"com/example/chromabin/chromabin/packing/RoomKnapsackIncludePinLaw", "expect", "([JIIJ)J"⟩ : MethodName)) hown (mvT hZ (hw _ (List.mem_of_getElem? (i := 5) rfl))) (mvT hZ (hw _ (List.mem_of_getElem? (i := 6) rfl))) (mvT hZ (hw _ (List.mem_of_getElem? (i := 7) rfl))) (mvT hZ (hw _ (List.mem_of_getElem? (i := 8) rfl))) (by decide) (backOf (W := 2) (rm2 l Z a0 hw [] oa (0 : Int32) rm wt (own_f b0 b1 b2 b3) 0 h0 n0 Z0 Vo (by decide) (by decide) hr0) hZ (hw _ (List.mem_of_getElem? (i := 8) rfl)) (hw _ (List.mem_of_getElem? (i := 7) rfl)) (by decide) (by decide)) (g := (mkF m 164 #[.val (.long q1), .second, .val (.long q2), .second, .val (.long q3), .second, .val (.int p4), .val (.long q5), .second, .val (.int p6), .val (.int rm), .val (.long wt), .second, .val (.int kp), .val (.long b0), .second, .val (.long b1), .second, .val (.long b2), .second, .val (.long b3), .second, .val (.ref oa), .val (.ref ob), .val (.ref o4), .val (.int (1 : Int32)), .unset, .unset] [(.long wt), (.int rm), (.int (0 : Int32)), (.ref oa), (.long (own_new (own_f b0 b1 b2 b3) rm wt 0))])) rfl (by rw [hml]; rfl) (argsL := [(.ref oa), (.int (0 : Int32)), (.int rm), (.long wt)]) (rest := [(.long (own_new (own_f b0 b1 b2 b3) rm wt 0))]) (lenOf pd_2 rfl) rfl (by show 2 * 0 + _ ≤ _; exact Nat.le_of_eq rfl) (hb hby at_164) (fun _ _ => ⟨rfl, e0, hcl, hsl⟩)
  dsimp only [Pt.U, Pt.locs, Pt.cells, Pt.slots] at X5 l5 y5 z5 st5 hQ5
  subst l5 y5 z5
  obtain ⟨⟨z5, rfl, hz5⟩, N5q, e5⟩ := hQ5
  have N5 := Fr.app N0 N5q
  have Y5 : Stand p l e room_1 s m args below meth c T5 _ _ _ := X5
  have s178 : ∀ t, Steps p.tables e below (T5.setTop (mkF m 178 #[.val (.long q1), .second, .val (.long q2), .second, .val (.long q3), .second, .val (.int p4), .val (.long q5), .second, .val (.int p6), .val (.int rm), .val (.long wt), .second, .val (.int kp), .val (.long b0), .second, .val (.long b1), .second, .val (.long b2), .second, .val (.long b3), .second, .val (.ref oa), .val (.ref ob), .val (.ref o4), .val (.int (1 : Int32)), .unset, .unset] [])) t → Steps p.tables e below (T5.setTop (mkF m 167 #[.val (.long q1), .second, .val (.long q2), .second, .val (.long q3), .second, .val (.int p4), .val (.long q5), .second, .val (.int p6), .val (.int rm), .val (.long wt), .second, .val (.int kp), .val (.long b0), .second, .val (.long b1), .second, .val (.long b2), .second, .val (.long b3), .second, .val (.ref oa), .val (.ref ob), .val (.ref o4), .val (.int (1 : Int32)), .unset, .unset] [(.long z5), (.long (own_new (own_f b0 b1 b2 b3) rm wt 0))])) t := by
    intro t k
    show Steps p.tables e below (T5.setTop (mkF m 167 #[.val (.long q1), .second, .val (.long q2), .second, .val (.long q3), .second, .val (.int p4), .val (.long q5), .second, .val (.int p6), .val (.int rm), .val (.long wt), .second, .val (.int kp), .val (.long b0), .second, .val (.long b1), .second, .val (.long b2), .second, .val (.long b3), .second, .val (.ref oa), .val (.ref ob), .val (.ref o4), .val (.int (1 : Int32)), .unset, .unset] [(.long z5), (.long (own_new (own_f b0 b1 b2 b3) rm wt 0))])) _
    refine XS.lcmp Y5.here hx rfl (hb hby at_167) rfl ?_
    show Steps p.tables e below (T5.setTop (mkF m 168 #[.val (.long q1), .second, .val (.long q2), .second, .val (.long q3), .second, .val (.int p4), .val (.long q5), .second, .val (.int p6), .val (.int rm), .val (.long wt), .second, .val (.int kp), .val (.long b0), .second, .val (.long b1), .second, .val (.long b2), .second, .val (.long b3), .second, .val (.ref oa), .val (.ref ob), .val (.ref o4), .val (.int (1 : Int32)), .unset, .unset] [(.int (lcmpW (own_new (own_f b0 b1 b2 b3) rm wt 0) z5))])) _
    refine XS.ifNo Y5.here hx rfl (hb hby at_168) rfl (own_lc_eq hz5.symm).2 ?_
    show Steps p.tables e below (T5.setTop (mkF m 171 #[.val (.long q1), .second, .val (.long q2), .second, .val (.long q3), .second, .val (.int p4), .val (.long q5), .second, .val (.int p6), .val (.int rm), .val (.long wt), .second, .val (.int kp), .val (.long b0), .second, .val (.long b1), .second, .val (.long b2), .second, .val (.long b3), .second, .val (.ref oa), .val (.ref ob), .val (.ref o4), .val (.int (1 : Int32)), .unset, .unset] [])) _
    refine XS.iconst Y5.here hx rfl (hb hby at_171) ?_
    show Steps p.tables e below (T5.setTop (mkF m 172 #[.val (.long q1), .second, .val (.long q2), .second, .val (.long q3), .second, .val (.int p4), .val (.long q5), .second, .val (.int p6), .val (.int rm), .val (.long wt), .second, .val (.int kp), .val (.long b0), .second, .val (.long b1), .second, .val (.long b2), .second, .val (.long b3), .second, .val (.ref oa), .val (.ref ob), .val (.ref o4), .val (.int (1 : Int32)), .unset, .unset] [(.int (1 : Int32))])) _
    refine XS.goto Y5.here hx rfl (pc0 := 172) (pc' := 176) rfl (hb hby at_172) (by decide) (by decide) ?_
    show Steps p.tables e below (T5.setTop (mkF m 176 #[.val (.long q1), .second, .val (.long q2), .second, .val (.long q3), .second, .val (.int p4), .val (.long q5), .second, .val (.int p6), .val (.int rm), .val (.long wt), .second, .val (.int kp), .val (.long b0), .second, .val (.long b1), .second, .val (.long b2), .second, .val (.long b3), .second, .val (.ref oa), .val (.ref ob), .val (.ref o4), .val (.int (1 : Int32)), .unset, .unset] [(.int (1 : Int32))])) _
    refine XS.istore Y5.here hx rfl (hb hby at_176) rfl (l' := #[.val (.long q1), .second, .val (.long q2), .second, .val (.long q3), .second, .val (.int p4), .val (.long q5), .second, .val (.int p6), .val (.int rm), .val (.long wt), .second, .val (.int kp), .val (.long b0), .second, .val (.long b1), .second, .val (.long b2), .second, .val (.long b3), .second, .val (.ref oa), .val (.ref ob), .val (.ref o4), .val (.int (1 : Int32)), .unset, .unset]) rfl ?_
    show Steps p.tables e below (T5.setTop (mkF m 178 #[.val (.long q1), .second, .val (.long q2), .second, .val (.long q3), .second, .val (.int p4), .val (.long q5), .second, .val (.int p6), .val (.int rm), .val (.long wt), .second, .val (.int kp), .val (.long b0), .second, .val (.long b1), .second, .val (.long b2), .second, .val (.long b3), .second, .val (.ref oa), .val (.ref ob), .val (.ref o4), .val (.int (1 : Int32)), .unset, .unset] [])) _
    exact k
  have s194 : ∀ t, Steps p.tables e below (T5.setTop (mkF m 194 #[.val (.long q1), .second, .val (.long q2), .second, .val (.long q3), .second, .val (.int p4), .val (.long q5), .second, .val (.int p6), .val (.int rm), .val (.long wt), .second, .val (.int kp), .val (.long b0), .second, .val (.long b1), .second, .val (.long b2), .second, .val (.long b3), .second, .val (.ref oa), .val (.ref ob), .val (.ref o4), .val (.int (1 : Int32)), .unset, .unset] [(.long wt), (.int rm), (.int (1 : Int32)), (.ref oa), (.long (own_new (own_f b0 b1 b2 b3) rm wt 1))])) t → Steps p.tables e below (T5.setTop (mkF m 178 #[.val (.long q1), .second, .val (.long q2), .second, .val (.long q3), .second, .val (.int p4), .val (.long q5), .second, .val (.int p6), .val (.int rm), .val (.long wt), .second, .val (.int kp), .val (.long b0), .second, .val (.long b1), .second, .val (.long b2), .second, .val (.long b3), .second, .val (.ref oa), .val (.ref ob), .val (.ref o4), .val (.int (1 : Int32)), .unset, .unset] [])) t := by
    intro t k
    show Steps p.tables e below (T5.setTop (mkF m 178 #[.val (.long q1), .second, .val (.long q2), .second, .val (.long q3), .second, .val (.int p4), .val (.long q5), .second, .val (.int p6), .val (.int rm), .val (.long wt), .second, .val (.int kp), .val (.long b0), .second, .val (.long b1), .second, .val (.long b2), .second, .val (.long b3), .second, .val (.ref oa), .val (.ref ob), .val (.ref o4), .val (.int (1 : Int32)), .unset, .unset] [])) _
    refine XS.iload Y5.here hx rfl (hb hby at_178) rfl ?_
    show Steps p.tables e below (T5.setTop (mkF m 180 #[.val (.long q1), .second, .val (.long q2), .second, .val (.long q3), .second, .val (.int p4), .val (.long q5), .second, .val (.int p6), .val (.int rm), .val (.long wt), .second, .val (.int kp), .val (.long b0), .second, .val (.long b1), .second, .val (.long b2), .second, .val (.long b3), .second, .val (.ref oa), .val (.ref ob), .val (.ref o4), .val (.int (1 : Int32)), .unset, .unset] [(.int (1 : Int32))])) _
    refine XS.ifNo Y5.here hx rfl (hb hby at_180) rfl ((if0 _ _).trans (feq (by decide : ¬ (1 : Int32) = (0 : Int32))).1) ?_
    show Steps p.tables e below (T5.setTop (mkF m 183 #[.val (.long q1), .second, .val (.long q2), .second, .val (.long q3), .second, .val (.int p4), .val (.long q5), .second, .val (.int p6), .val (.int rm), .val (.long wt), .second, .val (.int kp), .val (.long b0), .second, .val (.long b1), .second, .val (.long b2), .second, .val (.long b3), .second, .val (.ref oa), .val (.ref ob), .val (.ref o4), .val (.int (1 : Int32)), .unset, .unset] [])) _
    refine XS.aload Y5.here hx rfl (hb hby at_183) rfl rfl ?_
    show Steps p.tables e below (T5.setTop (mkF m 185 #[.val (.long q1), .second, .val (.long q2), .second, .val (.long q3), .second, .val (.int p4), .val (.long q5), .second, .val (.int p6), .val (.int rm), .val (.long wt), .second, .val (.int kp), .val (.long b0), .second, .val (.long b1), .second, .val (.long b2), .second, .val (.long b3), .second, .val (.ref oa), .val (.ref ob), .val (.ref o4), .val (.int (1 : Int32)), .unset, .unset] [(.ref ob)])) _
    refine XS.iconst Y5.here hx rfl (hb hby at_185) ?_
    show Steps p.tables e below (T5.setTop (mkF m 186 #[.val (.long q1), .second, .val (.long q2), .second, .val (.long q3), .second, .val (.int p4), .val (.long q5), .second, .val (.int p6), .val (.int rm), .val (.long wt), .second, .val (.int kp), .val (.long b0), .second, .val (.long b1), .second, .val (.long b2), .second, .val (.long b3), .second, .val (.ref oa), .val (.ref ob), .val (.ref o4), .val (.int (1 : Int32)), .unset, .unset] [(.int (1 : Int32)), (.ref ob)])) _
    refine Y5.laload hx (j := (1 : Int32)) (v := (.long (own_new (own_f b0 b1 b2 b3) rm wt 1))) (by rw [e5]; exact Ab.1) (State.isArrayOf_alike hZ.alike Ab.2.1) Ab.2.2 (own_in (i := 1) (by decide) Sb (by decide)) (own_at (i := 1) (by decide) Hb (by decide)) (g := (mkF m 186 #[.val (.long q1), .second, .val (.long q2), .second, .val (.long q3), .second, .val (.int p4), .val (.long q5), .second, .val (.int p6), .val (.int rm), .val (.long wt), .second, .val (.int kp), .val (.long b0), .second, .val (.long b1), .second, .val (.long b2), .second, .val (.long b3), .second, .val (.ref oa), .val (.ref ob), .val (.ref o4), .val (.int (1 : Int32)), .unset, .unset] [(.int (1 : Int32)), (.ref ob)])) rfl rfl (hb hby at_186) _ ?_
    show Steps p.tables e below (T5.setTop (mkF m 187 #[.val (.long q1), .second, .val (.long q2), .second, .val (.long q3), .second, .val (.int p4), .val (.long q5), .second, .val (.int p6), .val (.int rm), .val (.long wt), .second, .val (.int kp), .val (.long b0), .second, .val (.long b1), .second, .val (.long b2), .second, .val (.long b3), .second, .val (.ref oa), .val (.ref ob), .val (.ref o4), .val (.int (1 : Int32)), .unset, .unset] [(.long (own_new (own_f b0 b1 b2 b3) rm wt 1))])) _
    refine XS.aload Y5.here hx rfl (hb hby at_187) rfl rfl ?_
    show Steps p.tables e below (T5.setTop (mkF m 189 #[.val (.long q1), .second, .val (.long q2), .second, .val (.long q3), .second, .val (.int p4), .val (.long q5), .second, .val (.int p6), .val (.int rm), .val (.long wt), .second, .val (.int kp), .val (.long b0), .second, .val (.long b1), .second, .val (.long b2), .second, .val (.long b3), .second, .val (.ref oa), .val (.ref ob), .val (.ref o4), .val (.int (1 : Int32)), .unset, .unset] [(.ref oa), (.long (own_new (own_f b0 b1 b2 b3) rm wt 1))])) _
    refine XS.iconst Y5.here hx rfl (hb hby at_189) ?_
    show Steps p.tables e below (T5.setTop (mkF m 190 #[.val (.long q1), .second, .val (.long q2), .second, .val (.long q3), .second, .val (.int p4), .val (.long q5), .second, .val (.int p6), .val (.int rm), .val (.long wt), .second, .val (.int kp), .val (.long b0), .second, .val (.long b1), .second, .val (.long b2), .second, .val (.long b3), .second, .val (.ref oa), .val (.ref ob), .val (.ref o4), .val (.int (1 : Int32)), .unset, .unset] [(.int (1 : Int32)), (.ref oa), (.long (own_new (own_f b0 b1 b2 b3) rm wt 1))])) _
    refine XS.iload Y5.here hx rfl (hb hby at_190) rfl ?_
    show Steps p.tables e below (T5.setTop (mkF m 192 #[.val (.long q1), .second, .val (.long q2), .second, .val (.long q3), .second, .val (.int p4), .val (.long q5), .second, .val (.int p6), .val (.int rm), .val (.long wt), .second, .val (.int kp), .val (.long b0), .second, .val (.long b1), .second, .val (.long b2), .second, .val (.long b3), .second, .val (.ref oa), .val (.ref ob), .val (.ref o4), .val (.int (1 : Int32)), .unset, .unset] [(.int rm), (.int (1 : Int32)), (.ref oa), (.long (own_new (own_f b0 b1 b2 b3) rm wt 1))])) _
    refine XS.lload Y5.here hx rfl (hb hby at_192) rfl ?_
    show Steps p.tables e below (T5.setTop (mkF m 194 #[.val (.long q1), .second, .val (.long q2), .second, .val (.long q3), .second, .val (.int p4), .val (.long q5), .second, .val (.int p6), .val (.int rm), .val (.long wt), .second, .val (.int kp), .val (.long b0), .second, .val (.long b1), .second, .val (.long b2), .second, .val (.long b3), .second, .val (.ref oa), .val (.ref ob), .val (.ref o4), .val (.int (1 : Int32)), .unset, .unset] [(.long wt), (.int rm), (.int (1 : Int32)), (.ref oa), (.long (own_new (own_f b0 b1 b2 b3) rm wt 1))])) _
    exact k
  obtain ⟨_, _, ⟨T6, L6, k6, n6⟩, -, X6, ⟨Lc6, hQ6, l6, y6, z6⟩, st6⟩ := Jvm.LawKit.callS Y5 hx (y := (⟨"com/example/chromabin/chromabin/packing/RoomKnapsackIncludePinLaw", "expect", "([JIIJ)J"⟩ : MethodName)) hown (mvT hZ (hw _ (List.mem_of_getElem? (i := 5) rfl))) (mvT hZ (hw _ (List.mem_of_getElem? (i := 6) rfl))) (mvT hZ (hw _ (List.mem_of_getElem? (i := 7) rfl))) (mvT hZ (hw _ (List.mem_of_getElem? (i := 8) rfl))) (by decide) (backOf (W := 2) (rm2 l Z a0 hw [] oa (1 : Int32) rm wt (own_f b0 b1 b2 b3) 1 h0 n0 Z0 Vo (by decide) (by decide) hr0) hZ (hw _ (List.mem_of_getElem? (i := 8) rfl)) (hw _ (List.mem_of_getElem? (i := 7) rfl)) (by decide) (by decide)) (g := (mkF m 194 #[.val (.long q1), .second, .val (.long q2), .second, .val (.long q3), .second, .val (.int p4), .val (.long q5), .second, .val (.int p6), .val (.int rm), .val (.long wt), .second, .val (.int kp), .val (.long b0), .second, .val (.long b1), .second, .val (.long b2), .second, .val (.long b3), .second, .val (.ref oa), .val (.ref ob), .val (.ref o4), .val (.int (1 : Int32)), .unset, .unset] [(.long wt), (.int rm), (.int (1 : Int32)), (.ref oa), (.long (own_new (own_f b0 b1 b2 b3) rm wt 1))])) rfl (by rw [hml]; rfl) (argsL := [(.ref oa), (.int (1 : Int32)), (.int rm), (.long wt)]) (rest := [(.long (own_new (own_f b0 b1 b2 b3) rm wt 1))]) (lenOf pd_2 rfl) rfl (by show 2 * 0 + _ ≤ _; exact Nat.le_of_eq rfl) (hb hby at_194) (fun _ _ => ⟨rfl, e5, hcl, hsl⟩)
  dsimp only [Pt.U, Pt.locs, Pt.cells, Pt.slots] at X6 l6 y6 z6 st6 hQ6
  subst l6 y6 z6
  obtain ⟨⟨z6, rfl, hz6⟩, N6q, e6⟩ := hQ6
  have N6 := Fr.app N5 N6q
  have Y6 : Stand p l e room_1 s m args below meth c T6 _ _ _ := X6
  have s208 : ∀ t, Steps p.tables e below (T6.setTop (mkF m 208 #[.val (.long q1), .second, .val (.long q2), .second, .val (.long q3), .second, .val (.int p4), .val (.long q5), .second, .val (.int p6), .val (.int rm), .val (.long wt), .second, .val (.int kp), .val (.long b0), .second, .val (.long b1), .second, .val (.long b2), .second, .val (.long b3), .second, .val (.ref oa), .val (.ref ob), .val (.ref o4), .val (.int (1 : Int32)), .unset, .unset] [])) t → Steps p.tables e below (T6.setTop (mkF m 197 #[.val (.long q1), .second, .val (.long q2), .second, .val (.long q3), .second, .val (.int p4), .val (.long q5), .second, .val (.int p6), .val (.int rm), .val (.long wt), .second, .val (.int kp), .val (.long b0), .second, .val (.long b1), .second, .val (.long b2), .second, .val (.long b3), .second, .val (.ref oa), .val (.ref ob), .val (.ref o4), .val (.int (1 : Int32)), .unset, .unset] [(.long z6), (.long (own_new (own_f b0 b1 b2 b3) rm wt 1))])) t := by
    intro t k
    show Steps p.tables e below (T6.setTop (mkF m 197 #[.val (.long q1), .second, .val (.long q2), .second, .val (.long q3), .second, .val (.int p4), .val (.long q5), .second, .val (.int p6), .val (.int rm), .val (.long wt), .second, .val (.int kp), .val (.long b0), .second, .val (.long b1), .second, .val (.long b2), .second, .val (.long b3), .second, .val (.ref oa), .val (.ref ob), .val (.ref o4), .val (.int (1 : Int32)), .unset, .unset] [(.long z6), (.long (own_new (own_f b0 b1 b2 b3) rm wt 1))])) _
    refine XS.lcmp Y6.here hx rfl (hb hby at_197) rfl ?_
    show Steps p.tables e below (T6.setTop (mkF m 198 #[.val (.long q1), .second, .val (.long q2), .second, .val (.long q3), .second, .val (.int p4), .val (.long q5), .second, .val (.int p6), .val (.int rm), .val (.long wt), .second, .val (.int kp), .val (.long b0), .second, .val (.long b1), .second, .val (.long b2), .second, .val (.long b3), .second, .val (.ref oa), .val (.ref ob), .val (.ref o4), .val (.int (1 : Int32)), .unset, .unset] [(.int (lcmpW (own_new (own_f b0 b1 b2 b3) rm wt 1) z6))])) _
    refine XS.ifNo Y6.here hx rfl (hb hby at_198) rfl (own_lc_eq hz6.symm).2 ?_
    show Steps p.tables e below (T6.setTop (mkF m 201 #[.val (.long q1), .second, .val (.long q2), .second, .val (.long q3), .second, .val (.int p4), .val (.long q5), .second, .val (.int p6), .val (.int rm), .val (.long wt), .second, .val (.int kp), .val (.long b0), .second, .val (.long b1), .second, .val (.long b2), .second, .val (.long b3), .second, .val (.ref oa), .val (.ref ob), .val (.ref o4), .val (.int (1 : Int32)), .unset, .unset] [])) _
    refine XS.iconst Y6.here hx rfl (hb hby at_201) ?_
    show Steps p.tables e below (T6.setTop (mkF m 202 #[.val (.long q1), .second, .val (.long q2), .second, .val (.long q3), .second, .val (.int p4), .val (.long q5), .second, .val (.int p6), .val (.int rm), .val (.long wt), .second, .val (.int kp), .val (.long b0), .second, .val (.long b1), .second, .val (.long b2), .second, .val (.long b3), .second, .val (.ref oa), .val (.ref ob), .val (.ref o4), .val (.int (1 : Int32)), .unset, .unset] [(.int (1 : Int32))])) _
    refine XS.goto Y6.here hx rfl (pc0 := 202) (pc' := 206) rfl (hb hby at_202) (by decide) (by decide) ?_
    show Steps p.tables e below (T6.setTop (mkF m 206 #[.val (.long q1), .second, .val (.long q2), .second, .val (.long q3), .second, .val (.int p4), .val (.long q5), .second, .val (.int p6), .val (.int rm), .val (.long wt), .second, .val (.int kp), .val (.long b0), .second, .val (.long b1), .second, .val (.long b2), .second, .val (.long b3), .second, .val (.ref oa), .val (.ref ob), .val (.ref o4), .val (.int (1 : Int32)), .unset, .unset] [(.int (1 : Int32))])) _
    refine XS.istore Y6.here hx rfl (hb hby at_206) rfl (l' := #[.val (.long q1), .second, .val (.long q2), .second, .val (.long q3), .second, .val (.int p4), .val (.long q5), .second, .val (.int p6), .val (.int rm), .val (.long wt), .second, .val (.int kp), .val (.long b0), .second, .val (.long b1), .second, .val (.long b2), .second, .val (.long b3), .second, .val (.ref oa), .val (.ref ob), .val (.ref o4), .val (.int (1 : Int32)), .unset, .unset]) rfl ?_
    show Steps p.tables e below (T6.setTop (mkF m 208 #[.val (.long q1), .second, .val (.long q2), .second, .val (.long q3), .second, .val (.int p4), .val (.long q5), .second, .val (.int p6), .val (.int rm), .val (.long wt), .second, .val (.int kp), .val (.long b0), .second, .val (.long b1), .second, .val (.long b2), .second, .val (.long b3), .second, .val (.ref oa), .val (.ref ob), .val (.ref o4), .val (.int (1 : Int32)), .unset, .unset] [])) _
    exact k
  have s224 : ∀ t, Steps p.tables e below (T6.setTop (mkF m 224 #[.val (.long q1), .second, .val (.long q2), .second, .val (.long q3), .second, .val (.int p4), .val (.long q5), .second, .val (.int p6), .val (.int rm), .val (.long wt), .second, .val (.int kp), .val (.long b0), .second, .val (.long b1), .second, .val (.long b2), .second, .val (.long b3), .second, .val (.ref oa), .val (.ref ob), .val (.ref o4), .val (.int (1 : Int32)), .unset, .unset] [(.long wt), (.int rm), (.int (2 : Int32)), (.ref oa), (.long (own_new (own_f b0 b1 b2 b3) rm wt 2))])) t → Steps p.tables e below (T6.setTop (mkF m 208 #[.val (.long q1), .second, .val (.long q2), .second, .val (.long q3), .second, .val (.int p4), .val (.long q5), .second, .val (.int p6), .val (.int rm), .val (.long wt), .second, .val (.int kp), .val (.long b0), .second, .val (.long b1), .second, .val (.long b2), .second, .val (.long b3), .second, .val (.ref oa), .val (.ref ob), .val (.ref o4), .val (.int (1 : Int32)), .unset, .unset] [])) t := by
    intro t k
    show Steps p.tables e below (T6.setTop (mkF m 208 #[.val (.long q1), .second, .val (.long q2), .second, .val (.long q3), .second, .val (.int p4), .val (.long q5), .second, .val (.int p6), .val (.int rm), .val (.long wt), .second, .val (.int kp), .val (.long b0), .second, .val (.long b1), .second, .val (.long b2), .second, .val (.long b3), .second, .val (.ref oa), .val (.ref ob), .val (.ref o4), .val (.int (1 : Int32)), .unset, .unset] [])) _
    refine XS.iload Y6.here hx rfl (hb hby at_208) rfl ?_
    show Steps p.tables e below (T6.setTop (mkF m 210 #[.val (.long q1), .second, .val (.long q2), .second, .val (.long q3), .second, .val (.int p4), .val (.long q5), .second, .val (.int p6), .val (.int rm), .val (.long wt), .second, .val (.int kp), .val (.long b0), .second, .val (.long b1), .second, .val (.long b2), .second, .val (.long b3), .second, .val (.ref oa), .val (.ref ob), .val (.ref o4), .val (.int (1 : Int32)), .unset, .unset] [(.int (1 : Int32))])) _
    refine XS.ifNo Y6.here hx rfl (hb hby at_210) rfl ((if0 _ _).trans (feq (by decide : ¬ (1 : Int32) = (0 : Int32))).1) ?_
    show Steps p.tables e below (T6.setTop (mkF m 213 #[.val (.long q1), .second, .val (.long q2), .second, .val (.long q3), .second, .val (.int p4), .val (.long q5), .second, .val (.int p6), .val (.int rm), .val (.long wt), .second, .val (.int kp), .val (.long b0), .second, .val (.long b1), .second, .val (.long b2), .second, .val (.long b3), .second, .val (.ref oa), .val (.ref ob), .val (.ref o4), .val (.int (1 : Int32)), .unset, .unset] [])) _
    refine XS.aload Y6.here hx rfl (hb hby at_213) rfl rfl ?_
    show Steps p.tables e below (T6.setTop (mkF m 215 #[.val (.long q1), .second, .val (.long q2), .second, .val (.long q3), .second, .val (.int p4), .val (.long q5), .second, .val (.int p6), .val (.int rm), .val (.long wt), .second, .val (.int kp), .val (.long b0), .second, .val (.long b1), .second, .val (.long b2), .second, .val (.long b3), .second, .val (.ref oa), .val (.ref ob), .val (.ref o4), .val (.int (1 : Int32)), .unset, .unset] [(.ref ob)])) _
    refine XS.iconst Y6.here hx rfl (hb hby at_215) ?_
    show Steps p.tables e below (T6.setTop (mkF m 216 #[.val (.long q1), .second, .val (.long q2), .second, .val (.long q3), .second, .val (.int p4), .val (.long q5), .second, .val (.int p6), .val (.int rm), .val (.long wt), .second, .val (.int kp), .val (.long b0), .second, .val (.long b1), .second, .val (.long b2), .second, .val (.long b3), .second, .val (.ref oa), .val (.ref ob), .val (.ref o4), .val (.int (1 : Int32)), .unset, .unset] [(.int (2 : Int32)), (.ref ob)])) _
    refine Y6.laload hx (j := (2 : Int32)) (v := (.long (own_new (own_f b0 b1 b2 b3) rm wt 2))) (by rw [e6]; exact Ab.1) (State.isArrayOf_alike hZ.alike Ab.2.1) Ab.2.2 (own_in (i := 2) (by decide) Sb (by decide)) (own_at (i := 2) (by decide) Hb (by decide)) (g := (mkF m 216 #[.val (.long q1), .second, .val (.long q2), .second, .val (.long q3), .second, .val (.int p4), .val (.long q5), .second, .val (.int p6), .val (.int rm), .val (.long wt), .second, .val (.int kp), .val (.long b0), .second, .val (.long b1), .second, .val (.long b2), .second, .val (.long b3), .second, .val (.ref oa), .val (.ref ob), .val (.ref o4), .val (.int (1 : Int32)), .unset, .unset] [(.int (2 : Int32)), (.ref ob)])) rfl rfl (hb hby at_216) _ ?_
    show Steps p.tables e below (T6.setTop (mkF m 217 #[.val (.long q1), .second, .val (.long q2), .second, .val (.long q3), .second, .val (.int p4), .val (.long q5), .second, .val (.int p6), .val (.int rm), .val (.long wt), .second, .val (.int kp), .val (.long b0), .second, .val (.long b1), .second, .val (.long b2), .second, .val (.long b3), .second, .val (.ref oa), .val (.ref ob), .val (.ref o4), .val (.int (1 : Int32)), .unset, .unset] [(.long (own_new (own_f b0 b1 b2 b3) rm wt 2))])) _
    refine XS.aload Y6.here hx rfl (hb hby at_217) rfl rfl ?_
    show Steps p.tables e below (T6.setTop (mkF m 219 #[.val (.long q1), .second, .val (.long q2), .second, .val (.long q3), .second, .val (.int p4), .val (.long q5), .second, .val (.int p6), .val (.int rm), .val (.long wt), .second, .val (.int kp), .val (.long b0), .second, .val (.long b1), .second, .val (.long b2), .second, .val (.long b3), .second, .val (.ref oa), .val (.ref ob), .val (.ref o4), .val (.int (1 : Int32)), .unset, .unset] [(.ref oa), (.long (own_new (own_f b0 b1 b2 b3) rm wt 2))])) _
    refine XS.iconst Y6.here hx rfl (hb hby at_219) ?_
    show Steps p.tables e below (T6.setTop (mkF m 220 #[.val (.long q1), .second, .val (.long q2), .second, .val (.long q3), .second, .val (.int p4), .val (.long q5), .second, .val (.int p6), .val (.int rm), .val (.long wt), .second, .val (.int kp), .val (.long b0), .second, .val (.long b1), .second, .val (.long b2), .second, .val (.long b3), .second, .val (.ref oa), .val (.ref ob), .val (.ref o4), .val (.int (1 : Int32)), .unset, .unset] [(.int (2 : Int32)), (.ref oa), (.long (own_new (own_f b0 b1 b2 b3) rm wt 2))])) _
    refine XS.iload Y6.here hx rfl (hb hby at_220) rfl ?_
    show Steps p.tables e below (T6.setTop (mkF m 222 #[.val (.long q1), .second, .val (.long q2), .second, .val (.long q3), .second, .val (.int p4), .val (.long q5), .second, .val (.int p6), .val (.int rm), .val (.long wt), .second, .val (.int kp), .val (.long b0), .second, .val (.long b1), .second, .val (.long b2), .second, .val (.long b3), .second, .val (.ref oa), .val (.ref ob), .val (.ref o4), .val (.int (1 : Int32)), .unset, .unset] [(.int rm), (.int (2 : Int32)), (.ref oa), (.long (own_new (own_f b0 b1 b2 b3) rm wt 2))])) _
    refine XS.lload Y6.here hx rfl (hb hby at_222) rfl ?_
    show Steps p.tables e below (T6.setTop (mkF m 224 #[.val (.long q1), .second, .val (.long q2), .second, .val (.long q3), .second, .val (.int p4), .val (.long q5), .second, .val (.int p6), .val (.int rm), .val (.long wt), .second, .val (.int kp), .val (.long b0), .second, .val (.long b1), .second, .val (.long b2), .second, .val (.long b3), .second, .val (.ref oa), .val (.ref ob), .val (.ref o4), .val (.int (1 : Int32)), .unset, .unset] [(.long wt), (.int rm), (.int (2 : Int32)), (.ref oa), (.long (own_new (own_f b0 b1 b2 b3) rm wt 2))])) _
    exact k
  obtain ⟨_, _, ⟨T7, L7, k7, n7⟩, -, X7, ⟨Lc7, hQ7, l7, y7, z7⟩, st7⟩ := Jvm.LawKit.callS Y6 hx (y := (⟨"com/example/chromabin/chromabin/packing/RoomKnapsackIncludePinLaw", "expect", "([JIIJ)J"⟩ : MethodName)) hown (mvT hZ (hw _ (List.mem_of_getElem? (i := 5) rfl))) (mvT hZ (hw _ (List.mem_of_getElem? (i := 6) rfl))) (mvT hZ (hw _ (List.mem_of_getElem? (i := 7) rfl))) (mvT hZ (hw _ (List.mem_of_getElem? (i := 8) rfl))) (by decide) (backOf (W := 2) (rm2 l Z a0 hw [] oa (2 : Int32) rm wt (own_f b0 b1 b2 b3) 2 h0 n0 Z0 Vo (by decide) (by decide) hr0) hZ (hw _ (List.mem_of_getElem? (i := 8) rfl)) (hw _ (List.mem_of_getElem? (i := 7) rfl)) (by decide) (by decide)) (g := (mkF m 224 #[.val (.long q1), .second, .val (.long q2), .second, .val (.long q3), .second, .val (.int p4), .val (.long q5), .second, .val (.int p6), .val (.int rm), .val (.long wt), .second, .val (.int kp), .val (.long b0), .second, .val (.long b1), .second, .val (.long b2), .second, .val (.long b3), .second, .val (.ref oa), .val (.ref ob), .val (.ref o4), .val (.int (1 : Int32)), .unset, .unset] [(.long wt), (.int rm), (.int (2 : Int32)), (.ref oa), (.long (own_new (own_f b0 b1 b2 b3) rm wt 2))])) rfl (by rw [hml]; rfl) (argsL := [(.ref oa), (.int (2 : Int32)), (.int rm), (.long wt)]) (rest := [(.long (own_new (own_f b0 b1 b2 b3) rm wt 2))]) (lenOf pd_2 rfl) rfl (by show 2 * 0 + _ ≤ _; exact Nat.le_of_eq rfl) (hb hby at_224) (fun _ _ => ⟨rfl, e6, hcl, hsl⟩)
  dsimp only [Pt.U, Pt.locs, Pt.cells, Pt.slots] at X7 l7 y7 z7 st7 hQ7
  subst l7 y7 z7
  obtain ⟨⟨z7, rfl, hz7⟩, N7q, e7⟩ := hQ7
  have N7 := Fr.app N6 N7q
  have Y7 : Stand p l e room_1 s m args below meth c T7 _ _ _ := X7
  have s238 : ∀ t, Steps p.tables e below (T7.setTop (mkF m 238 #[.val (.long q1), .second, .val (.long q2), .second, .val (.long q3), .second, .val (.int p4), .val (.long q5), .second, .val (.int p6), .val (.int rm), .val (.long wt), .second, .val (.int kp), .val (.long b0), .second, .val (.long b1), .second, .val (.long b2), .second, .val (.long b3), .second, .val (.ref oa), .val (.ref ob), .val (.ref o4), .val (.int (1 : Int32)), .unset, .unset] [])) t → Steps p.tables e below (T7.setTop (mkF m 227 #[.val (.long q1), .second, .val (.long q2), .second, .val (.long q3), .second, .val (.int p4), .val (.long q5), .second, .val (.int p6), .val (.int rm), .val (.long wt), .second, .val (.int kp), .val (.long b0), .second, .val (.long b1), .second, .val (.long b2), .second, .val (.long b3), .second, .val (.ref oa), .val (.ref ob), .val (.ref o4), .val (.int (1 : Int32)), .unset, .unset] [(.long z7), (.long (own_new (own_f b0 b1 b2 b3) rm wt 2))])) t := by
    intro t k
    show Steps p.tables e below (T7.setTop (mkF m 227 #[.val (.long q1), .second, .val (.long q2), .second, .val (.long q3), .second, .val (.int p4), .val (.long q5), .second, .val (.int p6), .val (.int rm), .val (.long wt), .second, .val (.int kp), .val (.long b0), .second, .val (.long b1), .second, .val (.long b2), .second, .val (.long b3), .second, .val (.ref oa), .val (.ref ob), .val (.ref o4), .val (.int (1 : Int32)), .unset, .unset] [(.long z7), (.long (own_new (own_f b0 b1 b2 b3) rm wt 2))])) _
    refine XS.lcmp Y7.here hx rfl (hb hby at_227) rfl ?_
    show Steps p.tables e below (T7.setTop (mkF m 228 #[.val (.long q1), .second, .val (.long q2), .second, .val (.long q3), .second, .val (.int p4), .val (.long q5), .second, .val (.int p6), .val (.int rm), .val (.long wt), .second, .val (.int kp), .val (.long b0), .second, .val (.long b1), .second, .val (.long b2), .second, .val (.long b3), .second, .val (.ref oa), .val (.ref ob), .val (.ref o4), .val (.int (1 : Int32)), .unset, .unset] [(.int (lcmpW (own_new (own_f b0 b1 b2 b3) rm wt 2) z7))])) _
    refine XS.ifNo Y7.here hx rfl (hb hby at_228) rfl (own_lc_eq hz7.symm).2 ?_
    show Steps p.tables e below (T7.setTop (mkF m 231 #[.val (.long q1), .second, .val (.long q2), .second, .val (.long q3), .second, .val (.int p4), .val (.long q5), .second, .val (.int p6), .val (.int rm), .val (.long wt), .second, .val (.int kp), .val (.long b0), .second, .val (.long b1), .second, .val (.long b2), .second, .val (.long b3), .second, .val (.ref oa), .val (.ref ob), .val (.ref o4), .val (.int (1 : Int32)), .unset, .unset] [])) _
    refine XS.iconst Y7.here hx rfl (hb hby at_231) ?_
    show Steps p.tables e below (T7.setTop (mkF m 232 #[.val (.long q1), .second, .val (.long q2), .second, .val (.long q3), .second, .val (.int p4), .val (.long q5), .second, .val (.int p6), .val (.int rm), .val (.long wt), .second, .val (.int kp), .val (.long b0), .second, .val (.long b1), .second, .val (.long b2), .second, .val (.long b3), .second, .val (.ref oa), .val (.ref ob), .val (.ref o4), .val (.int (1 : Int32)), .unset, .unset] [(.int (1 : Int32))])) _
    refine XS.goto Y7.here hx rfl (pc0 := 232) (pc' := 236) rfl (hb hby at_232) (by decide) (by decide) ?_
    show Steps p.tables e below (T7.setTop (mkF m 236 #[.val (.long q1), .second, .val (.long q2), .second, .val (.long q3), .second, .val (.int p4), .val (.long q5), .second, .val (.int p6), .val (.int rm), .val (.long wt), .second, .val (.int kp), .val (.long b0), .second, .val (.long b1), .second, .val (.long b2), .second, .val (.long b3), .second, .val (.ref oa), .val (.ref ob), .val (.ref o4), .val (.int (1 : Int32)), .unset, .unset] [(.int (1 : Int32))])) _
    refine XS.istore Y7.here hx rfl (hb hby at_236) rfl (l' := #[.val (.long q1), .second, .val (.long q2), .second, .val (.long q3), .second, .val (.int p4), .val (.long q5), .second, .val (.int p6), .val (.int rm), .val (.long wt), .second, .val (.int kp), .val (.long b0), .second, .val (.long b1), .second, .val (.long b2), .second, .val (.long b3), .second, .val (.ref oa), .val (.ref ob), .val (.ref o4), .val (.int (1 : Int32)), .unset, .unset]) rfl ?_
    show Steps p.tables e below (T7.setTop (mkF m 238 #[.val (.long q1), .second, .val (.long q2), .second, .val (.long q3), .second, .val (.int p4), .val (.long q5), .second, .val (.int p6), .val (.int rm), .val (.long wt), .second, .val (.int kp), .val (.long b0), .second, .val (.long b1), .second, .val (.long b2), .second, .val (.long b3), .second, .val (.ref oa), .val (.ref ob), .val (.ref o4), .val (.int (1 : Int32)), .unset, .unset] [])) _
    exact k
  have s254 : ∀ t, Steps p.tables e below (T7.setTop (mkF m 254 #[.val (.long q1), .second, .val (.long q2), .second, .val (.long q3), .second, .val (.int p4), .val (.long q5), .second, .val (.int p6), .val (.int rm), .val (.long wt), .second, .val (.int kp), .val (.long b0), .second, .val (.long b1), .second, .val (.long b2), .second, .val (.long b3), .second, .val (.ref oa), .val (.ref ob), .val (.ref o4), .val (.int (1 : Int32)), .unset, .unset] [(.long wt), (.int rm), (.int (3 : Int32)), (.ref oa), (.long (own_new (own_f b0 b1 b2 b3) rm wt 3))])) t → Steps p.tables e below (T7.setTop (mkF m 238 #[.val (.long q1), .second, .val (.long q2), .second, .val (.long q3), .second, .val (.int p4), .val (.long q5), .second, .val (.int p6), .val (.int rm), .val (.long wt), .second, .val (.int kp), .val (.long b0), .second, .val (.long b1), .second, .val (.long b2), .second, .val (.long b3), .second, .val (.ref oa), .val (.ref ob), .val (.ref o4), .val (.int (1 : Int32)), .unset, .unset] [])) t := by
    intro t k
    show Steps p.tables e below (T7.setTop (mkF m 238 #[.val (.long q1), .second, .val (.long q2), .second, .val (.long q3), .second, .val (.int p4), .val (.long q5), .second, .val (.int p6), .val (.int rm), .val (.long wt), .second, .val (.int kp), .val (.long b0), .second, .val (.long b1), .second, .val (.long b2), .second, .val (.long b3), .second, .val (.ref oa), .val (.ref ob), .val (.ref o4), .val (.int (1 : Int32)), .unset, .unset] [])) _
    refine XS.iload Y7.here hx rfl (hb hby at_238) rfl ?_
    show Steps p.tables e below (T7.setTop (mkF m 240 #[.val (.long q1), .second, .val (.long q2), .second, .val (.long q3), .second, .val (.int p4), .val (.long q5), .second, .val (.int p6), .val (.int rm), .val (.long wt), .second, .val (.int kp), .val (.long b0), .second, .val (.long b1), .second, .val (.long b2), .second, .val (.long b3), .second, .val (.ref oa), .val (.ref ob), .val (.ref o4), .val (.int (1 : Int32)), .unset, .unset] [(.int (1 : Int32))])) _
    refine XS.ifNo Y7.here hx rfl (hb hby at_240) rfl ((if0 _ _).trans (feq (by decide : ¬ (1 : Int32) = (0 : Int32))).1) ?_
    show Steps p.tables e below (T7.setTop (mkF m 243 #[.val (.long q1), .second, .val (.long q2), .second, .val (.long q3), .second, .val (.int p4), .val (.long q5), .second, .val (.int p6), .val (.int rm), .val (.long wt), .second, .val (.int kp), .val (.long b0), .second, .val (.long b1), .second, .val (.long b2), .second, .val (.long b3), .second, .val (.ref oa), .val (.ref ob), .val (.ref o4), .val (.int (1 : Int32)), .unset, .unset] [])) _
    refine XS.aload Y7.here hx rfl (hb hby at_243) rfl rfl ?_
    show Steps p.tables e below (T7.setTop (mkF m 245 #[.val (.long q1), .second, .val (.long q2), .second, .val (.long q3), .second, .val (.int p4), .val (.long q5), .second, .val (.int p6), .val (.int rm), .val (.long wt), .second, .val (.int kp), .val (.long b0), .second, .val (.long b1), .second, .val (.long b2), .second, .val (.long b3), .second, .val (.ref oa), .val (.ref ob), .val (.ref o4), .val (.int (1 : Int32)), .unset, .unset] [(.ref ob)])) _
    refine XS.iconst Y7.here hx rfl (hb hby at_245) ?_
    show Steps p.tables e below (T7.setTop (mkF m 246 #[.val (.long q1), .second, .val (.long q2), .second, .val (.long q3), .second, .val (.int p4), .val (.long q5), .second, .val (.int p6), .val (.int rm), .val (.long wt), .second, .val (.int kp), .val (.long b0), .second, .val (.long b1), .second, .val (.long b2), .second, .val (.long b3), .second, .val (.ref oa), .val (.ref ob), .val (.ref o4), .val (.int (1 : Int32)), .unset, .unset] [(.int (3 : Int32)), (.ref ob)])) _
    refine Y7.laload hx (j := (3 : Int32)) (v := (.long (own_new (own_f b0 b1 b2 b3) rm wt 3))) (by rw [e7]; exact Ab.1) (State.isArrayOf_alike hZ.alike Ab.2.1) Ab.2.2 (own_in (i := 3) (by decide) Sb (by decide)) (own_at (i := 3) (by decide) Hb (by decide)) (g := (mkF m 246 #[.val (.long q1), .second, .val (.long q2), .second, .val (.long q3), .second, .val (.int p4), .val (.long q5), .second, .val (.int p6), .val (.int rm), .val (.long wt), .second, .val (.int kp), .val (.long b0), .second, .val (.long b1), .second, .val (.long b2), .second, .val (.long b3), .second, .val (.ref oa), .val (.ref ob), .val (.ref o4), .val (.int (1 : Int32)), .unset, .unset] [(.int (3 : Int32)), (.ref ob)])) rfl rfl (hb hby at_246) _ ?_
    show Steps p.tables e below (T7.setTop (mkF m 247 #[.val (.long q1), .second, .val (.long q2), .second, .val (.long q3), .second, .val (.int p4), .val (.long q5), .second, .val (.int p6), .val (.int rm), .val (.long wt), .second, .val (.int kp), .val (.long b0), .second, .val (.long b1), .second, .val (.long b2), .second, .val (.long b3), .second, .val (.ref oa), .val (.ref ob), .val (.ref o4), .val (.int (1 : Int32)), .unset, .unset] [(.long (own_new (own_f b0 b1 b2 b3) rm wt 3))])) _
    refine XS.aload Y7.here hx rfl (hb hby at_247) rfl rfl ?_
    show Steps p.tables e below (T7.setTop (mkF m 249 #[.val (.long q1), .second, .val (.long q2), .second, .val (.long q3), .second, .val (.int p4), .val (.long q5), .second, .val (.int p6), .val (.int rm), .val (.long wt), .second, .val (.int kp), .val (.long b0), .second, .val (.long b1), .second, .val (.long b2), .second, .val (.long b3), .second, .val (.ref oa), .val (.ref ob), .val (.ref o4), .val (.int (1 : Int32)), .unset, .unset] [(.ref oa), (.long (own_new (own_f b0 b1 b2 b3) rm wt 3))])) _
    refine XS.iconst Y7.here hx rfl (hb hby at_249) ?_
    show Steps p.tables e below (T7.setTop (mkF m 250 #[.val (.long q1), .second, .val (.long q2), .second, .val (.long q3), .second, .val (.int p4), .val (.long q5), .second, .val (.int p6), .val (.int rm), .val (.long wt), .second, .val (.int kp), .val (.long b0), .second, .val (.long b1), .second, .val (.long b2), .second, .val (.long b3), .second, .val (.ref oa), .val (.ref ob), .val (.ref o4), .val (.int (1 : Int32)), .unset, .unset] [(.int (3 : Int32)), (.ref oa), (.long (own_new (own_f b0 b1 b2 b3) rm wt 3))])) _
    refine XS.iload Y7.here hx rfl (hb hby at_250) rfl ?_
    show Steps p.tables e below (T7.setTop (mkF m 252 #[.val (.long q1), .second, .val (.long q2), .second, .val (.long q3), .second, .val (.int p4), .val (.long q5), .second, .val (.int p6), .val (.int rm), .val (.long wt), .second, .val (.int kp), .val (.long b0), .second, .val (.long b1), .second, .val (.long b2), .second, .val (.long b3), .second, .val (.ref oa), .val (.ref ob), .val (.ref o4), .val (.int (1 : Int32)), .unset, .unset] [(.int rm), (.int (3 : Int32)), (.ref oa), (.long (own_new (own_f b0 b1 b2 b3) rm wt 3))])) _
    refine XS.lload Y7.here hx rfl (hb hby at_252) rfl ?_
    show Steps p.tables e below (T7.setTop (mkF m 254 #[.val (.long q1), .second, .val (.long q2), .second, .val (.long q3), .second, .val (.int p4), .val (.long q5), .second, .val (.int p6), .val (.int rm), .val (.long wt), .second, .val (.int kp), .val (.long b0), .second, .val (.long b1), .second, .val (.long b2), .second, .val (.long b3), .second, .val (.ref oa), .val (.ref ob), .val (.ref o4), .val (.int (1 : Int32)), .unset, .unset] [(.long wt), (.int rm), (.int (3 : Int32)), (.ref oa), (.long (own_new (own_f b0 b1 b2 b3) rm wt 3))])) _
    exact k
  obtain ⟨_, _, ⟨T8, L8, k8, n8⟩, -, X8, ⟨Lc8, hQ8, l8, y8, z8⟩, st8⟩ := Jvm.LawKit.callS Y7 hx (y := (⟨"com/example/chromabin/chromabin/packing/RoomKnapsackIncludePinLaw", "expect", "([JIIJ)J"⟩ : MethodName)) hown (mvT hZ (hw _ (List.mem_of_getElem? (i := 5) rfl))) (mvT hZ (hw _ (List.mem_of_getElem? (i := 6) rfl))) (mvT hZ (hw _ (List.mem_of_getElem? (i := 7) rfl))) (mvT hZ (hw _ (List.mem_of_getElem? (i := 8) rfl))) (by decide) (backOf (W := 2) (rm2 l Z a0 hw [] oa (3 : Int32) rm wt (own_f b0 b1 b2 b3) 3 h0 n0 Z0 Vo (by decide) (by decide) hr0) hZ (hw _ (List.mem_of_getElem? (i := 8) rfl)) (hw _ (List.mem_of_getElem? (i := 7) rfl)) (by decide) (by decide)) (g := (mkF m 254 #[.val (.long q1), .second, .val (.long q2), .second, .val (.long q3), .second, .val (.int p4), .val (.long q5), .second, .val (.int p6), .val (.int rm), .val (.long wt), .second, .val (.int kp), .val (.long b0), .second, .val (.long b1), .second, .val (.long b2), .second, .val (.long b3), .second, .val (.ref oa), .val (.ref ob), .val (.ref o4), .val (.int (1 : Int32)), .unset, .unset] [(.long wt), (.int rm), (.int (3 : Int32)), (.ref oa), (.long (own_new (own_f b0 b1 b2 b3) rm wt 3))])) rfl (by rw [hml]; rfl) (argsL := [(.ref oa), (.int (3 : Int32)), (.int rm), (.long wt)]) (rest := [(.long (own_new (own_f b0 b1 b2 b3) rm wt 3))]) (lenOf pd_2 rfl) rfl (by show 2 * 0 + _ ≤ _; exact Nat.le_of_eq rfl) (hb hby at_254) (fun _ _ => ⟨rfl, e7, hcl, hsl⟩)
  dsimp only [Pt.U, Pt.locs, Pt.cells, Pt.slots] at X8 l8 y8 z8 st8 hQ8
  subst l8 y8 z8
  obtain ⟨⟨z8, rfl, hz8⟩, N8q, e8⟩ := hQ8
  have N8 := Fr.app N7 N8q
  have Y8 : Stand p l e room_1 s m args below meth c T8 _ _ _ := X8
  have s268 : ∀ t, Steps p.tables e below (T8.setTop (mkF m 268 #[.val (.long q1), .second, .val (.long q2), .second, .val (.long q3), .second, .val (.int p4), .val (.long q5), .second, .val (.int p6), .val (.int rm), .val (.long wt), .second, .val (.int kp), .val (.long b0), .second, .val (.long b1), .second, .val (.long b2), .second, .val (.long b3), .second, .val (.ref oa), .val (.ref ob), .val (.ref o4), .val (.int (1 : Int32)), .unset, .unset] [])) t → Steps p.tables e below (T8.setTop (mkF m 257 #[.val (.long q1), .second, .val (.long q2), .second, .val (.long q3), .second, .val (.int p4), .val (.long q5), .second, .val (.int p6), .val (.int rm), .val (.long wt), .second, .val (.int kp), .val (.long b0), .second, .val (.long b1), .second, .val (.long b2), .second, .val (.long b3), .second, .val (.ref oa), .val (.ref ob), .val (.ref o4), .val (.int (1 : Int32)), .unset, .unset] [(.long z8), (.long (own_new (own_f b0 b1 b2 b3) rm wt 3))])) t := by
    intro t k
    show Steps p.tables e below (T8.setTop (mkF m 257 #[.val (.long q1), .second, .val (.long q2), .second, .val (.long q3), .second, .val (.int p4), .val (.long q5), .second, .val (.int p6), .val (.int rm), .val (.long wt), .second, .val (.int kp), .val (.long b0), .second, .val (.long b1), .second, .val (.long b2), .second, .val (.long b3), .second, .val (.ref oa), .val (.ref ob), .val (.ref o4), .val (.int (1 : Int32)), .unset, .unset] [(.long z8), (.long (own_new (own_f b0 b1 b2 b3) rm wt 3))])) _
    refine XS.lcmp Y8.here hx rfl (hb hby at_257) rfl ?_
    show Steps p.tables e below (T8.setTop (mkF m 258 #[.val (.long q1), .second, .val (.long q2), .second, .val (.long q3), .second, .val (.int p4), .val (.long q5), .second, .val (.int p6), .val (.int rm), .val (.long wt), .second, .val (.int kp), .val (.long b0), .second, .val (.long b1), .second, .val (.long b2), .second, .val (.long b3), .second, .val (.ref oa), .val (.ref ob), .val (.ref o4), .val (.int (1 : Int32)), .unset, .unset] [(.int (lcmpW (own_new (own_f b0 b1 b2 b3) rm wt 3) z8))])) _
    refine XS.ifNo Y8.here hx rfl (hb hby at_258) rfl (own_lc_eq hz8.symm).2 ?_
    show Steps p.tables e below (T8.setTop (mkF m 261 #[.val (.long q1), .second, .val (.long q2), .second, .val (.long q3), .second, .val (.int p4), .val (.long q5), .second, .val (.int p6), .val (.int rm), .val (.long wt), .second, .val (.int kp), .val (.long b0), .second, .val (.long b1), .second, .val (.long b2), .second, .val (.long b3), .second, .val (.ref oa), .val (.ref ob), .val (.ref o4), .val (.int (1 : Int32)), .unset, .unset] [])) _
    refine XS.iconst Y8.here hx rfl (hb hby at_261) ?_
    show Steps p.tables e below (T8.setTop (mkF m 262 #[.val (.long q1), .second, .val (.long q2), .second, .val (.long q3), .second, .val (.int p4), .val (.long q5), .second, .val (.int p6), .val (.int rm), .val (.long wt), .second, .val (.int kp), .val (.long b0), .second, .val (.long b1), .second, .val (.long b2), .second, .val (.long b3), .second, .val (.ref oa), .val (.ref ob), .val (.ref o4), .val (.int (1 : Int32)), .unset, .unset] [(.int (1 : Int32))])) _
    refine XS.goto Y8.here hx rfl (pc0 := 262) (pc' := 266) rfl (hb hby at_262) (by decide) (by decide) ?_
    show Steps p.tables e below (T8.setTop (mkF m 266 #[.val (.long q1), .second, .val (.long q2), .second, .val (.long q3), .second, .val (.int p4), .val (.long q5), .second, .val (.int p6), .val (.int rm), .val (.long wt), .second, .val (.int kp), .val (.long b0), .second, .val (.long b1), .second, .val (.long b2), .second, .val (.long b3), .second, .val (.ref oa), .val (.ref ob), .val (.ref o4), .val (.int (1 : Int32)), .unset, .unset] [(.int (1 : Int32))])) _
    refine XS.istore Y8.here hx rfl (hb hby at_266) rfl (l' := #[.val (.long q1), .second, .val (.long q2), .second, .val (.long q3), .second, .val (.int p4), .val (.long q5), .second, .val (.int p6), .val (.int rm), .val (.long wt), .second, .val (.int kp), .val (.long b0), .second, .val (.long b1), .second, .val (.long b2), .second, .val (.long b3), .second, .val (.ref oa), .val (.ref ob), .val (.ref o4), .val (.int (1 : Int32)), .unset, .unset]) rfl ?_
    show Steps p.tables e below (T8.setTop (mkF m 268 #[.val (.long q1), .second, .val (.long q2), .second, .val (.long q3), .second, .val (.int p4), .val (.long q5), .second, .val (.int p6), .val (.int rm), .val (.long wt), .second, .val (.int kp), .val (.long b0), .second, .val (.long b1), .second, .val (.long b2), .second, .val (.long b3), .second, .val (.ref oa), .val (.ref ob), .val (.ref o4), .val (.int (1 : Int32)), .unset, .unset] [])) _
    exact k
  have s279 : ∀ t, Steps p.tables e below (T8.setTop (mkF m 279 #[.val (.long q1), .second, .val (.long q2), .second, .val (.long q3), .second, .val (.int p4), .val (.long q5), .second, .val (.int p6), .val (.int rm), .val (.long wt), .second, .val (.int kp), .val (.long b0), .second, .val (.long b1), .second, .val (.long b2), .second, .val (.long b3), .second, .val (.ref oa), .val (.ref ob), .val (.ref o4), .val (.int (1 : Int32)), .val (.long q5), .second] [(.long wt), (.int rm), (.int (0 : Int32)), (.ref oa)])) t → Steps p.tables e below (T8.setTop (mkF m 268 #[.val (.long q1), .second, .val (.long q2), .second, .val (.long q3), .second, .val (.int p4), .val (.long q5), .second, .val (.int p6), .val (.int rm), .val (.long wt), .second, .val (.int kp), .val (.long b0), .second, .val (.long b1), .second, .val (.long b2), .second, .val (.long b3), .second, .val (.ref oa), .val (.ref ob), .val (.ref o4), .val (.int (1 : Int32)), .unset, .unset] [])) t := by
    intro t k
    show Steps p.tables e below (T8.setTop (mkF m 268 #[.val (.long q1), .second, .val (.long q2), .second, .val (.long q3), .second, .val (.int p4), .val (.long q5), .second, .val (.int p6), .val (.int rm), .val (.long wt), .second, .val (.int kp), .val (.long b0), .second, .val (.long b1), .second, .val (.long b2), .second, .val (.long b3), .second, .val (.ref oa), .val (.ref ob), .val (.ref o4), .val (.int (1 : Int32)), .unset, .unset] [])) _
    refine XS.lload Y8.here hx rfl (hb hby at_268) rfl ?_
    show Steps p.tables e below (T8.setTop (mkF m 270 #[.val (.long q1), .second, .val (.long q2), .second, .val (.long q3), .second, .val (.int p4), .val (.long q5), .second, .val (.int p6), .val (.int rm), .val (.long wt), .second, .val (.int kp), .val (.long b0), .second, .val (.long b1), .second, .val (.long b2), .second, .val (.long b3), .second, .val (.ref oa), .val (.ref ob), .val (.ref o4), .val (.int (1 : Int32)), .unset, .unset] [(.long q5)])) _
    refine XS.lstore Y8.here hx rfl (hb hby at_270) rfl (l' := #[.val (.long q1), .second, .val (.long q2), .second, .val (.long q3), .second, .val (.int p4), .val (.long q5), .second, .val (.int p6), .val (.int rm), .val (.long wt), .second, .val (.int kp), .val (.long b0), .second, .val (.long b1), .second, .val (.long b2), .second, .val (.long b3), .second, .val (.ref oa), .val (.ref ob), .val (.ref o4), .val (.int (1 : Int32)), .val (.long q5), .second]) rfl ?_
    show Steps p.tables e below (T8.setTop (mkF m 272 #[.val (.long q1), .second, .val (.long q2), .second, .val (.long q3), .second, .val (.int p4), .val (.long q5), .second, .val (.int p6), .val (.int rm), .val (.long wt), .second, .val (.int kp), .val (.long b0), .second, .val (.long b1), .second, .val (.long b2), .second, .val (.long b3), .second, .val (.ref oa), .val (.ref ob), .val (.ref o4), .val (.int (1 : Int32)), .val (.long q5), .second] [])) _
    refine XS.aload Y8.here hx rfl (hb hby at_272) rfl rfl ?_
    show Steps p.tables e below (T8.setTop (mkF m 274 #[.val (.long q1), .second, .val (.long q2), .second, .val (.long q3), .second, .val (.int p4), .val (.long q5), .second, .val (.int p6), .val (.int rm), .val (.long wt), .second, .val (.int kp), .val (.long b0), .second, .val (.long b1), .second, .val (.long b2), .second, .val (.long b3), .second, .val (.ref oa), .val (.ref ob), .val (.ref o4), .val (.int (1 : Int32)), .val (.long q5), .second] [(.ref oa)])) _
    refine XS.iconst Y8.here hx rfl (hb hby at_274) ?_
    show Steps p.tables e below (T8.setTop (mkF m 275 #[.val (.long q1), .second, .val (.long q2), .second, .val (.long q3), .second, .val (.int p4), .val (.long q5), .second, .val (.int p6), .val (.int rm), .val (.long wt), .second, .val (.int kp), .val (.long b0), .second, .val (.long b1), .second, .val (.long b2), .second, .val (.long b3), .second, .val (.ref oa), .val (.ref ob), .val (.ref o4), .val (.int (1 : Int32)), .val (.long q5), .second] [(.int (0 : Int32)), (.ref oa)])) _
    refine XS.iload Y8.here hx rfl (hb hby at_275) rfl ?_
    show Steps p.tables e below (T8.setTop (mkF m 277 #[.val (.long q1), .second, .val (.long q2), .second, .val (.long q3), .second, .val (.int p4), .val (.long q5), .second, .val (.int p6), .val (.int rm), .val (.long wt), .second, .val (.int kp), .val (.long b0), .second, .val (.long b1), .second, .val (.long b2), .second, .val (.long b3), .second, .val (.ref oa), .val (.ref ob), .val (.ref o4), .val (.int (1 : Int32)), .val (.long q5), .second] [(.int rm), (.int (0 : Int32)), (.ref oa)])) _
    refine XS.lload Y8.here hx rfl (hb hby at_277) rfl ?_
    show Steps p.tables e below (T8.setTop (mkF m 279 #[.val (.long q1), .second, .val (.long q2), .second, .val (.long q3), .second, .val (.int p4), .val (.long q5), .second, .val (.int p6), .val (.int rm), .val (.long wt), .second, .val (.int kp), .val (.long b0), .second, .val (.long b1), .second, .val (.long b2), .second, .val (.long b3), .second, .val (.ref oa), .val (.ref ob), .val (.ref o4), .val (.int (1 : Int32)), .val (.long q5), .second] [(.long wt), (.int rm), (.int (0 : Int32)), (.ref oa)])) _
    exact k
  obtain ⟨_, _, ⟨T9, L9, k9, n9⟩, -, X9, ⟨Lc9, hQ9, l9, y9, z9⟩, st9⟩ := Jvm.LawKit.callS Y8 hx (y := (⟨"com/example/chromabin/chromabin/packing/RoomKnapsackIncludePinLaw", "improves", "([JIIJ)Z"⟩ : MethodName)) hown (mvT hZ (hw _ (List.mem_of_getElem? (i := 9) rfl))) (mvT hZ (hw _ (List.mem_of_getElem? (i := 10) rfl))) (mvT hZ (hw _ (List.mem_of_getElem? (i := 7) rfl))) (mvT hZ (hw _ (List.mem_of_getElem? (i := 11) rfl))) (by decide) (backOf (W := 0) (rm3 l Z a0 hw [] oa (0 : Int32) rm wt (own_f b0 b1 b2 b3) 0 h0 n0 Z0 Vo (by decide) (by decide) hr0) hZ (hw _ (List.mem_of_getElem? (i := 11) rfl)) (hw _ (List.mem_of_getElem? (i := 7) rfl)) (by decide) (by decide)) (g := (mkF m 279 #[.val (.long q1), .second, .val (.long q2), .second, .val (.long q3), .second, .val (.int p4), .val (.long q5), .second, .val (.int p6), .val (.int rm), .val (.long wt), .second, .val (.int kp), .val (.long b0), .second, .val (.long b1), .second, .val (.long b2), .second, .val (.long b3), .second, .val (.ref oa), .val (.ref ob), .val (.ref o4), .val (.int (1 : Int32)), .val (.long q5), .second] [(.long wt), (.int rm), (.int (0 : Int32)), (.ref oa)])) rfl (by rw [hml]; rfl) (argsL := [(.ref oa), (.int (0 : Int32)), (.int rm), (.long wt)]) (rest := []) (lenOf pd_3 rfl) rfl (by show 2 * 0 + _ ≤ _; exact Nat.le_of_eq rfl) (hb hby at_279) (fun _ _ => ⟨rfl, e8, hcl, hsl⟩)
  dsimp only [Pt.U, Pt.locs, Pt.cells, Pt.slots] at X9 l9 y9 z9 st9 hQ9
  subst l9 y9 z9
  obtain ⟨⟨z9, rfl, hz9⟩, N9q, e9⟩ := hQ9
  have N9 := Fr.app N8 N9q
  have Y9 : Stand p l e room_1 s m args below meth c T9 _ _ _ := X9
  obtain ⟨u0, hs291, s291⟩ : ∃ (u0 : Int64), (u0 = q5 ||| own_bit (own_f b0 b1 b2 b3) rm wt 0) ∧ ∀ t, Steps p.tables e below (T9.setTop (mkF m 291 #[.val (.long q1), .second, .val (.long q2), .second, .val (.long q3), .second, .val (.int p4), .val (.long q5), .second, .val (.int p6), .val (.int rm), .val (.long wt), .second, .val (.int kp), .val (.long b0), .second, .val (.long b1), .second, .val (.long b2), .second, .val (.long b3), .second, .val (.ref oa), .val (.ref ob), .val (.ref o4), .val (.int (1 : Int32)), .val (.long u0), .second] [])) t → Steps p.tables e below (T9.setTop (mkF m 282 #[.val (.long q1), .second, .val (.long q2), .second, .val (.long q3), .second, .val (.int p4), .val (.long q5), .second, .val (.int p6), .val (.int rm), .val (.long wt), .second, .val (.int kp), .val (.long b0), .second, .val (.long b1), .second, .val (.long b2), .second, .val (.long b3), .second, .val (.ref oa), .val (.ref ob), .val (.ref o4), .val (.int (1 : Int32)), .val (.long q5), .second] [(.int z9)])) t := by
    by_cases c282 : z9 = (0 : Int32)
    · refine ⟨q5, (by rw [show own_bit (own_f b0 b1 b2 b3) rm wt 0 = 0 from if_neg ((own_zero hz9).1 c282), Int64.or_zero]), fun t k => ?_⟩
      show Steps p.tables e below (T9.setTop (mkF m 282 #[.val (.long q1), .second, .val (.long q2), .second, .val (.long q3), .second, .val (.int p4), .val (.long q5), .second, .val (.int p6), .val (.int rm), .val (.long wt), .second, .val (.int kp), .val (.long b0), .second, .val (.long b1), .second, .val (.long b2), .second, .val (.long b3), .second, .val (.ref oa), .val (.ref ob), .val (.ref o4), .val (.int (1 : Int32)), .val (.long q5), .second] [(.int z9)])) _
      refine XS.ifYes Y9.here hx rfl (pc0 := 282) (pc' := 291) rfl (hb hby at_282) rfl ((if0 _ _).trans (teq c282).1) (by decide) (by decide) ?_
      show Steps p.tables e below (T9.setTop (mkF m 291 #[.val (.long q1), .second, .val (.long q2), .second, .val (.long q3), .second, .val (.int p4), .val (.long q5), .second, .val (.int p6), .val (.int rm), .val (.long wt), .second, .val (.int kp), .val (.long b0), .second, .val (.long b1), .second, .val (.long b2), .second, .val (.long b3), .second, .val (.ref oa), .val (.ref ob), .val (.ref o4), .val (.int (1 : Int32)), .val (.long q5), .second] [])) _
      exact k
    · refine ⟨(q5 ||| (1 : Int64)), (by rw [show own_bit (own_f b0 b1 b2 b3) rm wt 0 = (1 : Int64) from if_pos ((own_zero hz9).2 c282)]), fun t k => ?_⟩
      show Steps p.tables e below (T9.setTop (mkF m 282 #[.val (.long q1), .second, .val (.long q2), .second, .val (.long q3), .second, .val (.int p4), .val (.long q5), .second, .val (.int p6), .val (.int rm), .val (.long wt), .second, .val (.int kp), .val (.long b0), .second, .val (.long b1), .second, .val (.long b2), .second, .val (.long b3), .second, .val (.ref oa), .val (.ref ob), .val (.ref o4), .val (.int (1 : Int32)), .val (.long q5), .second] [(.int z9)])) _
      refine XS.ifNo Y9.here hx rfl (hb hby at_282) rfl ((if0 _ _).trans (feq c282).1) ?_
      show Steps p.tables e below (T9.setTop (mkF m 285 #[.val (.long q1), .second, .val (.long q2), .second, .val (.long q3), .second, .val (.int p4), .val (.long q5), .second, .val (.int p6), .val (.int rm), .val (.long wt), .second, .val (.int kp), .val (.long b0), .second, .val (.long b1), .second, .val (.long b2), .second, .val (.long b3), .second, .val (.ref oa), .val (.ref ob), .val (.ref o4), .val (.int (1 : Int32)), .val (.long q5), .second] [])) _
      refine XS.lload Y9.here hx rfl (hb hby at_285) rfl ?_
      show Steps p.tables e below (T9.setTop (mkF m 287 #[.val (.long q1), .second, .val (.long q2), .second, .val (.long q3), .second, .val (.int p4), .val (.long q5), .second, .val (.int p6), .val (.int rm), .val (.long wt), .second, .val (.int kp), .val (.long b0), .second, .val (.long b1), .second, .val (.long b2), .second, .val (.long b3), .second, .val (.ref oa), .val (.ref ob), .val (.ref o4), .val (.int (1 : Int32)), .val (.long q5), .second] [(.long q5)])) _
      refine XS.lconst Y9.here hx rfl (hb hby at_287) ?_
      show Steps p.tables e below (T9.setTop (mkF m 288 #[.val (.long q1), .second, .val (.long q2), .second, .val (.long q3), .second, .val (.int p4), .val (.long q5), .second, .val (.int p6), .val (.int rm), .val (.long wt), .second, .val (.int kp), .val (.long b0), .second, .val (.long b1), .second, .val (.long b2), .second, .val (.long b3), .second, .val (.ref oa), .val (.ref ob), .val (.ref o4), .val (.int (1 : Int32)), .val (.long q5), .second] [(.long (1 : Int64)), (.long q5)])) _
      refine XS.lor Y9.here hx rfl (hb hby at_288) rfl ?_
      show Steps p.tables e below (T9.setTop (mkF m 289 #[.val (.long q1), .second, .val (.long q2), .second, .val (.long q3), .second, .val (.int p4), .val (.long q5), .second, .val (.int p6), .val (.int rm), .val (.long wt), .second, .val (.int kp), .val (.long b0), .second, .val (.long b1), .second, .val (.long b2), .second, .val (.long b3), .second, .val (.ref oa), .val (.ref ob), .val (.ref o4), .val (.int (1 : Int32)), .val (.long q5), .second] [(.long (q5 ||| (1 : Int64)))])) _
      refine XS.lstore Y9.here hx rfl (hb hby at_289) rfl (l' := #[.val (.long q1), .second, .val (.long q2), .second, .val (.long q3), .second, .val (.int p4), .val (.long q5), .second, .val (.int p6), .val (.int rm), .val (.long wt), .second, .val (.int kp), .val (.long b0), .second, .val (.long b1), .second, .val (.long b2), .second, .val (.long b3), .second, .val (.ref oa), .val (.ref ob), .val (.ref o4), .val (.int (1 : Int32)), .val (.long (q5 ||| (1 : Int64))), .second]) rfl ?_
      show Steps p.tables e below (T9.setTop (mkF m 291 #[.val (.long q1), .second, .val (.long q2), .second, .val (.long q3), .second, .val (.int p4), .val (.long q5), .second, .val (.int p6), .val (.int rm), .val (.long wt), .second, .val (.int kp), .val (.long b0), .second, .val (.long b1), .second, .val (.long b2), .second, .val (.long b3), .second, .val (.ref oa), .val (.ref ob), .val (.ref o4), .val (.int (1 : Int32)), .val (.long (q5 ||| (1 : Int64))), .second] [])) _
      exact k
  have s298 : ∀ t, Steps p.tables e below (T9.setTop (mkF m 298 #[.val (.long q1), .second, .val (.long q2), .second, .val (.long q3), .second, .val (.int p4), .val (.long q5), .second, .val (.int p6), .val (.int rm), .val (.long wt), .second, .val (.int kp), .val (.long b0), .second, .val (.long b1), .second, .val (.long b2), .second, .val (.long b3), .second, .val (.ref oa), .val (.ref ob), .val (.ref o4), .val (.int (1 : Int32)), .val (.long u0), .second] [(.long wt), (.int rm), (.int (1 : Int32)), (.ref oa)])) t → Steps p.tables e below (T9.setTop (mkF m 291 #[.val (.long q1), .second, .val (.long q2), .second, .val (.long q3), .second, .val (.int p4), .val (.long q5), .second, .val (.int p6), .val (.int rm), .val (.long wt), .second, .val (.int kp), .val (.long b0), .second, .val (.long b1), .second, .val (.long b2), .second, .val (.long b3), .second, .val (.ref oa), .val (.ref ob), .val (.ref o4), .val (.int (1 : Int32)), .val (.long u0), .second] [])) t := by
    intro t k
    show Steps p.tables e below (T9.setTop (mkF m 291 #[.val (.long q1), .second, .val (.long q2), .second, .val (.long q3), .second, .val (.int p4), .val (.long q5), .second, .val (.int p6), .val (.int rm), .val (.long wt), .second, .val (.int kp), .val (.long b0), .second, .val (.long b1), .second, .val (.long b2), .second, .val (.long b3), .second, .val (.ref oa), .val (.ref ob), .val (.ref o4), .val (.int (1 : Int32)), .val (.long u0), .second] [])) _
    refine XS.aload Y9.here hx rfl (hb hby at_291) rfl rfl ?_
    show Steps p.tables e below (T9.setTop (mkF m 293 #[.val (.long q1), .second, .val (.long q2), .second, .val (.long q3), .second, .val (.int p4), .val (.long q5), .second, .val (.int p6), .val (.int rm), .val (.long wt), .second, .val (.int kp), .val (.long b0), .second, .val (.long b1), .second, .val (.long b2), .second, .val (.long b3), .second, .val (.ref oa), .val (.ref ob), .val (.ref o4), .val (.int (1 : Int32)), .val (.long u0), .second] [(.ref oa)])) _
    refine XS.iconst Y9.here hx rfl (hb hby at_293) ?_
    show Steps p.tables e below (T9.setTop (mkF m 294 #[.val (.long q1), .second, .val (.long q2), .second, .val (.long q3), .second, .val (.int p4), .val (.long q5), .second, .val (.int p6), .val (.int rm), .val (.long wt), .second, .val (.int kp), .val (.long b0), .second, .val (.long b1), .second, .val (.long b2), .second, .val (.long b3), .second, .val (.ref oa), .val (.ref ob), .val (.ref o4), .val (.int (1 : Int32)), .val (.long u0), .second] [(.int (1 : Int32)), (.ref oa)])) _
    refine XS.iload Y9.here hx rfl (hb hby at_294) rfl ?_
    show Steps p.tables e below (T9.setTop (mkF m 296 #[.val (.long q1), .second, .val (.long q2), .second, .val (.long q3), .second, .val (.int p4), .val (.long q5), .second, .val (.int p6), .val (.int rm), .val (.long wt), .second, .val (.int kp), .val (.long b0), .second, .val (.long b1), .second, .val (.long b2), .second, .val (.long b3), .second, .val (.ref oa), .val (.ref ob), .val (.ref o4), .val (.int (1 : Int32)), .val (.long u0), .second] [(.int rm), (.int (1 : Int32)), (.ref oa)])) _
    refine XS.lload Y9.here hx rfl (hb hby at_296) rfl ?_
    show Steps p.tables e below (T9.setTop (mkF m 298 #[.val (.long q1), .second, .val (.long q2), .second, .val (.long q3), .second, .val (.int p4), .val (.long q5), .second, .val (.int p6), .val (.int rm), .val (.long wt), .second, .val (.int kp), .val (.long b0), .second, .val (.long b1), .second, .val (.long b2), .second, .val (.long b3), .second, .val (.ref oa), .val (.ref ob), .val (.ref o4), .val (.int (1 : Int32)), .val (.long u0), .second] [(.long wt), (.int rm), (.int (1 : Int32)), (.ref oa)])) _
    exact k
  obtain ⟨_, _, ⟨T10, L10, k10, n10⟩, -, X10, ⟨Lc10, hQ10, l10, y10, z10⟩, st10⟩ := Jvm.LawKit.callS Y9 hx (y := (⟨"com/example/chromabin/chromabin/packing/RoomKnapsackIncludePinLaw", "improves", "([JIIJ)Z"⟩ : MethodName)) hown (mvT hZ (hw _ (List.mem_of_getElem? (i := 9) rfl))) (mvT hZ (hw _ (List.mem_of_getElem? (i := 10) rfl))) (mvT hZ (hw _ (List.mem_of_getElem? (i := 7) rfl))) (mvT hZ (hw _ (List.mem_of_getElem? (i := 11) rfl))) (by decide) (backOf (W := 0) (rm3 l Z a0 hw [] oa (1 : Int32) rm wt (own_f b0 b1 b2 b3) 1 h0 n0 Z0 Vo (by decide) (by decide) hr0) hZ (hw _ (List.mem_of_getElem? (i := 11) rfl)) (hw _ (List.mem_of_getElem? (i := 7) rfl)) (by decide) (by decide)) (g := (mkF m 298 #[.val (.long q1), .second, .val (.long q2), .second, .val (.long q3), .second, .val (.int p4), .val (.long q5), .second, .val (.int p6), .val (.int rm), .val (.long wt), .second, .val (.int kp), .val (.long b0), .second, .val (.long b1), .second, .val (.long b2), .second, .val (.long b3), .second, .val (.ref oa), .val (.ref ob), .val (.ref o4), .val (.int (1 : Int32)), .val (.long u0), .second] [(.long wt), (.int rm), (.int (1 : Int32)), (.ref oa)])) rfl (by rw [hml]; rfl) (argsL := [(.ref oa), (.int (1 : Int32)), (.int rm), (.long wt)]) (rest := []) (lenOf pd_3 rfl) rfl (by show 2 * 0 + _ ≤ _; exact Nat.le_of_eq rfl) (hb hby at_298) (fun _ _ => ⟨rfl, e9, hcl, hsl⟩)
  dsimp only [Pt.U, Pt.locs, Pt.cells, Pt.slots] at X10 l10 y10 z10 st10 hQ10
  subst l10 y10 z10
  obtain ⟨⟨z10, rfl, hz10⟩, N10q, e10⟩ := hQ10
  have N10 := Fr.app N9 N10q
  have Y10 : Stand p l e room_1 s m args below meth c T10 _ _ _ := X10
  obtain ⟨u1, hs312, s312⟩ : ∃ (u1 : Int64), (u1 = u0 ||| own_bit (own_f b0 b1 b2 b3) rm wt 1) ∧ ∀ t, Steps p.tables e below (T10.setTop (mkF m 312 #[.val (.long q1), .second, .val (.long q2), .second, .val (.long q3), .second, .val (.int p4), .val (.long q5), .second, .val (.int p6), .val (.int rm), .val (.long wt), .second, .val (.int kp), .val (.long b0), .second, .val (.long b1), .second, .val (.long b2), .second, .val (.long b3), .second, .val (.ref oa), .val (.ref ob), .val (.ref o4), .val (.int (1 : Int32)), .val (.long u1), .second] [])) t → Steps p.tables e below (T10.setTop (mkF m 301 #[.val (.long q1), .second, .val (.long q2), .second, .val (.long q3), .second, .val (.int p4), .val (.long q5), .second, .val (.int p6), .val (.int rm), .val (.long wt), .second, .val (.int kp), .val (.long b0), .second, .val (.long b1), .second, .val (.long b2), .second, .val (.long b3), .second, .val (.ref oa), .val (.ref ob), .val (.ref o4), .val (.int (1 : Int32)), .val (.long u0), .second] [(.int z10)])) t := by
    by_cases c301 : z10 = (0 : Int32)
    · refine ⟨u0, (by rw [show own_bit (own_f b0 b1 b2 b3) rm wt 1 = 0 from if_neg ((own_zero hz10).1 c301), Int64.or_zero]), fun t k => ?_⟩
      show Steps p.tables e below (T10.setTop (mkF m 301 #[.val (.long q1), .second, .val (.long q2), .second, .val (.long q3), .second, .val (.int p4), .val (.long q5), .second, .val (.int p6), .val (.int rm), .val (.long wt), .second, .val (.int kp), .val (.long b0), .second, .val (.long b1), .second, .val (.long b2), .second, .val (.long b3), .second, .val (.ref oa), .val (.ref ob), .val (.ref o4), .val (.int (1 : Int32)), .val (.long u0), .second] [(.int z10)])) _
      refine XS.ifYes Y10.here hx rfl (pc0 := 301) (pc' := 312) rfl (hb hby at_301) rfl ((if0 _ _).trans (teq c301).1) (by decide) (by decide) ?_
      show Steps p.tables e below (T10.setTop (mkF m 312 #[.val (.long q1), .second, .val (.long q2), .second, .val (.long q3), .second, .val (.int p4), .val (.long q5), .second, .val (.int p6), .val (.int rm), .val (.long wt), .second, .val (.int kp), .val (.long b0), .second, .val (.long b1), .second, .val (.long b2), .second, .val (.long b3), .second, .val (.ref oa), .val (.ref ob), .val (.ref o4), .val (.int (1 : Int32)), .val (.long u0), .second] [])) _
      exact k
    · refine ⟨(u0 ||| (2 : Int64)), (by rw [show own_bit (own_f b0 b1 b2 b3) rm wt 1 = (2 : Int64) from if_pos ((own_zero hz10).2 c301)]), fun t k => ?_⟩
      show Steps p.tables e below (T10.setTop (mkF m 301 #[.val (.long q1), .second, .val (.long q2), .second, .val (.long q3), .second, .val (.int p4), .val (.long q5), .second, .val (.int p6), .val (.int rm), .val (.long wt), .second, .val (.int kp), .val (.long b0), .second, .val (.long b1), .second, .val (.long b2), .second, .val (.long b3), .second, .val (.ref oa), .val (.ref ob), .val (.ref o4), .val (.int (1 : Int32)), .val (.long u0), .second] [(.int z10)])) _
      refine XS.ifNo Y10.here hx rfl (hb hby at_301) rfl ((if0 _ _).trans (feq c301).1) ?_
      show Steps p.tables e below (T10.setTop (mkF m 304 #[.val (.long q1), .second, .val (.long q2), .second, .val (.long q3), .second, .val (.int p4), .val (.long q5), .second, .val (.int p6), .val (.int rm), .val (.long wt), .second, .val (.int kp), .val (.long b0), .second, .val (.long b1), .second, .val (.long b2), .second, .val (.long b3), .second, .val (.ref oa), .val (.ref ob), .val (.ref o4), .val (.int (1 : Int32)), .val (.long u0), .second] [])) _
      refine XS.lload Y10.here hx rfl (hb hby at_304) rfl ?_
      show Steps p.tables e below (T10.setTop (mkF m 306 #[.val (.long q1), .second, .val (.long q2), .second, .val (.long q3), .second, .val (.int p4), .val (.long q5), .second, .val (.int p6), .val (.int rm), .val (.long wt), .second, .val (.int kp), .val (.long b0), .second, .val (.long b1), .second, .val (.long b2), .second, .val (.long b3), .second, .val (.ref oa), .val (.ref ob), .val (.ref o4), .val (.int (1 : Int32)), .val (.long u0), .second] [(.long u0)])) _
      refine Y10.ldc2Long hx hown (mvT hZ (hw _ (List.mem_of_getElem? (i := 14) rfl))) (g := (mkF m 306 #[.val (.long q1), .second, .val (.long q2), .second, .val (.long q3), .second, .val (.int p4), .val (.long q5), .second, .val (.int p6), .val (.int rm), .val (.long wt), .second, .val (.int kp), .val (.long b0), .second, .val (.long b1), .second, .val (.long b2), .second, .val (.long b3), .second, .val (.ref oa), .val (.ref ob), .val (.ref o4), .val (.int (1 : Int32)), .val (.long u0), .second] [(.long u0)])) rfl (hb hby at_306) _ ?_
      show Steps p.tables e below (T10.setTop (mkF m 309 #[.val (.long q1), .second, .val (.long q2), .second, .val (.long q3), .second, .val (.int p4), .val (.long q5), .second, .val (.int p6), .val (.int rm), .val (.long wt), .second, .val (.int kp), .val (.long b0), .second, .val (.long b1), .second, .val (.long b2), .second, .val (.long b3), .second, .val (.ref oa), .val (.ref ob), .val (.ref o4), .val (.int (1 : Int32)), .val (.long u0), .second] [(.long (2 : Int64)), (.long u0)])) _
      refine XS.lor Y10.here hx rfl (hb hby at_309) rfl ?_
      show Steps p.tables e below (T10.setTop (mkF m 310 #[.val (.long q1), .second, .val (.long q2), .second, .val (.long q3), .second, .val (.int p4), .val (.long q5), .second, .val (.int p6), .val (.int rm), .val (.long wt), .second, .val (.int kp), .val (.long b0), .second, .val (.long b1), .second, .val (.long b2), .second, .val (.long b3), .second, .val (.ref oa), .val (.ref ob), .val (.ref o4), .val (.int (1 : Int32)), .val (.long u0), .second] [(.long (u0 ||| (2 : Int64)))])) _
      refine XS.lstore Y10.here hx rfl (hb hby at_310) rfl (l' := #[.val (.long q1), .second, .val (.long q2), .second, .val (.long q3), .second, .val (.int p4), .val (.long q5), .second, .val (.int p6), .val (.int rm), .val (.long wt), .second, .val (.int kp), .val (.long b0), .second, .val (.long b1), .second, .val (.long b2), .second, .val (.long b3), .second, .val (.ref oa), .val (.ref ob), .val (.ref o4), .val (.int (1 : Int32)), .val (.long (u0 ||| (2 : Int64))), .second]) rfl ?_
      show Steps p.tables e below (T10.setTop (mkF m 312 #[.val (.long q1), .second, .val (.long q2), .second, .val (.long q3), .second, .val (.int p4), .val (.long q5), .second, .val (.int p6), .val (.int rm), .val (.long wt), .second, .val (.int kp), .val (.long b0), .second, .val (.long b1), .second, .val (.long b2), .second, .val (.long b3), .second, .val (.ref oa), .val (.ref ob), .val (.ref o4), .val (.int (1 : Int32)), .val (.long (u0 ||| (2 : Int64))), .second] [])) _
      exact k
  have s319 : ∀ t, Steps p.tables e below (T10.setTop (mkF m 319 #[.val (.long q1), .second, .val (.long q2), .second, .val (.long q3), .second, .val (.int p4), .val (.long q5), .second, .val (.int p6), .val (.int rm), .val (.long wt), .second, .val (.int kp), .val (.long b0), .second, .val (.long b1), .second, .val (.long b2), .second, .val (.long b3), .second, .val (.ref oa), .val (.ref ob), .val (.ref o4), .val (.int (1 : Int32)), .val (.long u1), .second] [(.long wt), (.int rm), (.int (2 : Int32)), (.ref oa)])) t → Steps p.tables e below (T10.setTop (mkF m 312 #[.val (.long q1), .second, .val (.long q2), .second, .val (.long q3), .second, .val (.int p4), .val (.long q5), .second, .val (.int p6), .val (.int rm), .val (.long wt), .second, .val (.int kp), .val (.long b0), .second, .val (.long b1), .second, .val (.long b2), .second, .val (.long b3), .second, .val (.ref oa), .val (.ref ob), .val (.ref o4), .val (.int (1 : Int32)), .val (.long u1), .second] [])) t := by
    intro t k
    show Steps p.tables e below (T10.setTop (mkF m 312 #[.val (.long q1), .second, .val (.long q2), .second, .val (.long q3), .second, .val (.int p4), .val (.long q5), .second, .val (.int p6), .val (.int rm), .val (.long wt), .second, .val (.int kp), .val (.long b0), .second, .val (.long b1), .second, .val (.long b2), .second, .val (.long b3), .second, .val (.ref oa), .val (.ref ob), .val (.ref o4), .val (.int (1 : Int32)), .val (.long u1), .second] [])) _
    refine XS.aload Y10.here hx rfl (hb hby at_312) rfl rfl ?_
    show Steps p.tables e below (T10.setTop (mkF m 314 #[.val (.long q1), .second, .val (.long q2), .second, .val (.long q3), .second, .val (.int p4), .val (.long q5), .second, .val (.int p6), .val (.int rm), .val (.long wt), .second, .val (.int kp), .val (.long b0), .second, .val (.long b1), .second, .val (.long b2), .second, .val (.long b3), .second, .val (.ref oa), .val (.ref ob), .val (.ref o4), .val (.int (1 : Int32)), .val (.long u1), .second] [(.ref oa)])) _
    refine XS.iconst Y10.here hx rfl (hb hby at_314) ?_
    show Steps p.tables e below (T10.setTop (mkF m 315 #[.val (.long q1), .second, .val (.long q2), .second, .val (.long q3), .second, .val (.int p4), .val (.long q5), .second, .val (.int p6), .val (.int rm), .val (.long wt), .second, .val (.int kp), .val (.long b0), .second, .val (.long b1), .second, .val (.long b2), .second, .val (.long b3), .second, .val (.ref oa), .val (.ref ob), .val (.ref o4), .val (.int (1 : Int32)), .val (.long u1), .second] [(.int (2 : Int32)), (.ref oa)])) _
    refine XS.iload Y10.here hx rfl (hb hby at_315) rfl ?_
    show Steps p.tables e below (T10.setTop (mkF m 317 #[.val (.long q1), .second, .val (.long q2), .second, .val (.long q3), .second, .val (.int p4), .val (.long q5), .second, .val (.int p6), .val (.int rm), .val (.long wt), .second, .val (.int kp), .val (.long b0), .second, .val (.long b1), .second, .val (.long b2), .second, .val (.long b3), .second, .val (.ref oa), .val (.ref ob), .val (.ref o4), .val (.int (1 : Int32)), .val (.long u1), .second] [(.int rm), (.int (2 : Int32)), (.ref oa)])) _
    refine XS.lload Y10.here hx rfl (hb hby at_317) rfl ?_
    show Steps p.tables e below (T10.setTop (mkF m 319 #[.val (.long q1), .second, .val (.long q2), .second, .val (.long q3), .second, .val (.int p4), .val (.long q5), .second, .val (.int p6), .val (.int rm), .val (.long wt), .second, .val (.int kp), .val (.long b0), .second, .val (.long b1), .second, .val (.long b2), .second, .val (.long b3), .second, .val (.ref oa), .val (.ref ob), .val (.ref o4), .val (.int (1 : Int32)), .val (.long u1), .second] [(.long wt), (.int rm), (.int (2 : Int32)), (.ref oa)])) _
    exact k
  obtain ⟨_, _, ⟨T11, L11, k11, n11⟩, -, X11, ⟨Lc11, hQ11, l11, y11, z11⟩, st11⟩ := Jvm.LawKit.callS Y10 hx (y := (⟨"com/example/chromabin/chromabin/packing/RoomKnapsackIncludePinLaw", "improves", "([JIIJ)Z"⟩ : MethodName)) hown (mvT hZ (hw _ (List.mem_of_getElem? (i := 9) rfl))) (mvT hZ (hw _ (List.mem_of_getElem? (i := 10) rfl))) (mvT hZ (hw _ (List.mem_of_getElem? (i := 7) rfl))) (mvT hZ (hw _ (List.mem_of_getElem? (i := 11) rfl))) (by decide) (backOf (W := 0) (rm3 l Z a0 hw [] oa (2 : Int32) rm wt (own_f b0 b1 b2 b3) 2 h0 n0 Z0 Vo (by decide) (by decide) hr0) hZ (hw _ (List.mem_of_getElem? (i := 11) rfl)) (hw _ (List.mem_of_getElem? (i := 7) rfl)) (by decide) (by decide)) (g := (mkF m 319 #[.val (.long q1), .second, .val (.long q2), .second, .val (.long q3), .second, .val (.int p4), .val (.long q5), .second, .val (.int p6), .val (.int rm), .val (.long wt), .second, .val (.int kp), .val (.long b0), .second, .val (.long b1), .second, .val (.long b2), .second, .val (.long b3), .second, .val (.ref oa), .val (.ref ob), .val (.ref o4), .val (.int (1 : Int32)), .val (.long u1), .second] [(.long wt), (.int rm), (.int (2 : Int32)), (.ref oa)])) rfl (by rw [hml]; rfl) (argsL := [(.ref oa), (.int (2 : Int32)), (.int rm), (.long wt)]) (rest := []) (lenOf pd_3 rfl) rfl (by show 2 * 0 + _ ≤ _; exact Nat.le_of_eq rfl) (hb hby at_319) (fun _ _ => ⟨rfl, e10, hcl, hsl⟩)
  dsimp only [Pt.U, Pt.locs, Pt.cells, Pt.slots] at X11 l11 y11 z11 st11 hQ11
  subst l11 y11 z11
  obtain ⟨⟨z11, rfl, hz11⟩, N11q, e11⟩ := hQ11
  have N11 := Fr.app N10 N11q
  have Y11 : Stand p l e room_1 s m args below meth c T11 _ _ _ := X11
  obtain ⟨u2, hs333, s333⟩ : ∃ (u2 : Int64), (u2 = u1 ||| own_bit (own_f b0 b1 b2 b3) rm wt 2) ∧ ∀ t, Steps p.tables e below (T11.setTop (mkF m 333 #[.val (.long q1), .second, .val (.long q2), .second, .val (.long q3), .second, .val (.int p4), .val (.long q5), .second, .val (.int p6), .val (.int rm), .val (.long wt), .second, .val (.int kp), .val (.long b0), .second, .val (.long b1), .second, .val (.long b2), .second, .val (.long b3), .second, .val (.ref oa), .val (.ref ob), .val (.ref o4), .val (.int (1 : Int32)), .val (.long u2), .second] [])) t → Steps p.tables e below (T11.setTop (mkF m 322 #[.val (.long q1), .second, .val (.long q2), .second, .val (.long q3), .second, .val (.int p4), .val (.long q5), .second, .val (.int p6), .val (.int rm), .val (.long wt), .second, .val (.int kp), .val (.long b0), .second, .val (.long b1), .second, .val (.long b2), .second, .val (.long b3), .second, .val (.ref oa), .val (.ref ob), .val (.ref o4), .val (.int (1 : Int32)), .val (.long u1), .second] [(.int z11)])) t := by
    by_cases c322 : z11 = (0 : Int32)
    · refine ⟨u1, (by rw [show own_bit (own_f b0 b1 b2 b3) rm wt 2 = 0 from if_neg ((own_zero hz11).1 c322), Int64.or_zero]), fun t k => ?_⟩
      show Steps p.tables e below (T11.setTop (mkF m 322 #[.val (.long q1), .second, .val (.long q2), .second, .val (.long q3), .second, .val (.int p4), .val (.long q5), .second, .val (.int p6), .val (.int rm), .val (.long wt), .second, .val (.int kp), .val (.long b0), .second, .val (.long b1), .second, .val (.long b2), .second, .val (.long b3), .second, .val (.ref oa), .val (.ref ob), .val (.ref o4), .val (.int (1 : Int32)), .val (.long u1), .second] [(.int z11)])) _
      refine XS.ifYes Y11.here hx rfl (pc0 := 322) (pc' := 333) rfl (hb hby at_322) rfl ((if0 _ _).trans (teq c322).1) (by decide) (by decide) ?_
      show Steps p.tables e below (T11.setTop (mkF m 333 #[.val (.long q1), .second, .val (.long q2), .second, .val (.long q3), .second, .val (.int p4), .val (.long q5), .second, .val (.int p6), .val (.int rm), .val (.long wt), .second, .val (.int kp), .val (.long b0), .second, .val (.long b1), .second, .val (.long b2), .second, .val (.long b3), .second, .val (.ref oa), .val (.ref ob), .val (.ref o4), .val (.int (1 : Int32)), .val (.long u1), .second] [])) _
      exact k
    · refine ⟨(u1 ||| (4 : Int64)), (by rw [show own_bit (own_f b0 b1 b2 b3) rm wt 2 = (4 : Int64) from if_pos ((own_zero hz11).2 c322)]), fun t k => ?_⟩
      show Steps p.tables e below (T11.setTop (mkF m 322 #[.val (.long q1), .second, .val (.long q2), .second, .val (.long q3), .second, .val (.int p4), .val (.long q5), .second, .val (.int p6), .val (.int rm), .val (.long wt), .second, .val (.int kp), .val (.long b0), .second, .val (.long b1), .second, .val (.long b2), .second, .val (.long b3), .second, .val (.ref oa), .val (.ref ob), .val (.ref o4), .val (.int (1 : Int32)), .val (.long u1), .second] [(.int z11)])) _
      refine XS.ifNo Y11.here hx rfl (hb hby at_322) rfl ((if0 _ _).trans (feq c322).1) ?_
      show Steps p.tables e below (T11.setTop (mkF m 325 #[.val (.long q1), .second, .val (.long q2), .second, .val (.long q3), .second, .val (.int p4), .val (.long q5), .second, .val (.int p6), .val (.int rm), .val (.long wt), .second, .val (.int kp), .val (.long b0), .second, .val (.long b1), .second, .val (.long b2), .second, .val (.long b3), .second, .val (.ref oa), .val (.ref ob), .val (.ref o4), .val (.int (1 : Int32)), .val (.long u1), .second] [])) _
      refine XS.lload Y11.here hx rfl (hb hby at_325) rfl ?_
      show Steps p.tables e below (T11.setTop (mkF m 327 #[.val (.long q1), .second, .val (.long q2), .second, .val (.long q3), .second, .val (.int p4), .val (.long q5), .second, .val (.int p6), .val (.int rm), .val (.long wt), .second, .val (.int kp), .val (.long b0), .second, .val (.long b1), .second, .val (.long b2), .second, .val (.long b3), .second, .val (.ref oa), .val (.ref ob), .val (.ref o4), .val (.int (1 : Int32)), .val (.long u1), .second] [(.long u1)])) _
      refine Y11.ldc2Long hx hown (mvT hZ (hw _ (List.mem_of_getElem? (i := 12) rfl))) (g := (mkF m 327 #[.val (.long q1), .second, .val (.long q2), .second, .val (.long q3), .second, .val (.int p4), .val (.long q5), .second, .val (.int p6), .val (.int rm), .val (.long wt), .second, .val (.int kp), .val (.long b0), .second, .val (.long b1), .second, .val (.long b2), .second, .val (.long b3), .second, .val (.ref oa), .val (.ref ob), .val (.ref o4), .val (.int (1 : Int32)), .val (.long u1), .second] [(.long u1)])) rfl (hb hby at_327) _ ?_
      show Steps p.tables e below (T11.setTop (mkF m 330 #[.val (.long q1), .second, .val (.long q2), .second, .val (.long q3), .second, .val (.int p4), .val (.long q5), .second, .val (.int p6), .val (.int rm), .val (.long wt), .second, .val (.int kp), .val (.long b0), .second, .val (.long b1), .second, .val (.long b2), .second, .val (.long b3), .second, .val (.ref oa), .val (.ref ob), .val (.ref o4), .val (.int (1 : Int32)), .val (.long u1), .second] [(.long (4 : Int64)), (.long u1)])) _
      refine XS.lor Y11.here hx rfl (hb hby at_330) rfl ?_
      show Steps p.tables e below (T11.setTop (mkF m 331 #[.val (.long q1), .second, .val (.long q2), .second, .val (.long q3), .second, .val (.int p4), .val (.long q5), .second, .val (.int p6), .val (.int rm), .val (.long wt), .second, .val (.int kp), .val (.long b0), .second, .val (.long b1), .second, .val (.long b2), .second, .val (.long b3), .second, .val (.ref oa), .val (.ref ob), .val (.ref o4), .val (.int (1 : Int32)), .val (.long u1), .second] [(.long (u1 ||| (4 : Int64)))])) _
      refine XS.lstore Y11.here hx rfl (hb hby at_331) rfl (l' := #[.val (.long q1), .second, .val (.long q2), .second, .val (.long q3), .second, .val (.int p4), .val (.long q5), .second, .val (.int p6), .val (.int rm), .val (.long wt), .second, .val (.int kp), .val (.long b0), .second, .val (.long b1), .second, .val (.long b2), .second, .val (.long b3), .second, .val (.ref oa), .val (.ref ob), .val (.ref o4), .val (.int (1 : Int32)), .val (.long (u1 ||| (4 : Int64))), .second]) rfl ?_
      show Steps p.tables e below (T11.setTop (mkF m 333 #[.val (.long q1), .second, .val (.long q2), .second, .val (.long q3), .second, .val (.int p4), .val (.long q5), .second, .val (.int p6), .val (.int rm), .val (.long wt), .second, .val (.int kp), .val (.long b0), .second, .val (.long b1), .second, .val (.long b2), .second, .val (.long b3), .second, .val (.ref oa), .val (.ref ob), .val (.ref o4), .val (.int (1 : Int32)), .val (.long (u1 ||| (4 : Int64))), .second] [])) _
      exact k
  have s340 : ∀ t, Steps p.tables e below (T11.setTop (mkF m 340 #[.val (.long q1), .second, .val (.long q2), .second, .val (.long q3), .second, .val (.int p4), .val (.long q5), .second, .val (.int p6), .val (.int rm), .val (.long wt), .second, .val (.int kp), .val (.long b0), .second, .val (.long b1), .second, .val (.long b2), .second, .val (.long b3), .second, .val (.ref oa), .val (.ref ob), .val (.ref o4), .val (.int (1 : Int32)), .val (.long u2), .second] [(.long wt), (.int rm), (.int (3 : Int32)), (.ref oa)])) t → Steps p.tables e below (T11.setTop (mkF m 333 #[.val (.long q1), .second, .val (.long q2), .second, .val (.long q3), .second, .val (.int p4), .val (.long q5), .second, .val (.int p6), .val (.int rm), .val (.long wt), .second, .val (.int kp), .val (.long b0), .second, .val (.long b1), .second, .val (.long b2), .second, .val (.long b3), .second, .val (.ref oa), .val (.ref ob), .val (.ref o4), .val (.int (1 : Int32)), .val (.long u2), .second] [])) t := by
    intro t k
    show Steps p.tables e below (T11.setTop (mkF m 333 #[.val (.long q1), .second, .val (.long q2), .second, .val (.long q3), .second, .val (.int p4), .val (.long q5), .second, .val (.int p6), .val (.int rm), .val (.long wt), .second, .val (.int kp), .val (.long b0), .second, .val (.long b1), .second, .val (.long b2), .second, .val (.long b3), .second, .val (.ref oa), .val (.ref ob), .val (.ref o4), .val (.int (1 : Int32)), .val (.long u2), .second] [])) _
    refine XS.aload Y11.here hx rfl (hb hby at_333) rfl rfl ?_
    show Steps p.tables e below (T11.setTop (mkF m 335 #[.val (.long q1), .second, .val (.long q2), .second, .val (.long q3), .second, .val (.int p4), .val (.long q5), .second, .val (.int p6), .val (.int rm), .val (.long wt), .second, .val (.int kp), .val (.long b0), .second, .val (.long b1), .second, .val (.long b2), .second, .val (.long b3), .second, .val (.ref oa), .val (.ref ob), .val (.ref o4), .val (.int (1 : Int32)), .val (.long u2), .second] [(.ref oa)])) _
    refine XS.iconst Y11.here hx rfl (hb hby at_335) ?_
    show Steps p.tables e below (T11.setTop (mkF m 336 #[.val (.long q1), .second, .val (.long q2), .second, .val (.long q3), .second, .val (.int p4), .val (.long q5), .second, .val (.int p6), .val (.int rm), .val (.long wt), .second, .val (.int kp), .val (.long b0), .second, .val (.long b1), .second, .val (.long b2), .second, .val (.long b3), .second, .val (.ref oa), .val (.ref ob), .val (.ref o4), .val (.int (1 : Int32)), .val (.long u2), .second] [(.int (3 : Int32)), (.ref oa)])) _
    refine XS.iload Y11.here hx rfl (hb hby at_336) rfl ?_
    show Steps p.tables e below (T11.setTop (mkF m 338 #[.val (.long q1), .second, .val (.long q2), .second, .val (.long q3), .second, .val (.int p4), .val (.long q5), .second, .val (.int p6), .val (.int rm), .val (.long wt), .second, .val (.int kp), .val (.long b0), .second, .val (.long b1), .second, .val (.long b2), .second, .val (.long b3), .second, .val (.ref oa), .val (.ref ob), .val (.ref o4), .val (.int (1 : Int32)), .val (.long u2), .second] [(.int rm), (.int (3 : Int32)), (.ref oa)])) _
    refine XS.lload Y11.here hx rfl (hb hby at_338) rfl ?_
    show Steps p.tables e below (T11.setTop (mkF m 340 #[.val (.long q1), .second, .val (.long q2), .second, .val (.long q3), .second, .val (.int p4), .val (.long q5), .second, .val (.int p6), .val (.int rm), .val (.long wt), .second, .val (.int kp), .val (.long b0), .second, .val (.long b1), .second, .val (.long b2), .second, .val (.long b3), .second, .val (.ref oa), .val (.ref ob), .val (.ref o4), .val (.int (1 : Int32)), .val (.long u2), .second] [(.long wt), (.int rm), (.int (3 : Int32)), (.ref oa)])) _
    exact k
  obtain ⟨_, _, ⟨T12, L12, k12, n12⟩, -, X12, ⟨Lc12, hQ12, l12, y12, z12⟩, st12⟩ := Jvm.LawKit.callS Y11 hx (y := (⟨"com/example/chromabin/chromabin/packing/RoomKnapsackIncludePinLaw", "improves", "([JIIJ)Z"⟩ : MethodName)) hown (mvT hZ (hw _ (List.mem_of_getElem? (i := 9) rfl))) (mvT hZ (hw _ (List.mem_of_getElem? (i := 10) rfl))) (mvT hZ (hw _ (List.mem_of_getElem? (i := 7) rfl))) (mvT hZ (hw _ (List.mem_of_getElem? (i := 11) rfl))) (by decide) (backOf (W := 0) (rm3 l Z a0 hw [] oa (3 : Int32) rm wt (own_f b0 b1 b2 b3) 3 h0 n0 Z0 Vo (by decide) (by decide) hr0) hZ (hw _ (List.mem_of_getElem? (i := 11) rfl)) (hw _ (List.mem_of_getElem? (i := 7) rfl)) (by decide) (by decide)) (g := (mkF m 340 #[.val (.long q1), .second, .val (.long q2), .second, .val (.long q3), .second, .val (.int p4), .val (.long q5), .second, .val (.int p6), .val (.int rm), .val (.long wt), .second, .val (.int kp), .val (.long b0), .second, .val (.long b1), .second, .val (.long b2), .second, .val (.long b3), .second, .val (.ref oa), .val (.ref ob), .val (.ref o4), .val (.int (1 : Int32)), .val (.long u2), .second] [(.long wt), (.int rm), (.int (3 : Int32)), (.ref oa)])) rfl (by rw [hml]; rfl) (argsL := [(.ref oa), (.int (3 : Int32)), (.int rm), (.long wt)]) (rest := []) (lenOf pd_3 rfl) rfl (by show 2 * 0 + _ ≤ _; exact Nat.le_of_eq rfl) (hb hby at_340) (fun _ _ => ⟨rfl, e11, hcl, hsl⟩)
  dsimp only [Pt.U, Pt.locs, Pt.cells, Pt.slots] at X12 l12 y12 z12 st12 hQ12
  subst l12 y12 z12
  obtain ⟨⟨z12, rfl, hz12⟩, N12q, e12⟩ := hQ12
  have N12 := Fr.app N11 N12q
  have Y12 : Stand p l e room_1 s m args below meth c T12 _ _ _ := X12
  obtain ⟨u3, hs354, s354⟩ : ∃ (u3 : Int64), (u3 = u2 ||| own_bit (own_f b0 b1 b2 b3) rm wt 3) ∧ ∀ t, Steps p.tables e below (T12.setTop (mkF m 354 #[.val (.long q1), .second, .val (.long q2), .second, .val (.long q3), .second, .val (.int p4), .val (.long q5), .second, .val (.int p6), .val (.int rm), .val (.long wt), .second, .val (.int kp), .val (.long b0), .second, .val (.long b1), .second, .val (.long b2), .second, .val (.long b3), .second, .val (.ref oa), .val (.ref ob), .val (.ref o4), .val (.int (1 : Int32)), .val (.long u3), .second] [])) t → Steps p.tables e below (T12.setTop (mkF m 343 #[.val (.long q1), .second, .val (.long q2), .second, .val (.long q3), .second, .val (.int p4), .val (.long q5), .second, .val (.int p6), .val (.int rm), .val (.long wt), .second, .val (.int kp), .val (.long b0), .second, .val (.long b1), .second, .val (.long b2), .second, .val (.long b3), .second, .val (.ref oa), .val (.ref ob), .val (.ref o4), .val (.int (1 : Int32)), .val (.long u2), .second] [(.int z12)])) t := by
    by_cases c343 : z12 = (0 : Int32)
    · refine ⟨u2, (by rw [show own_bit (own_f b0 b1 b2 b3) rm wt 3 = 0 from if_neg ((own_zero hz12).1 c343), Int64.or_zero]), fun t k => ?_⟩
      show Steps p.tables e below (T12.setTop (mkF m 343 #[.val (.long q1), .second, .val (.long q2), .second, .val (.long q3), .second, .val (.int p4), .val (.long q5), .second, .val (.int p6), .val (.int rm), .val (.long wt), .second, .val (.int kp), .val (.long b0), .second, .val (.long b1), .second, .val (.long b2), .second, .val (.long b3), .second, .val (.ref oa), .val (.ref ob), .val (.ref o4), .val (.int (1 : Int32)), .val (.long u2), .second] [(.int z12)])) _
      refine XS.ifYes Y12.here hx rfl (pc0 := 343) (pc' := 354) rfl (hb hby at_343) rfl ((if0 _ _).trans (teq c343).1) (by decide) (by decide) ?_
      show Steps p.tables e below (T12.setTop (mkF m 354 #[.val (.long q1), .second, .val (.long q2), .second, .val (.long q3), .second, .val (.int p4), .val (.long q5), .second, .val (.int p6), .val (.int rm), .val (.long wt), .second, .val (.int kp), .val (.long b0), .second, .val (.long b1), .second, .val (.long b2), .second, .val (.long b3), .second, .val (.ref oa), .val (.ref ob), .val (.ref o4), .val (.int (1 : Int32)), .val (.long u2), .second] [])) _
      exact k
    · refine ⟨(u2 ||| (8 : Int64)), (by rw [show own_bit (own_f b0 b1 b2 b3) rm wt 3 = (8 : Int64) from if_pos ((own_zero hz12).2 c343)]), fun t k => ?_⟩
      show Steps p.tables e below (T12.setTop (mkF m 343 #[.val (.long q1), .second, .val (.long q2), .second, .val (.long q3), .second, .val (.int p4), .val (.long q5), .second, .val (.int p6), .val (.int rm), .val (.long wt), .second, .val (.int kp), .val (.long b0), .second, .val (.long b1), .second, .val (.long b2), .second, .val (.long b3), .second, .val (.ref oa), .val (.ref ob), .val (.ref o4), .val (.int (1 : Int32)), .val (.long u2), .second] [(.int z12)])) _
      refine XS.ifNo Y12.here hx rfl (hb hby at_343) rfl ((if0 _ _).trans (feq c343).1) ?_
      show Steps p.tables e below (T12.setTop (mkF m 346 #[.val (.long q1), .second, .val (.long q2), .second, .val (.long q3), .second, .val (.int p4), .val (.long q5), .second, .val (.int p6), .val (.int rm), .val (.long wt), .second, .val (.int kp), .val (.long b0), .second, .val (.long b1), .second, .val (.long b2), .second, .val (.long b3), .second, .val (.ref oa), .val (.ref ob), .val (.ref o4), .val (.int (1 : Int32)), .val (.long u2), .second] [])) _
      refine XS.lload Y12.here hx rfl (hb hby at_346) rfl ?_
      show Steps p.tables e below (T12.setTop (mkF m 348 #[.val (.long q1), .second, .val (.long q2), .second, .val (.long q3), .second, .val (.int p4), .val (.long q5), .second, .val (.int p6), .val (.int rm), .val (.long wt), .second, .val (.int kp), .val (.long b0), .second, .val (.long b1), .second, .val (.long b2), .second, .val (.long b3), .second, .val (.ref oa), .val (.ref ob), .val (.ref o4), .val (.int (1 : Int32)), .val (.long u2), .second] [(.long u2)])) _
      refine Y12.ldc2Long hx hown (mvT hZ (hw _ (List.mem_of_getElem? (i := 13) rfl))) (g := (mkF m 348 #[.val (.long q1), .second, .val (.long q2), .second, .val (.long q3), .second, .val (.int p4), .val (.long q5), .second, .val (.int p6), .val (.int rm), .val (.long wt), .second, .val (.int kp), .val (.long b0), .second, .val (.long b1), .second, .val (.long b2), .second, .val (.long b3), .second, .val (.ref oa), .val (.ref ob), .val (.ref o4), .val (.int (1 : Int32)), .val (.long u2), .second] [(.long u2)])) rfl (hb hby at_348) _ ?_
      show Steps p.tables e below (T12.setTop (mkF m 351 #[.val (.long q1), .second, .val (.long q2), .second, .val (.long q3), .second, .val (.int p4), .val (.long q5), .second, .val (.int p6), .val (.int rm), .val (.long wt), .second, .val (.int kp), .val (.long b0), .second, .val (.long b1), .second, .val (.long b2), .second, .val (.long b3), .second, .val (.ref oa), .val (.ref ob), .val (.ref o4), .val (.int (1 : Int32)), .val (.long u2), .second] [(.long (8 : Int64)), (.long u2)])) _
      refine XS.lor Y12.here hx rfl (hb hby at_351) rfl ?_
      show Steps p.tables e below (T12.setTop (mkF m 352 #[.val (.long q1), .second, .val (.long q2), .second, .val (.long q3), .second, .val (.int p4), .val (.long q5), .second, .val (.int p6), .val (.int rm), .val (.long wt), .second, .val (.int kp), .val (.long b0), .second, .val (.long b1), .second, .val (.long b2), .second, .val (.long b3), .second, .val (.ref oa), .val (.ref ob), .val (.ref o4), .val (.int (1 : Int32)), .val (.long u2), .second] [(.long (u2 ||| (8 : Int64)))])) _
      refine XS.lstore Y12.here hx rfl (hb hby at_352) rfl (l' := #[.val (.long q1), .second, .val (.long q2), .second, .val (.long q3), .second, .val (.int p4), .val (.long q5), .second, .val (.int p6), .val (.int rm), .val (.long wt), .second, .val (.int kp), .val (.long b0), .second, .val (.long b1), .second, .val (.long b2), .second, .val (.long b3), .second, .val (.ref oa), .val (.ref ob), .val (.ref o4), .val (.int (1 : Int32)), .val (.long (u2 ||| (8 : Int64))), .second]) rfl ?_
      show Steps p.tables e below (T12.setTop (mkF m 354 #[.val (.long q1), .second, .val (.long q2), .second, .val (.long q3), .second, .val (.int p4), .val (.long q5), .second, .val (.int p6), .val (.int rm), .val (.long wt), .second, .val (.int kp), .val (.long b0), .second, .val (.long b1), .second, .val (.long b2), .second, .val (.long b3), .second, .val (.ref oa), .val (.ref ob), .val (.ref o4), .val (.int (1 : Int32)), .val (.long (u2 ||| (8 : Int64))), .second] [])) _
      exact k
  have hbits : own_or (own_f b0 b1 b2 b3) rm wt 4 q5 = u3 := by rw [own_or4, hs354, hs333, hs312, hs291]
  refine ⟨T12, _, #[.val (.long q1), .second, .val (.long q2), .second, .val (.long q3), .second, .val (.int p4), .val (.long q5), .second, .val (.int p6), .val (.int rm), .val (.long wt), .second, .val (.int kp), .val (.long b0), .second, .val (.long b1), .second, .val (.long b2), .second, .val (.long b3), .second, .val (.ref oa), .val (.ref ob), .val (.ref o4), .val (.int (1 : Int32)), .val (.long u3), .second], Y12, N12, fun t k => ?_⟩
  refine s148 _ ?_
  refine s164 _ ?_
  refine st5 _ ?_
  refine s178 _ ?_
  refine s194 _ ?_
  refine st6 _ ?_
  refine s208 _ ?_
  refine s224 _ ?_
  refine st7 _ ?_
  refine s238 _ ?_
  refine s254 _ ?_
  refine st8 _ ?_
  refine s268 _ ?_
  refine s279 _ ?_
  refine st9 _ ?_
  refine s291 _ ?_
  refine s298 _ ?_
  refine st10 _ ?_
  refine s312 _ ?_
  refine s319 _ ?_
  refine st11 _ ?_
  refine s333 _ ?_
  refine s340 _ ?_
  refine st12 _ ?_
  refine s354 _ ?_
  show Steps p.tables e below (T12.setTop (mkF m 354 #[.val (.long q1), .second, .val (.long q2), .second, .val (.long q3), .second, .val (.int p4), .val (.long q5), .second, .val (.int p6), .val (.int rm), .val (.long wt), .second, .val (.int kp), .val (.long b0), .second, .val (.long b1), .second, .val (.long b2), .second, .val (.long b3), .second, .val (.ref oa), .val (.ref ob), .val (.ref o4), .val (.int (1 : Int32)), .val (.long u3), .second] [])) _
  refine XS.aload Y12.here hx rfl (hb hby at_354) rfl rfl ?_
  show Steps p.tables e below (T12.setTop (mkF m 356 #[.val (.long q1), .second, .val (.long q2), .second, .val (.long q3), .second, .val (.int p4), .val (.long q5), .second, .val (.int p6), .val (.int rm), .val (.long wt), .second, .val (.int kp), .val (.long b0), .second, .val (.long b1), .second, .val (.long b2), .second, .val (.long b3), .second, .val (.ref oa), .val (.ref ob), .val (.ref o4), .val (.int (1 : Int32)), .val (.long u3), .second] [(.ref o4)])) _
  refine XS.ifnullNo Y12.here hx rfl (hb hby at_356) rfl ?_
  show Steps p.tables e below (T12.setTop (mkF m 359 #[.val (.long q1), .second, .val (.long q2), .second, .val (.long q3), .second, .val (.int p4), .val (.long q5), .second, .val (.int p6), .val (.int rm), .val (.long wt), .second, .val (.int kp), .val (.long b0), .second, .val (.long b1), .second, .val (.long b2), .second, .val (.long b3), .second, .val (.ref oa), .val (.ref ob), .val (.ref o4), .val (.int (1 : Int32)), .val (.long u3), .second] [])) _
  refine XS.iload Y12.here hx rfl (hb hby at_359) rfl ?_
  show Steps p.tables e below (T12.setTop (mkF m 361 #[.val (.long q1), .second, .val (.long q2), .second, .val (.long q3), .second, .val (.int p4), .val (.long q5), .second, .val (.int p6), .val (.int rm), .val (.long wt), .second, .val (.int kp), .val (.long b0), .second, .val (.long b1), .second, .val (.long b2), .second, .val (.long b3), .second, .val (.ref oa), .val (.ref ob), .val (.ref o4), .val (.int (1 : Int32)), .val (.long u3), .second] [(.int (1 : Int32))])) _
  refine XS.ifNo Y12.here hx rfl (hb hby at_361) rfl ((if0 _ _).trans (feq (by decide : ¬ (1 : Int32) = (0 : Int32))).1) ?_
  show Steps p.tables e below (T12.setTop (mkF m 364 #[.val (.long q1), .second, .val (.long q2), .second, .val (.long q3), .second, .val (.int p4), .val (.long q5), .second, .val (.int p6), .val (.int rm), .val (.long wt), .second, .val (.int kp), .val (.long b0), .second, .val (.long b1), .second, .val (.long b2), .second, .val (.long b3), .second, .val (.ref oa), .val (.ref ob), .val (.ref o4), .val (.int (1 : Int32)), .val (.long u3), .second] [])) _
  refine XS.aload Y12.here hx rfl (hb hby at_364) rfl rfl ?_
  show Steps p.tables e below (T12.setTop (mkF m 366 #[.val (.long q1), .second, .val (.long q2), .second, .val (.long q3), .second, .val (.int p4), .val (.long q5), .second, .val (.int p6), .val (.int rm), .val (.long wt), .second, .val (.int kp), .val (.long b0), .second, .val (.long b1), .second, .val (.long b2), .second, .val (.long b3), .second, .val (.ref oa), .val (.ref ob), .val (.ref o4), .val (.int (1 : Int32)), .val (.long u3), .second] [(.ref o4)])) _
  refine Y12.arraylength hx (by rw [e12]; exact A4.1) (State.isArrayOf_alike hZ.alike A4.2.1) (g := (mkF m 366 #[.val (.long q1), .second, .val (.long q2), .second, .val (.long q3), .second, .val (.int p4), .val (.long q5), .second, .val (.int p6), .val (.int rm), .val (.long wt), .second, .val (.int kp), .val (.long b0), .second, .val (.long b1), .second, .val (.long b2), .second, .val (.long b3), .second, .val (.ref oa), .val (.ref ob), .val (.ref o4), .val (.int (1 : Int32)), .val (.long u3), .second] [(.ref o4)])) rfl rfl (hb hby at_366) _ ?_
  rw [S4]
  show Steps p.tables e below (T12.setTop (mkF m 367 #[.val (.long q1), .second, .val (.long q2), .second, .val (.long q3), .second, .val (.int p4), .val (.long q5), .second, .val (.int p6), .val (.int rm), .val (.long wt), .second, .val (.int kp), .val (.long b0), .second, .val (.long b1), .second, .val (.long b2), .second, .val (.long b3), .second, .val (.ref oa), .val (.ref ob), .val (.ref o4), .val (.int (1 : Int32)), .val (.long u3), .second] [(.int (1 : Int32))])) _
  refine XS.iconst Y12.here hx rfl (hb hby at_367) ?_
  show Steps p.tables e below (T12.setTop (mkF m 368 #[.val (.long q1), .second, .val (.long q2), .second, .val (.long q3), .second, .val (.int p4), .val (.long q5), .second, .val (.int p6), .val (.int rm), .val (.long wt), .second, .val (.int kp), .val (.long b0), .second, .val (.long b1), .second, .val (.long b2), .second, .val (.long b3), .second, .val (.ref oa), .val (.ref ob), .val (.ref o4), .val (.int (1 : Int32)), .val (.long u3), .second] [(.int (1 : Int32)), (.int (1 : Int32))])) _
  refine XS.icmpNo Y12.here hx rfl (hb hby at_368) rfl (teq (rfl : (1 : Int32) = (1 : Int32))).2 ?_
  show Steps p.tables e below (T12.setTop (mkF m 371 #[.val (.long q1), .second, .val (.long q2), .second, .val (.long q3), .second, .val (.int p4), .val (.long q5), .second, .val (.int p6), .val (.int rm), .val (.long wt), .second, .val (.int kp), .val (.long b0), .second, .val (.long b1), .second, .val (.long b2), .second, .val (.long b3), .second, .val (.ref oa), .val (.ref ob), .val (.ref o4), .val (.int (1 : Int32)), .val (.long u3), .second] [])) _
  refine XS.aload Y12.here hx rfl (hb hby at_371) rfl rfl ?_
  show Steps p.tables e below (T12.setTop (mkF m 373 #[.val (.long q1), .second, .val (.long q2), .second, .val (.long q3), .second, .val (.int p4), .val (.long q5), .second, .val (.int p6), .val (.int rm), .val (.long wt), .second, .val (.int kp), .val (.long b0), .second, .val (.long b1), .second, .val (.long b2), .second, .val (.long b3), .second, .val (.ref oa), .val (.ref ob), .val (.ref o4), .val (.int (1 : Int32)), .val (.long u3), .second] [(.ref o4)])) _
  refine XS.iconst Y12.here hx rfl (hb hby at_373) ?_
  show Steps p.tables e below (T12.setTop (mkF m 374 #[.val (.long q1), .second, .val (.long q2), .second, .val (.long q3), .second, .val (.int p4), .val (.long q5), .second, .val (.int p6), .val (.int rm), .val (.long wt), .second, .val (.int kp), .val (.long b0), .second, .val (.long b1), .second, .val (.long b2), .second, .val (.long b3), .second, .val (.ref oa), .val (.ref ob), .val (.ref o4), .val (.int (1 : Int32)), .val (.long u3), .second] [(.int (0 : Int32)), (.ref o4)])) _
  refine Y12.laload hx (j := (0 : Int32)) (v := (.long (own_or (own_f b0 b1 b2 b3) rm wt 4 q5))) (by rw [e12]; exact A4.1) (State.isArrayOf_alike hZ.alike A4.2.1) A4.2.2 (own_in (i := 0) (by decide) S4 (by decide)) (own_at (i := 0) (by decide) H4 (by decide)) (g := (mkF m 374 #[.val (.long q1), .second, .val (.long q2), .second, .val (.long q3), .second, .val (.int p4), .val (.long q5), .second, .val (.int p6), .val (.int rm), .val (.long wt), .second, .val (.int kp), .val (.long b0), .second, .val (.long b1), .second, .val (.long b2), .second, .val (.long b3), .second, .val (.ref oa), .val (.ref ob), .val (.ref o4), .val (.int (1 : Int32)), .val (.long u3), .second] [(.int (0 : Int32)), (.ref o4)])) rfl rfl (hb hby at_374) _ ?_
  show Steps p.tables e below (T12.setTop (mkF m 375 #[.val (.long q1), .second, .val (.long q2), .second, .val (.long q3), .second, .val (.int p4), .val (.long q5), .second, .val (.int p6), .val (.int rm), .val (.long wt), .second, .val (.int kp), .val (.long b0), .second, .val (.long b1), .second, .val (.long b2), .second, .val (.long b3), .second, .val (.ref oa), .val (.ref ob), .val (.ref o4), .val (.int (1 : Int32)), .val (.long u3), .second] [(.long (own_or (own_f b0 b1 b2 b3) rm wt 4 q5))])) _
  refine XS.lload Y12.here hx rfl (hb hby at_375) rfl ?_
  show Steps p.tables e below (T12.setTop (mkF m 377 #[.val (.long q1), .second, .val (.long q2), .second, .val (.long q3), .second, .val (.int p4), .val (.long q5), .second, .val (.int p6), .val (.int rm), .val (.long wt), .second, .val (.int kp), .val (.long b0), .second, .val (.long b1), .second, .val (.long b2), .second, .val (.long b3), .second, .val (.ref oa), .val (.ref ob), .val (.ref o4), .val (.int (1 : Int32)), .val (.long u3), .second] [(.long u3), (.long (own_or (own_f b0 b1 b2 b3) rm wt 4 q5))])) _
  refine XS.lcmp Y12.here hx rfl (hb hby at_377) rfl ?_
  show Steps p.tables e below (T12.setTop (mkF m 378 #[.val (.long q1), .second, .val (.long q2), .second, .val (.long q3), .second, .val (.int p4), .val (.long q5), .second, .val (.int p6), .val (.int rm), .val (.long wt), .second, .val (.int kp), .val (.long b0), .second, .val (.long b1), .second, .val (.long b2), .second, .val (.long b3), .second, .val (.ref oa), .val (.ref ob), .val (.ref o4), .val (.int (1 : Int32)), .val (.long u3), .second] [(.int (lcmpW (own_or (own_f b0 b1 b2 b3) rm wt 4 q5) u3))])) _
  refine XS.ifNo Y12.here hx rfl (hb hby at_378) rfl (own_lc_eq hbits).2 ?_
  show Steps p.tables e below (T12.setTop (mkF m 381 #[.val (.long q1), .second, .val (.long q2), .second, .val (.long q3), .second, .val (.int p4), .val (.long q5), .second, .val (.int p6), .val (.int rm), .val (.long wt), .second, .val (.int kp), .val (.long b0), .second, .val (.long b1), .second, .val (.long b2), .second, .val (.long b3), .second, .val (.ref oa), .val (.ref ob), .val (.ref o4), .val (.int (1 : Int32)), .val (.long u3), .second] [])) _
  refine XS.iconst Y12.here hx rfl (hb hby at_381) ?_
  show Steps p.tables e below (T12.setTop (mkF m 382 #[.val (.long q1), .second, .val (.long q2), .second, .val (.long q3), .second, .val (.int p4), .val (.long q5), .second, .val (.int p6), .val (.int rm), .val (.long wt), .second, .val (.int kp), .val (.long b0), .second, .val (.long b1), .second, .val (.long b2), .second, .val (.long b3), .second, .val (.ref oa), .val (.ref ob), .val (.ref o4), .val (.int (1 : Int32)), .val (.long u3), .second] [(.int (1 : Int32))])) _
  refine XS.goto Y12.here hx rfl (pc0 := 382) (pc' := 386) rfl (hb hby at_382) (by decide) (by decide) ?_
  show Steps p.tables e below (T12.setTop (mkF m 386 #[.val (.long q1), .second, .val (.long q2), .second, .val (.long q3), .second, .val (.int p4), .val (.long q5), .second, .val (.int p6), .val (.int rm), .val (.long wt), .second, .val (.int kp), .val (.long b0), .second, .val (.long b1), .second, .val (.long b2), .second, .val (.long b3), .second, .val (.ref oa), .val (.ref ob), .val (.ref o4), .val (.int (1 : Int32)), .val (.long u3), .second] [(.int (1 : Int32))])) _
  refine XS.istore Y12.here hx rfl (hb hby at_386) rfl (l' := #[.val (.long q1), .second, .val (.long q2), .second, .val (.long q3), .second, .val (.int p4), .val (.long q5), .second, .val (.int p6), .val (.int rm), .val (.long wt), .second, .val (.int kp), .val (.long b0), .second, .val (.long b1), .second, .val (.long b2), .second, .val (.long b3), .second, .val (.ref oa), .val (.ref ob), .val (.ref o4), .val (.int (1 : Int32)), .val (.long u3), .second]) rfl ?_
  show Steps p.tables e below (T12.setTop (mkF m 388 #[.val (.long q1), .second, .val (.long q2), .second, .val (.long q3), .second, .val (.int p4), .val (.long q5), .second, .val (.int p6), .val (.int rm), .val (.long wt), .second, .val (.int kp), .val (.long b0), .second, .val (.long b1), .second, .val (.long b2), .second, .val (.long b3), .second, .val (.ref oa), .val (.ref ob), .val (.ref o4), .val (.int (1 : Int32)), .val (.long u3), .second] [])) _
  refine XS.iload Y12.here hx rfl (hb hby at_388) rfl ?_
  show Steps p.tables e below (T12.setTop (mkF m 390 #[.val (.long q1), .second, .val (.long q2), .second, .val (.long q3), .second, .val (.int p4), .val (.long q5), .second, .val (.int p6), .val (.int rm), .val (.long wt), .second, .val (.int kp), .val (.long b0), .second, .val (.long b1), .second, .val (.long b2), .second, .val (.long b3), .second, .val (.ref oa), .val (.ref ob), .val (.ref o4), .val (.int (1 : Int32)), .val (.long u3), .second] [(.int (1 : Int32))])) _
  exact k
theorem ef_0 (m : MethodId) (x0 : Int64) (x1 : Int64) (x2 : Int64) (x3 : Int32) (x4 : Int64) (x5 : Int32) : entryFrame m #[(.long x0), (.long x1), (.long x2), (.int x3), (.long x4), (.int x5)] maxLocals = mkF m 0 #[.val (.long x0), .second, .val (.long x1), .second, .val (.long x2), .second, .val (.int x3), .val (.long x4), .second, .val (.int x5), .unset, .unset, .unset, .unset, .unset, .unset, .unset, .unset, .unset, .unset, .unset, .unset, .unset, .unset, .unset, .unset, .unset, .unset] [] := by first | (simp [entryFrame, mkF, argsToLocals, Value.category, maxLocals]; done) | rfl
def Q0 (Z : State) (q1 : Int64) (q2 : Int64) (q3 : Int64) (p4 : Int32) (q5 : Int64) (p6 : Int32) (h0 : Heap) (n0 : Nat) (v : Option Value) (h : Heap) (L : List Loc) : Prop := v = some (.int 1) ∧ Fr n0 L
set_option maxRecDepth 65536 in
set_option maxHeartbeats 40000000 in
theorem rm0 (l : Launch) (Z : State) (a0 : Array Value) (hw : ∀ d ∈ tables_1, d.before a0 Z = true) (ws : List Jvm.Cond) (q1 : Int64) (q2 : Int64) (q3 : Int64) (p4 : Int32) (q5 : Int64) (p6 : Int32) (h0 : Heap) (n0 : Nat) (Z0 : n0 ≤ h0.size) :
    MetFree l x (head1 (Jvm.Cond.code x code maxLocals ret :: ws) room_1) (fun a U => a = #[(.long q1), (.long q2), (.long q3), (.int p4), (.long q5), (.int p6)] ∧ Z.Warmed39 U.vm ∧ U.heap = h0) (fun _ _ _ _ _ => True) (fun _ U o U' => ∃ v L, o = .returned v ∧ Q0 Z q1 q2 q3 p4 q5 p6 h0 n0 v U'.heap L ∧ FrameEnd U o U' L room_1.cells room_1.slots) := by
  refine MetFree.of_bodySF (plainFor_of_name pn_3) hisR ?_
  intro p e s m args below meth c s₁ Bd hml0 hP hK
  obtain ⟨rfl, hZ, hh⟩ := hP
  have hx := Bd.exec
  have hby := Bd.bytes
  have hml : c.maxLocals = 28 := hml0
  have hown : s.vm.findClass "com/example/chromabin/chromabin/packing/RoomKnapsackIncludePinLaw" = some m.cls := findClass_of_methodNamed Bd.named
  have hnm := (name_of_methodNamed Bd.named Bd.method).1
  have X0 : Stand p l e room_1 s m #[(.long q1), (.long q2), (.long q3), (.int p4), (.long q5), (.int p6)] below meth c s₁ [] 0 0 := Stand.of_body Bd
  have e0 : s₁.heap = h0 := by rw [← hh, Bd.state]; rfl
  have N0 := Fr.nil n0
  have pre0 : ∀ t, Steps p.tables e below (s₁.setTop (mkF m 0 #[.val (.long q1), .second, .val (.long q2), .second, .val (.long q3), .second, .val (.int p4), .val (.long q5), .second, .val (.int p6), .unset, .unset, .unset, .unset, .unset, .unset, .unset, .unset, .unset, .unset, .unset, .unset, .unset, .unset, .unset, .unset, .unset, .unset] [])) t → Steps p.tables e below (s₁.setTop (entryFrame m #[(.long q1), (.long q2), (.long q3), (.int p4), (.long q5), (.int p6)] maxLocals)) t := fun t k => castTop (ef_0 m q1 q2 q3 p4 q5 p6) k
  obtain ⟨rm, wt, kp, hsA, sA⟩ : ∃ (rm : Int32) (wt : Int64) (kp : Int32), (0 ≤ rm.toInt) ∧ ∀ t, Steps p.tables e below (s₁.setTop (mkF m 28 #[.val (.long q1), .second, .val (.long q2), .second, .val (.long q3), .second, .val (.int p4), .val (.long q5), .second, .val (.int p6), .val (.int rm), .val (.long wt), .second, .val (.int kp), .unset, .unset, .unset, .unset, .unset, .unset, .unset, .unset, .unset, .unset, .unset, .unset, .unset, .unset] [])) t → Steps p.tables e below (s₁.setTop (mkF m 0 #[.val (.long q1), .second, .val (.long q2), .second, .val (.long q3), .second, .val (.int p4), .val (.long q5), .second, .val (.int p6), .unset, .unset, .unset, .unset, .unset, .unset, .unset, .unset, .unset, .unset, .unset, .unset, .unset, .unset, .unset, .unset, .unset, .unset] [])) t := by
    by_cases c18 : (p6 &&& (1 : Int32)) = (0 : Int32)
    · refine ⟨(p4 &&& (7 : Int32)), (q3 >>> ((24 : Int32) &&& 0x3f).toInt64), (0 : Int32), (c_and p4 (7 : Int32) (by decide)).1, fun t k => ?_⟩
      show Steps p.tables e below (s₁.setTop (mkF m 0 #[.val (.long q1), .second, .val (.long q2), .second, .val (.long q3), .second, .val (.int p4), .val (.long q5), .second, .val (.int p6), .unset, .unset, .unset, .unset, .unset, .unset, .unset, .unset, .unset, .unset, .unset, .unset, .unset, .unset, .unset, .unset, .unset, .unset] [])) _
      refine XS.iload X0.here hx rfl (hb hby at_0) rfl ?_
      show Steps p.tables e below (s₁.setTop (mkF m 2 #[.val (.long q1), .second, .val (.long q2), .second, .val (.long q3), .second, .val (.int p4), .val (.long q5), .second, .val (.int p6), .unset, .unset, .unset, .unset, .unset, .unset, .unset, .unset, .unset, .unset, .unset, .unset, .unset, .unset, .unset, .unset, .unset, .unset] [(.int p4)])) _
      refine XS.bipush X0.here hx rfl (hb hby at_2) ?_
      show Steps p.tables e below (s₁.setTop (mkF m 4 #[.val (.long q1), .second, .val (.long q2), .second, .val (.long q3), .second, .val (.int p4), .val (.long q5), .second, .val (.int p6), .unset, .unset, .unset, .unset, .unset, .unset, .unset, .unset, .unset, .unset, .unset, .unset, .unset, .unset, .unset, .unset, .unset, .unset] [(.int (7 : Int32)), (.int p4)])) _
      refine XS.iand X0.here hx rfl (hb hby at_4) rfl ?_
      show Steps p.tables e below (s₁.setTop (mkF m 5 #[.val (.long q1), .second, .val (.long q2), .second, .val (.long q3), .second, .val (.int p4), .val (.long q5), .second, .val (.int p6), .unset, .unset, .unset, .unset, .unset, .unset, .unset, .unset, .unset, .unset, .unset, .unset, .unset, .unset, .unset, .unset, .unset, .unset] [(.int (p4 &&& (7 : Int32)))])) _
      refine XS.istore X0.here hx rfl (hb hby at_5) rfl (l' := #[.val (.long q1), .second, .val (.long q2), .second, .val (.long q3), .second, .val (.int p4), .val (.long q5), .second, .val (.int p6), .val (.int (p4 &&& (7 : Int32))), .unset, .unset, .unset, .unset, .unset, .unset, .unset, .unset, .unset, .unset, .unset, .unset, .unset, .unset, .unset, .unset, .unset]) rfl ?_
      show Steps p.tables e below (s₁.setTop (mkF m 7 #[.val (.long q1), .second, .val (.long q2), .second, .val (.long q3), .second, .val (.int p4), .val (.long q5), .second, .val (.int p6), .val (.int (p4 &&& (7 : Int32))), .unset, .unset, .unset, .unset, .unset, .unset, .unset, .unset, .unset, .unset, .unset, .unset, .unset, .unset, .unset, .unset, .unset] [])) _
      refine XS.lload X0.here hx rfl (hb hby at_7) rfl ?_
      show Steps p.tables e below (s₁.setTop (mkF m 9 #[.val (.long q1), .second, .val (.long q2), .second, .val (.long q3), .second, .val (.int p4), .val (.long q5), .second, .val (.int p6), .val (.int (p4 &&& (7 : Int32))), .unset, .unset, .unset, .unset, .unset, .unset, .unset, .unset, .unset, .unset, .unset, .unset, .unset, .unset, .unset, .unset, .unset] [(.long q3)])) _
      refine XS.bipush X0.here hx rfl (hb hby at_9) ?_
      show Steps p.tables e below (s₁.setTop (mkF m 11 #[.val (.long q1), .second, .val (.long q2), .second, .val (.long q3), .second, .val (.int p4), .val (.long q5), .second, .val (.int p6), .val (.int (p4 &&& (7 : Int32))), .unset, .unset, .unset, .unset, .unset, .unset, .unset, .unset, .unset, .unset, .unset, .unset, .unset, .unset, .unset, .unset, .unset] [(.int (24 : Int32)), (.long q3)])) _
      refine XS.lshr X0.here hx rfl (hb hby at_11) rfl ?_
      show Steps p.tables e below (s₁.setTop (mkF m 12 #[.val (.long q1), .second, .val (.long q2), .second, .val (.long q3), .second, .val (.int p4), .val (.long q5), .second, .val (.int p6), .val (.int (p4 &&& (7 : Int32))), .unset, .unset, .unset, .unset, .unset, .unset, .unset, .unset, .unset, .unset, .unset, .unset, .unset, .unset, .unset, .unset, .unset] [(.long (q3 >>> ((24 : Int32) &&& 0x3f).toInt64))])) _
      refine XS.lstore X0.here hx rfl (hb hby at_12) rfl (l' := #[.val (.long q1), .second, .val (.long q2), .second, .val (.long q3), .second, .val (.int p4), .val (.long q5), .second, .val (.int p6), .val (.int (p4 &&& (7 : Int32))), .val (.long (q3 >>> ((24 : Int32) &&& 0x3f).toInt64)), .second, .unset, .unset, .unset, .unset, .unset, .unset, .unset, .unset, .unset, .unset, .unset, .unset, .unset, .unset, .unset]) rfl ?_
      show Steps p.tables e below (s₁.setTop (mkF m 14 #[.val (.long q1), .second, .val (.long q2), .second, .val (.long q3), .second, .val (.int p4), .val (.long q5), .second, .val (.int p6), .val (.int (p4 &&& (7 : Int32))), .val (.long (q3 >>> ((24 : Int32) &&& 0x3f).toInt64)), .second, .unset, .unset, .unset, .unset, .unset, .unset, .unset, .unset, .unset, .unset, .unset, .unset, .unset, .unset, .unset] [])) _
      refine XS.iload X0.here hx rfl (hb hby at_14) rfl ?_
      show Steps p.tables e below (s₁.setTop (mkF m 16 #[.val (.long q1), .second, .val (.long q2), .second, .val (.long q3), .second, .val (.int p4), .val (.long q5), .second, .val (.int p6), .val (.int (p4 &&& (7 : Int32))), .val (.long (q3 >>> ((24 : Int32) &&& 0x3f).toInt64)), .second, .unset, .unset, .unset, .unset, .unset, .unset, .unset, .unset, .unset, .unset, .unset, .unset, .unset, .unset, .unset] [(.int p6)])) _
      refine XS.iconst X0.here hx rfl (hb hby at_16) ?_
      show Steps p.tables e below (s₁.setTop (mkF m 17 #[.val (.long q1), .second, .val (.long q2), .second, .val (.long q3), .second, .val (.int p4), .val (.long q5), .second, .val (.int p6), .val (.int (p4 &&& (7 : Int32))), .val (.long (q3 >>> ((24 : Int32) &&& 0x3f).toInt64)), .second, .unset, .unset, .unset, .unset, .unset, .unset, .unset, .unset, .unset, .unset, .unset, .unset, .unset, .unset, .unset] [(.int (1 : Int32)), (.int p6)])) _
      refine XS.iand X0.here hx rfl (hb hby at_17) rfl ?_
      show Steps p.tables e below (s₁.setTop (mkF m 18 #[.val (.long q1), .second, .val (.long q2), .second, .val (.long q3), .second, .val (.int p4), .val (.long q5), .second, .val (.int p6), .val (.int (p4 &&& (7 : Int32))), .val (.long (q3 >>> ((24 : Int32) &&& 0x3f).toInt64)), .second, .unset, .unset, .unset, .unset, .unset, .unset, .unset, .unset, .unset, .unset, .unset, .unset, .unset, .unset, .unset] [(.int (p6 &&& (1 : Int32)))])) _
      refine XS.ifYes X0.here hx rfl (pc0 := 18) (pc' := 25) rfl (hb hby at_18) rfl ((if0 _ _).trans (teq c18).1) (by decide) (by decide) ?_
      show Steps p.tables e below (s₁.setTop (mkF m 25 #[.val (.long q1), .second, .val (.long q2), .second, .val (.long q3), .second, .val (.int p4), .val (.long q5), .second, .val (.int p6), .val (.int (p4 &&& (7 : Int32))), .val (.long (q3 >>> ((24 : Int32) &&& 0x3f).toInt64)), .second, .unset, .unset, .unset, .unset, .unset, .unset, .unset, .unset, .unset, .unset, .unset, .unset, .unset, .unset, .unset] [])) _
      refine XS.iconst X0.here hx rfl (hb hby at_25) ?_
      show Steps p.tables e below (s₁.setTop (mkF m 26 #[.val (.long q1), .second, .val (.long q2), .second, .val (.long q3), .second, .val (.int p4), .val (.long q5), .second, .val (.int p6), .val (.int (p4 &&& (7 : Int32))), .val (.long (q3 >>> ((24 : Int32) &&& 0x3f).toInt64)), .second, .unset, .unset, .unset, .unset, .unset, .unset, .unset, .unset, .unset, .unset, .unset, .unset, .unset, .unset, .unset] [(.int (0 : Int32))])) _
      refine XS.istore X0.here hx rfl (hb hby at_26) rfl (l' := #[.val (.long q1), .second, .val (.long q2), .second, .val (.long q3), .second, .val (.int p4), .val (.long q5), .second, .val (.int p6), .val (.int (p4 &&& (7 : Int32))), .val (.long (q3 >>> ((24 : Int32) &&& 0x3f).toInt64)), .second, .val (.int (0 : Int32)), .unset, .unset, .unset, .unset, .unset, .unset, .unset, .unset, .unset, .unset, .unset, .unset, .unset, .unset]) rfl ?_
      show Steps p.tables e below (s₁.setTop (mkF m 28 #[.val (.long q1), .second, .val (.long q2), .second, .val (.long q3), .second, .val (.int p4), .val (.long q5), .second, .val (.int p6), .val (.int (p4 &&& (7 : Int32))), .val (.long (q3 >>> ((24 : Int32) &&& 0x3f).toInt64)), .second, .val (.int (0 : Int32)), .unset, .unset, .unset, .unset, .unset, .unset, .unset, .unset, .unset, .unset, .unset, .unset, .unset, .unset] [])) _
      exact k
    · refine ⟨(p4 &&& (7 : Int32)), (q3 >>> ((24 : Int32) &&& 0x3f).toInt64), (1 : Int32), (c_and p4 (7 : Int32) (by decide)).1, fun t k => ?_⟩
      show Steps p.tables e below (s₁.setTop (mkF m 0 #[.val (.long q1), .second, .val (.long q2), .second, .val (.long q3), .second, .val (.int p4), .val (.long q5), .second, .val (.int p6), .unset, .unset, .unset, .unset, .unset, .unset, .unset, .unset, .unset, .unset, .unset, .unset, .unset, .unset, .unset, .unset, .unset, .unset] [])) _
      refine XS.iload X0.here hx rfl (hb hby at_0) rfl ?_
      show Steps p.tables e below (s₁.setTop (mkF m 2 #[.val (.long q1), .second, .val (.long q2), .second, .val (.long q3), .second, .val (.int p4), .val (.long q5), .second, .val (.int p6), .unset, .unset, .unset, .unset, .unset, .unset, .unset, .unset, .unset, .unset, .unset, .unset, .unset, .unset, .unset, .unset, .unset, .unset] [(.int p4)])) _
      refine XS.bipush X0.here hx rfl (hb hby at_2) ?_
      show Steps p.tables e below (s₁.setTop (mkF m 4 #[.val (.long q1), .second, .val (.long q2), .second, .val (.long q3), .second, .val (.int p4), .val (.long q5), .second, .val (.int p6), .unset, .unset, .unset, .unset, .unset, .unset, .unset, .unset, .unset, .unset, .unset, .unset, .unset, .unset, .unset, .unset, .unset, .unset] [(.int (7 : Int32)), (.int p4)])) _
      refine XS.iand X0.here hx rfl (hb hby at_4) rfl ?_
      show Steps p.tables e below (s₁.setTop (mkF m 5 #[.val (.long q1), .second, .val (.long q2), .second, .val (.long q3), .second, .val (.int p4), .val (.long q5), .second, .val (.int p6), .unset, .unset, .unset, .unset, .unset, .unset, .unset, .unset, .unset, .unset, .unset, .unset, .unset, .unset, .unset, .unset, .unset, .unset] [(.int (p4 &&& (7 : Int32)))])) _
      refine XS.istore X0.here hx rfl (hb hby at_5) rfl (l' := #[.val (.long q1), .second, .val (.long q2), .second, .val (.long q3), .second, .val (.int p4), .val (.long q5), .second, .val (.int p6), .val (.int (p4 &&& (7 : Int32))), .unset, .unset, .unset, .unset, .unset, .unset, .unset, .unset, .unset, .unset, .unset, .unset, .unset, .unset, .unset, .unset, .unset]) rfl ?_
      show Steps p.tables e below (s₁.setTop (mkF m 7 #[.val (.long q1), .second, .val (.long q2), .second, .val (.long q3), .second, .val (.int p4), .val (.long q5), .second, .val (.int p6), .val (.int (p4 &&& (7 : Int32))), .unset, .unset, .unset, .unset, .unset, .unset, .unset, .unset, .unset, .unset, .unset, .unset, .unset, .unset, .unset, .unset, .unset] [])) _
      refine XS.lload X0.here hx rfl (hb hby at_7) rfl ?_
      show Steps p.tables e below (s₁.setTop (mkF m 9 #[.val (.long q1), .second, .val (.long q2), .second, .val (.long q3), .second, .val (.int p4), .val (.long q5), .second, .val (.int p6), .val (.int (p4 &&& (7 : Int32))), .unset, .unset, .unset, .unset, .unset, .unset, .unset, .unset, .unset, .unset, .unset, .unset, .unset, .unset, .unset, .unset, .unset] [(.long q3)])) _
      refine XS.bipush X0.here hx rfl (hb hby at_9) ?_
      show Steps p.tables e below (s₁.setTop (mkF m 11 #[.val (.long q1), .second, .val (.long q2), .second, .val (.long q3), .second, .val (.int p4), .val (.long q5), .second, .val (.int p6), .val (.int (p4 &&& (7 : Int32))), .unset, .unset, .unset, .unset, .unset, .unset, .unset, .unset, .unset, .unset, .unset, .unset, .unset, .unset, .unset, .unset, .unset] [(.int (24 : Int32)), (.long q3)])) _
      refine XS.lshr X0.here hx rfl (hb hby at_11) rfl ?_
      show Steps p.tables e below (s₁.setTop (mkF m 12 #[.val (.long q1), .second, .val (.long q2), .second, .val (.long q3), .second, .val (.int p4), .val (.long q5), .second, .val (.int p6), .val (.int (p4 &&& (7 : Int32))), .unset, .unset, .unset, .unset, .unset, .unset, .unset, .unset, .unset, .unset, .unset, .unset, .unset, .unset, .unset, .unset, .unset] [(.long (q3 >>> ((24 : Int32) &&& 0x3f).toInt64))])) _
      refine XS.lstore X0.here hx rfl (hb hby at_12) rfl (l' := #[.val (.long q1), .second, .val (.long q2), .second, .val (.long q3), .second, .val (.int p4), .val (.long q5), .second, .val (.int p6), .val (.int (p4 &&& (7 : Int32))), .val (.long (q3 >>> ((24 : Int32) &&& 0x3f).toInt64)), .second, .unset, .unset, .unset, .unset, .unset, .unset, .unset, .unset, .unset, .unset, .unset, .unset, .unset, .unset, .unset]) rfl ?_
      show Steps p.tables e below (s₁.setTop (mkF m 14 #[.val (.long q1), .second, .val (.long q2), .second, .val (.long q3), .second, .val (.int p4), .val (.long q5), .second, .val (.int p6), .val (.int (p4 &&& (7 : Int32))), .val (.long (q3 >>> ((24 : Int32) &&& 0x3f).toInt64)), .second, .unset, .unset, .unset, .unset, .unset, .unset, .unset, .unset, .unset, .unset, .unset, .unset, .unset, .unset, .unset] [])) _
      refine XS.iload X0.here hx rfl (hb hby at_14) rfl ?_
      show Steps p.tables e below (s₁.setTop (mkF m 16 #[.val (.long q1), .second, .val (.long q2), .second, .val (.long q3), .second, .val (.int p4), .val (.long q5), .second, .val (.int p6), .val (.int (p4 &&& (7 : Int32))), .val (.long (q3 >>> ((24 : Int32) &&& 0x3f).toInt64)), .second, .unset, .unset, .unset, .unset, .unset, .unset, .unset, .unset, .unset, .unset, .unset, .unset, .unset, .unset, .unset] [(.int p6)])) _
      refine XS.iconst X0.here hx rfl (hb hby at_16) ?_
      show Steps p.tables e below (s₁.setTop (mkF m 17 #[.val (.long q1), .second, .val (.long q2), .second, .val (.long q3), .second, .val (.int p4), .val (.long q5), .second, .val (.int p6), .val (.int (p4 &&& (7 : Int32))), .val (.long (q3 >>> ((24 : Int32) &&& 0x3f).toInt64)), .second, .unset, .unset, .unset, .unset, .unset, .unset, .unset, .unset, .unset, .unset, .unset, .unset, .unset, .unset, .unset] [(.int (1 : Int32)), (.int p6)])) _
      refine XS.iand X0.here hx rfl (hb hby at_17) rfl ?_
      show Steps p.tables e below (s₁.setTop (mkF m 18 #[.val (.long q1), .second, .val (.long q2), .second, .val (.long q3), .second, .val (.int p4), .val (.long q5), .second, .val (.int p6), .val (.int (p4 &&& (7 : Int32))), .val (.long (q3 >>> ((24 : Int32) &&& 0x3f).toInt64)), .second, .unset, .unset, .unset, .unset, .unset, .unset, .unset, .unset, .unset, .unset, .unset, .unset, .unset, .unset, .unset] [(.int (p6 &&& (1 : Int32)))])) _
      refine XS.ifNo X0.here hx rfl (hb hby at_18) rfl ((if0 _ _).trans (feq c18).1) ?_
      show Steps p.tables e below (s₁.setTop (mkF m 21 #[.val (.long q1), .second, .val (.long q2), .second, .val (.long q3), .second, .val (.int p4), .val (.long q5), .second, .val (.int p6), .val (.int (p4 &&& (7 : Int32))), .val (.long (q3 >>> ((24 : Int32) &&& 0x3f).toInt64)), .second, .unset, .unset, .unset, .unset, .unset, .unset, .unset, .unset, .unset, .unset, .unset, .unset, .unset, .unset, .unset] [])) _
      refine XS.iconst X0.here hx rfl (hb hby at_21) ?_
      show Steps p.tables e below (s₁.setTop (mkF m 22 #[.val (.long q1), .second, .val (.long q2), .second, .val (.long q3), .second, .val (.int p4), .val (.long q5), .second, .val (.int p6), .val (.int (p4 &&& (7 : Int32))), .val (.long (q3 >>> ((24 : Int32) &&& 0x3f).toInt64)), .second, .unset, .unset, .unset, .unset, .unset, .unset, .unset, .unset, .unset, .unset, .unset, .unset, .unset, .unset, .unset] [(.int (1 : Int32))])) _
      refine XS.goto X0.here hx rfl (pc0 := 22) (pc' := 26) rfl (hb hby at_22) (by decide) (by decide) ?_
      show Steps p.tables e below (s₁.setTop (mkF m 26 #[.val (.long q1), .second, .val (.long q2), .second, .val (.long q3), .second, .val (.int p4), .val (.long q5), .second, .val (.int p6), .val (.int (p4 &&& (7 : Int32))), .val (.long (q3 >>> ((24 : Int32) &&& 0x3f).toInt64)), .second, .unset, .unset, .unset, .unset, .unset, .unset, .unset, .unset, .unset, .unset, .unset, .unset, .unset, .unset, .unset] [(.int (1 : Int32))])) _
      refine XS.istore X0.here hx rfl (hb hby at_26) rfl (l' := #[.val (.long q1), .second, .val (.long q2), .second, .val (.long q3), .second, .val (.int p4), .val (.long q5), .second, .val (.int p6), .val (.int (p4 &&& (7 : Int32))), .val (.long (q3 >>> ((24 : Int32) &&& 0x3f).toInt64)), .second, .val (.int (1 : Int32)), .unset, .unset, .unset, .unset, .unset, .unset, .unset, .unset, .unset, .unset, .unset, .unset, .unset, .unset]) rfl ?_
      show Steps p.tables e below (s₁.setTop (mkF m 28 #[.val (.long q1), .second, .val (.long q2), .second, .val (.long q3), .second, .val (.int p4), .val (.long q5), .second, .val (.int p6), .val (.int (p4 &&& (7 : Int32))), .val (.long (q3 >>> ((24 : Int32) &&& 0x3f).toInt64)), .second, .val (.int (1 : Int32)), .unset, .unset, .unset, .unset, .unset, .unset, .unset, .unset, .unset, .unset, .unset, .unset, .unset, .unset] [])) _
      exact k
  obtain ⟨b0, b1, b2, b3, hsB, sB⟩ : ∃ (b0 : Int64) (b1 : Int64) (b2 : Int64) (b3 : Int64), (True) ∧ ∀ t, Steps p.tables e below (s₁.setTop (mkF m 55 #[.val (.long q1), .second, .val (.long q2), .second, .val (.long q3), .second, .val (.int p4), .val (.long q5), .second, .val (.int p6), .val (.int rm), .val (.long wt), .second, .val (.int kp), .val (.long b0), .second, .val (.long b1), .second, .val (.long b2), .second, .val (.long b3), .second, .unset, .unset, .unset, .unset, .unset, .unset] [(.int (4 : Int32))])) t → Steps p.tables e below (s₁.setTop (mkF m 28 #[.val (.long q1), .second, .val (.long q2), .second, .val (.long q3), .second, .val (.int p4), .val (.long q5), .second, .val (.int p6), .val (.int rm), .val (.long wt), .second, .val (.int kp), .unset, .unset, .unset, .unset, .unset, .unset, .unset, .unset, .unset, .unset, .unset, .unset, .unset, .unset] [])) t := by
    refine ⟨((q1.toInt32).toInt64), ((((q1.toUInt64 >>> ((32 : Int32) &&& 0x3f).toInt64.toUInt64).toInt64).toInt32).toInt64), ((q2.toInt32).toInt64), ((((q2.toUInt64 >>> ((32 : Int32) &&& 0x3f).toInt64.toUInt64).toInt64).toInt32).toInt64), trivial, fun t k => ?_⟩
    show Steps p.tables e below (s₁.setTop (mkF m 28 #[.val (.long q1), .second, .val (.long q2), .second, .val (.long q3), .second, .val (.int p4), .val (.long q5), .second, .val (.int p6), .val (.int rm), .val (.long wt), .second, .val (.int kp), .unset, .unset, .unset, .unset, .unset, .unset, .unset, .unset, .unset, .unset, .unset, .unset, .unset, .unset] [])) _
    refine XS.lloadN X0.here hx rfl (hb hby at_28) rfl ?_
    show Steps p.tables e below (s₁.setTop (mkF m 29 #[.val (.long q1), .second, .val (.long q2), .second, .val (.long q3), .second, .val (.int p4), .val (.long q5), .second, .val (.int p6), .val (.int rm), .val (.long wt), .second, .val (.int kp), .unset, .unset, .unset, .unset, .unset, .unset, .unset, .unset, .unset, .unset, .unset, .unset, .unset, .unset] [(.long q1)])) _
    refine XS.l2i X0.here hx rfl (hb hby at_29) rfl ?_
    show Steps p.tables e below (s₁.setTop (mkF m 30 #[.val (.long q1), .second, .val (.long q2), .second, .val (.long q3), .second, .val (.int p4), .val (.long q5), .second, .val (.int p6), .val (.int rm), .val (.long wt), .second, .val (.int kp), .unset, .unset, .unset, .unset, .unset, .unset, .unset, .unset, .unset, .unset, .unset, .unset, .unset, .unset] [(.int (q1.toInt32))])) _
    refine XS.i2l X0.here hx rfl (hb hby at_30) rfl ?_
    show Steps p.tables e below (s₁.setTop (mkF m 31 #[.val (.long q1), .second, .val (.long q2), .second, .val (.long q3), .second, .val (.int p4), .val (.long q5), .second, .val (.int p6), .val (.int rm), .val (.long wt), .second, .val (.int kp), .unset, .unset, .unset, .unset, .unset, .unset, .unset, .unset, .unset, .unset, .unset, .unset, .unset, .unset] [(.long ((q1.toInt32).toInt64))])) _
    refine XS.lstore X0.here hx rfl (hb hby at_31) rfl (l' := #[.val (.long q1), .second, .val (.long q2), .second, .val (.long q3), .second, .val (.int p4), .val (.long q5), .second, .val (.int p6), .val (.int rm), .val (.long wt), .second, .val (.int kp), .val (.long ((q1.toInt32).toInt64)), .second, .unset, .unset, .unset, .unset, .unset, .unset, .unset, .unset, .unset, .unset, .unset, .unset]) rfl ?_
    show Steps p.tables e below (s₁.setTop (mkF m 33 #[.val (.long q1), .second, .val (.long q2), .second, .val (.long q3), .second, .val (.int p4), .val (.long q5), .second, .val (.int p6), .val (.int rm), .val (.long wt), .second, .val (.int kp), .val (.long ((q1.toInt32).toInt64)), .second, .unset, .unset, .unset, .unset, .unset, .unset, .unset, .unset, .unset, .unset, .unset, .unset] [])) _
    refine XS.lloadN X0.here hx rfl (hb hby at_33) rfl ?_
    show Steps p.tables e below (s₁.setTop (mkF m 34 #[.val (.long q1), .second, .val (.long q2), .second, .val (.long q3), .second, .val (.int p4), .val (.long q5), .second, .val (.int p6), .val (.int rm), .val (.long wt), .second, .val (.int kp), .val (.long ((q1.toInt32).toInt64)), .second, .unset, .unset, .unset, .unset, .unset, .unset, .unset, .unset, .unset, .unset, .unset, .unset] [(.long q1)])) _
    refine XS.bipush X0.here hx rfl (hb hby at_34) ?_
    show Steps p.tables e below (s₁.setTop (mkF m 36 #[.val (.long q1), .second, .val (.long q2), .second, .val (.long q3), .second, .val (.int p4), .val (.long q5), .second, .val (.int p6), .val (.int rm), .val (.long wt), .second, .val (.int kp), .val (.long ((q1.toInt32).toInt64)), .second, .unset, .unset, .unset, .unset, .unset, .unset, .unset, .unset, .unset, .unset, .unset, .unset] [(.int (32 : Int32)), (.long q1)])) _
    refine XS.lushr X0.here hx rfl (hb hby at_36) rfl ?_
    show Steps p.tables e below (s₁.setTop (mkF m 37 #[.val (.long q1), .second, .val (.long q2), .second, .val (.long q3), .second, .val (.int p4), .val (.long q5), .second, .val (.int p6), .val (.int rm), .val (.long wt), .second, .val (.int kp), .val (.long ((q1.toInt32).toInt64)), .second, .unset, .unset, .unset, .unset, .unset, .unset, .unset, .unset, .unset, .unset, .unset, .unset] [(.long ((q1.toUInt64 >>> ((32 : Int32) &&& 0x3f).toInt64.toUInt64).toInt64))])) _
    refine XS.l2i X0.here hx rfl (hb hby at_37) rfl ?_
    show Steps p.tables e below (s₁.setTop (mkF m 38 #[.val (.long q1), .second, .val (.long q2), .second, .val (.long q3), .second, .val (.int p4), .val (.long q5), .second, .val (.int p6), .val (.int rm), .val (.long wt), .second, .val (.int kp), .val (.long ((q1.toInt32).toInt64)), .second, .unset, .unset, .unset, .unset, .unset, .unset, .unset, .unset, .unset, .unset, .unset, .unset] [(.int (((q1.toUInt64 >>> ((32 : Int32) &&& 0x3f).toInt64.toUInt64).toInt64).toInt32))])) _
    refine XS.i2l X0.here hx rfl (hb hby at_38) rfl ?_
    show Steps p.tables e below (s₁.setTop (mkF m 39 #[.val (.long q1), .second, .val (.long q2), .second, .val (.long q3), .second, .val (.int p4), .val (.long q5), .second, .val (.int p6), .val (.int rm), .val (.long wt), .second, .val (.int kp), .val (.long ((q1.toInt32).toInt64)), .second, .unset, .unset, .unset, .unset, .unset, .unset, .unset, .unset, .unset, .unset, .unset, .unset] [(.long ((((q1.toUInt64 >>> ((32 : Int32) &&& 0x3f).toInt64.toUInt64).toInt64).toInt32).toInt64))])) _
    refine XS.lstore X0.here hx rfl (hb hby at_39) rfl (l' := #[.val (.long q1), .second, .val (.long q2), .second, .val (.long q3), .second, .val (.int p4), .val (.long q5), .second, .val (.int p6), .val (.int rm), .val (.long wt), .second, .val (.int kp), .val (.long ((q1.toInt32).toInt64)), .second, .val (.long ((((q1.toUInt64 >>> ((32 : Int32) &&& 0x3f).toInt64.toUInt64).toInt64).toInt32).toInt64)), .second, .unset, .unset, .unset, .unset, .unset, .unset, .unset, .unset, .unset, .unset]) rfl ?_
    show Steps p.tables e below (s₁.setTop (mkF m 41 #[.val (.long q1), .second, .val (.long q2), .second, .val (.long q3), .second, .val (.int p4), .val (.long q5), .second, .val (.int p6), .val (.int rm), .val (.long wt), .second, .val (.int kp), .val (.long ((q1.toInt32).toInt64)), .second, .val (.long ((((q1.toUInt64 >>> ((32 : Int32) &&& 0x3f).toInt64.toUInt64).toInt64).toInt32).toInt64)), .second, .unset, .unset, .unset, .unset, .unset, .unset, .unset, .unset, .unset, .unset] [])) _
    refine XS.lloadN X0.here hx rfl (hb hby at_41) rfl ?_
    show Steps p.tables e below (s₁.setTop (mkF m 42 #[.val (.long q1), .second, .val (.long q2), .second, .val (.long q3), .second, .val (.int p4), .val (.long q5), .second, .val (.int p6), .val (.int rm), .val (.long wt), .second, .val (.int kp), .val (.long ((q1.toInt32).toInt64)), .second, .val (.long ((((q1.toUInt64 >>> ((32 : Int32) &&& 0x3f).toInt64.toUInt64).toInt64).toInt32).toInt64)), .second, .unset, .unset, .unset, .unset, .unset, .unset, .unset, .unset, .unset, .unset] [(.long q2)])) _
    refine XS.l2i X0.here hx rfl (hb hby at_42) rfl ?_
    show Steps p.tables e below (s₁.setTop (mkF m 43 #[.val (.long q1), .second, .val (.long q2), .second, .val (.long q3), .second, .val (.int p4), .val (.long q5), .second, .val (.int p6), .val (.int rm), .val (.long wt), .second, .val (.int kp), .val (.long ((q1.toInt32).toInt64)), .second, .val (.long ((((q1.toUInt64 >>> ((32 : Int32) &&& 0x3f).toInt64.toUInt64).toInt64).toInt32).toInt64)), .second, .unset, .unset, .unset, .unset, .unset, .unset, .unset, .unset, .unset, .unset] [(.int (q2.toInt32))])) _
    refine XS.i2l X0.here hx rfl (hb hby at_43) rfl ?_
    show Steps p.tables e below (s₁.setTop (mkF m 44 #[.val (.long q1), .second, .val (.long q2), .second, .val (.long q3), .second, .val (.int p4), .val (.long q5), .second, .val (.int p6), .val (.int rm), .val (.long wt), .second, .val (.int kp), .val (.long ((q1.toInt32).toInt64)), .second, .val (.long ((((q1.toUInt64 >>> ((32 : Int32) &&& 0x3f).toInt64.toUInt64).toInt64).toInt32).toInt64)), .second, .unset, .unset, .unset, .unset, .unset, .unset, .unset, .unset, .unset, .unset] [(.long ((q2.toInt32).toInt64))])) _
    refine XS.lstore X0.here hx rfl (hb hby at_44) rfl (l' := #[.val (.long q1), .second, .val (.long q2), .second, .val (.long q3), .second, .val (.int p4), .val (.long q5), .second, .val (.int p6), .val (.int rm), .val (.long wt), .second, .val (.int kp), .val (.long ((q1.toInt32).toInt64)), .second, .val (.long ((((q1.toUInt64 >>> ((32 : Int32) &&& 0x3f).toInt64.toUInt64).toInt64).toInt32).toInt64)), .second, .val (.long ((q2.toInt32).toInt64)), .second, .unset, .unset, .unset, .unset, .unset, .unset, .unset, .unset]) rfl ?_
    show Steps p.tables e below (s₁.setTop (mkF m 46 #[.val (.long q1), .second, .val (.long q2), .second, .val (.long q3), .second, .val (.int p4), .val (.long q5), .second, .val (.int p6), .val (.int rm), .val (.long wt), .second, .val (.int kp), .val (.long ((q1.toInt32).toInt64)), .second, .val (.long ((((q1.toUInt64 >>> ((32 : Int32) &&& 0x3f).toInt64.toUInt64).toInt64).toInt32).toInt64)), .second, .val (.long ((q2.toInt32).toInt64)), .second, .unset, .unset, .unset, .unset, .unset, .unset, .unset, .unset] [])) _
    refine XS.lloadN X0.here hx rfl (hb hby at_46) rfl ?_
    show Steps p.tables e below (s₁.setTop (mkF m 47 #[.val (.long q1), .second, .val (.long q2), .second, .val (.long q3), .second, .val (.int p4), .val (.long q5), .second, .val (.int p6), .val (.int rm), .val (.long wt), .second, .val (.int kp), .val (.long ((q1.toInt32).toInt64)), .second, .val (.long ((((q1.toUInt64 >>> ((32 : Int32) &&& 0x3f).toInt64.toUInt64).toInt64).toInt32).toInt64)), .second, .val (.long ((q2.toInt32).toInt64)), .second, .unset, .unset, .unset, .unset, .unset, .unset, .unset, .unset] [(.long q2)])) _
    refine XS.bipush X0.here hx rfl (hb hby at_47) ?_
    show Steps p.tables e below (s₁.setTop (mkF m 49 #[.val (.long q1), .second, .val (.long q2), .second, .val (.long q3), .second, .val (.int p4), .val (.long q5), .second, .val (.int p6), .val (.int rm), .val (.long wt), .second, .val (.int kp), .val (.long ((q1.toInt32).toInt64)), .second, .val (.long ((((q1.toUInt64 >>> ((32 : Int32) &&& 0x3f).toInt64.toUInt64).toInt64).toInt32).toInt64)), .second, .val (.long ((q2.toInt32).toInt64)), .second, .unset, .unset, .unset, .unset, .unset, .unset, .unset, .unset] [(.int (32 : Int32)), (.long q2)])) _
    refine XS.lushr X0.here hx rfl (hb hby at_49) rfl ?_
    show Steps p.tables e below (s₁.setTop (mkF m 50 #[.val (.long q1), .second, .val (.long q2), .second, .val (.long q3), .second, .val (.int p4), .val (.long q5), .second, .val (.int p6), .val (.int rm), .val (.long wt), .second, .val (.int kp), .val (.long ((q1.toInt32).toInt64)), .second, .val (.long ((((q1.toUInt64 >>> ((32 : Int32) &&& 0x3f).toInt64.toUInt64).toInt64).toInt32).toInt64)), .second, .val (.long ((q2.toInt32).toInt64)), .second, .unset, .unset, .unset, .unset, .unset, .unset, .unset, .unset] [(.long ((q2.toUInt64 >>> ((32 : Int32) &&& 0x3f).toInt64.toUInt64).toInt64))])) _
    refine XS.l2i X0.here hx rfl (hb hby at_50) rfl ?_
    show Steps p.tables e below (s₁.setTop (mkF m 51 #[.val (.long q1), .second, .val (.long q2), .second, .val (.long q3), .second, .val (.int p4), .val (.long q5), .second, .val (.int p6), .val (.int rm), .val (.long wt), .second, .val (.int kp), .val (.long ((q1.toInt32).toInt64)), .second, .val (.long ((((q1.toUInt64 >>> ((32 : Int32) &&& 0x3f).toInt64.toUInt64).toInt64).toInt32).toInt64)), .second, .val (.long ((q2.toInt32).toInt64)), .second, .unset, .unset, .unset, .unset, .unset, .unset, .unset, .unset] [(.int (((q2.toUInt64 >>> ((32 : Int32) &&& 0x3f).toInt64.toUInt64).toInt64).toInt32))])) _
    refine XS.i2l X0.here hx rfl (hb hby at_51) rfl ?_
    show Steps p.tables e below (s₁.setTop (mkF m 52 #[.val (.long q1), .second, .val (.long q2), .second, .val (.long q3), .second, .val (.int p4), .val (.long q5), .second, .val (.int p6), .val (.int rm), .val (.long wt), .second, .val (.int kp), .val (.long ((q1.toInt32).toInt64)), .second, .val (.long ((((q1.toUInt64 >>> ((32 : Int32) &&& 0x3f).toInt64.toUInt64).toInt64).toInt32).toInt64)), .second, .val (.long ((q2.toInt32).toInt64)), .second, .unset, .unset, .unset, .unset, .unset, .unset, .unset, .unset] [(.long ((((q2.toUInt64 >>> ((32 : Int32) &&& 0x3f).toInt64.toUInt64).toInt64).toInt32).toInt64))])) _
    refine XS.lstore X0.here hx rfl (hb hby at_52) rfl (l' := #[.val (.long q1), .second, .val (.long q2), .second, .val (.long q3), .second, .val (.int p4), .val (.long q5), .second, .val (.int p6), .val (.int rm), .val (.long wt), .second, .val (.int kp), .val (.long ((q1.toInt32).toInt64)), .second, .val (.long ((((q1.toUInt64 >>> ((32 : Int32) &&& 0x3f).toInt64.toUInt64).toInt64).toInt32).toInt64)), .second, .val (.long ((q2.toInt32).toInt64)), .second, .val (.long ((((q2.toUInt64 >>> ((32 : Int32) &&& 0x3f).toInt64.toUInt64).toInt64).toInt32).toInt64)), .second, .unset, .unset, .unset, .unset, .unset, .unset]) rfl ?_
    show Steps p.tables e below (s₁.setTop (mkF m 54 #[.val (.long q1), .second, .val (.long q2), .second, .val (.long q3), .second, .val (.int p4), .val (.long q5), .second, .val (.int p6), .val (.int rm), .val (.long wt), .second, .val (.int kp), .val (.long ((q1.toInt32).toInt64)), .second, .val (.long ((((q1.toUInt64 >>> ((32 : Int32) &&& 0x3f).toInt64.toUInt64).toInt64).toInt32).toInt64)), .second, .val (.long ((q2.toInt32).toInt64)), .second, .val (.long ((((q2.toUInt64 >>> ((32 : Int32) &&& 0x3f).toInt64.toUInt64).toInt64).toInt32).toInt64)), .second, .unset, .unset, .unset, .unset, .unset, .unset] [])) _
    refine XS.iconst X0.here hx rfl (hb hby at_54) ?_
    show Steps p.tables e below (s₁.setTop (mkF m 55 #[.val (.long q1), .second, .val (.long q2), .second, .val (.long q3), .second, .val (.int p4), .val (.long q5), .second, .val (.int p6), .val (.int rm), .val (.long wt), .second, .val (.int kp), .val (.long ((q1.toInt32).toInt64)), .second, .val (.long ((((q1.toUInt64 >>> ((32 : Int32) &&& 0x3f).toInt64.toUInt64).toInt64).toInt32).toInt64)), .second, .val (.long ((q2.toInt32).toInt64)), .second, .val (.long ((((q2.toUInt64 >>> ((32 : Int32) &&& 0x3f).toInt64.toUInt64).toInt64).toInt32).toInt64)), .second, .unset, .unset, .unset, .unset, .unset, .unset] [(.int (4 : Int32))])) _
    exact k
  obtain ⟨T5, h5, k5, X5, e5, E5, A5, st5⟩ := newP X0 hx hZ (hw _ (List.mem_of_getElem? (i := 0) rfl)) e0 (g := (mkF m 55 #[.val (.long q1), .second, .val (.long q2), .second, .val (.long q3), .second, .val (.int p4), .val (.long q5), .second, .val (.int p6), .val (.int rm), .val (.long wt), .second, .val (.int kp), .val (.long b0), .second, .val (.long b1), .second, .val (.long b2), .second, .val (.long b3), .second, .unset, .unset, .unset, .unset, .unset, .unset] [(.int (4 : Int32))])) rfl (hb hby at_55) rfl (by decide) (cap := 4) (by decide) (by decide) (by decide) (by decide)
  obtain ⟨oa, g_oa⟩ : ∃ z, z = h0.size := ⟨_, rfl⟩
  rw [← g_oa] at A5 st5
  have V5 : own_ar Z h5 oa 4 (fun _ => 0) := own_newA A5 (by decide)
  have ga : n0 ≤ oa := Nat.le_trans Z0 (Nat.le_of_eq g_oa.symm)
  have Z5 : n0 ≤ h5.size := Nat.le_trans Z0 E5.1
  obtain ⟨cc6, AA6, SS6, HH6⟩ := V5
  obtain ⟨T6, h6, X6, e6, W6, st6⟩ := stJ X5 hx hZ e5 AA6 (j := (0 : Int32)) (own_in (i := 0) (by decide) SS6 (by decide)) (g := (mkF m 61 #[.val (.long q1), .second, .val (.long q2), .second, .val (.long q3), .second, .val (.int p4), .val (.long q5), .second, .val (.int p6), .val (.int rm), .val (.long wt), .second, .val (.int kp), .val (.long b0), .second, .val (.long b1), .second, .val (.long b2), .second, .val (.long b3), .second, .unset, .unset, .unset, .unset, .unset, .unset] [(.long b0), (.int (0 : Int32)), (.ref oa), (.ref oa)])) rfl rfl (hb hby at_61)
  have V6 := own_store AA6 SS6 HH6 W6 (show ((0 : Int32)).toNatClampNeg = 0 by decide)
  have N6 := Fr.snoc X6 N0 ga
  obtain ⟨cc7, AA7, SS7, HH7⟩ := V6
  obtain ⟨T7, h7, X7, e7, W7, st7⟩ := stJ X6 hx hZ e6 AA7 (j := (1 : Int32)) (own_in (i := 1) (by decide) SS7 (by decide)) (g := (mkF m 66 #[.val (.long q1), .second, .val (.long q2), .second, .val (.long q3), .second, .val (.int p4), .val (.long q5), .second, .val (.int p6), .val (.int rm), .val (.long wt), .second, .val (.int kp), .val (.long b0), .second, .val (.long b1), .second, .val (.long b2), .second, .val (.long b3), .second, .unset, .unset, .unset, .unset, .unset, .unset] [(.long b1), (.int (1 : Int32)), (.ref oa), (.ref oa)])) rfl rfl (hb hby at_66)
  have V7 := own_store AA7 SS7 HH7 W7 (show ((1 : Int32)).toNatClampNeg = 1 by decide)
  have N7 := Fr.snoc X7 N6 ga
  obtain ⟨cc8, AA8, SS8, HH8⟩ := V7
  obtain ⟨T8, h8, X8, e8, W8, st8⟩ := stJ X7 hx hZ e7 AA8 (j := (2 : Int32)) (own_in (i := 2) (by decide) SS8 (by decide)) (g := (mkF m 71 #[.val (.long q1), .second, .val (.long q2), .second, .val (.long q3), .second, .val (.int p4), .val (.long q5), .second, .val (.int p6), .val (.int rm), .val (.long wt), .second, .val (.int kp), .val (.long b0), .second, .val (.long b1), .second, .val (.long b2), .second, .val (.long b3), .second, .unset, .unset, .unset, .unset, .unset, .unset] [(.long b2), (.int (2 : Int32)), (.ref oa), (.ref oa)])) rfl rfl (hb hby at_71)
  have V8 := own_store AA8 SS8 HH8 W8 (show ((2 : Int32)).toNatClampNeg = 2 by decide)
  have N8 := Fr.snoc X8 N7 ga
  obtain ⟨cc9, AA9, SS9, HH9⟩ := V8
  obtain ⟨T9, h9, X9, e9, W9, st9⟩ := stJ X8 hx hZ e8 AA9 (j := (3 : Int32)) (own_in (i := 3) (by decide) SS9 (by decide)) (g := (mkF m 76 #[.val (.long q1), .second, .val (.long q2), .second, .val (.long q3), .second, .val (.int p4), .val (.long q5), .second, .val (.int p6), .val (.int rm), .val (.long wt), .second, .val (.int kp), .val (.long b0), .second, .val (.long b1), .second, .val (.long b2), .second, .val (.long b3), .second, .unset, .unset, .unset, .unset, .unset, .unset] [(.long b3), (.int (3 : Int32)), (.ref oa), (.ref oa)])) rfl rfl (hb hby at_76)
  have V9 := own_store AA9 SS9 HH9 W9 (show ((3 : Int32)).toNatClampNeg = 3 by decide)
  have N9 := Fr.snoc X9 N8 ga
  have Va : own_ar Z h9 oa 4 (own_f b0 b1 b2 b3) := own_congr V9 (own_four b0 b1 b2 b3)
  have Z9 : n0 ≤ h9.size := by rw [W9.size, W8.size, W7.size, W6.size]; exact Z5
  obtain ⟨T10, h10, k10, X10, e10, E10, A10, st10⟩ := newP X9 hx hZ (hw _ (List.mem_of_getElem? (i := 0) rfl)) e9 (g := (mkF m 80 #[.val (.long q1), .second, .val (.long q2), .second, .val (.long q3), .second, .val (.int p4), .val (.long q5), .second, .val (.int p6), .val (.int rm), .val (.long wt), .second, .val (.int kp), .val (.long b0), .second, .val (.long b1), .second, .val (.long b2), .second, .val (.long b3), .second, .val (.ref oa), .unset, .unset, .unset, .unset, .unset] [(.int (4 : Int32))])) rfl (hb hby at_80) rfl (by decide) (cap := 4) (by decide) (by decide) (by decide) (by decide)
  obtain ⟨ob, g_ob⟩ : ∃ z, z = h9.size := ⟨_, rfl⟩
  rw [← g_ob] at A10 st10
  have V10 : own_ar Z h10 ob 4 (fun _ => 0) := own_newA A10 (by decide)
  have gb : n0 ≤ ob := Nat.le_trans Z9 (Nat.le_of_eq g_ob.symm)
  have nab : oa ≠ ob := Nat.ne_of_lt (Nat.lt_of_lt_of_le (own_lt Va) (Nat.le_of_eq g_ob.symm))
  have Z10 : n0 ≤ h10.size := Nat.le_trans Z9 E10.1
  obtain ⟨cc11, AA11, SS11, HH11⟩ := V10
  obtain ⟨T11, h11, X11, e11, W11, st11⟩ := stJ X10 hx hZ e10 AA11 (j := (0 : Int32)) (own_in (i := 0) (by decide) SS11 (by decide)) (g := (mkF m 86 #[.val (.long q1), .second, .val (.long q2), .second, .val (.long q3), .second, .val (.int p4), .val (.long q5), .second, .val (.int p6), .val (.int rm), .val (.long wt), .second, .val (.int kp), .val (.long b0), .second, .val (.long b1), .second, .val (.long b2), .second, .val (.long b3), .second, .val (.ref oa), .unset, .unset, .unset, .unset, .unset] [(.long b0), (.int (0 : Int32)), (.ref ob), (.ref ob)])) rfl rfl (hb hby at_86)
  have V11 := own_store AA11 SS11 HH11 W11 (show ((0 : Int32)).toNatClampNeg = 0 by decide)
  have N11 := Fr.snoc X11 N9 gb
  obtain ⟨cc12, AA12, SS12, HH12⟩ := V11
  obtain ⟨T12, h12, X12, e12, W12, st12⟩ := stJ X11 hx hZ e11 AA12 (j := (1 : Int32)) (own_in (i := 1) (by decide) SS12 (by decide)) (g := (mkF m 91 #[.val (.long q1), .second, .val (.long q2), .second, .val (.long q3), .second, .val (.int p4), .val (.long q5), .second, .val (.int p6), .val (.int rm), .val (.long wt), .second, .val (.int kp), .val (.long b0), .second, .val (.long b1), .second, .val (.long b2), .second, .val (.long b3), .second, .val (.ref oa), .unset, .unset, .unset, .unset, .unset] [(.long b1), (.int (1 : Int32)), (.ref ob), (.ref ob)])) rfl rfl (hb hby at_91)
  have V12 := own_store AA12 SS12 HH12 W12 (show ((1 : Int32)).toNatClampNeg = 1 by decide)
  have N12 := Fr.snoc X12 N11 gb
  obtain ⟨cc13, AA13, SS13, HH13⟩ := V12
  obtain ⟨T13, h13, X13, e13, W13, st13⟩ := stJ X12 hx hZ e12 AA13 (j := (2 : Int32)) (own_in (i := 2) (by decide) SS13 (by decide)) (g := (mkF m 96 #[.val (.long q1), .second, .val (.long q2), .second, .val (.long q3), .second, .val (.int p4), .val (.long q5), .second, .val (.int p6), .val (.int rm), .val (.long wt), .second, .val (.int kp), .val (.long b0), .second, .val (.long b1), .second, .val (.long b2), .second, .val (.long b3), .second, .val (.ref oa), .unset, .unset, .unset, .unset, .unset] [(.long b2), (.int (2 : Int32)), (.ref ob), (.ref ob)])) rfl rfl (hb hby at_96)
  have V13 := own_store AA13 SS13 HH13 W13 (show ((2 : Int32)).toNatClampNeg = 2 by decide)
  have N13 := Fr.snoc X13 N12 gb
  obtain ⟨cc14, AA14, SS14, HH14⟩ := V13
  obtain ⟨T14, h14, X14, e14, W14, st14⟩ := stJ X13 hx hZ e13 AA14 (j := (3 : Int32)) (own_in (i := 3) (by decide) SS14 (by decide)) (g := (mkF m 101 #[.val (.long q1), .second, .val (.long q2), .second, .val (.long q3), .second, .val (.int p4), .val (.long q5), .second, .val (.int p6), .val (.int rm), .val (.long wt), .second, .val (.int kp), .val (.long b0), .second, .val (.long b1), .second, .val (.long b2), .second, .val (.long b3), .second, .val (.ref oa), .unset, .unset, .unset, .unset, .unset] [(.long b3), (.int (3 : Int32)), (.ref ob), (.ref ob)])) rfl rfl (hb hby at_101)
  have V14 := own_store AA14 SS14 HH14 W14 (show ((3 : Int32)).toNatClampNeg = 3 by decide)
  have N14 := Fr.snoc X14 N13 gb
  have Vb : own_ar Z h14 ob 4 (own_f b0 b1 b2 b3) := own_congr V14 (own_four b0 b1 b2 b3)
  have Va' : own_ar Z h14 oa 4 (own_f b0 b1 b2 b3) := own_other (own_other (own_other (own_other (own_ext Va E10) W11 nab) W12 nab) W13 nab) W14 nab
  have Z14 : n0 ≤ h14.size := by rw [W14.size, W13.size, W12.size, W11.size]; exact Z10
  by_cases ck : kp = (0 : Int32)
  · obtain ⟨_, _, ⟨T20, L20, k20, n20⟩, -, X20, ⟨Lc20, hQ20, l20, y20, z20⟩, st20⟩ := Jvm.LawKit.callS X14 hx (y := site_131) hown (mvT hZ (hw _ (List.mem_of_getElem? (i := 1) rfl))) (mvT hZ (hw _ (List.mem_of_getElem? (i := 2) rfl))) (mvT hZ (hw _ (List.mem_of_getElem? (i := 3) rfl))) (mvT hZ (hw _ (List.mem_of_getElem? (i := 4) rfl))) (by decide) (backOf (W := 0) (rm1N l Z a0 hw [] ob rm wt (own_f b0 b1 b2 b3) q5 h14 n0 Z14 Vb gb hsA) hZ (hw _ (List.mem_of_getElem? (i := 4) rfl)) (hw _ (List.mem_of_getElem? (i := 3) rfl)) (by decide) (by decide)) (g := (mkF m 131 #[.val (.long q1), .second, .val (.long q2), .second, .val (.long q3), .second, .val (.int p4), .val (.long q5), .second, .val (.int p6), .val (.int rm), .val (.long wt), .second, .val (.int kp), .val (.long b0), .second, .val (.long b1), .second, .val (.long b2), .second, .val (.long b3), .second, .val (.ref oa), .val (.ref ob), .val .null, .unset, .unset, .unset] [.null, (.long wt), (.int rm), (.ref ob)])) rfl (by rw [hml]; rfl) (argsL := [(.ref ob), (.int rm), (.long wt), .null]) (rest := []) (lenOf pd_1 rfl) rfl (by show 2 * 0 + _ ≤ _; exact Nat.le_of_eq rfl) (hb hby at_131) (fun _ _ => ⟨rfl, e14, (by decide : 2 + 0 ≤ _), (by decide : 8 + 0 ≤ _)⟩)
    dsimp only [Pt.U, Pt.locs, Pt.cells, Pt.slots] at X20 l20 y20 z20 st20 hQ20
    subst l20 y20 z20
    obtain ⟨rfl, N20q, K20, W20⟩ := hQ20
    have N20 := Fr.app N14 N20q
    have Z20 : n0 ≤ T20.heap.size := Nat.le_trans Z14 K20.1
    have Va2 := own_keep Va' K20 (by simpa using nab)
    obtain ⟨T21, L21, Ls, X21, N21, st21⟩ := tlN hw q1 q2 q3 p4 q5 p6 rm wt kp b0 b1 b2 b3 oa ob n0 X20 (by decide) (by decide) hx hZ hby hml hown rfl N20 Z20 hsA Va2 W20
    obtain ⟨fs, hr, hrun, hended, hW, hsame⟩ := X21.leave (v := some (.int (1 : Int32))) (fun h => by rw [Bd.returns] at h; cases h)
    refine ⟨_, _, pre0 _ ?_, hrun, hended, _, _, rfl, ?_, ⟨_, rfl⟩, hW, hsame.mono (by decide) (by decide)⟩
    · refine sA _ ?_
      refine sB _ ?_
      show Steps p.tables e below (s₁.setTop (mkF m 55 #[.val (.long q1), .second, .val (.long q2), .second, .val (.long q3), .second, .val (.int p4), .val (.long q5), .second, .val (.int p6), .val (.int rm), .val (.long wt), .second, .val (.int kp), .val (.long b0), .second, .val (.long b1), .second, .val (.long b2), .second, .val (.long b3), .second, .unset, .unset, .unset, .unset, .unset, .unset] [(.int (4 : Int32))])) _
      refine st5 _ ?_
      show Steps p.tables e below (T5.setTop (mkF m 57 #[.val (.long q1), .second, .val (.long q2), .second, .val (.long q3), .second, .val (.int p4), .val (.long q5), .second, .val (.int p6), .val (.int rm), .val (.long wt), .second, .val (.int kp), .val (.long b0), .second, .val (.long b1), .second, .val (.long b2), .second, .val (.long b3), .second, .unset, .unset, .unset, .unset, .unset, .unset] [(.ref oa)])) _
      refine XS.dup X5.here hx rfl (hb hby at_57) rfl rfl ?_
      show Steps p.tables e below (T5.setTop (mkF m 58 #[.val (.long q1), .second, .val (.long q2), .second, .val (.long q3), .second, .val (.int p4), .val (.long q5), .second, .val (.int p6), .val (.int rm), .val (.long wt), .second, .val (.int kp), .val (.long b0), .second, .val (.long b1), .second, .val (.long b2), .second, .val (.long b3), .second, .unset, .unset, .unset, .unset, .unset, .unset] [(.ref oa), (.ref oa)])) _
      refine XS.iconst X5.here hx rfl (hb hby at_58) ?_
      show Steps p.tables e below (T5.setTop (mkF m 59 #[.val (.long q1), .second, .val (.long q2), .second, .val (.long q3), .second, .val (.int p4), .val (.long q5), .second, .val (.int p6), .val (.int rm), .val (.long wt), .second, .val (.int kp), .val (.long b0), .second, .val (.long b1), .second, .val (.long b2), .second, .val (.long b3), .second, .unset, .unset, .unset, .unset, .unset, .unset] [(.int (0 : Int32)), (.ref oa), (.ref oa)])) _
      refine XS.lload X5.here hx rfl (hb hby at_59) rfl ?_
      show Steps p.tables e below (T5.setTop (mkF m 61 #[.val (.long q1), .second, .val (.long q2), .second, .val (.long q3), .second, .val (.int p4), .val (.long q5), .second, .val (.int p6), .val (.int rm), .val (.long wt), .second, .val (.int kp), .val (.long b0), .second, .val (.long b1), .second, .val (.long b2), .second, .val (.long b3), .second, .unset, .unset, .unset, .unset, .unset, .unset] [(.long b0), (.int (0 : Int32)), (.ref oa), (.ref oa)])) _
      refine st6 _ ?_
      show Steps p.tables e below (T6.setTop (mkF m 62 #[.val (.long q1), .second, .val (.long q2), .second, .val (.long q3), .second, .val (.int p4), .val (.long q5), .second, .val (.int p6), .val (.int rm), .val (.long wt), .second, .val (.int kp), .val (.long b0), .second, .val (.long b1), .second, .val (.long b2), .second, .val (.long b3), .second, .unset, .unset, .unset, .unset, .unset, .unset] [(.ref oa)])) _
      refine XS.dup X6.here hx rfl (hb hby at_62) rfl rfl ?_
      show Steps p.tables e below (T6.setTop (mkF m 63 #[.val (.long q1), .second, .val (.long q2), .second, .val (.long q3), .second, .val (.int p4), .val (.long q5), .second, .val (.int p6), .val (.int rm), .val (.long wt), .second, .val (.int kp), .val (.long b0), .second, .val (.long b1), .second, .val (.long b2), .second, .val (.long b3), .second, .unset, .unset, .unset, .unset, .unset, .unset] [(.ref oa), (.ref oa)])) _
      refine XS.iconst X6.here hx rfl (hb hby at_63) ?_
      show Steps p.tables e below (T6.setTop (mkF m 64 #[.val (.long q1), .second, .val (.long q2), .second, .val (.long q3), .second, .val (.int p4), .val (.long q5), .second, .val (.int p6), .val (.int rm), .val (.long wt), .second, .val (.int kp), .val (.long b0), .second, .val (.long b1), .second, .val (.long b2), .second, .val (.long b3), .second, .unset, .unset, .unset, .unset, .unset, .unset] [(.int (1 : Int32)), (.ref oa), (.ref oa)])) _
      refine XS.lload X6.here hx rfl (hb hby at_64) rfl ?_
      show Steps p.tables e below (T6.setTop (mkF m 66 #[.val (.long q1), .second, .val (.long q2), .second, .val (.long q3), .second, .val (.int p4), .val (.long q5), .second, .val (.int p6), .val (.int rm), .val (.long wt), .second, .val (.int kp), .val (.long b0), .second, .val (.long b1), .second, .val (.long b2), .second, .val (.long b3), .second, .unset, .unset, .unset, .unset, .unset, .unset] [(.long b1), (.int (1 : Int32)), (.ref oa), (.ref oa)])) _
      refine st7 _ ?_
      show Steps p.tables e below (T7.setTop (mkF m 67 #[.val (.long q1), .second, .val (.long q2), .second, .val (.long q3), .second, .val (.int p4), .val (.long q5), .second, .val (.int p6), .val (.int rm), .val (.long wt), .second, .val (.int kp), .val (.long b0), .second, .val (.long b1), .second, .val (.long b2), .second, .val (.long b3), .second, .unset, .unset, .unset, .unset, .unset, .unset] [(.ref oa)])) _
      refine XS.dup X7.here hx rfl (hb hby at_67) rfl rfl ?_
      show Steps p.tables e below (T7.setTop (mkF m 68 #[.val (.long q1), .second, .val (.long q2), .second, .val (.long q3), .second, .val (.int p4), .val (.long q5), .second, .val (.int p6), .val (.int rm), .val (.long wt), .second, .val (.int kp), .val (.long b0), .second, .val (.long b1), .second, .val (.long b2), .second, .val (.long b3), .second, .unset, .unset, .unset, .unset, .unset, .unset] [(.ref oa), (.ref oa)])) _
      refine XS.iconst X7.here hx rfl (hb hby at_68) ?_
      show Steps p.tables e below (T7.setTop (mkF m 69 #[.val (.long q1), .second, .val (.long q2), .second, .val (.long q3), .second, .val (.int p4), .val (.long q5), .second, .val (.int p6), .val (.int rm), .val (.long wt), .second, .val (.int kp), .val (.long b0), .second, .val (.long b1), .second, .val (.long b2), .second, .val (.long b3), .second, .unset, .unset, .unset, .unset, .unset, .unset] [(.int (2 : Int32)), (.ref oa), (.ref oa)])) _
      refine XS.lload X7.here hx rfl (hb hby at_69) rfl ?_
      show Steps p.tables e below (T7.setTop (mkF m 71 #[.val (.long q1), .second, .val (.long q2), .second, .val (.long q3), .second, .val (.int p4), .val (.long q5), .second, .val (.int p6), .val (.int rm), .val (.long wt), .second, .val (.int kp), .val (.long b0), .second, .val (.long b1), .second, .val (.long b2), .second, .val (.long b3), .second, .unset, .unset, .unset, .unset, .unset, .unset] [(.long b2), (.int (2 : Int32)), (.ref oa), (.ref oa)])) _
      refine st8 _ ?_
      show Steps p.tables e below (T8.setTop (mkF m 72 #[.val (.long q1), .second, .val (.long q2), .second, .val (.long q3), .second, .val (.int p4), .val (.long q5), .second, .val (.int p6), .val (.int rm), .val (.long wt), .second, .val (.int kp), .val (.long b0), .second, .val (.long b1), .second, .val (.long b2), .second, .val (.long b3), .second, .unset, .unset, .unset, .unset, .unset, .unset] [(.ref oa)])) _
      refine XS.dup X8.here hx rfl (hb hby at_72) rfl rfl ?_
      show Steps p.tables e below (T8.setTop (mkF m 73 #[.val (.long q1), .second, .val (.long q2), .second, .val (.long q3), .second, .val (.int p4), .val (.long q5), .second, .val (.int p6), .val (.int rm), .val (.long wt), .second, .val (.int kp), .val (.long b0), .second, .val (.long b1), .second, .val (.long b2), .second, .val (.long b3), .second, .unset, .unset, .unset, .unset, .unset, .unset] [(.ref oa), (.ref oa)])) _
      refine XS.iconst X8.here hx rfl (hb hby at_73) ?_
      show Steps p.tables e below (T8.setTop (mkF m 74 #[.val (.long q1), .second, .val (.long q2), .second, .val (.long q3), .second, .val (.int p4), .val (.long q5), .second, .val (.int p6), .val (.int rm), .val (.long wt), .second, .val (.int kp), .val (.long b0), .second, .val (.long b1), .second, .val (.long b2), .second, .val (.long b3), .second, .unset, .unset, .unset, .unset, .unset, .unset] [(.int (3 : Int32)), (.ref oa), (.ref oa)])) _
      refine XS.lload X8.here hx rfl (hb hby at_74) rfl ?_
      show Steps p.tables e below (T8.setTop (mkF m 76 #[.val (.long q1), .second, .val (.long q2), .second, .val (.long q3), .second, .val (.int p4), .val (.long q5), .second, .val (.int p6), .val (.int rm), .val (.long wt), .second, .val (.int kp), .val (.long b0), .second, .val (.long b1), .second, .val (.long b2), .second, .val (.long b3), .second, .unset, .unset, .unset, .unset, .unset, .unset] [(.long b3), (.int (3 : Int32)), (.ref oa), (.ref oa)])) _
      refine st9 _ ?_
      show Steps p.tables e below (T9.setTop (mkF m 77 #[.val (.long q1), .second, .val (.long q2), .second, .val (.long q3), .second, .val (.int p4), .val (.long q5), .second, .val (.int p6), .val (.int rm), .val (.long wt), .second, .val (.int kp), .val (.long b0), .second, .val (.long b1), .second, .val (.long b2), .second, .val (.long b3), .second, .unset, .unset, .unset, .unset, .unset, .unset] [(.ref oa)])) _
      refine XS.astore X9.here hx rfl (hb hby at_77) rfl rfl (l' := #[.val (.long q1), .second, .val (.long q2), .second, .val (.long q3), .second, .val (.int p4), .val (.long q5), .second, .val (.int p6), .val (.int rm), .val (.long wt), .second, .val (.int kp), .val (.long b0), .second, .val (.long b1), .second, .val (.long b2), .second, .val (.long b3), .second, .val (.ref oa), .unset, .unset, .unset, .unset, .unset]) rfl ?_
      show Steps p.tables e below (T9.setTop (mkF m 79 #[.val (.long q1), .second, .val (.long q2), .second, .val (.long q3), .second, .val (.int p4), .val (.long q5), .second, .val (.int p6), .val (.int rm), .val (.long wt), .second, .val (.int kp), .val (.long b0), .second, .val (.long b1), .second, .val (.long b2), .second, .val (.long b3), .second, .val (.ref oa), .unset, .unset, .unset, .unset, .unset] [])) _
      refine XS.iconst X9.here hx rfl (hb hby at_79) ?_
      show Steps p.tables e below (T9.setTop (mkF m 80 #[.val (.long q1), .second, .val (.long q2), .second, .val (.long q3), .second, .val (.int p4), .val (.long q5), .second, .val (.int p6), .val (.int rm), .val (.long wt), .second, .val (.int kp), .val (.long b0), .second, .val (.long b1), .second, .val (.long b2), .second, .val (.long b3), .second, .val (.ref oa), .unset, .unset, .unset, .unset, .unset] [(.int (4 : Int32))])) _
      refine st10 _ ?_
      show Steps p.tables e below (T10.setTop (mkF m 82 #[.val (.long q1), .second, .val (.long q2), .second, .val (.long q3), .second, .val (.int p4), .val (.long q5), .second, .val (.int p6), .val (.int rm), .val (.long wt), .second, .val (.int kp), .val (.long b0), .second, .val (.long b1), .second, .val (.long b2), .second, .val (.long b3), .second, .val (.ref oa), .unset, .unset, .unset, .unset, .unset] [(.ref ob)])) _
      refine XS.dup X10.here hx rfl (hb hby at_82) rfl rfl ?_
      show Steps p.tables e below (T10.setTop (mkF m 83 #[.val (.long q1), .second, .val (.long q2), .second, .val (.long q3), .second, .val (.int p4), .val (.long q5), .second, .val (.int p6), .val (.int rm), .val (.long wt), .second, .val (.int kp), .val (.long b0), .second, .val (.long b1), .second, .val (.long b2), .second, .val (.long b3), .second, .val (.ref oa), .unset, .unset, .unset, .unset, .unset] [(.ref ob), (.ref ob)])) _
      refine XS.iconst X10.here hx rfl (hb hby at_83) ?_
      show Steps p.tables e below (T10.setTop (mkF m 84 #[.val (.long q1), .second, .val (.long q2), .second, .val (.long q3), .second, .val (.int p4), .val (.long q5), .second, .val (.int p6), .val (.int rm), .val (.long wt), .second, .val (.int kp), .val (.long b0), .second, .val (.long b1), .second, .val (.long b2), .second, .val (.long b3), .second, .val (.ref oa), .unset, .unset, .unset, .unset, .unset] [(.int (0 : Int32)), (.ref ob), (.ref ob)])) _
      refine XS.lload X10.here hx rfl (hb hby at_84) rfl ?_
      show Steps p.tables e below (T10.setTop (mkF m 86 #[.val (.long q1), .second, .val (.long q2), .second, .val (.long q3), .second, .val (.int p4), .val (.long q5), .second, .val (.int p6), .val (.int rm), .val (.long wt), .second, .val (.int kp), .val (.long b0), .second, .val (.long b1), .second, .val (.long b2), .second, .val (.long b3), .second, .val (.ref oa), .unset, .unset, .unset, .unset, .unset] [(.long b0), (.int (0 : Int32)), (.ref ob), (.ref ob)])) _
      refine st11 _ ?_
      show Steps p.tables e below (T11.setTop (mkF m 87 #[.val (.long q1), .second, .val (.long q2), .second, .val (.long q3), .second, .val (.int p4), .val (.long q5), .second, .val (.int p6), .val (.int rm), .val (.long wt), .second, .val (.int kp), .val (.long b0), .second, .val (.long b1), .second, .val (.long b2), .second, .val (.long b3), .second, .val (.ref oa), .unset, .unset, .unset, .unset, .unset] [(.ref ob)])) _
      refine XS.dup X11.here hx rfl (hb hby at_87) rfl rfl ?_
      show Steps p.tables e below (T11.setTop (mkF m 88 #[.val (.long q1), .second, .val (.long q2), .second, .val (.long q3), .second, .val (.int p4), .val (.long q5), .second, .val (.int p6), .val (.int rm), .val (.long wt), .second, .val (.int kp), .val (.long b0), .second, .val (.long b1), .second, .val (.long b2), .second, .val (.long b3), .second, .val (.ref oa), .unset, .unset, .unset, .unset, .unset] [(.ref ob), (.ref ob)])) _
      refine XS.iconst X11.here hx rfl (hb hby at_88) ?_
      show Steps p.tables e below (T11.setTop (mkF m 89 #[.val (.long q1), .second, .val (.long q2), .second, .val (.long q3), .second, .val (.int p4), .val (.long q5), .second, .val (.int p6), .val (.int rm), .val (.long wt), .second, .val (.int kp), .val (.long b0), .second, .val (.long b1), .second, .val (.long b2), .second, .val (.long b3), .second, .val (.ref oa), .unset, .unset, .unset, .unset, .unset] [(.int (1 : Int32)), (.ref ob), (.ref ob)])) _
      refine XS.lload X11.here hx rfl (hb hby at_89) rfl ?_
      show Steps p.tables e below (T11.setTop (mkF m 91 #[.val (.long q1), .second, .val (.long q2), .second, .val (.long q3), .second, .val (.int p4), .val (.long q5), .second, .val (.int p6), .val (.int rm), .val (.long wt), .second, .val (.int kp), .val (.long b0), .second, .val (.long b1), .second, .val (.long b2), .second, .val (.long b3), .second, .val (.ref oa), .unset, .unset, .unset, .unset, .unset] [(.long b1), (.int (1 : Int32)), (.ref ob), (.ref ob)])) _
      refine st12 _ ?_
      show Steps p.tables e below (T12.setTop (mkF m 92 #[.val (.long q1), .second, .val (.long q2), .second, .val (.long q3), .second, .val (.int p4), .val (.long q5), .second, .val (.int p6), .val (.int rm), .val (.long wt), .second, .val (.int kp), .val (.long b0), .second, .val (.long b1), .second, .val (.long b2), .second, .val (.long b3), .second, .val (.ref oa), .unset, .unset, .unset, .unset, .unset] [(.ref ob)])) _
      refine XS.dup X12.here hx rfl (hb hby at_92) rfl rfl ?_
      show Steps p.tables e below (T12.setTop (mkF m 93 #[.val (.long q1), .second, .val (.long q2), .second, .val (.long q3), .second, .val (.int p4), .val (.long q5), .second, .val (.int p6), .val (.int rm), .val (.long wt), .second, .val (.int kp), .val (.long b0), .second, .val (.long b1), .second, .val (.long b2), .second, .val (.long b3), .second, .val (.ref oa), .unset, .unset, .unset, .unset, .unset] [(.ref ob), (.ref ob)])) _
      refine XS.iconst X12.here hx rfl (hb hby at_93) ?_
      show Steps p.tables e below (T12.setTop (mkF m 94 #[.val (.long q1), .second, .val (.long q2), .second, .val (.long q3), .second, .val (.int p4), .val (.long q5), .second, .val (.int p6), .val (.int rm), .val (.long wt), .second, .val (.int kp), .val (.long b0), .second, .val (.long b1), .second, .val (.long b2), .second, .val (.long b3), .second, .val (.ref oa), .unset, .unset, .unset, .unset, .unset] [(.int (2 : Int32)), (.ref ob), (.ref ob)])) _
      refine XS.lload X12.here hx rfl (hb hby at_94) rfl ?_
      show Steps p.tables e below (T12.setTop (mkF m 96 #[.val (.long q1), .second, .val (.long q2), .second, .val (.long q3), .second, .val (.int p4), .val (.long q5), .second, .val (.int p6), .val (.int rm), .val (.long wt), .second, .val (.int kp), .val (.long b0), .second, .val (.long b1), .second, .val (.long b2), .second, .val (.long b3), .second, .val (.ref oa), .unset, .unset, .unset, .unset, .unset] [(.long b2), (.int (2 : Int32)), (.ref ob), (.ref ob)])) _
      refine st13 _ ?_
      show Steps p.tables e below (T13.setTop (mkF m 97 #[.val (.long q1), .second, .val (.long q2), .second, .val (.long q3), .second, .val (.int p4), .val (.long q5), .second, .val (.int p6), .val (.int rm), .val (.long wt), .second, .val (.int kp), .val (.long b0), .second, .val (.long b1), .second, .val (.long b2), .second, .val (.long b3), .second, .val (.ref oa), .unset, .unset, .unset, .unset, .unset] [(.ref ob)])) _
      refine XS.dup X13.here hx rfl (hb hby at_97) rfl rfl ?_
      show Steps p.tables e below (T13.setTop (mkF m 98 #[.val (.long q1), .second, .val (.long q2), .second, .val (.long q3), .second, .val (.int p4), .val (.long q5), .second, .val (.int p6), .val (.int rm), .val (.long wt), .second, .val (.int kp), .val (.long b0), .second, .val (.long b1), .second, .val (.long b2), .second, .val (.long b3), .second, .val (.ref oa), .unset, .unset, .unset, .unset, .unset] [(.ref ob), (.ref ob)])) _
      refine XS.iconst X13.here hx rfl (hb hby at_98) ?_
      show Steps p.tables e below (T13.setTop (mkF m 99 #[.val (.long q1), .second, .val (.long q2), .second, .val (.long q3), .second, .val (.int p4), .val (.long q5), .second, .val (.int p6), .val (.int rm), .val (.long wt), .second, .val (.int kp), .val (.long b0), .second, .val (.long b1), .second, .val (.long b2), .second, .val (.long b3), .second, .val (.ref oa), .unset, .unset, .unset, .unset, .unset] [(.int (3 : Int32)), (.ref ob), (.ref ob)])) _
      refine XS.lload X13.here hx rfl (hb hby at_99) rfl ?_
      show Steps p.tables e below (T13.setTop (mkF m 101 #[.val (.long q1), .second, .val (.long q2), .second, .val (.long q3), .second, .val (.int p4), .val (.long q5), .second, .val (.int p6), .val (.int rm), .val (.long wt), .second, .val (.int kp), .val (.long b0), .second, .val (.long b1), .second, .val (.long b2), .second, .val (.long b3), .second, .val (.ref oa), .unset, .unset, .unset, .unset, .unset] [(.long b3), (.int (3 : Int32)), (.ref ob), (.ref ob)])) _
      refine st14 _ ?_
      show Steps p.tables e below (T14.setTop (mkF m 102 #[.val (.long q1), .second, .val (.long q2), .second, .val (.long q3), .second, .val (.int p4), .val (.long q5), .second, .val (.int p6), .val (.int rm), .val (.long wt), .second, .val (.int kp), .val (.long b0), .second, .val (.long b1), .second, .val (.long b2), .second, .val (.long b3), .second, .val (.ref oa), .unset, .unset, .unset, .unset, .unset] [(.ref ob)])) _
      refine XS.astore X14.here hx rfl (hb hby at_102) rfl rfl (l' := #[.val (.long q1), .second, .val (.long q2), .second, .val (.long q3), .second, .val (.int p4), .val (.long q5), .second, .val (.int p6), .val (.int rm), .val (.long wt), .second, .val (.int kp), .val (.long b0), .second, .val (.long b1), .second, .val (.long b2), .second, .val (.long b3), .second, .val (.ref oa), .val (.ref ob), .unset, .unset, .unset, .unset]) rfl ?_
      show Steps p.tables e below (T14.setTop (mkF m 104 #[.val (.long q1), .second, .val (.long q2), .second, .val (.long q3), .second, .val (.int p4), .val (.long q5), .second, .val (.int p6), .val (.int rm), .val (.long wt), .second, .val (.int kp), .val (.long b0), .second, .val (.long b1), .second, .val (.long b2), .second, .val (.long b3), .second, .val (.ref oa), .val (.ref ob), .unset, .unset, .unset, .unset] [])) _
      refine XS.iload X14.here hx rfl (hb hby at_104) rfl ?_
      show Steps p.tables e below (T14.setTop (mkF m 106 #[.val (.long q1), .second, .val (.long q2), .second, .val (.long q3), .second, .val (.int p4), .val (.long q5), .second, .val (.int p6), .val (.int rm), .val (.long wt), .second, .val (.int kp), .val (.long b0), .second, .val (.long b1), .second, .val (.long b2), .second, .val (.long b3), .second, .val (.ref oa), .val (.ref ob), .unset, .unset, .unset, .unset] [(.int kp)])) _
      refine XS.ifYes X14.here hx rfl (pc0 := 106) (pc' := 120) rfl (hb hby at_106) rfl ((if0 _ _).trans (teq ck).1) (by decide) (by decide) ?_
      show Steps p.tables e below (T14.setTop (mkF m 120 #[.val (.long q1), .second, .val (.long q2), .second, .val (.long q3), .second, .val (.int p4), .val (.long q5), .second, .val (.int p6), .val (.int rm), .val (.long wt), .second, .val (.int kp), .val (.long b0), .second, .val (.long b1), .second, .val (.long b2), .second, .val (.long b3), .second, .val (.ref oa), .val (.ref ob), .unset, .unset, .unset, .unset] [])) _
      refine XS.aconstNull X14.here hx rfl (hb hby at_120) ?_
      show Steps p.tables e below (T14.setTop (mkF m 121 #[.val (.long q1), .second, .val (.long q2), .second, .val (.long q3), .second, .val (.int p4), .val (.long q5), .second, .val (.int p6), .val (.int rm), .val (.long wt), .second, .val (.int kp), .val (.long b0), .second, .val (.long b1), .second, .val (.long b2), .second, .val (.long b3), .second, .val (.ref oa), .val (.ref ob), .unset, .unset, .unset, .unset] [.null])) _
      refine XS.astore X14.here hx rfl (hb hby at_121) rfl rfl (l' := #[.val (.long q1), .second, .val (.long q2), .second, .val (.long q3), .second, .val (.int p4), .val (.long q5), .second, .val (.int p6), .val (.int rm), .val (.long wt), .second, .val (.int kp), .val (.long b0), .second, .val (.long b1), .second, .val (.long b2), .second, .val (.long b3), .second, .val (.ref oa), .val (.ref ob), .val .null, .unset, .unset, .unset]) rfl ?_
      show Steps p.tables e below (T14.setTop (mkF m 123 #[.val (.long q1), .second, .val (.long q2), .second, .val (.long q3), .second, .val (.int p4), .val (.long q5), .second, .val (.int p6), .val (.int rm), .val (.long wt), .second, .val (.int kp), .val (.long b0), .second, .val (.long b1), .second, .val (.long b2), .second, .val (.long b3), .second, .val (.ref oa), .val (.ref ob), .val .null, .unset, .unset, .unset] [])) _
      refine XS.aload X14.here hx rfl (hb hby at_123) rfl rfl ?_
      show Steps p.tables e below (T14.setTop (mkF m 125 #[.val (.long q1), .second, .val (.long q2), .second, .val (.long q3), .second, .val (.int p4), .val (.long q5), .second, .val (.int p6), .val (.int rm), .val (.long wt), .second, .val (.int kp), .val (.long b0), .second, .val (.long b1), .second, .val (.long b2), .second, .val (.long b3), .second, .val (.ref oa), .val (.ref ob), .val .null, .unset, .unset, .unset] [(.ref ob)])) _
      refine XS.iload X14.here hx rfl (hb hby at_125) rfl ?_
      show Steps p.tables e below (T14.setTop (mkF m 127 #[.val (.long q1), .second, .val (.long q2), .second, .val (.long q3), .second, .val (.int p4), .val (.long q5), .second, .val (.int p6), .val (.int rm), .val (.long wt), .second, .val (.int kp), .val (.long b0), .second, .val (.long b1), .second, .val (.long b2), .second, .val (.long b3), .second, .val (.ref oa), .val (.ref ob), .val .null, .unset, .unset, .unset] [(.int rm), (.ref ob)])) _
      refine XS.lload X14.here hx rfl (hb hby at_127) rfl ?_
      show Steps p.tables e below (T14.setTop (mkF m 129 #[.val (.long q1), .second, .val (.long q2), .second, .val (.long q3), .second, .val (.int p4), .val (.long q5), .second, .val (.int p6), .val (.int rm), .val (.long wt), .second, .val (.int kp), .val (.long b0), .second, .val (.long b1), .second, .val (.long b2), .second, .val (.long b3), .second, .val (.ref oa), .val (.ref ob), .val .null, .unset, .unset, .unset] [(.long wt), (.int rm), (.ref ob)])) _
      refine XS.aload X14.here hx rfl (hb hby at_129) rfl rfl ?_
      show Steps p.tables e below (T14.setTop (mkF m 131 #[.val (.long q1), .second, .val (.long q2), .second, .val (.long q3), .second, .val (.int p4), .val (.long q5), .second, .val (.int p6), .val (.int rm), .val (.long wt), .second, .val (.int kp), .val (.long b0), .second, .val (.long b1), .second, .val (.long b2), .second, .val (.long b3), .second, .val (.ref oa), .val (.ref ob), .val .null, .unset, .unset, .unset] [.null, (.long wt), (.int rm), (.ref ob)])) _
      refine st20 _ ?_
      show Steps p.tables e below (T20.setTop (mkF m 134 #[.val (.long q1), .second, .val (.long q2), .second, .val (.long q3), .second, .val (.int p4), .val (.long q5), .second, .val (.int p6), .val (.int rm), .val (.long wt), .second, .val (.int kp), .val (.long b0), .second, .val (.long b1), .second, .val (.long b2), .second, .val (.long b3), .second, .val (.ref oa), .val (.ref ob), .val .null, .unset, .unset, .unset] [])) _
      refine st21 _ ?_
      exact retN X21 hx (t := .boolean) Bd.returns (by simp) (hb hby at_390) hr
    · show Q0 Z q1 q2 q3 p4 q5 p6 h0 n0 _ T21.heap _
      exact ⟨rfl, N21⟩
  · obtain ⟨T15, h15, k15, X15, e15, E15, A15, st15⟩ := newP X14 hx hZ (hw _ (List.mem_of_getElem? (i := 0) rfl)) e14 (g := (mkF m 110 #[.val (.long q1), .second, .val (.long q2), .second, .val (.long q3), .second, .val (.int p4), .val (.long q5), .second, .val (.int p6), .val (.int rm), .val (.long wt), .second, .val (.int kp), .val (.long b0), .second, .val (.long b1), .second, .val (.long b2), .second, .val (.long b3), .second, .val (.ref oa), .val (.ref ob), .unset, .unset, .unset, .unset] [(.int (1 : Int32))])) rfl (hb hby at_110) rfl (by decide) (cap := 1) (by decide) (by decide) (by decide) (by decide)
    obtain ⟨oc, g_oc⟩ : ∃ z, z = h14.size := ⟨_, rfl⟩
    rw [← g_oc] at A15 st15
    have V15 : own_ar Z h15 oc 1 (fun _ => 0) := own_newA A15 (by decide)
    have gc : n0 ≤ oc := Nat.le_trans Z14 (Nat.le_of_eq g_oc.symm)
    have nac : oa ≠ oc := Nat.ne_of_lt (Nat.lt_of_lt_of_le (own_lt Va') (Nat.le_of_eq g_oc.symm))
    have nbc : ob ≠ oc := Nat.ne_of_lt (Nat.lt_of_lt_of_le (own_lt Vb) (Nat.le_of_eq g_oc.symm))
    have Z15 : n0 ≤ h15.size := Nat.le_trans Z14 E15.1
    obtain ⟨cc16, AA16, SS16, HH16⟩ := V15
    obtain ⟨T16, h16, X16, e16, W16, st16⟩ := stJ X15 hx hZ e15 AA16 (j := (0 : Int32)) (own_in (i := 0) (by decide) SS16 (by decide)) (g := (mkF m 116 #[.val (.long q1), .second, .val (.long q2), .second, .val (.long q3), .second, .val (.int p4), .val (.long q5), .second, .val (.int p6), .val (.int rm), .val (.long wt), .second, .val (.int kp), .val (.long b0), .second, .val (.long b1), .second, .val (.long b2), .second, .val (.long b3), .second, .val (.ref oa), .val (.ref ob), .unset, .unset, .unset, .unset] [(.long q5), (.int (0 : Int32)), (.ref oc), (.ref oc)])) rfl rfl (hb hby at_116)
    have V16 := own_store AA16 SS16 HH16 W16 (show ((0 : Int32)).toNatClampNeg = 0 by decide)
    have N16 := Fr.snoc X16 N14 gc
    have Vc : own_ar Z h16 oc 1 (fun _ => q5) := own_congr V16 (fun k hk => if_pos (by omega))
    have Vb' := own_other (own_ext Vb E15) W16 nbc
    have Va3 := own_other (own_ext Va' E15) W16 nac
    have Z16 : n0 ≤ h16.size := by rw [W16.size]; exact Z15
    obtain ⟨_, _, ⟨T20, L20, k20, n20⟩, -, X20, ⟨Lc20, hQ20, l20, y20, z20⟩, st20⟩ := Jvm.LawKit.callS X16 hx (y := site_131) hown (mvT hZ (hw _ (List.mem_of_getElem? (i := 1) rfl))) (mvT hZ (hw _ (List.mem_of_getElem? (i := 2) rfl))) (mvT hZ (hw _ (List.mem_of_getElem? (i := 3) rfl))) (mvT hZ (hw _ (List.mem_of_getElem? (i := 4) rfl))) (by decide) (backOf (W := 0) (rm1R l Z a0 hw [] ob rm wt oc (own_f b0 b1 b2 b3) q5 h16 n0 Z16 Vb' Vc gc (fun q => nbc q.symm) gb hsA) hZ (hw _ (List.mem_of_getElem? (i := 4) rfl)) (hw _ (List.mem_of_getElem? (i := 3) rfl)) (by decide) (by decide)) (g := (mkF m 131 #[.val (.long q1), .second, .val (.long q2), .second, .val (.long q3), .second, .val (.int p4), .val (.long q5), .second, .val (.int p6), .val (.int rm), .val (.long wt), .second, .val (.int kp), .val (.long b0), .second, .val (.long b1), .second, .val (.long b2), .second, .val (.long b3), .second, .val (.ref oa), .val (.ref ob), .val (.ref oc), .unset, .unset, .unset] [(.ref oc), (.long wt), (.int rm), (.ref ob)])) rfl (by rw [hml]; rfl) (argsL := [(.ref ob), (.int rm), (.long wt), (.ref oc)]) (rest := []) (lenOf pd_1 rfl) rfl (by show 2 * 0 + _ ≤ _; exact Nat.le_of_eq rfl) (hb hby at_131) (fun _ _ => ⟨rfl, e16, (by decide : 3 + 0 ≤ _), (by decide : 9 + 0 ≤ _)⟩)
    dsimp only [Pt.U, Pt.locs, Pt.cells, Pt.slots] at X20 l20 y20 z20 st20 hQ20
    subst l20 y20 z20
    obtain ⟨rfl, N20q, K20, W20, U20⟩ := hQ20
    have N20 := Fr.app N16 N20q
    have Z20 : n0 ≤ T20.heap.size := Nat.le_trans Z16 K20.1
    have Va2 := own_keep Va3 K20 (by simpa using ⟨nab, nac⟩)
    obtain ⟨T21, L21, Ls, X21, N21, st21⟩ := tlR hw q1 q2 q3 p4 q5 p6 rm wt kp b0 b1 b2 b3 oa ob oc n0 X20 (by decide) (by decide) hx hZ hby hml hown rfl N20 Z20 hsA Va2 W20 U20
    obtain ⟨fs, hr, hrun, hended, hW, hsame⟩ := X21.leave (v := some (.int (1 : Int32))) (fun h => by rw [Bd.returns] at h; cases h)
    refine ⟨_, _, pre0 _ ?_, hrun, hended, _, _, rfl, ?_, ⟨_, rfl⟩, hW, hsame.mono (by decide) (by decide)⟩
    · refine sA _ ?_
      refine sB _ ?_
      show Steps p.tables e below (s₁.setTop (mkF m 55 #[.val (.long q1), .second, .val (.long q2), .second, .val (.long q3), .second, .val (.int p4), .val (.long q5), .second, .val (.int p6), .val (.int rm), .val (.long wt), .second, .val (.int kp), .val (.long b0), .second, .val (.long b1), .second, .val (.long b2), .second, .val (.long b3), .second, .unset, .unset, .unset, .unset, .unset, .unset] [(.int (4 : Int32))])) _
      refine st5 _ ?_
      show Steps p.tables e below (T5.setTop (mkF m 57 #[.val (.long q1), .second, .val (.long q2), .second, .val (.long q3), .second, .val (.int p4), .val (.long q5), .second, .val (.int p6), .val (.int rm), .val (.long wt), .second, .val (.int kp), .val (.long b0), .second, .val (.long b1), .second, .val (.long b2), .second, .val (.long b3), .second, .unset, .unset, .unset, .unset, .unset, .unset] [(.ref oa)])) _
      refine XS.dup X5.here hx rfl (hb hby at_57) rfl rfl ?_
      show Steps p.tables e below (T5.setTop (mkF m 58 #[.val (.long q1), .second, .val (.long q2), .second, .val (.long q3), .second, .val (.int p4), .val (.long q5), .second, .val (.int p6), .val (.int rm), .val (.long wt), .second, .val (.int kp), .val (.long b0), .second, .val (.long b1), .second, .val (.long b2), .second, .val (.long b3), .second, .unset, .unset, .unset, .unset, .unset, .unset] [(.ref oa), (.ref oa)])) _
      refine XS.iconst X5.here hx rfl (hb hby at_58) ?_
      show Steps p.tables e below (T5.setTop (mkF m 59 #[.val (.long q1), .second, .val (.long q2), .second, .val (.long q3), .second, .val (.int p4), .val (.long q5), .second, .val (.int p6), .val (.int rm), .val (.long wt), .second, .val (.int kp), .val (.long b0), .second, .val (.long b1), .second, .val (.long b2), .second, .val (.long b3), .second, .unset, .unset, .unset, .unset, .unset, .unset] [(.int (0 : Int32)), (.ref oa), (.ref oa)])) _
      refine XS.lload X5.here hx rfl (hb hby at_59) rfl ?_
      show Steps p.tables e below (T5.setTop (mkF m 61 #[.val (.long q1), .second, .val (.long q2), .second, .val (.long q3), .second, .val (.int p4), .val (.long q5), .second, .val (.int p6), .val (.int rm), .val (.long wt), .second, .val (.int kp), .val (.long b0), .second, .val (.long b1), .second, .val (.long b2), .second, .val (.long b3), .second, .unset, .unset, .unset, .unset, .unset, .unset] [(.long b0), (.int (0 : Int32)), (.ref oa), (.ref oa)])) _
      refine st6 _ ?_
      show Steps p.tables e below (T6.setTop (mkF m 62 #[.val (.long q1), .second, .val (.long q2), .second, .val (.long q3), .second, .val (.int p4), .val (.long q5), .second, .val (.int p6), .val (.int rm), .val (.long wt), .second, .val (.int kp), .val (.long b0), .second, .val (.long b1), .second, .val (.long b2), .second, .val (.long b3), .second, .unset, .unset, .unset, .unset, .unset, .unset] [(.ref oa)])) _
      refine XS.dup X6.here hx rfl (hb hby at_62) rfl rfl ?_
      show Steps p.tables e below (T6.setTop (mkF m 63 #[.val (.long q1), .second, .val (.long q2), .second, .val (.long q3), .second, .val (.int p4), .val (.long q5), .second, .val (.int p6), .val (.int rm), .val (.long wt), .second, .val (.int kp), .val (.long b0), .second, .val (.long b1), .second, .val (.long b2), .second, .val (.long b3), .second, .unset, .unset, .unset, .unset, .unset, .unset] [(.ref oa), (.ref oa)])) _
      refine XS.iconst X6.here hx rfl (hb hby at_63) ?_
      show Steps p.tables e below (T6.setTop (mkF m 64 #[.val (.long q1), .second, .val (.long q2), .second, .val (.long q3), .second, .val (.int p4), .val (.long q5), .second, .val (.int p6), .val (.int rm), .val (.long wt), .second, .val (.int kp), .val (.long b0), .second, .val (.long b1), .second, .val (.long b2), .second, .val (.long b3), .second, .unset, .unset, .unset, .unset, .unset, .unset] [(.int (1 : Int32)), (.ref oa), (.ref oa)])) _
      refine XS.lload X6.here hx rfl (hb hby at_64) rfl ?_
      show Steps p.tables e below (T6.setTop (mkF m 66 #[.val (.long q1), .second, .val (.long q2), .second, .val (.long q3), .second, .val (.int p4), .val (.long q5), .second, .val (.int p6), .val (.int rm), .val (.long wt), .second, .val (.int kp), .val (.long b0), .second, .val (.long b1), .second, .val (.long b2), .second, .val (.long b3), .second, .unset, .unset, .unset, .unset, .unset, .unset] [(.long b1), (.int (1 : Int32)), (.ref oa), (.ref oa)])) _
      refine st7 _ ?_
      show Steps p.tables e below (T7.setTop (mkF m 67 #[.val (.long q1), .second, .val (.long q2), .second, .val (.long q3), .second, .val (.int p4), .val (.long q5), .second, .val (.int p6), .val (.int rm), .val (.long wt), .second, .val (.int kp), .val (.long b0), .second, .val (.long b1), .second, .val (.long b2), .second, .val (.long b3), .second, .unset, .unset, .unset, .unset, .unset, .unset] [(.ref oa)])) _
      refine XS.dup X7.here hx rfl (hb hby at_67) rfl rfl ?_
      show Steps p.tables e below (T7.setTop (mkF m 68 #[.val (.long q1), .second, .val (.long q2), .second, .val (.long q3), .second, .val (.int p4), .val (.long q5), .second, .val (.int p6), .val (.int rm), .val (.long wt), .second, .val (.int kp), .val (.long b0), .second, .val (.long b1), .second, .val (.long b2), .second, .val (.long b3), .second, .unset, .unset, .unset, .unset, .unset, .unset] [(.ref oa), (.ref oa)])) _
      refine XS.iconst X7.here hx rfl (hb hby at_68) ?_
      show Steps p.tables e below (T7.setTop (mkF m 69 #[.val (.long q1), .second, .val (.long q2), .second, .val (.long q3), .second, .val (.int p4), .val (.long q5), .second, .val (.int p6), .val (.int rm), .val (.long wt), .second, .val (.int kp), .val (.long b0), .second, .val (.long b1), .second, .val (.long b2), .second, .val (.long b3), .second, .unset, .unset, .unset, .unset, .unset, .unset] [(.int (2 : Int32)), (.ref oa), (.ref oa)])) _
      refine XS.lload X7.here hx rfl (hb hby at_69) rfl ?_
      show Steps p.tables e below (T7.setTop (mkF m 71 #[.val (.long q1), .second, .val (.long q2), .second, .val (.long q3), .second, .val (.int p4), .val (.long q5), .second, .val (.int p6), .val (.int rm), .val (.long wt), .second, .val (.int kp), .val (.long b0), .second, .val (.long b1), .second, .val (.long b2), .second, .val (.long b3), .second, .unset, .unset, .unset, .unset, .unset, .unset] [(.long b2), (.int (2 : Int32)), (.ref oa), (.ref oa)])) _
      refine st8 _ ?_
      show Steps p.tables e below (T8.setTop (mkF m 72 #[.val (.long q1), .second, .val (.long q2), .second, .val (.long q3), .second, .val (.int p4), .val (.long q5), .second, .val (.int p6), .val (.int rm), .val (.long wt), .second, .val (.int kp), .val (.long b0), .second, .val (.long b1), .second, .val (.long b2), .second, .val (.long b3), .second, .unset, .unset, .unset, .unset, .unset, .unset] [(.ref oa)])) _
      refine XS.dup X8.here hx rfl (hb hby at_72) rfl rfl ?_
      show Steps p.tables e below (T8.setTop (mkF m 73 #[.val (.long q1), .second, .val (.long q2), .second, .val (.long q3), .second, .val (.int p4), .val (.long q5), .second, .val (.int p6), .val (.int rm), .val (.long wt), .second, .val (.int kp), .val (.long b0), .second, .val (.long b1), .second, .val (.long b2), .second, .val (.long b3), .second, .unset, .unset, .unset, .unset, .unset, .unset] [(.ref oa), (.ref oa)])) _
      refine XS.iconst X8.here hx rfl (hb hby at_73) ?_
      show Steps p.tables e below (T8.setTop (mkF m 74 #[.val (.long q1), .second, .val (.long q2), .second, .val (.long q3), .second, .val (.int p4), .val (.long q5), .second, .val (.int p6), .val (.int rm), .val (.long wt), .second, .val (.int kp), .val (.long b0), .second, .val (.long b1), .second, .val (.long b2), .second, .val (.long b3), .second, .unset, .unset, .unset, .unset, .unset, .unset] [(.int (3 : Int32)), (.ref oa), (.ref oa)])) _
      refine XS.lload X8.here hx rfl (hb hby at_74) rfl ?_
      show Steps p.tables e below (T8.setTop (mkF m 76 #[.val (.long q1), .second, .val (.long q2), .second, .val (.long q3), .second, .val (.int p4), .val (.long q5), .second, .val (.int p6), .val (.int rm), .val (.long wt), .second, .val (.int kp), .val (.long b0), .second, .val (.long b1), .second, .val (.long b2), .second, .val (.long b3), .second, .unset, .unset, .unset, .unset, .unset, .unset] [(.long b3), (.int (3 : Int32)), (.ref oa), (.ref oa)])) _
      refine st9 _ ?_
      show Steps p.tables e below (T9.setTop (mkF m 77 #[.val (.long q1), .second, .val (.long q2), .second, .val (.long q3), .second, .val (.int p4), .val (.long q5), .second, .val (.int p6), .val (.int rm), .val (.long wt), .second, .val (.int kp), .val (.long b0), .second, .val (.long b1), .second, .val (.long b2), .second, .val (.long b3), .second, .unset, .unset, .unset, .unset, .unset, .unset] [(.ref oa)])) _
      refine XS.astore X9.here hx rfl (hb hby at_77) rfl rfl (l' := #[.val (.long q1), .second, .val (.long q2), .second, .val (.long q3), .second, .val (.int p4), .val (.long q5), .second, .val (.int p6), .val (.int rm), .val (.long wt), .second, .val (.int kp), .val (.long b0), .second, .val (.long b1), .second, .val (.long b2), .second, .val (.long b3), .second, .val (.ref oa), .unset, .unset, .unset, .unset, .unset]) rfl ?_
      show Steps p.tables e below (T9.setTop (mkF m 79 #[.val (.long q1), .second, .val (.long q2), .second, .val (.long q3), .second, .val (.int p4), .val (.long q5), .second, .val (.int p6), .val (.int rm), .val (.long wt), .second, .val (.int kp), .val (.long b0), .second, .val (.long b1), .second, .val (.long b2), .second, .val (.long b3), .second, .val (.ref oa), .unset, .unset, .unset, .unset, .unset] [])) _
      refine XS.iconst X9.here hx rfl (hb hby at_79) ?_
      show Steps p.tables e below (T9.setTop (mkF m 80 #[.val (.long q1), .second, .val (.long q2), .second, .val (.long q3), .second, .val (.int p4), .val (.long q5), .second, .val (.int p6), .val (.int rm), .val (.long wt), .second, .val (.int kp), .val (.long b0), .second, .val (.long b1), .second, .val (.long b2), .second, .val (.long b3), .second, .val (.ref oa), .unset, .unset, .unset, .unset, .unset] [(.int (4 : Int32))])) _
      refine st10 _ ?_
      show Steps p.tables e below (T10.setTop (mkF m 82 #[.val (.long q1), .second, .val (.long q2), .second, .val (.long q3), .second, .val (.int p4), .val (.long q5), .second, .val (.int p6), .val (.int rm), .val (.long wt), .second, .val (.int kp), .val (.long b0), .second, .val (.long b1), .second, .val (.long b2), .second, .val (.long b3), .second, .val (.ref oa), .unset, .unset, .unset, .unset, .unset] [(.ref ob)])) _
      refine XS.dup X10.here hx rfl (hb hby at_82) rfl rfl ?_
      show Steps p.tables e below (T10.setTop (mkF m 83 #[.val (.long q1), .second, .val (.long q2), .second, .val (.long q3), .second, .val (.int p4), .val (.long q5), .second, .val (.int p6), .val (.int rm), .val (.long wt), .second, .val (.int kp), .val (.long b0), .second, .val (.long b1), .second, .val (.long b2), .second, .val (.long b3), .second, .val (.ref oa), .unset, .unset, .unset, .unset, .unset] [(.ref ob), (.ref ob)])) _
      refine XS.iconst X10.here hx rfl (hb hby at_83) ?_
      show Steps p.tables e below (T10.setTop (mkF m 84 #[.val (.long q1), .second, .val (.long q2), .second, .val (.long q3), .second, .val (.int p4), .val (.long q5), .second, .val (.int p6), .val (.int rm), .val (.long wt), .second, .val (.int kp), .val (.long b0), .second, .val (.long b1), .second, .val (.long b2), .second, .val (.long b3), .second, .val (.ref oa), .unset, .unset, .unset, .unset, .unset] [(.int (0 : Int32)), (.ref ob), (.ref ob)])) _
      refine XS.lload X10.here hx rfl (hb hby at_84) rfl ?_
      show Steps p.tables e below (T10.setTop (mkF m 86 #[.val (.long q1), .second, .val (.long q2), .second, .val (.long q3), .second, .val (.int p4), .val (.long q5), .second, .val (.int p6), .val (.int rm), .val (.long wt), .second, .val (.int kp), .val (.long b0), .second, .val (.long b1), .second, .val (.long b2), .second, .val (.long b3), .second, .val (.ref oa), .unset, .unset, .unset, .unset, .unset] [(.long b0), (.int (0 : Int32)), (.ref ob), (.ref ob)])) _
      refine st11 _ ?_
      show Steps p.tables e below (T11.setTop (mkF m 87 #[.val (.long q1), .second, .val (.long q2), .second, .val (.long q3), .second, .val (.int p4), .val (.long q5), .second, .val (.int p6), .val (.int rm), .val (.long wt), .second, .val (.int kp), .val (.long b0), .second, .val (.long b1), .second, .val (.long b2), .second, .val (.long b3), .second, .val (.ref oa), .unset, .unset, .unset, .unset, .unset] [(.ref ob)])) _
      refine XS.dup X11.here hx rfl (hb hby at_87) rfl rfl ?_
      show Steps p.tables e below (T11.setTop (mkF m 88 #[.val (.long q1), .second, .val (.long q2), .second, .val (.long q3), .second, .val (.int p4), .val (.long q5), .second, .val (.int p6), .val (.int rm), .val (.long wt), .second, .val (.int kp), .val (.long b0), .second, .val (.long b1), .second, .val (.long b2), .second, .val (.long b3), .second, .val (.ref oa), .unset, .unset, .unset, .unset, .unset] [(.ref ob), (.ref ob)])) _
      refine XS.iconst X11.here hx rfl (hb hby at_88) ?_
      show Steps p.tables e below (T11.setTop (mkF m 89 #[.val (.long q1), .second, .val (.long q2), .second, .val (.long q3), .second, .val (.int p4), .val (.long q5), .second, .val (.int p6), .val (.int rm), .val (.long wt), .second, .val (.int kp), .val (.long b0), .second, .val (.long b1), .second, .val (.long b2), .second, .val (.long b3), .second, .val (.ref oa), .unset, .unset, .unset, .unset, .unset] [(.int (1 : Int32)), (.ref ob), (.ref ob)])) _
      refine XS.lload X11.here hx rfl (hb hby at_89) rfl ?_
      show Steps p.tables e below (T11.setTop (mkF m 91 #[.val (.long q1), .second, .val (.long q2), .second, .val (.long q3), .second, .val (.int p4), .val (.long q5), .second, .val (.int p6), .val (.int rm), .val (.long wt), .second, .val (.int kp), .val (.long b0), .second, .val (.long b1), .second, .val (.long b2), .second, .val (.long b3), .second, .val (.ref oa), .unset, .unset, .unset, .unset, .unset] [(.long b1), (.int (1 : Int32)), (.ref ob), (.ref ob)])) _
      refine st12 _ ?_
      show Steps p.tables e below (T12.setTop (mkF m 92 #[.val (.long q1), .second, .val (.long q2), .second, .val (.long q3), .second, .val (.int p4), .val (.long q5), .second, .val (.int p6), .val (.int rm), .val (.long wt), .second, .val (.int kp), .val (.long b0), .second, .val (.long b1), .second, .val (.long b2), .second, .val (.long b3), .second, .val (.ref oa), .unset, .unset, .unset, .unset, .unset] [(.ref ob)])) _
      refine XS.dup X12.here hx rfl (hb hby at_92) rfl rfl ?_
      show Steps p.tables e below (T12.setTop (mkF m 93 #[.val (.long q1), .second, .val (.long q2), .second, .val (.long q3), .second, .val (.int p4), .val (.long q5), .second, .val (.int p6), .val (.int rm), .val (.long wt), .second, .val (.int kp), .val (.long b0), .second, .val (.long b1), .second, .val (.long b2), .second, .val (.long b3), .second, .val (.ref oa), .unset, .unset, .unset, .unset, .unset] [(.ref ob), (.ref ob)])) _
      refine XS.iconst X12.here hx rfl (hb hby at_93) ?_
      show Steps p.tables e below (T12.setTop (mkF m 94 #[.val (.long q1), .second, .val (.long q2), .second, .val (.long q3), .second, .val (.int p4), .val (.long q5), .second, .val (.int p6), .val (.int rm), .val (.long wt), .second, .val (.int kp), .val (.long b0), .second, .val (.long b1), .second, .val (.long b2), .second, .val (.long b3), .second, .val (.ref oa), .unset, .unset, .unset, .unset, .unset] [(.int (2 : Int32)), (.ref ob), (.ref ob)])) _
      refine XS.lload X12.here hx rfl (hb hby at_94) rfl ?_
      show Steps p.tables e below (T12.setTop (mkF m 96 #[.val (.long q1), .second, .val (.long q2), .second, .val (.long q3), .second, .val (.int p4), .val (.long q5), .second, .val (.int p6), .val (.int rm), .val (.long wt), .second, .val (.int kp), .val (.long b0), .second, .val (.long b1), .second, .val (.long b2), .second, .val (.long b3), .second, .val (.ref oa), .unset, .unset, .unset, .unset, .unset] [(.long b2), (.int (2 : Int32)), (.ref ob), (.ref ob)])) _
      refine st13 _ ?_
      show Steps p.tables e below (T13.setTop (mkF m 97 #[.val (.long q1), .second, .val (.long q2), .second, .val (.long q3), .second, .val (.int p4), .val (.long q5), .second, .val (.int p6), .val (.int rm), .val (.long wt), .second, .val (.int kp), .val (.long b0), .second, .val (.long b1), .second, .val (.long b2), .second, .val (.long b3), .second, .val (.ref oa), .unset, .unset, .unset, .unset, .unset] [(.ref ob)])) _
      refine XS.dup X13.here hx rfl (hb hby at_97) rfl rfl ?_
      show Steps p.tables e below (T13.setTop (mkF m 98 #[.val (.long q1), .second, .val (.long q2), .second, .val (.long q3), .second, .val (.int p4), .val (.long q5), .second, .val (.int p6), .val (.int rm), .val (.long wt), .second, .val (.int kp), .val (.long b0), .second, .val (.long b1), .second, .val (.long b2), .second, .val (.long b3), .second, .val (.ref oa), .unset, .unset, .unset, .unset, .unset] [(.ref ob), (.ref ob)])) _
      refine XS.iconst X13.here hx rfl (hb hby at_98) ?_
      show Steps p.tables e below (T13.setTop (mkF m 99 #[.val (.long q1), .second, .val (.long q2), .second, .val (.long q3), .second, .val (.int p4), .val (.long q5), .second, .val (.int p6), .val (.int rm), .val (.long wt), .second, .val (.int kp), .val (.long b0), .second, .val (.long b1), .second, .val (.long b2), .second, .val (.long b3), .second, .val (.ref oa), .unset, .unset, .unset, .unset, .unset] [(.int (3 : Int32)), (.ref ob), (.ref ob)])) _
      refine XS.lload X13.here hx rfl (hb hby at_99) rfl ?_
      show Steps p.tables e below (T13.setTop (mkF m 101 #[.val (.long q1), .second, .val (.long q2), .second, .val (.long q3), .second, .val (.int p4), .val (.long q5), .second, .val (.int p6), .val (.int rm), .val (.long wt), .second, .val (.int kp), .val (.long b0), .second, .val (.long b1), .second, .val (.long b2), .second, .val (.long b3), .second, .val (.ref oa), .unset, .unset, .unset, .unset, .unset] [(.long b3), (.int (3 : Int32)), (.ref ob), (.ref ob)])) _
      refine st14 _ ?_
      show Steps p.tables e below (T14.setTop (mkF m 102 #[.val (.long q1), .second, .val (.long q2), .second, .val (.long q3), .second, .val (.int p4), .val (.long q5), .second, .val (.int p6), .val (.int rm), .val (.long wt), .second, .val (.int kp), .val (.long b0), .second, .val (.long b1), .second, .val (.long b2), .second, .val (.long b3), .second, .val (.ref oa), .unset, .unset, .unset, .unset, .unset] [(.ref ob)])) _
      refine XS.astore X14.here hx rfl (hb hby at_102) rfl rfl (l' := #[.val (.long q1), .second, .val (.long q2), .second, .val (.long q3), .second, .val (.int p4), .val (.long q5), .second, .val (.int p6), .val (.int rm), .val (.long wt), .second, .val (.int kp), .val (.long b0), .second, .val (.long b1), .second, .val (.long b2), .second, .val (.long b3), .second, .val (.ref oa), .val (.ref ob), .unset, .unset, .unset, .unset]) rfl ?_
      show Steps p.tables e below (T14.setTop (mkF m 104 #[.val (.long q1), .second, .val (.long q2), .second, .val (.long q3), .second, .val (.int p4), .val (.long q5), .second, .val (.int p6), .val (.int rm), .val (.long wt), .second, .val (.int kp), .val (.long b0), .second, .val (.long b1), .second, .val (.long b2), .second, .val (.long b3), .second, .val (.ref oa), .val (.ref ob), .unset, .unset, .unset, .unset] [])) _
      refine XS.iload X14.here hx rfl (hb hby at_104) rfl ?_
      show Steps p.tables e below (T14.setTop (mkF m 106 #[.val (.long q1), .second, .val (.long q2), .second, .val (.long q3), .second, .val (.int p4), .val (.long q5), .second, .val (.int p6), .val (.int rm), .val (.long wt), .second, .val (.int kp), .val (.long b0), .second, .val (.long b1), .second, .val (.long b2), .second, .val (.long b3), .second, .val (.ref oa), .val (.ref ob), .unset, .unset, .unset, .unset] [(.int kp)])) _
      refine XS.ifNo X14.here hx rfl (hb hby at_106) rfl ((if0 _ _).trans (feq ck).1) ?_
      show Steps p.tables e below (T14.setTop (mkF m 109 #[.val (.long q1), .second, .val (.long q2), .second, .val (.long q3), .second, .val (.int p4), .val (.long q5), .second, .val (.int p6), .val (.int rm), .val (.long wt), .second, .val (.int kp), .val (.long b0), .second, .val (.long b1), .second, .val (.long b2), .second, .val (.long b3), .second, .val (.ref oa), .val (.ref ob), .unset, .unset, .unset, .unset] [])) _
      refine XS.iconst X14.here hx rfl (hb hby at_109) ?_
      show Steps p.tables e below (T14.setTop (mkF m 110 #[.val (.long q1), .second, .val (.long q2), .second, .val (.long q3), .second, .val (.int p4), .val (.long q5), .second, .val (.int p6), .val (.int rm), .val (.long wt), .second, .val (.int kp), .val (.long b0), .second, .val (.long b1), .second, .val (.long b2), .second, .val (.long b3), .second, .val (.ref oa), .val (.ref ob), .unset, .unset, .unset, .unset] [(.int (1 : Int32))])) _
      refine st15 _ ?_
      show Steps p.tables e below (T15.setTop (mkF m 112 #[.val (.long q1), .second, .val (.long q2), .second, .val (.long q3), .second, .val (.int p4), .val (.long q5), .second, .val (.int p6), .val (.int rm), .val (.long wt), .second, .val (.int kp), .val (.long b0), .second, .val (.long b1), .second, .val (.long b2), .second, .val (.long b3), .second, .val (.ref oa), .val (.ref ob), .unset, .unset, .unset, .unset] [(.ref oc)])) _
      refine XS.dup X15.here hx rfl (hb hby at_112) rfl rfl ?_
      show Steps p.tables e below (T15.setTop (mkF m 113 #[.val (.long q1), .second, .val (.long q2), .second, .val (.long q3), .second, .val (.int p4), .val (.long q5), .second, .val (.int p6), .val (.int rm), .val (.long wt), .second, .val (.int kp), .val (.long b0), .second, .val (.long b1), .second, .val (.long b2), .second, .val (.long b3), .second, .val (.ref oa), .val (.ref ob), .unset, .unset, .unset, .unset] [(.ref oc), (.ref oc)])) _
      refine XS.iconst X15.here hx rfl (hb hby at_113) ?_
      show Steps p.tables e below (T15.setTop (mkF m 114 #[.val (.long q1), .second, .val (.long q2), .second, .val (.long q3), .second, .val (.int p4), .val (.long q5), .second, .val (.int p6), .val (.int rm), .val (.long wt), .second, .val (.int kp), .val (.long b0), .second, .val (.long b1), .second, .val (.long b2), .second, .val (.long b3), .second, .val (.ref oa), .val (.ref ob), .unset, .unset, .unset, .unset] [(.int (0 : Int32)), (.ref oc), (.ref oc)])) _
      refine XS.lload X15.here hx rfl (hb hby at_114) rfl ?_
      show Steps p.tables e below (T15.setTop (mkF m 116 #[.val (.long q1), .second, .val (.long q2), .second, .val (.long q3), .second, .val (.int p4), .val (.long q5), .second, .val (.int p6), .val (.int rm), .val (.long wt), .second, .val (.int kp), .val (.long b0), .second, .val (.long b1), .second, .val (.long b2), .second, .val (.long b3), .second, .val (.ref oa), .val (.ref ob), .unset, .unset, .unset, .unset] [(.long q5), (.int (0 : Int32)), (.ref oc), (.ref oc)])) _
      refine st16 _ ?_
      show Steps p.tables e below (T16.setTop (mkF m 117 #[.val (.long q1), .second, .val (.long q2), .second, .val (.long q3), .second, .val (.int p4), .val (.long q5), .second, .val (.int p6), .val (.int rm), .val (.long wt), .second, .val (.int kp), .val (.long b0), .second, .val (.long b1), .second, .val (.long b2), .second, .val (.long b3), .second, .val (.ref oa), .val (.ref ob), .unset, .unset, .unset, .unset] [(.ref oc)])) _
      refine XS.goto X16.here hx rfl (pc0 := 117) (pc' := 121) rfl (hb hby at_117) (by decide) (by decide) ?_
      show Steps p.tables e below (T16.setTop (mkF m 121 #[.val (.long q1), .second, .val (.long q2), .second, .val (.long q3), .second, .val (.int p4), .val (.long q5), .second, .val (.int p6), .val (.int rm), .val (.long wt), .second, .val (.int kp), .val (.long b0), .second, .val (.long b1), .second, .val (.long b2), .second, .val (.long b3), .second, .val (.ref oa), .val (.ref ob), .unset, .unset, .unset, .unset] [(.ref oc)])) _
      refine XS.astore X16.here hx rfl (hb hby at_121) rfl rfl (l' := #[.val (.long q1), .second, .val (.long q2), .second, .val (.long q3), .second, .val (.int p4), .val (.long q5), .second, .val (.int p6), .val (.int rm), .val (.long wt), .second, .val (.int kp), .val (.long b0), .second, .val (.long b1), .second, .val (.long b2), .second, .val (.long b3), .second, .val (.ref oa), .val (.ref ob), .val (.ref oc), .unset, .unset, .unset]) rfl ?_
      show Steps p.tables e below (T16.setTop (mkF m 123 #[.val (.long q1), .second, .val (.long q2), .second, .val (.long q3), .second, .val (.int p4), .val (.long q5), .second, .val (.int p6), .val (.int rm), .val (.long wt), .second, .val (.int kp), .val (.long b0), .second, .val (.long b1), .second, .val (.long b2), .second, .val (.long b3), .second, .val (.ref oa), .val (.ref ob), .val (.ref oc), .unset, .unset, .unset] [])) _
      refine XS.aload X16.here hx rfl (hb hby at_123) rfl rfl ?_
      show Steps p.tables e below (T16.setTop (mkF m 125 #[.val (.long q1), .second, .val (.long q2), .second, .val (.long q3), .second, .val (.int p4), .val (.long q5), .second, .val (.int p6), .val (.int rm), .val (.long wt), .second, .val (.int kp), .val (.long b0), .second, .val (.long b1), .second, .val (.long b2), .second, .val (.long b3), .second, .val (.ref oa), .val (.ref ob), .val (.ref oc), .unset, .unset, .unset] [(.ref ob)])) _
      refine XS.iload X16.here hx rfl (hb hby at_125) rfl ?_
      show Steps p.tables e below (T16.setTop (mkF m 127 #[.val (.long q1), .second, .val (.long q2), .second, .val (.long q3), .second, .val (.int p4), .val (.long q5), .second, .val (.int p6), .val (.int rm), .val (.long wt), .second, .val (.int kp), .val (.long b0), .second, .val (.long b1), .second, .val (.long b2), .second, .val (.long b3), .second, .val (.ref oa), .val (.ref ob), .val (.ref oc), .unset, .unset, .unset] [(.int rm), (.ref ob)])) _
      refine XS.lload X16.here hx rfl (hb hby at_127) rfl ?_
      show Steps p.tables e below (T16.setTop (mkF m 129 #[.val (.long q1), .second, .val (.long q2), .second, .val (.long q3), .second, .val (.int p4), .val (.long q5), .second, .val (.int p6), .val (.int rm), .val (.long wt), .second, .val (.int kp), .val (.long b0), .second, .val (.long b1), .second, .val (.long b2), .second, .val (.long b3), .second, .val (.ref oa), .val (.ref ob), .val (.ref oc), .unset, .unset, .unset] [(.long wt), (.int rm), (.ref ob)])) _
      refine XS.aload X16.here hx rfl (hb hby at_129) rfl rfl ?_
      show Steps p.tables e below (T16.setTop (mkF m 131 #[.val (.long q1), .second, .val (.long q2), .second, .val (.long q3), .second, .val (.int p4), .val (.long q5), .second, .val (.int p6), .val (.int rm), .val (.long wt), .second, .val (.int kp), .val (.long b0), .second, .val (.long b1), .second, .val (.long b2), .second, .val (.long b3), .second, .val (.ref oa), .val (.ref ob), .val (.ref oc), .unset, .unset, .unset] [(.ref oc), (.long wt), (.int rm), (.ref ob)])) _
      refine st20 _ ?_
      show Steps p.tables e below (T20.setTop (mkF m 134 #[.val (.long q1), .second, .val (.long q2), .second, .val (.long q3), .second, .val (.int p4), .val (.long q5), .second, .val (.int p6), .val (.int rm), .val (.long wt), .second, .val (.int kp), .val (.long b0), .second, .val (.long b1), .second, .val (.long b2), .second, .val (.long b3), .second, .val (.ref oa), .val (.ref ob), .val (.ref oc), .unset, .unset, .unset] [])) _
      refine st21 _ ?_
      exact retN X21 hx (t := .boolean) Bd.returns (by simp) (hb hby at_390) hr
    · show Q0 Z q1 q2 q3 p4 q5 p6 h0 n0 _ T21.heap _
      exact ⟨rfl, N21⟩
set_option maxRecDepth 65536 in
set_option maxHeartbeats 40000000 in
theorem comes_1 {Post : Tables → Env → Array Value → State → Outcome → State → Prop} (hpost : ∀ tb e args s v u, (limb_1_1.after args s (.returned v) u = true ∧ limb_1_2.after args s (.returned v) u = true ∧ True) → FrameEnd s (.returned v) u (Jvm.fieldLocs frame_1_writes args s ++ Jvm.arrayLocs frame_1_arrays args s ++ Jvm.staticLocs frame_1_statics s) 16 128 → Post tb e args s (.returned v) u) :
    ArmFor flags0 classFile x code maxLocals ret World_1 tables_1 room_1 Calls_1 rest_1 Pre_1 Post := by
  intro l hfl _ _ p e ha hc hk s m args below hf hA hF happ hP
  obtain ⟨hcalls, hrest, hpre⟩ := hP
  obtain ⟨-, -, -, hnamed, -, -, -, hat⟩ := (Spec.applies_iff hf).mp happ
  obtain ⟨hg, hn⟩ := and_e (Cond.before_iff.mp (show (Jvm.Cond.and given_1 narrow_1).before args s = true from hpre))
  obtain ⟨gc, hg0⟩ := and_e hg
  obtain ⟨ga0, hg1⟩ := and_e hg0
  obtain ⟨ga1, hg2⟩ := and_e hg1
  obtain ⟨ga2, hg3⟩ := and_e hg2
  obtain ⟨ga3, hg4⟩ := and_e hg3
  obtain ⟨ga4, hg5⟩ := and_e hg4
  obtain ⟨w0, w1, w2, w3, w4, w5, rfl⟩ : ∃ w0 w1 w2 w3 w4 w5 : Value, args = #[w0, w1, w2, w3, w4, w5] := by
    have hs : args.size = 6 := by simpa [Cond.value, given_1] using gc
    obtain ⟨L⟩ := args
    match L, hs with
    | [w0, w1, w2, w3, w4, w5], _ => exact ⟨w0, w1, w2, w3, w4, w5, rfl⟩
  have hw := fun d (hd : d ∈ tables_1) => atoms_spec (ws := Jvm.Cond.code x code maxLocals ret :: tables_1) hat d (List.mem_cons_of_mem _ hd)
  obtain ⟨i0, ei0⟩ := isL_v ga0
  obtain rfl : w0 = (.long i0) := Option.some.inj ei0
  obtain ⟨i1, ei1⟩ := isL_v ga1
  obtain rfl : w1 = (.long i1) := Option.some.inj ei1
  obtain ⟨i2, ei2⟩ := isL_v ga2
  obtain rfl : w2 = (.long i2) := Option.some.inj ei2
  obtain ⟨i3, ei3⟩ := is_v ga3
  obtain rfl : w3 = (.int i3) := Option.some.inj ei3
  obtain ⟨i4, ei4⟩ := isL_v ga4
  obtain rfl : w4 = (.long i4) := Option.some.inj ei4
  obtain ⟨i5, ei5⟩ := is_v hg5
  obtain rfl : w5 = (.int i5) := Option.some.inj ei5
  obtain ⟨n, o, h1, h2, h3, _, L, rfl, ⟨rfl, N⟩, hq⟩ := rm0 l s _ hw tables_1 i0 i1 i2 i3 i4 i5 s.heap s.heap.size (Nat.le_refl _) p e ha hc hk s m _ below hf ((Spec.applies_iff_loose hf).mp happ).1 ⟨rfl, State.Warmed39.refl s, rfl⟩ trivial
  refine ⟨n, _, h1, h2, h3, hpost _ _ _ _ _ _ ⟨Cond.after_iff.mpr rfl, Cond.after_iff.mpr (eq_i res_at (Term.int_eval (1)) rfl), trivial⟩ ⟨hq.1, hq.2.1, (hq.2.2.sift fun y hy => Or.inr (N y hy)).mono (by decide) (by decide)⟩⟩
theorem main_1_1 : Claimed_1_1 := comes_1 fun _ _ _ _ _ _ h hF => ⟨h.1, hF⟩
theorem main_1_2 : Claimed_1_2 := comes_1 fun _ _ _ _ _ _ h hF => ⟨h.2.1, hF⟩
end Jvm.Pilot.@@N@@
namespace Jvm.Pilot.@@N@@
open Jvm Jvm.ClassFile Sem Op Lib Jvm.Free Jvm.Stand Jvm.Pilot.@@N@@.Jvm.D
/-! MADE BY PROGRAM (witnessworld.py) out of the Statement's table words and the real class files: 12 classes; the members and pool entries that the words name. The judged class is class 1, her method 3. -/
namespace start1
open Jvm.ClassFile
def u (s : String) : CpInfo := .utf8 (stringToUtf16 s)
/-- a pool by its gaps: so many unusable entries, then the entry; so many at the end -/
def gap : Nat → List CpInfo → List CpInfo
  | 0, r => r
  | n + 1, r => .unusable :: gap n r
def poolList (es : List (Nat × CpInfo)) (last : Nat) : List CpInfo := es.foldr (fun e r => gap e.1 (e.2 :: r)) (gap last [])
def pool (es : List (Nat × CpInfo)) (last : Nat) : Array CpInfo := ⟨poolList es last⟩
def fileOf (pool : Array CpInfo) (this : Nat) (attrs : Array Attribute := #[]) (ms : Array MethodInfo := #[]) (fl : Nat := 33) (sup : Nat := 0) (ifs : Array Nat := #[]) (fds : Array FieldInfo := #[]) : ClassFile where
  minorVersion := 0
  majorVersion := 65
  constantPool := pool
  accessFlags := fl
  thisClass := this
  superClass := sup
  interfaces := ifs
  fields := fds
  methods := ms
  attributes := attrs
def plain (name : String) (sup : Option ClassId) : Class where
  name := name
  kind := .ordinary
  loader := none
  accessFlags := 33
  super := sup
  interfaces := #[]
  cf := none
  fields := #[]
  methods := #[]
  instanceTypes := #[]
  staticTypes := #[]
  resolved := #[]
  callSites := []
  init := .initialized
  statics := none
  mirror := none

def pool0 : Array CpInfo := pool [(5, u "<init>"), (0, u "()V"), (1, .class_ 10), (1, u "java/lang/Object")] 113

def k0m0 : Method := { name := "<init>", desc := "()V", sig := { parameters := [], returnType := none }, accessFlags := 1, code := none }
/-- java/lang/Object -/
def k0 : Class := { plain "java/lang/Object" none with
  accessFlags := 33
  interfaces := #[]
  cf := some (fileOf pool0 8 #[] #[{ accessFlags := 1, nameIndex := 5, descriptorIndex := 6, attributes := #[] }] 33 0 #[] #[])
  fields := #[]
  methods := #[k0m0]
  instanceTypes := #[]
  staticTypes := #[]
  resolved := Array.replicate 124 none
  statics := none }

def pool1 : Array CpInfo := pool [(2, .class_ 4), (1, u "java/lang/Object"), (0, u "<init>"), (0, u "()V"), (0, .methodref 8 9), (0, .class_ 10), (0, .nameAndType 11 12), (0, u "com/example/chromabin/chromabin/packing/RoomKnapsackIncludePinLaw"), (0, u "improves"), (0, u "([JIIJ)Z"), (0, .methodref 14 15), (0, .class_ 16), (0, .nameAndType 17 18), (0, u "com/example/chromabin/chromabin/packing/RoomKnapsack"), (0, u site_131.name), (0, u "([JIJ[J)V"), (0, .methodref 8 20), (0, .nameAndType 21 22), (0, u "expect"), (0, u "([JIIJ)J"), (0, .long 2), (1, .long 4), (1, .long 8), (4, u "law"), (0, u "(JJJIJI)Z")] 4

def k1m0 : Method := { name := "<init>", desc := "()V", sig := { parameters := [], returnType := none }, accessFlags := 2, code := none }
def k1c1 : Code := { maxStack := 4, maxLocals := 5, code := method_2_code, exceptionTable := #[], attributes := #[] }
def k1m1 : Method := { name := "improves", desc := "([JIIJ)Z", sig := { parameters := [(.array .long), .int, .int, .long], returnType := some .boolean }, accessFlags := 10, code := some k1c1 }
def k1c2 : Code := { maxStack := 5, maxLocals := 5, code := method_3_code, exceptionTable := #[], attributes := #[] }
def k1m2 : Method := { name := "expect", desc := "([JIIJ)J", sig := { parameters := [(.array .long), .int, .int, .long], returnType := some .long }, accessFlags := 10, code := some k1c2 }
def k1c3 : Code := { maxStack := 7, maxLocals := 28, code := code, exceptionTable := #[], attributes := #[] }
def k1m3 : Method := { name := "law", desc := "(JJJIJI)Z", sig := { parameters := [.long, .long, .long, .int, .long, .int], returnType := some .boolean }, accessFlags := 9, code := some k1c3 }
/-- com/example/chromabin/chromabin/packing/RoomKnapsackIncludePinLaw -/
def k1 : Class := { plain "com/example/chromabin/chromabin/packing/RoomKnapsackIncludePinLaw" (some 0) with
  accessFlags := 49
  interfaces := #[]
  cf := some (fileOf pool1 8 #[] #[{ accessFlags := 2, nameIndex := 5, descriptorIndex := 6, attributes := #[] }, { accessFlags := 10, nameIndex := 11, descriptorIndex := 12, attributes := #[] }, { accessFlags := 10, nameIndex := 21, descriptorIndex := 22, attributes := #[] }, { accessFlags := 9, nameIndex := 32, descriptorIndex := 33, attributes := #[] }] 49 2 #[] #[])
  fields := #[]
  methods := #[k1m0, k1m1, k1m2, k1m3]
  instanceTypes := #[]
  staticTypes := #[]
  resolved := Array.replicate 38 none
  statics := none }

def pool2 : Array CpInfo := pool [(2, .class_ 4), (1, u "java/lang/Object"), (0, u "<init>"), (0, u "()V"), (0, .class_ 8), (0, u "com/example/chromabin/chromabin/packing/Knapsack"), (25, u "MOST_STEPS"), (0, u "J"), (1, u "MOST_ROOMS"), (0, u "I")] 17

def k2m0 : Method := { name := "<init>", desc := "()V", sig := { parameters := [], returnType := none }, accessFlags := 0, code := none }
/-- com/example/chromabin/chromabin/packing/Knapsack -/
def k2 : Class := { plain "com/example/chromabin/chromabin/packing/Knapsack" (some 0) with
  accessFlags := 1056
  interfaces := #[]
  cf := some (fileOf pool2 7 #[] #[{ accessFlags := 0, nameIndex := 5, descriptorIndex := 6, attributes := #[] }] 1056 2 #[] #[{ accessFlags := 24, nameIndex := 34, descriptorIndex := 35, attributes := #[] }, { accessFlags := 24, nameIndex := 37, descriptorIndex := 38, attributes := #[] }])
  fields := #[{ name := "MOST_STEPS", type := .long, accessFlags := 24, slot := 0, constantValue := 0 }, { name := "MOST_ROOMS", type := .int, accessFlags := 24, slot := 1, constantValue := 0 }]
  methods := #[k2m0]
  instanceTypes := #[]
  staticTypes := #[.long, .int]
  resolved := Array.replicate 56 none
  statics := none }

def pool3 : Array CpInfo := pool [(2, .class_ 4), (1, u "com/example/chromabin/chromabin/packing/Knapsack"), (3, .class_ 10), (1, u "com/example/chromabin/chromabin/packing/RoomKnapsack"), (0, u "capacity"), (0, u "I"), (2, u "sizes"), (6, u "chunkSize"), (0, u "[I"), (2, u "chunkCopies"), (2, u "chunkRoom"), (8, u "best"), (0, u "[J"), (1, u "[[J"), (2, u "took"), (2, u "priced"), (0, u "[Z"), (2, u "steps"), (0, u "J"), (8, u site_131.name), (0, u "([JIJ[J)V")] 22

def k3c0 : Code := { maxStack := 7, maxLocals := 8, code := prog_89_method_5_code, exceptionTable := #[], attributes := #[] }
def k3m0 : Method := { name := site_131.name, desc := "([JIJ[J)V", sig := { parameters := [(.array .long), .int, .long, (.array .long)], returnType := none }, accessFlags := 8, code := some k3c0 }
/-- com/example/chromabin/chromabin/packing/RoomKnapsack -/
def k3 : Class := { plain "com/example/chromabin/chromabin/packing/RoomKnapsack" (some 2) with
  accessFlags := 32
  interfaces := #[]
  cf := some (fileOf pool3 8 #[] #[{ accessFlags := 8, nameIndex := 61, descriptorIndex := 62, attributes := #[] }] 32 2 #[] #[{ accessFlags := 18, nameIndex := 11, descriptorIndex := 12, attributes := #[] }, { accessFlags := 18, nameIndex := 15, descriptorIndex := 12, attributes := #[] }, { accessFlags := 18, nameIndex := 22, descriptorIndex := 23, attributes := #[] }, { accessFlags := 18, nameIndex := 26, descriptorIndex := 23, attributes := #[] }, { accessFlags := 18, nameIndex := 29, descriptorIndex := 23, attributes := #[] }, { accessFlags := 18, nameIndex := 38, descriptorIndex := 39, attributes := #[] }, { accessFlags := 18, nameIndex := 44, descriptorIndex := 41, attributes := #[] }, { accessFlags := 18, nameIndex := 47, descriptorIndex := 48, attributes := #[] }, { accessFlags := 2, nameIndex := 51, descriptorIndex := 52, attributes := #[] }])
  fields := #[{ name := "capacity", type := .int, accessFlags := 18, slot := 0, constantValue := 0 }, { name := "sizes", type := .int, accessFlags := 18, slot := 1, constantValue := 0 }, { name := "chunkSize", type := (.array .int), accessFlags := 18, slot := 2, constantValue := 0 }, { name := "chunkCopies", type := (.array .int), accessFlags := 18, slot := 3, constantValue := 0 }, { name := "chunkRoom", type := (.array .int), accessFlags := 18, slot := 4, constantValue := 0 }, { name := "best", type := (.array .long), accessFlags := 18, slot := 5, constantValue := 0 }, { name := "took", type := (.array (.array .long)), accessFlags := 18, slot := 6, constantValue := 0 }, { name := "priced", type := (.array .boolean), accessFlags := 18, slot := 7, constantValue := 0 }, { name := "steps", type := .long, accessFlags := 2, slot := 8, constantValue := 0 }]
  methods := #[k3m0]
  instanceTypes := #[.int, .int, (.array .int), (.array .int), (.array .int), (.array .long), (.array (.array .long)), (.array .boolean), .long]
  staticTypes := #[]
  resolved := Array.replicate 85 none
  statics := none }

def pool4 : Array CpInfo := pool [(1, u "java/lang/Cloneable"), (0, .class_ 1), (0, u "java/lang/Object"), (0, .class_ 3)] 3

/-- java/lang/Cloneable -/
def k4 : Class := { plain "java/lang/Cloneable" (some 0) with
  accessFlags := 1537
  interfaces := #[]
  cf := some (fileOf pool4 2 #[] #[] 1537 4 #[] #[])
  fields := #[]
  methods := #[]
  instanceTypes := #[]
  staticTypes := #[]
  resolved := Array.replicate 8 none
  statics := none }

def pool5 : Array CpInfo := pool [(1, u "java/io/Serializable"), (0, .class_ 1), (0, u "java/lang/Object"), (0, .class_ 3)] 3

/-- java/io/Serializable -/
def k5 : Class := { plain "java/io/Serializable" (some 0) with
  accessFlags := 1537
  interfaces := #[]
  cf := some (fileOf pool5 2 #[] #[] 1537 4 #[] #[])
  fields := #[]
  methods := #[]
  instanceTypes := #[]
  staticTypes := #[]
  resolved := Array.replicate 8 none
  statics := none }

/-- the primitive byte -/
def k6 : Class := { plain "byte" none with kind := .primitive 'B', accessFlags := 0x411 }
/-- [B -/
def k7 : Class := { plain "[B" (some 0) with kind := .array 6 .byte, interfaces := #[4, 5], accessFlags := 1041 }

/-- the primitive int -/
def k8 : Class := { plain "int" none with kind := .primitive 'I', accessFlags := 0x411 }
/-- [I -/
def k9 : Class := { plain "[I" (some 0) with kind := .array 8 .int, interfaces := #[4, 5], accessFlags := 1041 }

/-- the primitive long -/
def k10 : Class := { plain "long" none with kind := .primitive 'J', accessFlags := 0x411 }
/-- [J -/
def k11 : Class := { plain "[J" (some 0) with kind := .array 10 .long, interfaces := #[4, 5], accessFlags := 1041 }

def heap : Heap := #[]
def classes : Array Class := #[k0, k1, k2, k3, k4, k5, k6, k7, k8, k9, k10, k11]
def interned : List (Array UInt16 × Addr) := []
def slotsUsed : Nat := 0
def theMethod : MethodId := ⟨1, 3⟩
def args0 : Array Value := #[.long 5, .long 6, .long 7, .int 1, .long 3, .int 1]
def aboutOver (below : List Frame) : State where
  vm := { classes := classes, interned := interned.toArray }
  heap := heap
  slotsUsed := slotsUsed
  threads := #[{ frames := .invoking theMethod args0 :: below }]
def below0 : List Frame := [.native { method := ⟨0, 0⟩, args := #[] }]
def about1 : State := aboutOver below0
def p0 : Program := .bare "" "" ""
def e0 : Env := launch0.env 0 0 0
theorem w_frames : about1.frames = Frame.invoking theMethod args0 :: below0 := rfl
set_option maxRecDepth 65536 in
theorem w_args : argsFit about1.vm theMethod args0 = true := by decide +kernel
set_option maxRecDepth 65536 in
theorem w_heap : heapFits about1 = true := by decide +kernel
set_option maxRecDepth 65536 in
theorem w_runnable : about1.curStatus? = some .runnable := by decide +kernel
set_option maxRecDepth 65536 in
theorem w_alone : about1.alone = true := by decide +kernel
set_option maxRecDepth 65536 in
theorem w_named : about1.methodNamed? x = some theMethod := by decide +kernel
set_option maxRecDepth 65536 in
theorem w_hears : about1.hears theMethod below0 = true := by decide +kernel
set_option maxRecDepth 65536 in
theorem w_ripe : about1.ripe theMethod args0 below0 = true := by decide +kernel
theorem w_running : about1.status = .running := rfl
set_option maxRecDepth 65536 in
theorem w_room : about1.hasRoom e0.platform room_1 = true :=
  launch0.hasRoom_least _ room_1 (by decide +kernel) (by decide +kernel) (by decide +kernel) (by decide +kernel) (by decide +kernel) (by decide +kernel)
theorem allAtoms_all (ts : List Jvm.Cond) (a : Array Jvm.Value) (st : Jvm.State) : (allAtoms ts).before a st = ts.all (fun c => c.before a st) := by
  induction ts with
  | nil => rfl
  | cons c t ih =>
    show (Jvm.Cond.and c (allAtoms t)).before a st = _
    rw [Jvm.Cond.before_and, ih, List.all_cons]
def words1 : List Jvm.Cond := Jvm.Cond.code x code maxLocals ret :: tables_1
/-- a 'code' word, met by the world's own term for the bytes: nothing is compared byte by byte -/
theorem code_word {y : MethodName} {bytes : ByteArray} {mx : Nat} {rt : Option FieldType} {a : Array Value} {s : State} {m : MethodId} {meth : Method} {c : Code} (h1 : s.methodNamed? y = some m) (h2 : s.vm.method? m = some meth) (h3 : meth.code = some c) (h4 : c.code = bytes)
    (h5 : (c.maxLocals == mx && c.exceptionTable.isEmpty && decide (c.maxStack ≤ mostOperands) && decide (meth.sig.returnType = rt) && !meth.locks && decide (parseMethodDescriptor y.desc = some meth.sig)) = true) : (Jvm.Cond.code y bytes mx rt).before a s = true := by
  simp only [Bool.and_eq_true, beq_iff_eq, Bool.not_eq_true', decide_eq_true_eq] at h5
  obtain ⟨⟨⟨⟨⟨g1, g2⟩, g3⟩, g4⟩, g5⟩, g6⟩ := h5
  simp [Cond.before, Cond.holds, Cond.value, h1, h2, h3, h4, g1, g2, g3, g4, g5, g6]
def isCode : Jvm.Cond → Bool
  | .code _ _ _ _ => true
  | _ => false
theorem all_split {L : List Jvm.Cond} {P : Jvm.Cond → Bool} (h1 : L.all (fun c => isCode c || P c) = true) (h2 : ∀ c ∈ L.filter isCode, P c = true) : L.all P = true := by
  refine List.all_eq_true.mpr fun c hc => ?_
  have h := List.all_eq_true.mp h1 c hc
  rcases Bool.eq_false_or_eq_true (isCode c) with hi | hi
  · exact h2 c (List.mem_filter.mpr ⟨hc, hi⟩)
  · simpa [hi] using h
set_option maxRecDepth 65536 in
theorem w_c0 : (Jvm.Cond.code x code maxLocals ret).before args0 about1 = true := code_word (m := ⟨1, 3⟩) (meth := k1m3) (c := k1c3) (by decide +kernel) rfl rfl rfl (by decide +kernel)
set_option maxRecDepth 65536 in
theorem w_c1 : (Jvm.Cond.code site_131 prog_89_method_5_code (8 : Nat) (Option.none : Option Jvm.ClassFile.FieldType)).before args0 about1 = true := code_word (m := ⟨3, 0⟩) (meth := k3m0) (c := k3c0) (by decide +kernel) rfl rfl rfl (by decide +kernel)
set_option maxRecDepth 65536 in
theorem w_c2 : (Jvm.Cond.code ({ cls := "com/example/chromabin/chromabin/packing/RoomKnapsackIncludePinLaw", name := "expect", desc := "([JIIJ)J" } : Jvm.MethodName) method_3_code (5 : Nat) (Option.some Jvm.ClassFile.FieldType.long)).before args0 about1 = true := code_word (m := ⟨1, 2⟩) (meth := k1m2) (c := k1c2) (by decide +kernel) rfl rfl rfl (by decide +kernel)
set_option maxRecDepth 65536 in
theorem w_c3 : (Jvm.Cond.code ({ cls := "com/example/chromabin/chromabin/packing/RoomKnapsackIncludePinLaw", name := "improves", desc := "([JIIJ)Z" } : Jvm.MethodName) method_2_code (5 : Nat) (Option.some Jvm.ClassFile.FieldType.boolean)).before args0 about1 = true := code_word (m := ⟨1, 1⟩) (meth := k1m1) (c := k1c1) (by decide +kernel) rfl rfl rfl (by decide +kernel)
def codes1 : List Jvm.Cond := [Jvm.Cond.code x code maxLocals ret, Jvm.Cond.code site_131 prog_89_method_5_code (8 : Nat) (Option.none : Option Jvm.ClassFile.FieldType), Jvm.Cond.code ({ cls := "com/example/chromabin/chromabin/packing/RoomKnapsackIncludePinLaw", name := "expect", desc := "([JIIJ)J" } : Jvm.MethodName) method_3_code (5 : Nat) (Option.some Jvm.ClassFile.FieldType.long), Jvm.Cond.code ({ cls := "com/example/chromabin/chromabin/packing/RoomKnapsackIncludePinLaw", name := "improves", desc := "([JIIJ)Z" } : Jvm.MethodName) method_2_code (5 : Nat) (Option.some Jvm.ClassFile.FieldType.boolean)]
set_option maxRecDepth 65536 in
theorem codes_eq : words1.filter isCode = codes1 := rfl
theorem w_codes : ∀ c ∈ words1.filter isCode, c.before args0 about1 = true := by
  rw [codes_eq]
  intro c hc
  simp only [codes1, List.mem_cons, List.not_mem_nil, or_false] at hc
  rcases hc with rfl | rfl | rfl | rfl
  · exact w_c0
  · exact w_c1
  · exact w_c2
  · exact w_c3
set_option maxRecDepth 65536 in
theorem w_t1 : words1.all (fun c => isCode c || c.before args0 about1) = true := by decide +kernel
theorem w_tables : (allAtoms (Jvm.Cond.code x code maxLocals ret :: tables_1)).before args0 about1 = true := by
  rw [allAtoms_all]
  show words1.all (fun c => c.before args0 about1) = true
  refine all_split ?_ w_codes
  rw [w_t1]
set_option maxRecDepth 65536 in
theorem w_case : (Jvm.Cond.and given_1 narrow_1).before args0 about1 = true := by decide +kernel
theorem w_applies : (headSpec (Jvm.Cond.code x code maxLocals ret :: tables_1) room_1).applies x e0.platform about1 = true :=
  (Spec.applies_iff w_frames).mpr ⟨w_running, w_runnable, w_alone, w_named, w_hears, w_ripe, w_room, w_tables⟩
theorem atStart : AtStart classFile x code maxLocals ret World_1 tables_1 room_1 Calls_1 rest_1 Pre_1 launch0 p0 e0 about1 theMethod args0 below0 :=
  ⟨lists_1, trivial, launch0.admits_env _ _ _, launch0.least_env, fairChoices_fair.cas, fairChoices_fair.clock, w_frames, w_args, w_heap, w_applies, trivial, trivial, w_case⟩
end start1
theorem witness_1 : WitnessClaimed_1 := ⟨start1.p0, start1.e0, start1.about1, start1.theMethod, start1.args0, start1.below0, start1.atStart⟩
end Jvm.Pilot.@@N@@
