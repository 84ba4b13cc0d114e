-- written by a program of this session (wip/tools/pp.py)
import Derived.Test.YtlmmgienbmghmaaDoorL1
namespace Go.Proofs.YtlmmgienbmghmaaDoor.L
open Go.RowKit Go.Proofs.YtlmmgienbmghmaaDoorW.PrintWords Go.Proofs.YtlmmgienbmghmaaDoorW.PrintLast Go.Proofs.YtlmmgienbmghmaaDoor.M Go.Proofs.YtlmmgienbmghmaaDoor.UDoor Go.Proofs.YtlmmgienbmghmaaDoorW.PrintMore
attribute [local go_sem] max2_int min2_int max_two min_two max_three min_three max_four min_four   -- for this text's walks alone
set_option linter.unusedVariables false
set_option linter.unusedSimpArgs false
theorem sz1l2_ (c : UInt8) : (⟨#[c]⟩ : ByteArray).size = 1 := rfl
theorem sz3l2_ (a b c : UInt8) : (⟨#[a, b, c]⟩ : ByteArray).size = 3 := rfl
theorem sz5l2_ (a b c d e : UInt8) : (⟨#[a, b, c, d, e]⟩ : ByteArray).size = 5 := rfl
theorem sz12l2_ (a b c d e f g h i j k l : UInt8) : (⟨#[a, b, c, d, e, f, g, h, i, j, k, l]⟩ : ByteArray).size = 12 := rfl
theorem sz7l2_ (a b c d e f g : UInt8) : (⟨#[a, b, c, d, e, f, g]⟩ : ByteArray).size = 7 := rfl

attribute [local go_sem high] eqA28
/-! ### laws_reads: function 12 -/
def laws_reads.f  : Option (Bool) := (impl_UnitRead.f (⟨#[91, 85, 110, 105, 116, 93, 10, 65, 102, 116, 101, 114, 61, 97, 46, 116, 97, 114, 103, 101, 116, 10]⟩ : ByteArray)).bind fun bt101 => (if bt101.2 = 0 then (if (bt101.1.length : Int) = 1 then (if 0 < (bt101.1.length : Int) then (some ((((rd_T28 bt101.1 0).f0).toList) == ([85, 110, 105, 116] : List UInt8) && ((((rd_T28 bt101.1 0).f1).toList) == ([65, 102, 116, 101, 114] : List UInt8) && ((((rd_T28 bt101.1 0).f2).toList) == ([97, 46, 116, 97, 114, 103, 101, 116] : List UInt8))))) else (none)) else (some false)) else (some false))
set_option maxHeartbeats 8000000 in
set_option maxRecDepth 100000 in
theorem laws_reads.calls  (r : Bool) (w : World) (h : laws_reads.f  = some r) (hTabs : Tabs w := by first | exact hTabs | exact Tabs.below hTabs (by repeat (first | (with_reducible first | exact HB.out | apply below_alloc | apply pw_below_drewN | apply below_drew1 | refine below_set ?_ (Aside0.out (by assumption))) | exact HB.out))) :
  Calls Tryd.prog 12 #[] w fun e w' => e = .returned (.bool r) ∧ Below w.heap.size w w' := by
 have hu28 := Tryd.underlying28
 have HB := Aside0.mk (Below.refl w.heap.size w)
 have H : ((impl_UnitRead.f (⟨#[91, 85, 110, 105, 116, 93, 10, 65, 102, 116, 101, 114, 61, 97, 46, 116, 97, 114, 103, 101, 116, 10]⟩ : ByteArray)).bind fun bt101 => (if bt101.2 = 0 then (if (bt101.1.length : Int) = 1 then (if 0 < (bt101.1.length : Int) then (some ((((rd_T28 bt101.1 0).f0).toList) == ([85, 110, 105, 116] : List UInt8) && ((((rd_T28 bt101.1 0).f1).toList) == ([65, 102, 116, 101, 114] : List UInt8) && ((((rd_T28 bt101.1 0).f2).toList) == ([97, 46, 116, 97, 114, 103, 101, 116] : List UInt8))))) else (none)) else (some false)) else (some false))) = some r := h
 clear h
 replace H := Option.bind_eq_some_iff.mp H
 obtain ⟨⟨t101, t102⟩, A10, H⟩ := H
 have A1 := Aside0.mk A10
 clear A10
 by_cases c2 : t102 = 0
 ·rw [if_pos c2] at H
  have c2b0 : (t102 == 0) = true := beq_iff_eq.mpr c2
  have c2b1 : (t102 != 0) = false := bne_eq_false_iff_eq.mpr c2
  clear c2
  by_cases c3 : (t101.length : Int) = 1
  ·rw [if_pos c3] at H
   have c3b0 : ((t101.length : Int) == 1) = true := beq_iff_eq.mpr c3
   have c3b1 : ((t101.length : Int) != 1) = false := bne_eq_false_iff_eq.mpr c3
   clear c3
   by_cases c4 : 0 < (t101.length : Int)
   ·rw [if_pos c4] at H
    have c4b0 : decide (0 < (t101.length : Int)) = true := decide_eq_true c4
    have c4b1 : decide (0 < t101.length) = true := decide_eq_true (by omega)
    clear c4
    obtain rfl := Option.some.inj H
    go_enter Tryd.func12, Tryd.ntmps12
    go_wp2_with (first | ((with_reducible refine gate_callee (f := 11) rfl ?_); refine goesL_ (some 4) rfl rfl Tryd.func11 (by kernel_rfl) rfl #[.string (⟨#[91, 85, 110, 105, 116, 93, 10, 65, 102, 116, 101, 114, 61, 97, 46, 116, 97, 114, 103, 101, 116, 10]⟩ : ByteArray)] rfl (by (try simp only [List.map_toArray, List.map_cons, List.map_nil]); first | done | rfl | (simp only [List.length_drop, List.length_take]; rfl)) ?_; (with_reducible refine (impl_UnitRead.calls (⟨#[91, 85, 110, 105, 116, 93, 10, 65, 102, 116, 101, 114, 61, 97, 46, 116, 97, 114, 103, 101, 116, 10]⟩ : ByteArray) t101 t102 _ A1.out).mono ?_); rintro e w5 ⟨v103, rfl, ho0, hb⟩; refine ⟨_, rfl, ?_⟩; have n0_ := Aside0.mk (Kd.R_lower ho0 (below_size belH)); have n1_ := Aside0.mk (below_step belH hb); clear HB; have HO104 := n0_; have HB := n1_; clear n0_ n1_; (try clear hb); (try clear hb2); (try clear hk); (try clear hi); (try clear ho0); obtain ⟨Ao6, co6, eo6⟩ := Kd.R_slice HO104.out; subst eo6; have p105 : 0 ≤ (0 : Int) := (by omega); have q105 : 0 < (t101.length : Int) := of_decide_eq_true (by first | (with_reducible assumption) | assumption); obtain ⟨ad105, e105, hx105_0, hx105_1, hx105_2⟩ := at_T28 (Kd.R_reads' HO104.out).2.2 0 p105 q105; cases e105; have qi105 : (0 < t101.length) = True := eq_true (by omega); (try rw [show ((0 : Int)).toNat = 0 from rfl] at hx105_0); (try rw [show 0 * 3 = 0 from rfl] at hx105_0); (try rw [Addr.add_zero'] at hx105_0); (try rw [show ((0 : Int)).toNat = 0 from rfl] at hx105_1); (try rw [show 0 * 3 = 0 from rfl] at hx105_1); (try rw [Addr.add_zero'] at hx105_1); (try rw [show ((0 : Int)).toNat = 0 from rfl] at hx105_2); (try rw [show 0 * 3 = 0 from rfl] at hx105_2); (try rw [Addr.add_zero'] at hx105_2); replace p105 := eq_true p105; replace q105 := eq_true q105))
    go_ret
    exact ⟨by first | rfl | (simp [errW_none, errW_some] <;> rfl) | (simp [*, errW_none, errW_some] <;> rfl), by repeat (first | (with_reducible first | exact HB.out | apply below_alloc | apply pw_below_drewN | apply below_drew1) | exact HB.out)⟩
   ·rw [if_neg c4] at H
    exact absurd H (by simp)
  ·rw [if_neg c3] at H
   have c3b0 : ((t101.length : Int) == 1) = false := beq_eq_false_iff_ne.mpr c3
   have c3b1 : ((t101.length : Int) != 1) = true := bne_iff_ne.mpr c3
   obtain rfl := Option.some.inj H
   go_enter Tryd.func12, Tryd.ntmps12
   go_wp2_with (first | ((with_reducible refine gate_callee (f := 11) rfl ?_); refine goesL_ (some 4) rfl rfl Tryd.func11 (by kernel_rfl) rfl #[.string (⟨#[91, 85, 110, 105, 116, 93, 10, 65, 102, 116, 101, 114, 61, 97, 46, 116, 97, 114, 103, 101, 116, 10]⟩ : ByteArray)] rfl (by (try simp only [List.map_toArray, List.map_cons, List.map_nil]); first | done | rfl | (simp only [List.length_drop, List.length_take]; rfl)) ?_; (with_reducible refine (impl_UnitRead.calls (⟨#[91, 85, 110, 105, 116, 93, 10, 65, 102, 116, 101, 114, 61, 97, 46, 116, 97, 114, 103, 101, 116, 10]⟩ : ByteArray) t101 t102 _ A1.out).mono ?_); rintro e w7 ⟨v103, rfl, ho0, hb⟩; refine ⟨_, rfl, ?_⟩; have n0_ := Aside0.mk (Kd.R_lower ho0 (below_size belH)); have n1_ := Aside0.mk (below_step belH hb); clear HB; have HO104 := n0_; have HB := n1_; clear n0_ n1_; (try clear hb); (try clear hb2); (try clear hk); (try clear hi); (try clear ho0); obtain ⟨Ao8, co8, eo8⟩ := Kd.R_slice HO104.out; subst eo8))
   go_ret
   exact ⟨by first | rfl | (simp [errW_none, errW_some] <;> rfl) | (simp [*, errW_none, errW_some] <;> rfl), by repeat (first | (with_reducible first | exact HB.out | apply below_alloc | apply pw_below_drewN | apply below_drew1) | exact HB.out)⟩
 ·rw [if_neg c2] at H
  have c2b0 : (t102 == 0) = false := beq_eq_false_iff_ne.mpr c2
  have c2b1 : (t102 != 0) = true := bne_iff_ne.mpr c2
  obtain rfl := Option.some.inj H
  go_enter Tryd.func12, Tryd.ntmps12
  go_wp2_with (first | ((with_reducible refine gate_callee (f := 11) rfl ?_); refine goesL_ (some 4) rfl rfl Tryd.func11 (by kernel_rfl) rfl #[.string (⟨#[91, 85, 110, 105, 116, 93, 10, 65, 102, 116, 101, 114, 61, 97, 46, 116, 97, 114, 103, 101, 116, 10]⟩ : ByteArray)] rfl (by (try simp only [List.map_toArray, List.map_cons, List.map_nil]); first | done | rfl | (simp only [List.length_drop, List.length_take]; rfl)) ?_; (with_reducible refine (impl_UnitRead.calls (⟨#[91, 85, 110, 105, 116, 93, 10, 65, 102, 116, 101, 114, 61, 97, 46, 116, 97, 114, 103, 101, 116, 10]⟩ : ByteArray) t101 t102 _ A1.out).mono ?_); rintro e w9 ⟨v103, rfl, ho0, hb⟩; refine ⟨_, rfl, ?_⟩; have n0_ := Aside0.mk (Kd.R_lower ho0 (below_size belH)); have n1_ := Aside0.mk (below_step belH hb); clear HB; have HO104 := n0_; have HB := n1_; clear n0_ n1_; (try clear hb); (try clear hb2); (try clear hk); (try clear hi); (try clear ho0)))
  go_ret
  exact ⟨by first | rfl | (simp [errW_none, errW_some] <;> rfl) | (simp [*, errW_none, errW_some] <;> rfl), by repeat (first | (with_reducible first | exact HB.out | apply below_alloc | apply pw_below_drewN | apply below_drew1) | exact HB.out)⟩

/-! ### laws_sameOptions: function 13 -/
def laws_sameOptions.l0 : Nat → List (S28) → List (S28) → Int → Int → Option (Bool)
 | 0, _, _, _, _ => none
 | k + 1, x0, x1, x12, x13 => if x13 < x12 then (if 0 ≤ x13 then (if x13 < (x0.length : Int) then (if x13 < (x1.length : Int) then (if (!((((rd_T28 x0 x13).f0).toList) == (((rd_T28 x1 x13).f0).toList)) || (!((((rd_T28 x0 x13).f1).toList) == (((rd_T28 x1 x13).f1).toList)) || (!((((rd_T28 x0 x13).f2).toList) == (((rd_T28 x1 x13).f2).toList))))) = true then (some false) else (laws_sameOptions.l0 k x0 x1 x12 (wrap64 (x13 + 1)))) else (none)) else (none)) else (none)) else (some true)
def laws_sameOptions.f (k : Nat) (l0 : List (S28)) (l1 : List (S28)) : Option (Bool) := if (l0.length : Int) = (l1.length : Int) then (laws_sameOptions.l0 k l0 l1 (l0.length : Int) 0) else (some false)
theorem laws_sameOptions.mono_l : ∀ k, (∀ y0 y1 y2 y3, LeO (laws_sameOptions.l0 k y0 y1 y2 y3) (laws_sameOptions.l0 (k + 1) y0 y1 y2 y3))
 | 0 => fun _ _ _ _ r h => by simp [laws_sameOptions.l0] at h
 | k + 1 => by
  have ih0 := laws_sameOptions.mono_l k
  ·intro y0 y1 y2 y3
   unfold laws_sameOptions.l0
   repeat' first
   | (with_reducible exact ih0 _ _ _ _)
   | (with_reducible exact LeO.refl _)
   | (with_reducible exact LeO.none _)
   | (with_reducible refine LeO.ite ?_ ?_)
   | (with_reducible refine LeO.bind ?_ (fun _ => ?_))
   | exact ih0 _ _ _ _
   | exact LeO.none _
   | refine LeO.ite ?_ ?_
   | refine LeO.bind ?_ (fun _ => ?_)
theorem laws_sameOptions.mono : ∀ a0 a1 k, LeO (laws_sameOptions.f k a0 a1) (laws_sameOptions.f (k + 1) a0 a1) := by
 intro a0 a1 k
 have ih0 := laws_sameOptions.mono_l k
 unfold laws_sameOptions.f
 repeat' first
   | (with_reducible exact ih0 _ _ _ _)
   | (with_reducible exact LeO.refl _)
   | (with_reducible exact LeO.none _)
   | (with_reducible refine LeO.ite ?_ ?_)
   | (with_reducible refine LeO.bind ?_ (fun _ => ?_))
   | exact ih0 _ _ _ _
   | exact LeO.none _
   | refine LeO.ite ?_ ?_
   | refine LeO.bind ?_ (fun _ => ?_)
set_option maxHeartbeats 8000000 in
set_option maxRecDepth 100000 in
theorem laws_sameOptions.calls (k : Nat) (A0 : Option Addr) (c0 : Nat) (l0 : List (S28)) (A1 : Option Addr) (c1 : Nat) (l1 : List (S28)) (r : Bool) (w : World) (hr0 : Kd.C k28 w A0 l0.length l0) (hc0 : l0.length ≤ c0) (hr1 : Kd.C k28 w A1 l1.length l1) (hc1 : l1.length ≤ c1) (h : laws_sameOptions.f k l0 l1 = some r) :
  Calls Tryd.prog 13 #[.slice A0 l0.length c0, .slice A1 l1.length c1] w fun e w' => e = .returned (.bool r) ∧ Drawn0 w w' := by
 have hu28 := Tryd.underlying28
 have HR0 := Aside0.mk hr0
 have HC0 := Aside0.mk hc0
 clear hr0 hc0
 have HR1 := Aside0.mk hr1
 have HC1 := Aside0.mk hc1
 clear hr1 hc1
 have H : (if (l0.length : Int) = (l1.length : Int) then (laws_sameOptions.l0 k l0 l1 (l0.length : Int) 0) else (some false)) = some r := h
 clear h
 by_cases c3 : (l0.length : Int) = (l1.length : Int)
 ·rw [if_pos c3] at H
  have c3b0 : ((l0.length : Int) == (l1.length : Int)) = true := beq_iff_eq.mpr c3
  have c3b1 : ((l0.length : Int) != (l1.length : Int)) = false := bne_eq_false_iff_eq.mpr c3
  have c3b2 : (l0.length == l1.length) = true := by first | simpa using c3 | (simp at c3 ⊢; omega)
  clear c3
  have H' := Aside0.mk H
  clear H
  go_enter Tryd.func13, Tryd.ntmps13
  go_wp2
  repeat (go_quiet (fail); try go_wp2)
  go_loopg [13] k (fun kq v13 w' => ∃ (x13_1 : Int), v13 = .int .i64 x13_1 ∧ Aside0 (laws_sameOptions.l0 kq l0 l1 (l0.length : Int) x13_1 = some r) ∧ Aside0 (kq ≤ k) ∧ Drawn0 w w')
  case atStart => exact ⟨(0), (by first | rfl | (simp; done) | (simp [*]; done) | (simp [bne_nil]; done) | (simp [bne_nil, *]; done)), H', ⟨Nat.le_refl _⟩, by repeat (first | exact Drawn0.refl _ | apply Drawn0.step)⟩
  case round =>
   clear H'
   try clear c1
   try clear p2
   try clear c3
   try clear c3b0
   try clear c3b1
   try clear c3b2
   obtain ⟨x13_1, rfl, HA, HK1, ⟨m1, rfl⟩⟩ := hrel
   cases gk with
   | zero => exact absurd HA.out (by simp [laws_sameOptions.l0])
   | succ k1 =>
    have H := HA.out
    clear HA
    simp only [laws_sameOptions.l0] at H
    by_cases c4 : x13_1 < (l0.length : Int)
    ·rw [if_pos c4] at H
     have c4b0 : decide (x13_1 < (l0.length : Int)) = true := decide_eq_true c4
     clear c4
     by_cases c5 : 0 ≤ x13_1
     ·rw [if_pos c5] at H
      have c5b0 : decide (0 ≤ x13_1) = true := decide_eq_true c5
      clear c5
      by_cases c6 : x13_1 < (l0.length : Int)
      ·rw [if_pos c6] at H
       have c6b0 : decide (x13_1 < (l0.length : Int)) = true := decide_eq_true c6
       clear c6
       by_cases c7 : x13_1 < (l1.length : Int)
       ·rw [if_pos c7] at H
        have c7b0 : decide (x13_1 < (l1.length : Int)) = true := decide_eq_true c7
        clear c7
        by_cases c8 : (!((((rd_T28 l0 x13_1).f0).toList) == (((rd_T28 l1 x13_1).f0).toList)) || (!((((rd_T28 l0 x13_1).f1).toList) == (((rd_T28 l1 x13_1).f1).toList)) || (!((((rd_T28 l0 x13_1).f2).toList) == (((rd_T28 l1 x13_1).f2).toList))))) = true
        ·rw [if_pos c8] at H
         have c8b0 : (!((((rd_T28 l0 x13_1).f0).toList) == (((rd_T28 l1 x13_1).f0).toList)) || (!((((rd_T28 l0 x13_1).f1).toList) == (((rd_T28 l1 x13_1).f1).toList)) || (!((((rd_T28 l0 x13_1).f2).toList) == (((rd_T28 l1 x13_1).f2).toList))))) = true := c8
         clear c8
         obtain rfl := Option.some.inj H
         have p106 : 0 ≤ (x13_1 : Int) := of_decide_eq_true (by first | (with_reducible assumption) | assumption)
         have q106 : x13_1 < (l0.length : Int) := of_decide_eq_true (by first | (with_reducible assumption) | assumption)
         obtain ⟨ad106, e106, hx106_0, hx106_1, hx106_2⟩ := at_T28 HR0.out x13_1 p106 q106
         cases e106
         replace p106 := eq_true p106
         replace q106 := eq_true q106
         have p107 : 0 ≤ (x13_1 : Int) := of_decide_eq_true (by first | (with_reducible assumption) | assumption)
         have q107 : x13_1 < (l1.length : Int) := of_decide_eq_true (by first | (with_reducible assumption) | assumption)
         obtain ⟨ad107, e107, hx107_0, hx107_1, hx107_2⟩ := at_T28 HR1.out x13_1 p107 q107
         cases e107
         replace p107 := eq_true p107
         replace q107 := eq_true q107
         go_wp2
         repeat (go_quiet (fail); try go_wp2)
         go_ret
         exact ⟨by first | rfl | (simp; done) | (simp [*]; done) | (simp [bne_nil]; done) | (simp [bne_nil, *]; done), by repeat (first | exact Drawn0.refl _ | apply Drawn0.step)⟩
        ·rw [if_neg c8] at H
         have c8b0 : (!((((rd_T28 l0 x13_1).f0).toList) == (((rd_T28 l1 x13_1).f0).toList)) || (!((((rd_T28 l0 x13_1).f1).toList) == (((rd_T28 l1 x13_1).f1).toList)) || (!((((rd_T28 l0 x13_1).f2).toList) == (((rd_T28 l1 x13_1).f2).toList))))) = false := by simpa using c8
         clear c8
         have H' := Aside0.mk H
         clear H
         have p106 : 0 ≤ (x13_1 : Int) := of_decide_eq_true (by first | (with_reducible assumption) | assumption)
         have q106 : x13_1 < (l0.length : Int) := of_decide_eq_true (by first | (with_reducible assumption) | assumption)
         obtain ⟨ad106, e106, hx106_0, hx106_1, hx106_2⟩ := at_T28 HR0.out x13_1 p106 q106
         cases e106
         replace p106 := eq_true p106
         replace q106 := eq_true q106
         have p107 : 0 ≤ (x13_1 : Int) := of_decide_eq_true (by first | (with_reducible assumption) | assumption)
         have q107 : x13_1 < (l1.length : Int) := of_decide_eq_true (by first | (with_reducible assumption) | assumption)
         obtain ⟨ad107, e107, hx107_0, hx107_1, hx107_2⟩ := at_T28 HR1.out x13_1 p107 q107
         cases e107
         replace p107 := eq_true p107
         replace q107 := eq_true q107
         go_wp2
         repeat (go_quiet (fail); try go_wp2)
         go_roundg k1
         case measure => have := HK1.out; omega
         case rel => exact ⟨(wrap64 (x13_1 + 1)), (by first | rfl | (simp; done) | (simp [*]; done) | (simp [bne_nil]; done) | (simp [bne_nil, *]; done)), H', ⟨by have := HK1.out; omega⟩, by repeat (first | exact Drawn0.refl _ | apply Drawn0.step)⟩
       ·rw [if_neg c7] at H
        exact absurd H (by simp)
      ·rw [if_neg c6] at H
       exact absurd H (by simp)
     ·rw [if_neg c5] at H
      exact absurd H (by simp)
    ·rw [if_neg c4] at H
     have c4b0 : decide (x13_1 < (l0.length : Int)) = false := decide_eq_false c4
     clear c4
     obtain rfl := Option.some.inj H
     go_wp2
     repeat (go_quiet (fail); try go_wp2)
     go_ret
     exact ⟨by first | rfl | (simp; done) | (simp [*]; done) | (simp [bne_nil]; done) | (simp [bne_nil, *]; done), by repeat (first | exact Drawn0.refl _ | apply Drawn0.step)⟩
 ·rw [if_neg c3] at H
  have c3b0 : ((l0.length : Int) == (l1.length : Int)) = false := beq_eq_false_iff_ne.mpr c3
  have c3b1 : ((l0.length : Int) != (l1.length : Int)) = true := bne_iff_ne.mpr c3
  have c3b2 : (l0.length == l1.length) = false := by first | simpa using c3 | (simp at c3 ⊢; omega)
  obtain rfl := Option.some.inj H
  go_enter Tryd.func13, Tryd.ntmps13
  go_wp2
  repeat (go_quiet (fail); try go_wp2)
  go_ret
  exact ⟨by first | rfl | (simp; done) | (simp [*]; done) | (simp [bne_nil]; done) | (simp [bne_nil, *]; done), by repeat (first | exact Drawn0.refl _ | apply Drawn0.step)⟩

/-! ### laws_FnUnitLong: function 4 -/
def laws_FnUnitLong.l0 : Nat → Int → List Int → Int → Int → Option (Bool)
 | 0, _, _, _, _ => none
 | k + 1, x3, x4, x17, x18 => if x18 < x17 then (if 0 ≤ x18 then (if x18 < (x4.length : Int) then (laws_FnUnitLong.l0 k x3 (x4.set (x18 : Int).toNat 118) x17 (wrap64 (x18 + 1))) else (none)) else (none)) else (if 12 + (strOfNums x4).size ≤ 9223372036854775807 then (if ((⟨#[91, 85, 110, 105, 116, 93, 10, 78, 97, 109, 101, 61]⟩ : ByteArray) ++ (strOfNums x4)).size + 1 ≤ 9223372036854775807 then ((impl_UnitRead.f (((⟨#[91, 85, 110, 105, 116, 93, 10, 78, 97, 109, 101, 61]⟩ : ByteArray) ++ (strOfNums x4)) ++ (⟨#[10]⟩ : ByteArray))).bind fun bt113 => (if (wrap64 (5 + x3)) > 2050 then (if bt113.2 = 1 then ((laws_reads.f).bind fun t117 => (some t117)) else (some false)) else (if (wrap64 (5 + x3)) < 2046 then (if bt113.2 = 0 then ((laws_sameOptions.f k bt113.1 (([(⟨(⟨#[85, 110, 105, 116]⟩ : ByteArray), (⟨#[78, 97, 109, 101]⟩ : ByteArray), strOfNums x4⟩ : S28)] : List (S28)))).bind fun t121 => (if t121 = true then ((laws_reads.f).bind fun t122 => (some t122)) else (some false))) else (some false)) else ((laws_reads.f).bind fun t123 => (some t123))))) else (none)) else (none))
def laws_FnUnitLong.f (k : Nat) (a0 : Int) : Option (Bool) := if 0 ≤ (wrap64 (1 + (Int.tmod (wrap64 (a0)) 3000))) then (if (wrap64 (1 + (Int.tmod (wrap64 (a0)) 3000)) : Int).toNat ≤ 281474976710656 then ((some (List.replicate (wrap64 (1 + (Int.tmod (wrap64 (a0)) 3000)) : Int).toNat 0 : List Int)).bind fun y108 => (laws_FnUnitLong.l0 k (wrap64 (1 + (Int.tmod (wrap64 (a0)) 3000))) y108 (y108.length : Int) 0)) else (none)) else (none)
theorem laws_FnUnitLong.mono_l : ∀ k, (∀ y0 y1 y2 y3, LeO (laws_FnUnitLong.l0 k y0 y1 y2 y3) (laws_FnUnitLong.l0 (k + 1) y0 y1 y2 y3))
 | 0 => fun _ _ _ _ r h => by simp [laws_FnUnitLong.l0] at h
 | k + 1 => by
  have ih0 := laws_FnUnitLong.mono_l k
  ·intro y0 y1 y2 y3
   unfold laws_FnUnitLong.l0
   repeat' first
   | (with_reducible exact ih0 _ _ _ _)
   | (with_reducible exact laws_sameOptions.mono _ _ _)
   | (with_reducible exact LeO.refl _)
   | (with_reducible exact LeO.none _)
   | (with_reducible refine LeO.ite ?_ ?_)
   | (with_reducible refine LeO.bind ?_ (fun _ => ?_))
   | exact ih0 _ _ _ _
   | exact laws_sameOptions.mono _ _ _
   | exact LeO.none _
   | refine LeO.ite ?_ ?_
   | refine LeO.bind ?_ (fun _ => ?_)
theorem laws_FnUnitLong.mono : ∀ a0 k, LeO (laws_FnUnitLong.f k a0) (laws_FnUnitLong.f (k + 1) a0) := by
 intro a0 k
 have ih0 := laws_FnUnitLong.mono_l k
 unfold laws_FnUnitLong.f
 repeat' first
   | (with_reducible exact ih0 _ _ _ _)
   | (with_reducible exact laws_sameOptions.mono _ _ _)
   | (with_reducible exact LeO.refl _)
   | (with_reducible exact LeO.none _)
   | (with_reducible refine LeO.ite ?_ ?_)
   | (with_reducible refine LeO.bind ?_ (fun _ => ?_))
   | exact ih0 _ _ _ _
   | exact laws_sameOptions.mono _ _ _
   | exact LeO.none _
   | refine LeO.ite ?_ ?_
   | refine LeO.bind ?_ (fun _ => ?_)
set_option maxHeartbeats 8000000 in
set_option maxRecDepth 100000 in
theorem laws_FnUnitLong.calls (k : Nat) (a0 : Int) (r : Bool) (w : World) (h : laws_FnUnitLong.f k a0 = some r) (hTabs : Tabs w := by first | exact hTabs | exact Tabs.below hTabs (by repeat (first | (with_reducible first | exact HB.out | apply below_alloc | apply pw_below_drewN | apply below_drew1 | refine below_set ?_ (Aside0.out (by assumption))) | exact HB.out))) :
  Calls Tryd.prog 4 #[.int .u16 a0] w fun e w' => e = .returned (.bool r) ∧ Below w.heap.size w w' := by
 have hu28 := Tryd.underlying28
 have HB := Aside0.mk (Below.refl w.heap.size w)
 have H : (if 0 ≤ (wrap64 (1 + (Int.tmod (wrap64 (a0)) 3000))) then (if (wrap64 (1 + (Int.tmod (wrap64 (a0)) 3000)) : Int).toNat ≤ 281474976710656 then ((some (List.replicate (wrap64 (1 + (Int.tmod (wrap64 (a0)) 3000)) : Int).toNat 0 : List Int)).bind fun y108 => (laws_FnUnitLong.l0 k (wrap64 (1 + (Int.tmod (wrap64 (a0)) 3000))) y108 (y108.length : Int) 0)) else (none)) else (none)) = some r := h
 clear h
 obtain ⟨ji2, hji2⟩ : ∃ j_ : Int, (wrap64 (1 + (Int.tmod (wrap64 (a0)) 3000))) = j_ := ⟨_, rfl⟩
 replace H : (if 0 ≤ (ji2) then (if (ji2 : Int).toNat ≤ 281474976710656 then ((some (List.replicate (ji2 : Int).toNat 0 : List Int)).bind fun y108 => (laws_FnUnitLong.l0 k ji2 y108 (y108.length : Int) 0)) else (none)) else (none)) = some r := by first | (rw [hji2] at H; exact H) | (simp only [hji2] at H ⊢; exact H)
 have hji2w : (IntKind.i64.wrap (1 + (Int.tmod (wrap64 (a0)) 3000))) = ji2 := (i64_w _).trans hji2
 by_cases c3 : 0 ≤ (ji2)
 ·rw [if_pos c3] at H
  have c3b0 := eq_true c3
  have c3z := c3
  (try simp only [ByteArray.size_append, sz1l2_, sz3l2_, sz5l2_, sz7l2_, sz12l2_] at c3z)
  try have c3b3 := eq_false (Nat.not_lt.2 c3z)
  have c3b1 : decide (0 ≤ (ji2)) = true := decide_eq_true c3
  clear c3
  by_cases c4 : (ji2 : Int).toNat ≤ 281474976710656
  ·rw [if_pos c4] at H
   have c4b0 := eq_true c4
   have c4z := c4
   (try simp only [ByteArray.size_append, sz1l2_, sz3l2_, sz5l2_, sz7l2_, sz12l2_] at c4z)
   try have c4b3 := eq_false (Nat.not_lt.2 c4z)
   have c4b1 : decide ((ji2 : Int).toNat ≤ 281474976710656) = true := decide_eq_true c4
   clear c4
   obtain ⟨y108, hy108⟩ : ∃ y_ : List Int, y_ = (List.replicate (ji2 : Int).toNat 0) := ⟨_, rfl⟩
   replace H : (laws_FnUnitLong.l0 k ji2 y108 (y108.length : Int) 0) = some r := by first | (rw [hy108]; with_reducible exact H) | (have H2_ := (Option.bind_some _ _).symm.trans H; rw [hy108]; with_reducible exact H2_) | (have H2_ := (Option.bind_some _ _).symm.trans H; with_reducible exact H2_) | with_reducible exact H | (rw [hy108]; exact H) | exact H
   have Ny108 := Aside0.mk hy108
   clear hy108
   have H' := Aside0.mk H
   clear H
   go_enter Tryd.func4, Tryd.ntmps4
   go_wp2_with (first | ((with_reducible refine gate_dst (N := 15) rfl ?_); (try (refine gate_guard (by rfl) ?_; dsimp only)); refine Kd.R_make (Kd.int .u8) _ 5 rfl (N := 15) rfl 26 _ _ rfl ji2 rfl rfl Tryd.underlying26 (.int .u8 0) 1 info5 rfl (by decide) (by omega) 0 (ok := fun _ => True) (okp := fun _ => True) rfl (fun _ hk => hk) trivial (of_decide_eq_true (by first | (with_reducible assumption) | assumption)) (Nat.le_trans (Nat.mul_le_mul_right _ (of_decide_eq_true (by first | (with_reducible assumption) | assumption) : ji2.toNat ≤ 281474976710656)) (by omega)) (Below.refl _ _) (Nat.le_refl _) ?_; intro v109 w5 ho6 hb hg_ hnew_; clear hg_ hnew_; (first | rw [← Ny108.out] at ho6 | (simp only [Int.reduceToNat] at ho6; rw [← Ny108.out] at ho6)); have n0_ := Aside0.mk (Kd.R_lower ho6 (below_size belH)); have n1_ := Aside0.mk (below_step belH hb); clear HB; have HO110 := n0_; have HB := n1_; clear n0_ n1_; clear hb ho6; obtain ⟨Ao7, co7, eo7⟩ := Kd.R_slice HO110.out; subst eo7))
   go_loopg [18] k (fun kq v18 w' => ∃ (x4_1 : List Int) (x18_1 : Int), v18 = .int .i64 x18_1 ∧ Aside0 (laws_FnUnitLong.l0 kq ji2 x4_1 (y108.length : Int) x18_1 = some r) ∧ Aside0 (kq ≤ k) ∧ Aside0 (Kd.R (Kd.int .u8) 5 w' w.heap.size (fun _ => True) (.slice Ao7 y108.length co7) x4_1) ∧ Aside0 (Below w.heap.size w w'))
   case atStart => exact ⟨(y108), (0), (by first | rfl | (simp; done) | (simp [*]; done) | (simp [bne_nil]; done) | (simp [bne_nil, *]; done)), H', ⟨Nat.le_refl _⟩, ⟨by (with_reducible repeat (first | apply Kd.R_alloc | apply Kd.R_drewN | apply Kd.R_drew)); exact HO110.out⟩, ⟨by repeat (first | (with_reducible first | exact HB.out | apply below_alloc | apply pw_below_drewN | apply below_drew1) | exact HB.out)⟩⟩
   case round =>
    clear H'
    try clear p2
    try clear c3
    try clear c3b0
    try clear c3b1
    try clear c4
    try clear c4b0
    try clear c4b1
    try clear p6
    obtain ⟨x4_1, x18_1, rfl, HA, HK1, HO_4, HB⟩ := hrel
    have hl4_1 := (Kd.R_reads' HO_4.out).1
    rw [hl4_1] at HO_4
    (try simp only [hl4_1])
    cases gk with
    | zero => exact absurd HA.out (by simp [laws_FnUnitLong.l0])
    | succ k1 =>
     have H := HA.out
     clear HA
     simp only [laws_FnUnitLong.l0] at H
     by_cases c8 : x18_1 < (y108.length : Int)
     ·rw [if_pos c8] at H
      have c8b0 : decide (x18_1 < (y108.length : Int)) = true := decide_eq_true c8
      clear c8
      by_cases c9 : 0 ≤ x18_1
      ·rw [if_pos c9] at H
       have c9b0 : decide (0 ≤ x18_1) = true := decide_eq_true c9
       clear c9
       by_cases c10 : x18_1 < (x4_1.length : Int)
       ·rw [if_pos c10] at H
        have c10b0 : decide (x18_1 < (x4_1.length : Int)) = true := decide_eq_true c10
        clear c10
        obtain ⟨y111, hy111⟩ : ∃ y_ : List Int, y_ = (x4_1.set (x18_1 : Int).toNat 118) := ⟨_, rfl⟩
        replace H : (laws_FnUnitLong.l0 k1 ji2 y111 (y108.length : Int) (wrap64 (x18_1 + 1))) = some r := by first | (rw [hy111]; with_reducible exact H) | (have H2_ := (Option.bind_some _ _).symm.trans H; rw [hy111]; with_reducible exact H2_) | (have H2_ := (Option.bind_some _ _).symm.trans H; with_reducible exact H2_) | with_reducible exact H | (rw [hy111]; exact H) | exact H
        have Ny111 := Aside0.mk hy111
        clear hy111
        have H' := Aside0.mk H
        clear H
        have p11 : 0 ≤ (x18_1 : Int) := of_decide_eq_true (by first | (with_reducible assumption) | assumption)
        have q11 : (x18_1 : Int) < ((x4_1.length : Int) : Int) := of_decide_eq_true (by first | (with_reducible assumption) | assumption)
        obtain ⟨go11, co11, eo11, gb11, gl11, cl11, HG11⟩ := Kd.R_form HO_4.out (by omega)
        (first | cases eo11 | (injection eo11 with ea_ en_ ec_; (first | subst ea_ | (injection ea_ with ea_; subst ea_)); subst ec_; clear en_))
        have GB11 := Aside0.mk gb11
        have GG11 := Aside0.mk HG11
        clear gb11 gl11 HG11
        obtain ⟨hx11_0, hf11_0⟩ := Kd.R_celln 0 HO_4.out (x18_1 : Int) p11 q11
        replace p11 := eq_true p11
        replace q11 := eq_true q11
        have HP12 := Kd.R_putg HO_4.out (x18_1 : Int) 118
        go_wp2_with (first | ((with_reducible refine gate_store (t := 5) (p := 23) rfl ?_); refine store_event (t := 5) (p := 23) (v := ?vo_w13) (w1 := (wr.setCell ⟨go11, (x18_1 : Int).toNat, none⟩ (.int .u8 118))) ?hg ?ho ?hn ?hr ?_; (case ho => rfl); (case hg => rfl); (case hn => rfl); (case hr => first | (go_simp; done) | (go_simp; rfl)); intro w13 hw; have hg : wr.grownBy w13 (some go11) := (by rw [hw]; exact HP12.2); have hp_ : Kd.R (Kd.int .u8) 5 w13 w.heap.size (fun _ => True) (.slice (some ⟨go11, 0, none⟩) x4_1.length co7) y111 := (by rw [hw, Ny111.out]; exact HP12.1); clear HP12; have n0_ := Aside0.mk (hp_); have n1_ := Aside0.mk ((by rw [hw]; exact below_set (HB.out) GB11.out : Below w.heap.size w w13)); clear HO_4; clear HB; have HO_4 := n0_; have HB := n1_; clear n0_ n1_; clear hg hw hp_))
        (try simp only [← hl4_1])
        go_roundg k1
        case measure => have := HK1.out; omega
        case rel => exact ⟨(y111), (wrap64 (x18_1 + 1)), (by first | rfl | (simp; done) | (simp [*]; done) | (simp [bne_nil]; done) | (simp [bne_nil, *]; done)), H', ⟨by have := HK1.out; omega⟩, ⟨by (try simp only [hl4_1]); (with_reducible repeat (first | apply Kd.R_alloc | apply Kd.R_drewN | apply Kd.R_drew)); exact HO_4.out⟩, ⟨by repeat (first | (with_reducible first | exact HB.out | apply below_alloc | apply pw_below_drewN | apply below_drew1) | exact HB.out)⟩⟩
       ·rw [if_neg c10] at H
        exact absurd H (by simp)
      ·rw [if_neg c9] at H
       exact absurd H (by simp)
     ·rw [if_neg c8] at H
      have c8b0 : decide (x18_1 < (y108.length : Int)) = false := decide_eq_false c8
      have c8b9 : decide (x18_1 < (x4_1.length : Int)) = false := by rw [← hl4_1]; exact c8b0
      clear c8
      by_cases c14 : 12 + (strOfNums x4_1).size ≤ 9223372036854775807
      ·rw [if_pos c14] at H
       have c14b0 := eq_true c14
       have c14z := c14
       (try simp only [ByteArray.size_append, sz1l2_, sz3l2_, sz5l2_, sz7l2_, sz12l2_] at c14z)
       try have c14b3 := eq_false (Nat.not_lt.2 c14z)
       have c14b1 : decide (12 + (strOfNums x4_1).size ≤ 9223372036854775807) = true := decide_eq_true c14
       try have c14b2 : (9223372036854775807 < 12 + (strOfNums x4_1).size) = False := eq_false (Nat.not_lt.2 c14)
       by_cases c15 : ((⟨#[91, 85, 110, 105, 116, 93, 10, 78, 97, 109, 101, 61]⟩ : ByteArray) ++ (strOfNums x4_1)).size + 1 ≤ 9223372036854775807
       ·rw [if_pos c15] at H
        have c15b0 := eq_true c15
        have c15z := c15
        (try simp only [ByteArray.size_append, sz1l2_, sz3l2_, sz5l2_, sz7l2_, sz12l2_] at c15z)
        try have c15b3 := eq_false (Nat.not_lt.2 c15z)
        have c15b1 : decide (((⟨#[91, 85, 110, 105, 116, 93, 10, 78, 97, 109, 101, 61]⟩ : ByteArray) ++ (strOfNums x4_1)).size + 1 ≤ 9223372036854775807) = true := decide_eq_true c15
        try have c15b2 : (9223372036854775807 < ((⟨#[91, 85, 110, 105, 116, 93, 10, 78, 97, 109, 101, 61]⟩ : ByteArray) ++ (strOfNums x4_1)).size + 1) = False := eq_false (Nat.not_lt.2 c15)
        replace H := Option.bind_eq_some_iff.mp H
        obtain ⟨⟨t113, t114⟩, A160, H⟩ := H
        have A16 := Aside0.mk A160
        clear A160
        by_cases c17 : (wrap64 (5 + ji2)) > 2050
        ·rw [if_pos c17] at H
         have c17b0 : decide (2050 < (wrap64 (5 + ji2))) = true := decide_eq_true c17
         have c17b9 : decide (2050 < 5 + ji2) = true := by have hw59 : wrap64 (5 + ji2) = 5 + ji2 := (by unfold wrap64; omega); rw [hw59] at c17b0; exact c17b0
         clear c17
         by_cases c18 : t114 = 1
         ·rw [if_pos c18] at H
          have c18b0 : (t114 == 1) = true := beq_iff_eq.mpr c18
          have c18b1 : (t114 != 1) = false := bne_eq_false_iff_eq.mpr c18
          clear c18
          replace H := Option.bind_eq_some_iff.mp H
          obtain ⟨t117, A190, H⟩ := H
          have A19 := Aside0.mk A190
          clear A190
          obtain rfl := Option.some.inj H
          have hcv20 := own_string (P := Tryd.prog) Tryd.underlying26 Tryd.underlying5 Tryd.underlying9 (Kd.own_of_R HO_4.out)
          go_wp2_with (first | ((with_reducible refine gate_dst (N := 6) rfl ?_); (try (refine gate_guard (by rfl) ?_; dsimp only)); refine box_event ?hg (N := 6) ?hd (cs := #[.string (⟨#[]⟩ : ByteArray), .string (⟨#[]⟩ : ByteArray), .string (⟨#[]⟩ : ByteArray)]) (t := 28) ?hr ?_; (case hd => rfl); (case hg => rfl); (case hr => first | (go_simp; done) | (go_simp; rfl)); intro gb112 hg w21 hbox hb; have n0_ := Aside0.mk (Kd.R_below (by (with_reducible repeat (first | apply Kd.R_alloc | apply Kd.R_drewN | apply Kd.R_drew)); exact HO_4.out) hb); have n1_ := Aside0.mk (below_step belH hb); have n2_ := Aside0.mk (hbox); have n3_ := Aside0.mk ((by rw [hg]; exact (below_size belH) : w.heap.size ≤ gb112)); have n4_ := Aside0.mk ((by rw [hg]; exact (below_size belH) : w.heap.size ≤ gb112)); clear HO_4; clear HB; have HO_4 := n0_; have HB := n1_; have BK112 := n2_; have GW112 := n3_; have GE112 := n4_; clear n0_ n1_ n2_ n3_ n4_; clear hb hbox hg; obtain ⟨hcz22_0, hcz22_1, hcz22_2, hfz22_0, hfz22_1, hfz22_2⟩ := rows3 (w := w21) BK112; have hcv23 := own_string (P := Tryd.prog) Tryd.underlying26 Tryd.underlying5 Tryd.underlying9 (Kd.own_of_R HO_4.out); have hcv99_ := own_string (P := Tryd.prog) Tryd.underlying26 Tryd.underlying5 Tryd.underlying9 (Kd.own_of_R (Kd.R_far (p := ⟨gb112, 2, none⟩) (Kd.R_far (p := ⟨gb112, 1, none⟩) (Kd.R_far (p := ⟨gb112, 0, none⟩) (Kd.R_types HO_4.out BK112.out (by decide)) (fun _ hk => hk.2) (.string (⟨#[85, 110, 105, 116]⟩ : ByteArray))) (fun _ hk => hk.2) (.string (⟨#[78, 97, 109, 101]⟩ : ByteArray))) (fun _ hk => hk.2) (.string (strOfNums x4_1))))) | ((with_reducible refine gate_callee (f := 11) rfl ?_); refine goesL_ (some 33) rfl rfl Tryd.func11 (by kernel_rfl) rfl #[.string (((⟨#[91, 85, 110, 105, 116, 93, 10, 78, 97, 109, 101, 61]⟩ : ByteArray) ++ (strOfNums x4_1)) ++ (⟨#[10]⟩ : ByteArray))] rfl (by (try simp only [List.map_toArray, List.map_cons, List.map_nil]); first | done | rfl | (simp only [List.length_drop, List.length_take]; rfl)) ?_; (with_reducible refine (impl_UnitRead.calls (((⟨#[91, 85, 110, 105, 116, 93, 10, 78, 97, 109, 101, 61]⟩ : ByteArray) ++ (strOfNums x4_1)) ++ (⟨#[10]⟩ : ByteArray)) t113 t114 _ A16.out).mono ?_); rintro e w24 ⟨v115, rfl, ho0, hb⟩; refine ⟨_, rfl, ?_⟩; have n0_ := Aside0.mk (Kd.R_below (by (with_reducible repeat (first | apply Kd.R_alloc | apply Kd.R_drewN | apply Kd.R_drew)); exact (Kd.R_mono (Kd.R_far (p := ⟨gb112, 2, none⟩) (Kd.R_far (p := ⟨gb112, 1, none⟩) (Kd.R_far (p := ⟨gb112, 0, none⟩) (Kd.R_types HO_4.out BK112.out (by decide)) (fun _ hk => hk.2) (.string (⟨#[85, 110, 105, 116]⟩ : ByteArray))) (fun _ hk => hk.2) (.string (⟨#[78, 97, 109, 101]⟩ : ByteArray))) (fun _ hk => hk.2) (.string (strOfNums x4_1))) (fun _ h_ => h_.1))) hb); have n1_ := Aside0.mk (Kd.R_lower (Kd.R_newB ho0 (g := gb112) (o := .cells #[.string (⟨#[85, 110, 105, 116]⟩ : ByteArray), .string (⟨#[78, 97, 109, 101]⟩ : ByteArray), .string (strOfNums x4_1)] 28 (0, 0)) (by refine bY ?_; refine blk_put (cs := #[.string (⟨#[85, 110, 105, 116]⟩ : ByteArray), .string (⟨#[78, 97, 109, 101]⟩ : ByteArray), .string (⟨#[]⟩ : ByteArray)]) ?_ 2 _ rfl; refine bY ?_; refine blk_put (cs := #[.string (⟨#[85, 110, 105, 116]⟩ : ByteArray), .string (⟨#[]⟩ : ByteArray), .string (⟨#[]⟩ : ByteArray)]) ?_ 1 _ rfl; refine bY ?_; refine blk_put (cs := #[.string (⟨#[]⟩ : ByteArray), .string (⟨#[]⟩ : ByteArray), .string (⟨#[]⟩ : ByteArray)]) ?_ 0 _ rfl; refine bY ?_; exact BK112.out)) (below_size belS)); have n2_ := Aside0.mk (blk_below (g := gb112) (o := .cells #[.string (⟨#[85, 110, 105, 116]⟩ : ByteArray), .string (⟨#[78, 97, 109, 101]⟩ : ByteArray), .string (strOfNums x4_1)] 28 (0, 0)) (by refine bY ?_; refine blk_put (cs := #[.string (⟨#[85, 110, 105, 116]⟩ : ByteArray), .string (⟨#[78, 97, 109, 101]⟩ : ByteArray), .string (⟨#[]⟩ : ByteArray)]) ?_ 2 _ rfl; refine bY ?_; refine blk_put (cs := #[.string (⟨#[85, 110, 105, 116]⟩ : ByteArray), .string (⟨#[]⟩ : ByteArray), .string (⟨#[]⟩ : ByteArray)]) ?_ 1 _ rfl; refine bY ?_; refine blk_put (cs := #[.string (⟨#[]⟩ : ByteArray), .string (⟨#[]⟩ : ByteArray), .string (⟨#[]⟩ : ByteArray)]) ?_ 0 _ rfl; refine bY ?_; exact BK112.out) hb); have n3_ := Aside0.mk (below_step belS hb); clear HO_4; clear BK112; clear HB; have HO_4 := n0_; have HO116 := n1_; have BK112 := n2_; have HB := n3_; clear n0_ n1_ n2_ n3_; (try clear hb); (try clear hb2); (try clear hk); (try clear hi); (try clear ho0)) | (go_at_call 12; (with_reducible refine (laws_reads.calls  t117 _ A19.out).mono ?_); rintro e w25 ⟨rfl, hb⟩; have n0_ := Aside0.mk (Kd.R_below (by (with_reducible repeat (first | apply Kd.R_alloc | apply Kd.R_drewN | apply Kd.R_drew)); exact HO_4.out) hb); have n1_ := Aside0.mk (Kd.R_below (by (with_reducible repeat (first | apply Kd.R_alloc | apply Kd.R_drewN | apply Kd.R_drew)); exact HO116.out) hb); have n2_ := Aside0.mk (blk_below (g := gb112) (o := .cells #[.string (⟨#[85, 110, 105, 116]⟩ : ByteArray), .string (⟨#[78, 97, 109, 101]⟩ : ByteArray), .string (strOfNums x4_1)] 28 (0, 0)) (by refine bY ?_; exact BK112.out) hb); have n3_ := Aside0.mk (below_step belS hb); clear HO_4; clear HO116; clear BK112; clear HB; have HO_4 := n0_; have HO116 := n1_; have BK112 := n2_; have HB := n3_; clear n0_ n1_ n2_ n3_; (try clear hb); (try clear hb2); (try clear hk); (try clear hi)))
          go_ret
          exact ⟨by first | rfl | (simp [errW_none, errW_some] <;> rfl) | (simp only [← hji2]; first | rfl | (simp [errW_none, errW_some] <;> rfl)) | (simp [*, errW_none, errW_some] <;> rfl), by repeat (first | (with_reducible first | exact HB.out | apply below_alloc | apply pw_below_drewN | apply below_drew1 | refine below_set ?_ GE112.out) | exact HB.out)⟩
         ·rw [if_neg c18] at H
          have c18b0 : (t114 == 1) = false := beq_eq_false_iff_ne.mpr c18
          have c18b1 : (t114 != 1) = true := bne_iff_ne.mpr c18
          obtain rfl := Option.some.inj H
          have hcv26 := own_string (P := Tryd.prog) Tryd.underlying26 Tryd.underlying5 Tryd.underlying9 (Kd.own_of_R HO_4.out)
          go_wp2_with (first | ((with_reducible refine gate_dst (N := 6) rfl ?_); (try (refine gate_guard (by rfl) ?_; dsimp only)); refine box_event ?hg (N := 6) ?hd (cs := #[.string (⟨#[]⟩ : ByteArray), .string (⟨#[]⟩ : ByteArray), .string (⟨#[]⟩ : ByteArray)]) (t := 28) ?hr ?_; (case hd => rfl); (case hg => rfl); (case hr => first | (go_simp; done) | (go_simp; rfl)); intro gb112 hg w27 hbox hb; have n0_ := Aside0.mk (Kd.R_below (by (with_reducible repeat (first | apply Kd.R_alloc | apply Kd.R_drewN | apply Kd.R_drew)); exact HO_4.out) hb); have n1_ := Aside0.mk (below_step belH hb); have n2_ := Aside0.mk (hbox); have n3_ := Aside0.mk ((by rw [hg]; exact (below_size belH) : w.heap.size ≤ gb112)); have n4_ := Aside0.mk ((by rw [hg]; exact (below_size belH) : w.heap.size ≤ gb112)); clear HO_4; clear HB; have HO_4 := n0_; have HB := n1_; have BK112 := n2_; have GW112 := n3_; have GE112 := n4_; clear n0_ n1_ n2_ n3_ n4_; clear hb hbox hg; obtain ⟨hcz28_0, hcz28_1, hcz28_2, hfz28_0, hfz28_1, hfz28_2⟩ := rows3 (w := w27) BK112; have hcv29 := own_string (P := Tryd.prog) Tryd.underlying26 Tryd.underlying5 Tryd.underlying9 (Kd.own_of_R HO_4.out); have hcv99_ := own_string (P := Tryd.prog) Tryd.underlying26 Tryd.underlying5 Tryd.underlying9 (Kd.own_of_R (Kd.R_far (p := ⟨gb112, 2, none⟩) (Kd.R_far (p := ⟨gb112, 1, none⟩) (Kd.R_far (p := ⟨gb112, 0, none⟩) (Kd.R_types HO_4.out BK112.out (by decide)) (fun _ hk => hk.2) (.string (⟨#[85, 110, 105, 116]⟩ : ByteArray))) (fun _ hk => hk.2) (.string (⟨#[78, 97, 109, 101]⟩ : ByteArray))) (fun _ hk => hk.2) (.string (strOfNums x4_1))))) | ((with_reducible refine gate_callee (f := 11) rfl ?_); refine goesL_ (some 33) rfl rfl Tryd.func11 (by kernel_rfl) rfl #[.string (((⟨#[91, 85, 110, 105, 116, 93, 10, 78, 97, 109, 101, 61]⟩ : ByteArray) ++ (strOfNums x4_1)) ++ (⟨#[10]⟩ : ByteArray))] rfl (by (try simp only [List.map_toArray, List.map_cons, List.map_nil]); first | done | rfl | (simp only [List.length_drop, List.length_take]; rfl)) ?_; (with_reducible refine (impl_UnitRead.calls (((⟨#[91, 85, 110, 105, 116, 93, 10, 78, 97, 109, 101, 61]⟩ : ByteArray) ++ (strOfNums x4_1)) ++ (⟨#[10]⟩ : ByteArray)) t113 t114 _ A16.out).mono ?_); rintro e w30 ⟨v115, rfl, ho0, hb⟩; refine ⟨_, rfl, ?_⟩; have n0_ := Aside0.mk (Kd.R_below (by (with_reducible repeat (first | apply Kd.R_alloc | apply Kd.R_drewN | apply Kd.R_drew)); exact (Kd.R_mono (Kd.R_far (p := ⟨gb112, 2, none⟩) (Kd.R_far (p := ⟨gb112, 1, none⟩) (Kd.R_far (p := ⟨gb112, 0, none⟩) (Kd.R_types HO_4.out BK112.out (by decide)) (fun _ hk => hk.2) (.string (⟨#[85, 110, 105, 116]⟩ : ByteArray))) (fun _ hk => hk.2) (.string (⟨#[78, 97, 109, 101]⟩ : ByteArray))) (fun _ hk => hk.2) (.string (strOfNums x4_1))) (fun _ h_ => h_.1))) hb); have n1_ := Aside0.mk (Kd.R_lower (Kd.R_newB ho0 (g := gb112) (o := .cells #[.string (⟨#[85, 110, 105, 116]⟩ : ByteArray), .string (⟨#[78, 97, 109, 101]⟩ : ByteArray), .string (strOfNums x4_1)] 28 (0, 0)) (by refine bY ?_; refine blk_put (cs := #[.string (⟨#[85, 110, 105, 116]⟩ : ByteArray), .string (⟨#[78, 97, 109, 101]⟩ : ByteArray), .string (⟨#[]⟩ : ByteArray)]) ?_ 2 _ rfl; refine bY ?_; refine blk_put (cs := #[.string (⟨#[85, 110, 105, 116]⟩ : ByteArray), .string (⟨#[]⟩ : ByteArray), .string (⟨#[]⟩ : ByteArray)]) ?_ 1 _ rfl; refine bY ?_; refine blk_put (cs := #[.string (⟨#[]⟩ : ByteArray), .string (⟨#[]⟩ : ByteArray), .string (⟨#[]⟩ : ByteArray)]) ?_ 0 _ rfl; refine bY ?_; exact BK112.out)) (below_size belS)); have n2_ := Aside0.mk (blk_below (g := gb112) (o := .cells #[.string (⟨#[85, 110, 105, 116]⟩ : ByteArray), .string (⟨#[78, 97, 109, 101]⟩ : ByteArray), .string (strOfNums x4_1)] 28 (0, 0)) (by refine bY ?_; refine blk_put (cs := #[.string (⟨#[85, 110, 105, 116]⟩ : ByteArray), .string (⟨#[78, 97, 109, 101]⟩ : ByteArray), .string (⟨#[]⟩ : ByteArray)]) ?_ 2 _ rfl; refine bY ?_; refine blk_put (cs := #[.string (⟨#[85, 110, 105, 116]⟩ : ByteArray), .string (⟨#[]⟩ : ByteArray), .string (⟨#[]⟩ : ByteArray)]) ?_ 1 _ rfl; refine bY ?_; refine blk_put (cs := #[.string (⟨#[]⟩ : ByteArray), .string (⟨#[]⟩ : ByteArray), .string (⟨#[]⟩ : ByteArray)]) ?_ 0 _ rfl; refine bY ?_; exact BK112.out) hb); have n3_ := Aside0.mk (below_step belS hb); clear HO_4; clear BK112; clear HB; have HO_4 := n0_; have HO116 := n1_; have BK112 := n2_; have HB := n3_; clear n0_ n1_ n2_ n3_; (try clear hb); (try clear hb2); (try clear hk); (try clear hi); (try clear ho0)))
          go_ret
          exact ⟨by first | rfl | (simp [errW_none, errW_some] <;> rfl) | (simp only [← hji2]; first | rfl | (simp [errW_none, errW_some] <;> rfl)) | (simp [*, errW_none, errW_some] <;> rfl), by repeat (first | (with_reducible first | exact HB.out | apply below_alloc | apply pw_below_drewN | apply below_drew1 | refine below_set ?_ GE112.out) | exact HB.out)⟩
        ·rw [if_neg c17] at H
         have c17b0 : decide (2050 < (wrap64 (5 + ji2))) = false := decide_eq_false c17
         have c17b9 : decide (2050 < 5 + ji2) = false := by have hw59 : wrap64 (5 + ji2) = 5 + ji2 := (by unfold wrap64; omega); rw [hw59] at c17b0; exact c17b0
         clear c17
         by_cases c31 : (wrap64 (5 + ji2)) < 2046
         ·rw [if_pos c31] at H
          have c31b0 : decide ((wrap64 (5 + ji2)) < 2046) = true := decide_eq_true c31
          have c31b9 : decide (5 + ji2 < 2046) = true := by have hw59 : wrap64 (5 + ji2) = 5 + ji2 := (by unfold wrap64; omega); rw [hw59] at c31b0; exact c31b0
          clear c31
          by_cases c32 : t114 = 0
          ·rw [if_pos c32] at H
           have c32b0 : (t114 == 0) = true := beq_iff_eq.mpr c32
           have c32b1 : (t114 != 0) = false := bne_eq_false_iff_eq.mpr c32
           clear c32
           obtain ⟨y118, hy118⟩ : ∃ y_ : List (S28), y_ = (([(⟨(⟨#[85, 110, 105, 116]⟩ : ByteArray), (⟨#[78, 97, 109, 101]⟩ : ByteArray), strOfNums x4_1⟩ : S28)] : List (S28))) := ⟨_, rfl⟩
           replace H : ((laws_sameOptions.f k1 t113 y118).bind fun t121 => (if t121 = true then ((laws_reads.f).bind fun t122 => (some t122)) else (some false))) = some r := by first | (rw [hy118]; with_reducible exact H) | (have H2_ := (Option.bind_some _ _).symm.trans H; rw [hy118]; with_reducible exact H2_) | (have H2_ := (Option.bind_some _ _).symm.trans H; with_reducible exact H2_) | with_reducible exact H | (rw [hy118]; exact H) | exact H
           have Ny118 := Aside0.mk hy118
           clear hy118
           replace H := Option.bind_eq_some_iff.mp H
           obtain ⟨t121, A330, H⟩ := H
           have A33 := Aside0.mk A330
           clear A330
           by_cases c34 : t121 = true
           ·subst c34
            have H1 : ((laws_reads.f).bind fun t122 => (some t122)) = some r := by rw [if_pos rfl] at H; exact H
            clear H
            have H := H1
            clear H1
            replace H := Option.bind_eq_some_iff.mp H
            obtain ⟨t122, A350, H⟩ := H
            have A35 := Aside0.mk A350
            clear A350
            obtain rfl := Option.some.inj H
            have hcv36 := own_string (P := Tryd.prog) Tryd.underlying26 Tryd.underlying5 Tryd.underlying9 (Kd.own_of_R HO_4.out)
            go_wp2_with (first | ((with_reducible refine gate_dst (N := 6) rfl ?_); (try (refine gate_guard (by rfl) ?_; dsimp only)); refine box_event ?hg (N := 6) ?hd (cs := #[.string (⟨#[]⟩ : ByteArray), .string (⟨#[]⟩ : ByteArray), .string (⟨#[]⟩ : ByteArray)]) (t := 28) ?hr ?_; (case hd => rfl); (case hg => rfl); (case hr => first | (go_simp; done) | (go_simp; rfl)); intro gb112 hg w37 hbox hb; have n0_ := Aside0.mk (Kd.R_below (by (with_reducible repeat (first | apply Kd.R_alloc | apply Kd.R_drewN | apply Kd.R_drew)); exact HO_4.out) hb); have n1_ := Aside0.mk (below_step belH hb); have n2_ := Aside0.mk (hbox); have n3_ := Aside0.mk ((by rw [hg]; exact (below_size belH) : w.heap.size ≤ gb112)); have n4_ := Aside0.mk ((by rw [hg]; exact (below_size belH) : w.heap.size ≤ gb112)); clear HO_4; clear HB; have HO_4 := n0_; have HB := n1_; have BK112 := n2_; have GW112 := n3_; have GE112 := n4_; clear n0_ n1_ n2_ n3_ n4_; clear hb hbox hg; obtain ⟨hcz38_0, hcz38_1, hcz38_2, hfz38_0, hfz38_1, hfz38_2⟩ := rows3 (w := w37) BK112; have hcv39 := own_string (P := Tryd.prog) Tryd.underlying26 Tryd.underlying5 Tryd.underlying9 (Kd.own_of_R HO_4.out); have hcv99_ := own_string (P := Tryd.prog) Tryd.underlying26 Tryd.underlying5 Tryd.underlying9 (Kd.own_of_R (Kd.R_far (p := ⟨gb112, 2, none⟩) (Kd.R_far (p := ⟨gb112, 1, none⟩) (Kd.R_far (p := ⟨gb112, 0, none⟩) (Kd.R_types HO_4.out BK112.out (by decide)) (fun _ hk => hk.2) (.string (⟨#[85, 110, 105, 116]⟩ : ByteArray))) (fun _ hk => hk.2) (.string (⟨#[78, 97, 109, 101]⟩ : ByteArray))) (fun _ hk => hk.2) (.string (strOfNums x4_1))))) | ((with_reducible refine gate_callee (f := 11) rfl ?_); refine goesL_ (some 33) rfl rfl Tryd.func11 (by kernel_rfl) rfl #[.string (((⟨#[91, 85, 110, 105, 116, 93, 10, 78, 97, 109, 101, 61]⟩ : ByteArray) ++ (strOfNums x4_1)) ++ (⟨#[10]⟩ : ByteArray))] rfl (by (try simp only [List.map_toArray, List.map_cons, List.map_nil]); first | done | rfl | (simp only [List.length_drop, List.length_take]; rfl)) ?_; (with_reducible refine (impl_UnitRead.calls (((⟨#[91, 85, 110, 105, 116, 93, 10, 78, 97, 109, 101, 61]⟩ : ByteArray) ++ (strOfNums x4_1)) ++ (⟨#[10]⟩ : ByteArray)) t113 t114 _ A16.out).mono ?_); rintro e w40 ⟨v115, rfl, ho0, hb⟩; refine ⟨_, rfl, ?_⟩; have n0_ := Aside0.mk (Kd.R_below (by (with_reducible repeat (first | apply Kd.R_alloc | apply Kd.R_drewN | apply Kd.R_drew)); exact (Kd.R_mono (Kd.R_far (p := ⟨gb112, 2, none⟩) (Kd.R_far (p := ⟨gb112, 1, none⟩) (Kd.R_far (p := ⟨gb112, 0, none⟩) (Kd.R_types HO_4.out BK112.out (by decide)) (fun _ hk => hk.2) (.string (⟨#[85, 110, 105, 116]⟩ : ByteArray))) (fun _ hk => hk.2) (.string (⟨#[78, 97, 109, 101]⟩ : ByteArray))) (fun _ hk => hk.2) (.string (strOfNums x4_1))) (fun _ h_ => h_.1))) hb); have n1_ := Aside0.mk (Kd.R_lower (Kd.R_newB ho0 (g := gb112) (o := .cells #[.string (⟨#[85, 110, 105, 116]⟩ : ByteArray), .string (⟨#[78, 97, 109, 101]⟩ : ByteArray), .string (strOfNums x4_1)] 28 (0, 0)) (by refine bY ?_; refine blk_put (cs := #[.string (⟨#[85, 110, 105, 116]⟩ : ByteArray), .string (⟨#[78, 97, 109, 101]⟩ : ByteArray), .string (⟨#[]⟩ : ByteArray)]) ?_ 2 _ rfl; refine bY ?_; refine blk_put (cs := #[.string (⟨#[85, 110, 105, 116]⟩ : ByteArray), .string (⟨#[]⟩ : ByteArray), .string (⟨#[]⟩ : ByteArray)]) ?_ 1 _ rfl; refine bY ?_; refine blk_put (cs := #[.string (⟨#[]⟩ : ByteArray), .string (⟨#[]⟩ : ByteArray), .string (⟨#[]⟩ : ByteArray)]) ?_ 0 _ rfl; refine bY ?_; exact BK112.out)) (below_size belS)); have n2_ := Aside0.mk (blk_below (g := gb112) (o := .cells #[.string (⟨#[85, 110, 105, 116]⟩ : ByteArray), .string (⟨#[78, 97, 109, 101]⟩ : ByteArray), .string (strOfNums x4_1)] 28 (0, 0)) (by refine bY ?_; refine blk_put (cs := #[.string (⟨#[85, 110, 105, 116]⟩ : ByteArray), .string (⟨#[78, 97, 109, 101]⟩ : ByteArray), .string (⟨#[]⟩ : ByteArray)]) ?_ 2 _ rfl; refine bY ?_; refine blk_put (cs := #[.string (⟨#[85, 110, 105, 116]⟩ : ByteArray), .string (⟨#[]⟩ : ByteArray), .string (⟨#[]⟩ : ByteArray)]) ?_ 1 _ rfl; refine bY ?_; refine blk_put (cs := #[.string (⟨#[]⟩ : ByteArray), .string (⟨#[]⟩ : ByteArray), .string (⟨#[]⟩ : ByteArray)]) ?_ 0 _ rfl; refine bY ?_; exact BK112.out) hb); have n3_ := Aside0.mk (below_step belS hb); clear HO_4; clear BK112; clear HB; have HO_4 := n0_; have HO116 := n1_; have BK112 := n2_; have HB := n3_; clear n0_ n1_ n2_ n3_; (try clear hb); (try clear hb2); (try clear hk); (try clear hi); (try clear ho0); obtain ⟨hcz41_0, hcz41_1, hcz41_2, hfz41_0, hfz41_1, hfz41_2⟩ := rows3 (w := w40) BK112) | ((with_reducible refine gate_dst (N := 54) rfl ?_); (try (refine gate_guard (by rfl) ?_; dsimp only)); refine Kd.R_lit k28 _ 28 ?hg (N := 54) ?hd (xs := ([(⟨(⟨#[85, 110, 105, 116]⟩ : ByteArray), (⟨#[78, 97, 109, 101]⟩ : ByteArray), strOfNums x4_1⟩ : S28)] : List (S28))) (inner := [.string (⟨#[85, 110, 105, 116]⟩ : ByteArray), .string (⟨#[78, 97, 109, 101]⟩ : ByteArray), .string (strOfNums x4_1)]) (ok := fun _ => True) (okp := fun _ => True) ?hr ?hp (fun _ hk => hk) trivial (Below.refl _ _) (Nat.le_refl _) (by simp) ?_; (case hd => rfl); (case hg => rfl); (case hr => first | (go_simp; done) | (go_simp; rfl)); (case hp => exact (Reps.c3 (show Kd.M k28 _ _ _ (⟨(⟨#[85, 110, 105, 116]⟩ : ByteArray), (⟨#[78, 97, 109, 101]⟩ : ByteArray), strOfNums x4_1⟩ : S28) [.string (⟨#[85, 110, 105, 116]⟩ : ByteArray), .string (⟨#[78, 97, 109, 101]⟩ : ByteArray), .string (strOfNums x4_1)] from (k28_mkM _ _ _ (⟨(⟨#[85, 110, 105, 116]⟩ : ByteArray), (⟨#[78, 97, 109, 101]⟩ : ByteArray), strOfNums x4_1⟩ : S28) )) (Reps.none _ _))); intro v119 w42 ho43 hb hg_ hnew_; clear hg_ hnew_; (first | rw [← Ny118.out] at ho43 | (simp only [Int.reduceToNat] at ho43; rw [← Ny118.out] at ho43)); have n0_ := Aside0.mk (Kd.R_below (by (with_reducible repeat (first | apply Kd.R_alloc | apply Kd.R_drewN | apply Kd.R_drew)); exact HO_4.out) hb); have n1_ := Aside0.mk (Kd.R_elder' (by (with_reducible repeat (first | apply Kd.R_alloc | apply Kd.R_drewN | apply Kd.R_drew)); exact HO116.out) (Kd.R_base ho43) hb); have n2_ := Aside0.mk (Kd.R_lower (Kd.R_newB (Kd.R_new' ho43 (Kd.R_lt (by (with_reducible repeat (first | apply Kd.R_alloc | apply Kd.R_drewN | apply Kd.R_drew)); exact HO116.out))) (g := gb112) (o := .cells #[.string (⟨#[85, 110, 105, 116]⟩ : ByteArray), .string (⟨#[78, 97, 109, 101]⟩ : ByteArray), .string (strOfNums x4_1)] 28 (0, 0)) (by refine bY ?_; exact BK112.out)) (below_size belS)); have n3_ := Aside0.mk (blk_below (g := gb112) (o := .cells #[.string (⟨#[85, 110, 105, 116]⟩ : ByteArray), .string (⟨#[78, 97, 109, 101]⟩ : ByteArray), .string (strOfNums x4_1)] 28 (0, 0)) (by refine bY ?_; exact BK112.out) hb); have n4_ := Aside0.mk (below_step belS hb); clear HO_4; clear HO116; clear BK112; clear HB; have HO_4 := n0_; have HO116 := n1_; have HO120 := n2_; have BK112 := n3_; have HB := n4_; clear n0_ n1_ n2_ n3_ n4_; clear hb ho43; obtain ⟨Ao44, co44, eo44⟩ := Kd.R_slice HO116.out; subst eo44; obtain ⟨Ao45, co45, eo45⟩ := Kd.R_slice HO120.out; subst eo45) | (go_at_call 13; (with_reducible refine (laws_sameOptions.calls k1 _ _ t113 _ _ y118 true _ ?side1 ?side2 ?side3 ?side4 A33.out).mono ?_); (case side1 => repeat (first | exact (Kd.R_reads' HO116.out).2.2 | (with_reducible refine Kd.C_alloc ?_ _) | (with_reducible refine Kd.C_drewN ?_ _) | (with_reducible refine Kd.C_drew ?_))); (case side2 => exact (Kd.R_reads' HO116.out).2.1); (case side3 => repeat (first | exact (Kd.R_reads' HO120.out).2.2 | (with_reducible refine Kd.C_alloc ?_ _) | (with_reducible refine Kd.C_drewN ?_ _) | (with_reducible refine Kd.C_drew ?_))); (case side4 => exact (Kd.R_reads' HO120.out).2.1); rintro e w' ⟨rfl, ⟨nd, rfl⟩⟩) | (go_at_call 12; (with_reducible refine (laws_reads.calls  t122 _ A35.out).mono ?_); rintro e w46 ⟨rfl, hb⟩; have n0_ := Aside0.mk (Kd.R_below (by (with_reducible repeat (first | apply Kd.R_alloc | apply Kd.R_drewN | apply Kd.R_drew)); exact HO_4.out) hb); have n1_ := Aside0.mk (Kd.R_below (by (with_reducible repeat (first | apply Kd.R_alloc | apply Kd.R_drewN | apply Kd.R_drew)); exact HO116.out) hb); have n2_ := Aside0.mk (Kd.R_below (by (with_reducible repeat (first | apply Kd.R_alloc | apply Kd.R_drewN | apply Kd.R_drew)); exact HO120.out) hb); have n3_ := Aside0.mk (blk_below (g := gb112) (o := .cells #[.string (⟨#[85, 110, 105, 116]⟩ : ByteArray), .string (⟨#[78, 97, 109, 101]⟩ : ByteArray), .string (strOfNums x4_1)] 28 (0, 0)) (by refine bY ?_; exact BK112.out) hb); have n4_ := Aside0.mk (below_step belS hb); clear HO_4; clear HO116; clear HO120; clear BK112; clear HB; have HO_4 := n0_; have HO116 := n1_; have HO120 := n2_; have BK112 := n3_; have HB := n4_; clear n0_ n1_ n2_ n3_ n4_; (try clear hb); (try clear hb2); (try clear hk); (try clear hi)))
            go_ret
            exact ⟨by first | rfl | (simp [errW_none, errW_some] <;> rfl) | (simp only [← hji2]; first | rfl | (simp [errW_none, errW_some] <;> rfl)) | (simp [*, errW_none, errW_some] <;> rfl), by repeat (first | (with_reducible first | exact HB.out | apply below_alloc | apply pw_below_drewN | apply below_drew1 | refine below_set ?_ GE112.out) | exact HB.out)⟩
           ·replace c34 := Bool.eq_false_iff.mpr c34
            subst c34
            have H1 : (some false) = some r := by rw [if_neg (show ¬ (false = true) by decide)] at H; exact H
            clear H
            have H := H1
            clear H1
            obtain rfl := Option.some.inj H
            have hcv47 := own_string (P := Tryd.prog) Tryd.underlying26 Tryd.underlying5 Tryd.underlying9 (Kd.own_of_R HO_4.out)
            go_wp2_with (first | ((with_reducible refine gate_dst (N := 6) rfl ?_); (try (refine gate_guard (by rfl) ?_; dsimp only)); refine box_event ?hg (N := 6) ?hd (cs := #[.string (⟨#[]⟩ : ByteArray), .string (⟨#[]⟩ : ByteArray), .string (⟨#[]⟩ : ByteArray)]) (t := 28) ?hr ?_; (case hd => rfl); (case hg => rfl); (case hr => first | (go_simp; done) | (go_simp; rfl)); intro gb112 hg w48 hbox hb; have n0_ := Aside0.mk (Kd.R_below (by (with_reducible repeat (first | apply Kd.R_alloc | apply Kd.R_drewN | apply Kd.R_drew)); exact HO_4.out) hb); have n1_ := Aside0.mk (below_step belH hb); have n2_ := Aside0.mk (hbox); have n3_ := Aside0.mk ((by rw [hg]; exact (below_size belH) : w.heap.size ≤ gb112)); have n4_ := Aside0.mk ((by rw [hg]; exact (below_size belH) : w.heap.size ≤ gb112)); clear HO_4; clear HB; have HO_4 := n0_; have HB := n1_; have BK112 := n2_; have GW112 := n3_; have GE112 := n4_; clear n0_ n1_ n2_ n3_ n4_; clear hb hbox hg; obtain ⟨hcz49_0, hcz49_1, hcz49_2, hfz49_0, hfz49_1, hfz49_2⟩ := rows3 (w := w48) BK112; have hcv50 := own_string (P := Tryd.prog) Tryd.underlying26 Tryd.underlying5 Tryd.underlying9 (Kd.own_of_R HO_4.out); have hcv99_ := own_string (P := Tryd.prog) Tryd.underlying26 Tryd.underlying5 Tryd.underlying9 (Kd.own_of_R (Kd.R_far (p := ⟨gb112, 2, none⟩) (Kd.R_far (p := ⟨gb112, 1, none⟩) (Kd.R_far (p := ⟨gb112, 0, none⟩) (Kd.R_types HO_4.out BK112.out (by decide)) (fun _ hk => hk.2) (.string (⟨#[85, 110, 105, 116]⟩ : ByteArray))) (fun _ hk => hk.2) (.string (⟨#[78, 97, 109, 101]⟩ : ByteArray))) (fun _ hk => hk.2) (.string (strOfNums x4_1))))) | ((with_reducible refine gate_callee (f := 11) rfl ?_); refine goesL_ (some 33) rfl rfl Tryd.func11 (by kernel_rfl) rfl #[.string (((⟨#[91, 85, 110, 105, 116, 93, 10, 78, 97, 109, 101, 61]⟩ : ByteArray) ++ (strOfNums x4_1)) ++ (⟨#[10]⟩ : ByteArray))] rfl (by (try simp only [List.map_toArray, List.map_cons, List.map_nil]); first | done | rfl | (simp only [List.length_drop, List.length_take]; rfl)) ?_; (with_reducible refine (impl_UnitRead.calls (((⟨#[91, 85, 110, 105, 116, 93, 10, 78, 97, 109, 101, 61]⟩ : ByteArray) ++ (strOfNums x4_1)) ++ (⟨#[10]⟩ : ByteArray)) t113 t114 _ A16.out).mono ?_); rintro e w51 ⟨v115, rfl, ho0, hb⟩; refine ⟨_, rfl, ?_⟩; have n0_ := Aside0.mk (Kd.R_below (by (with_reducible repeat (first | apply Kd.R_alloc | apply Kd.R_drewN | apply Kd.R_drew)); exact (Kd.R_mono (Kd.R_far (p := ⟨gb112, 2, none⟩) (Kd.R_far (p := ⟨gb112, 1, none⟩) (Kd.R_far (p := ⟨gb112, 0, none⟩) (Kd.R_types HO_4.out BK112.out (by decide)) (fun _ hk => hk.2) (.string (⟨#[85, 110, 105, 116]⟩ : ByteArray))) (fun _ hk => hk.2) (.string (⟨#[78, 97, 109, 101]⟩ : ByteArray))) (fun _ hk => hk.2) (.string (strOfNums x4_1))) (fun _ h_ => h_.1))) hb); have n1_ := Aside0.mk (Kd.R_lower (Kd.R_newB ho0 (g := gb112) (o := .cells #[.string (⟨#[85, 110, 105, 116]⟩ : ByteArray), .string (⟨#[78, 97, 109, 101]⟩ : ByteArray), .string (strOfNums x4_1)] 28 (0, 0)) (by refine bY ?_; refine blk_put (cs := #[.string (⟨#[85, 110, 105, 116]⟩ : ByteArray), .string (⟨#[78, 97, 109, 101]⟩ : ByteArray), .string (⟨#[]⟩ : ByteArray)]) ?_ 2 _ rfl; refine bY ?_; refine blk_put (cs := #[.string (⟨#[85, 110, 105, 116]⟩ : ByteArray), .string (⟨#[]⟩ : ByteArray), .string (⟨#[]⟩ : ByteArray)]) ?_ 1 _ rfl; refine bY ?_; refine blk_put (cs := #[.string (⟨#[]⟩ : ByteArray), .string (⟨#[]⟩ : ByteArray), .string (⟨#[]⟩ : ByteArray)]) ?_ 0 _ rfl; refine bY ?_; exact BK112.out)) (below_size belS)); have n2_ := Aside0.mk (blk_below (g := gb112) (o := .cells #[.string (⟨#[85, 110, 105, 116]⟩ : ByteArray), .string (⟨#[78, 97, 109, 101]⟩ : ByteArray), .string (strOfNums x4_1)] 28 (0, 0)) (by refine bY ?_; refine blk_put (cs := #[.string (⟨#[85, 110, 105, 116]⟩ : ByteArray), .string (⟨#[78, 97, 109, 101]⟩ : ByteArray), .string (⟨#[]⟩ : ByteArray)]) ?_ 2 _ rfl; refine bY ?_; refine blk_put (cs := #[.string (⟨#[85, 110, 105, 116]⟩ : ByteArray), .string (⟨#[]⟩ : ByteArray), .string (⟨#[]⟩ : ByteArray)]) ?_ 1 _ rfl; refine bY ?_; refine blk_put (cs := #[.string (⟨#[]⟩ : ByteArray), .string (⟨#[]⟩ : ByteArray), .string (⟨#[]⟩ : ByteArray)]) ?_ 0 _ rfl; refine bY ?_; exact BK112.out) hb); have n3_ := Aside0.mk (below_step belS hb); clear HO_4; clear BK112; clear HB; have HO_4 := n0_; have HO116 := n1_; have BK112 := n2_; have HB := n3_; clear n0_ n1_ n2_ n3_; (try clear hb); (try clear hb2); (try clear hk); (try clear hi); (try clear ho0); obtain ⟨hcz52_0, hcz52_1, hcz52_2, hfz52_0, hfz52_1, hfz52_2⟩ := rows3 (w := w51) BK112) | ((with_reducible refine gate_dst (N := 54) rfl ?_); (try (refine gate_guard (by rfl) ?_; dsimp only)); refine Kd.R_lit k28 _ 28 ?hg (N := 54) ?hd (xs := ([(⟨(⟨#[85, 110, 105, 116]⟩ : ByteArray), (⟨#[78, 97, 109, 101]⟩ : ByteArray), strOfNums x4_1⟩ : S28)] : List (S28))) (inner := [.string (⟨#[85, 110, 105, 116]⟩ : ByteArray), .string (⟨#[78, 97, 109, 101]⟩ : ByteArray), .string (strOfNums x4_1)]) (ok := fun _ => True) (okp := fun _ => True) ?hr ?hp (fun _ hk => hk) trivial (Below.refl _ _) (Nat.le_refl _) (by simp) ?_; (case hd => rfl); (case hg => rfl); (case hr => first | (go_simp; done) | (go_simp; rfl)); (case hp => exact (Reps.c3 (show Kd.M k28 _ _ _ (⟨(⟨#[85, 110, 105, 116]⟩ : ByteArray), (⟨#[78, 97, 109, 101]⟩ : ByteArray), strOfNums x4_1⟩ : S28) [.string (⟨#[85, 110, 105, 116]⟩ : ByteArray), .string (⟨#[78, 97, 109, 101]⟩ : ByteArray), .string (strOfNums x4_1)] from (k28_mkM _ _ _ (⟨(⟨#[85, 110, 105, 116]⟩ : ByteArray), (⟨#[78, 97, 109, 101]⟩ : ByteArray), strOfNums x4_1⟩ : S28) )) (Reps.none _ _))); intro v119 w53 ho54 hb hg_ hnew_; clear hg_ hnew_; (first | rw [← Ny118.out] at ho54 | (simp only [Int.reduceToNat] at ho54; rw [← Ny118.out] at ho54)); have n0_ := Aside0.mk (Kd.R_below (by (with_reducible repeat (first | apply Kd.R_alloc | apply Kd.R_drewN | apply Kd.R_drew)); exact HO_4.out) hb); have n1_ := Aside0.mk (Kd.R_elder' (by (with_reducible repeat (first | apply Kd.R_alloc | apply Kd.R_drewN | apply Kd.R_drew)); exact HO116.out) (Kd.R_base ho54) hb); have n2_ := Aside0.mk (Kd.R_lower (Kd.R_newB (Kd.R_new' ho54 (Kd.R_lt (by (with_reducible repeat (first | apply Kd.R_alloc | apply Kd.R_drewN | apply Kd.R_drew)); exact HO116.out))) (g := gb112) (o := .cells #[.string (⟨#[85, 110, 105, 116]⟩ : ByteArray), .string (⟨#[78, 97, 109, 101]⟩ : ByteArray), .string (strOfNums x4_1)] 28 (0, 0)) (by refine bY ?_; exact BK112.out)) (below_size belS)); have n3_ := Aside0.mk (blk_below (g := gb112) (o := .cells #[.string (⟨#[85, 110, 105, 116]⟩ : ByteArray), .string (⟨#[78, 97, 109, 101]⟩ : ByteArray), .string (strOfNums x4_1)] 28 (0, 0)) (by refine bY ?_; exact BK112.out) hb); have n4_ := Aside0.mk (below_step belS hb); clear HO_4; clear HO116; clear BK112; clear HB; have HO_4 := n0_; have HO116 := n1_; have HO120 := n2_; have BK112 := n3_; have HB := n4_; clear n0_ n1_ n2_ n3_ n4_; clear hb ho54; obtain ⟨Ao55, co55, eo55⟩ := Kd.R_slice HO116.out; subst eo55; obtain ⟨Ao56, co56, eo56⟩ := Kd.R_slice HO120.out; subst eo56) | (go_at_call 13; (with_reducible refine (laws_sameOptions.calls k1 _ _ t113 _ _ y118 false _ ?side1 ?side2 ?side3 ?side4 A33.out).mono ?_); (case side1 => repeat (first | exact (Kd.R_reads' HO116.out).2.2 | (with_reducible refine Kd.C_alloc ?_ _) | (with_reducible refine Kd.C_drewN ?_ _) | (with_reducible refine Kd.C_drew ?_))); (case side2 => exact (Kd.R_reads' HO116.out).2.1); (case side3 => repeat (first | exact (Kd.R_reads' HO120.out).2.2 | (with_reducible refine Kd.C_alloc ?_ _) | (with_reducible refine Kd.C_drewN ?_ _) | (with_reducible refine Kd.C_drew ?_))); (case side4 => exact (Kd.R_reads' HO120.out).2.1); rintro e w' ⟨rfl, ⟨nd, rfl⟩⟩))
            go_ret
            exact ⟨by first | rfl | (simp [errW_none, errW_some] <;> rfl) | (simp only [← hji2]; first | rfl | (simp [errW_none, errW_some] <;> rfl)) | (simp [*, errW_none, errW_some] <;> rfl), by repeat (first | (with_reducible first | exact HB.out | apply below_alloc | apply pw_below_drewN | apply below_drew1 | refine below_set ?_ GE112.out) | exact HB.out)⟩
          ·rw [if_neg c32] at H
           have c32b0 : (t114 == 0) = false := beq_eq_false_iff_ne.mpr c32
           have c32b1 : (t114 != 0) = true := bne_iff_ne.mpr c32
           obtain rfl := Option.some.inj H
           have hcv57 := own_string (P := Tryd.prog) Tryd.underlying26 Tryd.underlying5 Tryd.underlying9 (Kd.own_of_R HO_4.out)
           go_wp2_with (first | ((with_reducible refine gate_dst (N := 6) rfl ?_); (try (refine gate_guard (by rfl) ?_; dsimp only)); refine box_event ?hg (N := 6) ?hd (cs := #[.string (⟨#[]⟩ : ByteArray), .string (⟨#[]⟩ : ByteArray), .string (⟨#[]⟩ : ByteArray)]) (t := 28) ?hr ?_; (case hd => rfl); (case hg => rfl); (case hr => first | (go_simp; done) | (go_simp; rfl)); intro gb112 hg w58 hbox hb; have n0_ := Aside0.mk (Kd.R_below (by (with_reducible repeat (first | apply Kd.R_alloc | apply Kd.R_drewN | apply Kd.R_drew)); exact HO_4.out) hb); have n1_ := Aside0.mk (below_step belH hb); have n2_ := Aside0.mk (hbox); have n3_ := Aside0.mk ((by rw [hg]; exact (below_size belH) : w.heap.size ≤ gb112)); have n4_ := Aside0.mk ((by rw [hg]; exact (below_size belH) : w.heap.size ≤ gb112)); clear HO_4; clear HB; have HO_4 := n0_; have HB := n1_; have BK112 := n2_; have GW112 := n3_; have GE112 := n4_; clear n0_ n1_ n2_ n3_ n4_; clear hb hbox hg; obtain ⟨hcz59_0, hcz59_1, hcz59_2, hfz59_0, hfz59_1, hfz59_2⟩ := rows3 (w := w58) BK112; have hcv60 := own_string (P := Tryd.prog) Tryd.underlying26 Tryd.underlying5 Tryd.underlying9 (Kd.own_of_R HO_4.out); have hcv99_ := own_string (P := Tryd.prog) Tryd.underlying26 Tryd.underlying5 Tryd.underlying9 (Kd.own_of_R (Kd.R_far (p := ⟨gb112, 2, none⟩) (Kd.R_far (p := ⟨gb112, 1, none⟩) (Kd.R_far (p := ⟨gb112, 0, none⟩) (Kd.R_types HO_4.out BK112.out (by decide)) (fun _ hk => hk.2) (.string (⟨#[85, 110, 105, 116]⟩ : ByteArray))) (fun _ hk => hk.2) (.string (⟨#[78, 97, 109, 101]⟩ : ByteArray))) (fun _ hk => hk.2) (.string (strOfNums x4_1))))) | ((with_reducible refine gate_callee (f := 11) rfl ?_); refine goesL_ (some 33) rfl rfl Tryd.func11 (by kernel_rfl) rfl #[.string (((⟨#[91, 85, 110, 105, 116, 93, 10, 78, 97, 109, 101, 61]⟩ : ByteArray) ++ (strOfNums x4_1)) ++ (⟨#[10]⟩ : ByteArray))] rfl (by (try simp only [List.map_toArray, List.map_cons, List.map_nil]); first | done | rfl | (simp only [List.length_drop, List.length_take]; rfl)) ?_; (with_reducible refine (impl_UnitRead.calls (((⟨#[91, 85, 110, 105, 116, 93, 10, 78, 97, 109, 101, 61]⟩ : ByteArray) ++ (strOfNums x4_1)) ++ (⟨#[10]⟩ : ByteArray)) t113 t114 _ A16.out).mono ?_); rintro e w61 ⟨v115, rfl, ho0, hb⟩; refine ⟨_, rfl, ?_⟩; have n0_ := Aside0.mk (Kd.R_below (by (with_reducible repeat (first | apply Kd.R_alloc | apply Kd.R_drewN | apply Kd.R_drew)); exact (Kd.R_mono (Kd.R_far (p := ⟨gb112, 2, none⟩) (Kd.R_far (p := ⟨gb112, 1, none⟩) (Kd.R_far (p := ⟨gb112, 0, none⟩) (Kd.R_types HO_4.out BK112.out (by decide)) (fun _ hk => hk.2) (.string (⟨#[85, 110, 105, 116]⟩ : ByteArray))) (fun _ hk => hk.2) (.string (⟨#[78, 97, 109, 101]⟩ : ByteArray))) (fun _ hk => hk.2) (.string (strOfNums x4_1))) (fun _ h_ => h_.1))) hb); have n1_ := Aside0.mk (Kd.R_lower (Kd.R_newB ho0 (g := gb112) (o := .cells #[.string (⟨#[85, 110, 105, 116]⟩ : ByteArray), .string (⟨#[78, 97, 109, 101]⟩ : ByteArray), .string (strOfNums x4_1)] 28 (0, 0)) (by refine bY ?_; refine blk_put (cs := #[.string (⟨#[85, 110, 105, 116]⟩ : ByteArray), .string (⟨#[78, 97, 109, 101]⟩ : ByteArray), .string (⟨#[]⟩ : ByteArray)]) ?_ 2 _ rfl; refine bY ?_; refine blk_put (cs := #[.string (⟨#[85, 110, 105, 116]⟩ : ByteArray), .string (⟨#[]⟩ : ByteArray), .string (⟨#[]⟩ : ByteArray)]) ?_ 1 _ rfl; refine bY ?_; refine blk_put (cs := #[.string (⟨#[]⟩ : ByteArray), .string (⟨#[]⟩ : ByteArray), .string (⟨#[]⟩ : ByteArray)]) ?_ 0 _ rfl; refine bY ?_; exact BK112.out)) (below_size belS)); have n2_ := Aside0.mk (blk_below (g := gb112) (o := .cells #[.string (⟨#[85, 110, 105, 116]⟩ : ByteArray), .string (⟨#[78, 97, 109, 101]⟩ : ByteArray), .string (strOfNums x4_1)] 28 (0, 0)) (by refine bY ?_; refine blk_put (cs := #[.string (⟨#[85, 110, 105, 116]⟩ : ByteArray), .string (⟨#[78, 97, 109, 101]⟩ : ByteArray), .string (⟨#[]⟩ : ByteArray)]) ?_ 2 _ rfl; refine bY ?_; refine blk_put (cs := #[.string (⟨#[85, 110, 105, 116]⟩ : ByteArray), .string (⟨#[]⟩ : ByteArray), .string (⟨#[]⟩ : ByteArray)]) ?_ 1 _ rfl; refine bY ?_; refine blk_put (cs := #[.string (⟨#[]⟩ : ByteArray), .string (⟨#[]⟩ : ByteArray), .string (⟨#[]⟩ : ByteArray)]) ?_ 0 _ rfl; refine bY ?_; exact BK112.out) hb); have n3_ := Aside0.mk (below_step belS hb); clear HO_4; clear BK112; clear HB; have HO_4 := n0_; have HO116 := n1_; have BK112 := n2_; have HB := n3_; clear n0_ n1_ n2_ n3_; (try clear hb); (try clear hb2); (try clear hk); (try clear hi); (try clear ho0)))
           go_ret
           exact ⟨by first | rfl | (simp [errW_none, errW_some] <;> rfl) | (simp only [← hji2]; first | rfl | (simp [errW_none, errW_some] <;> rfl)) | (simp [*, errW_none, errW_some] <;> rfl), by repeat (first | (with_reducible first | exact HB.out | apply below_alloc | apply pw_below_drewN | apply below_drew1 | refine below_set ?_ GE112.out) | exact HB.out)⟩
         ·rw [if_neg c31] at H
          have c31b0 : decide ((wrap64 (5 + ji2)) < 2046) = false := decide_eq_false c31
          have c31b9 : decide (5 + ji2 < 2046) = false := by have hw59 : wrap64 (5 + ji2) = 5 + ji2 := (by unfold wrap64; omega); rw [hw59] at c31b0; exact c31b0
          clear c31
          replace H := Option.bind_eq_some_iff.mp H
          obtain ⟨t123, A620, H⟩ := H
          have A62 := Aside0.mk A620
          clear A620
          obtain rfl := Option.some.inj H
          have hcv63 := own_string (P := Tryd.prog) Tryd.underlying26 Tryd.underlying5 Tryd.underlying9 (Kd.own_of_R HO_4.out)
          go_wp2_with (first | ((with_reducible refine gate_dst (N := 6) rfl ?_); (try (refine gate_guard (by rfl) ?_; dsimp only)); refine box_event ?hg (N := 6) ?hd (cs := #[.string (⟨#[]⟩ : ByteArray), .string (⟨#[]⟩ : ByteArray), .string (⟨#[]⟩ : ByteArray)]) (t := 28) ?hr ?_; (case hd => rfl); (case hg => rfl); (case hr => first | (go_simp; done) | (go_simp; rfl)); intro gb112 hg w64 hbox hb; have n0_ := Aside0.mk (Kd.R_below (by (with_reducible repeat (first | apply Kd.R_alloc | apply Kd.R_drewN | apply Kd.R_drew)); exact HO_4.out) hb); have n1_ := Aside0.mk (below_step belH hb); have n2_ := Aside0.mk (hbox); have n3_ := Aside0.mk ((by rw [hg]; exact (below_size belH) : w.heap.size ≤ gb112)); have n4_ := Aside0.mk ((by rw [hg]; exact (below_size belH) : w.heap.size ≤ gb112)); clear HO_4; clear HB; have HO_4 := n0_; have HB := n1_; have BK112 := n2_; have GW112 := n3_; have GE112 := n4_; clear n0_ n1_ n2_ n3_ n4_; clear hb hbox hg; obtain ⟨hcz65_0, hcz65_1, hcz65_2, hfz65_0, hfz65_1, hfz65_2⟩ := rows3 (w := w64) BK112; have hcv66 := own_string (P := Tryd.prog) Tryd.underlying26 Tryd.underlying5 Tryd.underlying9 (Kd.own_of_R HO_4.out); have hcv99_ := own_string (P := Tryd.prog) Tryd.underlying26 Tryd.underlying5 Tryd.underlying9 (Kd.own_of_R (Kd.R_far (p := ⟨gb112, 2, none⟩) (Kd.R_far (p := ⟨gb112, 1, none⟩) (Kd.R_far (p := ⟨gb112, 0, none⟩) (Kd.R_types HO_4.out BK112.out (by decide)) (fun _ hk => hk.2) (.string (⟨#[85, 110, 105, 116]⟩ : ByteArray))) (fun _ hk => hk.2) (.string (⟨#[78, 97, 109, 101]⟩ : ByteArray))) (fun _ hk => hk.2) (.string (strOfNums x4_1))))) | ((with_reducible refine gate_callee (f := 11) rfl ?_); refine goesL_ (some 33) rfl rfl Tryd.func11 (by kernel_rfl) rfl #[.string (((⟨#[91, 85, 110, 105, 116, 93, 10, 78, 97, 109, 101, 61]⟩ : ByteArray) ++ (strOfNums x4_1)) ++ (⟨#[10]⟩ : ByteArray))] rfl (by (try simp only [List.map_toArray, List.map_cons, List.map_nil]); first | done | rfl | (simp only [List.length_drop, List.length_take]; rfl)) ?_; (with_reducible refine (impl_UnitRead.calls (((⟨#[91, 85, 110, 105, 116, 93, 10, 78, 97, 109, 101, 61]⟩ : ByteArray) ++ (strOfNums x4_1)) ++ (⟨#[10]⟩ : ByteArray)) t113 t114 _ A16.out).mono ?_); rintro e w67 ⟨v115, rfl, ho0, hb⟩; refine ⟨_, rfl, ?_⟩; have n0_ := Aside0.mk (Kd.R_below (by (with_reducible repeat (first | apply Kd.R_alloc | apply Kd.R_drewN | apply Kd.R_drew)); exact (Kd.R_mono (Kd.R_far (p := ⟨gb112, 2, none⟩) (Kd.R_far (p := ⟨gb112, 1, none⟩) (Kd.R_far (p := ⟨gb112, 0, none⟩) (Kd.R_types HO_4.out BK112.out (by decide)) (fun _ hk => hk.2) (.string (⟨#[85, 110, 105, 116]⟩ : ByteArray))) (fun _ hk => hk.2) (.string (⟨#[78, 97, 109, 101]⟩ : ByteArray))) (fun _ hk => hk.2) (.string (strOfNums x4_1))) (fun _ h_ => h_.1))) hb); have n1_ := Aside0.mk (Kd.R_lower (Kd.R_newB ho0 (g := gb112) (o := .cells #[.string (⟨#[85, 110, 105, 116]⟩ : ByteArray), .string (⟨#[78, 97, 109, 101]⟩ : ByteArray), .string (strOfNums x4_1)] 28 (0, 0)) (by refine bY ?_; refine blk_put (cs := #[.string (⟨#[85, 110, 105, 116]⟩ : ByteArray), .string (⟨#[78, 97, 109, 101]⟩ : ByteArray), .string (⟨#[]⟩ : ByteArray)]) ?_ 2 _ rfl; refine bY ?_; refine blk_put (cs := #[.string (⟨#[85, 110, 105, 116]⟩ : ByteArray), .string (⟨#[]⟩ : ByteArray), .string (⟨#[]⟩ : ByteArray)]) ?_ 1 _ rfl; refine bY ?_; refine blk_put (cs := #[.string (⟨#[]⟩ : ByteArray), .string (⟨#[]⟩ : ByteArray), .string (⟨#[]⟩ : ByteArray)]) ?_ 0 _ rfl; refine bY ?_; exact BK112.out)) (below_size belS)); have n2_ := Aside0.mk (blk_below (g := gb112) (o := .cells #[.string (⟨#[85, 110, 105, 116]⟩ : ByteArray), .string (⟨#[78, 97, 109, 101]⟩ : ByteArray), .string (strOfNums x4_1)] 28 (0, 0)) (by refine bY ?_; refine blk_put (cs := #[.string (⟨#[85, 110, 105, 116]⟩ : ByteArray), .string (⟨#[78, 97, 109, 101]⟩ : ByteArray), .string (⟨#[]⟩ : ByteArray)]) ?_ 2 _ rfl; refine bY ?_; refine blk_put (cs := #[.string (⟨#[85, 110, 105, 116]⟩ : ByteArray), .string (⟨#[]⟩ : ByteArray), .string (⟨#[]⟩ : ByteArray)]) ?_ 1 _ rfl; refine bY ?_; refine blk_put (cs := #[.string (⟨#[]⟩ : ByteArray), .string (⟨#[]⟩ : ByteArray), .string (⟨#[]⟩ : ByteArray)]) ?_ 0 _ rfl; refine bY ?_; exact BK112.out) hb); have n3_ := Aside0.mk (below_step belS hb); clear HO_4; clear BK112; clear HB; have HO_4 := n0_; have HO116 := n1_; have BK112 := n2_; have HB := n3_; clear n0_ n1_ n2_ n3_; (try clear hb); (try clear hb2); (try clear hk); (try clear hi); (try clear ho0)) | ((with_reducible refine gate_callee (f := 12) rfl ?_); refine goesL_ (some 60) rfl rfl Tryd.func12 (by kernel_rfl) rfl #[] rfl (by (try simp only [List.map_toArray, List.map_cons, List.map_nil]); first | done | rfl | (simp only [List.length_drop, List.length_take]; rfl)) ?_; (with_reducible refine (laws_reads.calls  t123 _ A62.out).mono ?_); rintro e w68 ⟨rfl, hb⟩; refine ⟨_, rfl, ?_⟩; have n0_ := Aside0.mk (Kd.R_below (by (with_reducible repeat (first | apply Kd.R_alloc | apply Kd.R_drewN | apply Kd.R_drew)); exact HO_4.out) hb); have n1_ := Aside0.mk (Kd.R_below (by (with_reducible repeat (first | apply Kd.R_alloc | apply Kd.R_drewN | apply Kd.R_drew)); exact HO116.out) hb); have n2_ := Aside0.mk (blk_below (g := gb112) (o := .cells #[.string (⟨#[85, 110, 105, 116]⟩ : ByteArray), .string (⟨#[78, 97, 109, 101]⟩ : ByteArray), .string (strOfNums x4_1)] 28 (0, 0)) (by refine bY ?_; exact BK112.out) hb); have n3_ := Aside0.mk (below_step belS hb); clear HO_4; clear HO116; clear BK112; clear HB; have HO_4 := n0_; have HO116 := n1_; have BK112 := n2_; have HB := n3_; clear n0_ n1_ n2_ n3_; (try clear hb); (try clear hb2); (try clear hk); (try clear hi)))
          go_ret
          exact ⟨by first | rfl | (simp [errW_none, errW_some] <;> rfl) | (simp only [← hji2]; first | rfl | (simp [errW_none, errW_some] <;> rfl)) | (simp [*, errW_none, errW_some] <;> rfl), by repeat (first | (with_reducible first | exact HB.out | apply below_alloc | apply pw_below_drewN | apply below_drew1 | refine below_set ?_ GE112.out) | exact HB.out)⟩
       ·rw [if_neg c15] at H
        exact absurd H (by simp)
      ·rw [if_neg c14] at H
       exact absurd H (by simp)
  ·rw [if_neg c4] at H
   exact absurd H (by simp)
 ·rw [if_neg c3] at H
  exact absurd H (by simp)

/-- THE ONE PURE STATEMENT of laws_FnUnitLong: yours. -/
def laws_FnUnitLong.Pure : Prop := ∀ (a0 : Int), (Lit.int .u16 a0).wf = true → ∃ k, laws_FnUnitLong.f k a0 = some true
theorem laws_FnUnitLong.walk (P : laws_FnUnitLong.Pure) (a0 : Int) (w : World) (w0 : (Lit.int .u16 a0).wf = true) (hTabs : Tabs w := by first | exact hTabs | exact Tabs.below hTabs (by repeat (first | (with_reducible first | exact HB.out | apply below_alloc | apply pw_below_drewN | apply below_drew1 | refine below_set ?_ (Aside0.out (by assumption))) | exact HB.out))) :
  Calls Tryd.prog 4 #[.int .u16 a0] w fun e w' => e = .returned (.bool true) ∧ Below w.heap.size w w' := by
 obtain ⟨k, h⟩ := P a0 w0
 refine (laws_FnUnitLong.calls k a0 true w h).mono ?_
 rintro e w' ⟨rfl, hd⟩
 exact ⟨rfl, hd⟩

/-! ### spec_ascii: function 22 -/
def spec_ascii.l0 : Nat → ByteArray → Int → Int → Option (Bool)
 | 0, _, _, _ => none
 | k + 1, x0, x5, x6 => if x6 < x5 then (if 0 ≤ x6 then (if x6 < (x0.size : Int) then (if (bt x0 x6) ≥ 128 then (some false) else (if (bt x0 x6) = 0 then (some false) else (spec_ascii.l0 k x0 x5 (wrap64 (x6 + 1))))) else (none)) else (none)) else (some true)
def spec_ascii.f (k : Nat) (a0 : ByteArray) : Option (Bool) := spec_ascii.l0 k a0 (a0.size : Int) 0
theorem spec_ascii.mono_l : ∀ k, (∀ y0 y1 y2, LeO (spec_ascii.l0 k y0 y1 y2) (spec_ascii.l0 (k + 1) y0 y1 y2))
 | 0 => fun _ _ _ r h => by simp [spec_ascii.l0] at h
 | k + 1 => by
  have ih0 := spec_ascii.mono_l k
  ·intro y0 y1 y2
   unfold spec_ascii.l0
   repeat' first
   | (with_reducible exact ih0 _ _ _)
   | (with_reducible exact LeO.refl _)
   | (with_reducible exact LeO.none _)
   | (with_reducible refine LeO.ite ?_ ?_)
   | (with_reducible refine LeO.bind ?_ (fun _ => ?_))
   | exact ih0 _ _ _
   | exact LeO.none _
   | refine LeO.ite ?_ ?_
   | refine LeO.bind ?_ (fun _ => ?_)
theorem spec_ascii.mono : ∀ a0 k, LeO (spec_ascii.f k a0) (spec_ascii.f (k + 1) a0) := by
 intro a0 k
 have ih0 := spec_ascii.mono_l k
 unfold spec_ascii.f
 repeat' first
   | (with_reducible exact ih0 _ _ _)
   | (with_reducible exact LeO.refl _)
   | (with_reducible exact LeO.none _)
   | (with_reducible refine LeO.ite ?_ ?_)
   | (with_reducible refine LeO.bind ?_ (fun _ => ?_))
   | exact ih0 _ _ _
   | exact LeO.none _
   | refine LeO.ite ?_ ?_
   | refine LeO.bind ?_ (fun _ => ?_)
set_option maxHeartbeats 8000000 in
set_option maxRecDepth 100000 in
theorem spec_ascii.calls (k : Nat) (a0 : ByteArray) (r : Bool) (w : World) (h : spec_ascii.f k a0 = some r) :
  Calls Tryd.prog 22 #[.string a0] w fun e w' => e = .returned (.bool r) ∧ Drawn0 w w' := by
 have H : (spec_ascii.l0 k a0 (a0.size : Int) 0) = some r := h
 clear h
 have H' := Aside0.mk H
 clear H
 go_enter Tryd.func22, Tryd.ntmps22
 go_wp2
 go_loopg [6] k (fun kq v6 w' => ∃ (x6_1 : Int), v6 = .int .i64 x6_1 ∧ Aside0 (spec_ascii.l0 kq a0 (a0.size : Int) x6_1 = some r) ∧ Aside0 (kq ≤ k) ∧ Drawn0 w w')
 case atStart => exact ⟨(0), (by first | rfl | (simp; done) | (simp [*]; done) | (simp [bne_nil]; done) | (simp [bne_nil, *]; done)), H', ⟨Nat.le_refl _⟩, by repeat (first | exact Drawn0.refl _ | apply Drawn0.step)⟩
 case round =>
  clear H'
  obtain ⟨x6_1, rfl, HA, HK1, ⟨m1, rfl⟩⟩ := hrel
  cases gk with
  | zero => exact absurd HA.out (by simp [spec_ascii.l0])
  | succ k1 =>
   have H := HA.out
   clear HA
   simp only [spec_ascii.l0] at H
   by_cases c2 : x6_1 < (a0.size : Int)
   ·rw [if_pos c2] at H
    have c2b0 : decide (x6_1 < (a0.size : Int)) = true := decide_eq_true c2
    clear c2
    by_cases c3 : 0 ≤ x6_1
    ·rw [if_pos c3] at H
     have c3b0 : decide (0 ≤ x6_1) = true := decide_eq_true c3
     clear c3
     by_cases c4 : x6_1 < (a0.size : Int)
     ·rw [if_pos c4] at H
      have c4b0 : decide (x6_1 < (a0.size : Int)) = true := decide_eq_true c4
      clear c4
      by_cases c6 : (bt a0 x6_1) ≥ 128
      ·rw [if_pos c6] at H
       have c6b0 : decide (128 ≤ (bt a0 x6_1)) = true := decide_eq_true c6
       clear c6
       obtain rfl := Option.some.inj H
       have p5 : 0 ≤ (x6_1 : Int) := of_decide_eq_true (by first | (with_reducible assumption) | assumption)
       have q5 : x6_1 < (a0.size : Int) := of_decide_eq_true (by first | (with_reducible assumption) | assumption)
       have hx5 := bt_at a0 x6_1
       replace p5 := eq_true p5
       replace q5 := eq_true q5
       go_wp2
       go_ret
       exact ⟨by first | rfl | (simp; done) | (simp [*]; done) | (simp [bne_nil]; done) | (simp [bne_nil, *]; done), by repeat (first | exact Drawn0.refl _ | apply Drawn0.step)⟩
      ·rw [if_neg c6] at H
       have c6b0 : decide (128 ≤ (bt a0 x6_1)) = false := decide_eq_false c6
       clear c6
       by_cases c8 : (bt a0 x6_1) = 0
       ·rw [if_pos c8] at H
        have c8b0 : ((bt a0 x6_1) == 0) = true := beq_iff_eq.mpr c8
        have c8b1 : ((bt a0 x6_1) != 0) = false := bne_eq_false_iff_eq.mpr c8
        clear c8
        obtain rfl := Option.some.inj H
        have p5 : 0 ≤ (x6_1 : Int) := of_decide_eq_true (by first | (with_reducible assumption) | assumption)
        have q5 : x6_1 < (a0.size : Int) := of_decide_eq_true (by first | (with_reducible assumption) | assumption)
        have hx5 := bt_at a0 x6_1
        replace p5 := eq_true p5
        replace q5 := eq_true q5
        have p7 : 0 ≤ (x6_1 : Int) := of_decide_eq_true (by first | (with_reducible assumption) | assumption)
        have q7 : x6_1 < (a0.size : Int) := of_decide_eq_true (by first | (with_reducible assumption) | assumption)
        have hx7 := bt_at a0 x6_1
        replace p7 := eq_true p7
        replace q7 := eq_true q7
        go_wp2
        go_ret
        exact ⟨by first | rfl | (simp; done) | (simp [*]; done) | (simp [bne_nil]; done) | (simp [bne_nil, *]; done), by repeat (first | exact Drawn0.refl _ | apply Drawn0.step)⟩
       ·rw [if_neg c8] at H
        have c8b0 : ((bt a0 x6_1) == 0) = false := beq_eq_false_iff_ne.mpr c8
        have c8b1 : ((bt a0 x6_1) != 0) = true := bne_iff_ne.mpr c8
        have H' := Aside0.mk H
        clear H
        have p5 : 0 ≤ (x6_1 : Int) := of_decide_eq_true (by first | (with_reducible assumption) | assumption)
        have q5 : x6_1 < (a0.size : Int) := of_decide_eq_true (by first | (with_reducible assumption) | assumption)
        have hx5 := bt_at a0 x6_1
        replace p5 := eq_true p5
        replace q5 := eq_true q5
        have p7 : 0 ≤ (x6_1 : Int) := of_decide_eq_true (by first | (with_reducible assumption) | assumption)
        have q7 : x6_1 < (a0.size : Int) := of_decide_eq_true (by first | (with_reducible assumption) | assumption)
        have hx7 := bt_at a0 x6_1
        replace p7 := eq_true p7
        replace q7 := eq_true q7
        go_wp2
        go_roundg k1
        case measure => have := HK1.out; omega
        case rel => exact ⟨(wrap64 (x6_1 + 1)), (by first | rfl | (simp; done) | (simp [*]; done) | (simp [bne_nil]; done) | (simp [bne_nil, *]; done)), H', ⟨by have := HK1.out; omega⟩, by repeat (first | exact Drawn0.refl _ | apply Drawn0.step)⟩
     ·rw [if_neg c4] at H
      exact absurd H (by simp)
    ·rw [if_neg c3] at H
     exact absurd H (by simp)
   ·rw [if_neg c2] at H
    have c2b0 : decide (x6_1 < (a0.size : Int)) = false := decide_eq_false c2
    clear c2
    obtain rfl := Option.some.inj H
    go_wp2
    go_ret
    exact ⟨by first | rfl | (simp; done) | (simp [*]; done) | (simp [bne_nil]; done) | (simp [bne_nil, *]; done), by repeat (first | exact Drawn0.refl _ | apply Drawn0.step)⟩

/-! ### spec_cutLines: function 23 -/
def spec_cutLines.l0 : Nat → ByteArray → List ByteArray → Int → Int → Int → Option (List ByteArray)
 | 0, _, _, _, _, _ => none
 | k + 1, x0, x3, x4, x7, x8 => if x8 < x7 then (if 0 ≤ x8 then (if x8 < (x0.size : Int) then (if (bt x0 x8) = 10 then (if 0 ≤ x4 then (if x4 ≤ x8 then (if x8 ≤ (x0.size : Int) then (if x3.length < 8796093022208 then (spec_cutLines.l0 k x0 (x3 ++ [x0.extract (x4 : Int).toNat (x8 : Int).toNat]) (wrap64 (x8 + 1)) x7 (wrap64 (x8 + 1))) else (none)) else (none)) else (none)) else (none)) else (spec_cutLines.l0 k x0 x3 x4 x7 (wrap64 (x8 + 1)))) else (none)) else (none)) else (if x4 < (x0.size : Int) then (if 0 ≤ x4 then (if x4 ≤ (x0.size : Int) then (if x3.length < 8796093022208 then (some (x3 ++ [x0.extract (x4 : Int).toNat x0.size])) else (none)) else (none)) else (none)) else (some x3))
def spec_cutLines.f (k : Nat) (a0 : ByteArray) : Option (List ByteArray) := spec_cutLines.l0 k a0 ([] : List ByteArray) 0 (a0.size : Int) 0
theorem spec_cutLines.mono_l : ∀ k, (∀ y0 y1 y2 y3 y4, LeO (spec_cutLines.l0 k y0 y1 y2 y3 y4) (spec_cutLines.l0 (k + 1) y0 y1 y2 y3 y4))
 | 0 => fun _ _ _ _ _ r h => by simp [spec_cutLines.l0] at h
 | k + 1 => by
  have ih0 := spec_cutLines.mono_l k
  ·intro y0 y1 y2 y3 y4
   unfold spec_cutLines.l0
   repeat' first
   | (with_reducible exact ih0 _ _ _ _ _)
   | (with_reducible exact LeO.refl _)
   | (with_reducible exact LeO.none _)
   | (with_reducible refine LeO.ite ?_ ?_)
   | (with_reducible refine LeO.bind ?_ (fun _ => ?_))
   | exact ih0 _ _ _ _ _
   | exact LeO.none _
   | refine LeO.ite ?_ ?_
   | refine LeO.bind ?_ (fun _ => ?_)
theorem spec_cutLines.mono : ∀ a0 k, LeO (spec_cutLines.f k a0) (spec_cutLines.f (k + 1) a0) := by
 intro a0 k
 have ih0 := spec_cutLines.mono_l k
 unfold spec_cutLines.f
 repeat' first
   | (with_reducible exact ih0 _ _ _ _ _)
   | (with_reducible exact LeO.refl _)
   | (with_reducible exact LeO.none _)
   | (with_reducible refine LeO.ite ?_ ?_)
   | (with_reducible refine LeO.bind ?_ (fun _ => ?_))
   | exact ih0 _ _ _ _ _
   | exact LeO.none _
   | refine LeO.ite ?_ ?_
   | refine LeO.bind ?_ (fun _ => ?_)
set_option maxHeartbeats 8000000 in
set_option maxRecDepth 100000 in
theorem spec_cutLines.calls (k : Nat) (a0 : ByteArray) (r : List ByteArray) (w : World) (h : spec_cutLines.f k a0 = some r) :
  Calls Tryd.prog 23 #[.string a0] w fun e w' => ∃ v0_ : Value, e = .returned (v0_) ∧ Kd.R Kd.string 9 w' w.heap.size (fun _ => True) v0_ r ∧ Below w.heap.size w w' := by
 have HB := Aside0.mk (Below.refl w.heap.size w)
 have H : (spec_cutLines.l0 k a0 ([] : List ByteArray) 0 (a0.size : Int) 0) = some r := h
 clear h
 have H' := Aside0.mk H
 clear H
 go_enter Tryd.func23, Tryd.ntmps23
 go_wp2
 go_loopg [3, 4, 8] k (fun kq v3 v4 v8 w' => ∃ (x3_1 : List ByteArray) (x4_1 : Int) (x8_1 : Int), v4 = .int .i64 x4_1 ∧ v8 = .int .i64 x8_1 ∧ Aside0 (spec_cutLines.l0 kq a0 x3_1 x4_1 (a0.size : Int) x8_1 = some r) ∧ Aside0 (kq ≤ k) ∧ Aside0 (Kd.R Kd.string 9 w' w.heap.size (fun _ => True) v3 x3_1) ∧ Aside0 (Below w.heap.size w w'))
 case atStart => exact ⟨(([] : List ByteArray)), (0), (0), (by first | rfl | (simp; done) | (simp [*]; done) | (simp [bne_nil]; done) | (simp [bne_nil, *]; done)), (by first | rfl | (simp; done) | (simp [*]; done) | (simp [bne_nil]; done) | (simp [bne_nil, *]; done)), H', ⟨Nat.le_refl _⟩, ⟨by first | exact Kd.R_nil _ _ _ _ _ | exact Kd.N_nil _ _ _ _ _ | exact Kd.V_nil _ _ _ _ _ | exact Kd.Q_nil _ _ _ _ _ | exact Kd.S_nil _ _ _ _ _⟩, ⟨by repeat (first | (with_reducible first | exact HB.out | apply below_alloc | apply pw_below_drewN | apply below_drew1) | exact HB.out)⟩⟩
 case round =>
  clear H'
  obtain ⟨x3_1, x4_1, x8_1, rfl, rfl, HA, HK1, HO_3, HB⟩ := hrel
  cases gk with
  | zero => exact absurd HA.out (by simp [spec_cutLines.l0])
  | succ k1 =>
   have H := HA.out
   clear HA
   simp only [spec_cutLines.l0] at H
   by_cases c2 : x8_1 < (a0.size : Int)
   ·rw [if_pos c2] at H
    have c2b0 : decide (x8_1 < (a0.size : Int)) = true := decide_eq_true c2
    clear c2
    by_cases c3 : 0 ≤ x8_1
    ·rw [if_pos c3] at H
     have c3b0 : decide (0 ≤ x8_1) = true := decide_eq_true c3
     clear c3
     by_cases c4 : x8_1 < (a0.size : Int)
     ·rw [if_pos c4] at H
      have c4b0 : decide (x8_1 < (a0.size : Int)) = true := decide_eq_true c4
      clear c4
      by_cases c6 : (bt a0 x8_1) = 10
      ·rw [if_pos c6] at H
       have c6b0 : ((bt a0 x8_1) == 10) = true := beq_iff_eq.mpr c6
       have c6b1 : ((bt a0 x8_1) != 10) = false := bne_eq_false_iff_eq.mpr c6
       clear c6
       by_cases c7 : 0 ≤ x4_1
       ·rw [if_pos c7] at H
        have c7b0 := eq_true c7
        have c7z := c7
        (try simp only [ByteArray.size_append, sz1l2_, sz3l2_, sz5l2_, sz7l2_, sz12l2_] at c7z)
        try have c7b3 := eq_false (Nat.not_lt.2 c7z)
        have c7b1 : decide (0 ≤ x4_1) = true := decide_eq_true c7
        clear c7
        by_cases c8 : x4_1 ≤ x8_1
        ·rw [if_pos c8] at H
         have c8b0 := eq_true c8
         have c8z := c8
         (try simp only [ByteArray.size_append, sz1l2_, sz3l2_, sz5l2_, sz7l2_, sz12l2_] at c8z)
         try have c8b3 := eq_false (Nat.not_lt.2 c8z)
         have c8b1 : decide (x4_1 ≤ x8_1) = true := decide_eq_true c8
         clear c8
         by_cases c9 : x8_1 ≤ (a0.size : Int)
         ·rw [if_pos c9] at H
          have c9b0 := eq_true c9
          have c9z := c9
          (try simp only [ByteArray.size_append, sz1l2_, sz3l2_, sz5l2_, sz7l2_, sz12l2_] at c9z)
          try have c9b3 := eq_false (Nat.not_lt.2 c9z)
          have c9b1 : decide (x8_1 ≤ (a0.size : Int)) = true := decide_eq_true c9
          clear c9
          by_cases c10 : x3_1.length < 8796093022208
          ·rw [if_pos c10] at H
           have LMc10 := Aside0.mk c10
           clear c10
           obtain ⟨y124, hy124⟩ : ∃ y_ : List ByteArray, y_ = (x3_1 ++ [a0.extract (x4_1 : Int).toNat (x8_1 : Int).toNat]) := ⟨_, rfl⟩
           replace H : (spec_cutLines.l0 k1 a0 y124 (wrap64 (x8_1 + 1)) (a0.size : Int) (wrap64 (x8_1 + 1))) = some r := by first | (rw [hy124]; with_reducible exact H) | (have H2_ := (Option.bind_some _ _).symm.trans H; rw [hy124]; with_reducible exact H2_) | (have H2_ := (Option.bind_some _ _).symm.trans H; with_reducible exact H2_) | with_reducible exact H | (rw [hy124]; exact H) | exact H
           have Ny124 := Aside0.mk hy124
           clear hy124
           have H' := Aside0.mk H
           clear H
           have p5 : 0 ≤ (x8_1 : Int) := of_decide_eq_true (by first | (with_reducible assumption) | assumption)
           have q5 : x8_1 < (a0.size : Int) := of_decide_eq_true (by first | (with_reducible assumption) | assumption)
           have hx5 := bt_at a0 x8_1
           replace p5 := eq_true p5
           replace q5 := eq_true q5
           go_wp2_with (first | ((with_reducible refine gate_builtin (b := .append) (xs := #[.tmp 15, .tmp 20]) rfl ?_); at_builtin; refine Kd.R_append Kd.string (w0 := w) w.heap.size rfl (.tmp 15) (.tmp 20) 49 9 (.string ⟨#[]⟩) 16 rfl Tryd.underlying49 info9 rfl (by decide) (by omega) u3 x3_1 (a0.extract (x4_1 : Int).toNat (x8_1 : Int).toNat) [.string (a0.extract (x4_1 : Int).toNat (x8_1 : Int).toNat)] (fun _ => True) (fun _ => False) rfl rfl ?aP (fun _ hk => hk.elim) ?aF ?aO ?aB ?aS ?aL ?_; (case aP => exact rfl); (case aB => exact belH); (case aF => exact (fun _ _ => trivial)); (case aO => exact (by (with_reducible repeat (first | apply Kd.R_alloc | apply Kd.R_drewN | apply Kd.R_drew)); exact HO_3.out)); (case aS => exact (below_size belH)); (case aL => have := LMc10.out; omega); intro v125 w11 ho hb hg hat; rw [← Ny124.out] at ho; have n0_ := Aside0.mk (hb); have n1_ := Aside0.mk (ho); clear HB; clear HO_3; have HB := n0_; have HO126 := n1_; clear n0_ n1_; clear ho hb hg hat))
           go_roundg k1
           case measure => have := HK1.out; omega
           case rel => exact ⟨(y124), (wrap64 (x8_1 + 1)), (wrap64 (x8_1 + 1)), (by first | rfl | (simp; done) | (simp [*]; done) | (simp [bne_nil]; done) | (simp [bne_nil, *]; done)), (by first | rfl | (simp; done) | (simp [*]; done) | (simp [bne_nil]; done) | (simp [bne_nil, *]; done)), H', ⟨by have := HK1.out; omega⟩, ⟨by (with_reducible repeat (first | apply Kd.R_alloc | apply Kd.R_drewN | apply Kd.R_drew)); exact HO126.out⟩, ⟨by repeat (first | (with_reducible first | exact HB.out | apply below_alloc | apply pw_below_drewN | apply below_drew1) | exact HB.out)⟩⟩
          ·rw [if_neg c10] at H
           exact absurd H (by simp)
         ·rw [if_neg c9] at H
          exact absurd H (by simp)
        ·rw [if_neg c8] at H
         exact absurd H (by simp)
       ·rw [if_neg c7] at H
        exact absurd H (by simp)
      ·rw [if_neg c6] at H
       have c6b0 : ((bt a0 x8_1) == 10) = false := beq_eq_false_iff_ne.mpr c6
       have c6b1 : ((bt a0 x8_1) != 10) = true := bne_iff_ne.mpr c6
       have H' := Aside0.mk H
       clear H
       have p5 : 0 ≤ (x8_1 : Int) := of_decide_eq_true (by first | (with_reducible assumption) | assumption)
       have q5 : x8_1 < (a0.size : Int) := of_decide_eq_true (by first | (with_reducible assumption) | assumption)
       have hx5 := bt_at a0 x8_1
       replace p5 := eq_true p5
       replace q5 := eq_true q5
       go_wp2
       go_roundg k1
       case measure => have := HK1.out; omega
       case rel => exact ⟨(x3_1), (x4_1), (wrap64 (x8_1 + 1)), (by first | rfl | (simp; done) | (simp [*]; done) | (simp [bne_nil]; done) | (simp [bne_nil, *]; done)), (by first | rfl | (simp; done) | (simp [*]; done) | (simp [bne_nil]; done) | (simp [bne_nil, *]; done)), H', ⟨by have := HK1.out; omega⟩, ⟨by (with_reducible repeat (first | apply Kd.R_alloc | apply Kd.R_drewN | apply Kd.R_drew)); exact HO_3.out⟩, ⟨by repeat (first | (with_reducible first | exact HB.out | apply below_alloc | apply pw_below_drewN | apply below_drew1) | exact HB.out)⟩⟩
     ·rw [if_neg c4] at H
      exact absurd H (by simp)
    ·rw [if_neg c3] at H
     exact absurd H (by simp)
   ·rw [if_neg c2] at H
    have c2b0 : decide (x8_1 < (a0.size : Int)) = false := decide_eq_false c2
    clear c2
    by_cases c12 : x4_1 < (a0.size : Int)
    ·rw [if_pos c12] at H
     have c12b0 : decide (x4_1 < (a0.size : Int)) = true := decide_eq_true c12
     clear c12
     by_cases c13 : 0 ≤ x4_1
     ·rw [if_pos c13] at H
      have c13b0 := eq_true c13
      have c13z := c13
      (try simp only [ByteArray.size_append, sz1l2_, sz3l2_, sz5l2_, sz7l2_, sz12l2_] at c13z)
      try have c13b3 := eq_false (Nat.not_lt.2 c13z)
      have c13b1 : decide (0 ≤ x4_1) = true := decide_eq_true c13
      clear c13
      by_cases c14 : x4_1 ≤ (a0.size : Int)
      ·rw [if_pos c14] at H
       have c14b0 := eq_true c14
       have c14z := c14
       (try simp only [ByteArray.size_append, sz1l2_, sz3l2_, sz5l2_, sz7l2_, sz12l2_] at c14z)
       try have c14b3 := eq_false (Nat.not_lt.2 c14z)
       have c14b1 : decide (x4_1 ≤ (a0.size : Int)) = true := decide_eq_true c14
       clear c14
       by_cases c15 : x3_1.length < 8796093022208
       ·rw [if_pos c15] at H
        have LMc15 := Aside0.mk c15
        clear c15
        obtain ⟨y127, hy127⟩ : ∃ y_ : List ByteArray, y_ = (x3_1 ++ [a0.extract (x4_1 : Int).toNat a0.size]) := ⟨_, rfl⟩
        replace H : (some y127) = some r := by first | (rw [hy127]; with_reducible exact H) | (have H2_ := (Option.bind_some _ _).symm.trans H; rw [hy127]; with_reducible exact H2_) | (have H2_ := (Option.bind_some _ _).symm.trans H; with_reducible exact H2_) | with_reducible exact H | (rw [hy127]; exact H) | exact H
        have Ny127 := Aside0.mk hy127
        clear hy127
        obtain rfl := Option.some.inj H
        go_wp2_with (first | ((with_reducible refine gate_builtin (b := .append) (xs := #[.tmp 29, .tmp 33]) rfl ?_); at_builtin; refine Kd.R_append Kd.string (w0 := w) w.heap.size rfl (.tmp 29) (.tmp 33) 49 9 (.string ⟨#[]⟩) 16 rfl Tryd.underlying49 info9 rfl (by decide) (by omega) u3 x3_1 (a0.extract (x4_1 : Int).toNat a0.size) [.string (a0.extract (x4_1 : Int).toNat a0.size)] (fun _ => True) (fun _ => False) rfl rfl ?aP (fun _ hk => hk.elim) ?aF ?aO ?aB ?aS ?aL ?_; (case aP => exact rfl); (case aB => exact belH); (case aF => exact (fun _ _ => trivial)); (case aO => exact (by (with_reducible repeat (first | apply Kd.R_alloc | apply Kd.R_drewN | apply Kd.R_drew)); exact HO_3.out)); (case aS => exact (below_size belH)); (case aL => have := LMc15.out; omega); intro v128 w16 ho hb hg hat; rw [← Ny127.out] at ho; have n0_ := Aside0.mk (hb); have n1_ := Aside0.mk (ho); clear HB; clear HO_3; have HB := n0_; have HO129 := n1_; clear n0_ n1_; clear ho hb hg hat))
        go_ret
        exact ⟨_, by first | rfl | (simp [errW_none, errW_some] <;> rfl) | (simp [*, errW_none, errW_some] <;> rfl), by (with_reducible repeat (first | apply Kd.R_alloc | apply Kd.R_drewN | apply Kd.R_drew)); exact HO129.out, by repeat (first | (with_reducible first | exact HB.out | apply below_alloc | apply pw_below_drewN | apply below_drew1) | exact HB.out)⟩
       ·rw [if_neg c15] at H
        exact absurd H (by simp)
      ·rw [if_neg c14] at H
       exact absurd H (by simp)
     ·rw [if_neg c13] at H
      exact absurd H (by simp)
    ·rw [if_neg c12] at H
     have c12b0 : decide (x4_1 < (a0.size : Int)) = false := decide_eq_false c12
     clear c12
     obtain rfl := Option.some.inj H
     go_wp2
     go_ret
     exact ⟨_, by first | rfl | (simp [errW_none, errW_some] <;> rfl) | (simp [*, errW_none, errW_some] <;> rfl), by (with_reducible repeat (first | apply Kd.R_alloc | apply Kd.R_drewN | apply Kd.R_drew)); exact HO_3.out, by repeat (first | (with_reducible first | exact HB.out | apply below_alloc | apply pw_below_drewN | apply below_drew1) | exact HB.out)⟩

/-! ### spec_blank: function 25 -/
def spec_blank.f (a0 : Int) : Option (Bool) := if a0 = 32 then (some true) else (some (a0 == 9))
set_option maxHeartbeats 8000000 in
set_option maxRecDepth 100000 in
theorem spec_blank.calls (a0 : Int) (r : Bool) (w : World) (h : spec_blank.f a0 = some r) :
  Calls Tryd.prog 25 #[.int .u8 a0] w fun e w' => e = .returned (.bool r) ∧ Drawn0 w w' := by
 have H : (if a0 = 32 then (some true) else (some (a0 == 9))) = some r := h
 clear h
 by_cases c2 : a0 = 32
 ·rw [if_pos c2] at H
  have c2b0 : (a0 == 32) = true := beq_iff_eq.mpr c2
  have c2b1 : (a0 != 32) = false := bne_eq_false_iff_eq.mpr c2
  clear c2
  obtain rfl := Option.some.inj H
  go_enter Tryd.func25, Tryd.ntmps25
  go_wp2
  go_ret
  exact ⟨by first | rfl | (simp; done) | (simp [*]; done) | (simp [bne_nil]; done) | (simp [bne_nil, *]; done), by repeat (first | exact Drawn0.refl _ | apply Drawn0.step)⟩
 ·rw [if_neg c2] at H
  have c2b0 : (a0 == 32) = false := beq_eq_false_iff_ne.mpr c2
  have c2b1 : (a0 != 32) = true := bne_iff_ne.mpr c2
  obtain rfl := Option.some.inj H
  go_enter Tryd.func25, Tryd.ntmps25
  go_wp2
  go_ret
  exact ⟨by first | rfl | (simp; done) | (simp [*]; done) | (simp [bne_nil]; done) | (simp [bne_nil, *]; done), by repeat (first | exact Drawn0.refl _ | apply Drawn0.step)⟩

end Go.Proofs.YtlmmgienbmghmaaDoor.L
