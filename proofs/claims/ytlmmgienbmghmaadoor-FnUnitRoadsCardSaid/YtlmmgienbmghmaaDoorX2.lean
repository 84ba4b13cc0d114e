-- written by a program of this session (wip/tools/pp.py)
import Derived.Test.YtlmmgienbmghmaaDoorX1
namespace Go.Proofs.YtlmmgienbmghmaaDoor.X
open Go.RowKit Go.Proofs.YtlmmgienbmghmaaDoorW.PrintWords Go.Proofs.YtlmmgienbmghmaaDoorW.PrintLast Go.Proofs.YtlmmgienbmghmaaDoor.M Go.Proofs.YtlmmgienbmghmaaDoor.UDoor Go.Proofs.YtlmmgienbmghmaaDoor.VDoor Go.Proofs.YtlmmgienbmghmaaDoorW.PrintMore
attribute [local go_sem] max2_int min2_int max_two min_two max_three min_three max_four min_four   -- for this text's walks alone
set_option linter.unusedVariables false
set_option linter.unusedSimpArgs false

attribute [local go_sem high] eqA28
/-! ### laws_reads: function 12 -/
def laws_reads.f  : Option (Bool) := (impl_UnitRead.f (⟨#[91, 85, 110, 105, 116, 93, 10, 65, 102, 116, 101, 114, 61, 97, 46, 116, 97, 114, 103, 101, 116, 10]⟩ : ByteArray)).bind fun bt101 => (if bt101.2 = 0 then (if (bt101.1.length : Int) = 1 then (if 0 < (bt101.1.length : Int) then (some ((((rd_T28 bt101.1 0).f0).toList) == ([85, 110, 105, 116] : List UInt8) && ((((rd_T28 bt101.1 0).f1).toList) == ([65, 102, 116, 101, 114] : List UInt8) && ((((rd_T28 bt101.1 0).f2).toList) == ([97, 46, 116, 97, 114, 103, 101, 116] : List UInt8))))) else (none)) else (some false)) else (some false))
set_option maxHeartbeats 8000000 in
set_option maxRecDepth 100000 in
theorem laws_reads.calls  (r : Bool) (w : World) (h : laws_reads.f  = some r) (hTabs : Tabs w := by first | exact hTabs | exact Tabs.below hTabs (by repeat (first | (with_reducible first | exact HB.out | apply below_alloc | apply pw_below_drewN | apply below_drew1 | refine below_set ?_ (Aside0.out (by assumption))) | exact HB.out))) :
  Calls Tryd.prog 12 #[] w fun e w' => e = .returned (.bool r) ∧ Below w.heap.size w w' := by
 have hu28 := Tryd.underlying28
 have HB := Aside0.mk (Below.refl w.heap.size w)
 have H : ((impl_UnitRead.f (⟨#[91, 85, 110, 105, 116, 93, 10, 65, 102, 116, 101, 114, 61, 97, 46, 116, 97, 114, 103, 101, 116, 10]⟩ : ByteArray)).bind fun bt101 => (if bt101.2 = 0 then (if (bt101.1.length : Int) = 1 then (if 0 < (bt101.1.length : Int) then (some ((((rd_T28 bt101.1 0).f0).toList) == ([85, 110, 105, 116] : List UInt8) && ((((rd_T28 bt101.1 0).f1).toList) == ([65, 102, 116, 101, 114] : List UInt8) && ((((rd_T28 bt101.1 0).f2).toList) == ([97, 46, 116, 97, 114, 103, 101, 116] : List UInt8))))) else (none)) else (some false)) else (some false))) = some r := h
 clear h
 replace H := Option.bind_eq_some_iff.mp H
 obtain ⟨⟨t101, t102⟩, A10, H⟩ := H
 have A1 := Aside0.mk A10
 clear A10
 by_cases c2 : t102 = 0
 ·rw [if_pos c2] at H
  have c2b0 : (t102 == 0) = true := beq_iff_eq.mpr c2
  have c2b1 : (t102 != 0) = false := bne_eq_false_iff_eq.mpr c2
  clear c2
  by_cases c3 : (t101.length : Int) = 1
  ·rw [if_pos c3] at H
   have c3b0 : ((t101.length : Int) == 1) = true := beq_iff_eq.mpr c3
   have c3b1 : ((t101.length : Int) != 1) = false := bne_eq_false_iff_eq.mpr c3
   clear c3
   by_cases c4 : 0 < (t101.length : Int)
   ·rw [if_pos c4] at H
    have c4b0 : decide (0 < (t101.length : Int)) = true := decide_eq_true c4
    have c4b1 : decide (0 < t101.length) = true := decide_eq_true (by omega)
    clear c4
    obtain rfl := Option.some.inj H
    go_enter Tryd.func12, Tryd.ntmps12
    go_wp2_with (first | ((with_reducible refine gate_callee (f := 11) rfl ?_); refine goesL_ (some 4) rfl rfl Tryd.func11 (by kernel_rfl) rfl #[.string (⟨#[91, 85, 110, 105, 116, 93, 10, 65, 102, 116, 101, 114, 61, 97, 46, 116, 97, 114, 103, 101, 116, 10]⟩ : ByteArray)] rfl (by (try simp only [List.map_toArray, List.map_cons, List.map_nil]); first | done | rfl | (simp only [List.length_drop, List.length_take]; rfl)) ?_; (with_reducible refine (impl_UnitRead.calls (⟨#[91, 85, 110, 105, 116, 93, 10, 65, 102, 116, 101, 114, 61, 97, 46, 116, 97, 114, 103, 101, 116, 10]⟩ : ByteArray) t101 t102 _ A1.out).mono ?_); rintro e w5 ⟨v103, rfl, ho0, hb⟩; refine ⟨_, rfl, ?_⟩; have n0_ := Aside0.mk (Kd.R_lower ho0 (below_size belH)); have n1_ := Aside0.mk (below_step belH hb); clear HB; have HO104 := n0_; have HB := n1_; clear n0_ n1_; (try clear hb); (try clear hb2); (try clear hk); (try clear hi); (try clear ho0); obtain ⟨Ao6, co6, eo6⟩ := Kd.R_slice HO104.out; subst eo6; have p105 : 0 ≤ (0 : Int) := (by omega); have q105 : 0 < (t101.length : Int) := of_decide_eq_true (by first | (with_reducible assumption) | assumption); obtain ⟨ad105, e105, hx105_0, hx105_1, hx105_2⟩ := at_T28 (Kd.R_reads' HO104.out).2.2 0 p105 q105; cases e105; have qi105 : (0 < t101.length) = True := eq_true (by omega); (try rw [show ((0 : Int)).toNat = 0 from rfl] at hx105_0); (try rw [show 0 * 3 = 0 from rfl] at hx105_0); (try rw [Addr.add_zero'] at hx105_0); (try rw [show ((0 : Int)).toNat = 0 from rfl] at hx105_1); (try rw [show 0 * 3 = 0 from rfl] at hx105_1); (try rw [Addr.add_zero'] at hx105_1); (try rw [show ((0 : Int)).toNat = 0 from rfl] at hx105_2); (try rw [show 0 * 3 = 0 from rfl] at hx105_2); (try rw [Addr.add_zero'] at hx105_2); replace p105 := eq_true p105; replace q105 := eq_true q105))
    go_ret
    exact ⟨by first | rfl | (simp [errW_none, errW_some] <;> rfl) | (simp [*, errW_none, errW_some] <;> rfl), by repeat (first | (with_reducible first | exact HB.out | apply below_alloc | apply pw_below_drewN | apply below_drew1) | exact HB.out)⟩
   ·rw [if_neg c4] at H
    exact absurd H (by simp)
  ·rw [if_neg c3] at H
   have c3b0 : ((t101.length : Int) == 1) = false := beq_eq_false_iff_ne.mpr c3
   have c3b1 : ((t101.length : Int) != 1) = true := bne_iff_ne.mpr c3
   obtain rfl := Option.some.inj H
   go_enter Tryd.func12, Tryd.ntmps12
   go_wp2_with (first | ((with_reducible refine gate_callee (f := 11) rfl ?_); refine goesL_ (some 4) rfl rfl Tryd.func11 (by kernel_rfl) rfl #[.string (⟨#[91, 85, 110, 105, 116, 93, 10, 65, 102, 116, 101, 114, 61, 97, 46, 116, 97, 114, 103, 101, 116, 10]⟩ : ByteArray)] rfl (by (try simp only [List.map_toArray, List.map_cons, List.map_nil]); first | done | rfl | (simp only [List.length_drop, List.length_take]; rfl)) ?_; (with_reducible refine (impl_UnitRead.calls (⟨#[91, 85, 110, 105, 116, 93, 10, 65, 102, 116, 101, 114, 61, 97, 46, 116, 97, 114, 103, 101, 116, 10]⟩ : ByteArray) t101 t102 _ A1.out).mono ?_); rintro e w7 ⟨v103, rfl, ho0, hb⟩; refine ⟨_, rfl, ?_⟩; have n0_ := Aside0.mk (Kd.R_lower ho0 (below_size belH)); have n1_ := Aside0.mk (below_step belH hb); clear HB; have HO104 := n0_; have HB := n1_; clear n0_ n1_; (try clear hb); (try clear hb2); (try clear hk); (try clear hi); (try clear ho0); obtain ⟨Ao8, co8, eo8⟩ := Kd.R_slice HO104.out; subst eo8))
   go_ret
   exact ⟨by first | rfl | (simp [errW_none, errW_some] <;> rfl) | (simp [*, errW_none, errW_some] <;> rfl), by repeat (first | (with_reducible first | exact HB.out | apply below_alloc | apply pw_below_drewN | apply below_drew1) | exact HB.out)⟩
 ·rw [if_neg c2] at H
  have c2b0 : (t102 == 0) = false := beq_eq_false_iff_ne.mpr c2
  have c2b1 : (t102 != 0) = true := bne_iff_ne.mpr c2
  obtain rfl := Option.some.inj H
  go_enter Tryd.func12, Tryd.ntmps12
  go_wp2_with (first | ((with_reducible refine gate_callee (f := 11) rfl ?_); refine goesL_ (some 4) rfl rfl Tryd.func11 (by kernel_rfl) rfl #[.string (⟨#[91, 85, 110, 105, 116, 93, 10, 65, 102, 116, 101, 114, 61, 97, 46, 116, 97, 114, 103, 101, 116, 10]⟩ : ByteArray)] rfl (by (try simp only [List.map_toArray, List.map_cons, List.map_nil]); first | done | rfl | (simp only [List.length_drop, List.length_take]; rfl)) ?_; (with_reducible refine (impl_UnitRead.calls (⟨#[91, 85, 110, 105, 116, 93, 10, 65, 102, 116, 101, 114, 61, 97, 46, 116, 97, 114, 103, 101, 116, 10]⟩ : ByteArray) t101 t102 _ A1.out).mono ?_); rintro e w9 ⟨v103, rfl, ho0, hb⟩; refine ⟨_, rfl, ?_⟩; have n0_ := Aside0.mk (Kd.R_lower ho0 (below_size belH)); have n1_ := Aside0.mk (below_step belH hb); clear HB; have HO104 := n0_; have HB := n1_; clear n0_ n1_; (try clear hb); (try clear hb2); (try clear hk); (try clear hi); (try clear ho0)))
  go_ret
  exact ⟨by first | rfl | (simp [errW_none, errW_some] <;> rfl) | (simp [*, errW_none, errW_some] <;> rfl), by repeat (first | (with_reducible first | exact HB.out | apply below_alloc | apply pw_below_drewN | apply below_drew1) | exact HB.out)⟩

/-! ### laws_sameOptions: function 13 -/
def laws_sameOptions.l0 : Nat → List (S28) → List (S28) → Int → Int → Option (Bool)
 | 0, _, _, _, _ => none
 | k + 1, x0, x1, x12, x13 => if x13 < x12 then (if 0 ≤ x13 then (if x13 < (x0.length : Int) then (if x13 < (x1.length : Int) then (if (!((((rd_T28 x0 x13).f0).toList) == (((rd_T28 x1 x13).f0).toList)) || (!((((rd_T28 x0 x13).f1).toList) == (((rd_T28 x1 x13).f1).toList)) || (!((((rd_T28 x0 x13).f2).toList) == (((rd_T28 x1 x13).f2).toList))))) = true then (some false) else (laws_sameOptions.l0 k x0 x1 x12 (wrap64 (x13 + 1)))) else (none)) else (none)) else (none)) else (some true)
def laws_sameOptions.f (k : Nat) (l0 : List (S28)) (l1 : List (S28)) : Option (Bool) := if (l0.length : Int) = (l1.length : Int) then (laws_sameOptions.l0 k l0 l1 (l0.length : Int) 0) else (some false)
theorem laws_sameOptions.mono_l : ∀ k, (∀ y0 y1 y2 y3, LeO (laws_sameOptions.l0 k y0 y1 y2 y3) (laws_sameOptions.l0 (k + 1) y0 y1 y2 y3))
 | 0 => fun _ _ _ _ r h => by simp [laws_sameOptions.l0] at h
 | k + 1 => by
  have ih0 := laws_sameOptions.mono_l k
  ·intro y0 y1 y2 y3
   unfold laws_sameOptions.l0
   repeat' first
   | (with_reducible exact ih0 _ _ _ _)
   | (with_reducible exact LeO.refl _)
   | (with_reducible exact LeO.none _)
   | (with_reducible refine LeO.ite ?_ ?_)
   | (with_reducible refine LeO.bind ?_ (fun _ => ?_))
   | exact ih0 _ _ _ _
   | exact LeO.none _
   | refine LeO.ite ?_ ?_
   | refine LeO.bind ?_ (fun _ => ?_)
theorem laws_sameOptions.mono : ∀ a0 a1 k, LeO (laws_sameOptions.f k a0 a1) (laws_sameOptions.f (k + 1) a0 a1) := by
 intro a0 a1 k
 have ih0 := laws_sameOptions.mono_l k
 unfold laws_sameOptions.f
 repeat' first
   | (with_reducible exact ih0 _ _ _ _)
   | (with_reducible exact LeO.refl _)
   | (with_reducible exact LeO.none _)
   | (with_reducible refine LeO.ite ?_ ?_)
   | (with_reducible refine LeO.bind ?_ (fun _ => ?_))
   | exact ih0 _ _ _ _
   | exact LeO.none _
   | refine LeO.ite ?_ ?_
   | refine LeO.bind ?_ (fun _ => ?_)
set_option maxHeartbeats 8000000 in
set_option maxRecDepth 100000 in
theorem laws_sameOptions.calls (k : Nat) (A0 : Option Addr) (c0 : Nat) (l0 : List (S28)) (A1 : Option Addr) (c1 : Nat) (l1 : List (S28)) (r : Bool) (w : World) (hr0 : Kd.C k28 w A0 l0.length l0) (hc0 : l0.length ≤ c0) (hr1 : Kd.C k28 w A1 l1.length l1) (hc1 : l1.length ≤ c1) (h : laws_sameOptions.f k l0 l1 = some r) :
  Calls Tryd.prog 13 #[.slice A0 l0.length c0, .slice A1 l1.length c1] w fun e w' => e = .returned (.bool r) ∧ Drawn0 w w' := by
 have hu28 := Tryd.underlying28
 have HR0 := Aside0.mk hr0
 have HC0 := Aside0.mk hc0
 clear hr0 hc0
 have HR1 := Aside0.mk hr1
 have HC1 := Aside0.mk hc1
 clear hr1 hc1
 have H : (if (l0.length : Int) = (l1.length : Int) then (laws_sameOptions.l0 k l0 l1 (l0.length : Int) 0) else (some false)) = some r := h
 clear h
 by_cases c3 : (l0.length : Int) = (l1.length : Int)
 ·rw [if_pos c3] at H
  have c3b0 : ((l0.length : Int) == (l1.length : Int)) = true := beq_iff_eq.mpr c3
  have c3b1 : ((l0.length : Int) != (l1.length : Int)) = false := bne_eq_false_iff_eq.mpr c3
  have c3b2 : (l0.length == l1.length) = true := by first | simpa using c3 | (simp at c3 ⊢; omega)
  clear c3
  have H' := Aside0.mk H
  clear H
  go_enter Tryd.func13, Tryd.ntmps13
  go_wp2
  repeat (go_quiet (fail); try go_wp2)
  go_loopg [13] k (fun kq v13 w' => ∃ (x13_1 : Int), v13 = .int .i64 x13_1 ∧ Aside0 (laws_sameOptions.l0 kq l0 l1 (l0.length : Int) x13_1 = some r) ∧ Aside0 (kq ≤ k) ∧ Drawn0 w w')
  case atStart => exact ⟨(0), (by first | rfl | (simp; done) | (simp [*]; done) | (simp [bne_nil]; done) | (simp [bne_nil, *]; done)), H', ⟨Nat.le_refl _⟩, by repeat (first | exact Drawn0.refl _ | apply Drawn0.step)⟩
  case round =>
   clear H'
   try clear c1
   try clear p2
   try clear c3
   try clear c3b0
   try clear c3b1
   try clear c3b2
   obtain ⟨x13_1, rfl, HA, HK1, ⟨m1, rfl⟩⟩ := hrel
   cases gk with
   | zero => exact absurd HA.out (by simp [laws_sameOptions.l0])
   | succ k1 =>
    have H := HA.out
    clear HA
    simp only [laws_sameOptions.l0] at H
    by_cases c4 : x13_1 < (l0.length : Int)
    ·rw [if_pos c4] at H
     have c4b0 : decide (x13_1 < (l0.length : Int)) = true := decide_eq_true c4
     clear c4
     by_cases c5 : 0 ≤ x13_1
     ·rw [if_pos c5] at H
      have c5b0 : decide (0 ≤ x13_1) = true := decide_eq_true c5
      clear c5
      by_cases c6 : x13_1 < (l0.length : Int)
      ·rw [if_pos c6] at H
       have c6b0 : decide (x13_1 < (l0.length : Int)) = true := decide_eq_true c6
       clear c6
       by_cases c7 : x13_1 < (l1.length : Int)
       ·rw [if_pos c7] at H
        have c7b0 : decide (x13_1 < (l1.length : Int)) = true := decide_eq_true c7
        clear c7
        by_cases c8 : (!((((rd_T28 l0 x13_1).f0).toList) == (((rd_T28 l1 x13_1).f0).toList)) || (!((((rd_T28 l0 x13_1).f1).toList) == (((rd_T28 l1 x13_1).f1).toList)) || (!((((rd_T28 l0 x13_1).f2).toList) == (((rd_T28 l1 x13_1).f2).toList))))) = true
        ·rw [if_pos c8] at H
         have c8b0 : (!((((rd_T28 l0 x13_1).f0).toList) == (((rd_T28 l1 x13_1).f0).toList)) || (!((((rd_T28 l0 x13_1).f1).toList) == (((rd_T28 l1 x13_1).f1).toList)) || (!((((rd_T28 l0 x13_1).f2).toList) == (((rd_T28 l1 x13_1).f2).toList))))) = true := c8
         clear c8
         obtain rfl := Option.some.inj H
         have p106 : 0 ≤ (x13_1 : Int) := of_decide_eq_true (by first | (with_reducible assumption) | assumption)
         have q106 : x13_1 < (l0.length : Int) := of_decide_eq_true (by first | (with_reducible assumption) | assumption)
         obtain ⟨ad106, e106, hx106_0, hx106_1, hx106_2⟩ := at_T28 HR0.out x13_1 p106 q106
         cases e106
         replace p106 := eq_true p106
         replace q106 := eq_true q106
         have p107 : 0 ≤ (x13_1 : Int) := of_decide_eq_true (by first | (with_reducible assumption) | assumption)
         have q107 : x13_1 < (l1.length : Int) := of_decide_eq_true (by first | (with_reducible assumption) | assumption)
         obtain ⟨ad107, e107, hx107_0, hx107_1, hx107_2⟩ := at_T28 HR1.out x13_1 p107 q107
         cases e107
         replace p107 := eq_true p107
         replace q107 := eq_true q107
         go_wp2
         repeat (go_quiet (fail); try go_wp2)
         go_ret
         exact ⟨by first | rfl | (simp; done) | (simp [*]; done) | (simp [bne_nil]; done) | (simp [bne_nil, *]; done), by repeat (first | exact Drawn0.refl _ | apply Drawn0.step)⟩
        ·rw [if_neg c8] at H
         have c8b0 : (!((((rd_T28 l0 x13_1).f0).toList) == (((rd_T28 l1 x13_1).f0).toList)) || (!((((rd_T28 l0 x13_1).f1).toList) == (((rd_T28 l1 x13_1).f1).toList)) || (!((((rd_T28 l0 x13_1).f2).toList) == (((rd_T28 l1 x13_1).f2).toList))))) = false := by simpa using c8
         clear c8
         have H' := Aside0.mk H
         clear H
         have p106 : 0 ≤ (x13_1 : Int) := of_decide_eq_true (by first | (with_reducible assumption) | assumption)
         have q106 : x13_1 < (l0.length : Int) := of_decide_eq_true (by first | (with_reducible assumption) | assumption)
         obtain ⟨ad106, e106, hx106_0, hx106_1, hx106_2⟩ := at_T28 HR0.out x13_1 p106 q106
         cases e106
         replace p106 := eq_true p106
         replace q106 := eq_true q106
         have p107 : 0 ≤ (x13_1 : Int) := of_decide_eq_true (by first | (with_reducible assumption) | assumption)
         have q107 : x13_1 < (l1.length : Int) := of_decide_eq_true (by first | (with_reducible assumption) | assumption)
         obtain ⟨ad107, e107, hx107_0, hx107_1, hx107_2⟩ := at_T28 HR1.out x13_1 p107 q107
         cases e107
         replace p107 := eq_true p107
         replace q107 := eq_true q107
         go_wp2
         repeat (go_quiet (fail); try go_wp2)
         go_roundg k1
         case measure => have := HK1.out; omega
         case rel => exact ⟨(wrap64 (x13_1 + 1)), (by first | rfl | (simp; done) | (simp [*]; done) | (simp [bne_nil]; done) | (simp [bne_nil, *]; done)), H', ⟨by have := HK1.out; omega⟩, by repeat (first | exact Drawn0.refl _ | apply Drawn0.step)⟩
       ·rw [if_neg c7] at H
        exact absurd H (by simp)
      ·rw [if_neg c6] at H
       exact absurd H (by simp)
     ·rw [if_neg c5] at H
      exact absurd H (by simp)
    ·rw [if_neg c4] at H
     have c4b0 : decide (x13_1 < (l0.length : Int)) = false := decide_eq_false c4
     clear c4
     obtain rfl := Option.some.inj H
     go_wp2
     repeat (go_quiet (fail); try go_wp2)
     go_ret
     exact ⟨by first | rfl | (simp; done) | (simp [*]; done) | (simp [bne_nil]; done) | (simp [bne_nil, *]; done), by repeat (first | exact Drawn0.refl _ | apply Drawn0.step)⟩
 ·rw [if_neg c3] at H
  have c3b0 : ((l0.length : Int) == (l1.length : Int)) = false := beq_eq_false_iff_ne.mpr c3
  have c3b1 : ((l0.length : Int) != (l1.length : Int)) = true := bne_iff_ne.mpr c3
  have c3b2 : (l0.length == l1.length) = false := by first | simpa using c3 | (simp at c3 ⊢; omega)
  obtain rfl := Option.some.inj H
  go_enter Tryd.func13, Tryd.ntmps13
  go_wp2
  repeat (go_quiet (fail); try go_wp2)
  go_ret
  exact ⟨by first | rfl | (simp; done) | (simp [*]; done) | (simp [bne_nil]; done) | (simp [bne_nil, *]; done), by repeat (first | exact Drawn0.refl _ | apply Drawn0.step)⟩

/-! ### laws_flat: function 17 -/
mutual
def laws_flat.l0 : Nat → List (S28) → List (S62) → Int → Int → Option ((List (S28)))
 | 0, _, _, _, _ => none
 | k + 1, x3, x8, x9, x10 => if x10 < x9 then (if 0 ≤ x10 then (if x10 < (x8.length : Int) then (laws_flat.l1 k x3 x8 x9 x10 ((rd_T62 x8 x10).f1) (((rd_T62 x8 x10).f1).length : Int) 0 ((rd_T62 x8 x10).f0) ((rd_T62 x8 x10).f1)) else (none)) else (none)) else (some x3)
def laws_flat.l1 : Nat → List (S28) → List (S62) → Int → Int → List (S66) → Int → Int → ByteArray → List (S66) → Option ((List (S28)))
 | 0, _, _, _, _, _, _, _, _, _ => none
 | k + 1, x3, x8, x9, x10, x15, x16, x17, x110000, x110001 => if x17 < x16 then (if 0 ≤ x17 then (if x17 < (x15.length : Int) then (if x3.length < 2932031007402 then (laws_flat.l1 k (x3 ++ [(⟨x110000, (rd_T66 x15 x17).f0, (rd_T66 x15 x17).f1⟩ : S28)]) x8 x9 x10 x15 x16 (wrap64 (x17 + 1)) x110000 x110001) else (none)) else (none)) else (none)) else (laws_flat.l0 k x3 x8 x9 (wrap64 (x10 + 1)))
end
def laws_flat.f (k : Nat) (l0 : List (S62)) : Option ((List (S28))) := laws_flat.l0 k ([] : List (S28)) l0 (l0.length : Int) 0
theorem laws_flat.mono_l : ∀ k, (∀ y0 y1 y2 y3, LeO (laws_flat.l0 k y0 y1 y2 y3) (laws_flat.l0 (k + 1) y0 y1 y2 y3)) ∧ (∀ y0 y1 y2 y3 y4 y5 y6 y7 y8, LeO (laws_flat.l1 k y0 y1 y2 y3 y4 y5 y6 y7 y8) (laws_flat.l1 (k + 1) y0 y1 y2 y3 y4 y5 y6 y7 y8))
 | 0 => ⟨fun _ _ _ _ r h => by simp [laws_flat.l0] at h, fun _ _ _ _ _ _ _ _ _ r h => by simp [laws_flat.l1] at h⟩
 | k + 1 => by
  obtain ⟨ih0, ih1⟩ := laws_flat.mono_l k
  refine ⟨?_, ?_⟩
  ·intro y0 y1 y2 y3
   unfold laws_flat.l0
   repeat' first
   | (with_reducible exact ih0 _ _ _ _)
   | (with_reducible exact ih1 _ _ _ _ _ _ _ _ _)
   | (with_reducible exact LeO.refl _)
   | (with_reducible exact LeO.none _)
   | (with_reducible refine LeO.ite ?_ ?_)
   | (with_reducible refine LeO.bind ?_ (fun _ => ?_))
   | exact ih0 _ _ _ _
   | exact ih1 _ _ _ _ _ _ _ _ _
   | exact LeO.none _
   | refine LeO.ite ?_ ?_
   | refine LeO.bind ?_ (fun _ => ?_)
  ·intro y0 y1 y2 y3 y4 y5 y6 y7 y8
   unfold laws_flat.l1
   repeat' first
   | (with_reducible exact ih0 _ _ _ _)
   | (with_reducible exact ih1 _ _ _ _ _ _ _ _ _)
   | (with_reducible exact LeO.refl _)
   | (with_reducible exact LeO.none _)
   | (with_reducible refine LeO.ite ?_ ?_)
   | (with_reducible refine LeO.bind ?_ (fun _ => ?_))
   | exact ih0 _ _ _ _
   | exact ih1 _ _ _ _ _ _ _ _ _
   | exact LeO.none _
   | refine LeO.ite ?_ ?_
   | refine LeO.bind ?_ (fun _ => ?_)
theorem laws_flat.mono : ∀ a0 k, LeO (laws_flat.f k a0) (laws_flat.f (k + 1) a0) := by
 intro a0 k
 obtain ⟨ih0, ih1⟩ := laws_flat.mono_l k
 unfold laws_flat.f
 repeat' first
   | (with_reducible exact ih0 _ _ _ _)
   | (with_reducible exact ih1 _ _ _ _ _ _ _ _ _)
   | (with_reducible exact LeO.refl _)
   | (with_reducible exact LeO.none _)
   | (with_reducible refine LeO.ite ?_ ?_)
   | (with_reducible refine LeO.bind ?_ (fun _ => ?_))
   | exact ih0 _ _ _ _
   | exact ih1 _ _ _ _ _ _ _ _ _
   | exact LeO.none _
   | refine LeO.ite ?_ ?_
   | refine LeO.bind ?_ (fun _ => ?_)
set_option maxHeartbeats 8000000 in
set_option maxRecDepth 100000 in
theorem laws_flat.calls (k : Nat) (A0 : Option Addr) (c0 : Nat) (l0 : List (S62)) (r : List (S28)) (w : World) (hr0 : Kd.C k62 w A0 l0.length l0) (hc0 : l0.length ≤ c0) (h : laws_flat.f k l0 = some r) :
  Calls Tryd.prog 17 #[.slice A0 l0.length c0] w fun e w' => ∃ v0_ : Value, e = .returned (v0_) ∧ Kd.R k28 28 w' w.heap.size (fun _ => True) v0_ r ∧ Below w.heap.size w w' := by
 have hu62 := Tryd.underlying62
 have hu66 := Tryd.underlying66
 have hu28 := Tryd.underlying28
 have HR0 := Aside0.mk hr0
 have HC0 := Aside0.mk hc0
 clear hr0 hc0
 have HB := Aside0.mk (Below.refl w.heap.size w)
 have H : (laws_flat.l0 k ([] : List (S28)) l0 (l0.length : Int) 0) = some r := h
 clear h
 have H' := Aside0.mk H
 clear H
 go_enter Tryd.func17, Tryd.ntmps17
 go_wp2
 go_loopg [3, 10] k (fun kq v3 v10 w' => ∃ (x3_1 : List (S28)) (x10_1 : Int), v10 = .int .i64 x10_1 ∧ Aside0 (laws_flat.l0 kq x3_1 l0 (l0.length : Int) x10_1 = some r) ∧ Aside0 (kq ≤ k) ∧ Aside0 (Kd.R k28 28 w' w.heap.size (fun _ => True) v3 x3_1) ∧ Aside0 (Below w.heap.size w w'))
 case atStart => exact ⟨(([] : List (S28))), (0), (by first | rfl | (simp; done) | (simp [*]; done) | (simp [bne_nil]; done) | (simp [bne_nil, *]; done)), H', ⟨Nat.le_refl _⟩, ⟨by first | exact Kd.R_nil _ _ _ _ _ | exact Kd.N_nil _ _ _ _ _ | exact Kd.V_nil _ _ _ _ _ | exact Kd.Q_nil _ _ _ _ _ | exact Kd.S_nil _ _ _ _ _⟩, ⟨by repeat (first | (with_reducible first | exact HB.out | apply below_alloc | apply pw_below_drewN | apply below_drew1) | exact HB.out)⟩⟩
 case round =>
  clear H'
  try clear c1
  obtain ⟨x3_1, x10_1, rfl, HA, HK1, HO_3, HB⟩ := hrel
  cases gk with
  | zero => exact absurd HA.out (by simp [laws_flat.l0])
  | succ k1 =>
   have H := HA.out
   clear HA
   simp only [laws_flat.l0] at H
   by_cases c2 : x10_1 < (l0.length : Int)
   ·rw [if_pos c2] at H
    have c2b0 : decide (x10_1 < (l0.length : Int)) = true := decide_eq_true c2
    clear c2
    by_cases c3 : 0 ≤ x10_1
    ·rw [if_pos c3] at H
     have c3b0 : decide (0 ≤ x10_1) = true := decide_eq_true c3
     clear c3
     by_cases c4 : x10_1 < (l0.length : Int)
     ·rw [if_pos c4] at H
      have c4b0 : decide (x10_1 < (l0.length : Int)) = true := decide_eq_true c4
      clear c4
      have H' := Aside0.mk H
      clear H
      have p108 : 0 ≤ (x10_1 : Int) := of_decide_eq_true (by first | (with_reducible assumption) | assumption)
      have q108 : x10_1 < (l0.length : Int) := of_decide_eq_true (by first | (with_reducible assumption) | assumption)
      obtain ⟨ad108, A108_1, c108_1, e108, hx108_0, hx108_1, hl108_1, hi108_1⟩ := at_T62 HR0.out x10_1 p108 q108
      cases e108
      replace hx108_0 := (HB.out.cell (World.block_lt_of_cell? w _ hx108_0)).trans hx108_0
      replace hx108_1 := (HB.out.cell (World.block_lt_of_cell? w _ hx108_1)).trans hx108_1
      have HR108_1 := Aside0.mk hi108_1
      have HC108_1 := Aside0.mk hl108_1
      clear hi108_1 hl108_1
      replace p108 := eq_true p108
      replace q108 := eq_true q108
      go_wp2_with (first | ((with_reducible refine gate_dst (N := 5) rfl ?_); refine box_event ?hg (N := 5) ?hd (cs := #[.string (⟨#[]⟩ : ByteArray), .slice none 0 0]) (t := 62) ?hr ?_; (case hd => rfl); (case hg => rfl); (case hr => first | (go_simp; done) | (go_simp; rfl)); intro gb109 hg w5 hbox hb; have n0_ := Aside0.mk (Kd.R_below (by (with_reducible repeat (first | apply Kd.R_alloc | apply Kd.R_drewN | apply Kd.R_drew)); exact HO_3.out) hb); have n1_ := Aside0.mk (below_step belH hb); have n2_ := Aside0.mk (hbox); have n3_ := Aside0.mk ((by rw [hg]; exact (below_size belH) : w.heap.size ≤ gb109)); have n4_ := Aside0.mk ((by rw [hg]; exact (below_size belH) : w.heap.size ≤ gb109)); clear HO_3; clear HB; have HO_3 := n0_; have HB := n1_; have BK109 := n2_; have GW109 := n3_; have GE109 := n4_; clear n0_ n1_ n2_ n3_ n4_; clear hb hbox hg; have hcz6_0 : w5.cell? ⟨gb109, 0, none⟩ = some (.string (⟨#[]⟩ : ByteArray)) := (blk_cell BK109.out 0).trans rfl; have hcz6_1 : w5.cell? ⟨gb109, 1, none⟩ = some (.slice none 0 0) := (blk_cell BK109.out 1).trans rfl; have hfz6_0 := blk_frozen BK109.out 0; have hfz6_1 := blk_frozen BK109.out 1))
      go_loopg [3, 17] k1 (fun kq v3 v17 w' => ∃ (x3_2 : List (S28)) (x17_2 : Int), v17 = .int .i64 x17_2 ∧ Aside0 (laws_flat.l1 kq x3_2 l0 (l0.length : Int) x10_1 ((rd_T62 l0 x10_1).f1) (((rd_T62 l0 x10_1).f1).length : Int) x17_2 ((rd_T62 l0 x10_1).f0) ((rd_T62 l0 x10_1).f1) = some r) ∧ Aside0 (kq ≤ k1) ∧ Aside0 (Kd.R k28 28 w' w.heap.size (fun _ => True) v3 x3_2) ∧ Aside0 (w'.heap[gb109]? = some (.cells #[.string ((rd_T62 l0 x10_1).f0), (.slice A108_1 ((rd_T62 l0 x10_1).f1).length c108_1)] 62 (0, 0))) ∧ Aside0 (Below w.heap.size w w'))
      case atStart => exact ⟨(x3_1), (0), (by first | rfl | (simp; done) | (simp [*]; done) | (simp [bne_nil]; done) | (simp [bne_nil, *]; done)), H', ⟨Nat.le_refl _⟩, ⟨by (with_reducible repeat (first | apply Kd.R_alloc | apply Kd.R_drewN | apply Kd.R_drew)); exact Kd.R_mono (Kd.R_far (p := ⟨gb109, 1, none⟩) (Kd.R_far (p := ⟨gb109, 0, none⟩) (Kd.R_types HO_3.out BK109.out (by decide)) (fun _ hk => hk.2) (.string ((rd_T62 l0 x10_1).f0))) (fun _ hk => hk.2) (.slice A108_1 ((rd_T62 l0 x10_1).f1).length c108_1)) (fun _ hk => trivial)⟩, ⟨by refine bY ?_; refine blk_put (cs := #[.string ((rd_T62 l0 x10_1).f0), .slice none 0 0]) ?_ 1 _ rfl; refine bY ?_; refine blk_put (cs := #[.string (⟨#[]⟩ : ByteArray), .slice none 0 0]) ?_ 0 _ rfl; refine bY ?_; exact BK109.out⟩, ⟨by repeat (first | (with_reducible first | exact HB.out | apply below_alloc | apply pw_below_drewN | apply below_drew1 | refine below_set ?_ GE109.out) | exact HB.out)⟩⟩
      case round =>
       clear H'
       try clear c1
       try clear p1
       try clear q1
       try clear hx1
       try clear c2
       try clear c2b0
       try clear p2
       try clear c3
       try clear c3b0
       try clear c4
       try clear c4b0
       try clear hcz6_0
       try clear hcz6_1
       try clear hfz6_0
       try clear hfz6_1
       try clear hx108_0
       try clear hx108_1
       try clear p108
       try clear q108
       obtain ⟨x3_2, x17_2, rfl, HA, HK2, HO_3, BK109, HB⟩ := hrel
       cases gk with
       | zero => exact absurd HA.out (by simp [laws_flat.l1])
       | succ k2 =>
        have H := HA.out
        clear HA
        simp only [laws_flat.l1] at H
        by_cases c7 : x17_2 < (((rd_T62 l0 x10_1).f1).length : Int)
        ·rw [if_pos c7] at H
         have c7b0 : decide (x17_2 < (((rd_T62 l0 x10_1).f1).length : Int)) = true := decide_eq_true c7
         clear c7
         by_cases c8 : 0 ≤ x17_2
         ·rw [if_pos c8] at H
          have c8b0 : decide (0 ≤ x17_2) = true := decide_eq_true c8
          clear c8
          by_cases c9 : x17_2 < (((rd_T62 l0 x10_1).f1).length : Int)
          ·rw [if_pos c9] at H
           have c9b0 : decide (x17_2 < (((rd_T62 l0 x10_1).f1).length : Int)) = true := decide_eq_true c9
           clear c9
           by_cases c10 : x3_2.length < 2932031007402
           ·rw [if_pos c10] at H
            have LMc10 := Aside0.mk c10
            clear c10
            obtain ⟨y112, hy112⟩ : ∃ y_ : List (S28), y_ = (x3_2 ++ [(⟨((rd_T62 l0 x10_1).f0), (rd_T66 ((rd_T62 l0 x10_1).f1) x17_2).f0, (rd_T66 ((rd_T62 l0 x10_1).f1) x17_2).f1⟩ : S28)]) := ⟨_, rfl⟩
            replace H : (laws_flat.l1 k2 y112 l0 (l0.length : Int) x10_1 ((rd_T62 l0 x10_1).f1) (((rd_T62 l0 x10_1).f1).length : Int) (wrap64 (x17_2 + 1)) ((rd_T62 l0 x10_1).f0) ((rd_T62 l0 x10_1).f1)) = some r := by first | (rw [hy112]; with_reducible exact H) | (have H2_ := (Option.bind_some _ _).symm.trans H; rw [hy112]; with_reducible exact H2_) | (have H2_ := (Option.bind_some _ _).symm.trans H; with_reducible exact H2_) | with_reducible exact H | (rw [hy112]; exact H) | exact H
            have Ny112 := Aside0.mk hy112
            clear hy112
            have H' := Aside0.mk H
            clear H
            have p110 : 0 ≤ (x17_2 : Int) := of_decide_eq_true (by first | (with_reducible assumption) | assumption)
            have q110 : x17_2 < (((rd_T62 l0 x10_1).f1).length : Int) := of_decide_eq_true (by first | (with_reducible assumption) | assumption)
            obtain ⟨ad110, e110, hx110_0, hx110_1⟩ := at_T66 HR108_1.out x17_2 p110 q110
            cases e110
            replace hx110_0 := (HB.out.cell (World.block_lt_of_cell? w _ hx110_0)).trans hx110_0
            replace hx110_1 := (HB.out.cell (World.block_lt_of_cell? w _ hx110_1)).trans hx110_1
            replace p110 := eq_true p110
            replace q110 := eq_true q110
            go_wp2_with (first | ((with_reducible refine gate_dst (N := 7) rfl ?_); refine box_event ?hg (N := 7) ?hd (cs := #[.string (⟨#[]⟩ : ByteArray), .string (⟨#[]⟩ : ByteArray)]) (t := 66) ?hr ?_; (case hd => rfl); (case hg => rfl); (case hr => first | (go_simp; done) | (go_simp; rfl)); intro gb111 hg w11 hbox hb; have n0_ := Aside0.mk (Kd.R_below (by (with_reducible repeat (first | apply Kd.R_alloc | apply Kd.R_drewN | apply Kd.R_drew)); exact HO_3.out) hb); have n1_ := Aside0.mk (blk_below (g := gb109) (o := .cells #[.string ((rd_T62 l0 x10_1).f0), .slice (some ad110) ((rd_T62 l0 x10_1).f1).length c108_1] 62 (0, 0)) (by refine bY ?_; exact BK109.out) hb); have n2_ := Aside0.mk (below_step belS hb); have n3_ := Aside0.mk (hbox); have n4_ := Aside0.mk ((by rw [hg]; exact (below_size belS) : w.heap.size ≤ gb111)); have n5_ := Aside0.mk ((by rw [hg]; exact (below_size belS) : w.heap.size ≤ gb111)); have n6_ := Aside0.mk ((by rw [hg]; exact Nat.ne_of_lt (blk_lt (g := gb109) (o := .cells #[.string ((rd_T62 l0 x10_1).f0), .slice (some ad110) ((rd_T62 l0 x10_1).f1).length c108_1] 62 (0, 0)) (by refine bY ?_; exact BK109.out)) : gb109 ≠ gb111)); have n7_ := Aside0.mk ((by rw [hg]; exact Nat.ne_of_gt (blk_lt (g := gb109) (o := .cells #[.string ((rd_T62 l0 x10_1).f0), .slice (some ad110) ((rd_T62 l0 x10_1).f1).length c108_1] 62 (0, 0)) (by refine bY ?_; exact BK109.out)) : gb111 ≠ gb109)); clear HO_3; clear BK109; clear HB; have HO_3 := n0_; have BK109 := n1_; have HB := n2_; have BK111 := n3_; have GW111 := n4_; have GE111 := n5_; have NB109_111 := n6_; have NB111_109 := n7_; clear n0_ n1_ n2_ n3_ n4_ n5_ n6_ n7_; clear hb hbox hg; have hnb12 := NB111_109.out; have hnc12 := NB109_111.out; have hcz13_0 : w11.cell? ⟨gb111, 0, none⟩ = some (.string (⟨#[]⟩ : ByteArray)) := (blk_cell BK111.out 0).trans rfl; have hcz13_1 : w11.cell? ⟨gb111, 1, none⟩ = some (.string (⟨#[]⟩ : ByteArray)) := (blk_cell BK111.out 1).trans rfl; have hfz13_0 := blk_frozen BK111.out 0; have hfz13_1 := blk_frozen BK111.out 1; have hcz14_0 : w11.cell? ⟨gb109, 0, none⟩ = some (.string ((rd_T62 l0 x10_1).f0)) := (blk_cell BK109.out 0).trans rfl; have hcz14_1 : w11.cell? ⟨gb109, 1, none⟩ = some (.slice (some ad110) ((rd_T62 l0 x10_1).f1).length c108_1) := (blk_cell BK109.out 1).trans rfl; have hfz14_0 := blk_frozen BK109.out 0; have hfz14_1 := blk_frozen BK109.out 1) | ((with_reducible refine gate_builtin (b := .append) (xs := #[.tmp 21, .tmp 29]) rfl ?_); at_builtin; refine Kd.R_append k28 (w0 := w) w.heap.size rfl (.tmp 21) (.tmp 29) 29 28 (.agg #[(.string ⟨#[]⟩), (.string ⟨#[]⟩), (.string ⟨#[]⟩)]) 48 rfl Tryd.underlying29 info28 rfl (by decide) (by omega) u3 x3_2 (⟨((rd_T62 l0 x10_1).f0), (rd_T66 ((rd_T62 l0 x10_1).f1) x17_2).f0, (rd_T66 ((rd_T62 l0 x10_1).f1) x17_2).f1⟩ : S28) [.string ((rd_T62 l0 x10_1).f0), .string ((rd_T66 ((rd_T62 l0 x10_1).f1) x17_2).f0), .string ((rd_T66 ((rd_T62 l0 x10_1).f1) x17_2).f1)] (fun _ => True) (fun _ => False) rfl (by first | (go_simp; done) | (go_simp; rfl)) ?aP (fun _ hk => hk.elim) ?aF ?aO ?aB ?aS ?aL ?_; (case aP => exact k28_mkM _ _ _ (⟨((rd_T62 l0 x10_1).f0), (rd_T66 ((rd_T62 l0 x10_1).f1) x17_2).f0, (rd_T66 ((rd_T62 l0 x10_1).f1) x17_2).f1⟩ : S28)); (case aB => exact belS); (case aF => exact (fun _ _ => trivial)); (case aO => exact (by (with_reducible repeat (first | apply Kd.R_alloc | apply Kd.R_drewN | apply Kd.R_drew)); exact Kd.R_mono (Kd.R_far (p := ⟨gb111, 1, none⟩) (Kd.R_far (p := ⟨gb111, 0, none⟩) (Kd.R_types HO_3.out BK111.out (by decide)) (fun _ hk => hk.2) (.string ((rd_T66 ((rd_T62 l0 x10_1).f1) x17_2).f0))) (fun _ hk => hk.2) (.string ((rd_T66 ((rd_T62 l0 x10_1).f1) x17_2).f1))) (fun _ hk => trivial))); (case aS => exact (below_size belS)); (case aL => have := LMc10.out; omega); intro v113 w15 ho hb hg hat; rw [← Ny112.out] at ho; have n0_ := Aside0.mk (blk_grown (g := gb109) (o := .cells #[.string ((rd_T62 l0 x10_1).f0), .slice (some ad110) ((rd_T62 l0 x10_1).f1).length c108_1] 62 (0, 0)) (by refine bY ?_; refine blk_far ?_ NB109_111.out _; refine bY ?_; refine blk_far ?_ NB109_111.out _; refine bY ?_; exact BK109.out) hg (Kd.R_ne HO_3.out BK109.out (by decide))); have n1_ := Aside0.mk (blk_grown (g := gb111) (o := .cells #[.string ((rd_T66 ((rd_T62 l0 x10_1).f1) x17_2).f0), .string ((rd_T66 ((rd_T62 l0 x10_1).f1) x17_2).f1)] 66 (0, 0)) (by refine bY ?_; refine blk_put (cs := #[.string ((rd_T66 ((rd_T62 l0 x10_1).f1) x17_2).f0), .string (⟨#[]⟩ : ByteArray)]) ?_ 1 _ rfl; refine bY ?_; refine blk_put (cs := #[.string (⟨#[]⟩ : ByteArray), .string (⟨#[]⟩ : ByteArray)]) ?_ 0 _ rfl; refine bY ?_; exact BK111.out) hg (Kd.R_ne HO_3.out BK111.out (by decide))); have n2_ := Aside0.mk (hb); have n3_ := Aside0.mk (ho); clear BK109; clear BK111; clear HB; clear HO_3; have BK109 := n0_; have BK111 := n1_; have HB := n2_; have HO114 := n3_; clear n0_ n1_ n2_ n3_; clear ho hb hg hat))
            go_roundg k2
            case measure => have := HK1.out; have := HK2.out; omega
            case rel => exact ⟨(y112), (wrap64 (x17_2 + 1)), (by first | rfl | (simp; done) | (simp [*]; done) | (simp [bne_nil]; done) | (simp [bne_nil, *]; done)), H', ⟨by have := HK1.out; have := HK2.out; omega⟩, ⟨by (with_reducible repeat (first | apply Kd.R_alloc | apply Kd.R_drewN | apply Kd.R_drew)); exact HO114.out⟩, ⟨by refine bY ?_; exact BK109.out⟩, ⟨by repeat (first | (with_reducible first | exact HB.out | apply below_alloc | apply pw_below_drewN | apply below_drew1 | refine below_set ?_ GE109.out | refine below_set ?_ GE111.out) | exact HB.out)⟩⟩
           ·rw [if_neg c10] at H
            exact absurd H (by simp)
          ·rw [if_neg c9] at H
           exact absurd H (by simp)
         ·rw [if_neg c8] at H
          exact absurd H (by simp)
        ·rw [if_neg c7] at H
         have c7b0 : decide (x17_2 < (((rd_T62 l0 x10_1).f1).length : Int)) = false := decide_eq_false c7
         clear c7
         have H' := Aside0.mk H
         clear H
         go_wp2
         go_roundg k2
         case measure => have := HK1.out; have := HK2.out; omega
         case rel => exact ⟨(x3_2), (wrap64 (x10_1 + 1)), (by first | rfl | (simp; done) | (simp [*]; done) | (simp [bne_nil]; done) | (simp [bne_nil, *]; done)), H', ⟨by have := HK1.out; have := HK2.out; omega⟩, ⟨by (with_reducible repeat (first | apply Kd.R_alloc | apply Kd.R_drewN | apply Kd.R_drew)); exact HO_3.out⟩, ⟨by repeat (first | (with_reducible first | exact HB.out | apply below_alloc | apply pw_below_drewN | apply below_drew1 | refine below_set ?_ GE109.out) | exact HB.out)⟩⟩
     ·rw [if_neg c4] at H
      exact absurd H (by simp)
    ·rw [if_neg c3] at H
     exact absurd H (by simp)
   ·rw [if_neg c2] at H
    have c2b0 : decide (x10_1 < (l0.length : Int)) = false := decide_eq_false c2
    clear c2
    obtain rfl := Option.some.inj H
    go_wp2
    go_ret
    exact ⟨_, by first | rfl | (simp [errW_none, errW_some] <;> rfl) | (simp [*, errW_none, errW_some] <;> rfl), by (with_reducible repeat (first | apply Kd.R_alloc | apply Kd.R_drewN | apply Kd.R_drew)); exact HO_3.out, by repeat (first | (with_reducible first | exact HB.out | apply below_alloc | apply pw_below_drewN | apply below_drew1) | exact HB.out)⟩

/-! ### laws_FnUnitRoads: function 6 -/
def laws_FnUnitRoads.f (k : Nat) (a0 : ByteArray) : Option (Bool) := if (a0.size : Int) > 2147483647 then (some true) else (if (a0.size : Int) > 20000 then (some true) else ((impl_UnitReadSections.f a0).bind fun bt115 => ((impl_UnitRead.f a0).bind fun bt119 => (if bt115.2 = bt119.2 then (if bt115.2 = 0 then ((laws_flat.f k bt115.1).bind fun t123 => ((laws_sameOptions.f k t123 bt119.1).bind fun t126 => (if t126 = true then ((laws_reads.f).bind fun t127 => (some t127)) else (some false)))) else ((laws_reads.f).bind fun t128 => (some t128))) else (some false)))))
theorem laws_FnUnitRoads.mono : ∀ a0 k, LeO (laws_FnUnitRoads.f k a0) (laws_FnUnitRoads.f (k + 1) a0) := by
 intro a0 k
 unfold laws_FnUnitRoads.f
 repeat' first
   | (with_reducible exact laws_flat.mono _ _)
   | (with_reducible exact laws_sameOptions.mono _ _ _)
   | (with_reducible exact LeO.refl _)
   | (with_reducible exact LeO.none _)
   | (with_reducible refine LeO.ite ?_ ?_)
   | (with_reducible refine LeO.bind ?_ (fun _ => ?_))
   | exact laws_flat.mono _ _
   | exact laws_sameOptions.mono _ _ _
   | exact LeO.none _
   | refine LeO.ite ?_ ?_
   | refine LeO.bind ?_ (fun _ => ?_)
set_option maxHeartbeats 8000000 in
set_option maxRecDepth 100000 in
theorem laws_FnUnitRoads.calls (k : Nat) (a0 : ByteArray) (r : Bool) (w : World) (h : laws_FnUnitRoads.f k a0 = some r) (hTabs : Tabs w := by first | exact hTabs | exact Tabs.below hTabs (by repeat (first | (with_reducible first | exact HB.out | apply below_alloc | apply pw_below_drewN | apply below_drew1 | refine below_set ?_ (Aside0.out (by assumption))) | exact HB.out))) :
  Calls Tryd.prog 6 #[.string a0] w fun e w' => e = .returned (.bool r) ∧ Below w.heap.size w w' := by
 have HB := Aside0.mk (Below.refl w.heap.size w)
 have H : (if (a0.size : Int) > 2147483647 then (some true) else (if (a0.size : Int) > 20000 then (some true) else ((impl_UnitReadSections.f a0).bind fun bt115 => ((impl_UnitRead.f a0).bind fun bt119 => (if bt115.2 = bt119.2 then (if bt115.2 = 0 then ((laws_flat.f k bt115.1).bind fun t123 => ((laws_sameOptions.f k t123 bt119.1).bind fun t126 => (if t126 = true then ((laws_reads.f).bind fun t127 => (some t127)) else (some false)))) else ((laws_reads.f).bind fun t128 => (some t128))) else (some false)))))) = some r := h
 clear h
 by_cases c2 : (a0.size : Int) > 2147483647
 ·rw [if_pos c2] at H
  have c2b0 : decide (2147483647 < (a0.size : Int)) = true := decide_eq_true c2
  have c2b1 : decide (2147483647 < a0.size) = true := decide_eq_true (by omega)
  clear c2
  obtain rfl := Option.some.inj H
  go_enter Tryd.func6, Tryd.ntmps6
  go_wp2
  go_ret
  exact ⟨by first | rfl | (simp [errW_none, errW_some] <;> rfl) | (simp [*, errW_none, errW_some] <;> rfl), by repeat (first | (with_reducible first | exact HB.out | apply below_alloc | apply pw_below_drewN | apply below_drew1) | exact HB.out)⟩
 ·rw [if_neg c2] at H
  have c2b0 : decide (2147483647 < (a0.size : Int)) = false := decide_eq_false c2
  have c2b1 : decide (2147483647 < a0.size) = false := decide_eq_false (by omega)
  clear c2
  by_cases c3 : (a0.size : Int) > 20000
  ·rw [if_pos c3] at H
   have c3b0 : decide (20000 < (a0.size : Int)) = true := decide_eq_true c3
   have c3b1 : decide (20000 < a0.size) = true := decide_eq_true (by omega)
   clear c3
   obtain rfl := Option.some.inj H
   go_enter Tryd.func6, Tryd.ntmps6
   go_wp2
   go_ret
   exact ⟨by first | rfl | (simp [errW_none, errW_some] <;> rfl) | (simp [*, errW_none, errW_some] <;> rfl), by repeat (first | (with_reducible first | exact HB.out | apply below_alloc | apply pw_below_drewN | apply below_drew1) | exact HB.out)⟩
  ·rw [if_neg c3] at H
   have c3b0 : decide (20000 < (a0.size : Int)) = false := decide_eq_false c3
   have c3b1 : decide (20000 < a0.size) = false := decide_eq_false (by omega)
   clear c3
   replace H := Option.bind_eq_some_iff.mp H
   obtain ⟨⟨t115, t116⟩, A40, H⟩ := H
   have A4 := Aside0.mk A40
   clear A40
   replace H := Option.bind_eq_some_iff.mp H
   obtain ⟨⟨t119, t120⟩, A50, H⟩ := H
   have A5 := Aside0.mk A50
   clear A50
   by_cases c6 : t116 = t120
   ·rw [if_pos c6] at H
    have c6b0 : (t116 == t120) = true := beq_iff_eq.mpr c6
    have c6b1 : (t116 != t120) = false := bne_eq_false_iff_eq.mpr c6
    clear c6
    by_cases c7 : t116 = 0
    ·rw [if_pos c7] at H
     have c7b0 : (t116 == 0) = true := beq_iff_eq.mpr c7
     have c7b1 : (t116 != 0) = false := bne_eq_false_iff_eq.mpr c7
     clear c7
     replace H := Option.bind_eq_some_iff.mp H
     obtain ⟨t123, A80, H⟩ := H
     have A8 := Aside0.mk A80
     clear A80
     replace H := Option.bind_eq_some_iff.mp H
     obtain ⟨t126, A90, H⟩ := H
     have A9 := Aside0.mk A90
     clear A90
     by_cases c10 : t126 = true
     ·subst c10
      have H1 : ((laws_reads.f).bind fun t127 => (some t127)) = some r := by rw [if_pos rfl] at H; exact H
      clear H
      have H := H1
      clear H1
      replace H := Option.bind_eq_some_iff.mp H
      obtain ⟨t127, A110, H⟩ := H
      have A11 := Aside0.mk A110
      clear A110
      obtain rfl := Option.some.inj H
      go_enter Tryd.func6, Tryd.ntmps6
      go_wp2_with (first | ((with_reducible refine gate_callee (f := 16) rfl ?_); refine goesL_ (some 15) rfl rfl Tryd.func16 (by kernel_rfl) rfl #[.string a0] rfl (by (try simp only [List.map_toArray, List.map_cons, List.map_nil]); first | done | rfl | (simp only [List.length_drop, List.length_take]; rfl)) ?_; (with_reducible refine (impl_UnitReadSections.calls a0 t115 t116 _ A4.out).mono ?_); rintro e w12 ⟨v117, rfl, ho0, hb⟩; refine ⟨_, rfl, ?_⟩; have n0_ := Aside0.mk (Kd.R_lower ho0 (below_size belH)); have n1_ := Aside0.mk (below_step belH hb); clear HB; have HO118 := n0_; have HB := n1_; clear n0_ n1_; (try clear hb); (try clear hb2); (try clear hk); (try clear hi); (try clear ho0)) | ((with_reducible refine gate_callee (f := 11) rfl ?_); refine goesL_ (some 20) rfl rfl Tryd.func11 (by kernel_rfl) rfl #[.string a0] rfl (by (try simp only [List.map_toArray, List.map_cons, List.map_nil]); first | done | rfl | (simp only [List.length_drop, List.length_take]; rfl)) ?_; (with_reducible refine (impl_UnitRead.calls a0 t119 t120 _ A5.out).mono ?_); rintro e w13 ⟨v121, rfl, ho0, hb⟩; refine ⟨_, rfl, ?_⟩; have n0_ := Aside0.mk (Kd.R_below (by (with_reducible repeat (first | apply Kd.R_alloc | apply Kd.R_drewN | apply Kd.R_drew)); exact HO118.out) hb); have n1_ := Aside0.mk (Kd.R_lower ho0 (below_size belH)); have n2_ := Aside0.mk (below_step belH hb); clear HO118; clear HB; have HO118 := n0_; have HO122 := n1_; have HB := n2_; clear n0_ n1_ n2_; (try clear hb); (try clear hb2); (try clear hk); (try clear hi); (try clear ho0); obtain ⟨Ao14, co14, eo14⟩ := Kd.R_slice HO118.out; subst eo14) | (go_at_call 17; (with_reducible refine (laws_flat.calls k _ _ t115 t123 _ ?side1 ?side2 A8.out).mono ?_); (case side1 => repeat (first | exact (Kd.R_reads' HO118.out).2.2 | (with_reducible refine Kd.C_alloc ?_ _) | (with_reducible refine Kd.C_drewN ?_ _) | (with_reducible refine Kd.C_drew ?_))); (case side2 => exact (Kd.R_reads' HO118.out).2.1); rintro e w15 ⟨v124, rfl, ho0, hb⟩; have n0_ := Aside0.mk (Kd.R_below (by (with_reducible repeat (first | apply Kd.R_alloc | apply Kd.R_drewN | apply Kd.R_drew)); exact HO118.out) hb); have n1_ := Aside0.mk (Kd.R_elder' (by (with_reducible repeat (first | apply Kd.R_alloc | apply Kd.R_drewN | apply Kd.R_drew)); exact HO122.out) (Kd.R_base ho0) hb); have n2_ := Aside0.mk (Kd.R_lower (Kd.R_new' ho0 (Kd.R_lt (by (with_reducible repeat (first | apply Kd.R_alloc | apply Kd.R_drewN | apply Kd.R_drew)); exact HO122.out))) (below_size belH)); have n3_ := Aside0.mk (below_step belH hb); clear HO118; clear HO122; clear HB; have HO118 := n0_; have HO122 := n1_; have HO125 := n2_; have HB := n3_; clear n0_ n1_ n2_ n3_; (try clear hb); (try clear hb2); (try clear hk); (try clear hi); (try clear ho0); obtain ⟨Ao16, co16, eo16⟩ := Kd.R_slice HO125.out; subst eo16; obtain ⟨Ao17, co17, eo17⟩ := Kd.R_slice HO122.out; subst eo17) | (go_at_call 13; (with_reducible refine (laws_sameOptions.calls k _ _ t123 _ _ t119 true _ ?side1 ?side2 ?side3 ?side4 A9.out).mono ?_); (case side1 => repeat (first | exact (Kd.R_reads' HO125.out).2.2 | (with_reducible refine Kd.C_alloc ?_ _) | (with_reducible refine Kd.C_drewN ?_ _) | (with_reducible refine Kd.C_drew ?_))); (case side2 => exact (Kd.R_reads' HO125.out).2.1); (case side3 => repeat (first | exact (Kd.R_reads' HO122.out).2.2 | (with_reducible refine Kd.C_alloc ?_ _) | (with_reducible refine Kd.C_drewN ?_ _) | (with_reducible refine Kd.C_drew ?_))); (case side4 => exact (Kd.R_reads' HO122.out).2.1); rintro e w' ⟨rfl, ⟨nd, rfl⟩⟩) | (go_at_call 12; (with_reducible refine (laws_reads.calls  t127 _ A11.out).mono ?_); rintro e w18 ⟨rfl, hb⟩; have n0_ := Aside0.mk (Kd.R_below (by (with_reducible repeat (first | apply Kd.R_alloc | apply Kd.R_drewN | apply Kd.R_drew)); exact HO118.out) hb); have n1_ := Aside0.mk (Kd.R_below (by (with_reducible repeat (first | apply Kd.R_alloc | apply Kd.R_drewN | apply Kd.R_drew)); exact HO122.out) hb); have n2_ := Aside0.mk (Kd.R_below (by (with_reducible repeat (first | apply Kd.R_alloc | apply Kd.R_drewN | apply Kd.R_drew)); exact HO125.out) hb); have n3_ := Aside0.mk (below_step belH hb); clear HO118; clear HO122; clear HO125; clear HB; have HO118 := n0_; have HO122 := n1_; have HO125 := n2_; have HB := n3_; clear n0_ n1_ n2_ n3_; (try clear hb); (try clear hb2); (try clear hk); (try clear hi)))
      go_ret
      exact ⟨by first | rfl | (simp [errW_none, errW_some] <;> rfl) | (simp [*, errW_none, errW_some] <;> rfl), by repeat (first | (with_reducible first | exact HB.out | apply below_alloc | apply pw_below_drewN | apply below_drew1) | exact HB.out)⟩
     ·replace c10 := Bool.eq_false_iff.mpr c10
      subst c10
      have H1 : (some false) = some r := by rw [if_neg (show ¬ (false = true) by decide)] at H; exact H
      clear H
      have H := H1
      clear H1
      obtain rfl := Option.some.inj H
      go_enter Tryd.func6, Tryd.ntmps6
      go_wp2_with (first | ((with_reducible refine gate_callee (f := 16) rfl ?_); refine goesL_ (some 15) rfl rfl Tryd.func16 (by kernel_rfl) rfl #[.string a0] rfl (by (try simp only [List.map_toArray, List.map_cons, List.map_nil]); first | done | rfl | (simp only [List.length_drop, List.length_take]; rfl)) ?_; (with_reducible refine (impl_UnitReadSections.calls a0 t115 t116 _ A4.out).mono ?_); rintro e w19 ⟨v117, rfl, ho0, hb⟩; refine ⟨_, rfl, ?_⟩; have n0_ := Aside0.mk (Kd.R_lower ho0 (below_size belH)); have n1_ := Aside0.mk (below_step belH hb); clear HB; have HO118 := n0_; have HB := n1_; clear n0_ n1_; (try clear hb); (try clear hb2); (try clear hk); (try clear hi); (try clear ho0)) | ((with_reducible refine gate_callee (f := 11) rfl ?_); refine goesL_ (some 20) rfl rfl Tryd.func11 (by kernel_rfl) rfl #[.string a0] rfl (by (try simp only [List.map_toArray, List.map_cons, List.map_nil]); first | done | rfl | (simp only [List.length_drop, List.length_take]; rfl)) ?_; (with_reducible refine (impl_UnitRead.calls a0 t119 t120 _ A5.out).mono ?_); rintro e w20 ⟨v121, rfl, ho0, hb⟩; refine ⟨_, rfl, ?_⟩; have n0_ := Aside0.mk (Kd.R_below (by (with_reducible repeat (first | apply Kd.R_alloc | apply Kd.R_drewN | apply Kd.R_drew)); exact HO118.out) hb); have n1_ := Aside0.mk (Kd.R_lower ho0 (below_size belH)); have n2_ := Aside0.mk (below_step belH hb); clear HO118; clear HB; have HO118 := n0_; have HO122 := n1_; have HB := n2_; clear n0_ n1_ n2_; (try clear hb); (try clear hb2); (try clear hk); (try clear hi); (try clear ho0); obtain ⟨Ao21, co21, eo21⟩ := Kd.R_slice HO118.out; subst eo21) | (go_at_call 17; (with_reducible refine (laws_flat.calls k _ _ t115 t123 _ ?side1 ?side2 A8.out).mono ?_); (case side1 => repeat (first | exact (Kd.R_reads' HO118.out).2.2 | (with_reducible refine Kd.C_alloc ?_ _) | (with_reducible refine Kd.C_drewN ?_ _) | (with_reducible refine Kd.C_drew ?_))); (case side2 => exact (Kd.R_reads' HO118.out).2.1); rintro e w22 ⟨v124, rfl, ho0, hb⟩; have n0_ := Aside0.mk (Kd.R_below (by (with_reducible repeat (first | apply Kd.R_alloc | apply Kd.R_drewN | apply Kd.R_drew)); exact HO118.out) hb); have n1_ := Aside0.mk (Kd.R_elder' (by (with_reducible repeat (first | apply Kd.R_alloc | apply Kd.R_drewN | apply Kd.R_drew)); exact HO122.out) (Kd.R_base ho0) hb); have n2_ := Aside0.mk (Kd.R_lower (Kd.R_new' ho0 (Kd.R_lt (by (with_reducible repeat (first | apply Kd.R_alloc | apply Kd.R_drewN | apply Kd.R_drew)); exact HO122.out))) (below_size belH)); have n3_ := Aside0.mk (below_step belH hb); clear HO118; clear HO122; clear HB; have HO118 := n0_; have HO122 := n1_; have HO125 := n2_; have HB := n3_; clear n0_ n1_ n2_ n3_; (try clear hb); (try clear hb2); (try clear hk); (try clear hi); (try clear ho0); obtain ⟨Ao23, co23, eo23⟩ := Kd.R_slice HO125.out; subst eo23; obtain ⟨Ao24, co24, eo24⟩ := Kd.R_slice HO122.out; subst eo24) | (go_at_call 13; (with_reducible refine (laws_sameOptions.calls k _ _ t123 _ _ t119 false _ ?side1 ?side2 ?side3 ?side4 A9.out).mono ?_); (case side1 => repeat (first | exact (Kd.R_reads' HO125.out).2.2 | (with_reducible refine Kd.C_alloc ?_ _) | (with_reducible refine Kd.C_drewN ?_ _) | (with_reducible refine Kd.C_drew ?_))); (case side2 => exact (Kd.R_reads' HO125.out).2.1); (case side3 => repeat (first | exact (Kd.R_reads' HO122.out).2.2 | (with_reducible refine Kd.C_alloc ?_ _) | (with_reducible refine Kd.C_drewN ?_ _) | (with_reducible refine Kd.C_drew ?_))); (case side4 => exact (Kd.R_reads' HO122.out).2.1); rintro e w' ⟨rfl, ⟨nd, rfl⟩⟩))
      go_ret
      exact ⟨by first | rfl | (simp [errW_none, errW_some] <;> rfl) | (simp [*, errW_none, errW_some] <;> rfl), by repeat (first | (with_reducible first | exact HB.out | apply below_alloc | apply pw_below_drewN | apply below_drew1) | exact HB.out)⟩
    ·rw [if_neg c7] at H
     have c7b0 : (t116 == 0) = false := beq_eq_false_iff_ne.mpr c7
     have c7b1 : (t116 != 0) = true := bne_iff_ne.mpr c7
     replace H := Option.bind_eq_some_iff.mp H
     obtain ⟨t128, A250, H⟩ := H
     have A25 := Aside0.mk A250
     clear A250
     obtain rfl := Option.some.inj H
     go_enter Tryd.func6, Tryd.ntmps6
     go_wp2_with (first | ((with_reducible refine gate_callee (f := 16) rfl ?_); refine goesL_ (some 15) rfl rfl Tryd.func16 (by kernel_rfl) rfl #[.string a0] rfl (by (try simp only [List.map_toArray, List.map_cons, List.map_nil]); first | done | rfl | (simp only [List.length_drop, List.length_take]; rfl)) ?_; (with_reducible refine (impl_UnitReadSections.calls a0 t115 t116 _ A4.out).mono ?_); rintro e w26 ⟨v117, rfl, ho0, hb⟩; refine ⟨_, rfl, ?_⟩; have n0_ := Aside0.mk (Kd.R_lower ho0 (below_size belH)); have n1_ := Aside0.mk (below_step belH hb); clear HB; have HO118 := n0_; have HB := n1_; clear n0_ n1_; (try clear hb); (try clear hb2); (try clear hk); (try clear hi); (try clear ho0)) | ((with_reducible refine gate_callee (f := 11) rfl ?_); refine goesL_ (some 20) rfl rfl Tryd.func11 (by kernel_rfl) rfl #[.string a0] rfl (by (try simp only [List.map_toArray, List.map_cons, List.map_nil]); first | done | rfl | (simp only [List.length_drop, List.length_take]; rfl)) ?_; (with_reducible refine (impl_UnitRead.calls a0 t119 t120 _ A5.out).mono ?_); rintro e w27 ⟨v121, rfl, ho0, hb⟩; refine ⟨_, rfl, ?_⟩; have n0_ := Aside0.mk (Kd.R_below (by (with_reducible repeat (first | apply Kd.R_alloc | apply Kd.R_drewN | apply Kd.R_drew)); exact HO118.out) hb); have n1_ := Aside0.mk (Kd.R_lower ho0 (below_size belH)); have n2_ := Aside0.mk (below_step belH hb); clear HO118; clear HB; have HO118 := n0_; have HO122 := n1_; have HB := n2_; clear n0_ n1_ n2_; (try clear hb); (try clear hb2); (try clear hk); (try clear hi); (try clear ho0)) | (go_at_call 12; (with_reducible refine (laws_reads.calls  t128 _ A25.out).mono ?_); rintro e w28 ⟨rfl, hb⟩; have n0_ := Aside0.mk (Kd.R_below (by (with_reducible repeat (first | apply Kd.R_alloc | apply Kd.R_drewN | apply Kd.R_drew)); exact HO118.out) hb); have n1_ := Aside0.mk (Kd.R_below (by (with_reducible repeat (first | apply Kd.R_alloc | apply Kd.R_drewN | apply Kd.R_drew)); exact HO122.out) hb); have n2_ := Aside0.mk (below_step belH hb); clear HO118; clear HO122; clear HB; have HO118 := n0_; have HO122 := n1_; have HB := n2_; clear n0_ n1_ n2_; (try clear hb); (try clear hb2); (try clear hk); (try clear hi)))
     go_ret
     exact ⟨by first | rfl | (simp [errW_none, errW_some] <;> rfl) | (simp [*, errW_none, errW_some] <;> rfl), by repeat (first | (with_reducible first | exact HB.out | apply below_alloc | apply pw_below_drewN | apply below_drew1) | exact HB.out)⟩
   ·rw [if_neg c6] at H
    have c6b0 : (t116 == t120) = false := beq_eq_false_iff_ne.mpr c6
    have c6b1 : (t116 != t120) = true := bne_iff_ne.mpr c6
    obtain rfl := Option.some.inj H
    go_enter Tryd.func6, Tryd.ntmps6
    go_wp2_with (first | ((with_reducible refine gate_callee (f := 16) rfl ?_); refine goesL_ (some 15) rfl rfl Tryd.func16 (by kernel_rfl) rfl #[.string a0] rfl (by (try simp only [List.map_toArray, List.map_cons, List.map_nil]); first | done | rfl | (simp only [List.length_drop, List.length_take]; rfl)) ?_; (with_reducible refine (impl_UnitReadSections.calls a0 t115 t116 _ A4.out).mono ?_); rintro e w29 ⟨v117, rfl, ho0, hb⟩; refine ⟨_, rfl, ?_⟩; have n0_ := Aside0.mk (Kd.R_lower ho0 (below_size belH)); have n1_ := Aside0.mk (below_step belH hb); clear HB; have HO118 := n0_; have HB := n1_; clear n0_ n1_; (try clear hb); (try clear hb2); (try clear hk); (try clear hi); (try clear ho0)) | ((with_reducible refine gate_callee (f := 11) rfl ?_); refine goesL_ (some 20) rfl rfl Tryd.func11 (by kernel_rfl) rfl #[.string a0] rfl (by (try simp only [List.map_toArray, List.map_cons, List.map_nil]); first | done | rfl | (simp only [List.length_drop, List.length_take]; rfl)) ?_; (with_reducible refine (impl_UnitRead.calls a0 t119 t120 _ A5.out).mono ?_); rintro e w30 ⟨v121, rfl, ho0, hb⟩; refine ⟨_, rfl, ?_⟩; have n0_ := Aside0.mk (Kd.R_below (by (with_reducible repeat (first | apply Kd.R_alloc | apply Kd.R_drewN | apply Kd.R_drew)); exact HO118.out) hb); have n1_ := Aside0.mk (Kd.R_lower ho0 (below_size belH)); have n2_ := Aside0.mk (below_step belH hb); clear HO118; clear HB; have HO118 := n0_; have HO122 := n1_; have HB := n2_; clear n0_ n1_ n2_; (try clear hb); (try clear hb2); (try clear hk); (try clear hi); (try clear ho0)))
    go_ret
    exact ⟨by first | rfl | (simp [errW_none, errW_some] <;> rfl) | (simp [*, errW_none, errW_some] <;> rfl), by repeat (first | (with_reducible first | exact HB.out | apply below_alloc | apply pw_below_drewN | apply below_drew1) | exact HB.out)⟩

/-- THE ONE PURE STATEMENT of laws_FnUnitRoads: yours. -/
def laws_FnUnitRoads.Pure : Prop := ∀ (a0 : ByteArray), a0.size ≤ 140737488351232 → ∃ k, laws_FnUnitRoads.f k a0 = some true
theorem laws_FnUnitRoads.walk (P : laws_FnUnitRoads.Pure) (a0 : ByteArray) (w : World) (w0 : a0.size ≤ 140737488351232) (hTabs : Tabs w := by first | exact hTabs | exact Tabs.below hTabs (by repeat (first | (with_reducible first | exact HB.out | apply below_alloc | apply pw_below_drewN | apply below_drew1 | refine below_set ?_ (Aside0.out (by assumption))) | exact HB.out))) :
  Calls Tryd.prog 6 #[.string a0] w fun e w' => e = .returned (.bool true) ∧ Below w.heap.size w w' := by
 obtain ⟨k, h⟩ := P a0 w0
 refine (laws_FnUnitRoads.calls k a0 true w h).mono ?_
 rintro e w' ⟨rfl, hd⟩
 exact ⟨rfl, hd⟩

end Go.Proofs.YtlmmgienbmghmaaDoor.X
