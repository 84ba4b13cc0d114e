-- written by a program of this session (wip/tools/pp.py)
import Derived.Test.YtdmpbaanonafbaaGreatDoorC0
import Derived.Test.YtdmpbaanonafbaaGreatDoorC1
import Derived.Test.YtdmpbaanonafbaaGreatDoorC2
namespace Go.Proofs.YtdmpbaanonafbaaGreatDoor.C
open Go.RowKit Go.Proofs.YtdmpbaanonafbaaGreatDoorW.PrintWords Go.Proofs.YtdmpbaanonafbaaGreatDoorW.PrintLast Go.Proofs.YtdmpbaanonafbaaGreatDoor.Flt Go.Proofs.YtdmpbaanonafbaaGreatDoor.GivZ Go.Proofs.YtdmpbaanonafbaaGreatDoor.E Go.Proofs.YtdmpbaanonafbaaGreatDoor.L Go.Proofs.YtdmpbaanonafbaaGreatDoor.V Go.Proofs.YtdmpbaanonafbaaGreatDoor.DoorCg Go.Proofs.YtdmpbaanonafbaaGreatDoor.Lives Go.Proofs.YtdmpbaanonafbaaGreatDoorW.PrintMore
attribute [local go_sem] max2_int min2_int max_two min_two max_three min_three max_four min_four   -- for this text's walks alone
set_option linter.unusedVariables false
set_option linter.unusedSimpArgs false

/-! ### laws_normal__CgroupSummary: function 11 -/
mutual
def laws_normal__CgroupSummary.j0 : Nat → ByteArray → List (S48) → Bool → Option (Bool)
 | 0, _, _, _ => none
 | k + 1, x0, x9, x32 => if x32 = true then ((laws_lives.f).bind fun t151 => (some t151)) else ((spec_CgroupSummaryPrint.f k x9).bind fun bt152 => (if bt152.2 = 1 then (laws_normal__CgroupSummary.j1 k x0 bt152.1 (decide ((bt152.1.size : Int) > 40000))) else (laws_normal__CgroupSummary.j1 k x0 bt152.1 true)))
def laws_normal__CgroupSummary.j1 : Nat → ByteArray → ByteArray → Bool → Option (Bool)
 | 0, _, _, _ => none
 | k + 1, x0, x12, x46 => if x46 = true then ((laws_lives.f).bind fun t154 => (some t154)) else ((impl_CgroupSummary.f x0).bind fun bt155 => ((impl_CgroupSummary.f x12).bind fun bt167 => (if bt155.2.2.2.2.2.2.2.2 = 0 then (if bt167.2.2.2.2.2.2.2.2 = 0 then ((laws_toNode.f k bt155.1 bt155.2.1 bt155.2.2.1 bt155.2.2.2.1 bt155.2.2.2.2.1 bt155.2.2.2.2.2.1 bt155.2.2.2.2.2.2.1 bt155.2.2.2.2.2.2.2.1).bind fun bt179 => ((laws_toNode.f k bt167.1 bt167.2.1 bt167.2.2.1 bt167.2.2.2.1 bt167.2.2.2.2.1 bt167.2.2.2.2.2.1 bt167.2.2.2.2.2.2.1 bt167.2.2.2.2.2.2.2.1).bind fun bt189 => ((spec_SameNode.f k bt179.1 bt179.2.1 bt179.2.2.1 bt179.2.2.2.1 bt179.2.2.2.2.1 bt179.2.2.2.2.2.1 bt179.2.2.2.2.2.2.1 bt179.2.2.2.2.2.2.2 bt189.1 bt189.2.1 bt189.2.2.1 bt189.2.2.2.1 bt189.2.2.2.2.1 bt189.2.2.2.2.2.1 bt189.2.2.2.2.2.2.1 bt189.2.2.2.2.2.2.2).bind fun t199 => (if t199 = true then ((laws_lives.f).bind fun t200 => (some t200)) else (some false))))) else (some false)) else (some false))))
end
def laws_normal__CgroupSummary.f (k : Nat) (a0 : ByteArray)    : Option (Bool) := if (a0.size : Int) > 40000 then (some true) else ((spec_CgroupSummaryRead.f k a0).bind fun bt146 => (if bt146.2.2 = 1 then (laws_normal__CgroupSummary.j0 k a0 bt146.1 (!bt146.2.1)) else (laws_normal__CgroupSummary.j0 k a0 bt146.1 true)))
theorem laws_normal__CgroupSummary.mono_l : ∀ k, (∀ y0 y1 y2, LeO (laws_normal__CgroupSummary.j0 k y0 y1 y2) (laws_normal__CgroupSummary.j0 (k + 1) y0 y1 y2)) ∧ (∀ y0 y1 y2, LeO (laws_normal__CgroupSummary.j1 k y0 y1 y2) (laws_normal__CgroupSummary.j1 (k + 1) y0 y1 y2))
 | 0 => ⟨fun _ _ _ r h => by simp [laws_normal__CgroupSummary.j0] at h, fun _ _ _ r h => by simp [laws_normal__CgroupSummary.j1] at h⟩
 | k + 1 => by
  obtain ⟨ih0, ih1⟩ := laws_normal__CgroupSummary.mono_l k
  refine ⟨?_, ?_⟩
  ·intro y0 y1 y2
   unfold laws_normal__CgroupSummary.j0
   repeat' first
   | (with_reducible exact ih0 _ _ _)
   | (with_reducible exact ih1 _ _ _)
   | (with_reducible exact laws_toNode.mono _ _ _ _ _ _ _ _ _)
   | (with_reducible exact spec_CgroupSummaryPrint.mono _ _)
   | (with_reducible exact spec_CgroupSummaryRead.mono _ _)
   | (with_reducible exact spec_SameNode.mono _ _ _ _ _ _ _ _ _ _ _ _ _ _ _ _ _)
   | (with_reducible exact LeO.refl _)
   | (with_reducible exact LeO.none _)
   | (with_reducible refine LeO.ite ?_ ?_)
   | (with_reducible refine LeO.bind ?_ (fun _ => ?_))
   | exact ih0 _ _ _
   | exact ih1 _ _ _
   | exact laws_toNode.mono _ _ _ _ _ _ _ _ _
   | exact spec_CgroupSummaryPrint.mono _ _
   | exact spec_CgroupSummaryRead.mono _ _
   | exact spec_SameNode.mono _ _ _ _ _ _ _ _ _ _ _ _ _ _ _ _ _
   | exact LeO.none _
   | refine LeO.ite ?_ ?_
   | refine LeO.bind ?_ (fun _ => ?_)
  ·intro y0 y1 y2
   unfold laws_normal__CgroupSummary.j1
   repeat' first
   | (with_reducible exact ih0 _ _ _)
   | (with_reducible exact ih1 _ _ _)
   | (with_reducible exact laws_toNode.mono _ _ _ _ _ _ _ _ _)
   | (with_reducible exact spec_CgroupSummaryPrint.mono _ _)
   | (with_reducible exact spec_CgroupSummaryRead.mono _ _)
   | (with_reducible exact spec_SameNode.mono _ _ _ _ _ _ _ _ _ _ _ _ _ _ _ _ _)
   | (with_reducible exact LeO.refl _)
   | (with_reducible exact LeO.none _)
   | (with_reducible refine LeO.ite ?_ ?_)
   | (with_reducible refine LeO.bind ?_ (fun _ => ?_))
   | exact ih0 _ _ _
   | exact ih1 _ _ _
   | exact laws_toNode.mono _ _ _ _ _ _ _ _ _
   | exact spec_CgroupSummaryPrint.mono _ _
   | exact spec_CgroupSummaryRead.mono _ _
   | exact spec_SameNode.mono _ _ _ _ _ _ _ _ _ _ _ _ _ _ _ _ _
   | exact LeO.none _
   | refine LeO.ite ?_ ?_
   | refine LeO.bind ?_ (fun _ => ?_)
theorem laws_normal__CgroupSummary.mono : ∀ a0 k, LeO (laws_normal__CgroupSummary.f k a0) (laws_normal__CgroupSummary.f (k + 1) a0) := by
 intro a0 k
 obtain ⟨ih0, ih1⟩ := laws_normal__CgroupSummary.mono_l k
 unfold laws_normal__CgroupSummary.f
 repeat' first
   | (with_reducible exact ih0 _ _ _)
   | (with_reducible exact ih1 _ _ _)
   | (with_reducible exact laws_toNode.mono _ _ _ _ _ _ _ _ _)
   | (with_reducible exact spec_CgroupSummaryPrint.mono _ _)
   | (with_reducible exact spec_CgroupSummaryRead.mono _ _)
   | (with_reducible exact spec_SameNode.mono _ _ _ _ _ _ _ _ _ _ _ _ _ _ _ _ _)
   | (with_reducible exact LeO.refl _)
   | (with_reducible exact LeO.none _)
   | (with_reducible refine LeO.ite ?_ ?_)
   | (with_reducible refine LeO.bind ?_ (fun _ => ?_))
   | exact ih0 _ _ _
   | exact ih1 _ _ _
   | exact laws_toNode.mono _ _ _ _ _ _ _ _ _
   | exact spec_CgroupSummaryPrint.mono _ _
   | exact spec_CgroupSummaryRead.mono _ _
   | exact spec_SameNode.mono _ _ _ _ _ _ _ _ _ _ _ _ _ _ _ _ _
   | exact LeO.none _
   | refine LeO.ite ?_ ?_
   | refine LeO.bind ?_ (fun _ => ?_)
def laws_normal__CgroupSummary.T11 : Bool × List (List Nat × List Nat) := (true, [([], []), ([0], [0]), ([1], [1]), ([2], [2]), ([3, 2], [2, 3]), ([2, 4], [2, 4]), ([5, 2], [5]), ([6], [6]), ([7, 6, 6], [6, 7]), ([6], [6]), ([9, 8, 6], [6, 9]), ([8, 10, 10, 6], [6, 8, 10]), ([6, 11], [6, 11]), ([12, 11], [12]), ([13, 13], [13]), ([13, 14], [13, 14]), ([15, 14, 0, 1, 2, 3, 4, 5, 6, 7, 8, 9, 10, 11, 12, 13, 14, 15], [15])])
def laws_normal__CgroupSummary.B11 : List Nat := [0, 1, 3, 7, 15, 31, 63, 127, 255, 127, 1023, 2047, 4095, 8191, 16383, 32767, 65535]
theorem laws_normal__CgroupSummary.tab11 : rtab .any (opsOf Tryz.f11 11) = laws_normal__CgroupSummary.T11 := by kernel_rfl
theorem laws_normal__CgroupSummary.bits11 : waitsOk laws_normal__CgroupSummary.T11.2 laws_normal__CgroupSummary.B11 = true := by kernel_rfl
set_option maxHeartbeats 8000000 in
set_option maxRecDepth 100000 in
theorem laws_normal__CgroupSummary.calls (k : Nat) (a0 : ByteArray)    (r : Bool) (w : World) (h : laws_normal__CgroupSummary.f k a0 = some r) (hTabs : Tabs w := by first | exact hTabs | exact Tabs.below hTabs (by repeat (first | (with_reducible first | exact HB.out | apply below_alloc | apply pw_below_drewN | apply below_drew1 | refine below_set ?_ (Aside0.out (by assumption))) | exact HB.out))) :
  Calls Tryz.prog 11 #[.string a0, .func (.func 33) #[] #[], .func (.func 34) #[] #[], .func (.func 35) #[] #[]] w fun e w' => e = .returned (.bool r) ∧ Below w.heap.size w w' := by
 have hu35 := Tryz.underlying35
 have HB := Aside0.mk (Below.refl w.heap.size w)
 have H : (if (a0.size : Int) > 40000 then (some true) else ((spec_CgroupSummaryRead.f k a0).bind fun bt146 => (if bt146.2.2 = 1 then (laws_normal__CgroupSummary.j0 k a0 bt146.1 (!bt146.2.1)) else (laws_normal__CgroupSummary.j0 k a0 bt146.1 true)))) = some r := h
 clear h
 by_cases c5 : (a0.size : Int) > 40000
 ·rw [if_pos c5] at H
  have c5b0 : decide (40000 < (a0.size : Int)) = true := decide_eq_true c5
  have c5b1 : decide (40000 < a0.size) = true := decide_eq_true (by omega)
  clear c5
  obtain rfl := Option.some.inj H
  go_enter Tryz.func11, Tryz.ntmps11
  go_wp2
  go_ret
  exact ⟨by first | rfl | (simp [errW_none, errW_some] <;> rfl) | (simp [*, errW_none, errW_some] <;> rfl), by repeat (first | (with_reducible first | exact HB.out | apply below_alloc | apply pw_below_drewN | apply below_drew1) | exact HB.out)⟩
 ·rw [if_neg c5] at H
  have c5b0 : decide (40000 < (a0.size : Int)) = false := decide_eq_false c5
  have c5b1 : decide (40000 < a0.size) = false := decide_eq_false (by omega)
  clear c5
  replace H := Option.bind_eq_some_iff.mp H
  obtain ⟨⟨t146, t149, t150⟩, A60, H⟩ := H
  replace H : (if t150 = 1 then (laws_normal__CgroupSummary.j0 k a0 t146 (!t149)) else (laws_normal__CgroupSummary.j0 k a0 t146 true)) = some r := H
  have A6 := Aside0.mk A60
  clear A60
  have HC7 := Aside0.mk H
  clear H
  go_enter Tryz.func11, Tryz.ntmps11
  go_upto_region 4 with (first | (go_at_call 33; (with_reducible refine (spec_CgroupSummaryRead.calls k a0 t146 t149 t150 _ A6.out).mono ?_); rintro e w8 ⟨v147, rfl, ho0, hb⟩; have n0_ := Aside0.mk (Kd.V_lower (Kd.V_mono (ok' := fun k_ => True) ho0 (fun k_ hk_ => trivial)) (below_size belH)); have n1_ := Aside0.mk (below_step belH hb); clear HB; have HO148 := n0_; have HB := n1_; clear n0_ n1_; (try clear hb); (try clear hb2); (try clear hk); (try clear hi); (try clear ho0)))
  (try simp only [Act.put, List.setIfInBounds_toArray, List.set_cons_zero, List.set_cons_succ])
  go_cut [32] (fun v32 wc => ∃ (kq : Nat) (x32_6 : Bool), v32 = .bool x32_6 ∧ Aside0 (laws_normal__CgroupSummary.j0 kq a0 t146 x32_6 = some r) ∧ Aside0 (kq ≤ k) ∧ Aside0 (Kd.V k48 48 wc w.heap.size (fun _ => True) v147 t146) ∧ Aside0 (Below w.heap.size w wc))
  case first =>
   have H := HC7.out
   clear HC7
   by_cases c9 : t150 = 1
   ·rw [if_pos c9] at H
    have c9b0 : (t150 == 1) = true := beq_iff_eq.mpr c9
    have c9b1 : (t150 != 1) = false := bne_eq_false_iff_eq.mpr c9
    clear c9
    (first | rw [c9b0] | (simp only [i64_w, i32_w]; rw [c9b0]) | skip)
    have H' := Aside0.mk H
    clear H
    go_wp2
    go_meet
    case rel => exact ⟨_, (!t149), (by first | rfl | (simp; done) | (simp [*]; done) | (simp [bne_nil]; done) | (simp [bne_nil, *]; done)), H', ⟨by first | omega | exact Nat.le_refl _⟩, ⟨by (with_reducible repeat (first | apply Kd.V_alloc | apply Kd.V_drewN | apply Kd.V_drew)); exact HO148.out⟩, ⟨by repeat (first | (with_reducible first | exact HB.out | apply below_alloc | apply pw_below_drewN | apply below_drew1) | exact HB.out)⟩⟩
   ·rw [if_neg c9] at H
    have c9b0 : (t150 == 1) = false := beq_eq_false_iff_ne.mpr c9
    have c9b1 : (t150 != 1) = true := bne_iff_ne.mpr c9
    (first | rw [c9b0] | (simp only [i64_w, i32_w]; rw [c9b0]) | skip)
    have H' := Aside0.mk H
    clear H
    go_wp2
    go_meet
    case rel => exact ⟨_, (true), (by first | rfl | (simp; done) | (simp [*]; done) | (simp [bne_nil]; done) | (simp [bne_nil, *]; done)), H', ⟨by first | omega | exact Nat.le_refl _⟩, ⟨by (with_reducible repeat (first | apply Kd.V_alloc | apply Kd.V_drewN | apply Kd.V_drew)); exact HO148.out⟩, ⟨by repeat (first | (with_reducible first | exact HB.out | apply below_alloc | apply pw_below_drewN | apply below_drew1) | exact HB.out)⟩⟩
  case rest =>
   clear HC7
   try clear p2
   try clear c5
   try clear c5b0
   try clear c5b1
   try clear c9
   try clear c9b0
   try clear c9b1
   obtain ⟨kq, x32_6, rfl, HA, HJ6, HO_9, HB⟩ := hcut
   cases kq with
   | zero => exact absurd HA.out (by simp [laws_normal__CgroupSummary.j0])
   | succ kj6 =>
    have H := HA.out
    clear HA
    simp only [laws_normal__CgroupSummary.j0] at H
    by_cases c10 : x32_6 = true
    ·subst c10
     have H1 : ((laws_lives.f).bind fun t151 => (some t151)) = some r := by rw [if_pos rfl] at H; exact H
     clear H
     have H := H1
     clear H1
     replace H := Option.bind_eq_some_iff.mp H
     obtain ⟨t151, A110, H⟩ := H
     replace H : (some t151) = some r := H
     have A11 := Aside0.mk A110
     clear A110
     obtain rfl := Option.some.inj H
     go_wp2_with (first | ((with_reducible refine gate_callee (f := 36) rfl ?_); refine goesL_ (some 33) rfl rfl Tryz.func36 (by kernel_rfl) rfl #[] rfl (by (try simp only [List.map_toArray, List.map_cons, List.map_nil]); first | done | rfl | (simp only [List.length_drop, List.length_take]; rfl)) ?_; (with_reducible refine (laws_lives.calls  t151 _ A11.out).mono ?_); rintro e w12 ⟨rfl, hb⟩; refine ⟨_, rfl, ?_⟩; have n0_ := Aside0.mk (Kd.V_below (by (with_reducible repeat (first | apply Kd.V_alloc | apply Kd.V_drewN | apply Kd.V_drew)); exact HO_9.out) hb); have n1_ := Aside0.mk (below_step belH hb); clear HO_9; clear HB; have HO_9 := n0_; have HB := n1_; clear n0_ n1_; (try clear hb); (try clear hb2); (try clear hk); (try clear hi)))
     go_ret
     exact ⟨by first | rfl | (simp [errW_none, errW_some] <;> rfl) | (simp [*, errW_none, errW_some] <;> rfl), by repeat (first | (with_reducible first | exact HB.out | apply below_alloc | apply pw_below_drewN | apply below_drew1) | exact HB.out)⟩
    ·replace c10 := Bool.eq_false_iff.mpr c10
     subst c10
     have H1 : ((spec_CgroupSummaryPrint.f kj6 t146).bind fun bt152 => (if bt152.2 = 1 then (laws_normal__CgroupSummary.j1 kj6 a0 bt152.1 (decide ((bt152.1.size : Int) > 40000))) else (laws_normal__CgroupSummary.j1 kj6 a0 bt152.1 true))) = some r := by rw [if_neg (show ¬ (false = true) by decide)] at H; exact H
     clear H
     have H := H1
     clear H1
     replace H := Option.bind_eq_some_iff.mp H
     obtain ⟨⟨t152, t153⟩, A130, H⟩ := H
     replace H : (if t153 = 1 then (laws_normal__CgroupSummary.j1 kj6 a0 t152 (decide ((t152.size : Int) > 40000))) else (laws_normal__CgroupSummary.j1 kj6 a0 t152 true)) = some r := H
     have A13 := Aside0.mk A130
     clear A130
     have HC14 := Aside0.mk H
     clear H
     obtain ⟨Ao15, co15, eo15⟩ := Kd.V_slice HO_9.out
     subst eo15
     go_upto_region 7 with (first | (go_at_call 34; (with_reducible refine (spec_CgroupSummaryPrint.calls kj6 _ _ t146 t152 t153 _ ?side1 ?side2 A13.out).mono ?_); (case side1 => repeat (first | exact (Kd.V_reads' HO_9.out).2.2 | (with_reducible refine Kd.C_alloc ?_ _) | (with_reducible refine Kd.C_drewN ?_ _) | (with_reducible refine Kd.C_drew ?_))); (case side2 => exact (Kd.V_reads' HO_9.out).2.1); rintro e w16 ⟨rfl, hb⟩; have n0_ := Aside0.mk (Kd.V_below (by (with_reducible repeat (first | apply Kd.V_alloc | apply Kd.V_drewN | apply Kd.V_drew)); exact HO_9.out) hb); have n1_ := Aside0.mk (below_step belH hb); clear HO_9; clear HB; have HO_9 := n0_; have HB := n1_; clear n0_ n1_; (try clear hb); (try clear hb2); (try clear hk); (try clear hi)))
     (try simp only [Act.put, List.setIfInBounds_toArray, List.set_cons_zero, List.set_cons_succ])
     go_cut [46] (fun v46 wc => ∃ (kq : Nat) (x46_13 : Bool), v46 = .bool x46_13 ∧ Aside0 (laws_normal__CgroupSummary.j1 kq a0 t152 x46_13 = some r) ∧ Aside0 (kq ≤ kj6) ∧ Aside0 (Below w.heap.size w wc))
     case first =>
      have H := HC14.out
      clear HC14
      by_cases c17 : t153 = 1
      ·rw [if_pos c17] at H
       have c17b0 : (t153 == 1) = true := beq_iff_eq.mpr c17
       have c17b1 : (t153 != 1) = false := bne_eq_false_iff_eq.mpr c17
       clear c17
       (first | rw [c17b0] | (simp only [i64_w, i32_w]; rw [c17b0]) | skip)
       have H' := Aside0.mk H
       clear H
       go_wp2
       go_meet
       case rel => exact ⟨_, (decide ((t152.size : Int) > 40000)), (by first | rfl | (simp; done) | (simp [*]; done) | (simp [bne_nil]; done) | (simp [bne_nil, *]; done)), H', ⟨by have := HJ6.out; first | omega | exact Nat.le_refl _⟩, ⟨by repeat (first | (with_reducible first | exact HB.out | apply below_alloc | apply pw_below_drewN | apply below_drew1) | exact HB.out)⟩⟩
      ·rw [if_neg c17] at H
       have c17b0 : (t153 == 1) = false := beq_eq_false_iff_ne.mpr c17
       have c17b1 : (t153 != 1) = true := bne_iff_ne.mpr c17
       (first | rw [c17b0] | (simp only [i64_w, i32_w]; rw [c17b0]) | skip)
       have H' := Aside0.mk H
       clear H
       go_wp2
       go_meet
       case rel => exact ⟨_, (true), (by first | rfl | (simp; done) | (simp [*]; done) | (simp [bne_nil]; done) | (simp [bne_nil, *]; done)), H', ⟨by have := HJ6.out; first | omega | exact Nat.le_refl _⟩, ⟨by repeat (first | (with_reducible first | exact HB.out | apply below_alloc | apply pw_below_drewN | apply below_drew1) | exact HB.out)⟩⟩
     case rest =>
      clear HC14
      try clear c1
      try clear p2
      try clear c3
      try clear c5
      try clear c5b0
      try clear c5b1
      try clear c9
      try clear c9b0
      try clear c9b1
      try clear c10
      try clear c17
      try clear c17b0
      try clear c17b1
      try clear p2
      obtain ⟨kq, x46_13, rfl, HA, HJ13, HB⟩ := hcut
      cases kq with
      | zero => exact absurd HA.out (by simp [laws_normal__CgroupSummary.j1])
      | succ kj13 =>
       have H := HA.out
       clear HA
       simp only [laws_normal__CgroupSummary.j1] at H
       by_cases c18 : x46_13 = true
       ·subst c18
        have H1 : ((laws_lives.f).bind fun t154 => (some t154)) = some r := by rw [if_pos rfl] at H; exact H
        clear H
        have H := H1
        clear H1
        replace H := Option.bind_eq_some_iff.mp H
        obtain ⟨t154, A190, H⟩ := H
        replace H : (some t154) = some r := H
        have A19 := Aside0.mk A190
        clear A190
        obtain rfl := Option.some.inj H
        go_wp2_with (first | ((with_reducible refine gate_callee (f := 36) rfl ?_); refine goesL_ (some 47) rfl rfl Tryz.func36 (by kernel_rfl) rfl #[] rfl (by (try simp only [List.map_toArray, List.map_cons, List.map_nil]); first | done | rfl | (simp only [List.length_drop, List.length_take]; rfl)) ?_; (with_reducible refine (laws_lives.calls  t154 _ A19.out).mono ?_); rintro e w20 ⟨rfl, hb⟩; refine ⟨_, rfl, ?_⟩; have n0_ := Aside0.mk (below_step belH hb); clear HB; have HB := n0_; clear n0_; (try clear hb); (try clear hb2); (try clear hk); (try clear hi)))
        go_ret
        exact ⟨by first | rfl | (simp [errW_none, errW_some] <;> rfl) | (simp [*, errW_none, errW_some] <;> rfl), by repeat (first | (with_reducible first | exact HB.out | apply below_alloc | apply pw_below_drewN | apply below_drew1) | exact HB.out)⟩
       ·replace c18 := Bool.eq_false_iff.mpr c18
        subst c18
        have H1 : ((impl_CgroupSummary.f a0).bind fun bt155 => ((impl_CgroupSummary.f t152).bind fun bt167 => (if bt155.2.2.2.2.2.2.2.2 = 0 then (if bt167.2.2.2.2.2.2.2.2 = 0 then ((laws_toNode.f kj13 bt155.1 bt155.2.1 bt155.2.2.1 bt155.2.2.2.1 bt155.2.2.2.2.1 bt155.2.2.2.2.2.1 bt155.2.2.2.2.2.2.1 bt155.2.2.2.2.2.2.2.1).bind fun bt179 => ((laws_toNode.f kj13 bt167.1 bt167.2.1 bt167.2.2.1 bt167.2.2.2.1 bt167.2.2.2.2.1 bt167.2.2.2.2.2.1 bt167.2.2.2.2.2.2.1 bt167.2.2.2.2.2.2.2.1).bind fun bt189 => ((spec_SameNode.f kj13 bt179.1 bt179.2.1 bt179.2.2.1 bt179.2.2.2.1 bt179.2.2.2.2.1 bt179.2.2.2.2.2.1 bt179.2.2.2.2.2.2.1 bt179.2.2.2.2.2.2.2 bt189.1 bt189.2.1 bt189.2.2.1 bt189.2.2.2.1 bt189.2.2.2.2.1 bt189.2.2.2.2.2.1 bt189.2.2.2.2.2.2.1 bt189.2.2.2.2.2.2.2).bind fun t199 => (if t199 = true then ((laws_lives.f).bind fun t200 => (some t200)) else (some false))))) else (some false)) else (some false)))) = some r := by rw [if_neg (show ¬ (false = true) by decide)] at H; exact H
        clear H
        have H := H1
        clear H1
        replace H := Option.bind_eq_some_iff.mp H
        obtain ⟨⟨t155, t156, t157, t158, t159, t160, t161, t162, t165⟩, A210, H⟩ := H
        replace H : ((impl_CgroupSummary.f t152).bind fun bt167 => (if t165 = 0 then (if bt167.2.2.2.2.2.2.2.2 = 0 then ((laws_toNode.f kj13 t155 t156 t157 t158 t159 t160 t161 t162).bind fun bt179 => ((laws_toNode.f kj13 bt167.1 bt167.2.1 bt167.2.2.1 bt167.2.2.2.1 bt167.2.2.2.2.1 bt167.2.2.2.2.2.1 bt167.2.2.2.2.2.2.1 bt167.2.2.2.2.2.2.2.1).bind fun bt189 => ((spec_SameNode.f kj13 bt179.1 bt179.2.1 bt179.2.2.1 bt179.2.2.2.1 bt179.2.2.2.2.1 bt179.2.2.2.2.2.1 bt179.2.2.2.2.2.2.1 bt179.2.2.2.2.2.2.2 bt189.1 bt189.2.1 bt189.2.2.1 bt189.2.2.2.1 bt189.2.2.2.2.1 bt189.2.2.2.2.2.1 bt189.2.2.2.2.2.2.1 bt189.2.2.2.2.2.2.2).bind fun t199 => (if t199 = true then ((laws_lives.f).bind fun t200 => (some t200)) else (some false))))) else (some false)) else (some false))) = some r := H
        have A21 := Aside0.mk A210
        clear A210
        replace H := Option.bind_eq_some_iff.mp H
        obtain ⟨⟨t167, t168, t169, t170, t171, t172, t173, t174, t177⟩, A220, H⟩ := H
        replace H : (if t165 = 0 then (if t177 = 0 then ((laws_toNode.f kj13 t155 t156 t157 t158 t159 t160 t161 t162).bind fun bt179 => ((laws_toNode.f kj13 t167 t168 t169 t170 t171 t172 t173 t174).bind fun bt189 => ((spec_SameNode.f kj13 bt179.1 bt179.2.1 bt179.2.2.1 bt179.2.2.2.1 bt179.2.2.2.2.1 bt179.2.2.2.2.2.1 bt179.2.2.2.2.2.2.1 bt179.2.2.2.2.2.2.2 bt189.1 bt189.2.1 bt189.2.2.1 bt189.2.2.2.1 bt189.2.2.2.2.1 bt189.2.2.2.2.2.1 bt189.2.2.2.2.2.2.1 bt189.2.2.2.2.2.2.2).bind fun t199 => (if t199 = true then ((laws_lives.f).bind fun t200 => (some t200)) else (some false))))) else (some false)) else (some false)) = some r := H
        have A22 := Aside0.mk A220
        clear A220
        by_cases c23 : t165 = 0
        ·rw [if_pos c23] at H
         have c23b0 : (t165 == 0) = true := beq_iff_eq.mpr c23
         have c23b1 : (t165 != 0) = false := bne_eq_false_iff_eq.mpr c23
         clear c23
         by_cases c24 : t177 = 0
         ·rw [if_pos c24] at H
          have c24b0 : (t177 == 0) = true := beq_iff_eq.mpr c24
          have c24b1 : (t177 != 0) = false := bne_eq_false_iff_eq.mpr c24
          clear c24
          replace H := Option.bind_eq_some_iff.mp H
          obtain ⟨⟨t179, t180, t181, t182, t183, t184, t185, t186⟩, A250, H⟩ := H
          replace H : ((laws_toNode.f kj13 t167 t168 t169 t170 t171 t172 t173 t174).bind fun bt189 => ((spec_SameNode.f kj13 t179 t180 t181 t182 t183 t184 t185 t186 bt189.1 bt189.2.1 bt189.2.2.1 bt189.2.2.2.1 bt189.2.2.2.2.1 bt189.2.2.2.2.2.1 bt189.2.2.2.2.2.2.1 bt189.2.2.2.2.2.2.2).bind fun t199 => (if t199 = true then ((laws_lives.f).bind fun t200 => (some t200)) else (some false)))) = some r := H
          have A25 := Aside0.mk A250
          clear A250
          replace H := Option.bind_eq_some_iff.mp H
          obtain ⟨⟨t189, t190, t191, t192, t193, t194, t195, t196⟩, A260, H⟩ := H
          replace H : ((spec_SameNode.f kj13 t179 t180 t181 t182 t183 t184 t185 t186 t189 t190 t191 t192 t193 t194 t195 t196).bind fun t199 => (if t199 = true then ((laws_lives.f).bind fun t200 => (some t200)) else (some false))) = some r := H
          have A26 := Aside0.mk A260
          clear A260
          replace H := Option.bind_eq_some_iff.mp H
          obtain ⟨t199, A270, H⟩ := H
          replace H : (if t199 = true then ((laws_lives.f).bind fun t200 => (some t200)) else (some false)) = some r := H
          have A27 := Aside0.mk A270
          clear A270
          by_cases c28 : t199 = true
          ·subst c28
           have H1 : ((laws_lives.f).bind fun t200 => (some t200)) = some r := by rw [if_pos rfl] at H; exact H
           clear H
           have H := H1
           clear H1
           replace H := Option.bind_eq_some_iff.mp H
           obtain ⟨t200, A290, H⟩ := H
           replace H : (some t200) = some r := H
           have A29 := Aside0.mk A290
           clear A290
           obtain rfl := Option.some.inj H
           try go_wp2_with (first | (go_at_call 35; (with_reducible refine (impl_CgroupSummary.calls a0 t155 t156 t157 t158 t159 t160 t161 t162 t165 _ A21.out).mono ?_); rintro e w30 ⟨v163, rfl, ho0, hb⟩; have n0_ := Aside0.mk (Kd.R_lower ho0 (below_size belH)); have n1_ := Aside0.mk (below_step belH hb); clear HB; have HO164 := n0_; have HB := n1_; clear n0_ n1_; (try clear hb); (try clear hb2); (try clear hk); (try clear hi); (try clear ho0)) | ((with_reducible refine gate_dst (N := 13) rfl ?_); (try (refine gate_guard (by rfl) ?_; dsimp only)); refine box_event ?hg (N := 13) ?hd (cs := #[.string (⟨#[]⟩ : ByteArray), .int .i64 0, .bool false, .int .i64 0, .int .u64 0, .float .f64 0, .string (⟨#[]⟩ : ByteArray), .slice none 0 0]) (t := 35) ?hr ?_; (case hd => rfl); (case hg => rfl); (case hr => first | (go_simp; done) | (go_simp; rfl)); intro gb166 hg w31 hbox hb; have n0_ := Aside0.mk (Kd.R_below (Kd.R_elderB (by (with_reducible repeat (first | apply Kd.R_alloc | apply Kd.R_drewN | apply Kd.R_drew)); exact HO164.out) gb166 (Nat.le_of_eq hg.symm)) hb); have n1_ := Aside0.mk (below_step belH hb); have n2_ := Aside0.mk (hbox); have n3_ := Aside0.mk ((by rw [hg]; exact (below_size belH) : w.heap.size ≤ gb166)); have n4_ := Aside0.mk ((by rw [hg]; exact (below_size belH) : w.heap.size ≤ gb166)); clear HO164; clear HB; have HO164 := n0_; have HB := n1_; have BK166 := n2_; have GW166 := n3_; have GE166 := n4_; clear n0_ n1_ n2_ n3_ n4_; clear hb hbox hg; have hcz32_0 : w31.cell? ⟨gb166, 0, none⟩ = some (.string (⟨#[]⟩ : ByteArray)) := (blk_cell BK166.out 0).trans rfl; have hcz32_1 : w31.cell? ⟨gb166, 1, none⟩ = some (.int .i64 0) := (blk_cell BK166.out 1).trans rfl; have hcz32_2 : w31.cell? ⟨gb166, 2, none⟩ = some (.bool false) := (blk_cell BK166.out 2).trans rfl; have hcz32_3 : w31.cell? ⟨gb166, 3, none⟩ = some (.int .i64 0) := (blk_cell BK166.out 3).trans rfl; have hcz32_4 : w31.cell? ⟨gb166, 4, none⟩ = some (.int .u64 0) := (blk_cell BK166.out 4).trans rfl; have hcz32_5 : w31.cell? ⟨gb166, 5, none⟩ = some (.float .f64 0) := (blk_cell BK166.out 5).trans rfl; have hcz32_6 : w31.cell? ⟨gb166, 6, none⟩ = some (.string (⟨#[]⟩ : ByteArray)) := (blk_cell BK166.out 6).trans rfl; have hcz32_7 : w31.cell? ⟨gb166, 7, none⟩ = some (.slice none 0 0) := (blk_cell BK166.out 7).trans rfl; have hfz32_0 := blk_frozen BK166.out 0; have hfz32_1 := blk_frozen BK166.out 1; have hfz32_2 := blk_frozen BK166.out 2; have hfz32_3 := blk_frozen BK166.out 3; have hfz32_4 := blk_frozen BK166.out 4; have hfz32_5 := blk_frozen BK166.out 5; have hfz32_6 := blk_frozen BK166.out 6; have hfz32_7 := blk_frozen BK166.out 7; obtain ⟨Ao33, co33, eo33⟩ := Kd.R_slice HO164.out; subst eo33) | (go_at_call 35; (with_reducible refine (impl_CgroupSummary.calls t152 t167 t168 t169 t170 t171 t172 t173 t174 t177 _ A22.out).mono ?_); rintro e w34 ⟨v175, rfl, ho0, hb⟩; have n0_ := Aside0.mk (Kd.R_elder' (by (with_reducible repeat (first | apply Kd.R_alloc | apply Kd.R_drewN | apply Kd.R_drew)); exact (Kd.R_mono (Kd.R_far8 (g := gb166) (Kd.R_mono HO164.out (fun k_ hk => (⟨hk, hk.2⟩ : _ ∧ k_ ≠ gb166))) (fun _ hk => hk.2) (.string t155) (.int .i64 t156) (.bool t157) (.int .i64 t158) (.int .u64 t159) (.float .f64 t160) (.string t161) (.slice Ao33 t162.length co33)) (fun _ h_ => h_.1))) (Kd.R_base ho0) hb); have n1_ := Aside0.mk (Kd.R_lower (Kd.R_newB (Kd.R_new' ho0 (Kd.R_lt (by (with_reducible repeat (first | apply Kd.R_alloc | apply Kd.R_drewN | apply Kd.R_drew)); exact (Kd.R_mono (Kd.R_far8 (g := gb166) (Kd.R_mono HO164.out (fun k_ hk => (⟨hk, hk.2⟩ : _ ∧ k_ ≠ gb166))) (fun _ hk => hk.2) (.string t155) (.int .i64 t156) (.bool t157) (.int .i64 t158) (.int .u64 t159) (.float .f64 t160) (.string t161) (.slice Ao33 t162.length co33)) (fun _ h_ => h_.1))))) (g := gb166) (o := .cells #[.string t155, .int .i64 t156, .bool t157, .int .i64 t158, .int .u64 t159, .float .f64 t160, .string t161, .slice Ao33 t162.length co33] 35 (0, 0)) (by (with_reducible repeat (first | refine bN ?_ _ | refine bW ?_ | refine bA ?_ _)); exact blk_put8 BK166.out)) (below_size belS)); have n2_ := Aside0.mk (blk_below (g := gb166) (o := .cells #[.string t155, .int .i64 t156, .bool t157, .int .i64 t158, .int .u64 t159, .float .f64 t160, .string t161, .slice Ao33 t162.length co33] 35 (0, 0)) (by (with_reducible repeat (first | refine bN ?_ _ | refine bW ?_ | refine bA ?_ _)); exact blk_put8 BK166.out) hb); have n3_ := Aside0.mk (below_step belS hb); clear HO164; clear BK166; clear HB; have HO164 := n0_; have HO176 := n1_; have BK166 := n2_; have HB := n3_; clear n0_ n1_ n2_ n3_; (try clear hb); (try clear hb2); (try clear hk); (try clear hi); (try clear ho0)) | ((with_reducible refine gate_dst (N := 15) rfl ?_); (try (refine gate_guard (by rfl) ?_; dsimp only)); refine box_event ?hg (N := 15) ?hd (cs := #[.string (⟨#[]⟩ : ByteArray), .int .i64 0, .bool false, .int .i64 0, .int .u64 0, .float .f64 0, .string (⟨#[]⟩ : ByteArray), .slice none 0 0]) (t := 35) ?hr ?_; (case hd => rfl); (case hg => rfl); (case hr => first | (go_simp; done) | (go_simp; rfl)); intro gb178 hg w35 hbox hb; have n0_ := Aside0.mk (Kd.R_below (Kd.R_elderB (by (with_reducible repeat (first | apply Kd.R_alloc | apply Kd.R_drewN | apply Kd.R_drew)); exact HO164.out) gb178 (Nat.le_of_eq hg.symm)) hb); have n1_ := Aside0.mk (Kd.R_below (Kd.R_elderB (by (with_reducible repeat (first | apply Kd.R_alloc | apply Kd.R_drewN | apply Kd.R_drew)); exact HO176.out) gb178 (Nat.le_of_eq hg.symm)) hb); have n2_ := Aside0.mk (blk_below (g := gb166) (o := .cells #[.string t155, .int .i64 t156, .bool t157, .int .i64 t158, .int .u64 t159, .float .f64 t160, .string t161, .slice Ao33 t162.length co33] 35 (0, 0)) (by (with_reducible repeat (first | refine bN ?_ _ | refine bW ?_ | refine bA ?_ _)); exact BK166.out) hb); have n3_ := Aside0.mk (below_step belS hb); have n4_ := Aside0.mk (hbox); have n5_ := Aside0.mk ((by rw [hg]; exact (below_size belS) : w.heap.size ≤ gb178)); have n6_ := Aside0.mk ((by rw [hg]; exact (below_size belS) : w.heap.size ≤ gb178)); have n7_ := Aside0.mk ((by rw [hg]; exact Nat.ne_of_lt (blk_lt (g := gb166) (o := .cells #[.string t155, .int .i64 t156, .bool t157, .int .i64 t158, .int .u64 t159, .float .f64 t160, .string t161, .slice Ao33 t162.length co33] 35 (0, 0)) (by (with_reducible repeat (first | refine bN ?_ _ | refine bW ?_ | refine bA ?_ _)); exact BK166.out)) : gb166 ≠ gb178)); have n8_ := Aside0.mk ((by rw [hg]; exact Nat.ne_of_gt (blk_lt (g := gb166) (o := .cells #[.string t155, .int .i64 t156, .bool t157, .int .i64 t158, .int .u64 t159, .float .f64 t160, .string t161, .slice Ao33 t162.length co33] 35 (0, 0)) (by (with_reducible repeat (first | refine bN ?_ _ | refine bW ?_ | refine bA ?_ _)); exact BK166.out)) : gb178 ≠ gb166)); clear HO164; clear HO176; clear BK166; clear HB; have HO164 := n0_; have HO176 := n1_; have BK166 := n2_; have HB := n3_; have BK178 := n4_; have GW178 := n5_; have GE178 := n6_; have NB166_178 := n7_; have NB178_166 := n8_; clear n0_ n1_ n2_ n3_ n4_ n5_ n6_ n7_ n8_; clear hb hbox hg; have hnb36 := NB178_166.out; have hnc36 := NB166_178.out; have hcz37_0 : w35.cell? ⟨gb178, 0, none⟩ = some (.string (⟨#[]⟩ : ByteArray)) := (blk_cell BK178.out 0).trans rfl; have hcz37_1 : w35.cell? ⟨gb178, 1, none⟩ = some (.int .i64 0) := (blk_cell BK178.out 1).trans rfl; have hcz37_2 : w35.cell? ⟨gb178, 2, none⟩ = some (.bool false) := (blk_cell BK178.out 2).trans rfl; have hcz37_3 : w35.cell? ⟨gb178, 3, none⟩ = some (.int .i64 0) := (blk_cell BK178.out 3).trans rfl; have hcz37_4 : w35.cell? ⟨gb178, 4, none⟩ = some (.int .u64 0) := (blk_cell BK178.out 4).trans rfl; have hcz37_5 : w35.cell? ⟨gb178, 5, none⟩ = some (.float .f64 0) := (blk_cell BK178.out 5).trans rfl; have hcz37_6 : w35.cell? ⟨gb178, 6, none⟩ = some (.string (⟨#[]⟩ : ByteArray)) := (blk_cell BK178.out 6).trans rfl; have hcz37_7 : w35.cell? ⟨gb178, 7, none⟩ = some (.slice none 0 0) := (blk_cell BK178.out 7).trans rfl; have hfz37_0 := blk_frozen BK178.out 0; have hfz37_1 := blk_frozen BK178.out 1; have hfz37_2 := blk_frozen BK178.out 2; have hfz37_3 := blk_frozen BK178.out 3; have hfz37_4 := blk_frozen BK178.out 4; have hfz37_5 := blk_frozen BK178.out 5; have hfz37_6 := blk_frozen BK178.out 6; have hfz37_7 := blk_frozen BK178.out 7; obtain ⟨Ao38, co38, eo38⟩ := Kd.R_slice HO176.out; subst eo38))
           have n0_ : Aside0 (Kd.R k35 35 ((((((((w35.setCell ⟨gb178, 0, none⟩ (.string t167)).setCell ⟨gb178, 1, none⟩ (.int .i64 t168)).setCell ⟨gb178, 2, none⟩ (.bool t169)).setCell ⟨gb178, 3, none⟩ (.int .i64 t170)).setCell ⟨gb178, 4, none⟩ (.int .u64 t171)).setCell ⟨gb178, 5, none⟩ (.float .f64 t172)).setCell ⟨gb178, 6, none⟩ (.string t173)).setCell ⟨gb178, 7, none⟩ (.slice Ao38 t174.length co38)) w.heap.size (fun k_ => some k_ ≠ (.slice Ao38 t174.length co38 : Value).ownBlock ∧ k_ ≠ gb166 ∧ k_ ≠ gb178) (.slice Ao33 t162.length co33) t162) := ⟨by (with_reducible repeat (first | apply Kd.R_alloc | apply Kd.R_drewN | apply Kd.R_drew)); exact Kd.R_mono (Kd.R_far8 (g := gb178) (Kd.R_mono HO164.out (fun k_ hk => (⟨hk, hk.2⟩ : _ ∧ k_ ≠ gb178))) (fun _ hk => hk.2) (.string t167) (.int .i64 t168) (.bool t169) (.int .i64 t170) (.int .u64 t171) (.float .f64 t172) (.string t173) (.slice Ao38 t174.length co38)) (fun _ hk => ⟨hk.1.1.2, ⟨hk.1.1.1.2, hk.1.2⟩⟩)⟩
           have n1_ : Aside0 (Kd.R k35 35 ((((((((w35.setCell ⟨gb178, 0, none⟩ (.string t167)).setCell ⟨gb178, 1, none⟩ (.int .i64 t168)).setCell ⟨gb178, 2, none⟩ (.bool t169)).setCell ⟨gb178, 3, none⟩ (.int .i64 t170)).setCell ⟨gb178, 4, none⟩ (.int .u64 t171)).setCell ⟨gb178, 5, none⟩ (.float .f64 t172)).setCell ⟨gb178, 6, none⟩ (.string t173)).setCell ⟨gb178, 7, none⟩ (.slice Ao38 t174.length co38)) w.heap.size (fun k_ => some k_ ≠ (.slice Ao33 t162.length co33 : Value).ownBlock ∧ k_ ≠ gb166 ∧ k_ ≠ gb178) (.slice Ao38 t174.length co38) t174) := ⟨by (with_reducible repeat (first | apply Kd.R_alloc | apply Kd.R_drewN | apply Kd.R_drew)); exact Kd.R_mono (Kd.R_far8 (g := gb178) (Kd.R_mono HO176.out (fun k_ hk => (⟨hk, hk.2⟩ : _ ∧ k_ ≠ gb178))) (fun _ hk => hk.2) (.string t167) (.int .i64 t168) (.bool t169) (.int .i64 t170) (.int .u64 t171) (.float .f64 t172) (.string t173) (.slice Ao38 t174.length co38)) (fun _ hk => ⟨hk.1.1.1.2, ⟨hk.1.1.2, hk.1.2⟩⟩)⟩
           have n2_ : Aside0 (((((((((w35.setCell ⟨gb178, 0, none⟩ (.string t167)).setCell ⟨gb178, 1, none⟩ (.int .i64 t168)).setCell ⟨gb178, 2, none⟩ (.bool t169)).setCell ⟨gb178, 3, none⟩ (.int .i64 t170)).setCell ⟨gb178, 4, none⟩ (.int .u64 t171)).setCell ⟨gb178, 5, none⟩ (.float .f64 t172)).setCell ⟨gb178, 6, none⟩ (.string t173)).setCell ⟨gb178, 7, none⟩ (.slice Ao38 t174.length co38)).heap[gb166]? = some (.cells #[.string t155, .int .i64 t156, .bool t157, .int .i64 t158, .int .u64 t159, .float .f64 t160, .string t161, .slice Ao33 t162.length co33] 35 (0, 0))) := ⟨by (with_reducible repeat (first | refine bN ?_ _ | refine bW ?_ | refine bA ?_ _)); refine blk_far ?_ NB166_178.out _; (with_reducible repeat (first | refine bN ?_ _ | refine bW ?_ | refine bA ?_ _)); refine blk_far ?_ NB166_178.out _; (with_reducible repeat (first | refine bN ?_ _ | refine bW ?_ | refine bA ?_ _)); refine blk_far ?_ NB166_178.out _; (with_reducible repeat (first | refine bN ?_ _ | refine bW ?_ | refine bA ?_ _)); refine blk_far ?_ NB166_178.out _; (with_reducible repeat (first | refine bN ?_ _ | refine bW ?_ | refine bA ?_ _)); refine blk_far ?_ NB166_178.out _; (with_reducible repeat (first | refine bN ?_ _ | refine bW ?_ | refine bA ?_ _)); refine blk_far ?_ NB166_178.out _; (with_reducible repeat (first | refine bN ?_ _ | refine bW ?_ | refine bA ?_ _)); refine blk_far ?_ NB166_178.out _; (with_reducible repeat (first | refine bN ?_ _ | refine bW ?_ | refine bA ?_ _)); refine blk_far ?_ NB166_178.out _; (with_reducible repeat (first | refine bN ?_ _ | refine bW ?_ | refine bA ?_ _)); exact BK166.out⟩
           have n3_ : Aside0 (((((((((w35.setCell ⟨gb178, 0, none⟩ (.string t167)).setCell ⟨gb178, 1, none⟩ (.int .i64 t168)).setCell ⟨gb178, 2, none⟩ (.bool t169)).setCell ⟨gb178, 3, none⟩ (.int .i64 t170)).setCell ⟨gb178, 4, none⟩ (.int .u64 t171)).setCell ⟨gb178, 5, none⟩ (.float .f64 t172)).setCell ⟨gb178, 6, none⟩ (.string t173)).setCell ⟨gb178, 7, none⟩ (.slice Ao38 t174.length co38)).heap[gb178]? = some (.cells #[.string t167, .int .i64 t168, .bool t169, .int .i64 t170, .int .u64 t171, .float .f64 t172, .string t173, .slice Ao38 t174.length co38] 35 (0, 0))) := ⟨by (with_reducible repeat (first | refine bN ?_ _ | refine bW ?_ | refine bA ?_ _)); exact blk_put8 BK178.out⟩
           have n4_ : Aside0 (Below w.heap.size w ((((((((w35.setCell ⟨gb178, 0, none⟩ (.string t167)).setCell ⟨gb178, 1, none⟩ (.int .i64 t168)).setCell ⟨gb178, 2, none⟩ (.bool t169)).setCell ⟨gb178, 3, none⟩ (.int .i64 t170)).setCell ⟨gb178, 4, none⟩ (.int .u64 t171)).setCell ⟨gb178, 5, none⟩ (.float .f64 t172)).setCell ⟨gb178, 6, none⟩ (.string t173)).setCell ⟨gb178, 7, none⟩ (.slice Ao38 t174.length co38))) := ⟨by repeat (first | (with_reducible first | exact HB.out | apply below_alloc | apply pw_below_drewN | apply below_drew1 | refine below_set ?_ GE166.out | refine below_set ?_ GE178.out) | exact HB.out)⟩
           (try clear HO164)
           (try clear HO176)
           (try clear BK166)
           (try clear BK178)
           (try clear HB)
           generalize ((((((((w35.setCell ⟨gb178, 0, none⟩ (.string t167)).setCell ⟨gb178, 1, none⟩ (.int .i64 t168)).setCell ⟨gb178, 2, none⟩ (.bool t169)).setCell ⟨gb178, 3, none⟩ (.int .i64 t170)).setCell ⟨gb178, 4, none⟩ (.int .u64 t171)).setCell ⟨gb178, 5, none⟩ (.float .f64 t172)).setCell ⟨gb178, 6, none⟩ (.string t173)).setCell ⟨gb178, 7, none⟩ (.slice Ao38 t174.length co38)) = w39 at n0_ n1_ n2_ n3_ n4_ ⊢
           have HO164 := n0_
           have HO176 := n1_
           have BK166 := n2_
           have BK178 := n3_
           have HB := n4_
           clear n0_ n1_ n2_ n3_ n4_
           have n0_ := Aside0.mk (Kd.R_drew HO164.out)
           have n1_ := Aside0.mk (Kd.R_drew HO176.out)
           have n2_ := Aside0.mk (blk_drew BK166.out)
           have n3_ := Aside0.mk (blk_drew BK178.out)
           have n4_ := Aside0.mk (below_drew1 HB.out)
           clear HO164
           clear HO176
           clear BK166
           clear BK178
           clear HB
           have HO164 := n0_
           have HO176 := n1_
           have BK166 := n2_
           have BK178 := n3_
           have HB := n4_
           clear n0_ n1_ n2_ n3_ n4_
           refine start_ (n := 17) (S := fun w' => w'.cell? ⟨gb166, 0, none⟩ = some (.string t155) ∧ w'.cell? ⟨gb166, 1, none⟩ = some (.int .i64 t156) ∧ w'.cell? ⟨gb166, 2, none⟩ = some (.bool t157) ∧ w'.cell? ⟨gb166, 3, none⟩ = some (.int .i64 t158) ∧ w'.cell? ⟨gb166, 4, none⟩ = some (.int .u64 t159) ∧ w'.cell? ⟨gb166, 5, none⟩ = some (.float .f64 t160) ∧ w'.cell? ⟨gb166, 6, none⟩ = some (.string t161) ∧ w'.cell? ⟨gb166, 7, none⟩ = some (.slice Ao33 t162.length co33) ∧ w'.cell? ⟨gb178, 0, none⟩ = some (.string t167) ∧ w'.cell? ⟨gb178, 1, none⟩ = some (.int .i64 t168) ∧ w'.cell? ⟨gb178, 2, none⟩ = some (.bool t169) ∧ w'.cell? ⟨gb178, 3, none⟩ = some (.int .i64 t170) ∧ w'.cell? ⟨gb178, 4, none⟩ = some (.int .u64 t171) ∧ w'.cell? ⟨gb178, 5, none⟩ = some (.float .f64 t172) ∧ w'.cell? ⟨gb178, 6, none⟩ = some (.string t173) ∧ w'.cell? ⟨gb178, 7, none⟩ = some (.slice Ao38 t174.length co38)) (ds := []) (tfA 0 17) (by kernel_rfl) rfl rfl ⟨(blk_cell BK166.out 0).trans rfl, (blk_cell BK166.out 1).trans rfl, (blk_cell BK166.out 2).trans rfl, (blk_cell BK166.out 3).trans rfl, (blk_cell BK166.out 4).trans rfl, (blk_cell BK166.out 5).trans rfl, (blk_cell BK166.out 6).trans rfl, (blk_cell BK166.out 7).trans rfl, (blk_cell BK178.out 0).trans rfl, (blk_cell BK178.out 1).trans rfl, (blk_cell BK178.out 2).trans rfl, (blk_cell BK178.out 3).trans rfl, (blk_cell BK178.out 4).trans rfl, (blk_cell BK178.out 5).trans rfl, (blk_cell BK178.out 6).trans rfl, (blk_cell BK178.out 7).trans rfl⟩ (fun hHeld => ?_); refine with_tabW laws_normal__CgroupSummary.tab11 laws_normal__CgroupSummary.bits11 (fun HT_ HW_ => ?_)
           generalize w39.drew = w40 at HO164 HO176 BK166 BK178 HB hHeld ⊢
           refine pure_ (i := 0) (N := some 60) (v := ?_) (a' := ?_) (tfA 1 16) rfl rfl (any_of HT_.out (by kernel_rfl)) (fun _ _ _ h => h) (Or.inl ⟨by rfl, ?_⟩) ?_ ?_
           rotate_left
           ·intro w'
            go_simp
            first | with_reducible rfl | (rw [if_neg (by have hz_ := c18; simp only [ByteArray.size_append] at hz_; exact Nat.not_lt.2 hz_)]) | (rw [if_neg (by have hz_ := c19; simp only [ByteArray.size_append] at hz_; exact Nat.not_lt.2 hz_)]) | (rw [if_neg (by have hz_ := c20; simp only [ByteArray.size_append] at hz_; exact Nat.not_lt.2 hz_)])
           rotate_left
           ·simp only [Act.put, sA, s0, s1, i64_w, i32_w]
            rfl
           refine pure_ (i := 1) (N := some 61) (v := ?_) (a' := ?_) (tfA 2 15) rfl rfl (any_of HT_.out (by kernel_rfl)) (fun _ _ _ h => h) (Or.inl ⟨by rfl, ?_⟩) ?_ ?_
           rotate_left
           ·intro w'
            go_simp
            first | with_reducible rfl | (rw [if_neg (by have hz_ := c18; simp only [ByteArray.size_append] at hz_; exact Nat.not_lt.2 hz_)]) | (rw [if_neg (by have hz_ := c19; simp only [ByteArray.size_append] at hz_; exact Nat.not_lt.2 hz_)]) | (rw [if_neg (by have hz_ := c20; simp only [ByteArray.size_append] at hz_; exact Nat.not_lt.2 hz_)])
           rotate_left
           ·simp only [Act.put, sA, s0, s1, i64_w, i32_w]
            rfl
           refine pure_ (i := 2) (N := some 62) (v := ?_) (a' := ?_) (tfA 3 14) rfl rfl (any_of HT_.out (by kernel_rfl)) (fun _ _ _ h => h) (Or.inl ⟨by rfl, ?_⟩) ?_ ?_
           rotate_left
           ·intro w'
            go_simp
            first | with_reducible rfl | (rw [if_neg (by have hz_ := c18; simp only [ByteArray.size_append] at hz_; exact Nat.not_lt.2 hz_)]) | (rw [if_neg (by have hz_ := c19; simp only [ByteArray.size_append] at hz_; exact Nat.not_lt.2 hz_)]) | (rw [if_neg (by have hz_ := c20; simp only [ByteArray.size_append] at hz_; exact Nat.not_lt.2 hz_)])
           rotate_left
           ·simp only [Act.put, sA, s0, s1, i64_w, i32_w]
            rfl
           refine pure_ (i := 3) (N := some 63) (v := ?_) (a' := ?_) (tfA 4 13) rfl rfl (any_of HT_.out (by kernel_rfl)) (fun _ _ _ h => h) (Or.inl ⟨by rfl, ?_⟩) ?_ ?_
           rotate_left
           ·intro w'
            go_simp
            first | with_reducible rfl | (rw [if_neg (by have hz_ := c18; simp only [ByteArray.size_append] at hz_; exact Nat.not_lt.2 hz_)]) | (rw [if_neg (by have hz_ := c19; simp only [ByteArray.size_append] at hz_; exact Nat.not_lt.2 hz_)]) | (rw [if_neg (by have hz_ := c20; simp only [ByteArray.size_append] at hz_; exact Nat.not_lt.2 hz_)])
           rotate_left
           ·simp only [Act.put, sA, s0, s1, i64_w, i32_w]
            rfl
           refine pure_ (i := 4) (N := some 64) (v := ?_) (a' := ?_) (tfA 5 12) rfl rfl (any_of HT_.out (by kernel_rfl)) (fun _ _ _ h => h) (Or.inl ⟨by rfl, ?_⟩) ?_ ?_
           rotate_left
           ·intro w'
            go_simp
            first | with_reducible rfl | (rw [if_neg (by have hz_ := c18; simp only [ByteArray.size_append] at hz_; exact Nat.not_lt.2 hz_)]) | (rw [if_neg (by have hz_ := c19; simp only [ByteArray.size_append] at hz_; exact Nat.not_lt.2 hz_)]) | (rw [if_neg (by have hz_ := c20; simp only [ByteArray.size_append] at hz_; exact Nat.not_lt.2 hz_)])
           rotate_left
           ·simp only [Act.put, sA, s0, s1, i64_w, i32_w]
            rfl
           refine pure_ (i := 5) (N := some 65) (v := ?_) (a' := ?_) (tfA 6 11) rfl rfl (any_of HT_.out (by kernel_rfl)) (fun _ _ _ h => h) (Or.inl ⟨by rfl, ?_⟩) ?_ ?_
           rotate_left
           ·intro w'
            go_simp
            first | with_reducible rfl | (rw [if_neg (by have hz_ := c18; simp only [ByteArray.size_append] at hz_; exact Nat.not_lt.2 hz_)]) | (rw [if_neg (by have hz_ := c19; simp only [ByteArray.size_append] at hz_; exact Nat.not_lt.2 hz_)]) | (rw [if_neg (by have hz_ := c20; simp only [ByteArray.size_append] at hz_; exact Nat.not_lt.2 hz_)])
           rotate_left
           ·simp only [Act.put, sA, s0, s1, i64_w, i32_w]
            rfl
           refine pure_ (i := 6) (N := some 66) (v := ?_) (a' := ?_) (tfA 7 10) rfl rfl (any_of HT_.out (by kernel_rfl)) (fun _ _ _ h => h) (Or.inl ⟨by rfl, ?_⟩) ?_ ?_
           rotate_left
           ·intro w'
            go_simp
            first | with_reducible rfl | (rw [if_neg (by have hz_ := c18; simp only [ByteArray.size_append] at hz_; exact Nat.not_lt.2 hz_)]) | (rw [if_neg (by have hz_ := c19; simp only [ByteArray.size_append] at hz_; exact Nat.not_lt.2 hz_)]) | (rw [if_neg (by have hz_ := c20; simp only [ByteArray.size_append] at hz_; exact Nat.not_lt.2 hz_)])
           rotate_left
           ·simp only [Act.put, sA, s0, s1, i64_w, i32_w]
            rfl
           refine take_ (i := 7) (N := some 67) (v := ?_) (a' := ?_) (tfA 8 9) rfl rfl (take_ofW HT_.out HW_.out (by kernel_rfl)) (fun _ _ _ h => h) (Or.inl ⟨by rfl, ?_⟩) hHeld ?_ ?_
           rotate_left
           ·rintro w' ⟨s0, s1, s2, s3, s4, s5, s6, s7, s8, s9, s10, s11, s12, s13, s14, s15⟩
            go_simp
            first | with_reducible rfl | (rw [if_neg (by have hz_ := c18; simp only [ByteArray.size_append] at hz_; exact Nat.not_lt.2 hz_)]) | (rw [if_neg (by have hz_ := c19; simp only [ByteArray.size_append] at hz_; exact Nat.not_lt.2 hz_)]) | (rw [if_neg (by have hz_ := c20; simp only [ByteArray.size_append] at hz_; exact Nat.not_lt.2 hz_)])
           rotate_left
           ·simp only [Act.put, sA, s0, s1, i64_w, i32_w]
            rfl
           refine take_ (i := 9) (N := some 69) (v := ?_) (a' := ?_) (bnA 17 767) rfl rfl (take_ofW HT_.out HW_.out (by kernel_rfl)) (fun _ _ _ h => h) (Or.inl ⟨by rfl, ?_⟩) hHeld ?_ ?_
           rotate_left
           ·rintro w' ⟨s0, s1, s2, s3, s4, s5, s6, s7, s8, s9, s10, s11, s12, s13, s14, s15⟩
            go_simp
            first | with_reducible rfl | (rw [if_neg (by have hz_ := c18; simp only [ByteArray.size_append] at hz_; exact Nat.not_lt.2 hz_)]) | (rw [if_neg (by have hz_ := c19; simp only [ByteArray.size_append] at hz_; exact Nat.not_lt.2 hz_)]) | (rw [if_neg (by have hz_ := c20; simp only [ByteArray.size_append] at hz_; exact Nat.not_lt.2 hz_)])
           rotate_left
           ·simp only [Act.put, sA, s0, s1, i64_w, i32_w]
            rfl
           refine one_ (i := 8) (N := some 68) (tfA 10 7) rfl rfl (one_of HT_.out (by kernel_rfl)) (by decide) (fun K hK => ?_)
           refine goes_ Tryz.func38 (by kernel_rfl) rfl #[.agg #[.string t155, .int .i64 t156, .bool t157, .int .i64 t158, .int .u64 t159, .float .f64 t160, .string t161, .slice Ao33 t162.length co33]] (by rfl) rfl rfl (by (try simp only [List.map_toArray, List.map_cons, List.map_nil]); first | done | rfl | (simp only [List.length_drop, List.length_take]; rfl)) ?_
           with_reducible refine (laws_toNode.calls kj13 t155 t156 t157 t158 t159 t160 t161 _ _ t162 t179 t180 t181 t182 t183 t184 t185 t186 _ ?side1 ?side2 A25.out).mono ?_
           (case side1 => repeat (first | exact (Kd.R_reads' HO164.out).2.2 | (with_reducible refine Kd.C_alloc ?_ _) | (with_reducible refine Kd.C_drewN ?_ _) | (with_reducible refine Kd.C_drew ?_)))
           (case side2 => exact (Kd.R_reads' HO164.out).2.1)
           rintro e w41 ⟨v187, rfl, ho0, hb⟩
           refine ⟨_, rfl, ?_⟩
           have n0_ := Aside0.mk (Kd.R_below (by (with_reducible repeat (first | apply Kd.R_alloc | apply Kd.R_drewN | apply Kd.R_drew)); exact HO164.out) hb)
           have n1_ := Aside0.mk (Kd.R_below (by (with_reducible repeat (first | apply Kd.R_alloc | apply Kd.R_drewN | apply Kd.R_drew)); exact HO176.out) hb)
           have n2_ := Aside0.mk (Kd.R_lower ho0 (below_size belS))
           have n3_ := Aside0.mk (blk_below (g := gb166) (o := .cells #[.string t155, .int .i64 t156, .bool t157, .int .i64 t158, .int .u64 t159, .float .f64 t160, .string t161, .slice Ao33 t162.length co33] 35 (0, 0)) (by (with_reducible repeat (first | refine bN ?_ _ | refine bW ?_ | refine bA ?_ _)); exact BK166.out) hb)
           have n4_ := Aside0.mk (blk_below (g := gb178) (o := .cells #[.string t167, .int .i64 t168, .bool t169, .int .i64 t170, .int .u64 t171, .float .f64 t172, .string t173, .slice Ao38 t174.length co38] 35 (0, 0)) (by (with_reducible repeat (first | refine bN ?_ _ | refine bW ?_ | refine bA ?_ _)); exact BK178.out) hb)
           have n5_ := Aside0.mk (below_step belS hb)
           clear HO164
           clear HO176
           clear BK166
           clear BK178
           clear HB
           have HO164 := n0_
           have HO176 := n1_
           have HO188 := n2_
           have BK166 := n3_
           have BK178 := n4_
           have HB := n5_
           clear n0_ n1_ n2_ n3_ n4_ n5_
           (try clear hb)
           (try clear hb2)
           (try clear hk)
           (try clear hi)
           (try clear ho0)
           refine hK.out _ _ ⟨(blk_cell BK166.out 0).trans rfl, (blk_cell BK166.out 1).trans rfl, (blk_cell BK166.out 2).trans rfl, (blk_cell BK166.out 3).trans rfl, (blk_cell BK166.out 4).trans rfl, (blk_cell BK166.out 5).trans rfl, (blk_cell BK166.out 6).trans rfl, (blk_cell BK166.out 7).trans rfl, (blk_cell BK178.out 0).trans rfl, (blk_cell BK178.out 1).trans rfl, (blk_cell BK178.out 2).trans rfl, (blk_cell BK178.out 3).trans rfl, (blk_cell BK178.out 4).trans rfl, (blk_cell BK178.out 5).trans rfl, (blk_cell BK178.out 6).trans rfl, (blk_cell BK178.out 7).trans rfl⟩ (fun hHeld => ?_)
           clear hK K
           refine norm_ (a' := ?_) ?_ ?_
           rotate_left
           ·show Act.put _ (some 68) _ = _
            simp only [Act.put, sA, s0, s1, i64_w, i32_w]
            rfl
           refine one_ (i := 10) (N := some 70) (tfA 11 6) rfl rfl (one_of HT_.out (by kernel_rfl)) (by decide) (fun K hK => ?_)
           refine goes_ Tryz.func38 (by kernel_rfl) rfl #[.agg #[.string t167, .int .i64 t168, .bool t169, .int .i64 t170, .int .u64 t171, .float .f64 t172, .string t173, .slice Ao38 t174.length co38]] (by rfl) rfl rfl (by (try simp only [List.map_toArray, List.map_cons, List.map_nil]); first | done | rfl | (simp only [List.length_drop, List.length_take]; rfl)) ?_
           with_reducible refine (laws_toNode.calls kj13 t167 t168 t169 t170 t171 t172 t173 _ _ t174 t189 t190 t191 t192 t193 t194 t195 t196 _ ?side1 ?side2 A26.out).mono ?_
           (case side1 => repeat (first | exact (Kd.R_reads' HO176.out).2.2 | (with_reducible refine Kd.C_alloc ?_ _) | (with_reducible refine Kd.C_drewN ?_ _) | (with_reducible refine Kd.C_drew ?_)))
           (case side2 => exact (Kd.R_reads' HO176.out).2.1)
           rintro e w42 ⟨v197, rfl, ho0, hb⟩
           refine ⟨_, rfl, ?_⟩
           have n0_ := Aside0.mk (Kd.R_below (by (with_reducible repeat (first | apply Kd.R_alloc | apply Kd.R_drewN | apply Kd.R_drew)); exact HO164.out) hb)
           have n1_ := Aside0.mk (Kd.R_below (by (with_reducible repeat (first | apply Kd.R_alloc | apply Kd.R_drewN | apply Kd.R_drew)); exact HO176.out) hb)
           have n2_ := Aside0.mk (Kd.R_elder' (by (with_reducible repeat (first | apply Kd.R_alloc | apply Kd.R_drewN | apply Kd.R_drew)); exact HO188.out) (Kd.R_base ho0) hb)
           have n3_ := Aside0.mk (Kd.R_lower (Kd.R_new' ho0 (Kd.R_lt (by (with_reducible repeat (first | apply Kd.R_alloc | apply Kd.R_drewN | apply Kd.R_drew)); exact HO188.out))) (below_size belS))
           have n4_ := Aside0.mk (blk_below (g := gb166) (o := .cells #[.string t155, .int .i64 t156, .bool t157, .int .i64 t158, .int .u64 t159, .float .f64 t160, .string t161, .slice Ao33 t162.length co33] 35 (0, 0)) (by (with_reducible repeat (first | refine bN ?_ _ | refine bW ?_ | refine bA ?_ _)); exact BK166.out) hb)
           have n5_ := Aside0.mk (blk_below (g := gb178) (o := .cells #[.string t167, .int .i64 t168, .bool t169, .int .i64 t170, .int .u64 t171, .float .f64 t172, .string t173, .slice Ao38 t174.length co38] 35 (0, 0)) (by (with_reducible repeat (first | refine bN ?_ _ | refine bW ?_ | refine bA ?_ _)); exact BK178.out) hb)
           have n6_ := Aside0.mk (below_step belS hb)
           clear HO164
           clear HO176
           clear HO188
           clear BK166
           clear BK178
           clear HB
           have HO164 := n0_
           have HO176 := n1_
           have HO188 := n2_
           have HO198 := n3_
           have BK166 := n4_
           have BK178 := n5_
           have HB := n6_
           clear n0_ n1_ n2_ n3_ n4_ n5_ n6_
           (try clear hb)
           (try clear hb2)
           (try clear hk)
           (try clear hi)
           (try clear ho0)
           obtain ⟨Ao43, co43, eo43⟩ := Kd.R_slice HO188.out
           (first | subst eo43 | (injection eo43 with f1_ f2_ f3_; have f4_ := f1_.symm; have f5_ := f3_.symm; clear f1_ f2_ f3_; subst f4_; subst f5_))
           obtain ⟨Ao44, co44, eo44⟩ := Kd.R_slice HO198.out
           (first | subst eo44 | (injection eo44 with f1_ f2_ f3_; have f4_ := f1_.symm; have f5_ := f3_.symm; clear f1_ f2_ f3_; subst f4_; subst f5_))
           refine hK.out _ _ ⟨(blk_cell BK166.out 0).trans rfl, (blk_cell BK166.out 1).trans rfl, (blk_cell BK166.out 2).trans rfl, (blk_cell BK166.out 3).trans rfl, (blk_cell BK166.out 4).trans rfl, (blk_cell BK166.out 5).trans rfl, (blk_cell BK166.out 6).trans rfl, (blk_cell BK166.out 7).trans rfl, (blk_cell BK178.out 0).trans rfl, (blk_cell BK178.out 1).trans rfl, (blk_cell BK178.out 2).trans rfl, (blk_cell BK178.out 3).trans rfl, (blk_cell BK178.out 4).trans rfl, (blk_cell BK178.out 5).trans rfl, (blk_cell BK178.out 6).trans rfl, (blk_cell BK178.out 7).trans rfl⟩ (fun hHeld => ?_)
           clear hK K
           refine norm_ (a' := ?_) ?_ ?_
           rotate_left
           ·show Act.put _ (some 70) _ = _
            simp only [Act.put, sA, s0, s1, i64_w, i32_w]
            rfl
           refine one_ (i := 11) (N := some 71) (tfA 12 5) rfl rfl (one_of HT_.out (by kernel_rfl)) (by decide) (fun K hK => ?_)
           refine goes_ Tryz.func37 (by kernel_rfl) rfl #[.agg #[.string t179, .int .i64 t180, .bool t181, .int .i64 t182, .int .u64 t183, .float .f64 t184, .string t185, .slice Ao43 t186.length co43], .agg #[.string t189, .int .i64 t190, .bool t191, .int .i64 t192, .int .u64 t193, .float .f64 t194, .string t195, .slice Ao44 t196.length co44]] (by rfl) rfl rfl (by (try simp only [List.map_toArray, List.map_cons, List.map_nil]); first | done | rfl | (simp only [List.length_drop, List.length_take]; rfl)) ?_
           with_reducible refine (spec_SameNode.calls kj13 t179 t180 t181 t182 t183 t184 t185 _ _ t186 t189 t190 t191 t192 t193 t194 t195 _ _ t196 true _ ?side1 ?side2 ?side3 ?side4 A27.out).mono ?_
           (case side1 => repeat (first | exact (Kd.R_reads' HO188.out).2.2 | (with_reducible refine Kd.C_alloc ?_ _) | (with_reducible refine Kd.C_drewN ?_ _) | (with_reducible refine Kd.C_drew ?_)))
           (case side2 => exact (Kd.R_reads' HO188.out).2.1)
           (case side3 => repeat (first | exact (Kd.R_reads' HO198.out).2.2 | (with_reducible refine Kd.C_alloc ?_ _) | (with_reducible refine Kd.C_drewN ?_ _) | (with_reducible refine Kd.C_drew ?_)))
           (case side4 => exact (Kd.R_reads' HO198.out).2.1)
           rintro e w45 ⟨rfl, hb⟩
           refine ⟨_, rfl, ?_⟩
           have n0_ := Aside0.mk (Kd.R_below (by (with_reducible repeat (first | apply Kd.R_alloc | apply Kd.R_drewN | apply Kd.R_drew)); exact HO164.out) hb)
           have n1_ := Aside0.mk (Kd.R_below (by (with_reducible repeat (first | apply Kd.R_alloc | apply Kd.R_drewN | apply Kd.R_drew)); exact HO176.out) hb)
           have n2_ := Aside0.mk (Kd.R_below (by (with_reducible repeat (first | apply Kd.R_alloc | apply Kd.R_drewN | apply Kd.R_drew)); exact HO188.out) hb)
           have n3_ := Aside0.mk (Kd.R_below (by (with_reducible repeat (first | apply Kd.R_alloc | apply Kd.R_drewN | apply Kd.R_drew)); exact HO198.out) hb)
           have n4_ := Aside0.mk (blk_below (g := gb166) (o := .cells #[.string t155, .int .i64 t156, .bool t157, .int .i64 t158, .int .u64 t159, .float .f64 t160, .string t161, .slice Ao33 t162.length co33] 35 (0, 0)) (by (with_reducible repeat (first | refine bN ?_ _ | refine bW ?_ | refine bA ?_ _)); exact BK166.out) hb)
           have n5_ := Aside0.mk (blk_below (g := gb178) (o := .cells #[.string t167, .int .i64 t168, .bool t169, .int .i64 t170, .int .u64 t171, .float .f64 t172, .string t173, .slice Ao38 t174.length co38] 35 (0, 0)) (by (with_reducible repeat (first | refine bN ?_ _ | refine bW ?_ | refine bA ?_ _)); exact BK178.out) hb)
           have n6_ := Aside0.mk (below_step belS hb)
           clear HO164
           clear HO176
           clear HO188
           clear HO198
           clear BK166
           clear BK178
           clear HB
           have HO164 := n0_
           have HO176 := n1_
           have HO188 := n2_
           have HO198 := n3_
           have BK166 := n4_
           have BK178 := n5_
           have HB := n6_
           clear n0_ n1_ n2_ n3_ n4_ n5_ n6_
           (try clear hb)
           (try clear hb2)
           (try clear hk)
           (try clear hi)
           refine hK.out _ _ ⟨(blk_cell BK166.out 0).trans rfl, (blk_cell BK166.out 1).trans rfl, (blk_cell BK166.out 2).trans rfl, (blk_cell BK166.out 3).trans rfl, (blk_cell BK166.out 4).trans rfl, (blk_cell BK166.out 5).trans rfl, (blk_cell BK166.out 6).trans rfl, (blk_cell BK166.out 7).trans rfl, (blk_cell BK178.out 0).trans rfl, (blk_cell BK178.out 1).trans rfl, (blk_cell BK178.out 2).trans rfl, (blk_cell BK178.out 3).trans rfl, (blk_cell BK178.out 4).trans rfl, (blk_cell BK178.out 5).trans rfl, (blk_cell BK178.out 6).trans rfl, (blk_cell BK178.out 7).trans rfl⟩ (fun hHeld => ?_)
           clear hK K
           refine norm_ (a' := ?_) ?_ ?_
           rotate_left
           ·show Act.put _ (some 71) _ = _
            simp only [Act.put, sA, s0, s1, i64_w, i32_w]
            rfl
           refine pure_ (i := 12) (N := some 72) (v := ?_) (a' := ?_) (tfA 13 4) rfl rfl (any_of HT_.out (by kernel_rfl)) (fun _ _ _ h => h) (Or.inl ⟨by rfl, ?_⟩) ?_ ?_
           rotate_left
           ·intro w'
            go_simp
            first | with_reducible rfl | (rw [if_neg (by have hz_ := c18; simp only [ByteArray.size_append] at hz_; exact Nat.not_lt.2 hz_)]) | (rw [if_neg (by have hz_ := c19; simp only [ByteArray.size_append] at hz_; exact Nat.not_lt.2 hz_)]) | (rw [if_neg (by have hz_ := c20; simp only [ByteArray.size_append] at hz_; exact Nat.not_lt.2 hz_)])
           rotate_left
           ·simp only [Act.put, sA, s0, s1, i64_w, i32_w]
            rfl
           refine pure_ (i := 13) (N := some 73) (v := ?_) (a' := ?_) (tfA 14 3) rfl rfl (any_of HT_.out (by kernel_rfl)) (fun _ _ _ h => h) (Or.inl ⟨by rfl, ?_⟩) ?_ ?_
           rotate_left
           ·intro w'
            go_simp
            first | with_reducible rfl | (rw [if_neg (by have hz_ := c18; simp only [ByteArray.size_append] at hz_; exact Nat.not_lt.2 hz_)]) | (rw [if_neg (by have hz_ := c19; simp only [ByteArray.size_append] at hz_; exact Nat.not_lt.2 hz_)]) | (rw [if_neg (by have hz_ := c20; simp only [ByteArray.size_append] at hz_; exact Nat.not_lt.2 hz_)])
           rotate_left
           ·simp only [Act.put, sA, s0, s1, i64_w, i32_w]
            rfl
           refine one_ (i := 14) (N := some 74) (tfA 15 2) rfl rfl (one_of HT_.out (by kernel_rfl)) (by decide) (fun K hK => ?_)
           refine goes_ Tryz.func36 (by kernel_rfl) rfl #[] (by rfl) rfl rfl (by (try simp only [List.map_toArray, List.map_cons, List.map_nil]); first | done | rfl | (simp only [List.length_drop, List.length_take]; rfl)) ?_
           with_reducible refine (laws_lives.calls  t200 _ A29.out).mono ?_
           rintro e w46 ⟨rfl, hb⟩
           refine ⟨_, rfl, ?_⟩
           have n0_ := Aside0.mk (Kd.R_below (by (with_reducible repeat (first | apply Kd.R_alloc | apply Kd.R_drewN | apply Kd.R_drew)); exact HO164.out) hb)
           have n1_ := Aside0.mk (Kd.R_below (by (with_reducible repeat (first | apply Kd.R_alloc | apply Kd.R_drewN | apply Kd.R_drew)); exact HO176.out) hb)
           have n2_ := Aside0.mk (Kd.R_below (by (with_reducible repeat (first | apply Kd.R_alloc | apply Kd.R_drewN | apply Kd.R_drew)); exact HO188.out) hb)
           have n3_ := Aside0.mk (Kd.R_below (by (with_reducible repeat (first | apply Kd.R_alloc | apply Kd.R_drewN | apply Kd.R_drew)); exact HO198.out) hb)
           have n4_ := Aside0.mk (blk_below (g := gb166) (o := .cells #[.string t155, .int .i64 t156, .bool t157, .int .i64 t158, .int .u64 t159, .float .f64 t160, .string t161, .slice Ao33 t162.length co33] 35 (0, 0)) (by (with_reducible repeat (first | refine bN ?_ _ | refine bW ?_ | refine bA ?_ _)); exact BK166.out) hb)
           have n5_ := Aside0.mk (blk_below (g := gb178) (o := .cells #[.string t167, .int .i64 t168, .bool t169, .int .i64 t170, .int .u64 t171, .float .f64 t172, .string t173, .slice Ao38 t174.length co38] 35 (0, 0)) (by (with_reducible repeat (first | refine bN ?_ _ | refine bW ?_ | refine bA ?_ _)); exact BK178.out) hb)
           have n6_ := Aside0.mk (below_step belS hb)
           clear HO164
           clear HO176
           clear HO188
           clear HO198
           clear BK166
           clear BK178
           clear HB
           have HO164 := n0_
           have HO176 := n1_
           have HO188 := n2_
           have HO198 := n3_
           have BK166 := n4_
           have BK178 := n5_
           have HB := n6_
           clear n0_ n1_ n2_ n3_ n4_ n5_ n6_
           (try clear hb)
           (try clear hb2)
           (try clear hk)
           (try clear hi)
           refine hK.out _ _ ⟨(blk_cell BK166.out 0).trans rfl, (blk_cell BK166.out 1).trans rfl, (blk_cell BK166.out 2).trans rfl, (blk_cell BK166.out 3).trans rfl, (blk_cell BK166.out 4).trans rfl, (blk_cell BK166.out 5).trans rfl, (blk_cell BK166.out 6).trans rfl, (blk_cell BK166.out 7).trans rfl, (blk_cell BK178.out 0).trans rfl, (blk_cell BK178.out 1).trans rfl, (blk_cell BK178.out 2).trans rfl, (blk_cell BK178.out 3).trans rfl, (blk_cell BK178.out 4).trans rfl, (blk_cell BK178.out 5).trans rfl, (blk_cell BK178.out 6).trans rfl, (blk_cell BK178.out 7).trans rfl⟩ (fun hHeld => ?_)
           clear hK K
           refine norm_ (a' := ?_) ?_ ?_
           rotate_left
           ·show Act.put _ (some 74) _ = _
            simp only [Act.put, sA, s0, s1, i64_w, i32_w]
            rfl
           refine pure_ (i := 15) (N := some 75) (v := ?_) (a' := ?_) (tfA 16 1) rfl rfl (any_of HT_.out (by kernel_rfl)) (fun _ _ _ h => h) (Or.inl ⟨by rfl, ?_⟩) ?_ ?_
           rotate_left
           ·intro w'
            go_simp
            first | with_reducible rfl | (rw [if_neg (by have hz_ := c18; simp only [ByteArray.size_append] at hz_; exact Nat.not_lt.2 hz_)]) | (rw [if_neg (by have hz_ := c19; simp only [ByteArray.size_append] at hz_; exact Nat.not_lt.2 hz_)]) | (rw [if_neg (by have hz_ := c20; simp only [ByteArray.size_append] at hz_; exact Nat.not_lt.2 hz_)])
           rotate_left
           ·simp only [Act.put, sA, s0, s1, i64_w, i32_w]
            rfl
           refine pure_ (i := 16) (N := some 8) (v := ?_) (a' := ?_) (tfA 17 0) rfl rfl (any_of HT_.out (by kernel_rfl)) (fun _ _ _ h => h) (Or.inl ⟨by rfl, ?_⟩) ?_ ?_
           rotate_left
           ·intro w'
            go_simp
            first | with_reducible rfl | (rw [if_neg (by have hz_ := c18; simp only [ByteArray.size_append] at hz_; exact Nat.not_lt.2 hz_)]) | (rw [if_neg (by have hz_ := c19; simp only [ByteArray.size_append] at hz_; exact Nat.not_lt.2 hz_)]) | (rw [if_neg (by have hz_ := c20; simp only [ByteArray.size_append] at hz_; exact Nat.not_lt.2 hz_)])
           rotate_left
           ·simp only [Act.put, sA, s0, s1, i64_w, i32_w]
            rfl
           refine done_ (done_of HT_.out (by kernel_rfl)) ?_
           try go_wp2
           go_ret
           exact ⟨by first | rfl | (simp [errW_none, errW_some] <;> rfl) | (simp [*, errW_none, errW_some] <;> rfl), by repeat (first | (with_reducible first | exact HB.out | apply below_alloc | apply pw_below_drewN | apply below_drew1 | refine below_set ?_ GE166.out | refine below_set ?_ GE178.out) | exact HB.out)⟩
          ·replace c28 := Bool.eq_false_iff.mpr c28
           subst c28
           have H1 : (some false) = some r := by rw [if_neg (show ¬ (false = true) by decide)] at H; exact H
           clear H
           have H := H1
           clear H1
           obtain rfl := Option.some.inj H
           try go_wp2_with (first | (go_at_call 35; (with_reducible refine (impl_CgroupSummary.calls a0 t155 t156 t157 t158 t159 t160 t161 t162 t165 _ A21.out).mono ?_); rintro e w47 ⟨v163, rfl, ho0, hb⟩; have n0_ := Aside0.mk (Kd.R_lower ho0 (below_size belH)); have n1_ := Aside0.mk (below_step belH hb); clear HB; have HO164 := n0_; have HB := n1_; clear n0_ n1_; (try clear hb); (try clear hb2); (try clear hk); (try clear hi); (try clear ho0)) | ((with_reducible refine gate_dst (N := 13) rfl ?_); (try (refine gate_guard (by rfl) ?_; dsimp only)); refine box_event ?hg (N := 13) ?hd (cs := #[.string (⟨#[]⟩ : ByteArray), .int .i64 0, .bool false, .int .i64 0, .int .u64 0, .float .f64 0, .string (⟨#[]⟩ : ByteArray), .slice none 0 0]) (t := 35) ?hr ?_; (case hd => rfl); (case hg => rfl); (case hr => first | (go_simp; done) | (go_simp; rfl)); intro gb166 hg w48 hbox hb; have n0_ := Aside0.mk (Kd.R_below (Kd.R_elderB (by (with_reducible repeat (first | apply Kd.R_alloc | apply Kd.R_drewN | apply Kd.R_drew)); exact HO164.out) gb166 (Nat.le_of_eq hg.symm)) hb); have n1_ := Aside0.mk (below_step belH hb); have n2_ := Aside0.mk (hbox); have n3_ := Aside0.mk ((by rw [hg]; exact (below_size belH) : w.heap.size ≤ gb166)); have n4_ := Aside0.mk ((by rw [hg]; exact (below_size belH) : w.heap.size ≤ gb166)); clear HO164; clear HB; have HO164 := n0_; have HB := n1_; have BK166 := n2_; have GW166 := n3_; have GE166 := n4_; clear n0_ n1_ n2_ n3_ n4_; clear hb hbox hg; have hcz49_0 : w48.cell? ⟨gb166, 0, none⟩ = some (.string (⟨#[]⟩ : ByteArray)) := (blk_cell BK166.out 0).trans rfl; have hcz49_1 : w48.cell? ⟨gb166, 1, none⟩ = some (.int .i64 0) := (blk_cell BK166.out 1).trans rfl; have hcz49_2 : w48.cell? ⟨gb166, 2, none⟩ = some (.bool false) := (blk_cell BK166.out 2).trans rfl; have hcz49_3 : w48.cell? ⟨gb166, 3, none⟩ = some (.int .i64 0) := (blk_cell BK166.out 3).trans rfl; have hcz49_4 : w48.cell? ⟨gb166, 4, none⟩ = some (.int .u64 0) := (blk_cell BK166.out 4).trans rfl; have hcz49_5 : w48.cell? ⟨gb166, 5, none⟩ = some (.float .f64 0) := (blk_cell BK166.out 5).trans rfl; have hcz49_6 : w48.cell? ⟨gb166, 6, none⟩ = some (.string (⟨#[]⟩ : ByteArray)) := (blk_cell BK166.out 6).trans rfl; have hcz49_7 : w48.cell? ⟨gb166, 7, none⟩ = some (.slice none 0 0) := (blk_cell BK166.out 7).trans rfl; have hfz49_0 := blk_frozen BK166.out 0; have hfz49_1 := blk_frozen BK166.out 1; have hfz49_2 := blk_frozen BK166.out 2; have hfz49_3 := blk_frozen BK166.out 3; have hfz49_4 := blk_frozen BK166.out 4; have hfz49_5 := blk_frozen BK166.out 5; have hfz49_6 := blk_frozen BK166.out 6; have hfz49_7 := blk_frozen BK166.out 7; obtain ⟨Ao50, co50, eo50⟩ := Kd.R_slice HO164.out; subst eo50) | (go_at_call 35; (with_reducible refine (impl_CgroupSummary.calls t152 t167 t168 t169 t170 t171 t172 t173 t174 t177 _ A22.out).mono ?_); rintro e w51 ⟨v175, rfl, ho0, hb⟩; have n0_ := Aside0.mk (Kd.R_elder' (by (with_reducible repeat (first | apply Kd.R_alloc | apply Kd.R_drewN | apply Kd.R_drew)); exact (Kd.R_mono (Kd.R_far8 (g := gb166) (Kd.R_mono HO164.out (fun k_ hk => (⟨hk, hk.2⟩ : _ ∧ k_ ≠ gb166))) (fun _ hk => hk.2) (.string t155) (.int .i64 t156) (.bool t157) (.int .i64 t158) (.int .u64 t159) (.float .f64 t160) (.string t161) (.slice Ao50 t162.length co50)) (fun _ h_ => h_.1))) (Kd.R_base ho0) hb); have n1_ := Aside0.mk (Kd.R_lower (Kd.R_newB (Kd.R_new' ho0 (Kd.R_lt (by (with_reducible repeat (first | apply Kd.R_alloc | apply Kd.R_drewN | apply Kd.R_drew)); exact (Kd.R_mono (Kd.R_far8 (g := gb166) (Kd.R_mono HO164.out (fun k_ hk => (⟨hk, hk.2⟩ : _ ∧ k_ ≠ gb166))) (fun _ hk => hk.2) (.string t155) (.int .i64 t156) (.bool t157) (.int .i64 t158) (.int .u64 t159) (.float .f64 t160) (.string t161) (.slice Ao50 t162.length co50)) (fun _ h_ => h_.1))))) (g := gb166) (o := .cells #[.string t155, .int .i64 t156, .bool t157, .int .i64 t158, .int .u64 t159, .float .f64 t160, .string t161, .slice Ao50 t162.length co50] 35 (0, 0)) (by (with_reducible repeat (first | refine bN ?_ _ | refine bW ?_ | refine bA ?_ _)); exact blk_put8 BK166.out)) (below_size belS)); have n2_ := Aside0.mk (blk_below (g := gb166) (o := .cells #[.string t155, .int .i64 t156, .bool t157, .int .i64 t158, .int .u64 t159, .float .f64 t160, .string t161, .slice Ao50 t162.length co50] 35 (0, 0)) (by (with_reducible repeat (first | refine bN ?_ _ | refine bW ?_ | refine bA ?_ _)); exact blk_put8 BK166.out) hb); have n3_ := Aside0.mk (below_step belS hb); clear HO164; clear BK166; clear HB; have HO164 := n0_; have HO176 := n1_; have BK166 := n2_; have HB := n3_; clear n0_ n1_ n2_ n3_; (try clear hb); (try clear hb2); (try clear hk); (try clear hi); (try clear ho0)) | ((with_reducible refine gate_dst (N := 15) rfl ?_); (try (refine gate_guard (by rfl) ?_; dsimp only)); refine box_event ?hg (N := 15) ?hd (cs := #[.string (⟨#[]⟩ : ByteArray), .int .i64 0, .bool false, .int .i64 0, .int .u64 0, .float .f64 0, .string (⟨#[]⟩ : ByteArray), .slice none 0 0]) (t := 35) ?hr ?_; (case hd => rfl); (case hg => rfl); (case hr => first | (go_simp; done) | (go_simp; rfl)); intro gb178 hg w52 hbox hb; have n0_ := Aside0.mk (Kd.R_below (Kd.R_elderB (by (with_reducible repeat (first | apply Kd.R_alloc | apply Kd.R_drewN | apply Kd.R_drew)); exact HO164.out) gb178 (Nat.le_of_eq hg.symm)) hb); have n1_ := Aside0.mk (Kd.R_below (Kd.R_elderB (by (with_reducible repeat (first | apply Kd.R_alloc | apply Kd.R_drewN | apply Kd.R_drew)); exact HO176.out) gb178 (Nat.le_of_eq hg.symm)) hb); have n2_ := Aside0.mk (blk_below (g := gb166) (o := .cells #[.string t155, .int .i64 t156, .bool t157, .int .i64 t158, .int .u64 t159, .float .f64 t160, .string t161, .slice Ao50 t162.length co50] 35 (0, 0)) (by (with_reducible repeat (first | refine bN ?_ _ | refine bW ?_ | refine bA ?_ _)); exact BK166.out) hb); have n3_ := Aside0.mk (below_step belS hb); have n4_ := Aside0.mk (hbox); have n5_ := Aside0.mk ((by rw [hg]; exact (below_size belS) : w.heap.size ≤ gb178)); have n6_ := Aside0.mk ((by rw [hg]; exact (below_size belS) : w.heap.size ≤ gb178)); have n7_ := Aside0.mk ((by rw [hg]; exact Nat.ne_of_lt (blk_lt (g := gb166) (o := .cells #[.string t155, .int .i64 t156, .bool t157, .int .i64 t158, .int .u64 t159, .float .f64 t160, .string t161, .slice Ao50 t162.length co50] 35 (0, 0)) (by (with_reducible repeat (first | refine bN ?_ _ | refine bW ?_ | refine bA ?_ _)); exact BK166.out)) : gb166 ≠ gb178)); have n8_ := Aside0.mk ((by rw [hg]; exact Nat.ne_of_gt (blk_lt (g := gb166) (o := .cells #[.string t155, .int .i64 t156, .bool t157, .int .i64 t158, .int .u64 t159, .float .f64 t160, .string t161, .slice Ao50 t162.length co50] 35 (0, 0)) (by (with_reducible repeat (first | refine bN ?_ _ | refine bW ?_ | refine bA ?_ _)); exact BK166.out)) : gb178 ≠ gb166)); clear HO164; clear HO176; clear BK166; clear HB; have HO164 := n0_; have HO176 := n1_; have BK166 := n2_; have HB := n3_; have BK178 := n4_; have GW178 := n5_; have GE178 := n6_; have NB166_178 := n7_; have NB178_166 := n8_; clear n0_ n1_ n2_ n3_ n4_ n5_ n6_ n7_ n8_; clear hb hbox hg; have hnb53 := NB178_166.out; have hnc53 := NB166_178.out; have hcz54_0 : w52.cell? ⟨gb178, 0, none⟩ = some (.string (⟨#[]⟩ : ByteArray)) := (blk_cell BK178.out 0).trans rfl; have hcz54_1 : w52.cell? ⟨gb178, 1, none⟩ = some (.int .i64 0) := (blk_cell BK178.out 1).trans rfl; have hcz54_2 : w52.cell? ⟨gb178, 2, none⟩ = some (.bool false) := (blk_cell BK178.out 2).trans rfl; have hcz54_3 : w52.cell? ⟨gb178, 3, none⟩ = some (.int .i64 0) := (blk_cell BK178.out 3).trans rfl; have hcz54_4 : w52.cell? ⟨gb178, 4, none⟩ = some (.int .u64 0) := (blk_cell BK178.out 4).trans rfl; have hcz54_5 : w52.cell? ⟨gb178, 5, none⟩ = some (.float .f64 0) := (blk_cell BK178.out 5).trans rfl; have hcz54_6 : w52.cell? ⟨gb178, 6, none⟩ = some (.string (⟨#[]⟩ : ByteArray)) := (blk_cell BK178.out 6).trans rfl; have hcz54_7 : w52.cell? ⟨gb178, 7, none⟩ = some (.slice none 0 0) := (blk_cell BK178.out 7).trans rfl; have hfz54_0 := blk_frozen BK178.out 0; have hfz54_1 := blk_frozen BK178.out 1; have hfz54_2 := blk_frozen BK178.out 2; have hfz54_3 := blk_frozen BK178.out 3; have hfz54_4 := blk_frozen BK178.out 4; have hfz54_5 := blk_frozen BK178.out 5; have hfz54_6 := blk_frozen BK178.out 6; have hfz54_7 := blk_frozen BK178.out 7; obtain ⟨Ao55, co55, eo55⟩ := Kd.R_slice HO176.out; subst eo55))
           have n0_ : Aside0 (Kd.R k35 35 ((((((((w52.setCell ⟨gb178, 0, none⟩ (.string t167)).setCell ⟨gb178, 1, none⟩ (.int .i64 t168)).setCell ⟨gb178, 2, none⟩ (.bool t169)).setCell ⟨gb178, 3, none⟩ (.int .i64 t170)).setCell ⟨gb178, 4, none⟩ (.int .u64 t171)).setCell ⟨gb178, 5, none⟩ (.float .f64 t172)).setCell ⟨gb178, 6, none⟩ (.string t173)).setCell ⟨gb178, 7, none⟩ (.slice Ao55 t174.length co55)) w.heap.size (fun k_ => some k_ ≠ (.slice Ao55 t174.length co55 : Value).ownBlock ∧ k_ ≠ gb166 ∧ k_ ≠ gb178) (.slice Ao50 t162.length co50) t162) := ⟨by (with_reducible repeat (first | apply Kd.R_alloc | apply Kd.R_drewN | apply Kd.R_drew)); exact Kd.R_mono (Kd.R_far8 (g := gb178) (Kd.R_mono HO164.out (fun k_ hk => (⟨hk, hk.2⟩ : _ ∧ k_ ≠ gb178))) (fun _ hk => hk.2) (.string t167) (.int .i64 t168) (.bool t169) (.int .i64 t170) (.int .u64 t171) (.float .f64 t172) (.string t173) (.slice Ao55 t174.length co55)) (fun _ hk => ⟨hk.1.1.2, ⟨hk.1.1.1.2, hk.1.2⟩⟩)⟩
           have n1_ : Aside0 (Kd.R k35 35 ((((((((w52.setCell ⟨gb178, 0, none⟩ (.string t167)).setCell ⟨gb178, 1, none⟩ (.int .i64 t168)).setCell ⟨gb178, 2, none⟩ (.bool t169)).setCell ⟨gb178, 3, none⟩ (.int .i64 t170)).setCell ⟨gb178, 4, none⟩ (.int .u64 t171)).setCell ⟨gb178, 5, none⟩ (.float .f64 t172)).setCell ⟨gb178, 6, none⟩ (.string t173)).setCell ⟨gb178, 7, none⟩ (.slice Ao55 t174.length co55)) w.heap.size (fun k_ => some k_ ≠ (.slice Ao50 t162.length co50 : Value).ownBlock ∧ k_ ≠ gb166 ∧ k_ ≠ gb178) (.slice Ao55 t174.length co55) t174) := ⟨by (with_reducible repeat (first | apply Kd.R_alloc | apply Kd.R_drewN | apply Kd.R_drew)); exact Kd.R_mono (Kd.R_far8 (g := gb178) (Kd.R_mono HO176.out (fun k_ hk => (⟨hk, hk.2⟩ : _ ∧ k_ ≠ gb178))) (fun _ hk => hk.2) (.string t167) (.int .i64 t168) (.bool t169) (.int .i64 t170) (.int .u64 t171) (.float .f64 t172) (.string t173) (.slice Ao55 t174.length co55)) (fun _ hk => ⟨hk.1.1.1.2, ⟨hk.1.1.2, hk.1.2⟩⟩)⟩
           have n2_ : Aside0 (((((((((w52.setCell ⟨gb178, 0, none⟩ (.string t167)).setCell ⟨gb178, 1, none⟩ (.int .i64 t168)).setCell ⟨gb178, 2, none⟩ (.bool t169)).setCell ⟨gb178, 3, none⟩ (.int .i64 t170)).setCell ⟨gb178, 4, none⟩ (.int .u64 t171)).setCell ⟨gb178, 5, none⟩ (.float .f64 t172)).setCell ⟨gb178, 6, none⟩ (.string t173)).setCell ⟨gb178, 7, none⟩ (.slice Ao55 t174.length co55)).heap[gb166]? = some (.cells #[.string t155, .int .i64 t156, .bool t157, .int .i64 t158, .int .u64 t159, .float .f64 t160, .string t161, .slice Ao50 t162.length co50] 35 (0, 0))) := ⟨by (with_reducible repeat (first | refine bN ?_ _ | refine bW ?_ | refine bA ?_ _)); refine blk_far ?_ NB166_178.out _; (with_reducible repeat (first | refine bN ?_ _ | refine bW ?_ | refine bA ?_ _)); refine blk_far ?_ NB166_178.out _; (with_reducible repeat (first | refine bN ?_ _ | refine bW ?_ | refine bA ?_ _)); refine blk_far ?_ NB166_178.out _; (with_reducible repeat (first | refine bN ?_ _ | refine bW ?_ | refine bA ?_ _)); refine blk_far ?_ NB166_178.out _; (with_reducible repeat (first | refine bN ?_ _ | refine bW ?_ | refine bA ?_ _)); refine blk_far ?_ NB166_178.out _; (with_reducible repeat (first | refine bN ?_ _ | refine bW ?_ | refine bA ?_ _)); refine blk_far ?_ NB166_178.out _; (with_reducible repeat (first | refine bN ?_ _ | refine bW ?_ | refine bA ?_ _)); refine blk_far ?_ NB166_178.out _; (with_reducible repeat (first | refine bN ?_ _ | refine bW ?_ | refine bA ?_ _)); refine blk_far ?_ NB166_178.out _; (with_reducible repeat (first | refine bN ?_ _ | refine bW ?_ | refine bA ?_ _)); exact BK166.out⟩
           have n3_ : Aside0 (((((((((w52.setCell ⟨gb178, 0, none⟩ (.string t167)).setCell ⟨gb178, 1, none⟩ (.int .i64 t168)).setCell ⟨gb178, 2, none⟩ (.bool t169)).setCell ⟨gb178, 3, none⟩ (.int .i64 t170)).setCell ⟨gb178, 4, none⟩ (.int .u64 t171)).setCell ⟨gb178, 5, none⟩ (.float .f64 t172)).setCell ⟨gb178, 6, none⟩ (.string t173)).setCell ⟨gb178, 7, none⟩ (.slice Ao55 t174.length co55)).heap[gb178]? = some (.cells #[.string t167, .int .i64 t168, .bool t169, .int .i64 t170, .int .u64 t171, .float .f64 t172, .string t173, .slice Ao55 t174.length co55] 35 (0, 0))) := ⟨by (with_reducible repeat (first | refine bN ?_ _ | refine bW ?_ | refine bA ?_ _)); exact blk_put8 BK178.out⟩
           have n4_ : Aside0 (Below w.heap.size w ((((((((w52.setCell ⟨gb178, 0, none⟩ (.string t167)).setCell ⟨gb178, 1, none⟩ (.int .i64 t168)).setCell ⟨gb178, 2, none⟩ (.bool t169)).setCell ⟨gb178, 3, none⟩ (.int .i64 t170)).setCell ⟨gb178, 4, none⟩ (.int .u64 t171)).setCell ⟨gb178, 5, none⟩ (.float .f64 t172)).setCell ⟨gb178, 6, none⟩ (.string t173)).setCell ⟨gb178, 7, none⟩ (.slice Ao55 t174.length co55))) := ⟨by repeat (first | (with_reducible first | exact HB.out | apply below_alloc | apply pw_below_drewN | apply below_drew1 | refine below_set ?_ GE166.out | refine below_set ?_ GE178.out) | exact HB.out)⟩
           (try clear HO164)
           (try clear HO176)
           (try clear BK166)
           (try clear BK178)
           (try clear HB)
           generalize ((((((((w52.setCell ⟨gb178, 0, none⟩ (.string t167)).setCell ⟨gb178, 1, none⟩ (.int .i64 t168)).setCell ⟨gb178, 2, none⟩ (.bool t169)).setCell ⟨gb178, 3, none⟩ (.int .i64 t170)).setCell ⟨gb178, 4, none⟩ (.int .u64 t171)).setCell ⟨gb178, 5, none⟩ (.float .f64 t172)).setCell ⟨gb178, 6, none⟩ (.string t173)).setCell ⟨gb178, 7, none⟩ (.slice Ao55 t174.length co55)) = w56 at n0_ n1_ n2_ n3_ n4_ ⊢
           have HO164 := n0_
           have HO176 := n1_
           have BK166 := n2_
           have BK178 := n3_
           have HB := n4_
           clear n0_ n1_ n2_ n3_ n4_
           have n0_ := Aside0.mk (Kd.R_drew HO164.out)
           have n1_ := Aside0.mk (Kd.R_drew HO176.out)
           have n2_ := Aside0.mk (blk_drew BK166.out)
           have n3_ := Aside0.mk (blk_drew BK178.out)
           have n4_ := Aside0.mk (below_drew1 HB.out)
           clear HO164
           clear HO176
           clear BK166
           clear BK178
           clear HB
           have HO164 := n0_
           have HO176 := n1_
           have BK166 := n2_
           have BK178 := n3_
           have HB := n4_
           clear n0_ n1_ n2_ n3_ n4_
           refine start_ (n := 17) (S := fun w' => w'.cell? ⟨gb166, 0, none⟩ = some (.string t155) ∧ w'.cell? ⟨gb166, 1, none⟩ = some (.int .i64 t156) ∧ w'.cell? ⟨gb166, 2, none⟩ = some (.bool t157) ∧ w'.cell? ⟨gb166, 3, none⟩ = some (.int .i64 t158) ∧ w'.cell? ⟨gb166, 4, none⟩ = some (.int .u64 t159) ∧ w'.cell? ⟨gb166, 5, none⟩ = some (.float .f64 t160) ∧ w'.cell? ⟨gb166, 6, none⟩ = some (.string t161) ∧ w'.cell? ⟨gb166, 7, none⟩ = some (.slice Ao50 t162.length co50) ∧ w'.cell? ⟨gb178, 0, none⟩ = some (.string t167) ∧ w'.cell? ⟨gb178, 1, none⟩ = some (.int .i64 t168) ∧ w'.cell? ⟨gb178, 2, none⟩ = some (.bool t169) ∧ w'.cell? ⟨gb178, 3, none⟩ = some (.int .i64 t170) ∧ w'.cell? ⟨gb178, 4, none⟩ = some (.int .u64 t171) ∧ w'.cell? ⟨gb178, 5, none⟩ = some (.float .f64 t172) ∧ w'.cell? ⟨gb178, 6, none⟩ = some (.string t173) ∧ w'.cell? ⟨gb178, 7, none⟩ = some (.slice Ao55 t174.length co55)) (ds := []) (tfA 0 17) (by kernel_rfl) rfl rfl ⟨(blk_cell BK166.out 0).trans rfl, (blk_cell BK166.out 1).trans rfl, (blk_cell BK166.out 2).trans rfl, (blk_cell BK166.out 3).trans rfl, (blk_cell BK166.out 4).trans rfl, (blk_cell BK166.out 5).trans rfl, (blk_cell BK166.out 6).trans rfl, (blk_cell BK166.out 7).trans rfl, (blk_cell BK178.out 0).trans rfl, (blk_cell BK178.out 1).trans rfl, (blk_cell BK178.out 2).trans rfl, (blk_cell BK178.out 3).trans rfl, (blk_cell BK178.out 4).trans rfl, (blk_cell BK178.out 5).trans rfl, (blk_cell BK178.out 6).trans rfl, (blk_cell BK178.out 7).trans rfl⟩ (fun hHeld => ?_); refine with_tabW laws_normal__CgroupSummary.tab11 laws_normal__CgroupSummary.bits11 (fun HT_ HW_ => ?_)
           generalize w56.drew = w57 at HO164 HO176 BK166 BK178 HB hHeld ⊢
           refine pure_ (i := 0) (N := some 60) (v := ?_) (a' := ?_) (tfA 1 16) rfl rfl (any_of HT_.out (by kernel_rfl)) (fun _ _ _ h => h) (Or.inl ⟨by rfl, ?_⟩) ?_ ?_
           rotate_left
           ·intro w'
            go_simp
            first | with_reducible rfl | (rw [if_neg (by have hz_ := c18; simp only [ByteArray.size_append] at hz_; exact Nat.not_lt.2 hz_)]) | (rw [if_neg (by have hz_ := c19; simp only [ByteArray.size_append] at hz_; exact Nat.not_lt.2 hz_)]) | (rw [if_neg (by have hz_ := c20; simp only [ByteArray.size_append] at hz_; exact Nat.not_lt.2 hz_)])
           rotate_left
           ·simp only [Act.put, sA, s0, s1, i64_w, i32_w]
            rfl
           refine pure_ (i := 1) (N := some 61) (v := ?_) (a' := ?_) (tfA 2 15) rfl rfl (any_of HT_.out (by kernel_rfl)) (fun _ _ _ h => h) (Or.inl ⟨by rfl, ?_⟩) ?_ ?_
           rotate_left
           ·intro w'
            go_simp
            first | with_reducible rfl | (rw [if_neg (by have hz_ := c18; simp only [ByteArray.size_append] at hz_; exact Nat.not_lt.2 hz_)]) | (rw [if_neg (by have hz_ := c19; simp only [ByteArray.size_append] at hz_; exact Nat.not_lt.2 hz_)]) | (rw [if_neg (by have hz_ := c20; simp only [ByteArray.size_append] at hz_; exact Nat.not_lt.2 hz_)])
           rotate_left
           ·simp only [Act.put, sA, s0, s1, i64_w, i32_w]
            rfl
           refine pure_ (i := 2) (N := some 62) (v := ?_) (a' := ?_) (tfA 3 14) rfl rfl (any_of HT_.out (by kernel_rfl)) (fun _ _ _ h => h) (Or.inl ⟨by rfl, ?_⟩) ?_ ?_
           rotate_left
           ·intro w'
            go_simp
            first | with_reducible rfl | (rw [if_neg (by have hz_ := c18; simp only [ByteArray.size_append] at hz_; exact Nat.not_lt.2 hz_)]) | (rw [if_neg (by have hz_ := c19; simp only [ByteArray.size_append] at hz_; exact Nat.not_lt.2 hz_)]) | (rw [if_neg (by have hz_ := c20; simp only [ByteArray.size_append] at hz_; exact Nat.not_lt.2 hz_)])
           rotate_left
           ·simp only [Act.put, sA, s0, s1, i64_w, i32_w]
            rfl
           refine pure_ (i := 3) (N := some 63) (v := ?_) (a' := ?_) (tfA 4 13) rfl rfl (any_of HT_.out (by kernel_rfl)) (fun _ _ _ h => h) (Or.inl ⟨by rfl, ?_⟩) ?_ ?_
           rotate_left
           ·intro w'
            go_simp
            first | with_reducible rfl | (rw [if_neg (by have hz_ := c18; simp only [ByteArray.size_append] at hz_; exact Nat.not_lt.2 hz_)]) | (rw [if_neg (by have hz_ := c19; simp only [ByteArray.size_append] at hz_; exact Nat.not_lt.2 hz_)]) | (rw [if_neg (by have hz_ := c20; simp only [ByteArray.size_append] at hz_; exact Nat.not_lt.2 hz_)])
           rotate_left
           ·simp only [Act.put, sA, s0, s1, i64_w, i32_w]
            rfl
           refine pure_ (i := 4) (N := some 64) (v := ?_) (a' := ?_) (tfA 5 12) rfl rfl (any_of HT_.out (by kernel_rfl)) (fun _ _ _ h => h) (Or.inl ⟨by rfl, ?_⟩) ?_ ?_
           rotate_left
           ·intro w'
            go_simp
            first | with_reducible rfl | (rw [if_neg (by have hz_ := c18; simp only [ByteArray.size_append] at hz_; exact Nat.not_lt.2 hz_)]) | (rw [if_neg (by have hz_ := c19; simp only [ByteArray.size_append] at hz_; exact Nat.not_lt.2 hz_)]) | (rw [if_neg (by have hz_ := c20; simp only [ByteArray.size_append] at hz_; exact Nat.not_lt.2 hz_)])
           rotate_left
           ·simp only [Act.put, sA, s0, s1, i64_w, i32_w]
            rfl
           refine pure_ (i := 5) (N := some 65) (v := ?_) (a' := ?_) (tfA 6 11) rfl rfl (any_of HT_.out (by kernel_rfl)) (fun _ _ _ h => h) (Or.inl ⟨by rfl, ?_⟩) ?_ ?_
           rotate_left
           ·intro w'
            go_simp
            first | with_reducible rfl | (rw [if_neg (by have hz_ := c18; simp only [ByteArray.size_append] at hz_; exact Nat.not_lt.2 hz_)]) | (rw [if_neg (by have hz_ := c19; simp only [ByteArray.size_append] at hz_; exact Nat.not_lt.2 hz_)]) | (rw [if_neg (by have hz_ := c20; simp only [ByteArray.size_append] at hz_; exact Nat.not_lt.2 hz_)])
           rotate_left
           ·simp only [Act.put, sA, s0, s1, i64_w, i32_w]
            rfl
           refine pure_ (i := 6) (N := some 66) (v := ?_) (a' := ?_) (tfA 7 10) rfl rfl (any_of HT_.out (by kernel_rfl)) (fun _ _ _ h => h) (Or.inl ⟨by rfl, ?_⟩) ?_ ?_
           rotate_left
           ·intro w'
            go_simp
            first | with_reducible rfl | (rw [if_neg (by have hz_ := c18; simp only [ByteArray.size_append] at hz_; exact Nat.not_lt.2 hz_)]) | (rw [if_neg (by have hz_ := c19; simp only [ByteArray.size_append] at hz_; exact Nat.not_lt.2 hz_)]) | (rw [if_neg (by have hz_ := c20; simp only [ByteArray.size_append] at hz_; exact Nat.not_lt.2 hz_)])
           rotate_left
           ·simp only [Act.put, sA, s0, s1, i64_w, i32_w]
            rfl
           refine take_ (i := 7) (N := some 67) (v := ?_) (a' := ?_) (tfA 8 9) rfl rfl (take_ofW HT_.out HW_.out (by kernel_rfl)) (fun _ _ _ h => h) (Or.inl ⟨by rfl, ?_⟩) hHeld ?_ ?_
           rotate_left
           ·rintro w' ⟨s0, s1, s2, s3, s4, s5, s6, s7, s8, s9, s10, s11, s12, s13, s14, s15⟩
            go_simp
            first | with_reducible rfl | (rw [if_neg (by have hz_ := c18; simp only [ByteArray.size_append] at hz_; exact Nat.not_lt.2 hz_)]) | (rw [if_neg (by have hz_ := c19; simp only [ByteArray.size_append] at hz_; exact Nat.not_lt.2 hz_)]) | (rw [if_neg (by have hz_ := c20; simp only [ByteArray.size_append] at hz_; exact Nat.not_lt.2 hz_)])
           rotate_left
           ·simp only [Act.put, sA, s0, s1, i64_w, i32_w]
            rfl
           refine take_ (i := 9) (N := some 69) (v := ?_) (a' := ?_) (bnA 17 767) rfl rfl (take_ofW HT_.out HW_.out (by kernel_rfl)) (fun _ _ _ h => h) (Or.inl ⟨by rfl, ?_⟩) hHeld ?_ ?_
           rotate_left
           ·rintro w' ⟨s0, s1, s2, s3, s4, s5, s6, s7, s8, s9, s10, s11, s12, s13, s14, s15⟩
            go_simp
            first | with_reducible rfl | (rw [if_neg (by have hz_ := c18; simp only [ByteArray.size_append] at hz_; exact Nat.not_lt.2 hz_)]) | (rw [if_neg (by have hz_ := c19; simp only [ByteArray.size_append] at hz_; exact Nat.not_lt.2 hz_)]) | (rw [if_neg (by have hz_ := c20; simp only [ByteArray.size_append] at hz_; exact Nat.not_lt.2 hz_)])
           rotate_left
           ·simp only [Act.put, sA, s0, s1, i64_w, i32_w]
            rfl
           refine one_ (i := 8) (N := some 68) (tfA 10 7) rfl rfl (one_of HT_.out (by kernel_rfl)) (by decide) (fun K hK => ?_)
           refine goes_ Tryz.func38 (by kernel_rfl) rfl #[.agg #[.string t155, .int .i64 t156, .bool t157, .int .i64 t158, .int .u64 t159, .float .f64 t160, .string t161, .slice Ao50 t162.length co50]] (by rfl) rfl rfl (by (try simp only [List.map_toArray, List.map_cons, List.map_nil]); first | done | rfl | (simp only [List.length_drop, List.length_take]; rfl)) ?_
           with_reducible refine (laws_toNode.calls kj13 t155 t156 t157 t158 t159 t160 t161 _ _ t162 t179 t180 t181 t182 t183 t184 t185 t186 _ ?side1 ?side2 A25.out).mono ?_
           (case side1 => repeat (first | exact (Kd.R_reads' HO164.out).2.2 | (with_reducible refine Kd.C_alloc ?_ _) | (with_reducible refine Kd.C_drewN ?_ _) | (with_reducible refine Kd.C_drew ?_)))
           (case side2 => exact (Kd.R_reads' HO164.out).2.1)
           rintro e w58 ⟨v187, rfl, ho0, hb⟩
           refine ⟨_, rfl, ?_⟩
           have n0_ := Aside0.mk (Kd.R_below (by (with_reducible repeat (first | apply Kd.R_alloc | apply Kd.R_drewN | apply Kd.R_drew)); exact HO164.out) hb)
           have n1_ := Aside0.mk (Kd.R_below (by (with_reducible repeat (first | apply Kd.R_alloc | apply Kd.R_drewN | apply Kd.R_drew)); exact HO176.out) hb)
           have n2_ := Aside0.mk (Kd.R_lower ho0 (below_size belS))
           have n3_ := Aside0.mk (blk_below (g := gb166) (o := .cells #[.string t155, .int .i64 t156, .bool t157, .int .i64 t158, .int .u64 t159, .float .f64 t160, .string t161, .slice Ao50 t162.length co50] 35 (0, 0)) (by (with_reducible repeat (first | refine bN ?_ _ | refine bW ?_ | refine bA ?_ _)); exact BK166.out) hb)
           have n4_ := Aside0.mk (blk_below (g := gb178) (o := .cells #[.string t167, .int .i64 t168, .bool t169, .int .i64 t170, .int .u64 t171, .float .f64 t172, .string t173, .slice Ao55 t174.length co55] 35 (0, 0)) (by (with_reducible repeat (first | refine bN ?_ _ | refine bW ?_ | refine bA ?_ _)); exact BK178.out) hb)
           have n5_ := Aside0.mk (below_step belS hb)
           clear HO164
           clear HO176
           clear BK166
           clear BK178
           clear HB
           have HO164 := n0_
           have HO176 := n1_
           have HO188 := n2_
           have BK166 := n3_
           have BK178 := n4_
           have HB := n5_
           clear n0_ n1_ n2_ n3_ n4_ n5_
           (try clear hb)
           (try clear hb2)
           (try clear hk)
           (try clear hi)
           (try clear ho0)
           refine hK.out _ _ ⟨(blk_cell BK166.out 0).trans rfl, (blk_cell BK166.out 1).trans rfl, (blk_cell BK166.out 2).trans rfl, (blk_cell BK166.out 3).trans rfl, (blk_cell BK166.out 4).trans rfl, (blk_cell BK166.out 5).trans rfl, (blk_cell BK166.out 6).trans rfl, (blk_cell BK166.out 7).trans rfl, (blk_cell BK178.out 0).trans rfl, (blk_cell BK178.out 1).trans rfl, (blk_cell BK178.out 2).trans rfl, (blk_cell BK178.out 3).trans rfl, (blk_cell BK178.out 4).trans rfl, (blk_cell BK178.out 5).trans rfl, (blk_cell BK178.out 6).trans rfl, (blk_cell BK178.out 7).trans rfl⟩ (fun hHeld => ?_)
           clear hK K
           refine norm_ (a' := ?_) ?_ ?_
           rotate_left
           ·show Act.put _ (some 68) _ = _
            simp only [Act.put, sA, s0, s1, i64_w, i32_w]
            rfl
           refine one_ (i := 10) (N := some 70) (tfA 11 6) rfl rfl (one_of HT_.out (by kernel_rfl)) (by decide) (fun K hK => ?_)
           refine goes_ Tryz.func38 (by kernel_rfl) rfl #[.agg #[.string t167, .int .i64 t168, .bool t169, .int .i64 t170, .int .u64 t171, .float .f64 t172, .string t173, .slice Ao55 t174.length co55]] (by rfl) rfl rfl (by (try simp only [List.map_toArray, List.map_cons, List.map_nil]); first | done | rfl | (simp only [List.length_drop, List.length_take]; rfl)) ?_
           with_reducible refine (laws_toNode.calls kj13 t167 t168 t169 t170 t171 t172 t173 _ _ t174 t189 t190 t191 t192 t193 t194 t195 t196 _ ?side1 ?side2 A26.out).mono ?_
           (case side1 => repeat (first | exact (Kd.R_reads' HO176.out).2.2 | (with_reducible refine Kd.C_alloc ?_ _) | (with_reducible refine Kd.C_drewN ?_ _) | (with_reducible refine Kd.C_drew ?_)))
           (case side2 => exact (Kd.R_reads' HO176.out).2.1)
           rintro e w59 ⟨v197, rfl, ho0, hb⟩
           refine ⟨_, rfl, ?_⟩
           have n0_ := Aside0.mk (Kd.R_below (by (with_reducible repeat (first | apply Kd.R_alloc | apply Kd.R_drewN | apply Kd.R_drew)); exact HO164.out) hb)
           have n1_ := Aside0.mk (Kd.R_below (by (with_reducible repeat (first | apply Kd.R_alloc | apply Kd.R_drewN | apply Kd.R_drew)); exact HO176.out) hb)
           have n2_ := Aside0.mk (Kd.R_elder' (by (with_reducible repeat (first | apply Kd.R_alloc | apply Kd.R_drewN | apply Kd.R_drew)); exact HO188.out) (Kd.R_base ho0) hb)
           have n3_ := Aside0.mk (Kd.R_lower (Kd.R_new' ho0 (Kd.R_lt (by (with_reducible repeat (first | apply Kd.R_alloc | apply Kd.R_drewN | apply Kd.R_drew)); exact HO188.out))) (below_size belS))
           have n4_ := Aside0.mk (blk_below (g := gb166) (o := .cells #[.string t155, .int .i64 t156, .bool t157, .int .i64 t158, .int .u64 t159, .float .f64 t160, .string t161, .slice Ao50 t162.length co50] 35 (0, 0)) (by (with_reducible repeat (first | refine bN ?_ _ | refine bW ?_ | refine bA ?_ _)); exact BK166.out) hb)
           have n5_ := Aside0.mk (blk_below (g := gb178) (o := .cells #[.string t167, .int .i64 t168, .bool t169, .int .i64 t170, .int .u64 t171, .float .f64 t172, .string t173, .slice Ao55 t174.length co55] 35 (0, 0)) (by (with_reducible repeat (first | refine bN ?_ _ | refine bW ?_ | refine bA ?_ _)); exact BK178.out) hb)
           have n6_ := Aside0.mk (below_step belS hb)
           clear HO164
           clear HO176
           clear HO188
           clear BK166
           clear BK178
           clear HB
           have HO164 := n0_
           have HO176 := n1_
           have HO188 := n2_
           have HO198 := n3_
           have BK166 := n4_
           have BK178 := n5_
           have HB := n6_
           clear n0_ n1_ n2_ n3_ n4_ n5_ n6_
           (try clear hb)
           (try clear hb2)
           (try clear hk)
           (try clear hi)
           (try clear ho0)
           obtain ⟨Ao60, co60, eo60⟩ := Kd.R_slice HO188.out
           (first | subst eo60 | (injection eo60 with f1_ f2_ f3_; have f4_ := f1_.symm; have f5_ := f3_.symm; clear f1_ f2_ f3_; subst f4_; subst f5_))
           obtain ⟨Ao61, co61, eo61⟩ := Kd.R_slice HO198.out
           (first | subst eo61 | (injection eo61 with f1_ f2_ f3_; have f4_ := f1_.symm; have f5_ := f3_.symm; clear f1_ f2_ f3_; subst f4_; subst f5_))
           refine hK.out _ _ ⟨(blk_cell BK166.out 0).trans rfl, (blk_cell BK166.out 1).trans rfl, (blk_cell BK166.out 2).trans rfl, (blk_cell BK166.out 3).trans rfl, (blk_cell BK166.out 4).trans rfl, (blk_cell BK166.out 5).trans rfl, (blk_cell BK166.out 6).trans rfl, (blk_cell BK166.out 7).trans rfl, (blk_cell BK178.out 0).trans rfl, (blk_cell BK178.out 1).trans rfl, (blk_cell BK178.out 2).trans rfl, (blk_cell BK178.out 3).trans rfl, (blk_cell BK178.out 4).trans rfl, (blk_cell BK178.out 5).trans rfl, (blk_cell BK178.out 6).trans rfl, (blk_cell BK178.out 7).trans rfl⟩ (fun hHeld => ?_)
           clear hK K
           refine norm_ (a' := ?_) ?_ ?_
           rotate_left
           ·show Act.put _ (some 70) _ = _
            simp only [Act.put, sA, s0, s1, i64_w, i32_w]
            rfl
           refine one_ (i := 11) (N := some 71) (tfA 12 5) rfl rfl (one_of HT_.out (by kernel_rfl)) (by decide) (fun K hK => ?_)
           refine goes_ Tryz.func37 (by kernel_rfl) rfl #[.agg #[.string t179, .int .i64 t180, .bool t181, .int .i64 t182, .int .u64 t183, .float .f64 t184, .string t185, .slice Ao60 t186.length co60], .agg #[.string t189, .int .i64 t190, .bool t191, .int .i64 t192, .int .u64 t193, .float .f64 t194, .string t195, .slice Ao61 t196.length co61]] (by rfl) rfl rfl (by (try simp only [List.map_toArray, List.map_cons, List.map_nil]); first | done | rfl | (simp only [List.length_drop, List.length_take]; rfl)) ?_
           with_reducible refine (spec_SameNode.calls kj13 t179 t180 t181 t182 t183 t184 t185 _ _ t186 t189 t190 t191 t192 t193 t194 t195 _ _ t196 false _ ?side1 ?side2 ?side3 ?side4 A27.out).mono ?_
           (case side1 => repeat (first | exact (Kd.R_reads' HO188.out).2.2 | (with_reducible refine Kd.C_alloc ?_ _) | (with_reducible refine Kd.C_drewN ?_ _) | (with_reducible refine Kd.C_drew ?_)))
           (case side2 => exact (Kd.R_reads' HO188.out).2.1)
           (case side3 => repeat (first | exact (Kd.R_reads' HO198.out).2.2 | (with_reducible refine Kd.C_alloc ?_ _) | (with_reducible refine Kd.C_drewN ?_ _) | (with_reducible refine Kd.C_drew ?_)))
           (case side4 => exact (Kd.R_reads' HO198.out).2.1)
           rintro e w62 ⟨rfl, hb⟩
           refine ⟨_, rfl, ?_⟩
           have n0_ := Aside0.mk (Kd.R_below (by (with_reducible repeat (first | apply Kd.R_alloc | apply Kd.R_drewN | apply Kd.R_drew)); exact HO164.out) hb)
           have n1_ := Aside0.mk (Kd.R_below (by (with_reducible repeat (first | apply Kd.R_alloc | apply Kd.R_drewN | apply Kd.R_drew)); exact HO176.out) hb)
           have n2_ := Aside0.mk (Kd.R_below (by (with_reducible repeat (first | apply Kd.R_alloc | apply Kd.R_drewN | apply Kd.R_drew)); exact HO188.out) hb)
           have n3_ := Aside0.mk (Kd.R_below (by (with_reducible repeat (first | apply Kd.R_alloc | apply Kd.R_drewN | apply Kd.R_drew)); exact HO198.out) hb)
           have n4_ := Aside0.mk (blk_below (g := gb166) (o := .cells #[.string t155, .int .i64 t156, .bool t157, .int .i64 t158, .int .u64 t159, .float .f64 t160, .string t161, .slice Ao50 t162.length co50] 35 (0, 0)) (by (with_reducible repeat (first | refine bN ?_ _ | refine bW ?_ | refine bA ?_ _)); exact BK166.out) hb)
           have n5_ := Aside0.mk (blk_below (g := gb178) (o := .cells #[.string t167, .int .i64 t168, .bool t169, .int .i64 t170, .int .u64 t171, .float .f64 t172, .string t173, .slice Ao55 t174.length co55] 35 (0, 0)) (by (with_reducible repeat (first | refine bN ?_ _ | refine bW ?_ | refine bA ?_ _)); exact BK178.out) hb)
           have n6_ := Aside0.mk (below_step belS hb)
           clear HO164
           clear HO176
           clear HO188
           clear HO198
           clear BK166
           clear BK178
           clear HB
           have HO164 := n0_
           have HO176 := n1_
           have HO188 := n2_
           have HO198 := n3_
           have BK166 := n4_
           have BK178 := n5_
           have HB := n6_
           clear n0_ n1_ n2_ n3_ n4_ n5_ n6_
           (try clear hb)
           (try clear hb2)
           (try clear hk)
           (try clear hi)
           refine hK.out _ _ ⟨(blk_cell BK166.out 0).trans rfl, (blk_cell BK166.out 1).trans rfl, (blk_cell BK166.out 2).trans rfl, (blk_cell BK166.out 3).trans rfl, (blk_cell BK166.out 4).trans rfl, (blk_cell BK166.out 5).trans rfl, (blk_cell BK166.out 6).trans rfl, (blk_cell BK166.out 7).trans rfl, (blk_cell BK178.out 0).trans rfl, (blk_cell BK178.out 1).trans rfl, (blk_cell BK178.out 2).trans rfl, (blk_cell BK178.out 3).trans rfl, (blk_cell BK178.out 4).trans rfl, (blk_cell BK178.out 5).trans rfl, (blk_cell BK178.out 6).trans rfl, (blk_cell BK178.out 7).trans rfl⟩ (fun hHeld => ?_)
           clear hK K
           refine norm_ (a' := ?_) ?_ ?_
           rotate_left
           ·show Act.put _ (some 71) _ = _
            simp only [Act.put, sA, s0, s1, i64_w, i32_w]
            rfl
           refine pure_ (i := 12) (N := some 72) (v := ?_) (a' := ?_) (tfA 13 4) rfl rfl (any_of HT_.out (by kernel_rfl)) (fun _ _ _ h => h) (Or.inl ⟨by rfl, ?_⟩) ?_ ?_
           rotate_left
           ·intro w'
            go_simp
            first | with_reducible rfl | (rw [if_neg (by have hz_ := c18; simp only [ByteArray.size_append] at hz_; exact Nat.not_lt.2 hz_)]) | (rw [if_neg (by have hz_ := c19; simp only [ByteArray.size_append] at hz_; exact Nat.not_lt.2 hz_)]) | (rw [if_neg (by have hz_ := c20; simp only [ByteArray.size_append] at hz_; exact Nat.not_lt.2 hz_)])
           rotate_left
           ·simp only [Act.put, sA, s0, s1, i64_w, i32_w]
            rfl
           refine pure_ (i := 13) (N := some 73) (v := ?_) (a' := ?_) (tfA 14 3) rfl rfl (any_of HT_.out (by kernel_rfl)) (fun _ _ _ h => h) (Or.inl ⟨by rfl, ?_⟩) ?_ ?_
           rotate_left
           ·intro w'
            go_simp
            first | with_reducible rfl | (rw [if_neg (by have hz_ := c18; simp only [ByteArray.size_append] at hz_; exact Nat.not_lt.2 hz_)]) | (rw [if_neg (by have hz_ := c19; simp only [ByteArray.size_append] at hz_; exact Nat.not_lt.2 hz_)]) | (rw [if_neg (by have hz_ := c20; simp only [ByteArray.size_append] at hz_; exact Nat.not_lt.2 hz_)])
           rotate_left
           ·simp only [Act.put, sA, s0, s1, i64_w, i32_w]
            rfl
           refine pure_ (i := 14) (N := some 74) (v := undef) (a' := ?_) (tfA 15 2) rfl rfl (any_of HT_.out (by kernel_rfl)) (fun _ _ _ h => h) (Or.inr ⟨by rfl, rfl⟩) ?_ ?_
           rotate_left
           ·simp only [Act.put, sA, s0, s1, i64_w, i32_w]
            rfl
           refine pure_ (i := 15) (N := some 75) (v := ?_) (a' := ?_) (tfA 16 1) rfl rfl (any_of HT_.out (by kernel_rfl)) (fun _ _ _ h => h) (Or.inl ⟨by rfl, ?_⟩) ?_ ?_
           rotate_left
           ·intro w'
            go_simp
            first | with_reducible rfl | (rw [if_neg (by have hz_ := c18; simp only [ByteArray.size_append] at hz_; exact Nat.not_lt.2 hz_)]) | (rw [if_neg (by have hz_ := c19; simp only [ByteArray.size_append] at hz_; exact Nat.not_lt.2 hz_)]) | (rw [if_neg (by have hz_ := c20; simp only [ByteArray.size_append] at hz_; exact Nat.not_lt.2 hz_)])
           rotate_left
           ·simp only [Act.put, sA, s0, s1, i64_w, i32_w]
            rfl
           refine pure_ (i := 16) (N := some 8) (v := ?_) (a' := ?_) (tfA 17 0) rfl rfl (any_of HT_.out (by kernel_rfl)) (fun _ _ _ h => h) (Or.inl ⟨by rfl, ?_⟩) ?_ ?_
           rotate_left
           ·intro w'
            go_simp
            first | with_reducible rfl | (rw [if_neg (by have hz_ := c18; simp only [ByteArray.size_append] at hz_; exact Nat.not_lt.2 hz_)]) | (rw [if_neg (by have hz_ := c19; simp only [ByteArray.size_append] at hz_; exact Nat.not_lt.2 hz_)]) | (rw [if_neg (by have hz_ := c20; simp only [ByteArray.size_append] at hz_; exact Nat.not_lt.2 hz_)])
           rotate_left
           ·simp only [Act.put, sA, s0, s1, i64_w, i32_w]
            rfl
           refine done_ (done_of HT_.out (by kernel_rfl)) ?_
           try go_wp2
           go_ret
           exact ⟨by first | rfl | (simp [errW_none, errW_some] <;> rfl) | (simp [*, errW_none, errW_some] <;> rfl), by repeat (first | (with_reducible first | exact HB.out | apply below_alloc | apply pw_below_drewN | apply below_drew1 | refine below_set ?_ GE166.out | refine below_set ?_ GE178.out) | exact HB.out)⟩
         ·rw [if_neg c24] at H
          have c24b0 : (t177 == 0) = false := beq_eq_false_iff_ne.mpr c24
          have c24b1 : (t177 != 0) = true := bne_iff_ne.mpr c24
          obtain rfl := Option.some.inj H
          try go_wp2_with (first | (go_at_call 35; (with_reducible refine (impl_CgroupSummary.calls a0 t155 t156 t157 t158 t159 t160 t161 t162 t165 _ A21.out).mono ?_); rintro e w63 ⟨v163, rfl, ho0, hb⟩; have n0_ := Aside0.mk (Kd.R_lower ho0 (below_size belH)); have n1_ := Aside0.mk (below_step belH hb); clear HB; have HO164 := n0_; have HB := n1_; clear n0_ n1_; (try clear hb); (try clear hb2); (try clear hk); (try clear hi); (try clear ho0)) | ((with_reducible refine gate_dst (N := 13) rfl ?_); (try (refine gate_guard (by rfl) ?_; dsimp only)); refine box_event ?hg (N := 13) ?hd (cs := #[.string (⟨#[]⟩ : ByteArray), .int .i64 0, .bool false, .int .i64 0, .int .u64 0, .float .f64 0, .string (⟨#[]⟩ : ByteArray), .slice none 0 0]) (t := 35) ?hr ?_; (case hd => rfl); (case hg => rfl); (case hr => first | (go_simp; done) | (go_simp; rfl)); intro gb166 hg w64 hbox hb; have n0_ := Aside0.mk (Kd.R_below (Kd.R_elderB (by (with_reducible repeat (first | apply Kd.R_alloc | apply Kd.R_drewN | apply Kd.R_drew)); exact HO164.out) gb166 (Nat.le_of_eq hg.symm)) hb); have n1_ := Aside0.mk (below_step belH hb); have n2_ := Aside0.mk (hbox); have n3_ := Aside0.mk ((by rw [hg]; exact (below_size belH) : w.heap.size ≤ gb166)); have n4_ := Aside0.mk ((by rw [hg]; exact (below_size belH) : w.heap.size ≤ gb166)); clear HO164; clear HB; have HO164 := n0_; have HB := n1_; have BK166 := n2_; have GW166 := n3_; have GE166 := n4_; clear n0_ n1_ n2_ n3_ n4_; clear hb hbox hg; have hcz65_0 : w64.cell? ⟨gb166, 0, none⟩ = some (.string (⟨#[]⟩ : ByteArray)) := (blk_cell BK166.out 0).trans rfl; have hcz65_1 : w64.cell? ⟨gb166, 1, none⟩ = some (.int .i64 0) := (blk_cell BK166.out 1).trans rfl; have hcz65_2 : w64.cell? ⟨gb166, 2, none⟩ = some (.bool false) := (blk_cell BK166.out 2).trans rfl; have hcz65_3 : w64.cell? ⟨gb166, 3, none⟩ = some (.int .i64 0) := (blk_cell BK166.out 3).trans rfl; have hcz65_4 : w64.cell? ⟨gb166, 4, none⟩ = some (.int .u64 0) := (blk_cell BK166.out 4).trans rfl; have hcz65_5 : w64.cell? ⟨gb166, 5, none⟩ = some (.float .f64 0) := (blk_cell BK166.out 5).trans rfl; have hcz65_6 : w64.cell? ⟨gb166, 6, none⟩ = some (.string (⟨#[]⟩ : ByteArray)) := (blk_cell BK166.out 6).trans rfl; have hcz65_7 : w64.cell? ⟨gb166, 7, none⟩ = some (.slice none 0 0) := (blk_cell BK166.out 7).trans rfl; have hfz65_0 := blk_frozen BK166.out 0; have hfz65_1 := blk_frozen BK166.out 1; have hfz65_2 := blk_frozen BK166.out 2; have hfz65_3 := blk_frozen BK166.out 3; have hfz65_4 := blk_frozen BK166.out 4; have hfz65_5 := blk_frozen BK166.out 5; have hfz65_6 := blk_frozen BK166.out 6; have hfz65_7 := blk_frozen BK166.out 7; obtain ⟨Ao66, co66, eo66⟩ := Kd.R_slice HO164.out; subst eo66) | (go_at_call 35; (with_reducible refine (impl_CgroupSummary.calls t152 t167 t168 t169 t170 t171 t172 t173 t174 t177 _ A22.out).mono ?_); rintro e w67 ⟨v175, rfl, ho0, hb⟩; have n0_ := Aside0.mk (Kd.R_elder' (by (with_reducible repeat (first | apply Kd.R_alloc | apply Kd.R_drewN | apply Kd.R_drew)); exact (Kd.R_mono (Kd.R_far8 (g := gb166) (Kd.R_mono HO164.out (fun k_ hk => (⟨hk, hk.2⟩ : _ ∧ k_ ≠ gb166))) (fun _ hk => hk.2) (.string t155) (.int .i64 t156) (.bool t157) (.int .i64 t158) (.int .u64 t159) (.float .f64 t160) (.string t161) (.slice Ao66 t162.length co66)) (fun _ h_ => h_.1))) (Kd.R_base ho0) hb); have n1_ := Aside0.mk (Kd.R_lower (Kd.R_newB (Kd.R_new' ho0 (Kd.R_lt (by (with_reducible repeat (first | apply Kd.R_alloc | apply Kd.R_drewN | apply Kd.R_drew)); exact (Kd.R_mono (Kd.R_far8 (g := gb166) (Kd.R_mono HO164.out (fun k_ hk => (⟨hk, hk.2⟩ : _ ∧ k_ ≠ gb166))) (fun _ hk => hk.2) (.string t155) (.int .i64 t156) (.bool t157) (.int .i64 t158) (.int .u64 t159) (.float .f64 t160) (.string t161) (.slice Ao66 t162.length co66)) (fun _ h_ => h_.1))))) (g := gb166) (o := .cells #[.string t155, .int .i64 t156, .bool t157, .int .i64 t158, .int .u64 t159, .float .f64 t160, .string t161, .slice Ao66 t162.length co66] 35 (0, 0)) (by (with_reducible repeat (first | refine bN ?_ _ | refine bW ?_ | refine bA ?_ _)); exact blk_put8 BK166.out)) (below_size belS)); have n2_ := Aside0.mk (blk_below (g := gb166) (o := .cells #[.string t155, .int .i64 t156, .bool t157, .int .i64 t158, .int .u64 t159, .float .f64 t160, .string t161, .slice Ao66 t162.length co66] 35 (0, 0)) (by (with_reducible repeat (first | refine bN ?_ _ | refine bW ?_ | refine bA ?_ _)); exact blk_put8 BK166.out) hb); have n3_ := Aside0.mk (below_step belS hb); clear HO164; clear BK166; clear HB; have HO164 := n0_; have HO176 := n1_; have BK166 := n2_; have HB := n3_; clear n0_ n1_ n2_ n3_; (try clear hb); (try clear hb2); (try clear hk); (try clear hi); (try clear ho0)) | ((with_reducible refine gate_dst (N := 15) rfl ?_); (try (refine gate_guard (by rfl) ?_; dsimp only)); refine box_event ?hg (N := 15) ?hd (cs := #[.string (⟨#[]⟩ : ByteArray), .int .i64 0, .bool false, .int .i64 0, .int .u64 0, .float .f64 0, .string (⟨#[]⟩ : ByteArray), .slice none 0 0]) (t := 35) ?hr ?_; (case hd => rfl); (case hg => rfl); (case hr => first | (go_simp; done) | (go_simp; rfl)); intro gb178 hg w68 hbox hb; have n0_ := Aside0.mk (Kd.R_below (Kd.R_elderB (by (with_reducible repeat (first | apply Kd.R_alloc | apply Kd.R_drewN | apply Kd.R_drew)); exact HO164.out) gb178 (Nat.le_of_eq hg.symm)) hb); have n1_ := Aside0.mk (Kd.R_below (Kd.R_elderB (by (with_reducible repeat (first | apply Kd.R_alloc | apply Kd.R_drewN | apply Kd.R_drew)); exact HO176.out) gb178 (Nat.le_of_eq hg.symm)) hb); have n2_ := Aside0.mk (blk_below (g := gb166) (o := .cells #[.string t155, .int .i64 t156, .bool t157, .int .i64 t158, .int .u64 t159, .float .f64 t160, .string t161, .slice Ao66 t162.length co66] 35 (0, 0)) (by (with_reducible repeat (first | refine bN ?_ _ | refine bW ?_ | refine bA ?_ _)); exact BK166.out) hb); have n3_ := Aside0.mk (below_step belS hb); have n4_ := Aside0.mk (hbox); have n5_ := Aside0.mk ((by rw [hg]; exact (below_size belS) : w.heap.size ≤ gb178)); have n6_ := Aside0.mk ((by rw [hg]; exact (below_size belS) : w.heap.size ≤ gb178)); have n7_ := Aside0.mk ((by rw [hg]; exact Nat.ne_of_lt (blk_lt (g := gb166) (o := .cells #[.string t155, .int .i64 t156, .bool t157, .int .i64 t158, .int .u64 t159, .float .f64 t160, .string t161, .slice Ao66 t162.length co66] 35 (0, 0)) (by (with_reducible repeat (first | refine bN ?_ _ | refine bW ?_ | refine bA ?_ _)); exact BK166.out)) : gb166 ≠ gb178)); have n8_ := Aside0.mk ((by rw [hg]; exact Nat.ne_of_gt (blk_lt (g := gb166) (o := .cells #[.string t155, .int .i64 t156, .bool t157, .int .i64 t158, .int .u64 t159, .float .f64 t160, .string t161, .slice Ao66 t162.length co66] 35 (0, 0)) (by (with_reducible repeat (first | refine bN ?_ _ | refine bW ?_ | refine bA ?_ _)); exact BK166.out)) : gb178 ≠ gb166)); clear HO164; clear HO176; clear BK166; clear HB; have HO164 := n0_; have HO176 := n1_; have BK166 := n2_; have HB := n3_; have BK178 := n4_; have GW178 := n5_; have GE178 := n6_; have NB166_178 := n7_; have NB178_166 := n8_; clear n0_ n1_ n2_ n3_ n4_ n5_ n6_ n7_ n8_; clear hb hbox hg; have hnb69 := NB178_166.out; have hnc69 := NB166_178.out; have hcz70_0 : w68.cell? ⟨gb178, 0, none⟩ = some (.string (⟨#[]⟩ : ByteArray)) := (blk_cell BK178.out 0).trans rfl; have hcz70_1 : w68.cell? ⟨gb178, 1, none⟩ = some (.int .i64 0) := (blk_cell BK178.out 1).trans rfl; have hcz70_2 : w68.cell? ⟨gb178, 2, none⟩ = some (.bool false) := (blk_cell BK178.out 2).trans rfl; have hcz70_3 : w68.cell? ⟨gb178, 3, none⟩ = some (.int .i64 0) := (blk_cell BK178.out 3).trans rfl; have hcz70_4 : w68.cell? ⟨gb178, 4, none⟩ = some (.int .u64 0) := (blk_cell BK178.out 4).trans rfl; have hcz70_5 : w68.cell? ⟨gb178, 5, none⟩ = some (.float .f64 0) := (blk_cell BK178.out 5).trans rfl; have hcz70_6 : w68.cell? ⟨gb178, 6, none⟩ = some (.string (⟨#[]⟩ : ByteArray)) := (blk_cell BK178.out 6).trans rfl; have hcz70_7 : w68.cell? ⟨gb178, 7, none⟩ = some (.slice none 0 0) := (blk_cell BK178.out 7).trans rfl; have hfz70_0 := blk_frozen BK178.out 0; have hfz70_1 := blk_frozen BK178.out 1; have hfz70_2 := blk_frozen BK178.out 2; have hfz70_3 := blk_frozen BK178.out 3; have hfz70_4 := blk_frozen BK178.out 4; have hfz70_5 := blk_frozen BK178.out 5; have hfz70_6 := blk_frozen BK178.out 6; have hfz70_7 := blk_frozen BK178.out 7; obtain ⟨Ao71, co71, eo71⟩ := Kd.R_slice HO176.out; subst eo71))
          have n0_ : Aside0 (Kd.R k35 35 ((((((((w68.setCell ⟨gb178, 0, none⟩ (.string t167)).setCell ⟨gb178, 1, none⟩ (.int .i64 t168)).setCell ⟨gb178, 2, none⟩ (.bool t169)).setCell ⟨gb178, 3, none⟩ (.int .i64 t170)).setCell ⟨gb178, 4, none⟩ (.int .u64 t171)).setCell ⟨gb178, 5, none⟩ (.float .f64 t172)).setCell ⟨gb178, 6, none⟩ (.string t173)).setCell ⟨gb178, 7, none⟩ (.slice Ao71 t174.length co71)) w.heap.size (fun k_ => some k_ ≠ (.slice Ao71 t174.length co71 : Value).ownBlock ∧ k_ ≠ gb166 ∧ k_ ≠ gb178) (.slice Ao66 t162.length co66) t162) := ⟨by (with_reducible repeat (first | apply Kd.R_alloc | apply Kd.R_drewN | apply Kd.R_drew)); exact Kd.R_mono (Kd.R_far8 (g := gb178) (Kd.R_mono HO164.out (fun k_ hk => (⟨hk, hk.2⟩ : _ ∧ k_ ≠ gb178))) (fun _ hk => hk.2) (.string t167) (.int .i64 t168) (.bool t169) (.int .i64 t170) (.int .u64 t171) (.float .f64 t172) (.string t173) (.slice Ao71 t174.length co71)) (fun _ hk => ⟨hk.1.1.2, ⟨hk.1.1.1.2, hk.1.2⟩⟩)⟩
          have n1_ : Aside0 (Kd.R k35 35 ((((((((w68.setCell ⟨gb178, 0, none⟩ (.string t167)).setCell ⟨gb178, 1, none⟩ (.int .i64 t168)).setCell ⟨gb178, 2, none⟩ (.bool t169)).setCell ⟨gb178, 3, none⟩ (.int .i64 t170)).setCell ⟨gb178, 4, none⟩ (.int .u64 t171)).setCell ⟨gb178, 5, none⟩ (.float .f64 t172)).setCell ⟨gb178, 6, none⟩ (.string t173)).setCell ⟨gb178, 7, none⟩ (.slice Ao71 t174.length co71)) w.heap.size (fun k_ => some k_ ≠ (.slice Ao66 t162.length co66 : Value).ownBlock ∧ k_ ≠ gb166 ∧ k_ ≠ gb178) (.slice Ao71 t174.length co71) t174) := ⟨by (with_reducible repeat (first | apply Kd.R_alloc | apply Kd.R_drewN | apply Kd.R_drew)); exact Kd.R_mono (Kd.R_far8 (g := gb178) (Kd.R_mono HO176.out (fun k_ hk => (⟨hk, hk.2⟩ : _ ∧ k_ ≠ gb178))) (fun _ hk => hk.2) (.string t167) (.int .i64 t168) (.bool t169) (.int .i64 t170) (.int .u64 t171) (.float .f64 t172) (.string t173) (.slice Ao71 t174.length co71)) (fun _ hk => ⟨hk.1.1.1.2, ⟨hk.1.1.2, hk.1.2⟩⟩)⟩
          have n2_ : Aside0 (((((((((w68.setCell ⟨gb178, 0, none⟩ (.string t167)).setCell ⟨gb178, 1, none⟩ (.int .i64 t168)).setCell ⟨gb178, 2, none⟩ (.bool t169)).setCell ⟨gb178, 3, none⟩ (.int .i64 t170)).setCell ⟨gb178, 4, none⟩ (.int .u64 t171)).setCell ⟨gb178, 5, none⟩ (.float .f64 t172)).setCell ⟨gb178, 6, none⟩ (.string t173)).setCell ⟨gb178, 7, none⟩ (.slice Ao71 t174.length co71)).heap[gb166]? = some (.cells #[.string t155, .int .i64 t156, .bool t157, .int .i64 t158, .int .u64 t159, .float .f64 t160, .string t161, .slice Ao66 t162.length co66] 35 (0, 0))) := ⟨by (with_reducible repeat (first | refine bN ?_ _ | refine bW ?_ | refine bA ?_ _)); refine blk_far ?_ NB166_178.out _; (with_reducible repeat (first | refine bN ?_ _ | refine bW ?_ | refine bA ?_ _)); refine blk_far ?_ NB166_178.out _; (with_reducible repeat (first | refine bN ?_ _ | refine bW ?_ | refine bA ?_ _)); refine blk_far ?_ NB166_178.out _; (with_reducible repeat (first | refine bN ?_ _ | refine bW ?_ | refine bA ?_ _)); refine blk_far ?_ NB166_178.out _; (with_reducible repeat (first | refine bN ?_ _ | refine bW ?_ | refine bA ?_ _)); refine blk_far ?_ NB166_178.out _; (with_reducible repeat (first | refine bN ?_ _ | refine bW ?_ | refine bA ?_ _)); refine blk_far ?_ NB166_178.out _; (with_reducible repeat (first | refine bN ?_ _ | refine bW ?_ | refine bA ?_ _)); refine blk_far ?_ NB166_178.out _; (with_reducible repeat (first | refine bN ?_ _ | refine bW ?_ | refine bA ?_ _)); refine blk_far ?_ NB166_178.out _; (with_reducible repeat (first | refine bN ?_ _ | refine bW ?_ | refine bA ?_ _)); exact BK166.out⟩
          have n3_ : Aside0 (((((((((w68.setCell ⟨gb178, 0, none⟩ (.string t167)).setCell ⟨gb178, 1, none⟩ (.int .i64 t168)).setCell ⟨gb178, 2, none⟩ (.bool t169)).setCell ⟨gb178, 3, none⟩ (.int .i64 t170)).setCell ⟨gb178, 4, none⟩ (.int .u64 t171)).setCell ⟨gb178, 5, none⟩ (.float .f64 t172)).setCell ⟨gb178, 6, none⟩ (.string t173)).setCell ⟨gb178, 7, none⟩ (.slice Ao71 t174.length co71)).heap[gb178]? = some (.cells #[.string t167, .int .i64 t168, .bool t169, .int .i64 t170, .int .u64 t171, .float .f64 t172, .string t173, .slice Ao71 t174.length co71] 35 (0, 0))) := ⟨by (with_reducible repeat (first | refine bN ?_ _ | refine bW ?_ | refine bA ?_ _)); exact blk_put8 BK178.out⟩
          have n4_ : Aside0 (Below w.heap.size w ((((((((w68.setCell ⟨gb178, 0, none⟩ (.string t167)).setCell ⟨gb178, 1, none⟩ (.int .i64 t168)).setCell ⟨gb178, 2, none⟩ (.bool t169)).setCell ⟨gb178, 3, none⟩ (.int .i64 t170)).setCell ⟨gb178, 4, none⟩ (.int .u64 t171)).setCell ⟨gb178, 5, none⟩ (.float .f64 t172)).setCell ⟨gb178, 6, none⟩ (.string t173)).setCell ⟨gb178, 7, none⟩ (.slice Ao71 t174.length co71))) := ⟨by repeat (first | (with_reducible first | exact HB.out | apply below_alloc | apply pw_below_drewN | apply below_drew1 | refine below_set ?_ GE166.out | refine below_set ?_ GE178.out) | exact HB.out)⟩
          (try clear HO164)
          (try clear HO176)
          (try clear BK166)
          (try clear BK178)
          (try clear HB)
          generalize ((((((((w68.setCell ⟨gb178, 0, none⟩ (.string t167)).setCell ⟨gb178, 1, none⟩ (.int .i64 t168)).setCell ⟨gb178, 2, none⟩ (.bool t169)).setCell ⟨gb178, 3, none⟩ (.int .i64 t170)).setCell ⟨gb178, 4, none⟩ (.int .u64 t171)).setCell ⟨gb178, 5, none⟩ (.float .f64 t172)).setCell ⟨gb178, 6, none⟩ (.string t173)).setCell ⟨gb178, 7, none⟩ (.slice Ao71 t174.length co71)) = w72 at n0_ n1_ n2_ n3_ n4_ ⊢
          have HO164 := n0_
          have HO176 := n1_
          have BK166 := n2_
          have BK178 := n3_
          have HB := n4_
          clear n0_ n1_ n2_ n3_ n4_
          have n0_ := Aside0.mk (Kd.R_drew HO164.out)
          have n1_ := Aside0.mk (Kd.R_drew HO176.out)
          have n2_ := Aside0.mk (blk_drew BK166.out)
          have n3_ := Aside0.mk (blk_drew BK178.out)
          have n4_ := Aside0.mk (below_drew1 HB.out)
          clear HO164
          clear HO176
          clear BK166
          clear BK178
          clear HB
          have HO164 := n0_
          have HO176 := n1_
          have BK166 := n2_
          have BK178 := n3_
          have HB := n4_
          clear n0_ n1_ n2_ n3_ n4_
          refine start_ (n := 17) (S := fun w' => True) (ds := []) (tfA 0 17) (by kernel_rfl) rfl rfl trivial (fun hHeld => ?_); refine with_tabW laws_normal__CgroupSummary.tab11 laws_normal__CgroupSummary.bits11 (fun HT_ HW_ => ?_)
          generalize w72.drew = w73 at HO164 HO176 BK166 BK178 HB hHeld ⊢
          refine pure_ (i := 0) (N := some 60) (v := ?_) (a' := ?_) (tfA 1 16) rfl rfl (any_of HT_.out (by kernel_rfl)) (fun _ _ _ h => h) (Or.inl ⟨by rfl, ?_⟩) ?_ ?_
          rotate_left
          ·intro w'
           go_simp
           first | with_reducible rfl | (rw [if_neg (by have hz_ := c18; simp only [ByteArray.size_append] at hz_; exact Nat.not_lt.2 hz_)]) | (rw [if_neg (by have hz_ := c19; simp only [ByteArray.size_append] at hz_; exact Nat.not_lt.2 hz_)]) | (rw [if_neg (by have hz_ := c20; simp only [ByteArray.size_append] at hz_; exact Nat.not_lt.2 hz_)])
          rotate_left
          ·simp only [Act.put, sA, s0, s1, i64_w, i32_w]
           rfl
          refine pure_ (i := 1) (N := some 61) (v := ?_) (a' := ?_) (tfA 2 15) rfl rfl (any_of HT_.out (by kernel_rfl)) (fun _ _ _ h => h) (Or.inl ⟨by rfl, ?_⟩) ?_ ?_
          rotate_left
          ·intro w'
           go_simp
           first | with_reducible rfl | (rw [if_neg (by have hz_ := c18; simp only [ByteArray.size_append] at hz_; exact Nat.not_lt.2 hz_)]) | (rw [if_neg (by have hz_ := c19; simp only [ByteArray.size_append] at hz_; exact Nat.not_lt.2 hz_)]) | (rw [if_neg (by have hz_ := c20; simp only [ByteArray.size_append] at hz_; exact Nat.not_lt.2 hz_)])
          rotate_left
          ·simp only [Act.put, sA, s0, s1, i64_w, i32_w]
           rfl
          refine pure_ (i := 2) (N := some 62) (v := ?_) (a' := ?_) (tfA 3 14) rfl rfl (any_of HT_.out (by kernel_rfl)) (fun _ _ _ h => h) (Or.inl ⟨by rfl, ?_⟩) ?_ ?_
          rotate_left
          ·intro w'
           go_simp
           first | with_reducible rfl | (rw [if_neg (by have hz_ := c18; simp only [ByteArray.size_append] at hz_; exact Nat.not_lt.2 hz_)]) | (rw [if_neg (by have hz_ := c19; simp only [ByteArray.size_append] at hz_; exact Nat.not_lt.2 hz_)]) | (rw [if_neg (by have hz_ := c20; simp only [ByteArray.size_append] at hz_; exact Nat.not_lt.2 hz_)])
          rotate_left
          ·simp only [Act.put, sA, s0, s1, i64_w, i32_w]
           rfl
          refine pure_ (i := 3) (N := some 63) (v := ?_) (a' := ?_) (tfA 4 13) rfl rfl (any_of HT_.out (by kernel_rfl)) (fun _ _ _ h => h) (Or.inl ⟨by rfl, ?_⟩) ?_ ?_
          rotate_left
          ·intro w'
           go_simp
           first | with_reducible rfl | (rw [if_neg (by have hz_ := c18; simp only [ByteArray.size_append] at hz_; exact Nat.not_lt.2 hz_)]) | (rw [if_neg (by have hz_ := c19; simp only [ByteArray.size_append] at hz_; exact Nat.not_lt.2 hz_)]) | (rw [if_neg (by have hz_ := c20; simp only [ByteArray.size_append] at hz_; exact Nat.not_lt.2 hz_)])
          rotate_left
          ·simp only [Act.put, sA, s0, s1, i64_w, i32_w]
           rfl
          refine pure_ (i := 4) (N := some 64) (v := ?_) (a' := ?_) (tfA 5 12) rfl rfl (any_of HT_.out (by kernel_rfl)) (fun _ _ _ h => h) (Or.inl ⟨by rfl, ?_⟩) ?_ ?_
          rotate_left
          ·intro w'
           go_simp
           first | with_reducible rfl | (rw [if_neg (by have hz_ := c18; simp only [ByteArray.size_append] at hz_; exact Nat.not_lt.2 hz_)]) | (rw [if_neg (by have hz_ := c19; simp only [ByteArray.size_append] at hz_; exact Nat.not_lt.2 hz_)]) | (rw [if_neg (by have hz_ := c20; simp only [ByteArray.size_append] at hz_; exact Nat.not_lt.2 hz_)])
          rotate_left
          ·simp only [Act.put, sA, s0, s1, i64_w, i32_w]
           rfl
          refine pure_ (i := 5) (N := some 65) (v := ?_) (a' := ?_) (tfA 6 11) rfl rfl (any_of HT_.out (by kernel_rfl)) (fun _ _ _ h => h) (Or.inl ⟨by rfl, ?_⟩) ?_ ?_
          rotate_left
          ·intro w'
           go_simp
           first | with_reducible rfl | (rw [if_neg (by have hz_ := c18; simp only [ByteArray.size_append] at hz_; exact Nat.not_lt.2 hz_)]) | (rw [if_neg (by have hz_ := c19; simp only [ByteArray.size_append] at hz_; exact Nat.not_lt.2 hz_)]) | (rw [if_neg (by have hz_ := c20; simp only [ByteArray.size_append] at hz_; exact Nat.not_lt.2 hz_)])
          rotate_left
          ·simp only [Act.put, sA, s0, s1, i64_w, i32_w]
           rfl
          refine pure_ (i := 6) (N := some 66) (v := ?_) (a' := ?_) (tfA 7 10) rfl rfl (any_of HT_.out (by kernel_rfl)) (fun _ _ _ h => h) (Or.inl ⟨by rfl, ?_⟩) ?_ ?_
          rotate_left
          ·intro w'
           go_simp
           first | with_reducible rfl | (rw [if_neg (by have hz_ := c18; simp only [ByteArray.size_append] at hz_; exact Nat.not_lt.2 hz_)]) | (rw [if_neg (by have hz_ := c19; simp only [ByteArray.size_append] at hz_; exact Nat.not_lt.2 hz_)]) | (rw [if_neg (by have hz_ := c20; simp only [ByteArray.size_append] at hz_; exact Nat.not_lt.2 hz_)])
          rotate_left
          ·simp only [Act.put, sA, s0, s1, i64_w, i32_w]
           rfl
          refine pure_ (i := 7) (N := some 67) (v := undef) (a' := ?_) (tfA 8 9) rfl rfl (any_of HT_.out (by kernel_rfl)) (fun _ _ _ h => h) (Or.inr ⟨by rfl, rfl⟩) ?_ ?_
          rotate_left
          ·simp only [Act.put, sA, s0, s1, i64_w, i32_w]
           rfl
          refine pure_ (i := 8) (N := some 68) (v := undef) (a' := ?_) (tfA 9 8) rfl rfl (any_of HT_.out (by kernel_rfl)) (fun _ _ _ h => h) (Or.inr ⟨by rfl, rfl⟩) ?_ ?_
          rotate_left
          ·simp only [Act.put, sA, s0, s1, i64_w, i32_w]
           rfl
          refine pure_ (i := 9) (N := some 69) (v := undef) (a' := ?_) (tfA 10 7) rfl rfl (any_of HT_.out (by kernel_rfl)) (fun _ _ _ h => h) (Or.inr ⟨by rfl, rfl⟩) ?_ ?_
          rotate_left
          ·simp only [Act.put, sA, s0, s1, i64_w, i32_w]
           rfl
          refine pure_ (i := 10) (N := some 70) (v := undef) (a' := ?_) (tfA 11 6) rfl rfl (any_of HT_.out (by kernel_rfl)) (fun _ _ _ h => h) (Or.inr ⟨by rfl, rfl⟩) ?_ ?_
          rotate_left
          ·simp only [Act.put, sA, s0, s1, i64_w, i32_w]
           rfl
          refine pure_ (i := 11) (N := some 71) (v := undef) (a' := ?_) (tfA 12 5) rfl rfl (any_of HT_.out (by kernel_rfl)) (fun _ _ _ h => h) (Or.inr ⟨by rfl, rfl⟩) ?_ ?_
          rotate_left
          ·simp only [Act.put, sA, s0, s1, i64_w, i32_w]
           rfl
          refine pure_ (i := 12) (N := some 72) (v := ?_) (a' := ?_) (tfA 13 4) rfl rfl (any_of HT_.out (by kernel_rfl)) (fun _ _ _ h => h) (Or.inl ⟨by rfl, ?_⟩) ?_ ?_
          rotate_left
          ·intro w'
           go_simp
           first | with_reducible rfl | (rw [if_neg (by have hz_ := c18; simp only [ByteArray.size_append] at hz_; exact Nat.not_lt.2 hz_)]) | (rw [if_neg (by have hz_ := c19; simp only [ByteArray.size_append] at hz_; exact Nat.not_lt.2 hz_)]) | (rw [if_neg (by have hz_ := c20; simp only [ByteArray.size_append] at hz_; exact Nat.not_lt.2 hz_)])
          rotate_left
          ·simp only [Act.put, sA, s0, s1, i64_w, i32_w]
           rfl
          refine pure_ (i := 13) (N := some 73) (v := ?_) (a' := ?_) (tfA 14 3) rfl rfl (any_of HT_.out (by kernel_rfl)) (fun _ _ _ h => h) (Or.inl ⟨by rfl, ?_⟩) ?_ ?_
          rotate_left
          ·intro w'
           go_simp
           first | with_reducible rfl | (rw [if_neg (by have hz_ := c18; simp only [ByteArray.size_append] at hz_; exact Nat.not_lt.2 hz_)]) | (rw [if_neg (by have hz_ := c19; simp only [ByteArray.size_append] at hz_; exact Nat.not_lt.2 hz_)]) | (rw [if_neg (by have hz_ := c20; simp only [ByteArray.size_append] at hz_; exact Nat.not_lt.2 hz_)])
          rotate_left
          ·simp only [Act.put, sA, s0, s1, i64_w, i32_w]
           rfl
          refine pure_ (i := 14) (N := some 74) (v := undef) (a' := ?_) (tfA 15 2) rfl rfl (any_of HT_.out (by kernel_rfl)) (fun _ _ _ h => h) (Or.inr ⟨by rfl, rfl⟩) ?_ ?_
          rotate_left
          ·simp only [Act.put, sA, s0, s1, i64_w, i32_w]
           rfl
          refine pure_ (i := 15) (N := some 75) (v := ?_) (a' := ?_) (tfA 16 1) rfl rfl (any_of HT_.out (by kernel_rfl)) (fun _ _ _ h => h) (Or.inl ⟨by rfl, ?_⟩) ?_ ?_
          rotate_left
          ·intro w'
           go_simp
           first | with_reducible rfl | (rw [if_neg (by have hz_ := c18; simp only [ByteArray.size_append] at hz_; exact Nat.not_lt.2 hz_)]) | (rw [if_neg (by have hz_ := c19; simp only [ByteArray.size_append] at hz_; exact Nat.not_lt.2 hz_)]) | (rw [if_neg (by have hz_ := c20; simp only [ByteArray.size_append] at hz_; exact Nat.not_lt.2 hz_)])
          rotate_left
          ·simp only [Act.put, sA, s0, s1, i64_w, i32_w]
           rfl
          refine pure_ (i := 16) (N := some 8) (v := ?_) (a' := ?_) (tfA 17 0) rfl rfl (any_of HT_.out (by kernel_rfl)) (fun _ _ _ h => h) (Or.inl ⟨by rfl, ?_⟩) ?_ ?_
          rotate_left
          ·intro w'
           go_simp
           first | with_reducible rfl | (rw [if_neg (by have hz_ := c18; simp only [ByteArray.size_append] at hz_; exact Nat.not_lt.2 hz_)]) | (rw [if_neg (by have hz_ := c19; simp only [ByteArray.size_append] at hz_; exact Nat.not_lt.2 hz_)]) | (rw [if_neg (by have hz_ := c20; simp only [ByteArray.size_append] at hz_; exact Nat.not_lt.2 hz_)])
          rotate_left
          ·simp only [Act.put, sA, s0, s1, i64_w, i32_w]
           rfl
          refine done_ (done_of HT_.out (by kernel_rfl)) ?_
          try go_wp2
          go_ret
          exact ⟨by first | rfl | (simp [errW_none, errW_some] <;> rfl) | (simp [*, errW_none, errW_some] <;> rfl), by repeat (first | (with_reducible first | exact HB.out | apply below_alloc | apply pw_below_drewN | apply below_drew1 | refine below_set ?_ GE166.out | refine below_set ?_ GE178.out) | exact HB.out)⟩
        ·rw [if_neg c23] at H
         have c23b0 : (t165 == 0) = false := beq_eq_false_iff_ne.mpr c23
         have c23b1 : (t165 != 0) = true := bne_iff_ne.mpr c23
         obtain rfl := Option.some.inj H
         try go_wp2_with (first | (go_at_call 35; (with_reducible refine (impl_CgroupSummary.calls a0 t155 t156 t157 t158 t159 t160 t161 t162 t165 _ A21.out).mono ?_); rintro e w74 ⟨v163, rfl, ho0, hb⟩; have n0_ := Aside0.mk (Kd.R_lower ho0 (below_size belH)); have n1_ := Aside0.mk (below_step belH hb); clear HB; have HO164 := n0_; have HB := n1_; clear n0_ n1_; (try clear hb); (try clear hb2); (try clear hk); (try clear hi); (try clear ho0)) | ((with_reducible refine gate_dst (N := 13) rfl ?_); (try (refine gate_guard (by rfl) ?_; dsimp only)); refine box_event ?hg (N := 13) ?hd (cs := #[.string (⟨#[]⟩ : ByteArray), .int .i64 0, .bool false, .int .i64 0, .int .u64 0, .float .f64 0, .string (⟨#[]⟩ : ByteArray), .slice none 0 0]) (t := 35) ?hr ?_; (case hd => rfl); (case hg => rfl); (case hr => first | (go_simp; done) | (go_simp; rfl)); intro gb166 hg w75 hbox hb; have n0_ := Aside0.mk (Kd.R_below (Kd.R_elderB (by (with_reducible repeat (first | apply Kd.R_alloc | apply Kd.R_drewN | apply Kd.R_drew)); exact HO164.out) gb166 (Nat.le_of_eq hg.symm)) hb); have n1_ := Aside0.mk (below_step belH hb); have n2_ := Aside0.mk (hbox); have n3_ := Aside0.mk ((by rw [hg]; exact (below_size belH) : w.heap.size ≤ gb166)); have n4_ := Aside0.mk ((by rw [hg]; exact (below_size belH) : w.heap.size ≤ gb166)); clear HO164; clear HB; have HO164 := n0_; have HB := n1_; have BK166 := n2_; have GW166 := n3_; have GE166 := n4_; clear n0_ n1_ n2_ n3_ n4_; clear hb hbox hg; have hcz76_0 : w75.cell? ⟨gb166, 0, none⟩ = some (.string (⟨#[]⟩ : ByteArray)) := (blk_cell BK166.out 0).trans rfl; have hcz76_1 : w75.cell? ⟨gb166, 1, none⟩ = some (.int .i64 0) := (blk_cell BK166.out 1).trans rfl; have hcz76_2 : w75.cell? ⟨gb166, 2, none⟩ = some (.bool false) := (blk_cell BK166.out 2).trans rfl; have hcz76_3 : w75.cell? ⟨gb166, 3, none⟩ = some (.int .i64 0) := (blk_cell BK166.out 3).trans rfl; have hcz76_4 : w75.cell? ⟨gb166, 4, none⟩ = some (.int .u64 0) := (blk_cell BK166.out 4).trans rfl; have hcz76_5 : w75.cell? ⟨gb166, 5, none⟩ = some (.float .f64 0) := (blk_cell BK166.out 5).trans rfl; have hcz76_6 : w75.cell? ⟨gb166, 6, none⟩ = some (.string (⟨#[]⟩ : ByteArray)) := (blk_cell BK166.out 6).trans rfl; have hcz76_7 : w75.cell? ⟨gb166, 7, none⟩ = some (.slice none 0 0) := (blk_cell BK166.out 7).trans rfl; have hfz76_0 := blk_frozen BK166.out 0; have hfz76_1 := blk_frozen BK166.out 1; have hfz76_2 := blk_frozen BK166.out 2; have hfz76_3 := blk_frozen BK166.out 3; have hfz76_4 := blk_frozen BK166.out 4; have hfz76_5 := blk_frozen BK166.out 5; have hfz76_6 := blk_frozen BK166.out 6; have hfz76_7 := blk_frozen BK166.out 7; obtain ⟨Ao77, co77, eo77⟩ := Kd.R_slice HO164.out; subst eo77) | (go_at_call 35; (with_reducible refine (impl_CgroupSummary.calls t152 t167 t168 t169 t170 t171 t172 t173 t174 t177 _ A22.out).mono ?_); rintro e w78 ⟨v175, rfl, ho0, hb⟩; have n0_ := Aside0.mk (Kd.R_elder' (by (with_reducible repeat (first | apply Kd.R_alloc | apply Kd.R_drewN | apply Kd.R_drew)); exact (Kd.R_mono (Kd.R_far8 (g := gb166) (Kd.R_mono HO164.out (fun k_ hk => (⟨hk, hk.2⟩ : _ ∧ k_ ≠ gb166))) (fun _ hk => hk.2) (.string t155) (.int .i64 t156) (.bool t157) (.int .i64 t158) (.int .u64 t159) (.float .f64 t160) (.string t161) (.slice Ao77 t162.length co77)) (fun _ h_ => h_.1))) (Kd.R_base ho0) hb); have n1_ := Aside0.mk (Kd.R_lower (Kd.R_newB (Kd.R_new' ho0 (Kd.R_lt (by (with_reducible repeat (first | apply Kd.R_alloc | apply Kd.R_drewN | apply Kd.R_drew)); exact (Kd.R_mono (Kd.R_far8 (g := gb166) (Kd.R_mono HO164.out (fun k_ hk => (⟨hk, hk.2⟩ : _ ∧ k_ ≠ gb166))) (fun _ hk => hk.2) (.string t155) (.int .i64 t156) (.bool t157) (.int .i64 t158) (.int .u64 t159) (.float .f64 t160) (.string t161) (.slice Ao77 t162.length co77)) (fun _ h_ => h_.1))))) (g := gb166) (o := .cells #[.string t155, .int .i64 t156, .bool t157, .int .i64 t158, .int .u64 t159, .float .f64 t160, .string t161, .slice Ao77 t162.length co77] 35 (0, 0)) (by (with_reducible repeat (first | refine bN ?_ _ | refine bW ?_ | refine bA ?_ _)); exact blk_put8 BK166.out)) (below_size belS)); have n2_ := Aside0.mk (blk_below (g := gb166) (o := .cells #[.string t155, .int .i64 t156, .bool t157, .int .i64 t158, .int .u64 t159, .float .f64 t160, .string t161, .slice Ao77 t162.length co77] 35 (0, 0)) (by (with_reducible repeat (first | refine bN ?_ _ | refine bW ?_ | refine bA ?_ _)); exact blk_put8 BK166.out) hb); have n3_ := Aside0.mk (below_step belS hb); clear HO164; clear BK166; clear HB; have HO164 := n0_; have HO176 := n1_; have BK166 := n2_; have HB := n3_; clear n0_ n1_ n2_ n3_; (try clear hb); (try clear hb2); (try clear hk); (try clear hi); (try clear ho0)) | ((with_reducible refine gate_dst (N := 15) rfl ?_); (try (refine gate_guard (by rfl) ?_; dsimp only)); refine box_event ?hg (N := 15) ?hd (cs := #[.string (⟨#[]⟩ : ByteArray), .int .i64 0, .bool false, .int .i64 0, .int .u64 0, .float .f64 0, .string (⟨#[]⟩ : ByteArray), .slice none 0 0]) (t := 35) ?hr ?_; (case hd => rfl); (case hg => rfl); (case hr => first | (go_simp; done) | (go_simp; rfl)); intro gb178 hg w79 hbox hb; have n0_ := Aside0.mk (Kd.R_below (Kd.R_elderB (by (with_reducible repeat (first | apply Kd.R_alloc | apply Kd.R_drewN | apply Kd.R_drew)); exact HO164.out) gb178 (Nat.le_of_eq hg.symm)) hb); have n1_ := Aside0.mk (Kd.R_below (Kd.R_elderB (by (with_reducible repeat (first | apply Kd.R_alloc | apply Kd.R_drewN | apply Kd.R_drew)); exact HO176.out) gb178 (Nat.le_of_eq hg.symm)) hb); have n2_ := Aside0.mk (blk_below (g := gb166) (o := .cells #[.string t155, .int .i64 t156, .bool t157, .int .i64 t158, .int .u64 t159, .float .f64 t160, .string t161, .slice Ao77 t162.length co77] 35 (0, 0)) (by (with_reducible repeat (first | refine bN ?_ _ | refine bW ?_ | refine bA ?_ _)); exact BK166.out) hb); have n3_ := Aside0.mk (below_step belS hb); have n4_ := Aside0.mk (hbox); have n5_ := Aside0.mk ((by rw [hg]; exact (below_size belS) : w.heap.size ≤ gb178)); have n6_ := Aside0.mk ((by rw [hg]; exact (below_size belS) : w.heap.size ≤ gb178)); have n7_ := Aside0.mk ((by rw [hg]; exact Nat.ne_of_lt (blk_lt (g := gb166) (o := .cells #[.string t155, .int .i64 t156, .bool t157, .int .i64 t158, .int .u64 t159, .float .f64 t160, .string t161, .slice Ao77 t162.length co77] 35 (0, 0)) (by (with_reducible repeat (first | refine bN ?_ _ | refine bW ?_ | refine bA ?_ _)); exact BK166.out)) : gb166 ≠ gb178)); have n8_ := Aside0.mk ((by rw [hg]; exact Nat.ne_of_gt (blk_lt (g := gb166) (o := .cells #[.string t155, .int .i64 t156, .bool t157, .int .i64 t158, .int .u64 t159, .float .f64 t160, .string t161, .slice Ao77 t162.length co77] 35 (0, 0)) (by (with_reducible repeat (first | refine bN ?_ _ | refine bW ?_ | refine bA ?_ _)); exact BK166.out)) : gb178 ≠ gb166)); clear HO164; clear HO176; clear BK166; clear HB; have HO164 := n0_; have HO176 := n1_; have BK166 := n2_; have HB := n3_; have BK178 := n4_; have GW178 := n5_; have GE178 := n6_; have NB166_178 := n7_; have NB178_166 := n8_; clear n0_ n1_ n2_ n3_ n4_ n5_ n6_ n7_ n8_; clear hb hbox hg; have hnb80 := NB178_166.out; have hnc80 := NB166_178.out; have hcz81_0 : w79.cell? ⟨gb178, 0, none⟩ = some (.string (⟨#[]⟩ : ByteArray)) := (blk_cell BK178.out 0).trans rfl; have hcz81_1 : w79.cell? ⟨gb178, 1, none⟩ = some (.int .i64 0) := (blk_cell BK178.out 1).trans rfl; have hcz81_2 : w79.cell? ⟨gb178, 2, none⟩ = some (.bool false) := (blk_cell BK178.out 2).trans rfl; have hcz81_3 : w79.cell? ⟨gb178, 3, none⟩ = some (.int .i64 0) := (blk_cell BK178.out 3).trans rfl; have hcz81_4 : w79.cell? ⟨gb178, 4, none⟩ = some (.int .u64 0) := (blk_cell BK178.out 4).trans rfl; have hcz81_5 : w79.cell? ⟨gb178, 5, none⟩ = some (.float .f64 0) := (blk_cell BK178.out 5).trans rfl; have hcz81_6 : w79.cell? ⟨gb178, 6, none⟩ = some (.string (⟨#[]⟩ : ByteArray)) := (blk_cell BK178.out 6).trans rfl; have hcz81_7 : w79.cell? ⟨gb178, 7, none⟩ = some (.slice none 0 0) := (blk_cell BK178.out 7).trans rfl; have hfz81_0 := blk_frozen BK178.out 0; have hfz81_1 := blk_frozen BK178.out 1; have hfz81_2 := blk_frozen BK178.out 2; have hfz81_3 := blk_frozen BK178.out 3; have hfz81_4 := blk_frozen BK178.out 4; have hfz81_5 := blk_frozen BK178.out 5; have hfz81_6 := blk_frozen BK178.out 6; have hfz81_7 := blk_frozen BK178.out 7; obtain ⟨Ao82, co82, eo82⟩ := Kd.R_slice HO176.out; subst eo82))
         have n0_ : Aside0 (Kd.R k35 35 ((((((((w79.setCell ⟨gb178, 0, none⟩ (.string t167)).setCell ⟨gb178, 1, none⟩ (.int .i64 t168)).setCell ⟨gb178, 2, none⟩ (.bool t169)).setCell ⟨gb178, 3, none⟩ (.int .i64 t170)).setCell ⟨gb178, 4, none⟩ (.int .u64 t171)).setCell ⟨gb178, 5, none⟩ (.float .f64 t172)).setCell ⟨gb178, 6, none⟩ (.string t173)).setCell ⟨gb178, 7, none⟩ (.slice Ao82 t174.length co82)) w.heap.size (fun k_ => some k_ ≠ (.slice Ao82 t174.length co82 : Value).ownBlock ∧ k_ ≠ gb166 ∧ k_ ≠ gb178) (.slice Ao77 t162.length co77) t162) := ⟨by (with_reducible repeat (first | apply Kd.R_alloc | apply Kd.R_drewN | apply Kd.R_drew)); exact Kd.R_mono (Kd.R_far8 (g := gb178) (Kd.R_mono HO164.out (fun k_ hk => (⟨hk, hk.2⟩ : _ ∧ k_ ≠ gb178))) (fun _ hk => hk.2) (.string t167) (.int .i64 t168) (.bool t169) (.int .i64 t170) (.int .u64 t171) (.float .f64 t172) (.string t173) (.slice Ao82 t174.length co82)) (fun _ hk => ⟨hk.1.1.2, ⟨hk.1.1.1.2, hk.1.2⟩⟩)⟩
         have n1_ : Aside0 (Kd.R k35 35 ((((((((w79.setCell ⟨gb178, 0, none⟩ (.string t167)).setCell ⟨gb178, 1, none⟩ (.int .i64 t168)).setCell ⟨gb178, 2, none⟩ (.bool t169)).setCell ⟨gb178, 3, none⟩ (.int .i64 t170)).setCell ⟨gb178, 4, none⟩ (.int .u64 t171)).setCell ⟨gb178, 5, none⟩ (.float .f64 t172)).setCell ⟨gb178, 6, none⟩ (.string t173)).setCell ⟨gb178, 7, none⟩ (.slice Ao82 t174.length co82)) w.heap.size (fun k_ => some k_ ≠ (.slice Ao77 t162.length co77 : Value).ownBlock ∧ k_ ≠ gb166 ∧ k_ ≠ gb178) (.slice Ao82 t174.length co82) t174) := ⟨by (with_reducible repeat (first | apply Kd.R_alloc | apply Kd.R_drewN | apply Kd.R_drew)); exact Kd.R_mono (Kd.R_far8 (g := gb178) (Kd.R_mono HO176.out (fun k_ hk => (⟨hk, hk.2⟩ : _ ∧ k_ ≠ gb178))) (fun _ hk => hk.2) (.string t167) (.int .i64 t168) (.bool t169) (.int .i64 t170) (.int .u64 t171) (.float .f64 t172) (.string t173) (.slice Ao82 t174.length co82)) (fun _ hk => ⟨hk.1.1.1.2, ⟨hk.1.1.2, hk.1.2⟩⟩)⟩
         have n2_ : Aside0 (((((((((w79.setCell ⟨gb178, 0, none⟩ (.string t167)).setCell ⟨gb178, 1, none⟩ (.int .i64 t168)).setCell ⟨gb178, 2, none⟩ (.bool t169)).setCell ⟨gb178, 3, none⟩ (.int .i64 t170)).setCell ⟨gb178, 4, none⟩ (.int .u64 t171)).setCell ⟨gb178, 5, none⟩ (.float .f64 t172)).setCell ⟨gb178, 6, none⟩ (.string t173)).setCell ⟨gb178, 7, none⟩ (.slice Ao82 t174.length co82)).heap[gb166]? = some (.cells #[.string t155, .int .i64 t156, .bool t157, .int .i64 t158, .int .u64 t159, .float .f64 t160, .string t161, .slice Ao77 t162.length co77] 35 (0, 0))) := ⟨by (with_reducible repeat (first | refine bN ?_ _ | refine bW ?_ | refine bA ?_ _)); refine blk_far ?_ NB166_178.out _; (with_reducible repeat (first | refine bN ?_ _ | refine bW ?_ | refine bA ?_ _)); refine blk_far ?_ NB166_178.out _; (with_reducible repeat (first | refine bN ?_ _ | refine bW ?_ | refine bA ?_ _)); refine blk_far ?_ NB166_178.out _; (with_reducible repeat (first | refine bN ?_ _ | refine bW ?_ | refine bA ?_ _)); refine blk_far ?_ NB166_178.out _; (with_reducible repeat (first | refine bN ?_ _ | refine bW ?_ | refine bA ?_ _)); refine blk_far ?_ NB166_178.out _; (with_reducible repeat (first | refine bN ?_ _ | refine bW ?_ | refine bA ?_ _)); refine blk_far ?_ NB166_178.out _; (with_reducible repeat (first | refine bN ?_ _ | refine bW ?_ | refine bA ?_ _)); refine blk_far ?_ NB166_178.out _; (with_reducible repeat (first | refine bN ?_ _ | refine bW ?_ | refine bA ?_ _)); refine blk_far ?_ NB166_178.out _; (with_reducible repeat (first | refine bN ?_ _ | refine bW ?_ | refine bA ?_ _)); exact BK166.out⟩
         have n3_ : Aside0 (((((((((w79.setCell ⟨gb178, 0, none⟩ (.string t167)).setCell ⟨gb178, 1, none⟩ (.int .i64 t168)).setCell ⟨gb178, 2, none⟩ (.bool t169)).setCell ⟨gb178, 3, none⟩ (.int .i64 t170)).setCell ⟨gb178, 4, none⟩ (.int .u64 t171)).setCell ⟨gb178, 5, none⟩ (.float .f64 t172)).setCell ⟨gb178, 6, none⟩ (.string t173)).setCell ⟨gb178, 7, none⟩ (.slice Ao82 t174.length co82)).heap[gb178]? = some (.cells #[.string t167, .int .i64 t168, .bool t169, .int .i64 t170, .int .u64 t171, .float .f64 t172, .string t173, .slice Ao82 t174.length co82] 35 (0, 0))) := ⟨by (with_reducible repeat (first | refine bN ?_ _ | refine bW ?_ | refine bA ?_ _)); exact blk_put8 BK178.out⟩
         have n4_ : Aside0 (Below w.heap.size w ((((((((w79.setCell ⟨gb178, 0, none⟩ (.string t167)).setCell ⟨gb178, 1, none⟩ (.int .i64 t168)).setCell ⟨gb178, 2, none⟩ (.bool t169)).setCell ⟨gb178, 3, none⟩ (.int .i64 t170)).setCell ⟨gb178, 4, none⟩ (.int .u64 t171)).setCell ⟨gb178, 5, none⟩ (.float .f64 t172)).setCell ⟨gb178, 6, none⟩ (.string t173)).setCell ⟨gb178, 7, none⟩ (.slice Ao82 t174.length co82))) := ⟨by repeat (first | (with_reducible first | exact HB.out | apply below_alloc | apply pw_below_drewN | apply below_drew1 | refine below_set ?_ GE166.out | refine below_set ?_ GE178.out) | exact HB.out)⟩
         (try clear HO164)
         (try clear HO176)
         (try clear BK166)
         (try clear BK178)
         (try clear HB)
         generalize ((((((((w79.setCell ⟨gb178, 0, none⟩ (.string t167)).setCell ⟨gb178, 1, none⟩ (.int .i64 t168)).setCell ⟨gb178, 2, none⟩ (.bool t169)).setCell ⟨gb178, 3, none⟩ (.int .i64 t170)).setCell ⟨gb178, 4, none⟩ (.int .u64 t171)).setCell ⟨gb178, 5, none⟩ (.float .f64 t172)).setCell ⟨gb178, 6, none⟩ (.string t173)).setCell ⟨gb178, 7, none⟩ (.slice Ao82 t174.length co82)) = w83 at n0_ n1_ n2_ n3_ n4_ ⊢
         have HO164 := n0_
         have HO176 := n1_
         have BK166 := n2_
         have BK178 := n3_
         have HB := n4_
         clear n0_ n1_ n2_ n3_ n4_
         have n0_ := Aside0.mk (Kd.R_drew HO164.out)
         have n1_ := Aside0.mk (Kd.R_drew HO176.out)
         have n2_ := Aside0.mk (blk_drew BK166.out)
         have n3_ := Aside0.mk (blk_drew BK178.out)
         have n4_ := Aside0.mk (below_drew1 HB.out)
         clear HO164
         clear HO176
         clear BK166
         clear BK178
         clear HB
         have HO164 := n0_
         have HO176 := n1_
         have BK166 := n2_
         have BK178 := n3_
         have HB := n4_
         clear n0_ n1_ n2_ n3_ n4_
         refine start_ (n := 17) (S := fun w' => True) (ds := []) (tfA 0 17) (by kernel_rfl) rfl rfl trivial (fun hHeld => ?_); refine with_tabW laws_normal__CgroupSummary.tab11 laws_normal__CgroupSummary.bits11 (fun HT_ HW_ => ?_)
         generalize w83.drew = w84 at HO164 HO176 BK166 BK178 HB hHeld ⊢
         refine pure_ (i := 0) (N := some 60) (v := ?_) (a' := ?_) (tfA 1 16) rfl rfl (any_of HT_.out (by kernel_rfl)) (fun _ _ _ h => h) (Or.inl ⟨by rfl, ?_⟩) ?_ ?_
         rotate_left
         ·intro w'
          go_simp
          first | with_reducible rfl | (rw [if_neg (by have hz_ := c18; simp only [ByteArray.size_append] at hz_; exact Nat.not_lt.2 hz_)]) | (rw [if_neg (by have hz_ := c19; simp only [ByteArray.size_append] at hz_; exact Nat.not_lt.2 hz_)]) | (rw [if_neg (by have hz_ := c20; simp only [ByteArray.size_append] at hz_; exact Nat.not_lt.2 hz_)])
         rotate_left
         ·simp only [Act.put, sA, s0, s1, i64_w, i32_w]
          rfl
         refine pure_ (i := 1) (N := some 61) (v := ?_) (a' := ?_) (tfA 2 15) rfl rfl (any_of HT_.out (by kernel_rfl)) (fun _ _ _ h => h) (Or.inl ⟨by rfl, ?_⟩) ?_ ?_
         rotate_left
         ·intro w'
          go_simp
          first | with_reducible rfl | (rw [if_neg (by have hz_ := c18; simp only [ByteArray.size_append] at hz_; exact Nat.not_lt.2 hz_)]) | (rw [if_neg (by have hz_ := c19; simp only [ByteArray.size_append] at hz_; exact Nat.not_lt.2 hz_)]) | (rw [if_neg (by have hz_ := c20; simp only [ByteArray.size_append] at hz_; exact Nat.not_lt.2 hz_)])
         rotate_left
         ·simp only [Act.put, sA, s0, s1, i64_w, i32_w]
          rfl
         refine pure_ (i := 2) (N := some 62) (v := ?_) (a' := ?_) (tfA 3 14) rfl rfl (any_of HT_.out (by kernel_rfl)) (fun _ _ _ h => h) (Or.inl ⟨by rfl, ?_⟩) ?_ ?_
         rotate_left
         ·intro w'
          go_simp
          first | with_reducible rfl | (rw [if_neg (by have hz_ := c18; simp only [ByteArray.size_append] at hz_; exact Nat.not_lt.2 hz_)]) | (rw [if_neg (by have hz_ := c19; simp only [ByteArray.size_append] at hz_; exact Nat.not_lt.2 hz_)]) | (rw [if_neg (by have hz_ := c20; simp only [ByteArray.size_append] at hz_; exact Nat.not_lt.2 hz_)])
         rotate_left
         ·simp only [Act.put, sA, s0, s1, i64_w, i32_w]
          rfl
         refine pure_ (i := 3) (N := some 63) (v := undef) (a' := ?_) (tfA 4 13) rfl rfl (any_of HT_.out (by kernel_rfl)) (fun _ _ _ h => h) (Or.inr ⟨by rfl, rfl⟩) ?_ ?_
         rotate_left
         ·simp only [Act.put, sA, s0, s1, i64_w, i32_w]
          rfl
         refine pure_ (i := 4) (N := some 64) (v := undef) (a' := ?_) (tfA 5 12) rfl rfl (any_of HT_.out (by kernel_rfl)) (fun _ _ _ h => h) (Or.inr ⟨by rfl, rfl⟩) ?_ ?_
         rotate_left
         ·simp only [Act.put, sA, s0, s1, i64_w, i32_w]
          rfl
         refine pure_ (i := 5) (N := some 65) (v := ?_) (a' := ?_) (tfA 6 11) rfl rfl (any_of HT_.out (by kernel_rfl)) (fun _ _ _ h => h) (Or.inl ⟨by rfl, ?_⟩) ?_ ?_
         rotate_left
         ·intro w'
          go_simp
          first | with_reducible rfl | (rw [if_neg (by have hz_ := c18; simp only [ByteArray.size_append] at hz_; exact Nat.not_lt.2 hz_)]) | (rw [if_neg (by have hz_ := c19; simp only [ByteArray.size_append] at hz_; exact Nat.not_lt.2 hz_)]) | (rw [if_neg (by have hz_ := c20; simp only [ByteArray.size_append] at hz_; exact Nat.not_lt.2 hz_)])
         rotate_left
         ·simp only [Act.put, sA, s0, s1, i64_w, i32_w]
          rfl
         refine pure_ (i := 6) (N := some 66) (v := ?_) (a' := ?_) (tfA 7 10) rfl rfl (any_of HT_.out (by kernel_rfl)) (fun _ _ _ h => h) (Or.inl ⟨by rfl, ?_⟩) ?_ ?_
         rotate_left
         ·intro w'
          go_simp
          first | with_reducible rfl | (rw [if_neg (by have hz_ := c18; simp only [ByteArray.size_append] at hz_; exact Nat.not_lt.2 hz_)]) | (rw [if_neg (by have hz_ := c19; simp only [ByteArray.size_append] at hz_; exact Nat.not_lt.2 hz_)]) | (rw [if_neg (by have hz_ := c20; simp only [ByteArray.size_append] at hz_; exact Nat.not_lt.2 hz_)])
         rotate_left
         ·simp only [Act.put, sA, s0, s1, i64_w, i32_w]
          rfl
         refine pure_ (i := 7) (N := some 67) (v := undef) (a' := ?_) (tfA 8 9) rfl rfl (any_of HT_.out (by kernel_rfl)) (fun _ _ _ h => h) (Or.inr ⟨by rfl, rfl⟩) ?_ ?_
         rotate_left
         ·simp only [Act.put, sA, s0, s1, i64_w, i32_w]
          rfl
         refine pure_ (i := 8) (N := some 68) (v := undef) (a' := ?_) (tfA 9 8) rfl rfl (any_of HT_.out (by kernel_rfl)) (fun _ _ _ h => h) (Or.inr ⟨by rfl, rfl⟩) ?_ ?_
         rotate_left
         ·simp only [Act.put, sA, s0, s1, i64_w, i32_w]
          rfl
         refine pure_ (i := 9) (N := some 69) (v := undef) (a' := ?_) (tfA 10 7) rfl rfl (any_of HT_.out (by kernel_rfl)) (fun _ _ _ h => h) (Or.inr ⟨by rfl, rfl⟩) ?_ ?_
         rotate_left
         ·simp only [Act.put, sA, s0, s1, i64_w, i32_w]
          rfl
         refine pure_ (i := 10) (N := some 70) (v := undef) (a' := ?_) (tfA 11 6) rfl rfl (any_of HT_.out (by kernel_rfl)) (fun _ _ _ h => h) (Or.inr ⟨by rfl, rfl⟩) ?_ ?_
         rotate_left
         ·simp only [Act.put, sA, s0, s1, i64_w, i32_w]
          rfl
         refine pure_ (i := 11) (N := some 71) (v := undef) (a' := ?_) (tfA 12 5) rfl rfl (any_of HT_.out (by kernel_rfl)) (fun _ _ _ h => h) (Or.inr ⟨by rfl, rfl⟩) ?_ ?_
         rotate_left
         ·simp only [Act.put, sA, s0, s1, i64_w, i32_w]
          rfl
         refine pure_ (i := 12) (N := some 72) (v := ?_) (a' := ?_) (tfA 13 4) rfl rfl (any_of HT_.out (by kernel_rfl)) (fun _ _ _ h => h) (Or.inl ⟨by rfl, ?_⟩) ?_ ?_
         rotate_left
         ·intro w'
          go_simp
          first | with_reducible rfl | (rw [if_neg (by have hz_ := c18; simp only [ByteArray.size_append] at hz_; exact Nat.not_lt.2 hz_)]) | (rw [if_neg (by have hz_ := c19; simp only [ByteArray.size_append] at hz_; exact Nat.not_lt.2 hz_)]) | (rw [if_neg (by have hz_ := c20; simp only [ByteArray.size_append] at hz_; exact Nat.not_lt.2 hz_)])
         rotate_left
         ·simp only [Act.put, sA, s0, s1, i64_w, i32_w]
          rfl
         refine pure_ (i := 13) (N := some 73) (v := ?_) (a' := ?_) (tfA 14 3) rfl rfl (any_of HT_.out (by kernel_rfl)) (fun _ _ _ h => h) (Or.inl ⟨by rfl, ?_⟩) ?_ ?_
         rotate_left
         ·intro w'
          go_simp
          first | with_reducible rfl | (rw [if_neg (by have hz_ := c18; simp only [ByteArray.size_append] at hz_; exact Nat.not_lt.2 hz_)]) | (rw [if_neg (by have hz_ := c19; simp only [ByteArray.size_append] at hz_; exact Nat.not_lt.2 hz_)]) | (rw [if_neg (by have hz_ := c20; simp only [ByteArray.size_append] at hz_; exact Nat.not_lt.2 hz_)])
         rotate_left
         ·simp only [Act.put, sA, s0, s1, i64_w, i32_w]
          rfl
         refine pure_ (i := 14) (N := some 74) (v := undef) (a' := ?_) (tfA 15 2) rfl rfl (any_of HT_.out (by kernel_rfl)) (fun _ _ _ h => h) (Or.inr ⟨by rfl, rfl⟩) ?_ ?_
         rotate_left
         ·simp only [Act.put, sA, s0, s1, i64_w, i32_w]
          rfl
         refine pure_ (i := 15) (N := some 75) (v := ?_) (a' := ?_) (tfA 16 1) rfl rfl (any_of HT_.out (by kernel_rfl)) (fun _ _ _ h => h) (Or.inl ⟨by rfl, ?_⟩) ?_ ?_
         rotate_left
         ·intro w'
          go_simp
          first | with_reducible rfl | (rw [if_neg (by have hz_ := c18; simp only [ByteArray.size_append] at hz_; exact Nat.not_lt.2 hz_)]) | (rw [if_neg (by have hz_ := c19; simp only [ByteArray.size_append] at hz_; exact Nat.not_lt.2 hz_)]) | (rw [if_neg (by have hz_ := c20; simp only [ByteArray.size_append] at hz_; exact Nat.not_lt.2 hz_)])
         rotate_left
         ·simp only [Act.put, sA, s0, s1, i64_w, i32_w]
          rfl
         refine pure_ (i := 16) (N := some 8) (v := ?_) (a' := ?_) (tfA 17 0) rfl rfl (any_of HT_.out (by kernel_rfl)) (fun _ _ _ h => h) (Or.inl ⟨by rfl, ?_⟩) ?_ ?_
         rotate_left
         ·intro w'
          go_simp
          first | with_reducible rfl | (rw [if_neg (by have hz_ := c18; simp only [ByteArray.size_append] at hz_; exact Nat.not_lt.2 hz_)]) | (rw [if_neg (by have hz_ := c19; simp only [ByteArray.size_append] at hz_; exact Nat.not_lt.2 hz_)]) | (rw [if_neg (by have hz_ := c20; simp only [ByteArray.size_append] at hz_; exact Nat.not_lt.2 hz_)])
         rotate_left
         ·simp only [Act.put, sA, s0, s1, i64_w, i32_w]
          rfl
         refine done_ (done_of HT_.out (by kernel_rfl)) ?_
         try go_wp2
         go_ret
         exact ⟨by first | rfl | (simp [errW_none, errW_some] <;> rfl) | (simp [*, errW_none, errW_some] <;> rfl), by repeat (first | (with_reducible first | exact HB.out | apply below_alloc | apply pw_below_drewN | apply below_drew1 | refine below_set ?_ GE166.out | refine below_set ?_ GE178.out) | exact HB.out)⟩

end Go.Proofs.YtdmpbaanonafbaaGreatDoor.C
