-- written by a program of this session (wip/tools/pp.py)
import Derived.Test.YtdmpbaanonafbaaGreatDoorI1
import Derived.Test.YtdmpbaanonafbaaGreatDoorI2
import Derived.Test.YtdmpbaanonafbaaGreatDoorI4
namespace Go.Proofs.YtdmpbaanonafbaaGreatDoor.I
open Go.RowKit Go.Proofs.YtdmpbaanonafbaaGreatDoorW.PrintWords Go.Proofs.YtdmpbaanonafbaaGreatDoorW.PrintLast Go.Proofs.YtdmpbaanonafbaaGreatDoor.Flt Go.Proofs.YtdmpbaanonafbaaGreatDoor.GivZ Go.Proofs.YtdmpbaanonafbaaGreatDoor.E Go.Proofs.YtdmpbaanonafbaaGreatDoor.L Go.Proofs.YtdmpbaanonafbaaGreatDoor.V Go.Proofs.YtdmpbaanonafbaaGreatDoor.DoorBd Go.Proofs.YtdmpbaanonafbaaGreatDoor.Lives Go.Proofs.YtdmpbaanonafbaaGreatDoor.R Go.Proofs.YtdmpbaanonafbaaGreatDoorW.PrintMore
attribute [local go_sem] max2_int min2_int max_two min_two max_three min_three max_four min_four   -- for this text's walks alone
set_option linter.unusedVariables false
set_option linter.unusedSimpArgs false

/-! ### laws_normal__Buddyinfo: function 11 -/
mutual
def laws_normal__Buddyinfo.j0 : Nat → ByteArray → List (S48) → Bool → Option (Bool)
 | 0, _, _, _ => none
 | k + 1, x0, x9, x32 => if x32 = true then ((laws_lives.f).bind fun t159 => (some t159)) else ((spec_BuddyinfoPrint.f k x9).bind fun bt160 => (if bt160.2 = 1 then (laws_normal__Buddyinfo.j1 k x0 bt160.1 (decide ((bt160.1.size : Int) > 40000))) else (laws_normal__Buddyinfo.j1 k x0 bt160.1 true)))
def laws_normal__Buddyinfo.j1 : Nat → ByteArray → ByteArray → Bool → Option (Bool)
 | 0, _, _, _ => none
 | k + 1, x0, x12, x46 => if x46 = true then ((laws_lives.f).bind fun t162 => (some t162)) else ((impl_Buddyinfo.f k x0).bind fun bt163 => ((impl_Buddyinfo.f k x12).bind fun bt175 => (if bt163.2.2.2.2.2.2.2.2 = 0 then (if bt175.2.2.2.2.2.2.2.2 = 0 then ((laws_toNode.f k bt163.1 bt163.2.1 bt163.2.2.1 bt163.2.2.2.1 bt163.2.2.2.2.1 bt163.2.2.2.2.2.1 bt163.2.2.2.2.2.2.1 bt163.2.2.2.2.2.2.2.1).bind fun bt187 => ((laws_toNode.f k bt175.1 bt175.2.1 bt175.2.2.1 bt175.2.2.2.1 bt175.2.2.2.2.1 bt175.2.2.2.2.2.1 bt175.2.2.2.2.2.2.1 bt175.2.2.2.2.2.2.2.1).bind fun bt197 => ((spec_SameNode.f k bt187.1 bt187.2.1 bt187.2.2.1 bt187.2.2.2.1 bt187.2.2.2.2.1 bt187.2.2.2.2.2.1 bt187.2.2.2.2.2.2.1 bt187.2.2.2.2.2.2.2 bt197.1 bt197.2.1 bt197.2.2.1 bt197.2.2.2.1 bt197.2.2.2.2.1 bt197.2.2.2.2.2.1 bt197.2.2.2.2.2.2.1 bt197.2.2.2.2.2.2.2).bind fun t207 => (if t207 = true then ((laws_lives.f).bind fun t208 => (some t208)) else (none))))) else (none)) else (none))))
end
def laws_normal__Buddyinfo.f (k : Nat) (a0 : ByteArray)    : Option (Bool) := if (a0.size : Int) > 40000 then (some true) else ((spec_BuddyinfoRead.f k a0).bind fun bt154 => (if bt154.2.2 = 1 then (laws_normal__Buddyinfo.j0 k a0 bt154.1 (!bt154.2.1)) else (laws_normal__Buddyinfo.j0 k a0 bt154.1 true)))
theorem laws_normal__Buddyinfo.mono_l : ∀ k, (∀ y0 y1 y2, LeO (laws_normal__Buddyinfo.j0 k y0 y1 y2) (laws_normal__Buddyinfo.j0 (k + 1) y0 y1 y2)) ∧ (∀ y0 y1 y2, LeO (laws_normal__Buddyinfo.j1 k y0 y1 y2) (laws_normal__Buddyinfo.j1 (k + 1) y0 y1 y2))
 | 0 => ⟨fun _ _ _ r h => by simp [laws_normal__Buddyinfo.j0] at h, fun _ _ _ r h => by simp [laws_normal__Buddyinfo.j1] at h⟩
 | k + 1 => by
  obtain ⟨ih0, ih1⟩ := laws_normal__Buddyinfo.mono_l k
  refine ⟨?_, ?_⟩
  ·intro y0 y1 y2
   unfold laws_normal__Buddyinfo.j0
   repeat' first
   | (with_reducible exact ih0 _ _ _)
   | (with_reducible exact ih1 _ _ _)
   | (with_reducible exact impl_Buddyinfo.mono _ _)
   | (with_reducible exact laws_toNode.mono _ _ _ _ _ _ _ _ _)
   | (with_reducible exact spec_BuddyinfoPrint.mono _ _)
   | (with_reducible exact spec_BuddyinfoRead.mono _ _)
   | (with_reducible exact spec_SameNode.mono _ _ _ _ _ _ _ _ _ _ _ _ _ _ _ _ _)
   | (with_reducible exact LeO.refl _)
   | (with_reducible exact LeO.none _)
   | (with_reducible refine LeO.ite ?_ ?_)
   | (with_reducible refine LeO.bind ?_ (fun _ => ?_))
   | exact ih0 _ _ _
   | exact ih1 _ _ _
   | exact impl_Buddyinfo.mono _ _
   | exact laws_toNode.mono _ _ _ _ _ _ _ _ _
   | exact spec_BuddyinfoPrint.mono _ _
   | exact spec_BuddyinfoRead.mono _ _
   | exact spec_SameNode.mono _ _ _ _ _ _ _ _ _ _ _ _ _ _ _ _ _
   | exact LeO.none _
   | refine LeO.ite ?_ ?_
   | refine LeO.bind ?_ (fun _ => ?_)
  ·intro y0 y1 y2
   unfold laws_normal__Buddyinfo.j1
   repeat' first
   | (with_reducible exact ih0 _ _ _)
   | (with_reducible exact ih1 _ _ _)
   | (with_reducible exact impl_Buddyinfo.mono _ _)
   | (with_reducible exact laws_toNode.mono _ _ _ _ _ _ _ _ _)
   | (with_reducible exact spec_BuddyinfoPrint.mono _ _)
   | (with_reducible exact spec_BuddyinfoRead.mono _ _)
   | (with_reducible exact spec_SameNode.mono _ _ _ _ _ _ _ _ _ _ _ _ _ _ _ _ _)
   | (with_reducible exact LeO.refl _)
   | (with_reducible exact LeO.none _)
   | (with_reducible refine LeO.ite ?_ ?_)
   | (with_reducible refine LeO.bind ?_ (fun _ => ?_))
   | exact ih0 _ _ _
   | exact ih1 _ _ _
   | exact impl_Buddyinfo.mono _ _
   | exact laws_toNode.mono _ _ _ _ _ _ _ _ _
   | exact spec_BuddyinfoPrint.mono _ _
   | exact spec_BuddyinfoRead.mono _ _
   | exact spec_SameNode.mono _ _ _ _ _ _ _ _ _ _ _ _ _ _ _ _ _
   | exact LeO.none _
   | refine LeO.ite ?_ ?_
   | refine LeO.bind ?_ (fun _ => ?_)
theorem laws_normal__Buddyinfo.mono : ∀ a0 k, LeO (laws_normal__Buddyinfo.f k a0) (laws_normal__Buddyinfo.f (k + 1) a0) := by
 intro a0 k
 obtain ⟨ih0, ih1⟩ := laws_normal__Buddyinfo.mono_l k
 unfold laws_normal__Buddyinfo.f
 repeat' first
   | (with_reducible exact ih0 _ _ _)
   | (with_reducible exact ih1 _ _ _)
   | (with_reducible exact impl_Buddyinfo.mono _ _)
   | (with_reducible exact laws_toNode.mono _ _ _ _ _ _ _ _ _)
   | (with_reducible exact spec_BuddyinfoPrint.mono _ _)
   | (with_reducible exact spec_BuddyinfoRead.mono _ _)
   | (with_reducible exact spec_SameNode.mono _ _ _ _ _ _ _ _ _ _ _ _ _ _ _ _ _)
   | (with_reducible exact LeO.refl _)
   | (with_reducible exact LeO.none _)
   | (with_reducible refine LeO.ite ?_ ?_)
   | (with_reducible refine LeO.bind ?_ (fun _ => ?_))
   | exact ih0 _ _ _
   | exact ih1 _ _ _
   | exact impl_Buddyinfo.mono _ _
   | exact laws_toNode.mono _ _ _ _ _ _ _ _ _
   | exact spec_BuddyinfoPrint.mono _ _
   | exact spec_BuddyinfoRead.mono _ _
   | exact spec_SameNode.mono _ _ _ _ _ _ _ _ _ _ _ _ _ _ _ _ _
   | exact LeO.none _
   | refine LeO.ite ?_ ?_
   | refine LeO.bind ?_ (fun _ => ?_)
def laws_normal__Buddyinfo.T11 : Bool × List (List Nat × List Nat) := (true, [([], []), ([0], [0]), ([1], [1]), ([2], [2]), ([3, 2], [2, 3]), ([2, 4], [2, 4]), ([5, 2], [5]), ([6], [6]), ([7, 6, 6], [6, 7]), ([6], [6]), ([9, 8, 6], [6, 9]), ([8, 10, 10, 6], [6, 8, 10]), ([6, 11], [6, 11]), ([12, 11], [12]), ([13, 13], [13]), ([13, 14], [13, 14]), ([15, 14, 0, 1, 2, 3, 4, 5, 6, 7, 8, 9, 10, 11, 12, 13, 14, 15], [15])])
def laws_normal__Buddyinfo.B11 : List Nat := [0, 1, 3, 7, 15, 31, 63, 127, 255, 127, 1023, 2047, 4095, 8191, 16383, 32767, 65535]
theorem laws_normal__Buddyinfo.tab11 : rtab .any (opsOf Tryz.f11 11) = laws_normal__Buddyinfo.T11 := by kernel_rfl
theorem laws_normal__Buddyinfo.bits11 : waitsOk laws_normal__Buddyinfo.T11.2 laws_normal__Buddyinfo.B11 = true := by kernel_rfl
set_option maxHeartbeats 8000000 in
set_option maxRecDepth 100000 in
theorem laws_normal__Buddyinfo.calls (k : Nat) (a0 : ByteArray)    (r : Bool) (w : World) (h : laws_normal__Buddyinfo.f k a0 = some r) (hTabs : Tabs w := by first | exact hTabs | exact Tabs.below hTabs (by repeat (first | (with_reducible first | exact HB.out | apply below_alloc | apply pw_below_drewN | apply below_drew1 | refine below_set ?_ (Aside0.out (by assumption))) | exact HB.out))) :
  Calls Tryz.prog 11 #[.string a0, .func (.func 15) #[] #[], .func (.func 16) #[] #[], .func (.func 17) #[] #[]] w fun e w' => e = .returned (.bool r) ∧ Below w.heap.size w w' := by
 have hu35 := Tryz.underlying35
 have HB := Aside0.mk (Below.refl w.heap.size w)
 have H : (if (a0.size : Int) > 40000 then (some true) else ((spec_BuddyinfoRead.f k a0).bind fun bt154 => (if bt154.2.2 = 1 then (laws_normal__Buddyinfo.j0 k a0 bt154.1 (!bt154.2.1)) else (laws_normal__Buddyinfo.j0 k a0 bt154.1 true)))) = some r := h
 clear h
 by_cases c5 : (a0.size : Int) > 40000
 ·rw [if_pos c5] at H
  have c5b0 : decide (40000 < (a0.size : Int)) = true := decide_eq_true c5
  have c5b1 : decide (40000 < a0.size) = true := decide_eq_true (by omega)
  clear c5
  obtain rfl := Option.some.inj H
  go_enter Tryz.func11, Tryz.ntmps11
  go_wp2
  go_ret
  exact ⟨by first | rfl | (simp [errW_none, errW_some] <;> rfl) | (simp [*, errW_none, errW_some] <;> rfl), by repeat (first | (with_reducible first | exact HB.out | apply below_alloc | apply pw_below_drewN | apply below_drew1) | exact HB.out)⟩
 ·rw [if_neg c5] at H
  have c5b0 : decide (40000 < (a0.size : Int)) = false := decide_eq_false c5
  have c5b1 : decide (40000 < a0.size) = false := decide_eq_false (by omega)
  clear c5
  replace H := Option.bind_eq_some_iff.mp H
  obtain ⟨⟨t154, t157, t158⟩, A60, H⟩ := H
  have A6 := Aside0.mk A60
  clear A60
  have HC7 := Aside0.mk H
  clear H
  go_enter Tryz.func11, Tryz.ntmps11
  go_upto_region 4 with (first | (go_at_call 15; (with_reducible refine (spec_BuddyinfoRead.calls k a0 t154 t157 t158 _ A6.out).mono ?_); rintro e w8 ⟨v155, rfl, ho0, hb⟩; have n0_ := Aside0.mk (Kd.V_lower (Kd.V_mono (ok' := fun k_ => True) ho0 (fun k_ hk_ => trivial)) (below_size belH)); have n1_ := Aside0.mk (below_step belH hb); clear HB; have HO156 := n0_; have HB := n1_; clear n0_ n1_; (try clear hb); (try clear hb2); (try clear hk); (try clear hi); (try clear ho0)))
  (try simp only [Act.put, List.setIfInBounds_toArray, List.set_cons_zero, List.set_cons_succ])
  go_cut [32] (fun v32 wc => ∃ (kq : Nat) (x32_6 : Bool), v32 = .bool x32_6 ∧ Aside0 (laws_normal__Buddyinfo.j0 kq a0 t154 x32_6 = some r) ∧ Aside0 (kq ≤ k) ∧ Aside0 (Kd.V k48 48 wc w.heap.size (fun _ => True) v155 t154) ∧ Aside0 (Below w.heap.size w wc))
  case first =>
   have H := HC7.out
   clear HC7
   by_cases c9 : t158 = 1
   ·rw [if_pos c9] at H
    have c9b0 : (t158 == 1) = true := beq_iff_eq.mpr c9
    have c9b1 : (t158 != 1) = false := bne_eq_false_iff_eq.mpr c9
    clear c9
    (first | rw [c9b0] | (simp only [i64_w, i32_w]; rw [c9b0]) | skip)
    have H' := Aside0.mk H
    clear H
    go_wp2
    go_meet
    case rel => exact ⟨_, (!t157), (by first | rfl | (simp; done) | (simp [*]; done) | (simp [bne_nil]; done) | (simp [bne_nil, *]; done)), H', ⟨by first | omega | exact Nat.le_refl _⟩, ⟨by (with_reducible repeat (first | apply Kd.V_alloc | apply Kd.V_drewN | apply Kd.V_drew)); exact HO156.out⟩, ⟨by repeat (first | (with_reducible first | exact HB.out | apply below_alloc | apply pw_below_drewN | apply below_drew1) | exact HB.out)⟩⟩
   ·rw [if_neg c9] at H
    have c9b0 : (t158 == 1) = false := beq_eq_false_iff_ne.mpr c9
    have c9b1 : (t158 != 1) = true := bne_iff_ne.mpr c9
    (first | rw [c9b0] | (simp only [i64_w, i32_w]; rw [c9b0]) | skip)
    have H' := Aside0.mk H
    clear H
    go_wp2
    go_meet
    case rel => exact ⟨_, (true), (by first | rfl | (simp; done) | (simp [*]; done) | (simp [bne_nil]; done) | (simp [bne_nil, *]; done)), H', ⟨by first | omega | exact Nat.le_refl _⟩, ⟨by (with_reducible repeat (first | apply Kd.V_alloc | apply Kd.V_drewN | apply Kd.V_drew)); exact HO156.out⟩, ⟨by repeat (first | (with_reducible first | exact HB.out | apply below_alloc | apply pw_below_drewN | apply below_drew1) | exact HB.out)⟩⟩
  case rest =>
   clear HC7
   try clear p2
   try clear c5
   try clear c5b0
   try clear c5b1
   try clear c9
   try clear c9b0
   try clear c9b1
   obtain ⟨kq, x32_6, rfl, HA, HJ6, HO_9, HB⟩ := hcut
   cases kq with
   | zero => exact absurd HA.out (by simp [laws_normal__Buddyinfo.j0])
   | succ kj6 =>
    have H := HA.out
    clear HA
    simp only [laws_normal__Buddyinfo.j0] at H
    by_cases c10 : x32_6 = true
    ·subst c10
     have H1 : ((laws_lives.f).bind fun t159 => (some t159)) = some r := by rw [if_pos rfl] at H; exact H
     clear H
     have H := H1
     clear H1
     replace H := Option.bind_eq_some_iff.mp H
     obtain ⟨t159, A110, H⟩ := H
     have A11 := Aside0.mk A110
     clear A110
     obtain rfl := Option.some.inj H
     go_wp2_with (first | ((with_reducible refine gate_callee (f := 36) rfl ?_); refine goesL_ (some 33) rfl rfl Tryz.func36 (by kernel_rfl) rfl #[] rfl (by (try simp only [List.map_toArray, List.map_cons, List.map_nil]); first | done | rfl | (simp only [List.length_drop, List.length_take]; rfl)) ?_; (with_reducible refine (laws_lives.calls  t159 _ A11.out).mono ?_); rintro e w12 ⟨rfl, hb⟩; refine ⟨_, rfl, ?_⟩; have n0_ := Aside0.mk (Kd.V_below (by (with_reducible repeat (first | apply Kd.V_alloc | apply Kd.V_drewN | apply Kd.V_drew)); exact HO_9.out) hb); have n1_ := Aside0.mk (below_step belH hb); clear HO_9; clear HB; have HO_9 := n0_; have HB := n1_; clear n0_ n1_; (try clear hb); (try clear hb2); (try clear hk); (try clear hi)))
     go_ret
     exact ⟨by first | rfl | (simp [errW_none, errW_some] <;> rfl) | (simp [*, errW_none, errW_some] <;> rfl), by repeat (first | (with_reducible first | exact HB.out | apply below_alloc | apply pw_below_drewN | apply below_drew1) | exact HB.out)⟩
    ·replace c10 := Bool.eq_false_iff.mpr c10
     subst c10
     have H1 : ((spec_BuddyinfoPrint.f kj6 t154).bind fun bt160 => (if bt160.2 = 1 then (laws_normal__Buddyinfo.j1 kj6 a0 bt160.1 (decide ((bt160.1.size : Int) > 40000))) else (laws_normal__Buddyinfo.j1 kj6 a0 bt160.1 true))) = some r := by rw [if_neg (show ¬ (false = true) by decide)] at H; exact H
     clear H
     have H := H1
     clear H1
     replace H := Option.bind_eq_some_iff.mp H
     obtain ⟨⟨t160, t161⟩, A130, H⟩ := H
     have A13 := Aside0.mk A130
     clear A130
     have HC14 := Aside0.mk H
     clear H
     obtain ⟨Ao15, co15, eo15⟩ := Kd.V_slice HO_9.out
     subst eo15
     go_upto_region 7 with (first | (go_at_call 16; (with_reducible refine (spec_BuddyinfoPrint.calls kj6 _ _ t154 t160 t161 _ ?side1 ?side2 A13.out).mono ?_); (case side1 => repeat (first | exact (Kd.V_reads' HO_9.out).2.2 | (with_reducible refine Kd.C_alloc ?_ _) | (with_reducible refine Kd.C_drewN ?_ _) | (with_reducible refine Kd.C_drew ?_))); (case side2 => exact (Kd.V_reads' HO_9.out).2.1); rintro e w16 ⟨rfl, hb⟩; have n0_ := Aside0.mk (Kd.V_below (by (with_reducible repeat (first | apply Kd.V_alloc | apply Kd.V_drewN | apply Kd.V_drew)); exact HO_9.out) hb); have n1_ := Aside0.mk (below_step belH hb); clear HO_9; clear HB; have HO_9 := n0_; have HB := n1_; clear n0_ n1_; (try clear hb); (try clear hb2); (try clear hk); (try clear hi)))
     (try simp only [Act.put, List.setIfInBounds_toArray, List.set_cons_zero, List.set_cons_succ])
     go_cut [46] (fun v46 wc => ∃ (kq : Nat) (x46_13 : Bool), v46 = .bool x46_13 ∧ Aside0 (laws_normal__Buddyinfo.j1 kq a0 t160 x46_13 = some r) ∧ Aside0 (kq ≤ kj6) ∧ Aside0 (Below w.heap.size w wc))
     case first =>
      have H := HC14.out
      clear HC14
      by_cases c17 : t161 = 1
      ·rw [if_pos c17] at H
       have c17b0 : (t161 == 1) = true := beq_iff_eq.mpr c17
       have c17b1 : (t161 != 1) = false := bne_eq_false_iff_eq.mpr c17
       clear c17
       (first | rw [c17b0] | (simp only [i64_w, i32_w]; rw [c17b0]) | skip)
       have H' := Aside0.mk H
       clear H
       go_wp2
       go_meet
       case rel => exact ⟨_, (decide ((t160.size : Int) > 40000)), (by first | rfl | (simp; done) | (simp [*]; done) | (simp [bne_nil]; done) | (simp [bne_nil, *]; done)), H', ⟨by have := HJ6.out; first | omega | exact Nat.le_refl _⟩, ⟨by repeat (first | (with_reducible first | exact HB.out | apply below_alloc | apply pw_below_drewN | apply below_drew1) | exact HB.out)⟩⟩
      ·rw [if_neg c17] at H
       have c17b0 : (t161 == 1) = false := beq_eq_false_iff_ne.mpr c17
       have c17b1 : (t161 != 1) = true := bne_iff_ne.mpr c17
       (first | rw [c17b0] | (simp only [i64_w, i32_w]; rw [c17b0]) | skip)
       have H' := Aside0.mk H
       clear H
       go_wp2
       go_meet
       case rel => exact ⟨_, (true), (by first | rfl | (simp; done) | (simp [*]; done) | (simp [bne_nil]; done) | (simp [bne_nil, *]; done)), H', ⟨by have := HJ6.out; first | omega | exact Nat.le_refl _⟩, ⟨by repeat (first | (with_reducible first | exact HB.out | apply below_alloc | apply pw_below_drewN | apply below_drew1) | exact HB.out)⟩⟩
     case rest =>
      clear HC14
      try clear c1
      try clear p2
      try clear c3
      try clear c5
      try clear c5b0
      try clear c5b1
      try clear c9
      try clear c9b0
      try clear c9b1
      try clear c10
      try clear c17
      try clear c17b0
      try clear c17b1
      try clear p2
      obtain ⟨kq, x46_13, rfl, HA, HJ13, HB⟩ := hcut
      cases kq with
      | zero => exact absurd HA.out (by simp [laws_normal__Buddyinfo.j1])
      | succ kj13 =>
       have H := HA.out
       clear HA
       simp only [laws_normal__Buddyinfo.j1] at H
       by_cases c18 : x46_13 = true
       ·subst c18
        have H1 : ((laws_lives.f).bind fun t162 => (some t162)) = some r := by rw [if_pos rfl] at H; exact H
        clear H
        have H := H1
        clear H1
        replace H := Option.bind_eq_some_iff.mp H
        obtain ⟨t162, A190, H⟩ := H
        have A19 := Aside0.mk A190
        clear A190
        obtain rfl := Option.some.inj H
        go_wp2_with (first | ((with_reducible refine gate_callee (f := 36) rfl ?_); refine goesL_ (some 47) rfl rfl Tryz.func36 (by kernel_rfl) rfl #[] rfl (by (try simp only [List.map_toArray, List.map_cons, List.map_nil]); first | done | rfl | (simp only [List.length_drop, List.length_take]; rfl)) ?_; (with_reducible refine (laws_lives.calls  t162 _ A19.out).mono ?_); rintro e w20 ⟨rfl, hb⟩; refine ⟨_, rfl, ?_⟩; have n0_ := Aside0.mk (below_step belH hb); clear HB; have HB := n0_; clear n0_; (try clear hb); (try clear hb2); (try clear hk); (try clear hi)))
        go_ret
        exact ⟨by first | rfl | (simp [errW_none, errW_some] <;> rfl) | (simp [*, errW_none, errW_some] <;> rfl), by repeat (first | (with_reducible first | exact HB.out | apply below_alloc | apply pw_below_drewN | apply below_drew1) | exact HB.out)⟩
       ·replace c18 := Bool.eq_false_iff.mpr c18
        subst c18
        have H1 : ((impl_Buddyinfo.f kj13 a0).bind fun bt163 => ((impl_Buddyinfo.f kj13 t160).bind fun bt175 => (if bt163.2.2.2.2.2.2.2.2 = 0 then (if bt175.2.2.2.2.2.2.2.2 = 0 then ((laws_toNode.f kj13 bt163.1 bt163.2.1 bt163.2.2.1 bt163.2.2.2.1 bt163.2.2.2.2.1 bt163.2.2.2.2.2.1 bt163.2.2.2.2.2.2.1 bt163.2.2.2.2.2.2.2.1).bind fun bt187 => ((laws_toNode.f kj13 bt175.1 bt175.2.1 bt175.2.2.1 bt175.2.2.2.1 bt175.2.2.2.2.1 bt175.2.2.2.2.2.1 bt175.2.2.2.2.2.2.1 bt175.2.2.2.2.2.2.2.1).bind fun bt197 => ((spec_SameNode.f kj13 bt187.1 bt187.2.1 bt187.2.2.1 bt187.2.2.2.1 bt187.2.2.2.2.1 bt187.2.2.2.2.2.1 bt187.2.2.2.2.2.2.1 bt187.2.2.2.2.2.2.2 bt197.1 bt197.2.1 bt197.2.2.1 bt197.2.2.2.1 bt197.2.2.2.2.1 bt197.2.2.2.2.2.1 bt197.2.2.2.2.2.2.1 bt197.2.2.2.2.2.2.2).bind fun t207 => (if t207 = true then ((laws_lives.f).bind fun t208 => (some t208)) else (none))))) else (none)) else (none)))) = some r := by rw [if_neg (show ¬ (false = true) by decide)] at H; exact H
        clear H
        have H := H1
        clear H1
        replace H := Option.bind_eq_some_iff.mp H
        obtain ⟨⟨t163, t164, t165, t166, t167, t168, t169, t170, t173⟩, A210, H⟩ := H
        have A21 := Aside0.mk A210
        clear A210
        replace H := Option.bind_eq_some_iff.mp H
        obtain ⟨⟨t175, t176, t177, t178, t179, t180, t181, t182, t185⟩, A220, H⟩ := H
        have A22 := Aside0.mk A220
        clear A220
        by_cases c23 : t173 = 0
        ·rw [if_pos c23] at H
         have c23b0 : (t173 == 0) = true := beq_iff_eq.mpr c23
         have c23b1 : (t173 != 0) = false := bne_eq_false_iff_eq.mpr c23
         clear c23
         by_cases c24 : t185 = 0
         ·rw [if_pos c24] at H
          have c24b0 : (t185 == 0) = true := beq_iff_eq.mpr c24
          have c24b1 : (t185 != 0) = false := bne_eq_false_iff_eq.mpr c24
          clear c24
          replace H := Option.bind_eq_some_iff.mp H
          obtain ⟨⟨t187, t188, t189, t190, t191, t192, t193, t194⟩, A250, H⟩ := H
          have A25 := Aside0.mk A250
          clear A250
          replace H := Option.bind_eq_some_iff.mp H
          obtain ⟨⟨t197, t198, t199, t200, t201, t202, t203, t204⟩, A260, H⟩ := H
          have A26 := Aside0.mk A260
          clear A260
          replace H := Option.bind_eq_some_iff.mp H
          obtain ⟨t207, A270, H⟩ := H
          have A27 := Aside0.mk A270
          clear A270
          by_cases c28 : t207 = true
          ·subst c28
           have H1 : ((laws_lives.f).bind fun t208 => (some t208)) = some r := by rw [if_pos rfl] at H; exact H
           clear H
           have H := H1
           clear H1
           replace H := Option.bind_eq_some_iff.mp H
           obtain ⟨t208, A290, H⟩ := H
           have A29 := Aside0.mk A290
           clear A290
           obtain rfl := Option.some.inj H
           try go_wp2_with (first | (go_at_call 17; (with_reducible refine (impl_Buddyinfo.calls kj13 a0 t163 t164 t165 t166 t167 t168 t169 t170 t173 _ A21.out).mono ?_); rintro e w30 ⟨v171, rfl, ho0, hb⟩; have n0_ := Aside0.mk (Kd.R_lower ho0 (below_size belH)); have n1_ := Aside0.mk (below_step belH hb); clear HB; have HO172 := n0_; have HB := n1_; clear n0_ n1_; (try clear hb); (try clear hb2); (try clear hk); (try clear hi); (try clear ho0)) | ((with_reducible refine gate_dst (N := 13) rfl ?_); (try (refine gate_guard (by rfl) ?_; dsimp only)); refine box_event ?hg (N := 13) ?hd (cs := #[.string (⟨#[]⟩ : ByteArray), .int .i64 0, .bool false, .int .i64 0, .int .u64 0, .float .f64 0, .string (⟨#[]⟩ : ByteArray), .slice none 0 0]) (t := 35) ?hr ?_; (case hd => rfl); (case hg => rfl); (case hr => first | (go_simp; done) | (go_simp; rfl)); intro gb174 hg w31 hbox hb; have n0_ := Aside0.mk (Kd.R_below (Kd.R_elderB (by (with_reducible repeat (first | apply Kd.R_alloc | apply Kd.R_drewN | apply Kd.R_drew)); exact HO172.out) gb174 (Nat.le_of_eq hg.symm)) hb); have n1_ := Aside0.mk (below_step belH hb); have n2_ := Aside0.mk (hbox); have n3_ := Aside0.mk ((by rw [hg]; exact (below_size belH) : w.heap.size ≤ gb174)); have n4_ := Aside0.mk ((by rw [hg]; exact (below_size belH) : w.heap.size ≤ gb174)); clear HO172; clear HB; have HO172 := n0_; have HB := n1_; have BK174 := n2_; have GW174 := n3_; have GE174 := n4_; clear n0_ n1_ n2_ n3_ n4_; clear hb hbox hg; obtain ⟨hcz32_0, hcz32_1, hcz32_2, hcz32_3, hcz32_4, hcz32_5, hcz32_6, hcz32_7, hfz32_0, hfz32_1, hfz32_2, hfz32_3, hfz32_4, hfz32_5, hfz32_6, hfz32_7⟩ := rows8 (w := w31) BK174; obtain ⟨Ao33, co33, eo33⟩ := Kd.R_slice HO172.out; subst eo33) | (go_at_call 17; (with_reducible refine (impl_Buddyinfo.calls kj13 t160 t175 t176 t177 t178 t179 t180 t181 t182 t185 _ A22.out).mono ?_); rintro e w34 ⟨v183, rfl, ho0, hb⟩; have n0_ := Aside0.mk (Kd.R_elder' (by (with_reducible repeat (first | apply Kd.R_alloc | apply Kd.R_drewN | apply Kd.R_drew)); exact (Kd.R_mono (Kd.R_far8 (g := gb174) (Kd.R_mono HO172.out (fun k_ hk => (⟨hk, hk.2⟩ : _ ∧ k_ ≠ gb174))) (fun _ hk => hk.2) (.string t163) (.int .i64 t164) (.bool t165) (.int .i64 t166) (.int .u64 t167) (.float .f64 t168) (.string t169) (.slice Ao33 t170.length co33)) (fun _ h_ => h_.1))) (Kd.R_base ho0) hb); have n1_ := Aside0.mk (Kd.R_lower (Kd.R_newB (Kd.R_new' ho0 (Kd.R_lt (by (with_reducible repeat (first | apply Kd.R_alloc | apply Kd.R_drewN | apply Kd.R_drew)); exact (Kd.R_mono (Kd.R_far8 (g := gb174) (Kd.R_mono HO172.out (fun k_ hk => (⟨hk, hk.2⟩ : _ ∧ k_ ≠ gb174))) (fun _ hk => hk.2) (.string t163) (.int .i64 t164) (.bool t165) (.int .i64 t166) (.int .u64 t167) (.float .f64 t168) (.string t169) (.slice Ao33 t170.length co33)) (fun _ h_ => h_.1))))) (g := gb174) (o := .cells #[.string t163, .int .i64 t164, .bool t165, .int .i64 t166, .int .u64 t167, .float .f64 t168, .string t169, .slice Ao33 t170.length co33] 35 (0, 0)) (by refine bY ?_; exact blk_put8 BK174.out)) (below_size belS)); have n2_ := Aside0.mk (blk_below (g := gb174) (o := .cells #[.string t163, .int .i64 t164, .bool t165, .int .i64 t166, .int .u64 t167, .float .f64 t168, .string t169, .slice Ao33 t170.length co33] 35 (0, 0)) (by refine bY ?_; exact blk_put8 BK174.out) hb); have n3_ := Aside0.mk (below_step belS hb); clear HO172; clear BK174; clear HB; have HO172 := n0_; have HO184 := n1_; have BK174 := n2_; have HB := n3_; clear n0_ n1_ n2_ n3_; (try clear hb); (try clear hb2); (try clear hk); (try clear hi); (try clear ho0)) | ((with_reducible refine gate_dst (N := 15) rfl ?_); (try (refine gate_guard (by rfl) ?_; dsimp only)); refine box_event ?hg (N := 15) ?hd (cs := #[.string (⟨#[]⟩ : ByteArray), .int .i64 0, .bool false, .int .i64 0, .int .u64 0, .float .f64 0, .string (⟨#[]⟩ : ByteArray), .slice none 0 0]) (t := 35) ?hr ?_; (case hd => rfl); (case hg => rfl); (case hr => first | (go_simp; done) | (go_simp; rfl)); intro gb186 hg w35 hbox hb; have n0_ := Aside0.mk (Kd.R_below (Kd.R_elderB (by (with_reducible repeat (first | apply Kd.R_alloc | apply Kd.R_drewN | apply Kd.R_drew)); exact HO172.out) gb186 (Nat.le_of_eq hg.symm)) hb); have n1_ := Aside0.mk (Kd.R_below (Kd.R_elderB (by (with_reducible repeat (first | apply Kd.R_alloc | apply Kd.R_drewN | apply Kd.R_drew)); exact HO184.out) gb186 (Nat.le_of_eq hg.symm)) hb); have n2_ := Aside0.mk (blk_below (g := gb174) (o := .cells #[.string t163, .int .i64 t164, .bool t165, .int .i64 t166, .int .u64 t167, .float .f64 t168, .string t169, .slice Ao33 t170.length co33] 35 (0, 0)) (by refine bY ?_; exact BK174.out) hb); have n3_ := Aside0.mk (below_step belS hb); have n4_ := Aside0.mk (hbox); have n5_ := Aside0.mk ((by rw [hg]; exact (below_size belS) : w.heap.size ≤ gb186)); have n6_ := Aside0.mk ((by rw [hg]; exact (below_size belS) : w.heap.size ≤ gb186)); have n7_ := Aside0.mk ((by rw [hg]; exact Nat.ne_of_lt (blk_lt (g := gb174) (o := .cells #[.string t163, .int .i64 t164, .bool t165, .int .i64 t166, .int .u64 t167, .float .f64 t168, .string t169, .slice Ao33 t170.length co33] 35 (0, 0)) (by refine bY ?_; exact BK174.out)) : gb174 ≠ gb186)); have n8_ := Aside0.mk ((by rw [hg]; exact Nat.ne_of_gt (blk_lt (g := gb174) (o := .cells #[.string t163, .int .i64 t164, .bool t165, .int .i64 t166, .int .u64 t167, .float .f64 t168, .string t169, .slice Ao33 t170.length co33] 35 (0, 0)) (by refine bY ?_; exact BK174.out)) : gb186 ≠ gb174)); clear HO172; clear HO184; clear BK174; clear HB; have HO172 := n0_; have HO184 := n1_; have BK174 := n2_; have HB := n3_; have BK186 := n4_; have GW186 := n5_; have GE186 := n6_; have NB174_186 := n7_; have NB186_174 := n8_; clear n0_ n1_ n2_ n3_ n4_ n5_ n6_ n7_ n8_; clear hb hbox hg; have hnb36 := NB186_174.out; have hnc36 := NB174_186.out; obtain ⟨hcz37_0, hcz37_1, hcz37_2, hcz37_3, hcz37_4, hcz37_5, hcz37_6, hcz37_7, hfz37_0, hfz37_1, hfz37_2, hfz37_3, hfz37_4, hfz37_5, hfz37_6, hfz37_7⟩ := rows8 (w := w35) BK186; obtain ⟨Ao38, co38, eo38⟩ := Kd.R_slice HO184.out; subst eo38))
           have n0_ : Aside0 (Kd.R k35 35 ((((((((w35.setCell ⟨gb186, 0, none⟩ (.string t175)).setCell ⟨gb186, 1, none⟩ (.int .i64 t176)).setCell ⟨gb186, 2, none⟩ (.bool t177)).setCell ⟨gb186, 3, none⟩ (.int .i64 t178)).setCell ⟨gb186, 4, none⟩ (.int .u64 t179)).setCell ⟨gb186, 5, none⟩ (.float .f64 t180)).setCell ⟨gb186, 6, none⟩ (.string t181)).setCell ⟨gb186, 7, none⟩ (.slice Ao38 t182.length co38)) w.heap.size (fun k_ => some k_ ≠ (.slice Ao38 t182.length co38 : Value).ownBlock ∧ k_ ≠ gb174 ∧ k_ ≠ gb186) (.slice Ao33 t170.length co33) t170) := ⟨by (with_reducible repeat (first | apply Kd.R_alloc | apply Kd.R_drewN | apply Kd.R_drew)); exact Kd.R_mono (Kd.R_far8 (g := gb186) (Kd.R_mono HO172.out (fun k_ hk => (⟨hk, hk.2⟩ : _ ∧ k_ ≠ gb186))) (fun _ hk => hk.2) (.string t175) (.int .i64 t176) (.bool t177) (.int .i64 t178) (.int .u64 t179) (.float .f64 t180) (.string t181) (.slice Ao38 t182.length co38)) (fun _ hk => ⟨hk.1.1.2, ⟨hk.1.1.1.2, hk.1.2⟩⟩)⟩
           have n1_ : Aside0 (Kd.R k35 35 ((((((((w35.setCell ⟨gb186, 0, none⟩ (.string t175)).setCell ⟨gb186, 1, none⟩ (.int .i64 t176)).setCell ⟨gb186, 2, none⟩ (.bool t177)).setCell ⟨gb186, 3, none⟩ (.int .i64 t178)).setCell ⟨gb186, 4, none⟩ (.int .u64 t179)).setCell ⟨gb186, 5, none⟩ (.float .f64 t180)).setCell ⟨gb186, 6, none⟩ (.string t181)).setCell ⟨gb186, 7, none⟩ (.slice Ao38 t182.length co38)) w.heap.size (fun k_ => some k_ ≠ (.slice Ao33 t170.length co33 : Value).ownBlock ∧ k_ ≠ gb174 ∧ k_ ≠ gb186) (.slice Ao38 t182.length co38) t182) := ⟨by (with_reducible repeat (first | apply Kd.R_alloc | apply Kd.R_drewN | apply Kd.R_drew)); exact Kd.R_mono (Kd.R_far8 (g := gb186) (Kd.R_mono HO184.out (fun k_ hk => (⟨hk, hk.2⟩ : _ ∧ k_ ≠ gb186))) (fun _ hk => hk.2) (.string t175) (.int .i64 t176) (.bool t177) (.int .i64 t178) (.int .u64 t179) (.float .f64 t180) (.string t181) (.slice Ao38 t182.length co38)) (fun _ hk => ⟨hk.1.1.1.2, ⟨hk.1.1.2, hk.1.2⟩⟩)⟩
           have n2_ : Aside0 (((((((((w35.setCell ⟨gb186, 0, none⟩ (.string t175)).setCell ⟨gb186, 1, none⟩ (.int .i64 t176)).setCell ⟨gb186, 2, none⟩ (.bool t177)).setCell ⟨gb186, 3, none⟩ (.int .i64 t178)).setCell ⟨gb186, 4, none⟩ (.int .u64 t179)).setCell ⟨gb186, 5, none⟩ (.float .f64 t180)).setCell ⟨gb186, 6, none⟩ (.string t181)).setCell ⟨gb186, 7, none⟩ (.slice Ao38 t182.length co38)).heap[gb174]? = some (.cells #[.string t163, .int .i64 t164, .bool t165, .int .i64 t166, .int .u64 t167, .float .f64 t168, .string t169, .slice Ao33 t170.length co33] 35 (0, 0))) := ⟨by refine bY ?_; refine blk_far ?_ NB174_186.out _; refine bY ?_; refine blk_far ?_ NB174_186.out _; refine bY ?_; refine blk_far ?_ NB174_186.out _; refine bY ?_; refine blk_far ?_ NB174_186.out _; refine bY ?_; refine blk_far ?_ NB174_186.out _; refine bY ?_; refine blk_far ?_ NB174_186.out _; refine bY ?_; refine blk_far ?_ NB174_186.out _; refine bY ?_; refine blk_far ?_ NB174_186.out _; refine bY ?_; exact BK174.out⟩
           have n3_ : Aside0 (((((((((w35.setCell ⟨gb186, 0, none⟩ (.string t175)).setCell ⟨gb186, 1, none⟩ (.int .i64 t176)).setCell ⟨gb186, 2, none⟩ (.bool t177)).setCell ⟨gb186, 3, none⟩ (.int .i64 t178)).setCell ⟨gb186, 4, none⟩ (.int .u64 t179)).setCell ⟨gb186, 5, none⟩ (.float .f64 t180)).setCell ⟨gb186, 6, none⟩ (.string t181)).setCell ⟨gb186, 7, none⟩ (.slice Ao38 t182.length co38)).heap[gb186]? = some (.cells #[.string t175, .int .i64 t176, .bool t177, .int .i64 t178, .int .u64 t179, .float .f64 t180, .string t181, .slice Ao38 t182.length co38] 35 (0, 0))) := ⟨by refine bY ?_; exact blk_put8 BK186.out⟩
           have n4_ : Aside0 (Below w.heap.size w ((((((((w35.setCell ⟨gb186, 0, none⟩ (.string t175)).setCell ⟨gb186, 1, none⟩ (.int .i64 t176)).setCell ⟨gb186, 2, none⟩ (.bool t177)).setCell ⟨gb186, 3, none⟩ (.int .i64 t178)).setCell ⟨gb186, 4, none⟩ (.int .u64 t179)).setCell ⟨gb186, 5, none⟩ (.float .f64 t180)).setCell ⟨gb186, 6, none⟩ (.string t181)).setCell ⟨gb186, 7, none⟩ (.slice Ao38 t182.length co38))) := ⟨by repeat (first | (with_reducible first | exact HB.out | apply below_alloc | apply pw_below_drewN | apply below_drew1 | refine below_set ?_ GE174.out | refine below_set ?_ GE186.out) | exact HB.out)⟩
           (try clear HO172)
           (try clear HO184)
           (try clear BK174)
           (try clear BK186)
           (try clear HB)
           generalize ((((((((w35.setCell ⟨gb186, 0, none⟩ (.string t175)).setCell ⟨gb186, 1, none⟩ (.int .i64 t176)).setCell ⟨gb186, 2, none⟩ (.bool t177)).setCell ⟨gb186, 3, none⟩ (.int .i64 t178)).setCell ⟨gb186, 4, none⟩ (.int .u64 t179)).setCell ⟨gb186, 5, none⟩ (.float .f64 t180)).setCell ⟨gb186, 6, none⟩ (.string t181)).setCell ⟨gb186, 7, none⟩ (.slice Ao38 t182.length co38)) = w39 at n0_ n1_ n2_ n3_ n4_ ⊢
           have HO172 := n0_
           have HO184 := n1_
           have BK174 := n2_
           have BK186 := n3_
           have HB := n4_
           clear n0_ n1_ n2_ n3_ n4_
           have n0_ := Aside0.mk (Kd.R_drew HO172.out)
           have n1_ := Aside0.mk (Kd.R_drew HO184.out)
           have n2_ := Aside0.mk (blk_drew BK174.out)
           have n3_ := Aside0.mk (blk_drew BK186.out)
           have n4_ := Aside0.mk (below_drew1 HB.out)
           clear HO172
           clear HO184
           clear BK174
           clear BK186
           clear HB
           have HO172 := n0_
           have HO184 := n1_
           have BK174 := n2_
           have BK186 := n3_
           have HB := n4_
           clear n0_ n1_ n2_ n3_ n4_
           refine start_ (n := 17) (S := fun w' => w'.cell? ⟨gb174, 0, none⟩ = some (.string t163) ∧ w'.cell? ⟨gb174, 1, none⟩ = some (.int .i64 t164) ∧ w'.cell? ⟨gb174, 2, none⟩ = some (.bool t165) ∧ w'.cell? ⟨gb174, 3, none⟩ = some (.int .i64 t166) ∧ w'.cell? ⟨gb174, 4, none⟩ = some (.int .u64 t167) ∧ w'.cell? ⟨gb174, 5, none⟩ = some (.float .f64 t168) ∧ w'.cell? ⟨gb174, 6, none⟩ = some (.string t169) ∧ w'.cell? ⟨gb174, 7, none⟩ = some (.slice Ao33 t170.length co33) ∧ w'.cell? ⟨gb186, 0, none⟩ = some (.string t175) ∧ w'.cell? ⟨gb186, 1, none⟩ = some (.int .i64 t176) ∧ w'.cell? ⟨gb186, 2, none⟩ = some (.bool t177) ∧ w'.cell? ⟨gb186, 3, none⟩ = some (.int .i64 t178) ∧ w'.cell? ⟨gb186, 4, none⟩ = some (.int .u64 t179) ∧ w'.cell? ⟨gb186, 5, none⟩ = some (.float .f64 t180) ∧ w'.cell? ⟨gb186, 6, none⟩ = some (.string t181) ∧ w'.cell? ⟨gb186, 7, none⟩ = some (.slice Ao38 t182.length co38)) (ds := []) (tfA 0 17) (by kernel_rfl) rfl rfl ⟨(blk_cell BK174.out 0).trans rfl, (blk_cell BK174.out 1).trans rfl, (blk_cell BK174.out 2).trans rfl, (blk_cell BK174.out 3).trans rfl, (blk_cell BK174.out 4).trans rfl, (blk_cell BK174.out 5).trans rfl, (blk_cell BK174.out 6).trans rfl, (blk_cell BK174.out 7).trans rfl, (blk_cell BK186.out 0).trans rfl, (blk_cell BK186.out 1).trans rfl, (blk_cell BK186.out 2).trans rfl, (blk_cell BK186.out 3).trans rfl, (blk_cell BK186.out 4).trans rfl, (blk_cell BK186.out 5).trans rfl, (blk_cell BK186.out 6).trans rfl, (blk_cell BK186.out 7).trans rfl⟩ (fun hHeld => ?_); refine with_tabW laws_normal__Buddyinfo.tab11 laws_normal__Buddyinfo.bits11 (fun HT_ HW_ => ?_)
           generalize w39.drew = w40 at HO172 HO184 BK174 BK186 HB hHeld ⊢
           refine pure_ (i := 0) (N := some 60) (v := ?_) (a' := ?_) (tfA 1 16) rfl rfl (any_of HT_.out (by kernel_rfl)) (fun _ _ _ h => h) (Or.inl ⟨by rfl, ?_⟩) ?_ ?_
           rotate_left
           ·intro w'
            go_simp
            with_reducible rfl
           rotate_left
           ·simp only [Act.put, sA, s0, s1, i64_w, i32_w]
            rfl
           refine pure_ (i := 1) (N := some 61) (v := ?_) (a' := ?_) (tfA 2 15) rfl rfl (any_of HT_.out (by kernel_rfl)) (fun _ _ _ h => h) (Or.inl ⟨by rfl, ?_⟩) ?_ ?_
           rotate_left
           ·intro w'
            go_simp
            with_reducible rfl
           rotate_left
           ·simp only [Act.put, sA, s0, s1, i64_w, i32_w]
            rfl
           refine pure_ (i := 2) (N := some 62) (v := ?_) (a' := ?_) (tfA 3 14) rfl rfl (any_of HT_.out (by kernel_rfl)) (fun _ _ _ h => h) (Or.inl ⟨by rfl, ?_⟩) ?_ ?_
           rotate_left
           ·intro w'
            go_simp
            with_reducible rfl
           rotate_left
           ·simp only [Act.put, sA, s0, s1, i64_w, i32_w]
            rfl
           refine pure_ (i := 3) (N := some 63) (v := ?_) (a' := ?_) (tfA 4 13) rfl rfl (any_of HT_.out (by kernel_rfl)) (fun _ _ _ h => h) (Or.inl ⟨by rfl, ?_⟩) ?_ ?_
           rotate_left
           ·intro w'
            go_simp
            with_reducible rfl
           rotate_left
           ·simp only [Act.put, sA, s0, s1, i64_w, i32_w]
            rfl
           refine pure_ (i := 4) (N := some 64) (v := ?_) (a' := ?_) (tfA 5 12) rfl rfl (any_of HT_.out (by kernel_rfl)) (fun _ _ _ h => h) (Or.inl ⟨by rfl, ?_⟩) ?_ ?_
           rotate_left
           ·intro w'
            go_simp
            with_reducible rfl
           rotate_left
           ·simp only [Act.put, sA, s0, s1, i64_w, i32_w]
            rfl
           refine pure_ (i := 5) (N := some 65) (v := ?_) (a' := ?_) (tfA 6 11) rfl rfl (any_of HT_.out (by kernel_rfl)) (fun _ _ _ h => h) (Or.inl ⟨by rfl, ?_⟩) ?_ ?_
           rotate_left
           ·intro w'
            go_simp
            with_reducible rfl
           rotate_left
           ·simp only [Act.put, sA, s0, s1, i64_w, i32_w]
            rfl
           refine pure_ (i := 6) (N := some 66) (v := ?_) (a' := ?_) (tfA 7 10) rfl rfl (any_of HT_.out (by kernel_rfl)) (fun _ _ _ h => h) (Or.inl ⟨by rfl, ?_⟩) ?_ ?_
           rotate_left
           ·intro w'
            go_simp
            with_reducible rfl
           rotate_left
           ·simp only [Act.put, sA, s0, s1, i64_w, i32_w]
            rfl
           refine take_ (i := 7) (N := some 67) (v := ?_) (a' := ?_) (tfA 8 9) rfl rfl (take_ofW HT_.out HW_.out (by kernel_rfl)) (fun _ _ _ h => h) (Or.inl ⟨by rfl, ?_⟩) hHeld ?_ ?_
           rotate_left
           ·rintro w' ⟨s0, s1, s2, s3, s4, s5, s6, s7, s8, s9, s10, s11, s12, s13, s14, s15⟩
            go_simp
            with_reducible rfl
           rotate_left
           ·simp only [Act.put, sA, s0, s1, i64_w, i32_w]
            rfl
           refine take_ (i := 9) (N := some 69) (v := ?_) (a' := ?_) (bnA 17 767) rfl rfl (take_ofW HT_.out HW_.out (by kernel_rfl)) (fun _ _ _ h => h) (Or.inl ⟨by rfl, ?_⟩) hHeld ?_ ?_
           rotate_left
           ·rintro w' ⟨s0, s1, s2, s3, s4, s5, s6, s7, s8, s9, s10, s11, s12, s13, s14, s15⟩
            go_simp
            with_reducible rfl
           rotate_left
           ·simp only [Act.put, sA, s0, s1, i64_w, i32_w]
            rfl
           refine one_ (i := 8) (N := some 68) (tfA 10 7) rfl rfl (one_of HT_.out (by kernel_rfl)) (by decide) (fun K hK => ?_)
           refine goes_ Tryz.func38 (by kernel_rfl) rfl #[.agg #[.string t163, .int .i64 t164, .bool t165, .int .i64 t166, .int .u64 t167, .float .f64 t168, .string t169, .slice Ao33 t170.length co33]] (by rfl) rfl rfl (by (try simp only [List.map_toArray, List.map_cons, List.map_nil]); first | done | rfl | (simp only [List.length_drop, List.length_take]; rfl)) ?_
           with_reducible refine (laws_toNode.calls kj13 t163 t164 t165 t166 t167 t168 t169 _ _ t170 t187 t188 t189 t190 t191 t192 t193 t194 _ ?side1 ?side2 A25.out).mono ?_
           (case side1 => repeat (first | exact (Kd.R_reads' HO172.out).2.2 | (with_reducible refine Kd.C_alloc ?_ _) | (with_reducible refine Kd.C_drewN ?_ _) | (with_reducible refine Kd.C_drew ?_)))
           (case side2 => exact (Kd.R_reads' HO172.out).2.1)
           rintro e w41 ⟨v195, rfl, ho0, hb⟩
           refine ⟨_, rfl, ?_⟩
           have n0_ := Aside0.mk (Kd.R_below (by (with_reducible repeat (first | apply Kd.R_alloc | apply Kd.R_drewN | apply Kd.R_drew)); exact HO172.out) hb)
           have n1_ := Aside0.mk (Kd.R_below (by (with_reducible repeat (first | apply Kd.R_alloc | apply Kd.R_drewN | apply Kd.R_drew)); exact HO184.out) hb)
           have n2_ := Aside0.mk (Kd.R_lower ho0 (below_size belS))
           have n3_ := Aside0.mk (blk_below (g := gb174) (o := .cells #[.string t163, .int .i64 t164, .bool t165, .int .i64 t166, .int .u64 t167, .float .f64 t168, .string t169, .slice Ao33 t170.length co33] 35 (0, 0)) (by refine bY ?_; exact BK174.out) hb)
           have n4_ := Aside0.mk (blk_below (g := gb186) (o := .cells #[.string t175, .int .i64 t176, .bool t177, .int .i64 t178, .int .u64 t179, .float .f64 t180, .string t181, .slice Ao38 t182.length co38] 35 (0, 0)) (by refine bY ?_; exact BK186.out) hb)
           have n5_ := Aside0.mk (below_step belS hb)
           clear HO172
           clear HO184
           clear BK174
           clear BK186
           clear HB
           have HO172 := n0_
           have HO184 := n1_
           have HO196 := n2_
           have BK174 := n3_
           have BK186 := n4_
           have HB := n5_
           clear n0_ n1_ n2_ n3_ n4_ n5_
           (try clear hb)
           (try clear hb2)
           (try clear hk)
           (try clear hi)
           (try clear ho0)
           refine hK.out _ _ ⟨(blk_cell BK174.out 0).trans rfl, (blk_cell BK174.out 1).trans rfl, (blk_cell BK174.out 2).trans rfl, (blk_cell BK174.out 3).trans rfl, (blk_cell BK174.out 4).trans rfl, (blk_cell BK174.out 5).trans rfl, (blk_cell BK174.out 6).trans rfl, (blk_cell BK174.out 7).trans rfl, (blk_cell BK186.out 0).trans rfl, (blk_cell BK186.out 1).trans rfl, (blk_cell BK186.out 2).trans rfl, (blk_cell BK186.out 3).trans rfl, (blk_cell BK186.out 4).trans rfl, (blk_cell BK186.out 5).trans rfl, (blk_cell BK186.out 6).trans rfl, (blk_cell BK186.out 7).trans rfl⟩ (fun hHeld => ?_)
           clear hK K
           refine norm_ (a' := ?_) ?_ ?_
           rotate_left
           ·show Act.put _ (some 68) _ = _
            simp only [Act.put, sA, s0, s1, i64_w, i32_w]
            rfl
           refine one_ (i := 10) (N := some 70) (tfA 11 6) rfl rfl (one_of HT_.out (by kernel_rfl)) (by decide) (fun K hK => ?_)
           refine goes_ Tryz.func38 (by kernel_rfl) rfl #[.agg #[.string t175, .int .i64 t176, .bool t177, .int .i64 t178, .int .u64 t179, .float .f64 t180, .string t181, .slice Ao38 t182.length co38]] (by rfl) rfl rfl (by (try simp only [List.map_toArray, List.map_cons, List.map_nil]); first | done | rfl | (simp only [List.length_drop, List.length_take]; rfl)) ?_
           with_reducible refine (laws_toNode.calls kj13 t175 t176 t177 t178 t179 t180 t181 _ _ t182 t197 t198 t199 t200 t201 t202 t203 t204 _ ?side1 ?side2 A26.out).mono ?_
           (case side1 => repeat (first | exact (Kd.R_reads' HO184.out).2.2 | (with_reducible refine Kd.C_alloc ?_ _) | (with_reducible refine Kd.C_drewN ?_ _) | (with_reducible refine Kd.C_drew ?_)))
           (case side2 => exact (Kd.R_reads' HO184.out).2.1)
           rintro e w42 ⟨v205, rfl, ho0, hb⟩
           refine ⟨_, rfl, ?_⟩
           have n0_ := Aside0.mk (Kd.R_below (by (with_reducible repeat (first | apply Kd.R_alloc | apply Kd.R_drewN | apply Kd.R_drew)); exact HO172.out) hb)
           have n1_ := Aside0.mk (Kd.R_below (by (with_reducible repeat (first | apply Kd.R_alloc | apply Kd.R_drewN | apply Kd.R_drew)); exact HO184.out) hb)
           have n2_ := Aside0.mk (Kd.R_elder' (by (with_reducible repeat (first | apply Kd.R_alloc | apply Kd.R_drewN | apply Kd.R_drew)); exact HO196.out) (Kd.R_base ho0) hb)
           have n3_ := Aside0.mk (Kd.R_lower (Kd.R_new' ho0 (Kd.R_lt (by (with_reducible repeat (first | apply Kd.R_alloc | apply Kd.R_drewN | apply Kd.R_drew)); exact HO196.out))) (below_size belS))
           have n4_ := Aside0.mk (blk_below (g := gb174) (o := .cells #[.string t163, .int .i64 t164, .bool t165, .int .i64 t166, .int .u64 t167, .float .f64 t168, .string t169, .slice Ao33 t170.length co33] 35 (0, 0)) (by refine bY ?_; exact BK174.out) hb)
           have n5_ := Aside0.mk (blk_below (g := gb186) (o := .cells #[.string t175, .int .i64 t176, .bool t177, .int .i64 t178, .int .u64 t179, .float .f64 t180, .string t181, .slice Ao38 t182.length co38] 35 (0, 0)) (by refine bY ?_; exact BK186.out) hb)
           have n6_ := Aside0.mk (below_step belS hb)
           clear HO172
           clear HO184
           clear HO196
           clear BK174
           clear BK186
           clear HB
           have HO172 := n0_
           have HO184 := n1_
           have HO196 := n2_
           have HO206 := n3_
           have BK174 := n4_
           have BK186 := n5_
           have HB := n6_
           clear n0_ n1_ n2_ n3_ n4_ n5_ n6_
           (try clear hb)
           (try clear hb2)
           (try clear hk)
           (try clear hi)
           (try clear ho0)
           obtain ⟨Ao43, co43, eo43⟩ := Kd.R_slice HO196.out
           (first | subst eo43 | (injection eo43 with f1_ f2_ f3_; have f4_ := f1_.symm; have f5_ := f3_.symm; clear f1_ f2_ f3_; subst f4_; subst f5_))
           obtain ⟨Ao44, co44, eo44⟩ := Kd.R_slice HO206.out
           (first | subst eo44 | (injection eo44 with f1_ f2_ f3_; have f4_ := f1_.symm; have f5_ := f3_.symm; clear f1_ f2_ f3_; subst f4_; subst f5_))
           refine hK.out _ _ ⟨(blk_cell BK174.out 0).trans rfl, (blk_cell BK174.out 1).trans rfl, (blk_cell BK174.out 2).trans rfl, (blk_cell BK174.out 3).trans rfl, (blk_cell BK174.out 4).trans rfl, (blk_cell BK174.out 5).trans rfl, (blk_cell BK174.out 6).trans rfl, (blk_cell BK174.out 7).trans rfl, (blk_cell BK186.out 0).trans rfl, (blk_cell BK186.out 1).trans rfl, (blk_cell BK186.out 2).trans rfl, (blk_cell BK186.out 3).trans rfl, (blk_cell BK186.out 4).trans rfl, (blk_cell BK186.out 5).trans rfl, (blk_cell BK186.out 6).trans rfl, (blk_cell BK186.out 7).trans rfl⟩ (fun hHeld => ?_)
           clear hK K
           refine norm_ (a' := ?_) ?_ ?_
           rotate_left
           ·show Act.put _ (some 70) _ = _
            simp only [Act.put, sA, s0, s1, i64_w, i32_w]
            rfl
           refine one_ (i := 11) (N := some 71) (tfA 12 5) rfl rfl (one_of HT_.out (by kernel_rfl)) (by decide) (fun K hK => ?_)
           refine goes_ Tryz.func37 (by kernel_rfl) rfl #[.agg #[.string t187, .int .i64 t188, .bool t189, .int .i64 t190, .int .u64 t191, .float .f64 t192, .string t193, .slice Ao43 t194.length co43], .agg #[.string t197, .int .i64 t198, .bool t199, .int .i64 t200, .int .u64 t201, .float .f64 t202, .string t203, .slice Ao44 t204.length co44]] (by rfl) rfl rfl (by (try simp only [List.map_toArray, List.map_cons, List.map_nil]); first | done | rfl | (simp only [List.length_drop, List.length_take]; rfl)) ?_
           with_reducible refine (spec_SameNode.calls kj13 t187 t188 t189 t190 t191 t192 t193 _ _ t194 t197 t198 t199 t200 t201 t202 t203 _ _ t204 true _ ?side1 ?side2 ?side3 ?side4 A27.out).mono ?_
           (case side1 => repeat (first | exact (Kd.R_reads' HO196.out).2.2 | (with_reducible refine Kd.C_alloc ?_ _) | (with_reducible refine Kd.C_drewN ?_ _) | (with_reducible refine Kd.C_drew ?_)))
           (case side2 => exact (Kd.R_reads' HO196.out).2.1)
           (case side3 => repeat (first | exact (Kd.R_reads' HO206.out).2.2 | (with_reducible refine Kd.C_alloc ?_ _) | (with_reducible refine Kd.C_drewN ?_ _) | (with_reducible refine Kd.C_drew ?_)))
           (case side4 => exact (Kd.R_reads' HO206.out).2.1)
           rintro e w45 ⟨rfl, hb⟩
           refine ⟨_, rfl, ?_⟩
           have n0_ := Aside0.mk (Kd.R_below (by (with_reducible repeat (first | apply Kd.R_alloc | apply Kd.R_drewN | apply Kd.R_drew)); exact HO172.out) hb)
           have n1_ := Aside0.mk (Kd.R_below (by (with_reducible repeat (first | apply Kd.R_alloc | apply Kd.R_drewN | apply Kd.R_drew)); exact HO184.out) hb)
           have n2_ := Aside0.mk (Kd.R_below (by (with_reducible repeat (first | apply Kd.R_alloc | apply Kd.R_drewN | apply Kd.R_drew)); exact HO196.out) hb)
           have n3_ := Aside0.mk (Kd.R_below (by (with_reducible repeat (first | apply Kd.R_alloc | apply Kd.R_drewN | apply Kd.R_drew)); exact HO206.out) hb)
           have n4_ := Aside0.mk (blk_below (g := gb174) (o := .cells #[.string t163, .int .i64 t164, .bool t165, .int .i64 t166, .int .u64 t167, .float .f64 t168, .string t169, .slice Ao33 t170.length co33] 35 (0, 0)) (by refine bY ?_; exact BK174.out) hb)
           have n5_ := Aside0.mk (blk_below (g := gb186) (o := .cells #[.string t175, .int .i64 t176, .bool t177, .int .i64 t178, .int .u64 t179, .float .f64 t180, .string t181, .slice Ao38 t182.length co38] 35 (0, 0)) (by refine bY ?_; exact BK186.out) hb)
           have n6_ := Aside0.mk (below_step belS hb)
           clear HO172
           clear HO184
           clear HO196
           clear HO206
           clear BK174
           clear BK186
           clear HB
           have HO172 := n0_
           have HO184 := n1_
           have HO196 := n2_
           have HO206 := n3_
           have BK174 := n4_
           have BK186 := n5_
           have HB := n6_
           clear n0_ n1_ n2_ n3_ n4_ n5_ n6_
           (try clear hb)
           (try clear hb2)
           (try clear hk)
           (try clear hi)
           refine hK.out _ _ ⟨(blk_cell BK174.out 0).trans rfl, (blk_cell BK174.out 1).trans rfl, (blk_cell BK174.out 2).trans rfl, (blk_cell BK174.out 3).trans rfl, (blk_cell BK174.out 4).trans rfl, (blk_cell BK174.out 5).trans rfl, (blk_cell BK174.out 6).trans rfl, (blk_cell BK174.out 7).trans rfl, (blk_cell BK186.out 0).trans rfl, (blk_cell BK186.out 1).trans rfl, (blk_cell BK186.out 2).trans rfl, (blk_cell BK186.out 3).trans rfl, (blk_cell BK186.out 4).trans rfl, (blk_cell BK186.out 5).trans rfl, (blk_cell BK186.out 6).trans rfl, (blk_cell BK186.out 7).trans rfl⟩ (fun hHeld => ?_)
           clear hK K
           refine norm_ (a' := ?_) ?_ ?_
           rotate_left
           ·show Act.put _ (some 71) _ = _
            simp only [Act.put, sA, s0, s1, i64_w, i32_w]
            rfl
           refine pure_ (i := 12) (N := some 72) (v := ?_) (a' := ?_) (tfA 13 4) rfl rfl (any_of HT_.out (by kernel_rfl)) (fun _ _ _ h => h) (Or.inl ⟨by rfl, ?_⟩) ?_ ?_
           rotate_left
           ·intro w'
            go_simp
            with_reducible rfl
           rotate_left
           ·simp only [Act.put, sA, s0, s1, i64_w, i32_w]
            rfl
           refine pure_ (i := 13) (N := some 73) (v := ?_) (a' := ?_) (tfA 14 3) rfl rfl (any_of HT_.out (by kernel_rfl)) (fun _ _ _ h => h) (Or.inl ⟨by rfl, ?_⟩) ?_ ?_
           rotate_left
           ·intro w'
            go_simp
            with_reducible rfl
           rotate_left
           ·simp only [Act.put, sA, s0, s1, i64_w, i32_w]
            rfl
           refine one_ (i := 14) (N := some 74) (tfA 15 2) rfl rfl (one_of HT_.out (by kernel_rfl)) (by decide) (fun K hK => ?_)
           refine goes_ Tryz.func36 (by kernel_rfl) rfl #[] (by rfl) rfl rfl (by (try simp only [List.map_toArray, List.map_cons, List.map_nil]); first | done | rfl | (simp only [List.length_drop, List.length_take]; rfl)) ?_
           with_reducible refine (laws_lives.calls  t208 _ A29.out).mono ?_
           rintro e w46 ⟨rfl, hb⟩
           refine ⟨_, rfl, ?_⟩
           have n0_ := Aside0.mk (Kd.R_below (by (with_reducible repeat (first | apply Kd.R_alloc | apply Kd.R_drewN | apply Kd.R_drew)); exact HO172.out) hb)
           have n1_ := Aside0.mk (Kd.R_below (by (with_reducible repeat (first | apply Kd.R_alloc | apply Kd.R_drewN | apply Kd.R_drew)); exact HO184.out) hb)
           have n2_ := Aside0.mk (Kd.R_below (by (with_reducible repeat (first | apply Kd.R_alloc | apply Kd.R_drewN | apply Kd.R_drew)); exact HO196.out) hb)
           have n3_ := Aside0.mk (Kd.R_below (by (with_reducible repeat (first | apply Kd.R_alloc | apply Kd.R_drewN | apply Kd.R_drew)); exact HO206.out) hb)
           have n4_ := Aside0.mk (blk_below (g := gb174) (o := .cells #[.string t163, .int .i64 t164, .bool t165, .int .i64 t166, .int .u64 t167, .float .f64 t168, .string t169, .slice Ao33 t170.length co33] 35 (0, 0)) (by refine bY ?_; exact BK174.out) hb)
           have n5_ := Aside0.mk (blk_below (g := gb186) (o := .cells #[.string t175, .int .i64 t176, .bool t177, .int .i64 t178, .int .u64 t179, .float .f64 t180, .string t181, .slice Ao38 t182.length co38] 35 (0, 0)) (by refine bY ?_; exact BK186.out) hb)
           have n6_ := Aside0.mk (below_step belS hb)
           clear HO172
           clear HO184
           clear HO196
           clear HO206
           clear BK174
           clear BK186
           clear HB
           have HO172 := n0_
           have HO184 := n1_
           have HO196 := n2_
           have HO206 := n3_
           have BK174 := n4_
           have BK186 := n5_
           have HB := n6_
           clear n0_ n1_ n2_ n3_ n4_ n5_ n6_
           (try clear hb)
           (try clear hb2)
           (try clear hk)
           (try clear hi)
           refine hK.out _ _ ⟨(blk_cell BK174.out 0).trans rfl, (blk_cell BK174.out 1).trans rfl, (blk_cell BK174.out 2).trans rfl, (blk_cell BK174.out 3).trans rfl, (blk_cell BK174.out 4).trans rfl, (blk_cell BK174.out 5).trans rfl, (blk_cell BK174.out 6).trans rfl, (blk_cell BK174.out 7).trans rfl, (blk_cell BK186.out 0).trans rfl, (blk_cell BK186.out 1).trans rfl, (blk_cell BK186.out 2).trans rfl, (blk_cell BK186.out 3).trans rfl, (blk_cell BK186.out 4).trans rfl, (blk_cell BK186.out 5).trans rfl, (blk_cell BK186.out 6).trans rfl, (blk_cell BK186.out 7).trans rfl⟩ (fun hHeld => ?_)
           clear hK K
           refine norm_ (a' := ?_) ?_ ?_
           rotate_left
           ·show Act.put _ (some 74) _ = _
            simp only [Act.put, sA, s0, s1, i64_w, i32_w]
            rfl
           refine pure_ (i := 15) (N := some 75) (v := ?_) (a' := ?_) (tfA 16 1) rfl rfl (any_of HT_.out (by kernel_rfl)) (fun _ _ _ h => h) (Or.inl ⟨by rfl, ?_⟩) ?_ ?_
           rotate_left
           ·intro w'
            go_simp
            with_reducible rfl
           rotate_left
           ·simp only [Act.put, sA, s0, s1, i64_w, i32_w]
            rfl
           refine pure_ (i := 16) (N := some 8) (v := ?_) (a' := ?_) (tfA 17 0) rfl rfl (any_of HT_.out (by kernel_rfl)) (fun _ _ _ h => h) (Or.inl ⟨by rfl, ?_⟩) ?_ ?_
           rotate_left
           ·intro w'
            go_simp
            with_reducible rfl
           rotate_left
           ·simp only [Act.put, sA, s0, s1, i64_w, i32_w]
            rfl
           refine done_ (done_of HT_.out (by kernel_rfl)) ?_
           try go_wp2
           go_ret
           exact ⟨by first | rfl | (simp [errW_none, errW_some] <;> rfl) | (simp [*, errW_none, errW_some] <;> rfl), by repeat (first | (with_reducible first | exact HB.out | apply below_alloc | apply pw_below_drewN | apply below_drew1 | refine below_set ?_ GE174.out | refine below_set ?_ GE186.out) | exact HB.out)⟩
          ·replace c28 := Bool.eq_false_iff.mpr c28
           subst c28
           have H1 : (none) = some r := by rw [if_neg (show ¬ (false = true) by decide)] at H; exact H
           clear H
           have H := H1
           clear H1
           exact absurd H (by simp)
         ·rw [if_neg c24] at H
          exact absurd H (by simp)
        ·rw [if_neg c23] at H
         exact absurd H (by simp)

/-! ### laws_FnBuddyinfoNormal: function 4 -/
def laws_FnBuddyinfoNormal.f (k : Nat) (a0 : ByteArray) : Option (Bool) := if (a0.size : Int) > 2147483647 then (some true) else ((laws_normal__Buddyinfo.f k a0).bind fun t209 => (some t209))
theorem laws_FnBuddyinfoNormal.mono : ∀ a0 k, LeO (laws_FnBuddyinfoNormal.f k a0) (laws_FnBuddyinfoNormal.f (k + 1) a0) := by
 intro a0 k
 unfold laws_FnBuddyinfoNormal.f
 repeat' first
   | (with_reducible exact laws_normal__Buddyinfo.mono _ _)
   | (with_reducible exact LeO.refl _)
   | (with_reducible exact LeO.none _)
   | (with_reducible refine LeO.ite ?_ ?_)
   | (with_reducible refine LeO.bind ?_ (fun _ => ?_))
   | exact laws_normal__Buddyinfo.mono _ _
   | exact LeO.none _
   | refine LeO.ite ?_ ?_
   | refine LeO.bind ?_ (fun _ => ?_)
set_option maxHeartbeats 8000000 in
set_option maxRecDepth 100000 in
theorem laws_FnBuddyinfoNormal.calls (k : Nat) (a0 : ByteArray) (r : Bool) (w : World) (h : laws_FnBuddyinfoNormal.f k a0 = some r) (hTabs : Tabs w := by first | exact hTabs | exact Tabs.below hTabs (by repeat (first | (with_reducible first | exact HB.out | apply below_alloc | apply pw_below_drewN | apply below_drew1 | refine below_set ?_ (Aside0.out (by assumption))) | exact HB.out))) :
  Calls Tryz.prog 4 #[.string a0] w fun e w' => e = .returned (.bool r) ∧ Below w.heap.size w w' := by
 have HB := Aside0.mk (Below.refl w.heap.size w)
 have H : (if (a0.size : Int) > 2147483647 then (some true) else ((laws_normal__Buddyinfo.f k a0).bind fun t209 => (some t209))) = some r := h
 clear h
 by_cases c2 : (a0.size : Int) > 2147483647
 ·rw [if_pos c2] at H
  have c2b0 : decide (2147483647 < (a0.size : Int)) = true := decide_eq_true c2
  have c2b1 : decide (2147483647 < a0.size) = true := decide_eq_true (by omega)
  clear c2
  obtain rfl := Option.some.inj H
  go_enter Tryz.func4, Tryz.ntmps4
  go_wp2
  go_ret
  exact ⟨by first | rfl | (simp [errW_none, errW_some] <;> rfl) | (simp [*, errW_none, errW_some] <;> rfl), by repeat (first | (with_reducible first | exact HB.out | apply below_alloc | apply pw_below_drewN | apply below_drew1) | exact HB.out)⟩
 ·rw [if_neg c2] at H
  have c2b0 : decide (2147483647 < (a0.size : Int)) = false := decide_eq_false c2
  have c2b1 : decide (2147483647 < a0.size) = false := decide_eq_false (by omega)
  clear c2
  replace H := Option.bind_eq_some_iff.mp H
  obtain ⟨t209, A30, H⟩ := H
  have A3 := Aside0.mk A30
  clear A30
  obtain rfl := Option.some.inj H
  go_enter Tryz.func4, Tryz.ntmps4
  go_wp2_with (first | ((with_reducible refine gate_callee (f := 11) rfl ?_); refine goesL_ (some 7) rfl rfl Tryz.func11 (by kernel_rfl) rfl #[.string a0, .func (.func 15) #[] #[], .func (.func 16) #[] #[], .func (.func 17) #[] #[]] rfl (by (try simp only [List.map_toArray, List.map_cons, List.map_nil]); first | done | rfl | (simp only [List.length_drop, List.length_take]; rfl)) ?_; (with_reducible refine (laws_normal__Buddyinfo.calls k a0    t209 _ A3.out).mono ?_); rintro e w4 ⟨rfl, hb⟩; refine ⟨_, rfl, ?_⟩; have n0_ := Aside0.mk (below_step belH hb); clear HB; have HB := n0_; clear n0_; (try clear hb); (try clear hb2); (try clear hk); (try clear hi)))
  go_ret
  exact ⟨by first | rfl | (simp [errW_none, errW_some] <;> rfl) | (simp [*, errW_none, errW_some] <;> rfl), by repeat (first | (with_reducible first | exact HB.out | apply below_alloc | apply pw_below_drewN | apply below_drew1) | exact HB.out)⟩

/-- THE ONE PURE STATEMENT of laws_FnBuddyinfoNormal: yours. -/
def laws_FnBuddyinfoNormal.Pure : Prop := ∀ (a0 : ByteArray), a0.size ≤ 140737488351232 → ∃ k, laws_FnBuddyinfoNormal.f k a0 = some true
theorem laws_FnBuddyinfoNormal.walk (P : laws_FnBuddyinfoNormal.Pure) (a0 : ByteArray) (w : World) (w0 : a0.size ≤ 140737488351232) (hTabs : Tabs w := by first | exact hTabs | exact Tabs.below hTabs (by repeat (first | (with_reducible first | exact HB.out | apply below_alloc | apply pw_below_drewN | apply below_drew1 | refine below_set ?_ (Aside0.out (by assumption))) | exact HB.out))) :
  Calls Tryz.prog 4 #[.string a0] w fun e w' => e = .returned (.bool true) ∧ Below w.heap.size w w' := by
 obtain ⟨k, h⟩ := P a0 w0
 refine (laws_FnBuddyinfoNormal.calls k a0 true w h).mono ?_
 rintro e w' ⟨rfl, hd⟩
 exact ⟨rfl, hd⟩

end Go.Proofs.YtdmpbaanonafbaaGreatDoor.I
