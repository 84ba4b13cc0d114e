-- written by a program of this session (wip/tools/pp.py)
import Derived.Test.YtdmpbaanonafbaaGreatDoorJ0
import Derived.Test.YtdmpbaanonafbaaGreatDoorJ1
import Derived.Test.YtdmpbaanonafbaaGreatDoorJ2
namespace Go.Proofs.YtdmpbaanonafbaaGreatDoor.J
open Go.RowKit Go.Proofs.YtdmpbaanonafbaaGreatDoorW.PrintWords Go.Proofs.YtdmpbaanonafbaaGreatDoorW.PrintLast Go.Proofs.YtdmpbaanonafbaaGreatDoor.Flt Go.Proofs.YtdmpbaanonafbaaGreatDoor.GivZ Go.Proofs.YtdmpbaanonafbaaGreatDoor.E Go.Proofs.YtdmpbaanonafbaaGreatDoor.L Go.Proofs.YtdmpbaanonafbaaGreatDoor.V Go.Proofs.YtdmpbaanonafbaaGreatDoor.DoorCt Go.Proofs.YtdmpbaanonafbaaGreatDoor.Lives Go.Proofs.YtdmpbaanonafbaaGreatDoor.R Go.Proofs.YtdmpbaanonafbaaGreatDoorW.PrintMore
attribute [local go_sem] max2_int min2_int max_two min_two max_three min_three max_four min_four   -- for this text's walks alone
set_option linter.unusedVariables false
set_option linter.unusedSimpArgs false

/-! ### laws_normal__Conntrack: function 11 -/
mutual
def laws_normal__Conntrack.j0 : Nat → ByteArray → List (S48) → Bool → Option (Bool)
 | 0, _, _, _ => none
 | k + 1, x0, x9, x32 => if x32 = true then ((laws_lives.f).bind fun t140 => (some t140)) else ((spec_ConntrackPrint.f k x9).bind fun bt141 => (if bt141.2 = 1 then (laws_normal__Conntrack.j1 k x0 bt141.1 (decide ((bt141.1.size : Int) > 40000))) else (laws_normal__Conntrack.j1 k x0 bt141.1 true)))
def laws_normal__Conntrack.j1 : Nat → ByteArray → ByteArray → Bool → Option (Bool)
 | 0, _, _, _ => none
 | k + 1, x0, x12, x46 => if x46 = true then ((laws_lives.f).bind fun t143 => (some t143)) else ((impl_Conntrack.f x0).bind fun bt144 => ((impl_Conntrack.f x12).bind fun bt156 => (if bt144.2.2.2.2.2.2.2.2 = 0 then (if bt156.2.2.2.2.2.2.2.2 = 0 then ((laws_toNode.f k bt144.1 bt144.2.1 bt144.2.2.1 bt144.2.2.2.1 bt144.2.2.2.2.1 bt144.2.2.2.2.2.1 bt144.2.2.2.2.2.2.1 bt144.2.2.2.2.2.2.2.1).bind fun bt168 => ((laws_toNode.f k bt156.1 bt156.2.1 bt156.2.2.1 bt156.2.2.2.1 bt156.2.2.2.2.1 bt156.2.2.2.2.2.1 bt156.2.2.2.2.2.2.1 bt156.2.2.2.2.2.2.2.1).bind fun bt178 => ((spec_SameNode.f k bt168.1 bt168.2.1 bt168.2.2.1 bt168.2.2.2.1 bt168.2.2.2.2.1 bt168.2.2.2.2.2.1 bt168.2.2.2.2.2.2.1 bt168.2.2.2.2.2.2.2 bt178.1 bt178.2.1 bt178.2.2.1 bt178.2.2.2.1 bt178.2.2.2.2.1 bt178.2.2.2.2.2.1 bt178.2.2.2.2.2.2.1 bt178.2.2.2.2.2.2.2).bind fun t188 => (if t188 = true then ((laws_lives.f).bind fun t189 => (some t189)) else (none))))) else (none)) else (none))))
end
def laws_normal__Conntrack.f (k : Nat) (a0 : ByteArray)    : Option (Bool) := if (a0.size : Int) > 40000 then (some true) else ((spec_ConntrackRead.f k a0).bind fun bt135 => (if bt135.2.2 = 1 then (laws_normal__Conntrack.j0 k a0 bt135.1 (!bt135.2.1)) else (laws_normal__Conntrack.j0 k a0 bt135.1 true)))
theorem laws_normal__Conntrack.mono_l : ∀ k, (∀ y0 y1 y2, LeO (laws_normal__Conntrack.j0 k y0 y1 y2) (laws_normal__Conntrack.j0 (k + 1) y0 y1 y2)) ∧ (∀ y0 y1 y2, LeO (laws_normal__Conntrack.j1 k y0 y1 y2) (laws_normal__Conntrack.j1 (k + 1) y0 y1 y2))
 | 0 => ⟨fun _ _ _ r h => by simp [laws_normal__Conntrack.j0] at h, fun _ _ _ r h => by simp [laws_normal__Conntrack.j1] at h⟩
 | k + 1 => by
  obtain ⟨ih0, ih1⟩ := laws_normal__Conntrack.mono_l k
  refine ⟨?_, ?_⟩
  ·intro y0 y1 y2
   unfold laws_normal__Conntrack.j0
   repeat' first
   | (with_reducible exact ih0 _ _ _)
   | (with_reducible exact ih1 _ _ _)
   | (with_reducible exact laws_toNode.mono _ _ _ _ _ _ _ _ _)
   | (with_reducible exact spec_ConntrackPrint.mono _ _)
   | (with_reducible exact spec_ConntrackRead.mono _ _)
   | (with_reducible exact spec_SameNode.mono _ _ _ _ _ _ _ _ _ _ _ _ _ _ _ _ _)
   | (with_reducible exact LeO.refl _)
   | (with_reducible exact LeO.none _)
   | (with_reducible refine LeO.ite ?_ ?_)
   | (with_reducible refine LeO.bind ?_ (fun _ => ?_))
   | exact ih0 _ _ _
   | exact ih1 _ _ _
   | exact laws_toNode.mono _ _ _ _ _ _ _ _ _
   | exact spec_ConntrackPrint.mono _ _
   | exact spec_ConntrackRead.mono _ _
   | exact spec_SameNode.mono _ _ _ _ _ _ _ _ _ _ _ _ _ _ _ _ _
   | exact LeO.none _
   | refine LeO.ite ?_ ?_
   | refine LeO.bind ?_ (fun _ => ?_)
  ·intro y0 y1 y2
   unfold laws_normal__Conntrack.j1
   repeat' first
   | (with_reducible exact ih0 _ _ _)
   | (with_reducible exact ih1 _ _ _)
   | (with_reducible exact laws_toNode.mono _ _ _ _ _ _ _ _ _)
   | (with_reducible exact spec_ConntrackPrint.mono _ _)
   | (with_reducible exact spec_ConntrackRead.mono _ _)
   | (with_reducible exact spec_SameNode.mono _ _ _ _ _ _ _ _ _ _ _ _ _ _ _ _ _)
   | (with_reducible exact LeO.refl _)
   | (with_reducible exact LeO.none _)
   | (with_reducible refine LeO.ite ?_ ?_)
   | (with_reducible refine LeO.bind ?_ (fun _ => ?_))
   | exact ih0 _ _ _
   | exact ih1 _ _ _
   | exact laws_toNode.mono _ _ _ _ _ _ _ _ _
   | exact spec_ConntrackPrint.mono _ _
   | exact spec_ConntrackRead.mono _ _
   | exact spec_SameNode.mono _ _ _ _ _ _ _ _ _ _ _ _ _ _ _ _ _
   | exact LeO.none _
   | refine LeO.ite ?_ ?_
   | refine LeO.bind ?_ (fun _ => ?_)
theorem laws_normal__Conntrack.mono : ∀ a0 k, LeO (laws_normal__Conntrack.f k a0) (laws_normal__Conntrack.f (k + 1) a0) := by
 intro a0 k
 obtain ⟨ih0, ih1⟩ := laws_normal__Conntrack.mono_l k
 unfold laws_normal__Conntrack.f
 repeat' first
   | (with_reducible exact ih0 _ _ _)
   | (with_reducible exact ih1 _ _ _)
   | (with_reducible exact laws_toNode.mono _ _ _ _ _ _ _ _ _)
   | (with_reducible exact spec_ConntrackPrint.mono _ _)
   | (with_reducible exact spec_ConntrackRead.mono _ _)
   | (with_reducible exact spec_SameNode.mono _ _ _ _ _ _ _ _ _ _ _ _ _ _ _ _ _)
   | (with_reducible exact LeO.refl _)
   | (with_reducible exact LeO.none _)
   | (with_reducible refine LeO.ite ?_ ?_)
   | (with_reducible refine LeO.bind ?_ (fun _ => ?_))
   | exact ih0 _ _ _
   | exact ih1 _ _ _
   | exact laws_toNode.mono _ _ _ _ _ _ _ _ _
   | exact spec_ConntrackPrint.mono _ _
   | exact spec_ConntrackRead.mono _ _
   | exact spec_SameNode.mono _ _ _ _ _ _ _ _ _ _ _ _ _ _ _ _ _
   | exact LeO.none _
   | refine LeO.ite ?_ ?_
   | refine LeO.bind ?_ (fun _ => ?_)
def laws_normal__Conntrack.T11 : Bool × List (List Nat × List Nat) := (true, [([], []), ([0], [0]), ([1], [1]), ([2], [2]), ([3, 2], [2, 3]), ([2, 4], [2, 4]), ([5, 2], [5]), ([6], [6]), ([7, 6, 6], [6, 7]), ([6], [6]), ([9, 8, 6], [6, 9]), ([8, 10, 10, 6], [6, 8, 10]), ([6, 11], [6, 11]), ([12, 11], [12]), ([13, 13], [13]), ([13, 14], [13, 14]), ([15, 14, 0, 1, 2, 3, 4, 5, 6, 7, 8, 9, 10, 11, 12, 13, 14, 15], [15])])
def laws_normal__Conntrack.B11 : List Nat := [0, 1, 3, 7, 15, 31, 63, 127, 255, 127, 1023, 2047, 4095, 8191, 16383, 32767, 65535]
theorem laws_normal__Conntrack.tab11 : rtab .any (opsOf Tryz.f11 11) = laws_normal__Conntrack.T11 := by kernel_rfl
theorem laws_normal__Conntrack.bits11 : waitsOk laws_normal__Conntrack.T11.2 laws_normal__Conntrack.B11 = true := by kernel_rfl
set_option maxHeartbeats 8000000 in
set_option maxRecDepth 100000 in
theorem laws_normal__Conntrack.calls (k : Nat) (a0 : ByteArray)    (r : Bool) (w : World) (h : laws_normal__Conntrack.f k a0 = some r) (hTabs : Tabs w := by first | exact hTabs | exact Tabs.below hTabs (by repeat (first | (with_reducible first | exact HB.out | apply below_alloc | apply pw_below_drewN | apply below_drew1 | refine below_set ?_ (Aside0.out (by assumption))) | exact HB.out))) :
  Calls Tryz.prog 11 #[.string a0, .func (.func 24) #[] #[], .func (.func 25) #[] #[], .func (.func 26) #[] #[]] w fun e w' => e = .returned (.bool r) ∧ Below w.heap.size w w' := by
 have hu35 := Tryz.underlying35
 have HB := Aside0.mk (Below.refl w.heap.size w)
 have H : (if (a0.size : Int) > 40000 then (some true) else ((spec_ConntrackRead.f k a0).bind fun bt135 => (if bt135.2.2 = 1 then (laws_normal__Conntrack.j0 k a0 bt135.1 (!bt135.2.1)) else (laws_normal__Conntrack.j0 k a0 bt135.1 true)))) = some r := h
 clear h
 by_cases c5 : (a0.size : Int) > 40000
 ·rw [if_pos c5] at H
  have c5b0 : decide (40000 < (a0.size : Int)) = true := decide_eq_true c5
  have c5b1 : decide (40000 < a0.size) = true := decide_eq_true (by omega)
  clear c5
  obtain rfl := Option.some.inj H
  go_enter Tryz.func11, Tryz.ntmps11
  go_wp2
  go_ret
  exact ⟨by first | rfl | (simp [errW_none, errW_some] <;> rfl) | (simp [*, errW_none, errW_some] <;> rfl), by repeat (first | (with_reducible first | exact HB.out | apply below_alloc | apply pw_below_drewN | apply below_drew1) | exact HB.out)⟩
 ·rw [if_neg c5] at H
  have c5b0 : decide (40000 < (a0.size : Int)) = false := decide_eq_false c5
  have c5b1 : decide (40000 < a0.size) = false := decide_eq_false (by omega)
  clear c5
  replace H := Option.bind_eq_some_iff.mp H
  obtain ⟨⟨t135, t136, t137⟩, A60, H⟩ := H
  have A6 := Aside0.mk A60
  clear A60
  have HC7 := Aside0.mk H
  clear H
  go_enter Tryz.func11, Tryz.ntmps11
  go_upto_region 4 with (first | (go_at_call 24; (with_reducible refine (spec_ConntrackRead.calls k a0 t135 t136 t137 _ A6.out).mono ?_); rintro e w8 ⟨v138, rfl, ho0, hb⟩; have n0_ := Aside0.mk (Kd.S_lower ho0 (below_size belH)); have n1_ := Aside0.mk (below_step belH hb); clear HB; have HO139 := n0_; have HB := n1_; clear n0_ n1_; (try clear hb); (try clear hb2); (try clear hk); (try clear hi); (try clear ho0)))
  (try simp only [Act.put, List.setIfInBounds_toArray, List.set_cons_zero, List.set_cons_succ])
  go_cut [32] (fun v32 wc => ∃ (kq : Nat) (x32_6 : Bool), v32 = .bool x32_6 ∧ Aside0 (laws_normal__Conntrack.j0 kq a0 t135 x32_6 = some r) ∧ Aside0 (kq ≤ k) ∧ Aside0 (Kd.S k48 48 wc w.heap.size (fun _ => True) v138 t135) ∧ Aside0 (Below w.heap.size w wc))
  case first =>
   have H := HC7.out
   clear HC7
   by_cases c9 : t137 = 1
   ·rw [if_pos c9] at H
    have c9b0 : (t137 == 1) = true := beq_iff_eq.mpr c9
    have c9b1 : (t137 != 1) = false := bne_eq_false_iff_eq.mpr c9
    clear c9
    (first | rw [c9b0] | (simp only [i64_w, i32_w]; rw [c9b0]) | skip)
    have H' := Aside0.mk H
    clear H
    go_wp2
    go_meet
    case rel => exact ⟨_, (!t136), (by first | rfl | (simp; done) | (simp [*]; done) | (simp [bne_nil]; done) | (simp [bne_nil, *]; done)), H', ⟨by first | omega | exact Nat.le_refl _⟩, ⟨by (with_reducible repeat (first | apply Kd.S_alloc | apply Kd.S_drewN | apply Kd.S_drew)); exact HO139.out⟩, ⟨by repeat (first | (with_reducible first | exact HB.out | apply below_alloc | apply pw_below_drewN | apply below_drew1) | exact HB.out)⟩⟩
   ·rw [if_neg c9] at H
    have c9b0 : (t137 == 1) = false := beq_eq_false_iff_ne.mpr c9
    have c9b1 : (t137 != 1) = true := bne_iff_ne.mpr c9
    (first | rw [c9b0] | (simp only [i64_w, i32_w]; rw [c9b0]) | skip)
    have H' := Aside0.mk H
    clear H
    go_wp2
    go_meet
    case rel => exact ⟨_, (true), (by first | rfl | (simp; done) | (simp [*]; done) | (simp [bne_nil]; done) | (simp [bne_nil, *]; done)), H', ⟨by first | omega | exact Nat.le_refl _⟩, ⟨by (with_reducible repeat (first | apply Kd.S_alloc | apply Kd.S_drewN | apply Kd.S_drew)); exact HO139.out⟩, ⟨by repeat (first | (with_reducible first | exact HB.out | apply below_alloc | apply pw_below_drewN | apply below_drew1) | exact HB.out)⟩⟩
  case rest =>
   clear HC7
   try clear p2
   try clear c5
   try clear c5b0
   try clear c5b1
   try clear c9
   try clear c9b0
   try clear c9b1
   obtain ⟨kq, x32_6, rfl, HA, HJ6, HO_9, HB⟩ := hcut
   cases kq with
   | zero => exact absurd HA.out (by simp [laws_normal__Conntrack.j0])
   | succ kj6 =>
    have H := HA.out
    clear HA
    simp only [laws_normal__Conntrack.j0] at H
    by_cases c10 : x32_6 = true
    ·subst c10
     have H1 : ((laws_lives.f).bind fun t140 => (some t140)) = some r := by rw [if_pos rfl] at H; exact H
     clear H
     have H := H1
     clear H1
     replace H := Option.bind_eq_some_iff.mp H
     obtain ⟨t140, A110, H⟩ := H
     have A11 := Aside0.mk A110
     clear A110
     obtain rfl := Option.some.inj H
     go_wp2_with (first | ((with_reducible refine gate_callee (f := 36) rfl ?_); refine goesL_ (some 33) rfl rfl Tryz.func36 (by kernel_rfl) rfl #[] rfl (by (try simp only [List.map_toArray, List.map_cons, List.map_nil]); first | done | rfl | (simp only [List.length_drop, List.length_take]; rfl)) ?_; (with_reducible refine (laws_lives.calls  t140 _ A11.out).mono ?_); rintro e w12 ⟨rfl, hb⟩; refine ⟨_, rfl, ?_⟩; have n0_ := Aside0.mk (Kd.S_below (by (with_reducible repeat (first | apply Kd.S_alloc | apply Kd.S_drewN | apply Kd.S_drew)); exact HO_9.out) hb); have n1_ := Aside0.mk (below_step belH hb); clear HO_9; clear HB; have HO_9 := n0_; have HB := n1_; clear n0_ n1_; (try clear hb); (try clear hb2); (try clear hk); (try clear hi)))
     go_ret
     exact ⟨by first | rfl | (simp [errW_none, errW_some] <;> rfl) | (simp [*, errW_none, errW_some] <;> rfl), by repeat (first | (with_reducible first | exact HB.out | apply below_alloc | apply pw_below_drewN | apply below_drew1) | exact HB.out)⟩
    ·replace c10 := Bool.eq_false_iff.mpr c10
     subst c10
     have H1 : ((spec_ConntrackPrint.f kj6 t135).bind fun bt141 => (if bt141.2 = 1 then (laws_normal__Conntrack.j1 kj6 a0 bt141.1 (decide ((bt141.1.size : Int) > 40000))) else (laws_normal__Conntrack.j1 kj6 a0 bt141.1 true))) = some r := by rw [if_neg (show ¬ (false = true) by decide)] at H; exact H
     clear H
     have H := H1
     clear H1
     replace H := Option.bind_eq_some_iff.mp H
     obtain ⟨⟨t141, t142⟩, A130, H⟩ := H
     have A13 := Aside0.mk A130
     clear A130
     have HC14 := Aside0.mk H
     clear H
     obtain ⟨Ao15, co15, eo15⟩ := Kd.S_slice HO_9.out
     subst eo15
     go_upto_region 7 with (first | (go_at_call 25; (with_reducible refine (spec_ConntrackPrint.calls kj6 _ _ t135 t141 t142 _ ?side1 ?side2 A13.out).mono ?_); (case side1 => repeat (first | exact (Kd.S_reads' HO_9.out).2.2 | (with_reducible refine Kd.C_alloc ?_ _) | (with_reducible refine Kd.C_drewN ?_ _) | (with_reducible refine Kd.C_drew ?_))); (case side2 => exact (Kd.S_reads' HO_9.out).2.1); rintro e w16 ⟨rfl, hb⟩; have n0_ := Aside0.mk (Kd.S_below (by (with_reducible repeat (first | apply Kd.S_alloc | apply Kd.S_drewN | apply Kd.S_drew)); exact HO_9.out) hb); have n1_ := Aside0.mk (below_step belH hb); clear HO_9; clear HB; have HO_9 := n0_; have HB := n1_; clear n0_ n1_; (try clear hb); (try clear hb2); (try clear hk); (try clear hi)))
     (try simp only [Act.put, List.setIfInBounds_toArray, List.set_cons_zero, List.set_cons_succ])
     go_cut [46] (fun v46 wc => ∃ (kq : Nat) (x46_13 : Bool), v46 = .bool x46_13 ∧ Aside0 (laws_normal__Conntrack.j1 kq a0 t141 x46_13 = some r) ∧ Aside0 (kq ≤ kj6) ∧ Aside0 (Below w.heap.size w wc))
     case first =>
      have H := HC14.out
      clear HC14
      by_cases c17 : t142 = 1
      ·rw [if_pos c17] at H
       have c17b0 : (t142 == 1) = true := beq_iff_eq.mpr c17
       have c17b1 : (t142 != 1) = false := bne_eq_false_iff_eq.mpr c17
       clear c17
       (first | rw [c17b0] | (simp only [i64_w, i32_w]; rw [c17b0]) | skip)
       have H' := Aside0.mk H
       clear H
       go_wp2
       go_meet
       case rel => exact ⟨_, (decide ((t141.size : Int) > 40000)), (by first | rfl | (simp; done) | (simp [*]; done) | (simp [bne_nil]; done) | (simp [bne_nil, *]; done)), H', ⟨by have := HJ6.out; first | omega | exact Nat.le_refl _⟩, ⟨by repeat (first | (with_reducible first | exact HB.out | apply below_alloc | apply pw_below_drewN | apply below_drew1) | exact HB.out)⟩⟩
      ·rw [if_neg c17] at H
       have c17b0 : (t142 == 1) = false := beq_eq_false_iff_ne.mpr c17
       have c17b1 : (t142 != 1) = true := bne_iff_ne.mpr c17
       (first | rw [c17b0] | (simp only [i64_w, i32_w]; rw [c17b0]) | skip)
       have H' := Aside0.mk H
       clear H
       go_wp2
       go_meet
       case rel => exact ⟨_, (true), (by first | rfl | (simp; done) | (simp [*]; done) | (simp [bne_nil]; done) | (simp [bne_nil, *]; done)), H', ⟨by have := HJ6.out; first | omega | exact Nat.le_refl _⟩, ⟨by repeat (first | (with_reducible first | exact HB.out | apply below_alloc | apply pw_below_drewN | apply below_drew1) | exact HB.out)⟩⟩
     case rest =>
      clear HC14
      try clear c1
      try clear p2
      try clear c3
      try clear c5
      try clear c5b0
      try clear c5b1
      try clear c9
      try clear c9b0
      try clear c9b1
      try clear c10
      try clear c17
      try clear c17b0
      try clear c17b1
      try clear p2
      obtain ⟨kq, x46_13, rfl, HA, HJ13, HB⟩ := hcut
      cases kq with
      | zero => exact absurd HA.out (by simp [laws_normal__Conntrack.j1])
      | succ kj13 =>
       have H := HA.out
       clear HA
       simp only [laws_normal__Conntrack.j1] at H
       by_cases c18 : x46_13 = true
       ·subst c18
        have H1 : ((laws_lives.f).bind fun t143 => (some t143)) = some r := by rw [if_pos rfl] at H; exact H
        clear H
        have H := H1
        clear H1
        replace H := Option.bind_eq_some_iff.mp H
        obtain ⟨t143, A190, H⟩ := H
        have A19 := Aside0.mk A190
        clear A190
        obtain rfl := Option.some.inj H
        go_wp2_with (first | ((with_reducible refine gate_callee (f := 36) rfl ?_); refine goesL_ (some 47) rfl rfl Tryz.func36 (by kernel_rfl) rfl #[] rfl (by (try simp only [List.map_toArray, List.map_cons, List.map_nil]); first | done | rfl | (simp only [List.length_drop, List.length_take]; rfl)) ?_; (with_reducible refine (laws_lives.calls  t143 _ A19.out).mono ?_); rintro e w20 ⟨rfl, hb⟩; refine ⟨_, rfl, ?_⟩; have n0_ := Aside0.mk (below_step belH hb); clear HB; have HB := n0_; clear n0_; (try clear hb); (try clear hb2); (try clear hk); (try clear hi)))
        go_ret
        exact ⟨by first | rfl | (simp [errW_none, errW_some] <;> rfl) | (simp [*, errW_none, errW_some] <;> rfl), by repeat (first | (with_reducible first | exact HB.out | apply below_alloc | apply pw_below_drewN | apply below_drew1) | exact HB.out)⟩
       ·replace c18 := Bool.eq_false_iff.mpr c18
        subst c18
        have H1 : ((impl_Conntrack.f a0).bind fun bt144 => ((impl_Conntrack.f t141).bind fun bt156 => (if bt144.2.2.2.2.2.2.2.2 = 0 then (if bt156.2.2.2.2.2.2.2.2 = 0 then ((laws_toNode.f kj13 bt144.1 bt144.2.1 bt144.2.2.1 bt144.2.2.2.1 bt144.2.2.2.2.1 bt144.2.2.2.2.2.1 bt144.2.2.2.2.2.2.1 bt144.2.2.2.2.2.2.2.1).bind fun bt168 => ((laws_toNode.f kj13 bt156.1 bt156.2.1 bt156.2.2.1 bt156.2.2.2.1 bt156.2.2.2.2.1 bt156.2.2.2.2.2.1 bt156.2.2.2.2.2.2.1 bt156.2.2.2.2.2.2.2.1).bind fun bt178 => ((spec_SameNode.f kj13 bt168.1 bt168.2.1 bt168.2.2.1 bt168.2.2.2.1 bt168.2.2.2.2.1 bt168.2.2.2.2.2.1 bt168.2.2.2.2.2.2.1 bt168.2.2.2.2.2.2.2 bt178.1 bt178.2.1 bt178.2.2.1 bt178.2.2.2.1 bt178.2.2.2.2.1 bt178.2.2.2.2.2.1 bt178.2.2.2.2.2.2.1 bt178.2.2.2.2.2.2.2).bind fun t188 => (if t188 = true then ((laws_lives.f).bind fun t189 => (some t189)) else (none))))) else (none)) else (none)))) = some r := by rw [if_neg (show ¬ (false = true) by decide)] at H; exact H
        clear H
        have H := H1
        clear H1
        replace H := Option.bind_eq_some_iff.mp H
        obtain ⟨⟨t144, t145, t146, t147, t148, t149, t150, t151, t154⟩, A210, H⟩ := H
        have A21 := Aside0.mk A210
        clear A210
        replace H := Option.bind_eq_some_iff.mp H
        obtain ⟨⟨t156, t157, t158, t159, t160, t161, t162, t163, t166⟩, A220, H⟩ := H
        have A22 := Aside0.mk A220
        clear A220
        by_cases c23 : t154 = 0
        ·rw [if_pos c23] at H
         have c23b0 : (t154 == 0) = true := beq_iff_eq.mpr c23
         have c23b1 : (t154 != 0) = false := bne_eq_false_iff_eq.mpr c23
         clear c23
         by_cases c24 : t166 = 0
         ·rw [if_pos c24] at H
          have c24b0 : (t166 == 0) = true := beq_iff_eq.mpr c24
          have c24b1 : (t166 != 0) = false := bne_eq_false_iff_eq.mpr c24
          clear c24
          replace H := Option.bind_eq_some_iff.mp H
          obtain ⟨⟨t168, t169, t170, t171, t172, t173, t174, t175⟩, A250, H⟩ := H
          have A25 := Aside0.mk A250
          clear A250
          replace H := Option.bind_eq_some_iff.mp H
          obtain ⟨⟨t178, t179, t180, t181, t182, t183, t184, t185⟩, A260, H⟩ := H
          have A26 := Aside0.mk A260
          clear A260
          replace H := Option.bind_eq_some_iff.mp H
          obtain ⟨t188, A270, H⟩ := H
          have A27 := Aside0.mk A270
          clear A270
          by_cases c28 : t188 = true
          ·subst c28
           have H1 : ((laws_lives.f).bind fun t189 => (some t189)) = some r := by rw [if_pos rfl] at H; exact H
           clear H
           have H := H1
           clear H1
           replace H := Option.bind_eq_some_iff.mp H
           obtain ⟨t189, A290, H⟩ := H
           have A29 := Aside0.mk A290
           clear A290
           obtain rfl := Option.some.inj H
           try go_wp2_with (first | (go_at_call 26; (with_reducible refine (impl_Conntrack.calls a0 t144 t145 t146 t147 t148 t149 t150 t151 t154 _ A21.out).mono ?_); rintro e w30 ⟨v152, rfl, ho0, hb⟩; have n0_ := Aside0.mk (Kd.R_lower ho0 (below_size belH)); have n1_ := Aside0.mk (below_step belH hb); clear HB; have HO153 := n0_; have HB := n1_; clear n0_ n1_; (try clear hb); (try clear hb2); (try clear hk); (try clear hi); (try clear ho0)) | ((with_reducible refine gate_dst (N := 13) rfl ?_); (try (refine gate_guard (by rfl) ?_; dsimp only)); refine box_event ?hg (N := 13) ?hd (cs := #[.string (⟨#[]⟩ : ByteArray), .int .i64 0, .bool false, .int .i64 0, .int .u64 0, .float .f64 0, .string (⟨#[]⟩ : ByteArray), .slice none 0 0]) (t := 35) ?hr ?_; (case hd => rfl); (case hg => rfl); (case hr => first | (go_simp; done) | (go_simp; rfl)); intro gb155 hg w31 hbox hb; have n0_ := Aside0.mk (Kd.R_below (Kd.R_elderB (by (with_reducible repeat (first | apply Kd.R_alloc | apply Kd.R_drewN | apply Kd.R_drew)); exact HO153.out) gb155 (Nat.le_of_eq hg.symm)) hb); have n1_ := Aside0.mk (below_step belH hb); have n2_ := Aside0.mk (hbox); have n3_ := Aside0.mk ((by rw [hg]; exact (below_size belH) : w.heap.size ≤ gb155)); have n4_ := Aside0.mk ((by rw [hg]; exact (below_size belH) : w.heap.size ≤ gb155)); clear HO153; clear HB; have HO153 := n0_; have HB := n1_; have BK155 := n2_; have GW155 := n3_; have GE155 := n4_; clear n0_ n1_ n2_ n3_ n4_; clear hb hbox hg; obtain ⟨hcz32_0, hcz32_1, hcz32_2, hcz32_3, hcz32_4, hcz32_5, hcz32_6, hcz32_7, hfz32_0, hfz32_1, hfz32_2, hfz32_3, hfz32_4, hfz32_5, hfz32_6, hfz32_7⟩ := rows8 (w := w31) BK155; obtain ⟨Ao33, co33, eo33⟩ := Kd.R_slice HO153.out; subst eo33) | (go_at_call 26; (with_reducible refine (impl_Conntrack.calls t141 t156 t157 t158 t159 t160 t161 t162 t163 t166 _ A22.out).mono ?_); rintro e w34 ⟨v164, rfl, ho0, hb⟩; have n0_ := Aside0.mk (Kd.R_elder' (by (with_reducible repeat (first | apply Kd.R_alloc | apply Kd.R_drewN | apply Kd.R_drew)); exact (Kd.R_mono (Kd.R_far8 (g := gb155) (Kd.R_mono HO153.out (fun k_ hk => (⟨hk, hk.2⟩ : _ ∧ k_ ≠ gb155))) (fun _ hk => hk.2) (.string t144) (.int .i64 t145) (.bool t146) (.int .i64 t147) (.int .u64 t148) (.float .f64 t149) (.string t150) (.slice Ao33 t151.length co33)) (fun _ h_ => h_.1))) (Kd.R_base ho0) hb); have n1_ := Aside0.mk (Kd.R_lower (Kd.R_newB (Kd.R_new' ho0 (Kd.R_lt (by (with_reducible repeat (first | apply Kd.R_alloc | apply Kd.R_drewN | apply Kd.R_drew)); exact (Kd.R_mono (Kd.R_far8 (g := gb155) (Kd.R_mono HO153.out (fun k_ hk => (⟨hk, hk.2⟩ : _ ∧ k_ ≠ gb155))) (fun _ hk => hk.2) (.string t144) (.int .i64 t145) (.bool t146) (.int .i64 t147) (.int .u64 t148) (.float .f64 t149) (.string t150) (.slice Ao33 t151.length co33)) (fun _ h_ => h_.1))))) (g := gb155) (o := .cells #[.string t144, .int .i64 t145, .bool t146, .int .i64 t147, .int .u64 t148, .float .f64 t149, .string t150, .slice Ao33 t151.length co33] 35 (0, 0)) (by refine bY ?_; exact blk_put8 BK155.out)) (below_size belS)); have n2_ := Aside0.mk (blk_below (g := gb155) (o := .cells #[.string t144, .int .i64 t145, .bool t146, .int .i64 t147, .int .u64 t148, .float .f64 t149, .string t150, .slice Ao33 t151.length co33] 35 (0, 0)) (by refine bY ?_; exact blk_put8 BK155.out) hb); have n3_ := Aside0.mk (below_step belS hb); clear HO153; clear BK155; clear HB; have HO153 := n0_; have HO165 := n1_; have BK155 := n2_; have HB := n3_; clear n0_ n1_ n2_ n3_; (try clear hb); (try clear hb2); (try clear hk); (try clear hi); (try clear ho0)) | ((with_reducible refine gate_dst (N := 15) rfl ?_); (try (refine gate_guard (by rfl) ?_; dsimp only)); refine box_event ?hg (N := 15) ?hd (cs := #[.string (⟨#[]⟩ : ByteArray), .int .i64 0, .bool false, .int .i64 0, .int .u64 0, .float .f64 0, .string (⟨#[]⟩ : ByteArray), .slice none 0 0]) (t := 35) ?hr ?_; (case hd => rfl); (case hg => rfl); (case hr => first | (go_simp; done) | (go_simp; rfl)); intro gb167 hg w35 hbox hb; have n0_ := Aside0.mk (Kd.R_below (Kd.R_elderB (by (with_reducible repeat (first | apply Kd.R_alloc | apply Kd.R_drewN | apply Kd.R_drew)); exact HO153.out) gb167 (Nat.le_of_eq hg.symm)) hb); have n1_ := Aside0.mk (Kd.R_below (Kd.R_elderB (by (with_reducible repeat (first | apply Kd.R_alloc | apply Kd.R_drewN | apply Kd.R_drew)); exact HO165.out) gb167 (Nat.le_of_eq hg.symm)) hb); have n2_ := Aside0.mk (blk_below (g := gb155) (o := .cells #[.string t144, .int .i64 t145, .bool t146, .int .i64 t147, .int .u64 t148, .float .f64 t149, .string t150, .slice Ao33 t151.length co33] 35 (0, 0)) (by refine bY ?_; exact BK155.out) hb); have n3_ := Aside0.mk (below_step belS hb); have n4_ := Aside0.mk (hbox); have n5_ := Aside0.mk ((by rw [hg]; exact (below_size belS) : w.heap.size ≤ gb167)); have n6_ := Aside0.mk ((by rw [hg]; exact (below_size belS) : w.heap.size ≤ gb167)); have n7_ := Aside0.mk ((by rw [hg]; exact Nat.ne_of_lt (blk_lt (g := gb155) (o := .cells #[.string t144, .int .i64 t145, .bool t146, .int .i64 t147, .int .u64 t148, .float .f64 t149, .string t150, .slice Ao33 t151.length co33] 35 (0, 0)) (by refine bY ?_; exact BK155.out)) : gb155 ≠ gb167)); have n8_ := Aside0.mk ((by rw [hg]; exact Nat.ne_of_gt (blk_lt (g := gb155) (o := .cells #[.string t144, .int .i64 t145, .bool t146, .int .i64 t147, .int .u64 t148, .float .f64 t149, .string t150, .slice Ao33 t151.length co33] 35 (0, 0)) (by refine bY ?_; exact BK155.out)) : gb167 ≠ gb155)); clear HO153; clear HO165; clear BK155; clear HB; have HO153 := n0_; have HO165 := n1_; have BK155 := n2_; have HB := n3_; have BK167 := n4_; have GW167 := n5_; have GE167 := n6_; have NB155_167 := n7_; have NB167_155 := n8_; clear n0_ n1_ n2_ n3_ n4_ n5_ n6_ n7_ n8_; clear hb hbox hg; have hnb36 := NB167_155.out; have hnc36 := NB155_167.out; obtain ⟨hcz37_0, hcz37_1, hcz37_2, hcz37_3, hcz37_4, hcz37_5, hcz37_6, hcz37_7, hfz37_0, hfz37_1, hfz37_2, hfz37_3, hfz37_4, hfz37_5, hfz37_6, hfz37_7⟩ := rows8 (w := w35) BK167; obtain ⟨Ao38, co38, eo38⟩ := Kd.R_slice HO165.out; subst eo38))
           have n0_ : Aside0 (Kd.R k35 35 ((((((((w35.setCell ⟨gb167, 0, none⟩ (.string t156)).setCell ⟨gb167, 1, none⟩ (.int .i64 t157)).setCell ⟨gb167, 2, none⟩ (.bool t158)).setCell ⟨gb167, 3, none⟩ (.int .i64 t159)).setCell ⟨gb167, 4, none⟩ (.int .u64 t160)).setCell ⟨gb167, 5, none⟩ (.float .f64 t161)).setCell ⟨gb167, 6, none⟩ (.string t162)).setCell ⟨gb167, 7, none⟩ (.slice Ao38 t163.length co38)) w.heap.size (fun k_ => some k_ ≠ (.slice Ao38 t163.length co38 : Value).ownBlock ∧ k_ ≠ gb155 ∧ k_ ≠ gb167) (.slice Ao33 t151.length co33) t151) := ⟨by (with_reducible repeat (first | apply Kd.R_alloc | apply Kd.R_drewN | apply Kd.R_drew)); exact Kd.R_mono (Kd.R_far8 (g := gb167) (Kd.R_mono HO153.out (fun k_ hk => (⟨hk, hk.2⟩ : _ ∧ k_ ≠ gb167))) (fun _ hk => hk.2) (.string t156) (.int .i64 t157) (.bool t158) (.int .i64 t159) (.int .u64 t160) (.float .f64 t161) (.string t162) (.slice Ao38 t163.length co38)) (fun _ hk => ⟨hk.1.1.2, ⟨hk.1.1.1.2, hk.1.2⟩⟩)⟩
           have n1_ : Aside0 (Kd.R k35 35 ((((((((w35.setCell ⟨gb167, 0, none⟩ (.string t156)).setCell ⟨gb167, 1, none⟩ (.int .i64 t157)).setCell ⟨gb167, 2, none⟩ (.bool t158)).setCell ⟨gb167, 3, none⟩ (.int .i64 t159)).setCell ⟨gb167, 4, none⟩ (.int .u64 t160)).setCell ⟨gb167, 5, none⟩ (.float .f64 t161)).setCell ⟨gb167, 6, none⟩ (.string t162)).setCell ⟨gb167, 7, none⟩ (.slice Ao38 t163.length co38)) w.heap.size (fun k_ => some k_ ≠ (.slice Ao33 t151.length co33 : Value).ownBlock ∧ k_ ≠ gb155 ∧ k_ ≠ gb167) (.slice Ao38 t163.length co38) t163) := ⟨by (with_reducible repeat (first | apply Kd.R_alloc | apply Kd.R_drewN | apply Kd.R_drew)); exact Kd.R_mono (Kd.R_far8 (g := gb167) (Kd.R_mono HO165.out (fun k_ hk => (⟨hk, hk.2⟩ : _ ∧ k_ ≠ gb167))) (fun _ hk => hk.2) (.string t156) (.int .i64 t157) (.bool t158) (.int .i64 t159) (.int .u64 t160) (.float .f64 t161) (.string t162) (.slice Ao38 t163.length co38)) (fun _ hk => ⟨hk.1.1.1.2, ⟨hk.1.1.2, hk.1.2⟩⟩)⟩
           have n2_ : Aside0 (((((((((w35.setCell ⟨gb167, 0, none⟩ (.string t156)).setCell ⟨gb167, 1, none⟩ (.int .i64 t157)).setCell ⟨gb167, 2, none⟩ (.bool t158)).setCell ⟨gb167, 3, none⟩ (.int .i64 t159)).setCell ⟨gb167, 4, none⟩ (.int .u64 t160)).setCell ⟨gb167, 5, none⟩ (.float .f64 t161)).setCell ⟨gb167, 6, none⟩ (.string t162)).setCell ⟨gb167, 7, none⟩ (.slice Ao38 t163.length co38)).heap[gb155]? = some (.cells #[.string t144, .int .i64 t145, .bool t146, .int .i64 t147, .int .u64 t148, .float .f64 t149, .string t150, .slice Ao33 t151.length co33] 35 (0, 0))) := ⟨by refine bY ?_; refine blk_far ?_ NB155_167.out _; refine bY ?_; refine blk_far ?_ NB155_167.out _; refine bY ?_; refine blk_far ?_ NB155_167.out _; refine bY ?_; refine blk_far ?_ NB155_167.out _; refine bY ?_; refine blk_far ?_ NB155_167.out _; refine bY ?_; refine blk_far ?_ NB155_167.out _; refine bY ?_; refine blk_far ?_ NB155_167.out _; refine bY ?_; refine blk_far ?_ NB155_167.out _; refine bY ?_; exact BK155.out⟩
           have n3_ : Aside0 (((((((((w35.setCell ⟨gb167, 0, none⟩ (.string t156)).setCell ⟨gb167, 1, none⟩ (.int .i64 t157)).setCell ⟨gb167, 2, none⟩ (.bool t158)).setCell ⟨gb167, 3, none⟩ (.int .i64 t159)).setCell ⟨gb167, 4, none⟩ (.int .u64 t160)).setCell ⟨gb167, 5, none⟩ (.float .f64 t161)).setCell ⟨gb167, 6, none⟩ (.string t162)).setCell ⟨gb167, 7, none⟩ (.slice Ao38 t163.length co38)).heap[gb167]? = some (.cells #[.string t156, .int .i64 t157, .bool t158, .int .i64 t159, .int .u64 t160, .float .f64 t161, .string t162, .slice Ao38 t163.length co38] 35 (0, 0))) := ⟨by refine bY ?_; exact blk_put8 BK167.out⟩
           have n4_ : Aside0 (Below w.heap.size w ((((((((w35.setCell ⟨gb167, 0, none⟩ (.string t156)).setCell ⟨gb167, 1, none⟩ (.int .i64 t157)).setCell ⟨gb167, 2, none⟩ (.bool t158)).setCell ⟨gb167, 3, none⟩ (.int .i64 t159)).setCell ⟨gb167, 4, none⟩ (.int .u64 t160)).setCell ⟨gb167, 5, none⟩ (.float .f64 t161)).setCell ⟨gb167, 6, none⟩ (.string t162)).setCell ⟨gb167, 7, none⟩ (.slice Ao38 t163.length co38))) := ⟨by repeat (first | (with_reducible first | exact HB.out | apply below_alloc | apply pw_below_drewN | apply below_drew1 | refine below_set ?_ GE155.out | refine below_set ?_ GE167.out) | exact HB.out)⟩
           (try clear HO153)
           (try clear HO165)
           (try clear BK155)
           (try clear BK167)
           (try clear HB)
           generalize ((((((((w35.setCell ⟨gb167, 0, none⟩ (.string t156)).setCell ⟨gb167, 1, none⟩ (.int .i64 t157)).setCell ⟨gb167, 2, none⟩ (.bool t158)).setCell ⟨gb167, 3, none⟩ (.int .i64 t159)).setCell ⟨gb167, 4, none⟩ (.int .u64 t160)).setCell ⟨gb167, 5, none⟩ (.float .f64 t161)).setCell ⟨gb167, 6, none⟩ (.string t162)).setCell ⟨gb167, 7, none⟩ (.slice Ao38 t163.length co38)) = w39 at n0_ n1_ n2_ n3_ n4_ ⊢
           have HO153 := n0_
           have HO165 := n1_
           have BK155 := n2_
           have BK167 := n3_
           have HB := n4_
           clear n0_ n1_ n2_ n3_ n4_
           have n0_ := Aside0.mk (Kd.R_drew HO153.out)
           have n1_ := Aside0.mk (Kd.R_drew HO165.out)
           have n2_ := Aside0.mk (blk_drew BK155.out)
           have n3_ := Aside0.mk (blk_drew BK167.out)
           have n4_ := Aside0.mk (below_drew1 HB.out)
           clear HO153
           clear HO165
           clear BK155
           clear BK167
           clear HB
           have HO153 := n0_
           have HO165 := n1_
           have BK155 := n2_
           have BK167 := n3_
           have HB := n4_
           clear n0_ n1_ n2_ n3_ n4_
           refine start_ (n := 17) (S := fun w' => w'.cell? ⟨gb155, 0, none⟩ = some (.string t144) ∧ w'.cell? ⟨gb155, 1, none⟩ = some (.int .i64 t145) ∧ w'.cell? ⟨gb155, 2, none⟩ = some (.bool t146) ∧ w'.cell? ⟨gb155, 3, none⟩ = some (.int .i64 t147) ∧ w'.cell? ⟨gb155, 4, none⟩ = some (.int .u64 t148) ∧ w'.cell? ⟨gb155, 5, none⟩ = some (.float .f64 t149) ∧ w'.cell? ⟨gb155, 6, none⟩ = some (.string t150) ∧ w'.cell? ⟨gb155, 7, none⟩ = some (.slice Ao33 t151.length co33) ∧ w'.cell? ⟨gb167, 0, none⟩ = some (.string t156) ∧ w'.cell? ⟨gb167, 1, none⟩ = some (.int .i64 t157) ∧ w'.cell? ⟨gb167, 2, none⟩ = some (.bool t158) ∧ w'.cell? ⟨gb167, 3, none⟩ = some (.int .i64 t159) ∧ w'.cell? ⟨gb167, 4, none⟩ = some (.int .u64 t160) ∧ w'.cell? ⟨gb167, 5, none⟩ = some (.float .f64 t161) ∧ w'.cell? ⟨gb167, 6, none⟩ = some (.string t162) ∧ w'.cell? ⟨gb167, 7, none⟩ = some (.slice Ao38 t163.length co38)) (ds := []) (tfA 0 17) (by kernel_rfl) rfl rfl ⟨(blk_cell BK155.out 0).trans rfl, (blk_cell BK155.out 1).trans rfl, (blk_cell BK155.out 2).trans rfl, (blk_cell BK155.out 3).trans rfl, (blk_cell BK155.out 4).trans rfl, (blk_cell BK155.out 5).trans rfl, (blk_cell BK155.out 6).trans rfl, (blk_cell BK155.out 7).trans rfl, (blk_cell BK167.out 0).trans rfl, (blk_cell BK167.out 1).trans rfl, (blk_cell BK167.out 2).trans rfl, (blk_cell BK167.out 3).trans rfl, (blk_cell BK167.out 4).trans rfl, (blk_cell BK167.out 5).trans rfl, (blk_cell BK167.out 6).trans rfl, (blk_cell BK167.out 7).trans rfl⟩ (fun hHeld => ?_); refine with_tabW laws_normal__Conntrack.tab11 laws_normal__Conntrack.bits11 (fun HT_ HW_ => ?_)
           generalize w39.drew = w40 at HO153 HO165 BK155 BK167 HB hHeld ⊢
           refine pure_ (i := 0) (N := some 60) (v := ?_) (a' := ?_) (tfA 1 16) rfl rfl (any_of HT_.out (by kernel_rfl)) (fun _ _ _ h => h) (Or.inl ⟨by rfl, ?_⟩) ?_ ?_
           rotate_left
           ·intro w'
            go_simp
            with_reducible rfl
           rotate_left
           ·simp only [Act.put, sA, s0, s1, i64_w, i32_w]
            rfl
           refine pure_ (i := 1) (N := some 61) (v := ?_) (a' := ?_) (tfA 2 15) rfl rfl (any_of HT_.out (by kernel_rfl)) (fun _ _ _ h => h) (Or.inl ⟨by rfl, ?_⟩) ?_ ?_
           rotate_left
           ·intro w'
            go_simp
            with_reducible rfl
           rotate_left
           ·simp only [Act.put, sA, s0, s1, i64_w, i32_w]
            rfl
           refine pure_ (i := 2) (N := some 62) (v := ?_) (a' := ?_) (tfA 3 14) rfl rfl (any_of HT_.out (by kernel_rfl)) (fun _ _ _ h => h) (Or.inl ⟨by rfl, ?_⟩) ?_ ?_
           rotate_left
           ·intro w'
            go_simp
            with_reducible rfl
           rotate_left
           ·simp only [Act.put, sA, s0, s1, i64_w, i32_w]
            rfl
           refine pure_ (i := 3) (N := some 63) (v := ?_) (a' := ?_) (tfA 4 13) rfl rfl (any_of HT_.out (by kernel_rfl)) (fun _ _ _ h => h) (Or.inl ⟨by rfl, ?_⟩) ?_ ?_
           rotate_left
           ·intro w'
            go_simp
            with_reducible rfl
           rotate_left
           ·simp only [Act.put, sA, s0, s1, i64_w, i32_w]
            rfl
           refine pure_ (i := 4) (N := some 64) (v := ?_) (a' := ?_) (tfA 5 12) rfl rfl (any_of HT_.out (by kernel_rfl)) (fun _ _ _ h => h) (Or.inl ⟨by rfl, ?_⟩) ?_ ?_
           rotate_left
           ·intro w'
            go_simp
            with_reducible rfl
           rotate_left
           ·simp only [Act.put, sA, s0, s1, i64_w, i32_w]
            rfl
           refine pure_ (i := 5) (N := some 65) (v := ?_) (a' := ?_) (tfA 6 11) rfl rfl (any_of HT_.out (by kernel_rfl)) (fun _ _ _ h => h) (Or.inl ⟨by rfl, ?_⟩) ?_ ?_
           rotate_left
           ·intro w'
            go_simp
            with_reducible rfl
           rotate_left
           ·simp only [Act.put, sA, s0, s1, i64_w, i32_w]
            rfl
           refine pure_ (i := 6) (N := some 66) (v := ?_) (a' := ?_) (tfA 7 10) rfl rfl (any_of HT_.out (by kernel_rfl)) (fun _ _ _ h => h) (Or.inl ⟨by rfl, ?_⟩) ?_ ?_
           rotate_left
           ·intro w'
            go_simp
            with_reducible rfl
           rotate_left
           ·simp only [Act.put, sA, s0, s1, i64_w, i32_w]
            rfl
           refine take_ (i := 7) (N := some 67) (v := ?_) (a' := ?_) (tfA 8 9) rfl rfl (take_ofW HT_.out HW_.out (by kernel_rfl)) (fun _ _ _ h => h) (Or.inl ⟨by rfl, ?_⟩) hHeld ?_ ?_
           rotate_left
           ·rintro w' ⟨s0, s1, s2, s3, s4, s5, s6, s7, s8, s9, s10, s11, s12, s13, s14, s15⟩
            go_simp
            with_reducible rfl
           rotate_left
           ·simp only [Act.put, sA, s0, s1, i64_w, i32_w]
            rfl
           refine take_ (i := 9) (N := some 69) (v := ?_) (a' := ?_) (bnA 17 767) rfl rfl (take_ofW HT_.out HW_.out (by kernel_rfl)) (fun _ _ _ h => h) (Or.inl ⟨by rfl, ?_⟩) hHeld ?_ ?_
           rotate_left
           ·rintro w' ⟨s0, s1, s2, s3, s4, s5, s6, s7, s8, s9, s10, s11, s12, s13, s14, s15⟩
            go_simp
            with_reducible rfl
           rotate_left
           ·simp only [Act.put, sA, s0, s1, i64_w, i32_w]
            rfl
           refine one_ (i := 8) (N := some 68) (tfA 10 7) rfl rfl (one_of HT_.out (by kernel_rfl)) (by decide) (fun K hK => ?_)
           refine goes_ Tryz.func38 (by kernel_rfl) rfl #[.agg #[.string t144, .int .i64 t145, .bool t146, .int .i64 t147, .int .u64 t148, .float .f64 t149, .string t150, .slice Ao33 t151.length co33]] (by rfl) rfl rfl (by (try simp only [List.map_toArray, List.map_cons, List.map_nil]); first | done | rfl | (simp only [List.length_drop, List.length_take]; rfl)) ?_
           with_reducible refine (laws_toNode.calls kj13 t144 t145 t146 t147 t148 t149 t150 _ _ t151 t168 t169 t170 t171 t172 t173 t174 t175 _ ?side1 ?side2 A25.out).mono ?_
           (case side1 => repeat (first | exact (Kd.R_reads' HO153.out).2.2 | (with_reducible refine Kd.C_alloc ?_ _) | (with_reducible refine Kd.C_drewN ?_ _) | (with_reducible refine Kd.C_drew ?_)))
           (case side2 => exact (Kd.R_reads' HO153.out).2.1)
           rintro e w41 ⟨v176, rfl, ho0, hb⟩
           refine ⟨_, rfl, ?_⟩
           have n0_ := Aside0.mk (Kd.R_below (by (with_reducible repeat (first | apply Kd.R_alloc | apply Kd.R_drewN | apply Kd.R_drew)); exact HO153.out) hb)
           have n1_ := Aside0.mk (Kd.R_below (by (with_reducible repeat (first | apply Kd.R_alloc | apply Kd.R_drewN | apply Kd.R_drew)); exact HO165.out) hb)
           have n2_ := Aside0.mk (Kd.R_lower ho0 (below_size belS))
           have n3_ := Aside0.mk (blk_below (g := gb155) (o := .cells #[.string t144, .int .i64 t145, .bool t146, .int .i64 t147, .int .u64 t148, .float .f64 t149, .string t150, .slice Ao33 t151.length co33] 35 (0, 0)) (by refine bY ?_; exact BK155.out) hb)
           have n4_ := Aside0.mk (blk_below (g := gb167) (o := .cells #[.string t156, .int .i64 t157, .bool t158, .int .i64 t159, .int .u64 t160, .float .f64 t161, .string t162, .slice Ao38 t163.length co38] 35 (0, 0)) (by refine bY ?_; exact BK167.out) hb)
           have n5_ := Aside0.mk (below_step belS hb)
           clear HO153
           clear HO165
           clear BK155
           clear BK167
           clear HB
           have HO153 := n0_
           have HO165 := n1_
           have HO177 := n2_
           have BK155 := n3_
           have BK167 := n4_
           have HB := n5_
           clear n0_ n1_ n2_ n3_ n4_ n5_
           (try clear hb)
           (try clear hb2)
           (try clear hk)
           (try clear hi)
           (try clear ho0)
           refine hK.out _ _ ⟨(blk_cell BK155.out 0).trans rfl, (blk_cell BK155.out 1).trans rfl, (blk_cell BK155.out 2).trans rfl, (blk_cell BK155.out 3).trans rfl, (blk_cell BK155.out 4).trans rfl, (blk_cell BK155.out 5).trans rfl, (blk_cell BK155.out 6).trans rfl, (blk_cell BK155.out 7).trans rfl, (blk_cell BK167.out 0).trans rfl, (blk_cell BK167.out 1).trans rfl, (blk_cell BK167.out 2).trans rfl, (blk_cell BK167.out 3).trans rfl, (blk_cell BK167.out 4).trans rfl, (blk_cell BK167.out 5).trans rfl, (blk_cell BK167.out 6).trans rfl, (blk_cell BK167.out 7).trans rfl⟩ (fun hHeld => ?_)
           clear hK K
           refine norm_ (a' := ?_) ?_ ?_
           rotate_left
           ·show Act.put _ (some 68) _ = _
            simp only [Act.put, sA, s0, s1, i64_w, i32_w]
            rfl
           refine one_ (i := 10) (N := some 70) (tfA 11 6) rfl rfl (one_of HT_.out (by kernel_rfl)) (by decide) (fun K hK => ?_)
           refine goes_ Tryz.func38 (by kernel_rfl) rfl #[.agg #[.string t156, .int .i64 t157, .bool t158, .int .i64 t159, .int .u64 t160, .float .f64 t161, .string t162, .slice Ao38 t163.length co38]] (by rfl) rfl rfl (by (try simp only [List.map_toArray, List.map_cons, List.map_nil]); first | done | rfl | (simp only [List.length_drop, List.length_take]; rfl)) ?_
           with_reducible refine (laws_toNode.calls kj13 t156 t157 t158 t159 t160 t161 t162 _ _ t163 t178 t179 t180 t181 t182 t183 t184 t185 _ ?side1 ?side2 A26.out).mono ?_
           (case side1 => repeat (first | exact (Kd.R_reads' HO165.out).2.2 | (with_reducible refine Kd.C_alloc ?_ _) | (with_reducible refine Kd.C_drewN ?_ _) | (with_reducible refine Kd.C_drew ?_)))
           (case side2 => exact (Kd.R_reads' HO165.out).2.1)
           rintro e w42 ⟨v186, rfl, ho0, hb⟩
           refine ⟨_, rfl, ?_⟩
           have n0_ := Aside0.mk (Kd.R_below (by (with_reducible repeat (first | apply Kd.R_alloc | apply Kd.R_drewN | apply Kd.R_drew)); exact HO153.out) hb)
           have n1_ := Aside0.mk (Kd.R_below (by (with_reducible repeat (first | apply Kd.R_alloc | apply Kd.R_drewN | apply Kd.R_drew)); exact HO165.out) hb)
           have n2_ := Aside0.mk (Kd.R_elder' (by (with_reducible repeat (first | apply Kd.R_alloc | apply Kd.R_drewN | apply Kd.R_drew)); exact HO177.out) (Kd.R_base ho0) hb)
           have n3_ := Aside0.mk (Kd.R_lower (Kd.R_new' ho0 (Kd.R_lt (by (with_reducible repeat (first | apply Kd.R_alloc | apply Kd.R_drewN | apply Kd.R_drew)); exact HO177.out))) (below_size belS))
           have n4_ := Aside0.mk (blk_below (g := gb155) (o := .cells #[.string t144, .int .i64 t145, .bool t146, .int .i64 t147, .int .u64 t148, .float .f64 t149, .string t150, .slice Ao33 t151.length co33] 35 (0, 0)) (by refine bY ?_; exact BK155.out) hb)
           have n5_ := Aside0.mk (blk_below (g := gb167) (o := .cells #[.string t156, .int .i64 t157, .bool t158, .int .i64 t159, .int .u64 t160, .float .f64 t161, .string t162, .slice Ao38 t163.length co38] 35 (0, 0)) (by refine bY ?_; exact BK167.out) hb)
           have n6_ := Aside0.mk (below_step belS hb)
           clear HO153
           clear HO165
           clear HO177
           clear BK155
           clear BK167
           clear HB
           have HO153 := n0_
           have HO165 := n1_
           have HO177 := n2_
           have HO187 := n3_
           have BK155 := n4_
           have BK167 := n5_
           have HB := n6_
           clear n0_ n1_ n2_ n3_ n4_ n5_ n6_
           (try clear hb)
           (try clear hb2)
           (try clear hk)
           (try clear hi)
           (try clear ho0)
           obtain ⟨Ao43, co43, eo43⟩ := Kd.R_slice HO177.out
           (first | subst eo43 | (injection eo43 with f1_ f2_ f3_; have f4_ := f1_.symm; have f5_ := f3_.symm; clear f1_ f2_ f3_; subst f4_; subst f5_))
           obtain ⟨Ao44, co44, eo44⟩ := Kd.R_slice HO187.out
           (first | subst eo44 | (injection eo44 with f1_ f2_ f3_; have f4_ := f1_.symm; have f5_ := f3_.symm; clear f1_ f2_ f3_; subst f4_; subst f5_))
           refine hK.out _ _ ⟨(blk_cell BK155.out 0).trans rfl, (blk_cell BK155.out 1).trans rfl, (blk_cell BK155.out 2).trans rfl, (blk_cell BK155.out 3).trans rfl, (blk_cell BK155.out 4).trans rfl, (blk_cell BK155.out 5).trans rfl, (blk_cell BK155.out 6).trans rfl, (blk_cell BK155.out 7).trans rfl, (blk_cell BK167.out 0).trans rfl, (blk_cell BK167.out 1).trans rfl, (blk_cell BK167.out 2).trans rfl, (blk_cell BK167.out 3).trans rfl, (blk_cell BK167.out 4).trans rfl, (blk_cell BK167.out 5).trans rfl, (blk_cell BK167.out 6).trans rfl, (blk_cell BK167.out 7).trans rfl⟩ (fun hHeld => ?_)
           clear hK K
           refine norm_ (a' := ?_) ?_ ?_
           rotate_left
           ·show Act.put _ (some 70) _ = _
            simp only [Act.put, sA, s0, s1, i64_w, i32_w]
            rfl
           refine one_ (i := 11) (N := some 71) (tfA 12 5) rfl rfl (one_of HT_.out (by kernel_rfl)) (by decide) (fun K hK => ?_)
           refine goes_ Tryz.func37 (by kernel_rfl) rfl #[.agg #[.string t168, .int .i64 t169, .bool t170, .int .i64 t171, .int .u64 t172, .float .f64 t173, .string t174, .slice Ao43 t175.length co43], .agg #[.string t178, .int .i64 t179, .bool t180, .int .i64 t181, .int .u64 t182, .float .f64 t183, .string t184, .slice Ao44 t185.length co44]] (by rfl) rfl rfl (by (try simp only [List.map_toArray, List.map_cons, List.map_nil]); first | done | rfl | (simp only [List.length_drop, List.length_take]; rfl)) ?_
           with_reducible refine (spec_SameNode.calls kj13 t168 t169 t170 t171 t172 t173 t174 _ _ t175 t178 t179 t180 t181 t182 t183 t184 _ _ t185 true _ ?side1 ?side2 ?side3 ?side4 A27.out).mono ?_
           (case side1 => repeat (first | exact (Kd.R_reads' HO177.out).2.2 | (with_reducible refine Kd.C_alloc ?_ _) | (with_reducible refine Kd.C_drewN ?_ _) | (with_reducible refine Kd.C_drew ?_)))
           (case side2 => exact (Kd.R_reads' HO177.out).2.1)
           (case side3 => repeat (first | exact (Kd.R_reads' HO187.out).2.2 | (with_reducible refine Kd.C_alloc ?_ _) | (with_reducible refine Kd.C_drewN ?_ _) | (with_reducible refine Kd.C_drew ?_)))
           (case side4 => exact (Kd.R_reads' HO187.out).2.1)
           rintro e w45 ⟨rfl, hb⟩
           refine ⟨_, rfl, ?_⟩
           have n0_ := Aside0.mk (Kd.R_below (by (with_reducible repeat (first | apply Kd.R_alloc | apply Kd.R_drewN | apply Kd.R_drew)); exact HO153.out) hb)
           have n1_ := Aside0.mk (Kd.R_below (by (with_reducible repeat (first | apply Kd.R_alloc | apply Kd.R_drewN | apply Kd.R_drew)); exact HO165.out) hb)
           have n2_ := Aside0.mk (Kd.R_below (by (with_reducible repeat (first | apply Kd.R_alloc | apply Kd.R_drewN | apply Kd.R_drew)); exact HO177.out) hb)
           have n3_ := Aside0.mk (Kd.R_below (by (with_reducible repeat (first | apply Kd.R_alloc | apply Kd.R_drewN | apply Kd.R_drew)); exact HO187.out) hb)
           have n4_ := Aside0.mk (blk_below (g := gb155) (o := .cells #[.string t144, .int .i64 t145, .bool t146, .int .i64 t147, .int .u64 t148, .float .f64 t149, .string t150, .slice Ao33 t151.length co33] 35 (0, 0)) (by refine bY ?_; exact BK155.out) hb)
           have n5_ := Aside0.mk (blk_below (g := gb167) (o := .cells #[.string t156, .int .i64 t157, .bool t158, .int .i64 t159, .int .u64 t160, .float .f64 t161, .string t162, .slice Ao38 t163.length co38] 35 (0, 0)) (by refine bY ?_; exact BK167.out) hb)
           have n6_ := Aside0.mk (below_step belS hb)
           clear HO153
           clear HO165
           clear HO177
           clear HO187
           clear BK155
           clear BK167
           clear HB
           have HO153 := n0_
           have HO165 := n1_
           have HO177 := n2_
           have HO187 := n3_
           have BK155 := n4_
           have BK167 := n5_
           have HB := n6_
           clear n0_ n1_ n2_ n3_ n4_ n5_ n6_
           (try clear hb)
           (try clear hb2)
           (try clear hk)
           (try clear hi)
           refine hK.out _ _ ⟨(blk_cell BK155.out 0).trans rfl, (blk_cell BK155.out 1).trans rfl, (blk_cell BK155.out 2).trans rfl, (blk_cell BK155.out 3).trans rfl, (blk_cell BK155.out 4).trans rfl, (blk_cell BK155.out 5).trans rfl, (blk_cell BK155.out 6).trans rfl, (blk_cell BK155.out 7).trans rfl, (blk_cell BK167.out 0).trans rfl, (blk_cell BK167.out 1).trans rfl, (blk_cell BK167.out 2).trans rfl, (blk_cell BK167.out 3).trans rfl, (blk_cell BK167.out 4).trans rfl, (blk_cell BK167.out 5).trans rfl, (blk_cell BK167.out 6).trans rfl, (blk_cell BK167.out 7).trans rfl⟩ (fun hHeld => ?_)
           clear hK K
           refine norm_ (a' := ?_) ?_ ?_
           rotate_left
           ·show Act.put _ (some 71) _ = _
            simp only [Act.put, sA, s0, s1, i64_w, i32_w]
            rfl
           refine pure_ (i := 12) (N := some 72) (v := ?_) (a' := ?_) (tfA 13 4) rfl rfl (any_of HT_.out (by kernel_rfl)) (fun _ _ _ h => h) (Or.inl ⟨by rfl, ?_⟩) ?_ ?_
           rotate_left
           ·intro w'
            go_simp
            with_reducible rfl
           rotate_left
           ·simp only [Act.put, sA, s0, s1, i64_w, i32_w]
            rfl
           refine pure_ (i := 13) (N := some 73) (v := ?_) (a' := ?_) (tfA 14 3) rfl rfl (any_of HT_.out (by kernel_rfl)) (fun _ _ _ h => h) (Or.inl ⟨by rfl, ?_⟩) ?_ ?_
           rotate_left
           ·intro w'
            go_simp
            with_reducible rfl
           rotate_left
           ·simp only [Act.put, sA, s0, s1, i64_w, i32_w]
            rfl
           refine one_ (i := 14) (N := some 74) (tfA 15 2) rfl rfl (one_of HT_.out (by kernel_rfl)) (by decide) (fun K hK => ?_)
           refine goes_ Tryz.func36 (by kernel_rfl) rfl #[] (by rfl) rfl rfl (by (try simp only [List.map_toArray, List.map_cons, List.map_nil]); first | done | rfl | (simp only [List.length_drop, List.length_take]; rfl)) ?_
           with_reducible refine (laws_lives.calls  t189 _ A29.out).mono ?_
           rintro e w46 ⟨rfl, hb⟩
           refine ⟨_, rfl, ?_⟩
           have n0_ := Aside0.mk (Kd.R_below (by (with_reducible repeat (first | apply Kd.R_alloc | apply Kd.R_drewN | apply Kd.R_drew)); exact HO153.out) hb)
           have n1_ := Aside0.mk (Kd.R_below (by (with_reducible repeat (first | apply Kd.R_alloc | apply Kd.R_drewN | apply Kd.R_drew)); exact HO165.out) hb)
           have n2_ := Aside0.mk (Kd.R_below (by (with_reducible repeat (first | apply Kd.R_alloc | apply Kd.R_drewN | apply Kd.R_drew)); exact HO177.out) hb)
           have n3_ := Aside0.mk (Kd.R_below (by (with_reducible repeat (first | apply Kd.R_alloc | apply Kd.R_drewN | apply Kd.R_drew)); exact HO187.out) hb)
           have n4_ := Aside0.mk (blk_below (g := gb155) (o := .cells #[.string t144, .int .i64 t145, .bool t146, .int .i64 t147, .int .u64 t148, .float .f64 t149, .string t150, .slice Ao33 t151.length co33] 35 (0, 0)) (by refine bY ?_; exact BK155.out) hb)
           have n5_ := Aside0.mk (blk_below (g := gb167) (o := .cells #[.string t156, .int .i64 t157, .bool t158, .int .i64 t159, .int .u64 t160, .float .f64 t161, .string t162, .slice Ao38 t163.length co38] 35 (0, 0)) (by refine bY ?_; exact BK167.out) hb)
           have n6_ := Aside0.mk (below_step belS hb)
           clear HO153
           clear HO165
           clear HO177
           clear HO187
           clear BK155
           clear BK167
           clear HB
           have HO153 := n0_
           have HO165 := n1_
           have HO177 := n2_
           have HO187 := n3_
           have BK155 := n4_
           have BK167 := n5_
           have HB := n6_
           clear n0_ n1_ n2_ n3_ n4_ n5_ n6_
           (try clear hb)
           (try clear hb2)
           (try clear hk)
           (try clear hi)
           refine hK.out _ _ ⟨(blk_cell BK155.out 0).trans rfl, (blk_cell BK155.out 1).trans rfl, (blk_cell BK155.out 2).trans rfl, (blk_cell BK155.out 3).trans rfl, (blk_cell BK155.out 4).trans rfl, (blk_cell BK155.out 5).trans rfl, (blk_cell BK155.out 6).trans rfl, (blk_cell BK155.out 7).trans rfl, (blk_cell BK167.out 0).trans rfl, (blk_cell BK167.out 1).trans rfl, (blk_cell BK167.out 2).trans rfl, (blk_cell BK167.out 3).trans rfl, (blk_cell BK167.out 4).trans rfl, (blk_cell BK167.out 5).trans rfl, (blk_cell BK167.out 6).trans rfl, (blk_cell BK167.out 7).trans rfl⟩ (fun hHeld => ?_)
           clear hK K
           refine norm_ (a' := ?_) ?_ ?_
           rotate_left
           ·show Act.put _ (some 74) _ = _
            simp only [Act.put, sA, s0, s1, i64_w, i32_w]
            rfl
           refine pure_ (i := 15) (N := some 75) (v := ?_) (a' := ?_) (tfA 16 1) rfl rfl (any_of HT_.out (by kernel_rfl)) (fun _ _ _ h => h) (Or.inl ⟨by rfl, ?_⟩) ?_ ?_
           rotate_left
           ·intro w'
            go_simp
            with_reducible rfl
           rotate_left
           ·simp only [Act.put, sA, s0, s1, i64_w, i32_w]
            rfl
           refine pure_ (i := 16) (N := some 8) (v := ?_) (a' := ?_) (tfA 17 0) rfl rfl (any_of HT_.out (by kernel_rfl)) (fun _ _ _ h => h) (Or.inl ⟨by rfl, ?_⟩) ?_ ?_
           rotate_left
           ·intro w'
            go_simp
            with_reducible rfl
           rotate_left
           ·simp only [Act.put, sA, s0, s1, i64_w, i32_w]
            rfl
           refine done_ (done_of HT_.out (by kernel_rfl)) ?_
           try go_wp2
           go_ret
           exact ⟨by first | rfl | (simp [errW_none, errW_some] <;> rfl) | (simp [*, errW_none, errW_some] <;> rfl), by repeat (first | (with_reducible first | exact HB.out | apply below_alloc | apply pw_below_drewN | apply below_drew1 | refine below_set ?_ GE155.out | refine below_set ?_ GE167.out) | exact HB.out)⟩
          ·replace c28 := Bool.eq_false_iff.mpr c28
           subst c28
           have H1 : (none) = some r := by rw [if_neg (show ¬ (false = true) by decide)] at H; exact H
           clear H
           have H := H1
           clear H1
           exact absurd H (by simp)
         ·rw [if_neg c24] at H
          exact absurd H (by simp)
        ·rw [if_neg c23] at H
         exact absurd H (by simp)

/-! ### laws_FnConntrackNormal: function 7 -/
def laws_FnConntrackNormal.f (k : Nat) (a0 : ByteArray) : Option (Bool) := if (a0.size : Int) > 2147483647 then (some true) else ((laws_normal__Conntrack.f k a0).bind fun t190 => (some t190))
theorem laws_FnConntrackNormal.mono : ∀ a0 k, LeO (laws_FnConntrackNormal.f k a0) (laws_FnConntrackNormal.f (k + 1) a0) := by
 intro a0 k
 unfold laws_FnConntrackNormal.f
 repeat' first
   | (with_reducible exact laws_normal__Conntrack.mono _ _)
   | (with_reducible exact LeO.refl _)
   | (with_reducible exact LeO.none _)
   | (with_reducible refine LeO.ite ?_ ?_)
   | (with_reducible refine LeO.bind ?_ (fun _ => ?_))
   | exact laws_normal__Conntrack.mono _ _
   | exact LeO.none _
   | refine LeO.ite ?_ ?_
   | refine LeO.bind ?_ (fun _ => ?_)
set_option maxHeartbeats 8000000 in
set_option maxRecDepth 100000 in
theorem laws_FnConntrackNormal.calls (k : Nat) (a0 : ByteArray) (r : Bool) (w : World) (h : laws_FnConntrackNormal.f k a0 = some r) (hTabs : Tabs w := by first | exact hTabs | exact Tabs.below hTabs (by repeat (first | (with_reducible first | exact HB.out | apply below_alloc | apply pw_below_drewN | apply below_drew1 | refine below_set ?_ (Aside0.out (by assumption))) | exact HB.out))) :
  Calls Tryz.prog 7 #[.string a0] w fun e w' => e = .returned (.bool r) ∧ Below w.heap.size w w' := by
 have HB := Aside0.mk (Below.refl w.heap.size w)
 have H : (if (a0.size : Int) > 2147483647 then (some true) else ((laws_normal__Conntrack.f k a0).bind fun t190 => (some t190))) = some r := h
 clear h
 by_cases c2 : (a0.size : Int) > 2147483647
 ·rw [if_pos c2] at H
  have c2b0 : decide (2147483647 < (a0.size : Int)) = true := decide_eq_true c2
  have c2b1 : decide (2147483647 < a0.size) = true := decide_eq_true (by omega)
  clear c2
  obtain rfl := Option.some.inj H
  go_enter Tryz.func7, Tryz.ntmps7
  go_wp2
  go_ret
  exact ⟨by first | rfl | (simp [errW_none, errW_some] <;> rfl) | (simp [*, errW_none, errW_some] <;> rfl), by repeat (first | (with_reducible first | exact HB.out | apply below_alloc | apply pw_below_drewN | apply below_drew1) | exact HB.out)⟩
 ·rw [if_neg c2] at H
  have c2b0 : decide (2147483647 < (a0.size : Int)) = false := decide_eq_false c2
  have c2b1 : decide (2147483647 < a0.size) = false := decide_eq_false (by omega)
  clear c2
  replace H := Option.bind_eq_some_iff.mp H
  obtain ⟨t190, A30, H⟩ := H
  have A3 := Aside0.mk A30
  clear A30
  obtain rfl := Option.some.inj H
  go_enter Tryz.func7, Tryz.ntmps7
  go_wp2_with (first | ((with_reducible refine gate_callee (f := 11) rfl ?_); refine goesL_ (some 7) rfl rfl Tryz.func11 (by kernel_rfl) rfl #[.string a0, .func (.func 24) #[] #[], .func (.func 25) #[] #[], .func (.func 26) #[] #[]] rfl (by (try simp only [List.map_toArray, List.map_cons, List.map_nil]); first | done | rfl | (simp only [List.length_drop, List.length_take]; rfl)) ?_; (with_reducible refine (laws_normal__Conntrack.calls k a0    t190 _ A3.out).mono ?_); rintro e w4 ⟨rfl, hb⟩; refine ⟨_, rfl, ?_⟩; have n0_ := Aside0.mk (below_step belH hb); clear HB; have HB := n0_; clear n0_; (try clear hb); (try clear hb2); (try clear hk); (try clear hi)))
  go_ret
  exact ⟨by first | rfl | (simp [errW_none, errW_some] <;> rfl) | (simp [*, errW_none, errW_some] <;> rfl), by repeat (first | (with_reducible first | exact HB.out | apply below_alloc | apply pw_below_drewN | apply below_drew1) | exact HB.out)⟩

/-- THE ONE PURE STATEMENT of laws_FnConntrackNormal: yours. -/
def laws_FnConntrackNormal.Pure : Prop := ∀ (a0 : ByteArray), a0.size ≤ 140737488351232 → ∃ k, laws_FnConntrackNormal.f k a0 = some true
theorem laws_FnConntrackNormal.walk (P : laws_FnConntrackNormal.Pure) (a0 : ByteArray) (w : World) (w0 : a0.size ≤ 140737488351232) (hTabs : Tabs w := by first | exact hTabs | exact Tabs.below hTabs (by repeat (first | (with_reducible first | exact HB.out | apply below_alloc | apply pw_below_drewN | apply below_drew1 | refine below_set ?_ (Aside0.out (by assumption))) | exact HB.out))) :
  Calls Tryz.prog 7 #[.string a0] w fun e w' => e = .returned (.bool true) ∧ Below w.heap.size w w' := by
 obtain ⟨k, h⟩ := P a0 w0
 refine (laws_FnConntrackNormal.calls k a0 true w h).mono ?_
 rintro e w' ⟨rfl, hd⟩
 exact ⟨rfl, hd⟩

end Go.Proofs.YtdmpbaanonafbaaGreatDoor.J
