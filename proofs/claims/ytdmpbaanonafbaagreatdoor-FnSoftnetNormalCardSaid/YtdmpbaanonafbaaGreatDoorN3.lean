-- written by a program of this session (wip/tools/pp.py)
import Derived.Test.YtdmpbaanonafbaaGreatDoorN0
import Derived.Test.YtdmpbaanonafbaaGreatDoorN2
namespace Go.Proofs.YtdmpbaanonafbaaGreatDoor.N
open Go.RowKit Go.Proofs.YtdmpbaanonafbaaGreatDoorW.PrintWords Go.Proofs.YtdmpbaanonafbaaGreatDoorW.PrintLast Go.Proofs.YtdmpbaanonafbaaGreatDoor.Flt Go.Proofs.YtdmpbaanonafbaaGreatDoor.GivZ Go.Proofs.YtdmpbaanonafbaaGreatDoor.E Go.Proofs.YtdmpbaanonafbaaGreatDoor.L Go.Proofs.YtdmpbaanonafbaaGreatDoor.V Go.Proofs.YtdmpbaanonafbaaGreatDoor.DoorSn Go.Proofs.YtdmpbaanonafbaaGreatDoor.Lives Go.Proofs.YtdmpbaanonafbaaGreatDoor.R Go.Proofs.YtdmpbaanonafbaaGreatDoorW.PrintMore
attribute [local go_sem] max2_int min2_int max_two min_two max_three min_three max_four min_four   -- for this text's walks alone
set_option linter.unusedVariables false
set_option linter.unusedSimpArgs false

/-! ### laws_normal__Softnet: function 11 -/
mutual
def laws_normal__Softnet.j0 : Nat → ByteArray → List (S48) → Bool → Option (Bool)
 | 0, _, _, _ => none
 | k + 1, x0, x9, x32 => if x32 = true then ((laws_lives.f).bind fun t138 => (some t138)) else ((spec_SoftnetPrint.f k x9).bind fun bt139 => (if bt139.2 = 1 then (laws_normal__Softnet.j1 k x0 bt139.1 (decide ((bt139.1.size : Int) > 40000))) else (laws_normal__Softnet.j1 k x0 bt139.1 true)))
def laws_normal__Softnet.j1 : Nat → ByteArray → ByteArray → Bool → Option (Bool)
 | 0, _, _, _ => none
 | k + 1, x0, x12, x46 => if x46 = true then ((laws_lives.f).bind fun t141 => (some t141)) else ((impl_Softnet.f x0).bind fun bt142 => ((impl_Softnet.f x12).bind fun bt154 => (if bt142.2.2.2.2.2.2.2.2 = 0 then (if bt154.2.2.2.2.2.2.2.2 = 0 then ((laws_toNode.f k bt142.1 bt142.2.1 bt142.2.2.1 bt142.2.2.2.1 bt142.2.2.2.2.1 bt142.2.2.2.2.2.1 bt142.2.2.2.2.2.2.1 bt142.2.2.2.2.2.2.2.1).bind fun bt166 => ((laws_toNode.f k bt154.1 bt154.2.1 bt154.2.2.1 bt154.2.2.2.1 bt154.2.2.2.2.1 bt154.2.2.2.2.2.1 bt154.2.2.2.2.2.2.1 bt154.2.2.2.2.2.2.2.1).bind fun bt176 => ((spec_SameNode.f k bt166.1 bt166.2.1 bt166.2.2.1 bt166.2.2.2.1 bt166.2.2.2.2.1 bt166.2.2.2.2.2.1 bt166.2.2.2.2.2.2.1 bt166.2.2.2.2.2.2.2 bt176.1 bt176.2.1 bt176.2.2.1 bt176.2.2.2.1 bt176.2.2.2.2.1 bt176.2.2.2.2.2.1 bt176.2.2.2.2.2.2.1 bt176.2.2.2.2.2.2.2).bind fun t186 => (if t186 = true then ((laws_lives.f).bind fun t187 => (some t187)) else (none))))) else (none)) else (none))))
end
def laws_normal__Softnet.f (k : Nat) (a0 : ByteArray)    : Option (Bool) := if (a0.size : Int) > 40000 then (some true) else ((spec_SoftnetRead.f k a0).bind fun bt133 => (if bt133.2.2 = 1 then (laws_normal__Softnet.j0 k a0 bt133.1 (!bt133.2.1)) else (laws_normal__Softnet.j0 k a0 bt133.1 true)))
theorem laws_normal__Softnet.mono_l : ∀ k, (∀ y0 y1 y2, LeO (laws_normal__Softnet.j0 k y0 y1 y2) (laws_normal__Softnet.j0 (k + 1) y0 y1 y2)) ∧ (∀ y0 y1 y2, LeO (laws_normal__Softnet.j1 k y0 y1 y2) (laws_normal__Softnet.j1 (k + 1) y0 y1 y2))
 | 0 => ⟨fun _ _ _ r h => by simp [laws_normal__Softnet.j0] at h, fun _ _ _ r h => by simp [laws_normal__Softnet.j1] at h⟩
 | k + 1 => by
  obtain ⟨ih0, ih1⟩ := laws_normal__Softnet.mono_l k
  refine ⟨?_, ?_⟩
  ·intro y0 y1 y2
   unfold laws_normal__Softnet.j0
   repeat' first
   | (with_reducible exact ih0 _ _ _)
   | (with_reducible exact ih1 _ _ _)
   | (with_reducible exact laws_toNode.mono _ _ _ _ _ _ _ _ _)
   | (with_reducible exact spec_SameNode.mono _ _ _ _ _ _ _ _ _ _ _ _ _ _ _ _ _)
   | (with_reducible exact spec_SoftnetPrint.mono _ _)
   | (with_reducible exact spec_SoftnetRead.mono _ _)
   | (with_reducible exact LeO.refl _)
   | (with_reducible exact LeO.none _)
   | (with_reducible refine LeO.ite ?_ ?_)
   | (with_reducible refine LeO.bind ?_ (fun _ => ?_))
   | exact ih0 _ _ _
   | exact ih1 _ _ _
   | exact laws_toNode.mono _ _ _ _ _ _ _ _ _
   | exact spec_SameNode.mono _ _ _ _ _ _ _ _ _ _ _ _ _ _ _ _ _
   | exact spec_SoftnetPrint.mono _ _
   | exact spec_SoftnetRead.mono _ _
   | exact LeO.none _
   | refine LeO.ite ?_ ?_
   | refine LeO.bind ?_ (fun _ => ?_)
  ·intro y0 y1 y2
   unfold laws_normal__Softnet.j1
   repeat' first
   | (with_reducible exact ih0 _ _ _)
   | (with_reducible exact ih1 _ _ _)
   | (with_reducible exact laws_toNode.mono _ _ _ _ _ _ _ _ _)
   | (with_reducible exact spec_SameNode.mono _ _ _ _ _ _ _ _ _ _ _ _ _ _ _ _ _)
   | (with_reducible exact spec_SoftnetPrint.mono _ _)
   | (with_reducible exact spec_SoftnetRead.mono _ _)
   | (with_reducible exact LeO.refl _)
   | (with_reducible exact LeO.none _)
   | (with_reducible refine LeO.ite ?_ ?_)
   | (with_reducible refine LeO.bind ?_ (fun _ => ?_))
   | exact ih0 _ _ _
   | exact ih1 _ _ _
   | exact laws_toNode.mono _ _ _ _ _ _ _ _ _
   | exact spec_SameNode.mono _ _ _ _ _ _ _ _ _ _ _ _ _ _ _ _ _
   | exact spec_SoftnetPrint.mono _ _
   | exact spec_SoftnetRead.mono _ _
   | exact LeO.none _
   | refine LeO.ite ?_ ?_
   | refine LeO.bind ?_ (fun _ => ?_)
theorem laws_normal__Softnet.mono : ∀ a0 k, LeO (laws_normal__Softnet.f k a0) (laws_normal__Softnet.f (k + 1) a0) := by
 intro a0 k
 obtain ⟨ih0, ih1⟩ := laws_normal__Softnet.mono_l k
 unfold laws_normal__Softnet.f
 repeat' first
   | (with_reducible exact ih0 _ _ _)
   | (with_reducible exact ih1 _ _ _)
   | (with_reducible exact laws_toNode.mono _ _ _ _ _ _ _ _ _)
   | (with_reducible exact spec_SameNode.mono _ _ _ _ _ _ _ _ _ _ _ _ _ _ _ _ _)
   | (with_reducible exact spec_SoftnetPrint.mono _ _)
   | (with_reducible exact spec_SoftnetRead.mono _ _)
   | (with_reducible exact LeO.refl _)
   | (with_reducible exact LeO.none _)
   | (with_reducible refine LeO.ite ?_ ?_)
   | (with_reducible refine LeO.bind ?_ (fun _ => ?_))
   | exact ih0 _ _ _
   | exact ih1 _ _ _
   | exact laws_toNode.mono _ _ _ _ _ _ _ _ _
   | exact spec_SameNode.mono _ _ _ _ _ _ _ _ _ _ _ _ _ _ _ _ _
   | exact spec_SoftnetPrint.mono _ _
   | exact spec_SoftnetRead.mono _ _
   | exact LeO.none _
   | refine LeO.ite ?_ ?_
   | refine LeO.bind ?_ (fun _ => ?_)
def laws_normal__Softnet.T11 : Bool × List (List Nat × List Nat) := (true, [([], []), ([0], [0]), ([1], [1]), ([2], [2]), ([3, 2], [2, 3]), ([2, 4], [2, 4]), ([5, 2], [5]), ([6], [6]), ([7, 6, 6], [6, 7]), ([6], [6]), ([9, 8, 6], [6, 9]), ([8, 10, 10, 6], [6, 8, 10]), ([6, 11], [6, 11]), ([12, 11], [12]), ([13, 13], [13]), ([13, 14], [13, 14]), ([15, 14, 0, 1, 2, 3, 4, 5, 6, 7, 8, 9, 10, 11, 12, 13, 14, 15], [15])])
def laws_normal__Softnet.B11 : List Nat := [0, 1, 3, 7, 15, 31, 63, 127, 255, 127, 1023, 2047, 4095, 8191, 16383, 32767, 65535]
theorem laws_normal__Softnet.tab11 : rtab .any (opsOf Tryz.f11 11) = laws_normal__Softnet.T11 := by kernel_rfl
theorem laws_normal__Softnet.bits11 : waitsOk laws_normal__Softnet.T11.2 laws_normal__Softnet.B11 = true := by kernel_rfl
set_option maxHeartbeats 8000000 in
set_option maxRecDepth 100000 in
theorem laws_normal__Softnet.calls (k : Nat) (a0 : ByteArray)    (r : Bool) (w : World) (h : laws_normal__Softnet.f k a0 = some r) (hTabs : Tabs w := by first | exact hTabs | exact Tabs.below hTabs (by repeat (first | (with_reducible first | exact HB.out | apply below_alloc | apply pw_below_drewN | apply below_drew1 | refine below_set ?_ (Aside0.out (by assumption))) | exact HB.out))) :
  Calls Tryz.prog 11 #[.string a0, .func (.func 27) #[] #[], .func (.func 28) #[] #[], .func (.func 29) #[] #[]] w fun e w' => e = .returned (.bool r) ∧ Below w.heap.size w w' := by
 have hu35 := Tryz.underlying35
 have HB := Aside0.mk (Below.refl w.heap.size w)
 have H : (if (a0.size : Int) > 40000 then (some true) else ((spec_SoftnetRead.f k a0).bind fun bt133 => (if bt133.2.2 = 1 then (laws_normal__Softnet.j0 k a0 bt133.1 (!bt133.2.1)) else (laws_normal__Softnet.j0 k a0 bt133.1 true)))) = some r := h
 clear h
 by_cases c5 : (a0.size : Int) > 40000
 ·rw [if_pos c5] at H
  have c5b0 : decide (40000 < (a0.size : Int)) = true := decide_eq_true c5
  have c5b1 : decide (40000 < a0.size) = true := decide_eq_true (by omega)
  clear c5
  obtain rfl := Option.some.inj H
  go_enter Tryz.func11, Tryz.ntmps11
  go_wp2
  go_ret
  exact ⟨by first | rfl | (simp [errW_none, errW_some] <;> rfl) | (simp [*, errW_none, errW_some] <;> rfl), by repeat (first | (with_reducible first | exact HB.out | apply below_alloc | apply pw_below_drewN | apply below_drew1) | exact HB.out)⟩
 ·rw [if_neg c5] at H
  have c5b0 : decide (40000 < (a0.size : Int)) = false := decide_eq_false c5
  have c5b1 : decide (40000 < a0.size) = false := decide_eq_false (by omega)
  clear c5
  replace H := Option.bind_eq_some_iff.mp H
  obtain ⟨⟨t133, t134, t135⟩, A60, H⟩ := H
  replace H : (if t135 = 1 then (laws_normal__Softnet.j0 k a0 t133 (!t134)) else (laws_normal__Softnet.j0 k a0 t133 true)) = some r := H
  have A6 := Aside0.mk A60
  clear A60
  have HC7 := Aside0.mk H
  clear H
  go_enter Tryz.func11, Tryz.ntmps11
  go_upto_region 4 with (first | (go_at_call 27; (with_reducible refine (spec_SoftnetRead.calls k a0 t133 t134 t135 _ A6.out).mono ?_); rintro e w8 ⟨v136, rfl, ho0, hb⟩; have n0_ := Aside0.mk (Kd.S_lower ho0 (below_size belH)); have n1_ := Aside0.mk (below_step belH hb); clear HB; have HO137 := n0_; have HB := n1_; clear n0_ n1_; (try clear hb); (try clear hb2); (try clear hk); (try clear hi); (try clear ho0)))
  (try simp only [Act.put, List.setIfInBounds_toArray, List.set_cons_zero, List.set_cons_succ])
  go_cut [32] (fun v32 wc => ∃ (kq : Nat) (x32_6 : Bool), v32 = .bool x32_6 ∧ Aside0 (laws_normal__Softnet.j0 kq a0 t133 x32_6 = some r) ∧ Aside0 (kq ≤ k) ∧ Aside0 (Kd.S k48 48 wc w.heap.size (fun _ => True) v136 t133) ∧ Aside0 (Below w.heap.size w wc))
  case first =>
   have H := HC7.out
   clear HC7
   by_cases c9 : t135 = 1
   ·rw [if_pos c9] at H
    have c9b0 : (t135 == 1) = true := beq_iff_eq.mpr c9
    have c9b1 : (t135 != 1) = false := bne_eq_false_iff_eq.mpr c9
    clear c9
    (first | rw [c9b0] | (simp only [i64_w, i32_w]; rw [c9b0]) | skip)
    have H' := Aside0.mk H
    clear H
    go_wp2
    go_meet
    case rel => exact ⟨_, (!t134), (by first | rfl | (simp; done) | (simp [*]; done) | (simp [bne_nil]; done) | (simp [bne_nil, *]; done)), H', ⟨by first | omega | exact Nat.le_refl _⟩, ⟨by (with_reducible repeat (first | apply Kd.S_alloc | apply Kd.S_drewN | apply Kd.S_drew)); exact HO137.out⟩, ⟨by repeat (first | (with_reducible first | exact HB.out | apply below_alloc | apply pw_below_drewN | apply below_drew1) | exact HB.out)⟩⟩
   ·rw [if_neg c9] at H
    have c9b0 : (t135 == 1) = false := beq_eq_false_iff_ne.mpr c9
    have c9b1 : (t135 != 1) = true := bne_iff_ne.mpr c9
    (first | rw [c9b0] | (simp only [i64_w, i32_w]; rw [c9b0]) | skip)
    have H' := Aside0.mk H
    clear H
    go_wp2
    go_meet
    case rel => exact ⟨_, (true), (by first | rfl | (simp; done) | (simp [*]; done) | (simp [bne_nil]; done) | (simp [bne_nil, *]; done)), H', ⟨by first | omega | exact Nat.le_refl _⟩, ⟨by (with_reducible repeat (first | apply Kd.S_alloc | apply Kd.S_drewN | apply Kd.S_drew)); exact HO137.out⟩, ⟨by repeat (first | (with_reducible first | exact HB.out | apply below_alloc | apply pw_below_drewN | apply below_drew1) | exact HB.out)⟩⟩
  case rest =>
   clear HC7
   try clear p2
   try clear c5
   try clear c5b0
   try clear c5b1
   try clear c9
   try clear c9b0
   try clear c9b1
   obtain ⟨kq, x32_6, rfl, HA, HJ6, HO_9, HB⟩ := hcut
   cases kq with
   | zero => exact absurd HA.out (by simp [laws_normal__Softnet.j0])
   | succ kj6 =>
    have H := HA.out
    clear HA
    simp only [laws_normal__Softnet.j0] at H
    by_cases c10 : x32_6 = true
    ·subst c10
     have H1 : ((laws_lives.f).bind fun t138 => (some t138)) = some r := by rw [if_pos rfl] at H; exact H
     clear H
     have H := H1
     clear H1
     replace H := Option.bind_eq_some_iff.mp H
     obtain ⟨t138, A110, H⟩ := H
     replace H : (some t138) = some r := H
     have A11 := Aside0.mk A110
     clear A110
     obtain rfl := Option.some.inj H
     go_wp2_with (first | ((with_reducible refine gate_callee (f := 36) rfl ?_); refine goesL_ (some 33) rfl rfl Tryz.func36 (by kernel_rfl) rfl #[] rfl (by (try simp only [List.map_toArray, List.map_cons, List.map_nil]); first | done | rfl | (simp only [List.length_drop, List.length_take]; rfl)) ?_; (with_reducible refine (laws_lives.calls  t138 _ A11.out).mono ?_); rintro e w12 ⟨rfl, hb⟩; refine ⟨_, rfl, ?_⟩; have n0_ := Aside0.mk (Kd.S_below (by (with_reducible repeat (first | apply Kd.S_alloc | apply Kd.S_drewN | apply Kd.S_drew)); exact HO_9.out) hb); have n1_ := Aside0.mk (below_step belH hb); clear HO_9; clear HB; have HO_9 := n0_; have HB := n1_; clear n0_ n1_; (try clear hb); (try clear hb2); (try clear hk); (try clear hi)))
     go_ret
     exact ⟨by first | rfl | (simp [errW_none, errW_some] <;> rfl) | (simp [*, errW_none, errW_some] <;> rfl), by repeat (first | (with_reducible first | exact HB.out | apply below_alloc | apply pw_below_drewN | apply below_drew1) | exact HB.out)⟩
    ·replace c10 := Bool.eq_false_iff.mpr c10
     subst c10
     have H1 : ((spec_SoftnetPrint.f kj6 t133).bind fun bt139 => (if bt139.2 = 1 then (laws_normal__Softnet.j1 kj6 a0 bt139.1 (decide ((bt139.1.size : Int) > 40000))) else (laws_normal__Softnet.j1 kj6 a0 bt139.1 true))) = some r := by rw [if_neg (show ¬ (false = true) by decide)] at H; exact H
     clear H
     have H := H1
     clear H1
     replace H := Option.bind_eq_some_iff.mp H
     obtain ⟨⟨t139, t140⟩, A130, H⟩ := H
     replace H : (if t140 = 1 then (laws_normal__Softnet.j1 kj6 a0 t139 (decide ((t139.size : Int) > 40000))) else (laws_normal__Softnet.j1 kj6 a0 t139 true)) = some r := H
     have A13 := Aside0.mk A130
     clear A130
     have HC14 := Aside0.mk H
     clear H
     obtain ⟨Ao15, co15, eo15⟩ := Kd.S_slice HO_9.out
     subst eo15
     go_upto_region 7 with (first | (go_at_call 28; (with_reducible refine (spec_SoftnetPrint.calls kj6 _ _ t133 t139 t140 _ ?side1 ?side2 A13.out).mono ?_); (case side1 => repeat (first | exact (Kd.S_reads' HO_9.out).2.2 | (with_reducible refine Kd.C_alloc ?_ _) | (with_reducible refine Kd.C_drewN ?_ _) | (with_reducible refine Kd.C_drew ?_))); (case side2 => exact (Kd.S_reads' HO_9.out).2.1); rintro e w16 ⟨rfl, hb⟩; have n0_ := Aside0.mk (Kd.S_below (by (with_reducible repeat (first | apply Kd.S_alloc | apply Kd.S_drewN | apply Kd.S_drew)); exact HO_9.out) hb); have n1_ := Aside0.mk (below_step belH hb); clear HO_9; clear HB; have HO_9 := n0_; have HB := n1_; clear n0_ n1_; (try clear hb); (try clear hb2); (try clear hk); (try clear hi)))
     (try simp only [Act.put, List.setIfInBounds_toArray, List.set_cons_zero, List.set_cons_succ])
     go_cut [46] (fun v46 wc => ∃ (kq : Nat) (x46_13 : Bool), v46 = .bool x46_13 ∧ Aside0 (laws_normal__Softnet.j1 kq a0 t139 x46_13 = some r) ∧ Aside0 (kq ≤ kj6) ∧ Aside0 (Below w.heap.size w wc))
     case first =>
      have H := HC14.out
      clear HC14
      by_cases c17 : t140 = 1
      ·rw [if_pos c17] at H
       have c17b0 : (t140 == 1) = true := beq_iff_eq.mpr c17
       have c17b1 : (t140 != 1) = false := bne_eq_false_iff_eq.mpr c17
       clear c17
       (first | rw [c17b0] | (simp only [i64_w, i32_w]; rw [c17b0]) | skip)
       have H' := Aside0.mk H
       clear H
       go_wp2
       go_meet
       case rel => exact ⟨_, (decide ((t139.size : Int) > 40000)), (by first | rfl | (simp; done) | (simp [*]; done) | (simp [bne_nil]; done) | (simp [bne_nil, *]; done)), H', ⟨by have := HJ6.out; first | omega | exact Nat.le_refl _⟩, ⟨by repeat (first | (with_reducible first | exact HB.out | apply below_alloc | apply pw_below_drewN | apply below_drew1) | exact HB.out)⟩⟩
      ·rw [if_neg c17] at H
       have c17b0 : (t140 == 1) = false := beq_eq_false_iff_ne.mpr c17
       have c17b1 : (t140 != 1) = true := bne_iff_ne.mpr c17
       (first | rw [c17b0] | (simp only [i64_w, i32_w]; rw [c17b0]) | skip)
       have H' := Aside0.mk H
       clear H
       go_wp2
       go_meet
       case rel => exact ⟨_, (true), (by first | rfl | (simp; done) | (simp [*]; done) | (simp [bne_nil]; done) | (simp [bne_nil, *]; done)), H', ⟨by have := HJ6.out; first | omega | exact Nat.le_refl _⟩, ⟨by repeat (first | (with_reducible first | exact HB.out | apply below_alloc | apply pw_below_drewN | apply below_drew1) | exact HB.out)⟩⟩
     case rest =>
      clear HC14
      try clear c1
      try clear p2
      try clear c3
      try clear c5
      try clear c5b0
      try clear c5b1
      try clear c9
      try clear c9b0
      try clear c9b1
      try clear c10
      try clear c17
      try clear c17b0
      try clear c17b1
      try clear p2
      obtain ⟨kq, x46_13, rfl, HA, HJ13, HB⟩ := hcut
      cases kq with
      | zero => exact absurd HA.out (by simp [laws_normal__Softnet.j1])
      | succ kj13 =>
       have H := HA.out
       clear HA
       simp only [laws_normal__Softnet.j1] at H
       by_cases c18 : x46_13 = true
       ·subst c18
        have H1 : ((laws_lives.f).bind fun t141 => (some t141)) = some r := by rw [if_pos rfl] at H; exact H
        clear H
        have H := H1
        clear H1
        replace H := Option.bind_eq_some_iff.mp H
        obtain ⟨t141, A190, H⟩ := H
        replace H : (some t141) = some r := H
        have A19 := Aside0.mk A190
        clear A190
        obtain rfl := Option.some.inj H
        go_wp2_with (first | ((with_reducible refine gate_callee (f := 36) rfl ?_); refine goesL_ (some 47) rfl rfl Tryz.func36 (by kernel_rfl) rfl #[] rfl (by (try simp only [List.map_toArray, List.map_cons, List.map_nil]); first | done | rfl | (simp only [List.length_drop, List.length_take]; rfl)) ?_; (with_reducible refine (laws_lives.calls  t141 _ A19.out).mono ?_); rintro e w20 ⟨rfl, hb⟩; refine ⟨_, rfl, ?_⟩; have n0_ := Aside0.mk (below_step belH hb); clear HB; have HB := n0_; clear n0_; (try clear hb); (try clear hb2); (try clear hk); (try clear hi)))
        go_ret
        exact ⟨by first | rfl | (simp [errW_none, errW_some] <;> rfl) | (simp [*, errW_none, errW_some] <;> rfl), by repeat (first | (with_reducible first | exact HB.out | apply below_alloc | apply pw_below_drewN | apply below_drew1) | exact HB.out)⟩
       ·replace c18 := Bool.eq_false_iff.mpr c18
        subst c18
        have H1 : ((impl_Softnet.f a0).bind fun bt142 => ((impl_Softnet.f t139).bind fun bt154 => (if bt142.2.2.2.2.2.2.2.2 = 0 then (if bt154.2.2.2.2.2.2.2.2 = 0 then ((laws_toNode.f kj13 bt142.1 bt142.2.1 bt142.2.2.1 bt142.2.2.2.1 bt142.2.2.2.2.1 bt142.2.2.2.2.2.1 bt142.2.2.2.2.2.2.1 bt142.2.2.2.2.2.2.2.1).bind fun bt166 => ((laws_toNode.f kj13 bt154.1 bt154.2.1 bt154.2.2.1 bt154.2.2.2.1 bt154.2.2.2.2.1 bt154.2.2.2.2.2.1 bt154.2.2.2.2.2.2.1 bt154.2.2.2.2.2.2.2.1).bind fun bt176 => ((spec_SameNode.f kj13 bt166.1 bt166.2.1 bt166.2.2.1 bt166.2.2.2.1 bt166.2.2.2.2.1 bt166.2.2.2.2.2.1 bt166.2.2.2.2.2.2.1 bt166.2.2.2.2.2.2.2 bt176.1 bt176.2.1 bt176.2.2.1 bt176.2.2.2.1 bt176.2.2.2.2.1 bt176.2.2.2.2.2.1 bt176.2.2.2.2.2.2.1 bt176.2.2.2.2.2.2.2).bind fun t186 => (if t186 = true then ((laws_lives.f).bind fun t187 => (some t187)) else (none))))) else (none)) else (none)))) = some r := by rw [if_neg (show ¬ (false = true) by decide)] at H; exact H
        clear H
        have H := H1
        clear H1
        replace H := Option.bind_eq_some_iff.mp H
        obtain ⟨⟨t142, t143, t144, t145, t146, t147, t148, t149, t152⟩, A210, H⟩ := H
        replace H : ((impl_Softnet.f t139).bind fun bt154 => (if t152 = 0 then (if bt154.2.2.2.2.2.2.2.2 = 0 then ((laws_toNode.f kj13 t142 t143 t144 t145 t146 t147 t148 t149).bind fun bt166 => ((laws_toNode.f kj13 bt154.1 bt154.2.1 bt154.2.2.1 bt154.2.2.2.1 bt154.2.2.2.2.1 bt154.2.2.2.2.2.1 bt154.2.2.2.2.2.2.1 bt154.2.2.2.2.2.2.2.1).bind fun bt176 => ((spec_SameNode.f kj13 bt166.1 bt166.2.1 bt166.2.2.1 bt166.2.2.2.1 bt166.2.2.2.2.1 bt166.2.2.2.2.2.1 bt166.2.2.2.2.2.2.1 bt166.2.2.2.2.2.2.2 bt176.1 bt176.2.1 bt176.2.2.1 bt176.2.2.2.1 bt176.2.2.2.2.1 bt176.2.2.2.2.2.1 bt176.2.2.2.2.2.2.1 bt176.2.2.2.2.2.2.2).bind fun t186 => (if t186 = true then ((laws_lives.f).bind fun t187 => (some t187)) else (none))))) else (none)) else (none))) = some r := H
        have A21 := Aside0.mk A210
        clear A210
        replace H := Option.bind_eq_some_iff.mp H
        obtain ⟨⟨t154, t155, t156, t157, t158, t159, t160, t161, t164⟩, A220, H⟩ := H
        replace H : (if t152 = 0 then (if t164 = 0 then ((laws_toNode.f kj13 t142 t143 t144 t145 t146 t147 t148 t149).bind fun bt166 => ((laws_toNode.f kj13 t154 t155 t156 t157 t158 t159 t160 t161).bind fun bt176 => ((spec_SameNode.f kj13 bt166.1 bt166.2.1 bt166.2.2.1 bt166.2.2.2.1 bt166.2.2.2.2.1 bt166.2.2.2.2.2.1 bt166.2.2.2.2.2.2.1 bt166.2.2.2.2.2.2.2 bt176.1 bt176.2.1 bt176.2.2.1 bt176.2.2.2.1 bt176.2.2.2.2.1 bt176.2.2.2.2.2.1 bt176.2.2.2.2.2.2.1 bt176.2.2.2.2.2.2.2).bind fun t186 => (if t186 = true then ((laws_lives.f).bind fun t187 => (some t187)) else (none))))) else (none)) else (none)) = some r := H
        have A22 := Aside0.mk A220
        clear A220
        by_cases c23 : t152 = 0
        ·rw [if_pos c23] at H
         have c23b0 : (t152 == 0) = true := beq_iff_eq.mpr c23
         have c23b1 : (t152 != 0) = false := bne_eq_false_iff_eq.mpr c23
         clear c23
         by_cases c24 : t164 = 0
         ·rw [if_pos c24] at H
          have c24b0 : (t164 == 0) = true := beq_iff_eq.mpr c24
          have c24b1 : (t164 != 0) = false := bne_eq_false_iff_eq.mpr c24
          clear c24
          replace H := Option.bind_eq_some_iff.mp H
          obtain ⟨⟨t166, t167, t168, t169, t170, t171, t172, t173⟩, A250, H⟩ := H
          replace H : ((laws_toNode.f kj13 t154 t155 t156 t157 t158 t159 t160 t161).bind fun bt176 => ((spec_SameNode.f kj13 t166 t167 t168 t169 t170 t171 t172 t173 bt176.1 bt176.2.1 bt176.2.2.1 bt176.2.2.2.1 bt176.2.2.2.2.1 bt176.2.2.2.2.2.1 bt176.2.2.2.2.2.2.1 bt176.2.2.2.2.2.2.2).bind fun t186 => (if t186 = true then ((laws_lives.f).bind fun t187 => (some t187)) else (none)))) = some r := H
          have A25 := Aside0.mk A250
          clear A250
          replace H := Option.bind_eq_some_iff.mp H
          obtain ⟨⟨t176, t177, t178, t179, t180, t181, t182, t183⟩, A260, H⟩ := H
          replace H : ((spec_SameNode.f kj13 t166 t167 t168 t169 t170 t171 t172 t173 t176 t177 t178 t179 t180 t181 t182 t183).bind fun t186 => (if t186 = true then ((laws_lives.f).bind fun t187 => (some t187)) else (none))) = some r := H
          have A26 := Aside0.mk A260
          clear A260
          replace H := Option.bind_eq_some_iff.mp H
          obtain ⟨t186, A270, H⟩ := H
          replace H : (if t186 = true then ((laws_lives.f).bind fun t187 => (some t187)) else (none)) = some r := H
          have A27 := Aside0.mk A270
          clear A270
          by_cases c28 : t186 = true
          ·subst c28
           have H1 : ((laws_lives.f).bind fun t187 => (some t187)) = some r := by rw [if_pos rfl] at H; exact H
           clear H
           have H := H1
           clear H1
           replace H := Option.bind_eq_some_iff.mp H
           obtain ⟨t187, A290, H⟩ := H
           replace H : (some t187) = some r := H
           have A29 := Aside0.mk A290
           clear A290
           obtain rfl := Option.some.inj H
           try go_wp2_with (first | (go_at_call 29; (with_reducible refine (impl_Softnet.calls a0 t142 t143 t144 t145 t146 t147 t148 t149 t152 _ A21.out).mono ?_); rintro e w30 ⟨v150, rfl, ho0, hb⟩; have n0_ := Aside0.mk (Kd.R_lower ho0 (below_size belH)); have n1_ := Aside0.mk (below_step belH hb); clear HB; have HO151 := n0_; have HB := n1_; clear n0_ n1_; (try clear hb); (try clear hb2); (try clear hk); (try clear hi); (try clear ho0)) | ((with_reducible refine gate_dst (N := 13) rfl ?_); (try (refine gate_guard (by rfl) ?_; dsimp only)); refine box_event ?hg (N := 13) ?hd (cs := #[.string (⟨#[]⟩ : ByteArray), .int .i64 0, .bool false, .int .i64 0, .int .u64 0, .float .f64 0, .string (⟨#[]⟩ : ByteArray), .slice none 0 0]) (t := 35) ?hr ?_; (case hd => rfl); (case hg => rfl); (case hr => first | (go_simp; done) | (go_simp; rfl)); intro gb153 hg w31 hbox hb; have n0_ := Aside0.mk (Kd.R_below (Kd.R_elderB (by (with_reducible repeat (first | apply Kd.R_alloc | apply Kd.R_drewN | apply Kd.R_drew)); exact HO151.out) gb153 (Nat.le_of_eq hg.symm)) hb); have n1_ := Aside0.mk (below_step belH hb); have n2_ := Aside0.mk (hbox); have n3_ := Aside0.mk ((by rw [hg]; exact (below_size belH) : w.heap.size ≤ gb153)); have n4_ := Aside0.mk ((by rw [hg]; exact (below_size belH) : w.heap.size ≤ gb153)); clear HO151; clear HB; have HO151 := n0_; have HB := n1_; have BK153 := n2_; have GW153 := n3_; have GE153 := n4_; clear n0_ n1_ n2_ n3_ n4_; clear hb hbox hg; have hcz32_0 : w31.cell? ⟨gb153, 0, none⟩ = some (.string (⟨#[]⟩ : ByteArray)) := (blk_cell BK153.out 0).trans rfl; have hcz32_1 : w31.cell? ⟨gb153, 1, none⟩ = some (.int .i64 0) := (blk_cell BK153.out 1).trans rfl; have hcz32_2 : w31.cell? ⟨gb153, 2, none⟩ = some (.bool false) := (blk_cell BK153.out 2).trans rfl; have hcz32_3 : w31.cell? ⟨gb153, 3, none⟩ = some (.int .i64 0) := (blk_cell BK153.out 3).trans rfl; have hcz32_4 : w31.cell? ⟨gb153, 4, none⟩ = some (.int .u64 0) := (blk_cell BK153.out 4).trans rfl; have hcz32_5 : w31.cell? ⟨gb153, 5, none⟩ = some (.float .f64 0) := (blk_cell BK153.out 5).trans rfl; have hcz32_6 : w31.cell? ⟨gb153, 6, none⟩ = some (.string (⟨#[]⟩ : ByteArray)) := (blk_cell BK153.out 6).trans rfl; have hcz32_7 : w31.cell? ⟨gb153, 7, none⟩ = some (.slice none 0 0) := (blk_cell BK153.out 7).trans rfl; have hfz32_0 := blk_frozen BK153.out 0; have hfz32_1 := blk_frozen BK153.out 1; have hfz32_2 := blk_frozen BK153.out 2; have hfz32_3 := blk_frozen BK153.out 3; have hfz32_4 := blk_frozen BK153.out 4; have hfz32_5 := blk_frozen BK153.out 5; have hfz32_6 := blk_frozen BK153.out 6; have hfz32_7 := blk_frozen BK153.out 7; obtain ⟨Ao33, co33, eo33⟩ := Kd.R_slice HO151.out; subst eo33) | (go_at_call 29; (with_reducible refine (impl_Softnet.calls t139 t154 t155 t156 t157 t158 t159 t160 t161 t164 _ A22.out).mono ?_); rintro e w34 ⟨v162, rfl, ho0, hb⟩; have n0_ := Aside0.mk (Kd.R_elder' (by (with_reducible repeat (first | apply Kd.R_alloc | apply Kd.R_drewN | apply Kd.R_drew)); exact (Kd.R_mono (Kd.R_far8 (g := gb153) (Kd.R_mono HO151.out (fun k_ hk => (⟨hk, hk.2⟩ : _ ∧ k_ ≠ gb153))) (fun _ hk => hk.2) (.string t142) (.int .i64 t143) (.bool t144) (.int .i64 t145) (.int .u64 t146) (.float .f64 t147) (.string t148) (.slice Ao33 t149.length co33)) (fun _ h_ => h_.1))) (Kd.R_base ho0) hb); have n1_ := Aside0.mk (Kd.R_lower (Kd.R_newB (Kd.R_new' ho0 (Kd.R_lt (by (with_reducible repeat (first | apply Kd.R_alloc | apply Kd.R_drewN | apply Kd.R_drew)); exact (Kd.R_mono (Kd.R_far8 (g := gb153) (Kd.R_mono HO151.out (fun k_ hk => (⟨hk, hk.2⟩ : _ ∧ k_ ≠ gb153))) (fun _ hk => hk.2) (.string t142) (.int .i64 t143) (.bool t144) (.int .i64 t145) (.int .u64 t146) (.float .f64 t147) (.string t148) (.slice Ao33 t149.length co33)) (fun _ h_ => h_.1))))) (g := gb153) (o := .cells #[.string t142, .int .i64 t143, .bool t144, .int .i64 t145, .int .u64 t146, .float .f64 t147, .string t148, .slice Ao33 t149.length co33] 35 (0, 0)) (by (with_reducible repeat (first | refine bN ?_ _ | refine bW ?_ | refine bA ?_ _)); exact blk_put8 BK153.out)) (below_size belS)); have n2_ := Aside0.mk (blk_below (g := gb153) (o := .cells #[.string t142, .int .i64 t143, .bool t144, .int .i64 t145, .int .u64 t146, .float .f64 t147, .string t148, .slice Ao33 t149.length co33] 35 (0, 0)) (by (with_reducible repeat (first | refine bN ?_ _ | refine bW ?_ | refine bA ?_ _)); exact blk_put8 BK153.out) hb); have n3_ := Aside0.mk (below_step belS hb); clear HO151; clear BK153; clear HB; have HO151 := n0_; have HO163 := n1_; have BK153 := n2_; have HB := n3_; clear n0_ n1_ n2_ n3_; (try clear hb); (try clear hb2); (try clear hk); (try clear hi); (try clear ho0)) | ((with_reducible refine gate_dst (N := 15) rfl ?_); (try (refine gate_guard (by rfl) ?_; dsimp only)); refine box_event ?hg (N := 15) ?hd (cs := #[.string (⟨#[]⟩ : ByteArray), .int .i64 0, .bool false, .int .i64 0, .int .u64 0, .float .f64 0, .string (⟨#[]⟩ : ByteArray), .slice none 0 0]) (t := 35) ?hr ?_; (case hd => rfl); (case hg => rfl); (case hr => first | (go_simp; done) | (go_simp; rfl)); intro gb165 hg w35 hbox hb; have n0_ := Aside0.mk (Kd.R_below (Kd.R_elderB (by (with_reducible repeat (first | apply Kd.R_alloc | apply Kd.R_drewN | apply Kd.R_drew)); exact HO151.out) gb165 (Nat.le_of_eq hg.symm)) hb); have n1_ := Aside0.mk (Kd.R_below (Kd.R_elderB (by (with_reducible repeat (first | apply Kd.R_alloc | apply Kd.R_drewN | apply Kd.R_drew)); exact HO163.out) gb165 (Nat.le_of_eq hg.symm)) hb); have n2_ := Aside0.mk (blk_below (g := gb153) (o := .cells #[.string t142, .int .i64 t143, .bool t144, .int .i64 t145, .int .u64 t146, .float .f64 t147, .string t148, .slice Ao33 t149.length co33] 35 (0, 0)) (by (with_reducible repeat (first | refine bN ?_ _ | refine bW ?_ | refine bA ?_ _)); exact BK153.out) hb); have n3_ := Aside0.mk (below_step belS hb); have n4_ := Aside0.mk (hbox); have n5_ := Aside0.mk ((by rw [hg]; exact (below_size belS) : w.heap.size ≤ gb165)); have n6_ := Aside0.mk ((by rw [hg]; exact (below_size belS) : w.heap.size ≤ gb165)); have n7_ := Aside0.mk ((by rw [hg]; exact Nat.ne_of_lt (blk_lt (g := gb153) (o := .cells #[.string t142, .int .i64 t143, .bool t144, .int .i64 t145, .int .u64 t146, .float .f64 t147, .string t148, .slice Ao33 t149.length co33] 35 (0, 0)) (by (with_reducible repeat (first | refine bN ?_ _ | refine bW ?_ | refine bA ?_ _)); exact BK153.out)) : gb153 ≠ gb165)); have n8_ := Aside0.mk ((by rw [hg]; exact Nat.ne_of_gt (blk_lt (g := gb153) (o := .cells #[.string t142, .int .i64 t143, .bool t144, .int .i64 t145, .int .u64 t146, .float .f64 t147, .string t148, .slice Ao33 t149.length co33] 35 (0, 0)) (by (with_reducible repeat (first | refine bN ?_ _ | refine bW ?_ | refine bA ?_ _)); exact BK153.out)) : gb165 ≠ gb153)); clear HO151; clear HO163; clear BK153; clear HB; have HO151 := n0_; have HO163 := n1_; have BK153 := n2_; have HB := n3_; have BK165 := n4_; have GW165 := n5_; have GE165 := n6_; have NB153_165 := n7_; have NB165_153 := n8_; clear n0_ n1_ n2_ n3_ n4_ n5_ n6_ n7_ n8_; clear hb hbox hg; have hnb36 := NB165_153.out; have hnc36 := NB153_165.out; have hcz37_0 : w35.cell? ⟨gb165, 0, none⟩ = some (.string (⟨#[]⟩ : ByteArray)) := (blk_cell BK165.out 0).trans rfl; have hcz37_1 : w35.cell? ⟨gb165, 1, none⟩ = some (.int .i64 0) := (blk_cell BK165.out 1).trans rfl; have hcz37_2 : w35.cell? ⟨gb165, 2, none⟩ = some (.bool false) := (blk_cell BK165.out 2).trans rfl; have hcz37_3 : w35.cell? ⟨gb165, 3, none⟩ = some (.int .i64 0) := (blk_cell BK165.out 3).trans rfl; have hcz37_4 : w35.cell? ⟨gb165, 4, none⟩ = some (.int .u64 0) := (blk_cell BK165.out 4).trans rfl; have hcz37_5 : w35.cell? ⟨gb165, 5, none⟩ = some (.float .f64 0) := (blk_cell BK165.out 5).trans rfl; have hcz37_6 : w35.cell? ⟨gb165, 6, none⟩ = some (.string (⟨#[]⟩ : ByteArray)) := (blk_cell BK165.out 6).trans rfl; have hcz37_7 : w35.cell? ⟨gb165, 7, none⟩ = some (.slice none 0 0) := (blk_cell BK165.out 7).trans rfl; have hfz37_0 := blk_frozen BK165.out 0; have hfz37_1 := blk_frozen BK165.out 1; have hfz37_2 := blk_frozen BK165.out 2; have hfz37_3 := blk_frozen BK165.out 3; have hfz37_4 := blk_frozen BK165.out 4; have hfz37_5 := blk_frozen BK165.out 5; have hfz37_6 := blk_frozen BK165.out 6; have hfz37_7 := blk_frozen BK165.out 7; obtain ⟨Ao38, co38, eo38⟩ := Kd.R_slice HO163.out; subst eo38))
           have n0_ : Aside0 (Kd.R k35 35 ((((((((w35.setCell ⟨gb165, 0, none⟩ (.string t154)).setCell ⟨gb165, 1, none⟩ (.int .i64 t155)).setCell ⟨gb165, 2, none⟩ (.bool t156)).setCell ⟨gb165, 3, none⟩ (.int .i64 t157)).setCell ⟨gb165, 4, none⟩ (.int .u64 t158)).setCell ⟨gb165, 5, none⟩ (.float .f64 t159)).setCell ⟨gb165, 6, none⟩ (.string t160)).setCell ⟨gb165, 7, none⟩ (.slice Ao38 t161.length co38)) w.heap.size (fun k_ => some k_ ≠ (.slice Ao38 t161.length co38 : Value).ownBlock ∧ k_ ≠ gb153 ∧ k_ ≠ gb165) (.slice Ao33 t149.length co33) t149) := ⟨by (with_reducible repeat (first | apply Kd.R_alloc | apply Kd.R_drewN | apply Kd.R_drew)); exact Kd.R_mono (Kd.R_far8 (g := gb165) (Kd.R_mono HO151.out (fun k_ hk => (⟨hk, hk.2⟩ : _ ∧ k_ ≠ gb165))) (fun _ hk => hk.2) (.string t154) (.int .i64 t155) (.bool t156) (.int .i64 t157) (.int .u64 t158) (.float .f64 t159) (.string t160) (.slice Ao38 t161.length co38)) (fun _ hk => ⟨hk.1.1.2, ⟨hk.1.1.1.2, hk.1.2⟩⟩)⟩
           have n1_ : Aside0 (Kd.R k35 35 ((((((((w35.setCell ⟨gb165, 0, none⟩ (.string t154)).setCell ⟨gb165, 1, none⟩ (.int .i64 t155)).setCell ⟨gb165, 2, none⟩ (.bool t156)).setCell ⟨gb165, 3, none⟩ (.int .i64 t157)).setCell ⟨gb165, 4, none⟩ (.int .u64 t158)).setCell ⟨gb165, 5, none⟩ (.float .f64 t159)).setCell ⟨gb165, 6, none⟩ (.string t160)).setCell ⟨gb165, 7, none⟩ (.slice Ao38 t161.length co38)) w.heap.size (fun k_ => some k_ ≠ (.slice Ao33 t149.length co33 : Value).ownBlock ∧ k_ ≠ gb153 ∧ k_ ≠ gb165) (.slice Ao38 t161.length co38) t161) := ⟨by (with_reducible repeat (first | apply Kd.R_alloc | apply Kd.R_drewN | apply Kd.R_drew)); exact Kd.R_mono (Kd.R_far8 (g := gb165) (Kd.R_mono HO163.out (fun k_ hk => (⟨hk, hk.2⟩ : _ ∧ k_ ≠ gb165))) (fun _ hk => hk.2) (.string t154) (.int .i64 t155) (.bool t156) (.int .i64 t157) (.int .u64 t158) (.float .f64 t159) (.string t160) (.slice Ao38 t161.length co38)) (fun _ hk => ⟨hk.1.1.1.2, ⟨hk.1.1.2, hk.1.2⟩⟩)⟩
           have n2_ : Aside0 (((((((((w35.setCell ⟨gb165, 0, none⟩ (.string t154)).setCell ⟨gb165, 1, none⟩ (.int .i64 t155)).setCell ⟨gb165, 2, none⟩ (.bool t156)).setCell ⟨gb165, 3, none⟩ (.int .i64 t157)).setCell ⟨gb165, 4, none⟩ (.int .u64 t158)).setCell ⟨gb165, 5, none⟩ (.float .f64 t159)).setCell ⟨gb165, 6, none⟩ (.string t160)).setCell ⟨gb165, 7, none⟩ (.slice Ao38 t161.length co38)).heap[gb153]? = some (.cells #[.string t142, .int .i64 t143, .bool t144, .int .i64 t145, .int .u64 t146, .float .f64 t147, .string t148, .slice Ao33 t149.length co33] 35 (0, 0))) := ⟨by (with_reducible repeat (first | refine bN ?_ _ | refine bW ?_ | refine bA ?_ _)); refine blk_far ?_ NB153_165.out _; (with_reducible repeat (first | refine bN ?_ _ | refine bW ?_ | refine bA ?_ _)); refine blk_far ?_ NB153_165.out _; (with_reducible repeat (first | refine bN ?_ _ | refine bW ?_ | refine bA ?_ _)); refine blk_far ?_ NB153_165.out _; (with_reducible repeat (first | refine bN ?_ _ | refine bW ?_ | refine bA ?_ _)); refine blk_far ?_ NB153_165.out _; (with_reducible repeat (first | refine bN ?_ _ | refine bW ?_ | refine bA ?_ _)); refine blk_far ?_ NB153_165.out _; (with_reducible repeat (first | refine bN ?_ _ | refine bW ?_ | refine bA ?_ _)); refine blk_far ?_ NB153_165.out _; (with_reducible repeat (first | refine bN ?_ _ | refine bW ?_ | refine bA ?_ _)); refine blk_far ?_ NB153_165.out _; (with_reducible repeat (first | refine bN ?_ _ | refine bW ?_ | refine bA ?_ _)); refine blk_far ?_ NB153_165.out _; (with_reducible repeat (first | refine bN ?_ _ | refine bW ?_ | refine bA ?_ _)); exact BK153.out⟩
           have n3_ : Aside0 (((((((((w35.setCell ⟨gb165, 0, none⟩ (.string t154)).setCell ⟨gb165, 1, none⟩ (.int .i64 t155)).setCell ⟨gb165, 2, none⟩ (.bool t156)).setCell ⟨gb165, 3, none⟩ (.int .i64 t157)).setCell ⟨gb165, 4, none⟩ (.int .u64 t158)).setCell ⟨gb165, 5, none⟩ (.float .f64 t159)).setCell ⟨gb165, 6, none⟩ (.string t160)).setCell ⟨gb165, 7, none⟩ (.slice Ao38 t161.length co38)).heap[gb165]? = some (.cells #[.string t154, .int .i64 t155, .bool t156, .int .i64 t157, .int .u64 t158, .float .f64 t159, .string t160, .slice Ao38 t161.length co38] 35 (0, 0))) := ⟨by (with_reducible repeat (first | refine bN ?_ _ | refine bW ?_ | refine bA ?_ _)); exact blk_put8 BK165.out⟩
           have n4_ : Aside0 (Below w.heap.size w ((((((((w35.setCell ⟨gb165, 0, none⟩ (.string t154)).setCell ⟨gb165, 1, none⟩ (.int .i64 t155)).setCell ⟨gb165, 2, none⟩ (.bool t156)).setCell ⟨gb165, 3, none⟩ (.int .i64 t157)).setCell ⟨gb165, 4, none⟩ (.int .u64 t158)).setCell ⟨gb165, 5, none⟩ (.float .f64 t159)).setCell ⟨gb165, 6, none⟩ (.string t160)).setCell ⟨gb165, 7, none⟩ (.slice Ao38 t161.length co38))) := ⟨by repeat (first | (with_reducible first | exact HB.out | apply below_alloc | apply pw_below_drewN | apply below_drew1 | refine below_set ?_ GE153.out | refine below_set ?_ GE165.out) | exact HB.out)⟩
           (try clear HO151)
           (try clear HO163)
           (try clear BK153)
           (try clear BK165)
           (try clear HB)
           generalize ((((((((w35.setCell ⟨gb165, 0, none⟩ (.string t154)).setCell ⟨gb165, 1, none⟩ (.int .i64 t155)).setCell ⟨gb165, 2, none⟩ (.bool t156)).setCell ⟨gb165, 3, none⟩ (.int .i64 t157)).setCell ⟨gb165, 4, none⟩ (.int .u64 t158)).setCell ⟨gb165, 5, none⟩ (.float .f64 t159)).setCell ⟨gb165, 6, none⟩ (.string t160)).setCell ⟨gb165, 7, none⟩ (.slice Ao38 t161.length co38)) = w39 at n0_ n1_ n2_ n3_ n4_ ⊢
           have HO151 := n0_
           have HO163 := n1_
           have BK153 := n2_
           have BK165 := n3_
           have HB := n4_
           clear n0_ n1_ n2_ n3_ n4_
           have n0_ := Aside0.mk (Kd.R_drew HO151.out)
           have n1_ := Aside0.mk (Kd.R_drew HO163.out)
           have n2_ := Aside0.mk (blk_drew BK153.out)
           have n3_ := Aside0.mk (blk_drew BK165.out)
           have n4_ := Aside0.mk (below_drew1 HB.out)
           clear HO151
           clear HO163
           clear BK153
           clear BK165
           clear HB
           have HO151 := n0_
           have HO163 := n1_
           have BK153 := n2_
           have BK165 := n3_
           have HB := n4_
           clear n0_ n1_ n2_ n3_ n4_
           refine start_ (n := 17) (S := fun w' => w'.cell? ⟨gb153, 0, none⟩ = some (.string t142) ∧ w'.cell? ⟨gb153, 1, none⟩ = some (.int .i64 t143) ∧ w'.cell? ⟨gb153, 2, none⟩ = some (.bool t144) ∧ w'.cell? ⟨gb153, 3, none⟩ = some (.int .i64 t145) ∧ w'.cell? ⟨gb153, 4, none⟩ = some (.int .u64 t146) ∧ w'.cell? ⟨gb153, 5, none⟩ = some (.float .f64 t147) ∧ w'.cell? ⟨gb153, 6, none⟩ = some (.string t148) ∧ w'.cell? ⟨gb153, 7, none⟩ = some (.slice Ao33 t149.length co33) ∧ w'.cell? ⟨gb165, 0, none⟩ = some (.string t154) ∧ w'.cell? ⟨gb165, 1, none⟩ = some (.int .i64 t155) ∧ w'.cell? ⟨gb165, 2, none⟩ = some (.bool t156) ∧ w'.cell? ⟨gb165, 3, none⟩ = some (.int .i64 t157) ∧ w'.cell? ⟨gb165, 4, none⟩ = some (.int .u64 t158) ∧ w'.cell? ⟨gb165, 5, none⟩ = some (.float .f64 t159) ∧ w'.cell? ⟨gb165, 6, none⟩ = some (.string t160) ∧ w'.cell? ⟨gb165, 7, none⟩ = some (.slice Ao38 t161.length co38)) (ds := []) (tfA 0 17) (by kernel_rfl) rfl rfl ⟨(blk_cell BK153.out 0).trans rfl, (blk_cell BK153.out 1).trans rfl, (blk_cell BK153.out 2).trans rfl, (blk_cell BK153.out 3).trans rfl, (blk_cell BK153.out 4).trans rfl, (blk_cell BK153.out 5).trans rfl, (blk_cell BK153.out 6).trans rfl, (blk_cell BK153.out 7).trans rfl, (blk_cell BK165.out 0).trans rfl, (blk_cell BK165.out 1).trans rfl, (blk_cell BK165.out 2).trans rfl, (blk_cell BK165.out 3).trans rfl, (blk_cell BK165.out 4).trans rfl, (blk_cell BK165.out 5).trans rfl, (blk_cell BK165.out 6).trans rfl, (blk_cell BK165.out 7).trans rfl⟩ (fun hHeld => ?_); refine with_tabW laws_normal__Softnet.tab11 laws_normal__Softnet.bits11 (fun HT_ HW_ => ?_)
           generalize w39.drew = w40 at HO151 HO163 BK153 BK165 HB hHeld ⊢
           refine pure_ (i := 0) (N := some 60) (v := ?_) (a' := ?_) (tfA 1 16) rfl rfl (any_of HT_.out (by kernel_rfl)) (fun _ _ _ h => h) (Or.inl ⟨by rfl, ?_⟩) ?_ ?_
           rotate_left
           ·intro w'
            go_simp
            with_reducible rfl
           rotate_left
           ·simp only [Act.put, sA, s0, s1, i64_w, i32_w]
            rfl
           refine pure_ (i := 1) (N := some 61) (v := ?_) (a' := ?_) (tfA 2 15) rfl rfl (any_of HT_.out (by kernel_rfl)) (fun _ _ _ h => h) (Or.inl ⟨by rfl, ?_⟩) ?_ ?_
           rotate_left
           ·intro w'
            go_simp
            with_reducible rfl
           rotate_left
           ·simp only [Act.put, sA, s0, s1, i64_w, i32_w]
            rfl
           refine pure_ (i := 2) (N := some 62) (v := ?_) (a' := ?_) (tfA 3 14) rfl rfl (any_of HT_.out (by kernel_rfl)) (fun _ _ _ h => h) (Or.inl ⟨by rfl, ?_⟩) ?_ ?_
           rotate_left
           ·intro w'
            go_simp
            with_reducible rfl
           rotate_left
           ·simp only [Act.put, sA, s0, s1, i64_w, i32_w]
            rfl
           refine pure_ (i := 3) (N := some 63) (v := ?_) (a' := ?_) (tfA 4 13) rfl rfl (any_of HT_.out (by kernel_rfl)) (fun _ _ _ h => h) (Or.inl ⟨by rfl, ?_⟩) ?_ ?_
           rotate_left
           ·intro w'
            go_simp
            with_reducible rfl
           rotate_left
           ·simp only [Act.put, sA, s0, s1, i64_w, i32_w]
            rfl
           refine pure_ (i := 4) (N := some 64) (v := ?_) (a' := ?_) (tfA 5 12) rfl rfl (any_of HT_.out (by kernel_rfl)) (fun _ _ _ h => h) (Or.inl ⟨by rfl, ?_⟩) ?_ ?_
           rotate_left
           ·intro w'
            go_simp
            with_reducible rfl
           rotate_left
           ·simp only [Act.put, sA, s0, s1, i64_w, i32_w]
            rfl
           refine pure_ (i := 5) (N := some 65) (v := ?_) (a' := ?_) (tfA 6 11) rfl rfl (any_of HT_.out (by kernel_rfl)) (fun _ _ _ h => h) (Or.inl ⟨by rfl, ?_⟩) ?_ ?_
           rotate_left
           ·intro w'
            go_simp
            with_reducible rfl
           rotate_left
           ·simp only [Act.put, sA, s0, s1, i64_w, i32_w]
            rfl
           refine pure_ (i := 6) (N := some 66) (v := ?_) (a' := ?_) (tfA 7 10) rfl rfl (any_of HT_.out (by kernel_rfl)) (fun _ _ _ h => h) (Or.inl ⟨by rfl, ?_⟩) ?_ ?_
           rotate_left
           ·intro w'
            go_simp
            with_reducible rfl
           rotate_left
           ·simp only [Act.put, sA, s0, s1, i64_w, i32_w]
            rfl
           refine take_ (i := 7) (N := some 67) (v := ?_) (a' := ?_) (tfA 8 9) rfl rfl (take_ofW HT_.out HW_.out (by kernel_rfl)) (fun _ _ _ h => h) (Or.inl ⟨by rfl, ?_⟩) hHeld ?_ ?_
           rotate_left
           ·rintro w' ⟨s0, s1, s2, s3, s4, s5, s6, s7, s8, s9, s10, s11, s12, s13, s14, s15⟩
            go_simp
            with_reducible rfl
           rotate_left
           ·simp only [Act.put, sA, s0, s1, i64_w, i32_w]
            rfl
           refine take_ (i := 9) (N := some 69) (v := ?_) (a' := ?_) (bnA 17 767) rfl rfl (take_ofW HT_.out HW_.out (by kernel_rfl)) (fun _ _ _ h => h) (Or.inl ⟨by rfl, ?_⟩) hHeld ?_ ?_
           rotate_left
           ·rintro w' ⟨s0, s1, s2, s3, s4, s5, s6, s7, s8, s9, s10, s11, s12, s13, s14, s15⟩
            go_simp
            with_reducible rfl
           rotate_left
           ·simp only [Act.put, sA, s0, s1, i64_w, i32_w]
            rfl
           refine one_ (i := 8) (N := some 68) (tfA 10 7) rfl rfl (one_of HT_.out (by kernel_rfl)) (by decide) (fun K hK => ?_)
           refine goes_ Tryz.func38 (by kernel_rfl) rfl #[.agg #[.string t142, .int .i64 t143, .bool t144, .int .i64 t145, .int .u64 t146, .float .f64 t147, .string t148, .slice Ao33 t149.length co33]] (by rfl) rfl rfl (by (try simp only [List.map_toArray, List.map_cons, List.map_nil]); first | done | rfl | (simp only [List.length_drop, List.length_take]; rfl)) ?_
           with_reducible refine (laws_toNode.calls kj13 t142 t143 t144 t145 t146 t147 t148 _ _ t149 t166 t167 t168 t169 t170 t171 t172 t173 _ ?side1 ?side2 A25.out).mono ?_
           (case side1 => repeat (first | exact (Kd.R_reads' HO151.out).2.2 | (with_reducible refine Kd.C_alloc ?_ _) | (with_reducible refine Kd.C_drewN ?_ _) | (with_reducible refine Kd.C_drew ?_)))
           (case side2 => exact (Kd.R_reads' HO151.out).2.1)
           rintro e w41 ⟨v174, rfl, ho0, hb⟩
           refine ⟨_, rfl, ?_⟩
           have n0_ := Aside0.mk (Kd.R_below (by (with_reducible repeat (first | apply Kd.R_alloc | apply Kd.R_drewN | apply Kd.R_drew)); exact HO151.out) hb)
           have n1_ := Aside0.mk (Kd.R_below (by (with_reducible repeat (first | apply Kd.R_alloc | apply Kd.R_drewN | apply Kd.R_drew)); exact HO163.out) hb)
           have n2_ := Aside0.mk (Kd.R_lower ho0 (below_size belS))
           have n3_ := Aside0.mk (blk_below (g := gb153) (o := .cells #[.string t142, .int .i64 t143, .bool t144, .int .i64 t145, .int .u64 t146, .float .f64 t147, .string t148, .slice Ao33 t149.length co33] 35 (0, 0)) (by (with_reducible repeat (first | refine bN ?_ _ | refine bW ?_ | refine bA ?_ _)); exact BK153.out) hb)
           have n4_ := Aside0.mk (blk_below (g := gb165) (o := .cells #[.string t154, .int .i64 t155, .bool t156, .int .i64 t157, .int .u64 t158, .float .f64 t159, .string t160, .slice Ao38 t161.length co38] 35 (0, 0)) (by (with_reducible repeat (first | refine bN ?_ _ | refine bW ?_ | refine bA ?_ _)); exact BK165.out) hb)
           have n5_ := Aside0.mk (below_step belS hb)
           clear HO151
           clear HO163
           clear BK153
           clear BK165
           clear HB
           have HO151 := n0_
           have HO163 := n1_
           have HO175 := n2_
           have BK153 := n3_
           have BK165 := n4_
           have HB := n5_
           clear n0_ n1_ n2_ n3_ n4_ n5_
           (try clear hb)
           (try clear hb2)
           (try clear hk)
           (try clear hi)
           (try clear ho0)
           refine hK.out _ _ ⟨(blk_cell BK153.out 0).trans rfl, (blk_cell BK153.out 1).trans rfl, (blk_cell BK153.out 2).trans rfl, (blk_cell BK153.out 3).trans rfl, (blk_cell BK153.out 4).trans rfl, (blk_cell BK153.out 5).trans rfl, (blk_cell BK153.out 6).trans rfl, (blk_cell BK153.out 7).trans rfl, (blk_cell BK165.out 0).trans rfl, (blk_cell BK165.out 1).trans rfl, (blk_cell BK165.out 2).trans rfl, (blk_cell BK165.out 3).trans rfl, (blk_cell BK165.out 4).trans rfl, (blk_cell BK165.out 5).trans rfl, (blk_cell BK165.out 6).trans rfl, (blk_cell BK165.out 7).trans rfl⟩ (fun hHeld => ?_)
           clear hK K
           refine norm_ (a' := ?_) ?_ ?_
           rotate_left
           ·show Act.put _ (some 68) _ = _
            simp only [Act.put, sA, s0, s1, i64_w, i32_w]
            rfl
           refine one_ (i := 10) (N := some 70) (tfA 11 6) rfl rfl (one_of HT_.out (by kernel_rfl)) (by decide) (fun K hK => ?_)
           refine goes_ Tryz.func38 (by kernel_rfl) rfl #[.agg #[.string t154, .int .i64 t155, .bool t156, .int .i64 t157, .int .u64 t158, .float .f64 t159, .string t160, .slice Ao38 t161.length co38]] (by rfl) rfl rfl (by (try simp only [List.map_toArray, List.map_cons, List.map_nil]); first | done | rfl | (simp only [List.length_drop, List.length_take]; rfl)) ?_
           with_reducible refine (laws_toNode.calls kj13 t154 t155 t156 t157 t158 t159 t160 _ _ t161 t176 t177 t178 t179 t180 t181 t182 t183 _ ?side1 ?side2 A26.out).mono ?_
           (case side1 => repeat (first | exact (Kd.R_reads' HO163.out).2.2 | (with_reducible refine Kd.C_alloc ?_ _) | (with_reducible refine Kd.C_drewN ?_ _) | (with_reducible refine Kd.C_drew ?_)))
           (case side2 => exact (Kd.R_reads' HO163.out).2.1)
           rintro e w42 ⟨v184, rfl, ho0, hb⟩
           refine ⟨_, rfl, ?_⟩
           have n0_ := Aside0.mk (Kd.R_below (by (with_reducible repeat (first | apply Kd.R_alloc | apply Kd.R_drewN | apply Kd.R_drew)); exact HO151.out) hb)
           have n1_ := Aside0.mk (Kd.R_below (by (with_reducible repeat (first | apply Kd.R_alloc | apply Kd.R_drewN | apply Kd.R_drew)); exact HO163.out) hb)
           have n2_ := Aside0.mk (Kd.R_elder' (by (with_reducible repeat (first | apply Kd.R_alloc | apply Kd.R_drewN | apply Kd.R_drew)); exact HO175.out) (Kd.R_base ho0) hb)
           have n3_ := Aside0.mk (Kd.R_lower (Kd.R_new' ho0 (Kd.R_lt (by (with_reducible repeat (first | apply Kd.R_alloc | apply Kd.R_drewN | apply Kd.R_drew)); exact HO175.out))) (below_size belS))
           have n4_ := Aside0.mk (blk_below (g := gb153) (o := .cells #[.string t142, .int .i64 t143, .bool t144, .int .i64 t145, .int .u64 t146, .float .f64 t147, .string t148, .slice Ao33 t149.length co33] 35 (0, 0)) (by (with_reducible repeat (first | refine bN ?_ _ | refine bW ?_ | refine bA ?_ _)); exact BK153.out) hb)
           have n5_ := Aside0.mk (blk_below (g := gb165) (o := .cells #[.string t154, .int .i64 t155, .bool t156, .int .i64 t157, .int .u64 t158, .float .f64 t159, .string t160, .slice Ao38 t161.length co38] 35 (0, 0)) (by (with_reducible repeat (first | refine bN ?_ _ | refine bW ?_ | refine bA ?_ _)); exact BK165.out) hb)
           have n6_ := Aside0.mk (below_step belS hb)
           clear HO151
           clear HO163
           clear HO175
           clear BK153
           clear BK165
           clear HB
           have HO151 := n0_
           have HO163 := n1_
           have HO175 := n2_
           have HO185 := n3_
           have BK153 := n4_
           have BK165 := n5_
           have HB := n6_
           clear n0_ n1_ n2_ n3_ n4_ n5_ n6_
           (try clear hb)
           (try clear hb2)
           (try clear hk)
           (try clear hi)
           (try clear ho0)
           obtain ⟨Ao43, co43, eo43⟩ := Kd.R_slice HO175.out
           (first | subst eo43 | (injection eo43 with f1_ f2_ f3_; have f4_ := f1_.symm; have f5_ := f3_.symm; clear f1_ f2_ f3_; subst f4_; subst f5_))
           obtain ⟨Ao44, co44, eo44⟩ := Kd.R_slice HO185.out
           (first | subst eo44 | (injection eo44 with f1_ f2_ f3_; have f4_ := f1_.symm; have f5_ := f3_.symm; clear f1_ f2_ f3_; subst f4_; subst f5_))
           refine hK.out _ _ ⟨(blk_cell BK153.out 0).trans rfl, (blk_cell BK153.out 1).trans rfl, (blk_cell BK153.out 2).trans rfl, (blk_cell BK153.out 3).trans rfl, (blk_cell BK153.out 4).trans rfl, (blk_cell BK153.out 5).trans rfl, (blk_cell BK153.out 6).trans rfl, (blk_cell BK153.out 7).trans rfl, (blk_cell BK165.out 0).trans rfl, (blk_cell BK165.out 1).trans rfl, (blk_cell BK165.out 2).trans rfl, (blk_cell BK165.out 3).trans rfl, (blk_cell BK165.out 4).trans rfl, (blk_cell BK165.out 5).trans rfl, (blk_cell BK165.out 6).trans rfl, (blk_cell BK165.out 7).trans rfl⟩ (fun hHeld => ?_)
           clear hK K
           refine norm_ (a' := ?_) ?_ ?_
           rotate_left
           ·show Act.put _ (some 70) _ = _
            simp only [Act.put, sA, s0, s1, i64_w, i32_w]
            rfl
           refine one_ (i := 11) (N := some 71) (tfA 12 5) rfl rfl (one_of HT_.out (by kernel_rfl)) (by decide) (fun K hK => ?_)
           refine goes_ Tryz.func37 (by kernel_rfl) rfl #[.agg #[.string t166, .int .i64 t167, .bool t168, .int .i64 t169, .int .u64 t170, .float .f64 t171, .string t172, .slice Ao43 t173.length co43], .agg #[.string t176, .int .i64 t177, .bool t178, .int .i64 t179, .int .u64 t180, .float .f64 t181, .string t182, .slice Ao44 t183.length co44]] (by rfl) rfl rfl (by (try simp only [List.map_toArray, List.map_cons, List.map_nil]); first | done | rfl | (simp only [List.length_drop, List.length_take]; rfl)) ?_
           with_reducible refine (spec_SameNode.calls kj13 t166 t167 t168 t169 t170 t171 t172 _ _ t173 t176 t177 t178 t179 t180 t181 t182 _ _ t183 true _ ?side1 ?side2 ?side3 ?side4 A27.out).mono ?_
           (case side1 => repeat (first | exact (Kd.R_reads' HO175.out).2.2 | (with_reducible refine Kd.C_alloc ?_ _) | (with_reducible refine Kd.C_drewN ?_ _) | (with_reducible refine Kd.C_drew ?_)))
           (case side2 => exact (Kd.R_reads' HO175.out).2.1)
           (case side3 => repeat (first | exact (Kd.R_reads' HO185.out).2.2 | (with_reducible refine Kd.C_alloc ?_ _) | (with_reducible refine Kd.C_drewN ?_ _) | (with_reducible refine Kd.C_drew ?_)))
           (case side4 => exact (Kd.R_reads' HO185.out).2.1)
           rintro e w45 ⟨rfl, hb⟩
           refine ⟨_, rfl, ?_⟩
           have n0_ := Aside0.mk (Kd.R_below (by (with_reducible repeat (first | apply Kd.R_alloc | apply Kd.R_drewN | apply Kd.R_drew)); exact HO151.out) hb)
           have n1_ := Aside0.mk (Kd.R_below (by (with_reducible repeat (first | apply Kd.R_alloc | apply Kd.R_drewN | apply Kd.R_drew)); exact HO163.out) hb)
           have n2_ := Aside0.mk (Kd.R_below (by (with_reducible repeat (first | apply Kd.R_alloc | apply Kd.R_drewN | apply Kd.R_drew)); exact HO175.out) hb)
           have n3_ := Aside0.mk (Kd.R_below (by (with_reducible repeat (first | apply Kd.R_alloc | apply Kd.R_drewN | apply Kd.R_drew)); exact HO185.out) hb)
           have n4_ := Aside0.mk (blk_below (g := gb153) (o := .cells #[.string t142, .int .i64 t143, .bool t144, .int .i64 t145, .int .u64 t146, .float .f64 t147, .string t148, .slice Ao33 t149.length co33] 35 (0, 0)) (by (with_reducible repeat (first | refine bN ?_ _ | refine bW ?_ | refine bA ?_ _)); exact BK153.out) hb)
           have n5_ := Aside0.mk (blk_below (g := gb165) (o := .cells #[.string t154, .int .i64 t155, .bool t156, .int .i64 t157, .int .u64 t158, .float .f64 t159, .string t160, .slice Ao38 t161.length co38] 35 (0, 0)) (by (with_reducible repeat (first | refine bN ?_ _ | refine bW ?_ | refine bA ?_ _)); exact BK165.out) hb)
           have n6_ := Aside0.mk (below_step belS hb)
           clear HO151
           clear HO163
           clear HO175
           clear HO185
           clear BK153
           clear BK165
           clear HB
           have HO151 := n0_
           have HO163 := n1_
           have HO175 := n2_
           have HO185 := n3_
           have BK153 := n4_
           have BK165 := n5_
           have HB := n6_
           clear n0_ n1_ n2_ n3_ n4_ n5_ n6_
           (try clear hb)
           (try clear hb2)
           (try clear hk)
           (try clear hi)
           refine hK.out _ _ ⟨(blk_cell BK153.out 0).trans rfl, (blk_cell BK153.out 1).trans rfl, (blk_cell BK153.out 2).trans rfl, (blk_cell BK153.out 3).trans rfl, (blk_cell BK153.out 4).trans rfl, (blk_cell BK153.out 5).trans rfl, (blk_cell BK153.out 6).trans rfl, (blk_cell BK153.out 7).trans rfl, (blk_cell BK165.out 0).trans rfl, (blk_cell BK165.out 1).trans rfl, (blk_cell BK165.out 2).trans rfl, (blk_cell BK165.out 3).trans rfl, (blk_cell BK165.out 4).trans rfl, (blk_cell BK165.out 5).trans rfl, (blk_cell BK165.out 6).trans rfl, (blk_cell BK165.out 7).trans rfl⟩ (fun hHeld => ?_)
           clear hK K
           refine norm_ (a' := ?_) ?_ ?_
           rotate_left
           ·show Act.put _ (some 71) _ = _
            simp only [Act.put, sA, s0, s1, i64_w, i32_w]
            rfl
           refine pure_ (i := 12) (N := some 72) (v := ?_) (a' := ?_) (tfA 13 4) rfl rfl (any_of HT_.out (by kernel_rfl)) (fun _ _ _ h => h) (Or.inl ⟨by rfl, ?_⟩) ?_ ?_
           rotate_left
           ·intro w'
            go_simp
            with_reducible rfl
           rotate_left
           ·simp only [Act.put, sA, s0, s1, i64_w, i32_w]
            rfl
           refine pure_ (i := 13) (N := some 73) (v := ?_) (a' := ?_) (tfA 14 3) rfl rfl (any_of HT_.out (by kernel_rfl)) (fun _ _ _ h => h) (Or.inl ⟨by rfl, ?_⟩) ?_ ?_
           rotate_left
           ·intro w'
            go_simp
            with_reducible rfl
           rotate_left
           ·simp only [Act.put, sA, s0, s1, i64_w, i32_w]
            rfl
           refine one_ (i := 14) (N := some 74) (tfA 15 2) rfl rfl (one_of HT_.out (by kernel_rfl)) (by decide) (fun K hK => ?_)
           refine goes_ Tryz.func36 (by kernel_rfl) rfl #[] (by rfl) rfl rfl (by (try simp only [List.map_toArray, List.map_cons, List.map_nil]); first | done | rfl | (simp only [List.length_drop, List.length_take]; rfl)) ?_
           with_reducible refine (laws_lives.calls  t187 _ A29.out).mono ?_
           rintro e w46 ⟨rfl, hb⟩
           refine ⟨_, rfl, ?_⟩
           have n0_ := Aside0.mk (Kd.R_below (by (with_reducible repeat (first | apply Kd.R_alloc | apply Kd.R_drewN | apply Kd.R_drew)); exact HO151.out) hb)
           have n1_ := Aside0.mk (Kd.R_below (by (with_reducible repeat (first | apply Kd.R_alloc | apply Kd.R_drewN | apply Kd.R_drew)); exact HO163.out) hb)
           have n2_ := Aside0.mk (Kd.R_below (by (with_reducible repeat (first | apply Kd.R_alloc | apply Kd.R_drewN | apply Kd.R_drew)); exact HO175.out) hb)
           have n3_ := Aside0.mk (Kd.R_below (by (with_reducible repeat (first | apply Kd.R_alloc | apply Kd.R_drewN | apply Kd.R_drew)); exact HO185.out) hb)
           have n4_ := Aside0.mk (blk_below (g := gb153) (o := .cells #[.string t142, .int .i64 t143, .bool t144, .int .i64 t145, .int .u64 t146, .float .f64 t147, .string t148, .slice Ao33 t149.length co33] 35 (0, 0)) (by (with_reducible repeat (first | refine bN ?_ _ | refine bW ?_ | refine bA ?_ _)); exact BK153.out) hb)
           have n5_ := Aside0.mk (blk_below (g := gb165) (o := .cells #[.string t154, .int .i64 t155, .bool t156, .int .i64 t157, .int .u64 t158, .float .f64 t159, .string t160, .slice Ao38 t161.length co38] 35 (0, 0)) (by (with_reducible repeat (first | refine bN ?_ _ | refine bW ?_ | refine bA ?_ _)); exact BK165.out) hb)
           have n6_ := Aside0.mk (below_step belS hb)
           clear HO151
           clear HO163
           clear HO175
           clear HO185
           clear BK153
           clear BK165
           clear HB
           have HO151 := n0_
           have HO163 := n1_
           have HO175 := n2_
           have HO185 := n3_
           have BK153 := n4_
           have BK165 := n5_
           have HB := n6_
           clear n0_ n1_ n2_ n3_ n4_ n5_ n6_
           (try clear hb)
           (try clear hb2)
           (try clear hk)
           (try clear hi)
           refine hK.out _ _ ⟨(blk_cell BK153.out 0).trans rfl, (blk_cell BK153.out 1).trans rfl, (blk_cell BK153.out 2).trans rfl, (blk_cell BK153.out 3).trans rfl, (blk_cell BK153.out 4).trans rfl, (blk_cell BK153.out 5).trans rfl, (blk_cell BK153.out 6).trans rfl, (blk_cell BK153.out 7).trans rfl, (blk_cell BK165.out 0).trans rfl, (blk_cell BK165.out 1).trans rfl, (blk_cell BK165.out 2).trans rfl, (blk_cell BK165.out 3).trans rfl, (blk_cell BK165.out 4).trans rfl, (blk_cell BK165.out 5).trans rfl, (blk_cell BK165.out 6).trans rfl, (blk_cell BK165.out 7).trans rfl⟩ (fun hHeld => ?_)
           clear hK K
           refine norm_ (a' := ?_) ?_ ?_
           rotate_left
           ·show Act.put _ (some 74) _ = _
            simp only [Act.put, sA, s0, s1, i64_w, i32_w]
            rfl
           refine pure_ (i := 15) (N := some 75) (v := ?_) (a' := ?_) (tfA 16 1) rfl rfl (any_of HT_.out (by kernel_rfl)) (fun _ _ _ h => h) (Or.inl ⟨by rfl, ?_⟩) ?_ ?_
           rotate_left
           ·intro w'
            go_simp
            with_reducible rfl
           rotate_left
           ·simp only [Act.put, sA, s0, s1, i64_w, i32_w]
            rfl
           refine pure_ (i := 16) (N := some 8) (v := ?_) (a' := ?_) (tfA 17 0) rfl rfl (any_of HT_.out (by kernel_rfl)) (fun _ _ _ h => h) (Or.inl ⟨by rfl, ?_⟩) ?_ ?_
           rotate_left
           ·intro w'
            go_simp
            with_reducible rfl
           rotate_left
           ·simp only [Act.put, sA, s0, s1, i64_w, i32_w]
            rfl
           refine done_ (done_of HT_.out (by kernel_rfl)) ?_
           try go_wp2
           go_ret
           exact ⟨by first | rfl | (simp [errW_none, errW_some] <;> rfl) | (simp [*, errW_none, errW_some] <;> rfl), by repeat (first | (with_reducible first | exact HB.out | apply below_alloc | apply pw_below_drewN | apply below_drew1 | refine below_set ?_ GE153.out | refine below_set ?_ GE165.out) | exact HB.out)⟩
          ·replace c28 := Bool.eq_false_iff.mpr c28
           subst c28
           have H1 : (none) = some r := by rw [if_neg (show ¬ (false = true) by decide)] at H; exact H
           clear H
           have H := H1
           clear H1
           exact absurd H (by simp)
         ·rw [if_neg c24] at H
          exact absurd H (by simp)
        ·rw [if_neg c23] at H
         exact absurd H (by simp)

/-! ### laws_FnSoftnetNormal: function 8 -/
def laws_FnSoftnetNormal.f (k : Nat) (a0 : ByteArray) : Option (Bool) := if (a0.size : Int) > 2147483647 then (some true) else ((laws_normal__Softnet.f k a0).bind fun t188 => (some t188))
theorem laws_FnSoftnetNormal.mono : ∀ a0 k, LeO (laws_FnSoftnetNormal.f k a0) (laws_FnSoftnetNormal.f (k + 1) a0) := by
 intro a0 k
 unfold laws_FnSoftnetNormal.f
 repeat' first
   | (with_reducible exact laws_normal__Softnet.mono _ _)
   | (with_reducible exact LeO.refl _)
   | (with_reducible exact LeO.none _)
   | (with_reducible refine LeO.ite ?_ ?_)
   | (with_reducible refine LeO.bind ?_ (fun _ => ?_))
   | exact laws_normal__Softnet.mono _ _
   | exact LeO.none _
   | refine LeO.ite ?_ ?_
   | refine LeO.bind ?_ (fun _ => ?_)
set_option maxHeartbeats 8000000 in
set_option maxRecDepth 100000 in
theorem laws_FnSoftnetNormal.calls (k : Nat) (a0 : ByteArray) (r : Bool) (w : World) (h : laws_FnSoftnetNormal.f k a0 = some r) (hTabs : Tabs w := by first | exact hTabs | exact Tabs.below hTabs (by repeat (first | (with_reducible first | exact HB.out | apply below_alloc | apply pw_below_drewN | apply below_drew1 | refine below_set ?_ (Aside0.out (by assumption))) | exact HB.out))) :
  Calls Tryz.prog 8 #[.string a0] w fun e w' => e = .returned (.bool r) ∧ Below w.heap.size w w' := by
 have HB := Aside0.mk (Below.refl w.heap.size w)
 have H : (if (a0.size : Int) > 2147483647 then (some true) else ((laws_normal__Softnet.f k a0).bind fun t188 => (some t188))) = some r := h
 clear h
 by_cases c2 : (a0.size : Int) > 2147483647
 ·rw [if_pos c2] at H
  have c2b0 : decide (2147483647 < (a0.size : Int)) = true := decide_eq_true c2
  have c2b1 : decide (2147483647 < a0.size) = true := decide_eq_true (by omega)
  clear c2
  obtain rfl := Option.some.inj H
  go_enter Tryz.func8, Tryz.ntmps8
  go_wp2
  go_ret
  exact ⟨by first | rfl | (simp [errW_none, errW_some] <;> rfl) | (simp [*, errW_none, errW_some] <;> rfl), by repeat (first | (with_reducible first | exact HB.out | apply below_alloc | apply pw_below_drewN | apply below_drew1) | exact HB.out)⟩
 ·rw [if_neg c2] at H
  have c2b0 : decide (2147483647 < (a0.size : Int)) = false := decide_eq_false c2
  have c2b1 : decide (2147483647 < a0.size) = false := decide_eq_false (by omega)
  clear c2
  replace H := Option.bind_eq_some_iff.mp H
  obtain ⟨t188, A30, H⟩ := H
  replace H : (some t188) = some r := H
  have A3 := Aside0.mk A30
  clear A30
  obtain rfl := Option.some.inj H
  go_enter Tryz.func8, Tryz.ntmps8
  go_wp2_with (first | ((with_reducible refine gate_callee (f := 11) rfl ?_); refine goesL_ (some 7) rfl rfl Tryz.func11 (by kernel_rfl) rfl #[.string a0, .func (.func 27) #[] #[], .func (.func 28) #[] #[], .func (.func 29) #[] #[]] rfl (by (try simp only [List.map_toArray, List.map_cons, List.map_nil]); first | done | rfl | (simp only [List.length_drop, List.length_take]; rfl)) ?_; (with_reducible refine (laws_normal__Softnet.calls k a0    t188 _ A3.out).mono ?_); rintro e w4 ⟨rfl, hb⟩; refine ⟨_, rfl, ?_⟩; have n0_ := Aside0.mk (below_step belH hb); clear HB; have HB := n0_; clear n0_; (try clear hb); (try clear hb2); (try clear hk); (try clear hi)))
  go_ret
  exact ⟨by first | rfl | (simp [errW_none, errW_some] <;> rfl) | (simp [*, errW_none, errW_some] <;> rfl), by repeat (first | (with_reducible first | exact HB.out | apply below_alloc | apply pw_below_drewN | apply below_drew1) | exact HB.out)⟩

/-- THE ONE PURE STATEMENT of laws_FnSoftnetNormal: yours. -/
def laws_FnSoftnetNormal.Pure : Prop := ∀ (a0 : ByteArray), a0.size ≤ 140737488351232 → ∃ k, laws_FnSoftnetNormal.f k a0 = some true
theorem laws_FnSoftnetNormal.walk (P : laws_FnSoftnetNormal.Pure) (a0 : ByteArray) (w : World) (w0 : a0.size ≤ 140737488351232) (hTabs : Tabs w := by first | exact hTabs | exact Tabs.below hTabs (by repeat (first | (with_reducible first | exact HB.out | apply below_alloc | apply pw_below_drewN | apply below_drew1 | refine below_set ?_ (Aside0.out (by assumption))) | exact HB.out))) :
  Calls Tryz.prog 8 #[.string a0] w fun e w' => e = .returned (.bool true) ∧ Below w.heap.size w w' := by
 obtain ⟨k, h⟩ := P a0 w0
 refine (laws_FnSoftnetNormal.calls k a0 true w h).mono ?_
 rintro e w' ⟨rfl, hd⟩
 exact ⟨rfl, hd⟩

end Go.Proofs.YtdmpbaanonafbaaGreatDoor.N
