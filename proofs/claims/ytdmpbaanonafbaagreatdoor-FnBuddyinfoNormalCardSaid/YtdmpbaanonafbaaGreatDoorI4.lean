import Derived.Test.YtdmpbaanonafbaaGreatDoorI1
import Derived.Test.YtdmpbaanonafbaaGreatDoorI2
-- written by a program of this session (wip/tools/pp.py)
namespace Go.Proofs.YtdmpbaanonafbaaGreatDoor.I
open Go.RowKit Go.Proofs.YtdmpbaanonafbaaGreatDoorW.PrintWords Go.Proofs.YtdmpbaanonafbaaGreatDoorW.PrintLast Go.Proofs.YtdmpbaanonafbaaGreatDoor.Flt Go.Proofs.YtdmpbaanonafbaaGreatDoor.GivZ Go.Proofs.YtdmpbaanonafbaaGreatDoor.E Go.Proofs.YtdmpbaanonafbaaGreatDoor.L Go.Proofs.YtdmpbaanonafbaaGreatDoor.V Go.Proofs.YtdmpbaanonafbaaGreatDoor.DoorBd Go.Proofs.YtdmpbaanonafbaaGreatDoor.Lives Go.Proofs.YtdmpbaanonafbaaGreatDoor.R Go.Proofs.YtdmpbaanonafbaaGreatDoorW.PrintMore
attribute [local go_sem] max2_int min2_int max_two min_two max_three min_three max_four min_four   -- for this text's walks alone
set_option linter.unusedVariables false
set_option linter.unusedSimpArgs false

/-! ### spec_Ends: function 56 -/
def spec_Ends.f (a0 : ByteArray) (a1 : ByteArray) : Option (Bool) := if (a0.size : Int) ≥ (a1.size : Int) then (if 0 ≤ (wrap64 ((a0.size : Int) - (a1.size : Int))) then (if (wrap64 ((a0.size : Int) - (a1.size : Int))) ≤ (a0.size : Int) then (some ((a0.extract ((wrap64 ((a0.size : Int) - (a1.size : Int))) : Int).toNat a0.size).toList == a1.toList)) else (none)) else (none)) else (some false)
set_option maxHeartbeats 8000000 in
set_option maxRecDepth 100000 in
theorem spec_Ends.calls (a0 : ByteArray) (a1 : ByteArray) (r : Bool) (w : World) (h : spec_Ends.f a0 a1 = some r) :
  Calls Tryz.prog 56 #[.string a0, .string a1] w fun e w' => e = .returned (.bool r) ∧ Drawn0 w w' := by
 have H : (if (a0.size : Int) ≥ (a1.size : Int) then (if 0 ≤ (wrap64 ((a0.size : Int) - (a1.size : Int))) then (if (wrap64 ((a0.size : Int) - (a1.size : Int))) ≤ (a0.size : Int) then (some ((a0.extract ((wrap64 ((a0.size : Int) - (a1.size : Int))) : Int).toNat a0.size).toList == a1.toList)) else (none)) else (none)) else (some false)) = some r := h
 clear h
 by_cases c3 : (a0.size : Int) ≥ (a1.size : Int)
 ·rw [if_pos c3] at H
  have c3b0 : decide ((a1.size : Int) ≤ (a0.size : Int)) = true := decide_eq_true c3
  have c3b1 : decide (a1.size ≤ a0.size) = true := decide_eq_true (Int.ofNat_le.mp c3)
  clear c3
  obtain ⟨ji4, hji4⟩ : ∃ j_ : Int, (wrap64 ((a0.size : Int) - (a1.size : Int))) = j_ := ⟨_, rfl⟩
  replace H : (if 0 ≤ (ji4) then (if (ji4) ≤ (a0.size : Int) then (some ((a0.extract ((ji4) : Int).toNat a0.size).toList == a1.toList)) else (none)) else (none)) = some r := by first | (rw [hji4] at H; exact H) | (simp only [hji4] at H ⊢; exact H)
  have hji4w : (IntKind.i64.wrap ((a0.size : Int) - (a1.size : Int))) = ji4 := (i64_w _).trans hji4
  by_cases c5 : 0 ≤ (ji4)
  ·rw [if_pos c5] at H
   have c5b0 := eq_true c5
   have c5b1 : decide (0 ≤ (ji4)) = true := decide_eq_true c5
   clear c5
   by_cases c6 : (ji4) ≤ (a0.size : Int)
   ·rw [if_pos c6] at H
    have c6b0 := eq_true c6
    have c6b1 : decide ((ji4) ≤ (a0.size : Int)) = true := decide_eq_true c6
    clear c6
    obtain rfl := Option.some.inj H
    go_enter Tryz.func56, Tryz.ntmps56
    go_wp2
    go_ret
    exact ⟨by first | rfl | (simp; done) | (simp only [← hji4] <;> (first | rfl | simp)) | (simp [*]; done), by repeat (first | exact Drawn0.refl _ | apply Drawn0.step)⟩
   ·rw [if_neg c6] at H
    exact absurd H (by simp)
  ·rw [if_neg c5] at H
   exact absurd H (by simp)
 ·rw [if_neg c3] at H
  have c3b0 : decide ((a1.size : Int) ≤ (a0.size : Int)) = false := decide_eq_false c3
  have c3b1 : decide (a1.size ≤ a0.size) = false := decide_eq_false (fun h => c3 (Int.ofNat_le.mpr h))
  clear c3
  obtain rfl := Option.some.inj H
  go_enter Tryz.func56, Tryz.ntmps56
  go_wp2
  go_ret
  exact ⟨by first | rfl | (simp; done) | (simp [*]; done) | (simp [bne_nil]; done) | (simp [bne_nil, *]; done), by repeat (first | exact Drawn0.refl _ | apply Drawn0.step)⟩

/-! ### spec_meant__BuddyinfoPrint: function 44 -/
def spec_meant__BuddyinfoPrint.j0 : Nat → ByteArray → List (S48) → Bool → Bool → Option ((List (S48)) × Bool × Int)
 | 0, _, _, _, _ => none
 | k + 1, x0, x1, x4, x21 => if x21 = true then (some (([] : List (S48)), false, 2)) else ((spec_BuddyinfoPrint.f k x1).bind fun bt119 => (if bt119.2 = 1 then (if bt119.1.toList = x0.toList then (some (x1, true, 1)) else (if x4 = true then (none) else (some (([] : List (S48)), false, 2)))) else (some (([] : List (S48)), false, 2))))
def spec_meant__BuddyinfoPrint.f (k : Nat) (a0 : ByteArray) (l1 : List (S48)) (a2 : Bool)  (a4 : Bool) : Option ((List (S48)) × Bool × Int) := if a2 = true then ((spec_Plain.f k a0).bind fun t118 => (spec_meant__BuddyinfoPrint.j0 k a0 l1 a4 (!t118))) else (spec_meant__BuddyinfoPrint.j0 k a0 l1 a4 true)
theorem spec_meant__BuddyinfoPrint.mono_l : ∀ k, (∀ y0 y1 y2 y3, LeO (spec_meant__BuddyinfoPrint.j0 k y0 y1 y2 y3) (spec_meant__BuddyinfoPrint.j0 (k + 1) y0 y1 y2 y3))
 | 0 => fun _ _ _ _ r h => by simp [spec_meant__BuddyinfoPrint.j0] at h
 | k + 1 => by
  have ih0 := spec_meant__BuddyinfoPrint.mono_l k
  ·intro y0 y1 y2 y3
   unfold spec_meant__BuddyinfoPrint.j0
   repeat' first
   | (with_reducible exact ih0 _ _ _ _)
   | (with_reducible exact spec_BuddyinfoPrint.mono _ _)
   | (with_reducible exact spec_Plain.mono _ _)
   | (with_reducible exact LeO.refl _)
   | (with_reducible exact LeO.none _)
   | (with_reducible refine LeO.ite ?_ ?_)
   | (with_reducible refine LeO.bind ?_ (fun _ => ?_))
   | exact ih0 _ _ _ _
   | exact spec_BuddyinfoPrint.mono _ _
   | exact spec_Plain.mono _ _
   | exact LeO.none _
   | refine LeO.ite ?_ ?_
   | refine LeO.bind ?_ (fun _ => ?_)
theorem spec_meant__BuddyinfoPrint.mono : ∀ a0 a1 a2 a3 k, LeO (spec_meant__BuddyinfoPrint.f k a0 a1 a2 a3) (spec_meant__BuddyinfoPrint.f (k + 1) a0 a1 a2 a3) := by
 intro a0 a1 a2 a3 k
 have ih0 := spec_meant__BuddyinfoPrint.mono_l k
 unfold spec_meant__BuddyinfoPrint.f
 repeat' first
   | (with_reducible exact ih0 _ _ _ _)
   | (with_reducible exact spec_BuddyinfoPrint.mono _ _)
   | (with_reducible exact spec_Plain.mono _ _)
   | (with_reducible exact LeO.refl _)
   | (with_reducible exact LeO.none _)
   | (with_reducible refine LeO.ite ?_ ?_)
   | (with_reducible refine LeO.bind ?_ (fun _ => ?_))
   | exact ih0 _ _ _ _
   | exact spec_BuddyinfoPrint.mono _ _
   | exact spec_Plain.mono _ _
   | exact LeO.none _
   | refine LeO.ite ?_ ?_
   | refine LeO.bind ?_ (fun _ => ?_)
set_option maxHeartbeats 8000000 in
set_option maxRecDepth 100000 in
theorem spec_meant__BuddyinfoPrint.calls (k : Nat) (a0 : ByteArray) (P1_ : Nat → Prop) (A1 : Option Addr) (c1 : Nat) (l1 : List (S48)) (a2 : Bool)  (a4 : Bool) (r1 : List (S48)) (r2 : Bool) (r3 : Int) (w : World) (hs1 : Kd.V k48 48 w w.heap.size (fun k_ => P1_ k_) (.slice A1 l1.length c1) l1) (h : spec_meant__BuddyinfoPrint.f k a0 l1 a2 a4 = some (r1, r2, r3)) :
  Calls Tryz.prog 44 #[.string a0, .slice A1 l1.length c1, .bool a2, .func (.func 16) #[] #[], .bool a4] w fun e w' => ∃ v0_ : Value, e = .returned (.tuple #[v0_, .bool r2, .int .i64 r3]) ∧ Kd.V k48 48 w' w.heap.size (fun k_ => (P1_ k_ ∨ w.heap.size ≤ k_)) v0_ r1 ∧ Below w.heap.size w w' := by
 have HO1 := Aside0.mk (show Kd.V k48 48 w w.heap.size (fun k_ => (P1_ k_ ∨ w.heap.size ≤ k_)) (.slice A1 l1.length c1) l1 from Kd.V_mono hs1 (fun k_ hk => .inl hk))
 have HB := Aside0.mk (Below.refl w.heap.size w)
 have H : (if a2 = true then ((spec_Plain.f k a0).bind fun t118 => (spec_meant__BuddyinfoPrint.j0 k a0 l1 a4 (!t118))) else (spec_meant__BuddyinfoPrint.j0 k a0 l1 a4 true)) = some (r1, r2, r3) := h
 clear h
 have HC6 := Aside0.mk H
 clear H
 go_enter Tryz.func44, Tryz.ntmps44
 go_upto_region 1 with (fail)
 go_cut [21] (fun v21 wc => ∃ (kq : Nat) (x21_5 : Bool), v21 = .bool x21_5 ∧ Aside0 (spec_meant__BuddyinfoPrint.j0 kq a0 l1 a4 x21_5 = some (r1, r2, r3)) ∧ Aside0 (kq ≤ k) ∧ Aside0 (Kd.V k48 48 wc w.heap.size (fun k_ => (P1_ k_ ∨ w.heap.size ≤ k_)) (.slice A1 l1.length c1) l1) ∧ Aside0 (Below w.heap.size w wc))
 case first =>
  have H := HC6.out
  clear HC6
  by_cases c7 : a2 = true
  ·subst c7
   have H1 : ((spec_Plain.f k a0).bind fun t118 => (spec_meant__BuddyinfoPrint.j0 k a0 l1 a4 (!t118))) = some (r1, r2, r3) := by rw [if_pos rfl] at H; exact H
   clear H
   have H := H1
   clear H1
   replace H := Option.bind_eq_some_iff.mp H
   obtain ⟨t118, A80, H⟩ := H
   have A8 := Aside0.mk A80
   clear A80
   have H' := Aside0.mk H
   clear H
   go_wp2_with (first | (go_at_call 80; (with_reducible refine (spec_Plain.calls k a0 t118 _ A8.out).mono ?_); rintro e w' ⟨rfl, ⟨nd, rfl⟩⟩))
   go_meet
   case rel => exact ⟨_, (!t118), (by first | rfl | (simp; done) | (simp [*]; done) | (simp [bne_nil]; done) | (simp [bne_nil, *]; done)), H', ⟨by first | omega | exact Nat.le_refl _⟩, ⟨by (with_reducible repeat (first | apply Kd.V_alloc | apply Kd.V_drewN | apply Kd.V_drew)); exact HO1.out⟩, ⟨by repeat (first | (with_reducible first | exact HB.out | apply below_alloc | apply pw_below_drewN | apply below_drew1) | exact HB.out)⟩⟩
  ·replace c7 := Bool.eq_false_iff.mpr c7
   subst c7
   have H1 : (spec_meant__BuddyinfoPrint.j0 k a0 l1 a4 true) = some (r1, r2, r3) := by rw [if_neg (show ¬ (false = true) by decide)] at H; exact H
   clear H
   have H := H1
   clear H1
   have H' := Aside0.mk H
   clear H
   go_wp2
   go_meet
   case rel => exact ⟨_, (true), (by first | rfl | (simp; done) | (simp [*]; done) | (simp [bne_nil]; done) | (simp [bne_nil, *]; done)), H', ⟨by first | omega | exact Nat.le_refl _⟩, ⟨by (with_reducible repeat (first | apply Kd.V_alloc | apply Kd.V_drewN | apply Kd.V_drew)); exact HO1.out⟩, ⟨by repeat (first | (with_reducible first | exact HB.out | apply below_alloc | apply pw_below_drewN | apply below_drew1) | exact HB.out)⟩⟩
 case rest =>
  clear HC6
  try clear c1
  try clear p2
  try clear c7
  obtain ⟨kq, x21_5, rfl, HA, HJ5, HO_1, HB⟩ := hcut
  cases kq with
  | zero => exact absurd HA.out (by simp [spec_meant__BuddyinfoPrint.j0])
  | succ kj5 =>
   have H := HA.out
   clear HA
   simp only [spec_meant__BuddyinfoPrint.j0] at H
   by_cases c9 : x21_5 = true
   ·subst c9
    have H1 : (some (([] : List (S48)), false, 2)) = some (r1, r2, r3) := by rw [if_pos rfl] at H; exact H
    clear H
    have H := H1
    clear H1
    simp only [Option.some.injEq, Prod.mk.injEq] at H
    obtain ⟨rfl, rfl, rfl⟩ := H
    go_wp2
    go_ret3
    exact ⟨_, by first | rfl | (simp [errW_none, errW_some] <;> rfl) | (simp [*, errW_none, errW_some] <;> rfl), Kd.V_nil _ _ _ _ _, by repeat (first | (with_reducible first | exact HB.out | apply below_alloc | apply pw_below_drewN | apply below_drew1) | exact HB.out)⟩
   ·replace c9 := Bool.eq_false_iff.mpr c9
    subst c9
    have H1 : ((spec_BuddyinfoPrint.f kj5 l1).bind fun bt119 => (if bt119.2 = 1 then (if bt119.1.toList = a0.toList then (some (l1, true, 1)) else (if a4 = true then (none) else (some (([] : List (S48)), false, 2)))) else (some (([] : List (S48)), false, 2)))) = some (r1, r2, r3) := by rw [if_neg (show ¬ (false = true) by decide)] at H; exact H
    clear H
    have H := H1
    clear H1
    replace H := Option.bind_eq_some_iff.mp H
    obtain ⟨⟨t119, t120⟩, A100, H⟩ := H
    have A10 := Aside0.mk A100
    clear A100
    by_cases c11 : t120 = 1
    ·rw [if_pos c11] at H
     have c11b0 : (t120 == 1) = true := beq_iff_eq.mpr c11
     have c11b1 : (t120 != 1) = false := bne_eq_false_iff_eq.mpr c11
     clear c11
     by_cases c12 : t119.toList = a0.toList
     ·rw [if_pos c12] at H
      have c12b0 : (t119.toList == a0.toList) = true := beq_iff_eq.mpr c12
      have c12b1 : (t119.toList != a0.toList) = false := bne_eq_false_iff_eq.mpr c12
      clear c12
      simp only [Option.some.injEq, Prod.mk.injEq] at H
      obtain ⟨rfl, rfl, rfl⟩ := H
      go_wp2_with (first | (go_at_call 16; (with_reducible refine (spec_BuddyinfoPrint.calls kj5 _ _ l1 t119 t120 _ ?side1 ?side2 A10.out).mono ?_); (case side1 => repeat (first | exact (Kd.V_reads' HO_1.out).2.2 | (with_reducible refine Kd.C_alloc ?_ _) | (with_reducible refine Kd.C_drewN ?_ _) | (with_reducible refine Kd.C_drew ?_))); (case side2 => exact (Kd.V_reads' HO_1.out).2.1); rintro e w13 ⟨rfl, hb⟩; have n0_ := Aside0.mk (Kd.V_below (by (with_reducible repeat (first | apply Kd.V_alloc | apply Kd.V_drewN | apply Kd.V_drew)); exact HO_1.out) hb); have n1_ := Aside0.mk (below_step belH hb); clear HO_1; clear HB; have HO_1 := n0_; have HB := n1_; clear n0_ n1_; (try clear hb); (try clear hb2); (try clear hk); (try clear hi)))
      go_ret3
      exact ⟨_, by first | rfl | (simp [errW_none, errW_some] <;> rfl) | (simp [*, errW_none, errW_some] <;> rfl), by (with_reducible repeat (first | apply Kd.V_alloc | apply Kd.V_drewN | apply Kd.V_drew)); exact HO_1.out, by repeat (first | (with_reducible first | exact HB.out | apply below_alloc | apply pw_below_drewN | apply below_drew1) | exact HB.out)⟩
     ·rw [if_neg c12] at H
      have c12b0 : (t119.toList == a0.toList) = false := beq_eq_false_iff_ne.mpr c12
      have c12b1 : (t119.toList != a0.toList) = true := bne_iff_ne.mpr c12
      by_cases c14 : a4 = true
      ·subst c14
       have H1 : (none) = some (r1, r2, r3) := by rw [if_pos rfl] at H; exact H
       clear H
       have H := H1
       clear H1
       exact absurd H (by simp)
      ·replace c14 := Bool.eq_false_iff.mpr c14
       subst c14
       have H1 : (some (([] : List (S48)), false, 2)) = some (r1, r2, r3) := by rw [if_neg (show ¬ (false = true) by decide)] at H; exact H
       clear H
       have H := H1
       clear H1
       simp only [Option.some.injEq, Prod.mk.injEq] at H
       obtain ⟨rfl, rfl, rfl⟩ := H
       go_wp2_with (first | (go_at_call 16; (with_reducible refine (spec_BuddyinfoPrint.calls kj5 _ _ l1 t119 t120 _ ?side1 ?side2 A10.out).mono ?_); (case side1 => repeat (first | exact (Kd.V_reads' HO_1.out).2.2 | (with_reducible refine Kd.C_alloc ?_ _) | (with_reducible refine Kd.C_drewN ?_ _) | (with_reducible refine Kd.C_drew ?_))); (case side2 => exact (Kd.V_reads' HO_1.out).2.1); rintro e w15 ⟨rfl, hb⟩; have n0_ := Aside0.mk (Kd.V_below (by (with_reducible repeat (first | apply Kd.V_alloc | apply Kd.V_drewN | apply Kd.V_drew)); exact HO_1.out) hb); have n1_ := Aside0.mk (below_step belH hb); clear HO_1; clear HB; have HO_1 := n0_; have HB := n1_; clear n0_ n1_; (try clear hb); (try clear hb2); (try clear hk); (try clear hi)))
       go_ret3
       exact ⟨_, by first | rfl | (simp [errW_none, errW_some] <;> rfl) | (simp [*, errW_none, errW_some] <;> rfl), Kd.V_nil _ _ _ _ _, by repeat (first | (with_reducible first | exact HB.out | apply below_alloc | apply pw_below_drewN | apply below_drew1) | exact HB.out)⟩
    ·rw [if_neg c11] at H
     have c11b0 : (t120 == 1) = false := beq_eq_false_iff_ne.mpr c11
     have c11b1 : (t120 != 1) = true := bne_iff_ne.mpr c11
     simp only [Option.some.injEq, Prod.mk.injEq] at H
     obtain ⟨rfl, rfl, rfl⟩ := H
     go_wp2_with (first | (go_at_call 16; (with_reducible refine (spec_BuddyinfoPrint.calls kj5 _ _ l1 t119 t120 _ ?side1 ?side2 A10.out).mono ?_); (case side1 => repeat (first | exact (Kd.V_reads' HO_1.out).2.2 | (with_reducible refine Kd.C_alloc ?_ _) | (with_reducible refine Kd.C_drewN ?_ _) | (with_reducible refine Kd.C_drew ?_))); (case side2 => exact (Kd.V_reads' HO_1.out).2.1); rintro e w16 ⟨rfl, hb⟩; have n0_ := Aside0.mk (Kd.V_below (by (with_reducible repeat (first | apply Kd.V_alloc | apply Kd.V_drewN | apply Kd.V_drew)); exact HO_1.out) hb); have n1_ := Aside0.mk (below_step belH hb); clear HO_1; clear HB; have HO_1 := n0_; have HB := n1_; clear n0_ n1_; (try clear hb); (try clear hb2); (try clear hk); (try clear hi)))
     go_ret3
     exact ⟨_, by first | rfl | (simp [errW_none, errW_some] <;> rfl) | (simp [*, errW_none, errW_some] <;> rfl), Kd.V_nil _ _ _ _ _, by repeat (first | (with_reducible first | exact HB.out | apply below_alloc | apply pw_below_drewN | apply below_drew1) | exact HB.out)⟩

end Go.Proofs.YtdmpbaanonafbaaGreatDoor.I

-- written by a program of this session (wip/tools/pp.py)
namespace Go.Proofs.YtdmpbaanonafbaaGreatDoor.I
open Go.RowKit Go.Proofs.YtdmpbaanonafbaaGreatDoorW.PrintWords Go.Proofs.YtdmpbaanonafbaaGreatDoorW.PrintLast Go.Proofs.YtdmpbaanonafbaaGreatDoor.Flt Go.Proofs.YtdmpbaanonafbaaGreatDoor.GivZ Go.Proofs.YtdmpbaanonafbaaGreatDoor.E Go.Proofs.YtdmpbaanonafbaaGreatDoor.L Go.Proofs.YtdmpbaanonafbaaGreatDoor.V Go.Proofs.YtdmpbaanonafbaaGreatDoor.DoorBd Go.Proofs.YtdmpbaanonafbaaGreatDoor.Lives Go.Proofs.YtdmpbaanonafbaaGreatDoor.R Go.Proofs.YtdmpbaanonafbaaGreatDoorW.PrintMore
attribute [local go_sem] max2_int min2_int max_two min_two max_three min_three max_four min_four   -- for this text's walks alone
set_option linter.unusedVariables false
set_option linter.unusedSimpArgs false

/-! ### spec_BuddyinfoRead: function 15 -/
mutual
def spec_BuddyinfoRead.l0 : Nat → ByteArray → List (S48) → List ByteArray → Int → Int → Option ((List (S48)) × Bool × Int)
 | 0, _, _, _, _, _ => none
 | k + 1, x0, x5, x12, x13, x14 => if x14 < x13 then (if 0 ≤ x14 then (if x14 < (x12.length : Int) then ((spec_Fields.f k (rdOf ByteArray.empty x12 x14)).bind fun t130 => (if (t130.length : Int) < 5 then (spec_BuddyinfoRead.j1 k x0 x5 t130 x12 x13 x14 true) else (if 0 < (t130.length : Int) then (if (rdOf ByteArray.empty t130 0).toList = ([78, 111, 100, 101] : List UInt8) then (if 1 < (t130.length : Int) then ((spec_Ends.f (rdOf ByteArray.empty t130 1) (⟨#[44]⟩ : ByteArray)).bind fun t135 => (if t135 = true then (if 2 < (t130.length : Int) then (spec_BuddyinfoRead.j1 k x0 x5 t130 x12 x13 x14 ((rdOf ByteArray.empty t130 2).toList != ([122, 111, 110, 101] : List UInt8))) else (none)) else (spec_BuddyinfoRead.j1 k x0 x5 t130 x12 x13 x14 true))) else (none)) else (spec_BuddyinfoRead.j1 k x0 x5 t130 x12 x13 x14 true)) else (none)))) else (none)) else (none)) else ((spec_meant__BuddyinfoPrint.f k x0 x5 true false).bind fun bt124 => (some (bt124.1, bt124.2.1, bt124.2.2)))
def spec_BuddyinfoRead.j1 : Nat → ByteArray → List (S48) → List ByteArray → List ByteArray → Int → Int → Bool → Option ((List (S48)) × Bool × Int)
 | 0, _, _, _, _, _, _, _ => none
 | k + 1, x0, x5, x8, x12, x13, x14, x41 => if x41 = true then (some (([] : List (S48)), false, 2)) else (if 4 ≤ (x8.length : Int) then ((spec_decimals.f k (x8.drop 4)).bind fun bt141 => (if bt141.2 = true then (if 1 < (x8.length : Int) then (if 0 ≤ (wrap64 (((rdOf ByteArray.empty x8 1).size : Int) - 1)) then (if (wrap64 (((rdOf ByteArray.empty x8 1).size : Int) - 1)) ≤ ((rdOf ByteArray.empty x8 1).size : Int) then (if 3 < (x8.length : Int) then (if x5.length < 2199023255552 then (spec_BuddyinfoRead.l0 k x0 (x5 ++ [(⟨(⟨#[]⟩ : ByteArray), bt141.1, (([(rdOf ByteArray.empty x8 1).extract 0 ((wrap64 (((rdOf ByteArray.empty x8 1).size : Int) - 1)) : Int).toNat, rdOf ByteArray.empty x8 3] : List ByteArray))⟩ : S48)]) x12 x13 (wrap64 (x14 + 1))) else (none)) else (none)) else (none)) else (none)) else (none)) else (some (([] : List (S48)), false, 2)))) else (none))
end
def spec_BuddyinfoRead.f (k : Nat) (a0 : ByteArray) : Option ((List (S48)) × Bool × Int) := (spec_Lines.f k a0).bind fun t121 => (spec_BuddyinfoRead.l0 k a0 ([] : List (S48)) t121 (t121.length : Int) 0)
theorem spec_BuddyinfoRead.mono_l : ∀ k, (∀ y0 y1 y2 y3 y4, LeO (spec_BuddyinfoRead.l0 k y0 y1 y2 y3 y4) (spec_BuddyinfoRead.l0 (k + 1) y0 y1 y2 y3 y4)) ∧ (∀ y0 y1 y2 y3 y4 y5 y6, LeO (spec_BuddyinfoRead.j1 k y0 y1 y2 y3 y4 y5 y6) (spec_BuddyinfoRead.j1 (k + 1) y0 y1 y2 y3 y4 y5 y6))
 | 0 => ⟨fun _ _ _ _ _ r h => by simp [spec_BuddyinfoRead.l0] at h, fun _ _ _ _ _ _ _ r h => by simp [spec_BuddyinfoRead.j1] at h⟩
 | k + 1 => by
  obtain ⟨ih0, ih1⟩ := spec_BuddyinfoRead.mono_l k
  refine ⟨?_, ?_⟩
  ·intro y0 y1 y2 y3 y4
   unfold spec_BuddyinfoRead.l0
   repeat' first
   | (with_reducible exact ih0 _ _ _ _ _)
   | (with_reducible exact ih1 _ _ _ _ _ _ _)
   | (with_reducible exact spec_Fields.mono _ _)
   | (with_reducible exact spec_Lines.mono _ _)
   | (with_reducible exact spec_decimals.mono _ _)
   | (with_reducible exact spec_meant__BuddyinfoPrint.mono _ _ _ _ _)
   | (with_reducible exact LeO.refl _)
   | (with_reducible exact LeO.none _)
   | (with_reducible refine LeO.ite ?_ ?_)
   | (with_reducible refine LeO.bind ?_ (fun _ => ?_))
   | exact ih0 _ _ _ _ _
   | exact ih1 _ _ _ _ _ _ _
   | exact spec_Fields.mono _ _
   | exact spec_Lines.mono _ _
   | exact spec_decimals.mono _ _
   | exact spec_meant__BuddyinfoPrint.mono _ _ _ _ _
   | exact LeO.none _
   | refine LeO.ite ?_ ?_
   | refine LeO.bind ?_ (fun _ => ?_)
  ·intro y0 y1 y2 y3 y4 y5 y6
   unfold spec_BuddyinfoRead.j1
   repeat' first
   | (with_reducible exact ih0 _ _ _ _ _)
   | (with_reducible exact ih1 _ _ _ _ _ _ _)
   | (with_reducible exact spec_Fields.mono _ _)
   | (with_reducible exact spec_Lines.mono _ _)
   | (with_reducible exact spec_decimals.mono _ _)
   | (with_reducible exact spec_meant__BuddyinfoPrint.mono _ _ _ _ _)
   | (with_reducible exact LeO.refl _)
   | (with_reducible exact LeO.none _)
   | (with_reducible refine LeO.ite ?_ ?_)
   | (with_reducible refine LeO.bind ?_ (fun _ => ?_))
   | exact ih0 _ _ _ _ _
   | exact ih1 _ _ _ _ _ _ _
   | exact spec_Fields.mono _ _
   | exact spec_Lines.mono _ _
   | exact spec_decimals.mono _ _
   | exact spec_meant__BuddyinfoPrint.mono _ _ _ _ _
   | exact LeO.none _
   | refine LeO.ite ?_ ?_
   | refine LeO.bind ?_ (fun _ => ?_)
theorem spec_BuddyinfoRead.mono : ∀ a0 k, LeO (spec_BuddyinfoRead.f k a0) (spec_BuddyinfoRead.f (k + 1) a0) := by
 intro a0 k
 obtain ⟨ih0, ih1⟩ := spec_BuddyinfoRead.mono_l k
 unfold spec_BuddyinfoRead.f
 repeat' first
   | (with_reducible exact ih0 _ _ _ _ _)
   | (with_reducible exact ih1 _ _ _ _ _ _ _)
   | (with_reducible exact spec_Fields.mono _ _)
   | (with_reducible exact spec_Lines.mono _ _)
   | (with_reducible exact spec_decimals.mono _ _)
   | (with_reducible exact spec_meant__BuddyinfoPrint.mono _ _ _ _ _)
   | (with_reducible exact LeO.refl _)
   | (with_reducible exact LeO.none _)
   | (with_reducible refine LeO.ite ?_ ?_)
   | (with_reducible refine LeO.bind ?_ (fun _ => ?_))
   | exact ih0 _ _ _ _ _
   | exact ih1 _ _ _ _ _ _ _
   | exact spec_Fields.mono _ _
   | exact spec_Lines.mono _ _
   | exact spec_decimals.mono _ _
   | exact spec_meant__BuddyinfoPrint.mono _ _ _ _ _
   | exact LeO.none _
   | refine LeO.ite ?_ ?_
   | refine LeO.bind ?_ (fun _ => ?_)
def spec_BuddyinfoRead.T11 : Bool × List (List Nat × List Nat) := (true, [([], []), ([], []), ([], []), ([2], [2]), ([3], [3]), ([], []), ([5], [5]), ([6], [6]), ([7], [7]), ([8], [8]), ([4, 9], [4, 9]), ([], []), ([11], [11]), ([12], [12]), ([10, 13], [10, 13]), ([1, 14], [1, 14]), ([15], [15]), ([0, 16], [0, 16]), ([17, 17, 0, 1, 2, 3, 4, 5, 6, 7, 8, 9, 10, 11, 12, 13, 14, 15, 16, 17], [0, 17])])
def spec_BuddyinfoRead.B11 : List Nat := [0, 0, 0, 4, 12, 0, 32, 96, 224, 480, 1020, 0, 2048, 6144, 16380, 32766, 65534, 131071, 262143]
theorem spec_BuddyinfoRead.tab11 : rtab .any (opsOf Tryz.f15 11) = spec_BuddyinfoRead.T11 := by kernel_rfl
theorem spec_BuddyinfoRead.bits11 : waitsOk spec_BuddyinfoRead.T11.2 spec_BuddyinfoRead.B11 = true := by kernel_rfl
set_option maxHeartbeats 8000000 in
set_option maxRecDepth 100000 in
theorem spec_BuddyinfoRead.calls (k : Nat) (a0 : ByteArray) (r1 : List (S48)) (r2 : Bool) (r3 : Int) (w : World) (h : spec_BuddyinfoRead.f k a0 = some (r1, r2, r3)) :
  Calls Tryz.prog 15 #[.string a0] w fun e w' => ∃ v0_ : Value, e = .returned (.tuple #[v0_, .bool r2, .int .i64 r3]) ∧ Kd.V k48 48 w' w.heap.size (fun k_ => (w.heap.size ≤ k_)) v0_ r1 ∧ Below w.heap.size w w' := by
 have hu48 := Tryz.underlying48
 have HB := Aside0.mk (Below.refl w.heap.size w)
 have H : ((spec_Lines.f k a0).bind fun t121 => (spec_BuddyinfoRead.l0 k a0 ([] : List (S48)) t121 (t121.length : Int) 0)) = some (r1, r2, r3) := h
 clear h
 replace H := Option.bind_eq_some_iff.mp H
 obtain ⟨t121, A20, H⟩ := H
 have A2 := Aside0.mk A20
 clear A20
 have H' := Aside0.mk H
 clear H
 go_enter Tryz.func15, Tryz.ntmps15
 go_wp2_with (first | ((with_reducible refine gate_callee (f := 55) rfl ?_); refine goesL_ (some 12) rfl rfl Tryz.func55 (by kernel_rfl) rfl #[.string a0] rfl (by (try simp only [List.map_toArray, List.map_cons, List.map_nil]); first | done | rfl | (simp only [List.length_drop, List.length_take]; rfl)) ?_; (with_reducible refine (spec_Lines.calls k a0 t121 _ A2.out).mono ?_); rintro e w3 ⟨v122, rfl, ho0, hb⟩; refine ⟨_, rfl, ?_⟩; have n0_ := Aside0.mk (Kd.R_lower (Kd.R_newM (M := fun k_ => (w.heap.size ≤ k_)) ho0 (below_size belH) (fun k_ h_ => h_)) (below_size belH)); have n1_ := Aside0.mk (below_step belH hb); clear HB; have HO123 := n0_; have HB := n1_; clear n0_ n1_; (try clear hb); (try clear hb2); (try clear hk); (try clear hi); (try clear ho0); obtain ⟨Ao4, co4, eo4⟩ := Kd.R_slice HO123.out; subst eo4))
 go_loopg [5, 14] k (fun kq v5 v14 w' => ∃ (x5_1 : List (S48)) (x14_1 : Int), v14 = .int .i64 x14_1 ∧ Aside0 (spec_BuddyinfoRead.l0 kq a0 x5_1 t121 (t121.length : Int) x14_1 = some (r1, r2, r3)) ∧ Aside0 (kq ≤ k) ∧ Aside0 (Kd.S k48 48 w' w.heap.size (fun k_ => (w.heap.size ≤ k_) ∧ some k_ ≠ ((.slice Ao4 t121.length co4) : Value).ownBlock) v5 x5_1) ∧ Aside0 (Kd.R Kd.string 9 w' w.heap.size (fun k_ => (w.heap.size ≤ k_)) (.slice Ao4 t121.length co4) t121) ∧ Aside0 (Below w.heap.size w w'))
 case atStart => exact ⟨(([] : List (S48))), (0), (by first | rfl | (simp; done) | (simp [*]; done) | (simp [bne_nil]; done) | (simp [bne_nil, *]; done)), H', ⟨Nat.le_refl _⟩, ⟨by first | exact Kd.S_nil _ _ _ _ _ | exact Kd.N_nil _ _ _ _ _ | exact Kd.V_nil _ _ _ _ _ | exact Kd.Q_nil _ _ _ _ _ | exact Kd.R_nil _ _ _ _ _⟩, ⟨by (with_reducible repeat (first | apply Kd.R_alloc | apply Kd.R_drewN | apply Kd.R_drew)); exact Kd.R_mono HO123.out (fun _ hk => hk.1)⟩, ⟨by repeat (first | (with_reducible first | exact HB.out | apply below_alloc | apply pw_below_drewN | apply below_drew1) | exact HB.out)⟩⟩
 case round =>
  clear H'
  try clear c1
  try clear p2
  obtain ⟨x5_1, x14_1, rfl, HA, HK1, HO_5, HO_12, HB⟩ := hrel
  cases gk with
  | zero => exact absurd HA.out (by simp [spec_BuddyinfoRead.l0])
  | succ k1 =>
   have H := HA.out
   clear HA
   simp only [spec_BuddyinfoRead.l0] at H
   by_cases c5 : x14_1 < (t121.length : Int)
   ·rw [if_pos c5] at H
    have c5b0 : decide (x14_1 < (t121.length : Int)) = true := decide_eq_true c5
    clear c5
    by_cases c6 : 0 ≤ x14_1
    ·rw [if_pos c6] at H
     have c6b0 : decide (0 ≤ x14_1) = true := decide_eq_true c6
     clear c6
     by_cases c7 : x14_1 < (t121.length : Int)
     ·rw [if_pos c7] at H
      have c7b0 : decide (x14_1 < (t121.length : Int)) = true := decide_eq_true c7
      clear c7
      replace H := Option.bind_eq_some_iff.mp H
      obtain ⟨t130, A80, H⟩ := H
      have A8 := Aside0.mk A80
      clear A80
      have HC9 := Aside0.mk H
      clear H
      have p129 : 0 ≤ (x14_1 : Int) := of_decide_eq_true (by first | (with_reducible assumption) | assumption)
      have q129 : x14_1 < (t121.length : Int) := of_decide_eq_true (by first | (with_reducible assumption) | assumption)
      obtain ⟨ad129, e129, hx129_0⟩ := Kd.at_string (Kd.R_reads' HO_12.out).2.2 x14_1 p129 q129
      cases e129
      replace p129 := eq_true p129
      replace q129 := eq_true q129
      go_upto_region 6 with (first | ((with_reducible refine gate_callee (f := 39) rfl ?_); refine goesL_ (some 19) rfl rfl Tryz.func39 (by kernel_rfl) rfl #[.string (rdOf ByteArray.empty t121 x14_1)] rfl (by (try simp only [List.map_toArray, List.map_cons, List.map_nil]); first | done | rfl | (simp only [List.length_drop, List.length_take]; rfl)) ?_; (with_reducible refine (spec_Fields.calls k1 (rdOf ByteArray.empty t121 x14_1) t130 _ A8.out).mono ?_); rintro e w10 ⟨v131, rfl, ho0, hb⟩; refine ⟨_, rfl, ?_⟩; have n0_ := Aside0.mk (Kd.S_elder' (by (with_reducible repeat (first | apply Kd.S_alloc | apply Kd.S_drewN | apply Kd.S_drew)); exact HO_5.out) (Kd.R_base ho0) hb); have n1_ := Aside0.mk (Kd.R_elder' (by (with_reducible repeat (first | apply Kd.R_alloc | apply Kd.R_drewN | apply Kd.R_drew)); exact HO_12.out) (Kd.R_base ho0) hb); have n2_ := Aside0.mk (Kd.R_lower (Kd.R_new' (Kd.R_newM (M := fun k_ => (w.heap.size ≤ k_)) ho0 (below_size belH) (fun k_ h_ => h_)) (Kd.R_lt (by (with_reducible repeat (first | apply Kd.R_alloc | apply Kd.R_drewN | apply Kd.R_drew)); exact HO_12.out))) (below_size belH)); have n3_ := Aside0.mk (below_step belH hb); clear HO_5; clear HO_12; clear HB; have HO_5 := n0_; have HO_12 := n1_; have HO132 := n2_; have HB := n3_; clear n0_ n1_ n2_ n3_; (try clear hb); (try clear hb2); (try clear hk); (try clear hi); (try clear ho0)))
      (try simp only [Act.put, List.setIfInBounds_toArray, List.set_cons_zero, List.set_cons_succ])
      go_cut [41] (fun v41 wc => ∃ (kq : Nat) (x41_8 : Bool), v41 = .bool x41_8 ∧ Aside0 (spec_BuddyinfoRead.j1 kq a0 x5_1 t130 t121 (t121.length : Int) x14_1 x41_8 = some (r1, r2, r3)) ∧ Aside0 (kq ≤ k1) ∧ Aside0 (Kd.S k48 48 wc w.heap.size (fun k_ => (w.heap.size ≤ k_) ∧ some k_ ≠ (v131 : Value).ownBlock ∧ some k_ ≠ ((.slice (some ad129) t121.length co4) : Value).ownBlock) u5 x5_1) ∧ Aside0 (Kd.R Kd.string 9 wc w.heap.size (fun k_ => (w.heap.size ≤ k_) ∧ some k_ ≠ ((.slice (some ad129) t121.length co4) : Value).ownBlock) v131 t130) ∧ Aside0 (Kd.R Kd.string 9 wc w.heap.size (fun k_ => (w.heap.size ≤ k_) ∧ some k_ ≠ (v131 : Value).ownBlock) (.slice (some ad129) t121.length co4) t121) ∧ Aside0 (Below w.heap.size w wc))
      case first =>
       have H := HC9.out
       clear HC9
       by_cases c11 : (t130.length : Int) < 5
       ·rw [if_pos c11] at H
        have c11b0 : decide ((t130.length : Int) < 5) = true := decide_eq_true c11
        have c11b1 : decide (t130.length < 5) = true := decide_eq_true (by omega)
        clear c11
        (first | rw [c11b0] | (simp only [i64_w, i32_w]; rw [c11b0]) | skip)
        have H' := Aside0.mk H
        clear H
        obtain ⟨Ao12, co12, eo12⟩ := Kd.R_slice HO132.out
        subst eo12
        go_wp2
        go_meet
        case rel => exact ⟨_, (true), (by first | rfl | (simp; done) | (simp [*]; done) | (simp [bne_nil]; done) | (simp [bne_nil, *]; done)), H', ⟨by have := HK1.out; first | omega | exact Nat.le_refl _⟩, ⟨by (with_reducible repeat (first | apply Kd.S_alloc | apply Kd.S_drewN | apply Kd.S_drew)); exact Kd.S_mono HO_5.out (fun _ hk => ⟨hk.1.1, ⟨hk.2, hk.1.2⟩⟩)⟩, ⟨by (with_reducible repeat (first | apply Kd.R_alloc | apply Kd.R_drewN | apply Kd.R_drew)); exact Kd.R_mono HO132.out (fun _ hk => ⟨hk.1.1, hk.2⟩)⟩, ⟨by (with_reducible repeat (first | apply Kd.R_alloc | apply Kd.R_drewN | apply Kd.R_drew)); exact HO_12.out⟩, ⟨by repeat (first | (with_reducible first | exact HB.out | apply below_alloc | apply pw_below_drewN | apply below_drew1) | exact HB.out)⟩⟩
       ·rw [if_neg c11] at H
        have c11b0 : decide ((t130.length : Int) < 5) = false := decide_eq_false c11
        have c11b1 : decide (t130.length < 5) = false := decide_eq_false (by omega)
        clear c11
        (first | rw [c11b0] | (simp only [i64_w, i32_w]; rw [c11b0]) | skip)
        by_cases c13 : 0 < (t130.length : Int)
        ·rw [if_pos c13] at H
         have c13b0 : decide (0 < (t130.length : Int)) = true := decide_eq_true c13
         have c13b1 : decide (0 < t130.length) = true := decide_eq_true (by omega)
         clear c13
         by_cases c14 : (rdOf ByteArray.empty t130 0).toList = ([78, 111, 100, 101] : List UInt8)
         ·rw [if_pos c14] at H
          have c14b0 : ((rdOf ByteArray.empty t130 0).toList == ([78, 111, 100, 101] : List UInt8)) = true := beq_iff_eq.mpr c14
          have c14b1 : ((rdOf ByteArray.empty t130 0).toList != ([78, 111, 100, 101] : List UInt8)) = false := bne_eq_false_iff_eq.mpr c14
          clear c14
          by_cases c15 : 1 < (t130.length : Int)
          ·rw [if_pos c15] at H
           have c15b0 : decide (1 < (t130.length : Int)) = true := decide_eq_true c15
           have c15b1 : decide (1 < t130.length) = true := decide_eq_true (by omega)
           clear c15
           replace H := Option.bind_eq_some_iff.mp H
           obtain ⟨t135, A160, H⟩ := H
           have A16 := Aside0.mk A160
           clear A160
           by_cases c17 : t135 = true
           ·subst c17
            have H1 : (if 2 < (t130.length : Int) then (spec_BuddyinfoRead.j1 k1 a0 x5_1 t130 t121 (t121.length : Int) x14_1 ((rdOf ByteArray.empty t130 2).toList != ([122, 111, 110, 101] : List UInt8))) else (none)) = some (r1, r2, r3) := by rw [if_pos rfl] at H; exact H
            clear H
            have H := H1
            clear H1
            by_cases c18 : 2 < (t130.length : Int)
            ·rw [if_pos c18] at H
             have c18b0 : decide (2 < (t130.length : Int)) = true := decide_eq_true c18
             have c18b1 : decide (2 < t130.length) = true := decide_eq_true (by omega)
             clear c18
             have H' := Aside0.mk H
             clear H
             obtain ⟨Ao19, co19, eo19⟩ := Kd.R_slice HO132.out
             subst eo19
             have p133 : 0 ≤ (0 : Int) := (by omega)
             have q133 : 0 < (t130.length : Int) := of_decide_eq_true (by first | (with_reducible assumption) | assumption)
             obtain ⟨ad133, e133, hx133_0⟩ := Kd.at_string (Kd.R_reads' HO132.out).2.2 0 p133 q133
             cases e133
             have qi133 : (0 < t130.length) = True := eq_true (by omega)
             (try rw [show ((0 : Int)).toNat = 0 from rfl] at hx133_0)
             (try rw [Addr.add_zero'] at hx133_0)
             replace p133 := eq_true p133
             replace q133 := eq_true q133
             have p134 : 0 ≤ (1 : Int) := (by omega)
             have q134 : 1 < (t130.length : Int) := of_decide_eq_true (by first | (with_reducible assumption) | assumption)
             obtain ⟨ad134, e134, hx134_0⟩ := Kd.at_string (Kd.R_reads' HO132.out).2.2 1 p134 q134
             obtain rfl : ad133 = ad134 := (by injection e134)
             (try simp only [show (1 : Int).toNat = 1 from rfl, Nat.reduceMul, Nat.reduceEqDiff, Go.Addr.add, ↓reduceIte] at hx134_0)
             have qi134 : (1 < t130.length) = True := eq_true (by omega)
             (try rw [show ((1 : Int)).toNat = 1 from rfl] at hx134_0)
             replace p134 := eq_true p134
             replace q134 := eq_true q134
             go_wp2_with (first | (go_at_call 56; (with_reducible refine (spec_Ends.calls (rdOf ByteArray.empty t130 1) (⟨#[44]⟩ : ByteArray) true _ A16.out).mono ?_); rintro e w' ⟨rfl, ⟨nd, rfl⟩⟩; have p136 : 0 ≤ (2 : Int) := (by omega); have q136 : 2 < (t130.length : Int) := of_decide_eq_true (by first | (with_reducible assumption) | assumption); obtain ⟨ad136, e136, hx136_0⟩ := Kd.at_string (Kd.R_reads' HO132.out).2.2 2 p136 q136; obtain rfl : ad133 = ad136 := (by injection e136); (try simp only [show (2 : Int).toNat = 2 from rfl, Nat.reduceMul, Nat.reduceEqDiff, Go.Addr.add, ↓reduceIte] at hx136_0); have qi136 : (2 < t130.length) = True := eq_true (by omega); (try rw [show ((2 : Int)).toNat = 2 from rfl] at hx136_0); replace p136 := eq_true p136; replace q136 := eq_true q136))
             go_meet
             case rel => exact ⟨_, (((rdOf ByteArray.empty t130 2).toList != ([122, 111, 110, 101] : List UInt8))), (by first | rfl | (simp; done) | (simp [*]; done) | (simp [bne_nil]; done) | (simp [bne_nil, *]; done)), H', ⟨by have := HK1.out; first | omega | exact Nat.le_refl _⟩, ⟨by (with_reducible repeat (first | apply Kd.S_alloc | apply Kd.S_drewN | apply Kd.S_drew)); exact Kd.S_mono HO_5.out (fun _ hk => ⟨hk.1.1, ⟨hk.2, hk.1.2⟩⟩)⟩, ⟨by (with_reducible repeat (first | apply Kd.R_alloc | apply Kd.R_drewN | apply Kd.R_drew)); exact Kd.R_mono HO132.out (fun _ hk => ⟨hk.1.1, hk.2⟩)⟩, ⟨by (with_reducible repeat (first | apply Kd.R_alloc | apply Kd.R_drewN | apply Kd.R_drew)); exact HO_12.out⟩, ⟨by repeat (first | (with_reducible first | exact HB.out | apply below_alloc | apply pw_below_drewN | apply below_drew1) | exact HB.out)⟩⟩
            ·rw [if_neg c18] at H
             exact absurd H (by simp)
           ·replace c17 := Bool.eq_false_iff.mpr c17
            subst c17
            have H1 : (spec_BuddyinfoRead.j1 k1 a0 x5_1 t130 t121 (t121.length : Int) x14_1 true) = some (r1, r2, r3) := by rw [if_neg (show ¬ (false = true) by decide)] at H; exact H
            clear H
            have H := H1
            clear H1
            have H' := Aside0.mk H
            clear H
            obtain ⟨Ao20, co20, eo20⟩ := Kd.R_slice HO132.out
            subst eo20
            have p133 : 0 ≤ (0 : Int) := (by omega)
            have q133 : 0 < (t130.length : Int) := of_decide_eq_true (by first | (with_reducible assumption) | assumption)
            obtain ⟨ad133, e133, hx133_0⟩ := Kd.at_string (Kd.R_reads' HO132.out).2.2 0 p133 q133
            cases e133
            have qi133 : (0 < t130.length) = True := eq_true (by omega)
            (try rw [show ((0 : Int)).toNat = 0 from rfl] at hx133_0)
            (try rw [Addr.add_zero'] at hx133_0)
            replace p133 := eq_true p133
            replace q133 := eq_true q133
            have p134 : 0 ≤ (1 : Int) := (by omega)
            have q134 : 1 < (t130.length : Int) := of_decide_eq_true (by first | (with_reducible assumption) | assumption)
            obtain ⟨ad134, e134, hx134_0⟩ := Kd.at_string (Kd.R_reads' HO132.out).2.2 1 p134 q134
            obtain rfl : ad133 = ad134 := (by injection e134)
            (try simp only [show (1 : Int).toNat = 1 from rfl, Nat.reduceMul, Nat.reduceEqDiff, Go.Addr.add, ↓reduceIte] at hx134_0)
            have qi134 : (1 < t130.length) = True := eq_true (by omega)
            (try rw [show ((1 : Int)).toNat = 1 from rfl] at hx134_0)
            replace p134 := eq_true p134
            replace q134 := eq_true q134
            go_wp2_with (first | (go_at_call 56; (with_reducible refine (spec_Ends.calls (rdOf ByteArray.empty t130 1) (⟨#[44]⟩ : ByteArray) false _ A16.out).mono ?_); rintro e w' ⟨rfl, ⟨nd, rfl⟩⟩))
            go_meet
            case rel => exact ⟨_, (true), (by first | rfl | (simp; done) | (simp [*]; done) | (simp [bne_nil]; done) | (simp [bne_nil, *]; done)), H', ⟨by have := HK1.out; first | omega | exact Nat.le_refl _⟩, ⟨by (with_reducible repeat (first | apply Kd.S_alloc | apply Kd.S_drewN | apply Kd.S_drew)); exact Kd.S_mono HO_5.out (fun _ hk => ⟨hk.1.1, ⟨hk.2, hk.1.2⟩⟩)⟩, ⟨by (with_reducible repeat (first | apply Kd.R_alloc | apply Kd.R_drewN | apply Kd.R_drew)); exact Kd.R_mono HO132.out (fun _ hk => ⟨hk.1.1, hk.2⟩)⟩, ⟨by (with_reducible repeat (first | apply Kd.R_alloc | apply Kd.R_drewN | apply Kd.R_drew)); exact HO_12.out⟩, ⟨by repeat (first | (with_reducible first | exact HB.out | apply below_alloc | apply pw_below_drewN | apply below_drew1) | exact HB.out)⟩⟩
          ·rw [if_neg c15] at H
           exact absurd H (by simp)
         ·rw [if_neg c14] at H
          have c14b0 : ((rdOf ByteArray.empty t130 0).toList == ([78, 111, 100, 101] : List UInt8)) = false := beq_eq_false_iff_ne.mpr c14
          have c14b1 : ((rdOf ByteArray.empty t130 0).toList != ([78, 111, 100, 101] : List UInt8)) = true := bne_iff_ne.mpr c14
          have H' := Aside0.mk H
          clear H
          obtain ⟨Ao21, co21, eo21⟩ := Kd.R_slice HO132.out
          subst eo21
          have p133 : 0 ≤ (0 : Int) := (by omega)
          have q133 : 0 < (t130.length : Int) := of_decide_eq_true (by first | (with_reducible assumption) | assumption)
          obtain ⟨ad133, e133, hx133_0⟩ := Kd.at_string (Kd.R_reads' HO132.out).2.2 0 p133 q133
          cases e133
          have qi133 : (0 < t130.length) = True := eq_true (by omega)
          (try rw [show ((0 : Int)).toNat = 0 from rfl] at hx133_0)
          (try rw [Addr.add_zero'] at hx133_0)
          replace p133 := eq_true p133
          replace q133 := eq_true q133
          go_wp2
          go_meet
          case rel => exact ⟨_, (true), (by first | rfl | (simp; done) | (simp [*]; done) | (simp [bne_nil]; done) | (simp [bne_nil, *]; done)), H', ⟨by have := HK1.out; first | omega | exact Nat.le_refl _⟩, ⟨by (with_reducible repeat (first | apply Kd.S_alloc | apply Kd.S_drewN | apply Kd.S_drew)); exact Kd.S_mono HO_5.out (fun _ hk => ⟨hk.1.1, ⟨hk.2, hk.1.2⟩⟩)⟩, ⟨by (with_reducible repeat (first | apply Kd.R_alloc | apply Kd.R_drewN | apply Kd.R_drew)); exact Kd.R_mono HO132.out (fun _ hk => ⟨hk.1.1, hk.2⟩)⟩, ⟨by (with_reducible repeat (first | apply Kd.R_alloc | apply Kd.R_drewN | apply Kd.R_drew)); exact HO_12.out⟩, ⟨by repeat (first | (with_reducible first | exact HB.out | apply below_alloc | apply pw_below_drewN | apply below_drew1) | exact HB.out)⟩⟩
        ·rw [if_neg c13] at H
         exact absurd H (by simp)
      case rest =>
       clear HC9
       try clear c1
       try clear p1
       try clear q1
       try clear hx1
       try clear qi1
       try clear p2
       try clear c3
       try clear c5
       try clear c5b0
       try clear c6
       try clear c6b0
       try clear c7
       try clear c7b0
       try clear c11
       try clear c11b0
       try clear c11b1
       try clear p12
       try clear q12
       try clear hx12
       try clear c13
       try clear c13b0
       try clear c13b1
       try clear p13
       try clear q13
       try clear hx13
       try clear qi13
       try clear c14
       try clear c14b0
       try clear c14b1
       try clear c15
       try clear c15b0
       try clear c15b1
       try clear c17
       try clear c18
       try clear c18b0
       try clear c18b1
       try clear hx129_0
       try clear hx133_0
       try clear hx134_0
       try clear hx136_0
       try clear p129
       try clear p133
       try clear p134
       try clear p136
       try clear p2
       try clear q129
       try clear q133
       try clear q134
       try clear q136
       obtain ⟨kq, x41_8, rfl, HA, HJ8, HO_5, HO_8, HO_12, HB⟩ := hcut
       cases kq with
       | zero => exact absurd HA.out (by simp [spec_BuddyinfoRead.j1])
       | succ kj8 =>
        have H := HA.out
        clear HA
        simp only [spec_BuddyinfoRead.j1] at H
        by_cases c22 : x41_8 = true
        ·subst c22
         have H1 : (some (([] : List (S48)), false, 2)) = some (r1, r2, r3) := by rw [if_pos rfl] at H; exact H
         clear H
         have H := H1
         clear H1
         simp only [Option.some.injEq, Prod.mk.injEq] at H
         obtain ⟨rfl, rfl, rfl⟩ := H
         go_wp2
         go_ret3
         exact ⟨_, by first | rfl | (simp [errW_none, errW_some] <;> rfl) | (simp [*, errW_none, errW_some] <;> rfl), Kd.V_nil _ _ _ _ _, by repeat (first | (with_reducible first | exact HB.out | apply below_alloc | apply pw_below_drewN | apply below_drew1) | exact HB.out)⟩
        ·replace c22 := Bool.eq_false_iff.mpr c22
         subst c22
         have H1 : (if 4 ≤ (t130.length : Int) then ((spec_decimals.f kj8 (t130.drop 4)).bind fun bt141 => (if bt141.2 = true then (if 1 < (t130.length : Int) then (if 0 ≤ (wrap64 (((rdOf ByteArray.empty t130 1).size : Int) - 1)) then (if (wrap64 (((rdOf ByteArray.empty t130 1).size : Int) - 1)) ≤ ((rdOf ByteArray.empty t130 1).size : Int) then (if 3 < (t130.length : Int) then (if x5_1.length < 2199023255552 then (spec_BuddyinfoRead.l0 kj8 a0 (x5_1 ++ [(⟨(⟨#[]⟩ : ByteArray), bt141.1, (([(rdOf ByteArray.empty t130 1).extract 0 ((wrap64 (((rdOf ByteArray.empty t130 1).size : Int) - 1)) : Int).toNat, rdOf ByteArray.empty t130 3] : List ByteArray))⟩ : S48)]) t121 (t121.length : Int) (wrap64 (x14_1 + 1))) else (none)) else (none)) else (none)) else (none)) else (none)) else (some (([] : List (S48)), false, 2)))) else (none)) = some (r1, r2, r3) := by rw [if_neg (show ¬ (false = true) by decide)] at H; exact H
         clear H
         have H := H1
         clear H1
         by_cases c23 : 4 ≤ (t130.length : Int)
         ·rw [if_pos c23] at H
          have c23b0 := eq_true c23
          have c23b1 : decide (4 ≤ (t130.length : Int)) = true := decide_eq_true c23
          clear c23
          obtain ⟨y137, hy137⟩ : ∃ y_ : List ByteArray, y_ = (t130.drop 4) := ⟨_, rfl⟩
          replace H : ((spec_decimals.f kj8 y137).bind fun bt141 => (if bt141.2 = true then (if 1 < (t130.length : Int) then (if 0 ≤ (wrap64 (((rdOf ByteArray.empty t130 1).size : Int) - 1)) then (if (wrap64 (((rdOf ByteArray.empty t130 1).size : Int) - 1)) ≤ ((rdOf ByteArray.empty t130 1).size : Int) then (if 3 < (t130.length : Int) then (if x5_1.length < 2199023255552 then (spec_BuddyinfoRead.l0 kj8 a0 (x5_1 ++ [(⟨(⟨#[]⟩ : ByteArray), bt141.1, (([(rdOf ByteArray.empty t130 1).extract 0 ((wrap64 (((rdOf ByteArray.empty t130 1).size : Int) - 1)) : Int).toNat, rdOf ByteArray.empty t130 3] : List ByteArray))⟩ : S48)]) t121 (t121.length : Int) (wrap64 (x14_1 + 1))) else (none)) else (none)) else (none)) else (none)) else (none)) else (some (([] : List (S48)), false, 2)))) = some (r1, r2, r3) := by first | (rw [hy137]; with_reducible exact H) | (have H2_ := (Option.bind_some _ _).symm.trans H; rw [hy137]; with_reducible exact H2_) | (have H2_ := (Option.bind_some _ _).symm.trans H; with_reducible exact H2_) | with_reducible exact H | (rw [hy137]; exact H) | exact H
          have Ny137 := Aside0.mk hy137
          clear hy137
          replace H := Option.bind_eq_some_iff.mp H
          obtain ⟨⟨t141, t142⟩, A240, H⟩ := H
          have A24 := Aside0.mk A240
          clear A240
          by_cases c25 : t142 = true
          ·subst c25
           have H1 : (if 1 < (t130.length : Int) then (if 0 ≤ (wrap64 (((rdOf ByteArray.empty t130 1).size : Int) - 1)) then (if (wrap64 (((rdOf ByteArray.empty t130 1).size : Int) - 1)) ≤ ((rdOf ByteArray.empty t130 1).size : Int) then (if 3 < (t130.length : Int) then (if x5_1.length < 2199023255552 then (spec_BuddyinfoRead.l0 kj8 a0 (x5_1 ++ [(⟨(⟨#[]⟩ : ByteArray), t141, (([(rdOf ByteArray.empty t130 1).extract 0 ((wrap64 (((rdOf ByteArray.empty t130 1).size : Int) - 1)) : Int).toNat, rdOf ByteArray.empty t130 3] : List ByteArray))⟩ : S48)]) t121 (t121.length : Int) (wrap64 (x14_1 + 1))) else (none)) else (none)) else (none)) else (none)) else (none)) = some (r1, r2, r3) := by rw [if_pos rfl] at H; exact H
           clear H
           have H := H1
           clear H1
           by_cases c26 : 1 < (t130.length : Int)
           ·rw [if_pos c26] at H
            have c26b0 : decide (1 < (t130.length : Int)) = true := decide_eq_true c26
            have c26b1 : decide (1 < t130.length) = true := decide_eq_true (by omega)
            clear c26
            obtain ⟨ji27, hji27⟩ : ∃ j_ : Int, (wrap64 (((rdOf ByteArray.empty t130 1).size : Int) - 1)) = j_ := ⟨_, rfl⟩
            replace H : (if 0 ≤ (ji27) then (if (ji27) ≤ ((rdOf ByteArray.empty t130 1).size : Int) then (if 3 < (t130.length : Int) then (if x5_1.length < 2199023255552 then (spec_BuddyinfoRead.l0 kj8 a0 (x5_1 ++ [(⟨(⟨#[]⟩ : ByteArray), t141, (([(rdOf ByteArray.empty t130 1).extract 0 ((ji27) : Int).toNat, rdOf ByteArray.empty t130 3] : List ByteArray))⟩ : S48)]) t121 (t121.length : Int) (wrap64 (x14_1 + 1))) else (none)) else (none)) else (none)) else (none)) = some (r1, r2, r3) := by first | (rw [hji27] at H; exact H) | (simp only [hji27] at H ⊢; exact H)
            (try rw [hji27] at A24)
            have hji27w : (IntKind.i64.wrap (((rdOf ByteArray.empty t130 1).size : Int) - 1)) = ji27 := (i64_w _).trans hji27
            by_cases c28 : 0 ≤ (ji27)
            ·rw [if_pos c28] at H
             have c28b0 := eq_true c28
             have c28b1 : decide (0 ≤ (ji27)) = true := decide_eq_true c28
             clear c28
             by_cases c29 : (ji27) ≤ ((rdOf ByteArray.empty t130 1).size : Int)
             ·rw [if_pos c29] at H
              have c29b0 := eq_true c29
              have c29b1 : decide ((ji27) ≤ ((rdOf ByteArray.empty t130 1).size : Int)) = true := decide_eq_true c29
              clear c29
              by_cases c30 : 3 < (t130.length : Int)
              ·rw [if_pos c30] at H
               have c30b0 : decide (3 < (t130.length : Int)) = true := decide_eq_true c30
               have c30b1 : decide (3 < t130.length) = true := decide_eq_true (by omega)
               clear c30
               obtain ⟨y148, hy148⟩ : ∃ y_ : List ByteArray, y_ = (([(rdOf ByteArray.empty t130 1).extract 0 ((ji27) : Int).toNat, rdOf ByteArray.empty t130 3] : List ByteArray)) := ⟨_, rfl⟩
               replace H : (if x5_1.length < 2199023255552 then (spec_BuddyinfoRead.l0 kj8 a0 (x5_1 ++ [(⟨(⟨#[]⟩ : ByteArray), t141, y148⟩ : S48)]) t121 (t121.length : Int) (wrap64 (x14_1 + 1))) else (none)) = some (r1, r2, r3) := by first | (rw [hy148]; with_reducible exact H) | (have H2_ := (Option.bind_some _ _).symm.trans H; rw [hy148]; with_reducible exact H2_) | (have H2_ := (Option.bind_some _ _).symm.trans H; with_reducible exact H2_) | with_reducible exact H | (rw [hy148]; exact H) | exact H
               have Ny148 := Aside0.mk hy148
               clear hy148
               by_cases c31 : x5_1.length < 2199023255552
               ·rw [if_pos c31] at H
                have LMc31 := Aside0.mk c31
                clear c31
                obtain ⟨y151, hy151⟩ : ∃ y_ : List (S48), y_ = (x5_1 ++ [(⟨(⟨#[]⟩ : ByteArray), t141, y148⟩ : S48)]) := ⟨_, rfl⟩
                replace H : (spec_BuddyinfoRead.l0 kj8 a0 y151 t121 (t121.length : Int) (wrap64 (x14_1 + 1))) = some (r1, r2, r3) := by first | (rw [hy151]; with_reducible exact H) | (have H2_ := (Option.bind_some _ _).symm.trans H; rw [hy151]; with_reducible exact H2_) | (have H2_ := (Option.bind_some _ _).symm.trans H; with_reducible exact H2_) | with_reducible exact H | (rw [hy151]; exact H) | exact H
                have Ny151 := Aside0.mk hy151
                clear hy151
                have H' := Aside0.mk H
                clear H
                obtain ⟨Ao33, co33, eo33⟩ := Kd.R_slice HO_8.out
                subst eo33
                have q32 : (4 : Int) ≤ ((t130.length : Int) : Int) := of_decide_eq_true (by first | (with_reducible assumption) | assumption)
                obtain ⟨i032, hi032, _, hsz32, _⟩ := info_parts info9
                have hroom32 : t130.length ≤ co33 := (Kd.R_reads' HO_8.out).2.1
                have hC32 : Kd.C Kd.string _ Ao33 t130.length t130 := (Kd.R_reads' HO_8.out).2.2
                have hcut32 := cut_from (P := Tryz.prog) 42 9 .i64 Tryz.underlying42 hi032 1 hsz32 Ao33 t130.length co33 4 (by omega) q32
                have hr32 := Kd.C_drop (m := (4 : Int).toNat) (c := co33) hC32 (by omega) hroom32
                obtain ⟨A32, hA32⟩ : ∃ A1, A1 = (if co33 = (4 : Int).toNat then Ao33 else (Ao33 : Option Addr).map (·.add ((4 : Int).toNat * 1))) := ⟨_, rfl⟩
                obtain ⟨c32, hc32⟩ : ∃ c1, c1 = co33 - (4 : Int).toNat := ⟨_, rfl⟩
                have hy32 : y137.length = t130.length - (4 : Int).toNat := (by rw [Ny137.out, List.length_drop] <;> omega)
                rw [show (t130).drop (4 : Int).toNat = y137 from Ny137.out.symm] at hr32
                replace hr32 : Kd.C Kd.string _ A32 y137.length y137 := (by rw [hA32]; exact hr32)
                rw [← hy32, ← hA32, ← hc32] at hcut32
                have HR140 := Aside0.mk hr32
                have HC140 := Aside0.mk (show y137.length ≤ c32 from by rw [hy32, hc32]; exact Nat.sub_le_sub_right hroom32 _)
                clear hr32 hC32 hroom32 hi032 hsz32 hc32
                have KY32 := Aside0.mk hy32
                have KA32 := Aside0.mk hA32
                clear hy32 hA32
                have KL32 := Aside0.mk (show 4 ≤ t130.length from by omega)
                replace q32 := eq_true q32
                try go_wp2_with (first | ((with_reducible refine gate_callee (f := 43) rfl ?_); refine goesL_ (some 45) rfl rfl Tryz.func43 (by kernel_rfl) rfl #[.slice A32 y137.length c32] rfl (by (try simp only [List.map_toArray, List.map_cons, List.map_nil]); first | done | rfl | (simp only [List.length_drop, List.length_take]; rfl)) ?_; (with_reducible refine (spec_decimals.calls kj8 _ _ y137 t141 true _ ?side1 ?side2 A24.out).mono ?_); (case side1 => repeat (first | exact (by repeat (first | (with_reducible exact HR140.out) | (with_reducible refine Kd.C_alloc ?_ _) | (with_reducible refine Kd.C_drewN ?_ _) | (with_reducible refine Kd.C_drew ?_) | exact HR140.out)) | (with_reducible refine Kd.C_alloc ?_ _) | (with_reducible refine Kd.C_drewN ?_ _) | (with_reducible refine Kd.C_drew ?_))); (case side2 => exact HC140.out); rintro e w34 ⟨v143, rfl, ho0, hb⟩; refine ⟨_, rfl, ?_⟩; have n0_ := Aside0.mk (Kd.S_elder' (by (with_reducible repeat (first | apply Kd.S_alloc | apply Kd.S_drewN | apply Kd.S_drew)); exact HO_5.out) (Kd.R_base ho0) hb); have n1_ := Aside0.mk (Kd.R_below (by (with_reducible repeat (first | apply Kd.R_alloc | apply Kd.R_drewN | apply Kd.R_drew)); exact HO_8.out) hb); have n2_ := Aside0.mk (Kd.R_below (by (with_reducible repeat (first | apply Kd.R_alloc | apply Kd.R_drewN | apply Kd.R_drew)); exact HO_12.out) hb); have n3_ := Aside0.mk (Kd.R_lower (Kd.R_newM (M := fun k_ => (w.heap.size ≤ k_)) ho0 (below_size belH) (fun k_ h_ => h_)) (below_size belH)); have n4_ := Aside0.mk (Kd.C_below (by repeat (first | (with_reducible exact HR140.out) | (with_reducible refine Kd.C_alloc ?_ _) | (with_reducible refine Kd.C_drewN ?_ _) | (with_reducible refine Kd.C_drew ?_) | exact HR140.out)) hb); have n5_ := Aside0.mk (below_step belH hb); clear HO_5; clear HO_8; clear HO_12; clear HR140; clear HB; have HO_5 := n0_; have HO_8 := n1_; have HO_12 := n2_; have HO144 := n3_; have HR140 := n4_; have HB := n5_; clear n0_ n1_ n2_ n3_ n4_ n5_; (try clear hb); (try clear hb2); (try clear hk); (try clear hi); (try clear ho0)))
                have n0_ := Aside0.mk (Kd.S_drew HO_5.out)
                have n1_ := Aside0.mk (Kd.R_drew HO_8.out)
                have n2_ := Aside0.mk (Kd.R_drew HO_12.out)
                have n3_ := Aside0.mk (Kd.R_drew HO144.out)
                have n4_ := Aside0.mk (Kd.C_drew HR140.out)
                have n5_ := Aside0.mk (below_drew1 HB.out)
                clear HO_5
                clear HO_8
                clear HO_12
                clear HO144
                clear HR140
                clear HB
                have HO_5 := n0_
                have HO_8 := n1_
                have HO_12 := n2_
                have HO144 := n3_
                have HR140 := n4_
                have HB := n5_
                clear n0_ n1_ n2_ n3_ n4_ n5_
                have p145 : 0 ≤ (1 : Int) := (by omega)
                have q145 : 1 < (t130.length : Int) := of_decide_eq_true (by first | (with_reducible assumption) | assumption)
                obtain ⟨ad145, e145, hx145_0⟩ := Kd.at_string (Kd.R_reads' HO_8.out).2.2 1 p145 q145
                cases e145
                (try simp only [show (1 : Int).toNat = 1 from rfl, Nat.reduceMul, Nat.reduceEqDiff, Go.Addr.add, ↓reduceIte] at hx145_0)
                have qi145 : (1 < t130.length) = True := eq_true (by omega)
                (try rw [show ((1 : Int)).toNat = 1 from rfl] at hx145_0)
                replace p145 := eq_true p145
                replace q145 := eq_true q145
                have p146 : 0 ≤ (1 : Int) := (by omega)
                have q146 : 1 < (t130.length : Int) := of_decide_eq_true (by first | (with_reducible assumption) | assumption)
                obtain ⟨ad146, e146, hx146_0⟩ := Kd.at_string (Kd.R_reads' HO_8.out).2.2 1 p146 q146
                obtain rfl : ad145 = ad146 := (by injection e146)
                (try simp only [show (1 : Int).toNat = 1 from rfl, Nat.reduceMul, Nat.reduceEqDiff, Go.Addr.add, ↓reduceIte] at hx146_0)
                have qi146 : (1 < t130.length) = True := eq_true (by omega)
                (try rw [show ((1 : Int)).toNat = 1 from rfl] at hx146_0)
                replace p146 := eq_true p146
                replace q146 := eq_true q146
                have p147 : 0 ≤ (3 : Int) := (by omega)
                have q147 : 3 < (t130.length : Int) := of_decide_eq_true (by first | (with_reducible assumption) | assumption)
                obtain ⟨ad147, e147, hx147_0⟩ := Kd.at_string (Kd.R_reads' HO_8.out).2.2 3 p147 q147
                obtain rfl : ad145 = ad147 := (by injection e147)
                (try simp only [show (3 : Int).toNat = 3 from rfl, Nat.reduceMul, Nat.reduceEqDiff, Go.Addr.add, ↓reduceIte] at hx147_0)
                have qi147 : (3 < t130.length) = True := eq_true (by omega)
                (try rw [show ((3 : Int)).toNat = 3 from rfl] at hx147_0)
                replace p147 := eq_true p147
                replace q147 := eq_true q147
                refine start_ (n := 19) (S := fun w' => w'.cell? ⟨ad145.block, ad145.off + 1, none⟩ = some (.string (rdOf ByteArray.empty t130 1)) ∧ w'.cell? ⟨ad145.block, ad145.off + 1, none⟩ = some (.string (rdOf ByteArray.empty t130 1)) ∧ w'.cell? ⟨ad145.block, ad145.off + 3, none⟩ = some (.string (rdOf ByteArray.empty t130 3))) (ds := [16, 17]) (tfA 0 19) (by kernel_rfl) rfl rfl ⟨hx145_0, hx146_0, hx147_0⟩ (fun hHeld => ?_); refine with_tabW spec_BuddyinfoRead.tab11 spec_BuddyinfoRead.bits11 (fun HT_ HW_ => ?_)
                generalize w34.drew = w35 at HO_5 HO_8 HO_12 HO144 HR140 HB hx145_0 hx146_0 hx147_0 hHeld ⊢
                refine pure_ (i := 0) (N := some 50) (v := ?_) (a' := ?_) (tfA 1 18) rfl rfl (any_of HT_.out (by kernel_rfl)) (fun _ _ _ h => h) (Or.inl ⟨by rfl, ?_⟩) ?_ ?_
                rotate_left
                ·intro w'
                 go_simp
                 with_reducible rfl
                rotate_left
                ·simp only [Act.put, sA, s0, s1, i64_w, i32_w]
                 rfl
                refine pure_ (i := 1) (N := some 51) (v := ?_) (a' := ?_) (tfA 2 17) rfl rfl (any_of HT_.out (by kernel_rfl)) (fun _ _ _ h => h) (Or.inl ⟨by rfl, ?_⟩) ?_ ?_
                rotate_left
                ·intro w'
                 go_simp
                 with_reducible rfl
                rotate_left
                ·simp only [Act.put, sA, s0, s1, i64_w, i32_w]
                 rfl
                refine pure_ (i := 2) (N := some 52) (v := ?_) (a' := ?_) (tfA 3 16) rfl rfl (any_of HT_.out (by kernel_rfl)) (fun _ _ _ h => h) (Or.inl ⟨by rfl, ?_⟩) ?_ ?_
                rotate_left
                ·intro w'
                 go_simp
                 with_reducible rfl
                rotate_left
                ·simp only [Act.put, sA, s0, s1, i64_w, i32_w]
                 rfl
                refine pure_ (i := 3) (N := some 53) (v := ?_) (a' := ?_) (tfA 4 15) rfl rfl (any_of HT_.out (by kernel_rfl)) (fun _ _ _ h => h) (Or.inl ⟨by rfl, ?_⟩) ?_ ?_
                rotate_left
                ·intro w'
                 go_simp
                 with_reducible rfl
                rotate_left
                ·simp only [Act.put, sA, s0, s1, i64_w, i32_w]
                 rfl
                refine pure_ (i := 5) (N := some 55) (v := ?_) (a' := ?_) (bnA 19 47) rfl rfl (any_of HT_.out (by kernel_rfl)) (fun _ _ _ h => h) (Or.inl ⟨by rfl, ?_⟩) ?_ ?_
                rotate_left
                ·intro w'
                 go_simp
                 with_reducible rfl
                rotate_left
                ·simp only [Act.put, sA, s0, s1, i64_w, i32_w]
                 rfl
                refine pure_ (i := 6) (N := some 56) (v := ?_) (a' := ?_) (bnA 19 111) rfl rfl (any_of HT_.out (by kernel_rfl)) (fun _ _ _ h => h) (Or.inl ⟨by rfl, ?_⟩) ?_ ?_
                rotate_left
                ·intro w'
                 go_simp
                 with_reducible rfl
                rotate_left
                ·simp only [Act.put, sA, s0, s1, i64_w, i32_w]
                 rfl
                refine pure_ (i := 11) (N := some 61) (v := ?_) (a' := ?_) (bnA 19 2159) rfl rfl (any_of HT_.out (by kernel_rfl)) (fun _ _ _ h => h) (Or.inl ⟨by rfl, ?_⟩) ?_ ?_
                rotate_left
                ·intro w'
                 go_simp
                 with_reducible rfl
                rotate_left
                ·simp only [Act.put, sA, s0, s1, i64_w, i32_w]
                 rfl
                refine pure_ (i := 12) (N := some 62) (v := ?_) (a' := ?_) (bnA 19 6255) rfl rfl (any_of HT_.out (by kernel_rfl)) (fun _ _ _ h => h) (Or.inl ⟨by rfl, ?_⟩) ?_ ?_
                rotate_left
                ·intro w'
                 go_simp
                 with_reducible rfl
                rotate_left
                ·simp only [Act.put, sA, s0, s1, i64_w, i32_w]
                 rfl
                refine take_ (i := 4) (N := some 54) (v := ?_) (a' := ?_) (bnA 19 6271) rfl rfl (take_ofW HT_.out HW_.out (by kernel_rfl)) (fun _ _ _ h => h) (Or.inl ⟨by rfl, ?_⟩) hHeld ?_ ?_
                rotate_left
                ·rintro w' ⟨s0, s1, s2⟩
                 go_simp
                 with_reducible rfl
                rotate_left
                ·simp only [Act.put, sA, s0, s1, i64_w, i32_w]
                 rfl
                refine take_ (i := 7) (N := some 57) (v := ?_) (a' := ?_) (bnA 19 6399) rfl rfl (take_ofW HT_.out HW_.out (by kernel_rfl)) (fun _ _ _ h => h) (Or.inl ⟨by rfl, ?_⟩) hHeld ?_ ?_
                rotate_left
                ·rintro w' ⟨s0, s1, s2⟩
                 go_simp
                 with_reducible rfl
                rotate_left
                ·simp only [Act.put, sA, s0, s1, i64_w, i32_w]
                 rfl
                refine pure_ (i := 8) (N := some 58) (v := ?_) (a' := ?_) (bnA 19 6655) rfl rfl (any_of HT_.out (by kernel_rfl)) (fun _ _ _ h => h) (Or.inl ⟨by rfl, ?_⟩) ?_ ?_
                rotate_left
                ·intro w'
                 go_simp
                 with_reducible rfl
                rotate_left
                ·simp only [Act.put, sA, s0, s1, i64_w, i32_w]
                 rfl
                refine pure_ (i := 9) (N := some 59) (v := ?_) (a' := ?_) (bnA 19 7167) rfl rfl (any_of HT_.out (by kernel_rfl)) (fun _ _ _ h => h) (Or.inl ⟨by rfl, ?_⟩) ?_ ?_
                rotate_left
                ·intro w'
                 go_simp
                 with_reducible rfl
                rotate_left
                ·simp only [Act.put, sA, s0, s1, i64_w, i32_w]
                 rfl
                refine pure_ (i := 10) (N := some 60) (v := ?_) (a' := ?_) (tfA 13 6) rfl rfl (any_of HT_.out (by kernel_rfl)) (fun _ _ _ h => h) (Or.inl ⟨by rfl, ?_⟩) ?_ ?_
                rotate_left
                ·intro w'
                 go_simp
                 with_reducible rfl
                rotate_left
                ·simp only [Act.put, sA, s0, s1, i64_w, i32_w]
                 rfl
                refine take_ (i := 13) (N := some 63) (v := ?_) (a' := ?_) (tfA 14 5) rfl rfl (take_ofW HT_.out HW_.out (by kernel_rfl)) (fun _ _ _ h => h) (Or.inl ⟨by rfl, ?_⟩) hHeld ?_ ?_
                rotate_left
                ·rintro w' ⟨s0, s1, s2⟩
                 go_simp
                 with_reducible rfl
                rotate_left
                ·simp only [Act.put, sA, s0, s1, i64_w, i32_w]
                 rfl
                refine one_ (i := 14) (N := some 64) (tfA 15 4) rfl rfl (one_of HT_.out (by kernel_rfl)) (by decide) (fun K hK => ?_)
                refine Kd.R_lit_step Kd.string _ 9 ?hg (N := 64) ?hd (xs := ([(rdOf ByteArray.empty t130 1).extract 0 ((ji27) : Int).toNat, rdOf ByteArray.empty t130 3] : List ByteArray)) (inner := [.string ((rdOf ByteArray.empty t130 1).extract 0 ((ji27) : Int).toNat), .string (rdOf ByteArray.empty t130 3)]) (ok := fun _ => True) (okp := fun _ => True) ?hr ?hp (fun _ hk => hk) trivial (Below.refl _ _) (Nat.le_refl _) (by simp) ?_; (case hd => rfl); (case hg => rfl); (case hr => first | (go_simp; done) | (go_simp; rfl)); (case hp => exact (Reps.one (show Kd.M Kd.string _ _ _ ((rdOf ByteArray.empty t130 1).extract 0 ((ji27) : Int).toNat) [.string ((rdOf ByteArray.empty t130 1).extract 0 ((ji27) : Int).toNat)] from rfl) (Reps.one (show Kd.M Kd.string _ _ _ (rdOf ByteArray.empty t130 3) [.string (rdOf ByteArray.empty t130 3)] from rfl) (Reps.none _ _))))
                intro v149 w36 ho37 hb hg_ hnew_
                have HS0_ := (hb.cell (World.block_lt_of_cell? _ _ (hHeld.1))).trans (hHeld.1)
                have HS1_ := (hb.cell (World.block_lt_of_cell? _ _ (hHeld.2.1))).trans (hHeld.2.1)
                have HS2_ := (hb.cell (World.block_lt_of_cell? _ _ (hHeld.2.2))).trans (hHeld.2.2)
                clear hg_ hnew_
                (first | rw [← Ny148.out] at ho37 | (simp only [Int.reduceToNat] at ho37; rw [← Ny148.out] at ho37))
                have n0_ := Aside0.mk (Kd.S_elder' (by (with_reducible repeat (first | apply Kd.S_alloc | apply Kd.S_drewN | apply Kd.S_drew)); exact HO_5.out) (Kd.R_base ho37) hb)
                have n1_ := Aside0.mk (Kd.R_elder' (by (with_reducible repeat (first | apply Kd.R_alloc | apply Kd.R_drewN | apply Kd.R_drew)); exact HO_8.out) (Kd.R_base ho37) hb)
                have n2_ := Aside0.mk (Kd.R_elder' (by (with_reducible repeat (first | apply Kd.R_alloc | apply Kd.R_drewN | apply Kd.R_drew)); exact HO_12.out) (Kd.R_base ho37) hb)
                have n3_ := Aside0.mk (Kd.R_below (by (with_reducible repeat (first | apply Kd.R_alloc | apply Kd.R_drewN | apply Kd.R_drew)); exact HO144.out) hb)
                have n4_ := Aside0.mk (Kd.R_lower (Kd.R_new' (Kd.R_new' (Kd.R_newM (M := fun k_ => (w.heap.size ≤ k_)) ho37 (below_size belH) (fun k_ h_ => h_)) (Kd.R_lt (by (with_reducible repeat (first | apply Kd.R_alloc | apply Kd.R_drewN | apply Kd.R_drew)); exact HO_8.out))) (Kd.R_lt (by (with_reducible repeat (first | apply Kd.R_alloc | apply Kd.R_drewN | apply Kd.R_drew)); exact HO_12.out))) (below_size belH))
                have n5_ := Aside0.mk (Kd.C_below (by repeat (first | (with_reducible exact HR140.out) | (with_reducible refine Kd.C_alloc ?_ _) | (with_reducible refine Kd.C_drewN ?_ _) | (with_reducible refine Kd.C_drew ?_) | exact HR140.out)) hb)
                have n6_ := Aside0.mk (below_step belH hb)
                clear HO_5
                clear HO_8
                clear HO_12
                clear HO144
                clear HR140
                clear HB
                have HO_5 := n0_
                have HO_8 := n1_
                have HO_12 := n2_
                have HO144 := n3_
                have HO150 := n4_
                have HR140 := n5_
                have HB := n6_
                clear n0_ n1_ n2_ n3_ n4_ n5_ n6_
                clear hb ho37
                obtain ⟨Ao38, co38, eo38⟩ := Kd.R_slice HO150.out
                (first | subst eo38 | (injection eo38 with f1_ f2_ f3_; have f4_ := f1_.symm; have f5_ := f3_.symm; clear f1_ f2_ f3_; subst f4_; subst f5_))
                obtain ⟨Ao39, co39, eo39⟩ := Kd.R_slice HO144.out
                (first | subst eo39 | (injection eo39 with f1_ f2_ f3_; have f4_ := f1_.symm; have f5_ := f3_.symm; clear f1_ f2_ f3_; subst f4_; subst f5_))
                refine hK.out _ _ ⟨HS0_, HS1_, HS2_⟩ (fun hHeld => ?_)
                clear hK K
                refine norm_ (a' := ?_) ?_ ?_
                rotate_left
                ·show Act.put _ (some 64) _ = _
                 simp only [Act.put, sA, s0, s1, i64_w, i32_w]
                 rfl
                refine pure_ (i := 15) (N := some 65) (v := ?_) (a' := ?_) (tfA 16 3) rfl rfl (any_of HT_.out (by kernel_rfl)) (fun _ _ _ h => h) (Or.inl ⟨by rfl, ?_⟩) ?_ ?_
                rotate_left
                ·intro w'
                 go_simp
                 with_reducible rfl
                rotate_left
                ·simp only [Act.put, sA, s0, s1, i64_w, i32_w]
                 rfl
                refine last_ (i := 16) (N := some 66) (tfA 17 2) rfl rfl (one_of HT_.out (by kernel_rfl)) (by decide) (fun K hK => ?_)
                refine value_ (w1 := ?_) (v := ?_) (by rfl) rfl ?_ ?_
                rotate_left 2
                ·go_simp
                 constructor
                 ·rfl
                 ·rfl
                refine hK.out _ _ ?_
                clear hK K
                refine norm_ (a' := ?_) ?_ ?_
                rotate_left
                ·show Act.put _ (some 66) _ = _
                 simp only [Act.put, sA, s0, s1, i64_w, i32_w]
                 rfl
                refine last_ (i := 17) (N := some 67) (tfA 18 1) rfl rfl (one_of HT_.out (by kernel_rfl)) (by decide) (fun K hK => ?_)
                refine Kd.S_append_step k48 (w0 := w) w.heap.size (by rfl) (.tmp 50) (.tmp 66) 27 48 (.agg #[(.string ⟨#[]⟩), (.slice none 0 0), (.slice none 0 0)]) 64 rfl Tryz.underlying27 info48 rfl (by decide) (by omega) u5 x5_1 (⟨(⟨#[]⟩ : ByteArray), t141, y148⟩ : S48) [.string (⟨#[]⟩ : ByteArray), .slice Ao39 t141.length co39, .slice Ao38 y148.length co38] (fun k_ => (w.heap.size ≤ k_) ∧ some k_ ≠ (.slice (some ad145) t130.length co33 : Value).ownBlock ∧ some k_ ≠ (.slice (some ad129) t121.length co4 : Value).ownBlock) (fun k_ => some k_ = (.slice Ao39 t141.length co39 : Value).ownBlock ∨ some k_ = (.slice Ao38 y148.length co38 : Value).ownBlock) rfl rfl ?aP (fun k_ hk_ => hk_.elim (fun h_ => ((Kd.R_mono (ok' := fun k_ => ((fun k_ => (w.heap.size ≤ k_) ∧ some k_ ≠ (.slice (some ad145) t130.length co33 : Value).ownBlock ∧ some k_ ≠ (.slice (some ad129) t121.length co4 : Value).ownBlock)) k_ ∧ some k_ ≠ (u5 : Value).ownBlock) (Kd.R_apart' (Kd.R_apart' (Kd.R_apart' (HO144.out) (Kd.R_typed HO_8.out) (by decide)) (Kd.R_typed HO_12.out) (by decide)) (Kd.S_typed HO_5.out) (by decide)) (fun k_ hk => ⟨⟨hk.1.1.1.1, ⟨hk.1.1.2, hk.1.2⟩⟩, hk.2⟩))).1 k_ h_.symm) (fun h_ => ((Kd.R_mono (ok' := fun k_ => ((fun k_ => (w.heap.size ≤ k_) ∧ some k_ ≠ (.slice (some ad145) t130.length co33 : Value).ownBlock ∧ some k_ ≠ (.slice (some ad129) t121.length co4 : Value).ownBlock)) k_ ∧ some k_ ≠ (u5 : Value).ownBlock) (Kd.R_apart' (HO150.out) (Kd.S_typed HO_5.out) (by decide)) (fun k_ hk => ⟨⟨hk.1.1.1.1, ⟨hk.1.1.2, hk.1.2⟩⟩, hk.2⟩))).1 k_ h_.symm)) ?aF ?aO ?aB ?aS ?aL ?_
                (case aP => exact k48_mkM _ _ _ (⟨(⟨#[]⟩ : ByteArray), t141, y148⟩ : S48) (Kd.R_mono (Kd.R_tight rfl (Kd.R_mono (ok' := fun k_ => ((fun k_ => (w.heap.size ≤ k_) ∧ some k_ ≠ (.slice (some ad145) t130.length co33 : Value).ownBlock ∧ some k_ ≠ (.slice (some ad129) t121.length co4 : Value).ownBlock)) k_ ∧ some k_ ≠ (u5 : Value).ownBlock) (Kd.R_apart' (Kd.R_apart' (Kd.R_apart' (HO144.out) (Kd.R_typed HO_8.out) (by decide)) (Kd.R_typed HO_12.out) (by decide)) (Kd.S_typed HO_5.out) (by decide)) (fun k_ hk => ⟨⟨hk.1.1.1.1, ⟨hk.1.1.2, hk.1.2⟩⟩, hk.2⟩))) (fun _ h_ => Or.inl h_)) (Kd.R_mono (Kd.R_tight rfl (Kd.R_mono (ok' := fun k_ => ((fun k_ => (w.heap.size ≤ k_) ∧ some k_ ≠ (.slice (some ad145) t130.length co33 : Value).ownBlock ∧ some k_ ≠ (.slice (some ad129) t121.length co4 : Value).ownBlock)) k_ ∧ some k_ ≠ (u5 : Value).ownBlock) (Kd.R_apart' (HO150.out) (Kd.S_typed HO_5.out) (by decide)) (fun k_ hk => ⟨⟨hk.1.1.1.1, ⟨hk.1.1.2, hk.1.2⟩⟩, hk.2⟩))) (fun _ h_ => Or.inr (h_))))
                (case aB => exact belH)
                (case aF => exact (fun k_ hk => ⟨(Nat.le_trans (below_size belH) hk), Kd.fresh' (Kd.R_lt (by (with_reducible repeat (first | apply Kd.R_alloc | apply Kd.R_drewN | apply Kd.R_drew)); exact HO_8.out)) k_ hk, Kd.fresh' (Kd.R_lt (by (with_reducible repeat (first | apply Kd.R_alloc | apply Kd.R_drewN | apply Kd.R_drew)); exact HO_12.out)) k_ hk⟩))
                (case aO => exact (by (with_reducible repeat (first | apply Kd.S_alloc | apply Kd.S_drewN | apply Kd.S_drew)); exact Kd.S_mono HO_5.out (fun k_ hk => ⟨⟨hk.1.1.1, ⟨hk.1.1.2.1, hk.1.1.2.2⟩⟩, fun e_ => e_.elim (fun h_ => hk.1.2 h_) (fun h_ => hk.2 h_)⟩)))
                (case aS => exact (below_size belH))
                (case aL => have := LMc31.out; omega)
                intro v152 w40 ho hb hg hat
                rw [← Ny151.out] at ho
                have n0_ := Aside0.mk (Kd.R_over' (by (with_reducible repeat (first | apply Kd.R_alloc | apply Kd.R_drewN | apply Kd.R_drew)); exact HO_8.out) (Kd.S_typed (by (with_reducible repeat (first | apply Kd.S_alloc | apply Kd.S_drewN | apply Kd.S_drew)); exact HO_5.out)) (by decide) hg)
                have n1_ := Aside0.mk (Kd.R_over' (by (with_reducible repeat (first | apply Kd.R_alloc | apply Kd.R_drewN | apply Kd.R_drew)); exact HO_12.out) (Kd.S_typed (by (with_reducible repeat (first | apply Kd.S_alloc | apply Kd.S_drewN | apply Kd.S_drew)); exact HO_5.out)) (by decide) hg)
                have n2_ := Aside0.mk (hb)
                have n3_ := Aside0.mk ((show Kd.C Kd.string w40 A32 y137.length y137 from by rw [Ny137.out, KA32.out]; exact Kd.C_drop (m := 4) (c := co33) ((Kd.R_reads' (Kd.R_over' (by (with_reducible repeat (first | apply Kd.R_alloc | apply Kd.R_drewN | apply Kd.R_drew)); exact HO_8.out) (Kd.S_typed (by (with_reducible repeat (first | apply Kd.S_alloc | apply Kd.S_drewN | apply Kd.S_drew)); exact HO_5.out)) (by decide) hg)).2.2) KL32.out ((Kd.R_reads' (Kd.R_over' (by (with_reducible repeat (first | apply Kd.R_alloc | apply Kd.R_drewN | apply Kd.R_drew)); exact HO_8.out) (Kd.S_typed (by (with_reducible repeat (first | apply Kd.S_alloc | apply Kd.S_drewN | apply Kd.S_drew)); exact HO_5.out)) (by decide) hg)).2.1)))
                have n4_ := Aside0.mk (ho)
                clear HO_8
                clear HO_12
                clear HB
                clear HR140
                clear HO_5
                clear HO144
                clear HO150
                have HO_8 := n0_
                have HO_12 := n1_
                have HB := n2_
                have HR140 := n3_
                have HO153 := n4_
                clear n0_ n1_ n2_ n3_ n4_
                clear ho hb hg hat
                refine hK.out _ _ ?_
                clear hK K
                refine norm_ (a' := ?_) ?_ ?_
                rotate_left
                ·show Act.put _ (some 67) _ = _
                 simp only [Act.put, sA, s0, s1, i64_w, i32_w]
                 rfl
                refine pure_ (i := 18) (N := some 5) (v := ?_) (a' := ?_) (tfA 19 0) rfl rfl (any_of HT_.out (by kernel_rfl)) (fun _ _ _ h => h) (Or.inl ⟨by rfl, ?_⟩) ?_ ?_
                rotate_left
                ·intro w'
                 go_simp
                 with_reducible rfl
                rotate_left
                ·simp only [Act.put, sA, s0, s1, i64_w, i32_w]
                 rfl
                refine done_ (done_of HT_.out (by kernel_rfl)) ?_
                try go_wp2
                go_roundg kj8
                case measure => have := HK1.out; have := HJ8.out; omega
                case rel => exact ⟨(y151), (wrap64 (x14_1 + 1)), (by first | rfl | (simp; done) | (simp [*]; done) | (simp [bne_nil]; done) | (simp [bne_nil, *]; done)), H', ⟨by have := HK1.out; have := HJ8.out; omega⟩, ⟨by (with_reducible repeat (first | apply Kd.S_alloc | apply Kd.S_drewN | apply Kd.S_drew)); exact Kd.S_mono HO153.out (fun _ hk => ⟨hk.1, hk.2.2⟩)⟩, ⟨by (with_reducible repeat (first | apply Kd.R_alloc | apply Kd.R_drewN | apply Kd.R_drew)); exact Kd.R_mono HO_12.out (fun _ hk => hk.1.1)⟩, ⟨by repeat (first | (with_reducible first | exact HB.out | apply below_alloc | apply pw_below_drewN | apply below_drew1) | exact HB.out)⟩⟩
               ·rw [if_neg c31] at H
                exact absurd H (by simp)
              ·rw [if_neg c30] at H
               exact absurd H (by simp)
             ·rw [if_neg c29] at H
              exact absurd H (by simp)
            ·rw [if_neg c28] at H
             exact absurd H (by simp)
           ·rw [if_neg c26] at H
            exact absurd H (by simp)
          ·replace c25 := Bool.eq_false_iff.mpr c25
           subst c25
           have H1 : (some (([] : List (S48)), false, 2)) = some (r1, r2, r3) := by rw [if_neg (show ¬ (false = true) by decide)] at H; exact H
           clear H
           have H := H1
           clear H1
           simp only [Option.some.injEq, Prod.mk.injEq] at H
           obtain ⟨rfl, rfl, rfl⟩ := H
           obtain ⟨Ao42, co42, eo42⟩ := Kd.R_slice HO_8.out
           subst eo42
           have q41 : (4 : Int) ≤ ((t130.length : Int) : Int) := of_decide_eq_true (by first | (with_reducible assumption) | assumption)
           obtain ⟨i041, hi041, _, hsz41, _⟩ := info_parts info9
           have hroom41 : t130.length ≤ co42 := (Kd.R_reads' HO_8.out).2.1
           have hC41 : Kd.C Kd.string _ Ao42 t130.length t130 := (Kd.R_reads' HO_8.out).2.2
           have hcut41 := cut_from (P := Tryz.prog) 42 9 .i64 Tryz.underlying42 hi041 1 hsz41 Ao42 t130.length co42 4 (by omega) q41
           have hr41 := Kd.C_drop (m := (4 : Int).toNat) (c := co42) hC41 (by omega) hroom41
           obtain ⟨A41, hA41⟩ : ∃ A1, A1 = (if co42 = (4 : Int).toNat then Ao42 else (Ao42 : Option Addr).map (·.add ((4 : Int).toNat * 1))) := ⟨_, rfl⟩
           obtain ⟨c41, hc41⟩ : ∃ c1, c1 = co42 - (4 : Int).toNat := ⟨_, rfl⟩
           have hy41 : y137.length = t130.length - (4 : Int).toNat := (by rw [Ny137.out, List.length_drop] <;> omega)
           rw [show (t130).drop (4 : Int).toNat = y137 from Ny137.out.symm] at hr41
           replace hr41 : Kd.C Kd.string _ A41 y137.length y137 := (by rw [hA41]; exact hr41)
           rw [← hy41, ← hA41, ← hc41] at hcut41
           have HR140 := Aside0.mk hr41
           have HC140 := Aside0.mk (show y137.length ≤ c41 from by rw [hy41, hc41]; exact Nat.sub_le_sub_right hroom41 _)
           clear hr41 hC41 hroom41 hi041 hsz41 hc41
           have KY41 := Aside0.mk hy41
           have KA41 := Aside0.mk hA41
           clear hy41 hA41
           have KL41 := Aside0.mk (show 4 ≤ t130.length from by omega)
           replace q41 := eq_true q41
           go_wp2_with (first | ((with_reducible refine gate_callee (f := 43) rfl ?_); refine goesL_ (some 45) rfl rfl Tryz.func43 (by kernel_rfl) rfl #[.slice A41 y137.length c41] rfl (by (try simp only [List.map_toArray, List.map_cons, List.map_nil]); first | done | rfl | (simp only [List.length_drop, List.length_take]; rfl)) ?_; (with_reducible refine (spec_decimals.calls kj8 _ _ y137 t141 false _ ?side1 ?side2 A24.out).mono ?_); (case side1 => repeat (first | exact (by repeat (first | (with_reducible exact HR140.out) | (with_reducible refine Kd.C_alloc ?_ _) | (with_reducible refine Kd.C_drewN ?_ _) | (with_reducible refine Kd.C_drew ?_) | exact HR140.out)) | (with_reducible refine Kd.C_alloc ?_ _) | (with_reducible refine Kd.C_drewN ?_ _) | (with_reducible refine Kd.C_drew ?_))); (case side2 => exact HC140.out); rintro e w43 ⟨v143, rfl, ho0, hb⟩; refine ⟨_, rfl, ?_⟩; have n0_ := Aside0.mk (Kd.S_elder' (by (with_reducible repeat (first | apply Kd.S_alloc | apply Kd.S_drewN | apply Kd.S_drew)); exact HO_5.out) (Kd.R_base ho0) hb); have n1_ := Aside0.mk (Kd.R_below (by (with_reducible repeat (first | apply Kd.R_alloc | apply Kd.R_drewN | apply Kd.R_drew)); exact HO_8.out) hb); have n2_ := Aside0.mk (Kd.R_below (by (with_reducible repeat (first | apply Kd.R_alloc | apply Kd.R_drewN | apply Kd.R_drew)); exact HO_12.out) hb); have n3_ := Aside0.mk (Kd.R_lower (Kd.R_newM (M := fun k_ => (w.heap.size ≤ k_)) ho0 (below_size belH) (fun k_ h_ => h_)) (below_size belH)); have n4_ := Aside0.mk (Kd.C_below (by repeat (first | (with_reducible exact HR140.out) | (with_reducible refine Kd.C_alloc ?_ _) | (with_reducible refine Kd.C_drewN ?_ _) | (with_reducible refine Kd.C_drew ?_) | exact HR140.out)) hb); have n5_ := Aside0.mk (below_step belH hb); clear HO_5; clear HO_8; clear HO_12; clear HR140; clear HB; have HO_5 := n0_; have HO_8 := n1_; have HO_12 := n2_; have HO144 := n3_; have HR140 := n4_; have HB := n5_; clear n0_ n1_ n2_ n3_ n4_ n5_; (try clear hb); (try clear hb2); (try clear hk); (try clear hi); (try clear ho0)))
           go_ret3
           exact ⟨_, by first | rfl | (simp [errW_none, errW_some] <;> rfl) | (simp [*, errW_none, errW_some] <;> rfl), Kd.V_nil _ _ _ _ _, by repeat (first | (with_reducible first | exact HB.out | apply below_alloc | apply pw_below_drewN | apply below_drew1) | exact HB.out)⟩
         ·rw [if_neg c23] at H
          exact absurd H (by simp)
     ·rw [if_neg c7] at H
      exact absurd H (by simp)
    ·rw [if_neg c6] at H
     exact absurd H (by simp)
   ·rw [if_neg c5] at H
    have c5b0 : decide (x14_1 < (t121.length : Int)) = false := decide_eq_false c5
    clear c5
    replace H := Option.bind_eq_some_iff.mp H
    obtain ⟨⟨t124, t127, t128⟩, A440, H⟩ := H
    have A44 := Aside0.mk A440
    clear A440
    simp only [Option.some.injEq, Prod.mk.injEq] at H
    obtain ⟨rfl, rfl, rfl⟩ := H
    obtain ⟨Ao45, co45, eo45⟩ := Kd.S_slice HO_5.out
    subst eo45
    go_wp2_with (first | ((with_reducible refine gate_callee (f := 44) rfl ?_); refine goesL_ (some 71) rfl rfl Tryz.func44 (by kernel_rfl) rfl #[.string a0, .slice Ao45 x5_1.length co45, .bool true, .func (.func 16) #[] #[], .bool false] rfl (by (try simp only [List.map_toArray, List.map_cons, List.map_nil]); first | done | rfl | (simp only [List.length_drop, List.length_take]; rfl)) ?_; (with_reducible refine (spec_meant__BuddyinfoPrint.calls k1 a0 (fun k_ => ((w.heap.size ≤ k_) ∧ some k_ ≠ (.slice Ao4 t121.length co4 : Value).ownBlock)) _ _ x5_1 true  false t124 t127 t128 _ ?side1 A44.out).mono ?_); (case side1 => exact Kd.S_V (HO_5.out)); rintro e w46 ⟨v125, rfl, ho0, hb⟩; refine ⟨_, rfl, ?_⟩; have n0_ := Aside0.mk (Kd.S_below (by (with_reducible repeat (first | apply Kd.S_alloc | apply Kd.S_drewN | apply Kd.S_drew)); exact HO_5.out) hb); have n1_ := Aside0.mk (Kd.R_below (by (with_reducible repeat (first | apply Kd.R_alloc | apply Kd.R_drewN | apply Kd.R_drew)); exact HO_12.out) hb); have n2_ := Aside0.mk (Kd.V_lower (Kd.V_mono (ok' := fun k_ => (w.heap.size ≤ k_) ∧ some k_ ≠ (.slice Ao4 t121.length co4 : Value).ownBlock) ho0 (fun k_ hk_ => ⟨Or.elim hk_ (fun hs_ => hs_.1) (fun hn_ => (Nat.le_trans (below_size belH) hn_)), Or.elim hk_ (fun hs_ => hs_.2) (fun hn_ => (Kd.fresh' (Kd.R_lt (by (with_reducible repeat (first | apply Kd.R_alloc | apply Kd.R_drewN | apply Kd.R_drew)); exact HO_12.out)) k_ hn_))⟩)) (below_size belH)); have n3_ := Aside0.mk (below_step belH hb); clear HO_5; clear HO_12; clear HB; have HO_5 := n0_; have HO_12 := n1_; have HO126 := n2_; have HB := n3_; clear n0_ n1_ n2_ n3_; (try clear hb); (try clear hb2); (try clear hk); (try clear hi); (try clear ho0)))
    go_ret3
    exact ⟨_, by first | rfl | (simp [errW_none, errW_some] <;> rfl) | (simp [*, errW_none, errW_some] <;> rfl), by (with_reducible repeat (first | apply Kd.V_alloc | apply Kd.V_drewN | apply Kd.V_drew)); exact Kd.V_mono HO126.out (fun _ hk => hk.1), by repeat (first | (with_reducible first | exact HB.out | apply below_alloc | apply pw_below_drewN | apply below_drew1) | exact HB.out)⟩

end Go.Proofs.YtdmpbaanonafbaaGreatDoor.I
