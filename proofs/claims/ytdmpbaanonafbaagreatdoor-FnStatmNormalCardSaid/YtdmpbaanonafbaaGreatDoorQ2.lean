-- written by a program of this session (wip/tools/pp.py)
import Derived.Test.YtdmpbaanonafbaaGreatDoorQ0
import Derived.Test.YtdmpbaanonafbaaGreatDoorQ1
namespace Go.Proofs.YtdmpbaanonafbaaGreatDoor.Q
open Go.RowKit Go.Proofs.YtdmpbaanonafbaaGreatDoorW.PrintWords Go.Proofs.YtdmpbaanonafbaaGreatDoorW.PrintLast Go.Proofs.YtdmpbaanonafbaaGreatDoor.Flt Go.Proofs.YtdmpbaanonafbaaGreatDoor.GivZ Go.Proofs.YtdmpbaanonafbaaGreatDoor.E Go.Proofs.YtdmpbaanonafbaaGreatDoor.DoorStatm Go.Proofs.YtdmpbaanonafbaaGreatDoor.Lives Go.Proofs.YtdmpbaanonafbaaGreatDoorW.PrintMore
attribute [local go_sem] max2_int min2_int max_two min_two max_three min_three max_four min_four   -- for this text's walks alone
set_option linter.unusedVariables false
set_option linter.unusedSimpArgs false

/-! ### spec_StatmPrint: function 19 -/
def spec_StatmPrint.f (k : Nat) (l0 : List (S48)) : Option (ByteArray × Int) := if (l0.length : Int) = 1 then (if 0 < (l0.length : Int) then (if ((rd_T48 l0 0).f0).toList = ([] : List UInt8) then ((spec_sized.f ((rd_T48 l0 0).f0) ((rd_T48 l0 0).f1) ((rd_T48 l0 0).f2) 7 0).bind fun t119 => (if t119 = true then ((spec_numbers.f k ((rd_T48 l0 0).f1) (⟨#[32]⟩ : ByteArray)).bind fun t121 => (if t121.size + 1 ≤ 9223372036854775807 then (some (t121 ++ (⟨#[10]⟩ : ByteArray), 1)) else (none))) else (some ((⟨#[]⟩ : ByteArray), 2)))) else (some ((⟨#[]⟩ : ByteArray), 2))) else (none)) else (some ((⟨#[]⟩ : ByteArray), 2))
theorem spec_StatmPrint.mono : ∀ a0 k, LeO (spec_StatmPrint.f k a0) (spec_StatmPrint.f (k + 1) a0) := by
 intro a0 k
 unfold spec_StatmPrint.f
 repeat' first
   | (with_reducible exact spec_numbers.mono _ _ _)
   | (with_reducible exact LeO.refl _)
   | (with_reducible exact LeO.none _)
   | (with_reducible refine LeO.ite ?_ ?_)
   | (with_reducible refine LeO.bind ?_ (fun _ => ?_))
   | exact spec_numbers.mono _ _ _
   | exact LeO.none _
   | refine LeO.ite ?_ ?_
   | refine LeO.bind ?_ (fun _ => ?_)
set_option maxHeartbeats 8000000 in
set_option maxRecDepth 100000 in
theorem spec_StatmPrint.calls (k : Nat) (A0 : Option Addr) (c0 : Nat) (l0 : List (S48)) (r1 : ByteArray) (r2 : Int) (w : World) (hr0 : Kd.C k48 w A0 l0.length l0) (hc0 : l0.length ≤ c0) (h : spec_StatmPrint.f k l0 = some (r1, r2)) :
  Calls Tryz.prog 19 #[.slice A0 l0.length c0] w fun e w' => e = .returned (.tuple #[.string r1, .int .i64 r2]) ∧ Below w.heap.size w w' := by
 have hu48 := Tryz.underlying48
 have HR0 := Aside0.mk hr0
 have HC0 := Aside0.mk hc0
 clear hr0 hc0
 have HB := Aside0.mk (Below.refl w.heap.size w)
 have H : (if (l0.length : Int) = 1 then (if 0 < (l0.length : Int) then (if ((rd_T48 l0 0).f0).toList = ([] : List UInt8) then ((spec_sized.f ((rd_T48 l0 0).f0) ((rd_T48 l0 0).f1) ((rd_T48 l0 0).f2) 7 0).bind fun t119 => (if t119 = true then ((spec_numbers.f k ((rd_T48 l0 0).f1) (⟨#[32]⟩ : ByteArray)).bind fun t121 => (if t121.size + 1 ≤ 9223372036854775807 then (some (t121 ++ (⟨#[10]⟩ : ByteArray), 1)) else (none))) else (some ((⟨#[]⟩ : ByteArray), 2)))) else (some ((⟨#[]⟩ : ByteArray), 2))) else (none)) else (some ((⟨#[]⟩ : ByteArray), 2))) = some (r1, r2) := h
 clear h
 by_cases c2 : (l0.length : Int) = 1
 ·rw [if_pos c2] at H
  have c2b0 : ((l0.length : Int) == 1) = true := beq_iff_eq.mpr c2
  have c2b1 : ((l0.length : Int) != 1) = false := bne_eq_false_iff_eq.mpr c2
  clear c2
  by_cases c3 : 0 < (l0.length : Int)
  ·rw [if_pos c3] at H
   have c3b0 : decide (0 < (l0.length : Int)) = true := decide_eq_true c3
   have c3b1 : decide (0 < l0.length) = true := decide_eq_true (by omega)
   clear c3
   by_cases c4 : ((rd_T48 l0 0).f0).toList = ([] : List UInt8)
   ·rw [if_pos c4] at H
    have c4b0 : (((rd_T48 l0 0).f0).toList == ([] : List UInt8)) = true := beq_iff_eq.mpr c4
    have c4b1 : (((rd_T48 l0 0).f0).toList != ([] : List UInt8)) = false := bne_eq_false_iff_eq.mpr c4
    clear c4
    replace H := Option.bind_eq_some_iff.mp H
    obtain ⟨t119, A50, H⟩ := H
    replace H : (if t119 = true then ((spec_numbers.f k ((rd_T48 l0 0).f1) (⟨#[32]⟩ : ByteArray)).bind fun t121 => (if t121.size + 1 ≤ 9223372036854775807 then (some (t121 ++ (⟨#[10]⟩ : ByteArray), 1)) else (none))) else (some ((⟨#[]⟩ : ByteArray), 2))) = some (r1, r2) := H
    have A5 := Aside0.mk A50
    clear A50
    by_cases c6 : t119 = true
    ·subst c6
     have H1 : ((spec_numbers.f k ((rd_T48 l0 0).f1) (⟨#[32]⟩ : ByteArray)).bind fun t121 => (if t121.size + 1 ≤ 9223372036854775807 then (some (t121 ++ (⟨#[10]⟩ : ByteArray), 1)) else (none))) = some (r1, r2) := by rw [if_pos rfl] at H; exact H
     clear H
     have H := H1
     clear H1
     replace H := Option.bind_eq_some_iff.mp H
     obtain ⟨t121, A70, H⟩ := H
     replace H : (if t121.size + 1 ≤ 9223372036854775807 then (some (t121 ++ (⟨#[10]⟩ : ByteArray), 1)) else (none)) = some (r1, r2) := H
     have A7 := Aside0.mk A70
     clear A70
     by_cases c8 : t121.size + 1 ≤ 9223372036854775807
     ·rw [if_pos c8] at H
      have c8b0 := eq_true c8
      have c8b1 : decide (t121.size + 1 ≤ 9223372036854775807) = true := decide_eq_true c8
      try have c8b2 : (9223372036854775807 < t121.size + 1) = False := eq_false (Nat.not_lt.2 c8)
      simp only [Option.some.injEq, Prod.mk.injEq] at H
      obtain ⟨rfl, rfl⟩ := H
      have p117 : 0 ≤ (0 : Int) := (by omega)
      have q117 : 0 < (l0.length : Int) := of_decide_eq_true (by first | (with_reducible assumption) | assumption)
      obtain ⟨ad117, A117_1, c117_1, A117_2, c117_2, e117, hx117_0, hx117_1, hx117_2, hl117_1, hi117_1, hl117_2, hi117_2⟩ := at_T48 HR0.out 0 p117 q117
      cases e117
      have qi117 : (0 < l0.length) = True := eq_true (by omega)
      (try rw [show ((0 : Int)).toNat = 0 from rfl] at hx117_0)
      (try rw [show 0 * 3 = 0 from rfl] at hx117_0)
      (try rw [Addr.add_zero'] at hx117_0)
      (try rw [show ((0 : Int)).toNat = 0 from rfl] at hx117_1)
      (try rw [show 0 * 3 = 0 from rfl] at hx117_1)
      (try rw [Addr.add_zero'] at hx117_1)
      (try rw [show ((0 : Int)).toNat = 0 from rfl] at hx117_2)
      (try rw [show 0 * 3 = 0 from rfl] at hx117_2)
      (try rw [Addr.add_zero'] at hx117_2)
      have HR117_1 := Aside0.mk hi117_1
      have HC117_1 := Aside0.mk hl117_1
      clear hi117_1 hl117_1
      have HR117_2 := Aside0.mk hi117_2
      have HC117_2 := Aside0.mk hl117_2
      clear hi117_2 hl117_2
      replace p117 := eq_true p117
      replace q117 := eq_true q117
      have p118 : 0 ≤ (0 : Int) := (by omega)
      have q118 : 0 < (l0.length : Int) := of_decide_eq_true (by first | (with_reducible assumption) | assumption)
      obtain ⟨ad118, A118_1, c118_1, A118_2, c118_2, e118, hx118_0, hx118_1, hx118_2, hl118_1, hi118_1, hl118_2, hi118_2⟩ := at_T48 HR0.out 0 p118 q118
      obtain rfl : ad117 = ad118 := (by injection e118)
      have qi118 : (0 < l0.length) = True := eq_true (by omega)
      (try rw [show ((0 : Int)).toNat = 0 from rfl] at hx118_0)
      (try rw [show 0 * 3 = 0 from rfl] at hx118_0)
      (try rw [Addr.add_zero'] at hx118_0)
      (try rw [show ((0 : Int)).toNat = 0 from rfl] at hx118_1)
      (try rw [show 0 * 3 = 0 from rfl] at hx118_1)
      (try rw [Addr.add_zero'] at hx118_1)
      (try rw [show ((0 : Int)).toNat = 0 from rfl] at hx118_2)
      (try rw [show 0 * 3 = 0 from rfl] at hx118_2)
      (try rw [Addr.add_zero'] at hx118_2)
      have HR118_1 := Aside0.mk hi118_1
      have HC118_1 := Aside0.mk hl118_1
      clear hi118_1 hl118_1
      have HR118_2 := Aside0.mk hi118_2
      have HC118_2 := Aside0.mk hl118_2
      clear hi118_2 hl118_2
      replace p118 := eq_true p118
      replace q118 := eq_true q118
      have ea_ := Option.some.inj (hx117_1.symm.trans hx118_1)
      injection ea_ with ea_ en_ ec_
      subst ea_
      subst ec_
      clear en_
      have ea_ := Option.some.inj (hx117_2.symm.trans hx118_2)
      injection ea_ with ea_ en_ ec_
      subst ea_
      subst ec_
      clear en_
      go_enter Tryz.func19, Tryz.ntmps19
      go_wp2_with (first | (go_at_call 45; (with_reducible refine (spec_sized.calls ((rd_T48 l0 0).f0) _ _ ((rd_T48 l0 0).f1) _ _ ((rd_T48 l0 0).f2) 7 0 true _ ?side1 ?side2 ?side3 ?side4 A5.out).mono ?_); (case side1 => repeat (first | exact HR118_1.out | (with_reducible refine Kd.C_alloc ?_ _) | (with_reducible refine Kd.C_drewN ?_ _) | (with_reducible refine Kd.C_drew ?_))); (case side2 => exact HC118_1.out); (case side3 => repeat (first | exact HR118_2.out | (with_reducible refine Kd.C_alloc ?_ _) | (with_reducible refine Kd.C_drewN ?_ _) | (with_reducible refine Kd.C_drew ?_))); (case side4 => exact HC118_2.out); rintro e w9 ⟨rfl, hb⟩; have n0_ := Aside0.mk (below_step belH hb); clear HB; have HB := n0_; clear n0_; (try clear hb); (try clear hb2); (try clear hk); (try clear hi); have p120 : 0 ≤ (0 : Int) := (by omega); have q120 : 0 < (l0.length : Int) := of_decide_eq_true (by first | (with_reducible assumption) | assumption); obtain ⟨ad120, A120_1, c120_1, A120_2, c120_2, e120, hx120_0, hx120_1, hx120_2, hl120_1, hi120_1, hl120_2, hi120_2⟩ := at_T48 HR0.out 0 p120 q120; obtain rfl : ad117 = ad120 := (by injection e120); have qi120 : (0 < l0.length) = True := eq_true (by omega); (try rw [show ((0 : Int)).toNat = 0 from rfl] at hx120_0); (try rw [show 0 * 3 = 0 from rfl] at hx120_0); (try rw [Addr.add_zero'] at hx120_0); (try rw [show ((0 : Int)).toNat = 0 from rfl] at hx120_1); (try rw [show 0 * 3 = 0 from rfl] at hx120_1); (try rw [Addr.add_zero'] at hx120_1); (try rw [show ((0 : Int)).toNat = 0 from rfl] at hx120_2); (try rw [show 0 * 3 = 0 from rfl] at hx120_2); (try rw [Addr.add_zero'] at hx120_2); replace hx120_0 := (HB.out.cell (World.block_lt_of_cell? w _ hx120_0)).trans hx120_0; replace hx120_1 := (HB.out.cell (World.block_lt_of_cell? w _ hx120_1)).trans hx120_1; replace hx120_2 := (HB.out.cell (World.block_lt_of_cell? w _ hx120_2)).trans hx120_2; have HR120_1 := Aside0.mk hi120_1; have HC120_1 := Aside0.mk hl120_1; clear hi120_1 hl120_1; have HR120_2 := Aside0.mk hi120_2; have HC120_2 := Aside0.mk hl120_2; clear hi120_2 hl120_2; replace p120 := eq_true p120; replace q120 := eq_true q120) | ((with_reducible refine gate_callee (f := 66) rfl ?_); refine goesL_ (some 25) rfl rfl Tryz.func66 (by kernel_rfl) rfl #[.slice A120_1 ((rd_T48 l0 0).f1).length c120_1, .string (⟨#[32]⟩ : ByteArray)] rfl (by (try simp only [List.map_toArray, List.map_cons, List.map_nil]); first | done | rfl | (simp only [List.length_drop, List.length_take]; rfl)) ?_; (with_reducible refine (spec_numbers.calls k _ _ ((rd_T48 l0 0).f1) (⟨#[32]⟩ : ByteArray) t121 _ ?side1 ?side2 A7.out).mono ?_); (case side1 => repeat (first | exact (Kd.C_below HR120_1.out HB.out) | (with_reducible refine Kd.C_alloc ?_ _) | (with_reducible refine Kd.C_drewN ?_ _) | (with_reducible refine Kd.C_drew ?_))); (case side2 => exact HC120_1.out); rintro e w10 ⟨rfl, hb⟩; refine ⟨_, rfl, ?_⟩; have n0_ := Aside0.mk (below_step belH hb); clear HB; have HB := n0_; clear n0_; (try clear hb); (try clear hb2); (try clear hk); (try clear hi)))
      go_ret2
      exact ⟨by first | rfl | (simp [errW_none, errW_some] <;> rfl) | (simp [*, errW_none, errW_some] <;> rfl), by repeat (first | (with_reducible first | exact HB.out | apply below_alloc | apply pw_below_drewN | apply below_drew1) | exact HB.out)⟩
     ·rw [if_neg c8] at H
      exact absurd H (by simp)
    ·replace c6 := Bool.eq_false_iff.mpr c6
     subst c6
     have H1 : (some ((⟨#[]⟩ : ByteArray), 2)) = some (r1, r2) := by rw [if_neg (show ¬ (false = true) by decide)] at H; exact H
     clear H
     have H := H1
     clear H1
     simp only [Option.some.injEq, Prod.mk.injEq] at H
     obtain ⟨rfl, rfl⟩ := H
     have p117 : 0 ≤ (0 : Int) := (by omega)
     have q117 : 0 < (l0.length : Int) := of_decide_eq_true (by first | (with_reducible assumption) | assumption)
     obtain ⟨ad117, A117_1, c117_1, A117_2, c117_2, e117, hx117_0, hx117_1, hx117_2, hl117_1, hi117_1, hl117_2, hi117_2⟩ := at_T48 HR0.out 0 p117 q117
     cases e117
     have qi117 : (0 < l0.length) = True := eq_true (by omega)
     (try rw [show ((0 : Int)).toNat = 0 from rfl] at hx117_0)
     (try rw [show 0 * 3 = 0 from rfl] at hx117_0)
     (try rw [Addr.add_zero'] at hx117_0)
     (try rw [show ((0 : Int)).toNat = 0 from rfl] at hx117_1)
     (try rw [show 0 * 3 = 0 from rfl] at hx117_1)
     (try rw [Addr.add_zero'] at hx117_1)
     (try rw [show ((0 : Int)).toNat = 0 from rfl] at hx117_2)
     (try rw [show 0 * 3 = 0 from rfl] at hx117_2)
     (try rw [Addr.add_zero'] at hx117_2)
     have HR117_1 := Aside0.mk hi117_1
     have HC117_1 := Aside0.mk hl117_1
     clear hi117_1 hl117_1
     have HR117_2 := Aside0.mk hi117_2
     have HC117_2 := Aside0.mk hl117_2
     clear hi117_2 hl117_2
     replace p117 := eq_true p117
     replace q117 := eq_true q117
     have p118 : 0 ≤ (0 : Int) := (by omega)
     have q118 : 0 < (l0.length : Int) := of_decide_eq_true (by first | (with_reducible assumption) | assumption)
     obtain ⟨ad118, A118_1, c118_1, A118_2, c118_2, e118, hx118_0, hx118_1, hx118_2, hl118_1, hi118_1, hl118_2, hi118_2⟩ := at_T48 HR0.out 0 p118 q118
     obtain rfl : ad117 = ad118 := (by injection e118)
     have qi118 : (0 < l0.length) = True := eq_true (by omega)
     (try rw [show ((0 : Int)).toNat = 0 from rfl] at hx118_0)
     (try rw [show 0 * 3 = 0 from rfl] at hx118_0)
     (try rw [Addr.add_zero'] at hx118_0)
     (try rw [show ((0 : Int)).toNat = 0 from rfl] at hx118_1)
     (try rw [show 0 * 3 = 0 from rfl] at hx118_1)
     (try rw [Addr.add_zero'] at hx118_1)
     (try rw [show ((0 : Int)).toNat = 0 from rfl] at hx118_2)
     (try rw [show 0 * 3 = 0 from rfl] at hx118_2)
     (try rw [Addr.add_zero'] at hx118_2)
     have HR118_1 := Aside0.mk hi118_1
     have HC118_1 := Aside0.mk hl118_1
     clear hi118_1 hl118_1
     have HR118_2 := Aside0.mk hi118_2
     have HC118_2 := Aside0.mk hl118_2
     clear hi118_2 hl118_2
     replace p118 := eq_true p118
     replace q118 := eq_true q118
     have ea_ := Option.some.inj (hx117_1.symm.trans hx118_1)
     injection ea_ with ea_ en_ ec_
     subst ea_
     subst ec_
     clear en_
     have ea_ := Option.some.inj (hx117_2.symm.trans hx118_2)
     injection ea_ with ea_ en_ ec_
     subst ea_
     subst ec_
     clear en_
     go_enter Tryz.func19, Tryz.ntmps19
     go_wp2_with (first | (go_at_call 45; (with_reducible refine (spec_sized.calls ((rd_T48 l0 0).f0) _ _ ((rd_T48 l0 0).f1) _ _ ((rd_T48 l0 0).f2) 7 0 false _ ?side1 ?side2 ?side3 ?side4 A5.out).mono ?_); (case side1 => repeat (first | exact HR118_1.out | (with_reducible refine Kd.C_alloc ?_ _) | (with_reducible refine Kd.C_drewN ?_ _) | (with_reducible refine Kd.C_drew ?_))); (case side2 => exact HC118_1.out); (case side3 => repeat (first | exact HR118_2.out | (with_reducible refine Kd.C_alloc ?_ _) | (with_reducible refine Kd.C_drewN ?_ _) | (with_reducible refine Kd.C_drew ?_))); (case side4 => exact HC118_2.out); rintro e w11 ⟨rfl, hb⟩; have n0_ := Aside0.mk (below_step belH hb); clear HB; have HB := n0_; clear n0_; (try clear hb); (try clear hb2); (try clear hk); (try clear hi)))
     go_ret2
     exact ⟨by first | rfl | (simp [errW_none, errW_some] <;> rfl) | (simp [*, errW_none, errW_some] <;> rfl), by repeat (first | (with_reducible first | exact HB.out | apply below_alloc | apply pw_below_drewN | apply below_drew1) | exact HB.out)⟩
   ·rw [if_neg c4] at H
    have c4b0 : (((rd_T48 l0 0).f0).toList == ([] : List UInt8)) = false := beq_eq_false_iff_ne.mpr c4
    have c4b1 : (((rd_T48 l0 0).f0).toList != ([] : List UInt8)) = true := bne_iff_ne.mpr c4
    simp only [Option.some.injEq, Prod.mk.injEq] at H
    obtain ⟨rfl, rfl⟩ := H
    have p117 : 0 ≤ (0 : Int) := (by omega)
    have q117 : 0 < (l0.length : Int) := of_decide_eq_true (by first | (with_reducible assumption) | assumption)
    obtain ⟨ad117, A117_1, c117_1, A117_2, c117_2, e117, hx117_0, hx117_1, hx117_2, hl117_1, hi117_1, hl117_2, hi117_2⟩ := at_T48 HR0.out 0 p117 q117
    cases e117
    have qi117 : (0 < l0.length) = True := eq_true (by omega)
    (try rw [show ((0 : Int)).toNat = 0 from rfl] at hx117_0)
    (try rw [show 0 * 3 = 0 from rfl] at hx117_0)
    (try rw [Addr.add_zero'] at hx117_0)
    (try rw [show ((0 : Int)).toNat = 0 from rfl] at hx117_1)
    (try rw [show 0 * 3 = 0 from rfl] at hx117_1)
    (try rw [Addr.add_zero'] at hx117_1)
    (try rw [show ((0 : Int)).toNat = 0 from rfl] at hx117_2)
    (try rw [show 0 * 3 = 0 from rfl] at hx117_2)
    (try rw [Addr.add_zero'] at hx117_2)
    have HR117_1 := Aside0.mk hi117_1
    have HC117_1 := Aside0.mk hl117_1
    clear hi117_1 hl117_1
    have HR117_2 := Aside0.mk hi117_2
    have HC117_2 := Aside0.mk hl117_2
    clear hi117_2 hl117_2
    replace p117 := eq_true p117
    replace q117 := eq_true q117
    go_enter Tryz.func19, Tryz.ntmps19
    go_wp2
    go_ret2
    exact ⟨by first | rfl | (simp [errW_none, errW_some] <;> rfl) | (simp [*, errW_none, errW_some] <;> rfl), by repeat (first | (with_reducible first | exact HB.out | apply below_alloc | apply pw_below_drewN | apply below_drew1) | exact HB.out)⟩
  ·rw [if_neg c3] at H
   exact absurd H (by simp)
 ·rw [if_neg c2] at H
  have c2b0 : ((l0.length : Int) == 1) = false := beq_eq_false_iff_ne.mpr c2
  have c2b1 : ((l0.length : Int) != 1) = true := bne_iff_ne.mpr c2
  simp only [Option.some.injEq, Prod.mk.injEq] at H
  obtain ⟨rfl, rfl⟩ := H
  go_enter Tryz.func19, Tryz.ntmps19
  go_wp2
  go_ret2
  exact ⟨by first | rfl | (simp [errW_none, errW_some] <;> rfl) | (simp [*, errW_none, errW_some] <;> rfl), by repeat (first | (with_reducible first | exact HB.out | apply below_alloc | apply pw_below_drewN | apply below_drew1) | exact HB.out)⟩

/-! ### spec_Fields: function 39 -/
mutual
def spec_Fields.l0 : Nat → ByteArray → List ByteArray → Int → Int → Int → Option (List ByteArray)
 | 0, _, _, _, _, _ => none
 | k + 1, x0, x3, x4, x8, x9 => if x9 < x8 then (if 0 ≤ x9 then (if x9 < (x0.size : Int) then (if (bt x0 x9) = 32 then (spec_Fields.j1 k x0 x3 x4 x9 true x8 x9) else (spec_Fields.j1 k x0 x3 x4 x9 ((bt x0 x9) == 9) x8 x9)) else (none)) else (none)) else (if x4 ≥ 0 then (if 0 ≤ x4 then (if x4 ≤ (x0.size : Int) then (if x3.length < 8796093022208 then (some (x3 ++ [x0.extract (x4 : Int).toNat x0.size])) else (none)) else (none)) else (none)) else (some x3))
def spec_Fields.j1 : Nat → ByteArray → List ByteArray → Int → Int → Bool → Int → Int → Option (List ByteArray)
 | 0, _, _, _, _, _, _, _ => none
 | k + 1, x0, x3, x4, x5, x6, x8, x9 => if x6 = true then (spec_Fields.j2 k x0 x3 x4 x5 x6 x8 x9 (decide (x4 ≥ 0))) else (spec_Fields.j2 k x0 x3 x4 x5 x6 x8 x9 false)
def spec_Fields.j2 : Nat → ByteArray → List ByteArray → Int → Int → Bool → Int → Int → Bool → Option (List ByteArray)
 | 0, _, _, _, _, _, _, _, _ => none
 | k + 1, x0, x3, x4, x5, x6, x8, x9, x22 => if x22 = true then (if 0 ≤ x4 then (if x4 ≤ x5 then (if x5 ≤ (x0.size : Int) then (if x3.length < 8796093022208 then (spec_Fields.l0 k x0 (x3 ++ [x0.extract (x4 : Int).toNat (x5 : Int).toNat]) (-1) x8 (wrap64 (x9 + 1))) else (none)) else (none)) else (none)) else (none)) else (if x6 = true then (spec_Fields.l0 k x0 x3 x4 x8 (wrap64 (x9 + 1))) else (if x4 < 0 then (spec_Fields.l0 k x0 x3 x5 x8 (wrap64 (x9 + 1))) else (spec_Fields.l0 k x0 x3 x4 x8 (wrap64 (x9 + 1)))))
end
def spec_Fields.f (k : Nat) (a0 : ByteArray) : Option (List ByteArray) := spec_Fields.l0 k a0 ([] : List ByteArray) (-1) (a0.size : Int) 0
theorem spec_Fields.mono_l : ∀ k, (∀ y0 y1 y2 y3 y4, LeO (spec_Fields.l0 k y0 y1 y2 y3 y4) (spec_Fields.l0 (k + 1) y0 y1 y2 y3 y4)) ∧ (∀ y0 y1 y2 y3 y4 y5 y6, LeO (spec_Fields.j1 k y0 y1 y2 y3 y4 y5 y6) (spec_Fields.j1 (k + 1) y0 y1 y2 y3 y4 y5 y6)) ∧ (∀ y0 y1 y2 y3 y4 y5 y6 y7, LeO (spec_Fields.j2 k y0 y1 y2 y3 y4 y5 y6 y7) (spec_Fields.j2 (k + 1) y0 y1 y2 y3 y4 y5 y6 y7))
 | 0 => ⟨fun _ _ _ _ _ r h => by simp [spec_Fields.l0] at h, fun _ _ _ _ _ _ _ r h => by simp [spec_Fields.j1] at h, fun _ _ _ _ _ _ _ _ r h => by simp [spec_Fields.j2] at h⟩
 | k + 1 => by
  obtain ⟨ih0, ih1, ih2⟩ := spec_Fields.mono_l k
  refine ⟨?_, ?_, ?_⟩
  ·intro y0 y1 y2 y3 y4
   unfold spec_Fields.l0
   repeat' first
   | (with_reducible exact ih0 _ _ _ _ _)
   | (with_reducible exact ih1 _ _ _ _ _ _ _)
   | (with_reducible exact ih2 _ _ _ _ _ _ _ _)
   | (with_reducible exact LeO.refl _)
   | (with_reducible exact LeO.none _)
   | (with_reducible refine LeO.ite ?_ ?_)
   | (with_reducible refine LeO.bind ?_ (fun _ => ?_))
   | exact ih0 _ _ _ _ _
   | exact ih1 _ _ _ _ _ _ _
   | exact ih2 _ _ _ _ _ _ _ _
   | exact LeO.none _
   | refine LeO.ite ?_ ?_
   | refine LeO.bind ?_ (fun _ => ?_)
  ·intro y0 y1 y2 y3 y4 y5 y6
   unfold spec_Fields.j1
   repeat' first
   | (with_reducible exact ih0 _ _ _ _ _)
   | (with_reducible exact ih1 _ _ _ _ _ _ _)
   | (with_reducible exact ih2 _ _ _ _ _ _ _ _)
   | (with_reducible exact LeO.refl _)
   | (with_reducible exact LeO.none _)
   | (with_reducible refine LeO.ite ?_ ?_)
   | (with_reducible refine LeO.bind ?_ (fun _ => ?_))
   | exact ih0 _ _ _ _ _
   | exact ih1 _ _ _ _ _ _ _
   | exact ih2 _ _ _ _ _ _ _ _
   | exact LeO.none _
   | refine LeO.ite ?_ ?_
   | refine LeO.bind ?_ (fun _ => ?_)
  ·intro y0 y1 y2 y3 y4 y5 y6 y7
   unfold spec_Fields.j2
   repeat' first
   | (with_reducible exact ih0 _ _ _ _ _)
   | (with_reducible exact ih1 _ _ _ _ _ _ _)
   | (with_reducible exact ih2 _ _ _ _ _ _ _ _)
   | (with_reducible exact LeO.refl _)
   | (with_reducible exact LeO.none _)
   | (with_reducible refine LeO.ite ?_ ?_)
   | (with_reducible refine LeO.bind ?_ (fun _ => ?_))
   | exact ih0 _ _ _ _ _
   | exact ih1 _ _ _ _ _ _ _
   | exact ih2 _ _ _ _ _ _ _ _
   | exact LeO.none _
   | refine LeO.ite ?_ ?_
   | refine LeO.bind ?_ (fun _ => ?_)
theorem spec_Fields.mono : ∀ a0 k, LeO (spec_Fields.f k a0) (spec_Fields.f (k + 1) a0) := by
 intro a0 k
 obtain ⟨ih0, ih1, ih2⟩ := spec_Fields.mono_l k
 unfold spec_Fields.f
 repeat' first
   | (with_reducible exact ih0 _ _ _ _ _)
   | (with_reducible exact ih1 _ _ _ _ _ _ _)
   | (with_reducible exact ih2 _ _ _ _ _ _ _ _)
   | (with_reducible exact LeO.refl _)
   | (with_reducible exact LeO.none _)
   | (with_reducible refine LeO.ite ?_ ?_)
   | (with_reducible refine LeO.bind ?_ (fun _ => ?_))
   | exact ih0 _ _ _ _ _
   | exact ih1 _ _ _ _ _ _ _
   | exact ih2 _ _ _ _ _ _ _ _
   | exact LeO.none _
   | refine LeO.ite ?_ ?_
   | refine LeO.bind ?_ (fun _ => ?_)
set_option maxHeartbeats 8000000 in
set_option maxRecDepth 100000 in
theorem spec_Fields.calls (k : Nat) (a0 : ByteArray) (r : List ByteArray) (w : World) (h : spec_Fields.f k a0 = some r) :
  Calls Tryz.prog 39 #[.string a0] w fun e w' => ∃ v0_ : Value, e = .returned (v0_) ∧ Kd.R Kd.string 9 w' w.heap.size (fun _ => True) v0_ r ∧ Below w.heap.size w w' := by
 have HB := Aside0.mk (Below.refl w.heap.size w)
 have H : (spec_Fields.l0 k a0 ([] : List ByteArray) (-1) (a0.size : Int) 0) = some r := h
 clear h
 have H' := Aside0.mk H
 clear H
 go_enter Tryz.func39, Tryz.ntmps39
 go_wp2
 go_loopg [3, 4, 9] k (fun kq v3 v4 v9 w' => ∃ (x3_1 : List ByteArray) (x4_1 : Int) (x9_1 : Int), v4 = .int .i64 x4_1 ∧ v9 = .int .i64 x9_1 ∧ Aside0 (spec_Fields.l0 kq a0 x3_1 x4_1 (a0.size : Int) x9_1 = some r) ∧ Aside0 (kq ≤ k) ∧ Aside0 (Kd.R Kd.string 9 w' w.heap.size (fun _ => True) v3 x3_1) ∧ Aside0 (Below w.heap.size w w'))
 case atStart => exact ⟨(([] : List ByteArray)), ((-1)), (0), (by first | rfl | (simp; done) | (simp [*]; done) | (simp [bne_nil]; done) | (simp [bne_nil, *]; done)), (by first | rfl | (simp; done) | (simp [*]; done) | (simp [bne_nil]; done) | (simp [bne_nil, *]; done)), H', ⟨Nat.le_refl _⟩, ⟨by first | exact Kd.R_nil _ _ _ _ _ | exact Kd.N_nil _ _ _ _ _ | exact Kd.V_nil _ _ _ _ _ | exact Kd.Q_nil _ _ _ _ _ | exact Kd.S_nil _ _ _ _ _⟩, ⟨by repeat (first | (with_reducible first | exact HB.out | apply below_alloc | apply pw_below_drewN | apply below_drew1) | exact HB.out)⟩⟩
 case round =>
  clear H'
  obtain ⟨x3_1, x4_1, x9_1, rfl, rfl, HA, HK1, HO_3, HB⟩ := hrel
  cases gk with
  | zero => exact absurd HA.out (by simp [spec_Fields.l0])
  | succ k1 =>
   have H := HA.out
   clear HA
   simp only [spec_Fields.l0] at H
   by_cases c2 : x9_1 < (a0.size : Int)
   ·rw [if_pos c2] at H
    have c2b0 : decide (x9_1 < (a0.size : Int)) = true := decide_eq_true c2
    clear c2
    have HC3 := Aside0.mk H
    clear H
    go_upto_region 6 with (fail)
    go_cut [6] (fun v6 wc => ∃ (kq : Nat) (x6_2 : Bool), v6 = .bool x6_2 ∧ Aside0 (spec_Fields.j1 kq a0 x3_1 x4_1 x9_1 x6_2 (a0.size : Int) x9_1 = some r) ∧ Aside0 (kq ≤ k1) ∧ Aside0 (Kd.R Kd.string 9 wc w.heap.size (fun _ => True) u3 x3_1) ∧ Aside0 (Below w.heap.size w wc))
    case first =>
     have H := HC3.out
     clear HC3
     by_cases c4 : 0 ≤ x9_1
     ·rw [if_pos c4] at H
      have c4b0 : decide (0 ≤ x9_1) = true := decide_eq_true c4
      clear c4
      (first | rw [c4b0] | (simp only [i64_w, i32_w]; rw [c4b0]) | skip)
      by_cases c5 : x9_1 < (a0.size : Int)
      ·rw [if_pos c5] at H
       have c5b0 : decide (x9_1 < (a0.size : Int)) = true := decide_eq_true c5
       clear c5
       by_cases c7 : (bt a0 x9_1) = 32
       ·rw [if_pos c7] at H
        have c7b0 : ((bt a0 x9_1) == 32) = true := beq_iff_eq.mpr c7
        have c7b1 : ((bt a0 x9_1) != 32) = false := bne_eq_false_iff_eq.mpr c7
        clear c7
        have H' := Aside0.mk H
        clear H
        have p6 : 0 ≤ (x9_1 : Int) := of_decide_eq_true (by first | (with_reducible assumption) | assumption)
        have q6 : x9_1 < (a0.size : Int) := of_decide_eq_true (by first | (with_reducible assumption) | assumption)
        have hx6 := bt_at a0 x9_1
        replace p6 := eq_true p6
        replace q6 := eq_true q6
        go_wp2
        go_meet
        case rel => exact ⟨_, (true), (by first | rfl | (simp; done) | (simp [*]; done) | (simp [bne_nil]; done) | (simp [bne_nil, *]; done)), H', ⟨by have := HK1.out; first | omega | exact Nat.le_refl _⟩, ⟨by (with_reducible repeat (first | apply Kd.R_alloc | apply Kd.R_drewN | apply Kd.R_drew)); exact HO_3.out⟩, ⟨by repeat (first | (with_reducible first | exact HB.out | apply below_alloc | apply pw_below_drewN | apply below_drew1) | exact HB.out)⟩⟩
       ·rw [if_neg c7] at H
        have c7b0 : ((bt a0 x9_1) == 32) = false := beq_eq_false_iff_ne.mpr c7
        have c7b1 : ((bt a0 x9_1) != 32) = true := bne_iff_ne.mpr c7
        have H' := Aside0.mk H
        clear H
        have p6 : 0 ≤ (x9_1 : Int) := of_decide_eq_true (by first | (with_reducible assumption) | assumption)
        have q6 : x9_1 < (a0.size : Int) := of_decide_eq_true (by first | (with_reducible assumption) | assumption)
        have hx6 := bt_at a0 x9_1
        replace p6 := eq_true p6
        replace q6 := eq_true q6
        have p8 : 0 ≤ (x9_1 : Int) := of_decide_eq_true (by first | (with_reducible assumption) | assumption)
        have q8 : x9_1 < (a0.size : Int) := of_decide_eq_true (by first | (with_reducible assumption) | assumption)
        have hx8 := bt_at a0 x9_1
        replace p8 := eq_true p8
        replace q8 := eq_true q8
        go_wp2
        go_meet
        case rel => exact ⟨_, (((bt a0 x9_1) == 9)), (by first | rfl | (simp; done) | (simp [*]; done) | (simp [bne_nil]; done) | (simp [bne_nil, *]; done)), H', ⟨by have := HK1.out; first | omega | exact Nat.le_refl _⟩, ⟨by (with_reducible repeat (first | apply Kd.R_alloc | apply Kd.R_drewN | apply Kd.R_drew)); exact HO_3.out⟩, ⟨by repeat (first | (with_reducible first | exact HB.out | apply below_alloc | apply pw_below_drewN | apply below_drew1) | exact HB.out)⟩⟩
      ·rw [if_neg c5] at H
       exact absurd H (by simp)
     ·rw [if_neg c4] at H
      exact absurd H (by simp)
    case rest =>
     clear HC3
     try clear c2
     try clear c2b0
     try clear p2
     try clear c3
     try clear c4
     try clear c4b0
     try clear c5
     try clear c5b0
     try clear p6
     try clear q6
     try clear hx6
     try clear c7
     try clear c7b0
     try clear c7b1
     try clear p8
     try clear q8
     try clear hx8
     try clear p6
     try clear p8
     try clear q6
     try clear q8
     obtain ⟨kq, x6_2, rfl, HA, HJ2, HO_3, HB⟩ := hcut
     cases kq with
     | zero => exact absurd HA.out (by simp [spec_Fields.j1])
     | succ kj2 =>
      have H := HA.out
      clear HA
      simp only [spec_Fields.j1] at H
      have HC9 := Aside0.mk H
      clear H
      go_upto_region 7 with (fail)
      go_cut [22] (fun v22 wc => ∃ (kq : Nat) (x22_8 : Bool), v22 = .bool x22_8 ∧ Aside0 (spec_Fields.j2 kq a0 x3_1 x4_1 x9_1 x6_2 (a0.size : Int) x9_1 x22_8 = some r) ∧ Aside0 (kq ≤ kj2) ∧ Aside0 (Kd.R Kd.string 9 wc w.heap.size (fun _ => True) u3 x3_1) ∧ Aside0 (Below w.heap.size w wc))
      case first =>
       have H := HC9.out
       clear HC9
       by_cases c10 : x6_2 = true
       ·subst c10
        have H1 : (spec_Fields.j2 kj2 a0 x3_1 x4_1 x9_1 true (a0.size : Int) x9_1 (decide (x4_1 ≥ 0))) = some r := by rw [if_pos rfl] at H; exact H
        clear H
        have H := H1
        clear H1
        have H' := Aside0.mk H
        clear H
        go_wp2
        go_meet
        case rel => exact ⟨_, (decide (x4_1 ≥ 0)), (by first | rfl | (simp; done) | (simp [*]; done) | (simp [bne_nil]; done) | (simp [bne_nil, *]; done)), H', ⟨by have := HK1.out; have := HJ2.out; first | omega | exact Nat.le_refl _⟩, ⟨by (with_reducible repeat (first | apply Kd.R_alloc | apply Kd.R_drewN | apply Kd.R_drew)); exact HO_3.out⟩, ⟨by repeat (first | (with_reducible first | exact HB.out | apply below_alloc | apply pw_below_drewN | apply below_drew1) | exact HB.out)⟩⟩
       ·replace c10 := Bool.eq_false_iff.mpr c10
        subst c10
        have H1 : (spec_Fields.j2 kj2 a0 x3_1 x4_1 x9_1 false (a0.size : Int) x9_1 false) = some r := by rw [if_neg (show ¬ (false = true) by decide)] at H; exact H
        clear H
        have H := H1
        clear H1
        have H' := Aside0.mk H
        clear H
        go_wp2
        go_meet
        case rel => exact ⟨_, (false), (by first | rfl | (simp; done) | (simp [*]; done) | (simp [bne_nil]; done) | (simp [bne_nil, *]; done)), H', ⟨by have := HK1.out; have := HJ2.out; first | omega | exact Nat.le_refl _⟩, ⟨by (with_reducible repeat (first | apply Kd.R_alloc | apply Kd.R_drewN | apply Kd.R_drew)); exact HO_3.out⟩, ⟨by repeat (first | (with_reducible first | exact HB.out | apply below_alloc | apply pw_below_drewN | apply below_drew1) | exact HB.out)⟩⟩
      case rest =>
       clear HC9
       try clear c1
       try clear c2
       try clear c2b0
       try clear p2
       try clear c3
       try clear c4
       try clear c4b0
       try clear c5
       try clear c5b0
       try clear p6
       try clear q6
       try clear hx6
       try clear c7
       try clear c7b0
       try clear c7b1
       try clear p8
       try clear q8
       try clear hx8
       try clear c10
       try clear p2
       try clear p6
       try clear p8
       try clear q6
       try clear q8
       obtain ⟨kq, x22_8, rfl, HA, HJ8, HO_3, HB⟩ := hcut
       cases kq with
       | zero => exact absurd HA.out (by simp [spec_Fields.j2])
       | succ kj8 =>
        have H := HA.out
        clear HA
        simp only [spec_Fields.j2] at H
        by_cases c11 : x22_8 = true
        ·subst c11
         have H1 : (if 0 ≤ x4_1 then (if x4_1 ≤ x9_1 then (if x9_1 ≤ (a0.size : Int) then (if x3_1.length < 8796093022208 then (spec_Fields.l0 kj8 a0 (x3_1 ++ [a0.extract (x4_1 : Int).toNat (x9_1 : Int).toNat]) (-1) (a0.size : Int) (wrap64 (x9_1 + 1))) else (none)) else (none)) else (none)) else (none)) = some r := by rw [if_pos rfl] at H; exact H
         clear H
         have H := H1
         clear H1
         by_cases c12 : 0 ≤ x4_1
         ·rw [if_pos c12] at H
          have c12b0 := eq_true c12
          have c12b1 : decide (0 ≤ x4_1) = true := decide_eq_true c12
          clear c12
          by_cases c13 : x4_1 ≤ x9_1
          ·rw [if_pos c13] at H
           have c13b0 := eq_true c13
           have c13b1 : decide (x4_1 ≤ x9_1) = true := decide_eq_true c13
           clear c13
           by_cases c14 : x9_1 ≤ (a0.size : Int)
           ·rw [if_pos c14] at H
            have c14b0 := eq_true c14
            have c14b1 : decide (x9_1 ≤ (a0.size : Int)) = true := decide_eq_true c14
            clear c14
            by_cases c15 : x3_1.length < 8796093022208
            ·rw [if_pos c15] at H
             have LMc15 := Aside0.mk c15
             clear c15
             obtain ⟨y125, hy125⟩ : ∃ y_ : List ByteArray, y_ = (x3_1 ++ [a0.extract (x4_1 : Int).toNat (x9_1 : Int).toNat]) := ⟨_, rfl⟩
             replace H : (spec_Fields.l0 kj8 a0 y125 (-1) (a0.size : Int) (wrap64 (x9_1 + 1))) = some r := by first | (rw [hy125]; with_reducible exact H) | (have H2_ := (Option.bind_some _ _).symm.trans H; rw [hy125]; with_reducible exact H2_) | (have H2_ := (Option.bind_some _ _).symm.trans H; with_reducible exact H2_) | with_reducible exact H | (rw [hy125]; exact H) | exact H
             have Ny125 := Aside0.mk hy125
             clear hy125
             have H' := Aside0.mk H
             clear H
             go_wp2_with (first | ((with_reducible refine gate_builtin (b := .append) (xs := #[.tmp 28, .tmp 33]) rfl ?_); at_builtin; refine Kd.R_append Kd.string (w0 := w) w.heap.size rfl (.tmp 28) (.tmp 33) 42 9 (.string ⟨#[]⟩) 16 rfl Tryz.underlying42 info9 rfl (by decide) (by omega) u3 x3_1 (a0.extract (x4_1 : Int).toNat (x9_1 : Int).toNat) [.string (a0.extract (x4_1 : Int).toNat (x9_1 : Int).toNat)] (fun _ => True) (fun _ => False) rfl rfl ?aP (fun _ hk => hk.elim) ?aF ?aO ?aB ?aS ?aL ?_; (case aP => exact rfl); (case aB => exact belH); (case aF => exact (fun _ _ => trivial)); (case aO => exact (by (with_reducible repeat (first | apply Kd.R_alloc | apply Kd.R_drewN | apply Kd.R_drew)); exact HO_3.out)); (case aS => exact (below_size belH)); (case aL => have := LMc15.out; omega); intro v126 w16 ho hb hg hat; rw [← Ny125.out] at ho; have n0_ := Aside0.mk (hb); have n1_ := Aside0.mk (ho); clear HB; clear HO_3; have HB := n0_; have HO127 := n1_; clear n0_ n1_; clear ho hb hg hat))
             go_roundg kj8
             case measure => have := HK1.out; have := HJ2.out; have := HJ8.out; omega
             case rel => exact ⟨(y125), ((-1)), (wrap64 (x9_1 + 1)), (by first | rfl | (simp; done) | (simp [*]; done) | (simp [bne_nil]; done) | (simp [bne_nil, *]; done)), (by first | rfl | (simp; done) | (simp [*]; done) | (simp [bne_nil]; done) | (simp [bne_nil, *]; done)), H', ⟨by have := HK1.out; have := HJ2.out; have := HJ8.out; omega⟩, ⟨by (with_reducible repeat (first | apply Kd.R_alloc | apply Kd.R_drewN | apply Kd.R_drew)); exact HO127.out⟩, ⟨by repeat (first | (with_reducible first | exact HB.out | apply below_alloc | apply pw_below_drewN | apply below_drew1) | exact HB.out)⟩⟩
            ·rw [if_neg c15] at H
             exact absurd H (by simp)
           ·rw [if_neg c14] at H
            exact absurd H (by simp)
          ·rw [if_neg c13] at H
           exact absurd H (by simp)
         ·rw [if_neg c12] at H
          exact absurd H (by simp)
        ·replace c11 := Bool.eq_false_iff.mpr c11
         subst c11
         have H1 : (if x6_2 = true then (spec_Fields.l0 kj8 a0 x3_1 x4_1 (a0.size : Int) (wrap64 (x9_1 + 1))) else (if x4_1 < 0 then (spec_Fields.l0 kj8 a0 x3_1 x9_1 (a0.size : Int) (wrap64 (x9_1 + 1))) else (spec_Fields.l0 kj8 a0 x3_1 x4_1 (a0.size : Int) (wrap64 (x9_1 + 1))))) = some r := by rw [if_neg (show ¬ (false = true) by decide)] at H; exact H
         clear H
         have H := H1
         clear H1
         by_cases c17 : x6_2 = true
         ·subst c17
          have H1 : (spec_Fields.l0 kj8 a0 x3_1 x4_1 (a0.size : Int) (wrap64 (x9_1 + 1))) = some r := by rw [if_pos rfl] at H; exact H
          clear H
          have H := H1
          clear H1
          have H' := Aside0.mk H
          clear H
          go_wp2
          go_roundg kj8
          case measure => have := HK1.out; have := HJ2.out; have := HJ8.out; omega
          case rel => exact ⟨(x3_1), (x4_1), (wrap64 (x9_1 + 1)), (by first | rfl | (simp; done) | (simp [*]; done) | (simp [bne_nil]; done) | (simp [bne_nil, *]; done)), (by first | rfl | (simp; done) | (simp [*]; done) | (simp [bne_nil]; done) | (simp [bne_nil, *]; done)), H', ⟨by have := HK1.out; have := HJ2.out; have := HJ8.out; omega⟩, ⟨by (with_reducible repeat (first | apply Kd.R_alloc | apply Kd.R_drewN | apply Kd.R_drew)); exact HO_3.out⟩, ⟨by repeat (first | (with_reducible first | exact HB.out | apply below_alloc | apply pw_below_drewN | apply below_drew1) | exact HB.out)⟩⟩
         ·replace c17 := Bool.eq_false_iff.mpr c17
          subst c17
          have H1 : (if x4_1 < 0 then (spec_Fields.l0 kj8 a0 x3_1 x9_1 (a0.size : Int) (wrap64 (x9_1 + 1))) else (spec_Fields.l0 kj8 a0 x3_1 x4_1 (a0.size : Int) (wrap64 (x9_1 + 1)))) = some r := by rw [if_neg (show ¬ (false = true) by decide)] at H; exact H
          clear H
          have H := H1
          clear H1
          by_cases c18 : x4_1 < 0
          ·rw [if_pos c18] at H
           have c18b0 : decide (x4_1 < 0) = true := decide_eq_true c18
           clear c18
           have H' := Aside0.mk H
           clear H
           go_wp2
           go_roundg kj8
           case measure => have := HK1.out; have := HJ2.out; have := HJ8.out; omega
           case rel => exact ⟨(x3_1), (x9_1), (wrap64 (x9_1 + 1)), (by first | rfl | (simp; done) | (simp [*]; done) | (simp [bne_nil]; done) | (simp [bne_nil, *]; done)), (by first | rfl | (simp; done) | (simp [*]; done) | (simp [bne_nil]; done) | (simp [bne_nil, *]; done)), H', ⟨by have := HK1.out; have := HJ2.out; have := HJ8.out; omega⟩, ⟨by (with_reducible repeat (first | apply Kd.R_alloc | apply Kd.R_drewN | apply Kd.R_drew)); exact HO_3.out⟩, ⟨by repeat (first | (with_reducible first | exact HB.out | apply below_alloc | apply pw_below_drewN | apply below_drew1) | exact HB.out)⟩⟩
          ·rw [if_neg c18] at H
           have c18b0 : decide (x4_1 < 0) = false := decide_eq_false c18
           clear c18
           have H' := Aside0.mk H
           clear H
           go_wp2
           go_roundg kj8
           case measure => have := HK1.out; have := HJ2.out; have := HJ8.out; omega
           case rel => exact ⟨(x3_1), (x4_1), (wrap64 (x9_1 + 1)), (by first | rfl | (simp; done) | (simp [*]; done) | (simp [bne_nil]; done) | (simp [bne_nil, *]; done)), (by first | rfl | (simp; done) | (simp [*]; done) | (simp [bne_nil]; done) | (simp [bne_nil, *]; done)), H', ⟨by have := HK1.out; have := HJ2.out; have := HJ8.out; omega⟩, ⟨by (with_reducible repeat (first | apply Kd.R_alloc | apply Kd.R_drewN | apply Kd.R_drew)); exact HO_3.out⟩, ⟨by repeat (first | (with_reducible first | exact HB.out | apply below_alloc | apply pw_below_drewN | apply below_drew1) | exact HB.out)⟩⟩
   ·rw [if_neg c2] at H
    have c2b0 : decide (x9_1 < (a0.size : Int)) = false := decide_eq_false c2
    clear c2
    by_cases c19 : x4_1 ≥ 0
    ·rw [if_pos c19] at H
     have c19b0 : decide (0 ≤ x4_1) = true := decide_eq_true c19
     clear c19
     by_cases c20 : 0 ≤ x4_1
     ·rw [if_pos c20] at H
      have c20b0 := eq_true c20
      have c20b1 : decide (0 ≤ x4_1) = true := decide_eq_true c20
      clear c20
      by_cases c21 : x4_1 ≤ (a0.size : Int)
      ·rw [if_pos c21] at H
       have c21b0 := eq_true c21
       have c21b1 : decide (x4_1 ≤ (a0.size : Int)) = true := decide_eq_true c21
       clear c21
       by_cases c22 : x3_1.length < 8796093022208
       ·rw [if_pos c22] at H
        have LMc22 := Aside0.mk c22
        clear c22
        obtain ⟨y122, hy122⟩ : ∃ y_ : List ByteArray, y_ = (x3_1 ++ [a0.extract (x4_1 : Int).toNat a0.size]) := ⟨_, rfl⟩
        replace H : (some y122) = some r := by first | (rw [hy122]; with_reducible exact H) | (have H2_ := (Option.bind_some _ _).symm.trans H; rw [hy122]; with_reducible exact H2_) | (have H2_ := (Option.bind_some _ _).symm.trans H; with_reducible exact H2_) | with_reducible exact H | (rw [hy122]; exact H) | exact H
        have Ny122 := Aside0.mk hy122
        clear hy122
        obtain rfl := Option.some.inj H
        go_wp2_with (first | ((with_reducible refine gate_builtin (b := .append) (xs := #[.tmp 46, .tmp 50]) rfl ?_); at_builtin; refine Kd.R_append Kd.string (w0 := w) w.heap.size rfl (.tmp 46) (.tmp 50) 42 9 (.string ⟨#[]⟩) 16 rfl Tryz.underlying42 info9 rfl (by decide) (by omega) u3 x3_1 (a0.extract (x4_1 : Int).toNat a0.size) [.string (a0.extract (x4_1 : Int).toNat a0.size)] (fun _ => True) (fun _ => False) rfl rfl ?aP (fun _ hk => hk.elim) ?aF ?aO ?aB ?aS ?aL ?_; (case aP => exact rfl); (case aB => exact belH); (case aF => exact (fun _ _ => trivial)); (case aO => exact (by (with_reducible repeat (first | apply Kd.R_alloc | apply Kd.R_drewN | apply Kd.R_drew)); exact HO_3.out)); (case aS => exact (below_size belH)); (case aL => have := LMc22.out; omega); intro v123 w23 ho hb hg hat; rw [← Ny122.out] at ho; have n0_ := Aside0.mk (hb); have n1_ := Aside0.mk (ho); clear HB; clear HO_3; have HB := n0_; have HO124 := n1_; clear n0_ n1_; clear ho hb hg hat))
        go_ret
        exact ⟨_, by first | rfl | (simp [errW_none, errW_some] <;> rfl) | (simp [*, errW_none, errW_some] <;> rfl), by (with_reducible repeat (first | apply Kd.R_alloc | apply Kd.R_drewN | apply Kd.R_drew)); exact HO124.out, by repeat (first | (with_reducible first | exact HB.out | apply below_alloc | apply pw_below_drewN | apply below_drew1) | exact HB.out)⟩
       ·rw [if_neg c22] at H
        exact absurd H (by simp)
      ·rw [if_neg c21] at H
       exact absurd H (by simp)
     ·rw [if_neg c20] at H
      exact absurd H (by simp)
    ·rw [if_neg c19] at H
     have c19b0 : decide (0 ≤ x4_1) = false := decide_eq_false c19
     clear c19
     obtain rfl := Option.some.inj H
     go_wp2
     go_ret
     exact ⟨_, by first | rfl | (simp [errW_none, errW_some] <;> rfl) | (simp [*, errW_none, errW_some] <;> rfl), by (with_reducible repeat (first | apply Kd.R_alloc | apply Kd.R_drewN | apply Kd.R_drew)); exact HO_3.out, by repeat (first | (with_reducible first | exact HB.out | apply below_alloc | apply pw_below_drewN | apply below_drew1) | exact HB.out)⟩

/-! ### spec_Lines: function 55 -/
def spec_Lines.l0 : Nat → ByteArray → List ByteArray → Int → Int → Int → Option (List ByteArray)
 | 0, _, _, _, _, _ => none
 | k + 1, x0, x3, x4, x7, x8 => if x8 < x7 then (if 0 ≤ x8 then (if x8 < (x0.size : Int) then (if (bt x0 x8) = 10 then (if 0 ≤ x4 then (if x4 ≤ x8 then (if x8 ≤ (x0.size : Int) then (if x3.length < 8796093022208 then (spec_Lines.l0 k x0 (x3 ++ [x0.extract (x4 : Int).toNat (x8 : Int).toNat]) (wrap64 (x8 + 1)) x7 (wrap64 (x8 + 1))) else (none)) else (none)) else (none)) else (none)) else (spec_Lines.l0 k x0 x3 x4 x7 (wrap64 (x8 + 1)))) else (none)) else (none)) else (if x4 < (x0.size : Int) then (if 0 ≤ x4 then (if x4 ≤ (x0.size : Int) then (if x3.length < 8796093022208 then (some (x3 ++ [x0.extract (x4 : Int).toNat x0.size])) else (none)) else (none)) else (none)) else (some x3))
def spec_Lines.f (k : Nat) (a0 : ByteArray) : Option (List ByteArray) := spec_Lines.l0 k a0 ([] : List ByteArray) 0 (a0.size : Int) 0
theorem spec_Lines.mono_l : ∀ k, (∀ y0 y1 y2 y3 y4, LeO (spec_Lines.l0 k y0 y1 y2 y3 y4) (spec_Lines.l0 (k + 1) y0 y1 y2 y3 y4))
 | 0 => fun _ _ _ _ _ r h => by simp [spec_Lines.l0] at h
 | k + 1 => by
  have ih0 := spec_Lines.mono_l k
  ·intro y0 y1 y2 y3 y4
   unfold spec_Lines.l0
   repeat' first
   | (with_reducible exact ih0 _ _ _ _ _)
   | (with_reducible exact LeO.refl _)
   | (with_reducible exact LeO.none _)
   | (with_reducible refine LeO.ite ?_ ?_)
   | (with_reducible refine LeO.bind ?_ (fun _ => ?_))
   | exact ih0 _ _ _ _ _
   | exact LeO.none _
   | refine LeO.ite ?_ ?_
   | refine LeO.bind ?_ (fun _ => ?_)
theorem spec_Lines.mono : ∀ a0 k, LeO (spec_Lines.f k a0) (spec_Lines.f (k + 1) a0) := by
 intro a0 k
 have ih0 := spec_Lines.mono_l k
 unfold spec_Lines.f
 repeat' first
   | (with_reducible exact ih0 _ _ _ _ _)
   | (with_reducible exact LeO.refl _)
   | (with_reducible exact LeO.none _)
   | (with_reducible refine LeO.ite ?_ ?_)
   | (with_reducible refine LeO.bind ?_ (fun _ => ?_))
   | exact ih0 _ _ _ _ _
   | exact LeO.none _
   | refine LeO.ite ?_ ?_
   | refine LeO.bind ?_ (fun _ => ?_)
set_option maxHeartbeats 8000000 in
set_option maxRecDepth 100000 in
theorem spec_Lines.calls (k : Nat) (a0 : ByteArray) (r : List ByteArray) (w : World) (h : spec_Lines.f k a0 = some r) :
  Calls Tryz.prog 55 #[.string a0] w fun e w' => ∃ v0_ : Value, e = .returned (v0_) ∧ Kd.R Kd.string 9 w' w.heap.size (fun _ => True) v0_ r ∧ Below w.heap.size w w' := by
 have HB := Aside0.mk (Below.refl w.heap.size w)
 have H : (spec_Lines.l0 k a0 ([] : List ByteArray) 0 (a0.size : Int) 0) = some r := h
 clear h
 have H' := Aside0.mk H
 clear H
 go_enter Tryz.func55, Tryz.ntmps55
 go_wp2
 go_loopg [3, 4, 8] k (fun kq v3 v4 v8 w' => ∃ (x3_1 : List ByteArray) (x4_1 : Int) (x8_1 : Int), v4 = .int .i64 x4_1 ∧ v8 = .int .i64 x8_1 ∧ Aside0 (spec_Lines.l0 kq a0 x3_1 x4_1 (a0.size : Int) x8_1 = some r) ∧ Aside0 (kq ≤ k) ∧ Aside0 (Kd.R Kd.string 9 w' w.heap.size (fun _ => True) v3 x3_1) ∧ Aside0 (Below w.heap.size w w'))
 case atStart => exact ⟨(([] : List ByteArray)), (0), (0), (by first | rfl | (simp; done) | (simp [*]; done) | (simp [bne_nil]; done) | (simp [bne_nil, *]; done)), (by first | rfl | (simp; done) | (simp [*]; done) | (simp [bne_nil]; done) | (simp [bne_nil, *]; done)), H', ⟨Nat.le_refl _⟩, ⟨by first | exact Kd.R_nil _ _ _ _ _ | exact Kd.N_nil _ _ _ _ _ | exact Kd.V_nil _ _ _ _ _ | exact Kd.Q_nil _ _ _ _ _ | exact Kd.S_nil _ _ _ _ _⟩, ⟨by repeat (first | (with_reducible first | exact HB.out | apply below_alloc | apply pw_below_drewN | apply below_drew1) | exact HB.out)⟩⟩
 case round =>
  clear H'
  obtain ⟨x3_1, x4_1, x8_1, rfl, rfl, HA, HK1, HO_3, HB⟩ := hrel
  cases gk with
  | zero => exact absurd HA.out (by simp [spec_Lines.l0])
  | succ k1 =>
   have H := HA.out
   clear HA
   simp only [spec_Lines.l0] at H
   by_cases c2 : x8_1 < (a0.size : Int)
   ·rw [if_pos c2] at H
    have c2b0 : decide (x8_1 < (a0.size : Int)) = true := decide_eq_true c2
    clear c2
    by_cases c3 : 0 ≤ x8_1
    ·rw [if_pos c3] at H
     have c3b0 : decide (0 ≤ x8_1) = true := decide_eq_true c3
     clear c3
     by_cases c4 : x8_1 < (a0.size : Int)
     ·rw [if_pos c4] at H
      have c4b0 : decide (x8_1 < (a0.size : Int)) = true := decide_eq_true c4
      clear c4
      by_cases c6 : (bt a0 x8_1) = 10
      ·rw [if_pos c6] at H
       have c6b0 : ((bt a0 x8_1) == 10) = true := beq_iff_eq.mpr c6
       have c6b1 : ((bt a0 x8_1) != 10) = false := bne_eq_false_iff_eq.mpr c6
       clear c6
       by_cases c7 : 0 ≤ x4_1
       ·rw [if_pos c7] at H
        have c7b0 := eq_true c7
        have c7b1 : decide (0 ≤ x4_1) = true := decide_eq_true c7
        clear c7
        by_cases c8 : x4_1 ≤ x8_1
        ·rw [if_pos c8] at H
         have c8b0 := eq_true c8
         have c8b1 : decide (x4_1 ≤ x8_1) = true := decide_eq_true c8
         clear c8
         by_cases c9 : x8_1 ≤ (a0.size : Int)
         ·rw [if_pos c9] at H
          have c9b0 := eq_true c9
          have c9b1 : decide (x8_1 ≤ (a0.size : Int)) = true := decide_eq_true c9
          clear c9
          by_cases c10 : x3_1.length < 8796093022208
          ·rw [if_pos c10] at H
           have LMc10 := Aside0.mk c10
           clear c10
           obtain ⟨y128, hy128⟩ : ∃ y_ : List ByteArray, y_ = (x3_1 ++ [a0.extract (x4_1 : Int).toNat (x8_1 : Int).toNat]) := ⟨_, rfl⟩
           replace H : (spec_Lines.l0 k1 a0 y128 (wrap64 (x8_1 + 1)) (a0.size : Int) (wrap64 (x8_1 + 1))) = some r := by first | (rw [hy128]; with_reducible exact H) | (have H2_ := (Option.bind_some _ _).symm.trans H; rw [hy128]; with_reducible exact H2_) | (have H2_ := (Option.bind_some _ _).symm.trans H; with_reducible exact H2_) | with_reducible exact H | (rw [hy128]; exact H) | exact H
           have Ny128 := Aside0.mk hy128
           clear hy128
           have H' := Aside0.mk H
           clear H
           have p5 : 0 ≤ (x8_1 : Int) := of_decide_eq_true (by first | (with_reducible assumption) | assumption)
           have q5 : x8_1 < (a0.size : Int) := of_decide_eq_true (by first | (with_reducible assumption) | assumption)
           have hx5 := bt_at a0 x8_1
           replace p5 := eq_true p5
           replace q5 := eq_true q5
           go_wp2_with (first | ((with_reducible refine gate_builtin (b := .append) (xs := #[.tmp 15, .tmp 20]) rfl ?_); at_builtin; refine Kd.R_append Kd.string (w0 := w) w.heap.size rfl (.tmp 15) (.tmp 20) 42 9 (.string ⟨#[]⟩) 16 rfl Tryz.underlying42 info9 rfl (by decide) (by omega) u3 x3_1 (a0.extract (x4_1 : Int).toNat (x8_1 : Int).toNat) [.string (a0.extract (x4_1 : Int).toNat (x8_1 : Int).toNat)] (fun _ => True) (fun _ => False) rfl rfl ?aP (fun _ hk => hk.elim) ?aF ?aO ?aB ?aS ?aL ?_; (case aP => exact rfl); (case aB => exact belH); (case aF => exact (fun _ _ => trivial)); (case aO => exact (by (with_reducible repeat (first | apply Kd.R_alloc | apply Kd.R_drewN | apply Kd.R_drew)); exact HO_3.out)); (case aS => exact (below_size belH)); (case aL => have := LMc10.out; omega); intro v129 w11 ho hb hg hat; rw [← Ny128.out] at ho; have n0_ := Aside0.mk (hb); have n1_ := Aside0.mk (ho); clear HB; clear HO_3; have HB := n0_; have HO130 := n1_; clear n0_ n1_; clear ho hb hg hat))
           go_roundg k1
           case measure => have := HK1.out; omega
           case rel => exact ⟨(y128), (wrap64 (x8_1 + 1)), (wrap64 (x8_1 + 1)), (by first | rfl | (simp; done) | (simp [*]; done) | (simp [bne_nil]; done) | (simp [bne_nil, *]; done)), (by first | rfl | (simp; done) | (simp [*]; done) | (simp [bne_nil]; done) | (simp [bne_nil, *]; done)), H', ⟨by have := HK1.out; omega⟩, ⟨by (with_reducible repeat (first | apply Kd.R_alloc | apply Kd.R_drewN | apply Kd.R_drew)); exact HO130.out⟩, ⟨by repeat (first | (with_reducible first | exact HB.out | apply below_alloc | apply pw_below_drewN | apply below_drew1) | exact HB.out)⟩⟩
          ·rw [if_neg c10] at H
           exact absurd H (by simp)
         ·rw [if_neg c9] at H
          exact absurd H (by simp)
        ·rw [if_neg c8] at H
         exact absurd H (by simp)
       ·rw [if_neg c7] at H
        exact absurd H (by simp)
      ·rw [if_neg c6] at H
       have c6b0 : ((bt a0 x8_1) == 10) = false := beq_eq_false_iff_ne.mpr c6
       have c6b1 : ((bt a0 x8_1) != 10) = true := bne_iff_ne.mpr c6
       have H' := Aside0.mk H
       clear H
       have p5 : 0 ≤ (x8_1 : Int) := of_decide_eq_true (by first | (with_reducible assumption) | assumption)
       have q5 : x8_1 < (a0.size : Int) := of_decide_eq_true (by first | (with_reducible assumption) | assumption)
       have hx5 := bt_at a0 x8_1
       replace p5 := eq_true p5
       replace q5 := eq_true q5
       go_wp2
       go_roundg k1
       case measure => have := HK1.out; omega
       case rel => exact ⟨(x3_1), (x4_1), (wrap64 (x8_1 + 1)), (by first | rfl | (simp; done) | (simp [*]; done) | (simp [bne_nil]; done) | (simp [bne_nil, *]; done)), (by first | rfl | (simp; done) | (simp [*]; done) | (simp [bne_nil]; done) | (simp [bne_nil, *]; done)), H', ⟨by have := HK1.out; omega⟩, ⟨by (with_reducible repeat (first | apply Kd.R_alloc | apply Kd.R_drewN | apply Kd.R_drew)); exact HO_3.out⟩, ⟨by repeat (first | (with_reducible first | exact HB.out | apply below_alloc | apply pw_below_drewN | apply below_drew1) | exact HB.out)⟩⟩
     ·rw [if_neg c4] at H
      exact absurd H (by simp)
    ·rw [if_neg c3] at H
     exact absurd H (by simp)
   ·rw [if_neg c2] at H
    have c2b0 : decide (x8_1 < (a0.size : Int)) = false := decide_eq_false c2
    clear c2
    by_cases c12 : x4_1 < (a0.size : Int)
    ·rw [if_pos c12] at H
     have c12b0 : decide (x4_1 < (a0.size : Int)) = true := decide_eq_true c12
     clear c12
     by_cases c13 : 0 ≤ x4_1
     ·rw [if_pos c13] at H
      have c13b0 := eq_true c13
      have c13b1 : decide (0 ≤ x4_1) = true := decide_eq_true c13
      clear c13
      by_cases c14 : x4_1 ≤ (a0.size : Int)
      ·rw [if_pos c14] at H
       have c14b0 := eq_true c14
       have c14b1 : decide (x4_1 ≤ (a0.size : Int)) = true := decide_eq_true c14
       clear c14
       by_cases c15 : x3_1.length < 8796093022208
       ·rw [if_pos c15] at H
        have LMc15 := Aside0.mk c15
        clear c15
        obtain ⟨y131, hy131⟩ : ∃ y_ : List ByteArray, y_ = (x3_1 ++ [a0.extract (x4_1 : Int).toNat a0.size]) := ⟨_, rfl⟩
        replace H : (some y131) = some r := by first | (rw [hy131]; with_reducible exact H) | (have H2_ := (Option.bind_some _ _).symm.trans H; rw [hy131]; with_reducible exact H2_) | (have H2_ := (Option.bind_some _ _).symm.trans H; with_reducible exact H2_) | with_reducible exact H | (rw [hy131]; exact H) | exact H
        have Ny131 := Aside0.mk hy131
        clear hy131
        obtain rfl := Option.some.inj H
        go_wp2_with (first | ((with_reducible refine gate_builtin (b := .append) (xs := #[.tmp 29, .tmp 33]) rfl ?_); at_builtin; refine Kd.R_append Kd.string (w0 := w) w.heap.size rfl (.tmp 29) (.tmp 33) 42 9 (.string ⟨#[]⟩) 16 rfl Tryz.underlying42 info9 rfl (by decide) (by omega) u3 x3_1 (a0.extract (x4_1 : Int).toNat a0.size) [.string (a0.extract (x4_1 : Int).toNat a0.size)] (fun _ => True) (fun _ => False) rfl rfl ?aP (fun _ hk => hk.elim) ?aF ?aO ?aB ?aS ?aL ?_; (case aP => exact rfl); (case aB => exact belH); (case aF => exact (fun _ _ => trivial)); (case aO => exact (by (with_reducible repeat (first | apply Kd.R_alloc | apply Kd.R_drewN | apply Kd.R_drew)); exact HO_3.out)); (case aS => exact (below_size belH)); (case aL => have := LMc15.out; omega); intro v132 w16 ho hb hg hat; rw [← Ny131.out] at ho; have n0_ := Aside0.mk (hb); have n1_ := Aside0.mk (ho); clear HB; clear HO_3; have HB := n0_; have HO133 := n1_; clear n0_ n1_; clear ho hb hg hat))
        go_ret
        exact ⟨_, by first | rfl | (simp [errW_none, errW_some] <;> rfl) | (simp [*, errW_none, errW_some] <;> rfl), by (with_reducible repeat (first | apply Kd.R_alloc | apply Kd.R_drewN | apply Kd.R_drew)); exact HO133.out, by repeat (first | (with_reducible first | exact HB.out | apply below_alloc | apply pw_below_drewN | apply below_drew1) | exact HB.out)⟩
       ·rw [if_neg c15] at H
        exact absurd H (by simp)
      ·rw [if_neg c14] at H
       exact absurd H (by simp)
     ·rw [if_neg c13] at H
      exact absurd H (by simp)
    ·rw [if_neg c12] at H
     have c12b0 : decide (x4_1 < (a0.size : Int)) = false := decide_eq_false c12
     clear c12
     obtain rfl := Option.some.inj H
     go_wp2
     go_ret
     exact ⟨_, by first | rfl | (simp [errW_none, errW_some] <;> rfl) | (simp [*, errW_none, errW_some] <;> rfl), by (with_reducible repeat (first | apply Kd.R_alloc | apply Kd.R_drewN | apply Kd.R_drew)); exact HO_3.out, by repeat (first | (with_reducible first | exact HB.out | apply below_alloc | apply pw_below_drewN | apply below_drew1) | exact HB.out)⟩

/-! ### spec_single: function 40 -/
def spec_single.f (k : Nat) (a0 : ByteArray) : Option (ByteArray) := (spec_Lines.f k a0).bind fun t134 => (if (t134.length : Int) = 1 then (if 0 < (t134.length : Int) then (some (rdOf ByteArray.empty t134 0)) else (none)) else (some (⟨#[]⟩ : ByteArray)))
theorem spec_single.mono : ∀ a0 k, LeO (spec_single.f k a0) (spec_single.f (k + 1) a0) := by
 intro a0 k
 unfold spec_single.f
 repeat' first
   | (with_reducible exact spec_Lines.mono _ _)
   | (with_reducible exact LeO.refl _)
   | (with_reducible exact LeO.none _)
   | (with_reducible refine LeO.ite ?_ ?_)
   | (with_reducible refine LeO.bind ?_ (fun _ => ?_))
   | exact spec_Lines.mono _ _
   | exact LeO.none _
   | refine LeO.ite ?_ ?_
   | refine LeO.bind ?_ (fun _ => ?_)
set_option maxHeartbeats 8000000 in
set_option maxRecDepth 100000 in
theorem spec_single.calls (k : Nat) (a0 : ByteArray) (r : ByteArray) (w : World) (h : spec_single.f k a0 = some r) :
  Calls Tryz.prog 40 #[.string a0] w fun e w' => e = .returned (.string r) ∧ Below w.heap.size w w' := by
 have HB := Aside0.mk (Below.refl w.heap.size w)
 have H : ((spec_Lines.f k a0).bind fun t134 => (if (t134.length : Int) = 1 then (if 0 < (t134.length : Int) then (some (rdOf ByteArray.empty t134 0)) else (none)) else (some (⟨#[]⟩ : ByteArray)))) = some r := h
 clear h
 replace H := Option.bind_eq_some_iff.mp H
 obtain ⟨t134, A20, H⟩ := H
 replace H : (if (t134.length : Int) = 1 then (if 0 < (t134.length : Int) then (some (rdOf ByteArray.empty t134 0)) else (none)) else (some (⟨#[]⟩ : ByteArray))) = some r := H
 have A2 := Aside0.mk A20
 clear A20
 by_cases c3 : (t134.length : Int) = 1
 ·rw [if_pos c3] at H
  have c3b0 : ((t134.length : Int) == 1) = true := beq_iff_eq.mpr c3
  have c3b1 : ((t134.length : Int) != 1) = false := bne_eq_false_iff_eq.mpr c3
  clear c3
  by_cases c4 : 0 < (t134.length : Int)
  ·rw [if_pos c4] at H
   have c4b0 : decide (0 < (t134.length : Int)) = true := decide_eq_true c4
   have c4b1 : decide (0 < t134.length) = true := decide_eq_true (by omega)
   clear c4
   obtain rfl := Option.some.inj H
   go_enter Tryz.func40, Tryz.ntmps40
   go_wp2_with (first | ((with_reducible refine gate_callee (f := 55) rfl ?_); refine goesL_ (some 5) rfl rfl Tryz.func55 (by kernel_rfl) rfl #[.string a0] rfl (by (try simp only [List.map_toArray, List.map_cons, List.map_nil]); first | done | rfl | (simp only [List.length_drop, List.length_take]; rfl)) ?_; (with_reducible refine (spec_Lines.calls k a0 t134 _ A2.out).mono ?_); rintro e w5 ⟨v135, rfl, ho0, hb⟩; refine ⟨_, rfl, ?_⟩; have n0_ := Aside0.mk (Kd.R_lower ho0 (below_size belH)); have n1_ := Aside0.mk (below_step belH hb); clear HB; have HO136 := n0_; have HB := n1_; clear n0_ n1_; (try clear hb); (try clear hb2); (try clear hk); (try clear hi); (try clear ho0); obtain ⟨Ao6, co6, eo6⟩ := Kd.R_slice HO136.out; subst eo6; have p137 : 0 ≤ (0 : Int) := (by omega); have q137 : 0 < (t134.length : Int) := of_decide_eq_true (by first | (with_reducible assumption) | assumption); obtain ⟨ad137, e137, hx137_0⟩ := Kd.at_string (Kd.R_reads' HO136.out).2.2 0 p137 q137; cases e137; have qi137 : (0 < t134.length) = True := eq_true (by omega); (try rw [show ((0 : Int)).toNat = 0 from rfl] at hx137_0); (try rw [Addr.add_zero'] at hx137_0); replace p137 := eq_true p137; replace q137 := eq_true q137))
   go_ret
   exact ⟨by first | rfl | (simp [errW_none, errW_some] <;> rfl) | (simp [*, errW_none, errW_some] <;> rfl), by repeat (first | (with_reducible first | exact HB.out | apply below_alloc | apply pw_below_drewN | apply below_drew1) | exact HB.out)⟩
  ·rw [if_neg c4] at H
   exact absurd H (by simp)
 ·rw [if_neg c3] at H
  have c3b0 : ((t134.length : Int) == 1) = false := beq_eq_false_iff_ne.mpr c3
  have c3b1 : ((t134.length : Int) != 1) = true := bne_iff_ne.mpr c3
  obtain rfl := Option.some.inj H
  go_enter Tryz.func40, Tryz.ntmps40
  go_wp2_with (first | ((with_reducible refine gate_callee (f := 55) rfl ?_); refine goesL_ (some 5) rfl rfl Tryz.func55 (by kernel_rfl) rfl #[.string a0] rfl (by (try simp only [List.map_toArray, List.map_cons, List.map_nil]); first | done | rfl | (simp only [List.length_drop, List.length_take]; rfl)) ?_; (with_reducible refine (spec_Lines.calls k a0 t134 _ A2.out).mono ?_); rintro e w7 ⟨v135, rfl, ho0, hb⟩; refine ⟨_, rfl, ?_⟩; have n0_ := Aside0.mk (Kd.R_lower ho0 (below_size belH)); have n1_ := Aside0.mk (below_step belH hb); clear HB; have HO136 := n0_; have HB := n1_; clear n0_ n1_; (try clear hb); (try clear hb2); (try clear hk); (try clear hi); (try clear ho0); obtain ⟨Ao8, co8, eo8⟩ := Kd.R_slice HO136.out; subst eo8))
  go_ret
  exact ⟨by first | rfl | (simp [errW_none, errW_some] <;> rfl) | (simp [*, errW_none, errW_some] <;> rfl), by repeat (first | (with_reducible first | exact HB.out | apply below_alloc | apply pw_below_drewN | apply below_drew1) | exact HB.out)⟩

end Go.Proofs.YtdmpbaanonafbaaGreatDoor.Q
