-- written by a program of this session (wip/tools/pp.py)
import Derived.Test.YtdmpbaanonafbaaGreatDoorA0
import Derived.Test.YtdmpbaanonafbaaGreatDoorA1
namespace Go.Proofs.YtdmpbaanonafbaaGreatDoor.A
open Go.RowKit Go.Proofs.YtdmpbaanonafbaaGreatDoorW.PrintWords Go.Proofs.YtdmpbaanonafbaaGreatDoorW.PrintLast Go.Proofs.YtdmpbaanonafbaaGreatDoor.Flt Go.Proofs.YtdmpbaanonafbaaGreatDoor.GivZ Go.Proofs.YtdmpbaanonafbaaGreatDoor.E Go.Proofs.YtdmpbaanonafbaaGreatDoor.L Go.Proofs.YtdmpbaanonafbaaGreatDoor.V Go.Proofs.YtdmpbaanonafbaaGreatDoor.DoorLoad Go.Proofs.YtdmpbaanonafbaaGreatDoor.Lives Go.Proofs.YtdmpbaanonafbaaGreatDoor.R Go.Proofs.YtdmpbaanonafbaaGreatDoorW.PrintMore
attribute [local go_sem] max2_int min2_int max_two min_two max_three min_three max_four min_four   -- for this text's walks alone
set_option linter.unusedVariables false
set_option linter.unusedSimpArgs false
theorem sz1b_ (c : UInt8) : (⟨#[c]⟩ : ByteArray).size = 1 := rfl

/-! ### spec_LoadavgPrint: function 13 -/
def spec_LoadavgPrint.j0 : Nat → List (S48) → Bool → Option (ByteArray × Int)
 | 0, _, _ => none
 | k + 1, x0, x22 => if x22 = true then (some ((⟨#[]⟩ : ByteArray), 2)) else (if 0 < (x0.length : Int) then (if 0 < (((rd_T48 x0 0).f1).length : Int) then ((spec_Hundredths.f k (rd ((rd_T48 x0 0).f1) 0)).bind fun t109 => (if t109.size + 1 ≤ 9223372036854775807 then (if 1 < (((rd_T48 x0 0).f1).length : Int) then ((spec_Hundredths.f k (rd ((rd_T48 x0 0).f1) 1)).bind fun t111 => (if (t109 ++ (⟨#[32]⟩ : ByteArray)).size + t111.size ≤ 9223372036854775807 then (if ((t109 ++ (⟨#[32]⟩ : ByteArray)) ++ t111).size + 1 ≤ 9223372036854775807 then (if 2 < (((rd_T48 x0 0).f1).length : Int) then ((spec_Hundredths.f k (rd ((rd_T48 x0 0).f1) 2)).bind fun t113 => (if (((t109 ++ (⟨#[32]⟩ : ByteArray)) ++ t111) ++ (⟨#[32]⟩ : ByteArray)).size + t113.size ≤ 9223372036854775807 then (if ((((t109 ++ (⟨#[32]⟩ : ByteArray)) ++ t111) ++ (⟨#[32]⟩ : ByteArray)) ++ t113).size + 1 ≤ 9223372036854775807 then (if 3 < (((rd_T48 x0 0).f1).length : Int) then ((spec_Text.f k (rd ((rd_T48 x0 0).f1) 3)).bind fun t115 => (if (((((t109 ++ (⟨#[32]⟩ : ByteArray)) ++ t111) ++ (⟨#[32]⟩ : ByteArray)) ++ t113) ++ (⟨#[32]⟩ : ByteArray)).size + t115.size ≤ 9223372036854775807 then (if ((((((t109 ++ (⟨#[32]⟩ : ByteArray)) ++ t111) ++ (⟨#[32]⟩ : ByteArray)) ++ t113) ++ (⟨#[32]⟩ : ByteArray)) ++ t115).size + 1 ≤ 9223372036854775807 then (if 4 < (((rd_T48 x0 0).f1).length : Int) then ((spec_Text.f k (rd ((rd_T48 x0 0).f1) 4)).bind fun t117 => (if (((((((t109 ++ (⟨#[32]⟩ : ByteArray)) ++ t111) ++ (⟨#[32]⟩ : ByteArray)) ++ t113) ++ (⟨#[32]⟩ : ByteArray)) ++ t115) ++ (⟨#[47]⟩ : ByteArray)).size + t117.size ≤ 9223372036854775807 then (if ((((((((t109 ++ (⟨#[32]⟩ : ByteArray)) ++ t111) ++ (⟨#[32]⟩ : ByteArray)) ++ t113) ++ (⟨#[32]⟩ : ByteArray)) ++ t115) ++ (⟨#[47]⟩ : ByteArray)) ++ t117).size + 1 ≤ 9223372036854775807 then (if 5 < (((rd_T48 x0 0).f1).length : Int) then ((spec_Text.f k (rd ((rd_T48 x0 0).f1) 5)).bind fun t119 => (if (((((((((t109 ++ (⟨#[32]⟩ : ByteArray)) ++ t111) ++ (⟨#[32]⟩ : ByteArray)) ++ t113) ++ (⟨#[32]⟩ : ByteArray)) ++ t115) ++ (⟨#[47]⟩ : ByteArray)) ++ t117) ++ (⟨#[32]⟩ : ByteArray)).size + t119.size ≤ 9223372036854775807 then (if ((((((((((t109 ++ (⟨#[32]⟩ : ByteArray)) ++ t111) ++ (⟨#[32]⟩ : ByteArray)) ++ t113) ++ (⟨#[32]⟩ : ByteArray)) ++ t115) ++ (⟨#[47]⟩ : ByteArray)) ++ t117) ++ (⟨#[32]⟩ : ByteArray)) ++ t119).size + 1 ≤ 9223372036854775807 then (some (((((((((((t109 ++ (⟨#[32]⟩ : ByteArray)) ++ t111) ++ (⟨#[32]⟩ : ByteArray)) ++ t113) ++ (⟨#[32]⟩ : ByteArray)) ++ t115) ++ (⟨#[47]⟩ : ByteArray)) ++ t117) ++ (⟨#[32]⟩ : ByteArray)) ++ t119) ++ (⟨#[10]⟩ : ByteArray), 1)) else (none)) else (none))) else (none)) else (none)) else (none))) else (none)) else (none)) else (none))) else (none)) else (none)) else (none))) else (none)) else (none)) else (none))) else (none)) else (none))) else (none)) else (none))
def spec_LoadavgPrint.f (k : Nat) (l0 : List (S48)) : Option (ByteArray × Int) := if (l0.length : Int) = 1 then (if 0 < (l0.length : Int) then ((spec_sized.f ((rd_T48 l0 0).f0) ((rd_T48 l0 0).f1) ((rd_T48 l0 0).f2) 6 0).bind fun t104 => (if t104 = true then ((spec_small.f k 1099511627776 ((rd_T48 l0 0).f1)).bind fun t106 => (spec_LoadavgPrint.j0 k l0 (!t106))) else (spec_LoadavgPrint.j0 k l0 true))) else (none)) else (spec_LoadavgPrint.j0 k l0 true)
theorem spec_LoadavgPrint.mono_l : ∀ k, (∀ y0 y1, LeO (spec_LoadavgPrint.j0 k y0 y1) (spec_LoadavgPrint.j0 (k + 1) y0 y1))
 | 0 => fun _ _ r h => by simp [spec_LoadavgPrint.j0] at h
 | k + 1 => by
  have ih0 := spec_LoadavgPrint.mono_l k
  ·intro y0 y1
   unfold spec_LoadavgPrint.j0
   repeat' first
   | (with_reducible exact ih0 _ _)
   | (with_reducible exact spec_Hundredths.mono _ _)
   | (with_reducible exact spec_Text.mono _ _)
   | (with_reducible exact spec_small.mono _ _ _)
   | (with_reducible exact LeO.refl _)
   | (with_reducible exact LeO.none _)
   | (with_reducible refine LeO.ite ?_ ?_)
   | (with_reducible refine LeO.bind ?_ (fun _ => ?_))
   | exact ih0 _ _
   | exact spec_Hundredths.mono _ _
   | exact spec_Text.mono _ _
   | exact spec_small.mono _ _ _
   | exact LeO.none _
   | refine LeO.ite ?_ ?_
   | refine LeO.bind ?_ (fun _ => ?_)
theorem spec_LoadavgPrint.mono : ∀ a0 k, LeO (spec_LoadavgPrint.f k a0) (spec_LoadavgPrint.f (k + 1) a0) := by
 intro a0 k
 have ih0 := spec_LoadavgPrint.mono_l k
 unfold spec_LoadavgPrint.f
 repeat' first
   | (with_reducible exact ih0 _ _)
   | (with_reducible exact spec_Hundredths.mono _ _)
   | (with_reducible exact spec_Text.mono _ _)
   | (with_reducible exact spec_small.mono _ _ _)
   | (with_reducible exact LeO.refl _)
   | (with_reducible exact LeO.none _)
   | (with_reducible refine LeO.ite ?_ ?_)
   | (with_reducible refine LeO.bind ?_ (fun _ => ?_))
   | exact ih0 _ _
   | exact spec_Hundredths.mono _ _
   | exact spec_Text.mono _ _
   | exact spec_small.mono _ _ _
   | exact LeO.none _
   | refine LeO.ite ?_ ?_
   | refine LeO.bind ?_ (fun _ => ?_)
def spec_LoadavgPrint.T4 : Bool × List (List Nat × List Nat) := (true, [([], []), ([0], [0]), ([1], [1]), ([2], [2]), ([3], [3]), ([], []), ([5], [5]), ([6], [6]), ([7, 3], [7]), ([4, 8], [4, 8]), ([9], [9]), ([], []), ([11], [11]), ([12], [12]), ([13, 8], [13]), ([10, 14], [10, 14]), ([15], [15]), ([], []), ([17], [17]), ([18], [18]), ([19, 14], [19]), ([16, 20], [16, 20]), ([21], [21]), ([], []), ([23], [23]), ([24], [24]), ([25, 20], [25]), ([22, 26], [22, 26]), ([27], [27]), ([], []), ([29], [29]), ([30], [30]), ([31, 26], [31]), ([28, 32], [28, 32]), ([33], [33]), ([34, 32, 0, 1, 2, 3, 4, 5, 6, 7, 8, 9, 10, 11, 12, 13, 14, 15, 16, 17, 18, 19, 20, 21, 22, 23, 24, 25, 26, 27, 28, 29, 30, 31, 32, 33, 34], [34]), ([35, 0, 1, 2, 3, 4, 5, 6, 7, 8, 9, 10, 11, 12, 13, 14, 15, 16, 17, 18, 19, 20, 21, 22, 23, 24, 25, 26, 27, 28, 29, 30, 31, 32, 33, 34, 35], [])])
def spec_LoadavgPrint.B4 : List Nat := [0, 1, 3, 7, 15, 0, 32, 96, 239, 511, 1023, 0, 2048, 6144, 14831, 32767, 65535, 0, 131072, 393216, 948719, 2097151, 4194303, 0, 8388608, 25165824, 60717551, 134217727, 268435455, 0, 536870912, 1610612736, 3885922799, 8589934591, 17179869183, 34359738367, 68719476735]
theorem spec_LoadavgPrint.tab4 : rtab .any (opsOf Tryz.f13 4) = spec_LoadavgPrint.T4 := by kernel_rfl
theorem spec_LoadavgPrint.bits4 : waitsOk spec_LoadavgPrint.T4.2 spec_LoadavgPrint.B4 = true := by kernel_rfl
set_option maxHeartbeats 8000000 in
set_option maxRecDepth 100000 in
theorem spec_LoadavgPrint.calls (k : Nat) (A0 : Option Addr) (c0 : Nat) (l0 : List (S48)) (r1 : ByteArray) (r2 : Int) (w : World) (hr0 : Kd.C k48 w A0 l0.length l0) (hc0 : l0.length ≤ c0) (h : spec_LoadavgPrint.f k l0 = some (r1, r2)) :
  Calls Tryz.prog 13 #[.slice A0 l0.length c0] w fun e w' => e = .returned (.tuple #[.string r1, .int .i64 r2]) ∧ Below w.heap.size w w' := by
 have hu48 := Tryz.underlying48
 have HR0 := Aside0.mk hr0
 have HC0 := Aside0.mk hc0
 clear hr0 hc0
 have HB := Aside0.mk (Below.refl w.heap.size w)
 have H : (if (l0.length : Int) = 1 then (if 0 < (l0.length : Int) then ((spec_sized.f ((rd_T48 l0 0).f0) ((rd_T48 l0 0).f1) ((rd_T48 l0 0).f2) 6 0).bind fun t104 => (if t104 = true then ((spec_small.f k 1099511627776 ((rd_T48 l0 0).f1)).bind fun t106 => (spec_LoadavgPrint.j0 k l0 (!t106))) else (spec_LoadavgPrint.j0 k l0 true))) else (none)) else (spec_LoadavgPrint.j0 k l0 true)) = some (r1, r2) := h
 clear h
 have HC2 := Aside0.mk H
 clear H
 go_enter Tryz.func13, Tryz.ntmps13
 go_upto_region 1 with (fail)
 go_cut [22] (fun v22 wc => ∃ (kq : Nat) (x22_1 : Bool), v22 = .bool x22_1 ∧ Aside0 (spec_LoadavgPrint.j0 kq l0 x22_1 = some (r1, r2)) ∧ Aside0 (kq ≤ k) ∧ Aside0 (Below w.heap.size w wc))
 case first =>
  have H := HC2.out
  clear HC2
  by_cases c3 : (l0.length : Int) = 1
  ·rw [if_pos c3] at H
   have c3b0 : ((l0.length : Int) == 1) = true := beq_iff_eq.mpr c3
   have c3b1 : ((l0.length : Int) != 1) = false := bne_eq_false_iff_eq.mpr c3
   clear c3
   (first | rw [c3b0] | (simp only [i64_w, i32_w]; rw [c3b0]) | skip)
   by_cases c4 : 0 < (l0.length : Int)
   ·rw [if_pos c4] at H
    have c4b0 : decide (0 < (l0.length : Int)) = true := decide_eq_true c4
    have c4b1 : decide (0 < l0.length) = true := decide_eq_true (by omega)
    clear c4
    replace H := Option.bind_eq_some_iff.mp H
    obtain ⟨t104, A50, H⟩ := H
    have A5 := Aside0.mk A50
    clear A50
    by_cases c6 : t104 = true
    ·subst c6
     have H1 : ((spec_small.f k 1099511627776 ((rd_T48 l0 0).f1)).bind fun t106 => (spec_LoadavgPrint.j0 k l0 (!t106))) = some (r1, r2) := by rw [if_pos rfl] at H; exact H
     clear H
     have H := H1
     clear H1
     replace H := Option.bind_eq_some_iff.mp H
     obtain ⟨t106, A70, H⟩ := H
     have A7 := Aside0.mk A70
     clear A70
     have H' := Aside0.mk H
     clear H
     have p103 : 0 ≤ (0 : Int) := (by omega)
     have q103 : 0 < (l0.length : Int) := of_decide_eq_true (by first | (with_reducible assumption) | assumption)
     obtain ⟨ad103, A103_1, c103_1, A103_2, c103_2, e103, hx103_0, hx103_1, hx103_2, hl103_1, hi103_1, hl103_2, hi103_2⟩ := at_T48 HR0.out 0 p103 q103
     cases e103
     have qi103 : (0 < l0.length) = True := eq_true (by omega)
     (try rw [show ((0 : Int)).toNat = 0 from rfl] at hx103_0)
     (try rw [show 0 * 3 = 0 from rfl] at hx103_0)
     (try rw [Addr.add_zero'] at hx103_0)
     (try rw [show ((0 : Int)).toNat = 0 from rfl] at hx103_1)
     (try rw [show 0 * 3 = 0 from rfl] at hx103_1)
     (try rw [Addr.add_zero'] at hx103_1)
     (try rw [show ((0 : Int)).toNat = 0 from rfl] at hx103_2)
     (try rw [show 0 * 3 = 0 from rfl] at hx103_2)
     (try rw [Addr.add_zero'] at hx103_2)
     replace hx103_0 := (HB.out.cell (World.block_lt_of_cell? w _ hx103_0)).trans hx103_0
     replace hx103_1 := (HB.out.cell (World.block_lt_of_cell? w _ hx103_1)).trans hx103_1
     replace hx103_2 := (HB.out.cell (World.block_lt_of_cell? w _ hx103_2)).trans hx103_2
     have HR103_1 := Aside0.mk hi103_1
     have HC103_1 := Aside0.mk hl103_1
     clear hi103_1 hl103_1
     have HR103_2 := Aside0.mk hi103_2
     have HC103_2 := Aside0.mk hl103_2
     clear hi103_2 hl103_2
     replace p103 := eq_true p103
     replace q103 := eq_true q103
     go_wp2_with (first | (go_at_call 45; (with_reducible refine (spec_sized.calls ((rd_T48 l0 0).f0) _ _ ((rd_T48 l0 0).f1) _ _ ((rd_T48 l0 0).f2) 6 0 true _ ?side1 ?side2 ?side3 ?side4 A5.out).mono ?_); (case side1 => repeat (first | exact (Kd.C_below HR103_1.out HB.out) | (with_reducible refine Kd.C_alloc ?_ _) | (with_reducible refine Kd.C_drewN ?_ _) | (with_reducible refine Kd.C_drew ?_))); (case side2 => exact HC103_1.out); (case side3 => repeat (first | exact (Kd.C_below HR103_2.out HB.out) | (with_reducible refine Kd.C_alloc ?_ _) | (with_reducible refine Kd.C_drewN ?_ _) | (with_reducible refine Kd.C_drew ?_))); (case side4 => exact HC103_2.out); rintro e w8 ⟨rfl, hb⟩; have n0_ := Aside0.mk (below_step belH hb); clear HB; have HB := n0_; clear n0_; (try clear hb); (try clear hb2); (try clear hk); (try clear hi); have p105 : 0 ≤ (0 : Int) := (by omega); have q105 : 0 < (l0.length : Int) := of_decide_eq_true (by first | (with_reducible assumption) | assumption); obtain ⟨ad105, A105_1, c105_1, A105_2, c105_2, e105, hx105_0, hx105_1, hx105_2, hl105_1, hi105_1, hl105_2, hi105_2⟩ := at_T48 HR0.out 0 p105 q105; obtain rfl : ad103 = ad105 := (by injection e105); have qi105 : (0 < l0.length) = True := eq_true (by omega); (try rw [show ((0 : Int)).toNat = 0 from rfl] at hx105_0); (try rw [show 0 * 3 = 0 from rfl] at hx105_0); (try rw [Addr.add_zero'] at hx105_0); (try rw [show ((0 : Int)).toNat = 0 from rfl] at hx105_1); (try rw [show 0 * 3 = 0 from rfl] at hx105_1); (try rw [Addr.add_zero'] at hx105_1); (try rw [show ((0 : Int)).toNat = 0 from rfl] at hx105_2); (try rw [show 0 * 3 = 0 from rfl] at hx105_2); (try rw [Addr.add_zero'] at hx105_2); replace hx105_0 := (HB.out.cell (World.block_lt_of_cell? w _ hx105_0)).trans hx105_0; replace hx105_1 := (HB.out.cell (World.block_lt_of_cell? w _ hx105_1)).trans hx105_1; replace hx105_2 := (HB.out.cell (World.block_lt_of_cell? w _ hx105_2)).trans hx105_2; have HR105_1 := Aside0.mk hi105_1; have HC105_1 := Aside0.mk hl105_1; clear hi105_1 hl105_1; have HR105_2 := Aside0.mk hi105_2; have HC105_2 := Aside0.mk hl105_2; clear hi105_2 hl105_2; replace p105 := eq_true p105; replace q105 := eq_true q105) | (go_at_call 46; (with_reducible refine (spec_small.calls k 1099511627776 _ _ ((rd_T48 l0 0).f1) t106 _ ?side1 ?side2 A7.out).mono ?_); (case side1 => repeat (first | exact (Kd.C_below HR105_1.out HB.out) | (with_reducible refine Kd.C_alloc ?_ _) | (with_reducible refine Kd.C_drewN ?_ _) | (with_reducible refine Kd.C_drew ?_))); (case side2 => exact HC105_1.out); rintro e w' ⟨rfl, ⟨nd, rfl⟩⟩))
     go_meet
     case rel => exact ⟨_, (!t106), (by first | rfl | (simp; done) | (simp [*]; done) | (simp [bne_nil]; done) | (simp [bne_nil, *]; done)), H', ⟨by first | omega | exact Nat.le_refl _⟩, ⟨by repeat (first | (with_reducible first | exact HB.out | apply below_alloc | apply pw_below_drewN | apply below_drew1) | exact HB.out)⟩⟩
    ·replace c6 := Bool.eq_false_iff.mpr c6
     subst c6
     have H1 : (spec_LoadavgPrint.j0 k l0 true) = some (r1, r2) := by rw [if_neg (show ¬ (false = true) by decide)] at H; exact H
     clear H
     have H := H1
     clear H1
     have H' := Aside0.mk H
     clear H
     have p103 : 0 ≤ (0 : Int) := (by omega)
     have q103 : 0 < (l0.length : Int) := of_decide_eq_true (by first | (with_reducible assumption) | assumption)
     obtain ⟨ad103, A103_1, c103_1, A103_2, c103_2, e103, hx103_0, hx103_1, hx103_2, hl103_1, hi103_1, hl103_2, hi103_2⟩ := at_T48 HR0.out 0 p103 q103
     cases e103
     have qi103 : (0 < l0.length) = True := eq_true (by omega)
     (try rw [show ((0 : Int)).toNat = 0 from rfl] at hx103_0)
     (try rw [show 0 * 3 = 0 from rfl] at hx103_0)
     (try rw [Addr.add_zero'] at hx103_0)
     (try rw [show ((0 : Int)).toNat = 0 from rfl] at hx103_1)
     (try rw [show 0 * 3 = 0 from rfl] at hx103_1)
     (try rw [Addr.add_zero'] at hx103_1)
     (try rw [show ((0 : Int)).toNat = 0 from rfl] at hx103_2)
     (try rw [show 0 * 3 = 0 from rfl] at hx103_2)
     (try rw [Addr.add_zero'] at hx103_2)
     replace hx103_0 := (HB.out.cell (World.block_lt_of_cell? w _ hx103_0)).trans hx103_0
     replace hx103_1 := (HB.out.cell (World.block_lt_of_cell? w _ hx103_1)).trans hx103_1
     replace hx103_2 := (HB.out.cell (World.block_lt_of_cell? w _ hx103_2)).trans hx103_2
     have HR103_1 := Aside0.mk hi103_1
     have HC103_1 := Aside0.mk hl103_1
     clear hi103_1 hl103_1
     have HR103_2 := Aside0.mk hi103_2
     have HC103_2 := Aside0.mk hl103_2
     clear hi103_2 hl103_2
     replace p103 := eq_true p103
     replace q103 := eq_true q103
     go_wp2_with (first | (go_at_call 45; (with_reducible refine (spec_sized.calls ((rd_T48 l0 0).f0) _ _ ((rd_T48 l0 0).f1) _ _ ((rd_T48 l0 0).f2) 6 0 false _ ?side1 ?side2 ?side3 ?side4 A5.out).mono ?_); (case side1 => repeat (first | exact (Kd.C_below HR103_1.out HB.out) | (with_reducible refine Kd.C_alloc ?_ _) | (with_reducible refine Kd.C_drewN ?_ _) | (with_reducible refine Kd.C_drew ?_))); (case side2 => exact HC103_1.out); (case side3 => repeat (first | exact (Kd.C_below HR103_2.out HB.out) | (with_reducible refine Kd.C_alloc ?_ _) | (with_reducible refine Kd.C_drewN ?_ _) | (with_reducible refine Kd.C_drew ?_))); (case side4 => exact HC103_2.out); rintro e w9 ⟨rfl, hb⟩; have n0_ := Aside0.mk (below_step belH hb); clear HB; have HB := n0_; clear n0_; (try clear hb); (try clear hb2); (try clear hk); (try clear hi)))
     go_meet
     case rel => exact ⟨_, (true), (by first | rfl | (simp; done) | (simp [*]; done) | (simp [bne_nil]; done) | (simp [bne_nil, *]; done)), H', ⟨by first | omega | exact Nat.le_refl _⟩, ⟨by repeat (first | (with_reducible first | exact HB.out | apply below_alloc | apply pw_below_drewN | apply below_drew1) | exact HB.out)⟩⟩
   ·rw [if_neg c4] at H
    exact absurd H (by simp)
  ·rw [if_neg c3] at H
   have c3b0 : ((l0.length : Int) == 1) = false := beq_eq_false_iff_ne.mpr c3
   have c3b1 : ((l0.length : Int) != 1) = true := bne_iff_ne.mpr c3
   (first | rw [c3b0] | (simp only [i64_w, i32_w]; rw [c3b0]) | skip)
   have H' := Aside0.mk H
   clear H
   go_wp2
   go_meet
   case rel => exact ⟨_, (true), (by first | rfl | (simp; done) | (simp [*]; done) | (simp [bne_nil]; done) | (simp [bne_nil, *]; done)), H', ⟨by first | omega | exact Nat.le_refl _⟩, ⟨by repeat (first | (with_reducible first | exact HB.out | apply below_alloc | apply pw_below_drewN | apply below_drew1) | exact HB.out)⟩⟩
 case rest =>
  clear HC2
  try clear c1
  try clear p1
  try clear q1
  try clear hx1
  try clear qi1
  try clear p2
  try clear c3
  try clear c3b0
  try clear c3b1
  try clear c4
  try clear c4b0
  try clear c4b1
  try clear c6
  try clear hx103_0
  try clear hx103_1
  try clear hx103_2
  try clear hx105_0
  try clear hx105_1
  try clear hx105_2
  try clear p103
  try clear p105
  try clear q103
  try clear q105
  obtain ⟨kq, x22_1, rfl, HA, HJ1, HB⟩ := hcut
  cases kq with
  | zero => exact absurd HA.out (by simp [spec_LoadavgPrint.j0])
  | succ kj1 =>
   have H := HA.out
   clear HA
   simp only [spec_LoadavgPrint.j0] at H
   by_cases c10 : x22_1 = true
   ·subst c10
    have H1 : (some ((⟨#[]⟩ : ByteArray), 2)) = some (r1, r2) := by rw [if_pos rfl] at H; exact H
    clear H
    have H := H1
    clear H1
    simp only [Option.some.injEq, Prod.mk.injEq] at H
    obtain ⟨rfl, rfl⟩ := H
    go_wp2
    go_ret2
    exact ⟨by first | rfl | (simp [errW_none, errW_some] <;> rfl) | (simp [*, errW_none, errW_some] <;> rfl), by repeat (first | (with_reducible first | exact HB.out | apply below_alloc | apply pw_below_drewN | apply below_drew1) | exact HB.out)⟩
   ·replace c10 := Bool.eq_false_iff.mpr c10
    subst c10
    have H1 : (if 0 < (l0.length : Int) then (if 0 < (((rd_T48 l0 0).f1).length : Int) then ((spec_Hundredths.f kj1 (rd ((rd_T48 l0 0).f1) 0)).bind fun t109 => (if t109.size + 1 ≤ 9223372036854775807 then (if 1 < (((rd_T48 l0 0).f1).length : Int) then ((spec_Hundredths.f kj1 (rd ((rd_T48 l0 0).f1) 1)).bind fun t111 => (if (t109 ++ (⟨#[32]⟩ : ByteArray)).size + t111.size ≤ 9223372036854775807 then (if ((t109 ++ (⟨#[32]⟩ : ByteArray)) ++ t111).size + 1 ≤ 9223372036854775807 then (if 2 < (((rd_T48 l0 0).f1).length : Int) then ((spec_Hundredths.f kj1 (rd ((rd_T48 l0 0).f1) 2)).bind fun t113 => (if (((t109 ++ (⟨#[32]⟩ : ByteArray)) ++ t111) ++ (⟨#[32]⟩ : ByteArray)).size + t113.size ≤ 9223372036854775807 then (if ((((t109 ++ (⟨#[32]⟩ : ByteArray)) ++ t111) ++ (⟨#[32]⟩ : ByteArray)) ++ t113).size + 1 ≤ 9223372036854775807 then (if 3 < (((rd_T48 l0 0).f1).length : Int) then ((spec_Text.f kj1 (rd ((rd_T48 l0 0).f1) 3)).bind fun t115 => (if (((((t109 ++ (⟨#[32]⟩ : ByteArray)) ++ t111) ++ (⟨#[32]⟩ : ByteArray)) ++ t113) ++ (⟨#[32]⟩ : ByteArray)).size + t115.size ≤ 9223372036854775807 then (if ((((((t109 ++ (⟨#[32]⟩ : ByteArray)) ++ t111) ++ (⟨#[32]⟩ : ByteArray)) ++ t113) ++ (⟨#[32]⟩ : ByteArray)) ++ t115).size + 1 ≤ 9223372036854775807 then (if 4 < (((rd_T48 l0 0).f1).length : Int) then ((spec_Text.f kj1 (rd ((rd_T48 l0 0).f1) 4)).bind fun t117 => (if (((((((t109 ++ (⟨#[32]⟩ : ByteArray)) ++ t111) ++ (⟨#[32]⟩ : ByteArray)) ++ t113) ++ (⟨#[32]⟩ : ByteArray)) ++ t115) ++ (⟨#[47]⟩ : ByteArray)).size + t117.size ≤ 9223372036854775807 then (if ((((((((t109 ++ (⟨#[32]⟩ : ByteArray)) ++ t111) ++ (⟨#[32]⟩ : ByteArray)) ++ t113) ++ (⟨#[32]⟩ : ByteArray)) ++ t115) ++ (⟨#[47]⟩ : ByteArray)) ++ t117).size + 1 ≤ 9223372036854775807 then (if 5 < (((rd_T48 l0 0).f1).length : Int) then ((spec_Text.f kj1 (rd ((rd_T48 l0 0).f1) 5)).bind fun t119 => (if (((((((((t109 ++ (⟨#[32]⟩ : ByteArray)) ++ t111) ++ (⟨#[32]⟩ : ByteArray)) ++ t113) ++ (⟨#[32]⟩ : ByteArray)) ++ t115) ++ (⟨#[47]⟩ : ByteArray)) ++ t117) ++ (⟨#[32]⟩ : ByteArray)).size + t119.size ≤ 9223372036854775807 then (if ((((((((((t109 ++ (⟨#[32]⟩ : ByteArray)) ++ t111) ++ (⟨#[32]⟩ : ByteArray)) ++ t113) ++ (⟨#[32]⟩ : ByteArray)) ++ t115) ++ (⟨#[47]⟩ : ByteArray)) ++ t117) ++ (⟨#[32]⟩ : ByteArray)) ++ t119).size + 1 ≤ 9223372036854775807 then (some (((((((((((t109 ++ (⟨#[32]⟩ : ByteArray)) ++ t111) ++ (⟨#[32]⟩ : ByteArray)) ++ t113) ++ (⟨#[32]⟩ : ByteArray)) ++ t115) ++ (⟨#[47]⟩ : ByteArray)) ++ t117) ++ (⟨#[32]⟩ : ByteArray)) ++ t119) ++ (⟨#[10]⟩ : ByteArray), 1)) else (none)) else (none))) else (none)) else (none)) else (none))) else (none)) else (none)) else (none))) else (none)) else (none)) else (none))) else (none)) else (none)) else (none))) else (none)) else (none))) else (none)) else (none)) = some (r1, r2) := by rw [if_neg (show ¬ (false = true) by decide)] at H; exact H
    clear H
    have H := H1
    clear H1
    by_cases c11 : 0 < (l0.length : Int)
    ·rw [if_pos c11] at H
     have c11b0 : decide (0 < (l0.length : Int)) = true := decide_eq_true c11
     have c11b1 : decide (0 < l0.length) = true := decide_eq_true (by omega)
     clear c11
     by_cases c12 : 0 < (((rd_T48 l0 0).f1).length : Int)
     ·rw [if_pos c12] at H
      have c12b0 : decide (0 < (((rd_T48 l0 0).f1).length : Int)) = true := decide_eq_true c12
      have c12b1 : decide (0 < ((rd_T48 l0 0).f1).length) = true := decide_eq_true (by omega)
      clear c12
      replace H := Option.bind_eq_some_iff.mp H
      obtain ⟨t109, A130, H⟩ := H
      have A13 := Aside0.mk A130
      clear A130
      by_cases c14 : t109.size + 1 ≤ 9223372036854775807
      ·rw [if_pos c14] at H
       have c14b0 := eq_true c14
       have c14z := c14
       (try simp only [ByteArray.size_append, sz1b_] at c14z)
       try have c14b3 := eq_false (Nat.not_lt.2 c14z)
       have c14b1 : decide (t109.size + 1 ≤ 9223372036854775807) = true := decide_eq_true c14
       try have c14b2 : (9223372036854775807 < t109.size + 1) = False := eq_false (Nat.not_lt.2 c14)
       by_cases c15 : 1 < (((rd_T48 l0 0).f1).length : Int)
       ·rw [if_pos c15] at H
        have c15b0 : decide (1 < (((rd_T48 l0 0).f1).length : Int)) = true := decide_eq_true c15
        have c15b1 : decide (1 < ((rd_T48 l0 0).f1).length) = true := decide_eq_true (by omega)
        clear c15
        replace H := Option.bind_eq_some_iff.mp H
        obtain ⟨t111, A160, H⟩ := H
        have A16 := Aside0.mk A160
        clear A160
        by_cases c17 : (t109 ++ (⟨#[32]⟩ : ByteArray)).size + t111.size ≤ 9223372036854775807
        ·rw [if_pos c17] at H
         have c17b0 := eq_true c17
         have c17z := c17
         (try simp only [ByteArray.size_append, sz1b_] at c17z)
         try have c17b3 := eq_false (Nat.not_lt.2 c17z)
         have c17b1 : decide ((t109 ++ (⟨#[32]⟩ : ByteArray)).size + t111.size ≤ 9223372036854775807) = true := decide_eq_true c17
         try have c17b2 : (9223372036854775807 < (t109 ++ (⟨#[32]⟩ : ByteArray)).size + t111.size) = False := eq_false (Nat.not_lt.2 c17)
         by_cases c18 : ((t109 ++ (⟨#[32]⟩ : ByteArray)) ++ t111).size + 1 ≤ 9223372036854775807
         ·rw [if_pos c18] at H
          have c18b0 := eq_true c18
          have c18z := c18
          (try simp only [ByteArray.size_append, sz1b_] at c18z)
          try have c18b3 := eq_false (Nat.not_lt.2 c18z)
          have c18b1 : decide (((t109 ++ (⟨#[32]⟩ : ByteArray)) ++ t111).size + 1 ≤ 9223372036854775807) = true := decide_eq_true c18
          try have c18b2 : (9223372036854775807 < ((t109 ++ (⟨#[32]⟩ : ByteArray)) ++ t111).size + 1) = False := eq_false (Nat.not_lt.2 c18)
          by_cases c19 : 2 < (((rd_T48 l0 0).f1).length : Int)
          ·rw [if_pos c19] at H
           have c19b0 : decide (2 < (((rd_T48 l0 0).f1).length : Int)) = true := decide_eq_true c19
           have c19b1 : decide (2 < ((rd_T48 l0 0).f1).length) = true := decide_eq_true (by omega)
           clear c19
           replace H := Option.bind_eq_some_iff.mp H
           obtain ⟨t113, A200, H⟩ := H
           have A20 := Aside0.mk A200
           clear A200
           by_cases c21 : (((t109 ++ (⟨#[32]⟩ : ByteArray)) ++ t111) ++ (⟨#[32]⟩ : ByteArray)).size + t113.size ≤ 9223372036854775807
           ·rw [if_pos c21] at H
            have c21b0 := eq_true c21
            have c21z := c21
            (try simp only [ByteArray.size_append, sz1b_] at c21z)
            try have c21b3 := eq_false (Nat.not_lt.2 c21z)
            have c21b1 : decide ((((t109 ++ (⟨#[32]⟩ : ByteArray)) ++ t111) ++ (⟨#[32]⟩ : ByteArray)).size + t113.size ≤ 9223372036854775807) = true := decide_eq_true c21
            try have c21b2 : (9223372036854775807 < (((t109 ++ (⟨#[32]⟩ : ByteArray)) ++ t111) ++ (⟨#[32]⟩ : ByteArray)).size + t113.size) = False := eq_false (Nat.not_lt.2 c21)
            by_cases c22 : ((((t109 ++ (⟨#[32]⟩ : ByteArray)) ++ t111) ++ (⟨#[32]⟩ : ByteArray)) ++ t113).size + 1 ≤ 9223372036854775807
            ·rw [if_pos c22] at H
             have c22b0 := eq_true c22
             have c22z := c22
             (try simp only [ByteArray.size_append, sz1b_] at c22z)
             try have c22b3 := eq_false (Nat.not_lt.2 c22z)
             have c22b1 : decide (((((t109 ++ (⟨#[32]⟩ : ByteArray)) ++ t111) ++ (⟨#[32]⟩ : ByteArray)) ++ t113).size + 1 ≤ 9223372036854775807) = true := decide_eq_true c22
             try have c22b2 : (9223372036854775807 < ((((t109 ++ (⟨#[32]⟩ : ByteArray)) ++ t111) ++ (⟨#[32]⟩ : ByteArray)) ++ t113).size + 1) = False := eq_false (Nat.not_lt.2 c22)
             by_cases c23 : 3 < (((rd_T48 l0 0).f1).length : Int)
             ·rw [if_pos c23] at H
              have c23b0 : decide (3 < (((rd_T48 l0 0).f1).length : Int)) = true := decide_eq_true c23
              have c23b1 : decide (3 < ((rd_T48 l0 0).f1).length) = true := decide_eq_true (by omega)
              clear c23
              replace H := Option.bind_eq_some_iff.mp H
              obtain ⟨t115, A240, H⟩ := H
              have A24 := Aside0.mk A240
              clear A240
              by_cases c25 : (((((t109 ++ (⟨#[32]⟩ : ByteArray)) ++ t111) ++ (⟨#[32]⟩ : ByteArray)) ++ t113) ++ (⟨#[32]⟩ : ByteArray)).size + t115.size ≤ 9223372036854775807
              ·rw [if_pos c25] at H
               have c25b0 := eq_true c25
               have c25z := c25
               (try simp only [ByteArray.size_append, sz1b_] at c25z)
               try have c25b3 := eq_false (Nat.not_lt.2 c25z)
               have c25b1 : decide ((((((t109 ++ (⟨#[32]⟩ : ByteArray)) ++ t111) ++ (⟨#[32]⟩ : ByteArray)) ++ t113) ++ (⟨#[32]⟩ : ByteArray)).size + t115.size ≤ 9223372036854775807) = true := decide_eq_true c25
               try have c25b2 : (9223372036854775807 < (((((t109 ++ (⟨#[32]⟩ : ByteArray)) ++ t111) ++ (⟨#[32]⟩ : ByteArray)) ++ t113) ++ (⟨#[32]⟩ : ByteArray)).size + t115.size) = False := eq_false (Nat.not_lt.2 c25)
               by_cases c26 : ((((((t109 ++ (⟨#[32]⟩ : ByteArray)) ++ t111) ++ (⟨#[32]⟩ : ByteArray)) ++ t113) ++ (⟨#[32]⟩ : ByteArray)) ++ t115).size + 1 ≤ 9223372036854775807
               ·rw [if_pos c26] at H
                have c26b0 := eq_true c26
                have c26z := c26
                (try simp only [ByteArray.size_append, sz1b_] at c26z)
                try have c26b3 := eq_false (Nat.not_lt.2 c26z)
                have c26b1 : decide (((((((t109 ++ (⟨#[32]⟩ : ByteArray)) ++ t111) ++ (⟨#[32]⟩ : ByteArray)) ++ t113) ++ (⟨#[32]⟩ : ByteArray)) ++ t115).size + 1 ≤ 9223372036854775807) = true := decide_eq_true c26
                try have c26b2 : (9223372036854775807 < ((((((t109 ++ (⟨#[32]⟩ : ByteArray)) ++ t111) ++ (⟨#[32]⟩ : ByteArray)) ++ t113) ++ (⟨#[32]⟩ : ByteArray)) ++ t115).size + 1) = False := eq_false (Nat.not_lt.2 c26)
                by_cases c27 : 4 < (((rd_T48 l0 0).f1).length : Int)
                ·rw [if_pos c27] at H
                 have c27b0 : decide (4 < (((rd_T48 l0 0).f1).length : Int)) = true := decide_eq_true c27
                 have c27b1 : decide (4 < ((rd_T48 l0 0).f1).length) = true := decide_eq_true (by omega)
                 clear c27
                 replace H := Option.bind_eq_some_iff.mp H
                 obtain ⟨t117, A280, H⟩ := H
                 have A28 := Aside0.mk A280
                 clear A280
                 by_cases c29 : (((((((t109 ++ (⟨#[32]⟩ : ByteArray)) ++ t111) ++ (⟨#[32]⟩ : ByteArray)) ++ t113) ++ (⟨#[32]⟩ : ByteArray)) ++ t115) ++ (⟨#[47]⟩ : ByteArray)).size + t117.size ≤ 9223372036854775807
                 ·rw [if_pos c29] at H
                  have c29b0 := eq_true c29
                  have c29z := c29
                  (try simp only [ByteArray.size_append, sz1b_] at c29z)
                  try have c29b3 := eq_false (Nat.not_lt.2 c29z)
                  have c29b1 : decide ((((((((t109 ++ (⟨#[32]⟩ : ByteArray)) ++ t111) ++ (⟨#[32]⟩ : ByteArray)) ++ t113) ++ (⟨#[32]⟩ : ByteArray)) ++ t115) ++ (⟨#[47]⟩ : ByteArray)).size + t117.size ≤ 9223372036854775807) = true := decide_eq_true c29
                  try have c29b2 : (9223372036854775807 < (((((((t109 ++ (⟨#[32]⟩ : ByteArray)) ++ t111) ++ (⟨#[32]⟩ : ByteArray)) ++ t113) ++ (⟨#[32]⟩ : ByteArray)) ++ t115) ++ (⟨#[47]⟩ : ByteArray)).size + t117.size) = False := eq_false (Nat.not_lt.2 c29)
                  by_cases c30 : ((((((((t109 ++ (⟨#[32]⟩ : ByteArray)) ++ t111) ++ (⟨#[32]⟩ : ByteArray)) ++ t113) ++ (⟨#[32]⟩ : ByteArray)) ++ t115) ++ (⟨#[47]⟩ : ByteArray)) ++ t117).size + 1 ≤ 9223372036854775807
                  ·rw [if_pos c30] at H
                   have c30b0 := eq_true c30
                   have c30z := c30
                   (try simp only [ByteArray.size_append, sz1b_] at c30z)
                   try have c30b3 := eq_false (Nat.not_lt.2 c30z)
                   have c30b1 : decide (((((((((t109 ++ (⟨#[32]⟩ : ByteArray)) ++ t111) ++ (⟨#[32]⟩ : ByteArray)) ++ t113) ++ (⟨#[32]⟩ : ByteArray)) ++ t115) ++ (⟨#[47]⟩ : ByteArray)) ++ t117).size + 1 ≤ 9223372036854775807) = true := decide_eq_true c30
                   try have c30b2 : (9223372036854775807 < ((((((((t109 ++ (⟨#[32]⟩ : ByteArray)) ++ t111) ++ (⟨#[32]⟩ : ByteArray)) ++ t113) ++ (⟨#[32]⟩ : ByteArray)) ++ t115) ++ (⟨#[47]⟩ : ByteArray)) ++ t117).size + 1) = False := eq_false (Nat.not_lt.2 c30)
                   by_cases c31 : 5 < (((rd_T48 l0 0).f1).length : Int)
                   ·rw [if_pos c31] at H
                    have c31b0 : decide (5 < (((rd_T48 l0 0).f1).length : Int)) = true := decide_eq_true c31
                    have c31b1 : decide (5 < ((rd_T48 l0 0).f1).length) = true := decide_eq_true (by omega)
                    clear c31
                    replace H := Option.bind_eq_some_iff.mp H
                    obtain ⟨t119, A320, H⟩ := H
                    have A32 := Aside0.mk A320
                    clear A320
                    by_cases c33 : (((((((((t109 ++ (⟨#[32]⟩ : ByteArray)) ++ t111) ++ (⟨#[32]⟩ : ByteArray)) ++ t113) ++ (⟨#[32]⟩ : ByteArray)) ++ t115) ++ (⟨#[47]⟩ : ByteArray)) ++ t117) ++ (⟨#[32]⟩ : ByteArray)).size + t119.size ≤ 9223372036854775807
                    ·rw [if_pos c33] at H
                     have c33b0 := eq_true c33
                     have c33z := c33
                     (try simp only [ByteArray.size_append, sz1b_] at c33z)
                     try have c33b3 := eq_false (Nat.not_lt.2 c33z)
                     have c33b1 : decide ((((((((((t109 ++ (⟨#[32]⟩ : ByteArray)) ++ t111) ++ (⟨#[32]⟩ : ByteArray)) ++ t113) ++ (⟨#[32]⟩ : ByteArray)) ++ t115) ++ (⟨#[47]⟩ : ByteArray)) ++ t117) ++ (⟨#[32]⟩ : ByteArray)).size + t119.size ≤ 9223372036854775807) = true := decide_eq_true c33
                     try have c33b2 : (9223372036854775807 < (((((((((t109 ++ (⟨#[32]⟩ : ByteArray)) ++ t111) ++ (⟨#[32]⟩ : ByteArray)) ++ t113) ++ (⟨#[32]⟩ : ByteArray)) ++ t115) ++ (⟨#[47]⟩ : ByteArray)) ++ t117) ++ (⟨#[32]⟩ : ByteArray)).size + t119.size) = False := eq_false (Nat.not_lt.2 c33)
                     by_cases c34 : ((((((((((t109 ++ (⟨#[32]⟩ : ByteArray)) ++ t111) ++ (⟨#[32]⟩ : ByteArray)) ++ t113) ++ (⟨#[32]⟩ : ByteArray)) ++ t115) ++ (⟨#[47]⟩ : ByteArray)) ++ t117) ++ (⟨#[32]⟩ : ByteArray)) ++ t119).size + 1 ≤ 9223372036854775807
                     ·rw [if_pos c34] at H
                      have c34b0 := eq_true c34
                      have c34z := c34
                      (try simp only [ByteArray.size_append, sz1b_] at c34z)
                      try have c34b3 := eq_false (Nat.not_lt.2 c34z)
                      have c34b1 : decide (((((((((((t109 ++ (⟨#[32]⟩ : ByteArray)) ++ t111) ++ (⟨#[32]⟩ : ByteArray)) ++ t113) ++ (⟨#[32]⟩ : ByteArray)) ++ t115) ++ (⟨#[47]⟩ : ByteArray)) ++ t117) ++ (⟨#[32]⟩ : ByteArray)) ++ t119).size + 1 ≤ 9223372036854775807) = true := decide_eq_true c34
                      try have c34b2 : (9223372036854775807 < ((((((((((t109 ++ (⟨#[32]⟩ : ByteArray)) ++ t111) ++ (⟨#[32]⟩ : ByteArray)) ++ t113) ++ (⟨#[32]⟩ : ByteArray)) ++ t115) ++ (⟨#[47]⟩ : ByteArray)) ++ t117) ++ (⟨#[32]⟩ : ByteArray)) ++ t119).size + 1) = False := eq_false (Nat.not_lt.2 c34)
                      simp only [Option.some.injEq, Prod.mk.injEq] at H
                      obtain ⟨rfl, rfl⟩ := H
                      have p107 : 0 ≤ (0 : Int) := (by omega)
                      have q107 : 0 < (l0.length : Int) := of_decide_eq_true (by first | (with_reducible assumption) | assumption)
                      obtain ⟨ad107, A107_1, c107_1, A107_2, c107_2, e107, hx107_0, hx107_1, hx107_2, hl107_1, hi107_1, hl107_2, hi107_2⟩ := at_T48 HR0.out 0 p107 q107
                      cases e107
                      have qi107 : (0 < l0.length) = True := eq_true (by omega)
                      (try rw [show ((0 : Int)).toNat = 0 from rfl] at hx107_0)
                      (try rw [show 0 * 3 = 0 from rfl] at hx107_0)
                      (try rw [Addr.add_zero'] at hx107_0)
                      (try rw [show ((0 : Int)).toNat = 0 from rfl] at hx107_1)
                      (try rw [show 0 * 3 = 0 from rfl] at hx107_1)
                      (try rw [Addr.add_zero'] at hx107_1)
                      (try rw [show ((0 : Int)).toNat = 0 from rfl] at hx107_2)
                      (try rw [show 0 * 3 = 0 from rfl] at hx107_2)
                      (try rw [Addr.add_zero'] at hx107_2)
                      replace hx107_0 := (HB.out.cell (World.block_lt_of_cell? w _ hx107_0)).trans hx107_0
                      replace hx107_1 := (HB.out.cell (World.block_lt_of_cell? w _ hx107_1)).trans hx107_1
                      replace hx107_2 := (HB.out.cell (World.block_lt_of_cell? w _ hx107_2)).trans hx107_2
                      have HR107_1 := Aside0.mk hi107_1
                      have HC107_1 := Aside0.mk hl107_1
                      clear hi107_1 hl107_1
                      have HR107_2 := Aside0.mk hi107_2
                      have HC107_2 := Aside0.mk hl107_2
                      clear hi107_2 hl107_2
                      replace p107 := eq_true p107
                      replace q107 := eq_true q107
                      try go_wp2
                      have n0_ := Aside0.mk (below_drew1 HB.out)
                      clear HB
                      have HB := n0_
                      clear n0_
                      have p108 : 0 ≤ (0 : Int) := (by omega)
                      have q108 : 0 < (((rd_T48 l0 0).f1).length : Int) := of_decide_eq_true (by first | (with_reducible assumption) | assumption)
                      obtain ⟨ad108, e108, hx108_0⟩ := Kd.at_int HR107_1.out 0 p108 q108
                      have hw108_0 := hx108_0
                      (try rw [show ((0 : Int)).toNat = 0 from rfl] at hw108_0)
                      (try rw [show 0 * 1 = 0 from rfl] at hw108_0)
                      (try rw [Addr.add_zero'] at hw108_0)
                      cases e108
                      have qi108 : (0 < ((rd_T48 l0 0).f1).length) = True := eq_true (by omega)
                      (try rw [show ((0 : Int)).toNat = 0 from rfl] at hx108_0)
                      (try rw [Addr.add_zero'] at hx108_0)
                      replace hx108_0 := (HB.out.cell (World.block_lt_of_cell? w _ hx108_0)).trans hx108_0
                      replace p108 := eq_true p108
                      replace q108 := eq_true q108
                      have p110 : 0 ≤ (1 : Int) := (by omega)
                      have q110 : 1 < (((rd_T48 l0 0).f1).length : Int) := of_decide_eq_true (by first | (with_reducible assumption) | assumption)
                      obtain ⟨ad110, e110, hx110_0⟩ := Kd.at_int HR107_1.out 1 p110 q110
                      have hw110_0 := hx110_0
                      (try rw [show ((1 : Int)).toNat = 1 from rfl] at hw110_0)
                      (try rw [show 1 * 1 = 1 from rfl] at hw110_0)
                      (try simp only [Nat.reduceMul, Nat.reduceEqDiff, Go.Addr.add, ↓reduceIte] at hw110_0)
                      obtain rfl : ad108 = ad110 := (by injection e110)
                      (try simp only [show (1 : Int).toNat = 1 from rfl, Nat.reduceMul, Nat.reduceEqDiff, Go.Addr.add, ↓reduceIte] at hx110_0)
                      have qi110 : (1 < ((rd_T48 l0 0).f1).length) = True := eq_true (by omega)
                      (try rw [show ((1 : Int)).toNat = 1 from rfl] at hx110_0)
                      replace hx110_0 := (HB.out.cell (World.block_lt_of_cell? w _ hx110_0)).trans hx110_0
                      replace p110 := eq_true p110
                      replace q110 := eq_true q110
                      have p112 : 0 ≤ (2 : Int) := (by omega)
                      have q112 : 2 < (((rd_T48 l0 0).f1).length : Int) := of_decide_eq_true (by first | (with_reducible assumption) | assumption)
                      obtain ⟨ad112, e112, hx112_0⟩ := Kd.at_int HR107_1.out 2 p112 q112
                      have hw112_0 := hx112_0
                      (try rw [show ((2 : Int)).toNat = 2 from rfl] at hw112_0)
                      (try rw [show 2 * 1 = 2 from rfl] at hw112_0)
                      (try simp only [Nat.reduceMul, Nat.reduceEqDiff, Go.Addr.add, ↓reduceIte] at hw112_0)
                      obtain rfl : ad108 = ad112 := (by injection e112)
                      (try simp only [show (2 : Int).toNat = 2 from rfl, Nat.reduceMul, Nat.reduceEqDiff, Go.Addr.add, ↓reduceIte] at hx112_0)
                      have qi112 : (2 < ((rd_T48 l0 0).f1).length) = True := eq_true (by omega)
                      (try rw [show ((2 : Int)).toNat = 2 from rfl] at hx112_0)
                      replace hx112_0 := (HB.out.cell (World.block_lt_of_cell? w _ hx112_0)).trans hx112_0
                      replace p112 := eq_true p112
                      replace q112 := eq_true q112
                      have p114 : 0 ≤ (3 : Int) := (by omega)
                      have q114 : 3 < (((rd_T48 l0 0).f1).length : Int) := of_decide_eq_true (by first | (with_reducible assumption) | assumption)
                      obtain ⟨ad114, e114, hx114_0⟩ := Kd.at_int HR107_1.out 3 p114 q114
                      have hw114_0 := hx114_0
                      (try rw [show ((3 : Int)).toNat = 3 from rfl] at hw114_0)
                      (try rw [show 3 * 1 = 3 from rfl] at hw114_0)
                      (try simp only [Nat.reduceMul, Nat.reduceEqDiff, Go.Addr.add, ↓reduceIte] at hw114_0)
                      obtain rfl : ad108 = ad114 := (by injection e114)
                      (try simp only [show (3 : Int).toNat = 3 from rfl, Nat.reduceMul, Nat.reduceEqDiff, Go.Addr.add, ↓reduceIte] at hx114_0)
                      have qi114 : (3 < ((rd_T48 l0 0).f1).length) = True := eq_true (by omega)
                      (try rw [show ((3 : Int)).toNat = 3 from rfl] at hx114_0)
                      replace hx114_0 := (HB.out.cell (World.block_lt_of_cell? w _ hx114_0)).trans hx114_0
                      replace p114 := eq_true p114
                      replace q114 := eq_true q114
                      have p116 : 0 ≤ (4 : Int) := (by omega)
                      have q116 : 4 < (((rd_T48 l0 0).f1).length : Int) := of_decide_eq_true (by first | (with_reducible assumption) | assumption)
                      obtain ⟨ad116, e116, hx116_0⟩ := Kd.at_int HR107_1.out 4 p116 q116
                      have hw116_0 := hx116_0
                      (try rw [show ((4 : Int)).toNat = 4 from rfl] at hw116_0)
                      (try rw [show 4 * 1 = 4 from rfl] at hw116_0)
                      (try simp only [Nat.reduceMul, Nat.reduceEqDiff, Go.Addr.add, ↓reduceIte] at hw116_0)
                      obtain rfl : ad108 = ad116 := (by injection e116)
                      (try simp only [show (4 : Int).toNat = 4 from rfl, Nat.reduceMul, Nat.reduceEqDiff, Go.Addr.add, ↓reduceIte] at hx116_0)
                      have qi116 : (4 < ((rd_T48 l0 0).f1).length) = True := eq_true (by omega)
                      (try rw [show ((4 : Int)).toNat = 4 from rfl] at hx116_0)
                      replace hx116_0 := (HB.out.cell (World.block_lt_of_cell? w _ hx116_0)).trans hx116_0
                      replace p116 := eq_true p116
                      replace q116 := eq_true q116
                      have p118 : 0 ≤ (5 : Int) := (by omega)
                      have q118 : 5 < (((rd_T48 l0 0).f1).length : Int) := of_decide_eq_true (by first | (with_reducible assumption) | assumption)
                      obtain ⟨ad118, e118, hx118_0⟩ := Kd.at_int HR107_1.out 5 p118 q118
                      have hw118_0 := hx118_0
                      (try rw [show ((5 : Int)).toNat = 5 from rfl] at hw118_0)
                      (try rw [show 5 * 1 = 5 from rfl] at hw118_0)
                      (try simp only [Nat.reduceMul, Nat.reduceEqDiff, Go.Addr.add, ↓reduceIte] at hw118_0)
                      obtain rfl : ad108 = ad118 := (by injection e118)
                      (try simp only [show (5 : Int).toNat = 5 from rfl, Nat.reduceMul, Nat.reduceEqDiff, Go.Addr.add, ↓reduceIte] at hx118_0)
                      have qi118 : (5 < ((rd_T48 l0 0).f1).length) = True := eq_true (by omega)
                      (try rw [show ((5 : Int)).toNat = 5 from rfl] at hx118_0)
                      replace hx118_0 := (HB.out.cell (World.block_lt_of_cell? w _ hx118_0)).trans hx118_0
                      replace p118 := eq_true p118
                      replace q118 := eq_true q118
                      refine start_ (n := 37) (S := fun w' => w'.cell? ad108 = some (.int .u64 (rd ((rd_T48 l0 0).f1) 0)) ∧ w'.cell? ⟨ad108.block, ad108.off + 1, none⟩ = some (.int .u64 (rd ((rd_T48 l0 0).f1) 1)) ∧ w'.cell? ⟨ad108.block, ad108.off + 2, none⟩ = some (.int .u64 (rd ((rd_T48 l0 0).f1) 2)) ∧ w'.cell? ⟨ad108.block, ad108.off + 3, none⟩ = some (.int .u64 (rd ((rd_T48 l0 0).f1) 3)) ∧ w'.cell? ⟨ad108.block, ad108.off + 4, none⟩ = some (.int .u64 (rd ((rd_T48 l0 0).f1) 4)) ∧ w'.cell? ⟨ad108.block, ad108.off + 5, none⟩ = some (.int .u64 (rd ((rd_T48 l0 0).f1) 5))) (ds := []) (tfA 0 37) (by kernel_rfl) rfl rfl ⟨((HB.out.cell (World.block_lt_of_cell? w _ hw108_0)).trans hw108_0), ((HB.out.cell (World.block_lt_of_cell? w _ hw110_0)).trans hw110_0), ((HB.out.cell (World.block_lt_of_cell? w _ hw112_0)).trans hw112_0), ((HB.out.cell (World.block_lt_of_cell? w _ hw114_0)).trans hw114_0), ((HB.out.cell (World.block_lt_of_cell? w _ hw116_0)).trans hw116_0), ((HB.out.cell (World.block_lt_of_cell? w _ hw118_0)).trans hw118_0)⟩ (fun hHeld => ?_); refine with_tabW spec_LoadavgPrint.tab4 spec_LoadavgPrint.bits4 (fun HT_ HW_ => ?_)
                      generalize wc.drew = w35 at HB hx108_0 hx110_0 hx112_0 hx114_0 hx116_0 hx118_0 hHeld ⊢
                      refine pure_ (i := 0) (N := some 27) (v := ?_) (a' := ?_) (tfA 1 36) rfl rfl (any_of HT_.out (by kernel_rfl)) (fun _ _ _ h => h) (Or.inl ⟨by rfl, ?_⟩) ?_ ?_
                      rotate_left
                      ·intro w'
                       go_simp
                       with_reducible rfl
                      rotate_left
                      ·simp only [Act.put, sA, s0, s1, i64_w, i32_w]
                       rfl
                      refine pure_ (i := 1) (N := some 28) (v := ?_) (a' := ?_) (tfA 2 35) rfl rfl (any_of HT_.out (by kernel_rfl)) (fun _ _ _ h => h) (Or.inl ⟨by rfl, ?_⟩) ?_ ?_
                      rotate_left
                      ·intro w'
                       go_simp
                       with_reducible rfl
                      rotate_left
                      ·simp only [Act.put, sA, s0, s1, i64_w, i32_w]
                       rfl
                      refine pure_ (i := 5) (N := some 32) (v := ?_) (a' := ?_) (bnA 37 35) rfl rfl (any_of HT_.out (by kernel_rfl)) (fun _ _ _ h => h) (Or.inl ⟨by rfl, ?_⟩) ?_ ?_
                      rotate_left
                      ·intro w'
                       go_simp
                       with_reducible rfl
                      rotate_left
                      ·simp only [Act.put, sA, s0, s1, i64_w, i32_w]
                       rfl
                      refine pure_ (i := 6) (N := some 33) (v := ?_) (a' := ?_) (bnA 37 99) rfl rfl (any_of HT_.out (by kernel_rfl)) (fun _ _ _ h => h) (Or.inl ⟨by rfl, ?_⟩) ?_ ?_
                      rotate_left
                      ·intro w'
                       go_simp
                       with_reducible rfl
                      rotate_left
                      ·simp only [Act.put, sA, s0, s1, i64_w, i32_w]
                       rfl
                      refine pure_ (i := 11) (N := some 38) (v := ?_) (a' := ?_) (bnA 37 2147) rfl rfl (any_of HT_.out (by kernel_rfl)) (fun _ _ _ h => h) (Or.inl ⟨by rfl, ?_⟩) ?_ ?_
                      rotate_left
                      ·intro w'
                       go_simp
                       with_reducible rfl
                      rotate_left
                      ·simp only [Act.put, sA, s0, s1, i64_w, i32_w]
                       rfl
                      refine pure_ (i := 12) (N := some 39) (v := ?_) (a' := ?_) (bnA 37 6243) rfl rfl (any_of HT_.out (by kernel_rfl)) (fun _ _ _ h => h) (Or.inl ⟨by rfl, ?_⟩) ?_ ?_
                      rotate_left
                      ·intro w'
                       go_simp
                       with_reducible rfl
                      rotate_left
                      ·simp only [Act.put, sA, s0, s1, i64_w, i32_w]
                       rfl
                      refine pure_ (i := 17) (N := some 44) (v := ?_) (a' := ?_) (bnA 37 137315) rfl rfl (any_of HT_.out (by kernel_rfl)) (fun _ _ _ h => h) (Or.inl ⟨by rfl, ?_⟩) ?_ ?_
                      rotate_left
                      ·intro w'
                       go_simp
                       with_reducible rfl
                      rotate_left
                      ·simp only [Act.put, sA, s0, s1, i64_w, i32_w]
                       rfl
                      refine pure_ (i := 18) (N := some 45) (v := ?_) (a' := ?_) (bnA 37 399459) rfl rfl (any_of HT_.out (by kernel_rfl)) (fun _ _ _ h => h) (Or.inl ⟨by rfl, ?_⟩) ?_ ?_
                      rotate_left
                      ·intro w'
                       go_simp
                       with_reducible rfl
                      rotate_left
                      ·simp only [Act.put, sA, s0, s1, i64_w, i32_w]
                       rfl
                      refine pure_ (i := 23) (N := some 50) (v := ?_) (a' := ?_) (bnA 37 8788067) rfl rfl (any_of HT_.out (by kernel_rfl)) (fun _ _ _ h => h) (Or.inl ⟨by rfl, ?_⟩) ?_ ?_
                      rotate_left
                      ·intro w'
                       go_simp
                       with_reducible rfl
                      rotate_left
                      ·simp only [Act.put, sA, s0, s1, i64_w, i32_w]
                       rfl
                      refine pure_ (i := 24) (N := some 51) (v := ?_) (a' := ?_) (bnA 37 25565283) rfl rfl (any_of HT_.out (by kernel_rfl)) (fun _ _ _ h => h) (Or.inl ⟨by rfl, ?_⟩) ?_ ?_
                      rotate_left
                      ·intro w'
                       go_simp
                       with_reducible rfl
                      rotate_left
                      ·simp only [Act.put, sA, s0, s1, i64_w, i32_w]
                       rfl
                      refine pure_ (i := 29) (N := some 56) (v := ?_) (a' := ?_) (bnA 37 562436195) rfl rfl (any_of HT_.out (by kernel_rfl)) (fun _ _ _ h => h) (Or.inl ⟨by rfl, ?_⟩) ?_ ?_
                      rotate_left
                      ·intro w'
                       go_simp
                       with_reducible rfl
                      rotate_left
                      ·simp only [Act.put, sA, s0, s1, i64_w, i32_w]
                       rfl
                      refine pure_ (i := 30) (N := some 57) (v := ?_) (a' := ?_) (bnA 37 1636178019) rfl rfl (any_of HT_.out (by kernel_rfl)) (fun _ _ _ h => h) (Or.inl ⟨by rfl, ?_⟩) ?_ ?_
                      rotate_left
                      ·intro w'
                       go_simp
                       with_reducible rfl
                      rotate_left
                      ·simp only [Act.put, sA, s0, s1, i64_w, i32_w]
                       rfl
                      refine take_ (i := 2) (N := some 29) (v := ?_) (a' := ?_) (bnA 37 1636178023) rfl rfl (take_ofW HT_.out HW_.out (by kernel_rfl)) (fun _ _ _ h => h) (Or.inl ⟨by rfl, ?_⟩) hHeld ?_ ?_
                      rotate_left
                      ·rintro w' ⟨s0, s1, s2, s3, s4, s5⟩
                       go_simp
                       with_reducible rfl
                      rotate_left
                      ·simp only [Act.put, sA, s0, s1, i64_w, i32_w]
                       rfl
                      refine take_ (i := 7) (N := some 34) (v := ?_) (a' := ?_) (bnA 37 1636178151) rfl rfl (take_ofW HT_.out HW_.out (by kernel_rfl)) (fun _ _ _ h => h) (Or.inl ⟨by rfl, ?_⟩) hHeld ?_ ?_
                      rotate_left
                      ·rintro w' ⟨s0, s1, s2, s3, s4, s5⟩
                       go_simp
                       with_reducible rfl
                      rotate_left
                      ·simp only [Act.put, sA, s0, s1, i64_w, i32_w]
                       rfl
                      refine take_ (i := 13) (N := some 40) (v := ?_) (a' := ?_) (bnA 37 1636186343) rfl rfl (take_ofW HT_.out HW_.out (by kernel_rfl)) (fun _ _ _ h => h) (Or.inl ⟨by rfl, ?_⟩) hHeld ?_ ?_
                      rotate_left
                      ·rintro w' ⟨s0, s1, s2, s3, s4, s5⟩
                       go_simp
                       with_reducible rfl
                      rotate_left
                      ·simp only [Act.put, sA, s0, s1, i64_w, i32_w]
                       rfl
                      refine take_ (i := 19) (N := some 46) (v := ?_) (a' := ?_) (bnA 37 1636710631) rfl rfl (take_ofW HT_.out HW_.out (by kernel_rfl)) (fun _ _ _ h => h) (Or.inl ⟨by rfl, ?_⟩) hHeld ?_ ?_
                      rotate_left
                      ·rintro w' ⟨s0, s1, s2, s3, s4, s5⟩
                       go_simp
                       with_reducible rfl
                      rotate_left
                      ·simp only [Act.put, sA, s0, s1, i64_w, i32_w]
                       rfl
                      refine take_ (i := 25) (N := some 52) (v := ?_) (a' := ?_) (bnA 37 1670265063) rfl rfl (take_ofW HT_.out HW_.out (by kernel_rfl)) (fun _ _ _ h => h) (Or.inl ⟨by rfl, ?_⟩) hHeld ?_ ?_
                      rotate_left
                      ·rintro w' ⟨s0, s1, s2, s3, s4, s5⟩
                       go_simp
                       with_reducible rfl
                      rotate_left
                      ·simp only [Act.put, sA, s0, s1, i64_w, i32_w]
                       rfl
                      refine take_ (i := 31) (N := some 58) (v := ?_) (a' := ?_) (bnA 37 3817748711) rfl rfl (take_ofW HT_.out HW_.out (by kernel_rfl)) (fun _ _ _ h => h) (Or.inl ⟨by rfl, ?_⟩) hHeld ?_ ?_
                      rotate_left
                      ·rintro w' ⟨s0, s1, s2, s3, s4, s5⟩
                       go_simp
                       with_reducible rfl
                      rotate_left
                      ·simp only [Act.put, sA, s0, s1, i64_w, i32_w]
                       rfl
                      refine one_ (i := 3) (N := some 30) (bnA 37 3817748719) rfl rfl (one_of HT_.out (by kernel_rfl)) (by decide) (fun K hK => ?_)
                      refine goes_ Tryz.func47 (by kernel_rfl) rfl #[.int .u64 (rd ((rd_T48 l0 0).f1) 0)] (by rfl) rfl rfl (by (try simp only [List.map_toArray, List.map_cons, List.map_nil]); first | done | rfl | (simp only [List.length_drop, List.length_take]; rfl)) ?_
                      with_reducible refine (spec_Hundredths.calls kj1 (rd ((rd_T48 l0 0).f1) 0) t109 _ A13.out).mono ?_
                      rintro e w36 ⟨rfl, hb⟩
                      refine ⟨_, rfl, ?_⟩
                      have n0_ := Aside0.mk (below_step belH hb)
                      clear HB
                      have HB := n0_
                      clear n0_
                      (try clear hb)
                      (try clear hb2)
                      (try clear hk)
                      (try clear hi)
                      refine hK.out _ _ ⟨((HB.out.cell (World.block_lt_of_cell? w _ hw108_0)).trans hw108_0), ((HB.out.cell (World.block_lt_of_cell? w _ hw110_0)).trans hw110_0), ((HB.out.cell (World.block_lt_of_cell? w _ hw112_0)).trans hw112_0), ((HB.out.cell (World.block_lt_of_cell? w _ hw114_0)).trans hw114_0), ((HB.out.cell (World.block_lt_of_cell? w _ hw116_0)).trans hw116_0), ((HB.out.cell (World.block_lt_of_cell? w _ hw118_0)).trans hw118_0)⟩ (fun hHeld => ?_)
                      clear hK K
                      refine norm_ (a' := ?_) ?_ ?_
                      rotate_left
                      ·show Act.put _ (some 30) _ = _
                       simp only [Act.put, sA, s0, s1, i64_w, i32_w]
                       rfl
                      refine pure_ (i := 4) (N := some 31) (v := ?_) (a' := ?_) (bnA 37 3817748735) rfl rfl (any_of HT_.out (by kernel_rfl)) (fun _ _ _ h => h) (Or.inl ⟨by rfl, ?_⟩) ?_ ?_
                      rotate_left
                      ·intro w'
                       go_simp
                       with_reducible rfl
                      rotate_left
                      ·simp only [Act.put, sA, s0, s1, i64_w, i32_w]
                       rfl
                      refine one_ (i := 8) (N := some 35) (bnA 37 3817748991) rfl rfl (one_of HT_.out (by kernel_rfl)) (by decide) (fun K hK => ?_)
                      refine goes_ Tryz.func47 (by kernel_rfl) rfl #[.int .u64 (rd ((rd_T48 l0 0).f1) 1)] (by rfl) rfl rfl (by (try simp only [List.map_toArray, List.map_cons, List.map_nil]); first | done | rfl | (simp only [List.length_drop, List.length_take]; rfl)) ?_
                      with_reducible refine (spec_Hundredths.calls kj1 (rd ((rd_T48 l0 0).f1) 1) t111 _ A16.out).mono ?_
                      rintro e w37 ⟨rfl, hb⟩
                      refine ⟨_, rfl, ?_⟩
                      have n0_ := Aside0.mk (below_step belH hb)
                      clear HB
                      have HB := n0_
                      clear n0_
                      (try clear hb)
                      (try clear hb2)
                      (try clear hk)
                      (try clear hi)
                      refine hK.out _ _ ⟨((HB.out.cell (World.block_lt_of_cell? w _ hw108_0)).trans hw108_0), ((HB.out.cell (World.block_lt_of_cell? w _ hw110_0)).trans hw110_0), ((HB.out.cell (World.block_lt_of_cell? w _ hw112_0)).trans hw112_0), ((HB.out.cell (World.block_lt_of_cell? w _ hw114_0)).trans hw114_0), ((HB.out.cell (World.block_lt_of_cell? w _ hw116_0)).trans hw116_0), ((HB.out.cell (World.block_lt_of_cell? w _ hw118_0)).trans hw118_0)⟩ (fun hHeld => ?_)
                      clear hK K
                      refine norm_ (a' := ?_) ?_ ?_
                      rotate_left
                      ·show Act.put _ (some 35) _ = _
                       simp only [Act.put, sA, s0, s1, i64_w, i32_w]
                       rfl
                      refine pure_ (i := 9) (N := some 36) (v := ?_) (a' := ?_) (bnA 37 3817749503) rfl rfl (any_of HT_.out (by kernel_rfl)) (fun _ _ _ h => h) (Or.inl ⟨by rfl, ?_⟩) ?_ ?_
                      rotate_left
                      ·intro w'
                       go_simp
                       with_reducible rfl
                      rotate_left
                      ·simp only [Act.put, sA, s0, s1, i64_w, i32_w]
                       rfl
                      refine pure_ (i := 10) (N := some 37) (v := ?_) (a' := ?_) (bnA 37 3817750527) rfl rfl (any_of HT_.out (by kernel_rfl)) (fun _ _ _ h => h) (Or.inl ⟨by rfl, ?_⟩) ?_ ?_
                      rotate_left
                      ·intro w'
                       go_simp
                       with_reducible rfl
                      rotate_left
                      ·simp only [Act.put, sA, s0, s1, i64_w, i32_w]
                       rfl
                      refine one_ (i := 14) (N := some 41) (bnA 37 3817766911) rfl rfl (one_of HT_.out (by kernel_rfl)) (by decide) (fun K hK => ?_)
                      refine goes_ Tryz.func47 (by kernel_rfl) rfl #[.int .u64 (rd ((rd_T48 l0 0).f1) 2)] (by rfl) rfl rfl (by (try simp only [List.map_toArray, List.map_cons, List.map_nil]); first | done | rfl | (simp only [List.length_drop, List.length_take]; rfl)) ?_
                      with_reducible refine (spec_Hundredths.calls kj1 (rd ((rd_T48 l0 0).f1) 2) t113 _ A20.out).mono ?_
                      rintro e w38 ⟨rfl, hb⟩
                      refine ⟨_, rfl, ?_⟩
                      have n0_ := Aside0.mk (below_step belH hb)
                      clear HB
                      have HB := n0_
                      clear n0_
                      (try clear hb)
                      (try clear hb2)
                      (try clear hk)
                      (try clear hi)
                      refine hK.out _ _ ⟨((HB.out.cell (World.block_lt_of_cell? w _ hw108_0)).trans hw108_0), ((HB.out.cell (World.block_lt_of_cell? w _ hw110_0)).trans hw110_0), ((HB.out.cell (World.block_lt_of_cell? w _ hw112_0)).trans hw112_0), ((HB.out.cell (World.block_lt_of_cell? w _ hw114_0)).trans hw114_0), ((HB.out.cell (World.block_lt_of_cell? w _ hw116_0)).trans hw116_0), ((HB.out.cell (World.block_lt_of_cell? w _ hw118_0)).trans hw118_0)⟩ (fun hHeld => ?_)
                      clear hK K
                      refine norm_ (a' := ?_) ?_ ?_
                      rotate_left
                      ·show Act.put _ (some 41) _ = _
                       simp only [Act.put, sA, s0, s1, i64_w, i32_w]
                       rfl
                      refine pure_ (i := 15) (N := some 42) (v := ?_) (a' := ?_) (bnA 37 3817799679) rfl rfl (any_of HT_.out (by kernel_rfl)) (fun _ _ _ h => h) (Or.inl ⟨by rfl, ?_⟩) ?_ ?_
                      rotate_left
                      ·intro w'
                       go_simp
                       with_reducible rfl
                      rotate_left
                      ·simp only [Act.put, sA, s0, s1, i64_w, i32_w]
                       rfl
                      refine pure_ (i := 16) (N := some 43) (v := ?_) (a' := ?_) (bnA 37 3817865215) rfl rfl (any_of HT_.out (by kernel_rfl)) (fun _ _ _ h => h) (Or.inl ⟨by rfl, ?_⟩) ?_ ?_
                      rotate_left
                      ·intro w'
                       go_simp
                       with_reducible rfl
                      rotate_left
                      ·simp only [Act.put, sA, s0, s1, i64_w, i32_w]
                       rfl
                      refine one_ (i := 20) (N := some 47) (bnA 37 3818913791) rfl rfl (one_of HT_.out (by kernel_rfl)) (by decide) (fun K hK => ?_)
                      refine goes_ Tryz.func48 (by kernel_rfl) rfl #[.int .u64 (rd ((rd_T48 l0 0).f1) 3)] (by rfl) rfl rfl (by (try simp only [List.map_toArray, List.map_cons, List.map_nil]); first | done | rfl | (simp only [List.length_drop, List.length_take]; rfl)) ?_
                      with_reducible refine (spec_Text.calls kj1 (rd ((rd_T48 l0 0).f1) 3) t115 _ A24.out).mono ?_
                      rintro e w39 ⟨rfl, hb⟩
                      refine ⟨_, rfl, ?_⟩
                      have n0_ := Aside0.mk (below_step belH hb)
                      clear HB
                      have HB := n0_
                      clear n0_
                      (try clear hb)
                      (try clear hb2)
                      (try clear hk)
                      (try clear hi)
                      refine hK.out _ _ ⟨((HB.out.cell (World.block_lt_of_cell? w _ hw108_0)).trans hw108_0), ((HB.out.cell (World.block_lt_of_cell? w _ hw110_0)).trans hw110_0), ((HB.out.cell (World.block_lt_of_cell? w _ hw112_0)).trans hw112_0), ((HB.out.cell (World.block_lt_of_cell? w _ hw114_0)).trans hw114_0), ((HB.out.cell (World.block_lt_of_cell? w _ hw116_0)).trans hw116_0), ((HB.out.cell (World.block_lt_of_cell? w _ hw118_0)).trans hw118_0)⟩ (fun hHeld => ?_)
                      clear hK K
                      refine norm_ (a' := ?_) ?_ ?_
                      rotate_left
                      ·show Act.put _ (some 47) _ = _
                       simp only [Act.put, sA, s0, s1, i64_w, i32_w]
                       rfl
                      refine pure_ (i := 21) (N := some 48) (v := ?_) (a' := ?_) (bnA 37 3821010943) rfl rfl (any_of HT_.out (by kernel_rfl)) (fun _ _ _ h => h) (Or.inl ⟨by rfl, ?_⟩) ?_ ?_
                      rotate_left
                      ·intro w'
                       go_simp
                       with_reducible rfl
                      rotate_left
                      ·simp only [Act.put, sA, s0, s1, i64_w, i32_w]
                       rfl
                      refine pure_ (i := 22) (N := some 49) (v := ?_) (a' := ?_) (bnA 37 3825205247) rfl rfl (any_of HT_.out (by kernel_rfl)) (fun _ _ _ h => h) (Or.inl ⟨by rfl, ?_⟩) ?_ ?_
                      rotate_left
                      ·intro w'
                       go_simp
                       with_reducible rfl
                      rotate_left
                      ·simp only [Act.put, sA, s0, s1, i64_w, i32_w]
                       rfl
                      refine one_ (i := 26) (N := some 53) (bnA 37 3892314111) rfl rfl (one_of HT_.out (by kernel_rfl)) (by decide) (fun K hK => ?_)
                      refine goes_ Tryz.func48 (by kernel_rfl) rfl #[.int .u64 (rd ((rd_T48 l0 0).f1) 4)] (by rfl) rfl rfl (by (try simp only [List.map_toArray, List.map_cons, List.map_nil]); first | done | rfl | (simp only [List.length_drop, List.length_take]; rfl)) ?_
                      with_reducible refine (spec_Text.calls kj1 (rd ((rd_T48 l0 0).f1) 4) t117 _ A28.out).mono ?_
                      rintro e w40 ⟨rfl, hb⟩
                      refine ⟨_, rfl, ?_⟩
                      have n0_ := Aside0.mk (below_step belH hb)
                      clear HB
                      have HB := n0_
                      clear n0_
                      (try clear hb)
                      (try clear hb2)
                      (try clear hk)
                      (try clear hi)
                      refine hK.out _ _ ⟨((HB.out.cell (World.block_lt_of_cell? w _ hw108_0)).trans hw108_0), ((HB.out.cell (World.block_lt_of_cell? w _ hw110_0)).trans hw110_0), ((HB.out.cell (World.block_lt_of_cell? w _ hw112_0)).trans hw112_0), ((HB.out.cell (World.block_lt_of_cell? w _ hw114_0)).trans hw114_0), ((HB.out.cell (World.block_lt_of_cell? w _ hw116_0)).trans hw116_0), ((HB.out.cell (World.block_lt_of_cell? w _ hw118_0)).trans hw118_0)⟩ (fun hHeld => ?_)
                      clear hK K
                      refine norm_ (a' := ?_) ?_ ?_
                      rotate_left
                      ·show Act.put _ (some 53) _ = _
                       simp only [Act.put, sA, s0, s1, i64_w, i32_w]
                       rfl
                      refine pure_ (i := 27) (N := some 54) (v := ?_) (a' := ?_) (bnA 37 4026531839) rfl rfl (any_of HT_.out (by kernel_rfl)) (fun _ _ _ h => h) (Or.inl ⟨by rfl, ?_⟩) ?_ ?_
                      rotate_left
                      ·intro w'
                       go_simp
                       with_reducible rfl
                      rotate_left
                      ·simp only [Act.put, sA, s0, s1, i64_w, i32_w]
                       rfl
                      refine pure_ (i := 28) (N := some 55) (v := ?_) (a' := ?_) (tfA 32 5) rfl rfl (any_of HT_.out (by kernel_rfl)) (fun _ _ _ h => h) (Or.inl ⟨by rfl, ?_⟩) ?_ ?_
                      rotate_left
                      ·intro w'
                       go_simp
                       with_reducible rfl
                      rotate_left
                      ·simp only [Act.put, sA, s0, s1, i64_w, i32_w]
                       rfl
                      refine one_ (i := 32) (N := some 59) (tfA 33 4) rfl rfl (one_of HT_.out (by kernel_rfl)) (by decide) (fun K hK => ?_)
                      refine goes_ Tryz.func48 (by kernel_rfl) rfl #[.int .u64 (rd ((rd_T48 l0 0).f1) 5)] (by rfl) rfl rfl (by (try simp only [List.map_toArray, List.map_cons, List.map_nil]); first | done | rfl | (simp only [List.length_drop, List.length_take]; rfl)) ?_
                      with_reducible refine (spec_Text.calls kj1 (rd ((rd_T48 l0 0).f1) 5) t119 _ A32.out).mono ?_
                      rintro e w41 ⟨rfl, hb⟩
                      refine ⟨_, rfl, ?_⟩
                      have n0_ := Aside0.mk (below_step belH hb)
                      clear HB
                      have HB := n0_
                      clear n0_
                      (try clear hb)
                      (try clear hb2)
                      (try clear hk)
                      (try clear hi)
                      refine hK.out _ _ ⟨((HB.out.cell (World.block_lt_of_cell? w _ hw108_0)).trans hw108_0), ((HB.out.cell (World.block_lt_of_cell? w _ hw110_0)).trans hw110_0), ((HB.out.cell (World.block_lt_of_cell? w _ hw112_0)).trans hw112_0), ((HB.out.cell (World.block_lt_of_cell? w _ hw114_0)).trans hw114_0), ((HB.out.cell (World.block_lt_of_cell? w _ hw116_0)).trans hw116_0), ((HB.out.cell (World.block_lt_of_cell? w _ hw118_0)).trans hw118_0)⟩ (fun hHeld => ?_)
                      clear hK K
                      refine norm_ (a' := ?_) ?_ ?_
                      rotate_left
                      ·show Act.put _ (some 59) _ = _
                       simp only [Act.put, sA, s0, s1, i64_w, i32_w]
                       rfl
                      refine pure_ (i := 33) (N := some 60) (v := ?_) (a' := ?_) (tfA 34 3) rfl rfl (any_of HT_.out (by kernel_rfl)) (fun _ _ _ h => h) (Or.inl ⟨by rfl, ?_⟩) ?_ ?_
                      rotate_left
                      ·intro w'
                       go_simp
                       with_reducible rfl
                      rotate_left
                      ·simp only [Act.put, sA, s0, s1, i64_w, i32_w]
                       rfl
                      refine pure_ (i := 34) (N := some 61) (v := ?_) (a' := ?_) (tfA 35 2) rfl rfl (any_of HT_.out (by kernel_rfl)) (fun _ _ _ h => h) (Or.inl ⟨by rfl, ?_⟩) ?_ ?_
                      rotate_left
                      ·intro w'
                       go_simp
                       with_reducible rfl
                      rotate_left
                      ·simp only [Act.put, sA, s0, s1, i64_w, i32_w]
                       rfl
                      refine pure_ (i := 35) (N := some 2) (v := ?_) (a' := ?_) (tfA 36 1) rfl rfl (any_of HT_.out (by kernel_rfl)) (fun _ _ _ h => h) (Or.inl ⟨by rfl, ?_⟩) ?_ ?_
                      rotate_left
                      ·intro w'
                       go_simp
                       with_reducible rfl
                      rotate_left
                      ·simp only [Act.put, sA, s0, s1, i64_w, i32_w]
                       rfl
                      refine pure_ (i := 36) (N := some 3) (v := ?_) (a' := ?_) (tfA 37 0) rfl rfl (any_of HT_.out (by kernel_rfl)) (fun _ _ _ h => h) (Or.inl ⟨by rfl, ?_⟩) ?_ ?_
                      rotate_left
                      ·intro w'
                       go_simp
                       with_reducible rfl
                      rotate_left
                      ·simp only [Act.put, sA, s0, s1, i64_w, i32_w]
                       rfl
                      refine done_ (done_of HT_.out (by kernel_rfl)) ?_
                      try go_wp2
                      go_ret2
                      exact ⟨by first | rfl | (simp [errW_none, errW_some] <;> rfl) | (simp [*, errW_none, errW_some] <;> rfl), by repeat (first | (with_reducible first | exact HB.out | apply below_alloc | apply pw_below_drewN | apply below_drew1) | exact HB.out)⟩
                     ·rw [if_neg c34] at H
                      exact absurd H (by simp)
                    ·rw [if_neg c33] at H
                     exact absurd H (by simp)
                   ·rw [if_neg c31] at H
                    exact absurd H (by simp)
                  ·rw [if_neg c30] at H
                   exact absurd H (by simp)
                 ·rw [if_neg c29] at H
                  exact absurd H (by simp)
                ·rw [if_neg c27] at H
                 exact absurd H (by simp)
               ·rw [if_neg c26] at H
                exact absurd H (by simp)
              ·rw [if_neg c25] at H
               exact absurd H (by simp)
             ·rw [if_neg c23] at H
              exact absurd H (by simp)
            ·rw [if_neg c22] at H
             exact absurd H (by simp)
           ·rw [if_neg c21] at H
            exact absurd H (by simp)
          ·rw [if_neg c19] at H
           exact absurd H (by simp)
         ·rw [if_neg c18] at H
          exact absurd H (by simp)
        ·rw [if_neg c17] at H
         exact absurd H (by simp)
       ·rw [if_neg c15] at H
        exact absurd H (by simp)
      ·rw [if_neg c14] at H
       exact absurd H (by simp)
     ·rw [if_neg c12] at H
      exact absurd H (by simp)
    ·rw [if_neg c11] at H
     exact absurd H (by simp)

end Go.Proofs.YtdmpbaanonafbaaGreatDoor.A
