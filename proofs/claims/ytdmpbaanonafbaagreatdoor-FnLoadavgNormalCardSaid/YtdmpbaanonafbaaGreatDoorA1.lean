-- written by a program of this session (wip/tools/pp.py)
import Derived.Test.YtdmpbaanonafbaaGreatDoorA0
namespace Go.Proofs.YtdmpbaanonafbaaGreatDoor.A
open Go.RowKit Go.Proofs.YtdmpbaanonafbaaGreatDoorW.PrintWords Go.Proofs.YtdmpbaanonafbaaGreatDoorW.PrintLast Go.Proofs.YtdmpbaanonafbaaGreatDoor.Flt Go.Proofs.YtdmpbaanonafbaaGreatDoor.GivZ Go.Proofs.YtdmpbaanonafbaaGreatDoor.E Go.Proofs.YtdmpbaanonafbaaGreatDoor.L Go.Proofs.YtdmpbaanonafbaaGreatDoor.V Go.Proofs.YtdmpbaanonafbaaGreatDoor.DoorLoad Go.Proofs.YtdmpbaanonafbaaGreatDoor.Lives Go.Proofs.YtdmpbaanonafbaaGreatDoor.R Go.Proofs.YtdmpbaanonafbaaGreatDoorW.PrintMore
attribute [local go_sem] max2_int min2_int max_two min_two max_three min_three max_four min_four   -- for this text's walks alone
set_option linter.unusedVariables false
set_option linter.unusedSimpArgs false
theorem sz1_ (c : UInt8) : (⟨#[c]⟩ : ByteArray).size = 1 := rfl

/-! ### spec_Hundredths: function 47 -/
def spec_Hundredths.f (k : Nat) (a0 : Int) : Option (ByteArray) := (spec_Text.f k (IntKind.u64.wrap (Int.tdiv a0 100))).bind fun t101 => (if t101.size + 1 ≤ 9223372036854775807 then ((spec_Padded.f k (Int.tmod a0 100) 10 2).bind fun t102 => (if (t101 ++ (⟨#[46]⟩ : ByteArray)).size + t102.size ≤ 9223372036854775807 then (some ((t101 ++ (⟨#[46]⟩ : ByteArray)) ++ t102)) else (none))) else (none))
theorem spec_Hundredths.mono : ∀ a0 k, LeO (spec_Hundredths.f k a0) (spec_Hundredths.f (k + 1) a0) := by
 intro a0 k
 unfold spec_Hundredths.f
 repeat' first
   | (with_reducible exact spec_Padded.mono _ _ _ _)
   | (with_reducible exact spec_Text.mono _ _)
   | (with_reducible exact LeO.refl _)
   | (with_reducible exact LeO.none _)
   | (with_reducible refine LeO.ite ?_ ?_)
   | (with_reducible refine LeO.bind ?_ (fun _ => ?_))
   | exact spec_Padded.mono _ _ _ _
   | exact spec_Text.mono _ _
   | exact LeO.none _
   | refine LeO.ite ?_ ?_
   | refine LeO.bind ?_ (fun _ => ?_)
set_option maxHeartbeats 8000000 in
set_option maxRecDepth 100000 in
theorem spec_Hundredths.calls (k : Nat) (a0 : Int) (r : ByteArray) (w : World) (h : spec_Hundredths.f k a0 = some r) :
  Calls Tryz.prog 47 #[.int .u64 a0] w fun e w' => e = .returned (.string r) ∧ Below w.heap.size w w' := by
 have HB := Aside0.mk (Below.refl w.heap.size w)
 have H : ((spec_Text.f k (IntKind.u64.wrap (Int.tdiv a0 100))).bind fun t101 => (if t101.size + 1 ≤ 9223372036854775807 then ((spec_Padded.f k (Int.tmod a0 100) 10 2).bind fun t102 => (if (t101 ++ (⟨#[46]⟩ : ByteArray)).size + t102.size ≤ 9223372036854775807 then (some ((t101 ++ (⟨#[46]⟩ : ByteArray)) ++ t102)) else (none))) else (none))) = some r := h
 clear h
 replace H := Option.bind_eq_some_iff.mp H
 obtain ⟨t101, A20, H⟩ := H
 have A2 := Aside0.mk A20
 clear A20
 by_cases c3 : t101.size + 1 ≤ 9223372036854775807
 ·rw [if_pos c3] at H
  have c3b0 := eq_true c3
  have c3z := c3
  (try simp only [ByteArray.size_append, sz1_] at c3z)
  try have c3b3 := eq_false (Nat.not_lt.2 c3z)
  have c3b1 : decide (t101.size + 1 ≤ 9223372036854775807) = true := decide_eq_true c3
  try have c3b2 : (9223372036854775807 < t101.size + 1) = False := eq_false (Nat.not_lt.2 c3)
  replace H := Option.bind_eq_some_iff.mp H
  obtain ⟨t102, A40, H⟩ := H
  have A4 := Aside0.mk A40
  clear A40
  by_cases c5 : (t101 ++ (⟨#[46]⟩ : ByteArray)).size + t102.size ≤ 9223372036854775807
  ·rw [if_pos c5] at H
   have c5b0 := eq_true c5
   have c5z := c5
   (try simp only [ByteArray.size_append, sz1_] at c5z)
   try have c5b3 := eq_false (Nat.not_lt.2 c5z)
   have c5b1 : decide ((t101 ++ (⟨#[46]⟩ : ByteArray)).size + t102.size ≤ 9223372036854775807) = true := decide_eq_true c5
   try have c5b2 : (9223372036854775807 < (t101 ++ (⟨#[46]⟩ : ByteArray)).size + t102.size) = False := eq_false (Nat.not_lt.2 c5)
   obtain rfl := Option.some.inj H
   go_enter Tryz.func47, Tryz.ntmps47
   go_wp2_with (first | ((with_reducible refine gate_callee (f := 48) rfl ?_); refine goesL_ (some 5) rfl rfl Tryz.func48 (by kernel_rfl) rfl #[.int .u64 (IntKind.u64.wrap (Int.tdiv a0 100))] rfl (by (try simp only [List.map_toArray, List.map_cons, List.map_nil]); first | done | rfl | (simp only [List.length_drop, List.length_take]; rfl)) ?_; (with_reducible refine (spec_Text.calls k (IntKind.u64.wrap (Int.tdiv a0 100)) t101 _ A2.out).mono ?_); rintro e w6 ⟨rfl, hb⟩; refine ⟨_, rfl, ?_⟩; have n0_ := Aside0.mk (below_step belH hb); clear HB; have HB := n0_; clear n0_; (try clear hb); (try clear hb2); (try clear hk); (try clear hi)) | ((with_reducible refine gate_callee (f := 84) rfl ?_); refine goesL_ (some 9) rfl rfl Tryz.func84 (by kernel_rfl) rfl #[.int .u64 (Int.tmod a0 100), .int .u64 10, .int .i64 2] rfl (by (try simp only [List.map_toArray, List.map_cons, List.map_nil]); first | done | rfl | (simp only [List.length_drop, List.length_take]; rfl)) ?_; (with_reducible refine (spec_Padded.calls k (Int.tmod a0 100) 10 2 t102 _ A4.out).mono ?_); rintro e w7 ⟨rfl, hb⟩; refine ⟨_, rfl, ?_⟩; have n0_ := Aside0.mk (below_step belH hb); clear HB; have HB := n0_; clear n0_; (try clear hb); (try clear hb2); (try clear hk); (try clear hi)))
   go_ret
   exact ⟨by first | rfl | (simp [errW_none, errW_some] <;> rfl) | (simp [*, errW_none, errW_some] <;> rfl), by repeat (first | (with_reducible first | exact HB.out | apply below_alloc | apply pw_below_drewN | apply below_drew1) | exact HB.out)⟩
  ·rw [if_neg c5] at H
   exact absurd H (by simp)
 ·rw [if_neg c3] at H
  exact absurd H (by simp)

end Go.Proofs.YtdmpbaanonafbaaGreatDoor.A
