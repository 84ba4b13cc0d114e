import Derived.Test.YtdmpbaanonafbaaGreatDoorProg
import Derived.Below
import Derived.Deep.Draws
import Derived.Deep.AppendLies
import Derived.Maps.AppendAt
import Derived.OwnWalk
import Derived.Laws.BytesArg
import Derived.Laws.MakeOwn
import Derived.Laws.OwnMore
import Derived.Deep.OwnRows
import Derived.Tactics
import Derived.Lib.ConvBytes
import Derived.Laws.Slices
import Derived.WalkKit
import Derived.KernelRfl
import Derived.RowKit3
import Derived.Deep.LoopGhost
import Derived.Deep.QuietTactic
import Derived.BigQuiet
import Derived.WideLaws
import Derived.Deep.DeepCutAuto
import Derived.Deep.CutBlock
import Derived.Deep.RegionHeld3
import Derived.Laws.Rows
import Derived.Lib.AppendStr
import Derived.ArgAppend
import Derived.Laws.IdiomCopy
import Derived.OrdersHeld
import Derived.Laws.BitsLemmas
import Derived.RowKit
import Derived.Test.YtdmpbaanonafbaaGreatDoorSq
import Derived.Test.YtdmpbaanonafbaaGreatDoorFlt
import Derived.Test.YtdmpbaanonafbaaGreatDoorGivZ
import Derived.Test.YtdmpbaanonafbaaGreatDoorE0
import Derived.Test.YtdmpbaanonafbaaGreatDoorL3
import Derived.Test.YtdmpbaanonafbaaGreatDoorL1
import Derived.Test.YtdmpbaanonafbaaGreatDoorL2
import Derived.Test.YtdmpbaanonafbaaGreatDoorWWords
import Derived.Test.YtdmpbaanonafbaaGreatDoorWLast
import Derived.Test.YtdmpbaanonafbaaGreatDoorWTab
import Derived.Test.YtdmpbaanonafbaaGreatDoorWApart
import Derived.Test.YtdmpbaanonafbaaGreatDoorWArr
import Derived.Test.YtdmpbaanonafbaaGreatDoorWZeros
import Derived.Test.YtdmpbaanonafbaaGreatDoorWFoot
import Derived.Test.YtdmpbaanonafbaaGreatDoorWKept
import Derived.Test.YtdmpbaanonafbaaGreatDoorWShare
import Derived.Test.YtdmpbaanonafbaaGreatDoorWN
import Derived.Test.YtdmpbaanonafbaaGreatDoorWRepsOne
import Derived.Test.YtdmpbaanonafbaaGreatDoorWGuard
import Derived.Test.YtdmpbaanonafbaaGreatDoorWMore
-- written by a program of this session (wip/tools/pp.py)
namespace Go.Proofs.YtdmpbaanonafbaaGreatDoor.R
open Go.RowKit Go.Proofs.YtdmpbaanonafbaaGreatDoorW.PrintWords Go.Proofs.YtdmpbaanonafbaaGreatDoorW.PrintLast Go.Proofs.YtdmpbaanonafbaaGreatDoor.Flt Go.Proofs.YtdmpbaanonafbaaGreatDoor.GivZ Go.Proofs.YtdmpbaanonafbaaGreatDoor.E Go.Proofs.YtdmpbaanonafbaaGreatDoor.L Go.Proofs.YtdmpbaanonafbaaGreatDoorW.PrintMore
attribute [local go_sem] max2_int min2_int max_two min_two max_three min_three max_four min_four   -- for this text's walks alone
set_option linter.unusedVariables false
set_option linter.unusedSimpArgs false




theorem info9 : (Tryz.prog.info? 9).map (fun i => (i.zero, i.size, i.bytes)) = some (some (.string ⟨#[]⟩), 1, 16) := by kernel_rfl
-- the values' own types

end Go.Proofs.YtdmpbaanonafbaaGreatDoor.R

-- written by a program of this session (wip/tools/pp.py)
namespace Go.Proofs.YtdmpbaanonafbaaGreatDoor.R
open Go.RowKit Go.Proofs.YtdmpbaanonafbaaGreatDoorW.PrintWords Go.Proofs.YtdmpbaanonafbaaGreatDoorW.PrintLast Go.Proofs.YtdmpbaanonafbaaGreatDoor.Flt Go.Proofs.YtdmpbaanonafbaaGreatDoor.GivZ Go.Proofs.YtdmpbaanonafbaaGreatDoor.E Go.Proofs.YtdmpbaanonafbaaGreatDoor.L Go.Proofs.YtdmpbaanonafbaaGreatDoorW.PrintMore
attribute [local go_sem] max2_int min2_int max_two min_two max_three min_three max_four min_four   -- for this text's walks alone
set_option linter.unusedVariables false
set_option linter.unusedSimpArgs false

/-! ### spec_Word: function 107 -/
/-! ### spec_small: function 46 -/
/-! ### spec_Parts: function 41 -/
/-! ### spec_Where: function 58 -/
end Go.Proofs.YtdmpbaanonafbaaGreatDoor.R

-- written by a program of this session (wip/tools/pp.py)
namespace Go.Proofs.YtdmpbaanonafbaaGreatDoor.R
open Go.RowKit Go.Proofs.YtdmpbaanonafbaaGreatDoorW.PrintWords Go.Proofs.YtdmpbaanonafbaaGreatDoorW.PrintLast Go.Proofs.YtdmpbaanonafbaaGreatDoor.Flt Go.Proofs.YtdmpbaanonafbaaGreatDoor.GivZ Go.Proofs.YtdmpbaanonafbaaGreatDoor.E Go.Proofs.YtdmpbaanonafbaaGreatDoor.L Go.Proofs.YtdmpbaanonafbaaGreatDoorW.PrintMore
attribute [local go_sem] max2_int min2_int max_two min_two max_three min_three max_four min_four   -- for this text's walks alone
set_option linter.unusedVariables false
set_option linter.unusedSimpArgs false

/-! ### spec_ifName: function 150 -/
def spec_ifName.l0 : Nat → ByteArray → Int → Int → Option (Bool)
 | 0, _, _, _ => none
 | k + 1, x0, x6, x7 => if x7 < x6 then (if 0 ≤ x7 then (if x7 < (x0.size : Int) then (if (bt x0 x7) < 97 then (if (bt x0 x7) < 65 then (if (bt x0 x7) < 48 then (if (bt x0 x7) = 46 then (spec_ifName.l0 k x0 x6 (wrap64 (x7 + 1))) else (if (bt x0 x7) = 45 then (spec_ifName.l0 k x0 x6 (wrap64 (x7 + 1))) else (if (bt x0 x7) = 95 then (spec_ifName.l0 k x0 x6 (wrap64 (x7 + 1))) else (some false)))) else (if (bt x0 x7) > 57 then (if (bt x0 x7) = 46 then (spec_ifName.l0 k x0 x6 (wrap64 (x7 + 1))) else (if (bt x0 x7) = 45 then (spec_ifName.l0 k x0 x6 (wrap64 (x7 + 1))) else (if (bt x0 x7) = 95 then (spec_ifName.l0 k x0 x6 (wrap64 (x7 + 1))) else (some false)))) else (spec_ifName.l0 k x0 x6 (wrap64 (x7 + 1))))) else (if (bt x0 x7) > 90 then (if (bt x0 x7) < 48 then (if (bt x0 x7) = 46 then (spec_ifName.l0 k x0 x6 (wrap64 (x7 + 1))) else (if (bt x0 x7) = 45 then (spec_ifName.l0 k x0 x6 (wrap64 (x7 + 1))) else (if (bt x0 x7) = 95 then (spec_ifName.l0 k x0 x6 (wrap64 (x7 + 1))) else (some false)))) else (if (bt x0 x7) > 57 then (if (bt x0 x7) = 46 then (spec_ifName.l0 k x0 x6 (wrap64 (x7 + 1))) else (if (bt x0 x7) = 45 then (spec_ifName.l0 k x0 x6 (wrap64 (x7 + 1))) else (if (bt x0 x7) = 95 then (spec_ifName.l0 k x0 x6 (wrap64 (x7 + 1))) else (some false)))) else (spec_ifName.l0 k x0 x6 (wrap64 (x7 + 1))))) else (spec_ifName.l0 k x0 x6 (wrap64 (x7 + 1))))) else (if (bt x0 x7) > 122 then (if (bt x0 x7) < 65 then (if (bt x0 x7) < 48 then (if (bt x0 x7) = 46 then (spec_ifName.l0 k x0 x6 (wrap64 (x7 + 1))) else (if (bt x0 x7) = 45 then (spec_ifName.l0 k x0 x6 (wrap64 (x7 + 1))) else (if (bt x0 x7) = 95 then (spec_ifName.l0 k x0 x6 (wrap64 (x7 + 1))) else (some false)))) else (if (bt x0 x7) > 57 then (if (bt x0 x7) = 46 then (spec_ifName.l0 k x0 x6 (wrap64 (x7 + 1))) else (if (bt x0 x7) = 45 then (spec_ifName.l0 k x0 x6 (wrap64 (x7 + 1))) else (if (bt x0 x7) = 95 then (spec_ifName.l0 k x0 x6 (wrap64 (x7 + 1))) else (some false)))) else (spec_ifName.l0 k x0 x6 (wrap64 (x7 + 1))))) else (if (bt x0 x7) > 90 then (if (bt x0 x7) < 48 then (if (bt x0 x7) = 46 then (spec_ifName.l0 k x0 x6 (wrap64 (x7 + 1))) else (if (bt x0 x7) = 45 then (spec_ifName.l0 k x0 x6 (wrap64 (x7 + 1))) else (if (bt x0 x7) = 95 then (spec_ifName.l0 k x0 x6 (wrap64 (x7 + 1))) else (some false)))) else (if (bt x0 x7) > 57 then (if (bt x0 x7) = 46 then (spec_ifName.l0 k x0 x6 (wrap64 (x7 + 1))) else (if (bt x0 x7) = 45 then (spec_ifName.l0 k x0 x6 (wrap64 (x7 + 1))) else (if (bt x0 x7) = 95 then (spec_ifName.l0 k x0 x6 (wrap64 (x7 + 1))) else (some false)))) else (spec_ifName.l0 k x0 x6 (wrap64 (x7 + 1))))) else (spec_ifName.l0 k x0 x6 (wrap64 (x7 + 1))))) else (spec_ifName.l0 k x0 x6 (wrap64 (x7 + 1))))) else (none)) else (none)) else (if (x0.size : Int) ≥ 1 then (some (decide ((x0.size : Int) ≤ 15))) else (some false))
def spec_ifName.f (k : Nat) (a0 : ByteArray) : Option (Bool) := spec_ifName.l0 k a0 (a0.size : Int) 0
theorem spec_ifName.mono_l : ∀ k, (∀ y0 y1 y2, LeO (spec_ifName.l0 k y0 y1 y2) (spec_ifName.l0 (k + 1) y0 y1 y2))
 | 0 => fun _ _ _ r h => by simp [spec_ifName.l0] at h
 | k + 1 => by
  have ih0 := spec_ifName.mono_l k
  ·intro y0 y1 y2
   unfold spec_ifName.l0
   repeat' first
   | (with_reducible exact ih0 _ _ _)
   | (with_reducible exact LeO.refl _)
   | (with_reducible exact LeO.none _)
   | (with_reducible refine LeO.ite ?_ ?_)
   | (with_reducible refine LeO.bind ?_ (fun _ => ?_))
   | exact ih0 _ _ _
   | exact LeO.none _
   | refine LeO.ite ?_ ?_
   | refine LeO.bind ?_ (fun _ => ?_)
theorem spec_ifName.mono : ∀ a0 k, LeO (spec_ifName.f k a0) (spec_ifName.f (k + 1) a0) := by
 intro a0 k
 have ih0 := spec_ifName.mono_l k
 unfold spec_ifName.f
 repeat' first
   | (with_reducible exact ih0 _ _ _)
   | (with_reducible exact LeO.refl _)
   | (with_reducible exact LeO.none _)
   | (with_reducible refine LeO.ite ?_ ?_)
   | (with_reducible refine LeO.bind ?_ (fun _ => ?_))
   | exact ih0 _ _ _
   | exact LeO.none _
   | refine LeO.ite ?_ ?_
   | refine LeO.bind ?_ (fun _ => ?_)
set_option maxHeartbeats 8000000 in
set_option maxRecDepth 100000 in
theorem spec_ifName.calls (k : Nat) (a0 : ByteArray) (r : Bool) (w : World) (h : spec_ifName.f k a0 = some r) :
  Calls Tryz.prog 150 #[.string a0] w fun e w' => e = .returned (.bool r) ∧ Drawn0 w w' := by
 have H : (spec_ifName.l0 k a0 (a0.size : Int) 0) = some r := h
 clear h
 have H' := Aside0.mk H
 clear H
 go_enter Tryz.func150, Tryz.ntmps150
 go_wp2
 go_loopg [7] k (fun kq v7 w' => ∃ (x7_1 : Int), v7 = .int .i64 x7_1 ∧ Aside0 (spec_ifName.l0 kq a0 (a0.size : Int) x7_1 = some r) ∧ Aside0 (kq ≤ k) ∧ Drawn0 w w')
 case atStart => exact ⟨(0), (by first | rfl | (simp; done) | (simp [*]; done) | (simp [bne_nil]; done) | (simp [bne_nil, *]; done)), H', ⟨Nat.le_refl _⟩, by repeat (first | exact Drawn0.refl _ | apply Drawn0.step)⟩
 case round =>
  clear H'
  try clear c1
  obtain ⟨x7_1, rfl, HA, HK1, ⟨m1, rfl⟩⟩ := hrel
  cases gk with
  | zero => exact absurd HA.out (by simp [spec_ifName.l0])
  | succ k1 =>
   have H := HA.out
   clear HA
   simp only [spec_ifName.l0] at H
   by_cases c2 : x7_1 < (a0.size : Int)
   ·rw [if_pos c2] at H
    have c2b0 : decide (x7_1 < (a0.size : Int)) = true := decide_eq_true c2
    clear c2
    by_cases c3 : 0 ≤ x7_1
    ·rw [if_pos c3] at H
     have c3b0 : decide (0 ≤ x7_1) = true := decide_eq_true c3
     clear c3
     by_cases c4 : x7_1 < (a0.size : Int)
     ·rw [if_pos c4] at H
      have c4b0 : decide (x7_1 < (a0.size : Int)) = true := decide_eq_true c4
      clear c4
      by_cases c6 : (bt a0 x7_1) < 97
      ·rw [if_pos c6] at H
       have c6b0 : decide ((bt a0 x7_1) < 97) = true := decide_eq_true c6
       clear c6
       by_cases c7 : (bt a0 x7_1) < 65
       ·rw [if_pos c7] at H
        have c7b0 : decide ((bt a0 x7_1) < 65) = true := decide_eq_true c7
        clear c7
        by_cases c8 : (bt a0 x7_1) < 48
        ·rw [if_pos c8] at H
         have c8b0 : decide ((bt a0 x7_1) < 48) = true := decide_eq_true c8
         clear c8
         by_cases c9 : (bt a0 x7_1) = 46
         ·rw [if_pos c9] at H
          have c9b0 : ((bt a0 x7_1) == 46) = true := beq_iff_eq.mpr c9
          have c9b1 : ((bt a0 x7_1) != 46) = false := bne_eq_false_iff_eq.mpr c9
          clear c9
          have H' := Aside0.mk H
          clear H
          have p5 : 0 ≤ (x7_1 : Int) := of_decide_eq_true (by first | (with_reducible assumption) | assumption)
          have q5 : x7_1 < (a0.size : Int) := of_decide_eq_true (by first | (with_reducible assumption) | assumption)
          have hx5 := bt_at a0 x7_1
          replace p5 := eq_true p5
          replace q5 := eq_true q5
          go_wp2
          go_roundg k1
          case measure => have := HK1.out; omega
          case rel => exact ⟨(wrap64 (x7_1 + 1)), (by first | rfl | (simp; done) | (simp [*]; done) | (simp [bne_nil]; done) | (simp [bne_nil, *]; done)), H', ⟨by have := HK1.out; omega⟩, by repeat (first | exact Drawn0.refl _ | apply Drawn0.step)⟩
         ·rw [if_neg c9] at H
          have c9b0 : ((bt a0 x7_1) == 46) = false := beq_eq_false_iff_ne.mpr c9
          have c9b1 : ((bt a0 x7_1) != 46) = true := bne_iff_ne.mpr c9
          by_cases c10 : (bt a0 x7_1) = 45
          ·rw [if_pos c10] at H
           have c10b0 : ((bt a0 x7_1) == 45) = true := beq_iff_eq.mpr c10
           have c10b1 : ((bt a0 x7_1) != 45) = false := bne_eq_false_iff_eq.mpr c10
           clear c10
           have H' := Aside0.mk H
           clear H
           have p5 : 0 ≤ (x7_1 : Int) := of_decide_eq_true (by first | (with_reducible assumption) | assumption)
           have q5 : x7_1 < (a0.size : Int) := of_decide_eq_true (by first | (with_reducible assumption) | assumption)
           have hx5 := bt_at a0 x7_1
           replace p5 := eq_true p5
           replace q5 := eq_true q5
           go_wp2
           go_roundg k1
           case measure => have := HK1.out; omega
           case rel => exact ⟨(wrap64 (x7_1 + 1)), (by first | rfl | (simp; done) | (simp [*]; done) | (simp [bne_nil]; done) | (simp [bne_nil, *]; done)), H', ⟨by have := HK1.out; omega⟩, by repeat (first | exact Drawn0.refl _ | apply Drawn0.step)⟩
          ·rw [if_neg c10] at H
           have c10b0 : ((bt a0 x7_1) == 45) = false := beq_eq_false_iff_ne.mpr c10
           have c10b1 : ((bt a0 x7_1) != 45) = true := bne_iff_ne.mpr c10
           by_cases c11 : (bt a0 x7_1) = 95
           ·rw [if_pos c11] at H
            have c11b0 : ((bt a0 x7_1) == 95) = true := beq_iff_eq.mpr c11
            have c11b1 : ((bt a0 x7_1) != 95) = false := bne_eq_false_iff_eq.mpr c11
            clear c11
            have H' := Aside0.mk H
            clear H
            have p5 : 0 ≤ (x7_1 : Int) := of_decide_eq_true (by first | (with_reducible assumption) | assumption)
            have q5 : x7_1 < (a0.size : Int) := of_decide_eq_true (by first | (with_reducible assumption) | assumption)
            have hx5 := bt_at a0 x7_1
            replace p5 := eq_true p5
            replace q5 := eq_true q5
            go_wp2
            go_roundg k1
            case measure => have := HK1.out; omega
            case rel => exact ⟨(wrap64 (x7_1 + 1)), (by first | rfl | (simp; done) | (simp [*]; done) | (simp [bne_nil]; done) | (simp [bne_nil, *]; done)), H', ⟨by have := HK1.out; omega⟩, by repeat (first | exact Drawn0.refl _ | apply Drawn0.step)⟩
           ·rw [if_neg c11] at H
            have c11b0 : ((bt a0 x7_1) == 95) = false := beq_eq_false_iff_ne.mpr c11
            have c11b1 : ((bt a0 x7_1) != 95) = true := bne_iff_ne.mpr c11
            obtain rfl := Option.some.inj H
            have p5 : 0 ≤ (x7_1 : Int) := of_decide_eq_true (by first | (with_reducible assumption) | assumption)
            have q5 : x7_1 < (a0.size : Int) := of_decide_eq_true (by first | (with_reducible assumption) | assumption)
            have hx5 := bt_at a0 x7_1
            replace p5 := eq_true p5
            replace q5 := eq_true q5
            go_wp2
            go_ret
            exact ⟨by first | rfl | (simp; done) | (simp [*]; done) | (simp [bne_nil]; done) | (simp [bne_nil, *]; done), by repeat (first | exact Drawn0.refl _ | apply Drawn0.step)⟩
        ·rw [if_neg c8] at H
         have c8b0 : decide ((bt a0 x7_1) < 48) = false := decide_eq_false c8
         clear c8
         by_cases c12 : (bt a0 x7_1) > 57
         ·rw [if_pos c12] at H
          have c12b0 : decide (57 < (bt a0 x7_1)) = true := decide_eq_true c12
          clear c12
          by_cases c13 : (bt a0 x7_1) = 46
          ·rw [if_pos c13] at H
           have c13b0 : ((bt a0 x7_1) == 46) = true := beq_iff_eq.mpr c13
           have c13b1 : ((bt a0 x7_1) != 46) = false := bne_eq_false_iff_eq.mpr c13
           clear c13
           have H' := Aside0.mk H
           clear H
           have p5 : 0 ≤ (x7_1 : Int) := of_decide_eq_true (by first | (with_reducible assumption) | assumption)
           have q5 : x7_1 < (a0.size : Int) := of_decide_eq_true (by first | (with_reducible assumption) | assumption)
           have hx5 := bt_at a0 x7_1
           replace p5 := eq_true p5
           replace q5 := eq_true q5
           go_wp2
           go_roundg k1
           case measure => have := HK1.out; omega
           case rel => exact ⟨(wrap64 (x7_1 + 1)), (by first | rfl | (simp; done) | (simp [*]; done) | (simp [bne_nil]; done) | (simp [bne_nil, *]; done)), H', ⟨by have := HK1.out; omega⟩, by repeat (first | exact Drawn0.refl _ | apply Drawn0.step)⟩
          ·rw [if_neg c13] at H
           have c13b0 : ((bt a0 x7_1) == 46) = false := beq_eq_false_iff_ne.mpr c13
           have c13b1 : ((bt a0 x7_1) != 46) = true := bne_iff_ne.mpr c13
           by_cases c14 : (bt a0 x7_1) = 45
           ·rw [if_pos c14] at H
            have c14b0 : ((bt a0 x7_1) == 45) = true := beq_iff_eq.mpr c14
            have c14b1 : ((bt a0 x7_1) != 45) = false := bne_eq_false_iff_eq.mpr c14
            clear c14
            have H' := Aside0.mk H
            clear H
            have p5 : 0 ≤ (x7_1 : Int) := of_decide_eq_true (by first | (with_reducible assumption) | assumption)
            have q5 : x7_1 < (a0.size : Int) := of_decide_eq_true (by first | (with_reducible assumption) | assumption)
            have hx5 := bt_at a0 x7_1
            replace p5 := eq_true p5
            replace q5 := eq_true q5
            go_wp2
            go_roundg k1
            case measure => have := HK1.out; omega
            case rel => exact ⟨(wrap64 (x7_1 + 1)), (by first | rfl | (simp; done) | (simp [*]; done) | (simp [bne_nil]; done) | (simp [bne_nil, *]; done)), H', ⟨by have := HK1.out; omega⟩, by repeat (first | exact Drawn0.refl _ | apply Drawn0.step)⟩
           ·rw [if_neg c14] at H
            have c14b0 : ((bt a0 x7_1) == 45) = false := beq_eq_false_iff_ne.mpr c14
            have c14b1 : ((bt a0 x7_1) != 45) = true := bne_iff_ne.mpr c14
            by_cases c15 : (bt a0 x7_1) = 95
            ·rw [if_pos c15] at H
             have c15b0 : ((bt a0 x7_1) == 95) = true := beq_iff_eq.mpr c15
             have c15b1 : ((bt a0 x7_1) != 95) = false := bne_eq_false_iff_eq.mpr c15
             clear c15
             have H' := Aside0.mk H
             clear H
             have p5 : 0 ≤ (x7_1 : Int) := of_decide_eq_true (by first | (with_reducible assumption) | assumption)
             have q5 : x7_1 < (a0.size : Int) := of_decide_eq_true (by first | (with_reducible assumption) | assumption)
             have hx5 := bt_at a0 x7_1
             replace p5 := eq_true p5
             replace q5 := eq_true q5
             go_wp2
             go_roundg k1
             case measure => have := HK1.out; omega
             case rel => exact ⟨(wrap64 (x7_1 + 1)), (by first | rfl | (simp; done) | (simp [*]; done) | (simp [bne_nil]; done) | (simp [bne_nil, *]; done)), H', ⟨by have := HK1.out; omega⟩, by repeat (first | exact Drawn0.refl _ | apply Drawn0.step)⟩
            ·rw [if_neg c15] at H
             have c15b0 : ((bt a0 x7_1) == 95) = false := beq_eq_false_iff_ne.mpr c15
             have c15b1 : ((bt a0 x7_1) != 95) = true := bne_iff_ne.mpr c15
             obtain rfl := Option.some.inj H
             have p5 : 0 ≤ (x7_1 : Int) := of_decide_eq_true (by first | (with_reducible assumption) | assumption)
             have q5 : x7_1 < (a0.size : Int) := of_decide_eq_true (by first | (with_reducible assumption) | assumption)
             have hx5 := bt_at a0 x7_1
             replace p5 := eq_true p5
             replace q5 := eq_true q5
             go_wp2
             go_ret
             exact ⟨by first | rfl | (simp; done) | (simp [*]; done) | (simp [bne_nil]; done) | (simp [bne_nil, *]; done), by repeat (first | exact Drawn0.refl _ | apply Drawn0.step)⟩
         ·rw [if_neg c12] at H
          have c12b0 : decide (57 < (bt a0 x7_1)) = false := decide_eq_false c12
          clear c12
          have H' := Aside0.mk H
          clear H
          have p5 : 0 ≤ (x7_1 : Int) := of_decide_eq_true (by first | (with_reducible assumption) | assumption)
          have q5 : x7_1 < (a0.size : Int) := of_decide_eq_true (by first | (with_reducible assumption) | assumption)
          have hx5 := bt_at a0 x7_1
          replace p5 := eq_true p5
          replace q5 := eq_true q5
          go_wp2
          go_roundg k1
          case measure => have := HK1.out; omega
          case rel => exact ⟨(wrap64 (x7_1 + 1)), (by first | rfl | (simp; done) | (simp [*]; done) | (simp [bne_nil]; done) | (simp [bne_nil, *]; done)), H', ⟨by have := HK1.out; omega⟩, by repeat (first | exact Drawn0.refl _ | apply Drawn0.step)⟩
       ·rw [if_neg c7] at H
        have c7b0 : decide ((bt a0 x7_1) < 65) = false := decide_eq_false c7
        clear c7
        by_cases c16 : (bt a0 x7_1) > 90
        ·rw [if_pos c16] at H
         have c16b0 : decide (90 < (bt a0 x7_1)) = true := decide_eq_true c16
         clear c16
         by_cases c17 : (bt a0 x7_1) < 48
         ·rw [if_pos c17] at H
          have c17b0 : decide ((bt a0 x7_1) < 48) = true := decide_eq_true c17
          clear c17
          by_cases c18 : (bt a0 x7_1) = 46
          ·rw [if_pos c18] at H
           have c18b0 : ((bt a0 x7_1) == 46) = true := beq_iff_eq.mpr c18
           have c18b1 : ((bt a0 x7_1) != 46) = false := bne_eq_false_iff_eq.mpr c18
           clear c18
           have H' := Aside0.mk H
           clear H
           have p5 : 0 ≤ (x7_1 : Int) := of_decide_eq_true (by first | (with_reducible assumption) | assumption)
           have q5 : x7_1 < (a0.size : Int) := of_decide_eq_true (by first | (with_reducible assumption) | assumption)
           have hx5 := bt_at a0 x7_1
           replace p5 := eq_true p5
           replace q5 := eq_true q5
           go_wp2
           go_roundg k1
           case measure => have := HK1.out; omega
           case rel => exact ⟨(wrap64 (x7_1 + 1)), (by first | rfl | (simp; done) | (simp [*]; done) | (simp [bne_nil]; done) | (simp [bne_nil, *]; done)), H', ⟨by have := HK1.out; omega⟩, by repeat (first | exact Drawn0.refl _ | apply Drawn0.step)⟩
          ·rw [if_neg c18] at H
           have c18b0 : ((bt a0 x7_1) == 46) = false := beq_eq_false_iff_ne.mpr c18
           have c18b1 : ((bt a0 x7_1) != 46) = true := bne_iff_ne.mpr c18
           by_cases c19 : (bt a0 x7_1) = 45
           ·rw [if_pos c19] at H
            have c19b0 : ((bt a0 x7_1) == 45) = true := beq_iff_eq.mpr c19
            have c19b1 : ((bt a0 x7_1) != 45) = false := bne_eq_false_iff_eq.mpr c19
            clear c19
            have H' := Aside0.mk H
            clear H
            have p5 : 0 ≤ (x7_1 : Int) := of_decide_eq_true (by first | (with_reducible assumption) | assumption)
            have q5 : x7_1 < (a0.size : Int) := of_decide_eq_true (by first | (with_reducible assumption) | assumption)
            have hx5 := bt_at a0 x7_1
            replace p5 := eq_true p5
            replace q5 := eq_true q5
            go_wp2
            go_roundg k1
            case measure => have := HK1.out; omega
            case rel => exact ⟨(wrap64 (x7_1 + 1)), (by first | rfl | (simp; done) | (simp [*]; done) | (simp [bne_nil]; done) | (simp [bne_nil, *]; done)), H', ⟨by have := HK1.out; omega⟩, by repeat (first | exact Drawn0.refl _ | apply Drawn0.step)⟩
           ·rw [if_neg c19] at H
            have c19b0 : ((bt a0 x7_1) == 45) = false := beq_eq_false_iff_ne.mpr c19
            have c19b1 : ((bt a0 x7_1) != 45) = true := bne_iff_ne.mpr c19
            by_cases c20 : (bt a0 x7_1) = 95
            ·rw [if_pos c20] at H
             have c20b0 : ((bt a0 x7_1) == 95) = true := beq_iff_eq.mpr c20
             have c20b1 : ((bt a0 x7_1) != 95) = false := bne_eq_false_iff_eq.mpr c20
             clear c20
             have H' := Aside0.mk H
             clear H
             have p5 : 0 ≤ (x7_1 : Int) := of_decide_eq_true (by first | (with_reducible assumption) | assumption)
             have q5 : x7_1 < (a0.size : Int) := of_decide_eq_true (by first | (with_reducible assumption) | assumption)
             have hx5 := bt_at a0 x7_1
             replace p5 := eq_true p5
             replace q5 := eq_true q5
             go_wp2
             go_roundg k1
             case measure => have := HK1.out; omega
             case rel => exact ⟨(wrap64 (x7_1 + 1)), (by first | rfl | (simp; done) | (simp [*]; done) | (simp [bne_nil]; done) | (simp [bne_nil, *]; done)), H', ⟨by have := HK1.out; omega⟩, by repeat (first | exact Drawn0.refl _ | apply Drawn0.step)⟩
            ·rw [if_neg c20] at H
             have c20b0 : ((bt a0 x7_1) == 95) = false := beq_eq_false_iff_ne.mpr c20
             have c20b1 : ((bt a0 x7_1) != 95) = true := bne_iff_ne.mpr c20
             obtain rfl := Option.some.inj H
             have p5 : 0 ≤ (x7_1 : Int) := of_decide_eq_true (by first | (with_reducible assumption) | assumption)
             have q5 : x7_1 < (a0.size : Int) := of_decide_eq_true (by first | (with_reducible assumption) | assumption)
             have hx5 := bt_at a0 x7_1
             replace p5 := eq_true p5
             replace q5 := eq_true q5
             go_wp2
             go_ret
             exact ⟨by first | rfl | (simp; done) | (simp [*]; done) | (simp [bne_nil]; done) | (simp [bne_nil, *]; done), by repeat (first | exact Drawn0.refl _ | apply Drawn0.step)⟩
         ·rw [if_neg c17] at H
          have c17b0 : decide ((bt a0 x7_1) < 48) = false := decide_eq_false c17
          clear c17
          by_cases c21 : (bt a0 x7_1) > 57
          ·rw [if_pos c21] at H
           have c21b0 : decide (57 < (bt a0 x7_1)) = true := decide_eq_true c21
           clear c21
           by_cases c22 : (bt a0 x7_1) = 46
           ·rw [if_pos c22] at H
            have c22b0 : ((bt a0 x7_1) == 46) = true := beq_iff_eq.mpr c22
            have c22b1 : ((bt a0 x7_1) != 46) = false := bne_eq_false_iff_eq.mpr c22
            clear c22
            have H' := Aside0.mk H
            clear H
            have p5 : 0 ≤ (x7_1 : Int) := of_decide_eq_true (by first | (with_reducible assumption) | assumption)
            have q5 : x7_1 < (a0.size : Int) := of_decide_eq_true (by first | (with_reducible assumption) | assumption)
            have hx5 := bt_at a0 x7_1
            replace p5 := eq_true p5
            replace q5 := eq_true q5
            go_wp2
            go_roundg k1
            case measure => have := HK1.out; omega
            case rel => exact ⟨(wrap64 (x7_1 + 1)), (by first | rfl | (simp; done) | (simp [*]; done) | (simp [bne_nil]; done) | (simp [bne_nil, *]; done)), H', ⟨by have := HK1.out; omega⟩, by repeat (first | exact Drawn0.refl _ | apply Drawn0.step)⟩
           ·rw [if_neg c22] at H
            have c22b0 : ((bt a0 x7_1) == 46) = false := beq_eq_false_iff_ne.mpr c22
            have c22b1 : ((bt a0 x7_1) != 46) = true := bne_iff_ne.mpr c22
            by_cases c23 : (bt a0 x7_1) = 45
            ·rw [if_pos c23] at H
             have c23b0 : ((bt a0 x7_1) == 45) = true := beq_iff_eq.mpr c23
             have c23b1 : ((bt a0 x7_1) != 45) = false := bne_eq_false_iff_eq.mpr c23
             clear c23
             have H' := Aside0.mk H
             clear H
             have p5 : 0 ≤ (x7_1 : Int) := of_decide_eq_true (by first | (with_reducible assumption) | assumption)
             have q5 : x7_1 < (a0.size : Int) := of_decide_eq_true (by first | (with_reducible assumption) | assumption)
             have hx5 := bt_at a0 x7_1
             replace p5 := eq_true p5
             replace q5 := eq_true q5
             go_wp2
             go_roundg k1
             case measure => have := HK1.out; omega
             case rel => exact ⟨(wrap64 (x7_1 + 1)), (by first | rfl | (simp; done) | (simp [*]; done) | (simp [bne_nil]; done) | (simp [bne_nil, *]; done)), H', ⟨by have := HK1.out; omega⟩, by repeat (first | exact Drawn0.refl _ | apply Drawn0.step)⟩
            ·rw [if_neg c23] at H
             have c23b0 : ((bt a0 x7_1) == 45) = false := beq_eq_false_iff_ne.mpr c23
             have c23b1 : ((bt a0 x7_1) != 45) = true := bne_iff_ne.mpr c23
             by_cases c24 : (bt a0 x7_1) = 95
             ·rw [if_pos c24] at H
              have c24b0 : ((bt a0 x7_1) == 95) = true := beq_iff_eq.mpr c24
              have c24b1 : ((bt a0 x7_1) != 95) = false := bne_eq_false_iff_eq.mpr c24
              clear c24
              have H' := Aside0.mk H
              clear H
              have p5 : 0 ≤ (x7_1 : Int) := of_decide_eq_true (by first | (with_reducible assumption) | assumption)
              have q5 : x7_1 < (a0.size : Int) := of_decide_eq_true (by first | (with_reducible assumption) | assumption)
              have hx5 := bt_at a0 x7_1
              replace p5 := eq_true p5
              replace q5 := eq_true q5
              go_wp2
              go_roundg k1
              case measure => have := HK1.out; omega
              case rel => exact ⟨(wrap64 (x7_1 + 1)), (by first | rfl | (simp; done) | (simp [*]; done) | (simp [bne_nil]; done) | (simp [bne_nil, *]; done)), H', ⟨by have := HK1.out; omega⟩, by repeat (first | exact Drawn0.refl _ | apply Drawn0.step)⟩
             ·rw [if_neg c24] at H
              have c24b0 : ((bt a0 x7_1) == 95) = false := beq_eq_false_iff_ne.mpr c24
              have c24b1 : ((bt a0 x7_1) != 95) = true := bne_iff_ne.mpr c24
              obtain rfl := Option.some.inj H
              have p5 : 0 ≤ (x7_1 : Int) := of_decide_eq_true (by first | (with_reducible assumption) | assumption)
              have q5 : x7_1 < (a0.size : Int) := of_decide_eq_true (by first | (with_reducible assumption) | assumption)
              have hx5 := bt_at a0 x7_1
              replace p5 := eq_true p5
              replace q5 := eq_true q5
              go_wp2
              go_ret
              exact ⟨by first | rfl | (simp; done) | (simp [*]; done) | (simp [bne_nil]; done) | (simp [bne_nil, *]; done), by repeat (first | exact Drawn0.refl _ | apply Drawn0.step)⟩
          ·rw [if_neg c21] at H
           have c21b0 : decide (57 < (bt a0 x7_1)) = false := decide_eq_false c21
           clear c21
           have H' := Aside0.mk H
           clear H
           have p5 : 0 ≤ (x7_1 : Int) := of_decide_eq_true (by first | (with_reducible assumption) | assumption)
           have q5 : x7_1 < (a0.size : Int) := of_decide_eq_true (by first | (with_reducible assumption) | assumption)
           have hx5 := bt_at a0 x7_1
           replace p5 := eq_true p5
           replace q5 := eq_true q5
           go_wp2
           go_roundg k1
           case measure => have := HK1.out; omega
           case rel => exact ⟨(wrap64 (x7_1 + 1)), (by first | rfl | (simp; done) | (simp [*]; done) | (simp [bne_nil]; done) | (simp [bne_nil, *]; done)), H', ⟨by have := HK1.out; omega⟩, by repeat (first | exact Drawn0.refl _ | apply Drawn0.step)⟩
        ·rw [if_neg c16] at H
         have c16b0 : decide (90 < (bt a0 x7_1)) = false := decide_eq_false c16
         clear c16
         have H' := Aside0.mk H
         clear H
         have p5 : 0 ≤ (x7_1 : Int) := of_decide_eq_true (by first | (with_reducible assumption) | assumption)
         have q5 : x7_1 < (a0.size : Int) := of_decide_eq_true (by first | (with_reducible assumption) | assumption)
         have hx5 := bt_at a0 x7_1
         replace p5 := eq_true p5
         replace q5 := eq_true q5
         go_wp2
         go_roundg k1
         case measure => have := HK1.out; omega
         case rel => exact ⟨(wrap64 (x7_1 + 1)), (by first | rfl | (simp; done) | (simp [*]; done) | (simp [bne_nil]; done) | (simp [bne_nil, *]; done)), H', ⟨by have := HK1.out; omega⟩, by repeat (first | exact Drawn0.refl _ | apply Drawn0.step)⟩
      ·rw [if_neg c6] at H
       have c6b0 : decide ((bt a0 x7_1) < 97) = false := decide_eq_false c6
       clear c6
       by_cases c25 : (bt a0 x7_1) > 122
       ·rw [if_pos c25] at H
        have c25b0 : decide (122 < (bt a0 x7_1)) = true := decide_eq_true c25
        clear c25
        by_cases c26 : (bt a0 x7_1) < 65
        ·rw [if_pos c26] at H
         have c26b0 : decide ((bt a0 x7_1) < 65) = true := decide_eq_true c26
         clear c26
         by_cases c27 : (bt a0 x7_1) < 48
         ·rw [if_pos c27] at H
          have c27b0 : decide ((bt a0 x7_1) < 48) = true := decide_eq_true c27
          clear c27
          by_cases c28 : (bt a0 x7_1) = 46
          ·rw [if_pos c28] at H
           have c28b0 : ((bt a0 x7_1) == 46) = true := beq_iff_eq.mpr c28
           have c28b1 : ((bt a0 x7_1) != 46) = false := bne_eq_false_iff_eq.mpr c28
           clear c28
           have H' := Aside0.mk H
           clear H
           have p5 : 0 ≤ (x7_1 : Int) := of_decide_eq_true (by first | (with_reducible assumption) | assumption)
           have q5 : x7_1 < (a0.size : Int) := of_decide_eq_true (by first | (with_reducible assumption) | assumption)
           have hx5 := bt_at a0 x7_1
           replace p5 := eq_true p5
           replace q5 := eq_true q5
           go_wp2
           go_roundg k1
           case measure => have := HK1.out; omega
           case rel => exact ⟨(wrap64 (x7_1 + 1)), (by first | rfl | (simp; done) | (simp [*]; done) | (simp [bne_nil]; done) | (simp [bne_nil, *]; done)), H', ⟨by have := HK1.out; omega⟩, by repeat (first | exact Drawn0.refl _ | apply Drawn0.step)⟩
          ·rw [if_neg c28] at H
           have c28b0 : ((bt a0 x7_1) == 46) = false := beq_eq_false_iff_ne.mpr c28
           have c28b1 : ((bt a0 x7_1) != 46) = true := bne_iff_ne.mpr c28
           by_cases c29 : (bt a0 x7_1) = 45
           ·rw [if_pos c29] at H
            have c29b0 : ((bt a0 x7_1) == 45) = true := beq_iff_eq.mpr c29
            have c29b1 : ((bt a0 x7_1) != 45) = false := bne_eq_false_iff_eq.mpr c29
            clear c29
            have H' := Aside0.mk H
            clear H
            have p5 : 0 ≤ (x7_1 : Int) := of_decide_eq_true (by first | (with_reducible assumption) | assumption)
            have q5 : x7_1 < (a0.size : Int) := of_decide_eq_true (by first | (with_reducible assumption) | assumption)
            have hx5 := bt_at a0 x7_1
            replace p5 := eq_true p5
            replace q5 := eq_true q5
            go_wp2
            go_roundg k1
            case measure => have := HK1.out; omega
            case rel => exact ⟨(wrap64 (x7_1 + 1)), (by first | rfl | (simp; done) | (simp [*]; done) | (simp [bne_nil]; done) | (simp [bne_nil, *]; done)), H', ⟨by have := HK1.out; omega⟩, by repeat (first | exact Drawn0.refl _ | apply Drawn0.step)⟩
           ·rw [if_neg c29] at H
            have c29b0 : ((bt a0 x7_1) == 45) = false := beq_eq_false_iff_ne.mpr c29
            have c29b1 : ((bt a0 x7_1) != 45) = true := bne_iff_ne.mpr c29
            by_cases c30 : (bt a0 x7_1) = 95
            ·rw [if_pos c30] at H
             have c30b0 : ((bt a0 x7_1) == 95) = true := beq_iff_eq.mpr c30
             have c30b1 : ((bt a0 x7_1) != 95) = false := bne_eq_false_iff_eq.mpr c30
             clear c30
             have H' := Aside0.mk H
             clear H
             have p5 : 0 ≤ (x7_1 : Int) := of_decide_eq_true (by first | (with_reducible assumption) | assumption)
             have q5 : x7_1 < (a0.size : Int) := of_decide_eq_true (by first | (with_reducible assumption) | assumption)
             have hx5 := bt_at a0 x7_1
             replace p5 := eq_true p5
             replace q5 := eq_true q5
             go_wp2
             go_roundg k1
             case measure => have := HK1.out; omega
             case rel => exact ⟨(wrap64 (x7_1 + 1)), (by first | rfl | (simp; done) | (simp [*]; done) | (simp [bne_nil]; done) | (simp [bne_nil, *]; done)), H', ⟨by have := HK1.out; omega⟩, by repeat (first | exact Drawn0.refl _ | apply Drawn0.step)⟩
            ·rw [if_neg c30] at H
             have c30b0 : ((bt a0 x7_1) == 95) = false := beq_eq_false_iff_ne.mpr c30
             have c30b1 : ((bt a0 x7_1) != 95) = true := bne_iff_ne.mpr c30
             obtain rfl := Option.some.inj H
             have p5 : 0 ≤ (x7_1 : Int) := of_decide_eq_true (by first | (with_reducible assumption) | assumption)
             have q5 : x7_1 < (a0.size : Int) := of_decide_eq_true (by first | (with_reducible assumption) | assumption)
             have hx5 := bt_at a0 x7_1
             replace p5 := eq_true p5
             replace q5 := eq_true q5
             go_wp2
             go_ret
             exact ⟨by first | rfl | (simp; done) | (simp [*]; done) | (simp [bne_nil]; done) | (simp [bne_nil, *]; done), by repeat (first | exact Drawn0.refl _ | apply Drawn0.step)⟩
         ·rw [if_neg c27] at H
          have c27b0 : decide ((bt a0 x7_1) < 48) = false := decide_eq_false c27
          clear c27
          by_cases c31 : (bt a0 x7_1) > 57
          ·rw [if_pos c31] at H
           have c31b0 : decide (57 < (bt a0 x7_1)) = true := decide_eq_true c31
           clear c31
           by_cases c32 : (bt a0 x7_1) = 46
           ·rw [if_pos c32] at H
            have c32b0 : ((bt a0 x7_1) == 46) = true := beq_iff_eq.mpr c32
            have c32b1 : ((bt a0 x7_1) != 46) = false := bne_eq_false_iff_eq.mpr c32
            clear c32
            have H' := Aside0.mk H
            clear H
            have p5 : 0 ≤ (x7_1 : Int) := of_decide_eq_true (by first | (with_reducible assumption) | assumption)
            have q5 : x7_1 < (a0.size : Int) := of_decide_eq_true (by first | (with_reducible assumption) | assumption)
            have hx5 := bt_at a0 x7_1
            replace p5 := eq_true p5
            replace q5 := eq_true q5
            go_wp2
            go_roundg k1
            case measure => have := HK1.out; omega
            case rel => exact ⟨(wrap64 (x7_1 + 1)), (by first | rfl | (simp; done) | (simp [*]; done) | (simp [bne_nil]; done) | (simp [bne_nil, *]; done)), H', ⟨by have := HK1.out; omega⟩, by repeat (first | exact Drawn0.refl _ | apply Drawn0.step)⟩
           ·rw [if_neg c32] at H
            have c32b0 : ((bt a0 x7_1) == 46) = false := beq_eq_false_iff_ne.mpr c32
            have c32b1 : ((bt a0 x7_1) != 46) = true := bne_iff_ne.mpr c32
            by_cases c33 : (bt a0 x7_1) = 45
            ·rw [if_pos c33] at H
             have c33b0 : ((bt a0 x7_1) == 45) = true := beq_iff_eq.mpr c33
             have c33b1 : ((bt a0 x7_1) != 45) = false := bne_eq_false_iff_eq.mpr c33
             clear c33
             have H' := Aside0.mk H
             clear H
             have p5 : 0 ≤ (x7_1 : Int) := of_decide_eq_true (by first | (with_reducible assumption) | assumption)
             have q5 : x7_1 < (a0.size : Int) := of_decide_eq_true (by first | (with_reducible assumption) | assumption)
             have hx5 := bt_at a0 x7_1
             replace p5 := eq_true p5
             replace q5 := eq_true q5
             go_wp2
             go_roundg k1
             case measure => have := HK1.out; omega
             case rel => exact ⟨(wrap64 (x7_1 + 1)), (by first | rfl | (simp; done) | (simp [*]; done) | (simp [bne_nil]; done) | (simp [bne_nil, *]; done)), H', ⟨by have := HK1.out; omega⟩, by repeat (first | exact Drawn0.refl _ | apply Drawn0.step)⟩
            ·rw [if_neg c33] at H
             have c33b0 : ((bt a0 x7_1) == 45) = false := beq_eq_false_iff_ne.mpr c33
             have c33b1 : ((bt a0 x7_1) != 45) = true := bne_iff_ne.mpr c33
             by_cases c34 : (bt a0 x7_1) = 95
             ·rw [if_pos c34] at H
              have c34b0 : ((bt a0 x7_1) == 95) = true := beq_iff_eq.mpr c34
              have c34b1 : ((bt a0 x7_1) != 95) = false := bne_eq_false_iff_eq.mpr c34
              clear c34
              have H' := Aside0.mk H
              clear H
              have p5 : 0 ≤ (x7_1 : Int) := of_decide_eq_true (by first | (with_reducible assumption) | assumption)
              have q5 : x7_1 < (a0.size : Int) := of_decide_eq_true (by first | (with_reducible assumption) | assumption)
              have hx5 := bt_at a0 x7_1
              replace p5 := eq_true p5
              replace q5 := eq_true q5
              go_wp2
              go_roundg k1
              case measure => have := HK1.out; omega
              case rel => exact ⟨(wrap64 (x7_1 + 1)), (by first | rfl | (simp; done) | (simp [*]; done) | (simp [bne_nil]; done) | (simp [bne_nil, *]; done)), H', ⟨by have := HK1.out; omega⟩, by repeat (first | exact Drawn0.refl _ | apply Drawn0.step)⟩
             ·rw [if_neg c34] at H
              have c34b0 : ((bt a0 x7_1) == 95) = false := beq_eq_false_iff_ne.mpr c34
              have c34b1 : ((bt a0 x7_1) != 95) = true := bne_iff_ne.mpr c34
              obtain rfl := Option.some.inj H
              have p5 : 0 ≤ (x7_1 : Int) := of_decide_eq_true (by first | (with_reducible assumption) | assumption)
              have q5 : x7_1 < (a0.size : Int) := of_decide_eq_true (by first | (with_reducible assumption) | assumption)
              have hx5 := bt_at a0 x7_1
              replace p5 := eq_true p5
              replace q5 := eq_true q5
              go_wp2
              go_ret
              exact ⟨by first | rfl | (simp; done) | (simp [*]; done) | (simp [bne_nil]; done) | (simp [bne_nil, *]; done), by repeat (first | exact Drawn0.refl _ | apply Drawn0.step)⟩
          ·rw [if_neg c31] at H
           have c31b0 : decide (57 < (bt a0 x7_1)) = false := decide_eq_false c31
           clear c31
           have H' := Aside0.mk H
           clear H
           have p5 : 0 ≤ (x7_1 : Int) := of_decide_eq_true (by first | (with_reducible assumption) | assumption)
           have q5 : x7_1 < (a0.size : Int) := of_decide_eq_true (by first | (with_reducible assumption) | assumption)
           have hx5 := bt_at a0 x7_1
           replace p5 := eq_true p5
           replace q5 := eq_true q5
           go_wp2
           go_roundg k1
           case measure => have := HK1.out; omega
           case rel => exact ⟨(wrap64 (x7_1 + 1)), (by first | rfl | (simp; done) | (simp [*]; done) | (simp [bne_nil]; done) | (simp [bne_nil, *]; done)), H', ⟨by have := HK1.out; omega⟩, by repeat (first | exact Drawn0.refl _ | apply Drawn0.step)⟩
        ·rw [if_neg c26] at H
         have c26b0 : decide ((bt a0 x7_1) < 65) = false := decide_eq_false c26
         clear c26
         by_cases c35 : (bt a0 x7_1) > 90
         ·rw [if_pos c35] at H
          have c35b0 : decide (90 < (bt a0 x7_1)) = true := decide_eq_true c35
          clear c35
          by_cases c36 : (bt a0 x7_1) < 48
          ·rw [if_pos c36] at H
           have c36b0 : decide ((bt a0 x7_1) < 48) = true := decide_eq_true c36
           clear c36
           by_cases c37 : (bt a0 x7_1) = 46
           ·rw [if_pos c37] at H
            have c37b0 : ((bt a0 x7_1) == 46) = true := beq_iff_eq.mpr c37
            have c37b1 : ((bt a0 x7_1) != 46) = false := bne_eq_false_iff_eq.mpr c37
            clear c37
            have H' := Aside0.mk H
            clear H
            have p5 : 0 ≤ (x7_1 : Int) := of_decide_eq_true (by first | (with_reducible assumption) | assumption)
            have q5 : x7_1 < (a0.size : Int) := of_decide_eq_true (by first | (with_reducible assumption) | assumption)
            have hx5 := bt_at a0 x7_1
            replace p5 := eq_true p5
            replace q5 := eq_true q5
            go_wp2
            go_roundg k1
            case measure => have := HK1.out; omega
            case rel => exact ⟨(wrap64 (x7_1 + 1)), (by first | rfl | (simp; done) | (simp [*]; done) | (simp [bne_nil]; done) | (simp [bne_nil, *]; done)), H', ⟨by have := HK1.out; omega⟩, by repeat (first | exact Drawn0.refl _ | apply Drawn0.step)⟩
           ·rw [if_neg c37] at H
            have c37b0 : ((bt a0 x7_1) == 46) = false := beq_eq_false_iff_ne.mpr c37
            have c37b1 : ((bt a0 x7_1) != 46) = true := bne_iff_ne.mpr c37
            by_cases c38 : (bt a0 x7_1) = 45
            ·rw [if_pos c38] at H
             have c38b0 : ((bt a0 x7_1) == 45) = true := beq_iff_eq.mpr c38
             have c38b1 : ((bt a0 x7_1) != 45) = false := bne_eq_false_iff_eq.mpr c38
             clear c38
             have H' := Aside0.mk H
             clear H
             have p5 : 0 ≤ (x7_1 : Int) := of_decide_eq_true (by first | (with_reducible assumption) | assumption)
             have q5 : x7_1 < (a0.size : Int) := of_decide_eq_true (by first | (with_reducible assumption) | assumption)
             have hx5 := bt_at a0 x7_1
             replace p5 := eq_true p5
             replace q5 := eq_true q5
             go_wp2
             go_roundg k1
             case measure => have := HK1.out; omega
             case rel => exact ⟨(wrap64 (x7_1 + 1)), (by first | rfl | (simp; done) | (simp [*]; done) | (simp [bne_nil]; done) | (simp [bne_nil, *]; done)), H', ⟨by have := HK1.out; omega⟩, by repeat (first | exact Drawn0.refl _ | apply Drawn0.step)⟩
            ·rw [if_neg c38] at H
             have c38b0 : ((bt a0 x7_1) == 45) = false := beq_eq_false_iff_ne.mpr c38
             have c38b1 : ((bt a0 x7_1) != 45) = true := bne_iff_ne.mpr c38
             by_cases c39 : (bt a0 x7_1) = 95
             ·rw [if_pos c39] at H
              have c39b0 : ((bt a0 x7_1) == 95) = true := beq_iff_eq.mpr c39
              have c39b1 : ((bt a0 x7_1) != 95) = false := bne_eq_false_iff_eq.mpr c39
              clear c39
              have H' := Aside0.mk H
              clear H
              have p5 : 0 ≤ (x7_1 : Int) := of_decide_eq_true (by first | (with_reducible assumption) | assumption)
              have q5 : x7_1 < (a0.size : Int) := of_decide_eq_true (by first | (with_reducible assumption) | assumption)
              have hx5 := bt_at a0 x7_1
              replace p5 := eq_true p5
              replace q5 := eq_true q5
              go_wp2
              go_roundg k1
              case measure => have := HK1.out; omega
              case rel => exact ⟨(wrap64 (x7_1 + 1)), (by first | rfl | (simp; done) | (simp [*]; done) | (simp [bne_nil]; done) | (simp [bne_nil, *]; done)), H', ⟨by have := HK1.out; omega⟩, by repeat (first | exact Drawn0.refl _ | apply Drawn0.step)⟩
             ·rw [if_neg c39] at H
              have c39b0 : ((bt a0 x7_1) == 95) = false := beq_eq_false_iff_ne.mpr c39
              have c39b1 : ((bt a0 x7_1) != 95) = true := bne_iff_ne.mpr c39
              obtain rfl := Option.some.inj H
              have p5 : 0 ≤ (x7_1 : Int) := of_decide_eq_true (by first | (with_reducible assumption) | assumption)
              have q5 : x7_1 < (a0.size : Int) := of_decide_eq_true (by first | (with_reducible assumption) | assumption)
              have hx5 := bt_at a0 x7_1
              replace p5 := eq_true p5
              replace q5 := eq_true q5
              go_wp2
              go_ret
              exact ⟨by first | rfl | (simp; done) | (simp [*]; done) | (simp [bne_nil]; done) | (simp [bne_nil, *]; done), by repeat (first | exact Drawn0.refl _ | apply Drawn0.step)⟩
          ·rw [if_neg c36] at H
           have c36b0 : decide ((bt a0 x7_1) < 48) = false := decide_eq_false c36
           clear c36
           by_cases c40 : (bt a0 x7_1) > 57
           ·rw [if_pos c40] at H
            have c40b0 : decide (57 < (bt a0 x7_1)) = true := decide_eq_true c40
            clear c40
            by_cases c41 : (bt a0 x7_1) = 46
            ·rw [if_pos c41] at H
             have c41b0 : ((bt a0 x7_1) == 46) = true := beq_iff_eq.mpr c41
             have c41b1 : ((bt a0 x7_1) != 46) = false := bne_eq_false_iff_eq.mpr c41
             clear c41
             have H' := Aside0.mk H
             clear H
             have p5 : 0 ≤ (x7_1 : Int) := of_decide_eq_true (by first | (with_reducible assumption) | assumption)
             have q5 : x7_1 < (a0.size : Int) := of_decide_eq_true (by first | (with_reducible assumption) | assumption)
             have hx5 := bt_at a0 x7_1
             replace p5 := eq_true p5
             replace q5 := eq_true q5
             go_wp2
             go_roundg k1
             case measure => have := HK1.out; omega
             case rel => exact ⟨(wrap64 (x7_1 + 1)), (by first | rfl | (simp; done) | (simp [*]; done) | (simp [bne_nil]; done) | (simp [bne_nil, *]; done)), H', ⟨by have := HK1.out; omega⟩, by repeat (first | exact Drawn0.refl _ | apply Drawn0.step)⟩
            ·rw [if_neg c41] at H
             have c41b0 : ((bt a0 x7_1) == 46) = false := beq_eq_false_iff_ne.mpr c41
             have c41b1 : ((bt a0 x7_1) != 46) = true := bne_iff_ne.mpr c41
             by_cases c42 : (bt a0 x7_1) = 45
             ·rw [if_pos c42] at H
              have c42b0 : ((bt a0 x7_1) == 45) = true := beq_iff_eq.mpr c42
              have c42b1 : ((bt a0 x7_1) != 45) = false := bne_eq_false_iff_eq.mpr c42
              clear c42
              have H' := Aside0.mk H
              clear H
              have p5 : 0 ≤ (x7_1 : Int) := of_decide_eq_true (by first | (with_reducible assumption) | assumption)
              have q5 : x7_1 < (a0.size : Int) := of_decide_eq_true (by first | (with_reducible assumption) | assumption)
              have hx5 := bt_at a0 x7_1
              replace p5 := eq_true p5
              replace q5 := eq_true q5
              go_wp2
              go_roundg k1
              case measure => have := HK1.out; omega
              case rel => exact ⟨(wrap64 (x7_1 + 1)), (by first | rfl | (simp; done) | (simp [*]; done) | (simp [bne_nil]; done) | (simp [bne_nil, *]; done)), H', ⟨by have := HK1.out; omega⟩, by repeat (first | exact Drawn0.refl _ | apply Drawn0.step)⟩
             ·rw [if_neg c42] at H
              have c42b0 : ((bt a0 x7_1) == 45) = false := beq_eq_false_iff_ne.mpr c42
              have c42b1 : ((bt a0 x7_1) != 45) = true := bne_iff_ne.mpr c42
              by_cases c43 : (bt a0 x7_1) = 95
              ·rw [if_pos c43] at H
               have c43b0 : ((bt a0 x7_1) == 95) = true := beq_iff_eq.mpr c43
               have c43b1 : ((bt a0 x7_1) != 95) = false := bne_eq_false_iff_eq.mpr c43
               clear c43
               have H' := Aside0.mk H
               clear H
               have p5 : 0 ≤ (x7_1 : Int) := of_decide_eq_true (by first | (with_reducible assumption) | assumption)
               have q5 : x7_1 < (a0.size : Int) := of_decide_eq_true (by first | (with_reducible assumption) | assumption)
               have hx5 := bt_at a0 x7_1
               replace p5 := eq_true p5
               replace q5 := eq_true q5
               go_wp2
               go_roundg k1
               case measure => have := HK1.out; omega
               case rel => exact ⟨(wrap64 (x7_1 + 1)), (by first | rfl | (simp; done) | (simp [*]; done) | (simp [bne_nil]; done) | (simp [bne_nil, *]; done)), H', ⟨by have := HK1.out; omega⟩, by repeat (first | exact Drawn0.refl _ | apply Drawn0.step)⟩
              ·rw [if_neg c43] at H
               have c43b0 : ((bt a0 x7_1) == 95) = false := beq_eq_false_iff_ne.mpr c43
               have c43b1 : ((bt a0 x7_1) != 95) = true := bne_iff_ne.mpr c43
               obtain rfl := Option.some.inj H
               have p5 : 0 ≤ (x7_1 : Int) := of_decide_eq_true (by first | (with_reducible assumption) | assumption)
               have q5 : x7_1 < (a0.size : Int) := of_decide_eq_true (by first | (with_reducible assumption) | assumption)
               have hx5 := bt_at a0 x7_1
               replace p5 := eq_true p5
               replace q5 := eq_true q5
               go_wp2
               go_ret
               exact ⟨by first | rfl | (simp; done) | (simp [*]; done) | (simp [bne_nil]; done) | (simp [bne_nil, *]; done), by repeat (first | exact Drawn0.refl _ | apply Drawn0.step)⟩
           ·rw [if_neg c40] at H
            have c40b0 : decide (57 < (bt a0 x7_1)) = false := decide_eq_false c40
            clear c40
            have H' := Aside0.mk H
            clear H
            have p5 : 0 ≤ (x7_1 : Int) := of_decide_eq_true (by first | (with_reducible assumption) | assumption)
            have q5 : x7_1 < (a0.size : Int) := of_decide_eq_true (by first | (with_reducible assumption) | assumption)
            have hx5 := bt_at a0 x7_1
            replace p5 := eq_true p5
            replace q5 := eq_true q5
            go_wp2
            go_roundg k1
            case measure => have := HK1.out; omega
            case rel => exact ⟨(wrap64 (x7_1 + 1)), (by first | rfl | (simp; done) | (simp [*]; done) | (simp [bne_nil]; done) | (simp [bne_nil, *]; done)), H', ⟨by have := HK1.out; omega⟩, by repeat (first | exact Drawn0.refl _ | apply Drawn0.step)⟩
         ·rw [if_neg c35] at H
          have c35b0 : decide (90 < (bt a0 x7_1)) = false := decide_eq_false c35
          clear c35
          have H' := Aside0.mk H
          clear H
          have p5 : 0 ≤ (x7_1 : Int) := of_decide_eq_true (by first | (with_reducible assumption) | assumption)
          have q5 : x7_1 < (a0.size : Int) := of_decide_eq_true (by first | (with_reducible assumption) | assumption)
          have hx5 := bt_at a0 x7_1
          replace p5 := eq_true p5
          replace q5 := eq_true q5
          go_wp2
          go_roundg k1
          case measure => have := HK1.out; omega
          case rel => exact ⟨(wrap64 (x7_1 + 1)), (by first | rfl | (simp; done) | (simp [*]; done) | (simp [bne_nil]; done) | (simp [bne_nil, *]; done)), H', ⟨by have := HK1.out; omega⟩, by repeat (first | exact Drawn0.refl _ | apply Drawn0.step)⟩
       ·rw [if_neg c25] at H
        have c25b0 : decide (122 < (bt a0 x7_1)) = false := decide_eq_false c25
        clear c25
        have H' := Aside0.mk H
        clear H
        have p5 : 0 ≤ (x7_1 : Int) := of_decide_eq_true (by first | (with_reducible assumption) | assumption)
        have q5 : x7_1 < (a0.size : Int) := of_decide_eq_true (by first | (with_reducible assumption) | assumption)
        have hx5 := bt_at a0 x7_1
        replace p5 := eq_true p5
        replace q5 := eq_true q5
        go_wp2
        go_roundg k1
        case measure => have := HK1.out; omega
        case rel => exact ⟨(wrap64 (x7_1 + 1)), (by first | rfl | (simp; done) | (simp [*]; done) | (simp [bne_nil]; done) | (simp [bne_nil, *]; done)), H', ⟨by have := HK1.out; omega⟩, by repeat (first | exact Drawn0.refl _ | apply Drawn0.step)⟩
     ·rw [if_neg c4] at H
      exact absurd H (by simp)
    ·rw [if_neg c3] at H
     exact absurd H (by simp)
   ·rw [if_neg c2] at H
    have c2b0 : decide (x7_1 < (a0.size : Int)) = false := decide_eq_false c2
    clear c2
    by_cases c44 : (a0.size : Int) ≥ 1
    ·rw [if_pos c44] at H
     have c44b0 : decide (1 ≤ (a0.size : Int)) = true := decide_eq_true c44
     have c44b1 : decide (1 ≤ a0.size) = true := decide_eq_true (by omega)
     clear c44
     obtain rfl := Option.some.inj H
     go_wp2
     go_ret
     exact ⟨by first | rfl | (simp; done) | (simp [*]; done) | (simp [bne_nil]; done) | (simp [bne_nil, *]; done), by repeat (first | exact Drawn0.refl _ | apply Drawn0.step)⟩
    ·rw [if_neg c44] at H
     have c44b0 : decide (1 ≤ (a0.size : Int)) = false := decide_eq_false c44
     have c44b1 : decide (1 ≤ a0.size) = false := decide_eq_false (by omega)
     clear c44
     obtain rfl := Option.some.inj H
     go_wp2
     go_ret
     exact ⟨by first | rfl | (simp; done) | (simp [*]; done) | (simp [bne_nil]; done) | (simp [bne_nil, *]; done), by repeat (first | exact Drawn0.refl _ | apply Drawn0.step)⟩

/-- THE ONE PURE STATEMENT of spec_ifName: yours. -/
def spec_ifName.Pure : Prop := ∀ (a0 : ByteArray), a0.size ≤ 140737488351232 → ∃ k, spec_ifName.f k a0 = some true
theorem spec_ifName.walk (P : spec_ifName.Pure) (a0 : ByteArray) (w : World) (w0 : a0.size ≤ 140737488351232) :
  Calls Tryz.prog 150 #[.string a0] w fun e w' => e = .returned (.bool true) ∧ Below w.heap.size w w' := by
 obtain ⟨k, h⟩ := P a0 w0
 refine (spec_ifName.calls k a0 true w h).mono ?_
 rintro e w' ⟨rfl, hd⟩
 exact ⟨rfl, hd.below⟩

end Go.Proofs.YtdmpbaanonafbaaGreatDoor.R

-- written by a program of this session (wip/tools/pp.py)
namespace Go.Proofs.YtdmpbaanonafbaaGreatDoor.R
open Go.RowKit Go.Proofs.YtdmpbaanonafbaaGreatDoorW.PrintWords Go.Proofs.YtdmpbaanonafbaaGreatDoorW.PrintLast Go.Proofs.YtdmpbaanonafbaaGreatDoor.Flt Go.Proofs.YtdmpbaanonafbaaGreatDoor.GivZ Go.Proofs.YtdmpbaanonafbaaGreatDoor.E Go.Proofs.YtdmpbaanonafbaaGreatDoor.L Go.Proofs.YtdmpbaanonafbaaGreatDoorW.PrintMore
attribute [local go_sem] max2_int min2_int max_two min_two max_three min_three max_four min_four   -- for this text's walks alone
set_option linter.unusedVariables false
set_option linter.unusedSimpArgs false

/-! ### spec_counted: function 144 -/
def spec_counted.l0 : Nat → Int → Int → Int → List Int → Int → Int → ByteArray → List Int → List ByteArray → Option (Bool)
 | 0, _, _, _, _, _, _, _, _, _ => none
 | k + 1, x1, x2, x3, x12, x13, x14, x102000, x102001, x102002 => if x14 < x13 then (if 0 ≤ x14 then (if x14 < (x12.length : Int) then (if 0 ≤ (wrap64 (x2 - 1)) then (if (rd x12 x14) > (IntKind.u64.wrap ((IntKind.u64.wrap ((shl .u64 1 (wrap64 (x2 - 1))) * 2)) - 1)) then (some false) else (spec_counted.l0 k x1 x2 x3 x12 x13 (wrap64 (x14 + 1)) x102000 x102001 x102002)) else (none)) else (none)) else (none)) else (if (x102001.length : Int) = x1 then (some ((x102002.length : Int) == x3)) else (some false))
def spec_counted.f (k : Nat) (a0_0 : ByteArray) (l0_1 : List Int) (l0_2 : List ByteArray) (a1 : Int) (a2 : Int) (a3 : Int) : Option (Bool) := spec_counted.l0 k a1 a2 a3 l0_1 (l0_1.length : Int) 0 a0_0 l0_1 l0_2
theorem spec_counted.mono_l : ∀ k, (∀ y0 y1 y2 y3 y4 y5 y6 y7 y8, LeO (spec_counted.l0 k y0 y1 y2 y3 y4 y5 y6 y7 y8) (spec_counted.l0 (k + 1) y0 y1 y2 y3 y4 y5 y6 y7 y8))
 | 0 => fun _ _ _ _ _ _ _ _ _ r h => by simp [spec_counted.l0] at h
 | k + 1 => by
  have ih0 := spec_counted.mono_l k
  ·intro y0 y1 y2 y3 y4 y5 y6 y7 y8
   unfold spec_counted.l0
   repeat' first
   | (with_reducible exact ih0 _ _ _ _ _ _ _ _ _)
   | (with_reducible exact LeO.refl _)
   | (with_reducible exact LeO.none _)
   | (with_reducible refine LeO.ite ?_ ?_)
   | (with_reducible refine LeO.bind ?_ (fun _ => ?_))
   | exact ih0 _ _ _ _ _ _ _ _ _
   | exact LeO.none _
   | refine LeO.ite ?_ ?_
   | refine LeO.bind ?_ (fun _ => ?_)
theorem spec_counted.mono : ∀ a0 a1 a2 a3 a4 a5 k, LeO (spec_counted.f k a0 a1 a2 a3 a4 a5) (spec_counted.f (k + 1) a0 a1 a2 a3 a4 a5) := by
 intro a0 a1 a2 a3 a4 a5 k
 have ih0 := spec_counted.mono_l k
 unfold spec_counted.f
 repeat' first
   | (with_reducible exact ih0 _ _ _ _ _ _ _ _ _)
   | (with_reducible exact LeO.refl _)
   | (with_reducible exact LeO.none _)
   | (with_reducible refine LeO.ite ?_ ?_)
   | (with_reducible refine LeO.bind ?_ (fun _ => ?_))
   | exact ih0 _ _ _ _ _ _ _ _ _
   | exact LeO.none _
   | refine LeO.ite ?_ ?_
   | refine LeO.bind ?_ (fun _ => ?_)
set_option maxHeartbeats 8000000 in
set_option maxRecDepth 100000 in
theorem spec_counted.calls (k : Nat) (a0_0 : ByteArray) (A0_1 : Option Addr) (c0_1 : Nat) (l0_1 : List Int) (A0_2 : Option Addr) (c0_2 : Nat) (l0_2 : List ByteArray) (a1 : Int) (a2 : Int) (a3 : Int) (r : Bool) (w : World) (hr0_1 : Kd.C (Kd.int .u64) w A0_1 l0_1.length l0_1) (hc0_1 : l0_1.length ≤ c0_1) (hr0_2 : Kd.C Kd.string w A0_2 l0_2.length l0_2) (hc0_2 : l0_2.length ≤ c0_2) (h : spec_counted.f k a0_0 l0_1 l0_2 a1 a2 a3 = some r) :
  Calls Tryz.prog 144 #[.agg #[.string a0_0, .slice A0_1 l0_1.length c0_1, .slice A0_2 l0_2.length c0_2], .int .i64 a1, .int .i64 a2, .int .i64 a3] w fun e w' => e = .returned (.bool r) ∧ Below w.heap.size w w' := by
 have hu48 := Tryz.underlying48
 have HR0_1 := Aside0.mk hr0_1
 have HC0_1 := Aside0.mk hc0_1
 clear hr0_1 hc0_1
 have HR0_2 := Aside0.mk hr0_2
 have HC0_2 := Aside0.mk hc0_2
 clear hr0_2 hc0_2
 have HB := Aside0.mk (Below.refl w.heap.size w)
 have H : (spec_counted.l0 k a1 a2 a3 l0_1 (l0_1.length : Int) 0 a0_0 l0_1 l0_2) = some r := h
 clear h
 have H' := Aside0.mk H
 clear H
 go_enter Tryz.func144, Tryz.ntmps144
 go_wp2_with (first | ((with_reducible refine gate_dst (N := 4) rfl ?_); (try (refine gate_guard (by rfl) ?_; dsimp only)); refine box_event ?hg (N := 4) ?hd (cs := #[.string a0_0, .slice A0_1 l0_1.length c0_1, .slice A0_2 l0_2.length c0_2]) (t := 48) ?hr ?_; (case hd => rfl); (case hg => rfl); (case hr => first | (go_simp; done) | (go_simp; rfl)); intro gb101 hg w5 hbox hb; have n0_ := Aside0.mk (below_step belH hb); have n1_ := Aside0.mk (hbox); have n2_ := Aside0.mk ((by rw [hg]; exact (below_size belH) : w.heap.size ≤ gb101)); have n3_ := Aside0.mk ((by rw [hg]; exact (below_size belH) : w.heap.size ≤ gb101)); clear HB; have HB := n0_; have BK101 := n1_; have GW101 := n2_; have GE101 := n3_; clear n0_ n1_ n2_ n3_; clear hb hbox hg; obtain ⟨hcz6_0, hcz6_1, hcz6_2, hfz6_0, hfz6_1, hfz6_2⟩ := rows3 (w := w5) BK101))
 go_loopg [14] k (fun kq v14 w' => ∃ (x14_1 : Int), v14 = .int .i64 x14_1 ∧ Aside0 (spec_counted.l0 kq a1 a2 a3 l0_1 (l0_1.length : Int) x14_1 a0_0 l0_1 l0_2 = some r) ∧ Aside0 (kq ≤ k) ∧ Aside0 (w'.heap[gb101]? = some (.cells #[.string a0_0, (.slice A0_1 l0_1.length c0_1), (.slice A0_2 l0_2.length c0_2)] 48 (0, 0))) ∧ Aside0 (Below w.heap.size w w'))
 case atStart => exact ⟨(0), (by first | rfl | (simp; done) | (simp [*]; done) | (simp [bne_nil]; done) | (simp [bne_nil, *]; done)), H', ⟨Nat.le_refl _⟩, ⟨by refine bY ?_; exact BK101.out⟩, ⟨by repeat (first | (with_reducible first | exact HB.out | apply below_alloc | apply pw_below_drewN | apply below_drew1 | refine below_set ?_ GE101.out) | exact HB.out)⟩⟩
 case round =>
  clear H'
  try clear c1
  try clear p2
  try clear hcz6_0
  try clear hcz6_1
  try clear hcz6_2
  try clear hfz6_0
  try clear hfz6_1
  try clear hfz6_2
  obtain ⟨x14_1, rfl, HA, HK1, BK101, HB⟩ := hrel
  cases gk with
  | zero => exact absurd HA.out (by simp [spec_counted.l0])
  | succ k1 =>
   have H := HA.out
   clear HA
   simp only [spec_counted.l0] at H
   by_cases c7 : x14_1 < (l0_1.length : Int)
   ·rw [if_pos c7] at H
    have c7b0 : decide (x14_1 < (l0_1.length : Int)) = true := decide_eq_true c7
    clear c7
    by_cases c8 : 0 ≤ x14_1
    ·rw [if_pos c8] at H
     have c8b0 : decide (0 ≤ x14_1) = true := decide_eq_true c8
     clear c8
     by_cases c9 : x14_1 < (l0_1.length : Int)
     ·rw [if_pos c9] at H
      have c9b0 : decide (x14_1 < (l0_1.length : Int)) = true := decide_eq_true c9
      clear c9
      obtain ⟨ji10, hji10⟩ : ∃ j_ : Int, (wrap64 (a2 - 1)) = j_ := ⟨_, rfl⟩
      replace H : (if 0 ≤ (ji10) then (if (rd l0_1 x14_1) > (IntKind.u64.wrap ((IntKind.u64.wrap ((shl .u64 1 (ji10)) * 2)) - 1)) then (some false) else (spec_counted.l0 k1 a1 a2 a3 l0_1 (l0_1.length : Int) (wrap64 (x14_1 + 1)) a0_0 l0_1 l0_2)) else (none)) = some r := by first | (rw [hji10] at H; exact H) | (simp only [hji10] at H ⊢; exact H)
      have hji10w : (IntKind.i64.wrap (a2 - 1)) = ji10 := (i64_w _).trans hji10
      by_cases c11 : 0 ≤ (ji10)
      ·rw [if_pos c11] at H
       have c11b0 := eq_true c11
       have c11b1 : decide (0 ≤ (ji10)) = true := decide_eq_true c11
       clear c11
       obtain ⟨ji12, hji12⟩ : ∃ j_ : Int, (shl .u64 1 (ji10)) = j_ := ⟨_, rfl⟩
       replace H : (if (rd l0_1 x14_1) > (IntKind.u64.wrap ((IntKind.u64.wrap ((ji12) * 2)) - 1)) then (some false) else (spec_counted.l0 k1 a1 a2 a3 l0_1 (l0_1.length : Int) (wrap64 (x14_1 + 1)) a0_0 l0_1 l0_2)) = some r := by first | (rw [hji12] at H; exact H) | (simp only [hji12] at H ⊢; exact H)
       have hji12_ : (IntKind.u64.wrap (1 * 2 ^ min (ji10).toNat 64)) = ji12 := hji12
       have hji12z : (ji10) ≤ 64 → (IntKind.u64.wrap (1 * 2 ^ (ji10).toNat)) = ji12 := shl_small hji12
       have hji12u : (IntKind.u64.wrap (2 ^ min (ji10).toNat 64)) = ji12 := by have h_ := hji12_; rw [Int.one_mul] at h_; exact h_
       have hji12v : (ji10) ≤ 64 → (IntKind.u64.wrap (2 ^ (ji10).toNat)) = ji12 := fun hle_ => by have h_ := hji12z hle_; rw [Int.one_mul] at h_; exact h_
       by_cases c13 : (rd l0_1 x14_1) > (IntKind.u64.wrap ((IntKind.u64.wrap ((ji12) * 2)) - 1))
       ·rw [if_pos c13] at H
        have c13b0 : decide ((IntKind.u64.wrap ((IntKind.u64.wrap ((ji12) * 2)) - 1)) < (rd l0_1 x14_1)) = true := decide_eq_true c13
        clear c13
        obtain rfl := Option.some.inj H
        have p102 : 0 ≤ (x14_1 : Int) := of_decide_eq_true (by first | (with_reducible assumption) | assumption)
        have q102 : x14_1 < (l0_1.length : Int) := of_decide_eq_true (by first | (with_reducible assumption) | assumption)
        obtain ⟨ad102, e102, hx102_0⟩ := Kd.at_int HR0_1.out x14_1 p102 q102
        cases e102
        replace hx102_0 := (HB.out.cell (World.block_lt_of_cell? w _ hx102_0)).trans hx102_0
        replace p102 := eq_true p102
        replace q102 := eq_true q102
        go_wp2
        go_ret
        exact ⟨by first | rfl | (simp [errW_none, errW_some] <;> rfl) | (simp only [← hji10, ← hji12]; first | rfl | (simp [errW_none, errW_some] <;> rfl)) | (simp [*, errW_none, errW_some] <;> rfl), by repeat (first | (with_reducible first | exact HB.out | apply below_alloc | apply pw_below_drewN | apply below_drew1 | refine below_set ?_ GE101.out) | exact HB.out)⟩
       ·rw [if_neg c13] at H
        have c13b0 : decide ((IntKind.u64.wrap ((IntKind.u64.wrap ((ji12) * 2)) - 1)) < (rd l0_1 x14_1)) = false := decide_eq_false c13
        clear c13
        have H' := Aside0.mk H
        clear H
        have p102 : 0 ≤ (x14_1 : Int) := of_decide_eq_true (by first | (with_reducible assumption) | assumption)
        have q102 : x14_1 < (l0_1.length : Int) := of_decide_eq_true (by first | (with_reducible assumption) | assumption)
        obtain ⟨ad102, e102, hx102_0⟩ := Kd.at_int HR0_1.out x14_1 p102 q102
        cases e102
        replace hx102_0 := (HB.out.cell (World.block_lt_of_cell? w _ hx102_0)).trans hx102_0
        replace p102 := eq_true p102
        replace q102 := eq_true q102
        go_wp2
        go_roundg k1
        case measure => have := HK1.out; omega
        case rel => exact ⟨(wrap64 (x14_1 + 1)), (by first | rfl | (simp; done) | (simp [*]; done) | (simp [bne_nil]; done) | (simp [bne_nil, *]; done)), H', ⟨by have := HK1.out; omega⟩, ⟨by refine bY ?_; exact BK101.out⟩, ⟨by repeat (first | (with_reducible first | exact HB.out | apply below_alloc | apply pw_below_drewN | apply below_drew1 | refine below_set ?_ GE101.out) | exact HB.out)⟩⟩
      ·rw [if_neg c11] at H
       exact absurd H (by simp)
     ·rw [if_neg c9] at H
      exact absurd H (by simp)
    ·rw [if_neg c8] at H
     exact absurd H (by simp)
   ·rw [if_neg c7] at H
    have c7b0 : decide (x14_1 < (l0_1.length : Int)) = false := decide_eq_false c7
    clear c7
    by_cases c14 : (l0_1.length : Int) = a1
    ·rw [if_pos c14] at H
     have c14b0 : ((l0_1.length : Int) == a1) = true := beq_iff_eq.mpr c14
     have c14b1 : ((l0_1.length : Int) != a1) = false := bne_eq_false_iff_eq.mpr c14
     clear c14
     obtain rfl := Option.some.inj H
     obtain ⟨hcz15_0, hcz15_1, hcz15_2, hfz15_0, hfz15_1, hfz15_2⟩ := rows3 (w := wr) BK101
     go_wp2
     go_ret
     exact ⟨by first | rfl | (simp [errW_none, errW_some] <;> rfl) | (simp [*, errW_none, errW_some] <;> rfl), by repeat (first | (with_reducible first | exact HB.out | apply below_alloc | apply pw_below_drewN | apply below_drew1 | refine below_set ?_ GE101.out) | exact HB.out)⟩
    ·rw [if_neg c14] at H
     have c14b0 : ((l0_1.length : Int) == a1) = false := beq_eq_false_iff_ne.mpr c14
     have c14b1 : ((l0_1.length : Int) != a1) = true := bne_iff_ne.mpr c14
     obtain rfl := Option.some.inj H
     obtain ⟨hcz16_0, hcz16_1, hcz16_2, hfz16_0, hfz16_1, hfz16_2⟩ := rows3 (w := wr) BK101
     go_wp2
     go_ret
     exact ⟨by first | rfl | (simp [errW_none, errW_some] <;> rfl) | (simp [*, errW_none, errW_some] <;> rfl), by repeat (first | (with_reducible first | exact HB.out | apply below_alloc | apply pw_below_drewN | apply below_drew1 | refine below_set ?_ GE101.out) | exact HB.out)⟩

/-! ### spec_Padded: function 84 -/
def spec_Padded.l0 : Nat → Int → ByteArray → Option (ByteArray)
 | 0, _, _ => none
 | k + 1, x2, x7 => if (x7.size : Int) < x2 then (if 1 + x7.size ≤ 9223372036854775807 then (spec_Padded.l0 k x2 ((⟨#[48]⟩ : ByteArray) ++ x7)) else (none)) else (some x7)
def spec_Padded.f (k : Nat) (a0 : Int) (a1 : Int) (a2 : Int) : Option (ByteArray) := (spec_Digits.f k a0 a1).bind fun t103 => (spec_Padded.l0 k a2 t103)
theorem spec_Padded.mono_l : ∀ k, (∀ y0 y1, LeO (spec_Padded.l0 k y0 y1) (spec_Padded.l0 (k + 1) y0 y1))
 | 0 => fun _ _ r h => by simp [spec_Padded.l0] at h
 | k + 1 => by
  have ih0 := spec_Padded.mono_l k
  ·intro y0 y1
   unfold spec_Padded.l0
   repeat' first
   | (with_reducible exact ih0 _ _)
   | (with_reducible exact spec_Digits.mono _ _ _)
   | (with_reducible exact LeO.refl _)
   | (with_reducible exact LeO.none _)
   | (with_reducible refine LeO.ite ?_ ?_)
   | (with_reducible refine LeO.bind ?_ (fun _ => ?_))
   | exact ih0 _ _
   | exact spec_Digits.mono _ _ _
   | exact LeO.none _
   | refine LeO.ite ?_ ?_
   | refine LeO.bind ?_ (fun _ => ?_)
theorem spec_Padded.mono : ∀ a0 a1 a2 k, LeO (spec_Padded.f k a0 a1 a2) (spec_Padded.f (k + 1) a0 a1 a2) := by
 intro a0 a1 a2 k
 have ih0 := spec_Padded.mono_l k
 unfold spec_Padded.f
 repeat' first
   | (with_reducible exact ih0 _ _)
   | (with_reducible exact spec_Digits.mono _ _ _)
   | (with_reducible exact LeO.refl _)
   | (with_reducible exact LeO.none _)
   | (with_reducible refine LeO.ite ?_ ?_)
   | (with_reducible refine LeO.bind ?_ (fun _ => ?_))
   | exact ih0 _ _
   | exact spec_Digits.mono _ _ _
   | exact LeO.none _
   | refine LeO.ite ?_ ?_
   | refine LeO.bind ?_ (fun _ => ?_)
set_option maxHeartbeats 8000000 in
set_option maxRecDepth 100000 in
theorem spec_Padded.calls (k : Nat) (a0 : Int) (a1 : Int) (a2 : Int) (r : ByteArray) (w : World) (h : spec_Padded.f k a0 a1 a2 = some r) :
  Calls Tryz.prog 84 #[.int .u64 a0, .int .u64 a1, .int .i64 a2] w fun e w' => e = .returned (.string r) ∧ Below w.heap.size w w' := by
 have HB := Aside0.mk (Below.refl w.heap.size w)
 have H : ((spec_Digits.f k a0 a1).bind fun t103 => (spec_Padded.l0 k a2 t103)) = some r := h
 clear h
 replace H := Option.bind_eq_some_iff.mp H
 obtain ⟨t103, A40, H⟩ := H
 have A4 := Aside0.mk A40
 clear A40
 have H' := Aside0.mk H
 clear H
 go_enter Tryz.func84, Tryz.ntmps84
 go_wp2_with (first | ((with_reducible refine gate_callee (f := 117) rfl ?_); refine goesL_ (some 10) rfl rfl Tryz.func117 (by kernel_rfl) rfl #[.int .u64 a0, .int .u64 a1] rfl (by (try simp only [List.map_toArray, List.map_cons, List.map_nil]); first | done | rfl | (simp only [List.length_drop, List.length_take]; rfl)) ?_; (with_reducible refine (spec_Digits.calls k a0 a1 t103 _ A4.out).mono ?_); rintro e w5 ⟨rfl, hb⟩; refine ⟨_, rfl, ?_⟩; have n0_ := Aside0.mk (below_step belH hb); clear HB; have HB := n0_; clear n0_; (try clear hb); (try clear hb2); (try clear hk); (try clear hi)))
 go_loopg [7] k (fun kq v7 w' => ∃ (x7_1 : ByteArray), v7 = .string x7_1 ∧ Aside0 (spec_Padded.l0 kq a2 x7_1 = some r) ∧ Aside0 (kq ≤ k) ∧ Aside0 (Below w.heap.size w w'))
 case atStart => exact ⟨(t103), (by first | rfl | (simp; done) | (simp [*]; done) | (simp [bne_nil]; done) | (simp [bne_nil, *]; done)), H', ⟨Nat.le_refl _⟩, ⟨by repeat (first | (with_reducible first | exact HB.out | apply below_alloc | apply pw_below_drewN | apply below_drew1) | exact HB.out)⟩⟩
 case round =>
  clear H'
  try clear c1
  try clear p2
  obtain ⟨x7_1, rfl, HA, HK1, HB⟩ := hrel
  cases gk with
  | zero => exact absurd HA.out (by simp [spec_Padded.l0])
  | succ k1 =>
   have H := HA.out
   clear HA
   simp only [spec_Padded.l0] at H
   by_cases c6 : (x7_1.size : Int) < a2
   ·rw [if_pos c6] at H
    have c6b0 : decide ((x7_1.size : Int) < a2) = true := decide_eq_true c6
    clear c6
    by_cases c7 : 1 + x7_1.size ≤ 9223372036854775807
    ·rw [if_pos c7] at H
     have c7b0 := eq_true c7
     have c7b1 : decide (1 + x7_1.size ≤ 9223372036854775807) = true := decide_eq_true c7
     try have c7b2 : (9223372036854775807 < 1 + x7_1.size) = False := eq_false (Nat.not_lt.2 c7)
     have H' := Aside0.mk H
     clear H
     go_wp2
     go_roundg k1
     case measure => have := HK1.out; omega
     case rel => exact ⟨((⟨#[48]⟩ : ByteArray) ++ x7_1), (by first | rfl | (simp; done) | (simp [*]; done) | (simp [bne_nil]; done) | (simp [bne_nil, *]; done)), H', ⟨by have := HK1.out; omega⟩, ⟨by repeat (first | (with_reducible first | exact HB.out | apply below_alloc | apply pw_below_drewN | apply below_drew1) | exact HB.out)⟩⟩
    ·rw [if_neg c7] at H
     exact absurd H (by simp)
   ·rw [if_neg c6] at H
    have c6b0 : decide ((x7_1.size : Int) < a2) = false := decide_eq_false c6
    clear c6
    obtain rfl := Option.some.inj H
    go_wp2
    go_ret
    exact ⟨by first | rfl | (simp [errW_none, errW_some] <;> rfl) | (simp [*, errW_none, errW_some] <;> rfl), by repeat (first | (with_reducible first | exact HB.out | apply below_alloc | apply pw_below_drewN | apply below_drew1) | exact HB.out)⟩

/-! ### spec_told: function 82 -/
def spec_told.f (a0 : Bool) : Option (Int) := if a0 = true then (some 1) else (some 2)
set_option maxHeartbeats 8000000 in
set_option maxRecDepth 100000 in
theorem spec_told.calls (a0 : Bool) (r : Int) (w : World) (h : spec_told.f a0 = some r) :
  Calls Tryz.prog 82 #[.bool a0] w fun e w' => e = .returned (.int .i64 r) ∧ Drawn0 w w' := by
 have H : (if a0 = true then (some 1) else (some 2)) = some r := h
 clear h
 by_cases c2 : a0 = true
 ·subst c2
  have H1 : (some 1) = some r := by rw [if_pos rfl] at H; exact H
  clear H
  have H := H1
  clear H1
  obtain rfl := Option.some.inj H
  go_enter Tryz.func82, Tryz.ntmps82
  go_wp2
  go_ret
  exact ⟨by first | rfl | (simp; done) | (simp [*]; done) | (simp [bne_nil]; done) | (simp [bne_nil, *]; done), by repeat (first | exact Drawn0.refl _ | apply Drawn0.step)⟩
 ·replace c2 := Bool.eq_false_iff.mpr c2
  subst c2
  have H1 : (some 2) = some r := by rw [if_neg (show ¬ (false = true) by decide)] at H; exact H
  clear H
  have H := H1
  clear H1
  obtain rfl := Option.some.inj H
  go_enter Tryz.func82, Tryz.ntmps82
  go_wp2
  go_ret
  exact ⟨by first | rfl | (simp; done) | (simp [*]; done) | (simp [bne_nil]; done) | (simp [bne_nil, *]; done), by repeat (first | exact Drawn0.refl _ | apply Drawn0.step)⟩

/-! ### spec_Begins: function 73 -/
def spec_Begins.f (a0 : ByteArray) (a1 : ByteArray) : Option (Bool) := if (a0.size : Int) ≥ (a1.size : Int) then (if 0 ≤ (a1.size : Int) then (if (a1.size : Int) ≤ (a0.size : Int) then (some ((a0.extract 0 ((a1.size : Int) : Int).toNat).toList == a1.toList)) else (none)) else (none)) else (some false)
set_option maxHeartbeats 8000000 in
set_option maxRecDepth 100000 in
theorem spec_Begins.calls (a0 : ByteArray) (a1 : ByteArray) (r : Bool) (w : World) (h : spec_Begins.f a0 a1 = some r) :
  Calls Tryz.prog 73 #[.string a0, .string a1] w fun e w' => e = .returned (.bool r) ∧ Drawn0 w w' := by
 have H : (if (a0.size : Int) ≥ (a1.size : Int) then (if 0 ≤ (a1.size : Int) then (if (a1.size : Int) ≤ (a0.size : Int) then (some ((a0.extract 0 ((a1.size : Int) : Int).toNat).toList == a1.toList)) else (none)) else (none)) else (some false)) = some r := h
 clear h
 by_cases c3 : (a0.size : Int) ≥ (a1.size : Int)
 ·rw [if_pos c3] at H
  have c3b0 : decide ((a1.size : Int) ≤ (a0.size : Int)) = true := decide_eq_true c3
  have c3b1 : decide (a1.size ≤ a0.size) = true := decide_eq_true (Int.ofNat_le.mp c3)
  clear c3
  by_cases c4 : 0 ≤ (a1.size : Int)
  ·rw [if_pos c4] at H
   have c4b0 := eq_true c4
   have c4b1 : decide (0 ≤ (a1.size : Int)) = true := decide_eq_true c4
   clear c4
   by_cases c5 : (a1.size : Int) ≤ (a0.size : Int)
   ·rw [if_pos c5] at H
    have c5b0 := eq_true c5
    have c5b1 : decide ((a1.size : Int) ≤ (a0.size : Int)) = true := decide_eq_true c5
    clear c5
    obtain rfl := Option.some.inj H
    go_enter Tryz.func73, Tryz.ntmps73
    go_wp2
    go_ret
    exact ⟨by first | rfl | (simp; done) | (simp [*]; done) | (simp [bne_nil]; done) | (simp [bne_nil, *]; done), by repeat (first | exact Drawn0.refl _ | apply Drawn0.step)⟩
   ·rw [if_neg c5] at H
    exact absurd H (by simp)
  ·rw [if_neg c4] at H
   exact absurd H (by simp)
 ·rw [if_neg c3] at H
  have c3b0 : decide ((a1.size : Int) ≤ (a0.size : Int)) = false := decide_eq_false c3
  have c3b1 : decide (a1.size ≤ a0.size) = false := decide_eq_false (fun h => c3 (Int.ofNat_le.mpr h))
  clear c3
  obtain rfl := Option.some.inj H
  go_enter Tryz.func73, Tryz.ntmps73
  go_wp2
  go_ret
  exact ⟨by first | rfl | (simp; done) | (simp [*]; done) | (simp [bne_nil]; done) | (simp [bne_nil, *]; done), by repeat (first | exact Drawn0.refl _ | apply Drawn0.step)⟩

/-- THE ONE PURE STATEMENT of spec_Begins: yours. -/
def spec_Begins.Pure : Prop := ∀ (a0 : ByteArray) (a1 : ByteArray), a0.size ≤ 140737488351232 → a1.size ≤ 140737488351232 → spec_Begins.f a0 a1 = some true
theorem spec_Begins.walk (P : spec_Begins.Pure) (a0 : ByteArray) (a1 : ByteArray) (w : World) (w0 : a0.size ≤ 140737488351232) (w1 : a1.size ≤ 140737488351232) :
  Calls Tryz.prog 73 #[.string a0, .string a1] w fun e w' => e = .returned (.bool true) ∧ Below w.heap.size w w' := by
 have h := P a0 a1 w0 w1
 refine (spec_Begins.calls a0 a1 true w h).mono ?_
 rintro e w' ⟨rfl, hd⟩
 exact ⟨rfl, hd.below⟩

/-! ### spec_Left: function 100 -/
def spec_Left.l0 : Nat → ByteArray → Int → Option (ByteArray)
 | 0, _, _ => none
 | k + 1, x0, x1 => if (x0.size : Int) < x1 then (if x0.size + 1 ≤ 9223372036854775807 then (spec_Left.l0 k (x0 ++ (⟨#[32]⟩ : ByteArray)) x1) else (none)) else (some x0)
def spec_Left.f (k : Nat) (a0 : ByteArray) (a1 : Int) : Option (ByteArray) := spec_Left.l0 k a0 a1
theorem spec_Left.mono_l : ∀ k, (∀ y0 y1, LeO (spec_Left.l0 k y0 y1) (spec_Left.l0 (k + 1) y0 y1))
 | 0 => fun _ _ r h => by simp [spec_Left.l0] at h
 | k + 1 => by
  have ih0 := spec_Left.mono_l k
  ·intro y0 y1
   unfold spec_Left.l0
   repeat' first
   | (with_reducible exact ih0 _ _)
   | (with_reducible exact LeO.refl _)
   | (with_reducible exact LeO.none _)
   | (with_reducible refine LeO.ite ?_ ?_)
   | (with_reducible refine LeO.bind ?_ (fun _ => ?_))
   | exact ih0 _ _
   | exact LeO.none _
   | refine LeO.ite ?_ ?_
   | refine LeO.bind ?_ (fun _ => ?_)
theorem spec_Left.mono : ∀ a0 a1 k, LeO (spec_Left.f k a0 a1) (spec_Left.f (k + 1) a0 a1) := by
 intro a0 a1 k
 have ih0 := spec_Left.mono_l k
 unfold spec_Left.f
 repeat' first
   | (with_reducible exact ih0 _ _)
   | (with_reducible exact LeO.refl _)
   | (with_reducible exact LeO.none _)
   | (with_reducible refine LeO.ite ?_ ?_)
   | (with_reducible refine LeO.bind ?_ (fun _ => ?_))
   | exact ih0 _ _
   | exact LeO.none _
   | refine LeO.ite ?_ ?_
   | refine LeO.bind ?_ (fun _ => ?_)
set_option maxHeartbeats 8000000 in
set_option maxRecDepth 100000 in
theorem spec_Left.calls (k : Nat) (a0 : ByteArray) (a1 : Int) (r : ByteArray) (w : World) (h : spec_Left.f k a0 a1 = some r) :
  Calls Tryz.prog 100 #[.string a0, .int .i64 a1] w fun e w' => e = .returned (.string r) ∧ Drawn0 w w' := by
 have H : (spec_Left.l0 k a0 a1) = some r := h
 clear h
 have H' := Aside0.mk H
 clear H
 go_enter Tryz.func100, Tryz.ntmps100
 go_wp2
 go_loopg [0] k (fun kq v0 w' => ∃ (x0_1 : ByteArray), v0 = .string x0_1 ∧ Aside0 (spec_Left.l0 kq x0_1 a1 = some r) ∧ Aside0 (kq ≤ k) ∧ Drawn0 w w')
 case atStart => exact ⟨(a0), (by first | rfl | (simp; done) | (simp [*]; done) | (simp [bne_nil]; done) | (simp [bne_nil, *]; done)), H', ⟨Nat.le_refl _⟩, by repeat (first | exact Drawn0.refl _ | apply Drawn0.step)⟩
 case round =>
  clear H'
  try clear c1
  try clear p2
  obtain ⟨x0_1, rfl, HA, HK1, ⟨m1, rfl⟩⟩ := hrel
  cases gk with
  | zero => exact absurd HA.out (by simp [spec_Left.l0])
  | succ k1 =>
   have H := HA.out
   clear HA
   simp only [spec_Left.l0] at H
   by_cases c3 : (x0_1.size : Int) < a1
   ·rw [if_pos c3] at H
    have c3b0 : decide ((x0_1.size : Int) < a1) = true := decide_eq_true c3
    clear c3
    by_cases c4 : x0_1.size + 1 ≤ 9223372036854775807
    ·rw [if_pos c4] at H
     have c4b0 := eq_true c4
     have c4b1 : decide (x0_1.size + 1 ≤ 9223372036854775807) = true := decide_eq_true c4
     try have c4b2 : (9223372036854775807 < x0_1.size + 1) = False := eq_false (Nat.not_lt.2 c4)
     have H' := Aside0.mk H
     clear H
     go_wp2
     go_roundg k1
     case measure => have := HK1.out; omega
     case rel => exact ⟨(x0_1 ++ (⟨#[32]⟩ : ByteArray)), (by first | rfl | (simp; done) | (simp [*]; done) | (simp [bne_nil]; done) | (simp [bne_nil, *]; done)), H', ⟨by have := HK1.out; omega⟩, by repeat (first | exact Drawn0.refl _ | apply Drawn0.step)⟩
    ·rw [if_neg c4] at H
     exact absurd H (by simp)
   ·rw [if_neg c3] at H
    have c3b0 : decide ((x0_1.size : Int) < a1) = false := decide_eq_false c3
    clear c3
    obtain rfl := Option.some.inj H
    go_wp2
    go_ret
    exact ⟨by first | rfl | (simp; done) | (simp [*]; done) | (simp [bne_nil]; done) | (simp [bne_nil, *]; done), by repeat (first | exact Drawn0.refl _ | apply Drawn0.step)⟩

end Go.Proofs.YtdmpbaanonafbaaGreatDoor.R
