import Derived.Test.YtdmpbaanonafbaaGreatDoorProg
import Derived.Below
import Derived.Deep.Draws
import Derived.Deep.AppendLies
import Derived.Maps.AppendAt
import Derived.OwnWalk
import Derived.Laws.BytesArg
import Derived.Laws.MakeOwn
import Derived.Laws.OwnMore
import Derived.Deep.OwnRows
import Derived.Tactics
import Derived.Lib.ConvBytes
import Derived.Laws.Slices
import Derived.WalkKit
import Derived.KernelRfl
import Derived.RowKit3
import Derived.Deep.LoopGhost
import Derived.Deep.QuietTactic
import Derived.BigQuiet
import Derived.WideLaws
import Derived.Deep.DeepCutAuto
import Derived.Deep.CutBlock
import Derived.Deep.RegionHeld3
import Derived.Laws.Rows
import Derived.Lib.AppendStr
import Derived.ArgAppend
import Derived.Laws.IdiomCopy
import Derived.OrdersHeld
import Derived.Laws.BitsLemmas
import Derived.RowKit
import Derived.Test.YtdmpbaanonafbaaGreatDoorSq
import Derived.Test.YtdmpbaanonafbaaGreatDoorFlt
import Derived.Test.YtdmpbaanonafbaaGreatDoorGivZ
import Derived.Test.YtdmpbaanonafbaaGreatDoorE0
import Derived.Test.YtdmpbaanonafbaaGreatDoorL3
import Derived.Test.YtdmpbaanonafbaaGreatDoorL1
import Derived.Test.YtdmpbaanonafbaaGreatDoorL2
import Derived.Test.YtdmpbaanonafbaaGreatDoorWWords
import Derived.Test.YtdmpbaanonafbaaGreatDoorWLast
import Derived.Test.YtdmpbaanonafbaaGreatDoorWTab
import Derived.Test.YtdmpbaanonafbaaGreatDoorWApart
import Derived.Test.YtdmpbaanonafbaaGreatDoorWArr
import Derived.Test.YtdmpbaanonafbaaGreatDoorWZeros
import Derived.Test.YtdmpbaanonafbaaGreatDoorWFoot
import Derived.Test.YtdmpbaanonafbaaGreatDoorWKept
import Derived.Test.YtdmpbaanonafbaaGreatDoorWShare
import Derived.Test.YtdmpbaanonafbaaGreatDoorWN
import Derived.Test.YtdmpbaanonafbaaGreatDoorWRepsOne
import Derived.Test.YtdmpbaanonafbaaGreatDoorWGuard
import Derived.Test.YtdmpbaanonafbaaGreatDoorWMore
-- written by a program of this session (wip/tools/pp.py)
namespace Go.Proofs.YtdmpbaanonafbaaGreatDoor.R
open Go.RowKit Go.Proofs.YtdmpbaanonafbaaGreatDoorW.PrintWords Go.Proofs.YtdmpbaanonafbaaGreatDoorW.PrintLast Go.Proofs.YtdmpbaanonafbaaGreatDoor.Flt Go.Proofs.YtdmpbaanonafbaaGreatDoor.GivZ Go.Proofs.YtdmpbaanonafbaaGreatDoor.E Go.Proofs.YtdmpbaanonafbaaGreatDoor.L Go.Proofs.YtdmpbaanonafbaaGreatDoorW.PrintMore
attribute [local go_sem] max2_int min2_int max_two min_two max_three min_three max_four min_four   -- for this text's walks alone
set_option linter.unusedVariables false
set_option linter.unusedSimpArgs false




theorem info9 : (Tryz.prog.info? 9).map (fun i => (i.zero, i.size, i.bytes)) = some (some (.string ⟨#[]⟩), 1, 16) := by kernel_rfl
-- the values' own types

end Go.Proofs.YtdmpbaanonafbaaGreatDoor.R

-- written by a program of this session (wip/tools/pp.py)
namespace Go.Proofs.YtdmpbaanonafbaaGreatDoor.R
open Go.RowKit Go.Proofs.YtdmpbaanonafbaaGreatDoorW.PrintWords Go.Proofs.YtdmpbaanonafbaaGreatDoorW.PrintLast Go.Proofs.YtdmpbaanonafbaaGreatDoor.Flt Go.Proofs.YtdmpbaanonafbaaGreatDoor.GivZ Go.Proofs.YtdmpbaanonafbaaGreatDoor.E Go.Proofs.YtdmpbaanonafbaaGreatDoor.L Go.Proofs.YtdmpbaanonafbaaGreatDoorW.PrintMore
attribute [local go_sem] max2_int min2_int max_two min_two max_three min_three max_four min_four   -- for this text's walks alone
set_option linter.unusedVariables false
set_option linter.unusedSimpArgs false

/-! ### spec_Word: function 107 -/
/-! ### spec_small: function 46 -/
/-! ### spec_Parts: function 41 -/
/-! ### spec_Where: function 58 -/
end Go.Proofs.YtdmpbaanonafbaaGreatDoor.R

-- written by a program of this session (wip/tools/pp.py)
namespace Go.Proofs.YtdmpbaanonafbaaGreatDoor.R
open Go.RowKit Go.Proofs.YtdmpbaanonafbaaGreatDoorW.PrintWords Go.Proofs.YtdmpbaanonafbaaGreatDoorW.PrintLast Go.Proofs.YtdmpbaanonafbaaGreatDoor.Flt Go.Proofs.YtdmpbaanonafbaaGreatDoor.GivZ Go.Proofs.YtdmpbaanonafbaaGreatDoor.E Go.Proofs.YtdmpbaanonafbaaGreatDoor.L Go.Proofs.YtdmpbaanonafbaaGreatDoorW.PrintMore
attribute [local go_sem] max2_int min2_int max_two min_two max_three min_three max_four min_four   -- for this text's walks alone
set_option linter.unusedVariables false
set_option linter.unusedSimpArgs false

/-! ### spec_ifName: function 150 -/
end Go.Proofs.YtdmpbaanonafbaaGreatDoor.R

-- written by a program of this session (wip/tools/pp.py)
namespace Go.Proofs.YtdmpbaanonafbaaGreatDoor.R
open Go.RowKit Go.Proofs.YtdmpbaanonafbaaGreatDoorW.PrintWords Go.Proofs.YtdmpbaanonafbaaGreatDoorW.PrintLast Go.Proofs.YtdmpbaanonafbaaGreatDoor.Flt Go.Proofs.YtdmpbaanonafbaaGreatDoor.GivZ Go.Proofs.YtdmpbaanonafbaaGreatDoor.E Go.Proofs.YtdmpbaanonafbaaGreatDoor.L Go.Proofs.YtdmpbaanonafbaaGreatDoorW.PrintMore
attribute [local go_sem] max2_int min2_int max_two min_two max_three min_three max_four min_four   -- for this text's walks alone
set_option linter.unusedVariables false
set_option linter.unusedSimpArgs false

/-! ### spec_counted: function 144 -/
def spec_counted.l0 : Nat → Int → Int → Int → List Int → Int → Int → ByteArray → List Int → List ByteArray → Option (Bool)
 | 0, _, _, _, _, _, _, _, _, _ => none
 | k + 1, x1, x2, x3, x12, x13, x14, x102000, x102001, x102002 => if x14 < x13 then (if 0 ≤ x14 then (if x14 < (x12.length : Int) then (if 0 ≤ (wrap64 (x2 - 1)) then (if (rd x12 x14) > (IntKind.u64.wrap ((IntKind.u64.wrap ((shl .u64 1 (wrap64 (x2 - 1))) * 2)) - 1)) then (some false) else (spec_counted.l0 k x1 x2 x3 x12 x13 (wrap64 (x14 + 1)) x102000 x102001 x102002)) else (none)) else (none)) else (none)) else (if (x102001.length : Int) = x1 then (some ((x102002.length : Int) == x3)) else (some false))
def spec_counted.f (k : Nat) (a0_0 : ByteArray) (l0_1 : List Int) (l0_2 : List ByteArray) (a1 : Int) (a2 : Int) (a3 : Int) : Option (Bool) := spec_counted.l0 k a1 a2 a3 l0_1 (l0_1.length : Int) 0 a0_0 l0_1 l0_2
theorem spec_counted.mono_l : ∀ k, (∀ y0 y1 y2 y3 y4 y5 y6 y7 y8, LeO (spec_counted.l0 k y0 y1 y2 y3 y4 y5 y6 y7 y8) (spec_counted.l0 (k + 1) y0 y1 y2 y3 y4 y5 y6 y7 y8))
 | 0 => fun _ _ _ _ _ _ _ _ _ r h => by simp [spec_counted.l0] at h
 | k + 1 => by
  have ih0 := spec_counted.mono_l k
  ·intro y0 y1 y2 y3 y4 y5 y6 y7 y8
   unfold spec_counted.l0
   repeat' first
   | (with_reducible exact ih0 _ _ _ _ _ _ _ _ _)
   | (with_reducible exact LeO.refl _)
   | (with_reducible exact LeO.none _)
   | (with_reducible refine LeO.ite ?_ ?_)
   | (with_reducible refine LeO.bind ?_ (fun _ => ?_))
   | exact ih0 _ _ _ _ _ _ _ _ _
   | exact LeO.none _
   | refine LeO.ite ?_ ?_
   | refine LeO.bind ?_ (fun _ => ?_)
theorem spec_counted.mono : ∀ a0 a1 a2 a3 a4 a5 k, LeO (spec_counted.f k a0 a1 a2 a3 a4 a5) (spec_counted.f (k + 1) a0 a1 a2 a3 a4 a5) := by
 intro a0 a1 a2 a3 a4 a5 k
 have ih0 := spec_counted.mono_l k
 unfold spec_counted.f
 repeat' first
   | (with_reducible exact ih0 _ _ _ _ _ _ _ _ _)
   | (with_reducible exact LeO.refl _)
   | (with_reducible exact LeO.none _)
   | (with_reducible refine LeO.ite ?_ ?_)
   | (with_reducible refine LeO.bind ?_ (fun _ => ?_))
   | exact ih0 _ _ _ _ _ _ _ _ _
   | exact LeO.none _
   | refine LeO.ite ?_ ?_
   | refine LeO.bind ?_ (fun _ => ?_)
set_option maxHeartbeats 8000000 in
set_option maxRecDepth 100000 in
theorem spec_counted.calls (k : Nat) (a0_0 : ByteArray) (A0_1 : Option Addr) (c0_1 : Nat) (l0_1 : List Int) (A0_2 : Option Addr) (c0_2 : Nat) (l0_2 : List ByteArray) (a1 : Int) (a2 : Int) (a3 : Int) (r : Bool) (w : World) (hr0_1 : Kd.C (Kd.int .u64) w A0_1 l0_1.length l0_1) (hc0_1 : l0_1.length ≤ c0_1) (hr0_2 : Kd.C Kd.string w A0_2 l0_2.length l0_2) (hc0_2 : l0_2.length ≤ c0_2) (h : spec_counted.f k a0_0 l0_1 l0_2 a1 a2 a3 = some r) :
  Calls Tryz.prog 144 #[.agg #[.string a0_0, .slice A0_1 l0_1.length c0_1, .slice A0_2 l0_2.length c0_2], .int .i64 a1, .int .i64 a2, .int .i64 a3] w fun e w' => e = .returned (.bool r) ∧ Below w.heap.size w w' := by
 have hu48 := Tryz.underlying48
 have HR0_1 := Aside0.mk hr0_1
 have HC0_1 := Aside0.mk hc0_1
 clear hr0_1 hc0_1
 have HR0_2 := Aside0.mk hr0_2
 have HC0_2 := Aside0.mk hc0_2
 clear hr0_2 hc0_2
 have HB := Aside0.mk (Below.refl w.heap.size w)
 have H : (spec_counted.l0 k a1 a2 a3 l0_1 (l0_1.length : Int) 0 a0_0 l0_1 l0_2) = some r := h
 clear h
 have H' := Aside0.mk H
 clear H
 go_enter Tryz.func144, Tryz.ntmps144
 go_wp2_with (first | ((with_reducible refine gate_dst (N := 4) rfl ?_); (try (refine gate_guard (by rfl) ?_; dsimp only)); refine box_event ?hg (N := 4) ?hd (cs := #[.string a0_0, .slice A0_1 l0_1.length c0_1, .slice A0_2 l0_2.length c0_2]) (t := 48) ?hr ?_; (case hd => rfl); (case hg => rfl); (case hr => first | (go_simp; done) | (go_simp; rfl)); intro gb101 hg w5 hbox hb; have n0_ := Aside0.mk (below_step belH hb); have n1_ := Aside0.mk (hbox); have n2_ := Aside0.mk ((by rw [hg]; exact (below_size belH) : w.heap.size ≤ gb101)); have n3_ := Aside0.mk ((by rw [hg]; exact (below_size belH) : w.heap.size ≤ gb101)); clear HB; have HB := n0_; have BK101 := n1_; have GW101 := n2_; have GE101 := n3_; clear n0_ n1_ n2_ n3_; clear hb hbox hg; obtain ⟨hcz6_0, hcz6_1, hcz6_2, hfz6_0, hfz6_1, hfz6_2⟩ := rows3 (w := w5) BK101))
 go_loopg [14] k (fun kq v14 w' => ∃ (x14_1 : Int), v14 = .int .i64 x14_1 ∧ Aside0 (spec_counted.l0 kq a1 a2 a3 l0_1 (l0_1.length : Int) x14_1 a0_0 l0_1 l0_2 = some r) ∧ Aside0 (kq ≤ k) ∧ Aside0 (w'.heap[gb101]? = some (.cells #[.string a0_0, (.slice A0_1 l0_1.length c0_1), (.slice A0_2 l0_2.length c0_2)] 48 (0, 0))) ∧ Aside0 (Below w.heap.size w w'))
 case atStart => exact ⟨(0), (by first | rfl | (simp; done) | (simp [*]; done) | (simp [bne_nil]; done) | (simp [bne_nil, *]; done)), H', ⟨Nat.le_refl _⟩, ⟨by refine bY ?_; exact BK101.out⟩, ⟨by repeat (first | (with_reducible first | exact HB.out | apply below_alloc | apply pw_below_drewN | apply below_drew1 | refine below_set ?_ GE101.out) | exact HB.out)⟩⟩
 case round =>
  clear H'
  try clear c1
  try clear p2
  try clear hcz6_0
  try clear hcz6_1
  try clear hcz6_2
  try clear hfz6_0
  try clear hfz6_1
  try clear hfz6_2
  obtain ⟨x14_1, rfl, HA, HK1, BK101, HB⟩ := hrel
  cases gk with
  | zero => exact absurd HA.out (by simp [spec_counted.l0])
  | succ k1 =>
   have H := HA.out
   clear HA
   simp only [spec_counted.l0] at H
   by_cases c7 : x14_1 < (l0_1.length : Int)
   ·rw [if_pos c7] at H
    have c7b0 : decide (x14_1 < (l0_1.length : Int)) = true := decide_eq_true c7
    clear c7
    by_cases c8 : 0 ≤ x14_1
    ·rw [if_pos c8] at H
     have c8b0 : decide (0 ≤ x14_1) = true := decide_eq_true c8
     clear c8
     by_cases c9 : x14_1 < (l0_1.length : Int)
     ·rw [if_pos c9] at H
      have c9b0 : decide (x14_1 < (l0_1.length : Int)) = true := decide_eq_true c9
      clear c9
      obtain ⟨ji10, hji10⟩ : ∃ j_ : Int, (wrap64 (a2 - 1)) = j_ := ⟨_, rfl⟩
      replace H : (if 0 ≤ (ji10) then (if (rd l0_1 x14_1) > (IntKind.u64.wrap ((IntKind.u64.wrap ((shl .u64 1 (ji10)) * 2)) - 1)) then (some false) else (spec_counted.l0 k1 a1 a2 a3 l0_1 (l0_1.length : Int) (wrap64 (x14_1 + 1)) a0_0 l0_1 l0_2)) else (none)) = some r := by first | (rw [hji10] at H; exact H) | (simp only [hji10] at H ⊢; exact H)
      have hji10w : (IntKind.i64.wrap (a2 - 1)) = ji10 := (i64_w _).trans hji10
      by_cases c11 : 0 ≤ (ji10)
      ·rw [if_pos c11] at H
       have c11b0 := eq_true c11
       have c11b1 : decide (0 ≤ (ji10)) = true := decide_eq_true c11
       clear c11
       obtain ⟨ji12, hji12⟩ : ∃ j_ : Int, (shl .u64 1 (ji10)) = j_ := ⟨_, rfl⟩
       replace H : (if (rd l0_1 x14_1) > (IntKind.u64.wrap ((IntKind.u64.wrap ((ji12) * 2)) - 1)) then (some false) else (spec_counted.l0 k1 a1 a2 a3 l0_1 (l0_1.length : Int) (wrap64 (x14_1 + 1)) a0_0 l0_1 l0_2)) = some r := by first | (rw [hji12] at H; exact H) | (simp only [hji12] at H ⊢; exact H)
       have hji12_ : (IntKind.u64.wrap (1 * 2 ^ min (ji10).toNat 64)) = ji12 := hji12
       have hji12z : (ji10) ≤ 64 → (IntKind.u64.wrap (1 * 2 ^ (ji10).toNat)) = ji12 := shl_small hji12
       have hji12u : (IntKind.u64.wrap (2 ^ min (ji10).toNat 64)) = ji12 := by have h_ := hji12_; rw [Int.one_mul] at h_; exact h_
       have hji12v : (ji10) ≤ 64 → (IntKind.u64.wrap (2 ^ (ji10).toNat)) = ji12 := fun hle_ => by have h_ := hji12z hle_; rw [Int.one_mul] at h_; exact h_
       by_cases c13 : (rd l0_1 x14_1) > (IntKind.u64.wrap ((IntKind.u64.wrap ((ji12) * 2)) - 1))
       ·rw [if_pos c13] at H
        have c13b0 : decide ((IntKind.u64.wrap ((IntKind.u64.wrap ((ji12) * 2)) - 1)) < (rd l0_1 x14_1)) = true := decide_eq_true c13
        clear c13
        obtain rfl := Option.some.inj H
        have p102 : 0 ≤ (x14_1 : Int) := of_decide_eq_true (by first | (with_reducible assumption) | assumption)
        have q102 : x14_1 < (l0_1.length : Int) := of_decide_eq_true (by first | (with_reducible assumption) | assumption)
        obtain ⟨ad102, e102, hx102_0⟩ := Kd.at_int HR0_1.out x14_1 p102 q102
        cases e102
        replace hx102_0 := (HB.out.cell (World.block_lt_of_cell? w _ hx102_0)).trans hx102_0
        replace p102 := eq_true p102
        replace q102 := eq_true q102
        go_wp2
        go_ret
        exact ⟨by first | rfl | (simp [errW_none, errW_some] <;> rfl) | (simp only [← hji10, ← hji12]; first | rfl | (simp [errW_none, errW_some] <;> rfl)) | (simp [*, errW_none, errW_some] <;> rfl), by repeat (first | (with_reducible first | exact HB.out | apply below_alloc | apply pw_below_drewN | apply below_drew1 | refine below_set ?_ GE101.out) | exact HB.out)⟩
       ·rw [if_neg c13] at H
        have c13b0 : decide ((IntKind.u64.wrap ((IntKind.u64.wrap ((ji12) * 2)) - 1)) < (rd l0_1 x14_1)) = false := decide_eq_false c13
        clear c13
        have H' := Aside0.mk H
        clear H
        have p102 : 0 ≤ (x14_1 : Int) := of_decide_eq_true (by first | (with_reducible assumption) | assumption)
        have q102 : x14_1 < (l0_1.length : Int) := of_decide_eq_true (by first | (with_reducible assumption) | assumption)
        obtain ⟨ad102, e102, hx102_0⟩ := Kd.at_int HR0_1.out x14_1 p102 q102
        cases e102
        replace hx102_0 := (HB.out.cell (World.block_lt_of_cell? w _ hx102_0)).trans hx102_0
        replace p102 := eq_true p102
        replace q102 := eq_true q102
        go_wp2
        go_roundg k1
        case measure => have := HK1.out; omega
        case rel => exact ⟨(wrap64 (x14_1 + 1)), (by first | rfl | (simp; done) | (simp [*]; done) | (simp [bne_nil]; done) | (simp [bne_nil, *]; done)), H', ⟨by have := HK1.out; omega⟩, ⟨by refine bY ?_; exact BK101.out⟩, ⟨by repeat (first | (with_reducible first | exact HB.out | apply below_alloc | apply pw_below_drewN | apply below_drew1 | refine below_set ?_ GE101.out) | exact HB.out)⟩⟩
      ·rw [if_neg c11] at H
       exact absurd H (by simp)
     ·rw [if_neg c9] at H
      exact absurd H (by simp)
    ·rw [if_neg c8] at H
     exact absurd H (by simp)
   ·rw [if_neg c7] at H
    have c7b0 : decide (x14_1 < (l0_1.length : Int)) = false := decide_eq_false c7
    clear c7
    by_cases c14 : (l0_1.length : Int) = a1
    ·rw [if_pos c14] at H
     have c14b0 : ((l0_1.length : Int) == a1) = true := beq_iff_eq.mpr c14
     have c14b1 : ((l0_1.length : Int) != a1) = false := bne_eq_false_iff_eq.mpr c14
     clear c14
     obtain rfl := Option.some.inj H
     obtain ⟨hcz15_0, hcz15_1, hcz15_2, hfz15_0, hfz15_1, hfz15_2⟩ := rows3 (w := wr) BK101
     go_wp2
     go_ret
     exact ⟨by first | rfl | (simp [errW_none, errW_some] <;> rfl) | (simp [*, errW_none, errW_some] <;> rfl), by repeat (first | (with_reducible first | exact HB.out | apply below_alloc | apply pw_below_drewN | apply below_drew1 | refine below_set ?_ GE101.out) | exact HB.out)⟩
    ·rw [if_neg c14] at H
     have c14b0 : ((l0_1.length : Int) == a1) = false := beq_eq_false_iff_ne.mpr c14
     have c14b1 : ((l0_1.length : Int) != a1) = true := bne_iff_ne.mpr c14
     obtain rfl := Option.some.inj H
     obtain ⟨hcz16_0, hcz16_1, hcz16_2, hfz16_0, hfz16_1, hfz16_2⟩ := rows3 (w := wr) BK101
     go_wp2
     go_ret
     exact ⟨by first | rfl | (simp [errW_none, errW_some] <;> rfl) | (simp [*, errW_none, errW_some] <;> rfl), by repeat (first | (with_reducible first | exact HB.out | apply below_alloc | apply pw_below_drewN | apply below_drew1 | refine below_set ?_ GE101.out) | exact HB.out)⟩

/-! ### spec_Padded: function 84 -/
def spec_Padded.l0 : Nat → Int → ByteArray → Option (ByteArray)
 | 0, _, _ => none
 | k + 1, x2, x7 => if (x7.size : Int) < x2 then (if 1 + x7.size ≤ 9223372036854775807 then (spec_Padded.l0 k x2 ((⟨#[48]⟩ : ByteArray) ++ x7)) else (none)) else (some x7)
def spec_Padded.f (k : Nat) (a0 : Int) (a1 : Int) (a2 : Int) : Option (ByteArray) := (spec_Digits.f k a0 a1).bind fun t103 => (spec_Padded.l0 k a2 t103)
theorem spec_Padded.mono_l : ∀ k, (∀ y0 y1, LeO (spec_Padded.l0 k y0 y1) (spec_Padded.l0 (k + 1) y0 y1))
 | 0 => fun _ _ r h => by simp [spec_Padded.l0] at h
 | k + 1 => by
  have ih0 := spec_Padded.mono_l k
  ·intro y0 y1
   unfold spec_Padded.l0
   repeat' first
   | (with_reducible exact ih0 _ _)
   | (with_reducible exact spec_Digits.mono _ _ _)
   | (with_reducible exact LeO.refl _)
   | (with_reducible exact LeO.none _)
   | (with_reducible refine LeO.ite ?_ ?_)
   | (with_reducible refine LeO.bind ?_ (fun _ => ?_))
   | exact ih0 _ _
   | exact spec_Digits.mono _ _ _
   | exact LeO.none _
   | refine LeO.ite ?_ ?_
   | refine LeO.bind ?_ (fun _ => ?_)
theorem spec_Padded.mono : ∀ a0 a1 a2 k, LeO (spec_Padded.f k a0 a1 a2) (spec_Padded.f (k + 1) a0 a1 a2) := by
 intro a0 a1 a2 k
 have ih0 := spec_Padded.mono_l k
 unfold spec_Padded.f
 repeat' first
   | (with_reducible exact ih0 _ _)
   | (with_reducible exact spec_Digits.mono _ _ _)
   | (with_reducible exact LeO.refl _)
   | (with_reducible exact LeO.none _)
   | (with_reducible refine LeO.ite ?_ ?_)
   | (with_reducible refine LeO.bind ?_ (fun _ => ?_))
   | exact ih0 _ _
   | exact spec_Digits.mono _ _ _
   | exact LeO.none _
   | refine LeO.ite ?_ ?_
   | refine LeO.bind ?_ (fun _ => ?_)
set_option maxHeartbeats 8000000 in
set_option maxRecDepth 100000 in
theorem spec_Padded.calls (k : Nat) (a0 : Int) (a1 : Int) (a2 : Int) (r : ByteArray) (w : World) (h : spec_Padded.f k a0 a1 a2 = some r) :
  Calls Tryz.prog 84 #[.int .u64 a0, .int .u64 a1, .int .i64 a2] w fun e w' => e = .returned (.string r) ∧ Below w.heap.size w w' := by
 have HB := Aside0.mk (Below.refl w.heap.size w)
 have H : ((spec_Digits.f k a0 a1).bind fun t103 => (spec_Padded.l0 k a2 t103)) = some r := h
 clear h
 replace H := Option.bind_eq_some_iff.mp H
 obtain ⟨t103, A40, H⟩ := H
 have A4 := Aside0.mk A40
 clear A40
 have H' := Aside0.mk H
 clear H
 go_enter Tryz.func84, Tryz.ntmps84
 go_wp2_with (first | ((with_reducible refine gate_callee (f := 117) rfl ?_); refine goesL_ (some 10) rfl rfl Tryz.func117 (by kernel_rfl) rfl #[.int .u64 a0, .int .u64 a1] rfl (by (try simp only [List.map_toArray, List.map_cons, List.map_nil]); first | done | rfl | (simp only [List.length_drop, List.length_take]; rfl)) ?_; (with_reducible refine (spec_Digits.calls k a0 a1 t103 _ A4.out).mono ?_); rintro e w5 ⟨rfl, hb⟩; refine ⟨_, rfl, ?_⟩; have n0_ := Aside0.mk (below_step belH hb); clear HB; have HB := n0_; clear n0_; (try clear hb); (try clear hb2); (try clear hk); (try clear hi)))
 go_loopg [7] k (fun kq v7 w' => ∃ (x7_1 : ByteArray), v7 = .string x7_1 ∧ Aside0 (spec_Padded.l0 kq a2 x7_1 = some r) ∧ Aside0 (kq ≤ k) ∧ Aside0 (Below w.heap.size w w'))
 case atStart => exact ⟨(t103), (by first | rfl | (simp; done) | (simp [*]; done) | (simp [bne_nil]; done) | (simp [bne_nil, *]; done)), H', ⟨Nat.le_refl _⟩, ⟨by repeat (first | (with_reducible first | exact HB.out | apply below_alloc | apply pw_below_drewN | apply below_drew1) | exact HB.out)⟩⟩
 case round =>
  clear H'
  try clear c1
  try clear p2
  obtain ⟨x7_1, rfl, HA, HK1, HB⟩ := hrel
  cases gk with
  | zero => exact absurd HA.out (by simp [spec_Padded.l0])
  | succ k1 =>
   have H := HA.out
   clear HA
   simp only [spec_Padded.l0] at H
   by_cases c6 : (x7_1.size : Int) < a2
   ·rw [if_pos c6] at H
    have c6b0 : decide ((x7_1.size : Int) < a2) = true := decide_eq_true c6
    clear c6
    by_cases c7 : 1 + x7_1.size ≤ 9223372036854775807
    ·rw [if_pos c7] at H
     have c7b0 := eq_true c7
     have c7b1 : decide (1 + x7_1.size ≤ 9223372036854775807) = true := decide_eq_true c7
     try have c7b2 : (9223372036854775807 < 1 + x7_1.size) = False := eq_false (Nat.not_lt.2 c7)
     have H' := Aside0.mk H
     clear H
     go_wp2
     go_roundg k1
     case measure => have := HK1.out; omega
     case rel => exact ⟨((⟨#[48]⟩ : ByteArray) ++ x7_1), (by first | rfl | (simp; done) | (simp [*]; done) | (simp [bne_nil]; done) | (simp [bne_nil, *]; done)), H', ⟨by have := HK1.out; omega⟩, ⟨by repeat (first | (with_reducible first | exact HB.out | apply below_alloc | apply pw_below_drewN | apply below_drew1) | exact HB.out)⟩⟩
    ·rw [if_neg c7] at H
     exact absurd H (by simp)
   ·rw [if_neg c6] at H
    have c6b0 : decide ((x7_1.size : Int) < a2) = false := decide_eq_false c6
    clear c6
    obtain rfl := Option.some.inj H
    go_wp2
    go_ret
    exact ⟨by first | rfl | (simp [errW_none, errW_some] <;> rfl) | (simp [*, errW_none, errW_some] <;> rfl), by repeat (first | (with_reducible first | exact HB.out | apply below_alloc | apply pw_below_drewN | apply below_drew1) | exact HB.out)⟩

/-! ### spec_told: function 82 -/
def spec_told.f (a0 : Bool) : Option (Int) := if a0 = true then (some 1) else (some 2)
set_option maxHeartbeats 8000000 in
set_option maxRecDepth 100000 in
theorem spec_told.calls (a0 : Bool) (r : Int) (w : World) (h : spec_told.f a0 = some r) :
  Calls Tryz.prog 82 #[.bool a0] w fun e w' => e = .returned (.int .i64 r) ∧ Drawn0 w w' := by
 have H : (if a0 = true then (some 1) else (some 2)) = some r := h
 clear h
 by_cases c2 : a0 = true
 ·subst c2
  have H1 : (some 1) = some r := by rw [if_pos rfl] at H; exact H
  clear H
  have H := H1
  clear H1
  obtain rfl := Option.some.inj H
  go_enter Tryz.func82, Tryz.ntmps82
  go_wp2
  go_ret
  exact ⟨by first | rfl | (simp; done) | (simp [*]; done) | (simp [bne_nil]; done) | (simp [bne_nil, *]; done), by repeat (first | exact Drawn0.refl _ | apply Drawn0.step)⟩
 ·replace c2 := Bool.eq_false_iff.mpr c2
  subst c2
  have H1 : (some 2) = some r := by rw [if_neg (show ¬ (false = true) by decide)] at H; exact H
  clear H
  have H := H1
  clear H1
  obtain rfl := Option.some.inj H
  go_enter Tryz.func82, Tryz.ntmps82
  go_wp2
  go_ret
  exact ⟨by first | rfl | (simp; done) | (simp [*]; done) | (simp [bne_nil]; done) | (simp [bne_nil, *]; done), by repeat (first | exact Drawn0.refl _ | apply Drawn0.step)⟩

/-! ### spec_Begins: function 73 -/
def spec_Begins.f (a0 : ByteArray) (a1 : ByteArray) : Option (Bool) := if (a0.size : Int) ≥ (a1.size : Int) then (if 0 ≤ (a1.size : Int) then (if (a1.size : Int) ≤ (a0.size : Int) then (some ((a0.extract 0 ((a1.size : Int) : Int).toNat).toList == a1.toList)) else (none)) else (none)) else (some false)
set_option maxHeartbeats 8000000 in
set_option maxRecDepth 100000 in
theorem spec_Begins.calls (a0 : ByteArray) (a1 : ByteArray) (r : Bool) (w : World) (h : spec_Begins.f a0 a1 = some r) :
  Calls Tryz.prog 73 #[.string a0, .string a1] w fun e w' => e = .returned (.bool r) ∧ Drawn0 w w' := by
 have H : (if (a0.size : Int) ≥ (a1.size : Int) then (if 0 ≤ (a1.size : Int) then (if (a1.size : Int) ≤ (a0.size : Int) then (some ((a0.extract 0 ((a1.size : Int) : Int).toNat).toList == a1.toList)) else (none)) else (none)) else (some false)) = some r := h
 clear h
 by_cases c3 : (a0.size : Int) ≥ (a1.size : Int)
 ·rw [if_pos c3] at H
  have c3b0 : decide ((a1.size : Int) ≤ (a0.size : Int)) = true := decide_eq_true c3
  have c3b1 : decide (a1.size ≤ a0.size) = true := decide_eq_true (Int.ofNat_le.mp c3)
  clear c3
  by_cases c4 : 0 ≤ (a1.size : Int)
  ·rw [if_pos c4] at H
   have c4b0 := eq_true c4
   have c4b1 : decide (0 ≤ (a1.size : Int)) = true := decide_eq_true c4
   clear c4
   by_cases c5 : (a1.size : Int) ≤ (a0.size : Int)
   ·rw [if_pos c5] at H
    have c5b0 := eq_true c5
    have c5b1 : decide ((a1.size : Int) ≤ (a0.size : Int)) = true := decide_eq_true c5
    clear c5
    obtain rfl := Option.some.inj H
    go_enter Tryz.func73, Tryz.ntmps73
    go_wp2
    go_ret
    exact ⟨by first | rfl | (simp; done) | (simp [*]; done) | (simp [bne_nil]; done) | (simp [bne_nil, *]; done), by repeat (first | exact Drawn0.refl _ | apply Drawn0.step)⟩
   ·rw [if_neg c5] at H
    exact absurd H (by simp)
  ·rw [if_neg c4] at H
   exact absurd H (by simp)
 ·rw [if_neg c3] at H
  have c3b0 : decide ((a1.size : Int) ≤ (a0.size : Int)) = false := decide_eq_false c3
  have c3b1 : decide (a1.size ≤ a0.size) = false := decide_eq_false (fun h => c3 (Int.ofNat_le.mpr h))
  clear c3
  obtain rfl := Option.some.inj H
  go_enter Tryz.func73, Tryz.ntmps73
  go_wp2
  go_ret
  exact ⟨by first | rfl | (simp; done) | (simp [*]; done) | (simp [bne_nil]; done) | (simp [bne_nil, *]; done), by repeat (first | exact Drawn0.refl _ | apply Drawn0.step)⟩

/-- THE ONE PURE STATEMENT of spec_Begins: yours. -/
def spec_Begins.Pure : Prop := ∀ (a0 : ByteArray) (a1 : ByteArray), a0.size ≤ 140737488351232 → a1.size ≤ 140737488351232 → spec_Begins.f a0 a1 = some true
theorem spec_Begins.walk (P : spec_Begins.Pure) (a0 : ByteArray) (a1 : ByteArray) (w : World) (w0 : a0.size ≤ 140737488351232) (w1 : a1.size ≤ 140737488351232) :
  Calls Tryz.prog 73 #[.string a0, .string a1] w fun e w' => e = .returned (.bool true) ∧ Below w.heap.size w w' := by
 have h := P a0 a1 w0 w1
 refine (spec_Begins.calls a0 a1 true w h).mono ?_
 rintro e w' ⟨rfl, hd⟩
 exact ⟨rfl, hd.below⟩

/-! ### spec_Left: function 100 -/
end Go.Proofs.YtdmpbaanonafbaaGreatDoor.R
