-- written by a program of this session (wip/tools/pp.py)
import Derived.Test.YtdmpbaanonafbaaGreatDoorC0
namespace Go.Proofs.YtdmpbaanonafbaaGreatDoor.C
open Go.RowKit Go.Proofs.YtdmpbaanonafbaaGreatDoorW.PrintWords Go.Proofs.YtdmpbaanonafbaaGreatDoorW.PrintLast Go.Proofs.YtdmpbaanonafbaaGreatDoor.Flt Go.Proofs.YtdmpbaanonafbaaGreatDoor.GivZ Go.Proofs.YtdmpbaanonafbaaGreatDoor.E Go.Proofs.YtdmpbaanonafbaaGreatDoor.L Go.Proofs.YtdmpbaanonafbaaGreatDoor.V Go.Proofs.YtdmpbaanonafbaaGreatDoor.DoorCg Go.Proofs.YtdmpbaanonafbaaGreatDoor.Lives Go.Proofs.YtdmpbaanonafbaaGreatDoorW.PrintMore
attribute [local go_sem] max2_int min2_int max_two min_two max_three min_three max_four min_four   -- for this text's walks alone
set_option linter.unusedVariables false
set_option linter.unusedSimpArgs false

/-! ### spec_small: function 46 -/
def spec_small.l0 : Nat → Int → List Int → Int → Int → Option (Bool)
 | 0, _, _, _, _ => none
 | k + 1, x0, x7, x8, x9 => if x9 < x8 then (if 0 ≤ x9 then (if x9 < (x7.length : Int) then (if (rd x7 x9) ≥ x0 then (some false) else (spec_small.l0 k x0 x7 x8 (wrap64 (x9 + 1)))) else (none)) else (none)) else (some true)
def spec_small.f (k : Nat) (a0 : Int) (l1 : List Int) : Option (Bool) := spec_small.l0 k a0 l1 (l1.length : Int) 0
theorem spec_small.mono_l : ∀ k, (∀ y0 y1 y2 y3, LeO (spec_small.l0 k y0 y1 y2 y3) (spec_small.l0 (k + 1) y0 y1 y2 y3))
 | 0 => fun _ _ _ _ r h => by simp [spec_small.l0] at h
 | k + 1 => by
  have ih0 := spec_small.mono_l k
  ·intro y0 y1 y2 y3
   unfold spec_small.l0
   repeat' first
   | (with_reducible exact ih0 _ _ _ _)
   | (with_reducible exact LeO.refl _)
   | (with_reducible exact LeO.none _)
   | (with_reducible refine LeO.ite ?_ ?_)
   | (with_reducible refine LeO.bind ?_ (fun _ => ?_))
   | exact ih0 _ _ _ _
   | exact LeO.none _
   | refine LeO.ite ?_ ?_
   | refine LeO.bind ?_ (fun _ => ?_)
theorem spec_small.mono : ∀ a0 a1 k, LeO (spec_small.f k a0 a1) (spec_small.f (k + 1) a0 a1) := by
 intro a0 a1 k
 have ih0 := spec_small.mono_l k
 unfold spec_small.f
 repeat' first
   | (with_reducible exact ih0 _ _ _ _)
   | (with_reducible exact LeO.refl _)
   | (with_reducible exact LeO.none _)
   | (with_reducible refine LeO.ite ?_ ?_)
   | (with_reducible refine LeO.bind ?_ (fun _ => ?_))
   | exact ih0 _ _ _ _
   | exact LeO.none _
   | refine LeO.ite ?_ ?_
   | refine LeO.bind ?_ (fun _ => ?_)
set_option maxHeartbeats 8000000 in
set_option maxRecDepth 100000 in
theorem spec_small.calls (k : Nat) (a0 : Int) (A1 : Option Addr) (c1 : Nat) (l1 : List Int) (r : Bool) (w : World) (hr1 : Kd.C (Kd.int .u64) w A1 l1.length l1) (hc1 : l1.length ≤ c1) (h : spec_small.f k a0 l1 = some r) :
  Calls Tryz.prog 46 #[.int .u64 a0, .slice A1 l1.length c1] w fun e w' => e = .returned (.bool r) ∧ Drawn0 w w' := by
 have HR1 := Aside0.mk hr1
 have HC1 := Aside0.mk hc1
 clear hr1 hc1
 have H : (spec_small.l0 k a0 l1 (l1.length : Int) 0) = some r := h
 clear h
 have H' := Aside0.mk H
 clear H
 go_enter Tryz.func46, Tryz.ntmps46
 go_wp2
 go_loopg [9] k (fun kq v9 w' => ∃ (x9_1 : Int), v9 = .int .i64 x9_1 ∧ Aside0 (spec_small.l0 kq a0 l1 (l1.length : Int) x9_1 = some r) ∧ Aside0 (kq ≤ k) ∧ Drawn0 w w')
 case atStart => exact ⟨(0), (by first | rfl | (simp; done) | (simp [*]; done) | (simp [bne_nil]; done) | (simp [bne_nil, *]; done)), H', ⟨Nat.le_refl _⟩, by repeat (first | exact Drawn0.refl _ | apply Drawn0.step)⟩
 case round =>
  clear H'
  try clear c1
  try clear p2
  obtain ⟨x9_1, rfl, HA, HK1, ⟨m1, rfl⟩⟩ := hrel
  cases gk with
  | zero => exact absurd HA.out (by simp [spec_small.l0])
  | succ k1 =>
   have H := HA.out
   clear HA
   simp only [spec_small.l0] at H
   by_cases c3 : x9_1 < (l1.length : Int)
   ·rw [if_pos c3] at H
    have c3b0 : decide (x9_1 < (l1.length : Int)) = true := decide_eq_true c3
    clear c3
    by_cases c4 : 0 ≤ x9_1
    ·rw [if_pos c4] at H
     have c4b0 : decide (0 ≤ x9_1) = true := decide_eq_true c4
     clear c4
     by_cases c5 : x9_1 < (l1.length : Int)
     ·rw [if_pos c5] at H
      have c5b0 : decide (x9_1 < (l1.length : Int)) = true := decide_eq_true c5
      clear c5
      by_cases c6 : (rd l1 x9_1) ≥ a0
      ·rw [if_pos c6] at H
       have c6b0 : decide (a0 ≤ (rd l1 x9_1)) = true := decide_eq_true c6
       clear c6
       obtain rfl := Option.some.inj H
       have p101 : 0 ≤ (x9_1 : Int) := of_decide_eq_true (by first | (with_reducible assumption) | assumption)
       have q101 : x9_1 < (l1.length : Int) := of_decide_eq_true (by first | (with_reducible assumption) | assumption)
       obtain ⟨ad101, e101, hx101_0⟩ := Kd.at_int HR1.out x9_1 p101 q101
       cases e101
       replace p101 := eq_true p101
       replace q101 := eq_true q101
       go_wp2
       go_ret
       exact ⟨by first | rfl | (simp; done) | (simp [*]; done) | (simp [bne_nil]; done) | (simp [bne_nil, *]; done), by repeat (first | exact Drawn0.refl _ | apply Drawn0.step)⟩
      ·rw [if_neg c6] at H
       have c6b0 : decide (a0 ≤ (rd l1 x9_1)) = false := decide_eq_false c6
       clear c6
       have H' := Aside0.mk H
       clear H
       have p101 : 0 ≤ (x9_1 : Int) := of_decide_eq_true (by first | (with_reducible assumption) | assumption)
       have q101 : x9_1 < (l1.length : Int) := of_decide_eq_true (by first | (with_reducible assumption) | assumption)
       obtain ⟨ad101, e101, hx101_0⟩ := Kd.at_int HR1.out x9_1 p101 q101
       cases e101
       replace p101 := eq_true p101
       replace q101 := eq_true q101
       go_wp2
       go_roundg k1
       case measure => have := HK1.out; omega
       case rel => exact ⟨(wrap64 (x9_1 + 1)), (by first | rfl | (simp; done) | (simp [*]; done) | (simp [bne_nil]; done) | (simp [bne_nil, *]; done)), H', ⟨by have := HK1.out; omega⟩, by repeat (first | exact Drawn0.refl _ | apply Drawn0.step)⟩
     ·rw [if_neg c5] at H
      exact absurd H (by simp)
    ·rw [if_neg c4] at H
     exact absurd H (by simp)
   ·rw [if_neg c3] at H
    have c3b0 : decide (x9_1 < (l1.length : Int)) = false := decide_eq_false c3
    clear c3
    obtain rfl := Option.some.inj H
    go_wp2
    go_ret
    exact ⟨by first | rfl | (simp; done) | (simp [*]; done) | (simp [bne_nil]; done) | (simp [bne_nil, *]; done), by repeat (first | exact Drawn0.refl _ | apply Drawn0.step)⟩

/-! ### spec_Word: function 107 -/
def spec_Word.l0 : Nat → ByteArray → Int → Int → Option (Bool)
 | 0, _, _, _ => none
 | k + 1, x0, x5, x6 => if x6 < x5 then (if 0 ≤ x6 then (if x6 < (x0.size : Int) then (if (bt x0 x6) ≤ 32 then (some false) else (if (bt x0 x6) > 126 then (some false) else (spec_Word.l0 k x0 x5 (wrap64 (x6 + 1))))) else (none)) else (none)) else (some (x0.toList != ([] : List UInt8)))
def spec_Word.f (k : Nat) (a0 : ByteArray) : Option (Bool) := spec_Word.l0 k a0 (a0.size : Int) 0
theorem spec_Word.mono_l : ∀ k, (∀ y0 y1 y2, LeO (spec_Word.l0 k y0 y1 y2) (spec_Word.l0 (k + 1) y0 y1 y2))
 | 0 => fun _ _ _ r h => by simp [spec_Word.l0] at h
 | k + 1 => by
  have ih0 := spec_Word.mono_l k
  ·intro y0 y1 y2
   unfold spec_Word.l0
   repeat' first
   | (with_reducible exact ih0 _ _ _)
   | (with_reducible exact LeO.refl _)
   | (with_reducible exact LeO.none _)
   | (with_reducible refine LeO.ite ?_ ?_)
   | (with_reducible refine LeO.bind ?_ (fun _ => ?_))
   | exact ih0 _ _ _
   | exact LeO.none _
   | refine LeO.ite ?_ ?_
   | refine LeO.bind ?_ (fun _ => ?_)
theorem spec_Word.mono : ∀ a0 k, LeO (spec_Word.f k a0) (spec_Word.f (k + 1) a0) := by
 intro a0 k
 have ih0 := spec_Word.mono_l k
 unfold spec_Word.f
 repeat' first
   | (with_reducible exact ih0 _ _ _)
   | (with_reducible exact LeO.refl _)
   | (with_reducible exact LeO.none _)
   | (with_reducible refine LeO.ite ?_ ?_)
   | (with_reducible refine LeO.bind ?_ (fun _ => ?_))
   | exact ih0 _ _ _
   | exact LeO.none _
   | refine LeO.ite ?_ ?_
   | refine LeO.bind ?_ (fun _ => ?_)
set_option maxHeartbeats 8000000 in
set_option maxRecDepth 100000 in
theorem spec_Word.calls (k : Nat) (a0 : ByteArray) (r : Bool) (w : World) (h : spec_Word.f k a0 = some r) :
  Calls Tryz.prog 107 #[.string a0] w fun e w' => e = .returned (.bool r) ∧ Drawn0 w w' := by
 have H : (spec_Word.l0 k a0 (a0.size : Int) 0) = some r := h
 clear h
 have H' := Aside0.mk H
 clear H
 go_enter Tryz.func107, Tryz.ntmps107
 go_wp2
 go_loopg [6] k (fun kq v6 w' => ∃ (x6_1 : Int), v6 = .int .i64 x6_1 ∧ Aside0 (spec_Word.l0 kq a0 (a0.size : Int) x6_1 = some r) ∧ Aside0 (kq ≤ k) ∧ Drawn0 w w')
 case atStart => exact ⟨(0), (by first | rfl | (simp; done) | (simp [*]; done) | (simp [bne_nil]; done) | (simp [bne_nil, *]; done)), H', ⟨Nat.le_refl _⟩, by repeat (first | exact Drawn0.refl _ | apply Drawn0.step)⟩
 case round =>
  clear H'
  try clear c1
  obtain ⟨x6_1, rfl, HA, HK1, ⟨m1, rfl⟩⟩ := hrel
  cases gk with
  | zero => exact absurd HA.out (by simp [spec_Word.l0])
  | succ k1 =>
   have H := HA.out
   clear HA
   simp only [spec_Word.l0] at H
   by_cases c2 : x6_1 < (a0.size : Int)
   ·rw [if_pos c2] at H
    have c2b0 : decide (x6_1 < (a0.size : Int)) = true := decide_eq_true c2
    clear c2
    by_cases c3 : 0 ≤ x6_1
    ·rw [if_pos c3] at H
     have c3b0 : decide (0 ≤ x6_1) = true := decide_eq_true c3
     clear c3
     by_cases c4 : x6_1 < (a0.size : Int)
     ·rw [if_pos c4] at H
      have c4b0 : decide (x6_1 < (a0.size : Int)) = true := decide_eq_true c4
      clear c4
      by_cases c6 : (bt a0 x6_1) ≤ 32
      ·rw [if_pos c6] at H
       have c6b0 : decide ((bt a0 x6_1) ≤ 32) = true := decide_eq_true c6
       clear c6
       obtain rfl := Option.some.inj H
       have p5 : 0 ≤ (x6_1 : Int) := of_decide_eq_true (by first | (with_reducible assumption) | assumption)
       have q5 : x6_1 < (a0.size : Int) := of_decide_eq_true (by first | (with_reducible assumption) | assumption)
       have hx5 := bt_at a0 x6_1
       replace p5 := eq_true p5
       replace q5 := eq_true q5
       go_wp2
       go_ret
       exact ⟨by first | rfl | (simp; done) | (simp [*]; done) | (simp [bne_nil]; done) | (simp [bne_nil, *]; done), by repeat (first | exact Drawn0.refl _ | apply Drawn0.step)⟩
      ·rw [if_neg c6] at H
       have c6b0 : decide ((bt a0 x6_1) ≤ 32) = false := decide_eq_false c6
       clear c6
       by_cases c8 : (bt a0 x6_1) > 126
       ·rw [if_pos c8] at H
        have c8b0 : decide (126 < (bt a0 x6_1)) = true := decide_eq_true c8
        clear c8
        obtain rfl := Option.some.inj H
        have p5 : 0 ≤ (x6_1 : Int) := of_decide_eq_true (by first | (with_reducible assumption) | assumption)
        have q5 : x6_1 < (a0.size : Int) := of_decide_eq_true (by first | (with_reducible assumption) | assumption)
        have hx5 := bt_at a0 x6_1
        replace p5 := eq_true p5
        replace q5 := eq_true q5
        have p7 : 0 ≤ (x6_1 : Int) := of_decide_eq_true (by first | (with_reducible assumption) | assumption)
        have q7 : x6_1 < (a0.size : Int) := of_decide_eq_true (by first | (with_reducible assumption) | assumption)
        have hx7 := bt_at a0 x6_1
        replace p7 := eq_true p7
        replace q7 := eq_true q7
        go_wp2
        go_ret
        exact ⟨by first | rfl | (simp; done) | (simp [*]; done) | (simp [bne_nil]; done) | (simp [bne_nil, *]; done), by repeat (first | exact Drawn0.refl _ | apply Drawn0.step)⟩
       ·rw [if_neg c8] at H
        have c8b0 : decide (126 < (bt a0 x6_1)) = false := decide_eq_false c8
        clear c8
        have H' := Aside0.mk H
        clear H
        have p5 : 0 ≤ (x6_1 : Int) := of_decide_eq_true (by first | (with_reducible assumption) | assumption)
        have q5 : x6_1 < (a0.size : Int) := of_decide_eq_true (by first | (with_reducible assumption) | assumption)
        have hx5 := bt_at a0 x6_1
        replace p5 := eq_true p5
        replace q5 := eq_true q5
        have p7 : 0 ≤ (x6_1 : Int) := of_decide_eq_true (by first | (with_reducible assumption) | assumption)
        have q7 : x6_1 < (a0.size : Int) := of_decide_eq_true (by first | (with_reducible assumption) | assumption)
        have hx7 := bt_at a0 x6_1
        replace p7 := eq_true p7
        replace q7 := eq_true q7
        go_wp2
        go_roundg k1
        case measure => have := HK1.out; omega
        case rel => exact ⟨(wrap64 (x6_1 + 1)), (by first | rfl | (simp; done) | (simp [*]; done) | (simp [bne_nil]; done) | (simp [bne_nil, *]; done)), H', ⟨by have := HK1.out; omega⟩, by repeat (first | exact Drawn0.refl _ | apply Drawn0.step)⟩
     ·rw [if_neg c4] at H
      exact absurd H (by simp)
    ·rw [if_neg c3] at H
     exact absurd H (by simp)
   ·rw [if_neg c2] at H
    have c2b0 : decide (x6_1 < (a0.size : Int)) = false := decide_eq_false c2
    clear c2
    obtain rfl := Option.some.inj H
    go_wp2
    go_ret
    exact ⟨by first | rfl | (simp; done) | (simp [*]; done) | (simp [bne_nil]; done) | (simp [bne_nil, *]; done), by repeat (first | exact Drawn0.refl _ | apply Drawn0.step)⟩

/-! ### spec_CgroupSummaryPrint: function 34 -/
def spec_CgroupSummaryPrint.l0 : Nat → ByteArray → List (S48) → Int → Int → Option (ByteArray × Int)
 | 0, _, _, _, _ => none
 | k + 1, x4, x7, x8, x9 => if x9 < x8 then (if 0 ≤ x9 then (if x9 < (x7.length : Int) then ((spec_Word.f k ((rd_T48 x7 x9).f0)).bind fun t104 => (if t104 = true then (if 0 < (((rd_T48 x7 x9).f0).size : Int) then (if (bt ((rd_T48 x7 x9).f0) 0) = 35 then (some ((⟨#[]⟩ : ByteArray), 2)) else ((spec_sized.f ((rd_T48 x7 x9).f0) ((rd_T48 x7 x9).f1) ((rd_T48 x7 x9).f2) 3 0).bind fun t105 => (if t105 = true then ((spec_small.f k 2147483648 ((rd_T48 x7 x9).f1)).bind fun t106 => (if t106 = true then (if ((rd_T48 x7 x9).f0).size + 1 ≤ 9223372036854775807 then ((spec_numbers.f k ((rd_T48 x7 x9).f1) (⟨#[9]⟩ : ByteArray)).bind fun t107 => (if (((rd_T48 x7 x9).f0) ++ (⟨#[9]⟩ : ByteArray)).size + t107.size ≤ 9223372036854775807 then (if ((((rd_T48 x7 x9).f0) ++ (⟨#[9]⟩ : ByteArray)) ++ t107).size + 1 ≤ 9223372036854775807 then (if x4.size + (((((rd_T48 x7 x9).f0) ++ (⟨#[9]⟩ : ByteArray)) ++ t107) ++ (⟨#[10]⟩ : ByteArray)).size ≤ 9223372036854775807 then (spec_CgroupSummaryPrint.l0 k (x4 ++ (((((rd_T48 x7 x9).f0) ++ (⟨#[9]⟩ : ByteArray)) ++ t107) ++ (⟨#[10]⟩ : ByteArray))) x7 x8 (wrap64 (x9 + 1))) else (none)) else (none)) else (none))) else (none)) else (some ((⟨#[]⟩ : ByteArray), 2)))) else (some ((⟨#[]⟩ : ByteArray), 2))))) else (none)) else (some ((⟨#[]⟩ : ByteArray), 2)))) else (none)) else (none)) else (some (x4, 1))
def spec_CgroupSummaryPrint.f (k : Nat) (l0 : List (S48)) : Option (ByteArray × Int) := spec_CgroupSummaryPrint.l0 k (⟨#[35, 115, 117, 98, 115, 121, 115, 95, 110, 97, 109, 101, 9, 104, 105, 101, 114, 97, 114, 99, 104, 121, 9, 110, 117, 109, 95, 99, 103, 114, 111, 117, 112, 115, 9, 101, 110, 97, 98, 108, 101, 100, 10]⟩ : ByteArray) l0 (l0.length : Int) 0
theorem spec_CgroupSummaryPrint.mono_l : ∀ k, (∀ y0 y1 y2 y3, LeO (spec_CgroupSummaryPrint.l0 k y0 y1 y2 y3) (spec_CgroupSummaryPrint.l0 (k + 1) y0 y1 y2 y3))
 | 0 => fun _ _ _ _ r h => by simp [spec_CgroupSummaryPrint.l0] at h
 | k + 1 => by
  have ih0 := spec_CgroupSummaryPrint.mono_l k
  ·intro y0 y1 y2 y3
   unfold spec_CgroupSummaryPrint.l0
   repeat' first
   | (with_reducible exact ih0 _ _ _ _)
   | (with_reducible exact spec_Word.mono _ _)
   | (with_reducible exact spec_numbers.mono _ _ _)
   | (with_reducible exact spec_small.mono _ _ _)
   | (with_reducible exact LeO.refl _)
   | (with_reducible exact LeO.none _)
   | (with_reducible refine LeO.ite ?_ ?_)
   | (with_reducible refine LeO.bind ?_ (fun _ => ?_))
   | exact ih0 _ _ _ _
   | exact spec_Word.mono _ _
   | exact spec_numbers.mono _ _ _
   | exact spec_small.mono _ _ _
   | exact LeO.none _
   | refine LeO.ite ?_ ?_
   | refine LeO.bind ?_ (fun _ => ?_)
theorem spec_CgroupSummaryPrint.mono : ∀ a0 k, LeO (spec_CgroupSummaryPrint.f k a0) (spec_CgroupSummaryPrint.f (k + 1) a0) := by
 intro a0 k
 have ih0 := spec_CgroupSummaryPrint.mono_l k
 unfold spec_CgroupSummaryPrint.f
 repeat' first
   | (with_reducible exact ih0 _ _ _ _)
   | (with_reducible exact spec_Word.mono _ _)
   | (with_reducible exact spec_numbers.mono _ _ _)
   | (with_reducible exact spec_small.mono _ _ _)
   | (with_reducible exact LeO.refl _)
   | (with_reducible exact LeO.none _)
   | (with_reducible refine LeO.ite ?_ ?_)
   | (with_reducible refine LeO.bind ?_ (fun _ => ?_))
   | exact ih0 _ _ _ _
   | exact spec_Word.mono _ _
   | exact spec_numbers.mono _ _ _
   | exact spec_small.mono _ _ _
   | exact LeO.none _
   | refine LeO.ite ?_ ?_
   | refine LeO.bind ?_ (fun _ => ?_)
def spec_CgroupSummaryPrint.T7 : Bool × List (List Nat × List Nat) := (true, [([], []), ([], []), ([1], [1]), ([2], [2]), ([], []), ([4], [4]), ([5], [5]), ([3, 6], [3, 6]), ([7], [7]), ([0, 8], [0, 8]), ([9, 6, 0, 1, 2, 3, 4, 5, 6, 7, 8, 9], [0, 9])])
def spec_CgroupSummaryPrint.B7 : List Nat := [0, 0, 2, 6, 0, 16, 48, 126, 254, 511, 1023]
theorem spec_CgroupSummaryPrint.tab7 : rtab .any (opsOf Tryz.f34 7) = spec_CgroupSummaryPrint.T7 := by kernel_rfl
theorem spec_CgroupSummaryPrint.bits7 : waitsOk spec_CgroupSummaryPrint.T7.2 spec_CgroupSummaryPrint.B7 = true := by kernel_rfl
set_option maxHeartbeats 8000000 in
set_option maxRecDepth 100000 in
theorem spec_CgroupSummaryPrint.calls (k : Nat) (A0 : Option Addr) (c0 : Nat) (l0 : List (S48)) (r1 : ByteArray) (r2 : Int) (w : World) (hr0 : Kd.C k48 w A0 l0.length l0) (hc0 : l0.length ≤ c0) (h : spec_CgroupSummaryPrint.f k l0 = some (r1, r2)) :
  Calls Tryz.prog 34 #[.slice A0 l0.length c0] w fun e w' => e = .returned (.tuple #[.string r1, .int .i64 r2]) ∧ Below w.heap.size w w' := by
 have hu48 := Tryz.underlying48
 have HR0 := Aside0.mk hr0
 have HC0 := Aside0.mk hc0
 clear hr0 hc0
 have HB := Aside0.mk (Below.refl w.heap.size w)
 have H : (spec_CgroupSummaryPrint.l0 k (⟨#[35, 115, 117, 98, 115, 121, 115, 95, 110, 97, 109, 101, 9, 104, 105, 101, 114, 97, 114, 99, 104, 121, 9, 110, 117, 109, 95, 99, 103, 114, 111, 117, 112, 115, 9, 101, 110, 97, 98, 108, 101, 100, 10]⟩ : ByteArray) l0 (l0.length : Int) 0) = some (r1, r2) := h
 clear h
 have H' := Aside0.mk H
 clear H
 go_enter Tryz.func34, Tryz.ntmps34
 go_wp2
 go_loopg [4, 9] k (fun kq v4 v9 w' => ∃ (x4_1 : ByteArray) (x9_1 : Int), v4 = .string x4_1 ∧ v9 = .int .i64 x9_1 ∧ Aside0 (spec_CgroupSummaryPrint.l0 kq x4_1 l0 (l0.length : Int) x9_1 = some (r1, r2)) ∧ Aside0 (kq ≤ k) ∧ Aside0 (Below w.heap.size w w'))
 case atStart => exact ⟨((⟨#[35, 115, 117, 98, 115, 121, 115, 95, 110, 97, 109, 101, 9, 104, 105, 101, 114, 97, 114, 99, 104, 121, 9, 110, 117, 109, 95, 99, 103, 114, 111, 117, 112, 115, 9, 101, 110, 97, 98, 108, 101, 100, 10]⟩ : ByteArray)), (0), (by first | rfl | (simp; done) | (simp [*]; done) | (simp [bne_nil]; done) | (simp [bne_nil, *]; done)), (by first | rfl | (simp; done) | (simp [*]; done) | (simp [bne_nil]; done) | (simp [bne_nil, *]; done)), H', ⟨Nat.le_refl _⟩, ⟨by repeat (first | (with_reducible first | exact HB.out | apply below_alloc | apply pw_below_drewN | apply below_drew1) | exact HB.out)⟩⟩
 case round =>
  clear H'
  obtain ⟨x4_1, x9_1, rfl, rfl, HA, HK1, HB⟩ := hrel
  cases gk with
  | zero => exact absurd HA.out (by simp [spec_CgroupSummaryPrint.l0])
  | succ k1 =>
   have H := HA.out
   clear HA
   simp only [spec_CgroupSummaryPrint.l0] at H
   by_cases c2 : x9_1 < (l0.length : Int)
   ·rw [if_pos c2] at H
    have c2b0 : decide (x9_1 < (l0.length : Int)) = true := decide_eq_true c2
    clear c2
    by_cases c3 : 0 ≤ x9_1
    ·rw [if_pos c3] at H
     have c3b0 : decide (0 ≤ x9_1) = true := decide_eq_true c3
     clear c3
     by_cases c4 : x9_1 < (l0.length : Int)
     ·rw [if_pos c4] at H
      have c4b0 : decide (x9_1 < (l0.length : Int)) = true := decide_eq_true c4
      clear c4
      replace H := Option.bind_eq_some_iff.mp H
      obtain ⟨t104, A50, H⟩ := H
      replace H : (if t104 = true then (if 0 < (((rd_T48 l0 x9_1).f0).size : Int) then (if (bt ((rd_T48 l0 x9_1).f0) 0) = 35 then (some ((⟨#[]⟩ : ByteArray), 2)) else ((spec_sized.f ((rd_T48 l0 x9_1).f0) ((rd_T48 l0 x9_1).f1) ((rd_T48 l0 x9_1).f2) 3 0).bind fun t105 => (if t105 = true then ((spec_small.f k1 2147483648 ((rd_T48 l0 x9_1).f1)).bind fun t106 => (if t106 = true then (if ((rd_T48 l0 x9_1).f0).size + 1 ≤ 9223372036854775807 then ((spec_numbers.f k1 ((rd_T48 l0 x9_1).f1) (⟨#[9]⟩ : ByteArray)).bind fun t107 => (if (((rd_T48 l0 x9_1).f0) ++ (⟨#[9]⟩ : ByteArray)).size + t107.size ≤ 9223372036854775807 then (if ((((rd_T48 l0 x9_1).f0) ++ (⟨#[9]⟩ : ByteArray)) ++ t107).size + 1 ≤ 9223372036854775807 then (if x4_1.size + (((((rd_T48 l0 x9_1).f0) ++ (⟨#[9]⟩ : ByteArray)) ++ t107) ++ (⟨#[10]⟩ : ByteArray)).size ≤ 9223372036854775807 then (spec_CgroupSummaryPrint.l0 k1 (x4_1 ++ (((((rd_T48 l0 x9_1).f0) ++ (⟨#[9]⟩ : ByteArray)) ++ t107) ++ (⟨#[10]⟩ : ByteArray))) l0 (l0.length : Int) (wrap64 (x9_1 + 1))) else (none)) else (none)) else (none))) else (none)) else (some ((⟨#[]⟩ : ByteArray), 2)))) else (some ((⟨#[]⟩ : ByteArray), 2))))) else (none)) else (some ((⟨#[]⟩ : ByteArray), 2))) = some (r1, r2) := H
      have A5 := Aside0.mk A50
      clear A50
      by_cases c6 : t104 = true
      ·subst c6
       have H1 : (if 0 < (((rd_T48 l0 x9_1).f0).size : Int) then (if (bt ((rd_T48 l0 x9_1).f0) 0) = 35 then (some ((⟨#[]⟩ : ByteArray), 2)) else ((spec_sized.f ((rd_T48 l0 x9_1).f0) ((rd_T48 l0 x9_1).f1) ((rd_T48 l0 x9_1).f2) 3 0).bind fun t105 => (if t105 = true then ((spec_small.f k1 2147483648 ((rd_T48 l0 x9_1).f1)).bind fun t106 => (if t106 = true then (if ((rd_T48 l0 x9_1).f0).size + 1 ≤ 9223372036854775807 then ((spec_numbers.f k1 ((rd_T48 l0 x9_1).f1) (⟨#[9]⟩ : ByteArray)).bind fun t107 => (if (((rd_T48 l0 x9_1).f0) ++ (⟨#[9]⟩ : ByteArray)).size + t107.size ≤ 9223372036854775807 then (if ((((rd_T48 l0 x9_1).f0) ++ (⟨#[9]⟩ : ByteArray)) ++ t107).size + 1 ≤ 9223372036854775807 then (if x4_1.size + (((((rd_T48 l0 x9_1).f0) ++ (⟨#[9]⟩ : ByteArray)) ++ t107) ++ (⟨#[10]⟩ : ByteArray)).size ≤ 9223372036854775807 then (spec_CgroupSummaryPrint.l0 k1 (x4_1 ++ (((((rd_T48 l0 x9_1).f0) ++ (⟨#[9]⟩ : ByteArray)) ++ t107) ++ (⟨#[10]⟩ : ByteArray))) l0 (l0.length : Int) (wrap64 (x9_1 + 1))) else (none)) else (none)) else (none))) else (none)) else (some ((⟨#[]⟩ : ByteArray), 2)))) else (some ((⟨#[]⟩ : ByteArray), 2))))) else (none)) = some (r1, r2) := by rw [if_pos rfl] at H; exact H
       clear H
       have H := H1
       clear H1
       by_cases c7 : 0 < (((rd_T48 l0 x9_1).f0).size : Int)
       ·rw [if_pos c7] at H
        have c7b0 : decide (0 < (((rd_T48 l0 x9_1).f0).size : Int)) = true := decide_eq_true c7
        have c7b1 : decide (0 < ((rd_T48 l0 x9_1).f0).size) = true := decide_eq_true (by omega)
        clear c7
        by_cases c9 : (bt ((rd_T48 l0 x9_1).f0) 0) = 35
        ·rw [if_pos c9] at H
         have c9b0 : ((bt ((rd_T48 l0 x9_1).f0) 0) == 35) = true := beq_iff_eq.mpr c9
         have c9b1 : ((bt ((rd_T48 l0 x9_1).f0) 0) != 35) = false := bne_eq_false_iff_eq.mpr c9
         clear c9
         simp only [Option.some.injEq, Prod.mk.injEq] at H
         obtain ⟨rfl, rfl⟩ := H
         have p102 : 0 ≤ (x9_1 : Int) := of_decide_eq_true (by first | (with_reducible assumption) | assumption)
         have q102 : x9_1 < (l0.length : Int) := of_decide_eq_true (by first | (with_reducible assumption) | assumption)
         obtain ⟨ad102, A102_1, c102_1, A102_2, c102_2, e102, hx102_0, hx102_1, hx102_2, hl102_1, hi102_1, hl102_2, hi102_2⟩ := at_T48 HR0.out x9_1 p102 q102
         cases e102
         replace hx102_0 := (HB.out.cell (World.block_lt_of_cell? w _ hx102_0)).trans hx102_0
         replace hx102_1 := (HB.out.cell (World.block_lt_of_cell? w _ hx102_1)).trans hx102_1
         replace hx102_2 := (HB.out.cell (World.block_lt_of_cell? w _ hx102_2)).trans hx102_2
         have HR102_1 := Aside0.mk hi102_1
         have HC102_1 := Aside0.mk hl102_1
         clear hi102_1 hl102_1
         have HR102_2 := Aside0.mk hi102_2
         have HC102_2 := Aside0.mk hl102_2
         clear hi102_2 hl102_2
         replace p102 := eq_true p102
         replace q102 := eq_true q102
         go_wp2_with (first | ((with_reducible refine gate_dst (N := 6) rfl ?_); refine box_event ?hg (N := 6) ?hd (cs := #[.string (⟨#[]⟩ : ByteArray), .slice none 0 0, .slice none 0 0]) (t := 48) ?hr ?_; (case hd => rfl); (case hg => rfl); (case hr => first | (go_simp; done) | (go_simp; rfl)); intro gb103 hg w10 hbox hb; have n0_ := Aside0.mk (below_step belH hb); have n1_ := Aside0.mk (hbox); have n2_ := Aside0.mk ((by rw [hg]; exact (below_size belH) : w.heap.size ≤ gb103)); have n3_ := Aside0.mk ((by rw [hg]; exact (below_size belH) : w.heap.size ≤ gb103)); clear HB; have HB := n0_; have BK103 := n1_; have GW103 := n2_; have GE103 := n3_; clear n0_ n1_ n2_ n3_; clear hb hbox hg; have hcz11_0 : w10.cell? ⟨gb103, 0, none⟩ = some (.string (⟨#[]⟩ : ByteArray)) := (blk_cell BK103.out 0).trans rfl; have hcz11_1 : w10.cell? ⟨gb103, 1, none⟩ = some (.slice none 0 0) := (blk_cell BK103.out 1).trans rfl; have hcz11_2 : w10.cell? ⟨gb103, 2, none⟩ = some (.slice none 0 0) := (blk_cell BK103.out 2).trans rfl; have hfz11_0 := blk_frozen BK103.out 0; have hfz11_1 := blk_frozen BK103.out 1; have hfz11_2 := blk_frozen BK103.out 2) | ((with_reducible refine gate_callee (f := 107) rfl ?_); refine goesL_ (some 15) rfl rfl Tryz.func107 (by kernel_rfl) rfl #[.string ((rd_T48 l0 x9_1).f0)] rfl (by (try simp only [List.map_toArray, List.map_cons, List.map_nil]); first | done | rfl | (simp only [List.length_drop, List.length_take]; rfl)) ?_; (with_reducible refine (spec_Word.calls k1 ((rd_T48 l0 x9_1).f0) true _ A5.out).mono ?_); rintro e w' ⟨rfl, ⟨nd, rfl⟩⟩; refine ⟨_, rfl, ?_⟩; have p8 : 0 ≤ (0 : Int) := (by omega); have q8 : 0 < ((rd_T48 l0 x9_1).f0).size := (by have : (0 : Int) < (((rd_T48 l0 x9_1).f0).size : Int) := of_decide_eq_true (by first | (with_reducible assumption) | assumption); omega); have hx8 : ∀ h : 0 < ((rd_T48 l0 x9_1).f0).size, ((((rd_T48 l0 x9_1).f0)[0]'h).toNat : Int) = bt ((rd_T48 l0 x9_1).f0) 0 := bt_at ((rd_T48 l0 x9_1).f0) 0; clear p8; have qi8 : (0 < (((rd_T48 l0 x9_1).f0).size : Int)) = True := eq_true (of_decide_eq_true (by first | (with_reducible assumption) | assumption)); replace q8 := eq_true q8))
         go_ret2
         exact ⟨by first | rfl | (simp [errW_none, errW_some] <;> rfl) | (simp [*, errW_none, errW_some] <;> rfl), by repeat (first | (with_reducible first | exact HB.out | apply below_alloc | apply pw_below_drewN | apply below_drew1 | refine below_set ?_ GE103.out) | exact HB.out)⟩
        ·rw [if_neg c9] at H
         have c9b0 : ((bt ((rd_T48 l0 x9_1).f0) 0) == 35) = false := beq_eq_false_iff_ne.mpr c9
         have c9b1 : ((bt ((rd_T48 l0 x9_1).f0) 0) != 35) = true := bne_iff_ne.mpr c9
         replace H := Option.bind_eq_some_iff.mp H
         obtain ⟨t105, A120, H⟩ := H
         replace H : (if t105 = true then ((spec_small.f k1 2147483648 ((rd_T48 l0 x9_1).f1)).bind fun t106 => (if t106 = true then (if ((rd_T48 l0 x9_1).f0).size + 1 ≤ 9223372036854775807 then ((spec_numbers.f k1 ((rd_T48 l0 x9_1).f1) (⟨#[9]⟩ : ByteArray)).bind fun t107 => (if (((rd_T48 l0 x9_1).f0) ++ (⟨#[9]⟩ : ByteArray)).size + t107.size ≤ 9223372036854775807 then (if ((((rd_T48 l0 x9_1).f0) ++ (⟨#[9]⟩ : ByteArray)) ++ t107).size + 1 ≤ 9223372036854775807 then (if x4_1.size + (((((rd_T48 l0 x9_1).f0) ++ (⟨#[9]⟩ : ByteArray)) ++ t107) ++ (⟨#[10]⟩ : ByteArray)).size ≤ 9223372036854775807 then (spec_CgroupSummaryPrint.l0 k1 (x4_1 ++ (((((rd_T48 l0 x9_1).f0) ++ (⟨#[9]⟩ : ByteArray)) ++ t107) ++ (⟨#[10]⟩ : ByteArray))) l0 (l0.length : Int) (wrap64 (x9_1 + 1))) else (none)) else (none)) else (none))) else (none)) else (some ((⟨#[]⟩ : ByteArray), 2)))) else (some ((⟨#[]⟩ : ByteArray), 2))) = some (r1, r2) := H
         have A12 := Aside0.mk A120
         clear A120
         by_cases c13 : t105 = true
         ·subst c13
          have H1 : ((spec_small.f k1 2147483648 ((rd_T48 l0 x9_1).f1)).bind fun t106 => (if t106 = true then (if ((rd_T48 l0 x9_1).f0).size + 1 ≤ 9223372036854775807 then ((spec_numbers.f k1 ((rd_T48 l0 x9_1).f1) (⟨#[9]⟩ : ByteArray)).bind fun t107 => (if (((rd_T48 l0 x9_1).f0) ++ (⟨#[9]⟩ : ByteArray)).size + t107.size ≤ 9223372036854775807 then (if ((((rd_T48 l0 x9_1).f0) ++ (⟨#[9]⟩ : ByteArray)) ++ t107).size + 1 ≤ 9223372036854775807 then (if x4_1.size + (((((rd_T48 l0 x9_1).f0) ++ (⟨#[9]⟩ : ByteArray)) ++ t107) ++ (⟨#[10]⟩ : ByteArray)).size ≤ 9223372036854775807 then (spec_CgroupSummaryPrint.l0 k1 (x4_1 ++ (((((rd_T48 l0 x9_1).f0) ++ (⟨#[9]⟩ : ByteArray)) ++ t107) ++ (⟨#[10]⟩ : ByteArray))) l0 (l0.length : Int) (wrap64 (x9_1 + 1))) else (none)) else (none)) else (none))) else (none)) else (some ((⟨#[]⟩ : ByteArray), 2)))) = some (r1, r2) := by rw [if_pos rfl] at H; exact H
          clear H
          have H := H1
          clear H1
          replace H := Option.bind_eq_some_iff.mp H
          obtain ⟨t106, A140, H⟩ := H
          replace H : (if t106 = true then (if ((rd_T48 l0 x9_1).f0).size + 1 ≤ 9223372036854775807 then ((spec_numbers.f k1 ((rd_T48 l0 x9_1).f1) (⟨#[9]⟩ : ByteArray)).bind fun t107 => (if (((rd_T48 l0 x9_1).f0) ++ (⟨#[9]⟩ : ByteArray)).size + t107.size ≤ 9223372036854775807 then (if ((((rd_T48 l0 x9_1).f0) ++ (⟨#[9]⟩ : ByteArray)) ++ t107).size + 1 ≤ 9223372036854775807 then (if x4_1.size + (((((rd_T48 l0 x9_1).f0) ++ (⟨#[9]⟩ : ByteArray)) ++ t107) ++ (⟨#[10]⟩ : ByteArray)).size ≤ 9223372036854775807 then (spec_CgroupSummaryPrint.l0 k1 (x4_1 ++ (((((rd_T48 l0 x9_1).f0) ++ (⟨#[9]⟩ : ByteArray)) ++ t107) ++ (⟨#[10]⟩ : ByteArray))) l0 (l0.length : Int) (wrap64 (x9_1 + 1))) else (none)) else (none)) else (none))) else (none)) else (some ((⟨#[]⟩ : ByteArray), 2))) = some (r1, r2) := H
          have A14 := Aside0.mk A140
          clear A140
          by_cases c15 : t106 = true
          ·subst c15
           have H1 : (if ((rd_T48 l0 x9_1).f0).size + 1 ≤ 9223372036854775807 then ((spec_numbers.f k1 ((rd_T48 l0 x9_1).f1) (⟨#[9]⟩ : ByteArray)).bind fun t107 => (if (((rd_T48 l0 x9_1).f0) ++ (⟨#[9]⟩ : ByteArray)).size + t107.size ≤ 9223372036854775807 then (if ((((rd_T48 l0 x9_1).f0) ++ (⟨#[9]⟩ : ByteArray)) ++ t107).size + 1 ≤ 9223372036854775807 then (if x4_1.size + (((((rd_T48 l0 x9_1).f0) ++ (⟨#[9]⟩ : ByteArray)) ++ t107) ++ (⟨#[10]⟩ : ByteArray)).size ≤ 9223372036854775807 then (spec_CgroupSummaryPrint.l0 k1 (x4_1 ++ (((((rd_T48 l0 x9_1).f0) ++ (⟨#[9]⟩ : ByteArray)) ++ t107) ++ (⟨#[10]⟩ : ByteArray))) l0 (l0.length : Int) (wrap64 (x9_1 + 1))) else (none)) else (none)) else (none))) else (none)) = some (r1, r2) := by rw [if_pos rfl] at H; exact H
           clear H
           have H := H1
           clear H1
           by_cases c16 : ((rd_T48 l0 x9_1).f0).size + 1 ≤ 9223372036854775807
           ·rw [if_pos c16] at H
            have c16b0 := eq_true c16
            have c16b1 : decide (((rd_T48 l0 x9_1).f0).size + 1 ≤ 9223372036854775807) = true := decide_eq_true c16
            try have c16b2 : (9223372036854775807 < ((rd_T48 l0 x9_1).f0).size + 1) = False := eq_false (Nat.not_lt.2 c16)
            replace H := Option.bind_eq_some_iff.mp H
            obtain ⟨t107, A170, H⟩ := H
            replace H : (if (((rd_T48 l0 x9_1).f0) ++ (⟨#[9]⟩ : ByteArray)).size + t107.size ≤ 9223372036854775807 then (if ((((rd_T48 l0 x9_1).f0) ++ (⟨#[9]⟩ : ByteArray)) ++ t107).size + 1 ≤ 9223372036854775807 then (if x4_1.size + (((((rd_T48 l0 x9_1).f0) ++ (⟨#[9]⟩ : ByteArray)) ++ t107) ++ (⟨#[10]⟩ : ByteArray)).size ≤ 9223372036854775807 then (spec_CgroupSummaryPrint.l0 k1 (x4_1 ++ (((((rd_T48 l0 x9_1).f0) ++ (⟨#[9]⟩ : ByteArray)) ++ t107) ++ (⟨#[10]⟩ : ByteArray))) l0 (l0.length : Int) (wrap64 (x9_1 + 1))) else (none)) else (none)) else (none)) = some (r1, r2) := H
            have A17 := Aside0.mk A170
            clear A170
            by_cases c18 : (((rd_T48 l0 x9_1).f0) ++ (⟨#[9]⟩ : ByteArray)).size + t107.size ≤ 9223372036854775807
            ·rw [if_pos c18] at H
             have c18b0 := eq_true c18
             have c18b1 : decide ((((rd_T48 l0 x9_1).f0) ++ (⟨#[9]⟩ : ByteArray)).size + t107.size ≤ 9223372036854775807) = true := decide_eq_true c18
             try have c18b2 : (9223372036854775807 < (((rd_T48 l0 x9_1).f0) ++ (⟨#[9]⟩ : ByteArray)).size + t107.size) = False := eq_false (Nat.not_lt.2 c18)
             by_cases c19 : ((((rd_T48 l0 x9_1).f0) ++ (⟨#[9]⟩ : ByteArray)) ++ t107).size + 1 ≤ 9223372036854775807
             ·rw [if_pos c19] at H
              have c19b0 := eq_true c19
              have c19b1 : decide (((((rd_T48 l0 x9_1).f0) ++ (⟨#[9]⟩ : ByteArray)) ++ t107).size + 1 ≤ 9223372036854775807) = true := decide_eq_true c19
              try have c19b2 : (9223372036854775807 < ((((rd_T48 l0 x9_1).f0) ++ (⟨#[9]⟩ : ByteArray)) ++ t107).size + 1) = False := eq_false (Nat.not_lt.2 c19)
              by_cases c20 : x4_1.size + (((((rd_T48 l0 x9_1).f0) ++ (⟨#[9]⟩ : ByteArray)) ++ t107) ++ (⟨#[10]⟩ : ByteArray)).size ≤ 9223372036854775807
              ·rw [if_pos c20] at H
               have c20b0 := eq_true c20
               have c20b1 : decide (x4_1.size + (((((rd_T48 l0 x9_1).f0) ++ (⟨#[9]⟩ : ByteArray)) ++ t107) ++ (⟨#[10]⟩ : ByteArray)).size ≤ 9223372036854775807) = true := decide_eq_true c20
               try have c20b2 : (9223372036854775807 < x4_1.size + (((((rd_T48 l0 x9_1).f0) ++ (⟨#[9]⟩ : ByteArray)) ++ t107) ++ (⟨#[10]⟩ : ByteArray)).size) = False := eq_false (Nat.not_lt.2 c20)
               have H' := Aside0.mk H
               clear H
               have p102 : 0 ≤ (x9_1 : Int) := of_decide_eq_true (by first | (with_reducible assumption) | assumption)
               have q102 : x9_1 < (l0.length : Int) := of_decide_eq_true (by first | (with_reducible assumption) | assumption)
               obtain ⟨ad102, A102_1, c102_1, A102_2, c102_2, e102, hx102_0, hx102_1, hx102_2, hl102_1, hi102_1, hl102_2, hi102_2⟩ := at_T48 HR0.out x9_1 p102 q102
               cases e102
               replace hx102_0 := (HB.out.cell (World.block_lt_of_cell? w _ hx102_0)).trans hx102_0
               replace hx102_1 := (HB.out.cell (World.block_lt_of_cell? w _ hx102_1)).trans hx102_1
               replace hx102_2 := (HB.out.cell (World.block_lt_of_cell? w _ hx102_2)).trans hx102_2
               have HR102_1 := Aside0.mk hi102_1
               have HC102_1 := Aside0.mk hl102_1
               clear hi102_1 hl102_1
               have HR102_2 := Aside0.mk hi102_2
               have HC102_2 := Aside0.mk hl102_2
               clear hi102_2 hl102_2
               replace p102 := eq_true p102
               replace q102 := eq_true q102
               try go_wp2_with (first | ((with_reducible refine gate_dst (N := 6) rfl ?_); refine box_event ?hg (N := 6) ?hd (cs := #[.string (⟨#[]⟩ : ByteArray), .slice none 0 0, .slice none 0 0]) (t := 48) ?hr ?_; (case hd => rfl); (case hg => rfl); (case hr => first | (go_simp; done) | (go_simp; rfl)); intro gb103 hg w21 hbox hb; have n0_ := Aside0.mk (below_step belH hb); have n1_ := Aside0.mk (hbox); have n2_ := Aside0.mk ((by rw [hg]; exact (below_size belH) : w.heap.size ≤ gb103)); have n3_ := Aside0.mk ((by rw [hg]; exact (below_size belH) : w.heap.size ≤ gb103)); clear HB; have HB := n0_; have BK103 := n1_; have GW103 := n2_; have GE103 := n3_; clear n0_ n1_ n2_ n3_; clear hb hbox hg; have hcz22_0 : w21.cell? ⟨gb103, 0, none⟩ = some (.string (⟨#[]⟩ : ByteArray)) := (blk_cell BK103.out 0).trans rfl; have hcz22_1 : w21.cell? ⟨gb103, 1, none⟩ = some (.slice none 0 0) := (blk_cell BK103.out 1).trans rfl; have hcz22_2 : w21.cell? ⟨gb103, 2, none⟩ = some (.slice none 0 0) := (blk_cell BK103.out 2).trans rfl; have hfz22_0 := blk_frozen BK103.out 0; have hfz22_1 := blk_frozen BK103.out 1; have hfz22_2 := blk_frozen BK103.out 2) | ((with_reducible refine gate_callee (f := 107) rfl ?_); refine goesL_ (some 15) rfl rfl Tryz.func107 (by kernel_rfl) rfl #[.string ((rd_T48 l0 x9_1).f0)] rfl (by (try simp only [List.map_toArray, List.map_cons, List.map_nil]); first | done | rfl | (simp only [List.length_drop, List.length_take]; rfl)) ?_; (with_reducible refine (spec_Word.calls k1 ((rd_T48 l0 x9_1).f0) true _ A5.out).mono ?_); rintro e w' ⟨rfl, ⟨nd, rfl⟩⟩; refine ⟨_, rfl, ?_⟩; have p8 : 0 ≤ (0 : Int) := (by omega); have q8 : 0 < ((rd_T48 l0 x9_1).f0).size := (by have : (0 : Int) < (((rd_T48 l0 x9_1).f0).size : Int) := of_decide_eq_true (by first | (with_reducible assumption) | assumption); omega); have hx8 : ∀ h : 0 < ((rd_T48 l0 x9_1).f0).size, ((((rd_T48 l0 x9_1).f0)[0]'h).toNat : Int) = bt ((rd_T48 l0 x9_1).f0) 0 := bt_at ((rd_T48 l0 x9_1).f0) 0; clear p8; have qi8 : (0 < (((rd_T48 l0 x9_1).f0).size : Int)) = True := eq_true (of_decide_eq_true (by first | (with_reducible assumption) | assumption)); replace q8 := eq_true q8) | (go_at_call 45; (with_reducible refine (spec_sized.calls ((rd_T48 l0 x9_1).f0) _ _ ((rd_T48 l0 x9_1).f1) _ _ ((rd_T48 l0 x9_1).f2) 3 0 true _ ?side1 ?side2 ?side3 ?side4 A12.out).mono ?_); (case side1 => exact Kd.C_below HR102_1.out belS); (case side2 => exact HC102_1.out); (case side3 => exact Kd.C_below HR102_2.out belS); (case side4 => exact HC102_2.out); rintro e w23 ⟨rfl, hb⟩; have n0_ := Aside0.mk (blk_below (g := gb103) (o := .cells #[.string ((rd_T48 l0 x9_1).f0), .slice A102_1 ((rd_T48 l0 x9_1).f1).length c102_1, .slice A102_2 ((rd_T48 l0 x9_1).f2).length c102_2] 48 (0, 0)) (by (with_reducible repeat (first | refine bN ?_ _ | refine bW ?_ | refine bA ?_ _)); refine blk_put (cs := #[.string ((rd_T48 l0 x9_1).f0), .slice A102_1 ((rd_T48 l0 x9_1).f1).length c102_1, .slice none 0 0]) ?_ 2 _ rfl; (with_reducible repeat (first | refine bN ?_ _ | refine bW ?_ | refine bA ?_ _)); refine blk_put (cs := #[.string ((rd_T48 l0 x9_1).f0), .slice none 0 0, .slice none 0 0]) ?_ 1 _ rfl; (with_reducible repeat (first | refine bN ?_ _ | refine bW ?_ | refine bA ?_ _)); refine blk_put (cs := #[.string (⟨#[]⟩ : ByteArray), .slice none 0 0, .slice none 0 0]) ?_ 0 _ rfl; (with_reducible repeat (first | refine bN ?_ _ | refine bW ?_ | refine bA ?_ _)); exact BK103.out) hb); have n1_ := Aside0.mk (below_step belS hb); clear BK103; clear HB; have BK103 := n0_; have HB := n1_; clear n0_ n1_; (try clear hb); (try clear hb2); (try clear hk); (try clear hi); have hcz24_0 : w23.cell? ⟨gb103, 0, none⟩ = some (.string ((rd_T48 l0 x9_1).f0)) := (blk_cell BK103.out 0).trans rfl; have hcz24_1 : w23.cell? ⟨gb103, 1, none⟩ = some (.slice A102_1 ((rd_T48 l0 x9_1).f1).length c102_1) := (blk_cell BK103.out 1).trans rfl; have hcz24_2 : w23.cell? ⟨gb103, 2, none⟩ = some (.slice A102_2 ((rd_T48 l0 x9_1).f2).length c102_2) := (blk_cell BK103.out 2).trans rfl; have hfz24_0 := blk_frozen BK103.out 0; have hfz24_1 := blk_frozen BK103.out 1; have hfz24_2 := blk_frozen BK103.out 2) | (go_at_call 46; (with_reducible refine (spec_small.calls k1 2147483648 _ _ ((rd_T48 l0 x9_1).f1) true _ ?side1 ?side2 A14.out).mono ?_); (case side1 => repeat (first | exact (Kd.C_below HR102_1.out HB.out) | (with_reducible refine Kd.C_alloc ?_ _) | (with_reducible refine Kd.C_drewN ?_ _) | (with_reducible refine Kd.C_drew ?_))); (case side2 => exact HC102_1.out); rintro e w' ⟨rfl, ⟨nd, rfl⟩⟩))
               (try (rw [drewN_self w23]; generalize hq_ : World.drewN w23 _ = w23; have n0_ : Aside0 (w23.heap[gb103]? = some (.cells #[.string ((rd_T48 l0 x9_1).f0), .slice A102_1 ((rd_T48 l0 x9_1).f1).length c102_1, .slice A102_2 ((rd_T48 l0 x9_1).f2).length c102_2] 48 (0, 0))) := ⟨by rw [← hq_]; exact (by (with_reducible repeat (first | refine bN ?_ _ | refine bW ?_ | refine bA ?_ _)); exact BK103.out)⟩; have n1_ : Aside0 (Below w.heap.size w w23) := ⟨by rw [← hq_]; exact belS⟩; clear BK103 HB hq_; have BK103 := n0_; have HB := n1_; clear n0_ n1_))
               have n0_ := Aside0.mk (blk_drew BK103.out)
               have n1_ := Aside0.mk (below_drew1 HB.out)
               clear BK103
               clear HB
               have BK103 := n0_
               have HB := n1_
               clear n0_ n1_
               refine start_ (n := 11) (S := fun w' => w'.cell? ⟨gb103, 0, none⟩ = some (.string ((rd_T48 l0 x9_1).f0)) ∧ w'.cell? ⟨gb103, 1, none⟩ = some (.slice A102_1 ((rd_T48 l0 x9_1).f1).length c102_1) ∧ w'.cell? ⟨gb103, 2, none⟩ = some (.slice A102_2 ((rd_T48 l0 x9_1).f2).length c102_2)) (ds := []) (tfA 0 11) (by kernel_rfl) rfl rfl ⟨(blk_cell BK103.out 0).trans rfl, (blk_cell BK103.out 1).trans rfl, (blk_cell BK103.out 2).trans rfl⟩ (fun hHeld => ?_); refine with_tabW spec_CgroupSummaryPrint.tab7 spec_CgroupSummaryPrint.bits7 (fun HT_ HW_ => ?_)
               generalize w23.drew = w25 at BK103 HB hHeld ⊢
               refine pure_ (i := 0) (N := some 34) (v := ?_) (a' := ?_) (tfA 1 10) rfl rfl (any_of HT_.out (by kernel_rfl)) (fun _ _ _ h => h) (Or.inl ⟨by rfl, ?_⟩) ?_ ?_
               rotate_left
               ·intro w'
                go_simp
                first | with_reducible rfl | (rw [if_neg (by have hz_ := c18; simp only [ByteArray.size_append] at hz_; exact Nat.not_lt.2 hz_)]) | (rw [if_neg (by have hz_ := c19; simp only [ByteArray.size_append] at hz_; exact Nat.not_lt.2 hz_)]) | (rw [if_neg (by have hz_ := c20; simp only [ByteArray.size_append] at hz_; exact Nat.not_lt.2 hz_)])
               rotate_left
               ·simp only [Act.put, sA, s0, s1, i64_w, i32_w]
                rfl
               refine pure_ (i := 1) (N := some 35) (v := ?_) (a' := ?_) (tfA 2 9) rfl rfl (any_of HT_.out (by kernel_rfl)) (fun _ _ _ h => h) (Or.inl ⟨by rfl, ?_⟩) ?_ ?_
               rotate_left
               ·intro w'
                go_simp
                first | with_reducible rfl | (rw [if_neg (by have hz_ := c18; simp only [ByteArray.size_append] at hz_; exact Nat.not_lt.2 hz_)]) | (rw [if_neg (by have hz_ := c19; simp only [ByteArray.size_append] at hz_; exact Nat.not_lt.2 hz_)]) | (rw [if_neg (by have hz_ := c20; simp only [ByteArray.size_append] at hz_; exact Nat.not_lt.2 hz_)])
               rotate_left
               ·simp only [Act.put, sA, s0, s1, i64_w, i32_w]
                rfl
               refine pure_ (i := 4) (N := some 38) (v := ?_) (a' := ?_) (bnA 11 19) rfl rfl (any_of HT_.out (by kernel_rfl)) (fun _ _ _ h => h) (Or.inl ⟨by rfl, ?_⟩) ?_ ?_
               rotate_left
               ·intro w'
                go_simp
                first | with_reducible rfl | (rw [if_neg (by have hz_ := c18; simp only [ByteArray.size_append] at hz_; exact Nat.not_lt.2 hz_)]) | (rw [if_neg (by have hz_ := c19; simp only [ByteArray.size_append] at hz_; exact Nat.not_lt.2 hz_)]) | (rw [if_neg (by have hz_ := c20; simp only [ByteArray.size_append] at hz_; exact Nat.not_lt.2 hz_)])
               rotate_left
               ·simp only [Act.put, sA, s0, s1, i64_w, i32_w]
                rfl
               refine take_ (i := 2) (N := some 36) (v := ?_) (a' := ?_) (bnA 11 23) rfl rfl (take_ofW HT_.out HW_.out (by kernel_rfl)) (fun _ _ _ h => h) (Or.inl ⟨by rfl, ?_⟩) hHeld ?_ ?_
               rotate_left
               ·rintro w' ⟨s0, s1, s2⟩
                go_simp
                first | with_reducible rfl | (rw [if_neg (by have hz_ := c18; simp only [ByteArray.size_append] at hz_; exact Nat.not_lt.2 hz_)]) | (rw [if_neg (by have hz_ := c19; simp only [ByteArray.size_append] at hz_; exact Nat.not_lt.2 hz_)]) | (rw [if_neg (by have hz_ := c20; simp only [ByteArray.size_append] at hz_; exact Nat.not_lt.2 hz_)])
               rotate_left
               ·simp only [Act.put, sA, s0, s1, i64_w, i32_w]
                rfl
               refine pure_ (i := 3) (N := some 37) (v := ?_) (a' := ?_) (tfA 5 6) rfl rfl (any_of HT_.out (by kernel_rfl)) (fun _ _ _ h => h) (Or.inl ⟨by rfl, ?_⟩) ?_ ?_
               rotate_left
               ·intro w'
                go_simp
                first | with_reducible rfl | (rw [if_neg (by have hz_ := c18; simp only [ByteArray.size_append] at hz_; exact Nat.not_lt.2 hz_)]) | (rw [if_neg (by have hz_ := c19; simp only [ByteArray.size_append] at hz_; exact Nat.not_lt.2 hz_)]) | (rw [if_neg (by have hz_ := c20; simp only [ByteArray.size_append] at hz_; exact Nat.not_lt.2 hz_)])
               rotate_left
               ·simp only [Act.put, sA, s0, s1, i64_w, i32_w]
                rfl
               refine take_ (i := 5) (N := some 39) (v := ?_) (a' := ?_) (tfA 6 5) rfl rfl (take_ofW HT_.out HW_.out (by kernel_rfl)) (fun _ _ _ h => h) (Or.inl ⟨by rfl, ?_⟩) hHeld ?_ ?_
               rotate_left
               ·rintro w' ⟨s0, s1, s2⟩
                go_simp
                first | with_reducible rfl | (rw [if_neg (by have hz_ := c18; simp only [ByteArray.size_append] at hz_; exact Nat.not_lt.2 hz_)]) | (rw [if_neg (by have hz_ := c19; simp only [ByteArray.size_append] at hz_; exact Nat.not_lt.2 hz_)]) | (rw [if_neg (by have hz_ := c20; simp only [ByteArray.size_append] at hz_; exact Nat.not_lt.2 hz_)])
               rotate_left
               ·simp only [Act.put, sA, s0, s1, i64_w, i32_w]
                rfl
               refine one_ (i := 6) (N := some 40) (tfA 7 4) rfl rfl (one_of HT_.out (by kernel_rfl)) (by decide) (fun K hK => ?_)
               refine goes_ Tryz.func66 (by kernel_rfl) rfl #[.slice A102_1 ((rd_T48 l0 x9_1).f1).length c102_1, .string (⟨#[9]⟩ : ByteArray)] (by rfl) rfl rfl (by (try simp only [List.map_toArray, List.map_cons, List.map_nil]); first | done | rfl | (simp only [List.length_drop, List.length_take]; rfl)) ?_
               with_reducible refine (spec_numbers.calls k1 _ _ ((rd_T48 l0 x9_1).f1) (⟨#[9]⟩ : ByteArray) t107 _ ?side1 ?side2 A17.out).mono ?_
               (case side1 => repeat (first | exact (Kd.C_below HR102_1.out HB.out) | (with_reducible refine Kd.C_alloc ?_ _) | (with_reducible refine Kd.C_drewN ?_ _) | (with_reducible refine Kd.C_drew ?_)))
               (case side2 => exact HC102_1.out)
               rintro e w26 ⟨rfl, hb⟩
               refine ⟨_, rfl, ?_⟩
               have n0_ := Aside0.mk (blk_below (g := gb103) (o := .cells #[.string ((rd_T48 l0 x9_1).f0), .slice A102_1 ((rd_T48 l0 x9_1).f1).length c102_1, .slice A102_2 ((rd_T48 l0 x9_1).f2).length c102_2] 48 (0, 0)) (by (with_reducible repeat (first | refine bN ?_ _ | refine bW ?_ | refine bA ?_ _)); exact BK103.out) hb)
               have n1_ := Aside0.mk (below_step belS hb)
               clear BK103
               clear HB
               have BK103 := n0_
               have HB := n1_
               clear n0_ n1_
               (try clear hb)
               (try clear hb2)
               (try clear hk)
               (try clear hi)
               refine hK.out _ _ ⟨(blk_cell BK103.out 0).trans rfl, (blk_cell BK103.out 1).trans rfl, (blk_cell BK103.out 2).trans rfl⟩ (fun hHeld => ?_)
               clear hK K
               refine norm_ (a' := ?_) ?_ ?_
               rotate_left
               ·show Act.put _ (some 40) _ = _
                simp only [Act.put, sA, s0, s1, i64_w, i32_w]
                rfl
               refine pure_ (i := 7) (N := some 41) (v := ?_) (a' := ?_) (tfA 8 3) rfl rfl (any_of HT_.out (by kernel_rfl)) (fun _ _ _ h => h) (Or.inl ⟨by rfl, ?_⟩) ?_ ?_
               rotate_left
               ·intro w'
                go_simp
                first | with_reducible rfl | (rw [if_neg (by have hz_ := c18; simp only [ByteArray.size_append] at hz_; exact Nat.not_lt.2 hz_)]) | (rw [if_neg (by have hz_ := c19; simp only [ByteArray.size_append] at hz_; exact Nat.not_lt.2 hz_)]) | (rw [if_neg (by have hz_ := c20; simp only [ByteArray.size_append] at hz_; exact Nat.not_lt.2 hz_)])
               rotate_left
               ·simp only [Act.put, sA, s0, s1, i64_w, i32_w]
                rfl
               refine pure_ (i := 8) (N := some 42) (v := ?_) (a' := ?_) (tfA 9 2) rfl rfl (any_of HT_.out (by kernel_rfl)) (fun _ _ _ h => h) (Or.inl ⟨by rfl, ?_⟩) ?_ ?_
               rotate_left
               ·intro w'
                go_simp
                first | with_reducible rfl | (rw [if_neg (by have hz_ := c18; simp only [ByteArray.size_append] at hz_; exact Nat.not_lt.2 hz_)]) | (rw [if_neg (by have hz_ := c19; simp only [ByteArray.size_append] at hz_; exact Nat.not_lt.2 hz_)]) | (rw [if_neg (by have hz_ := c20; simp only [ByteArray.size_append] at hz_; exact Nat.not_lt.2 hz_)])
               rotate_left
               ·simp only [Act.put, sA, s0, s1, i64_w, i32_w]
                rfl
               refine pure_ (i := 9) (N := some 43) (v := ?_) (a' := ?_) (tfA 10 1) rfl rfl (any_of HT_.out (by kernel_rfl)) (fun _ _ _ h => h) (Or.inl ⟨by rfl, ?_⟩) ?_ ?_
               rotate_left
               ·intro w'
                go_simp
                first | with_reducible rfl | (rw [if_neg (by have hz_ := c18; simp only [ByteArray.size_append] at hz_; exact Nat.not_lt.2 hz_)]) | (rw [if_neg (by have hz_ := c19; simp only [ByteArray.size_append] at hz_; exact Nat.not_lt.2 hz_)]) | (rw [if_neg (by have hz_ := c20; simp only [ByteArray.size_append] at hz_; exact Nat.not_lt.2 hz_)])
               rotate_left
               ·simp only [Act.put, sA, s0, s1, i64_w, i32_w]
                rfl
               refine pure_ (i := 10) (N := some 4) (v := ?_) (a' := ?_) (tfA 11 0) rfl rfl (any_of HT_.out (by kernel_rfl)) (fun _ _ _ h => h) (Or.inl ⟨by rfl, ?_⟩) ?_ ?_
               rotate_left
               ·intro w'
                go_simp
                first | with_reducible rfl | (rw [if_neg (by have hz_ := c18; simp only [ByteArray.size_append] at hz_; exact Nat.not_lt.2 hz_)]) | (rw [if_neg (by have hz_ := c19; simp only [ByteArray.size_append] at hz_; exact Nat.not_lt.2 hz_)]) | (rw [if_neg (by have hz_ := c20; simp only [ByteArray.size_append] at hz_; exact Nat.not_lt.2 hz_)])
               rotate_left
               ·simp only [Act.put, sA, s0, s1, i64_w, i32_w]
                rfl
               refine done_ (done_of HT_.out (by kernel_rfl)) ?_
               try go_wp2
               go_roundg k1
               case measure => have := HK1.out; omega
               case rel => exact ⟨(x4_1 ++ (((((rd_T48 l0 x9_1).f0) ++ (⟨#[9]⟩ : ByteArray)) ++ t107) ++ (⟨#[10]⟩ : ByteArray))), (wrap64 (x9_1 + 1)), (by first | rfl | (simp; done) | (simp [*]; done) | (simp [bne_nil]; done) | (simp [bne_nil, *]; done)), (by first | rfl | (simp; done) | (simp [*]; done) | (simp [bne_nil]; done) | (simp [bne_nil, *]; done)), H', ⟨by have := HK1.out; omega⟩, ⟨by repeat (first | (with_reducible first | exact HB.out | apply below_alloc | apply pw_below_drewN | apply below_drew1 | refine below_set ?_ GE103.out) | exact HB.out)⟩⟩
              ·rw [if_neg c20] at H
               exact absurd H (by simp)
             ·rw [if_neg c19] at H
              exact absurd H (by simp)
            ·rw [if_neg c18] at H
             exact absurd H (by simp)
           ·rw [if_neg c16] at H
            exact absurd H (by simp)
          ·replace c15 := Bool.eq_false_iff.mpr c15
           subst c15
           have H1 : (some ((⟨#[]⟩ : ByteArray), 2)) = some (r1, r2) := by rw [if_neg (show ¬ (false = true) by decide)] at H; exact H
           clear H
           have H := H1
           clear H1
           simp only [Option.some.injEq, Prod.mk.injEq] at H
           obtain ⟨rfl, rfl⟩ := H
           have p102 : 0 ≤ (x9_1 : Int) := of_decide_eq_true (by first | (with_reducible assumption) | assumption)
           have q102 : x9_1 < (l0.length : Int) := of_decide_eq_true (by first | (with_reducible assumption) | assumption)
           obtain ⟨ad102, A102_1, c102_1, A102_2, c102_2, e102, hx102_0, hx102_1, hx102_2, hl102_1, hi102_1, hl102_2, hi102_2⟩ := at_T48 HR0.out x9_1 p102 q102
           cases e102
           replace hx102_0 := (HB.out.cell (World.block_lt_of_cell? w _ hx102_0)).trans hx102_0
           replace hx102_1 := (HB.out.cell (World.block_lt_of_cell? w _ hx102_1)).trans hx102_1
           replace hx102_2 := (HB.out.cell (World.block_lt_of_cell? w _ hx102_2)).trans hx102_2
           have HR102_1 := Aside0.mk hi102_1
           have HC102_1 := Aside0.mk hl102_1
           clear hi102_1 hl102_1
           have HR102_2 := Aside0.mk hi102_2
           have HC102_2 := Aside0.mk hl102_2
           clear hi102_2 hl102_2
           replace p102 := eq_true p102
           replace q102 := eq_true q102
           go_wp2_with (first | ((with_reducible refine gate_dst (N := 6) rfl ?_); refine box_event ?hg (N := 6) ?hd (cs := #[.string (⟨#[]⟩ : ByteArray), .slice none 0 0, .slice none 0 0]) (t := 48) ?hr ?_; (case hd => rfl); (case hg => rfl); (case hr => first | (go_simp; done) | (go_simp; rfl)); intro gb103 hg w27 hbox hb; have n0_ := Aside0.mk (below_step belH hb); have n1_ := Aside0.mk (hbox); have n2_ := Aside0.mk ((by rw [hg]; exact (below_size belH) : w.heap.size ≤ gb103)); have n3_ := Aside0.mk ((by rw [hg]; exact (below_size belH) : w.heap.size ≤ gb103)); clear HB; have HB := n0_; have BK103 := n1_; have GW103 := n2_; have GE103 := n3_; clear n0_ n1_ n2_ n3_; clear hb hbox hg; have hcz28_0 : w27.cell? ⟨gb103, 0, none⟩ = some (.string (⟨#[]⟩ : ByteArray)) := (blk_cell BK103.out 0).trans rfl; have hcz28_1 : w27.cell? ⟨gb103, 1, none⟩ = some (.slice none 0 0) := (blk_cell BK103.out 1).trans rfl; have hcz28_2 : w27.cell? ⟨gb103, 2, none⟩ = some (.slice none 0 0) := (blk_cell BK103.out 2).trans rfl; have hfz28_0 := blk_frozen BK103.out 0; have hfz28_1 := blk_frozen BK103.out 1; have hfz28_2 := blk_frozen BK103.out 2) | ((with_reducible refine gate_callee (f := 107) rfl ?_); refine goesL_ (some 15) rfl rfl Tryz.func107 (by kernel_rfl) rfl #[.string ((rd_T48 l0 x9_1).f0)] rfl (by (try simp only [List.map_toArray, List.map_cons, List.map_nil]); first | done | rfl | (simp only [List.length_drop, List.length_take]; rfl)) ?_; (with_reducible refine (spec_Word.calls k1 ((rd_T48 l0 x9_1).f0) true _ A5.out).mono ?_); rintro e w' ⟨rfl, ⟨nd, rfl⟩⟩; refine ⟨_, rfl, ?_⟩; have p8 : 0 ≤ (0 : Int) := (by omega); have q8 : 0 < ((rd_T48 l0 x9_1).f0).size := (by have : (0 : Int) < (((rd_T48 l0 x9_1).f0).size : Int) := of_decide_eq_true (by first | (with_reducible assumption) | assumption); omega); have hx8 : ∀ h : 0 < ((rd_T48 l0 x9_1).f0).size, ((((rd_T48 l0 x9_1).f0)[0]'h).toNat : Int) = bt ((rd_T48 l0 x9_1).f0) 0 := bt_at ((rd_T48 l0 x9_1).f0) 0; clear p8; have qi8 : (0 < (((rd_T48 l0 x9_1).f0).size : Int)) = True := eq_true (of_decide_eq_true (by first | (with_reducible assumption) | assumption)); replace q8 := eq_true q8) | (go_at_call 45; (with_reducible refine (spec_sized.calls ((rd_T48 l0 x9_1).f0) _ _ ((rd_T48 l0 x9_1).f1) _ _ ((rd_T48 l0 x9_1).f2) 3 0 true _ ?side1 ?side2 ?side3 ?side4 A12.out).mono ?_); (case side1 => exact Kd.C_below HR102_1.out belS); (case side2 => exact HC102_1.out); (case side3 => exact Kd.C_below HR102_2.out belS); (case side4 => exact HC102_2.out); rintro e w29 ⟨rfl, hb⟩; have n0_ := Aside0.mk (blk_below (g := gb103) (o := .cells #[.string ((rd_T48 l0 x9_1).f0), .slice A102_1 ((rd_T48 l0 x9_1).f1).length c102_1, .slice A102_2 ((rd_T48 l0 x9_1).f2).length c102_2] 48 (0, 0)) (by (with_reducible repeat (first | refine bN ?_ _ | refine bW ?_ | refine bA ?_ _)); refine blk_put (cs := #[.string ((rd_T48 l0 x9_1).f0), .slice A102_1 ((rd_T48 l0 x9_1).f1).length c102_1, .slice none 0 0]) ?_ 2 _ rfl; (with_reducible repeat (first | refine bN ?_ _ | refine bW ?_ | refine bA ?_ _)); refine blk_put (cs := #[.string ((rd_T48 l0 x9_1).f0), .slice none 0 0, .slice none 0 0]) ?_ 1 _ rfl; (with_reducible repeat (first | refine bN ?_ _ | refine bW ?_ | refine bA ?_ _)); refine blk_put (cs := #[.string (⟨#[]⟩ : ByteArray), .slice none 0 0, .slice none 0 0]) ?_ 0 _ rfl; (with_reducible repeat (first | refine bN ?_ _ | refine bW ?_ | refine bA ?_ _)); exact BK103.out) hb); have n1_ := Aside0.mk (below_step belS hb); clear BK103; clear HB; have BK103 := n0_; have HB := n1_; clear n0_ n1_; (try clear hb); (try clear hb2); (try clear hk); (try clear hi); have hcz30_0 : w29.cell? ⟨gb103, 0, none⟩ = some (.string ((rd_T48 l0 x9_1).f0)) := (blk_cell BK103.out 0).trans rfl; have hcz30_1 : w29.cell? ⟨gb103, 1, none⟩ = some (.slice A102_1 ((rd_T48 l0 x9_1).f1).length c102_1) := (blk_cell BK103.out 1).trans rfl; have hcz30_2 : w29.cell? ⟨gb103, 2, none⟩ = some (.slice A102_2 ((rd_T48 l0 x9_1).f2).length c102_2) := (blk_cell BK103.out 2).trans rfl; have hfz30_0 := blk_frozen BK103.out 0; have hfz30_1 := blk_frozen BK103.out 1; have hfz30_2 := blk_frozen BK103.out 2) | (go_at_call 46; (with_reducible refine (spec_small.calls k1 2147483648 _ _ ((rd_T48 l0 x9_1).f1) false _ ?side1 ?side2 A14.out).mono ?_); (case side1 => repeat (first | exact (Kd.C_below HR102_1.out HB.out) | (with_reducible refine Kd.C_alloc ?_ _) | (with_reducible refine Kd.C_drewN ?_ _) | (with_reducible refine Kd.C_drew ?_))); (case side2 => exact HC102_1.out); rintro e w' ⟨rfl, ⟨nd, rfl⟩⟩))
           go_ret2
           exact ⟨by first | rfl | (simp [errW_none, errW_some] <;> rfl) | (simp [*, errW_none, errW_some] <;> rfl), by repeat (first | (with_reducible first | exact HB.out | apply below_alloc | apply pw_below_drewN | apply below_drew1 | refine below_set ?_ GE103.out) | exact HB.out)⟩
         ·replace c13 := Bool.eq_false_iff.mpr c13
          subst c13
          have H1 : (some ((⟨#[]⟩ : ByteArray), 2)) = some (r1, r2) := by rw [if_neg (show ¬ (false = true) by decide)] at H; exact H
          clear H
          have H := H1
          clear H1
          simp only [Option.some.injEq, Prod.mk.injEq] at H
          obtain ⟨rfl, rfl⟩ := H
          have p102 : 0 ≤ (x9_1 : Int) := of_decide_eq_true (by first | (with_reducible assumption) | assumption)
          have q102 : x9_1 < (l0.length : Int) := of_decide_eq_true (by first | (with_reducible assumption) | assumption)
          obtain ⟨ad102, A102_1, c102_1, A102_2, c102_2, e102, hx102_0, hx102_1, hx102_2, hl102_1, hi102_1, hl102_2, hi102_2⟩ := at_T48 HR0.out x9_1 p102 q102
          cases e102
          replace hx102_0 := (HB.out.cell (World.block_lt_of_cell? w _ hx102_0)).trans hx102_0
          replace hx102_1 := (HB.out.cell (World.block_lt_of_cell? w _ hx102_1)).trans hx102_1
          replace hx102_2 := (HB.out.cell (World.block_lt_of_cell? w _ hx102_2)).trans hx102_2
          have HR102_1 := Aside0.mk hi102_1
          have HC102_1 := Aside0.mk hl102_1
          clear hi102_1 hl102_1
          have HR102_2 := Aside0.mk hi102_2
          have HC102_2 := Aside0.mk hl102_2
          clear hi102_2 hl102_2
          replace p102 := eq_true p102
          replace q102 := eq_true q102
          go_wp2_with (first | ((with_reducible refine gate_dst (N := 6) rfl ?_); refine box_event ?hg (N := 6) ?hd (cs := #[.string (⟨#[]⟩ : ByteArray), .slice none 0 0, .slice none 0 0]) (t := 48) ?hr ?_; (case hd => rfl); (case hg => rfl); (case hr => first | (go_simp; done) | (go_simp; rfl)); intro gb103 hg w31 hbox hb; have n0_ := Aside0.mk (below_step belH hb); have n1_ := Aside0.mk (hbox); have n2_ := Aside0.mk ((by rw [hg]; exact (below_size belH) : w.heap.size ≤ gb103)); have n3_ := Aside0.mk ((by rw [hg]; exact (below_size belH) : w.heap.size ≤ gb103)); clear HB; have HB := n0_; have BK103 := n1_; have GW103 := n2_; have GE103 := n3_; clear n0_ n1_ n2_ n3_; clear hb hbox hg; have hcz32_0 : w31.cell? ⟨gb103, 0, none⟩ = some (.string (⟨#[]⟩ : ByteArray)) := (blk_cell BK103.out 0).trans rfl; have hcz32_1 : w31.cell? ⟨gb103, 1, none⟩ = some (.slice none 0 0) := (blk_cell BK103.out 1).trans rfl; have hcz32_2 : w31.cell? ⟨gb103, 2, none⟩ = some (.slice none 0 0) := (blk_cell BK103.out 2).trans rfl; have hfz32_0 := blk_frozen BK103.out 0; have hfz32_1 := blk_frozen BK103.out 1; have hfz32_2 := blk_frozen BK103.out 2) | ((with_reducible refine gate_callee (f := 107) rfl ?_); refine goesL_ (some 15) rfl rfl Tryz.func107 (by kernel_rfl) rfl #[.string ((rd_T48 l0 x9_1).f0)] rfl (by (try simp only [List.map_toArray, List.map_cons, List.map_nil]); first | done | rfl | (simp only [List.length_drop, List.length_take]; rfl)) ?_; (with_reducible refine (spec_Word.calls k1 ((rd_T48 l0 x9_1).f0) true _ A5.out).mono ?_); rintro e w' ⟨rfl, ⟨nd, rfl⟩⟩; refine ⟨_, rfl, ?_⟩; have p8 : 0 ≤ (0 : Int) := (by omega); have q8 : 0 < ((rd_T48 l0 x9_1).f0).size := (by have : (0 : Int) < (((rd_T48 l0 x9_1).f0).size : Int) := of_decide_eq_true (by first | (with_reducible assumption) | assumption); omega); have hx8 : ∀ h : 0 < ((rd_T48 l0 x9_1).f0).size, ((((rd_T48 l0 x9_1).f0)[0]'h).toNat : Int) = bt ((rd_T48 l0 x9_1).f0) 0 := bt_at ((rd_T48 l0 x9_1).f0) 0; clear p8; have qi8 : (0 < (((rd_T48 l0 x9_1).f0).size : Int)) = True := eq_true (of_decide_eq_true (by first | (with_reducible assumption) | assumption)); replace q8 := eq_true q8) | (go_at_call 45; (with_reducible refine (spec_sized.calls ((rd_T48 l0 x9_1).f0) _ _ ((rd_T48 l0 x9_1).f1) _ _ ((rd_T48 l0 x9_1).f2) 3 0 false _ ?side1 ?side2 ?side3 ?side4 A12.out).mono ?_); (case side1 => exact Kd.C_below HR102_1.out belS); (case side2 => exact HC102_1.out); (case side3 => exact Kd.C_below HR102_2.out belS); (case side4 => exact HC102_2.out); rintro e w33 ⟨rfl, hb⟩; have n0_ := Aside0.mk (blk_below (g := gb103) (o := .cells #[.string ((rd_T48 l0 x9_1).f0), .slice A102_1 ((rd_T48 l0 x9_1).f1).length c102_1, .slice A102_2 ((rd_T48 l0 x9_1).f2).length c102_2] 48 (0, 0)) (by (with_reducible repeat (first | refine bN ?_ _ | refine bW ?_ | refine bA ?_ _)); refine blk_put (cs := #[.string ((rd_T48 l0 x9_1).f0), .slice A102_1 ((rd_T48 l0 x9_1).f1).length c102_1, .slice none 0 0]) ?_ 2 _ rfl; (with_reducible repeat (first | refine bN ?_ _ | refine bW ?_ | refine bA ?_ _)); refine blk_put (cs := #[.string ((rd_T48 l0 x9_1).f0), .slice none 0 0, .slice none 0 0]) ?_ 1 _ rfl; (with_reducible repeat (first | refine bN ?_ _ | refine bW ?_ | refine bA ?_ _)); refine blk_put (cs := #[.string (⟨#[]⟩ : ByteArray), .slice none 0 0, .slice none 0 0]) ?_ 0 _ rfl; (with_reducible repeat (first | refine bN ?_ _ | refine bW ?_ | refine bA ?_ _)); exact BK103.out) hb); have n1_ := Aside0.mk (below_step belS hb); clear BK103; clear HB; have BK103 := n0_; have HB := n1_; clear n0_ n1_; (try clear hb); (try clear hb2); (try clear hk); (try clear hi)))
          go_ret2
          exact ⟨by first | rfl | (simp [errW_none, errW_some] <;> rfl) | (simp [*, errW_none, errW_some] <;> rfl), by repeat (first | (with_reducible first | exact HB.out | apply below_alloc | apply pw_below_drewN | apply below_drew1 | refine below_set ?_ GE103.out) | exact HB.out)⟩
       ·rw [if_neg c7] at H
        exact absurd H (by simp)
      ·replace c6 := Bool.eq_false_iff.mpr c6
       subst c6
       have H1 : (some ((⟨#[]⟩ : ByteArray), 2)) = some (r1, r2) := by rw [if_neg (show ¬ (false = true) by decide)] at H; exact H
       clear H
       have H := H1
       clear H1
       simp only [Option.some.injEq, Prod.mk.injEq] at H
       obtain ⟨rfl, rfl⟩ := H
       have p102 : 0 ≤ (x9_1 : Int) := of_decide_eq_true (by first | (with_reducible assumption) | assumption)
       have q102 : x9_1 < (l0.length : Int) := of_decide_eq_true (by first | (with_reducible assumption) | assumption)
       obtain ⟨ad102, A102_1, c102_1, A102_2, c102_2, e102, hx102_0, hx102_1, hx102_2, hl102_1, hi102_1, hl102_2, hi102_2⟩ := at_T48 HR0.out x9_1 p102 q102
       cases e102
       replace hx102_0 := (HB.out.cell (World.block_lt_of_cell? w _ hx102_0)).trans hx102_0
       replace hx102_1 := (HB.out.cell (World.block_lt_of_cell? w _ hx102_1)).trans hx102_1
       replace hx102_2 := (HB.out.cell (World.block_lt_of_cell? w _ hx102_2)).trans hx102_2
       have HR102_1 := Aside0.mk hi102_1
       have HC102_1 := Aside0.mk hl102_1
       clear hi102_1 hl102_1
       have HR102_2 := Aside0.mk hi102_2
       have HC102_2 := Aside0.mk hl102_2
       clear hi102_2 hl102_2
       replace p102 := eq_true p102
       replace q102 := eq_true q102
       go_wp2_with (first | ((with_reducible refine gate_dst (N := 6) rfl ?_); refine box_event ?hg (N := 6) ?hd (cs := #[.string (⟨#[]⟩ : ByteArray), .slice none 0 0, .slice none 0 0]) (t := 48) ?hr ?_; (case hd => rfl); (case hg => rfl); (case hr => first | (go_simp; done) | (go_simp; rfl)); intro gb103 hg w34 hbox hb; have n0_ := Aside0.mk (below_step belH hb); have n1_ := Aside0.mk (hbox); have n2_ := Aside0.mk ((by rw [hg]; exact (below_size belH) : w.heap.size ≤ gb103)); have n3_ := Aside0.mk ((by rw [hg]; exact (below_size belH) : w.heap.size ≤ gb103)); clear HB; have HB := n0_; have BK103 := n1_; have GW103 := n2_; have GE103 := n3_; clear n0_ n1_ n2_ n3_; clear hb hbox hg; have hcz35_0 : w34.cell? ⟨gb103, 0, none⟩ = some (.string (⟨#[]⟩ : ByteArray)) := (blk_cell BK103.out 0).trans rfl; have hcz35_1 : w34.cell? ⟨gb103, 1, none⟩ = some (.slice none 0 0) := (blk_cell BK103.out 1).trans rfl; have hcz35_2 : w34.cell? ⟨gb103, 2, none⟩ = some (.slice none 0 0) := (blk_cell BK103.out 2).trans rfl; have hfz35_0 := blk_frozen BK103.out 0; have hfz35_1 := blk_frozen BK103.out 1; have hfz35_2 := blk_frozen BK103.out 2) | ((with_reducible refine gate_callee (f := 107) rfl ?_); refine goesL_ (some 15) rfl rfl Tryz.func107 (by kernel_rfl) rfl #[.string ((rd_T48 l0 x9_1).f0)] rfl (by (try simp only [List.map_toArray, List.map_cons, List.map_nil]); first | done | rfl | (simp only [List.length_drop, List.length_take]; rfl)) ?_; (with_reducible refine (spec_Word.calls k1 ((rd_T48 l0 x9_1).f0) false _ A5.out).mono ?_); rintro e w' ⟨rfl, ⟨nd, rfl⟩⟩; refine ⟨_, rfl, ?_⟩))
       go_ret2
       exact ⟨by first | rfl | (simp [errW_none, errW_some] <;> rfl) | (simp [*, errW_none, errW_some] <;> rfl), by repeat (first | (with_reducible first | exact HB.out | apply below_alloc | apply pw_below_drewN | apply below_drew1 | refine below_set ?_ GE103.out) | exact HB.out)⟩
     ·rw [if_neg c4] at H
      exact absurd H (by simp)
    ·rw [if_neg c3] at H
     exact absurd H (by simp)
   ·rw [if_neg c2] at H
    have c2b0 : decide (x9_1 < (l0.length : Int)) = false := decide_eq_false c2
    clear c2
    simp only [Option.some.injEq, Prod.mk.injEq] at H
    obtain ⟨rfl, rfl⟩ := H
    go_wp2
    go_ret2
    exact ⟨by first | rfl | (simp [errW_none, errW_some] <;> rfl) | (simp [*, errW_none, errW_some] <;> rfl), by repeat (first | (with_reducible first | exact HB.out | apply below_alloc | apply pw_below_drewN | apply below_drew1) | exact HB.out)⟩

/-! ### spec_Ends: function 56 -/
def spec_Ends.f (a0 : ByteArray) (a1 : ByteArray) : Option (Bool) := if (a0.size : Int) ≥ (a1.size : Int) then (if 0 ≤ (wrap64 ((a0.size : Int) - (a1.size : Int))) then (if (wrap64 ((a0.size : Int) - (a1.size : Int))) ≤ (a0.size : Int) then (some ((a0.extract ((wrap64 ((a0.size : Int) - (a1.size : Int))) : Int).toNat a0.size).toList == a1.toList)) else (none)) else (none)) else (some false)
set_option maxHeartbeats 8000000 in
set_option maxRecDepth 100000 in
theorem spec_Ends.calls (a0 : ByteArray) (a1 : ByteArray) (r : Bool) (w : World) (h : spec_Ends.f a0 a1 = some r) :
  Calls Tryz.prog 56 #[.string a0, .string a1] w fun e w' => e = .returned (.bool r) ∧ Drawn0 w w' := by
 have H : (if (a0.size : Int) ≥ (a1.size : Int) then (if 0 ≤ (wrap64 ((a0.size : Int) - (a1.size : Int))) then (if (wrap64 ((a0.size : Int) - (a1.size : Int))) ≤ (a0.size : Int) then (some ((a0.extract ((wrap64 ((a0.size : Int) - (a1.size : Int))) : Int).toNat a0.size).toList == a1.toList)) else (none)) else (none)) else (some false)) = some r := h
 clear h
 by_cases c3 : (a0.size : Int) ≥ (a1.size : Int)
 ·rw [if_pos c3] at H
  have c3b0 : decide ((a1.size : Int) ≤ (a0.size : Int)) = true := decide_eq_true c3
  have c3b1 : decide (a1.size ≤ a0.size) = true := decide_eq_true (Int.ofNat_le.mp c3)
  clear c3
  obtain ⟨ji4, hji4⟩ : ∃ j_ : Int, (wrap64 ((a0.size : Int) - (a1.size : Int))) = j_ := ⟨_, rfl⟩
  replace H : (if 0 ≤ (ji4) then (if (ji4) ≤ (a0.size : Int) then (some ((a0.extract ((ji4) : Int).toNat a0.size).toList == a1.toList)) else (none)) else (none)) = some r := by first | (rw [hji4] at H; exact H) | (simp only [hji4] at H ⊢; exact H)
  have hji4w : (IntKind.i64.wrap ((a0.size : Int) - (a1.size : Int))) = ji4 := (i64_w _).trans hji4
  by_cases c5 : 0 ≤ (ji4)
  ·rw [if_pos c5] at H
   have c5b0 := eq_true c5
   have c5b1 : decide (0 ≤ (ji4)) = true := decide_eq_true c5
   clear c5
   by_cases c6 : (ji4) ≤ (a0.size : Int)
   ·rw [if_pos c6] at H
    have c6b0 := eq_true c6
    have c6b1 : decide ((ji4) ≤ (a0.size : Int)) = true := decide_eq_true c6
    clear c6
    obtain rfl := Option.some.inj H
    go_enter Tryz.func56, Tryz.ntmps56
    go_wp2
    go_ret
    exact ⟨by first | rfl | (simp; done) | (simp only [← hji4] <;> (first | rfl | simp)) | (simp [*]; done), by repeat (first | exact Drawn0.refl _ | apply Drawn0.step)⟩
   ·rw [if_neg c6] at H
    exact absurd H (by simp)
  ·rw [if_neg c5] at H
   exact absurd H (by simp)
 ·rw [if_neg c3] at H
  have c3b0 : decide ((a1.size : Int) ≤ (a0.size : Int)) = false := decide_eq_false c3
  have c3b1 : decide (a1.size ≤ a0.size) = false := decide_eq_false (fun h => c3 (Int.ofNat_le.mpr h))
  clear c3
  obtain rfl := Option.some.inj H
  go_enter Tryz.func56, Tryz.ntmps56
  go_wp2
  go_ret
  exact ⟨by first | rfl | (simp; done) | (simp [*]; done) | (simp [bne_nil]; done) | (simp [bne_nil, *]; done), by repeat (first | exact Drawn0.refl _ | apply Drawn0.step)⟩

end Go.Proofs.YtdmpbaanonafbaaGreatDoor.C
