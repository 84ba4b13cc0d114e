-- written by a program of this session (wip/tools/pp.py)
import Derived.Test.YtdmpbaanonafbaaGreatDoorL1
namespace Go.Proofs.YtdmpbaanonafbaaGreatDoor.L
open Go.RowKit Go.Proofs.YtdmpbaanonafbaaGreatDoorW.PrintWords Go.Proofs.YtdmpbaanonafbaaGreatDoorW.PrintLast Go.Proofs.YtdmpbaanonafbaaGreatDoor.Flt Go.Proofs.YtdmpbaanonafbaaGreatDoor.GivZ Go.Proofs.YtdmpbaanonafbaaGreatDoorW.PrintMore
attribute [local go_sem] max2_int min2_int max_two min_two max_three min_three max_four min_four   -- for this text's walks alone
set_option linter.unusedVariables false
set_option linter.unusedSimpArgs false

/-! ### spec_Number: function 81 -/
def spec_Number.l0 : Nat → ByteArray → Int → Int → Int → Int → Option (Int × Bool)
 | 0, _, _, _, _, _ => none
 | k + 1, x0, x1, x6, x10, x11 => if x11 < x10 then (if 0 ≤ x11 then (if x11 < (x0.size : Int) then ((spec_digit.f k (bt x0 x11)).bind fun t117 => (if t117 ≥ x1 then (some (0, false)) else (if x1 = 0 then (none) else (if x6 > (IntKind.u64.wrap (Int.tdiv (IntKind.u64.wrap (18446744073709551615 - t117)) x1)) then (some (0, false)) else (spec_Number.l0 k x0 x1 (IntKind.u64.wrap ((IntKind.u64.wrap (x6 * x1)) + t117)) x10 (wrap64 (x11 + 1))))))) else (none)) else (none)) else (some (x6, (x0.toList != ([] : List UInt8))))
def spec_Number.f (k : Nat) (a0 : ByteArray) (a1 : Int) : Option (Int × Bool) := spec_Number.l0 k a0 a1 0 (a0.size : Int) 0
theorem spec_Number.mono_l : ∀ k, (∀ y0 y1 y2 y3 y4, LeO (spec_Number.l0 k y0 y1 y2 y3 y4) (spec_Number.l0 (k + 1) y0 y1 y2 y3 y4))
 | 0 => fun _ _ _ _ _ r h => by simp [spec_Number.l0] at h
 | k + 1 => by
  have ih0 := spec_Number.mono_l k
  ·intro y0 y1 y2 y3 y4
   unfold spec_Number.l0
   repeat' first
   | (with_reducible exact ih0 _ _ _ _ _)
   | (with_reducible exact spec_digit.mono _ _)
   | (with_reducible exact LeO.refl _)
   | (with_reducible exact LeO.none _)
   | (with_reducible refine LeO.ite ?_ ?_)
   | (with_reducible refine LeO.bind ?_ (fun _ => ?_))
   | exact ih0 _ _ _ _ _
   | exact spec_digit.mono _ _
   | exact LeO.none _
   | refine LeO.ite ?_ ?_
   | refine LeO.bind ?_ (fun _ => ?_)
theorem spec_Number.mono : ∀ a0 a1 k, LeO (spec_Number.f k a0 a1) (spec_Number.f (k + 1) a0 a1) := by
 intro a0 a1 k
 have ih0 := spec_Number.mono_l k
 unfold spec_Number.f
 repeat' first
   | (with_reducible exact ih0 _ _ _ _ _)
   | (with_reducible exact spec_digit.mono _ _)
   | (with_reducible exact LeO.refl _)
   | (with_reducible exact LeO.none _)
   | (with_reducible refine LeO.ite ?_ ?_)
   | (with_reducible refine LeO.bind ?_ (fun _ => ?_))
   | exact ih0 _ _ _ _ _
   | exact spec_digit.mono _ _
   | exact LeO.none _
   | refine LeO.ite ?_ ?_
   | refine LeO.bind ?_ (fun _ => ?_)
set_option maxHeartbeats 8000000 in
set_option maxRecDepth 100000 in
theorem spec_Number.calls (k : Nat) (a0 : ByteArray) (a1 : Int) (r1 : Int) (r2 : Bool) (w : World) (h : spec_Number.f k a0 a1 = some (r1, r2)) :
  Calls Tryz.prog 81 #[.string a0, .int .u64 a1] w fun e w' => e = .returned (.tuple #[.int .u64 r1, .bool r2]) ∧ Drawn0 w w' := by
 have H : (spec_Number.l0 k a0 a1 0 (a0.size : Int) 0) = some (r1, r2) := h
 clear h
 have H' := Aside0.mk H
 clear H
 go_enter Tryz.func81, Tryz.ntmps81
 go_wp2
 go_loopg [6, 11] k (fun kq v6 v11 w' => ∃ (x6_1 : Int) (x11_1 : Int), v6 = .int .u64 x6_1 ∧ v11 = .int .i64 x11_1 ∧ Aside0 (spec_Number.l0 kq a0 a1 x6_1 (a0.size : Int) x11_1 = some (r1, r2)) ∧ Aside0 (kq ≤ k) ∧ Drawn0 w w')
 case atStart => exact ⟨(0), (0), (by first | rfl | (simp; done) | (simp [*]; done) | (simp [bne_nil]; done) | (simp [bne_nil, *]; done)), (by first | rfl | (simp; done) | (simp [*]; done) | (simp [bne_nil]; done) | (simp [bne_nil, *]; done)), H', ⟨Nat.le_refl _⟩, by repeat (first | exact Drawn0.refl _ | apply Drawn0.step)⟩
 case round =>
  clear H'
  try clear p2
  obtain ⟨x6_1, x11_1, rfl, rfl, HA, HK1, ⟨m1, rfl⟩⟩ := hrel
  cases gk with
  | zero => exact absurd HA.out (by simp [spec_Number.l0])
  | succ k1 =>
   have H := HA.out
   clear HA
   simp only [spec_Number.l0] at H
   by_cases c3 : x11_1 < (a0.size : Int)
   ·rw [if_pos c3] at H
    have c3b0 : decide (x11_1 < (a0.size : Int)) = true := decide_eq_true c3
    clear c3
    by_cases c4 : 0 ≤ x11_1
    ·rw [if_pos c4] at H
     have c4b0 : decide (0 ≤ x11_1) = true := decide_eq_true c4
     clear c4
     by_cases c5 : x11_1 < (a0.size : Int)
     ·rw [if_pos c5] at H
      have c5b0 : decide (x11_1 < (a0.size : Int)) = true := decide_eq_true c5
      clear c5
      replace H := Option.bind_eq_some_iff.mp H
      obtain ⟨t117, A70, H⟩ := H
      have A7 := Aside0.mk A70
      clear A70
      by_cases c8 : t117 ≥ a1
      ·rw [if_pos c8] at H
       have c8b0 : decide (a1 ≤ t117) = true := decide_eq_true c8
       clear c8
       simp only [Option.some.injEq, Prod.mk.injEq] at H
       obtain ⟨rfl, rfl⟩ := H
       have p6 : 0 ≤ (x11_1 : Int) := of_decide_eq_true (by first | (with_reducible assumption) | assumption)
       have q6 : x11_1 < (a0.size : Int) := of_decide_eq_true (by first | (with_reducible assumption) | assumption)
       have hx6 := bt_at a0 x11_1
       replace p6 := eq_true p6
       replace q6 := eq_true q6
       go_wp2_with (first | ((with_reducible refine gate_callee (f := 143) rfl ?_); refine goesL_ (some 17) rfl rfl Tryz.func143 (by kernel_rfl) rfl #[.int .u8 (bt a0 x11_1)] rfl (by (try simp only [List.map_toArray, List.map_cons, List.map_nil]); first | done | rfl | (simp only [List.length_drop, List.length_take]; rfl)) ?_; (with_reducible refine (spec_digit.calls k1 (bt a0 x11_1) t117 _ A7.out).mono ?_); rintro e w' ⟨rfl, ⟨nd, rfl⟩⟩; refine ⟨_, rfl, ?_⟩))
       go_ret2
       exact ⟨by first | rfl | (simp; done) | (simp [*]; done) | (simp [bne_nil]; done) | (simp [bne_nil, *]; done), by repeat (first | exact Drawn0.refl _ | apply Drawn0.step)⟩
      ·rw [if_neg c8] at H
       have c8b0 : decide (a1 ≤ t117) = false := decide_eq_false c8
       clear c8
       by_cases c9 : a1 = 0
       ·rw [if_pos c9] at H
        exact absurd H (by simp)
       ·rw [if_neg c9] at H
        have c9b0 : (a1 == 0) = false := beq_eq_false_iff_ne.mpr c9
        have c9b1 : (a1 != 0) = true := bne_iff_ne.mpr c9
        by_cases c10 : x6_1 > (IntKind.u64.wrap (Int.tdiv (IntKind.u64.wrap (18446744073709551615 - t117)) a1))
        ·rw [if_pos c10] at H
         have c10b0 : decide ((IntKind.u64.wrap (Int.tdiv (IntKind.u64.wrap (18446744073709551615 - t117)) a1)) < x6_1) = true := decide_eq_true c10
         clear c10
         simp only [Option.some.injEq, Prod.mk.injEq] at H
         obtain ⟨rfl, rfl⟩ := H
         have p6 : 0 ≤ (x11_1 : Int) := of_decide_eq_true (by first | (with_reducible assumption) | assumption)
         have q6 : x11_1 < (a0.size : Int) := of_decide_eq_true (by first | (with_reducible assumption) | assumption)
         have hx6 := bt_at a0 x11_1
         replace p6 := eq_true p6
         replace q6 := eq_true q6
         go_wp2_with (first | ((with_reducible refine gate_callee (f := 143) rfl ?_); refine goesL_ (some 17) rfl rfl Tryz.func143 (by kernel_rfl) rfl #[.int .u8 (bt a0 x11_1)] rfl (by (try simp only [List.map_toArray, List.map_cons, List.map_nil]); first | done | rfl | (simp only [List.length_drop, List.length_take]; rfl)) ?_; (with_reducible refine (spec_digit.calls k1 (bt a0 x11_1) t117 _ A7.out).mono ?_); rintro e w' ⟨rfl, ⟨nd, rfl⟩⟩; refine ⟨_, rfl, ?_⟩))
         go_ret2
         exact ⟨by first | rfl | (simp; done) | (simp [*]; done) | (simp [bne_nil]; done) | (simp [bne_nil, *]; done), by repeat (first | exact Drawn0.refl _ | apply Drawn0.step)⟩
        ·rw [if_neg c10] at H
         have c10b0 : decide ((IntKind.u64.wrap (Int.tdiv (IntKind.u64.wrap (18446744073709551615 - t117)) a1)) < x6_1) = false := decide_eq_false c10
         clear c10
         have H' := Aside0.mk H
         clear H
         have p6 : 0 ≤ (x11_1 : Int) := of_decide_eq_true (by first | (with_reducible assumption) | assumption)
         have q6 : x11_1 < (a0.size : Int) := of_decide_eq_true (by first | (with_reducible assumption) | assumption)
         have hx6 := bt_at a0 x11_1
         replace p6 := eq_true p6
         replace q6 := eq_true q6
         go_wp2_with (first | ((with_reducible refine gate_callee (f := 143) rfl ?_); refine goesL_ (some 17) rfl rfl Tryz.func143 (by kernel_rfl) rfl #[.int .u8 (bt a0 x11_1)] rfl (by (try simp only [List.map_toArray, List.map_cons, List.map_nil]); first | done | rfl | (simp only [List.length_drop, List.length_take]; rfl)) ?_; (with_reducible refine (spec_digit.calls k1 (bt a0 x11_1) t117 _ A7.out).mono ?_); rintro e w' ⟨rfl, ⟨nd, rfl⟩⟩; refine ⟨_, rfl, ?_⟩))
         go_roundg k1
         case measure => have := HK1.out; omega
         case rel => exact ⟨(IntKind.u64.wrap ((IntKind.u64.wrap (x6_1 * a1)) + t117)), (wrap64 (x11_1 + 1)), (by first | rfl | (simp; done) | (simp [*]; done) | (simp [bne_nil]; done) | (simp [bne_nil, *]; done)), (by first | rfl | (simp; done) | (simp [*]; done) | (simp [bne_nil]; done) | (simp [bne_nil, *]; done)), H', ⟨by have := HK1.out; omega⟩, by repeat (first | exact Drawn0.refl _ | apply Drawn0.step)⟩
     ·rw [if_neg c5] at H
      exact absurd H (by simp)
    ·rw [if_neg c4] at H
     exact absurd H (by simp)
   ·rw [if_neg c3] at H
    have c3b0 : decide (x11_1 < (a0.size : Int)) = false := decide_eq_false c3
    clear c3
    simp only [Option.some.injEq, Prod.mk.injEq] at H
    obtain ⟨rfl, rfl⟩ := H
    go_wp2
    go_ret2
    exact ⟨by first | rfl | (simp; done) | (simp [*]; done) | (simp [bne_nil]; done) | (simp [bne_nil, *]; done), by repeat (first | exact Drawn0.refl _ | apply Drawn0.step)⟩

/-! ### spec_Dec: function 74 -/
def spec_Dec.f (k : Nat) (a0 : ByteArray) : Option (Int × Bool) := (spec_Number.f k a0 10).bind fun bt118 => (some (bt118.1, bt118.2))
theorem spec_Dec.mono : ∀ a0 k, LeO (spec_Dec.f k a0) (spec_Dec.f (k + 1) a0) := by
 intro a0 k
 unfold spec_Dec.f
 repeat' first
   | (with_reducible exact spec_Number.mono _ _ _)
   | (with_reducible exact LeO.refl _)
   | (with_reducible exact LeO.none _)
   | (with_reducible refine LeO.ite ?_ ?_)
   | (with_reducible refine LeO.bind ?_ (fun _ => ?_))
   | exact spec_Number.mono _ _ _
   | exact LeO.none _
   | refine LeO.ite ?_ ?_
   | refine LeO.bind ?_ (fun _ => ?_)
set_option maxHeartbeats 8000000 in
set_option maxRecDepth 100000 in
theorem spec_Dec.calls (k : Nat) (a0 : ByteArray) (r1 : Int) (r2 : Bool) (w : World) (h : spec_Dec.f k a0 = some (r1, r2)) :
  Calls Tryz.prog 74 #[.string a0] w fun e w' => e = .returned (.tuple #[.int .u64 r1, .bool r2]) ∧ Drawn0 w w' := by
 have H : ((spec_Number.f k a0 10).bind fun bt118 => (some (bt118.1, bt118.2))) = some (r1, r2) := h
 clear h
 replace H := Option.bind_eq_some_iff.mp H
 obtain ⟨⟨t118, t119⟩, A20, H⟩ := H
 have A2 := Aside0.mk A20
 clear A20
 simp only [Option.some.injEq, Prod.mk.injEq] at H
 obtain ⟨rfl, rfl⟩ := H
 go_enter Tryz.func74, Tryz.ntmps74
 go_wp2_with (first | ((with_reducible refine gate_callee (f := 81) rfl ?_); refine goesL_ (some 5) rfl rfl Tryz.func81 (by kernel_rfl) rfl #[.string a0, .int .u64 10] rfl (by (try simp only [List.map_toArray, List.map_cons, List.map_nil]); first | done | rfl | (simp only [List.length_drop, List.length_take]; rfl)) ?_; (with_reducible refine (spec_Number.calls k a0 10 t118 t119 _ A2.out).mono ?_); rintro e w' ⟨rfl, ⟨nd, rfl⟩⟩; refine ⟨_, rfl, ?_⟩))
 go_ret2
 exact ⟨by first | rfl | (simp; done) | (simp [*]; done) | (simp [bne_nil]; done) | (simp [bne_nil, *]; done), by repeat (first | exact Drawn0.refl _ | apply Drawn0.step)⟩

/-! ### spec_Digits: function 117 -/
def spec_Digits.f : Nat → Int → Int → Option (ByteArray)
 | 0, _, _ => none
 | k + 1, a0, a1 => if a1 = 0 then (none) else (if 0 ≤ (Int.tmod a0 a1) then (if (Int.tmod a0 a1) < 16 then (if a0 < a1 then (some (strOfNums (([bt (⟨#[48, 49, 50, 51, 52, 53, 54, 55, 56, 57, 97, 98, 99, 100, 101, 102]⟩ : ByteArray) (Int.tmod a0 a1)] : List Int)))) else ((spec_Digits.f k (IntKind.u64.wrap (Int.tdiv a0 a1)) a1).bind fun t123 => ((some (([bt (⟨#[48, 49, 50, 51, 52, 53, 54, 55, 56, 57, 97, 98, 99, 100, 101, 102]⟩ : ByteArray) (Int.tmod a0 a1)] : List Int) : List Int)).bind fun y124 => (if t123.size + (strOfNums y124).size ≤ 9223372036854775807 then (some (t123 ++ (strOfNums y124))) else (none))))) else (none)) else (none))
theorem spec_Digits.mono_l : ∀ k, (∀ y0 y1, LeO (spec_Digits.f k y0 y1) (spec_Digits.f (k + 1) y0 y1))
 | 0 => fun _ _ r h => by simp [spec_Digits.f] at h
 | k + 1 => by
  have ih0 := spec_Digits.mono_l k
  ·intro y0 y1
   unfold spec_Digits.f
   repeat' first
   | (with_reducible exact ih0 _ _)
   | (with_reducible exact LeO.refl _)
   | (with_reducible exact LeO.none _)
   | (with_reducible refine LeO.ite ?_ ?_)
   | (with_reducible refine LeO.bind ?_ (fun _ => ?_))
   | exact ih0 _ _
   | exact LeO.none _
   | refine LeO.ite ?_ ?_
   | refine LeO.bind ?_ (fun _ => ?_)
theorem spec_Digits.mono : ∀ a0 a1 k, LeO (spec_Digits.f k a0 a1) (spec_Digits.f (k + 1) a0 a1) := by
 intro a0 a1 k
 have ih0 := spec_Digits.mono_l k
 exact ih0 a0 a1
def spec_Digits.T4 : Bool × List (List Nat × List Nat) := (true, [([], []), ([], []), ([0, 1], [0, 1]), ([], []), ([2, 3], [2, 3]), ([], []), ([5], [5]), ([6], [6]), ([4, 7], [4, 7]), ([8, 4, 0, 1, 2, 3, 4, 5, 6, 7, 8], [8])])
def spec_Digits.B4 : List Nat := [0, 0, 3, 0, 15, 0, 32, 96, 255, 511]
theorem spec_Digits.tab4 : rtab .any (opsOf Tryz.f117 4) = spec_Digits.T4 := by kernel_rfl
theorem spec_Digits.bits4 : waitsOk spec_Digits.T4.2 spec_Digits.B4 = true := by kernel_rfl
set_option maxHeartbeats 8000000 in
set_option maxRecDepth 100000 in
theorem spec_Digits.calls (k : Nat) : ∀ (a0 : Int) (a1 : Int) (r : ByteArray) (w : World) (h : spec_Digits.f k a0 a1 = some r),
  Calls Tryz.prog 117 #[.int .u64 a0, .int .u64 a1] w fun e w' => e = .returned (.string r) ∧ Below w.heap.size w w' := by
 induction k using Nat.strongRecOn with
 | _ k ih =>
 intro a0 a1 r w h
 cases k with
 | zero => exact absurd h (by simp [spec_Digits.f])
 | succ k =>
 simp only [spec_Digits.f] at h
 have HB := Aside0.mk (Below.refl w.heap.size w)
 have H : (if a1 = 0 then (none) else (if 0 ≤ (Int.tmod a0 a1) then (if (Int.tmod a0 a1) < 16 then (if a0 < a1 then (some (strOfNums (([bt (⟨#[48, 49, 50, 51, 52, 53, 54, 55, 56, 57, 97, 98, 99, 100, 101, 102]⟩ : ByteArray) (Int.tmod a0 a1)] : List Int)))) else ((spec_Digits.f k (IntKind.u64.wrap (Int.tdiv a0 a1)) a1).bind fun t123 => ((some (([bt (⟨#[48, 49, 50, 51, 52, 53, 54, 55, 56, 57, 97, 98, 99, 100, 101, 102]⟩ : ByteArray) (Int.tmod a0 a1)] : List Int) : List Int)).bind fun y124 => (if t123.size + (strOfNums y124).size ≤ 9223372036854775807 then (some (t123 ++ (strOfNums y124))) else (none))))) else (none)) else (none))) = some r := h
 clear h
 by_cases c3 : a1 = 0
 ·rw [if_pos c3] at H
  exact absurd H (by simp)
 ·rw [if_neg c3] at H
  have c3b0 : (a1 == 0) = false := beq_eq_false_iff_ne.mpr c3
  have c3b1 : (a1 != 0) = true := bne_iff_ne.mpr c3
  obtain ⟨ji4, hji4⟩ : ∃ j_ : Int, (Int.tmod a0 a1) = j_ := ⟨_, rfl⟩
  replace H : (if 0 ≤ (ji4) then (if (ji4) < 16 then (if a0 < a1 then (some (strOfNums (([bt (⟨#[48, 49, 50, 51, 52, 53, 54, 55, 56, 57, 97, 98, 99, 100, 101, 102]⟩ : ByteArray) (ji4)] : List Int)))) else ((spec_Digits.f k (IntKind.u64.wrap (Int.tdiv a0 a1)) a1).bind fun t123 => ((some (([bt (⟨#[48, 49, 50, 51, 52, 53, 54, 55, 56, 57, 97, 98, 99, 100, 101, 102]⟩ : ByteArray) (ji4)] : List Int) : List Int)).bind fun y124 => (if t123.size + (strOfNums y124).size ≤ 9223372036854775807 then (some (t123 ++ (strOfNums y124))) else (none))))) else (none)) else (none)) = some r := by first | (rw [hji4] at H; exact H) | (simp only [hji4] at H ⊢; exact H)
  by_cases c5 : 0 ≤ (ji4)
  ·rw [if_pos c5] at H
   have c5b0 : decide (0 ≤ (ji4)) = true := decide_eq_true c5
   clear c5
   by_cases c6 : (ji4) < 16
   ·rw [if_pos c6] at H
    have c6b0 : decide ((ji4) < 16) = true := decide_eq_true c6
    clear c6
    by_cases c8 : a0 < a1
    ·rw [if_pos c8] at H
     have c8b0 : decide (a0 < a1) = true := decide_eq_true c8
     clear c8
     obtain ⟨y120, hy120⟩ : ∃ y_ : List Int, y_ = (([bt (⟨#[48, 49, 50, 51, 52, 53, 54, 55, 56, 57, 97, 98, 99, 100, 101, 102]⟩ : ByteArray) (ji4)] : List Int)) := ⟨_, rfl⟩
     replace H : (some (strOfNums y120)) = some r := by first | (rw [hy120]; with_reducible exact H) | (have H2_ := (Option.bind_some _ _).symm.trans H; rw [hy120]; with_reducible exact H2_) | (have H2_ := (Option.bind_some _ _).symm.trans H; with_reducible exact H2_) | with_reducible exact H | (rw [hy120]; exact H) | exact H
     have Ny120 := Aside0.mk hy120
     clear hy120
     obtain rfl := Option.some.inj H
     have p7 : 0 ≤ ((ji4) : Int) := of_decide_eq_true (by first | (with_reducible assumption) | assumption)
     have q7 : (ji4) < (16 : Int) := of_decide_eq_true (by first | (with_reducible assumption) | assumption)
     have hx7 := bt_at (⟨#[48, 49, 50, 51, 52, 53, 54, 55, 56, 57, 97, 98, 99, 100, 101, 102]⟩ : ByteArray) (ji4)
     replace p7 := eq_true p7
     replace q7 := eq_true q7
     go_enter Tryz.func117, Tryz.ntmps117
     go_wp2_with (first | ((with_reducible refine gate_dst (N := 14) rfl ?_); refine Kd.R_lit (Kd.int .u8) _ 5 ?hg (N := 14) ?hd (xs := ([bt (⟨#[48, 49, 50, 51, 52, 53, 54, 55, 56, 57, 97, 98, 99, 100, 101, 102]⟩ : ByteArray) (ji4)] : List Int)) (inner := [.int .u8 (bt (⟨#[48, 49, 50, 51, 52, 53, 54, 55, 56, 57, 97, 98, 99, 100, 101, 102]⟩ : ByteArray) (ji4))]) (ok := fun _ => True) (okp := fun _ => True) ?hr ?hp (fun _ hk => hk) trivial (Below.refl _ _) (Nat.le_refl _) (by simp) ?_; (case hd => rfl); (case hg => rfl); (case hr => first | (go_simp; done) | (go_simp; rfl)); (case hp => exact (Reps.one (show Kd.M (Kd.int .u8) _ _ _ (bt (⟨#[48, 49, 50, 51, 52, 53, 54, 55, 56, 57, 97, 98, 99, 100, 101, 102]⟩ : ByteArray) (ji4)) [.int .u8 (bt (⟨#[48, 49, 50, 51, 52, 53, 54, 55, 56, 57, 97, 98, 99, 100, 101, 102]⟩ : ByteArray) (ji4))] from rfl) (Reps.none _ _))); intro v121 w9 ho10 hb hg_ hnew_; clear hg_ hnew_; (first | rw [← Ny120.out] at ho10 | (simp only [Int.reduceToNat] at ho10; rw [← Ny120.out] at ho10)); have n0_ := Aside0.mk (Kd.R_lower ho10 (below_size belH)); have n1_ := Aside0.mk (below_step belH hb); clear HB; have HO122 := n0_; have HB := n1_; clear n0_ n1_; clear hb ho10; have hcv11 := own_string (P := Tryz.prog) Tryz.underlying152 Tryz.underlying5 Tryz.underlying9 (Kd.own_of_R HO122.out)))
     go_ret
     exact ⟨by first | rfl | (simp [errW_none, errW_some] <;> rfl) | (simp only [← hji4]; first | rfl | (simp [errW_none, errW_some] <;> rfl)) | (simp [*, errW_none, errW_some] <;> rfl), by repeat (first | (with_reducible first | exact HB.out | apply below_alloc | apply pw_below_drewN | apply below_drew1) | exact HB.out)⟩
    ·rw [if_neg c8] at H
     have c8b0 : decide (a0 < a1) = false := decide_eq_false c8
     clear c8
     replace H := Option.bind_eq_some_iff.mp H
     obtain ⟨t123, A120, H⟩ := H
     have A12 := Aside0.mk A120
     clear A120
     obtain ⟨y124, hy124⟩ : ∃ y_ : List Int, y_ = (([bt (⟨#[48, 49, 50, 51, 52, 53, 54, 55, 56, 57, 97, 98, 99, 100, 101, 102]⟩ : ByteArray) (ji4)] : List Int)) := ⟨_, rfl⟩
     replace H : (if t123.size + (strOfNums y124).size ≤ 9223372036854775807 then (some (t123 ++ (strOfNums y124))) else (none)) = some r := by first | (rw [hy124]; with_reducible exact H) | (have H2_ := (Option.bind_some _ _).symm.trans H; rw [hy124]; with_reducible exact H2_) | (have H2_ := (Option.bind_some _ _).symm.trans H; with_reducible exact H2_) | with_reducible exact H | (rw [hy124]; exact H) | exact H
     have Ny124 := Aside0.mk hy124
     clear hy124
     by_cases c13 : t123.size + (strOfNums y124).size ≤ 9223372036854775807
     ·rw [if_pos c13] at H
      have c13b0 := eq_true c13
      have c13b1 : decide (t123.size + (strOfNums y124).size ≤ 9223372036854775807) = true := decide_eq_true c13
      try have c13b2 : (9223372036854775807 < t123.size + (strOfNums y124).size) = False := eq_false (Nat.not_lt.2 c13)
      obtain rfl := Option.some.inj H
      have p7 : 0 ≤ ((ji4) : Int) := of_decide_eq_true (by first | (with_reducible assumption) | assumption)
      have q7 : (ji4) < (16 : Int) := of_decide_eq_true (by first | (with_reducible assumption) | assumption)
      have hx7 := bt_at (⟨#[48, 49, 50, 51, 52, 53, 54, 55, 56, 57, 97, 98, 99, 100, 101, 102]⟩ : ByteArray) (ji4)
      replace p7 := eq_true p7
      replace q7 := eq_true q7
      go_enter Tryz.func117, Tryz.ntmps117
      try go_wp2
      have n0_ := Aside0.mk (below_drew1 HB.out)
      clear HB
      have HB := n0_
      clear n0_
      refine start_ (n := 10) (S := fun w' => True) (ds := []) (tfA 0 10) (by kernel_rfl) rfl rfl trivial (fun hHeld => ?_); refine with_tabW spec_Digits.tab4 spec_Digits.bits4 (fun HT_ HW_ => ?_)
      generalize w.drew = w14 at HB hHeld ⊢
      refine pure_ (i := 0) (N := some 16) (v := ?_) (a' := ?_) (tfA 1 9) rfl rfl (any_of HT_.out (by kernel_rfl)) (fun _ _ _ h => h) (Or.inl ⟨by rfl, ?_⟩) ?_ ?_
      rotate_left
      ·intro w'
       go_simp
       with_reducible rfl
      rotate_left
      ·simp only [Act.put, sA, s0, s1, i64_w, i32_w]
       rfl
      refine pure_ (i := 1) (N := some 17) (v := ?_) (a' := ?_) (tfA 2 8) rfl rfl (any_of HT_.out (by kernel_rfl)) (fun _ _ _ h => h) (Or.inl ⟨by rfl, ?_⟩) ?_ ?_
      rotate_left
      ·intro w'
       go_simp
       with_reducible rfl
      rotate_left
      ·simp only [Act.put, sA, s0, s1, i64_w, i32_w]
       rfl
      refine pure_ (i := 2) (N := some 18) (v := ?_) (a' := ?_) (tfA 3 7) rfl rfl (any_of HT_.out (by kernel_rfl)) (fun _ _ _ h => h) (Or.inl ⟨by rfl, ?_⟩) ?_ ?_
      rotate_left
      ·intro w'
       go_simp
       with_reducible rfl
      rotate_left
      ·simp only [Act.put, sA, s0, s1, i64_w, i32_w]
       rfl
      refine pure_ (i := 3) (N := some 19) (v := ?_) (a' := ?_) (tfA 4 6) rfl rfl (any_of HT_.out (by kernel_rfl)) (fun _ _ _ h => h) (Or.inl ⟨by rfl, ?_⟩) ?_ ?_
      rotate_left
      ·intro w'
       go_simp
       with_reducible rfl
      rotate_left
      ·simp only [Act.put, sA, s0, s1, i64_w, i32_w]
       rfl
      refine pure_ (i := 5) (N := some 21) (v := ?_) (a' := ?_) (bnA 10 47) rfl rfl (any_of HT_.out (by kernel_rfl)) (fun _ _ _ h => h) (Or.inl ⟨by rfl, ?_⟩) ?_ ?_
      rotate_left
      ·intro w'
       go_simp
       with_reducible rfl
      rotate_left
      ·simp only [Act.put, sA, s0, s1, i64_w, i32_w]
       rfl
      refine join_ (σ := Value) 2 (tfA 8 2) (fun s_ => [(20, .string t123), (22, s_), (23, .string (strOfNums y124))]) (fun s_ w' => (Kd.R (Kd.int .u8) 5 w' w.heap.size (fun _ => True) s_ y124) ∧ (Below w.heap.size w w')) ?_ ?_
      rotate_left
      ·intro hCont
       refine two_ (i := 4) (j := 6) (Ni := some 20) (Nj := some 22) (tfA 6 4) (bnA 10 111) rfl rfl rfl rfl (two_of HT_.out (by kernel_rfl)) (by decide) (by decide) (fun K hK => ?_) (fun K hK => ?_)
       ·skip
        refine goes_ Tryz.func117 (by kernel_rfl) rfl #[.int .u64 (IntKind.u64.wrap (Int.tdiv a0 a1)), .int .u64 a1] (by rfl) rfl rfl (by (try simp only [List.map_toArray, List.map_cons, List.map_nil]); first | done | rfl | (simp only [List.length_drop, List.length_take]; rfl)) ?_
        with_reducible refine (ih k (by omega) (IntKind.u64.wrap (Int.tdiv a0 a1)) a1 t123 _ A12.out).mono ?_
        rintro e w15 ⟨rfl, hb⟩
        refine ⟨_, rfl, ?_⟩
        have n0_ := Aside0.mk (below_step belH hb)
        clear HB
        have HB := n0_
        clear n0_
        (try clear hb)
        (try clear hb2)
        (try clear hk)
        (try clear hi)
        refine hK.out _ _ trivial (fun hHeld => ?_)
        clear hK K
        refine norm_ (a' := ?_) ?_ ?_
        rotate_left
        ·show Act.put _ (some 20) _ = _
         simp only [Act.put, sA, s0, s1, i64_w, i32_w]
         rfl
        refine one_ (i := 6) (N := some 22) (tfA 7 3) rfl rfl (one_of HT_.out (by kernel_rfl)) (by decide) (fun K hK => ?_)
        refine Kd.R_lit_step (Kd.int .u8) _ 5 ?hg (N := 22) ?hd (xs := ([bt (⟨#[48, 49, 50, 51, 52, 53, 54, 55, 56, 57, 97, 98, 99, 100, 101, 102]⟩ : ByteArray) (ji4)] : List Int)) (inner := [.int .u8 (bt (⟨#[48, 49, 50, 51, 52, 53, 54, 55, 56, 57, 97, 98, 99, 100, 101, 102]⟩ : ByteArray) (ji4))]) (ok := fun _ => True) (okp := fun _ => True) ?hr ?hp (fun _ hk => hk) trivial (Below.refl _ _) (Nat.le_refl _) (by simp) ?_; (case hd => rfl); (case hg => rfl); (case hr => first | (go_simp; done) | (go_simp; rfl)); (case hp => exact (Reps.one (show Kd.M (Kd.int .u8) _ _ _ (bt (⟨#[48, 49, 50, 51, 52, 53, 54, 55, 56, 57, 97, 98, 99, 100, 101, 102]⟩ : ByteArray) (ji4)) [.int .u8 (bt (⟨#[48, 49, 50, 51, 52, 53, 54, 55, 56, 57, 97, 98, 99, 100, 101, 102]⟩ : ByteArray) (ji4))] from rfl) (Reps.none _ _)))
        intro v125 w16 ho17 hb hg_ hnew_
        clear hg_ hnew_
        (first | rw [← Ny124.out] at ho17 | (simp only [Int.reduceToNat] at ho17; rw [← Ny124.out] at ho17))
        have n0_ := Aside0.mk (Kd.R_lower ho17 (below_size belH))
        have n1_ := Aside0.mk (below_step belH hb)
        clear HB
        have HO126 := n0_
        have HB := n1_
        clear n0_ n1_
        clear hb ho17
        refine hK.out _ _ trivial (fun hHeld => ?_)
        clear hK K
        refine norm_ (a' := ?_) ?_ ?_
        rotate_left
        ·show Act.put _ (some 22) _ = _
         simp only [Act.put, sA, s0, s1, i64_w, i32_w]
         rfl
        refine one_ (i := 7) (N := some 23) (tfA 8 2) rfl rfl (one_of HT_.out (by kernel_rfl)) (by decide) (fun K hK => ?_)
        have hcv18 := own_string (P := Tryz.prog) Tryz.underlying152 Tryz.underlying5 Tryz.underlying9 (Kd.own_of_R HO126.out)
        refine value_ (w1 := ?_) (v := ?_) (by rfl) rfl ?_ ?_
        rotate_left 2
        ·go_simp
         constructor
         ·rfl
         ·rfl
        clear hcv18
        refine hK.out _ _ trivial (fun hHeld => ?_)
        clear hK K
        refine norm_ (a' := ?_) ?_ ?_
        rotate_left
        ·show Act.put _ (some 23) _ = _
         simp only [Act.put, sA, s0, s1, i64_w, i32_w]
         rfl
        exact norm_ (by simp only [putAll, Act.put, List.setIfInBounds_toArray, List.set_cons_zero, List.set_cons_succ]) (hCont (v125) _ ⟨(by (with_reducible repeat (first | apply Kd.R_alloc | apply Kd.R_drewN | apply Kd.R_drew)); exact HO126.out), belH⟩)
       ·skip
        refine Kd.R_lit_step (Kd.int .u8) _ 5 ?hg (N := 22) ?hd (xs := ([bt (⟨#[48, 49, 50, 51, 52, 53, 54, 55, 56, 57, 97, 98, 99, 100, 101, 102]⟩ : ByteArray) (ji4)] : List Int)) (inner := [.int .u8 (bt (⟨#[48, 49, 50, 51, 52, 53, 54, 55, 56, 57, 97, 98, 99, 100, 101, 102]⟩ : ByteArray) (ji4))]) (ok := fun _ => True) (okp := fun _ => True) ?hr ?hp (fun _ hk => hk) trivial (Below.refl _ _) (Nat.le_refl _) (by simp) ?_; (case hd => rfl); (case hg => rfl); (case hr => first | (go_simp; done) | (go_simp; rfl)); (case hp => exact (Reps.one (show Kd.M (Kd.int .u8) _ _ _ (bt (⟨#[48, 49, 50, 51, 52, 53, 54, 55, 56, 57, 97, 98, 99, 100, 101, 102]⟩ : ByteArray) (ji4)) [.int .u8 (bt (⟨#[48, 49, 50, 51, 52, 53, 54, 55, 56, 57, 97, 98, 99, 100, 101, 102]⟩ : ByteArray) (ji4))] from rfl) (Reps.none _ _)))
        intro v125 w15 ho16 hb hg_ hnew_
        clear hg_ hnew_
        (first | rw [← Ny124.out] at ho16 | (simp only [Int.reduceToNat] at ho16; rw [← Ny124.out] at ho16))
        have n0_ := Aside0.mk (Kd.R_lower ho16 (below_size belH))
        have n1_ := Aside0.mk (below_step belH hb)
        clear HB
        have HO126 := n0_
        have HB := n1_
        clear n0_ n1_
        clear hb ho16
        refine hK.out _ _ trivial (fun hHeld => ?_)
        clear hK K
        refine norm_ (a' := ?_) ?_ ?_
        rotate_left
        ·show Act.put _ (some 22) _ = _
         simp only [Act.put, sA, s0, s1, i64_w, i32_w]
         rfl
        refine two_ (i := 4) (j := 7) (Ni := some 20) (Nj := some 23) (tfA 7 3) (bnA 10 239) rfl rfl rfl rfl (two_of HT_.out (by kernel_rfl)) (by decide) (by decide) (fun K hK => ?_) (fun K hK => ?_)
        ·skip
         refine goes_ Tryz.func117 (by kernel_rfl) rfl #[.int .u64 (IntKind.u64.wrap (Int.tdiv a0 a1)), .int .u64 a1] (by rfl) rfl rfl (by (try simp only [List.map_toArray, List.map_cons, List.map_nil]); first | done | rfl | (simp only [List.length_drop, List.length_take]; rfl)) ?_
         with_reducible refine (ih k (by omega) (IntKind.u64.wrap (Int.tdiv a0 a1)) a1 t123 _ A12.out).mono ?_
         rintro e w17 ⟨rfl, hb⟩
         refine ⟨_, rfl, ?_⟩
         have n0_ := Aside0.mk (Kd.R_below (by (with_reducible repeat (first | apply Kd.R_alloc | apply Kd.R_drewN | apply Kd.R_drew)); exact HO126.out) hb)
         have n1_ := Aside0.mk (below_step belH hb)
         clear HO126
         clear HB
         have HO126 := n0_
         have HB := n1_
         clear n0_ n1_
         (try clear hb)
         (try clear hb2)
         (try clear hk)
         (try clear hi)
         refine hK.out _ _ trivial (fun hHeld => ?_)
         clear hK K
         refine norm_ (a' := ?_) ?_ ?_
         rotate_left
         ·show Act.put _ (some 20) _ = _
          simp only [Act.put, sA, s0, s1, i64_w, i32_w]
          rfl
         refine one_ (i := 7) (N := some 23) (tfA 8 2) rfl rfl (one_of HT_.out (by kernel_rfl)) (by decide) (fun K hK => ?_)
         have hcv18 := own_string (P := Tryz.prog) Tryz.underlying152 Tryz.underlying5 Tryz.underlying9 (Kd.own_of_R HO126.out)
         refine value_ (w1 := ?_) (v := ?_) (by rfl) rfl ?_ ?_
         rotate_left 2
         ·go_simp
          constructor
          ·rfl
          ·rfl
         clear hcv18
         refine hK.out _ _ trivial (fun hHeld => ?_)
         clear hK K
         refine norm_ (a' := ?_) ?_ ?_
         rotate_left
         ·show Act.put _ (some 23) _ = _
          simp only [Act.put, sA, s0, s1, i64_w, i32_w]
          rfl
         exact norm_ (by simp only [putAll, Act.put, List.setIfInBounds_toArray, List.set_cons_zero, List.set_cons_succ]) (hCont (v125) _ ⟨(by (with_reducible repeat (first | apply Kd.R_alloc | apply Kd.R_drewN | apply Kd.R_drew)); exact HO126.out), belH⟩)
        ·skip
         have hcv17 := own_string (P := Tryz.prog) Tryz.underlying152 Tryz.underlying5 Tryz.underlying9 (Kd.own_of_R HO126.out)
         refine value_ (w1 := ?_) (v := ?_) (by rfl) rfl ?_ ?_
         rotate_left 2
         ·go_simp
          constructor
          ·rfl
          ·rfl
         clear hcv17
         refine hK.out _ _ trivial (fun hHeld => ?_)
         clear hK K
         refine norm_ (a' := ?_) ?_ ?_
         rotate_left
         ·show Act.put _ (some 23) _ = _
          simp only [Act.put, sA, s0, s1, i64_w, i32_w]
          rfl
         refine one_ (i := 4) (N := some 20) (tfA 8 2) rfl rfl (one_of HT_.out (by kernel_rfl)) (by decide) (fun K hK => ?_)
         refine goes_ Tryz.func117 (by kernel_rfl) rfl #[.int .u64 (IntKind.u64.wrap (Int.tdiv a0 a1)), .int .u64 a1] (by rfl) rfl rfl (by (try simp only [List.map_toArray, List.map_cons, List.map_nil]); first | done | rfl | (simp only [List.length_drop, List.length_take]; rfl)) ?_
         with_reducible refine (ih k (by omega) (IntKind.u64.wrap (Int.tdiv a0 a1)) a1 t123 _ A12.out).mono ?_
         rintro e w18 ⟨rfl, hb⟩
         refine ⟨_, rfl, ?_⟩
         have n0_ := Aside0.mk (Kd.R_below (by (with_reducible repeat (first | apply Kd.R_alloc | apply Kd.R_drewN | apply Kd.R_drew)); exact HO126.out) hb)
         have n1_ := Aside0.mk (below_step belH hb)
         clear HO126
         clear HB
         have HO126 := n0_
         have HB := n1_
         clear n0_ n1_
         (try clear hb)
         (try clear hb2)
         (try clear hk)
         (try clear hi)
         refine hK.out _ _ trivial (fun hHeld => ?_)
         clear hK K
         refine norm_ (a' := ?_) ?_ ?_
         rotate_left
         ·show Act.put _ (some 20) _ = _
          simp only [Act.put, sA, s0, s1, i64_w, i32_w]
          rfl
         exact norm_ (by simp only [putAll, Act.put, List.setIfInBounds_toArray, List.set_cons_zero, List.set_cons_succ]) (hCont (v125) _ ⟨(by (with_reducible repeat (first | apply Kd.R_alloc | apply Kd.R_drewN | apply Kd.R_drew)); exact HO126.out), belH⟩)
      rintro v125 w19 ⟨h0_, h1_⟩
      have n0_ : Aside0 (Kd.R (Kd.int .u8) 5 w19 w.heap.size (fun _ => True) v125 y124) := ⟨h0_⟩
      have n1_ : Aside0 (Below w.heap.size w w19) := ⟨h1_⟩
      clear HB
      clear h0_ h1_
      have HO126 := n0_
      have HB := n1_
      clear n0_ n1_
      have hHeld := trivial
      refine norm_ (a' := ?_) ?_ ?_
      rotate_left
      ·simp only [putAll, Act.put, List.setIfInBounds_toArray, List.set_cons_zero, List.set_cons_succ]
       rfl
      refine pure_ (i := 8) (N := some 24) (v := ?_) (a' := ?_) (tfA 9 1) rfl rfl (any_of HT_.out (by kernel_rfl)) (fun _ _ _ h => h) (Or.inl ⟨by rfl, ?_⟩) ?_ ?_
      rotate_left
      ·intro w'
       go_simp
       with_reducible rfl
      rotate_left
      ·simp only [Act.put, sA, s0, s1, i64_w, i32_w]
       rfl
      refine pure_ (i := 9) (N := some 4) (v := ?_) (a' := ?_) (tfA 10 0) rfl rfl (any_of HT_.out (by kernel_rfl)) (fun _ _ _ h => h) (Or.inl ⟨by rfl, ?_⟩) ?_ ?_
      rotate_left
      ·intro w'
       go_simp
       with_reducible rfl
      rotate_left
      ·simp only [Act.put, sA, s0, s1, i64_w, i32_w]
       rfl
      refine done_ (done_of HT_.out (by kernel_rfl)) ?_
      try go_wp2
      go_ret
      exact ⟨by first | rfl | (simp [errW_none, errW_some] <;> rfl) | (simp only [← hji4]; first | rfl | (simp [errW_none, errW_some] <;> rfl)) | (simp [*, errW_none, errW_some] <;> rfl), by repeat (first | (with_reducible first | exact HB.out | apply below_alloc | apply pw_below_drewN | apply below_drew1) | exact HB.out)⟩
     ·rw [if_neg c13] at H
      exact absurd H (by simp)
   ·rw [if_neg c6] at H
    exact absurd H (by simp)
  ·rw [if_neg c5] at H
   exact absurd H (by simp)

/-! ### spec_Text: function 48 -/
def spec_Text.f (k : Nat) (a0 : Int) : Option (ByteArray) := (spec_Digits.f k a0 10).bind fun t127 => (some t127)
theorem spec_Text.mono : ∀ a0 k, LeO (spec_Text.f k a0) (spec_Text.f (k + 1) a0) := by
 intro a0 k
 unfold spec_Text.f
 repeat' first
   | (with_reducible exact spec_Digits.mono _ _ _)
   | (with_reducible exact LeO.refl _)
   | (with_reducible exact LeO.none _)
   | (with_reducible refine LeO.ite ?_ ?_)
   | (with_reducible refine LeO.bind ?_ (fun _ => ?_))
   | exact spec_Digits.mono _ _ _
   | exact LeO.none _
   | refine LeO.ite ?_ ?_
   | refine LeO.bind ?_ (fun _ => ?_)
set_option maxHeartbeats 8000000 in
set_option maxRecDepth 100000 in
theorem spec_Text.calls (k : Nat) (a0 : Int) (r : ByteArray) (w : World) (h : spec_Text.f k a0 = some r) :
  Calls Tryz.prog 48 #[.int .u64 a0] w fun e w' => e = .returned (.string r) ∧ Below w.heap.size w w' := by
 have HB := Aside0.mk (Below.refl w.heap.size w)
 have H : ((spec_Digits.f k a0 10).bind fun t127 => (some t127)) = some r := h
 clear h
 replace H := Option.bind_eq_some_iff.mp H
 obtain ⟨t127, A20, H⟩ := H
 have A2 := Aside0.mk A20
 clear A20
 obtain rfl := Option.some.inj H
 go_enter Tryz.func48, Tryz.ntmps48
 go_wp2_with (first | ((with_reducible refine gate_callee (f := 117) rfl ?_); refine goesL_ (some 4) rfl rfl Tryz.func117 (by kernel_rfl) rfl #[.int .u64 a0, .int .u64 10] rfl (by (try simp only [List.map_toArray, List.map_cons, List.map_nil]); first | done | rfl | (simp only [List.length_drop, List.length_take]; rfl)) ?_; (with_reducible refine (spec_Digits.calls k a0 10 t127 _ A2.out).mono ?_); rintro e w3 ⟨rfl, hb⟩; refine ⟨_, rfl, ?_⟩; have n0_ := Aside0.mk (below_step belH hb); clear HB; have HB := n0_; clear n0_; (try clear hb); (try clear hb2); (try clear hk); (try clear hi)))
 go_ret
 exact ⟨by first | rfl | (simp [errW_none, errW_some] <;> rfl) | (simp [*, errW_none, errW_some] <;> rfl), by repeat (first | (with_reducible first | exact HB.out | apply below_alloc | apply pw_below_drewN | apply below_drew1) | exact HB.out)⟩

/-! ### spec_decimals: function 43 -/
def spec_decimals.l0 : Nat → List Int → List ByteArray → Int → Int → Option (List Int × Bool)
 | 0, _, _, _, _ => none
 | k + 1, x4, x9, x10, x11 => if x11 < x10 then (if 0 ≤ x11 then (if x11 < (x9.length : Int) then ((spec_Dec.f k (rdOf ByteArray.empty x9 x11)).bind fun bt129 => (if bt129.2 = true then ((spec_Text.f k bt129.1).bind fun t131 => (if t131.toList = (rdOf ByteArray.empty x9 x11).toList then (if x4.length < 17592186044416 then (spec_decimals.l0 k (x4 ++ [bt129.1]) x9 x10 (wrap64 (x11 + 1))) else (none)) else (some (([] : List Int), false)))) else (some (([] : List Int), false)))) else (none)) else (none)) else (some (x4, true))
def spec_decimals.f (k : Nat) (l0 : List ByteArray) : Option (List Int × Bool) := spec_decimals.l0 k ([] : List Int) l0 (l0.length : Int) 0
theorem spec_decimals.mono_l : ∀ k, (∀ y0 y1 y2 y3, LeO (spec_decimals.l0 k y0 y1 y2 y3) (spec_decimals.l0 (k + 1) y0 y1 y2 y3))
 | 0 => fun _ _ _ _ r h => by simp [spec_decimals.l0] at h
 | k + 1 => by
  have ih0 := spec_decimals.mono_l k
  ·intro y0 y1 y2 y3
   unfold spec_decimals.l0
   repeat' first
   | (with_reducible exact ih0 _ _ _ _)
   | (with_reducible exact spec_Dec.mono _ _)
   | (with_reducible exact spec_Text.mono _ _)
   | (with_reducible exact LeO.refl _)
   | (with_reducible exact LeO.none _)
   | (with_reducible refine LeO.ite ?_ ?_)
   | (with_reducible refine LeO.bind ?_ (fun _ => ?_))
   | exact ih0 _ _ _ _
   | exact spec_Dec.mono _ _
   | exact spec_Text.mono _ _
   | exact LeO.none _
   | refine LeO.ite ?_ ?_
   | refine LeO.bind ?_ (fun _ => ?_)
theorem spec_decimals.mono : ∀ a0 k, LeO (spec_decimals.f k a0) (spec_decimals.f (k + 1) a0) := by
 intro a0 k
 have ih0 := spec_decimals.mono_l k
 unfold spec_decimals.f
 repeat' first
   | (with_reducible exact ih0 _ _ _ _)
   | (with_reducible exact spec_Dec.mono _ _)
   | (with_reducible exact spec_Text.mono _ _)
   | (with_reducible exact LeO.refl _)
   | (with_reducible exact LeO.none _)
   | (with_reducible refine LeO.ite ?_ ?_)
   | (with_reducible refine LeO.bind ?_ (fun _ => ?_))
   | exact ih0 _ _ _ _
   | exact spec_Dec.mono _ _
   | exact spec_Text.mono _ _
   | exact LeO.none _
   | refine LeO.ite ?_ ?_
   | refine LeO.bind ?_ (fun _ => ?_)
set_option maxHeartbeats 8000000 in
set_option maxRecDepth 100000 in
theorem spec_decimals.calls (k : Nat) (A0 : Option Addr) (c0 : Nat) (l0 : List ByteArray) (r1 : List Int) (r2 : Bool) (w : World) (hr0 : Kd.C Kd.string w A0 l0.length l0) (hc0 : l0.length ≤ c0) (h : spec_decimals.f k l0 = some (r1, r2)) :
  Calls Tryz.prog 43 #[.slice A0 l0.length c0] w fun e w' => ∃ v0_ : Value, e = .returned (.tuple #[v0_, .bool r2]) ∧ Kd.R (Kd.int .u64) 31 w' w.heap.size (fun _ => True) v0_ r1 ∧ Below w.heap.size w w' := by
 have HR0 := Aside0.mk hr0
 have HC0 := Aside0.mk hc0
 clear hr0 hc0
 have HB := Aside0.mk (Below.refl w.heap.size w)
 have H : (spec_decimals.l0 k ([] : List Int) l0 (l0.length : Int) 0) = some (r1, r2) := h
 clear h
 have H' := Aside0.mk H
 clear H
 go_enter Tryz.func43, Tryz.ntmps43
 go_wp2
 go_loopg [4, 11] k (fun kq v4 v11 w' => ∃ (x4_1 : List Int) (x11_1 : Int), v11 = .int .i64 x11_1 ∧ Aside0 (spec_decimals.l0 kq x4_1 l0 (l0.length : Int) x11_1 = some (r1, r2)) ∧ Aside0 (kq ≤ k) ∧ Aside0 (Kd.R (Kd.int .u64) 31 w' w.heap.size (fun _ => True) v4 x4_1) ∧ Aside0 (Below w.heap.size w w'))
 case atStart => exact ⟨(([] : List Int)), (0), (by first | rfl | (simp; done) | (simp [*]; done) | (simp [bne_nil]; done) | (simp [bne_nil, *]; done)), H', ⟨Nat.le_refl _⟩, ⟨by first | exact Kd.R_nil _ _ _ _ _ | exact Kd.N_nil _ _ _ _ _ | exact Kd.V_nil _ _ _ _ _ | exact Kd.Q_nil _ _ _ _ _ | exact Kd.S_nil _ _ _ _ _⟩, ⟨by repeat (first | (with_reducible first | exact HB.out | apply below_alloc | apply pw_below_drewN | apply below_drew1) | exact HB.out)⟩⟩
 case round =>
  clear H'
  obtain ⟨x4_1, x11_1, rfl, HA, HK1, HO_4, HB⟩ := hrel
  cases gk with
  | zero => exact absurd HA.out (by simp [spec_decimals.l0])
  | succ k1 =>
   have H := HA.out
   clear HA
   simp only [spec_decimals.l0] at H
   by_cases c2 : x11_1 < (l0.length : Int)
   ·rw [if_pos c2] at H
    have c2b0 : decide (x11_1 < (l0.length : Int)) = true := decide_eq_true c2
    clear c2
    by_cases c3 : 0 ≤ x11_1
    ·rw [if_pos c3] at H
     have c3b0 : decide (0 ≤ x11_1) = true := decide_eq_true c3
     clear c3
     by_cases c4 : x11_1 < (l0.length : Int)
     ·rw [if_pos c4] at H
      have c4b0 : decide (x11_1 < (l0.length : Int)) = true := decide_eq_true c4
      clear c4
      replace H := Option.bind_eq_some_iff.mp H
      obtain ⟨⟨t129, t130⟩, A50, H⟩ := H
      have A5 := Aside0.mk A50
      clear A50
      by_cases c6 : t130 = true
      ·subst c6
       have H1 : ((spec_Text.f k1 t129).bind fun t131 => (if t131.toList = (rdOf ByteArray.empty l0 x11_1).toList then (if x4_1.length < 17592186044416 then (spec_decimals.l0 k1 (x4_1 ++ [t129]) l0 (l0.length : Int) (wrap64 (x11_1 + 1))) else (none)) else (some (([] : List Int), false)))) = some (r1, r2) := by rw [if_pos rfl] at H; exact H
       clear H
       have H := H1
       clear H1
       replace H := Option.bind_eq_some_iff.mp H
       obtain ⟨t131, A70, H⟩ := H
       have A7 := Aside0.mk A70
       clear A70
       by_cases c8 : t131.toList = (rdOf ByteArray.empty l0 x11_1).toList
       ·rw [if_pos c8] at H
        have c8b0 : (t131.toList == (rdOf ByteArray.empty l0 x11_1).toList) = true := beq_iff_eq.mpr c8
        have c8b1 : (t131.toList != (rdOf ByteArray.empty l0 x11_1).toList) = false := bne_eq_false_iff_eq.mpr c8
        clear c8
        by_cases c9 : x4_1.length < 17592186044416
        ·rw [if_pos c9] at H
         have LMc9 := Aside0.mk c9
         clear c9
         obtain ⟨y132, hy132⟩ : ∃ y_ : List Int, y_ = (x4_1 ++ [t129]) := ⟨_, rfl⟩
         replace H : (spec_decimals.l0 k1 y132 l0 (l0.length : Int) (wrap64 (x11_1 + 1))) = some (r1, r2) := by first | (rw [hy132]; with_reducible exact H) | (have H2_ := (Option.bind_some _ _).symm.trans H; rw [hy132]; with_reducible exact H2_) | (have H2_ := (Option.bind_some _ _).symm.trans H; with_reducible exact H2_) | with_reducible exact H | (rw [hy132]; exact H) | exact H
         have Ny132 := Aside0.mk hy132
         clear hy132
         have H' := Aside0.mk H
         clear H
         have p128 : 0 ≤ (x11_1 : Int) := of_decide_eq_true (by first | (with_reducible assumption) | assumption)
         have q128 : x11_1 < (l0.length : Int) := of_decide_eq_true (by first | (with_reducible assumption) | assumption)
         obtain ⟨ad128, e128, hx128_0⟩ := Kd.at_string HR0.out x11_1 p128 q128
         cases e128
         replace hx128_0 := (HB.out.cell (World.block_lt_of_cell? w _ hx128_0)).trans hx128_0
         replace p128 := eq_true p128
         replace q128 := eq_true q128
         go_wp2_with (first | ((with_reducible refine gate_callee (f := 74) rfl ?_); refine goesL_ (some 17) rfl rfl Tryz.func74 (by kernel_rfl) rfl #[.string (rdOf ByteArray.empty l0 x11_1)] rfl (by (try simp only [List.map_toArray, List.map_cons, List.map_nil]); first | done | rfl | (simp only [List.length_drop, List.length_take]; rfl)) ?_; (with_reducible refine (spec_Dec.calls k1 (rdOf ByteArray.empty l0 x11_1) t129 true _ A5.out).mono ?_); rintro e w' ⟨rfl, ⟨nd, rfl⟩⟩; refine ⟨_, rfl, ?_⟩) | (go_at_call 48; (with_reducible refine (spec_Text.calls k1 t129 t131 _ A7.out).mono ?_); rintro e w10 ⟨rfl, hb⟩; have n0_ := Aside0.mk (Kd.R_below (by (with_reducible repeat (first | apply Kd.R_alloc | apply Kd.R_drewN | apply Kd.R_drew)); exact HO_4.out) hb); have n1_ := Aside0.mk (below_step belH hb); clear HO_4; clear HB; have HO_4 := n0_; have HB := n1_; clear n0_ n1_; (try clear hb); (try clear hb2); (try clear hk); (try clear hi)) | ((with_reducible refine gate_builtin (b := .append) (xs := #[.tmp 28, .tmp 30]) rfl ?_); at_builtin; refine Kd.R_append (Kd.int .u64) (w0 := w) w.heap.size rfl (.tmp 28) (.tmp 30) 46 31 (.int .u64 0) 8 rfl Tryz.underlying46 info31 rfl (by decide) (by omega) u4 x4_1 t129 [.int .u64 t129] (fun _ => True) (fun _ => False) rfl rfl ?aP (fun _ hk => hk.elim) ?aF ?aO ?aB ?aS ?aL ?_; (case aP => exact rfl); (case aB => exact belH); (case aF => exact (fun _ _ => trivial)); (case aO => exact (by (with_reducible repeat (first | apply Kd.R_alloc | apply Kd.R_drewN | apply Kd.R_drew)); exact HO_4.out)); (case aS => exact (below_size belH)); (case aL => have := LMc9.out; omega); intro v133 w11 ho hb hg hat; rw [← Ny132.out] at ho; have n0_ := Aside0.mk (hb); have n1_ := Aside0.mk (ho); clear HB; clear HO_4; have HB := n0_; have HO134 := n1_; clear n0_ n1_; clear ho hb hg hat))
         go_roundg k1
         case measure => have := HK1.out; omega
         case rel => exact ⟨(y132), (wrap64 (x11_1 + 1)), (by first | rfl | (simp; done) | (simp [*]; done) | (simp [bne_nil]; done) | (simp [bne_nil, *]; done)), H', ⟨by have := HK1.out; omega⟩, ⟨by (with_reducible repeat (first | apply Kd.R_alloc | apply Kd.R_drewN | apply Kd.R_drew)); exact HO134.out⟩, ⟨by repeat (first | (with_reducible first | exact HB.out | apply below_alloc | apply pw_below_drewN | apply below_drew1) | exact HB.out)⟩⟩
        ·rw [if_neg c9] at H
         exact absurd H (by simp)
       ·rw [if_neg c8] at H
        have c8b0 : (t131.toList == (rdOf ByteArray.empty l0 x11_1).toList) = false := beq_eq_false_iff_ne.mpr c8
        have c8b1 : (t131.toList != (rdOf ByteArray.empty l0 x11_1).toList) = true := bne_iff_ne.mpr c8
        simp only [Option.some.injEq, Prod.mk.injEq] at H
        obtain ⟨rfl, rfl⟩ := H
        have p128 : 0 ≤ (x11_1 : Int) := of_decide_eq_true (by first | (with_reducible assumption) | assumption)
        have q128 : x11_1 < (l0.length : Int) := of_decide_eq_true (by first | (with_reducible assumption) | assumption)
        obtain ⟨ad128, e128, hx128_0⟩ := Kd.at_string HR0.out x11_1 p128 q128
        cases e128
        replace hx128_0 := (HB.out.cell (World.block_lt_of_cell? w _ hx128_0)).trans hx128_0
        replace p128 := eq_true p128
        replace q128 := eq_true q128
        go_wp2_with (first | ((with_reducible refine gate_callee (f := 74) rfl ?_); refine goesL_ (some 17) rfl rfl Tryz.func74 (by kernel_rfl) rfl #[.string (rdOf ByteArray.empty l0 x11_1)] rfl (by (try simp only [List.map_toArray, List.map_cons, List.map_nil]); first | done | rfl | (simp only [List.length_drop, List.length_take]; rfl)) ?_; (with_reducible refine (spec_Dec.calls k1 (rdOf ByteArray.empty l0 x11_1) t129 true _ A5.out).mono ?_); rintro e w' ⟨rfl, ⟨nd, rfl⟩⟩; refine ⟨_, rfl, ?_⟩) | (go_at_call 48; (with_reducible refine (spec_Text.calls k1 t129 t131 _ A7.out).mono ?_); rintro e w12 ⟨rfl, hb⟩; have n0_ := Aside0.mk (Kd.R_below (by (with_reducible repeat (first | apply Kd.R_alloc | apply Kd.R_drewN | apply Kd.R_drew)); exact HO_4.out) hb); have n1_ := Aside0.mk (below_step belH hb); clear HO_4; clear HB; have HO_4 := n0_; have HB := n1_; clear n0_ n1_; (try clear hb); (try clear hb2); (try clear hk); (try clear hi)))
        go_ret2
        exact ⟨_, by first | rfl | (simp [errW_none, errW_some] <;> rfl) | (simp [*, errW_none, errW_some] <;> rfl), by first | exact Kd.R_nil _ _ _ _ _ | exact Kd.N_nil _ _ _ _ _ | exact Kd.V_nil _ _ _ _ _ | exact Kd.Q_nil _ _ _ _ _ | exact Kd.S_nil _ _ _ _ _, by repeat (first | (with_reducible first | exact HB.out | apply below_alloc | apply pw_below_drewN | apply below_drew1) | exact HB.out)⟩
      ·replace c6 := Bool.eq_false_iff.mpr c6
       subst c6
       have H1 : (some (([] : List Int), false)) = some (r1, r2) := by rw [if_neg (show ¬ (false = true) by decide)] at H; exact H
       clear H
       have H := H1
       clear H1
       simp only [Option.some.injEq, Prod.mk.injEq] at H
       obtain ⟨rfl, rfl⟩ := H
       have p128 : 0 ≤ (x11_1 : Int) := of_decide_eq_true (by first | (with_reducible assumption) | assumption)
       have q128 : x11_1 < (l0.length : Int) := of_decide_eq_true (by first | (with_reducible assumption) | assumption)
       obtain ⟨ad128, e128, hx128_0⟩ := Kd.at_string HR0.out x11_1 p128 q128
       cases e128
       replace hx128_0 := (HB.out.cell (World.block_lt_of_cell? w _ hx128_0)).trans hx128_0
       replace p128 := eq_true p128
       replace q128 := eq_true q128
       go_wp2_with (first | ((with_reducible refine gate_callee (f := 74) rfl ?_); refine goesL_ (some 17) rfl rfl Tryz.func74 (by kernel_rfl) rfl #[.string (rdOf ByteArray.empty l0 x11_1)] rfl (by (try simp only [List.map_toArray, List.map_cons, List.map_nil]); first | done | rfl | (simp only [List.length_drop, List.length_take]; rfl)) ?_; (with_reducible refine (spec_Dec.calls k1 (rdOf ByteArray.empty l0 x11_1) t129 false _ A5.out).mono ?_); rintro e w' ⟨rfl, ⟨nd, rfl⟩⟩; refine ⟨_, rfl, ?_⟩))
       go_ret2
       exact ⟨_, by first | rfl | (simp [errW_none, errW_some] <;> rfl) | (simp [*, errW_none, errW_some] <;> rfl), by first | exact Kd.R_nil _ _ _ _ _ | exact Kd.N_nil _ _ _ _ _ | exact Kd.V_nil _ _ _ _ _ | exact Kd.Q_nil _ _ _ _ _ | exact Kd.S_nil _ _ _ _ _, by repeat (first | (with_reducible first | exact HB.out | apply below_alloc | apply pw_below_drewN | apply below_drew1) | exact HB.out)⟩
     ·rw [if_neg c4] at H
      exact absurd H (by simp)
    ·rw [if_neg c3] at H
     exact absurd H (by simp)
   ·rw [if_neg c2] at H
    have c2b0 : decide (x11_1 < (l0.length : Int)) = false := decide_eq_false c2
    clear c2
    simp only [Option.some.injEq, Prod.mk.injEq] at H
    obtain ⟨rfl, rfl⟩ := H
    go_wp2
    go_ret2
    exact ⟨_, by first | rfl | (simp [errW_none, errW_some] <;> rfl) | (simp [*, errW_none, errW_some] <;> rfl), by (with_reducible repeat (first | apply Kd.R_alloc | apply Kd.R_drewN | apply Kd.R_drew)); exact HO_4.out, by repeat (first | (with_reducible first | exact HB.out | apply below_alloc | apply pw_below_drewN | apply below_drew1) | exact HB.out)⟩

/-! ### spec_Join: function 128 -/
end Go.Proofs.YtdmpbaanonafbaaGreatDoor.L
