-- written by a program of this session (wip/tools/pp.py)
import Derived.Test.YtlmmgienbmghmaaDoorB0
namespace Go.Proofs.YtlmmgienbmghmaaDoor.B
open Go.RowKit Go.Proofs.YtlmmgienbmghmaaDoorW.PrintWords Go.Proofs.YtlmmgienbmghmaaDoorW.PrintLast Go.Proofs.YtlmmgienbmghmaaDoor.GivIdx Go.Proofs.YtlmmgienbmghmaaDoor.GivPU Go.Proofs.YtlmmgienbmghmaaDoorW.PrintMore
attribute [local go_sem] max2_int min2_int max_two min_two max_three min_three max_four min_four   -- for this text's walks alone
set_option linter.unusedVariables false
set_option linter.unusedSimpArgs false

/-! ### laws_twoDigits: function 7 -/
def laws_twoDigits.l0 : Nat → ByteArray → Int → Int → Option (Bool)
  | 0, _, _, _ => none
  | k + 1, x0, x5, x6 => if x6 < x5 then (if 0 ≤ x6 then (if x6 < (x0.size : Int) then (if (bt x0 x6) < 16 then (some false) else (if (bt x0 x6) > 127 then (some false) else (laws_twoDigits.l0 k x0 x5 (wrap64 (x6 + 1))))) else (none)) else (none)) else (some true)
def laws_twoDigits.f (k : Nat) (a0 : ByteArray) : Option (Bool) := laws_twoDigits.l0 k a0 (a0.size : Int) 0
theorem laws_twoDigits.mono_l : ∀ k, (∀ y0 y1 y2, LeO (laws_twoDigits.l0 k y0 y1 y2) (laws_twoDigits.l0 (k + 1) y0 y1 y2))
  | 0 => fun _ _ _ r h => by simp [laws_twoDigits.l0] at h
  | k + 1 => by
    have ih0 := laws_twoDigits.mono_l k
    · intro y0 y1 y2
      unfold laws_twoDigits.l0
      repeat' first
      | (with_reducible exact ih0 _ _ _)
      | (with_reducible exact LeO.refl _)
      | (with_reducible exact LeO.none _)
      | (with_reducible refine LeO.ite ?_ ?_)
      | (with_reducible refine LeO.bind ?_ (fun _ => ?_))
      | exact ih0 _ _ _
      | exact LeO.none _
      | refine LeO.ite ?_ ?_
      | refine LeO.bind ?_ (fun _ => ?_)
theorem laws_twoDigits.mono : ∀ a0 k, LeO (laws_twoDigits.f k a0) (laws_twoDigits.f (k + 1) a0) := by
  intro a0 k
  have ih0 := laws_twoDigits.mono_l k
  unfold laws_twoDigits.f
  repeat' first
      | (with_reducible exact ih0 _ _ _)
      | (with_reducible exact LeO.refl _)
      | (with_reducible exact LeO.none _)
      | (with_reducible refine LeO.ite ?_ ?_)
      | (with_reducible refine LeO.bind ?_ (fun _ => ?_))
      | exact ih0 _ _ _
      | exact LeO.none _
      | refine LeO.ite ?_ ?_
      | refine LeO.bind ?_ (fun _ => ?_)
set_option maxHeartbeats 8000000 in
set_option maxRecDepth 100000 in
theorem laws_twoDigits.calls (k : Nat) (a0 : ByteArray) (r : Bool) (w : World) (h : laws_twoDigits.f k a0 = some r) :
    Calls Tryd.prog 7 #[.string a0] w fun e w' => e = .returned (.bool r) ∧ Drawn0 w w' := by
  have H : (laws_twoDigits.l0 k a0 (a0.size : Int) 0) = some r := h
  clear h
  have H' := Aside0.mk H
  clear H
  go_enter Tryd.func7, Tryd.ntmps7
  go_wp2
  go_loopg [6] k (fun kq v6 w' => ∃ (x6_1 : Int), v6 = .int .i64 x6_1 ∧ Aside0 (laws_twoDigits.l0 kq a0 (a0.size : Int) x6_1 = some r) ∧ Aside0 (kq ≤ k) ∧ Drawn0 w w')
  case atStart => exact ⟨(0), (by first | rfl | (simp; done) | (simp [*]; done)), H', ⟨Nat.le_refl _⟩, by repeat (first | exact Drawn0.refl _ | apply Drawn0.step)⟩
  case round =>
    clear H'
    obtain ⟨x6_1, rfl, HA, HK1, ⟨m1, rfl⟩⟩ := hrel
    cases gk with
    | zero => exact absurd HA.out (by simp [laws_twoDigits.l0])
    | succ k1 =>
      have H := HA.out
      clear HA
      simp only [laws_twoDigits.l0] at H
      by_cases c2 : x6_1 < (a0.size : Int)
      · rw [if_pos c2] at H
        have c2b0 : decide (x6_1 < (a0.size : Int)) = true := decide_eq_true c2
        clear c2
        by_cases c3 : 0 ≤ x6_1
        · rw [if_pos c3] at H
          have c3b0 : decide (0 ≤ x6_1) = true := decide_eq_true c3
          clear c3
          by_cases c4 : x6_1 < (a0.size : Int)
          · rw [if_pos c4] at H
            have c4b0 : decide (x6_1 < (a0.size : Int)) = true := decide_eq_true c4
            clear c4
            by_cases c6 : (bt a0 x6_1) < 16
            · rw [if_pos c6] at H
              have c6b0 : decide ((bt a0 x6_1) < 16) = true := decide_eq_true c6
              clear c6
              obtain rfl := Option.some.inj H
              have p5 : 0 ≤ (x6_1 : Int) := of_decide_eq_true (by first | (with_reducible assumption) | assumption)
              have q5 : x6_1 < (a0.size : Int) := of_decide_eq_true (by first | (with_reducible assumption) | assumption)
              have hx5 := bt_at a0 x6_1
              replace p5 := eq_true p5
              replace q5 := eq_true q5
              go_wp2
              go_ret
              exact ⟨by first | rfl | (simp; done) | (simp [*]; done), by repeat (first | exact Drawn0.refl _ | apply Drawn0.step)⟩
            · rw [if_neg c6] at H
              have c6b0 : decide ((bt a0 x6_1) < 16) = false := decide_eq_false c6
              clear c6
              by_cases c8 : (bt a0 x6_1) > 127
              · rw [if_pos c8] at H
                have c8b0 : decide (127 < (bt a0 x6_1)) = true := decide_eq_true c8
                clear c8
                obtain rfl := Option.some.inj H
                have p5 : 0 ≤ (x6_1 : Int) := of_decide_eq_true (by first | (with_reducible assumption) | assumption)
                have q5 : x6_1 < (a0.size : Int) := of_decide_eq_true (by first | (with_reducible assumption) | assumption)
                have hx5 := bt_at a0 x6_1
                replace p5 := eq_true p5
                replace q5 := eq_true q5
                have p7 : 0 ≤ (x6_1 : Int) := of_decide_eq_true (by first | (with_reducible assumption) | assumption)
                have q7 : x6_1 < (a0.size : Int) := of_decide_eq_true (by first | (with_reducible assumption) | assumption)
                have hx7 := bt_at a0 x6_1
                replace p7 := eq_true p7
                replace q7 := eq_true q7
                go_wp2
                go_ret
                exact ⟨by first | rfl | (simp; done) | (simp [*]; done), by repeat (first | exact Drawn0.refl _ | apply Drawn0.step)⟩
              · rw [if_neg c8] at H
                have c8b0 : decide (127 < (bt a0 x6_1)) = false := decide_eq_false c8
                clear c8
                have H' := Aside0.mk H
                clear H
                have p5 : 0 ≤ (x6_1 : Int) := of_decide_eq_true (by first | (with_reducible assumption) | assumption)
                have q5 : x6_1 < (a0.size : Int) := of_decide_eq_true (by first | (with_reducible assumption) | assumption)
                have hx5 := bt_at a0 x6_1
                replace p5 := eq_true p5
                replace q5 := eq_true q5
                have p7 : 0 ≤ (x6_1 : Int) := of_decide_eq_true (by first | (with_reducible assumption) | assumption)
                have q7 : x6_1 < (a0.size : Int) := of_decide_eq_true (by first | (with_reducible assumption) | assumption)
                have hx7 := bt_at a0 x6_1
                replace p7 := eq_true p7
                replace q7 := eq_true q7
                go_wp2
                go_roundg k1
                case measure => have := HK1.out; omega
                case rel => exact ⟨(wrap64 (x6_1 + 1)), (by first | rfl | (simp; done) | (simp [*]; done)), H', ⟨by have := HK1.out; omega⟩, by repeat (first | exact Drawn0.refl _ | apply Drawn0.step)⟩
          · rw [if_neg c4] at H
            exact absurd H (by simp)
        · rw [if_neg c3] at H
          exact absurd H (by simp)
      · rw [if_neg c2] at H
        have c2b0 : decide (x6_1 < (a0.size : Int)) = false := decide_eq_false c2
        clear c2
        obtain rfl := Option.some.inj H
        go_wp2
        go_ret
        exact ⟨by first | rfl | (simp; done) | (simp [*]; done), by repeat (first | exact Drawn0.refl _ | apply Drawn0.step)⟩

/-! ### strconv_ParseInt_39: function 39 -/
mutual
def strconv_ParseInt_39.j0 : Nat → ByteArray → Int → Int → Bool → Option (Int × Option Int)
  | 0, _, _, _, _ => none
  | k + 1, x0, x1, x2, x8 => (strconv_ParseUint.f x0 x1 x2).bind fun bt101 => (if bt101.2.isNone = true then (if x2 = 0 then (strconv_ParseInt_39.j1 k 64 x8 bt101.1) else (strconv_ParseInt_39.j1 k x2 x8 bt101.1)) else (none))
def strconv_ParseInt_39.j1 : Nat → Int → Bool → Int → Option (Int × Option Int)
  | 0, _, _, _ => none
  | k + 1, x2, x8, x9 => if 0 ≤ (IntKind.u64.wrap (wrap64 (x2 - 1))) then (if x8 = true then (strconv_ParseInt_39.j2 k x8 x9 (shl .u64 1 (IntKind.u64.wrap (wrap64 (x2 - 1)))) false) else (strconv_ParseInt_39.j2 k x8 x9 (shl .u64 1 (IntKind.u64.wrap (wrap64 (x2 - 1)))) (decide (x9 ≥ (shl .u64 1 (IntKind.u64.wrap (wrap64 (x2 - 1)))))))) else (none)
def strconv_ParseInt_39.j2 : Nat → Bool → Int → Int → Bool → Option (Int × Option Int)
  | 0, _, _, _, _ => none
  | k + 1, x8, x9, x10, x52 => if x52 = true then (some (wrap64 (IntKind.u64.wrap (x10 - 1)), some 1)) else (if x8 = true then (strconv_ParseInt_39.j3 k x8 x9 x10 (decide (x9 > x10))) else (strconv_ParseInt_39.j3 k x8 x9 x10 false))
def strconv_ParseInt_39.j3 : Nat → Bool → Int → Int → Bool → Option (Int × Option Int)
  | 0, _, _, _, _ => none
  | k + 1, x8, x9, x10, x62 => if x62 = true then (some (wrap64 (-(wrap64 (x10))), some 1)) else (if x8 = true then (some (wrap64 (-(wrap64 (x9))), none)) else (some (wrap64 (x9), none)))
end
def strconv_ParseInt_39.f (k : Nat) (a0 : ByteArray) (a1 : Int) (a2 : Int) : Option (Int × Option Int) := if a0.toList = ([] : List UInt8) then (some (0, some 2)) else (if 0 < (a0.size : Int) then (if (bt a0 0) = 43 then (if 1 ≤ (a0.size : Int) then (strconv_ParseInt_39.j0 k (a0.extract 1 a0.size) a1 a2 false) else (none)) else (if (bt a0 0) = 45 then (if 1 ≤ (a0.size : Int) then (strconv_ParseInt_39.j0 k (a0.extract 1 a0.size) a1 a2 true) else (none)) else (strconv_ParseInt_39.j0 k a0 a1 a2 false))) else (none))
theorem strconv_ParseInt_39.mono_l : ∀ k, (∀ y0 y1 y2 y3, LeO (strconv_ParseInt_39.j0 k y0 y1 y2 y3) (strconv_ParseInt_39.j0 (k + 1) y0 y1 y2 y3)) ∧ (∀ y0 y1 y2, LeO (strconv_ParseInt_39.j1 k y0 y1 y2) (strconv_ParseInt_39.j1 (k + 1) y0 y1 y2)) ∧ (∀ y0 y1 y2 y3, LeO (strconv_ParseInt_39.j2 k y0 y1 y2 y3) (strconv_ParseInt_39.j2 (k + 1) y0 y1 y2 y3)) ∧ (∀ y0 y1 y2 y3, LeO (strconv_ParseInt_39.j3 k y0 y1 y2 y3) (strconv_ParseInt_39.j3 (k + 1) y0 y1 y2 y3))
  | 0 => ⟨fun _ _ _ _ r h => by simp [strconv_ParseInt_39.j0] at h, fun _ _ _ r h => by simp [strconv_ParseInt_39.j1] at h, fun _ _ _ _ r h => by simp [strconv_ParseInt_39.j2] at h, fun _ _ _ _ r h => by simp [strconv_ParseInt_39.j3] at h⟩
  | k + 1 => by
    obtain ⟨ih0, ih1, ih2, ih3⟩ := strconv_ParseInt_39.mono_l k
    refine ⟨?_, ?_, ?_, ?_⟩
    · intro y0 y1 y2 y3
      unfold strconv_ParseInt_39.j0
      repeat' first
      | (with_reducible exact ih0 _ _ _ _)
      | (with_reducible exact ih1 _ _ _)
      | (with_reducible exact ih2 _ _ _ _)
      | (with_reducible exact ih3 _ _ _ _)
      | (with_reducible exact LeO.refl _)
      | (with_reducible exact LeO.none _)
      | (with_reducible refine LeO.ite ?_ ?_)
      | (with_reducible refine LeO.bind ?_ (fun _ => ?_))
      | exact ih0 _ _ _ _
      | exact ih1 _ _ _
      | exact ih2 _ _ _ _
      | exact ih3 _ _ _ _
      | exact LeO.none _
      | refine LeO.ite ?_ ?_
      | refine LeO.bind ?_ (fun _ => ?_)
    · intro y0 y1 y2
      unfold strconv_ParseInt_39.j1
      repeat' first
      | (with_reducible exact ih0 _ _ _ _)
      | (with_reducible exact ih1 _ _ _)
      | (with_reducible exact ih2 _ _ _ _)
      | (with_reducible exact ih3 _ _ _ _)
      | (with_reducible exact LeO.refl _)
      | (with_reducible exact LeO.none _)
      | (with_reducible refine LeO.ite ?_ ?_)
      | (with_reducible refine LeO.bind ?_ (fun _ => ?_))
      | exact ih0 _ _ _ _
      | exact ih1 _ _ _
      | exact ih2 _ _ _ _
      | exact ih3 _ _ _ _
      | exact LeO.none _
      | refine LeO.ite ?_ ?_
      | refine LeO.bind ?_ (fun _ => ?_)
    · intro y0 y1 y2 y3
      unfold strconv_ParseInt_39.j2
      repeat' first
      | (with_reducible exact ih0 _ _ _ _)
      | (with_reducible exact ih1 _ _ _)
      | (with_reducible exact ih2 _ _ _ _)
      | (with_reducible exact ih3 _ _ _ _)
      | (with_reducible exact LeO.refl _)
      | (with_reducible exact LeO.none _)
      | (with_reducible refine LeO.ite ?_ ?_)
      | (with_reducible refine LeO.bind ?_ (fun _ => ?_))
      | exact ih0 _ _ _ _
      | exact ih1 _ _ _
      | exact ih2 _ _ _ _
      | exact ih3 _ _ _ _
      | exact LeO.none _
      | refine LeO.ite ?_ ?_
      | refine LeO.bind ?_ (fun _ => ?_)
    · intro y0 y1 y2 y3
      unfold strconv_ParseInt_39.j3
      repeat' first
      | (with_reducible exact ih0 _ _ _ _)
      | (with_reducible exact ih1 _ _ _)
      | (with_reducible exact ih2 _ _ _ _)
      | (with_reducible exact ih3 _ _ _ _)
      | (with_reducible exact LeO.refl _)
      | (with_reducible exact LeO.none _)
      | (with_reducible refine LeO.ite ?_ ?_)
      | (with_reducible refine LeO.bind ?_ (fun _ => ?_))
      | exact ih0 _ _ _ _
      | exact ih1 _ _ _
      | exact ih2 _ _ _ _
      | exact ih3 _ _ _ _
      | exact LeO.none _
      | refine LeO.ite ?_ ?_
      | refine LeO.bind ?_ (fun _ => ?_)
theorem strconv_ParseInt_39.mono : ∀ a0 a1 a2 k, LeO (strconv_ParseInt_39.f k a0 a1 a2) (strconv_ParseInt_39.f (k + 1) a0 a1 a2) := by
  intro a0 a1 a2 k
  obtain ⟨ih0, ih1, ih2, ih3⟩ := strconv_ParseInt_39.mono_l k
  unfold strconv_ParseInt_39.f
  repeat' first
      | (with_reducible exact ih0 _ _ _ _)
      | (with_reducible exact ih1 _ _ _)
      | (with_reducible exact ih2 _ _ _ _)
      | (with_reducible exact ih3 _ _ _ _)
      | (with_reducible exact LeO.refl _)
      | (with_reducible exact LeO.none _)
      | (with_reducible refine LeO.ite ?_ ?_)
      | (with_reducible refine LeO.bind ?_ (fun _ => ?_))
      | exact ih0 _ _ _ _
      | exact ih1 _ _ _
      | exact ih2 _ _ _ _
      | exact ih3 _ _ _ _
      | exact LeO.none _
      | refine LeO.ite ?_ ?_
      | refine LeO.bind ?_ (fun _ => ?_)
set_option maxHeartbeats 8000000 in
set_option maxRecDepth 100000 in
theorem strconv_ParseInt_39.calls (k : Nat) (a0 : ByteArray) (a1 : Int) (a2 : Int) (r1 : Int) (r2 : Option Int) (w : World) (h : strconv_ParseInt_39.f k a0 a1 a2 = some (r1, r2)) :
    Calls Tryd.prog 39 #[.string a0, .int .i64 a1, .int .i64 a2] w fun e w' => e = .returned (.tuple #[.int .i64 r1, errW r2]) ∧ Below w.heap.size w w' := by
  have hu44 := Tryd.underlying44
  have hu100 := Tryd.underlying100
  have HB := Aside0.mk (Below.refl w.heap.size w)
  have H : (if a0.toList = ([] : List UInt8) then (some (0, some 2)) else (if 0 < (a0.size : Int) then (if (bt a0 0) = 43 then (if 1 ≤ (a0.size : Int) then (strconv_ParseInt_39.j0 k (a0.extract 1 a0.size) a1 a2 false) else (none)) else (if (bt a0 0) = 45 then (if 1 ≤ (a0.size : Int) then (strconv_ParseInt_39.j0 k (a0.extract 1 a0.size) a1 a2 true) else (none)) else (strconv_ParseInt_39.j0 k a0 a1 a2 false))) else (none))) = some (r1, r2) := h
  clear h
  by_cases c4 : a0.toList = ([] : List UInt8)
  · rw [if_pos c4] at H
    have c4b0 : (a0.toList == ([] : List UInt8)) = true := beq_iff_eq.mpr c4
    have c4b1 : (a0.toList != ([] : List UInt8)) = false := bne_eq_false_iff_eq.mpr c4
    clear c4
    simp only [Option.some.injEq, Prod.mk.injEq] at H
    obtain ⟨rfl, rfl⟩ := H
    go_enter Tryd.func39, Tryd.ntmps39
    go_wp2
    go_ret2
    exact ⟨by first | rfl | (simp [errW_none, errW_some] <;> rfl) | (simp [*, errW_none, errW_some] <;> rfl), by repeat (first | (with_reducible first | exact HB.out | apply below_alloc | apply pw_below_drewN | apply below_drew1) | exact HB.out)⟩
  · rw [if_neg c4] at H
    have c4b0 : (a0.toList == ([] : List UInt8)) = false := beq_eq_false_iff_ne.mpr c4
    have c4b1 : (a0.toList != ([] : List UInt8)) = true := bne_iff_ne.mpr c4
    by_cases c5 : 0 < (a0.size : Int)
    · rw [if_pos c5] at H
      have c5b0 : decide (0 < (a0.size : Int)) = true := decide_eq_true c5
      have c5b1 : decide (0 < a0.size) = true := decide_eq_true (by omega)
      clear c5
      have HC7 := Aside0.mk H
      clear H
      have p6 : 0 ≤ (0 : Int) := (by omega)
      have q6 : 0 < a0.size := (by have : (0 : Int) < (a0.size : Int) := of_decide_eq_true (by first | (with_reducible assumption) | assumption); omega)
      have hx6 : ∀ h : 0 < a0.size, ((a0[0]'h).toNat : Int) = bt a0 0 := bt_at a0 0
      clear p6
      have qi6 : (0 < (a0.size : Int)) = True := eq_true (of_decide_eq_true (by first | (with_reducible assumption) | assumption))
      replace q6 := eq_true q6
      go_enter Tryd.func39, Tryd.ntmps39
      go_upto_block 0 with (fail)
      go_cut [0, 8] (fun v0 v8 wc => ∃ (kq : Nat) (x0_6 : ByteArray) (x8_6 : Bool), v0 = .string x0_6 ∧ v8 = .bool x8_6 ∧ Aside0 (strconv_ParseInt_39.j0 kq x0_6 a1 a2 x8_6 = some (r1, r2)) ∧ Aside0 (kq ≤ k) ∧ Aside0 (Below w.heap.size w wc))
      case first =>
        have H := HC7.out
        clear HC7
        by_cases c8 : (bt a0 0) = 43
        · rw [if_pos c8] at H
          have c8b0 : ((bt a0 0) == 43) = true := beq_iff_eq.mpr c8
          have c8b1 : ((bt a0 0) != 43) = false := bne_eq_false_iff_eq.mpr c8
          clear c8
          (first | rw [c8b0] | (simp only [i64_w, i32_w]; rw [c8b0]) | skip)
          by_cases c9 : 1 ≤ (a0.size : Int)
          · rw [if_pos c9] at H
            have c9b0 := eq_true c9
            have c9b1 : decide (1 ≤ (a0.size : Int)) = true := decide_eq_true c9
            clear c9
            have H' := Aside0.mk H
            clear H
            go_wp2
            go_meet
            case rel => exact ⟨_, (a0.extract 1 a0.size), (false), (by first | rfl | (simp; done) | (simp [*]; done)), (by first | rfl | (simp; done) | (simp [*]; done)), H', ⟨by first | omega | exact Nat.le_refl _⟩, ⟨by repeat (first | (with_reducible first | exact HB.out | apply below_alloc | apply pw_below_drewN | apply below_drew1) | exact HB.out)⟩⟩
          · rw [if_neg c9] at H
            exact absurd H (by simp)
        · rw [if_neg c8] at H
          have c8b0 : ((bt a0 0) == 43) = false := beq_eq_false_iff_ne.mpr c8
          have c8b1 : ((bt a0 0) != 43) = true := bne_iff_ne.mpr c8
          (first | rw [c8b0] | (simp only [i64_w, i32_w]; rw [c8b0]) | skip)
          by_cases c10 : (bt a0 0) = 45
          · rw [if_pos c10] at H
            have c10b0 : ((bt a0 0) == 45) = true := beq_iff_eq.mpr c10
            have c10b1 : ((bt a0 0) != 45) = false := bne_eq_false_iff_eq.mpr c10
            clear c10
            by_cases c11 : 1 ≤ (a0.size : Int)
            · rw [if_pos c11] at H
              have c11b0 := eq_true c11
              have c11b1 : decide (1 ≤ (a0.size : Int)) = true := decide_eq_true c11
              clear c11
              have H' := Aside0.mk H
              clear H
              go_wp2
              go_meet
              case rel => exact ⟨_, (a0.extract 1 a0.size), (true), (by first | rfl | (simp; done) | (simp [*]; done)), (by first | rfl | (simp; done) | (simp [*]; done)), H', ⟨by first | omega | exact Nat.le_refl _⟩, ⟨by repeat (first | (with_reducible first | exact HB.out | apply below_alloc | apply pw_below_drewN | apply below_drew1) | exact HB.out)⟩⟩
            · rw [if_neg c11] at H
              exact absurd H (by simp)
          · rw [if_neg c10] at H
            have c10b0 : ((bt a0 0) == 45) = false := beq_eq_false_iff_ne.mpr c10
            have c10b1 : ((bt a0 0) != 45) = true := bne_iff_ne.mpr c10
            have H' := Aside0.mk H
            clear H
            go_wp2
            go_meet
            case rel => exact ⟨_, (a0), (false), (by first | rfl | (simp; done) | (simp [*]; done)), (by first | rfl | (simp; done) | (simp [*]; done)), H', ⟨by first | omega | exact Nat.le_refl _⟩, ⟨by repeat (first | (with_reducible first | exact HB.out | apply below_alloc | apply pw_below_drewN | apply below_drew1) | exact HB.out)⟩⟩
      case rest =>
        clear HC7
        try clear c1
        try clear p2
        try clear c3
        try clear c4
        try clear c4b0
        try clear c4b1
        try clear c5
        try clear c5b0
        try clear c5b1
        try clear p6
        try clear q6
        try clear hx6
        try clear qi6
        try clear c8
        try clear c8b0
        try clear c8b1
        try clear c9
        try clear c9b0
        try clear c9b1
        try clear c10
        try clear c10b0
        try clear c10b1
        try clear c11
        try clear c11b0
        try clear c11b1
        try clear p6
        try clear q6
        obtain ⟨kq, x0_6, x8_6, rfl, rfl, HA, HJ6, HB⟩ := hcut
        cases kq with
        | zero => exact absurd HA.out (by simp [strconv_ParseInt_39.j0])
        | succ kj6 =>
          have H := HA.out
          clear HA
          simp only [strconv_ParseInt_39.j0] at H
          replace H := Option.bind_eq_some_iff.mp H
          obtain ⟨⟨t101, t102⟩, A120, H⟩ := H
          replace H : (if t102.isNone = true then (if a2 = 0 then (strconv_ParseInt_39.j1 kj6 64 x8_6 t101) else (strconv_ParseInt_39.j1 kj6 a2 x8_6 t101)) else (none)) = some (r1, r2) := H
          have A12 := Aside0.mk A120
          clear A120
          rcases t102 with _ | q103
          · have H1 : (if a2 = 0 then (strconv_ParseInt_39.j1 kj6 64 x8_6 t101) else (strconv_ParseInt_39.j1 kj6 a2 x8_6 t101)) = some (r1, r2) := by rw [if_pos (show (none : Option Int).isNone = true by rfl)] at H; exact H
            clear H
            have H := H1
            clear H1
            try simp only [errW_none, errW_some]
            have HC13 := Aside0.mk H
            clear H
            go_upto_if 41 with (first | ((with_reducible refine gate_callee (f := 47) rfl ?_); refine goesL_ (some 29) rfl rfl Tryd.func47 (by kernel_rfl) rfl #[.string x0_6, .int .i64 a1, .int .i64 a2] rfl (by (try simp only [List.map_toArray, List.map_cons, List.map_nil]); first | done | rfl | (simp only [List.length_drop, List.length_take]; rfl)) ?_; (with_reducible refine (strconv_ParseUint.calls x0_6 a1 a2 t101 none _ A12.out).mono ?_); rintro e w14 ⟨rfl, hb⟩; refine ⟨_, rfl, ?_⟩; have n0_ := Aside0.mk (below_step (by repeat (first | (with_reducible first | exact HB.out | apply below_alloc | apply pw_below_drewN | apply below_drew1) | exact HB.out)) hb); clear HB; have HB := n0_; clear n0_; (try clear hb); (try clear hb2); (try clear hk); (try clear hi); (try simp only [errW_none, errW_some])))
            (try simp only [Act.put, List.setIfInBounds_toArray, List.set_cons_zero, List.set_cons_succ])
            go_cut [2] (fun v2 wc => ∃ (kq : Nat) (x2_12 : Int), v2 = .int .i64 x2_12 ∧ Aside0 (strconv_ParseInt_39.j1 kq x2_12 x8_6 t101 = some (r1, r2)) ∧ Aside0 (kq ≤ kj6) ∧ Aside0 (Below w.heap.size w wc))
            case first =>
              have H := HC13.out
              clear HC13
              by_cases c15 : a2 = 0
              · rw [if_pos c15] at H
                have c15b0 : (a2 == 0) = true := beq_iff_eq.mpr c15
                have c15b1 : (a2 != 0) = false := bne_eq_false_iff_eq.mpr c15
                clear c15
                (first | rw [c15b0] | (simp only [i64_w, i32_w]; rw [c15b0]) | skip)
                have H' := Aside0.mk H
                clear H
                go_wp2
                go_meet
                case rel => exact ⟨_, (64), (by first | rfl | (simp; done) | (simp [*]; done)), H', ⟨by have := HJ6.out; first | omega | exact Nat.le_refl _⟩, ⟨by repeat (first | (with_reducible first | exact HB.out | apply below_alloc | apply pw_below_drewN | apply below_drew1) | exact HB.out)⟩⟩
              · rw [if_neg c15] at H
                have c15b0 : (a2 == 0) = false := beq_eq_false_iff_ne.mpr c15
                have c15b1 : (a2 != 0) = true := bne_iff_ne.mpr c15
                (first | rw [c15b0] | (simp only [i64_w, i32_w]; rw [c15b0]) | skip)
                have H' := Aside0.mk H
                clear H
                go_wp2
                go_meet
                case rel => exact ⟨_, (a2), (by first | rfl | (simp; done) | (simp [*]; done)), H', ⟨by have := HJ6.out; first | omega | exact Nat.le_refl _⟩, ⟨by repeat (first | (with_reducible first | exact HB.out | apply below_alloc | apply pw_below_drewN | apply below_drew1) | exact HB.out)⟩⟩
            case rest =>
              clear HC13
              try clear c1
              try clear q1
              try clear p2
              try clear c3
              try clear c4
              try clear c4b0
              try clear c4b1
              try clear c5
              try clear c5b0
              try clear c5b1
              try clear p6
              try clear q6
              try clear hx6
              try clear qi6
              try clear c8
              try clear c8b0
              try clear c8b1
              try clear c9
              try clear c9b0
              try clear c9b1
              try clear c10
              try clear c10b0
              try clear c10b1
              try clear q10
              try clear c11
              try clear c11b0
              try clear c11b1
              try clear c15
              try clear c15b0
              try clear c15b1
              try clear p2
              try clear p6
              try clear q103
              try clear q6
              obtain ⟨kq, x2_12, rfl, HA, HJ12, HB⟩ := hcut
              cases kq with
              | zero => exact absurd HA.out (by simp [strconv_ParseInt_39.j1])
              | succ kj12 =>
                have H := HA.out
                clear HA
                simp only [strconv_ParseInt_39.j1] at H
                obtain ⟨ji16, hji16⟩ : ∃ j_ : Int, (IntKind.u64.wrap (wrap64 (x2_12 - 1))) = j_ := ⟨_, rfl⟩
                replace H : (if 0 ≤ (ji16) then (if x8_6 = true then (strconv_ParseInt_39.j2 kj12 x8_6 t101 (shl .u64 1 (ji16)) false) else (strconv_ParseInt_39.j2 kj12 x8_6 t101 (shl .u64 1 (ji16)) (decide (t101 ≥ (shl .u64 1 (ji16)))))) else (none)) = some (r1, r2) := by first | (rw [hji16] at H; exact H) | (simp only [hji16] at H ⊢; exact H)
                by_cases c17 : 0 ≤ (ji16)
                · rw [if_pos c17] at H
                  have c17b0 := eq_true c17
                  have c17b1 : decide (0 ≤ (ji16)) = true := decide_eq_true c17
                  clear c17
                  obtain ⟨ji18, hji18⟩ : ∃ j_ : Int, (shl .u64 1 (ji16)) = j_ := ⟨_, rfl⟩
                  replace H : (if x8_6 = true then (strconv_ParseInt_39.j2 kj12 x8_6 t101 ji18 false) else (strconv_ParseInt_39.j2 kj12 x8_6 t101 ji18 (decide (t101 ≥ (ji18))))) = some (r1, r2) := by first | (rw [hji18] at H; exact H) | (simp only [hji18] at H ⊢; exact H)
                  have hji18_ : (IntKind.u64.wrap (1 * 2 ^ min (ji16).toNat 64)) = ji18 := hji18
                  have hji18z : (ji16) ≤ 64 → (IntKind.u64.wrap (1 * 2 ^ (ji16).toNat)) = ji18 := shl_small hji18
                  have hji18u : (IntKind.u64.wrap (2 ^ min (ji16).toNat 64)) = ji18 := by have h_ := hji18_; rw [Int.one_mul] at h_; exact h_
                  have hji18v : (ji16) ≤ 64 → (IntKind.u64.wrap (2 ^ (ji16).toNat)) = ji18 := fun hle_ => by have h_ := hji18z hle_; rw [Int.one_mul] at h_; exact h_
                  have HC19 := Aside0.mk H
                  clear H
                  go_upto_region 17 with (fail)
                  go_cut [52] (fun v52 wc => ∃ (kq : Nat) (x52_18 : Bool), v52 = .bool x52_18 ∧ Aside0 (strconv_ParseInt_39.j2 kq x8_6 t101 ji18 x52_18 = some (r1, r2)) ∧ Aside0 (kq ≤ kj12) ∧ Aside0 (Below w.heap.size w wc))
                  case first =>
                    have H := HC19.out
                    clear HC19
                    by_cases c20 : x8_6 = true
                    · subst c20
                      have H1 : (strconv_ParseInt_39.j2 kj12 true t101 ji18 false) = some (r1, r2) := by rw [if_pos rfl] at H; exact H
                      clear H
                      have H := H1
                      clear H1
                      have H' := Aside0.mk H
                      clear H
                      go_wp2
                      go_meet
                      case rel => exact ⟨_, (false), (by first | rfl | (simp; done) | (simp [*]; done)), H', ⟨by have := HJ6.out; have := HJ12.out; first | omega | exact Nat.le_refl _⟩, ⟨by repeat (first | (with_reducible first | exact HB.out | apply below_alloc | apply pw_below_drewN | apply below_drew1) | exact HB.out)⟩⟩
                    · replace c20 := Bool.eq_false_iff.mpr c20
                      subst c20
                      have H1 : (strconv_ParseInt_39.j2 kj12 false t101 ji18 (decide (t101 ≥ (ji18)))) = some (r1, r2) := by rw [if_neg (show ¬ (false = true) by decide)] at H; exact H
                      clear H
                      have H := H1
                      clear H1
                      have H' := Aside0.mk H
                      clear H
                      go_wp2
                      go_meet
                      case rel => exact ⟨_, (decide (t101 ≥ (ji18))), (by first | rfl | (simp; done) | (simp only [← hji18] <;> (first | rfl | simp)) | (simp [*]; done)), H', ⟨by have := HJ6.out; have := HJ12.out; first | omega | exact Nat.le_refl _⟩, ⟨by repeat (first | (with_reducible first | exact HB.out | apply below_alloc | apply pw_below_drewN | apply below_drew1) | exact HB.out)⟩⟩
                  case rest =>
                    clear HC19
                    try clear c1
                    try clear q1
                    try clear c2
                    try clear p2
                    try clear c3
                    try clear c4
                    try clear c4b0
                    try clear c4b1
                    try clear c5
                    try clear c5b0
                    try clear c5b1
                    try clear p6
                    try clear q6
                    try clear hx6
                    try clear qi6
                    try clear c8
                    try clear c8b0
                    try clear c8b1
                    try clear c9
                    try clear c9b0
                    try clear c9b1
                    try clear c10
                    try clear c10b0
                    try clear c10b1
                    try clear q10
                    try clear c11
                    try clear c11b0
                    try clear c11b1
                    try clear c15
                    try clear c15b0
                    try clear c15b1
                    try clear c17
                    try clear c17b0
                    try clear c17b1
                    try clear c20
                    try clear p2
                    try clear p6
                    try clear q1
                    try clear q10
                    try clear q103
                    try clear q6
                    obtain ⟨kq, x52_18, rfl, HA, HJ18, HB⟩ := hcut
                    cases kq with
                    | zero => exact absurd HA.out (by simp [strconv_ParseInt_39.j2])
                    | succ kj18 =>
                      have H := HA.out
                      clear HA
                      simp only [strconv_ParseInt_39.j2] at H
                      by_cases c21 : x52_18 = true
                      · subst c21
                        have H1 : (some (wrap64 (IntKind.u64.wrap (ji18 - 1)), some 1)) = some (r1, r2) := by rw [if_pos rfl] at H; exact H
                        clear H
                        have H := H1
                        clear H1
                        simp only [Option.some.injEq, Prod.mk.injEq] at H
                        obtain ⟨rfl, rfl⟩ := H
                        go_wp2
                        go_ret2
                        exact ⟨by first | rfl | (simp [errW_none, errW_some] <;> rfl) | (simp only [← hji16, ← hji18]; first | rfl | (simp [errW_none, errW_some] <;> rfl)) | (simp [*, errW_none, errW_some] <;> rfl), by repeat (first | (with_reducible first | exact HB.out | apply below_alloc | apply pw_below_drewN | apply below_drew1) | exact HB.out)⟩
                      · replace c21 := Bool.eq_false_iff.mpr c21
                        subst c21
                        have H1 : (if x8_6 = true then (strconv_ParseInt_39.j3 kj18 x8_6 t101 ji18 (decide (t101 > ji18))) else (strconv_ParseInt_39.j3 kj18 x8_6 t101 ji18 false)) = some (r1, r2) := by rw [if_neg (show ¬ (false = true) by decide)] at H; exact H
                        clear H
                        have H := H1
                        clear H1
                        have HC22 := Aside0.mk H
                        clear H
                        go_upto_region 19 with (fail)
                        go_cut [62] (fun v62 wc => ∃ (kq : Nat) (x62_21 : Bool), v62 = .bool x62_21 ∧ Aside0 (strconv_ParseInt_39.j3 kq x8_6 t101 ji18 x62_21 = some (r1, r2)) ∧ Aside0 (kq ≤ kj18) ∧ Aside0 (Below w.heap.size w wc))
                        case first =>
                          have H := HC22.out
                          clear HC22
                          by_cases c23 : x8_6 = true
                          · subst c23
                            have H1 : (strconv_ParseInt_39.j3 kj18 true t101 ji18 (decide (t101 > ji18))) = some (r1, r2) := by rw [if_pos rfl] at H; exact H
                            clear H
                            have H := H1
                            clear H1
                            have H' := Aside0.mk H
                            clear H
                            go_wp2
                            go_meet
                            case rel => exact ⟨_, (decide (t101 > ji18)), (by first | rfl | (simp; done) | (simp only [← hji18] <;> (first | rfl | simp)) | (simp [*]; done)), H', ⟨by have := HJ6.out; have := HJ12.out; have := HJ18.out; first | omega | exact Nat.le_refl _⟩, ⟨by repeat (first | (with_reducible first | exact HB.out | apply below_alloc | apply pw_below_drewN | apply below_drew1) | exact HB.out)⟩⟩
                          · replace c23 := Bool.eq_false_iff.mpr c23
                            subst c23
                            have H1 : (strconv_ParseInt_39.j3 kj18 false t101 ji18 false) = some (r1, r2) := by rw [if_neg (show ¬ (false = true) by decide)] at H; exact H
                            clear H
                            have H := H1
                            clear H1
                            have H' := Aside0.mk H
                            clear H
                            go_wp2
                            go_meet
                            case rel => exact ⟨_, (false), (by first | rfl | (simp; done) | (simp [*]; done)), H', ⟨by have := HJ6.out; have := HJ12.out; have := HJ18.out; first | omega | exact Nat.le_refl _⟩, ⟨by repeat (first | (with_reducible first | exact HB.out | apply below_alloc | apply pw_below_drewN | apply below_drew1) | exact HB.out)⟩⟩
                        case rest =>
                          clear HC22
                          try clear c1
                          try clear q1
                          try clear c2
                          try clear p2
                          try clear c3
                          try clear c4
                          try clear c4b0
                          try clear c4b1
                          try clear c5
                          try clear c5b0
                          try clear c5b1
                          try clear p6
                          try clear q6
                          try clear hx6
                          try clear qi6
                          try clear c8
                          try clear c8b0
                          try clear c8b1
                          try clear c9
                          try clear c9b0
                          try clear c9b1
                          try clear c10
                          try clear c10b0
                          try clear c10b1
                          try clear q10
                          try clear c11
                          try clear c11b0
                          try clear c11b1
                          try clear c15
                          try clear c15b0
                          try clear c15b1
                          try clear c17
                          try clear c17b0
                          try clear c17b1
                          try clear c20
                          try clear c21
                          try clear c23
                          try clear p2
                          try clear p6
                          try clear q1
                          try clear q10
                          try clear q103
                          try clear q6
                          obtain ⟨kq, x62_21, rfl, HA, HJ21, HB⟩ := hcut
                          cases kq with
                          | zero => exact absurd HA.out (by simp [strconv_ParseInt_39.j3])
                          | succ kj21 =>
                            have H := HA.out
                            clear HA
                            simp only [strconv_ParseInt_39.j3] at H
                            by_cases c24 : x62_21 = true
                            · subst c24
                              have H1 : (some (wrap64 (-(wrap64 (ji18))), some 1)) = some (r1, r2) := by rw [if_pos rfl] at H; exact H
                              clear H
                              have H := H1
                              clear H1
                              simp only [Option.some.injEq, Prod.mk.injEq] at H
                              obtain ⟨rfl, rfl⟩ := H
                              go_wp2
                              go_ret2
                              exact ⟨by first | rfl | (simp [errW_none, errW_some] <;> rfl) | (simp only [← hji16, ← hji18]; first | rfl | (simp [errW_none, errW_some] <;> rfl)) | (simp [*, errW_none, errW_some] <;> rfl), by repeat (first | (with_reducible first | exact HB.out | apply below_alloc | apply pw_below_drewN | apply below_drew1) | exact HB.out)⟩
                            · replace c24 := Bool.eq_false_iff.mpr c24
                              subst c24
                              have H1 : (if x8_6 = true then (some (wrap64 (-(wrap64 (t101))), none)) else (some (wrap64 (t101), none))) = some (r1, r2) := by rw [if_neg (show ¬ (false = true) by decide)] at H; exact H
                              clear H
                              have H := H1
                              clear H1
                              by_cases c25 : x8_6 = true
                              · subst c25
                                have H1 : (some (wrap64 (-(wrap64 (t101))), none)) = some (r1, r2) := by rw [if_pos rfl] at H; exact H
                                clear H
                                have H := H1
                                clear H1
                                simp only [Option.some.injEq, Prod.mk.injEq] at H
                                obtain ⟨rfl, rfl⟩ := H
                                go_wp2
                                go_ret2
                                exact ⟨by first | rfl | (simp [errW_none, errW_some] <;> rfl) | (simp only [← hji16, ← hji18]; first | rfl | (simp [errW_none, errW_some] <;> rfl)) | (simp [*, errW_none, errW_some] <;> rfl), by repeat (first | (with_reducible first | exact HB.out | apply below_alloc | apply pw_below_drewN | apply below_drew1) | exact HB.out)⟩
                              · replace c25 := Bool.eq_false_iff.mpr c25
                                subst c25
                                have H1 : (some (wrap64 (t101), none)) = some (r1, r2) := by rw [if_neg (show ¬ (false = true) by decide)] at H; exact H
                                clear H
                                have H := H1
                                clear H1
                                simp only [Option.some.injEq, Prod.mk.injEq] at H
                                obtain ⟨rfl, rfl⟩ := H
                                go_wp2
                                go_ret2
                                exact ⟨by first | rfl | (simp [errW_none, errW_some] <;> rfl) | (simp only [← hji16, ← hji18]; first | rfl | (simp [errW_none, errW_some] <;> rfl)) | (simp [*, errW_none, errW_some] <;> rfl), by repeat (first | (with_reducible first | exact HB.out | apply below_alloc | apply pw_below_drewN | apply below_drew1) | exact HB.out)⟩
                · rw [if_neg c17] at H
                  exact absurd H (by simp)
          · have H1 : (none) = some (r1, r2) := by rw [if_neg (show ¬ (some q103).isNone = true by simp)] at H; exact H
            clear H
            have H := H1
            clear H1
            try simp only [errW_none, errW_some]
            exact absurd H (by simp)
    · rw [if_neg c5] at H
      exact absurd H (by simp)

/-! ### strconv_ParseInt_33: function 33 -/
def strconv_ParseInt_33.f (k : Nat) (a0 : ByteArray) (a1 : Int) (a2 : Int) : Option (Int × Option Int) := (strconv_ParseInt_39.f k a0 a1 a2).bind fun bt104 => (if bt104.2.isNone = true then (some (bt104.1, none)) else (none))
theorem strconv_ParseInt_33.mono : ∀ a0 a1 a2 k, LeO (strconv_ParseInt_33.f k a0 a1 a2) (strconv_ParseInt_33.f (k + 1) a0 a1 a2) := by
  intro a0 a1 a2 k
  unfold strconv_ParseInt_33.f
  repeat' first
      | (with_reducible exact strconv_ParseInt_39.mono _ _ _ _)
      | (with_reducible exact LeO.refl _)
      | (with_reducible exact LeO.none _)
      | (with_reducible refine LeO.ite ?_ ?_)
      | (with_reducible refine LeO.bind ?_ (fun _ => ?_))
      | exact strconv_ParseInt_39.mono _ _ _ _
      | exact LeO.none _
      | refine LeO.ite ?_ ?_
      | refine LeO.bind ?_ (fun _ => ?_)
set_option maxHeartbeats 8000000 in
set_option maxRecDepth 100000 in
theorem strconv_ParseInt_33.calls (k : Nat) (a0 : ByteArray) (a1 : Int) (a2 : Int) (r1 : Int) (r2 : Option Int) (w : World) (h : strconv_ParseInt_33.f k a0 a1 a2 = some (r1, r2)) :
    Calls Tryd.prog 33 #[.string a0, .int .i64 a1, .int .i64 a2] w fun e w' => e = .returned (.tuple #[.int .i64 r1, errW r2]) ∧ Below w.heap.size w w' := by
  have hu44 := Tryd.underlying44
  have hu100 := Tryd.underlying100
  have HB := Aside0.mk (Below.refl w.heap.size w)
  have H : ((strconv_ParseInt_39.f k a0 a1 a2).bind fun bt104 => (if bt104.2.isNone = true then (some (bt104.1, none)) else (none))) = some (r1, r2) := h
  clear h
  replace H := Option.bind_eq_some_iff.mp H
  obtain ⟨⟨t104, t105⟩, A40, H⟩ := H
  replace H : (if t105.isNone = true then (some (t104, none)) else (none)) = some (r1, r2) := H
  have A4 := Aside0.mk A40
  clear A40
  rcases t105 with _ | q106
  · have H1 : (some (t104, none)) = some (r1, r2) := by rw [if_pos (show (none : Option Int).isNone = true by rfl)] at H; exact H
    clear H
    have H := H1
    clear H1
    try simp only [errW_none, errW_some]
    simp only [Option.some.injEq, Prod.mk.injEq] at H
    obtain ⟨rfl, rfl⟩ := H
    go_enter Tryd.func33, Tryd.ntmps33
    go_wp2_with (first | ((with_reducible refine gate_callee (f := 39) rfl ?_); refine goesL_ (some 13) rfl rfl Tryd.func39 (by kernel_rfl) rfl #[.string a0, .int .i64 a1, .int .i64 a2] rfl (by (try simp only [List.map_toArray, List.map_cons, List.map_nil]); first | done | rfl | (simp only [List.length_drop, List.length_take]; rfl)) ?_; (with_reducible refine (strconv_ParseInt_39.calls k a0 a1 a2 t104 none _ A4.out).mono ?_); rintro e w5 ⟨rfl, hb⟩; refine ⟨_, rfl, ?_⟩; have n0_ := Aside0.mk (below_step (by repeat (first | (with_reducible first | exact HB.out | apply below_alloc | apply pw_below_drewN | apply below_drew1) | exact HB.out)) hb); clear HB; have HB := n0_; clear n0_; (try clear hb); (try clear hb2); (try clear hk); (try clear hi); (try simp only [errW_none, errW_some])))
    go_ret2
    exact ⟨by first | rfl | (simp [errW_none, errW_some] <;> rfl) | (simp [*, errW_none, errW_some] <;> rfl), by repeat (first | (with_reducible first | exact HB.out | apply below_alloc | apply pw_below_drewN | apply below_drew1) | exact HB.out)⟩
  · have H1 : (none) = some (r1, r2) := by rw [if_neg (show ¬ (some q106).isNone = true by simp)] at H; exact H
    clear H
    have H := H1
    clear H1
    try simp only [errW_none, errW_some]
    exact absurd H (by simp)

end Go.Proofs.YtlmmgienbmghmaaDoor.B
