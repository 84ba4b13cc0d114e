-- written by a program of this session (wip/tools/pp.py)
import Derived.Test.YtlmmgienbmghmaaDoorJ0
namespace Go.Proofs.YtlmmgienbmghmaaDoor.J
open Go.RowKit Go.Proofs.YtlmmgienbmghmaaDoorW.PrintWords Go.Proofs.YtlmmgienbmghmaaDoorW.PrintLast Go.Proofs.YtlmmgienbmghmaaDoorW.PrintMore
attribute [local go_sem] max2_int min2_int max_two min_two max_three min_three max_four min_four   -- for this text's walks alone
set_option linter.unusedVariables false
set_option linter.unusedSimpArgs false

/-! ### unit_zzSpace: function 81 -/
def unit_zzSpace.f (a0 : Int) : Option (Bool) := if a0 = 9 then (some true) else (if a0 = 10 then (some true) else (if a0 = 11 then (some true) else (if a0 = 12 then (some true) else (if a0 = 13 then (some true) else (if a0 = 32 then (some true) else (if a0 = 133 then (some true) else (if a0 = 160 then (some true) else (if a0 = 5760 then (some true) else (if a0 = 8232 then (some true) else (if a0 = 8233 then (some true) else (if a0 = 8239 then (some true) else (if a0 = 8287 then (some true) else (if a0 = 12288 then (some true) else (if a0 ≥ 8192 then (some (decide (a0 ≤ 8202))) else (some false)))))))))))))))
set_option maxHeartbeats 8000000 in
set_option maxRecDepth 100000 in
theorem unit_zzSpace.calls (a0 : Int) (r : Bool) (w : World) (h : unit_zzSpace.f a0 = some r) :
  Calls Tryd.prog 81 #[.int .i32 a0] w fun e w' => e = .returned (.bool r) ∧ Drawn0 w w' := by
 have H : (if a0 = 9 then (some true) else (if a0 = 10 then (some true) else (if a0 = 11 then (some true) else (if a0 = 12 then (some true) else (if a0 = 13 then (some true) else (if a0 = 32 then (some true) else (if a0 = 133 then (some true) else (if a0 = 160 then (some true) else (if a0 = 5760 then (some true) else (if a0 = 8232 then (some true) else (if a0 = 8233 then (some true) else (if a0 = 8239 then (some true) else (if a0 = 8287 then (some true) else (if a0 = 12288 then (some true) else (if a0 ≥ 8192 then (some (decide (a0 ≤ 8202))) else (some false)))))))))))))))) = some r := h
 clear h
 by_cases c2 : a0 = 9
 ·rw [if_pos c2] at H
  have c2b0 : (a0 == 9) = true := beq_iff_eq.mpr c2
  have c2b1 : (a0 != 9) = false := bne_eq_false_iff_eq.mpr c2
  clear c2
  obtain rfl := Option.some.inj H
  go_enter Tryd.func81, Tryd.ntmps81
  go_wp2
  go_ret
  exact ⟨by first | rfl | (simp; done) | (simp [*]; done), by repeat (first | exact Drawn0.refl _ | apply Drawn0.step)⟩
 ·rw [if_neg c2] at H
  have c2b0 : (a0 == 9) = false := beq_eq_false_iff_ne.mpr c2
  have c2b1 : (a0 != 9) = true := bne_iff_ne.mpr c2
  by_cases c3 : a0 = 10
  ·rw [if_pos c3] at H
   have c3b0 : (a0 == 10) = true := beq_iff_eq.mpr c3
   have c3b1 : (a0 != 10) = false := bne_eq_false_iff_eq.mpr c3
   clear c3
   obtain rfl := Option.some.inj H
   go_enter Tryd.func81, Tryd.ntmps81
   go_wp2
   go_ret
   exact ⟨by first | rfl | (simp; done) | (simp [*]; done), by repeat (first | exact Drawn0.refl _ | apply Drawn0.step)⟩
  ·rw [if_neg c3] at H
   have c3b0 : (a0 == 10) = false := beq_eq_false_iff_ne.mpr c3
   have c3b1 : (a0 != 10) = true := bne_iff_ne.mpr c3
   by_cases c4 : a0 = 11
   ·rw [if_pos c4] at H
    have c4b0 : (a0 == 11) = true := beq_iff_eq.mpr c4
    have c4b1 : (a0 != 11) = false := bne_eq_false_iff_eq.mpr c4
    clear c4
    obtain rfl := Option.some.inj H
    go_enter Tryd.func81, Tryd.ntmps81
    go_wp2
    go_ret
    exact ⟨by first | rfl | (simp; done) | (simp [*]; done), by repeat (first | exact Drawn0.refl _ | apply Drawn0.step)⟩
   ·rw [if_neg c4] at H
    have c4b0 : (a0 == 11) = false := beq_eq_false_iff_ne.mpr c4
    have c4b1 : (a0 != 11) = true := bne_iff_ne.mpr c4
    by_cases c5 : a0 = 12
    ·rw [if_pos c5] at H
     have c5b0 : (a0 == 12) = true := beq_iff_eq.mpr c5
     have c5b1 : (a0 != 12) = false := bne_eq_false_iff_eq.mpr c5
     clear c5
     obtain rfl := Option.some.inj H
     go_enter Tryd.func81, Tryd.ntmps81
     go_wp2
     go_ret
     exact ⟨by first | rfl | (simp; done) | (simp [*]; done), by repeat (first | exact Drawn0.refl _ | apply Drawn0.step)⟩
    ·rw [if_neg c5] at H
     have c5b0 : (a0 == 12) = false := beq_eq_false_iff_ne.mpr c5
     have c5b1 : (a0 != 12) = true := bne_iff_ne.mpr c5
     by_cases c6 : a0 = 13
     ·rw [if_pos c6] at H
      have c6b0 : (a0 == 13) = true := beq_iff_eq.mpr c6
      have c6b1 : (a0 != 13) = false := bne_eq_false_iff_eq.mpr c6
      clear c6
      obtain rfl := Option.some.inj H
      go_enter Tryd.func81, Tryd.ntmps81
      go_wp2
      go_ret
      exact ⟨by first | rfl | (simp; done) | (simp [*]; done), by repeat (first | exact Drawn0.refl _ | apply Drawn0.step)⟩
     ·rw [if_neg c6] at H
      have c6b0 : (a0 == 13) = false := beq_eq_false_iff_ne.mpr c6
      have c6b1 : (a0 != 13) = true := bne_iff_ne.mpr c6
      by_cases c7 : a0 = 32
      ·rw [if_pos c7] at H
       have c7b0 : (a0 == 32) = true := beq_iff_eq.mpr c7
       have c7b1 : (a0 != 32) = false := bne_eq_false_iff_eq.mpr c7
       clear c7
       obtain rfl := Option.some.inj H
       go_enter Tryd.func81, Tryd.ntmps81
       go_wp2
       go_ret
       exact ⟨by first | rfl | (simp; done) | (simp [*]; done), by repeat (first | exact Drawn0.refl _ | apply Drawn0.step)⟩
      ·rw [if_neg c7] at H
       have c7b0 : (a0 == 32) = false := beq_eq_false_iff_ne.mpr c7
       have c7b1 : (a0 != 32) = true := bne_iff_ne.mpr c7
       by_cases c8 : a0 = 133
       ·rw [if_pos c8] at H
        have c8b0 : (a0 == 133) = true := beq_iff_eq.mpr c8
        have c8b1 : (a0 != 133) = false := bne_eq_false_iff_eq.mpr c8
        clear c8
        obtain rfl := Option.some.inj H
        go_enter Tryd.func81, Tryd.ntmps81
        go_wp2
        go_ret
        exact ⟨by first | rfl | (simp; done) | (simp [*]; done), by repeat (first | exact Drawn0.refl _ | apply Drawn0.step)⟩
       ·rw [if_neg c8] at H
        have c8b0 : (a0 == 133) = false := beq_eq_false_iff_ne.mpr c8
        have c8b1 : (a0 != 133) = true := bne_iff_ne.mpr c8
        by_cases c9 : a0 = 160
        ·rw [if_pos c9] at H
         have c9b0 : (a0 == 160) = true := beq_iff_eq.mpr c9
         have c9b1 : (a0 != 160) = false := bne_eq_false_iff_eq.mpr c9
         clear c9
         obtain rfl := Option.some.inj H
         go_enter Tryd.func81, Tryd.ntmps81
         go_wp2
         go_ret
         exact ⟨by first | rfl | (simp; done) | (simp [*]; done), by repeat (first | exact Drawn0.refl _ | apply Drawn0.step)⟩
        ·rw [if_neg c9] at H
         have c9b0 : (a0 == 160) = false := beq_eq_false_iff_ne.mpr c9
         have c9b1 : (a0 != 160) = true := bne_iff_ne.mpr c9
         by_cases c10 : a0 = 5760
         ·rw [if_pos c10] at H
          have c10b0 : (a0 == 5760) = true := beq_iff_eq.mpr c10
          have c10b1 : (a0 != 5760) = false := bne_eq_false_iff_eq.mpr c10
          clear c10
          obtain rfl := Option.some.inj H
          go_enter Tryd.func81, Tryd.ntmps81
          go_wp2
          go_ret
          exact ⟨by first | rfl | (simp; done) | (simp [*]; done), by repeat (first | exact Drawn0.refl _ | apply Drawn0.step)⟩
         ·rw [if_neg c10] at H
          have c10b0 : (a0 == 5760) = false := beq_eq_false_iff_ne.mpr c10
          have c10b1 : (a0 != 5760) = true := bne_iff_ne.mpr c10
          by_cases c11 : a0 = 8232
          ·rw [if_pos c11] at H
           have c11b0 : (a0 == 8232) = true := beq_iff_eq.mpr c11
           have c11b1 : (a0 != 8232) = false := bne_eq_false_iff_eq.mpr c11
           clear c11
           obtain rfl := Option.some.inj H
           go_enter Tryd.func81, Tryd.ntmps81
           go_wp2
           go_ret
           exact ⟨by first | rfl | (simp; done) | (simp [*]; done), by repeat (first | exact Drawn0.refl _ | apply Drawn0.step)⟩
          ·rw [if_neg c11] at H
           have c11b0 : (a0 == 8232) = false := beq_eq_false_iff_ne.mpr c11
           have c11b1 : (a0 != 8232) = true := bne_iff_ne.mpr c11
           by_cases c12 : a0 = 8233
           ·rw [if_pos c12] at H
            have c12b0 : (a0 == 8233) = true := beq_iff_eq.mpr c12
            have c12b1 : (a0 != 8233) = false := bne_eq_false_iff_eq.mpr c12
            clear c12
            obtain rfl := Option.some.inj H
            go_enter Tryd.func81, Tryd.ntmps81
            go_wp2
            go_ret
            exact ⟨by first | rfl | (simp; done) | (simp [*]; done), by repeat (first | exact Drawn0.refl _ | apply Drawn0.step)⟩
           ·rw [if_neg c12] at H
            have c12b0 : (a0 == 8233) = false := beq_eq_false_iff_ne.mpr c12
            have c12b1 : (a0 != 8233) = true := bne_iff_ne.mpr c12
            by_cases c13 : a0 = 8239
            ·rw [if_pos c13] at H
             have c13b0 : (a0 == 8239) = true := beq_iff_eq.mpr c13
             have c13b1 : (a0 != 8239) = false := bne_eq_false_iff_eq.mpr c13
             clear c13
             obtain rfl := Option.some.inj H
             go_enter Tryd.func81, Tryd.ntmps81
             go_wp2
             go_ret
             exact ⟨by first | rfl | (simp; done) | (simp [*]; done), by repeat (first | exact Drawn0.refl _ | apply Drawn0.step)⟩
            ·rw [if_neg c13] at H
             have c13b0 : (a0 == 8239) = false := beq_eq_false_iff_ne.mpr c13
             have c13b1 : (a0 != 8239) = true := bne_iff_ne.mpr c13
             by_cases c14 : a0 = 8287
             ·rw [if_pos c14] at H
              have c14b0 : (a0 == 8287) = true := beq_iff_eq.mpr c14
              have c14b1 : (a0 != 8287) = false := bne_eq_false_iff_eq.mpr c14
              clear c14
              obtain rfl := Option.some.inj H
              go_enter Tryd.func81, Tryd.ntmps81
              go_wp2
              go_ret
              exact ⟨by first | rfl | (simp; done) | (simp [*]; done), by repeat (first | exact Drawn0.refl _ | apply Drawn0.step)⟩
             ·rw [if_neg c14] at H
              have c14b0 : (a0 == 8287) = false := beq_eq_false_iff_ne.mpr c14
              have c14b1 : (a0 != 8287) = true := bne_iff_ne.mpr c14
              by_cases c15 : a0 = 12288
              ·rw [if_pos c15] at H
               have c15b0 : (a0 == 12288) = true := beq_iff_eq.mpr c15
               have c15b1 : (a0 != 12288) = false := bne_eq_false_iff_eq.mpr c15
               clear c15
               obtain rfl := Option.some.inj H
               go_enter Tryd.func81, Tryd.ntmps81
               go_wp2
               go_ret
               exact ⟨by first | rfl | (simp; done) | (simp [*]; done), by repeat (first | exact Drawn0.refl _ | apply Drawn0.step)⟩
              ·rw [if_neg c15] at H
               have c15b0 : (a0 == 12288) = false := beq_eq_false_iff_ne.mpr c15
               have c15b1 : (a0 != 12288) = true := bne_iff_ne.mpr c15
               by_cases c16 : a0 ≥ 8192
               ·rw [if_pos c16] at H
                have c16b0 : decide (8192 ≤ a0) = true := decide_eq_true c16
                clear c16
                obtain rfl := Option.some.inj H
                go_enter Tryd.func81, Tryd.ntmps81
                go_wp2
                go_ret
                exact ⟨by first | rfl | (simp; done) | (simp [*]; done), by repeat (first | exact Drawn0.refl _ | apply Drawn0.step)⟩
               ·rw [if_neg c16] at H
                have c16b0 : decide (8192 ≤ a0) = false := decide_eq_false c16
                clear c16
                obtain rfl := Option.some.inj H
                go_enter Tryd.func81, Tryd.ntmps81
                go_wp2
                go_ret
                exact ⟨by first | rfl | (simp; done) | (simp [*]; done), by repeat (first | exact Drawn0.refl _ | apply Drawn0.step)⟩

/-- THE ONE PURE STATEMENT of unit_zzSpace: yours. -/
def unit_zzSpace.Pure : Prop := ∀ (a0 : Int), (Lit.int .i32 a0).wf = true → unit_zzSpace.f a0 = some true
theorem unit_zzSpace.walk (P : unit_zzSpace.Pure) (a0 : Int) (w : World) (w0 : (Lit.int .i32 a0).wf = true) :
  Calls Tryd.prog 81 #[.int .i32 a0] w fun e w' => e = .returned (.bool true) ∧ Below w.heap.size w w' := by
 have h := P a0 w0
 refine (unit_zzSpace.calls a0 true w h).mono ?_
 rintro e w' ⟨rfl, hd⟩
 exact ⟨rfl, hd.below⟩

/-! ### unit_isComment: function 56 -/
def unit_isComment.f (a0 : Int) : Option (Bool) := if a0 = 35 then (some true) else (some (a0 == 59))
set_option maxHeartbeats 8000000 in
set_option maxRecDepth 100000 in
theorem unit_isComment.calls (a0 : Int) (r : Bool) (w : World) (h : unit_isComment.f a0 = some r) :
  Calls Tryd.prog 56 #[.int .i32 a0] w fun e w' => e = .returned (.bool r) ∧ Drawn0 w w' := by
 have H : (if a0 = 35 then (some true) else (some (a0 == 59))) = some r := h
 clear h
 by_cases c2 : a0 = 35
 ·rw [if_pos c2] at H
  have c2b0 : (a0 == 35) = true := beq_iff_eq.mpr c2
  have c2b1 : (a0 != 35) = false := bne_eq_false_iff_eq.mpr c2
  clear c2
  obtain rfl := Option.some.inj H
  go_enter Tryd.func56, Tryd.ntmps56
  go_wp2
  go_ret
  exact ⟨by first | rfl | (simp; done) | (simp [*]; done), by repeat (first | exact Drawn0.refl _ | apply Drawn0.step)⟩
 ·rw [if_neg c2] at H
  have c2b0 : (a0 == 35) = false := beq_eq_false_iff_ne.mpr c2
  have c2b1 : (a0 != 35) = true := bne_iff_ne.mpr c2
  obtain rfl := Option.some.inj H
  go_enter Tryd.func56, Tryd.ntmps56
  go_wp2
  go_ret
  exact ⟨by first | rfl | (simp; done) | (simp [*]; done), by repeat (first | exact Drawn0.refl _ | apply Drawn0.step)⟩

/-- THE ONE PURE STATEMENT of unit_isComment: yours. -/
def unit_isComment.Pure : Prop := ∀ (a0 : Int), (Lit.int .i32 a0).wf = true → unit_isComment.f a0 = some true
theorem unit_isComment.walk (P : unit_isComment.Pure) (a0 : Int) (w : World) (w0 : (Lit.int .i32 a0).wf = true) :
  Calls Tryd.prog 56 #[.int .i32 a0] w fun e w' => e = .returned (.bool true) ∧ Below w.heap.size w w' := by
 have h := P a0 w0
 refine (unit_isComment.calls a0 true w h).mono ?_
 rintro e w' ⟨rfl, hd⟩
 exact ⟨rfl, hd.below⟩

/-! ### unit_zzNewline: function 45 -/
def unit_zzNewline.l0 : Nat → List Int → Int → Int → Option (Bool)
 | 0, _, _, _ => none
 | k + 1, x5, x6, x7 => if x7 < x6 then (if 0 ≤ x7 then (if x7 < (x5.length : Int) then (if (rd x5 x7) = 10 then (some true) else (if (rd x5 x7) = 13 then (some true) else (unit_zzNewline.l0 k x5 x6 (wrap64 (x7 + 1))))) else (none)) else (none)) else (some false)
def unit_zzNewline.f (k : Nat) (l0 : List Int) : Option (Bool) := unit_zzNewline.l0 k l0 (l0.length : Int) 0
theorem unit_zzNewline.mono_l : ∀ k, (∀ y0 y1 y2, LeO (unit_zzNewline.l0 k y0 y1 y2) (unit_zzNewline.l0 (k + 1) y0 y1 y2))
 | 0 => fun _ _ _ r h => by simp [unit_zzNewline.l0] at h
 | k + 1 => by
  have ih0 := unit_zzNewline.mono_l k
  ·intro y0 y1 y2
   unfold unit_zzNewline.l0
   repeat' first
   | (with_reducible exact ih0 _ _ _)
   | (with_reducible exact LeO.refl _)
   | (with_reducible exact LeO.none _)
   | (with_reducible refine LeO.ite ?_ ?_)
   | (with_reducible refine LeO.bind ?_ (fun _ => ?_))
   | exact ih0 _ _ _
   | exact LeO.none _
   | refine LeO.ite ?_ ?_
   | refine LeO.bind ?_ (fun _ => ?_)
theorem unit_zzNewline.mono : ∀ a0 k, LeO (unit_zzNewline.f k a0) (unit_zzNewline.f (k + 1) a0) := by
 intro a0 k
 have ih0 := unit_zzNewline.mono_l k
 unfold unit_zzNewline.f
 repeat' first
   | (with_reducible exact ih0 _ _ _)
   | (with_reducible exact LeO.refl _)
   | (with_reducible exact LeO.none _)
   | (with_reducible refine LeO.ite ?_ ?_)
   | (with_reducible refine LeO.bind ?_ (fun _ => ?_))
   | exact ih0 _ _ _
   | exact LeO.none _
   | refine LeO.ite ?_ ?_
   | refine LeO.bind ?_ (fun _ => ?_)
set_option maxHeartbeats 8000000 in
set_option maxRecDepth 100000 in
theorem unit_zzNewline.calls (k : Nat) (A0 : Option Addr) (c0 : Nat) (l0 : List Int) (r : Bool) (w : World) (hr0 : Kd.C (Kd.int .u8) w A0 l0.length l0) (hc0 : l0.length ≤ c0) (h : unit_zzNewline.f k l0 = some r) :
  Calls Tryd.prog 45 #[.slice A0 l0.length c0] w fun e w' => e = .returned (.bool r) ∧ Drawn0 w w' := by
 have HR0 := Aside0.mk hr0
 have HC0 := Aside0.mk hc0
 clear hr0 hc0
 have H : (unit_zzNewline.l0 k l0 (l0.length : Int) 0) = some r := h
 clear h
 have H' := Aside0.mk H
 clear H
 go_enter Tryd.func45, Tryd.ntmps45
 go_wp2
 go_loopg [7] k (fun kq v7 w' => ∃ (x7_1 : Int), v7 = .int .i64 x7_1 ∧ Aside0 (unit_zzNewline.l0 kq l0 (l0.length : Int) x7_1 = some r) ∧ Aside0 (kq ≤ k) ∧ Drawn0 w w')
 case atStart => exact ⟨(0), (by first | rfl | (simp; done) | (simp [*]; done)), H', ⟨Nat.le_refl _⟩, by repeat (first | exact Drawn0.refl _ | apply Drawn0.step)⟩
 case round =>
  clear H'
  obtain ⟨x7_1, rfl, HA, HK1, ⟨m1, rfl⟩⟩ := hrel
  cases gk with
  | zero => exact absurd HA.out (by simp [unit_zzNewline.l0])
  | succ k1 =>
   have H := HA.out
   clear HA
   simp only [unit_zzNewline.l0] at H
   by_cases c2 : x7_1 < (l0.length : Int)
   ·rw [if_pos c2] at H
    have c2b0 : decide (x7_1 < (l0.length : Int)) = true := decide_eq_true c2
    clear c2
    by_cases c3 : 0 ≤ x7_1
    ·rw [if_pos c3] at H
     have c3b0 : decide (0 ≤ x7_1) = true := decide_eq_true c3
     clear c3
     by_cases c4 : x7_1 < (l0.length : Int)
     ·rw [if_pos c4] at H
      have c4b0 : decide (x7_1 < (l0.length : Int)) = true := decide_eq_true c4
      clear c4
      by_cases c5 : (rd l0 x7_1) = 10
      ·rw [if_pos c5] at H
       have c5b0 : ((rd l0 x7_1) == 10) = true := beq_iff_eq.mpr c5
       have c5b1 : ((rd l0 x7_1) != 10) = false := bne_eq_false_iff_eq.mpr c5
       clear c5
       obtain rfl := Option.some.inj H
       have p101 : 0 ≤ (x7_1 : Int) := of_decide_eq_true (by first | (with_reducible assumption) | assumption)
       have q101 : x7_1 < (l0.length : Int) := of_decide_eq_true (by first | (with_reducible assumption) | assumption)
       obtain ⟨ad101, e101, hx101_0⟩ := Kd.at_int HR0.out x7_1 p101 q101
       cases e101
       replace p101 := eq_true p101
       replace q101 := eq_true q101
       go_wp2
       go_ret
       exact ⟨by first | rfl | (simp; done) | (simp [*]; done), by repeat (first | exact Drawn0.refl _ | apply Drawn0.step)⟩
      ·rw [if_neg c5] at H
       have c5b0 : ((rd l0 x7_1) == 10) = false := beq_eq_false_iff_ne.mpr c5
       have c5b1 : ((rd l0 x7_1) != 10) = true := bne_iff_ne.mpr c5
       by_cases c6 : (rd l0 x7_1) = 13
       ·rw [if_pos c6] at H
        have c6b0 : ((rd l0 x7_1) == 13) = true := beq_iff_eq.mpr c6
        have c6b1 : ((rd l0 x7_1) != 13) = false := bne_eq_false_iff_eq.mpr c6
        clear c6
        obtain rfl := Option.some.inj H
        have p101 : 0 ≤ (x7_1 : Int) := of_decide_eq_true (by first | (with_reducible assumption) | assumption)
        have q101 : x7_1 < (l0.length : Int) := of_decide_eq_true (by first | (with_reducible assumption) | assumption)
        obtain ⟨ad101, e101, hx101_0⟩ := Kd.at_int HR0.out x7_1 p101 q101
        cases e101
        replace p101 := eq_true p101
        replace q101 := eq_true q101
        go_wp2
        go_ret
        exact ⟨by first | rfl | (simp; done) | (simp [*]; done), by repeat (first | exact Drawn0.refl _ | apply Drawn0.step)⟩
       ·rw [if_neg c6] at H
        have c6b0 : ((rd l0 x7_1) == 13) = false := beq_eq_false_iff_ne.mpr c6
        have c6b1 : ((rd l0 x7_1) != 13) = true := bne_iff_ne.mpr c6
        have H' := Aside0.mk H
        clear H
        have p101 : 0 ≤ (x7_1 : Int) := of_decide_eq_true (by first | (with_reducible assumption) | assumption)
        have q101 : x7_1 < (l0.length : Int) := of_decide_eq_true (by first | (with_reducible assumption) | assumption)
        obtain ⟨ad101, e101, hx101_0⟩ := Kd.at_int HR0.out x7_1 p101 q101
        cases e101
        replace p101 := eq_true p101
        replace q101 := eq_true q101
        go_wp2
        go_roundg k1
        case measure => have := HK1.out; omega
        case rel => exact ⟨(wrap64 (x7_1 + 1)), (by first | rfl | (simp; done) | (simp [*]; done)), H', ⟨by have := HK1.out; omega⟩, by repeat (first | exact Drawn0.refl _ | apply Drawn0.step)⟩
     ·rw [if_neg c4] at H
      exact absurd H (by simp)
    ·rw [if_neg c3] at H
     exact absurd H (by simp)
   ·rw [if_neg c2] at H
    have c2b0 : decide (x7_1 < (l0.length : Int)) = false := decide_eq_false c2
    clear c2
    obtain rfl := Option.some.inj H
    go_wp2
    go_ret
    exact ⟨by first | rfl | (simp; done) | (simp [*]; done), by repeat (first | exact Drawn0.refl _ | apply Drawn0.step)⟩

/-- THE ONE PURE STATEMENT of unit_zzNewline: yours. -/
def unit_zzNewline.Pure : Prop := ∀ (l0 : List Int), l0.length ≤ maxLen → l0.length * 1 ≤ 140737488351232 → (∀ x ∈ l0, (Lit.int .u8 x).wf = true) → ∃ k, unit_zzNewline.f k l0 = some true
theorem unit_zzNewline.walk (P : unit_zzNewline.Pure) (a0 : Option Addr) (len0 cap0 : Nat) (z0 : List Int) (w : World) (w0 : (a0 = none ∧ len0 = 0 ∧ cap0 = 0 ∧ z0 = []) ∨ ∃ x, a0 = some x ∧ len0 ≤ cap0 ∧ cap0 ≤ maxLen ∧ z0.length = cap0 ∧ (∀ i, i < z0.length → w.cell? (x.add i) = some (.int .u8 (z0.getD i 0))) ∧ ∀ n ∈ z0, (Lit.int .u8 n).wf = true) (y0 : len0 * 1 ≤ 140737488351232) :
  Calls Tryd.prog 45 #[.slice a0 len0 cap0] w fun e w' => e = .returned (.bool true) ∧ Below w.heap.size w w' := by
 obtain ⟨l0, rfl, hr0, hm0, hw0, hc0⟩ := ReadsInt.ofRowC w0
 obtain ⟨k, h⟩ := P l0 hm0 y0 hw0
 refine (unit_zzNewline.calls k _ _ l0 true w (Kd.C_of_reads (d := (0 : Int)) (h1 := fun _ => rfl) hr0) hc0 h).mono ?_
 rintro e w' ⟨rfl, hd⟩
 exact ⟨rfl, hd.below⟩

end Go.Proofs.YtlmmgienbmghmaaDoor.J
