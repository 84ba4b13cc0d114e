-- written by a program of this session (wip/tools/pp.py)
import Derived.Test.YtlmmgienbmghmaaU0
import Derived.Test.YtlmmgienbmghmaaU1
namespace Go.Proofs.Ytlmmgienbmghmaa.U
open Go.RowKit Go.Proofs.YtlmmgienbmghmaaW.PrintWords Go.Proofs.YtlmmgienbmghmaaW.PrintLast Go.Proofs.Ytlmmgienbmghmaa.Giv Go.Proofs.YtlmmgienbmghmaaW.PrintMore
attribute [local go_sem] max2_int min2_int max_two min_two max_three min_three max_four min_four   -- for this text's walks alone
set_option linter.unusedVariables false
set_option linter.unusedSimpArgs false

/-! ### laws_FnNameParts: function 3 -/
mutual
def laws_FnNameParts.j0 : Nat → ByteArray → ByteArray → Bool → Option (Bool)
  | 0, _, _, _ => none
  | k + 1, x0, x1, x12 => if x12 = true then (some true) else (if (x0.size : Int) > 2000 then (laws_FnNameParts.j1 k x0 x1 true) else (if (x1.size : Int) > 2000 then (laws_FnNameParts.j1 k x0 x1 true) else ((laws_begins.f x1 (⟨#[46]⟩ : ByteArray)).bind fun t136 => (if t136 = true then (laws_FnNameParts.j1 k x0 x1 true) else (laws_FnNameParts.j1 k x0 x1 (x0.toList == ([] : List UInt8)))))))
def laws_FnNameParts.j1 : Nat → ByteArray → ByteArray → Bool → Option (Bool)
  | 0, _, _, _ => none
  | k + 1, x0, x1, x28 => if x28 = true then (some true) else (if x0.size + x1.size ≤ 9223372036854775807 then ((impl_NameEscape.f k (x0 ++ x1)).bind fun t137 => ((impl_NameEscape.f k x0).bind fun t138 => ((impl_NameEscape.f k x1).bind fun t139 => (if t138.size + t139.size ≤ 9223372036854775807 then (if t137.toList = (t138 ++ t139).toList then ((laws_escapes.f k).bind fun t140 => (some t140)) else (some false)) else (none))))) else (none))
end
def laws_FnNameParts.f (k : Nat) (a0 : ByteArray) (a1 : ByteArray) : Option (Bool) := if (a0.size : Int) > 2147483647 then (laws_FnNameParts.j0 k a0 a1 true) else (laws_FnNameParts.j0 k a0 a1 (decide ((a1.size : Int) > 2147483647)))
theorem laws_FnNameParts.mono_l : ∀ k, (∀ y0 y1 y2, LeO (laws_FnNameParts.j0 k y0 y1 y2) (laws_FnNameParts.j0 (k + 1) y0 y1 y2)) ∧ (∀ y0 y1 y2, LeO (laws_FnNameParts.j1 k y0 y1 y2) (laws_FnNameParts.j1 (k + 1) y0 y1 y2))
  | 0 => ⟨fun _ _ _ r h => by simp [laws_FnNameParts.j0] at h, fun _ _ _ r h => by simp [laws_FnNameParts.j1] at h⟩
  | k + 1 => by
    obtain ⟨ih0, ih1⟩ := laws_FnNameParts.mono_l k
    refine ⟨?_, ?_⟩
    · intro y0 y1 y2
      unfold laws_FnNameParts.j0
      repeat' first
      | (with_reducible exact ih0 _ _ _)
      | (with_reducible exact ih1 _ _ _)
      | (with_reducible exact impl_NameEscape.mono _ _)
      | (with_reducible exact laws_escapes.mono _)
      | (with_reducible exact LeO.refl _)
      | (with_reducible exact LeO.none _)
      | (with_reducible refine LeO.ite ?_ ?_)
      | (with_reducible refine LeO.bind ?_ (fun _ => ?_))
      | exact ih0 _ _ _
      | exact ih1 _ _ _
      | exact impl_NameEscape.mono _ _
      | exact laws_escapes.mono _
      | exact LeO.none _
      | refine LeO.ite ?_ ?_
      | refine LeO.bind ?_ (fun _ => ?_)
    · intro y0 y1 y2
      unfold laws_FnNameParts.j1
      repeat' first
      | (with_reducible exact ih0 _ _ _)
      | (with_reducible exact ih1 _ _ _)
      | (with_reducible exact impl_NameEscape.mono _ _)
      | (with_reducible exact laws_escapes.mono _)
      | (with_reducible exact LeO.refl _)
      | (with_reducible exact LeO.none _)
      | (with_reducible refine LeO.ite ?_ ?_)
      | (with_reducible refine LeO.bind ?_ (fun _ => ?_))
      | exact ih0 _ _ _
      | exact ih1 _ _ _
      | exact impl_NameEscape.mono _ _
      | exact laws_escapes.mono _
      | exact LeO.none _
      | refine LeO.ite ?_ ?_
      | refine LeO.bind ?_ (fun _ => ?_)
theorem laws_FnNameParts.mono : ∀ a0 a1 k, LeO (laws_FnNameParts.f k a0 a1) (laws_FnNameParts.f (k + 1) a0 a1) := by
  intro a0 a1 k
  obtain ⟨ih0, ih1⟩ := laws_FnNameParts.mono_l k
  unfold laws_FnNameParts.f
  repeat' first
      | (with_reducible exact ih0 _ _ _)
      | (with_reducible exact ih1 _ _ _)
      | (with_reducible exact impl_NameEscape.mono _ _)
      | (with_reducible exact laws_escapes.mono _)
      | (with_reducible exact LeO.refl _)
      | (with_reducible exact LeO.none _)
      | (with_reducible refine LeO.ite ?_ ?_)
      | (with_reducible refine LeO.bind ?_ (fun _ => ?_))
      | exact ih0 _ _ _
      | exact ih1 _ _ _
      | exact impl_NameEscape.mono _ _
      | exact laws_escapes.mono _
      | exact LeO.none _
      | refine LeO.ite ?_ ?_
      | refine LeO.bind ?_ (fun _ => ?_)
set_option maxHeartbeats 8000000 in
set_option maxRecDepth 100000 in
theorem laws_FnNameParts.calls (k : Nat) (a0 : ByteArray) (a1 : ByteArray) (r : Bool) (w : World) (h : laws_FnNameParts.f k a0 a1 = some r) :
    Calls Try.prog 3 #[.string a0, .string a1] w fun e w' => e = .returned (.bool r) ∧ Below w.heap.size w w' := by
  have HB := Aside0.mk (Below.refl w.heap.size w)
  have H : (if (a0.size : Int) > 2147483647 then (laws_FnNameParts.j0 k a0 a1 true) else (laws_FnNameParts.j0 k a0 a1 (decide ((a1.size : Int) > 2147483647)))) = some r := h
  clear h
  have HC3 := Aside0.mk H
  clear H
  go_enter Try.func3, Try.ntmps3
  go_upto_region 1 with (fail)
  go_cut [12] (fun v12 wc => ∃ (kq : Nat) (x12_2 : Bool), v12 = .bool x12_2 ∧ Aside0 (laws_FnNameParts.j0 kq a0 a1 x12_2 = some r) ∧ Aside0 (kq ≤ k) ∧ Aside0 (Below w.heap.size w wc))
  case first =>
    have H := HC3.out
    clear HC3
    by_cases c4 : (a0.size : Int) > 2147483647
    · rw [if_pos c4] at H
      have c4b0 : decide (2147483647 < (a0.size : Int)) = true := decide_eq_true c4
      have c4b1 : decide (2147483647 < a0.size) = true := decide_eq_true (by omega)
      clear c4
      (first | rw [c4b0] | (simp only [i64_w, i32_w]; rw [c4b0]) | skip)
      have H' := Aside0.mk H
      clear H
      go_wp2
      go_meet
      case rel => exact ⟨_, (true), (by first | rfl | (simp; done) | (simp [*]; done)), H', ⟨by first | omega | exact Nat.le_refl _⟩, ⟨by repeat (first | (with_reducible first | exact HB.out | apply below_alloc | apply pw_below_drewN | apply below_drew1) | exact HB.out)⟩⟩
    · rw [if_neg c4] at H
      have c4b0 : decide (2147483647 < (a0.size : Int)) = false := decide_eq_false c4
      have c4b1 : decide (2147483647 < a0.size) = false := decide_eq_false (by omega)
      clear c4
      (first | rw [c4b0] | (simp only [i64_w, i32_w]; rw [c4b0]) | skip)
      have H' := Aside0.mk H
      clear H
      go_wp2
      go_meet
      case rel => exact ⟨_, (decide ((a1.size : Int) > 2147483647)), (by first | rfl | (simp; done) | (simp [*]; done)), H', ⟨by first | omega | exact Nat.le_refl _⟩, ⟨by repeat (first | (with_reducible first | exact HB.out | apply below_alloc | apply pw_below_drewN | apply below_drew1) | exact HB.out)⟩⟩
  case rest =>
    clear HC3
    try clear p2
    try clear c3
    try clear c4
    try clear c4b0
    try clear c4b1
    obtain ⟨kq, x12_2, rfl, HA, HJ2, HB⟩ := hcut
    cases kq with
    | zero => exact absurd HA.out (by simp [laws_FnNameParts.j0])
    | succ kj2 =>
      have H := HA.out
      clear HA
      simp only [laws_FnNameParts.j0] at H
      by_cases c5 : x12_2 = true
      · subst c5
        have H1 : (some true) = some r := by rw [if_pos rfl] at H; exact H
        clear H
        have H := H1
        clear H1
        obtain rfl := Option.some.inj H
        go_wp2
        go_ret
        exact ⟨by first | rfl | (simp [errW_none, errW_some] <;> rfl) | (simp [*, errW_none, errW_some] <;> rfl), by repeat (first | (with_reducible first | exact HB.out | apply below_alloc | apply pw_below_drewN | apply below_drew1) | exact HB.out)⟩
      · replace c5 := Bool.eq_false_iff.mpr c5
        subst c5
        have H1 : (if (a0.size : Int) > 2000 then (laws_FnNameParts.j1 kj2 a0 a1 true) else (if (a1.size : Int) > 2000 then (laws_FnNameParts.j1 kj2 a0 a1 true) else ((laws_begins.f a1 (⟨#[46]⟩ : ByteArray)).bind fun t136 => (if t136 = true then (laws_FnNameParts.j1 kj2 a0 a1 true) else (laws_FnNameParts.j1 kj2 a0 a1 (a0.toList == ([] : List UInt8))))))) = some r := by rw [if_neg (show ¬ (false = true) by decide)] at H; exact H
        clear H
        have H := H1
        clear H1
        have HC6 := Aside0.mk H
        clear H
        go_upto_region 3 with (fail)
        go_cut [28] (fun v28 wc => ∃ (kq : Nat) (x28_5 : Bool), v28 = .bool x28_5 ∧ Aside0 (laws_FnNameParts.j1 kq a0 a1 x28_5 = some r) ∧ Aside0 (kq ≤ kj2) ∧ Aside0 (Below w.heap.size w wc))
        case first =>
          have H := HC6.out
          clear HC6
          by_cases c7 : (a0.size : Int) > 2000
          · rw [if_pos c7] at H
            have c7b0 : decide (2000 < (a0.size : Int)) = true := decide_eq_true c7
            have c7b1 : decide (2000 < a0.size) = true := decide_eq_true (by omega)
            clear c7
            (first | rw [c7b0] | (simp only [i64_w, i32_w]; rw [c7b0]) | skip)
            have H' := Aside0.mk H
            clear H
            go_wp2
            go_meet
            case rel => exact ⟨_, (true), (by first | rfl | (simp; done) | (simp [*]; done)), H', ⟨by have := HJ2.out; first | omega | exact Nat.le_refl _⟩, ⟨by repeat (first | (with_reducible first | exact HB.out | apply below_alloc | apply pw_below_drewN | apply below_drew1) | exact HB.out)⟩⟩
          · rw [if_neg c7] at H
            have c7b0 : decide (2000 < (a0.size : Int)) = false := decide_eq_false c7
            have c7b1 : decide (2000 < a0.size) = false := decide_eq_false (by omega)
            clear c7
            (first | rw [c7b0] | (simp only [i64_w, i32_w]; rw [c7b0]) | skip)
            by_cases c8 : (a1.size : Int) > 2000
            · rw [if_pos c8] at H
              have c8b0 : decide (2000 < (a1.size : Int)) = true := decide_eq_true c8
              have c8b1 : decide (2000 < a1.size) = true := decide_eq_true (by omega)
              clear c8
              have H' := Aside0.mk H
              clear H
              go_wp2
              go_meet
              case rel => exact ⟨_, (true), (by first | rfl | (simp; done) | (simp [*]; done)), H', ⟨by have := HJ2.out; first | omega | exact Nat.le_refl _⟩, ⟨by repeat (first | (with_reducible first | exact HB.out | apply below_alloc | apply pw_below_drewN | apply below_drew1) | exact HB.out)⟩⟩
            · rw [if_neg c8] at H
              have c8b0 : decide (2000 < (a1.size : Int)) = false := decide_eq_false c8
              have c8b1 : decide (2000 < a1.size) = false := decide_eq_false (by omega)
              clear c8
              replace H := Option.bind_eq_some_iff.mp H
              obtain ⟨t136, A90, H⟩ := H
              replace H : (if t136 = true then (laws_FnNameParts.j1 kj2 a0 a1 true) else (laws_FnNameParts.j1 kj2 a0 a1 (a0.toList == ([] : List UInt8)))) = some r := H
              have A9 := Aside0.mk A90
              clear A90
              by_cases c10 : t136 = true
              · subst c10
                have H1 : (laws_FnNameParts.j1 kj2 a0 a1 true) = some r := by rw [if_pos rfl] at H; exact H
                clear H
                have H := H1
                clear H1
                have H' := Aside0.mk H
                clear H
                go_wp2_with (first | (go_at_call 5; (with_reducible refine (laws_begins.calls a1 (⟨#[46]⟩ : ByteArray) true _ A9.out).mono ?_); rintro e w' ⟨rfl, ⟨nd, rfl⟩⟩))
                go_meet
                case rel => exact ⟨_, (true), (by first | rfl | (simp; done) | (simp [*]; done)), H', ⟨by have := HJ2.out; first | omega | exact Nat.le_refl _⟩, ⟨by repeat (first | (with_reducible first | exact HB.out | apply below_alloc | apply pw_below_drewN | apply below_drew1) | exact HB.out)⟩⟩
              · replace c10 := Bool.eq_false_iff.mpr c10
                subst c10
                have H1 : (laws_FnNameParts.j1 kj2 a0 a1 (a0.toList == ([] : List UInt8))) = some r := by rw [if_neg (show ¬ (false = true) by decide)] at H; exact H
                clear H
                have H := H1
                clear H1
                have H' := Aside0.mk H
                clear H
                go_wp2_with (first | (go_at_call 5; (with_reducible refine (laws_begins.calls a1 (⟨#[46]⟩ : ByteArray) false _ A9.out).mono ?_); rintro e w' ⟨rfl, ⟨nd, rfl⟩⟩))
                go_meet
                case rel => exact ⟨_, ((a0.toList == ([] : List UInt8))), (by first | rfl | (simp; done) | (simp [*]; done)), H', ⟨by have := HJ2.out; first | omega | exact Nat.le_refl _⟩, ⟨by repeat (first | (with_reducible first | exact HB.out | apply below_alloc | apply pw_below_drewN | apply below_drew1) | exact HB.out)⟩⟩
        case rest =>
          clear HC6
          try clear c1
          try clear p2
          try clear c3
          try clear c4
          try clear c4b0
          try clear c4b1
          try clear c5
          try clear c7
          try clear c7b0
          try clear c7b1
          try clear c8
          try clear c8b0
          try clear c8b1
          try clear c10
          try clear p2
          obtain ⟨kq, x28_5, rfl, HA, HJ5, HB⟩ := hcut
          cases kq with
          | zero => exact absurd HA.out (by simp [laws_FnNameParts.j1])
          | succ kj5 =>
            have H := HA.out
            clear HA
            simp only [laws_FnNameParts.j1] at H
            by_cases c11 : x28_5 = true
            · subst c11
              have H1 : (some true) = some r := by rw [if_pos rfl] at H; exact H
              clear H
              have H := H1
              clear H1
              obtain rfl := Option.some.inj H
              go_wp2
              go_ret
              exact ⟨by first | rfl | (simp [errW_none, errW_some] <;> rfl) | (simp [*, errW_none, errW_some] <;> rfl), by repeat (first | (with_reducible first | exact HB.out | apply below_alloc | apply pw_below_drewN | apply below_drew1) | exact HB.out)⟩
            · replace c11 := Bool.eq_false_iff.mpr c11
              subst c11
              have H1 : (if a0.size + a1.size ≤ 9223372036854775807 then ((impl_NameEscape.f kj5 (a0 ++ a1)).bind fun t137 => ((impl_NameEscape.f kj5 a0).bind fun t138 => ((impl_NameEscape.f kj5 a1).bind fun t139 => (if t138.size + t139.size ≤ 9223372036854775807 then (if t137.toList = (t138 ++ t139).toList then ((laws_escapes.f kj5).bind fun t140 => (some t140)) else (some false)) else (none))))) else (none)) = some r := by rw [if_neg (show ¬ (false = true) by decide)] at H; exact H
              clear H
              have H := H1
              clear H1
              by_cases c12 : a0.size + a1.size ≤ 9223372036854775807
              · rw [if_pos c12] at H
                have c12b0 := eq_true c12
                have c12b1 : decide (a0.size + a1.size ≤ 9223372036854775807) = true := decide_eq_true c12
                try have c12b2 : (9223372036854775807 < a0.size + a1.size) = False := eq_false (Nat.not_lt.2 c12)
                replace H := Option.bind_eq_some_iff.mp H
                obtain ⟨t137, A130, H⟩ := H
                replace H : ((impl_NameEscape.f kj5 a0).bind fun t138 => ((impl_NameEscape.f kj5 a1).bind fun t139 => (if t138.size + t139.size ≤ 9223372036854775807 then (if t137.toList = (t138 ++ t139).toList then ((laws_escapes.f kj5).bind fun t140 => (some t140)) else (some false)) else (none)))) = some r := H
                have A13 := Aside0.mk A130
                clear A130
                replace H := Option.bind_eq_some_iff.mp H
                obtain ⟨t138, A140, H⟩ := H
                replace H : ((impl_NameEscape.f kj5 a1).bind fun t139 => (if t138.size + t139.size ≤ 9223372036854775807 then (if t137.toList = (t138 ++ t139).toList then ((laws_escapes.f kj5).bind fun t140 => (some t140)) else (some false)) else (none))) = some r := H
                have A14 := Aside0.mk A140
                clear A140
                replace H := Option.bind_eq_some_iff.mp H
                obtain ⟨t139, A150, H⟩ := H
                replace H : (if t138.size + t139.size ≤ 9223372036854775807 then (if t137.toList = (t138 ++ t139).toList then ((laws_escapes.f kj5).bind fun t140 => (some t140)) else (some false)) else (none)) = some r := H
                have A15 := Aside0.mk A150
                clear A150
                by_cases c16 : t138.size + t139.size ≤ 9223372036854775807
                · rw [if_pos c16] at H
                  have c16b0 := eq_true c16
                  have c16b1 : decide (t138.size + t139.size ≤ 9223372036854775807) = true := decide_eq_true c16
                  try have c16b2 : (9223372036854775807 < t138.size + t139.size) = False := eq_false (Nat.not_lt.2 c16)
                  by_cases c17 : t137.toList = (t138 ++ t139).toList
                  · rw [if_pos c17] at H
                    have c17b0 : (t137.toList == (t138 ++ t139).toList) = true := beq_iff_eq.mpr c17
                    have c17b1 : (t137.toList != (t138 ++ t139).toList) = false := bne_eq_false_iff_eq.mpr c17
                    clear c17
                    replace H := Option.bind_eq_some_iff.mp H
                    obtain ⟨t140, A180, H⟩ := H
                    replace H : (some t140) = some r := H
                    have A18 := Aside0.mk A180
                    clear A180
                    obtain rfl := Option.some.inj H
                    go_wp2_with (first | ((with_reducible refine gate_callee (f := 6) rfl ?_); refine goesL_ (some 32) rfl rfl Try.func6 (by kernel_rfl) rfl #[.string (a0 ++ a1)] rfl (by (try simp only [List.map_toArray, List.map_cons, List.map_nil]); first | done | rfl | (simp only [List.length_drop, List.length_take]; rfl)) ?_; (with_reducible refine (impl_NameEscape.calls kj5 (a0 ++ a1) t137 _ A13.out).mono ?_); rintro e w19 ⟨rfl, hb⟩; refine ⟨_, rfl, ?_⟩; have n0_ := Aside0.mk (below_step (by repeat (first | (with_reducible first | exact HB.out | apply below_alloc | apply pw_below_drewN | apply below_drew1) | exact HB.out)) hb); clear HB; have HB := n0_; clear n0_; (try clear hb); (try clear hb2); (try clear hk); (try clear hi)) | ((with_reducible refine gate_callee (f := 6) rfl ?_); refine goesL_ (some 34) rfl rfl Try.func6 (by kernel_rfl) rfl #[.string a0] rfl (by (try simp only [List.map_toArray, List.map_cons, List.map_nil]); first | done | rfl | (simp only [List.length_drop, List.length_take]; rfl)) ?_; (with_reducible refine (impl_NameEscape.calls kj5 a0 t138 _ A14.out).mono ?_); rintro e w20 ⟨rfl, hb⟩; refine ⟨_, rfl, ?_⟩; have n0_ := Aside0.mk (below_step (by repeat (first | (with_reducible first | exact HB.out | apply below_alloc | apply pw_below_drewN | apply below_drew1) | exact HB.out)) hb); clear HB; have HB := n0_; clear n0_; (try clear hb); (try clear hb2); (try clear hk); (try clear hi)) | ((with_reducible refine gate_callee (f := 6) rfl ?_); refine goesL_ (some 36) rfl rfl Try.func6 (by kernel_rfl) rfl #[.string a1] rfl (by (try simp only [List.map_toArray, List.map_cons, List.map_nil]); first | done | rfl | (simp only [List.length_drop, List.length_take]; rfl)) ?_; (with_reducible refine (impl_NameEscape.calls kj5 a1 t139 _ A15.out).mono ?_); rintro e w21 ⟨rfl, hb⟩; refine ⟨_, rfl, ?_⟩; have n0_ := Aside0.mk (below_step (by repeat (first | (with_reducible first | exact HB.out | apply below_alloc | apply pw_below_drewN | apply below_drew1) | exact HB.out)) hb); clear HB; have HB := n0_; clear n0_; (try clear hb); (try clear hb2); (try clear hk); (try clear hi)) | (go_at_call 7; (with_reducible refine (laws_escapes.calls kj5  t140 _ A18.out).mono ?_); rintro e w22 ⟨rfl, hb⟩; have n0_ := Aside0.mk (below_step (by repeat (first | (with_reducible first | exact HB.out | apply below_alloc | apply pw_below_drewN | apply below_drew1) | exact HB.out)) hb); clear HB; have HB := n0_; clear n0_; (try clear hb); (try clear hb2); (try clear hk); (try clear hi)))
                    go_ret
                    exact ⟨by first | rfl | (simp [errW_none, errW_some] <;> rfl) | (simp [*, errW_none, errW_some] <;> rfl), by repeat (first | (with_reducible first | exact HB.out | apply below_alloc | apply pw_below_drewN | apply below_drew1) | exact HB.out)⟩
                  · rw [if_neg c17] at H
                    have c17b0 : (t137.toList == (t138 ++ t139).toList) = false := beq_eq_false_iff_ne.mpr c17
                    have c17b1 : (t137.toList != (t138 ++ t139).toList) = true := bne_iff_ne.mpr c17
                    obtain rfl := Option.some.inj H
                    go_wp2_with (first | ((with_reducible refine gate_callee (f := 6) rfl ?_); refine goesL_ (some 32) rfl rfl Try.func6 (by kernel_rfl) rfl #[.string (a0 ++ a1)] rfl (by (try simp only [List.map_toArray, List.map_cons, List.map_nil]); first | done | rfl | (simp only [List.length_drop, List.length_take]; rfl)) ?_; (with_reducible refine (impl_NameEscape.calls kj5 (a0 ++ a1) t137 _ A13.out).mono ?_); rintro e w23 ⟨rfl, hb⟩; refine ⟨_, rfl, ?_⟩; have n0_ := Aside0.mk (below_step (by repeat (first | (with_reducible first | exact HB.out | apply below_alloc | apply pw_below_drewN | apply below_drew1) | exact HB.out)) hb); clear HB; have HB := n0_; clear n0_; (try clear hb); (try clear hb2); (try clear hk); (try clear hi)) | ((with_reducible refine gate_callee (f := 6) rfl ?_); refine goesL_ (some 34) rfl rfl Try.func6 (by kernel_rfl) rfl #[.string a0] rfl (by (try simp only [List.map_toArray, List.map_cons, List.map_nil]); first | done | rfl | (simp only [List.length_drop, List.length_take]; rfl)) ?_; (with_reducible refine (impl_NameEscape.calls kj5 a0 t138 _ A14.out).mono ?_); rintro e w24 ⟨rfl, hb⟩; refine ⟨_, rfl, ?_⟩; have n0_ := Aside0.mk (below_step (by repeat (first | (with_reducible first | exact HB.out | apply below_alloc | apply pw_below_drewN | apply below_drew1) | exact HB.out)) hb); clear HB; have HB := n0_; clear n0_; (try clear hb); (try clear hb2); (try clear hk); (try clear hi)) | ((with_reducible refine gate_callee (f := 6) rfl ?_); refine goesL_ (some 36) rfl rfl Try.func6 (by kernel_rfl) rfl #[.string a1] rfl (by (try simp only [List.map_toArray, List.map_cons, List.map_nil]); first | done | rfl | (simp only [List.length_drop, List.length_take]; rfl)) ?_; (with_reducible refine (impl_NameEscape.calls kj5 a1 t139 _ A15.out).mono ?_); rintro e w25 ⟨rfl, hb⟩; refine ⟨_, rfl, ?_⟩; have n0_ := Aside0.mk (below_step (by repeat (first | (with_reducible first | exact HB.out | apply below_alloc | apply pw_below_drewN | apply below_drew1) | exact HB.out)) hb); clear HB; have HB := n0_; clear n0_; (try clear hb); (try clear hb2); (try clear hk); (try clear hi)))
                    go_ret
                    exact ⟨by first | rfl | (simp [errW_none, errW_some] <;> rfl) | (simp [*, errW_none, errW_some] <;> rfl), by repeat (first | (with_reducible first | exact HB.out | apply below_alloc | apply pw_below_drewN | apply below_drew1) | exact HB.out)⟩
                · rw [if_neg c16] at H
                  exact absurd H (by simp)
              · rw [if_neg c12] at H
                exact absurd H (by simp)

/-- THE ONE PURE STATEMENT of laws_FnNameParts: yours. -/
def laws_FnNameParts.Pure : Prop := ∀ (a0 : ByteArray) (a1 : ByteArray), a0.size ≤ 140737488351232 → a1.size ≤ 140737488351232 → ∃ k, laws_FnNameParts.f k a0 a1 = some true
theorem laws_FnNameParts.walk (P : laws_FnNameParts.Pure) (a0 : ByteArray) (a1 : ByteArray) (w : World) (w0 : a0.size ≤ 140737488351232) (w1 : a1.size ≤ 140737488351232) :
    Calls Try.prog 3 #[.string a0, .string a1] w fun e w' => e = .returned (.bool true) ∧ Below w.heap.size w w' := by
  obtain ⟨k, h⟩ := P a0 a1 w0 w1
  refine (laws_FnNameParts.calls k a0 a1 true w h).mono ?_
  rintro e w' ⟨rfl, hd⟩
  exact ⟨rfl, hd⟩

/-! ### laws_zzFits4: function 8 -/
def laws_zzFits4.l0 : Nat → List ByteArray → Int → Int → Option (Bool)
  | 0, _, _, _ => none
  | k + 1, x8, x9, x10 => if x10 < x9 then (if 0 ≤ x10 then (if x10 < (x8.length : Int) then (if ((rdOf ByteArray.empty x8 x10).size : Int) > 2147483647 then (some false) else (laws_zzFits4.l0 k x8 x9 (wrap64 (x10 + 1)))) else (none)) else (none)) else (some true)
def laws_zzFits4.f (k : Nat) (l0 : List ByteArray) : Option (Bool) := if (l0.length : Int) > 2147483647 then (some false) else (laws_zzFits4.l0 k l0 (l0.length : Int) 0)
theorem laws_zzFits4.mono_l : ∀ k, (∀ y0 y1 y2, LeO (laws_zzFits4.l0 k y0 y1 y2) (laws_zzFits4.l0 (k + 1) y0 y1 y2))
  | 0 => fun _ _ _ r h => by simp [laws_zzFits4.l0] at h
  | k + 1 => by
    have ih0 := laws_zzFits4.mono_l k
    · intro y0 y1 y2
      unfold laws_zzFits4.l0
      repeat' first
      | (with_reducible exact ih0 _ _ _)
      | (with_reducible exact LeO.refl _)
      | (with_reducible exact LeO.none _)
      | (with_reducible refine LeO.ite ?_ ?_)
      | (with_reducible refine LeO.bind ?_ (fun _ => ?_))
      | exact ih0 _ _ _
      | exact LeO.none _
      | refine LeO.ite ?_ ?_
      | refine LeO.bind ?_ (fun _ => ?_)
theorem laws_zzFits4.mono : ∀ a0 k, LeO (laws_zzFits4.f k a0) (laws_zzFits4.f (k + 1) a0) := by
  intro a0 k
  have ih0 := laws_zzFits4.mono_l k
  unfold laws_zzFits4.f
  repeat' first
      | (with_reducible exact ih0 _ _ _)
      | (with_reducible exact LeO.refl _)
      | (with_reducible exact LeO.none _)
      | (with_reducible refine LeO.ite ?_ ?_)
      | (with_reducible refine LeO.bind ?_ (fun _ => ?_))
      | exact ih0 _ _ _
      | exact LeO.none _
      | refine LeO.ite ?_ ?_
      | refine LeO.bind ?_ (fun _ => ?_)
set_option maxHeartbeats 8000000 in
set_option maxRecDepth 100000 in
theorem laws_zzFits4.calls (k : Nat) (A0 : Option Addr) (c0 : Nat) (l0 : List ByteArray) (r : Bool) (w : World) (hr0 : Kd.C Kd.string w A0 l0.length l0) (hc0 : l0.length ≤ c0) (h : laws_zzFits4.f k l0 = some r) :
    Calls Try.prog 8 #[.slice A0 l0.length c0] w fun e w' => e = .returned (.bool r) ∧ Drawn0 w w' := by
  have HR0 := Aside0.mk hr0
  have HC0 := Aside0.mk hc0
  clear hr0 hc0
  have H : (if (l0.length : Int) > 2147483647 then (some false) else (laws_zzFits4.l0 k l0 (l0.length : Int) 0)) = some r := h
  clear h
  by_cases c2 : (l0.length : Int) > 2147483647
  · rw [if_pos c2] at H
    have c2b0 : decide (2147483647 < (l0.length : Int)) = true := decide_eq_true c2
    have c2b1 : decide (2147483647 < l0.length) = true := decide_eq_true (by omega)
    clear c2
    obtain rfl := Option.some.inj H
    go_enter Try.func8, Try.ntmps8
    go_wp2
    go_ret
    exact ⟨by first | rfl | (simp; done) | (simp [*]; done), by repeat (first | exact Drawn0.refl _ | apply Drawn0.step)⟩
  · rw [if_neg c2] at H
    have c2b0 : decide (2147483647 < (l0.length : Int)) = false := decide_eq_false c2
    have c2b1 : decide (2147483647 < l0.length) = false := decide_eq_false (by omega)
    clear c2
    have H' := Aside0.mk H
    clear H
    go_enter Try.func8, Try.ntmps8
    go_wp2
    go_loopg [10] k (fun kq v10 w' => ∃ (x10_1 : Int), v10 = .int .i64 x10_1 ∧ Aside0 (laws_zzFits4.l0 kq l0 (l0.length : Int) x10_1 = some r) ∧ Aside0 (kq ≤ k) ∧ Drawn0 w w')
    case atStart => exact ⟨(0), (by first | rfl | (simp; done) | (simp [*]; done)), H', ⟨Nat.le_refl _⟩, by repeat (first | exact Drawn0.refl _ | apply Drawn0.step)⟩
    case round =>
      clear H'
      try clear c2
      try clear c2b0
      try clear c2b1
      try clear p2
      obtain ⟨x10_1, rfl, HA, HK1, ⟨m1, rfl⟩⟩ := hrel
      cases gk with
      | zero => exact absurd HA.out (by simp [laws_zzFits4.l0])
      | succ k1 =>
        have H := HA.out
        clear HA
        simp only [laws_zzFits4.l0] at H
        by_cases c3 : x10_1 < (l0.length : Int)
        · rw [if_pos c3] at H
          have c3b0 : decide (x10_1 < (l0.length : Int)) = true := decide_eq_true c3
          clear c3
          by_cases c4 : 0 ≤ x10_1
          · rw [if_pos c4] at H
            have c4b0 : decide (0 ≤ x10_1) = true := decide_eq_true c4
            clear c4
            by_cases c5 : x10_1 < (l0.length : Int)
            · rw [if_pos c5] at H
              have c5b0 : decide (x10_1 < (l0.length : Int)) = true := decide_eq_true c5
              clear c5
              by_cases c6 : ((rdOf ByteArray.empty l0 x10_1).size : Int) > 2147483647
              · rw [if_pos c6] at H
                have c6b0 : decide (2147483647 < ((rdOf ByteArray.empty l0 x10_1).size : Int)) = true := decide_eq_true c6
                have c6b1 : decide (2147483647 < (rdOf ByteArray.empty l0 x10_1).size) = true := decide_eq_true (by omega)
                clear c6
                obtain rfl := Option.some.inj H
                have p141 : 0 ≤ (x10_1 : Int) := of_decide_eq_true (by first | (with_reducible assumption) | assumption)
                have q141 : x10_1 < (l0.length : Int) := of_decide_eq_true (by first | (with_reducible assumption) | assumption)
                obtain ⟨ad141, e141, hx141_0⟩ := Kd.at_string HR0.out x10_1 p141 q141
                cases e141
                replace p141 := eq_true p141
                replace q141 := eq_true q141
                go_wp2
                go_ret
                exact ⟨by first | rfl | (simp; done) | (simp [*]; done), by repeat (first | exact Drawn0.refl _ | apply Drawn0.step)⟩
              · rw [if_neg c6] at H
                have c6b0 : decide (2147483647 < ((rdOf ByteArray.empty l0 x10_1).size : Int)) = false := decide_eq_false c6
                have c6b1 : decide (2147483647 < (rdOf ByteArray.empty l0 x10_1).size) = false := decide_eq_false (by omega)
                clear c6
                have H' := Aside0.mk H
                clear H
                have p141 : 0 ≤ (x10_1 : Int) := of_decide_eq_true (by first | (with_reducible assumption) | assumption)
                have q141 : x10_1 < (l0.length : Int) := of_decide_eq_true (by first | (with_reducible assumption) | assumption)
                obtain ⟨ad141, e141, hx141_0⟩ := Kd.at_string HR0.out x10_1 p141 q141
                cases e141
                replace p141 := eq_true p141
                replace q141 := eq_true q141
                go_wp2
                go_roundg k1
                case measure => have := HK1.out; omega
                case rel => exact ⟨(wrap64 (x10_1 + 1)), (by first | rfl | (simp; done) | (simp [*]; done)), H', ⟨by have := HK1.out; omega⟩, by repeat (first | exact Drawn0.refl _ | apply Drawn0.step)⟩
            · rw [if_neg c5] at H
              exact absurd H (by simp)
          · rw [if_neg c4] at H
            exact absurd H (by simp)
        · rw [if_neg c3] at H
          have c3b0 : decide (x10_1 < (l0.length : Int)) = false := decide_eq_false c3
          clear c3
          obtain rfl := Option.some.inj H
          go_wp2
          go_ret
          exact ⟨by first | rfl | (simp; done) | (simp [*]; done), by repeat (first | exact Drawn0.refl _ | apply Drawn0.step)⟩

/-! ### laws_has: function 12 -/
mutual
def laws_has.l0 : Nat → ByteArray → ByteArray → Int → Int → Option (Bool)
  | 0, _, _, _, _ => none
  | k + 1, x0, x1, x8, x9 => if x9 < x8 then (laws_has.l1 k x0 x1 x9 x8 x9 (x1.size : Int) 0) else (some false)
def laws_has.l1 : Nat → ByteArray → ByteArray → Int → Int → Int → Int → Int → Option (Bool)
  | 0, _, _, _, _, _, _, _ => none
  | k + 1, x0, x1, x5, x8, x9, x13, x14 => if x14 < x13 then (if 0 ≤ x5 then (if x5 < (x0.size : Int) then (if 0 ≤ x14 then (if x14 < (x1.size : Int) then (if (bt x0 x5) = (bt x1 x14) then (some true) else (laws_has.l1 k x0 x1 x5 x8 x9 x13 (wrap64 (x14 + 1)))) else (none)) else (none)) else (none)) else (none)) else (laws_has.l0 k x0 x1 x8 (wrap64 (x9 + 1)))
end
def laws_has.f (k : Nat) (a0 : ByteArray) (a1 : ByteArray) : Option (Bool) := laws_has.l0 k a0 a1 (a0.size : Int) 0
theorem laws_has.mono_l : ∀ k, (∀ y0 y1 y2 y3, LeO (laws_has.l0 k y0 y1 y2 y3) (laws_has.l0 (k + 1) y0 y1 y2 y3)) ∧ (∀ y0 y1 y2 y3 y4 y5 y6, LeO (laws_has.l1 k y0 y1 y2 y3 y4 y5 y6) (laws_has.l1 (k + 1) y0 y1 y2 y3 y4 y5 y6))
  | 0 => ⟨fun _ _ _ _ r h => by simp [laws_has.l0] at h, fun _ _ _ _ _ _ _ r h => by simp [laws_has.l1] at h⟩
  | k + 1 => by
    obtain ⟨ih0, ih1⟩ := laws_has.mono_l k
    refine ⟨?_, ?_⟩
    · intro y0 y1 y2 y3
      unfold laws_has.l0
      repeat' first
      | (with_reducible exact ih0 _ _ _ _)
      | (with_reducible exact ih1 _ _ _ _ _ _ _)
      | (with_reducible exact LeO.refl _)
      | (with_reducible exact LeO.none _)
      | (with_reducible refine LeO.ite ?_ ?_)
      | (with_reducible refine LeO.bind ?_ (fun _ => ?_))
      | exact ih0 _ _ _ _
      | exact ih1 _ _ _ _ _ _ _
      | exact LeO.none _
      | refine LeO.ite ?_ ?_
      | refine LeO.bind ?_ (fun _ => ?_)
    · intro y0 y1 y2 y3 y4 y5 y6
      unfold laws_has.l1
      repeat' first
      | (with_reducible exact ih0 _ _ _ _)
      | (with_reducible exact ih1 _ _ _ _ _ _ _)
      | (with_reducible exact LeO.refl _)
      | (with_reducible exact LeO.none _)
      | (with_reducible refine LeO.ite ?_ ?_)
      | (with_reducible refine LeO.bind ?_ (fun _ => ?_))
      | exact ih0 _ _ _ _
      | exact ih1 _ _ _ _ _ _ _
      | exact LeO.none _
      | refine LeO.ite ?_ ?_
      | refine LeO.bind ?_ (fun _ => ?_)
theorem laws_has.mono : ∀ a0 a1 k, LeO (laws_has.f k a0 a1) (laws_has.f (k + 1) a0 a1) := by
  intro a0 a1 k
  obtain ⟨ih0, ih1⟩ := laws_has.mono_l k
  unfold laws_has.f
  repeat' first
      | (with_reducible exact ih0 _ _ _ _)
      | (with_reducible exact ih1 _ _ _ _ _ _ _)
      | (with_reducible exact LeO.refl _)
      | (with_reducible exact LeO.none _)
      | (with_reducible refine LeO.ite ?_ ?_)
      | (with_reducible refine LeO.bind ?_ (fun _ => ?_))
      | exact ih0 _ _ _ _
      | exact ih1 _ _ _ _ _ _ _
      | exact LeO.none _
      | refine LeO.ite ?_ ?_
      | refine LeO.bind ?_ (fun _ => ?_)
set_option maxHeartbeats 8000000 in
set_option maxRecDepth 100000 in
theorem laws_has.calls (k : Nat) (a0 : ByteArray) (a1 : ByteArray) (r : Bool) (w : World) (h : laws_has.f k a0 a1 = some r) :
    Calls Try.prog 12 #[.string a0, .string a1] w fun e w' => e = .returned (.bool r) ∧ Drawn0 w w' := by
  have H : (laws_has.l0 k a0 a1 (a0.size : Int) 0) = some r := h
  clear h
  have H' := Aside0.mk H
  clear H
  go_enter Try.func12, Try.ntmps12
  go_wp2
  repeat (go_quiet (fail); try go_wp2)
  go_loopg [9] k (fun kq v9 w' => ∃ (x9_1 : Int), v9 = .int .i64 x9_1 ∧ Aside0 (laws_has.l0 kq a0 a1 (a0.size : Int) x9_1 = some r) ∧ Aside0 (kq ≤ k) ∧ Drawn0 w w')
  case atStart => exact ⟨(0), (by first | rfl | (simp; done) | (simp [*]; done)), H', ⟨Nat.le_refl _⟩, by repeat (first | exact Drawn0.refl _ | apply Drawn0.step)⟩
  case round =>
    clear H'
    try clear c1
    try clear p2
    obtain ⟨x9_1, rfl, HA, HK1, ⟨m1, rfl⟩⟩ := hrel
    cases gk with
    | zero => exact absurd HA.out (by simp [laws_has.l0])
    | succ k1 =>
      have H := HA.out
      clear HA
      simp only [laws_has.l0] at H
      by_cases c3 : x9_1 < (a0.size : Int)
      · rw [if_pos c3] at H
        have c3b0 : decide (x9_1 < (a0.size : Int)) = true := decide_eq_true c3
        clear c3
        have H' := Aside0.mk H
        clear H
        go_wp2
        repeat (go_quiet (fail); try go_wp2)
        go_loopg [14] k1 (fun kq v14 w' => ∃ (x14_2 : Int), v14 = .int .i64 x14_2 ∧ Aside0 (laws_has.l1 kq a0 a1 x9_1 (a0.size : Int) x9_1 (a1.size : Int) x14_2 = some r) ∧ Aside0 (kq ≤ k1) ∧ Drawn0 w w')
        case atStart => exact ⟨(0), (by first | rfl | (simp; done) | (simp [*]; done)), H', ⟨Nat.le_refl _⟩, by repeat (first | exact Drawn0.refl _ | apply Drawn0.step)⟩
        case round =>
          clear H'
          try clear c1
          try clear p2
          try clear c3
          try clear c3b0
          try clear p2
          obtain ⟨x14_2, rfl, HA, HK2, ⟨m2, rfl⟩⟩ := hrel
          cases gk with
          | zero => exact absurd HA.out (by simp [laws_has.l1])
          | succ k2 =>
            have H := HA.out
            clear HA
            simp only [laws_has.l1] at H
            by_cases c4 : x14_2 < (a1.size : Int)
            · rw [if_pos c4] at H
              have c4b0 : decide (x14_2 < (a1.size : Int)) = true := decide_eq_true c4
              clear c4
              by_cases c5 : 0 ≤ x9_1
              · rw [if_pos c5] at H
                have c5b0 : decide (0 ≤ x9_1) = true := decide_eq_true c5
                clear c5
                by_cases c6 : x9_1 < (a0.size : Int)
                · rw [if_pos c6] at H
                  have c6b0 : decide (x9_1 < (a0.size : Int)) = true := decide_eq_true c6
                  clear c6
                  by_cases c8 : 0 ≤ x14_2
                  · rw [if_pos c8] at H
                    have c8b0 : decide (0 ≤ x14_2) = true := decide_eq_true c8
                    clear c8
                    by_cases c9 : x14_2 < (a1.size : Int)
                    · rw [if_pos c9] at H
                      have c9b0 : decide (x14_2 < (a1.size : Int)) = true := decide_eq_true c9
                      clear c9
                      by_cases c11 : (bt a0 x9_1) = (bt a1 x14_2)
                      · rw [if_pos c11] at H
                        have c11b0 : ((bt a0 x9_1) == (bt a1 x14_2)) = true := beq_iff_eq.mpr c11
                        have c11b1 : ((bt a0 x9_1) != (bt a1 x14_2)) = false := bne_eq_false_iff_eq.mpr c11
                        clear c11
                        obtain rfl := Option.some.inj H
                        have p7 : 0 ≤ (x9_1 : Int) := of_decide_eq_true (by first | (with_reducible assumption) | assumption)
                        have q7 : x9_1 < (a0.size : Int) := of_decide_eq_true (by first | (with_reducible assumption) | assumption)
                        have hx7 := bt_at a0 x9_1
                        replace p7 := eq_true p7
                        replace q7 := eq_true q7
                        have p10 : 0 ≤ (x14_2 : Int) := of_decide_eq_true (by first | (with_reducible assumption) | assumption)
                        have q10 : x14_2 < (a1.size : Int) := of_decide_eq_true (by first | (with_reducible assumption) | assumption)
                        have hx10 := bt_at a1 x14_2
                        replace p10 := eq_true p10
                        replace q10 := eq_true q10
                        go_wp2
                        repeat (go_quiet (fail); try go_wp2)
                        go_ret
                        exact ⟨by first | rfl | (simp; done) | (simp [*]; done), by repeat (first | exact Drawn0.refl _ | apply Drawn0.step)⟩
                      · rw [if_neg c11] at H
                        have c11b0 : ((bt a0 x9_1) == (bt a1 x14_2)) = false := beq_eq_false_iff_ne.mpr c11
                        have c11b1 : ((bt a0 x9_1) != (bt a1 x14_2)) = true := bne_iff_ne.mpr c11
                        have H' := Aside0.mk H
                        clear H
                        have p7 : 0 ≤ (x9_1 : Int) := of_decide_eq_true (by first | (with_reducible assumption) | assumption)
                        have q7 : x9_1 < (a0.size : Int) := of_decide_eq_true (by first | (with_reducible assumption) | assumption)
                        have hx7 := bt_at a0 x9_1
                        replace p7 := eq_true p7
                        replace q7 := eq_true q7
                        have p10 : 0 ≤ (x14_2 : Int) := of_decide_eq_true (by first | (with_reducible assumption) | assumption)
                        have q10 : x14_2 < (a1.size : Int) := of_decide_eq_true (by first | (with_reducible assumption) | assumption)
                        have hx10 := bt_at a1 x14_2
                        replace p10 := eq_true p10
                        replace q10 := eq_true q10
                        go_wp2
                        repeat (go_quiet (fail); try go_wp2)
                        go_roundg k2
                        case measure => have := HK1.out; have := HK2.out; omega
                        case rel => exact ⟨(wrap64 (x14_2 + 1)), (by first | rfl | (simp; done) | (simp [*]; done)), H', ⟨by have := HK1.out; have := HK2.out; omega⟩, by repeat (first | exact Drawn0.refl _ | apply Drawn0.step)⟩
                    · rw [if_neg c9] at H
                      exact absurd H (by simp)
                  · rw [if_neg c8] at H
                    exact absurd H (by simp)
                · rw [if_neg c6] at H
                  exact absurd H (by simp)
              · rw [if_neg c5] at H
                exact absurd H (by simp)
            · rw [if_neg c4] at H
              have c4b0 : decide (x14_2 < (a1.size : Int)) = false := decide_eq_false c4
              clear c4
              have H' := Aside0.mk H
              clear H
              go_wp2
              repeat (go_quiet (fail); try go_wp2)
              go_roundg k2
              case measure => have := HK1.out; have := HK2.out; omega
              case rel => exact ⟨(wrap64 (x9_1 + 1)), (by first | rfl | (simp; done) | (simp [*]; done)), H', ⟨by have := HK1.out; have := HK2.out; omega⟩, by repeat (first | exact Drawn0.refl _ | apply Drawn0.step)⟩
      · rw [if_neg c3] at H
        have c3b0 : decide (x9_1 < (a0.size : Int)) = false := decide_eq_false c3
        clear c3
        obtain rfl := Option.some.inj H
        go_wp2
        repeat (go_quiet (fail); try go_wp2)
        go_ret
        exact ⟨by first | rfl | (simp; done) | (simp [*]; done), by repeat (first | exact Drawn0.refl _ | apply Drawn0.step)⟩

/-! ### laws_cleaned: function 9 -/
def laws_cleaned.l0 : Nat → ByteArray → List ByteArray → Int → Int → Option (ByteArray)
  | 0, _, _, _, _ => none
  | k + 1, x3, x9, x10, x11 => if x11 < x10 then (if 0 ≤ x11 then (if x11 < (x9.length : Int) then (if (rdOf ByteArray.empty x9 x11).toList = ([] : List UInt8) then (some (⟨#[]⟩ : ByteArray)) else (if (rdOf ByteArray.empty x9 x11).toList = ([46] : List UInt8) then (some (⟨#[]⟩ : ByteArray)) else (if (rdOf ByteArray.empty x9 x11).toList = ([46, 46] : List UInt8) then (some (⟨#[]⟩ : ByteArray)) else ((laws_has.f k (rdOf ByteArray.empty x9 x11) (⟨#[47]⟩ : ByteArray)).bind fun t143 => (if t143 = true then (some (⟨#[]⟩ : ByteArray)) else (if 1 + (rdOf ByteArray.empty x9 x11).size ≤ 9223372036854775807 then (if x3.size + ((⟨#[47]⟩ : ByteArray) ++ (rdOf ByteArray.empty x9 x11)).size ≤ 9223372036854775807 then (laws_cleaned.l0 k (x3 ++ ((⟨#[47]⟩ : ByteArray) ++ (rdOf ByteArray.empty x9 x11))) x9 x10 (wrap64 (x11 + 1))) else (none)) else (none))))))) else (none)) else (none)) else (if (x3.size : Int) > 2000 then (some (⟨#[]⟩ : ByteArray)) else (some x3))
def laws_cleaned.f (k : Nat) (l0 : List ByteArray) : Option (ByteArray) := if (l0.length : Int) = 0 then (some (⟨#[47]⟩ : ByteArray)) else (laws_cleaned.l0 k (⟨#[]⟩ : ByteArray) l0 (l0.length : Int) 0)
theorem laws_cleaned.mono_l : ∀ k, (∀ y0 y1 y2 y3, LeO (laws_cleaned.l0 k y0 y1 y2 y3) (laws_cleaned.l0 (k + 1) y0 y1 y2 y3))
  | 0 => fun _ _ _ _ r h => by simp [laws_cleaned.l0] at h
  | k + 1 => by
    have ih0 := laws_cleaned.mono_l k
    · intro y0 y1 y2 y3
      unfold laws_cleaned.l0
      repeat' first
      | (with_reducible exact ih0 _ _ _ _)
      | (with_reducible exact laws_has.mono _ _ _)
      | (with_reducible exact LeO.refl _)
      | (with_reducible exact LeO.none _)
      | (with_reducible refine LeO.ite ?_ ?_)
      | (with_reducible refine LeO.bind ?_ (fun _ => ?_))
      | exact ih0 _ _ _ _
      | exact laws_has.mono _ _ _
      | exact LeO.none _
      | refine LeO.ite ?_ ?_
      | refine LeO.bind ?_ (fun _ => ?_)
theorem laws_cleaned.mono : ∀ a0 k, LeO (laws_cleaned.f k a0) (laws_cleaned.f (k + 1) a0) := by
  intro a0 k
  have ih0 := laws_cleaned.mono_l k
  unfold laws_cleaned.f
  repeat' first
      | (with_reducible exact ih0 _ _ _ _)
      | (with_reducible exact laws_has.mono _ _ _)
      | (with_reducible exact LeO.refl _)
      | (with_reducible exact LeO.none _)
      | (with_reducible refine LeO.ite ?_ ?_)
      | (with_reducible refine LeO.bind ?_ (fun _ => ?_))
      | exact ih0 _ _ _ _
      | exact laws_has.mono _ _ _
      | exact LeO.none _
      | refine LeO.ite ?_ ?_
      | refine LeO.bind ?_ (fun _ => ?_)
set_option maxHeartbeats 8000000 in
set_option maxRecDepth 100000 in
theorem laws_cleaned.calls (k : Nat) (A0 : Option Addr) (c0 : Nat) (l0 : List ByteArray) (r : ByteArray) (w : World) (hr0 : Kd.C Kd.string w A0 l0.length l0) (hc0 : l0.length ≤ c0) (h : laws_cleaned.f k l0 = some r) :
    Calls Try.prog 9 #[.slice A0 l0.length c0] w fun e w' => e = .returned (.string r) ∧ Drawn0 w w' := by
  have HR0 := Aside0.mk hr0
  have HC0 := Aside0.mk hc0
  clear hr0 hc0
  have H : (if (l0.length : Int) = 0 then (some (⟨#[47]⟩ : ByteArray)) else (laws_cleaned.l0 k (⟨#[]⟩ : ByteArray) l0 (l0.length : Int) 0)) = some r := h
  clear h
  by_cases c2 : (l0.length : Int) = 0
  · rw [if_pos c2] at H
    have c2b0 : ((l0.length : Int) == 0) = true := beq_iff_eq.mpr c2
    have c2b1 : ((l0.length : Int) != 0) = false := bne_eq_false_iff_eq.mpr c2
    clear c2
    obtain rfl := Option.some.inj H
    go_enter Try.func9, Try.ntmps9
    go_wp2
    go_ret
    exact ⟨by first | rfl | (simp; done) | (simp [*]; done), by repeat (first | exact Drawn0.refl _ | apply Drawn0.step)⟩
  · rw [if_neg c2] at H
    have c2b0 : ((l0.length : Int) == 0) = false := beq_eq_false_iff_ne.mpr c2
    have c2b1 : ((l0.length : Int) != 0) = true := bne_iff_ne.mpr c2
    have c2b2 : ¬ (l0 = []) := fun h_ => c2 (by rw [h_]; rfl)
    have H' := Aside0.mk H
    clear H
    go_enter Try.func9, Try.ntmps9
    go_wp2
    go_loopg [3, 11] k (fun kq v3 v11 w' => ∃ (x3_1 : ByteArray) (x11_1 : Int), v3 = .string x3_1 ∧ v11 = .int .i64 x11_1 ∧ Aside0 (laws_cleaned.l0 kq x3_1 l0 (l0.length : Int) x11_1 = some r) ∧ Aside0 (kq ≤ k) ∧ Drawn0 w w')
    case atStart => exact ⟨((⟨#[]⟩ : ByteArray)), (0), (by first | rfl | (simp; done) | (simp [*]; done)), (by first | rfl | (simp; done) | (simp [*]; done)), H', ⟨Nat.le_refl _⟩, by repeat (first | exact Drawn0.refl _ | apply Drawn0.step)⟩
    case round =>
      clear H'
      try clear c2
      try clear c2b0
      try clear c2b1
      try clear c2b2
      try clear p2
      obtain ⟨x3_1, x11_1, rfl, rfl, HA, HK1, ⟨m1, rfl⟩⟩ := hrel
      cases gk with
      | zero => exact absurd HA.out (by simp [laws_cleaned.l0])
      | succ k1 =>
        have H := HA.out
        clear HA
        simp only [laws_cleaned.l0] at H
        by_cases c3 : x11_1 < (l0.length : Int)
        · rw [if_pos c3] at H
          have c3b0 : decide (x11_1 < (l0.length : Int)) = true := decide_eq_true c3
          clear c3
          by_cases c4 : 0 ≤ x11_1
          · rw [if_pos c4] at H
            have c4b0 : decide (0 ≤ x11_1) = true := decide_eq_true c4
            clear c4
            by_cases c5 : x11_1 < (l0.length : Int)
            · rw [if_pos c5] at H
              have c5b0 : decide (x11_1 < (l0.length : Int)) = true := decide_eq_true c5
              clear c5
              by_cases c6 : (rdOf ByteArray.empty l0 x11_1).toList = ([] : List UInt8)
              · rw [if_pos c6] at H
                have c6b0 : ((rdOf ByteArray.empty l0 x11_1).toList == ([] : List UInt8)) = true := beq_iff_eq.mpr c6
                have c6b1 : ((rdOf ByteArray.empty l0 x11_1).toList != ([] : List UInt8)) = false := bne_eq_false_iff_eq.mpr c6
                clear c6
                obtain rfl := Option.some.inj H
                have p142 : 0 ≤ (x11_1 : Int) := of_decide_eq_true (by first | (with_reducible assumption) | assumption)
                have q142 : x11_1 < (l0.length : Int) := of_decide_eq_true (by first | (with_reducible assumption) | assumption)
                obtain ⟨ad142, e142, hx142_0⟩ := Kd.at_string HR0.out x11_1 p142 q142
                cases e142
                replace p142 := eq_true p142
                replace q142 := eq_true q142
                go_wp2
                go_ret
                exact ⟨by first | rfl | (simp; done) | (simp [*]; done), by repeat (first | exact Drawn0.refl _ | apply Drawn0.step)⟩
              · rw [if_neg c6] at H
                have c6b0 : ((rdOf ByteArray.empty l0 x11_1).toList == ([] : List UInt8)) = false := beq_eq_false_iff_ne.mpr c6
                have c6b1 : ((rdOf ByteArray.empty l0 x11_1).toList != ([] : List UInt8)) = true := bne_iff_ne.mpr c6
                by_cases c7 : (rdOf ByteArray.empty l0 x11_1).toList = ([46] : List UInt8)
                · rw [if_pos c7] at H
                  have c7b0 : ((rdOf ByteArray.empty l0 x11_1).toList == ([46] : List UInt8)) = true := beq_iff_eq.mpr c7
                  have c7b1 : ((rdOf ByteArray.empty l0 x11_1).toList != ([46] : List UInt8)) = false := bne_eq_false_iff_eq.mpr c7
                  clear c7
                  obtain rfl := Option.some.inj H
                  have p142 : 0 ≤ (x11_1 : Int) := of_decide_eq_true (by first | (with_reducible assumption) | assumption)
                  have q142 : x11_1 < (l0.length : Int) := of_decide_eq_true (by first | (with_reducible assumption) | assumption)
                  obtain ⟨ad142, e142, hx142_0⟩ := Kd.at_string HR0.out x11_1 p142 q142
                  cases e142
                  replace p142 := eq_true p142
                  replace q142 := eq_true q142
                  go_wp2
                  go_ret
                  exact ⟨by first | rfl | (simp; done) | (simp [*]; done), by repeat (first | exact Drawn0.refl _ | apply Drawn0.step)⟩
                · rw [if_neg c7] at H
                  have c7b0 : ((rdOf ByteArray.empty l0 x11_1).toList == ([46] : List UInt8)) = false := beq_eq_false_iff_ne.mpr c7
                  have c7b1 : ((rdOf ByteArray.empty l0 x11_1).toList != ([46] : List UInt8)) = true := bne_iff_ne.mpr c7
                  by_cases c8 : (rdOf ByteArray.empty l0 x11_1).toList = ([46, 46] : List UInt8)
                  · rw [if_pos c8] at H
                    have c8b0 : ((rdOf ByteArray.empty l0 x11_1).toList == ([46, 46] : List UInt8)) = true := beq_iff_eq.mpr c8
                    have c8b1 : ((rdOf ByteArray.empty l0 x11_1).toList != ([46, 46] : List UInt8)) = false := bne_eq_false_iff_eq.mpr c8
                    clear c8
                    obtain rfl := Option.some.inj H
                    have p142 : 0 ≤ (x11_1 : Int) := of_decide_eq_true (by first | (with_reducible assumption) | assumption)
                    have q142 : x11_1 < (l0.length : Int) := of_decide_eq_true (by first | (with_reducible assumption) | assumption)
                    obtain ⟨ad142, e142, hx142_0⟩ := Kd.at_string HR0.out x11_1 p142 q142
                    cases e142
                    replace p142 := eq_true p142
                    replace q142 := eq_true q142
                    go_wp2
                    go_ret
                    exact ⟨by first | rfl | (simp; done) | (simp [*]; done), by repeat (first | exact Drawn0.refl _ | apply Drawn0.step)⟩
                  · rw [if_neg c8] at H
                    have c8b0 : ((rdOf ByteArray.empty l0 x11_1).toList == ([46, 46] : List UInt8)) = false := beq_eq_false_iff_ne.mpr c8
                    have c8b1 : ((rdOf ByteArray.empty l0 x11_1).toList != ([46, 46] : List UInt8)) = true := bne_iff_ne.mpr c8
                    replace H := Option.bind_eq_some_iff.mp H
                    obtain ⟨t143, A90, H⟩ := H
                    replace H : (if t143 = true then (some (⟨#[]⟩ : ByteArray)) else (if 1 + (rdOf ByteArray.empty l0 x11_1).size ≤ 9223372036854775807 then (if x3_1.size + ((⟨#[47]⟩ : ByteArray) ++ (rdOf ByteArray.empty l0 x11_1)).size ≤ 9223372036854775807 then (laws_cleaned.l0 k1 (x3_1 ++ ((⟨#[47]⟩ : ByteArray) ++ (rdOf ByteArray.empty l0 x11_1))) l0 (l0.length : Int) (wrap64 (x11_1 + 1))) else (none)) else (none))) = some r := H
                    have A9 := Aside0.mk A90
                    clear A90
                    by_cases c10 : t143 = true
                    · subst c10
                      have H1 : (some (⟨#[]⟩ : ByteArray)) = some r := by rw [if_pos rfl] at H; exact H
                      clear H
                      have H := H1
                      clear H1
                      obtain rfl := Option.some.inj H
                      have p142 : 0 ≤ (x11_1 : Int) := of_decide_eq_true (by first | (with_reducible assumption) | assumption)
                      have q142 : x11_1 < (l0.length : Int) := of_decide_eq_true (by first | (with_reducible assumption) | assumption)
                      obtain ⟨ad142, e142, hx142_0⟩ := Kd.at_string HR0.out x11_1 p142 q142
                      cases e142
                      replace p142 := eq_true p142
                      replace q142 := eq_true q142
                      go_wp2_with (first | (go_at_call 12; (with_reducible refine (laws_has.calls k1 (rdOf ByteArray.empty l0 x11_1) (⟨#[47]⟩ : ByteArray) true _ A9.out).mono ?_); rintro e w' ⟨rfl, ⟨nd, rfl⟩⟩))
                      go_ret
                      exact ⟨by first | rfl | (simp; done) | (simp [*]; done), by repeat (first | exact Drawn0.refl _ | apply Drawn0.step)⟩
                    · replace c10 := Bool.eq_false_iff.mpr c10
                      subst c10
                      have H1 : (if 1 + (rdOf ByteArray.empty l0 x11_1).size ≤ 9223372036854775807 then (if x3_1.size + ((⟨#[47]⟩ : ByteArray) ++ (rdOf ByteArray.empty l0 x11_1)).size ≤ 9223372036854775807 then (laws_cleaned.l0 k1 (x3_1 ++ ((⟨#[47]⟩ : ByteArray) ++ (rdOf ByteArray.empty l0 x11_1))) l0 (l0.length : Int) (wrap64 (x11_1 + 1))) else (none)) else (none)) = some r := by rw [if_neg (show ¬ (false = true) by decide)] at H; exact H
                      clear H
                      have H := H1
                      clear H1
                      by_cases c11 : 1 + (rdOf ByteArray.empty l0 x11_1).size ≤ 9223372036854775807
                      · rw [if_pos c11] at H
                        have c11b0 := eq_true c11
                        have c11b1 : decide (1 + (rdOf ByteArray.empty l0 x11_1).size ≤ 9223372036854775807) = true := decide_eq_true c11
                        try have c11b2 : (9223372036854775807 < 1 + (rdOf ByteArray.empty l0 x11_1).size) = False := eq_false (Nat.not_lt.2 c11)
                        by_cases c12 : x3_1.size + ((⟨#[47]⟩ : ByteArray) ++ (rdOf ByteArray.empty l0 x11_1)).size ≤ 9223372036854775807
                        · rw [if_pos c12] at H
                          have c12b0 := eq_true c12
                          have c12b1 : decide (x3_1.size + ((⟨#[47]⟩ : ByteArray) ++ (rdOf ByteArray.empty l0 x11_1)).size ≤ 9223372036854775807) = true := decide_eq_true c12
                          try have c12b2 : (9223372036854775807 < x3_1.size + ((⟨#[47]⟩ : ByteArray) ++ (rdOf ByteArray.empty l0 x11_1)).size) = False := eq_false (Nat.not_lt.2 c12)
                          have H' := Aside0.mk H
                          clear H
                          have p142 : 0 ≤ (x11_1 : Int) := of_decide_eq_true (by first | (with_reducible assumption) | assumption)
                          have q142 : x11_1 < (l0.length : Int) := of_decide_eq_true (by first | (with_reducible assumption) | assumption)
                          obtain ⟨ad142, e142, hx142_0⟩ := Kd.at_string HR0.out x11_1 p142 q142
                          cases e142
                          replace p142 := eq_true p142
                          replace q142 := eq_true q142
                          go_wp2_with (first | (go_at_call 12; (with_reducible refine (laws_has.calls k1 (rdOf ByteArray.empty l0 x11_1) (⟨#[47]⟩ : ByteArray) false _ A9.out).mono ?_); rintro e w' ⟨rfl, ⟨nd, rfl⟩⟩))
                          go_roundg k1
                          case measure => have := HK1.out; omega
                          case rel => exact ⟨(x3_1 ++ ((⟨#[47]⟩ : ByteArray) ++ (rdOf ByteArray.empty l0 x11_1))), (wrap64 (x11_1 + 1)), (by first | rfl | (simp; done) | (simp [*]; done)), (by first | rfl | (simp; done) | (simp [*]; done)), H', ⟨by have := HK1.out; omega⟩, by repeat (first | exact Drawn0.refl _ | apply Drawn0.step)⟩
                        · rw [if_neg c12] at H
                          exact absurd H (by simp)
                      · rw [if_neg c11] at H
                        exact absurd H (by simp)
            · rw [if_neg c5] at H
              exact absurd H (by simp)
          · rw [if_neg c4] at H
            exact absurd H (by simp)
        · rw [if_neg c3] at H
          have c3b0 : decide (x11_1 < (l0.length : Int)) = false := decide_eq_false c3
          clear c3
          by_cases c13 : (x3_1.size : Int) > 2000
          · rw [if_pos c13] at H
            have c13b0 : decide (2000 < (x3_1.size : Int)) = true := decide_eq_true c13
            have c13b1 : decide (2000 < x3_1.size) = true := decide_eq_true (by omega)
            clear c13
            obtain rfl := Option.some.inj H
            go_wp2
            go_ret
            exact ⟨by first | rfl | (simp; done) | (simp [*]; done), by repeat (first | exact Drawn0.refl _ | apply Drawn0.step)⟩
          · rw [if_neg c13] at H
            have c13b0 : decide (2000 < (x3_1.size : Int)) = false := decide_eq_false c13
            have c13b1 : decide (2000 < x3_1.size) = false := decide_eq_false (by omega)
            clear c13
            obtain rfl := Option.some.inj H
            go_wp2
            go_ret
            exact ⟨by first | rfl | (simp; done) | (simp [*]; done), by repeat (first | exact Drawn0.refl _ | apply Drawn0.step)⟩

/-! ### unit_UnitNamePathEscape: function 13 -/
def unit_UnitNamePathEscape.f (k : Nat) (a0 : ByteArray) : Option (ByteArray) := (unit_escape.f k a0 true).bind fun t144 => (some t144)
theorem unit_UnitNamePathEscape.mono : ∀ a0 k, LeO (unit_UnitNamePathEscape.f k a0) (unit_UnitNamePathEscape.f (k + 1) a0) := by
  intro a0 k
  unfold unit_UnitNamePathEscape.f
  repeat' first
      | (with_reducible exact unit_escape.mono _ _ _)
      | (with_reducible exact LeO.refl _)
      | (with_reducible exact LeO.none _)
      | (with_reducible refine LeO.ite ?_ ?_)
      | (with_reducible refine LeO.bind ?_ (fun _ => ?_))
      | exact unit_escape.mono _ _ _
      | exact LeO.none _
      | refine LeO.ite ?_ ?_
      | refine LeO.bind ?_ (fun _ => ?_)
set_option maxHeartbeats 8000000 in
set_option maxRecDepth 100000 in
theorem unit_UnitNamePathEscape.calls (k : Nat) (a0 : ByteArray) (r : ByteArray) (w : World) (h : unit_UnitNamePathEscape.f k a0 = some r) :
    Calls Try.prog 13 #[.string a0] w fun e w' => e = .returned (.string r) ∧ Below w.heap.size w w' := by
  have HB := Aside0.mk (Below.refl w.heap.size w)
  have H : ((unit_escape.f k a0 true).bind fun t144 => (some t144)) = some r := h
  clear h
  replace H := Option.bind_eq_some_iff.mp H
  obtain ⟨t144, A20, H⟩ := H
  replace H : (some t144) = some r := H
  have A2 := Aside0.mk A20
  clear A20
  obtain rfl := Option.some.inj H
  go_enter Try.func13, Try.ntmps13
  go_wp2_with (first | ((with_reducible refine gate_callee (f := 14) rfl ?_); refine goesL_ (some 4) rfl rfl Try.func14 (by kernel_rfl) rfl #[.string a0, .bool true] rfl (by (try simp only [List.map_toArray, List.map_cons, List.map_nil]); first | done | rfl | (simp only [List.length_drop, List.length_take]; rfl)) ?_; (with_reducible refine (unit_escape.calls k a0 true t144 _ A2.out).mono ?_); rintro e w3 ⟨rfl, hb⟩; refine ⟨_, rfl, ?_⟩; have n0_ := Aside0.mk (below_step (by repeat (first | (with_reducible first | exact HB.out | apply below_alloc | apply pw_below_drewN | apply below_drew1) | exact HB.out)) hb); clear HB; have HB := n0_; clear n0_; (try clear hb); (try clear hb2); (try clear hk); (try clear hi)))
  go_ret
  exact ⟨by first | rfl | (simp [errW_none, errW_some] <;> rfl) | (simp [*, errW_none, errW_some] <;> rfl), by repeat (first | (with_reducible first | exact HB.out | apply below_alloc | apply pw_below_drewN | apply below_drew1) | exact HB.out)⟩

end Go.Proofs.Ytlmmgienbmghmaa.U
