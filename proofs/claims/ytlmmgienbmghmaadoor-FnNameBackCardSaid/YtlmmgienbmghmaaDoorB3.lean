-- written by a program of this session (wip/tools/pp.py)
import Derived.Test.YtlmmgienbmghmaaDoorB0
import Derived.Test.YtlmmgienbmghmaaDoorB1
import Derived.Test.YtlmmgienbmghmaaDoorB2
namespace Go.Proofs.YtlmmgienbmghmaaDoor.B
open Go.RowKit Go.Proofs.YtlmmgienbmghmaaDoorW.PrintWords Go.Proofs.YtlmmgienbmghmaaDoorW.PrintLast Go.Proofs.YtlmmgienbmghmaaDoor.GivIdx Go.Proofs.YtlmmgienbmghmaaDoor.GivPU Go.Proofs.YtlmmgienbmghmaaDoorW.PrintMore
attribute [local go_sem] max2_int min2_int max_two min_two max_three min_three max_four min_four   -- for this text's walks alone
set_option linter.unusedVariables false
set_option linter.unusedSimpArgs false

/-! ### unit_escape: function 31 -/
mutual
def unit_escape.l0 : Nat → ByteArray → Bool → List Int → Bool → Bool → Int → Option (ByteArray)
  | 0, _, _, _, _, _, _ => none
  | k + 1, x0, x1, x5, x6, x7, x8 => if x8 < (x0.size : Int) then (if 0 ≤ x8 then (if x1 = true then (if (bt x0 x8) = 47 then (unit_escape.l0 k x0 x1 x5 true x7 (wrap64 (x8 + 1))) else (if x6 = true then (if x7 = true then (unit_escape.j1 k x0 x1 x5 false x7 x8 (bt x0 x8)) else (if x5.length < 140737488355328 then (unit_escape.j1 k x0 x1 (x5 ++ [45]) false x7 x8 (bt x0 x8)) else (none))) else (unit_escape.j1 k x0 x1 x5 x6 x7 x8 (bt x0 x8)))) else (unit_escape.j1 k x0 x1 x5 x6 x7 x8 (bt x0 x8))) else (none)) else (if x1 = true then (if (x5.length : Int) = 0 then (if x5.length < 140737488355328 then (some (strOfNums (x5 ++ [45]))) else (none)) else (some (strOfNums x5))) else (some (strOfNums x5)))
def unit_escape.j1 : Nat → ByteArray → Bool → List Int → Bool → Bool → Int → Int → Option (ByteArray)
  | 0, _, _, _, _, _, _, _ => none
  | k + 1, x0, x1, x5, x6, x7, x8, x9 => if x9 = 47 then (if x5.length < 140737488355328 then (unit_escape.l0 k x0 x1 (x5 ++ [45]) x6 false (wrap64 (x8 + 1))) else (none)) else (if x7 = true then (if x9 = 46 then ((unit_zzHex.f x9).bind fun t139 => (if x5.length + t139.size < 140737488355328 then (unit_escape.l0 k x0 x1 (x5 ++ bytesOf t139) x6 false (wrap64 (x8 + 1))) else (none))) else ((strings_IndexByte.f (⟨#[58, 95, 46, 97, 98, 99, 100, 101, 102, 103, 104, 105, 106, 107, 108, 109, 110, 111, 112, 113, 114, 115, 116, 117, 118, 119, 120, 121, 122, 65, 66, 67, 68, 69, 70, 71, 72, 73, 74, 75, 76, 77, 78, 79, 80, 81, 82, 83, 84, 85, 86, 87, 88, 89, 90, 48, 49, 50, 51, 52, 53, 54, 55, 56, 57]⟩ : ByteArray) x9).bind fun t143 => (if t143 = (-1) then ((unit_zzHex.f x9).bind fun t144 => (if x5.length + t144.size < 140737488355328 then (unit_escape.l0 k x0 x1 (x5 ++ bytesOf t144) x6 false (wrap64 (x8 + 1))) else (none))) else (if x5.length < 140737488355328 then (unit_escape.l0 k x0 x1 (x5 ++ [x9]) x6 false (wrap64 (x8 + 1))) else (none))))) else ((strings_IndexByte.f (⟨#[58, 95, 46, 97, 98, 99, 100, 101, 102, 103, 104, 105, 106, 107, 108, 109, 110, 111, 112, 113, 114, 115, 116, 117, 118, 119, 120, 121, 122, 65, 66, 67, 68, 69, 70, 71, 72, 73, 74, 75, 76, 77, 78, 79, 80, 81, 82, 83, 84, 85, 86, 87, 88, 89, 90, 48, 49, 50, 51, 52, 53, 54, 55, 56, 57]⟩ : ByteArray) x9).bind fun t151 => (if t151 = (-1) then ((unit_zzHex.f x9).bind fun t152 => (if x5.length + t152.size < 140737488355328 then (unit_escape.l0 k x0 x1 (x5 ++ bytesOf t152) x6 false (wrap64 (x8 + 1))) else (none))) else (if x5.length < 140737488355328 then (unit_escape.l0 k x0 x1 (x5 ++ [x9]) x6 false (wrap64 (x8 + 1))) else (none)))))
end
def unit_escape.f (k : Nat) (a0 : ByteArray) (a1 : Bool) : Option (ByteArray) := unit_escape.l0 k a0 a1 (([] : List Int)) false true 0
theorem unit_escape.mono_l : ∀ k, (∀ y0 y1 y2 y3 y4 y5, LeO (unit_escape.l0 k y0 y1 y2 y3 y4 y5) (unit_escape.l0 (k + 1) y0 y1 y2 y3 y4 y5)) ∧ (∀ y0 y1 y2 y3 y4 y5 y6, LeO (unit_escape.j1 k y0 y1 y2 y3 y4 y5 y6) (unit_escape.j1 (k + 1) y0 y1 y2 y3 y4 y5 y6))
  | 0 => ⟨fun _ _ _ _ _ _ r h => by simp [unit_escape.l0] at h, fun _ _ _ _ _ _ _ r h => by simp [unit_escape.j1] at h⟩
  | k + 1 => by
    obtain ⟨ih0, ih1⟩ := unit_escape.mono_l k
    refine ⟨?_, ?_⟩
    · intro y0 y1 y2 y3 y4 y5
      unfold unit_escape.l0
      repeat' first
      | (with_reducible exact ih0 _ _ _ _ _ _)
      | (with_reducible exact ih1 _ _ _ _ _ _ _)
      | (with_reducible exact LeO.refl _)
      | (with_reducible exact LeO.none _)
      | (with_reducible refine LeO.ite ?_ ?_)
      | (with_reducible refine LeO.bind ?_ (fun _ => ?_))
      | exact ih0 _ _ _ _ _ _
      | exact ih1 _ _ _ _ _ _ _
      | exact LeO.none _
      | refine LeO.ite ?_ ?_
      | refine LeO.bind ?_ (fun _ => ?_)
    · intro y0 y1 y2 y3 y4 y5 y6
      unfold unit_escape.j1
      repeat' first
      | (with_reducible exact ih0 _ _ _ _ _ _)
      | (with_reducible exact ih1 _ _ _ _ _ _ _)
      | (with_reducible exact LeO.refl _)
      | (with_reducible exact LeO.none _)
      | (with_reducible refine LeO.ite ?_ ?_)
      | (with_reducible refine LeO.bind ?_ (fun _ => ?_))
      | exact ih0 _ _ _ _ _ _
      | exact ih1 _ _ _ _ _ _ _
      | exact LeO.none _
      | refine LeO.ite ?_ ?_
      | refine LeO.bind ?_ (fun _ => ?_)
theorem unit_escape.mono : ∀ a0 a1 k, LeO (unit_escape.f k a0 a1) (unit_escape.f (k + 1) a0 a1) := by
  intro a0 a1 k
  obtain ⟨ih0, ih1⟩ := unit_escape.mono_l k
  unfold unit_escape.f
  repeat' first
      | (with_reducible exact ih0 _ _ _ _ _ _)
      | (with_reducible exact ih1 _ _ _ _ _ _ _)
      | (with_reducible exact LeO.refl _)
      | (with_reducible exact LeO.none _)
      | (with_reducible refine LeO.ite ?_ ?_)
      | (with_reducible refine LeO.bind ?_ (fun _ => ?_))
      | exact ih0 _ _ _ _ _ _
      | exact ih1 _ _ _ _ _ _ _
      | exact LeO.none _
      | refine LeO.ite ?_ ?_
      | refine LeO.bind ?_ (fun _ => ?_)
set_option maxHeartbeats 8000000 in
set_option maxRecDepth 100000 in
theorem unit_escape.calls (k : Nat) (a0 : ByteArray) (a1 : Bool) (r : ByteArray) (w : World) (h : unit_escape.f k a0 a1 = some r) :
    Calls Tryd.prog 31 #[.string a0, .bool a1] w fun e w' => e = .returned (.string r) ∧ Below w.heap.size w w' := by
  have HB := Aside0.mk (Below.refl w.heap.size w)
  have H : (unit_escape.l0 k a0 a1 (([] : List Int)) false true 0) = some r := h
  clear h
  obtain ⟨y127, hy127⟩ : ∃ y_ : List Int, y_ = (([] : List Int)) := ⟨_, rfl⟩
  replace H : (unit_escape.l0 k a0 a1 y127 false true 0) = some r := by first | (rw [hy127]; with_reducible exact H) | (have H2_ := (Option.bind_some _ _).symm.trans H; rw [hy127]; with_reducible exact H2_) | (have H2_ := (Option.bind_some _ _).symm.trans H; with_reducible exact H2_) | with_reducible exact H | (rw [hy127]; exact H) | exact H
  have Ny127 := Aside0.mk hy127
  clear hy127
  have H' := Aside0.mk H
  clear H
  go_enter Tryd.func31, Tryd.ntmps31
  go_wp2_with (first | ((with_reducible refine gate_dst (N := 10) rfl ?_); (try (refine gate_guard (by rfl) ?_; dsimp only)); refine Kd.R_lit (Kd.int .u8) _ 5 ?hg (N := 10) ?hd (xs := ([] : List Int)) (inner := []) (ok := fun _ => True) (okp := fun _ => True) ?hr ?hp (fun _ hk => hk) trivial (Below.refl _ _) (Nat.le_refl _) (by simp) ?_; (case hd => rfl); (case hg => rfl); (case hr => first | (go_simp; done) | (go_simp; rfl)); (case hp => exact (Reps.none _ _)); intro v128 w3 ho4 hb hg_ hnew_; clear hg_ hnew_; (first | rw [← Ny127.out] at ho4 | (simp only [Int.reduceToNat] at ho4; rw [← Ny127.out] at ho4)); have n0_ := Aside0.mk (Kd.R_lower ho4 (below_size (by repeat (first | (with_reducible first | exact HB.out | apply below_alloc | apply pw_below_drewN | apply below_drew1) | exact HB.out)))); have n1_ := Aside0.mk (below_step (by repeat (first | (with_reducible first | exact HB.out | apply below_alloc | apply pw_below_drewN | apply below_drew1) | exact HB.out)) hb); clear HB; have HO129 := n0_; have HB := n1_; clear n0_ n1_; clear hb ho4))
  go_loopg [5, 6, 7, 8] k (fun kq v5 v6 v7 v8 w' => ∃ (x5_1 : List Int) (x6_1 : Bool) (x7_1 : Bool) (x8_1 : Int), v6 = .bool x6_1 ∧ v7 = .bool x7_1 ∧ v8 = .int .i64 x8_1 ∧ Aside0 (unit_escape.l0 kq a0 a1 x5_1 x6_1 x7_1 x8_1 = some r) ∧ Aside0 (kq ≤ k) ∧ Aside0 (Kd.R (Kd.int .u8) 5 w' w.heap.size (fun _ => True) v5 x5_1) ∧ Aside0 (Below w.heap.size w w'))
  case atStart => exact ⟨(y127), (false), (true), (0), (by first | rfl | (simp; done) | (simp [*]; done)), (by first | rfl | (simp; done) | (simp [*]; done)), (by first | rfl | (simp; done) | (simp [*]; done)), H', ⟨Nat.le_refl _⟩, ⟨by (with_reducible repeat (first | apply Kd.R_alloc | apply Kd.R_drewN | apply Kd.R_drew)); exact HO129.out⟩, ⟨by repeat (first | (with_reducible first | exact HB.out | apply below_alloc | apply pw_below_drewN | apply below_drew1) | exact HB.out)⟩⟩
  case round =>
    clear H'
    try clear p2
    try clear c3
    obtain ⟨x5_1, x6_1, x7_1, x8_1, rfl, rfl, rfl, HA, HK1, HO_5, HB⟩ := hrel
    cases gk with
    | zero => exact absurd HA.out (by simp [unit_escape.l0])
    | succ k1 =>
      have H := HA.out
      clear HA
      simp only [unit_escape.l0] at H
      by_cases c5 : x8_1 < (a0.size : Int)
      · rw [if_pos c5] at H
        have c5b0 : decide (x8_1 < (a0.size : Int)) = true := decide_eq_true c5
        clear c5
        by_cases c6 : 0 ≤ x8_1
        · rw [if_pos c6] at H
          have c6b0 : decide (0 ≤ x8_1) = true := decide_eq_true c6
          clear c6
          have HC8 := Aside0.mk H
          clear H
          have p7 : 0 ≤ (x8_1 : Int) := of_decide_eq_true (by first | (with_reducible assumption) | assumption)
          have q7 : x8_1 < (a0.size : Int) := of_decide_eq_true (by first | (with_reducible assumption) | assumption)
          have hx7 := bt_at a0 x8_1
          replace p7 := eq_true p7
          replace q7 := eq_true q7
          go_upto_if 20 with (fail)
          go_cut [5, 6] (fun v5 v6 wc => ∃ (kq : Nat) (x5_7 : List Int) (x6_7 : Bool), v6 = .bool x6_7 ∧ Aside0 (unit_escape.j1 kq a0 a1 x5_7 x6_7 x7_1 x8_1 (bt a0 x8_1) = some r) ∧ Aside0 (kq ≤ k1) ∧ Aside0 (Kd.R (Kd.int .u8) 5 wc w.heap.size (fun _ => True) v5 x5_7) ∧ Aside0 (Below w.heap.size w wc))
          case first =>
            have H := HC8.out
            clear HC8
            by_cases c9 : a1 = true
            · subst c9
              have H1 : (if (bt a0 x8_1) = 47 then (unit_escape.l0 k1 a0 true x5_1 true x7_1 (wrap64 (x8_1 + 1))) else (if x6_1 = true then (if x7_1 = true then (unit_escape.j1 k1 a0 true x5_1 false x7_1 x8_1 (bt a0 x8_1)) else (if x5_1.length < 140737488355328 then (unit_escape.j1 k1 a0 true (x5_1 ++ [45]) false x7_1 x8_1 (bt a0 x8_1)) else (none))) else (unit_escape.j1 k1 a0 true x5_1 x6_1 x7_1 x8_1 (bt a0 x8_1)))) = some r := by rw [if_pos rfl] at H; exact H
              clear H
              have H := H1
              clear H1
              by_cases c10 : (bt a0 x8_1) = 47
              · rw [if_pos c10] at H
                have c10b0 : ((bt a0 x8_1) == 47) = true := beq_iff_eq.mpr c10
                have c10b1 : ((bt a0 x8_1) != 47) = false := bne_eq_false_iff_eq.mpr c10
                clear c10
                (first | rw [c10b0] | (simp only [i64_w, i32_w]; rw [c10b0]) | skip)
                have H' := Aside0.mk H
                clear H
                go_wp2
                go_roundg k1
                case measure => have := HK1.out; omega
                case rel => exact ⟨(x5_1), (true), (x7_1), (wrap64 (x8_1 + 1)), (by first | rfl | (simp; done) | (simp [*]; done)), (by first | rfl | (simp; done) | (simp [*]; done)), (by first | rfl | (simp; done) | (simp [*]; done)), H', ⟨by have := HK1.out; omega⟩, ⟨by (with_reducible repeat (first | apply Kd.R_alloc | apply Kd.R_drewN | apply Kd.R_drew)); exact HO_5.out⟩, ⟨by repeat (first | (with_reducible first | exact HB.out | apply below_alloc | apply pw_below_drewN | apply below_drew1) | exact HB.out)⟩⟩
              · rw [if_neg c10] at H
                have c10b0 : ((bt a0 x8_1) == 47) = false := beq_eq_false_iff_ne.mpr c10
                have c10b1 : ((bt a0 x8_1) != 47) = true := bne_iff_ne.mpr c10
                (first | rw [c10b0] | (simp only [i64_w, i32_w]; rw [c10b0]) | skip)
                by_cases c11 : x6_1 = true
                · subst c11
                  have H1 : (if x7_1 = true then (unit_escape.j1 k1 a0 true x5_1 false x7_1 x8_1 (bt a0 x8_1)) else (if x5_1.length < 140737488355328 then (unit_escape.j1 k1 a0 true (x5_1 ++ [45]) false x7_1 x8_1 (bt a0 x8_1)) else (none))) = some r := by rw [if_pos rfl] at H; exact H
                  clear H
                  have H := H1
                  clear H1
                  by_cases c12 : x7_1 = true
                  · subst c12
                    have H1 : (unit_escape.j1 k1 a0 true x5_1 false true x8_1 (bt a0 x8_1)) = some r := by rw [if_pos rfl] at H; exact H
                    clear H
                    have H := H1
                    clear H1
                    have H' := Aside0.mk H
                    clear H
                    go_wp2
                    go_meet
                    case rel => exact ⟨_, (x5_1), (false), (by first | rfl | (simp; done) | (simp [*]; done)), H', ⟨by have := HK1.out; first | omega | exact Nat.le_refl _⟩, ⟨by (with_reducible repeat (first | apply Kd.R_alloc | apply Kd.R_drewN | apply Kd.R_drew)); exact HO_5.out⟩, ⟨by repeat (first | (with_reducible first | exact HB.out | apply below_alloc | apply pw_below_drewN | apply below_drew1) | exact HB.out)⟩⟩
                  · replace c12 := Bool.eq_false_iff.mpr c12
                    subst c12
                    have H1 : (if x5_1.length < 140737488355328 then (unit_escape.j1 k1 a0 true (x5_1 ++ [45]) false false x8_1 (bt a0 x8_1)) else (none)) = some r := by rw [if_neg (show ¬ (false = true) by decide)] at H; exact H
                    clear H
                    have H := H1
                    clear H1
                    by_cases c13 : x5_1.length < 140737488355328
                    · rw [if_pos c13] at H
                      have LMc13 := Aside0.mk c13
                      clear c13
                      obtain ⟨y133, hy133⟩ : ∃ y_ : List Int, y_ = (x5_1 ++ [45]) := ⟨_, rfl⟩
                      replace H : (unit_escape.j1 k1 a0 true y133 false false x8_1 (bt a0 x8_1)) = some r := by first | (rw [hy133]; with_reducible exact H) | (have H2_ := (Option.bind_some _ _).symm.trans H; rw [hy133]; with_reducible exact H2_) | (have H2_ := (Option.bind_some _ _).symm.trans H; with_reducible exact H2_) | with_reducible exact H | (rw [hy133]; exact H) | exact H
                      have Ny133 := Aside0.mk hy133
                      clear hy133
                      have H' := Aside0.mk H
                      clear H
                      go_wp2_with (first | ((with_reducible refine gate_builtin (b := .append) (xs := #[.tmp 26, .tmp 27]) rfl ?_); (try (refine gate_guard (by rfl) ?_; dsimp only)); at_builtin; refine Kd.R_append (Kd.int .u8) (w0 := w) w.heap.size rfl (.tmp 26) (.tmp 27) 26 5 (.int .u8 0) 1 rfl Tryd.underlying26 info5 rfl (by decide) (by omega) u5 x5_1 45 [.int .u8 45] (fun _ => True) (fun _ => False) rfl rfl ?aP (fun _ hk => hk.elim) ?aF ?aO ?aB ?aS ?aL ?_; (case aP => exact rfl); (case aB => exact (by repeat (first | (with_reducible first | exact HB.out | apply below_alloc | apply pw_below_drewN | apply below_drew1) | exact HB.out))); (case aF => exact (fun _ _ => trivial)); (case aO => exact (by (with_reducible repeat (first | apply Kd.R_alloc | apply Kd.R_drewN | apply Kd.R_drew)); exact HO_5.out)); (case aS => exact (below_size (by repeat (first | (with_reducible first | exact HB.out | apply below_alloc | apply pw_below_drewN | apply below_drew1) | exact HB.out)))); (case aL => have := LMc13.out; omega); intro v134 w14 ho hb hg hat; rw [← Ny133.out] at ho; have n0_ := Aside0.mk (hb); have n1_ := Aside0.mk (ho); clear HB; clear HO_5; have HB := n0_; have HO135 := n1_; clear n0_ n1_; clear ho hb hg hat))
                      go_meet
                      case rel => exact ⟨_, (y133), (false), (by first | rfl | (simp; done) | (simp [*]; done)), H', ⟨by have := HK1.out; first | omega | exact Nat.le_refl _⟩, ⟨by (with_reducible repeat (first | apply Kd.R_alloc | apply Kd.R_drewN | apply Kd.R_drew)); exact HO135.out⟩, ⟨by repeat (first | (with_reducible first | exact HB.out | apply below_alloc | apply pw_below_drewN | apply below_drew1) | exact HB.out)⟩⟩
                    · rw [if_neg c13] at H
                      exact absurd H (by simp)
                · replace c11 := Bool.eq_false_iff.mpr c11
                  subst c11
                  have H1 : (unit_escape.j1 k1 a0 true x5_1 false x7_1 x8_1 (bt a0 x8_1)) = some r := by rw [if_neg (show ¬ (false = true) by decide)] at H; exact H
                  clear H
                  have H := H1
                  clear H1
                  have H' := Aside0.mk H
                  clear H
                  go_wp2
                  go_meet
                  case rel => exact ⟨_, (x5_1), (false), (by first | rfl | (simp; done) | (simp [*]; done)), H', ⟨by have := HK1.out; first | omega | exact Nat.le_refl _⟩, ⟨by (with_reducible repeat (first | apply Kd.R_alloc | apply Kd.R_drewN | apply Kd.R_drew)); exact HO_5.out⟩, ⟨by repeat (first | (with_reducible first | exact HB.out | apply below_alloc | apply pw_below_drewN | apply below_drew1) | exact HB.out)⟩⟩
            · replace c9 := Bool.eq_false_iff.mpr c9
              subst c9
              have H1 : (unit_escape.j1 k1 a0 false x5_1 x6_1 x7_1 x8_1 (bt a0 x8_1)) = some r := by rw [if_neg (show ¬ (false = true) by decide)] at H; exact H
              clear H
              have H := H1
              clear H1
              have H' := Aside0.mk H
              clear H
              go_wp2
              go_meet
              case rel => exact ⟨_, (x5_1), (x6_1), (by first | rfl | (simp; done) | (simp [*]; done)), H', ⟨by have := HK1.out; first | omega | exact Nat.le_refl _⟩, ⟨by (with_reducible repeat (first | apply Kd.R_alloc | apply Kd.R_drewN | apply Kd.R_drew)); exact HO_5.out⟩, ⟨by repeat (first | (with_reducible first | exact HB.out | apply below_alloc | apply pw_below_drewN | apply below_drew1) | exact HB.out)⟩⟩
          case rest =>
            clear HC8
            try clear c1
            try clear p2
            try clear c3
            try clear c5
            try clear c5b0
            try clear c6
            try clear c6b0
            try clear p6
            try clear p7
            try clear q7
            try clear hx7
            try clear c9
            try clear c10
            try clear c10b0
            try clear c10b1
            try clear c11
            try clear c12
            try clear c13
            try clear p2
            try clear p7
            try clear q7
            obtain ⟨kq, x5_7, x6_7, rfl, HA, HJ7, HO_5, HB⟩ := hcut
            cases kq with
            | zero => exact absurd HA.out (by simp [unit_escape.j1])
            | succ kj7 =>
              have H := HA.out
              clear HA
              simp only [unit_escape.j1] at H
              by_cases c15 : (bt a0 x8_1) = 47
              · rw [if_pos c15] at H
                have c15b0 : ((bt a0 x8_1) == 47) = true := beq_iff_eq.mpr c15
                have c15b1 : ((bt a0 x8_1) != 47) = false := bne_eq_false_iff_eq.mpr c15
                clear c15
                by_cases c16 : x5_7.length < 140737488355328
                · rw [if_pos c16] at H
                  have LMc16 := Aside0.mk c16
                  clear c16
                  obtain ⟨y136, hy136⟩ : ∃ y_ : List Int, y_ = (x5_7 ++ [45]) := ⟨_, rfl⟩
                  replace H : (unit_escape.l0 kj7 a0 a1 y136 x6_7 false (wrap64 (x8_1 + 1))) = some r := by first | (rw [hy136]; with_reducible exact H) | (have H2_ := (Option.bind_some _ _).symm.trans H; rw [hy136]; with_reducible exact H2_) | (have H2_ := (Option.bind_some _ _).symm.trans H; with_reducible exact H2_) | with_reducible exact H | (rw [hy136]; exact H) | exact H
                  have Ny136 := Aside0.mk hy136
                  clear hy136
                  have H' := Aside0.mk H
                  clear H
                  go_wp2_with (first | ((with_reducible refine gate_builtin (b := .append) (xs := #[.tmp 31, .tmp 32]) rfl ?_); (try (refine gate_guard (by rfl) ?_; dsimp only)); at_builtin; refine Kd.R_append (Kd.int .u8) (w0 := w) w.heap.size rfl (.tmp 31) (.tmp 32) 26 5 (.int .u8 0) 1 rfl Tryd.underlying26 info5 rfl (by decide) (by omega) u5 x5_7 45 [.int .u8 45] (fun _ => True) (fun _ => False) rfl rfl ?aP (fun _ hk => hk.elim) ?aF ?aO ?aB ?aS ?aL ?_; (case aP => exact rfl); (case aB => exact (by repeat (first | (with_reducible first | exact HB.out | apply below_alloc | apply pw_below_drewN | apply below_drew1) | exact HB.out))); (case aF => exact (fun _ _ => trivial)); (case aO => exact (by (with_reducible repeat (first | apply Kd.R_alloc | apply Kd.R_drewN | apply Kd.R_drew)); exact HO_5.out)); (case aS => exact (below_size (by repeat (first | (with_reducible first | exact HB.out | apply below_alloc | apply pw_below_drewN | apply below_drew1) | exact HB.out)))); (case aL => have := LMc16.out; omega); intro v137 w17 ho hb hg hat; rw [← Ny136.out] at ho; have n0_ := Aside0.mk (hb); have n1_ := Aside0.mk (ho); clear HB; clear HO_5; have HB := n0_; have HO138 := n1_; clear n0_ n1_; clear ho hb hg hat))
                  go_roundg kj7
                  case measure => have := HK1.out; have := HJ7.out; omega
                  case rel => exact ⟨(y136), (x6_7), (false), (wrap64 (x8_1 + 1)), (by first | rfl | (simp; done) | (simp [*]; done)), (by first | rfl | (simp; done) | (simp [*]; done)), (by first | rfl | (simp; done) | (simp [*]; done)), H', ⟨by have := HK1.out; have := HJ7.out; omega⟩, ⟨by (with_reducible repeat (first | apply Kd.R_alloc | apply Kd.R_drewN | apply Kd.R_drew)); exact HO138.out⟩, ⟨by repeat (first | (with_reducible first | exact HB.out | apply below_alloc | apply pw_below_drewN | apply below_drew1) | exact HB.out)⟩⟩
                · rw [if_neg c16] at H
                  exact absurd H (by simp)
              · rw [if_neg c15] at H
                have c15b0 : ((bt a0 x8_1) == 47) = false := beq_eq_false_iff_ne.mpr c15
                have c15b1 : ((bt a0 x8_1) != 47) = true := bne_iff_ne.mpr c15
                by_cases c18 : x7_1 = true
                · subst c18
                  have H1 : (if (bt a0 x8_1) = 46 then ((unit_zzHex.f (bt a0 x8_1)).bind fun t139 => (if x5_7.length + t139.size < 140737488355328 then (unit_escape.l0 kj7 a0 a1 (x5_7 ++ bytesOf t139) x6_7 false (wrap64 (x8_1 + 1))) else (none))) else ((strings_IndexByte.f (⟨#[58, 95, 46, 97, 98, 99, 100, 101, 102, 103, 104, 105, 106, 107, 108, 109, 110, 111, 112, 113, 114, 115, 116, 117, 118, 119, 120, 121, 122, 65, 66, 67, 68, 69, 70, 71, 72, 73, 74, 75, 76, 77, 78, 79, 80, 81, 82, 83, 84, 85, 86, 87, 88, 89, 90, 48, 49, 50, 51, 52, 53, 54, 55, 56, 57]⟩ : ByteArray) (bt a0 x8_1)).bind fun t143 => (if t143 = (-1) then ((unit_zzHex.f (bt a0 x8_1)).bind fun t144 => (if x5_7.length + t144.size < 140737488355328 then (unit_escape.l0 kj7 a0 a1 (x5_7 ++ bytesOf t144) x6_7 false (wrap64 (x8_1 + 1))) else (none))) else (if x5_7.length < 140737488355328 then (unit_escape.l0 kj7 a0 a1 (x5_7 ++ [(bt a0 x8_1)]) x6_7 false (wrap64 (x8_1 + 1))) else (none))))) = some r := by rw [if_pos rfl] at H; exact H
                  clear H
                  have H := H1
                  clear H1
                  by_cases c19 : (bt a0 x8_1) = 46
                  · rw [if_pos c19] at H
                    have c19b0 : ((bt a0 x8_1) == 46) = true := beq_iff_eq.mpr c19
                    have c19b1 : ((bt a0 x8_1) != 46) = false := bne_eq_false_iff_eq.mpr c19
                    clear c19
                    replace H := Option.bind_eq_some_iff.mp H
                    obtain ⟨t139, A200, H⟩ := H
                    replace H : (if x5_7.length + t139.size < 140737488355328 then (unit_escape.l0 kj7 a0 a1 (x5_7 ++ bytesOf t139) x6_7 false (wrap64 (x8_1 + 1))) else (none)) = some r := H
                    have A20 := Aside0.mk A200
                    clear A200
                    by_cases c21 : x5_7.length + t139.size < 140737488355328
                    · rw [if_pos c21] at H
                      have LMc21 := Aside0.mk c21
                      clear c21
                      obtain ⟨y140, hy140⟩ : ∃ y_ : List Int, y_ = (x5_7 ++ bytesOf t139) := ⟨_, rfl⟩
                      replace H : (unit_escape.l0 kj7 a0 a1 y140 x6_7 false (wrap64 (x8_1 + 1))) = some r := by first | (rw [hy140]; with_reducible exact H) | (have H2_ := (Option.bind_some _ _).symm.trans H; rw [hy140]; with_reducible exact H2_) | (have H2_ := (Option.bind_some _ _).symm.trans H; with_reducible exact H2_) | with_reducible exact H | (rw [hy140]; exact H) | exact H
                      have Ny140 := Aside0.mk hy140
                      clear hy140
                      have H' := Aside0.mk H
                      clear H
                      go_wp2_with (first | ((with_reducible refine gate_callee (f := 35) rfl ?_); refine goesL_ (some 46) rfl rfl Tryd.func35 (by kernel_rfl) rfl #[.int .u8 (bt a0 x8_1)] rfl (by (try simp only [List.map_toArray, List.map_cons, List.map_nil]); first | done | rfl | (simp only [List.length_drop, List.length_take]; rfl)) ?_; (with_reducible refine (unit_zzHex.calls (bt a0 x8_1) t139 _ A20.out).mono ?_); rintro e w' ⟨rfl, ⟨nd, rfl⟩⟩; refine ⟨_, rfl, ?_⟩) | (at_builtin; refine print_append_str (w0 := w) w.heap.size rfl (.tmp 44) _ 26 9 5 rfl Tryd.underlying26 Tryd.underlying9 info5 u5 x5_7 t139 rfl rfl ?aO ?aB ?aS ?aL ?_; (case aB => exact (by repeat (first | (with_reducible first | exact HB.out | apply below_alloc | apply pw_below_drewN | apply below_drew1) | exact HB.out))); (case aO => exact (Kd.own_of_R (by (with_reducible repeat (first | apply Kd.R_alloc | apply Kd.R_drewN | apply Kd.R_drew)); exact HO_5.out))); (case aS => exact (below_size (by repeat (first | (with_reducible first | exact HB.out | apply below_alloc | apply pw_below_drewN | apply below_drew1) | exact HB.out)))); (case aL => have := LMc21.out; omega); intro v141 w22 ho0 hb hg; have ho := Kd.R_of_own (h1 := fun _ => rfl) (ok := fun _ => True) ho0 (fun _ _ => trivial); clear ho0; have hat := True.intro; rw [← Ny140.out] at ho; change Kd.R (Kd.int .u8) 5 w22 w.heap.size (fun _ => True) v141 y140 at ho; have n0_ := Aside0.mk (hb); have n1_ := Aside0.mk (ho); clear HB; clear HO_5; have HB := n0_; have HO142 := n1_; clear n0_ n1_; clear ho hb hg hat))
                      go_roundg kj7
                      case measure => have := HK1.out; have := HJ7.out; omega
                      case rel => exact ⟨(y140), (x6_7), (false), (wrap64 (x8_1 + 1)), (by first | rfl | (simp; done) | (simp [*]; done)), (by first | rfl | (simp; done) | (simp [*]; done)), (by first | rfl | (simp; done) | (simp [*]; done)), H', ⟨by have := HK1.out; have := HJ7.out; omega⟩, ⟨by (with_reducible repeat (first | apply Kd.R_alloc | apply Kd.R_drewN | apply Kd.R_drew)); exact HO142.out⟩, ⟨by repeat (first | (with_reducible first | exact HB.out | apply below_alloc | apply pw_below_drewN | apply below_drew1) | exact HB.out)⟩⟩
                    · rw [if_neg c21] at H
                      exact absurd H (by simp)
                  · rw [if_neg c19] at H
                    have c19b0 : ((bt a0 x8_1) == 46) = false := beq_eq_false_iff_ne.mpr c19
                    have c19b1 : ((bt a0 x8_1) != 46) = true := bne_iff_ne.mpr c19
                    replace H := Option.bind_eq_some_iff.mp H
                    obtain ⟨t143, A230, H⟩ := H
                    replace H : (if t143 = (-1) then ((unit_zzHex.f (bt a0 x8_1)).bind fun t144 => (if x5_7.length + t144.size < 140737488355328 then (unit_escape.l0 kj7 a0 a1 (x5_7 ++ bytesOf t144) x6_7 false (wrap64 (x8_1 + 1))) else (none))) else (if x5_7.length < 140737488355328 then (unit_escape.l0 kj7 a0 a1 (x5_7 ++ [(bt a0 x8_1)]) x6_7 false (wrap64 (x8_1 + 1))) else (none))) = some r := H
                    have A23 := Aside0.mk A230
                    clear A230
                    by_cases c24 : t143 = (-1)
                    · rw [if_pos c24] at H
                      have c24b0 : (t143 == (-1)) = true := beq_iff_eq.mpr c24
                      have c24b1 : (t143 != (-1)) = false := bne_eq_false_iff_eq.mpr c24
                      clear c24
                      replace H := Option.bind_eq_some_iff.mp H
                      obtain ⟨t144, A250, H⟩ := H
                      replace H : (if x5_7.length + t144.size < 140737488355328 then (unit_escape.l0 kj7 a0 a1 (x5_7 ++ bytesOf t144) x6_7 false (wrap64 (x8_1 + 1))) else (none)) = some r := H
                      have A25 := Aside0.mk A250
                      clear A250
                      by_cases c26 : x5_7.length + t144.size < 140737488355328
                      · rw [if_pos c26] at H
                        have LMc26 := Aside0.mk c26
                        clear c26
                        obtain ⟨y145, hy145⟩ : ∃ y_ : List Int, y_ = (x5_7 ++ bytesOf t144) := ⟨_, rfl⟩
                        replace H : (unit_escape.l0 kj7 a0 a1 y145 x6_7 false (wrap64 (x8_1 + 1))) = some r := by first | (rw [hy145]; with_reducible exact H) | (have H2_ := (Option.bind_some _ _).symm.trans H; rw [hy145]; with_reducible exact H2_) | (have H2_ := (Option.bind_some _ _).symm.trans H; with_reducible exact H2_) | with_reducible exact H | (rw [hy145]; exact H) | exact H
                        have Ny145 := Aside0.mk hy145
                        clear hy145
                        have H' := Aside0.mk H
                        clear H
                        go_wp2_with (first | (go_at_call 34; (with_reducible refine (strings_IndexByte.calls (⟨#[58, 95, 46, 97, 98, 99, 100, 101, 102, 103, 104, 105, 106, 107, 108, 109, 110, 111, 112, 113, 114, 115, 116, 117, 118, 119, 120, 121, 122, 65, 66, 67, 68, 69, 70, 71, 72, 73, 74, 75, 76, 77, 78, 79, 80, 81, 82, 83, 84, 85, 86, 87, 88, 89, 90, 48, 49, 50, 51, 52, 53, 54, 55, 56, 57]⟩ : ByteArray) (bt a0 x8_1) t143 _ A23.out).mono ?_); rintro e w' ⟨rfl, ⟨nd, rfl⟩⟩) | ((with_reducible refine gate_callee (f := 35) rfl ?_); refine goesL_ (some 46) rfl rfl Tryd.func35 (by kernel_rfl) rfl #[.int .u8 (bt a0 x8_1)] rfl (by (try simp only [List.map_toArray, List.map_cons, List.map_nil]); first | done | rfl | (simp only [List.length_drop, List.length_take]; rfl)) ?_; (with_reducible refine (unit_zzHex.calls (bt a0 x8_1) t144 _ A25.out).mono ?_); rintro e w' ⟨rfl, ⟨nd, rfl⟩⟩; refine ⟨_, rfl, ?_⟩) | (at_builtin; refine print_append_str (w0 := w) w.heap.size rfl (.tmp 44) _ 26 9 5 rfl Tryd.underlying26 Tryd.underlying9 info5 u5 x5_7 t144 rfl rfl ?aO ?aB ?aS ?aL ?_; (case aB => exact (by repeat (first | (with_reducible first | exact HB.out | apply below_alloc | apply pw_below_drewN | apply below_drew1) | exact HB.out))); (case aO => exact (Kd.own_of_R (by (with_reducible repeat (first | apply Kd.R_alloc | apply Kd.R_drewN | apply Kd.R_drew)); exact HO_5.out))); (case aS => exact (below_size (by repeat (first | (with_reducible first | exact HB.out | apply below_alloc | apply pw_below_drewN | apply below_drew1) | exact HB.out)))); (case aL => have := LMc26.out; omega); intro v146 w27 ho0 hb hg; have ho := Kd.R_of_own (h1 := fun _ => rfl) (ok := fun _ => True) ho0 (fun _ _ => trivial); clear ho0; have hat := True.intro; rw [← Ny145.out] at ho; change Kd.R (Kd.int .u8) 5 w27 w.heap.size (fun _ => True) v146 y145 at ho; have n0_ := Aside0.mk (hb); have n1_ := Aside0.mk (ho); clear HB; clear HO_5; have HB := n0_; have HO147 := n1_; clear n0_ n1_; clear ho hb hg hat))
                        go_roundg kj7
                        case measure => have := HK1.out; have := HJ7.out; omega
                        case rel => exact ⟨(y145), (x6_7), (false), (wrap64 (x8_1 + 1)), (by first | rfl | (simp; done) | (simp [*]; done)), (by first | rfl | (simp; done) | (simp [*]; done)), (by first | rfl | (simp; done) | (simp [*]; done)), H', ⟨by have := HK1.out; have := HJ7.out; omega⟩, ⟨by (with_reducible repeat (first | apply Kd.R_alloc | apply Kd.R_drewN | apply Kd.R_drew)); exact HO147.out⟩, ⟨by repeat (first | (with_reducible first | exact HB.out | apply below_alloc | apply pw_below_drewN | apply below_drew1) | exact HB.out)⟩⟩
                      · rw [if_neg c26] at H
                        exact absurd H (by simp)
                    · rw [if_neg c24] at H
                      have c24b0 : (t143 == (-1)) = false := beq_eq_false_iff_ne.mpr c24
                      have c24b1 : (t143 != (-1)) = true := bne_iff_ne.mpr c24
                      by_cases c28 : x5_7.length < 140737488355328
                      · rw [if_pos c28] at H
                        have LMc28 := Aside0.mk c28
                        clear c28
                        obtain ⟨y148, hy148⟩ : ∃ y_ : List Int, y_ = (x5_7 ++ [(bt a0 x8_1)]) := ⟨_, rfl⟩
                        replace H : (unit_escape.l0 kj7 a0 a1 y148 x6_7 false (wrap64 (x8_1 + 1))) = some r := by first | (rw [hy148]; with_reducible exact H) | (have H2_ := (Option.bind_some _ _).symm.trans H; rw [hy148]; with_reducible exact H2_) | (have H2_ := (Option.bind_some _ _).symm.trans H; with_reducible exact H2_) | with_reducible exact H | (rw [hy148]; exact H) | exact H
                        have Ny148 := Aside0.mk hy148
                        clear hy148
                        have H' := Aside0.mk H
                        clear H
                        go_wp2_with (first | (go_at_call 34; (with_reducible refine (strings_IndexByte.calls (⟨#[58, 95, 46, 97, 98, 99, 100, 101, 102, 103, 104, 105, 106, 107, 108, 109, 110, 111, 112, 113, 114, 115, 116, 117, 118, 119, 120, 121, 122, 65, 66, 67, 68, 69, 70, 71, 72, 73, 74, 75, 76, 77, 78, 79, 80, 81, 82, 83, 84, 85, 86, 87, 88, 89, 90, 48, 49, 50, 51, 52, 53, 54, 55, 56, 57]⟩ : ByteArray) (bt a0 x8_1) t143 _ A23.out).mono ?_); rintro e w' ⟨rfl, ⟨nd, rfl⟩⟩) | ((with_reducible refine gate_builtin (b := .append) (xs := #[.tmp 48, .tmp 50]) rfl ?_); (try (refine gate_guard (by rfl) ?_; dsimp only)); at_builtin; refine Kd.R_append (Kd.int .u8) (w0 := w) w.heap.size rfl (.tmp 48) (.tmp 50) 26 5 (.int .u8 0) 1 rfl Tryd.underlying26 info5 rfl (by decide) (by omega) u5 x5_7 (bt a0 x8_1) [.int .u8 (bt a0 x8_1)] (fun _ => True) (fun _ => False) rfl rfl ?aP (fun _ hk => hk.elim) ?aF ?aO ?aB ?aS ?aL ?_; (case aP => exact rfl); (case aB => exact (by repeat (first | (with_reducible first | exact HB.out | apply below_alloc | apply pw_below_drewN | apply below_drew1) | exact HB.out))); (case aF => exact (fun _ _ => trivial)); (case aO => exact (by (with_reducible repeat (first | apply Kd.R_alloc | apply Kd.R_drewN | apply Kd.R_drew)); exact HO_5.out)); (case aS => exact (below_size (by repeat (first | (with_reducible first | exact HB.out | apply below_alloc | apply pw_below_drewN | apply below_drew1) | exact HB.out)))); (case aL => have := LMc28.out; omega); intro v149 w29 ho hb hg hat; rw [← Ny148.out] at ho; have n0_ := Aside0.mk (hb); have n1_ := Aside0.mk (ho); clear HB; clear HO_5; have HB := n0_; have HO150 := n1_; clear n0_ n1_; clear ho hb hg hat))
                        go_roundg kj7
                        case measure => have := HK1.out; have := HJ7.out; omega
                        case rel => exact ⟨(y148), (x6_7), (false), (wrap64 (x8_1 + 1)), (by first | rfl | (simp; done) | (simp [*]; done)), (by first | rfl | (simp; done) | (simp [*]; done)), (by first | rfl | (simp; done) | (simp [*]; done)), H', ⟨by have := HK1.out; have := HJ7.out; omega⟩, ⟨by (with_reducible repeat (first | apply Kd.R_alloc | apply Kd.R_drewN | apply Kd.R_drew)); exact HO150.out⟩, ⟨by repeat (first | (with_reducible first | exact HB.out | apply below_alloc | apply pw_below_drewN | apply below_drew1) | exact HB.out)⟩⟩
                      · rw [if_neg c28] at H
                        exact absurd H (by simp)
                · replace c18 := Bool.eq_false_iff.mpr c18
                  subst c18
                  have H1 : ((strings_IndexByte.f (⟨#[58, 95, 46, 97, 98, 99, 100, 101, 102, 103, 104, 105, 106, 107, 108, 109, 110, 111, 112, 113, 114, 115, 116, 117, 118, 119, 120, 121, 122, 65, 66, 67, 68, 69, 70, 71, 72, 73, 74, 75, 76, 77, 78, 79, 80, 81, 82, 83, 84, 85, 86, 87, 88, 89, 90, 48, 49, 50, 51, 52, 53, 54, 55, 56, 57]⟩ : ByteArray) (bt a0 x8_1)).bind fun t151 => (if t151 = (-1) then ((unit_zzHex.f (bt a0 x8_1)).bind fun t152 => (if x5_7.length + t152.size < 140737488355328 then (unit_escape.l0 kj7 a0 a1 (x5_7 ++ bytesOf t152) x6_7 false (wrap64 (x8_1 + 1))) else (none))) else (if x5_7.length < 140737488355328 then (unit_escape.l0 kj7 a0 a1 (x5_7 ++ [(bt a0 x8_1)]) x6_7 false (wrap64 (x8_1 + 1))) else (none)))) = some r := by rw [if_neg (show ¬ (false = true) by decide)] at H; exact H
                  clear H
                  have H := H1
                  clear H1
                  replace H := Option.bind_eq_some_iff.mp H
                  obtain ⟨t151, A300, H⟩ := H
                  replace H : (if t151 = (-1) then ((unit_zzHex.f (bt a0 x8_1)).bind fun t152 => (if x5_7.length + t152.size < 140737488355328 then (unit_escape.l0 kj7 a0 a1 (x5_7 ++ bytesOf t152) x6_7 false (wrap64 (x8_1 + 1))) else (none))) else (if x5_7.length < 140737488355328 then (unit_escape.l0 kj7 a0 a1 (x5_7 ++ [(bt a0 x8_1)]) x6_7 false (wrap64 (x8_1 + 1))) else (none))) = some r := H
                  have A30 := Aside0.mk A300
                  clear A300
                  by_cases c31 : t151 = (-1)
                  · rw [if_pos c31] at H
                    have c31b0 : (t151 == (-1)) = true := beq_iff_eq.mpr c31
                    have c31b1 : (t151 != (-1)) = false := bne_eq_false_iff_eq.mpr c31
                    clear c31
                    replace H := Option.bind_eq_some_iff.mp H
                    obtain ⟨t152, A320, H⟩ := H
                    replace H : (if x5_7.length + t152.size < 140737488355328 then (unit_escape.l0 kj7 a0 a1 (x5_7 ++ bytesOf t152) x6_7 false (wrap64 (x8_1 + 1))) else (none)) = some r := H
                    have A32 := Aside0.mk A320
                    clear A320
                    by_cases c33 : x5_7.length + t152.size < 140737488355328
                    · rw [if_pos c33] at H
                      have LMc33 := Aside0.mk c33
                      clear c33
                      obtain ⟨y153, hy153⟩ : ∃ y_ : List Int, y_ = (x5_7 ++ bytesOf t152) := ⟨_, rfl⟩
                      replace H : (unit_escape.l0 kj7 a0 a1 y153 x6_7 false (wrap64 (x8_1 + 1))) = some r := by first | (rw [hy153]; with_reducible exact H) | (have H2_ := (Option.bind_some _ _).symm.trans H; rw [hy153]; with_reducible exact H2_) | (have H2_ := (Option.bind_some _ _).symm.trans H; with_reducible exact H2_) | with_reducible exact H | (rw [hy153]; exact H) | exact H
                      have Ny153 := Aside0.mk hy153
                      clear hy153
                      have H' := Aside0.mk H
                      clear H
                      go_wp2_with (first | (go_at_call 34; (with_reducible refine (strings_IndexByte.calls (⟨#[58, 95, 46, 97, 98, 99, 100, 101, 102, 103, 104, 105, 106, 107, 108, 109, 110, 111, 112, 113, 114, 115, 116, 117, 118, 119, 120, 121, 122, 65, 66, 67, 68, 69, 70, 71, 72, 73, 74, 75, 76, 77, 78, 79, 80, 81, 82, 83, 84, 85, 86, 87, 88, 89, 90, 48, 49, 50, 51, 52, 53, 54, 55, 56, 57]⟩ : ByteArray) (bt a0 x8_1) t151 _ A30.out).mono ?_); rintro e w' ⟨rfl, ⟨nd, rfl⟩⟩) | ((with_reducible refine gate_callee (f := 35) rfl ?_); refine goesL_ (some 46) rfl rfl Tryd.func35 (by kernel_rfl) rfl #[.int .u8 (bt a0 x8_1)] rfl (by (try simp only [List.map_toArray, List.map_cons, List.map_nil]); first | done | rfl | (simp only [List.length_drop, List.length_take]; rfl)) ?_; (with_reducible refine (unit_zzHex.calls (bt a0 x8_1) t152 _ A32.out).mono ?_); rintro e w' ⟨rfl, ⟨nd, rfl⟩⟩; refine ⟨_, rfl, ?_⟩) | (at_builtin; refine print_append_str (w0 := w) w.heap.size rfl (.tmp 44) _ 26 9 5 rfl Tryd.underlying26 Tryd.underlying9 info5 u5 x5_7 t152 rfl rfl ?aO ?aB ?aS ?aL ?_; (case aB => exact (by repeat (first | (with_reducible first | exact HB.out | apply below_alloc | apply pw_below_drewN | apply below_drew1) | exact HB.out))); (case aO => exact (Kd.own_of_R (by (with_reducible repeat (first | apply Kd.R_alloc | apply Kd.R_drewN | apply Kd.R_drew)); exact HO_5.out))); (case aS => exact (below_size (by repeat (first | (with_reducible first | exact HB.out | apply below_alloc | apply pw_below_drewN | apply below_drew1) | exact HB.out)))); (case aL => have := LMc33.out; omega); intro v154 w34 ho0 hb hg; have ho := Kd.R_of_own (h1 := fun _ => rfl) (ok := fun _ => True) ho0 (fun _ _ => trivial); clear ho0; have hat := True.intro; rw [← Ny153.out] at ho; change Kd.R (Kd.int .u8) 5 w34 w.heap.size (fun _ => True) v154 y153 at ho; have n0_ := Aside0.mk (hb); have n1_ := Aside0.mk (ho); clear HB; clear HO_5; have HB := n0_; have HO155 := n1_; clear n0_ n1_; clear ho hb hg hat))
                      go_roundg kj7
                      case measure => have := HK1.out; have := HJ7.out; omega
                      case rel => exact ⟨(y153), (x6_7), (false), (wrap64 (x8_1 + 1)), (by first | rfl | (simp; done) | (simp [*]; done)), (by first | rfl | (simp; done) | (simp [*]; done)), (by first | rfl | (simp; done) | (simp [*]; done)), H', ⟨by have := HK1.out; have := HJ7.out; omega⟩, ⟨by (with_reducible repeat (first | apply Kd.R_alloc | apply Kd.R_drewN | apply Kd.R_drew)); exact HO155.out⟩, ⟨by repeat (first | (with_reducible first | exact HB.out | apply below_alloc | apply pw_below_drewN | apply below_drew1) | exact HB.out)⟩⟩
                    · rw [if_neg c33] at H
                      exact absurd H (by simp)
                  · rw [if_neg c31] at H
                    have c31b0 : (t151 == (-1)) = false := beq_eq_false_iff_ne.mpr c31
                    have c31b1 : (t151 != (-1)) = true := bne_iff_ne.mpr c31
                    by_cases c35 : x5_7.length < 140737488355328
                    · rw [if_pos c35] at H
                      have LMc35 := Aside0.mk c35
                      clear c35
                      obtain ⟨y156, hy156⟩ : ∃ y_ : List Int, y_ = (x5_7 ++ [(bt a0 x8_1)]) := ⟨_, rfl⟩
                      replace H : (unit_escape.l0 kj7 a0 a1 y156 x6_7 false (wrap64 (x8_1 + 1))) = some r := by first | (rw [hy156]; with_reducible exact H) | (have H2_ := (Option.bind_some _ _).symm.trans H; rw [hy156]; with_reducible exact H2_) | (have H2_ := (Option.bind_some _ _).symm.trans H; with_reducible exact H2_) | with_reducible exact H | (rw [hy156]; exact H) | exact H
                      have Ny156 := Aside0.mk hy156
                      clear hy156
                      have H' := Aside0.mk H
                      clear H
                      go_wp2_with (first | (go_at_call 34; (with_reducible refine (strings_IndexByte.calls (⟨#[58, 95, 46, 97, 98, 99, 100, 101, 102, 103, 104, 105, 106, 107, 108, 109, 110, 111, 112, 113, 114, 115, 116, 117, 118, 119, 120, 121, 122, 65, 66, 67, 68, 69, 70, 71, 72, 73, 74, 75, 76, 77, 78, 79, 80, 81, 82, 83, 84, 85, 86, 87, 88, 89, 90, 48, 49, 50, 51, 52, 53, 54, 55, 56, 57]⟩ : ByteArray) (bt a0 x8_1) t151 _ A30.out).mono ?_); rintro e w' ⟨rfl, ⟨nd, rfl⟩⟩) | ((with_reducible refine gate_builtin (b := .append) (xs := #[.tmp 48, .tmp 50]) rfl ?_); (try (refine gate_guard (by rfl) ?_; dsimp only)); at_builtin; refine Kd.R_append (Kd.int .u8) (w0 := w) w.heap.size rfl (.tmp 48) (.tmp 50) 26 5 (.int .u8 0) 1 rfl Tryd.underlying26 info5 rfl (by decide) (by omega) u5 x5_7 (bt a0 x8_1) [.int .u8 (bt a0 x8_1)] (fun _ => True) (fun _ => False) rfl rfl ?aP (fun _ hk => hk.elim) ?aF ?aO ?aB ?aS ?aL ?_; (case aP => exact rfl); (case aB => exact (by repeat (first | (with_reducible first | exact HB.out | apply below_alloc | apply pw_below_drewN | apply below_drew1) | exact HB.out))); (case aF => exact (fun _ _ => trivial)); (case aO => exact (by (with_reducible repeat (first | apply Kd.R_alloc | apply Kd.R_drewN | apply Kd.R_drew)); exact HO_5.out)); (case aS => exact (below_size (by repeat (first | (with_reducible first | exact HB.out | apply below_alloc | apply pw_below_drewN | apply below_drew1) | exact HB.out)))); (case aL => have := LMc35.out; omega); intro v157 w36 ho hb hg hat; rw [← Ny156.out] at ho; have n0_ := Aside0.mk (hb); have n1_ := Aside0.mk (ho); clear HB; clear HO_5; have HB := n0_; have HO158 := n1_; clear n0_ n1_; clear ho hb hg hat))
                      go_roundg kj7
                      case measure => have := HK1.out; have := HJ7.out; omega
                      case rel => exact ⟨(y156), (x6_7), (false), (wrap64 (x8_1 + 1)), (by first | rfl | (simp; done) | (simp [*]; done)), (by first | rfl | (simp; done) | (simp [*]; done)), (by first | rfl | (simp; done) | (simp [*]; done)), H', ⟨by have := HK1.out; have := HJ7.out; omega⟩, ⟨by (with_reducible repeat (first | apply Kd.R_alloc | apply Kd.R_drewN | apply Kd.R_drew)); exact HO158.out⟩, ⟨by repeat (first | (with_reducible first | exact HB.out | apply below_alloc | apply pw_below_drewN | apply below_drew1) | exact HB.out)⟩⟩
                    · rw [if_neg c35] at H
                      exact absurd H (by simp)
        · rw [if_neg c6] at H
          exact absurd H (by simp)
      · rw [if_neg c5] at H
        have c5b0 : decide (x8_1 < (a0.size : Int)) = false := decide_eq_false c5
        clear c5
        by_cases c37 : a1 = true
        · subst c37
          have H1 : (if (x5_1.length : Int) = 0 then (if x5_1.length < 140737488355328 then (some (strOfNums (x5_1 ++ [45]))) else (none)) else (some (strOfNums x5_1))) = some r := by rw [if_pos rfl] at H; exact H
          clear H
          have H := H1
          clear H1
          by_cases c38 : (x5_1.length : Int) = 0
          · rw [if_pos c38] at H
            have c38b0 : ((x5_1.length : Int) == 0) = true := beq_iff_eq.mpr c38
            have c38b1 : ((x5_1.length : Int) != 0) = false := bne_eq_false_iff_eq.mpr c38
            clear c38
            by_cases c39 : x5_1.length < 140737488355328
            · rw [if_pos c39] at H
              have LMc39 := Aside0.mk c39
              clear c39
              obtain ⟨y130, hy130⟩ : ∃ y_ : List Int, y_ = (x5_1 ++ [45]) := ⟨_, rfl⟩
              replace H : (some (strOfNums y130)) = some r := by first | (rw [hy130]; with_reducible exact H) | (have H2_ := (Option.bind_some _ _).symm.trans H; rw [hy130]; with_reducible exact H2_) | (have H2_ := (Option.bind_some _ _).symm.trans H; with_reducible exact H2_) | with_reducible exact H | (rw [hy130]; exact H) | exact H
              have Ny130 := Aside0.mk hy130
              clear hy130
              obtain rfl := Option.some.inj H
              obtain ⟨Ao40, co40, eo40⟩ := Kd.R_slice HO_5.out
              subst eo40
              go_wp2_with (first | ((with_reducible refine gate_builtin (b := .append) (xs := #[.tmp 58, .tmp 59]) rfl ?_); (try (refine gate_guard (by rfl) ?_; dsimp only)); at_builtin; refine Kd.R_append (Kd.int .u8) (w0 := w) w.heap.size rfl (.tmp 58) (.tmp 59) 26 5 (.int .u8 0) 1 rfl Tryd.underlying26 info5 rfl (by decide) (by omega) (.slice Ao40 x5_1.length co40) x5_1 45 [.int .u8 45] (fun _ => True) (fun _ => False) rfl rfl ?aP (fun _ hk => hk.elim) ?aF ?aO ?aB ?aS ?aL ?_; (case aP => exact rfl); (case aB => exact (by repeat (first | (with_reducible first | exact HB.out | apply below_alloc | apply pw_below_drewN | apply below_drew1) | exact HB.out))); (case aF => exact (fun _ _ => trivial)); (case aO => exact (by (with_reducible repeat (first | apply Kd.R_alloc | apply Kd.R_drewN | apply Kd.R_drew)); exact HO_5.out)); (case aS => exact (below_size (by repeat (first | (with_reducible first | exact HB.out | apply below_alloc | apply pw_below_drewN | apply below_drew1) | exact HB.out)))); (case aL => have := LMc39.out; omega); intro v131 w41 ho hb hg hat; rw [← Ny130.out] at ho; have n0_ := Aside0.mk (hb); have n1_ := Aside0.mk (ho); clear HB; clear HO_5; have HB := n0_; have HO132 := n1_; clear n0_ n1_; clear ho hb hg hat; have hcv42 := own_string (P := Tryd.prog) Tryd.underlying26 Tryd.underlying5 Tryd.underlying9 (Kd.own_of_R HO132.out)))
              go_ret
              exact ⟨by first | rfl | (simp [errW_none, errW_some] <;> rfl) | (simp [*, errW_none, errW_some] <;> rfl), by repeat (first | (with_reducible first | exact HB.out | apply below_alloc | apply pw_below_drewN | apply below_drew1) | exact HB.out)⟩
            · rw [if_neg c39] at H
              exact absurd H (by simp)
          · rw [if_neg c38] at H
            have c38b0 : ((x5_1.length : Int) == 0) = false := beq_eq_false_iff_ne.mpr c38
            have c38b1 : ((x5_1.length : Int) != 0) = true := bne_iff_ne.mpr c38
            have c38b2 : ¬ (x5_1 = []) := fun h_ => c38 (by rw [h_]; rfl)
            obtain rfl := Option.some.inj H
            obtain ⟨Ao43, co43, eo43⟩ := Kd.R_slice HO_5.out
            subst eo43
            have hcv44 := own_string (P := Tryd.prog) Tryd.underlying26 Tryd.underlying5 Tryd.underlying9 (Kd.own_of_R HO_5.out)
            go_wp2
            go_ret
            exact ⟨by first | rfl | (simp [errW_none, errW_some] <;> rfl) | (simp [*, errW_none, errW_some] <;> rfl), by repeat (first | (with_reducible first | exact HB.out | apply below_alloc | apply pw_below_drewN | apply below_drew1) | exact HB.out)⟩
        · replace c37 := Bool.eq_false_iff.mpr c37
          subst c37
          have H1 : (some (strOfNums x5_1)) = some r := by rw [if_neg (show ¬ (false = true) by decide)] at H; exact H
          clear H
          have H := H1
          clear H1
          obtain rfl := Option.some.inj H
          have hcv45 := own_string (P := Tryd.prog) Tryd.underlying26 Tryd.underlying5 Tryd.underlying9 (Kd.own_of_R HO_5.out)
          go_wp2
          go_ret
          exact ⟨by first | rfl | (simp [errW_none, errW_some] <;> rfl) | (simp [*, errW_none, errW_some] <;> rfl), by repeat (first | (with_reducible first | exact HB.out | apply below_alloc | apply pw_below_drewN | apply below_drew1) | exact HB.out)⟩

/-! ### unit_UnitNameEscape: function 19 -/
def unit_UnitNameEscape.f (k : Nat) (a0 : ByteArray) : Option (ByteArray) := (unit_escape.f k a0 false).bind fun t159 => (some t159)
theorem unit_UnitNameEscape.mono : ∀ a0 k, LeO (unit_UnitNameEscape.f k a0) (unit_UnitNameEscape.f (k + 1) a0) := by
  intro a0 k
  unfold unit_UnitNameEscape.f
  repeat' first
      | (with_reducible exact unit_escape.mono _ _ _)
      | (with_reducible exact LeO.refl _)
      | (with_reducible exact LeO.none _)
      | (with_reducible refine LeO.ite ?_ ?_)
      | (with_reducible refine LeO.bind ?_ (fun _ => ?_))
      | exact unit_escape.mono _ _ _
      | exact LeO.none _
      | refine LeO.ite ?_ ?_
      | refine LeO.bind ?_ (fun _ => ?_)
set_option maxHeartbeats 8000000 in
set_option maxRecDepth 100000 in
theorem unit_UnitNameEscape.calls (k : Nat) (a0 : ByteArray) (r : ByteArray) (w : World) (h : unit_UnitNameEscape.f k a0 = some r) :
    Calls Tryd.prog 19 #[.string a0] w fun e w' => e = .returned (.string r) ∧ Below w.heap.size w w' := by
  have HB := Aside0.mk (Below.refl w.heap.size w)
  have H : ((unit_escape.f k a0 false).bind fun t159 => (some t159)) = some r := h
  clear h
  replace H := Option.bind_eq_some_iff.mp H
  obtain ⟨t159, A20, H⟩ := H
  replace H : (some t159) = some r := H
  have A2 := Aside0.mk A20
  clear A20
  obtain rfl := Option.some.inj H
  go_enter Tryd.func19, Tryd.ntmps19
  go_wp2_with (first | ((with_reducible refine gate_callee (f := 31) rfl ?_); refine goesL_ (some 4) rfl rfl Tryd.func31 (by kernel_rfl) rfl #[.string a0, .bool false] rfl (by (try simp only [List.map_toArray, List.map_cons, List.map_nil]); first | done | rfl | (simp only [List.length_drop, List.length_take]; rfl)) ?_; (with_reducible refine (unit_escape.calls k a0 false t159 _ A2.out).mono ?_); rintro e w3 ⟨rfl, hb⟩; refine ⟨_, rfl, ?_⟩; have n0_ := Aside0.mk (below_step (by repeat (first | (with_reducible first | exact HB.out | apply below_alloc | apply pw_below_drewN | apply below_drew1) | exact HB.out)) hb); clear HB; have HB := n0_; clear n0_; (try clear hb); (try clear hb2); (try clear hk); (try clear hi)))
  go_ret
  exact ⟨by first | rfl | (simp [errW_none, errW_some] <;> rfl) | (simp [*, errW_none, errW_some] <;> rfl), by repeat (first | (with_reducible first | exact HB.out | apply below_alloc | apply pw_below_drewN | apply below_drew1) | exact HB.out)⟩

/-! ### impl_NameEscape: function 9 -/
def impl_NameEscape.f (k : Nat) (a0 : ByteArray) : Option (ByteArray) := (unit_UnitNameEscape.f k a0).bind fun t160 => (some t160)
theorem impl_NameEscape.mono : ∀ a0 k, LeO (impl_NameEscape.f k a0) (impl_NameEscape.f (k + 1) a0) := by
  intro a0 k
  unfold impl_NameEscape.f
  repeat' first
      | (with_reducible exact unit_UnitNameEscape.mono _ _)
      | (with_reducible exact LeO.refl _)
      | (with_reducible exact LeO.none _)
      | (with_reducible refine LeO.ite ?_ ?_)
      | (with_reducible refine LeO.bind ?_ (fun _ => ?_))
      | exact unit_UnitNameEscape.mono _ _
      | exact LeO.none _
      | refine LeO.ite ?_ ?_
      | refine LeO.bind ?_ (fun _ => ?_)
set_option maxHeartbeats 8000000 in
set_option maxRecDepth 100000 in
theorem impl_NameEscape.calls (k : Nat) (a0 : ByteArray) (r : ByteArray) (w : World) (h : impl_NameEscape.f k a0 = some r) :
    Calls Tryd.prog 9 #[.string a0] w fun e w' => e = .returned (.string r) ∧ Below w.heap.size w w' := by
  have HB := Aside0.mk (Below.refl w.heap.size w)
  have H : ((unit_UnitNameEscape.f k a0).bind fun t160 => (some t160)) = some r := h
  clear h
  replace H := Option.bind_eq_some_iff.mp H
  obtain ⟨t160, A20, H⟩ := H
  replace H : (some t160) = some r := H
  have A2 := Aside0.mk A20
  clear A20
  obtain rfl := Option.some.inj H
  go_enter Tryd.func9, Tryd.ntmps9
  go_wp2_with (first | ((with_reducible refine gate_callee (f := 19) rfl ?_); refine goesL_ (some 4) rfl rfl Tryd.func19 (by kernel_rfl) rfl #[.string a0] rfl (by (try simp only [List.map_toArray, List.map_cons, List.map_nil]); first | done | rfl | (simp only [List.length_drop, List.length_take]; rfl)) ?_; (with_reducible refine (unit_UnitNameEscape.calls k a0 t160 _ A2.out).mono ?_); rintro e w3 ⟨rfl, hb⟩; refine ⟨_, rfl, ?_⟩; have n0_ := Aside0.mk (below_step (by repeat (first | (with_reducible first | exact HB.out | apply below_alloc | apply pw_below_drewN | apply below_drew1) | exact HB.out)) hb); clear HB; have HB := n0_; clear n0_; (try clear hb); (try clear hb2); (try clear hk); (try clear hi)))
  go_ret
  exact ⟨by first | rfl | (simp [errW_none, errW_some] <;> rfl) | (simp [*, errW_none, errW_some] <;> rfl), by repeat (first | (with_reducible first | exact HB.out | apply below_alloc | apply pw_below_drewN | apply below_drew1) | exact HB.out)⟩

/-! ### laws_escapes: function 10 -/
def laws_escapes.f (k : Nat)  : Option (Bool) := (impl_NameEscape.f k (⟨#[97, 32, 98]⟩ : ByteArray)).bind fun t161 => (some (t161.toList == ([97, 92, 120, 50, 48, 98] : List UInt8)))
theorem laws_escapes.mono : ∀ k, LeO (laws_escapes.f k ) (laws_escapes.f (k + 1) ) := by
  intro  k
  unfold laws_escapes.f
  repeat' first
      | (with_reducible exact impl_NameEscape.mono _ _)
      | (with_reducible exact LeO.refl _)
      | (with_reducible exact LeO.none _)
      | (with_reducible refine LeO.ite ?_ ?_)
      | (with_reducible refine LeO.bind ?_ (fun _ => ?_))
      | exact impl_NameEscape.mono _ _
      | exact LeO.none _
      | refine LeO.ite ?_ ?_
      | refine LeO.bind ?_ (fun _ => ?_)
set_option maxHeartbeats 8000000 in
set_option maxRecDepth 100000 in
theorem laws_escapes.calls (k : Nat)  (r : Bool) (w : World) (h : laws_escapes.f k  = some r) :
    Calls Tryd.prog 10 #[] w fun e w' => e = .returned (.bool r) ∧ Below w.heap.size w w' := by
  have HB := Aside0.mk (Below.refl w.heap.size w)
  have H : ((impl_NameEscape.f k (⟨#[97, 32, 98]⟩ : ByteArray)).bind fun t161 => (some (t161.toList == ([97, 92, 120, 50, 48, 98] : List UInt8)))) = some r := h
  clear h
  replace H := Option.bind_eq_some_iff.mp H
  obtain ⟨t161, A10, H⟩ := H
  replace H : (some (t161.toList == ([97, 92, 120, 50, 48, 98] : List UInt8))) = some r := H
  have A1 := Aside0.mk A10
  clear A10
  obtain rfl := Option.some.inj H
  go_enter Tryd.func10, Tryd.ntmps10
  go_wp2_with (first | ((with_reducible refine gate_callee (f := 9) rfl ?_); refine goesL_ (some 1) rfl rfl Tryd.func9 (by kernel_rfl) rfl #[.string (⟨#[97, 32, 98]⟩ : ByteArray)] rfl (by (try simp only [List.map_toArray, List.map_cons, List.map_nil]); first | done | rfl | (simp only [List.length_drop, List.length_take]; rfl)) ?_; (with_reducible refine (impl_NameEscape.calls k (⟨#[97, 32, 98]⟩ : ByteArray) t161 _ A1.out).mono ?_); rintro e w2 ⟨rfl, hb⟩; refine ⟨_, rfl, ?_⟩; have n0_ := Aside0.mk (below_step (by repeat (first | (with_reducible first | exact HB.out | apply below_alloc | apply pw_below_drewN | apply below_drew1) | exact HB.out)) hb); clear HB; have HB := n0_; clear n0_; (try clear hb); (try clear hb2); (try clear hk); (try clear hi)))
  go_ret
  exact ⟨by first | rfl | (simp [errW_none, errW_some] <;> rfl) | (simp [*, errW_none, errW_some] <;> rfl), by repeat (first | (with_reducible first | exact HB.out | apply below_alloc | apply pw_below_drewN | apply below_drew1) | exact HB.out)⟩

/-! ### laws_FnNameBack: function 3 -/
def laws_FnNameBack.f (k : Nat) (a0 : ByteArray) : Option (Bool) := if (a0.size : Int) > 2147483647 then (some true) else (if (a0.size : Int) > 4000 then (some true) else ((laws_twoDigits.f k a0).bind fun t162 => (if t162 = true then ((impl_NameEscape.f k a0).bind fun t163 => ((impl_NameUnescape.f k t163).bind fun t164 => (if t164.toList = a0.toList then ((laws_escapes.f k).bind fun t165 => (some t165)) else (some false)))) else (some true))))
theorem laws_FnNameBack.mono : ∀ a0 k, LeO (laws_FnNameBack.f k a0) (laws_FnNameBack.f (k + 1) a0) := by
  intro a0 k
  unfold laws_FnNameBack.f
  repeat' first
      | (with_reducible exact impl_NameEscape.mono _ _)
      | (with_reducible exact impl_NameUnescape.mono _ _)
      | (with_reducible exact laws_escapes.mono _)
      | (with_reducible exact laws_twoDigits.mono _ _)
      | (with_reducible exact LeO.refl _)
      | (with_reducible exact LeO.none _)
      | (with_reducible refine LeO.ite ?_ ?_)
      | (with_reducible refine LeO.bind ?_ (fun _ => ?_))
      | exact impl_NameEscape.mono _ _
      | exact impl_NameUnescape.mono _ _
      | exact laws_escapes.mono _
      | exact laws_twoDigits.mono _ _
      | exact LeO.none _
      | refine LeO.ite ?_ ?_
      | refine LeO.bind ?_ (fun _ => ?_)
set_option maxHeartbeats 8000000 in
set_option maxRecDepth 100000 in
theorem laws_FnNameBack.calls (k : Nat) (a0 : ByteArray) (r : Bool) (w : World) (h : laws_FnNameBack.f k a0 = some r) :
    Calls Tryd.prog 3 #[.string a0] w fun e w' => e = .returned (.bool r) ∧ Below w.heap.size w w' := by
  have HB := Aside0.mk (Below.refl w.heap.size w)
  have H : (if (a0.size : Int) > 2147483647 then (some true) else (if (a0.size : Int) > 4000 then (some true) else ((laws_twoDigits.f k a0).bind fun t162 => (if t162 = true then ((impl_NameEscape.f k a0).bind fun t163 => ((impl_NameUnescape.f k t163).bind fun t164 => (if t164.toList = a0.toList then ((laws_escapes.f k).bind fun t165 => (some t165)) else (some false)))) else (some true))))) = some r := h
  clear h
  by_cases c2 : (a0.size : Int) > 2147483647
  · rw [if_pos c2] at H
    have c2b0 : decide (2147483647 < (a0.size : Int)) = true := decide_eq_true c2
    have c2b1 : decide (2147483647 < a0.size) = true := decide_eq_true (by omega)
    clear c2
    obtain rfl := Option.some.inj H
    go_enter Tryd.func3, Tryd.ntmps3
    go_wp2
    go_ret
    exact ⟨by first | rfl | (simp [errW_none, errW_some] <;> rfl) | (simp [*, errW_none, errW_some] <;> rfl), by repeat (first | (with_reducible first | exact HB.out | apply below_alloc | apply pw_below_drewN | apply below_drew1) | exact HB.out)⟩
  · rw [if_neg c2] at H
    have c2b0 : decide (2147483647 < (a0.size : Int)) = false := decide_eq_false c2
    have c2b1 : decide (2147483647 < a0.size) = false := decide_eq_false (by omega)
    clear c2
    by_cases c3 : (a0.size : Int) > 4000
    · rw [if_pos c3] at H
      have c3b0 : decide (4000 < (a0.size : Int)) = true := decide_eq_true c3
      have c3b1 : decide (4000 < a0.size) = true := decide_eq_true (by omega)
      clear c3
      obtain rfl := Option.some.inj H
      go_enter Tryd.func3, Tryd.ntmps3
      go_wp2
      go_ret
      exact ⟨by first | rfl | (simp [errW_none, errW_some] <;> rfl) | (simp [*, errW_none, errW_some] <;> rfl), by repeat (first | (with_reducible first | exact HB.out | apply below_alloc | apply pw_below_drewN | apply below_drew1) | exact HB.out)⟩
    · rw [if_neg c3] at H
      have c3b0 : decide (4000 < (a0.size : Int)) = false := decide_eq_false c3
      have c3b1 : decide (4000 < a0.size) = false := decide_eq_false (by omega)
      clear c3
      replace H := Option.bind_eq_some_iff.mp H
      obtain ⟨t162, A40, H⟩ := H
      replace H : (if t162 = true then ((impl_NameEscape.f k a0).bind fun t163 => ((impl_NameUnescape.f k t163).bind fun t164 => (if t164.toList = a0.toList then ((laws_escapes.f k).bind fun t165 => (some t165)) else (some false)))) else (some true)) = some r := H
      have A4 := Aside0.mk A40
      clear A40
      by_cases c5 : t162 = true
      · subst c5
        have H1 : ((impl_NameEscape.f k a0).bind fun t163 => ((impl_NameUnescape.f k t163).bind fun t164 => (if t164.toList = a0.toList then ((laws_escapes.f k).bind fun t165 => (some t165)) else (some false)))) = some r := by rw [if_pos rfl] at H; exact H
        clear H
        have H := H1
        clear H1
        replace H := Option.bind_eq_some_iff.mp H
        obtain ⟨t163, A60, H⟩ := H
        replace H : ((impl_NameUnescape.f k t163).bind fun t164 => (if t164.toList = a0.toList then ((laws_escapes.f k).bind fun t165 => (some t165)) else (some false))) = some r := H
        have A6 := Aside0.mk A60
        clear A60
        replace H := Option.bind_eq_some_iff.mp H
        obtain ⟨t164, A70, H⟩ := H
        replace H : (if t164.toList = a0.toList then ((laws_escapes.f k).bind fun t165 => (some t165)) else (some false)) = some r := H
        have A7 := Aside0.mk A70
        clear A70
        by_cases c8 : t164.toList = a0.toList
        · rw [if_pos c8] at H
          have c8b0 : (t164.toList == a0.toList) = true := beq_iff_eq.mpr c8
          have c8b1 : (t164.toList != a0.toList) = false := bne_eq_false_iff_eq.mpr c8
          clear c8
          replace H := Option.bind_eq_some_iff.mp H
          obtain ⟨t165, A90, H⟩ := H
          replace H : (some t165) = some r := H
          have A9 := Aside0.mk A90
          clear A90
          obtain rfl := Option.some.inj H
          go_enter Tryd.func3, Tryd.ntmps3
          go_wp2_with (first | (go_at_call 7; (with_reducible refine (laws_twoDigits.calls k a0 true _ A4.out).mono ?_); rintro e w' ⟨rfl, ⟨nd, rfl⟩⟩) | (go_at_call 9; (with_reducible refine (impl_NameEscape.calls k a0 t163 _ A6.out).mono ?_); rintro e w10 ⟨rfl, hb⟩; have n0_ := Aside0.mk (below_step (by repeat (first | (with_reducible first | exact HB.out | apply below_alloc | apply pw_below_drewN | apply below_drew1) | exact HB.out)) hb); clear HB; have HB := n0_; clear n0_; (try clear hb); (try clear hb2); (try clear hk); (try clear hi)) | (go_at_call 8; (with_reducible refine (impl_NameUnescape.calls k t163 t164 _ A7.out).mono ?_); rintro e w11 ⟨rfl, hb⟩; have n0_ := Aside0.mk (below_step (by repeat (first | (with_reducible first | exact HB.out | apply below_alloc | apply pw_below_drewN | apply below_drew1) | exact HB.out)) hb); clear HB; have HB := n0_; clear n0_; (try clear hb); (try clear hb2); (try clear hk); (try clear hi)) | (go_at_call 10; (with_reducible refine (laws_escapes.calls k  t165 _ A9.out).mono ?_); rintro e w12 ⟨rfl, hb⟩; have n0_ := Aside0.mk (below_step (by repeat (first | (with_reducible first | exact HB.out | apply below_alloc | apply pw_below_drewN | apply below_drew1) | exact HB.out)) hb); clear HB; have HB := n0_; clear n0_; (try clear hb); (try clear hb2); (try clear hk); (try clear hi)))
          go_ret
          exact ⟨by first | rfl | (simp [errW_none, errW_some] <;> rfl) | (simp [*, errW_none, errW_some] <;> rfl), by repeat (first | (with_reducible first | exact HB.out | apply below_alloc | apply pw_below_drewN | apply below_drew1) | exact HB.out)⟩
        · rw [if_neg c8] at H
          have c8b0 : (t164.toList == a0.toList) = false := beq_eq_false_iff_ne.mpr c8
          have c8b1 : (t164.toList != a0.toList) = true := bne_iff_ne.mpr c8
          obtain rfl := Option.some.inj H
          go_enter Tryd.func3, Tryd.ntmps3
          go_wp2_with (first | (go_at_call 7; (with_reducible refine (laws_twoDigits.calls k a0 true _ A4.out).mono ?_); rintro e w' ⟨rfl, ⟨nd, rfl⟩⟩) | (go_at_call 9; (with_reducible refine (impl_NameEscape.calls k a0 t163 _ A6.out).mono ?_); rintro e w13 ⟨rfl, hb⟩; have n0_ := Aside0.mk (below_step (by repeat (first | (with_reducible first | exact HB.out | apply below_alloc | apply pw_below_drewN | apply below_drew1) | exact HB.out)) hb); clear HB; have HB := n0_; clear n0_; (try clear hb); (try clear hb2); (try clear hk); (try clear hi)) | (go_at_call 8; (with_reducible refine (impl_NameUnescape.calls k t163 t164 _ A7.out).mono ?_); rintro e w14 ⟨rfl, hb⟩; have n0_ := Aside0.mk (below_step (by repeat (first | (with_reducible first | exact HB.out | apply below_alloc | apply pw_below_drewN | apply below_drew1) | exact HB.out)) hb); clear HB; have HB := n0_; clear n0_; (try clear hb); (try clear hb2); (try clear hk); (try clear hi)))
          go_ret
          exact ⟨by first | rfl | (simp [errW_none, errW_some] <;> rfl) | (simp [*, errW_none, errW_some] <;> rfl), by repeat (first | (with_reducible first | exact HB.out | apply below_alloc | apply pw_below_drewN | apply below_drew1) | exact HB.out)⟩
      · replace c5 := Bool.eq_false_iff.mpr c5
        subst c5
        have H1 : (some true) = some r := by rw [if_neg (show ¬ (false = true) by decide)] at H; exact H
        clear H
        have H := H1
        clear H1
        obtain rfl := Option.some.inj H
        go_enter Tryd.func3, Tryd.ntmps3
        go_wp2_with (first | (go_at_call 7; (with_reducible refine (laws_twoDigits.calls k a0 false _ A4.out).mono ?_); rintro e w' ⟨rfl, ⟨nd, rfl⟩⟩))
        go_ret
        exact ⟨by first | rfl | (simp [errW_none, errW_some] <;> rfl) | (simp [*, errW_none, errW_some] <;> rfl), by repeat (first | (with_reducible first | exact HB.out | apply below_alloc | apply pw_below_drewN | apply below_drew1) | exact HB.out)⟩

/-- THE ONE PURE STATEMENT of laws_FnNameBack: yours. -/
def laws_FnNameBack.Pure : Prop := ∀ (a0 : ByteArray), a0.size ≤ 140737488351232 → ∃ k, laws_FnNameBack.f k a0 = some true
theorem laws_FnNameBack.walk (P : laws_FnNameBack.Pure) (a0 : ByteArray) (w : World) (w0 : a0.size ≤ 140737488351232) :
    Calls Tryd.prog 3 #[.string a0] w fun e w' => e = .returned (.bool true) ∧ Below w.heap.size w w' := by
  obtain ⟨k, h⟩ := P a0 w0
  refine (laws_FnNameBack.calls k a0 true w h).mono ?_
  rintro e w' ⟨rfl, hd⟩
  exact ⟨rfl, hd⟩

end Go.Proofs.YtlmmgienbmghmaaDoor.B
