-- written by a program of this session (wip/tools/pp.py)
import Derived.Test.YtlmmgienbmghmaaDoorB0
import Derived.Test.YtlmmgienbmghmaaDoorB1
namespace Go.Proofs.YtlmmgienbmghmaaDoor.B
open Go.RowKit Go.Proofs.YtlmmgienbmghmaaDoorW.PrintWords Go.Proofs.YtlmmgienbmghmaaDoorW.PrintLast Go.Proofs.YtlmmgienbmghmaaDoor.GivIdx Go.Proofs.YtlmmgienbmghmaaDoor.GivPU Go.Proofs.YtlmmgienbmghmaaDoorW.PrintMore
attribute [local go_sem] max2_int min2_int max_two min_two max_three min_three max_four min_four   -- for this text's walks alone
set_option linter.unusedVariables false
set_option linter.unusedSimpArgs false

/-! ### unit_unescape: function 30 -/
mutual
def unit_unescape.l0 : Nat → ByteArray → Bool → List Int → Int → Option (ByteArray)
  | 0, _, _, _, _ => none
  | k + 1, x0, x1, x5, x6 => if x6 < (x0.size : Int) then (if 0 ≤ x6 then (if (bt x0 x6) = 45 then (if x5.length < 140737488355328 then (unit_unescape.l0 k x0 x1 (x5 ++ [47]) (wrap64 (x6 + 1))) else (none)) else (if (bt x0 x6) = 92 then (if (wrap64 ((x0.size : Int) - x6)) ≥ 4 then (if 0 ≤ (wrap64 (x6 + 1)) then (if (wrap64 (x6 + 1)) < (x0.size : Int) then (unit_unescape.j1 k x0 x1 x5 x6 (bt x0 x6) ((bt x0 (wrap64 (x6 + 1))) == 120)) else (none)) else (none)) else (unit_unescape.j1 k x0 x1 x5 x6 (bt x0 x6) false)) else (unit_unescape.j1 k x0 x1 x5 x6 (bt x0 x6) false))) else (none)) else (if x1 = true then (none) else (some (strOfNums x5)))
def unit_unescape.j1 : Nat → ByteArray → Bool → List Int → Int → Int → Bool → Option (ByteArray)
  | 0, _, _, _, _, _, _ => none
  | k + 1, x0, x1, x5, x6, x7, x37 => if x37 = true then (if 0 ≤ (wrap64 (x6 + 2)) then (if (wrap64 (x6 + 2)) ≤ (wrap64 (x6 + 4)) then (if (wrap64 (x6 + 4)) ≤ (x0.size : Int) then ((strconv_ParseInt_33.f k (x0.extract ((wrap64 (x6 + 2)) : Int).toNat ((wrap64 (x6 + 4)) : Int).toNat) 16 8).bind fun bt113 => (if bt113.2.isNone = true then (if x5.length < 140737488355328 then (unit_unescape.l0 k x0 x1 (x5 ++ [(bt113.1) % 256]) (wrap64 ((wrap64 (x6 + 3)) + 1))) else (none)) else (if x5.length < 140737488355328 then (unit_unescape.l0 k x0 x1 (x5 ++ [x7]) (wrap64 (x6 + 1))) else (none)))) else (none)) else (none)) else (none)) else (if x5.length < 140737488355328 then (unit_unescape.l0 k x0 x1 (x5 ++ [x7]) (wrap64 (x6 + 1))) else (none))
end
def unit_unescape.f (k : Nat) (a0 : ByteArray) (a1 : Bool) : Option (ByteArray) := unit_unescape.l0 k a0 a1 (([] : List Int)) 0
theorem unit_unescape.mono_l : ∀ k, (∀ y0 y1 y2 y3, LeO (unit_unescape.l0 k y0 y1 y2 y3) (unit_unescape.l0 (k + 1) y0 y1 y2 y3)) ∧ (∀ y0 y1 y2 y3 y4 y5, LeO (unit_unescape.j1 k y0 y1 y2 y3 y4 y5) (unit_unescape.j1 (k + 1) y0 y1 y2 y3 y4 y5))
  | 0 => ⟨fun _ _ _ _ r h => by simp [unit_unescape.l0] at h, fun _ _ _ _ _ _ r h => by simp [unit_unescape.j1] at h⟩
  | k + 1 => by
    obtain ⟨ih0, ih1⟩ := unit_unescape.mono_l k
    refine ⟨?_, ?_⟩
    · intro y0 y1 y2 y3
      unfold unit_unescape.l0
      repeat' first
      | (with_reducible exact ih0 _ _ _ _)
      | (with_reducible exact ih1 _ _ _ _ _ _)
      | (with_reducible exact strconv_ParseInt_33.mono _ _ _ _)
      | (with_reducible exact LeO.refl _)
      | (with_reducible exact LeO.none _)
      | (with_reducible refine LeO.ite ?_ ?_)
      | (with_reducible refine LeO.bind ?_ (fun _ => ?_))
      | exact ih0 _ _ _ _
      | exact ih1 _ _ _ _ _ _
      | exact strconv_ParseInt_33.mono _ _ _ _
      | exact LeO.none _
      | refine LeO.ite ?_ ?_
      | refine LeO.bind ?_ (fun _ => ?_)
    · intro y0 y1 y2 y3 y4 y5
      unfold unit_unescape.j1
      repeat' first
      | (with_reducible exact ih0 _ _ _ _)
      | (with_reducible exact ih1 _ _ _ _ _ _)
      | (with_reducible exact strconv_ParseInt_33.mono _ _ _ _)
      | (with_reducible exact LeO.refl _)
      | (with_reducible exact LeO.none _)
      | (with_reducible refine LeO.ite ?_ ?_)
      | (with_reducible refine LeO.bind ?_ (fun _ => ?_))
      | exact ih0 _ _ _ _
      | exact ih1 _ _ _ _ _ _
      | exact strconv_ParseInt_33.mono _ _ _ _
      | exact LeO.none _
      | refine LeO.ite ?_ ?_
      | refine LeO.bind ?_ (fun _ => ?_)
theorem unit_unescape.mono : ∀ a0 a1 k, LeO (unit_unescape.f k a0 a1) (unit_unescape.f (k + 1) a0 a1) := by
  intro a0 a1 k
  obtain ⟨ih0, ih1⟩ := unit_unescape.mono_l k
  unfold unit_unescape.f
  repeat' first
      | (with_reducible exact ih0 _ _ _ _)
      | (with_reducible exact ih1 _ _ _ _ _ _)
      | (with_reducible exact strconv_ParseInt_33.mono _ _ _ _)
      | (with_reducible exact LeO.refl _)
      | (with_reducible exact LeO.none _)
      | (with_reducible refine LeO.ite ?_ ?_)
      | (with_reducible refine LeO.bind ?_ (fun _ => ?_))
      | exact ih0 _ _ _ _
      | exact ih1 _ _ _ _ _ _
      | exact strconv_ParseInt_33.mono _ _ _ _
      | exact LeO.none _
      | refine LeO.ite ?_ ?_
      | refine LeO.bind ?_ (fun _ => ?_)
set_option maxHeartbeats 8000000 in
set_option maxRecDepth 100000 in
theorem unit_unescape.calls (k : Nat) (a0 : ByteArray) (a1 : Bool) (r : ByteArray) (w : World) (h : unit_unescape.f k a0 a1 = some r) :
    Calls Tryd.prog 30 #[.string a0, .bool a1] w fun e w' => e = .returned (.string r) ∧ Below w.heap.size w w' := by
  have hu44 := Tryd.underlying44
  have hu100 := Tryd.underlying100
  have HB := Aside0.mk (Below.refl w.heap.size w)
  have H : (unit_unescape.l0 k a0 a1 (([] : List Int)) 0) = some r := h
  clear h
  obtain ⟨y107, hy107⟩ : ∃ y_ : List Int, y_ = (([] : List Int)) := ⟨_, rfl⟩
  replace H : (unit_unescape.l0 k a0 a1 y107 0) = some r := by first | (rw [hy107]; with_reducible exact H) | (have H2_ := (Option.bind_some _ _).symm.trans H; rw [hy107]; with_reducible exact H2_) | (have H2_ := (Option.bind_some _ _).symm.trans H; with_reducible exact H2_) | with_reducible exact H | (rw [hy107]; exact H) | exact H
  have Ny107 := Aside0.mk hy107
  clear hy107
  have H' := Aside0.mk H
  clear H
  go_enter Tryd.func30, Tryd.ntmps30
  go_wp2_with (first | ((with_reducible refine gate_dst (N := 10) rfl ?_); (try (refine gate_guard (by rfl) ?_; dsimp only)); refine Kd.R_lit (Kd.int .u8) _ 5 ?hg (N := 10) ?hd (xs := ([] : List Int)) (inner := []) (ok := fun _ => True) (okp := fun _ => True) ?hr ?hp (fun _ hk => hk) trivial (Below.refl _ _) (Nat.le_refl _) (by simp) ?_; (case hd => rfl); (case hg => rfl); (case hr => first | (go_simp; done) | (go_simp; rfl)); (case hp => exact (Reps.none _ _)); intro v108 w3 ho4 hb hg_ hnew_; clear hg_ hnew_; (first | rw [← Ny107.out] at ho4 | (simp only [Int.reduceToNat] at ho4; rw [← Ny107.out] at ho4)); have n0_ := Aside0.mk (Kd.R_lower ho4 (below_size (by repeat (first | (with_reducible first | exact HB.out | apply below_alloc | apply pw_below_drewN | apply below_drew1) | exact HB.out)))); have n1_ := Aside0.mk (below_step (by repeat (first | (with_reducible first | exact HB.out | apply below_alloc | apply pw_below_drewN | apply below_drew1) | exact HB.out)) hb); clear HB; have HO109 := n0_; have HB := n1_; clear n0_ n1_; clear hb ho4))
  go_loopg [5, 6] k (fun kq v5 v6 w' => ∃ (x5_1 : List Int) (x6_1 : Int), v6 = .int .i64 x6_1 ∧ Aside0 (unit_unescape.l0 kq a0 a1 x5_1 x6_1 = some r) ∧ Aside0 (kq ≤ k) ∧ Aside0 (Kd.R (Kd.int .u8) 5 w' w.heap.size (fun _ => True) v5 x5_1) ∧ Aside0 (Below w.heap.size w w'))
  case atStart => exact ⟨(y107), (0), (by first | rfl | (simp; done) | (simp [*]; done)), H', ⟨Nat.le_refl _⟩, ⟨by (with_reducible repeat (first | apply Kd.R_alloc | apply Kd.R_drewN | apply Kd.R_drew)); exact HO109.out⟩, ⟨by repeat (first | (with_reducible first | exact HB.out | apply below_alloc | apply pw_below_drewN | apply below_drew1) | exact HB.out)⟩⟩
  case round =>
    clear H'
    try clear p2
    try clear c3
    obtain ⟨x5_1, x6_1, rfl, HA, HK1, HO_5, HB⟩ := hrel
    cases gk with
    | zero => exact absurd HA.out (by simp [unit_unescape.l0])
    | succ k1 =>
      have H := HA.out
      clear HA
      simp only [unit_unescape.l0] at H
      by_cases c5 : x6_1 < (a0.size : Int)
      · rw [if_pos c5] at H
        have c5b0 : decide (x6_1 < (a0.size : Int)) = true := decide_eq_true c5
        clear c5
        by_cases c6 : 0 ≤ x6_1
        · rw [if_pos c6] at H
          have c6b0 : decide (0 ≤ x6_1) = true := decide_eq_true c6
          clear c6
          by_cases c8 : (bt a0 x6_1) = 45
          · rw [if_pos c8] at H
            have c8b0 : ((bt a0 x6_1) == 45) = true := beq_iff_eq.mpr c8
            have c8b1 : ((bt a0 x6_1) != 45) = false := bne_eq_false_iff_eq.mpr c8
            clear c8
            by_cases c9 : x5_1.length < 140737488355328
            · rw [if_pos c9] at H
              have LMc9 := Aside0.mk c9
              clear c9
              obtain ⟨y110, hy110⟩ : ∃ y_ : List Int, y_ = (x5_1 ++ [47]) := ⟨_, rfl⟩
              replace H : (unit_unescape.l0 k1 a0 a1 y110 (wrap64 (x6_1 + 1))) = some r := by first | (rw [hy110]; with_reducible exact H) | (have H2_ := (Option.bind_some _ _).symm.trans H; rw [hy110]; with_reducible exact H2_) | (have H2_ := (Option.bind_some _ _).symm.trans H; with_reducible exact H2_) | with_reducible exact H | (rw [hy110]; exact H) | exact H
              have Ny110 := Aside0.mk hy110
              clear hy110
              have H' := Aside0.mk H
              clear H
              have p7 : 0 ≤ (x6_1 : Int) := of_decide_eq_true (by first | (with_reducible assumption) | assumption)
              have q7 : x6_1 < (a0.size : Int) := of_decide_eq_true (by first | (with_reducible assumption) | assumption)
              have hx7 := bt_at a0 x6_1
              replace p7 := eq_true p7
              replace q7 := eq_true q7
              go_wp2_with (first | ((with_reducible refine gate_builtin (b := .append) (xs := #[.tmp 54, .tmp 56]) rfl ?_); (try (refine gate_guard (by rfl) ?_; dsimp only)); at_builtin; refine Kd.R_append (Kd.int .u8) (w0 := w) w.heap.size rfl (.tmp 54) (.tmp 56) 26 5 (.int .u8 0) 1 rfl Tryd.underlying26 info5 rfl (by decide) (by omega) u5 x5_1 47 [.int .u8 47] (fun _ => True) (fun _ => False) rfl rfl ?aP (fun _ hk => hk.elim) ?aF ?aO ?aB ?aS ?aL ?_; (case aP => exact rfl); (case aB => exact (by repeat (first | (with_reducible first | exact HB.out | apply below_alloc | apply pw_below_drewN | apply below_drew1) | exact HB.out))); (case aF => exact (fun _ _ => trivial)); (case aO => exact (by (with_reducible repeat (first | apply Kd.R_alloc | apply Kd.R_drewN | apply Kd.R_drew)); exact HO_5.out)); (case aS => exact (below_size (by repeat (first | (with_reducible first | exact HB.out | apply below_alloc | apply pw_below_drewN | apply below_drew1) | exact HB.out)))); (case aL => have := LMc9.out; omega); intro v111 w10 ho hb hg hat; rw [← Ny110.out] at ho; have n0_ := Aside0.mk (hb); have n1_ := Aside0.mk (ho); clear HB; clear HO_5; have HB := n0_; have HO112 := n1_; clear n0_ n1_; clear ho hb hg hat))
              go_roundg k1
              case measure => have := HK1.out; omega
              case rel => exact ⟨(y110), (wrap64 (x6_1 + 1)), (by first | rfl | (simp; done) | (simp [*]; done)), H', ⟨by have := HK1.out; omega⟩, ⟨by (with_reducible repeat (first | apply Kd.R_alloc | apply Kd.R_drewN | apply Kd.R_drew)); exact HO112.out⟩, ⟨by repeat (first | (with_reducible first | exact HB.out | apply below_alloc | apply pw_below_drewN | apply below_drew1) | exact HB.out)⟩⟩
            · rw [if_neg c9] at H
              exact absurd H (by simp)
          · rw [if_neg c8] at H
            have c8b0 : ((bt a0 x6_1) == 45) = false := beq_eq_false_iff_ne.mpr c8
            have c8b1 : ((bt a0 x6_1) != 45) = true := bne_iff_ne.mpr c8
            have HC11 := Aside0.mk H
            clear H
            have p7 : 0 ≤ (x6_1 : Int) := of_decide_eq_true (by first | (with_reducible assumption) | assumption)
            have q7 : x6_1 < (a0.size : Int) := of_decide_eq_true (by first | (with_reducible assumption) | assumption)
            have hx7 := bt_at a0 x6_1
            replace p7 := eq_true p7
            replace q7 := eq_true q7
            go_upto_region 8 with (fail)
            go_cut [37] (fun v37 wc => ∃ (kq : Nat) (x37_10 : Bool), v37 = .bool x37_10 ∧ Aside0 (unit_unescape.j1 kq a0 a1 x5_1 x6_1 (bt a0 x6_1) x37_10 = some r) ∧ Aside0 (kq ≤ k1) ∧ Aside0 (Kd.R (Kd.int .u8) 5 wc w.heap.size (fun _ => True) u5 x5_1) ∧ Aside0 (Below w.heap.size w wc))
            case first =>
              have H := HC11.out
              clear HC11
              by_cases c12 : (bt a0 x6_1) = 92
              · rw [if_pos c12] at H
                have c12b0 : ((bt a0 x6_1) == 92) = true := beq_iff_eq.mpr c12
                have c12b1 : ((bt a0 x6_1) != 92) = false := bne_eq_false_iff_eq.mpr c12
                clear c12
                (first | rw [c12b0] | (simp only [i64_w, i32_w]; rw [c12b0]) | skip)
                by_cases c13 : (wrap64 ((a0.size : Int) - x6_1)) ≥ 4
                · rw [if_pos c13] at H
                  have c13b0 : decide (4 ≤ (wrap64 ((a0.size : Int) - x6_1))) = true := decide_eq_true c13
                  clear c13
                  obtain ⟨ji14, hji14⟩ : ∃ j_ : Int, (wrap64 (x6_1 + 1)) = j_ := ⟨_, rfl⟩
                  replace H : (if 0 ≤ (ji14) then (if (ji14) < (a0.size : Int) then (unit_unescape.j1 k1 a0 a1 x5_1 x6_1 (bt a0 x6_1) ((bt a0 (ji14)) == 120)) else (none)) else (none)) = some r := by first | (rw [hji14] at H; exact H) | (simp only [hji14] at H ⊢; exact H)
                  have hji14w : (IntKind.i64.wrap (x6_1 + 1)) = ji14 := (i64_w _).trans hji14
                  by_cases c15 : 0 ≤ (ji14)
                  · rw [if_pos c15] at H
                    have c15b0 : decide (0 ≤ (ji14)) = true := decide_eq_true c15
                    clear c15
                    by_cases c16 : (ji14) < (a0.size : Int)
                    · rw [if_pos c16] at H
                      have c16b0 : decide ((ji14) < (a0.size : Int)) = true := decide_eq_true c16
                      clear c16
                      have H' := Aside0.mk H
                      clear H
                      have p17 : 0 ≤ ((ji14) : Int) := of_decide_eq_true (by first | (with_reducible assumption) | assumption)
                      have q17 : (ji14) < (a0.size : Int) := of_decide_eq_true (by first | (with_reducible assumption) | assumption)
                      have hx17 := bt_at a0 (ji14)
                      replace p17 := eq_true p17
                      replace q17 := eq_true q17
                      go_wp2
                      go_meet
                      case rel => exact ⟨_, (((bt a0 (ji14)) == 120)), (by first | rfl | (simp; done) | (simp only [← hji14] <;> (first | rfl | simp)) | (simp [*]; done)), H', ⟨by have := HK1.out; first | omega | exact Nat.le_refl _⟩, ⟨by (with_reducible repeat (first | apply Kd.R_alloc | apply Kd.R_drewN | apply Kd.R_drew)); exact HO_5.out⟩, ⟨by repeat (first | (with_reducible first | exact HB.out | apply below_alloc | apply pw_below_drewN | apply below_drew1) | exact HB.out)⟩⟩
                    · rw [if_neg c16] at H
                      exact absurd H (by simp)
                  · rw [if_neg c15] at H
                    exact absurd H (by simp)
                · rw [if_neg c13] at H
                  have c13b0 : decide (4 ≤ (wrap64 ((a0.size : Int) - x6_1))) = false := decide_eq_false c13
                  clear c13
                  have H' := Aside0.mk H
                  clear H
                  go_wp2
                  go_meet
                  case rel => exact ⟨_, (false), (by first | rfl | (simp; done) | (simp [*]; done)), H', ⟨by have := HK1.out; first | omega | exact Nat.le_refl _⟩, ⟨by (with_reducible repeat (first | apply Kd.R_alloc | apply Kd.R_drewN | apply Kd.R_drew)); exact HO_5.out⟩, ⟨by repeat (first | (with_reducible first | exact HB.out | apply below_alloc | apply pw_below_drewN | apply below_drew1) | exact HB.out)⟩⟩
              · rw [if_neg c12] at H
                have c12b0 : ((bt a0 x6_1) == 92) = false := beq_eq_false_iff_ne.mpr c12
                have c12b1 : ((bt a0 x6_1) != 92) = true := bne_iff_ne.mpr c12
                (first | rw [c12b0] | (simp only [i64_w, i32_w]; rw [c12b0]) | skip)
                have H' := Aside0.mk H
                clear H
                go_wp2
                go_meet
                case rel => exact ⟨_, (false), (by first | rfl | (simp; done) | (simp [*]; done)), H', ⟨by have := HK1.out; first | omega | exact Nat.le_refl _⟩, ⟨by (with_reducible repeat (first | apply Kd.R_alloc | apply Kd.R_drewN | apply Kd.R_drew)); exact HO_5.out⟩, ⟨by repeat (first | (with_reducible first | exact HB.out | apply below_alloc | apply pw_below_drewN | apply below_drew1) | exact HB.out)⟩⟩
            case rest =>
              clear HC11
              try clear c1
              try clear p1
              try clear q1
              try clear hx1
              try clear p2
              try clear c3
              try clear c5
              try clear c5b0
              try clear c6
              try clear c6b0
              try clear p6
              try clear p7
              try clear q7
              try clear hx7
              try clear c8
              try clear c8b0
              try clear c8b1
              try clear c9
              try clear c12
              try clear c12b0
              try clear c12b1
              try clear c13
              try clear c13b0
              try clear c15
              try clear c15b0
              try clear c16
              try clear c16b0
              try clear p17
              try clear q17
              try clear hx17
              try clear p17
              try clear p2
              try clear p7
              try clear q17
              try clear q7
              obtain ⟨kq, x37_10, rfl, HA, HJ10, HO_5, HB⟩ := hcut
              cases kq with
              | zero => exact absurd HA.out (by simp [unit_unescape.j1])
              | succ kj10 =>
                have H := HA.out
                clear HA
                simp only [unit_unescape.j1] at H
                by_cases c18 : x37_10 = true
                · subst c18
                  have H1 : (if 0 ≤ (wrap64 (x6_1 + 2)) then (if (wrap64 (x6_1 + 2)) ≤ (wrap64 (x6_1 + 4)) then (if (wrap64 (x6_1 + 4)) ≤ (a0.size : Int) then ((strconv_ParseInt_33.f kj10 (a0.extract ((wrap64 (x6_1 + 2)) : Int).toNat ((wrap64 (x6_1 + 4)) : Int).toNat) 16 8).bind fun bt113 => (if bt113.2.isNone = true then (if x5_1.length < 140737488355328 then (unit_unescape.l0 kj10 a0 a1 (x5_1 ++ [(bt113.1) % 256]) (wrap64 ((wrap64 (x6_1 + 3)) + 1))) else (none)) else (if x5_1.length < 140737488355328 then (unit_unescape.l0 kj10 a0 a1 (x5_1 ++ [(bt a0 x6_1)]) (wrap64 (x6_1 + 1))) else (none)))) else (none)) else (none)) else (none)) = some r := by rw [if_pos rfl] at H; exact H
                  clear H
                  have H := H1
                  clear H1
                  obtain ⟨ji19, hji19⟩ : ∃ j_ : Int, (wrap64 (x6_1 + 2)) = j_ := ⟨_, rfl⟩
                  replace H : (if 0 ≤ (ji19) then (if (ji19) ≤ (wrap64 (x6_1 + 4)) then (if (wrap64 (x6_1 + 4)) ≤ (a0.size : Int) then ((strconv_ParseInt_33.f kj10 (a0.extract ((ji19) : Int).toNat ((wrap64 (x6_1 + 4)) : Int).toNat) 16 8).bind fun bt113 => (if bt113.2.isNone = true then (if x5_1.length < 140737488355328 then (unit_unescape.l0 kj10 a0 a1 (x5_1 ++ [(bt113.1) % 256]) (wrap64 ((wrap64 (x6_1 + 3)) + 1))) else (none)) else (if x5_1.length < 140737488355328 then (unit_unescape.l0 kj10 a0 a1 (x5_1 ++ [(bt a0 x6_1)]) (wrap64 (x6_1 + 1))) else (none)))) else (none)) else (none)) else (none)) = some r := by first | (rw [hji19] at H; exact H) | (simp only [hji19] at H ⊢; exact H)
                  have hji19w : (IntKind.i64.wrap (x6_1 + 2)) = ji19 := (i64_w _).trans hji19
                  by_cases c20 : 0 ≤ (ji19)
                  · rw [if_pos c20] at H
                    have c20b0 := eq_true c20
                    have c20b1 : decide (0 ≤ (ji19)) = true := decide_eq_true c20
                    clear c20
                    by_cases c21 : (ji19) ≤ (wrap64 (x6_1 + 4))
                    · rw [if_pos c21] at H
                      have c21b0 := eq_true c21
                      have c21b1 : decide ((ji19) ≤ (wrap64 (x6_1 + 4))) = true := decide_eq_true c21
                      by_cases c22 : (wrap64 (x6_1 + 4)) ≤ (a0.size : Int)
                      · rw [if_pos c22] at H
                        have c22b0 := eq_true c22
                        have c22b1 : decide ((wrap64 (x6_1 + 4)) ≤ (a0.size : Int)) = true := decide_eq_true c22
                        replace H := Option.bind_eq_some_iff.mp H
                        obtain ⟨⟨t113, t114⟩, A230, H⟩ := H
                        replace H : (if t114.isNone = true then (if x5_1.length < 140737488355328 then (unit_unescape.l0 kj10 a0 a1 (x5_1 ++ [(t113) % 256]) (wrap64 ((wrap64 (x6_1 + 3)) + 1))) else (none)) else (if x5_1.length < 140737488355328 then (unit_unescape.l0 kj10 a0 a1 (x5_1 ++ [(bt a0 x6_1)]) (wrap64 (x6_1 + 1))) else (none))) = some r := H
                        have A23 := Aside0.mk A230
                        clear A230
                        rcases t114 with _ | q115
                        · have H1 : (if x5_1.length < 140737488355328 then (unit_unescape.l0 kj10 a0 a1 (x5_1 ++ [(t113) % 256]) (wrap64 ((wrap64 (x6_1 + 3)) + 1))) else (none)) = some r := by rw [if_pos (show (none : Option Int).isNone = true by rfl)] at H; exact H
                          clear H
                          have H := H1
                          clear H1
                          try simp only [errW_none, errW_some]
                          by_cases c24 : x5_1.length < 140737488355328
                          · rw [if_pos c24] at H
                            have LMc24 := Aside0.mk c24
                            clear c24
                            obtain ⟨y116, hy116⟩ : ∃ y_ : List Int, y_ = (x5_1 ++ [(t113) % 256]) := ⟨_, rfl⟩
                            replace H : (unit_unescape.l0 kj10 a0 a1 y116 (wrap64 ((wrap64 (x6_1 + 3)) + 1))) = some r := by first | (rw [hy116]; with_reducible exact H) | (have H2_ := (Option.bind_some _ _).symm.trans H; rw [hy116]; with_reducible exact H2_) | (have H2_ := (Option.bind_some _ _).symm.trans H; with_reducible exact H2_) | with_reducible exact H | (rw [hy116]; exact H) | exact H
                            have Ny116 := Aside0.mk hy116
                            clear hy116
                            have H' := Aside0.mk H
                            clear H
                            go_wp2_with (first | ((with_reducible refine gate_callee (f := 33) rfl ?_); refine goesL_ (some 45) rfl rfl Tryd.func33 (by kernel_rfl) rfl #[.string (a0.extract ((ji19) : Int).toNat ((wrap64 (x6_1 + 4)) : Int).toNat), .int .i64 16, .int .i64 8] rfl (by (try simp only [List.map_toArray, List.map_cons, List.map_nil]); first | done | (simp only [hji19]; rfl) | rfl | (simp only [List.length_drop, List.length_take]; rfl)) ?_; (with_reducible refine (strconv_ParseInt_33.calls kj10 (a0.extract ((ji19) : Int).toNat ((wrap64 (x6_1 + 4)) : Int).toNat) 16 8 t113 none _ A23.out).mono ?_); rintro e w25 ⟨rfl, hb⟩; refine ⟨_, rfl, ?_⟩; have n0_ := Aside0.mk (Kd.R_below (by (with_reducible repeat (first | apply Kd.R_alloc | apply Kd.R_drewN | apply Kd.R_drew)); exact HO_5.out) hb); have n1_ := Aside0.mk (below_step (by repeat (first | (with_reducible first | exact HB.out | apply below_alloc | apply pw_below_drewN | apply below_drew1) | exact HB.out)) hb); clear HO_5; clear HB; have HO_5 := n0_; have HB := n1_; clear n0_ n1_; (try clear hb); (try clear hb2); (try clear hk); (try clear hi); (try simp only [errW_none, errW_some])) | ((with_reducible refine gate_builtin (b := .append) (xs := #[.tmp 54, .tmp 56]) rfl ?_); (try (refine gate_guard (by rfl) ?_; dsimp only)); at_builtin; refine Kd.R_append (Kd.int .u8) (w0 := w) w.heap.size rfl (.tmp 54) (.tmp 56) 26 5 (.int .u8 0) 1 rfl Tryd.underlying26 info5 rfl (by decide) (by omega) u5 x5_1 ((t113) % 256) [.int .u8 ((t113) % 256)] (fun _ => True) (fun _ => False) rfl rfl ?aP (fun _ hk => hk.elim) ?aF ?aO ?aB ?aS ?aL ?_; (case aP => exact rfl); (case aB => exact (by repeat (first | (with_reducible first | exact HB.out | apply below_alloc | apply pw_below_drewN | apply below_drew1) | exact HB.out))); (case aF => exact (fun _ _ => trivial)); (case aO => exact (by (with_reducible repeat (first | apply Kd.R_alloc | apply Kd.R_drewN | apply Kd.R_drew)); exact HO_5.out)); (case aS => exact (below_size (by repeat (first | (with_reducible first | exact HB.out | apply below_alloc | apply pw_below_drewN | apply below_drew1) | exact HB.out)))); (case aL => have := LMc24.out; omega); intro v117 w26 ho hb hg hat; rw [← Ny116.out] at ho; have n0_ := Aside0.mk (hb); have n1_ := Aside0.mk (ho); clear HB; clear HO_5; have HB := n0_; have HO118 := n1_; clear n0_ n1_; clear ho hb hg hat))
                            go_roundg kj10
                            case measure => have := HK1.out; have := HJ10.out; omega
                            case rel => exact ⟨(y116), (wrap64 ((wrap64 (x6_1 + 3)) + 1)), (by first | rfl | (simp; done) | (simp [*]; done)), H', ⟨by have := HK1.out; have := HJ10.out; omega⟩, ⟨by (with_reducible repeat (first | apply Kd.R_alloc | apply Kd.R_drewN | apply Kd.R_drew)); exact HO118.out⟩, ⟨by repeat (first | (with_reducible first | exact HB.out | apply below_alloc | apply pw_below_drewN | apply below_drew1) | exact HB.out)⟩⟩
                          · rw [if_neg c24] at H
                            exact absurd H (by simp)
                        · have H1 : (if x5_1.length < 140737488355328 then (unit_unescape.l0 kj10 a0 a1 (x5_1 ++ [(bt a0 x6_1)]) (wrap64 (x6_1 + 1))) else (none)) = some r := by rw [if_neg (show ¬ (some q115).isNone = true by simp)] at H; exact H
                          clear H
                          have H := H1
                          clear H1
                          try simp only [errW_none, errW_some]
                          by_cases c27 : x5_1.length < 140737488355328
                          · rw [if_pos c27] at H
                            have LMc27 := Aside0.mk c27
                            clear c27
                            obtain ⟨y119, hy119⟩ : ∃ y_ : List Int, y_ = (x5_1 ++ [(bt a0 x6_1)]) := ⟨_, rfl⟩
                            replace H : (unit_unescape.l0 kj10 a0 a1 y119 (wrap64 (x6_1 + 1))) = some r := by first | (rw [hy119]; with_reducible exact H) | (have H2_ := (Option.bind_some _ _).symm.trans H; rw [hy119]; with_reducible exact H2_) | (have H2_ := (Option.bind_some _ _).symm.trans H; with_reducible exact H2_) | with_reducible exact H | (rw [hy119]; exact H) | exact H
                            have Ny119 := Aside0.mk hy119
                            clear hy119
                            have H' := Aside0.mk H
                            clear H
                            go_wp2_with (first | ((with_reducible refine gate_callee (f := 33) rfl ?_); refine goesL_ (some 45) rfl rfl Tryd.func33 (by kernel_rfl) rfl #[.string (a0.extract ((ji19) : Int).toNat ((wrap64 (x6_1 + 4)) : Int).toNat), .int .i64 16, .int .i64 8] rfl (by (try simp only [List.map_toArray, List.map_cons, List.map_nil]); first | done | (simp only [hji19]; rfl) | rfl | (simp only [List.length_drop, List.length_take]; rfl)) ?_; (with_reducible refine (strconv_ParseInt_33.calls kj10 (a0.extract ((ji19) : Int).toNat ((wrap64 (x6_1 + 4)) : Int).toNat) 16 8 t113 (some q115) _ A23.out).mono ?_); rintro e w28 ⟨rfl, hb⟩; refine ⟨_, rfl, ?_⟩; have n0_ := Aside0.mk (Kd.R_below (by (with_reducible repeat (first | apply Kd.R_alloc | apply Kd.R_drewN | apply Kd.R_drew)); exact HO_5.out) hb); have n1_ := Aside0.mk (below_step (by repeat (first | (with_reducible first | exact HB.out | apply below_alloc | apply pw_below_drewN | apply below_drew1) | exact HB.out)) hb); clear HO_5; clear HB; have HO_5 := n0_; have HB := n1_; clear n0_ n1_; (try clear hb); (try clear hb2); (try clear hk); (try clear hi); (try simp only [errW_none, errW_some])) | ((with_reducible refine gate_builtin (b := .append) (xs := #[.tmp 54, .tmp 56]) rfl ?_); (try (refine gate_guard (by rfl) ?_; dsimp only)); at_builtin; refine Kd.R_append (Kd.int .u8) (w0 := w) w.heap.size rfl (.tmp 54) (.tmp 56) 26 5 (.int .u8 0) 1 rfl Tryd.underlying26 info5 rfl (by decide) (by omega) u5 x5_1 (bt a0 x6_1) [.int .u8 (bt a0 x6_1)] (fun _ => True) (fun _ => False) rfl rfl ?aP (fun _ hk => hk.elim) ?aF ?aO ?aB ?aS ?aL ?_; (case aP => exact rfl); (case aB => exact (by repeat (first | (with_reducible first | exact HB.out | apply below_alloc | apply pw_below_drewN | apply below_drew1) | exact HB.out))); (case aF => exact (fun _ _ => trivial)); (case aO => exact (by (with_reducible repeat (first | apply Kd.R_alloc | apply Kd.R_drewN | apply Kd.R_drew)); exact HO_5.out)); (case aS => exact (below_size (by repeat (first | (with_reducible first | exact HB.out | apply below_alloc | apply pw_below_drewN | apply below_drew1) | exact HB.out)))); (case aL => have := LMc27.out; omega); intro v120 w29 ho hb hg hat; rw [← Ny119.out] at ho; have n0_ := Aside0.mk (hb); have n1_ := Aside0.mk (ho); clear HB; clear HO_5; have HB := n0_; have HO121 := n1_; clear n0_ n1_; clear ho hb hg hat))
                            go_roundg kj10
                            case measure => have := HK1.out; have := HJ10.out; omega
                            case rel => exact ⟨(y119), (wrap64 (x6_1 + 1)), (by first | rfl | (simp; done) | (simp [*]; done)), H', ⟨by have := HK1.out; have := HJ10.out; omega⟩, ⟨by (with_reducible repeat (first | apply Kd.R_alloc | apply Kd.R_drewN | apply Kd.R_drew)); exact HO121.out⟩, ⟨by repeat (first | (with_reducible first | exact HB.out | apply below_alloc | apply pw_below_drewN | apply below_drew1) | exact HB.out)⟩⟩
                          · rw [if_neg c27] at H
                            exact absurd H (by simp)
                      · rw [if_neg c22] at H
                        exact absurd H (by simp)
                    · rw [if_neg c21] at H
                      exact absurd H (by simp)
                  · rw [if_neg c20] at H
                    exact absurd H (by simp)
                · replace c18 := Bool.eq_false_iff.mpr c18
                  subst c18
                  have H1 : (if x5_1.length < 140737488355328 then (unit_unescape.l0 kj10 a0 a1 (x5_1 ++ [(bt a0 x6_1)]) (wrap64 (x6_1 + 1))) else (none)) = some r := by rw [if_neg (show ¬ (false = true) by decide)] at H; exact H
                  clear H
                  have H := H1
                  clear H1
                  by_cases c30 : x5_1.length < 140737488355328
                  · rw [if_pos c30] at H
                    have LMc30 := Aside0.mk c30
                    clear c30
                    obtain ⟨y122, hy122⟩ : ∃ y_ : List Int, y_ = (x5_1 ++ [(bt a0 x6_1)]) := ⟨_, rfl⟩
                    replace H : (unit_unescape.l0 kj10 a0 a1 y122 (wrap64 (x6_1 + 1))) = some r := by first | (rw [hy122]; with_reducible exact H) | (have H2_ := (Option.bind_some _ _).symm.trans H; rw [hy122]; with_reducible exact H2_) | (have H2_ := (Option.bind_some _ _).symm.trans H; with_reducible exact H2_) | with_reducible exact H | (rw [hy122]; exact H) | exact H
                    have Ny122 := Aside0.mk hy122
                    clear hy122
                    have H' := Aside0.mk H
                    clear H
                    go_wp2_with (first | ((with_reducible refine gate_builtin (b := .append) (xs := #[.tmp 54, .tmp 56]) rfl ?_); (try (refine gate_guard (by rfl) ?_; dsimp only)); at_builtin; refine Kd.R_append (Kd.int .u8) (w0 := w) w.heap.size rfl (.tmp 54) (.tmp 56) 26 5 (.int .u8 0) 1 rfl Tryd.underlying26 info5 rfl (by decide) (by omega) u5 x5_1 (bt a0 x6_1) [.int .u8 (bt a0 x6_1)] (fun _ => True) (fun _ => False) rfl rfl ?aP (fun _ hk => hk.elim) ?aF ?aO ?aB ?aS ?aL ?_; (case aP => exact rfl); (case aB => exact (by repeat (first | (with_reducible first | exact HB.out | apply below_alloc | apply pw_below_drewN | apply below_drew1) | exact HB.out))); (case aF => exact (fun _ _ => trivial)); (case aO => exact (by (with_reducible repeat (first | apply Kd.R_alloc | apply Kd.R_drewN | apply Kd.R_drew)); exact HO_5.out)); (case aS => exact (below_size (by repeat (first | (with_reducible first | exact HB.out | apply below_alloc | apply pw_below_drewN | apply below_drew1) | exact HB.out)))); (case aL => have := LMc30.out; omega); intro v123 w31 ho hb hg hat; rw [← Ny122.out] at ho; have n0_ := Aside0.mk (hb); have n1_ := Aside0.mk (ho); clear HB; clear HO_5; have HB := n0_; have HO124 := n1_; clear n0_ n1_; clear ho hb hg hat))
                    go_roundg kj10
                    case measure => have := HK1.out; have := HJ10.out; omega
                    case rel => exact ⟨(y122), (wrap64 (x6_1 + 1)), (by first | rfl | (simp; done) | (simp [*]; done)), H', ⟨by have := HK1.out; have := HJ10.out; omega⟩, ⟨by (with_reducible repeat (first | apply Kd.R_alloc | apply Kd.R_drewN | apply Kd.R_drew)); exact HO124.out⟩, ⟨by repeat (first | (with_reducible first | exact HB.out | apply below_alloc | apply pw_below_drewN | apply below_drew1) | exact HB.out)⟩⟩
                  · rw [if_neg c30] at H
                    exact absurd H (by simp)
        · rw [if_neg c6] at H
          exact absurd H (by simp)
      · rw [if_neg c5] at H
        have c5b0 : decide (x6_1 < (a0.size : Int)) = false := decide_eq_false c5
        clear c5
        by_cases c32 : a1 = true
        · subst c32
          have H1 : (none) = some r := by rw [if_pos rfl] at H; exact H
          clear H
          have H := H1
          clear H1
          exact absurd H (by simp)
        · replace c32 := Bool.eq_false_iff.mpr c32
          subst c32
          have H1 : (some (strOfNums x5_1)) = some r := by rw [if_neg (show ¬ (false = true) by decide)] at H; exact H
          clear H
          have H := H1
          clear H1
          obtain rfl := Option.some.inj H
          have hcv33 := own_string (P := Tryd.prog) Tryd.underlying26 Tryd.underlying5 Tryd.underlying9 (Kd.own_of_R HO_5.out)
          go_wp2
          go_ret
          exact ⟨by first | rfl | (simp [errW_none, errW_some] <;> rfl) | (simp [*, errW_none, errW_some] <;> rfl), by repeat (first | (with_reducible first | exact HB.out | apply below_alloc | apply pw_below_drewN | apply below_drew1) | exact HB.out)⟩

/-! ### unit_UnitNameUnescape: function 18 -/
def unit_UnitNameUnescape.f (k : Nat) (a0 : ByteArray) : Option (ByteArray) := (unit_unescape.f k a0 false).bind fun t125 => (some t125)
theorem unit_UnitNameUnescape.mono : ∀ a0 k, LeO (unit_UnitNameUnescape.f k a0) (unit_UnitNameUnescape.f (k + 1) a0) := by
  intro a0 k
  unfold unit_UnitNameUnescape.f
  repeat' first
      | (with_reducible exact unit_unescape.mono _ _ _)
      | (with_reducible exact LeO.refl _)
      | (with_reducible exact LeO.none _)
      | (with_reducible refine LeO.ite ?_ ?_)
      | (with_reducible refine LeO.bind ?_ (fun _ => ?_))
      | exact unit_unescape.mono _ _ _
      | exact LeO.none _
      | refine LeO.ite ?_ ?_
      | refine LeO.bind ?_ (fun _ => ?_)
set_option maxHeartbeats 8000000 in
set_option maxRecDepth 100000 in
theorem unit_UnitNameUnescape.calls (k : Nat) (a0 : ByteArray) (r : ByteArray) (w : World) (h : unit_UnitNameUnescape.f k a0 = some r) :
    Calls Tryd.prog 18 #[.string a0] w fun e w' => e = .returned (.string r) ∧ Below w.heap.size w w' := by
  have HB := Aside0.mk (Below.refl w.heap.size w)
  have H : ((unit_unescape.f k a0 false).bind fun t125 => (some t125)) = some r := h
  clear h
  replace H := Option.bind_eq_some_iff.mp H
  obtain ⟨t125, A20, H⟩ := H
  replace H : (some t125) = some r := H
  have A2 := Aside0.mk A20
  clear A20
  obtain rfl := Option.some.inj H
  go_enter Tryd.func18, Tryd.ntmps18
  go_wp2_with (first | ((with_reducible refine gate_callee (f := 30) rfl ?_); refine goesL_ (some 4) rfl rfl Tryd.func30 (by kernel_rfl) rfl #[.string a0, .bool false] rfl (by (try simp only [List.map_toArray, List.map_cons, List.map_nil]); first | done | rfl | (simp only [List.length_drop, List.length_take]; rfl)) ?_; (with_reducible refine (unit_unescape.calls k a0 false t125 _ A2.out).mono ?_); rintro e w3 ⟨rfl, hb⟩; refine ⟨_, rfl, ?_⟩; have n0_ := Aside0.mk (below_step (by repeat (first | (with_reducible first | exact HB.out | apply below_alloc | apply pw_below_drewN | apply below_drew1) | exact HB.out)) hb); clear HB; have HB := n0_; clear n0_; (try clear hb); (try clear hb2); (try clear hk); (try clear hi)))
  go_ret
  exact ⟨by first | rfl | (simp [errW_none, errW_some] <;> rfl) | (simp [*, errW_none, errW_some] <;> rfl), by repeat (first | (with_reducible first | exact HB.out | apply below_alloc | apply pw_below_drewN | apply below_drew1) | exact HB.out)⟩

/-! ### impl_NameUnescape: function 8 -/
def impl_NameUnescape.f (k : Nat) (a0 : ByteArray) : Option (ByteArray) := (unit_UnitNameUnescape.f k a0).bind fun t126 => (some t126)
theorem impl_NameUnescape.mono : ∀ a0 k, LeO (impl_NameUnescape.f k a0) (impl_NameUnescape.f (k + 1) a0) := by
  intro a0 k
  unfold impl_NameUnescape.f
  repeat' first
      | (with_reducible exact unit_UnitNameUnescape.mono _ _)
      | (with_reducible exact LeO.refl _)
      | (with_reducible exact LeO.none _)
      | (with_reducible refine LeO.ite ?_ ?_)
      | (with_reducible refine LeO.bind ?_ (fun _ => ?_))
      | exact unit_UnitNameUnescape.mono _ _
      | exact LeO.none _
      | refine LeO.ite ?_ ?_
      | refine LeO.bind ?_ (fun _ => ?_)
set_option maxHeartbeats 8000000 in
set_option maxRecDepth 100000 in
theorem impl_NameUnescape.calls (k : Nat) (a0 : ByteArray) (r : ByteArray) (w : World) (h : impl_NameUnescape.f k a0 = some r) :
    Calls Tryd.prog 8 #[.string a0] w fun e w' => e = .returned (.string r) ∧ Below w.heap.size w w' := by
  have HB := Aside0.mk (Below.refl w.heap.size w)
  have H : ((unit_UnitNameUnescape.f k a0).bind fun t126 => (some t126)) = some r := h
  clear h
  replace H := Option.bind_eq_some_iff.mp H
  obtain ⟨t126, A20, H⟩ := H
  replace H : (some t126) = some r := H
  have A2 := Aside0.mk A20
  clear A20
  obtain rfl := Option.some.inj H
  go_enter Tryd.func8, Tryd.ntmps8
  go_wp2_with (first | ((with_reducible refine gate_callee (f := 18) rfl ?_); refine goesL_ (some 4) rfl rfl Tryd.func18 (by kernel_rfl) rfl #[.string a0] rfl (by (try simp only [List.map_toArray, List.map_cons, List.map_nil]); first | done | rfl | (simp only [List.length_drop, List.length_take]; rfl)) ?_; (with_reducible refine (unit_UnitNameUnescape.calls k a0 t126 _ A2.out).mono ?_); rintro e w3 ⟨rfl, hb⟩; refine ⟨_, rfl, ?_⟩; have n0_ := Aside0.mk (below_step (by repeat (first | (with_reducible first | exact HB.out | apply below_alloc | apply pw_below_drewN | apply below_drew1) | exact HB.out)) hb); clear HB; have HB := n0_; clear n0_; (try clear hb); (try clear hb2); (try clear hk); (try clear hi)))
  go_ret
  exact ⟨by first | rfl | (simp [errW_none, errW_some] <;> rfl) | (simp [*, errW_none, errW_some] <;> rfl), by repeat (first | (with_reducible first | exact HB.out | apply below_alloc | apply pw_below_drewN | apply below_drew1) | exact HB.out)⟩

/-! ### unit_zzHex: function 35 -/
def unit_zzHex.f (a0 : Int) : Option (ByteArray) := if a0 ≥ 16 then (if 0 ≤ (a0 / 16) then (if (a0 / 16) ≤ (((a0 / 16) + 1) % 256) then (if (((a0 / 16) + 1) % 256) ≤ 16 then (if 2 + ((⟨#[48, 49, 50, 51, 52, 53, 54, 55, 56, 57, 97, 98, 99, 100, 101, 102]⟩ : ByteArray).extract ((a0 / 16) : Int).toNat ((((a0 / 16) + 1) % 256) : Int).toNat).size ≤ 9223372036854775807 then (if 0 ≤ (Go.bits .and .u8 a0 15) then (if (Go.bits .and .u8 a0 15) ≤ (((Go.bits .and .u8 a0 15) + 1) % 256) then (if (((Go.bits .and .u8 a0 15) + 1) % 256) ≤ 16 then (if ((⟨#[92, 120]⟩ : ByteArray) ++ ((⟨#[48, 49, 50, 51, 52, 53, 54, 55, 56, 57, 97, 98, 99, 100, 101, 102]⟩ : ByteArray).extract ((a0 / 16) : Int).toNat ((((a0 / 16) + 1) % 256) : Int).toNat)).size + ((⟨#[48, 49, 50, 51, 52, 53, 54, 55, 56, 57, 97, 98, 99, 100, 101, 102]⟩ : ByteArray).extract ((Go.bits .and .u8 a0 15) : Int).toNat ((((Go.bits .and .u8 a0 15) + 1) % 256) : Int).toNat).size ≤ 9223372036854775807 then (some (((⟨#[92, 120]⟩ : ByteArray) ++ ((⟨#[48, 49, 50, 51, 52, 53, 54, 55, 56, 57, 97, 98, 99, 100, 101, 102]⟩ : ByteArray).extract ((a0 / 16) : Int).toNat ((((a0 / 16) + 1) % 256) : Int).toNat)) ++ ((⟨#[48, 49, 50, 51, 52, 53, 54, 55, 56, 57, 97, 98, 99, 100, 101, 102]⟩ : ByteArray).extract ((Go.bits .and .u8 a0 15) : Int).toNat ((((Go.bits .and .u8 a0 15) + 1) % 256) : Int).toNat))) else (none)) else (none)) else (none)) else (none)) else (none)) else (none)) else (none)) else (none)) else (if 0 ≤ (Go.bits .and .u8 a0 15) then (if (Go.bits .and .u8 a0 15) ≤ (((Go.bits .and .u8 a0 15) + 1) % 256) then (if (((Go.bits .and .u8 a0 15) + 1) % 256) ≤ 16 then (if 2 + ((⟨#[48, 49, 50, 51, 52, 53, 54, 55, 56, 57, 97, 98, 99, 100, 101, 102]⟩ : ByteArray).extract ((Go.bits .and .u8 a0 15) : Int).toNat ((((Go.bits .and .u8 a0 15) + 1) % 256) : Int).toNat).size ≤ 9223372036854775807 then (some ((⟨#[92, 120]⟩ : ByteArray) ++ ((⟨#[48, 49, 50, 51, 52, 53, 54, 55, 56, 57, 97, 98, 99, 100, 101, 102]⟩ : ByteArray).extract ((Go.bits .and .u8 a0 15) : Int).toNat ((((Go.bits .and .u8 a0 15) + 1) % 256) : Int).toNat))) else (none)) else (none)) else (none)) else (none))
set_option maxHeartbeats 8000000 in
set_option maxRecDepth 100000 in
theorem unit_zzHex.calls (a0 : Int) (r : ByteArray) (w : World) (h : unit_zzHex.f a0 = some r) :
    Calls Tryd.prog 35 #[.int .u8 a0] w fun e w' => e = .returned (.string r) ∧ Drawn0 w w' := by
  have H : (if a0 ≥ 16 then (if 0 ≤ (a0 / 16) then (if (a0 / 16) ≤ (((a0 / 16) + 1) % 256) then (if (((a0 / 16) + 1) % 256) ≤ 16 then (if 2 + ((⟨#[48, 49, 50, 51, 52, 53, 54, 55, 56, 57, 97, 98, 99, 100, 101, 102]⟩ : ByteArray).extract ((a0 / 16) : Int).toNat ((((a0 / 16) + 1) % 256) : Int).toNat).size ≤ 9223372036854775807 then (if 0 ≤ (Go.bits .and .u8 a0 15) then (if (Go.bits .and .u8 a0 15) ≤ (((Go.bits .and .u8 a0 15) + 1) % 256) then (if (((Go.bits .and .u8 a0 15) + 1) % 256) ≤ 16 then (if ((⟨#[92, 120]⟩ : ByteArray) ++ ((⟨#[48, 49, 50, 51, 52, 53, 54, 55, 56, 57, 97, 98, 99, 100, 101, 102]⟩ : ByteArray).extract ((a0 / 16) : Int).toNat ((((a0 / 16) + 1) % 256) : Int).toNat)).size + ((⟨#[48, 49, 50, 51, 52, 53, 54, 55, 56, 57, 97, 98, 99, 100, 101, 102]⟩ : ByteArray).extract ((Go.bits .and .u8 a0 15) : Int).toNat ((((Go.bits .and .u8 a0 15) + 1) % 256) : Int).toNat).size ≤ 9223372036854775807 then (some (((⟨#[92, 120]⟩ : ByteArray) ++ ((⟨#[48, 49, 50, 51, 52, 53, 54, 55, 56, 57, 97, 98, 99, 100, 101, 102]⟩ : ByteArray).extract ((a0 / 16) : Int).toNat ((((a0 / 16) + 1) % 256) : Int).toNat)) ++ ((⟨#[48, 49, 50, 51, 52, 53, 54, 55, 56, 57, 97, 98, 99, 100, 101, 102]⟩ : ByteArray).extract ((Go.bits .and .u8 a0 15) : Int).toNat ((((Go.bits .and .u8 a0 15) + 1) % 256) : Int).toNat))) else (none)) else (none)) else (none)) else (none)) else (none)) else (none)) else (none)) else (none)) else (if 0 ≤ (Go.bits .and .u8 a0 15) then (if (Go.bits .and .u8 a0 15) ≤ (((Go.bits .and .u8 a0 15) + 1) % 256) then (if (((Go.bits .and .u8 a0 15) + 1) % 256) ≤ 16 then (if 2 + ((⟨#[48, 49, 50, 51, 52, 53, 54, 55, 56, 57, 97, 98, 99, 100, 101, 102]⟩ : ByteArray).extract ((Go.bits .and .u8 a0 15) : Int).toNat ((((Go.bits .and .u8 a0 15) + 1) % 256) : Int).toNat).size ≤ 9223372036854775807 then (some ((⟨#[92, 120]⟩ : ByteArray) ++ ((⟨#[48, 49, 50, 51, 52, 53, 54, 55, 56, 57, 97, 98, 99, 100, 101, 102]⟩ : ByteArray).extract ((Go.bits .and .u8 a0 15) : Int).toNat ((((Go.bits .and .u8 a0 15) + 1) % 256) : Int).toNat))) else (none)) else (none)) else (none)) else (none))) = some r := h
  clear h
  by_cases c2 : a0 ≥ 16
  · rw [if_pos c2] at H
    have c2b0 : decide (16 ≤ a0) = true := decide_eq_true c2
    clear c2
    obtain ⟨ji3, hji3⟩ : ∃ j_ : Int, (a0 / 16) = j_ := ⟨_, rfl⟩
    replace H : (if 0 ≤ (ji3) then (if (ji3) ≤ (((ji3) + 1) % 256) then (if (((ji3) + 1) % 256) ≤ 16 then (if 2 + ((⟨#[48, 49, 50, 51, 52, 53, 54, 55, 56, 57, 97, 98, 99, 100, 101, 102]⟩ : ByteArray).extract ((ji3) : Int).toNat ((((ji3) + 1) % 256) : Int).toNat).size ≤ 9223372036854775807 then (if 0 ≤ (Go.bits .and .u8 a0 15) then (if (Go.bits .and .u8 a0 15) ≤ (((Go.bits .and .u8 a0 15) + 1) % 256) then (if (((Go.bits .and .u8 a0 15) + 1) % 256) ≤ 16 then (if ((⟨#[92, 120]⟩ : ByteArray) ++ ((⟨#[48, 49, 50, 51, 52, 53, 54, 55, 56, 57, 97, 98, 99, 100, 101, 102]⟩ : ByteArray).extract ((ji3) : Int).toNat ((((ji3) + 1) % 256) : Int).toNat)).size + ((⟨#[48, 49, 50, 51, 52, 53, 54, 55, 56, 57, 97, 98, 99, 100, 101, 102]⟩ : ByteArray).extract ((Go.bits .and .u8 a0 15) : Int).toNat ((((Go.bits .and .u8 a0 15) + 1) % 256) : Int).toNat).size ≤ 9223372036854775807 then (some (((⟨#[92, 120]⟩ : ByteArray) ++ ((⟨#[48, 49, 50, 51, 52, 53, 54, 55, 56, 57, 97, 98, 99, 100, 101, 102]⟩ : ByteArray).extract ((ji3) : Int).toNat ((((ji3) + 1) % 256) : Int).toNat)) ++ ((⟨#[48, 49, 50, 51, 52, 53, 54, 55, 56, 57, 97, 98, 99, 100, 101, 102]⟩ : ByteArray).extract ((Go.bits .and .u8 a0 15) : Int).toNat ((((Go.bits .and .u8 a0 15) + 1) % 256) : Int).toNat))) else (none)) else (none)) else (none)) else (none)) else (none)) else (none)) else (none)) else (none)) = some r := by first | (rw [hji3] at H; exact H) | (simp only [hji3] at H ⊢; exact H)
    by_cases c4 : 0 ≤ (ji3)
    · rw [if_pos c4] at H
      have c4b0 := eq_true c4
      have c4b1 : decide (0 ≤ (ji3)) = true := decide_eq_true c4
      clear c4
      by_cases c5 : (ji3) ≤ (((ji3) + 1) % 256)
      · rw [if_pos c5] at H
        have c5b0 := eq_true c5
        have c5b1 : decide ((ji3) ≤ (((ji3) + 1) % 256)) = true := decide_eq_true c5
        by_cases c6 : (((ji3) + 1) % 256) ≤ 16
        · rw [if_pos c6] at H
          have c6b0 := eq_true c6
          have c6b1 : decide ((((ji3) + 1) % 256) ≤ 16) = true := decide_eq_true c6
          by_cases c7 : 2 + ((⟨#[48, 49, 50, 51, 52, 53, 54, 55, 56, 57, 97, 98, 99, 100, 101, 102]⟩ : ByteArray).extract ((ji3) : Int).toNat ((((ji3) + 1) % 256) : Int).toNat).size ≤ 9223372036854775807
          · rw [if_pos c7] at H
            have c7b0 := eq_true c7
            have c7b1 : decide (2 + ((⟨#[48, 49, 50, 51, 52, 53, 54, 55, 56, 57, 97, 98, 99, 100, 101, 102]⟩ : ByteArray).extract ((ji3) : Int).toNat ((((ji3) + 1) % 256) : Int).toNat).size ≤ 9223372036854775807) = true := decide_eq_true c7
            try have c7b2 : (9223372036854775807 < 2 + ((⟨#[48, 49, 50, 51, 52, 53, 54, 55, 56, 57, 97, 98, 99, 100, 101, 102]⟩ : ByteArray).extract ((ji3) : Int).toNat ((((ji3) + 1) % 256) : Int).toNat).size) = False := eq_false (Nat.not_lt.2 c7)
            by_cases c8 : 0 ≤ (Go.bits .and .u8 a0 15)
            · rw [if_pos c8] at H
              have c8b0 := eq_true c8
              have c8b1 : decide (0 ≤ (Go.bits .and .u8 a0 15)) = true := decide_eq_true c8
              clear c8
              by_cases c9 : (Go.bits .and .u8 a0 15) ≤ (((Go.bits .and .u8 a0 15) + 1) % 256)
              · rw [if_pos c9] at H
                have c9b0 := eq_true c9
                have c9b1 : decide ((Go.bits .and .u8 a0 15) ≤ (((Go.bits .and .u8 a0 15) + 1) % 256)) = true := decide_eq_true c9
                by_cases c10 : (((Go.bits .and .u8 a0 15) + 1) % 256) ≤ 16
                · rw [if_pos c10] at H
                  have c10b0 := eq_true c10
                  have c10b1 : decide ((((Go.bits .and .u8 a0 15) + 1) % 256) ≤ 16) = true := decide_eq_true c10
                  by_cases c11 : ((⟨#[92, 120]⟩ : ByteArray) ++ ((⟨#[48, 49, 50, 51, 52, 53, 54, 55, 56, 57, 97, 98, 99, 100, 101, 102]⟩ : ByteArray).extract ((ji3) : Int).toNat ((((ji3) + 1) % 256) : Int).toNat)).size + ((⟨#[48, 49, 50, 51, 52, 53, 54, 55, 56, 57, 97, 98, 99, 100, 101, 102]⟩ : ByteArray).extract ((Go.bits .and .u8 a0 15) : Int).toNat ((((Go.bits .and .u8 a0 15) + 1) % 256) : Int).toNat).size ≤ 9223372036854775807
                  · rw [if_pos c11] at H
                    have c11b0 := eq_true c11
                    have c11b1 : decide (((⟨#[92, 120]⟩ : ByteArray) ++ ((⟨#[48, 49, 50, 51, 52, 53, 54, 55, 56, 57, 97, 98, 99, 100, 101, 102]⟩ : ByteArray).extract ((ji3) : Int).toNat ((((ji3) + 1) % 256) : Int).toNat)).size + ((⟨#[48, 49, 50, 51, 52, 53, 54, 55, 56, 57, 97, 98, 99, 100, 101, 102]⟩ : ByteArray).extract ((Go.bits .and .u8 a0 15) : Int).toNat ((((Go.bits .and .u8 a0 15) + 1) % 256) : Int).toNat).size ≤ 9223372036854775807) = true := decide_eq_true c11
                    try have c11b2 : (9223372036854775807 < ((⟨#[92, 120]⟩ : ByteArray) ++ ((⟨#[48, 49, 50, 51, 52, 53, 54, 55, 56, 57, 97, 98, 99, 100, 101, 102]⟩ : ByteArray).extract ((ji3) : Int).toNat ((((ji3) + 1) % 256) : Int).toNat)).size + ((⟨#[48, 49, 50, 51, 52, 53, 54, 55, 56, 57, 97, 98, 99, 100, 101, 102]⟩ : ByteArray).extract ((Go.bits .and .u8 a0 15) : Int).toNat ((((Go.bits .and .u8 a0 15) + 1) % 256) : Int).toNat).size) = False := eq_false (Nat.not_lt.2 c11)
                    obtain rfl := Option.some.inj H
                    go_enter Tryd.func35, Tryd.ntmps35
                    go_wp2
                    go_ret
                    exact ⟨by first | rfl | (simp; done) | (simp only [← hji3] <;> (first | rfl | simp)) | (simp [*]; done), by repeat (first | exact Drawn0.refl _ | apply Drawn0.step)⟩
                  · rw [if_neg c11] at H
                    exact absurd H (by simp)
                · rw [if_neg c10] at H
                  exact absurd H (by simp)
              · rw [if_neg c9] at H
                exact absurd H (by simp)
            · rw [if_neg c8] at H
              exact absurd H (by simp)
          · rw [if_neg c7] at H
            exact absurd H (by simp)
        · rw [if_neg c6] at H
          exact absurd H (by simp)
      · rw [if_neg c5] at H
        exact absurd H (by simp)
    · rw [if_neg c4] at H
      exact absurd H (by simp)
  · rw [if_neg c2] at H
    have c2b0 : decide (16 ≤ a0) = false := decide_eq_false c2
    clear c2
    by_cases c12 : 0 ≤ (Go.bits .and .u8 a0 15)
    · rw [if_pos c12] at H
      have c12b0 := eq_true c12
      have c12b1 : decide (0 ≤ (Go.bits .and .u8 a0 15)) = true := decide_eq_true c12
      clear c12
      by_cases c13 : (Go.bits .and .u8 a0 15) ≤ (((Go.bits .and .u8 a0 15) + 1) % 256)
      · rw [if_pos c13] at H
        have c13b0 := eq_true c13
        have c13b1 : decide ((Go.bits .and .u8 a0 15) ≤ (((Go.bits .and .u8 a0 15) + 1) % 256)) = true := decide_eq_true c13
        by_cases c14 : (((Go.bits .and .u8 a0 15) + 1) % 256) ≤ 16
        · rw [if_pos c14] at H
          have c14b0 := eq_true c14
          have c14b1 : decide ((((Go.bits .and .u8 a0 15) + 1) % 256) ≤ 16) = true := decide_eq_true c14
          by_cases c15 : 2 + ((⟨#[48, 49, 50, 51, 52, 53, 54, 55, 56, 57, 97, 98, 99, 100, 101, 102]⟩ : ByteArray).extract ((Go.bits .and .u8 a0 15) : Int).toNat ((((Go.bits .and .u8 a0 15) + 1) % 256) : Int).toNat).size ≤ 9223372036854775807
          · rw [if_pos c15] at H
            have c15b0 := eq_true c15
            have c15b1 : decide (2 + ((⟨#[48, 49, 50, 51, 52, 53, 54, 55, 56, 57, 97, 98, 99, 100, 101, 102]⟩ : ByteArray).extract ((Go.bits .and .u8 a0 15) : Int).toNat ((((Go.bits .and .u8 a0 15) + 1) % 256) : Int).toNat).size ≤ 9223372036854775807) = true := decide_eq_true c15
            try have c15b2 : (9223372036854775807 < 2 + ((⟨#[48, 49, 50, 51, 52, 53, 54, 55, 56, 57, 97, 98, 99, 100, 101, 102]⟩ : ByteArray).extract ((Go.bits .and .u8 a0 15) : Int).toNat ((((Go.bits .and .u8 a0 15) + 1) % 256) : Int).toNat).size) = False := eq_false (Nat.not_lt.2 c15)
            obtain rfl := Option.some.inj H
            go_enter Tryd.func35, Tryd.ntmps35
            go_wp2
            go_ret
            exact ⟨by first | rfl | (simp; done) | (simp [*]; done), by repeat (first | exact Drawn0.refl _ | apply Drawn0.step)⟩
          · rw [if_neg c15] at H
            exact absurd H (by simp)
        · rw [if_neg c14] at H
          exact absurd H (by simp)
      · rw [if_neg c13] at H
        exact absurd H (by simp)
    · rw [if_neg c12] at H
      exact absurd H (by simp)

end Go.Proofs.YtlmmgienbmghmaaDoor.B
