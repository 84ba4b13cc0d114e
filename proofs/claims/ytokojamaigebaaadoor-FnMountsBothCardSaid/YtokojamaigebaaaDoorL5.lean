-- written by a program of this session (wip/tools/pp.py)
import Derived.Test.YtokojamaigebaaaDoorL0
namespace Go.Proofs.YtokojamaigebaaaDoor.L
open Go.RowKit Go.Proofs.YtokojamaigebaaaDoorW.PrintWords Go.Proofs.YtokojamaigebaaaDoorW.PrintLast Go.Proofs.YtokojamaigebaaaDoor.M Go.Proofs.YtokojamaigebaaaDoor.MtDoor Go.Proofs.YtokojamaigebaaaDoorW.PrintMore
attribute [local go_sem] max2_int min2_int max_two min_two max_three min_three max_four min_four   -- for this text's walks alone
set_option linter.unusedVariables false
set_option linter.unusedSimpArgs false

/-! ### spec_natural: function 32 -/
def spec_natural.f : Nat → Int → Option (ByteArray)
 | 0, _ => none
 | k + 1, a0 => if a0 < 10 then (some (strOfNums (([(wrap64 (48 + a0)) % 256] : List Int)))) else ((spec_natural.f k (wrap64 (Int.tdiv a0 10))).bind fun t129 => ((some (([(wrap64 (48 + (Int.tmod a0 10))) % 256] : List Int) : List Int)).bind fun y130 => (if t129.size + (strOfNums y130).size ≤ 9223372036854775807 then (some (t129 ++ (strOfNums y130))) else (none))))
theorem spec_natural.mono_l : ∀ k, (∀ y0, LeO (spec_natural.f k y0) (spec_natural.f (k + 1) y0))
 | 0 => fun _ r h => by simp [spec_natural.f] at h
 | k + 1 => by
  have ih0 := spec_natural.mono_l k
  ·intro y0
   unfold spec_natural.f
   repeat' first
   | (with_reducible exact ih0 _)
   | (with_reducible exact LeO.refl _)
   | (with_reducible exact LeO.none _)
   | (with_reducible refine LeO.ite ?_ ?_)
   | (with_reducible refine LeO.bind ?_ (fun _ => ?_))
   | exact ih0 _
   | exact LeO.none _
   | refine LeO.ite ?_ ?_
   | refine LeO.bind ?_ (fun _ => ?_)
theorem spec_natural.mono : ∀ a0 k, LeO (spec_natural.f k a0) (spec_natural.f (k + 1) a0) := by
 intro a0 k
 have ih0 := spec_natural.mono_l k
 exact ih0 a0
def spec_natural.T3 : Bool × List (List Nat × List Nat) := (true, [([], []), ([0], [0]), ([1], [1]), ([], []), ([3], [3]), ([4], [4]), ([5], [5]), ([6], [6]), ([7], [7]), ([2, 8], [2, 8]), ([9, 2, 0, 1, 2, 3, 4, 5, 6, 7, 8, 9], [9])])
def spec_natural.B3 : List Nat := [0, 1, 3, 0, 8, 24, 56, 120, 248, 511, 1023]
theorem spec_natural.tab3 : rtab .any (opsOf Tryd.f32 3) = spec_natural.T3 := by kernel_rfl
theorem spec_natural.bits3 : waitsOk spec_natural.T3.2 spec_natural.B3 = true := by kernel_rfl
set_option maxHeartbeats 8000000 in
set_option maxRecDepth 100000 in
theorem spec_natural.calls (k : Nat) : ∀ (a0 : Int) (r : ByteArray) (w : World) (h : spec_natural.f k a0 = some r),
  Calls Tryd.prog 32 #[.int .i64 a0] w fun e w' => e = .returned (.string r) ∧ Below w.heap.size w w' := by
 induction k using Nat.strongRecOn with
 | _ k ih =>
 intro a0 r w h
 cases k with
 | zero => exact absurd h (by simp [spec_natural.f])
 | succ k =>
 simp only [spec_natural.f] at h
 have HB := Aside0.mk (Below.refl w.heap.size w)
 have H : (if a0 < 10 then (some (strOfNums (([(wrap64 (48 + a0)) % 256] : List Int)))) else ((spec_natural.f k (wrap64 (Int.tdiv a0 10))).bind fun t129 => ((some (([(wrap64 (48 + (Int.tmod a0 10))) % 256] : List Int) : List Int)).bind fun y130 => (if t129.size + (strOfNums y130).size ≤ 9223372036854775807 then (some (t129 ++ (strOfNums y130))) else (none))))) = some r := h
 clear h
 by_cases c2 : a0 < 10
 ·rw [if_pos c2] at H
  have c2b0 : decide (a0 < 10) = true := decide_eq_true c2
  clear c2
  obtain ⟨y126, hy126⟩ : ∃ y_ : List Int, y_ = (([(wrap64 (48 + a0)) % 256] : List Int)) := ⟨_, rfl⟩
  replace H : (some (strOfNums y126)) = some r := by first | (rw [hy126]; with_reducible exact H) | (have H2_ := (Option.bind_some _ _).symm.trans H; rw [hy126]; with_reducible exact H2_) | (have H2_ := (Option.bind_some _ _).symm.trans H; with_reducible exact H2_) | with_reducible exact H | (rw [hy126]; exact H) | exact H
  have Ny126 := Aside0.mk hy126
  clear hy126
  obtain rfl := Option.some.inj H
  go_enter Tryd.func32, Tryd.ntmps32
  go_wp2_with (first | ((with_reducible refine gate_dst (N := 8) rfl ?_); refine Kd.R_lit (Kd.int .u8) _ 5 ?hg (N := 8) ?hd (xs := ([(wrap64 (48 + a0)) % 256] : List Int)) (inner := [.int .u8 ((wrap64 (48 + a0)) % 256)]) (ok := fun _ => True) (okp := fun _ => True) ?hr ?hp (fun _ hk => hk) trivial (Below.refl _ _) (Nat.le_refl _) (by simp) ?_; (case hd => rfl); (case hg => rfl); (case hr => first | (go_simp; done) | (go_simp; rfl)); (case hp => exact (Reps.one (show Kd.M (Kd.int .u8) _ _ _ ((wrap64 (48 + a0)) % 256) [.int .u8 ((wrap64 (48 + a0)) % 256)] from rfl) (Reps.none _ _))); intro v127 w3 ho4 hb hg_ hnew_; clear hg_ hnew_; (first | rw [← Ny126.out] at ho4 | (simp only [Int.reduceToNat] at ho4; rw [← Ny126.out] at ho4)); have n0_ := Aside0.mk (Kd.R_lower ho4 (below_size belH)); have n1_ := Aside0.mk (below_step belH hb); clear HB; have HO128 := n0_; have HB := n1_; clear n0_ n1_; clear hb ho4; have hcv5 := own_string (P := Tryd.prog) Tryd.underlying82 Tryd.underlying5 Tryd.underlying9 (Kd.own_of_R HO128.out)))
  go_ret
  exact ⟨by first | rfl | (simp [errW_none, errW_some] <;> rfl) | (simp [*, errW_none, errW_some] <;> rfl), by repeat (first | (with_reducible first | exact HB.out | apply below_alloc | apply pw_below_drewN | apply below_drew1) | exact HB.out)⟩
 ·rw [if_neg c2] at H
  have c2b0 : decide (a0 < 10) = false := decide_eq_false c2
  clear c2
  replace H := Option.bind_eq_some_iff.mp H
  obtain ⟨t129, A60, H⟩ := H
  have A6 := Aside0.mk A60
  clear A60
  obtain ⟨y130, hy130⟩ : ∃ y_ : List Int, y_ = (([(wrap64 (48 + (Int.tmod a0 10))) % 256] : List Int)) := ⟨_, rfl⟩
  replace H : (if t129.size + (strOfNums y130).size ≤ 9223372036854775807 then (some (t129 ++ (strOfNums y130))) else (none)) = some r := by first | (rw [hy130]; with_reducible exact H) | (have H2_ := (Option.bind_some _ _).symm.trans H; rw [hy130]; with_reducible exact H2_) | (have H2_ := (Option.bind_some _ _).symm.trans H; with_reducible exact H2_) | with_reducible exact H | (rw [hy130]; exact H) | exact H
  have Ny130 := Aside0.mk hy130
  clear hy130
  by_cases c7 : t129.size + (strOfNums y130).size ≤ 9223372036854775807
  ·rw [if_pos c7] at H
   have c7b0 := eq_true c7
   have c7b1 : decide (t129.size + (strOfNums y130).size ≤ 9223372036854775807) = true := decide_eq_true c7
   try have c7b2 : (9223372036854775807 < t129.size + (strOfNums y130).size) = False := eq_false (Nat.not_lt.2 c7)
   obtain rfl := Option.some.inj H
   go_enter Tryd.func32, Tryd.ntmps32
   try go_wp2
   have n0_ := Aside0.mk (below_drew1 HB.out)
   clear HB
   have HB := n0_
   clear n0_
   refine start_ (n := 11) (S := fun w' => True) (ds := []) (tfA 0 11) (by kernel_rfl) rfl rfl trivial (fun hHeld => ?_); refine with_tabW spec_natural.tab3 spec_natural.bits3 (fun HT_ HW_ => ?_)
   generalize w.drew = w8 at HB hHeld ⊢
   refine pure_ (i := 0) (N := some 10) (v := ?_) (a' := ?_) (tfA 1 10) rfl rfl (any_of HT_.out (by kernel_rfl)) (fun _ _ _ h => h) (Or.inl ⟨by rfl, ?_⟩) ?_ ?_
   rotate_left
   ·intro w'
    go_simp
    with_reducible rfl
   rotate_left
   ·simp only [Act.put, sA, s0, s1, i64_w, i32_w]
    rfl
   refine pure_ (i := 1) (N := some 11) (v := ?_) (a' := ?_) (tfA 2 9) rfl rfl (any_of HT_.out (by kernel_rfl)) (fun _ _ _ h => h) (Or.inl ⟨by rfl, ?_⟩) ?_ ?_
   rotate_left
   ·intro w'
    go_simp
    with_reducible rfl
   rotate_left
   ·simp only [Act.put, sA, s0, s1, i64_w, i32_w]
    rfl
   refine pure_ (i := 3) (N := some 13) (v := ?_) (a' := ?_) (bnA 11 11) rfl rfl (any_of HT_.out (by kernel_rfl)) (fun _ _ _ h => h) (Or.inl ⟨by rfl, ?_⟩) ?_ ?_
   rotate_left
   ·intro w'
    go_simp
    with_reducible rfl
   rotate_left
   ·simp only [Act.put, sA, s0, s1, i64_w, i32_w]
    rfl
   refine pure_ (i := 4) (N := some 14) (v := ?_) (a' := ?_) (bnA 11 27) rfl rfl (any_of HT_.out (by kernel_rfl)) (fun _ _ _ h => h) (Or.inl ⟨by rfl, ?_⟩) ?_ ?_
   rotate_left
   ·intro w'
    go_simp
    with_reducible rfl
   rotate_left
   ·simp only [Act.put, sA, s0, s1, i64_w, i32_w]
    rfl
   refine pure_ (i := 5) (N := some 15) (v := ?_) (a' := ?_) (bnA 11 59) rfl rfl (any_of HT_.out (by kernel_rfl)) (fun _ _ _ h => h) (Or.inl ⟨by rfl, ?_⟩) ?_ ?_
   rotate_left
   ·intro w'
    go_simp
    with_reducible rfl
   rotate_left
   ·simp only [Act.put, sA, s0, s1, i64_w, i32_w]
    rfl
   refine pure_ (i := 6) (N := some 16) (v := ?_) (a' := ?_) (bnA 11 123) rfl rfl (any_of HT_.out (by kernel_rfl)) (fun _ _ _ h => h) (Or.inl ⟨by rfl, ?_⟩) ?_ ?_
   rotate_left
   ·intro w'
    go_simp
    with_reducible rfl
   rotate_left
   ·simp only [Act.put, sA, s0, s1, i64_w, i32_w]
    rfl
   refine join_ (σ := Value) 2 (tfA 9 2) (fun s_ => [(12, .string t129), (17, s_), (18, .string (strOfNums y130))]) (fun s_ w' => (Kd.R (Kd.int .u8) 5 w' w.heap.size (fun _ => True) s_ y130) ∧ (Below w.heap.size w w')) ?_ ?_
   rotate_left
   ·intro hCont
    refine two_ (i := 2) (j := 7) (Ni := some 12) (Nj := some 17) (tfA 7 4) (bnA 11 251) rfl rfl rfl rfl (two_of HT_.out (by kernel_rfl)) (by decide) (by decide) (fun K hK => ?_) (fun K hK => ?_)
    ·skip
     refine goes_ Tryd.func32 (by kernel_rfl) rfl #[.int .i64 (wrap64 (Int.tdiv a0 10))] (by rfl) rfl rfl (by (try simp only [List.map_toArray, List.map_cons, List.map_nil]); first | done | rfl | (simp only [List.length_drop, List.length_take]; rfl)) ?_
     with_reducible refine (ih k (by omega) (wrap64 (Int.tdiv a0 10)) t129 _ A6.out).mono ?_
     rintro e w9 ⟨rfl, hb⟩
     refine ⟨_, rfl, ?_⟩
     have n0_ := Aside0.mk (below_step belH hb)
     clear HB
     have HB := n0_
     clear n0_
     (try clear hb)
     (try clear hb2)
     (try clear hk)
     (try clear hi)
     refine hK.out _ _ trivial (fun hHeld => ?_)
     clear hK K
     refine norm_ (a' := ?_) ?_ ?_
     rotate_left
     ·show Act.put _ (some 12) _ = _
      simp only [Act.put, sA, s0, s1, i64_w, i32_w]
      rfl
     refine one_ (i := 7) (N := some 17) (tfA 8 3) rfl rfl (one_of HT_.out (by kernel_rfl)) (by decide) (fun K hK => ?_)
     refine Kd.R_lit_step (Kd.int .u8) _ 5 ?hg (N := 17) ?hd (xs := ([(wrap64 (48 + (Int.tmod a0 10))) % 256] : List Int)) (inner := [.int .u8 ((wrap64 (48 + (Int.tmod a0 10))) % 256)]) (ok := fun _ => True) (okp := fun _ => True) ?hr ?hp (fun _ hk => hk) trivial (Below.refl _ _) (Nat.le_refl _) (by simp) ?_; (case hd => rfl); (case hg => rfl); (case hr => first | (go_simp; done) | (go_simp; rfl)); (case hp => exact (Reps.one (show Kd.M (Kd.int .u8) _ _ _ ((wrap64 (48 + (Int.tmod a0 10))) % 256) [.int .u8 ((wrap64 (48 + (Int.tmod a0 10))) % 256)] from rfl) (Reps.none _ _)))
     intro v131 w10 ho11 hb hg_ hnew_
     clear hg_ hnew_
     (first | rw [← Ny130.out] at ho11 | (simp only [Int.reduceToNat] at ho11; rw [← Ny130.out] at ho11))
     have n0_ := Aside0.mk (Kd.R_lower ho11 (below_size belH))
     have n1_ := Aside0.mk (below_step belH hb)
     clear HB
     have HO132 := n0_
     have HB := n1_
     clear n0_ n1_
     clear hb ho11
     refine hK.out _ _ trivial (fun hHeld => ?_)
     clear hK K
     refine norm_ (a' := ?_) ?_ ?_
     rotate_left
     ·show Act.put _ (some 17) _ = _
      simp only [Act.put, sA, s0, s1, i64_w, i32_w]
      rfl
     refine one_ (i := 8) (N := some 18) (tfA 9 2) rfl rfl (one_of HT_.out (by kernel_rfl)) (by decide) (fun K hK => ?_)
     have hcv12 := own_string (P := Tryd.prog) Tryd.underlying82 Tryd.underlying5 Tryd.underlying9 (Kd.own_of_R HO132.out)
     refine value_ (w1 := ?_) (v := ?_) (by rfl) rfl ?_ ?_
     rotate_left 2
     ·go_simp
      constructor
      ·rfl
      ·rfl
     clear hcv12
     refine hK.out _ _ trivial (fun hHeld => ?_)
     clear hK K
     refine norm_ (a' := ?_) ?_ ?_
     rotate_left
     ·show Act.put _ (some 18) _ = _
      simp only [Act.put, sA, s0, s1, i64_w, i32_w]
      rfl
     exact norm_ (by simp only [putAll, Act.put, List.setIfInBounds_toArray, List.set_cons_zero, List.set_cons_succ]) (hCont (v131) _ ⟨(by (with_reducible repeat (first | apply Kd.R_alloc | apply Kd.R_drewN | apply Kd.R_drew)); exact HO132.out), belH⟩)
    ·skip
     refine Kd.R_lit_step (Kd.int .u8) _ 5 ?hg (N := 17) ?hd (xs := ([(wrap64 (48 + (Int.tmod a0 10))) % 256] : List Int)) (inner := [.int .u8 ((wrap64 (48 + (Int.tmod a0 10))) % 256)]) (ok := fun _ => True) (okp := fun _ => True) ?hr ?hp (fun _ hk => hk) trivial (Below.refl _ _) (Nat.le_refl _) (by simp) ?_; (case hd => rfl); (case hg => rfl); (case hr => first | (go_simp; done) | (go_simp; rfl)); (case hp => exact (Reps.one (show Kd.M (Kd.int .u8) _ _ _ ((wrap64 (48 + (Int.tmod a0 10))) % 256) [.int .u8 ((wrap64 (48 + (Int.tmod a0 10))) % 256)] from rfl) (Reps.none _ _)))
     intro v131 w9 ho10 hb hg_ hnew_
     clear hg_ hnew_
     (first | rw [← Ny130.out] at ho10 | (simp only [Int.reduceToNat] at ho10; rw [← Ny130.out] at ho10))
     have n0_ := Aside0.mk (Kd.R_lower ho10 (below_size belH))
     have n1_ := Aside0.mk (below_step belH hb)
     clear HB
     have HO132 := n0_
     have HB := n1_
     clear n0_ n1_
     clear hb ho10
     refine hK.out _ _ trivial (fun hHeld => ?_)
     clear hK K
     refine norm_ (a' := ?_) ?_ ?_
     rotate_left
     ·show Act.put _ (some 17) _ = _
      simp only [Act.put, sA, s0, s1, i64_w, i32_w]
      rfl
     refine two_ (i := 2) (j := 8) (Ni := some 12) (Nj := some 18) (tfA 8 3) (bnA 11 507) rfl rfl rfl rfl (two_of HT_.out (by kernel_rfl)) (by decide) (by decide) (fun K hK => ?_) (fun K hK => ?_)
     ·skip
      refine goes_ Tryd.func32 (by kernel_rfl) rfl #[.int .i64 (wrap64 (Int.tdiv a0 10))] (by rfl) rfl rfl (by (try simp only [List.map_toArray, List.map_cons, List.map_nil]); first | done | rfl | (simp only [List.length_drop, List.length_take]; rfl)) ?_
      with_reducible refine (ih k (by omega) (wrap64 (Int.tdiv a0 10)) t129 _ A6.out).mono ?_
      rintro e w11 ⟨rfl, hb⟩
      refine ⟨_, rfl, ?_⟩
      have n0_ := Aside0.mk (Kd.R_below (by (with_reducible repeat (first | apply Kd.R_alloc | apply Kd.R_drewN | apply Kd.R_drew)); exact HO132.out) hb)
      have n1_ := Aside0.mk (below_step belH hb)
      clear HO132
      clear HB
      have HO132 := n0_
      have HB := n1_
      clear n0_ n1_
      (try clear hb)
      (try clear hb2)
      (try clear hk)
      (try clear hi)
      refine hK.out _ _ trivial (fun hHeld => ?_)
      clear hK K
      refine norm_ (a' := ?_) ?_ ?_
      rotate_left
      ·show Act.put _ (some 12) _ = _
       simp only [Act.put, sA, s0, s1, i64_w, i32_w]
       rfl
      refine one_ (i := 8) (N := some 18) (tfA 9 2) rfl rfl (one_of HT_.out (by kernel_rfl)) (by decide) (fun K hK => ?_)
      have hcv12 := own_string (P := Tryd.prog) Tryd.underlying82 Tryd.underlying5 Tryd.underlying9 (Kd.own_of_R HO132.out)
      refine value_ (w1 := ?_) (v := ?_) (by rfl) rfl ?_ ?_
      rotate_left 2
      ·go_simp
       constructor
       ·rfl
       ·rfl
      clear hcv12
      refine hK.out _ _ trivial (fun hHeld => ?_)
      clear hK K
      refine norm_ (a' := ?_) ?_ ?_
      rotate_left
      ·show Act.put _ (some 18) _ = _
       simp only [Act.put, sA, s0, s1, i64_w, i32_w]
       rfl
      exact norm_ (by simp only [putAll, Act.put, List.setIfInBounds_toArray, List.set_cons_zero, List.set_cons_succ]) (hCont (v131) _ ⟨(by (with_reducible repeat (first | apply Kd.R_alloc | apply Kd.R_drewN | apply Kd.R_drew)); exact HO132.out), belH⟩)
     ·skip
      have hcv11 := own_string (P := Tryd.prog) Tryd.underlying82 Tryd.underlying5 Tryd.underlying9 (Kd.own_of_R HO132.out)
      refine value_ (w1 := ?_) (v := ?_) (by rfl) rfl ?_ ?_
      rotate_left 2
      ·go_simp
       constructor
       ·rfl
       ·rfl
      clear hcv11
      refine hK.out _ _ trivial (fun hHeld => ?_)
      clear hK K
      refine norm_ (a' := ?_) ?_ ?_
      rotate_left
      ·show Act.put _ (some 18) _ = _
       simp only [Act.put, sA, s0, s1, i64_w, i32_w]
       rfl
      refine one_ (i := 2) (N := some 12) (tfA 9 2) rfl rfl (one_of HT_.out (by kernel_rfl)) (by decide) (fun K hK => ?_)
      refine goes_ Tryd.func32 (by kernel_rfl) rfl #[.int .i64 (wrap64 (Int.tdiv a0 10))] (by rfl) rfl rfl (by (try simp only [List.map_toArray, List.map_cons, List.map_nil]); first | done | rfl | (simp only [List.length_drop, List.length_take]; rfl)) ?_
      with_reducible refine (ih k (by omega) (wrap64 (Int.tdiv a0 10)) t129 _ A6.out).mono ?_
      rintro e w12 ⟨rfl, hb⟩
      refine ⟨_, rfl, ?_⟩
      have n0_ := Aside0.mk (Kd.R_below (by (with_reducible repeat (first | apply Kd.R_alloc | apply Kd.R_drewN | apply Kd.R_drew)); exact HO132.out) hb)
      have n1_ := Aside0.mk (below_step belH hb)
      clear HO132
      clear HB
      have HO132 := n0_
      have HB := n1_
      clear n0_ n1_
      (try clear hb)
      (try clear hb2)
      (try clear hk)
      (try clear hi)
      refine hK.out _ _ trivial (fun hHeld => ?_)
      clear hK K
      refine norm_ (a' := ?_) ?_ ?_
      rotate_left
      ·show Act.put _ (some 12) _ = _
       simp only [Act.put, sA, s0, s1, i64_w, i32_w]
       rfl
      exact norm_ (by simp only [putAll, Act.put, List.setIfInBounds_toArray, List.set_cons_zero, List.set_cons_succ]) (hCont (v131) _ ⟨(by (with_reducible repeat (first | apply Kd.R_alloc | apply Kd.R_drewN | apply Kd.R_drew)); exact HO132.out), belH⟩)
   rintro v131 w13 ⟨h0_, h1_⟩
   have n0_ : Aside0 (Kd.R (Kd.int .u8) 5 w13 w.heap.size (fun _ => True) v131 y130) := ⟨h0_⟩
   have n1_ : Aside0 (Below w.heap.size w w13) := ⟨h1_⟩
   clear HB
   clear h0_ h1_
   have HO132 := n0_
   have HB := n1_
   clear n0_ n1_
   have hHeld := trivial
   refine norm_ (a' := ?_) ?_ ?_
   rotate_left
   ·simp only [putAll, Act.put, List.setIfInBounds_toArray, List.set_cons_zero, List.set_cons_succ]
    rfl
   refine pure_ (i := 9) (N := some 19) (v := ?_) (a' := ?_) (tfA 10 1) rfl rfl (any_of HT_.out (by kernel_rfl)) (fun _ _ _ h => h) (Or.inl ⟨by rfl, ?_⟩) ?_ ?_
   rotate_left
   ·intro w'
    go_simp
    with_reducible rfl
   rotate_left
   ·simp only [Act.put, sA, s0, s1, i64_w, i32_w]
    rfl
   refine pure_ (i := 10) (N := some 2) (v := ?_) (a' := ?_) (tfA 11 0) rfl rfl (any_of HT_.out (by kernel_rfl)) (fun _ _ _ h => h) (Or.inl ⟨by rfl, ?_⟩) ?_ ?_
   rotate_left
   ·intro w'
    go_simp
    with_reducible rfl
   rotate_left
   ·simp only [Act.put, sA, s0, s1, i64_w, i32_w]
    rfl
   refine done_ (done_of HT_.out (by kernel_rfl)) ?_
   try go_wp2
   go_ret
   exact ⟨by first | rfl | (simp [errW_none, errW_some] <;> rfl) | (simp [*, errW_none, errW_some] <;> rfl), by repeat (first | (with_reducible first | exact HB.out | apply below_alloc | apply pw_below_drewN | apply below_drew1) | exact HB.out)⟩
  ·rw [if_neg c7] at H
   exact absurd H (by simp)

/-! ### spec_octal: function 33 -/
def spec_octal.l0 : Nat → ByteArray → ByteArray → Int → Int → Option (ByteArray)
 | 0, _, _, _, _ => none
 | k + 1, x0, x3, x7, x8 => if x8 < x7 then (if 0 ≤ x8 then (if x8 < (x0.size : Int) then (if (bt x0 x8) = 32 then ((some (([(48 + ((bt x0 x8) / 64)) % 256, (48 + (Go.bits .and .u8 ((bt x0 x8) / 8) 7)) % 256, (48 + (Go.bits .and .u8 (bt x0 x8) 7)) % 256] : List Int) : List Int)).bind fun y133 => (if 1 + (strOfNums y133).size ≤ 9223372036854775807 then (if x3.size + ((⟨#[92]⟩ : ByteArray) ++ (strOfNums y133)).size ≤ 9223372036854775807 then (spec_octal.l0 k x0 (x3 ++ ((⟨#[92]⟩ : ByteArray) ++ (strOfNums y133))) x7 (wrap64 (x8 + 1))) else (none)) else (none))) else (if (bt x0 x8) = 9 then ((some (([(48 + ((bt x0 x8) / 64)) % 256, (48 + (Go.bits .and .u8 ((bt x0 x8) / 8) 7)) % 256, (48 + (Go.bits .and .u8 (bt x0 x8) 7)) % 256] : List Int) : List Int)).bind fun y136 => (if 1 + (strOfNums y136).size ≤ 9223372036854775807 then (if x3.size + ((⟨#[92]⟩ : ByteArray) ++ (strOfNums y136)).size ≤ 9223372036854775807 then (spec_octal.l0 k x0 (x3 ++ ((⟨#[92]⟩ : ByteArray) ++ (strOfNums y136))) x7 (wrap64 (x8 + 1))) else (none)) else (none))) else (if (bt x0 x8) = 10 then ((some (([(48 + ((bt x0 x8) / 64)) % 256, (48 + (Go.bits .and .u8 ((bt x0 x8) / 8) 7)) % 256, (48 + (Go.bits .and .u8 (bt x0 x8) 7)) % 256] : List Int) : List Int)).bind fun y139 => (if 1 + (strOfNums y139).size ≤ 9223372036854775807 then (if x3.size + ((⟨#[92]⟩ : ByteArray) ++ (strOfNums y139)).size ≤ 9223372036854775807 then (spec_octal.l0 k x0 (x3 ++ ((⟨#[92]⟩ : ByteArray) ++ (strOfNums y139))) x7 (wrap64 (x8 + 1))) else (none)) else (none))) else (if (bt x0 x8) = 92 then ((some (([(48 + ((bt x0 x8) / 64)) % 256, (48 + (Go.bits .and .u8 ((bt x0 x8) / 8) 7)) % 256, (48 + (Go.bits .and .u8 (bt x0 x8) 7)) % 256] : List Int) : List Int)).bind fun y142 => (if 1 + (strOfNums y142).size ≤ 9223372036854775807 then (if x3.size + ((⟨#[92]⟩ : ByteArray) ++ (strOfNums y142)).size ≤ 9223372036854775807 then (spec_octal.l0 k x0 (x3 ++ ((⟨#[92]⟩ : ByteArray) ++ (strOfNums y142))) x7 (wrap64 (x8 + 1))) else (none)) else (none))) else (if x8 ≤ (wrap64 (x8 + 1)) then (if (wrap64 (x8 + 1)) ≤ (x0.size : Int) then (if x3.size + (x0.extract (x8 : Int).toNat ((wrap64 (x8 + 1)) : Int).toNat).size ≤ 9223372036854775807 then (spec_octal.l0 k x0 (x3 ++ (x0.extract (x8 : Int).toNat ((wrap64 (x8 + 1)) : Int).toNat)) x7 (wrap64 (x8 + 1))) else (none)) else (none)) else (none)))))) else (none)) else (none)) else (some x3)
def spec_octal.f (k : Nat) (a0 : ByteArray) : Option (ByteArray) := spec_octal.l0 k a0 (⟨#[]⟩ : ByteArray) (a0.size : Int) 0
theorem spec_octal.mono_l : ∀ k, (∀ y0 y1 y2 y3, LeO (spec_octal.l0 k y0 y1 y2 y3) (spec_octal.l0 (k + 1) y0 y1 y2 y3))
 | 0 => fun _ _ _ _ r h => by simp [spec_octal.l0] at h
 | k + 1 => by
  have ih0 := spec_octal.mono_l k
  ·intro y0 y1 y2 y3
   unfold spec_octal.l0
   repeat' first
   | (with_reducible exact ih0 _ _ _ _)
   | (with_reducible exact LeO.refl _)
   | (with_reducible exact LeO.none _)
   | (with_reducible refine LeO.ite ?_ ?_)
   | (with_reducible refine LeO.bind ?_ (fun _ => ?_))
   | exact ih0 _ _ _ _
   | exact LeO.none _
   | refine LeO.ite ?_ ?_
   | refine LeO.bind ?_ (fun _ => ?_)
theorem spec_octal.mono : ∀ a0 k, LeO (spec_octal.f k a0) (spec_octal.f (k + 1) a0) := by
 intro a0 k
 have ih0 := spec_octal.mono_l k
 unfold spec_octal.f
 repeat' first
   | (with_reducible exact ih0 _ _ _ _)
   | (with_reducible exact LeO.refl _)
   | (with_reducible exact LeO.none _)
   | (with_reducible refine LeO.ite ?_ ?_)
   | (with_reducible refine LeO.bind ?_ (fun _ => ?_))
   | exact ih0 _ _ _ _
   | exact LeO.none _
   | refine LeO.ite ?_ ?_
   | refine LeO.bind ?_ (fun _ => ?_)
set_option maxHeartbeats 8000000 in
set_option maxRecDepth 100000 in
theorem spec_octal.calls (k : Nat) (a0 : ByteArray) (r : ByteArray) (w : World) (h : spec_octal.f k a0 = some r) :
  Calls Tryd.prog 33 #[.string a0] w fun e w' => e = .returned (.string r) ∧ Below w.heap.size w w' := by
 have HB := Aside0.mk (Below.refl w.heap.size w)
 have H : (spec_octal.l0 k a0 (⟨#[]⟩ : ByteArray) (a0.size : Int) 0) = some r := h
 clear h
 have H' := Aside0.mk H
 clear H
 go_enter Tryd.func33, Tryd.ntmps33
 go_wp2
 go_loopg [3, 8] k (fun kq v3 v8 w' => ∃ (x3_1 : ByteArray) (x8_1 : Int), v3 = .string x3_1 ∧ v8 = .int .i64 x8_1 ∧ Aside0 (spec_octal.l0 kq a0 x3_1 (a0.size : Int) x8_1 = some r) ∧ Aside0 (kq ≤ k) ∧ Aside0 (Below w.heap.size w w'))
 case atStart => exact ⟨((⟨#[]⟩ : ByteArray)), (0), (by first | rfl | (simp; done) | (simp [*]; done) | (simp [bne_nil]; done) | (simp [bne_nil, *]; done)), (by first | rfl | (simp; done) | (simp [*]; done) | (simp [bne_nil]; done) | (simp [bne_nil, *]; done)), H', ⟨Nat.le_refl _⟩, ⟨by repeat (first | (with_reducible first | exact HB.out | apply below_alloc | apply pw_below_drewN | apply below_drew1) | exact HB.out)⟩⟩
 case round =>
  clear H'
  obtain ⟨x3_1, x8_1, rfl, rfl, HA, HK1, HB⟩ := hrel
  cases gk with
  | zero => exact absurd HA.out (by simp [spec_octal.l0])
  | succ k1 =>
   have H := HA.out
   clear HA
   simp only [spec_octal.l0] at H
   by_cases c2 : x8_1 < (a0.size : Int)
   ·rw [if_pos c2] at H
    have c2b0 : decide (x8_1 < (a0.size : Int)) = true := decide_eq_true c2
    clear c2
    by_cases c3 : 0 ≤ x8_1
    ·rw [if_pos c3] at H
     have c3b0 : decide (0 ≤ x8_1) = true := decide_eq_true c3
     clear c3
     by_cases c4 : x8_1 < (a0.size : Int)
     ·rw [if_pos c4] at H
      have c4b0 : decide (x8_1 < (a0.size : Int)) = true := decide_eq_true c4
      clear c4
      by_cases c6 : (bt a0 x8_1) = 32
      ·rw [if_pos c6] at H
       have c6b0 : ((bt a0 x8_1) == 32) = true := beq_iff_eq.mpr c6
       have c6b1 : ((bt a0 x8_1) != 32) = false := bne_eq_false_iff_eq.mpr c6
       clear c6
       obtain ⟨y133, hy133⟩ : ∃ y_ : List Int, y_ = (([(48 + ((bt a0 x8_1) / 64)) % 256, (48 + (Go.bits .and .u8 ((bt a0 x8_1) / 8) 7)) % 256, (48 + (Go.bits .and .u8 (bt a0 x8_1) 7)) % 256] : List Int)) := ⟨_, rfl⟩
       replace H : (if 1 + (strOfNums y133).size ≤ 9223372036854775807 then (if x3_1.size + ((⟨#[92]⟩ : ByteArray) ++ (strOfNums y133)).size ≤ 9223372036854775807 then (spec_octal.l0 k1 a0 (x3_1 ++ ((⟨#[92]⟩ : ByteArray) ++ (strOfNums y133))) (a0.size : Int) (wrap64 (x8_1 + 1))) else (none)) else (none)) = some r := by first | (rw [hy133]; with_reducible exact H) | (have H2_ := (Option.bind_some _ _).symm.trans H; rw [hy133]; with_reducible exact H2_) | (have H2_ := (Option.bind_some _ _).symm.trans H; with_reducible exact H2_) | with_reducible exact H | (rw [hy133]; exact H) | exact H
       have Ny133 := Aside0.mk hy133
       clear hy133
       by_cases c7 : 1 + (strOfNums y133).size ≤ 9223372036854775807
       ·rw [if_pos c7] at H
        have c7b0 := eq_true c7
        have c7b1 : decide (1 + (strOfNums y133).size ≤ 9223372036854775807) = true := decide_eq_true c7
        try have c7b2 : (9223372036854775807 < 1 + (strOfNums y133).size) = False := eq_false (Nat.not_lt.2 c7)
        by_cases c8 : x3_1.size + ((⟨#[92]⟩ : ByteArray) ++ (strOfNums y133)).size ≤ 9223372036854775807
        ·rw [if_pos c8] at H
         have c8b0 := eq_true c8
         have c8b1 : decide (x3_1.size + ((⟨#[92]⟩ : ByteArray) ++ (strOfNums y133)).size ≤ 9223372036854775807) = true := decide_eq_true c8
         try have c8b2 : (9223372036854775807 < x3_1.size + ((⟨#[92]⟩ : ByteArray) ++ (strOfNums y133)).size) = False := eq_false (Nat.not_lt.2 c8)
         have H' := Aside0.mk H
         clear H
         have p5 : 0 ≤ (x8_1 : Int) := of_decide_eq_true (by first | (with_reducible assumption) | assumption)
         have q5 : x8_1 < (a0.size : Int) := of_decide_eq_true (by first | (with_reducible assumption) | assumption)
         have hx5 := bt_at a0 x8_1
         replace p5 := eq_true p5
         replace q5 := eq_true q5
         go_wp2_with (first | ((with_reducible refine gate_dst (N := 38) rfl ?_); refine Kd.R_lit (Kd.int .u8) _ 5 ?hg (N := 38) ?hd (xs := ([(48 + ((bt a0 x8_1) / 64)) % 256, (48 + (Go.bits .and .u8 ((bt a0 x8_1) / 8) 7)) % 256, (48 + (Go.bits .and .u8 (bt a0 x8_1) 7)) % 256] : List Int)) (inner := [.int .u8 ((48 + ((bt a0 x8_1) / 64)) % 256), .int .u8 ((48 + (Go.bits .and .u8 ((bt a0 x8_1) / 8) 7)) % 256), .int .u8 ((48 + (Go.bits .and .u8 (bt a0 x8_1) 7)) % 256)]) (ok := fun _ => True) (okp := fun _ => True) ?hr ?hp (fun _ hk => hk) trivial (Below.refl _ _) (Nat.le_refl _) (by simp) ?_; (case hd => rfl); (case hg => rfl); (case hr => first | (go_simp; done) | (go_simp; rfl)); (case hp => exact (Reps.one (show Kd.M (Kd.int .u8) _ _ _ ((48 + ((bt a0 x8_1) / 64)) % 256) [.int .u8 ((48 + ((bt a0 x8_1) / 64)) % 256)] from rfl) (Reps.one (show Kd.M (Kd.int .u8) _ _ _ ((48 + (Go.bits .and .u8 ((bt a0 x8_1) / 8) 7)) % 256) [.int .u8 ((48 + (Go.bits .and .u8 ((bt a0 x8_1) / 8) 7)) % 256)] from rfl) (Reps.one (show Kd.M (Kd.int .u8) _ _ _ ((48 + (Go.bits .and .u8 (bt a0 x8_1) 7)) % 256) [.int .u8 ((48 + (Go.bits .and .u8 (bt a0 x8_1) 7)) % 256)] from rfl) (Reps.none _ _))))); intro v134 w9 ho10 hb hg_ hnew_; clear hg_ hnew_; (first | rw [← Ny133.out] at ho10 | (simp only [Int.reduceToNat] at ho10; rw [← Ny133.out] at ho10)); have n0_ := Aside0.mk (Kd.R_lower ho10 (below_size belH)); have n1_ := Aside0.mk (below_step belH hb); clear HB; have HO135 := n0_; have HB := n1_; clear n0_ n1_; clear hb ho10; have hcv11 := own_string (P := Tryd.prog) Tryd.underlying82 Tryd.underlying5 Tryd.underlying9 (Kd.own_of_R HO135.out)))
         go_roundg k1
         case measure => have := HK1.out; omega
         case rel => exact ⟨(x3_1 ++ ((⟨#[92]⟩ : ByteArray) ++ (strOfNums y133))), (wrap64 (x8_1 + 1)), (by first | rfl | (simp; done) | (simp [*]; done) | (simp [bne_nil]; done) | (simp [bne_nil, *]; done)), (by first | rfl | (simp; done) | (simp [*]; done) | (simp [bne_nil]; done) | (simp [bne_nil, *]; done)), H', ⟨by have := HK1.out; omega⟩, ⟨by repeat (first | (with_reducible first | exact HB.out | apply below_alloc | apply pw_below_drewN | apply below_drew1) | exact HB.out)⟩⟩
        ·rw [if_neg c8] at H
         exact absurd H (by simp)
       ·rw [if_neg c7] at H
        exact absurd H (by simp)
      ·rw [if_neg c6] at H
       have c6b0 : ((bt a0 x8_1) == 32) = false := beq_eq_false_iff_ne.mpr c6
       have c6b1 : ((bt a0 x8_1) != 32) = true := bne_iff_ne.mpr c6
       by_cases c12 : (bt a0 x8_1) = 9
       ·rw [if_pos c12] at H
        have c12b0 : ((bt a0 x8_1) == 9) = true := beq_iff_eq.mpr c12
        have c12b1 : ((bt a0 x8_1) != 9) = false := bne_eq_false_iff_eq.mpr c12
        clear c12
        obtain ⟨y136, hy136⟩ : ∃ y_ : List Int, y_ = (([(48 + ((bt a0 x8_1) / 64)) % 256, (48 + (Go.bits .and .u8 ((bt a0 x8_1) / 8) 7)) % 256, (48 + (Go.bits .and .u8 (bt a0 x8_1) 7)) % 256] : List Int)) := ⟨_, rfl⟩
        replace H : (if 1 + (strOfNums y136).size ≤ 9223372036854775807 then (if x3_1.size + ((⟨#[92]⟩ : ByteArray) ++ (strOfNums y136)).size ≤ 9223372036854775807 then (spec_octal.l0 k1 a0 (x3_1 ++ ((⟨#[92]⟩ : ByteArray) ++ (strOfNums y136))) (a0.size : Int) (wrap64 (x8_1 + 1))) else (none)) else (none)) = some r := by first | (rw [hy136]; with_reducible exact H) | (have H2_ := (Option.bind_some _ _).symm.trans H; rw [hy136]; with_reducible exact H2_) | (have H2_ := (Option.bind_some _ _).symm.trans H; with_reducible exact H2_) | with_reducible exact H | (rw [hy136]; exact H) | exact H
        have Ny136 := Aside0.mk hy136
        clear hy136
        by_cases c13 : 1 + (strOfNums y136).size ≤ 9223372036854775807
        ·rw [if_pos c13] at H
         have c13b0 := eq_true c13
         have c13b1 : decide (1 + (strOfNums y136).size ≤ 9223372036854775807) = true := decide_eq_true c13
         try have c13b2 : (9223372036854775807 < 1 + (strOfNums y136).size) = False := eq_false (Nat.not_lt.2 c13)
         by_cases c14 : x3_1.size + ((⟨#[92]⟩ : ByteArray) ++ (strOfNums y136)).size ≤ 9223372036854775807
         ·rw [if_pos c14] at H
          have c14b0 := eq_true c14
          have c14b1 : decide (x3_1.size + ((⟨#[92]⟩ : ByteArray) ++ (strOfNums y136)).size ≤ 9223372036854775807) = true := decide_eq_true c14
          try have c14b2 : (9223372036854775807 < x3_1.size + ((⟨#[92]⟩ : ByteArray) ++ (strOfNums y136)).size) = False := eq_false (Nat.not_lt.2 c14)
          have H' := Aside0.mk H
          clear H
          have p5 : 0 ≤ (x8_1 : Int) := of_decide_eq_true (by first | (with_reducible assumption) | assumption)
          have q5 : x8_1 < (a0.size : Int) := of_decide_eq_true (by first | (with_reducible assumption) | assumption)
          have hx5 := bt_at a0 x8_1
          replace p5 := eq_true p5
          replace q5 := eq_true q5
          go_wp2_with (first | ((with_reducible refine gate_dst (N := 38) rfl ?_); refine Kd.R_lit (Kd.int .u8) _ 5 ?hg (N := 38) ?hd (xs := ([(48 + ((bt a0 x8_1) / 64)) % 256, (48 + (Go.bits .and .u8 ((bt a0 x8_1) / 8) 7)) % 256, (48 + (Go.bits .and .u8 (bt a0 x8_1) 7)) % 256] : List Int)) (inner := [.int .u8 ((48 + ((bt a0 x8_1) / 64)) % 256), .int .u8 ((48 + (Go.bits .and .u8 ((bt a0 x8_1) / 8) 7)) % 256), .int .u8 ((48 + (Go.bits .and .u8 (bt a0 x8_1) 7)) % 256)]) (ok := fun _ => True) (okp := fun _ => True) ?hr ?hp (fun _ hk => hk) trivial (Below.refl _ _) (Nat.le_refl _) (by simp) ?_; (case hd => rfl); (case hg => rfl); (case hr => first | (go_simp; done) | (go_simp; rfl)); (case hp => exact (Reps.one (show Kd.M (Kd.int .u8) _ _ _ ((48 + ((bt a0 x8_1) / 64)) % 256) [.int .u8 ((48 + ((bt a0 x8_1) / 64)) % 256)] from rfl) (Reps.one (show Kd.M (Kd.int .u8) _ _ _ ((48 + (Go.bits .and .u8 ((bt a0 x8_1) / 8) 7)) % 256) [.int .u8 ((48 + (Go.bits .and .u8 ((bt a0 x8_1) / 8) 7)) % 256)] from rfl) (Reps.one (show Kd.M (Kd.int .u8) _ _ _ ((48 + (Go.bits .and .u8 (bt a0 x8_1) 7)) % 256) [.int .u8 ((48 + (Go.bits .and .u8 (bt a0 x8_1) 7)) % 256)] from rfl) (Reps.none _ _))))); intro v137 w15 ho16 hb hg_ hnew_; clear hg_ hnew_; (first | rw [← Ny136.out] at ho16 | (simp only [Int.reduceToNat] at ho16; rw [← Ny136.out] at ho16)); have n0_ := Aside0.mk (Kd.R_lower ho16 (below_size belH)); have n1_ := Aside0.mk (below_step belH hb); clear HB; have HO138 := n0_; have HB := n1_; clear n0_ n1_; clear hb ho16; have hcv17 := own_string (P := Tryd.prog) Tryd.underlying82 Tryd.underlying5 Tryd.underlying9 (Kd.own_of_R HO138.out)))
          go_roundg k1
          case measure => have := HK1.out; omega
          case rel => exact ⟨(x3_1 ++ ((⟨#[92]⟩ : ByteArray) ++ (strOfNums y136))), (wrap64 (x8_1 + 1)), (by first | rfl | (simp; done) | (simp [*]; done) | (simp [bne_nil]; done) | (simp [bne_nil, *]; done)), (by first | rfl | (simp; done) | (simp [*]; done) | (simp [bne_nil]; done) | (simp [bne_nil, *]; done)), H', ⟨by have := HK1.out; omega⟩, ⟨by repeat (first | (with_reducible first | exact HB.out | apply below_alloc | apply pw_below_drewN | apply below_drew1) | exact HB.out)⟩⟩
         ·rw [if_neg c14] at H
          exact absurd H (by simp)
        ·rw [if_neg c13] at H
         exact absurd H (by simp)
       ·rw [if_neg c12] at H
        have c12b0 : ((bt a0 x8_1) == 9) = false := beq_eq_false_iff_ne.mpr c12
        have c12b1 : ((bt a0 x8_1) != 9) = true := bne_iff_ne.mpr c12
        by_cases c18 : (bt a0 x8_1) = 10
        ·rw [if_pos c18] at H
         have c18b0 : ((bt a0 x8_1) == 10) = true := beq_iff_eq.mpr c18
         have c18b1 : ((bt a0 x8_1) != 10) = false := bne_eq_false_iff_eq.mpr c18
         clear c18
         obtain ⟨y139, hy139⟩ : ∃ y_ : List Int, y_ = (([(48 + ((bt a0 x8_1) / 64)) % 256, (48 + (Go.bits .and .u8 ((bt a0 x8_1) / 8) 7)) % 256, (48 + (Go.bits .and .u8 (bt a0 x8_1) 7)) % 256] : List Int)) := ⟨_, rfl⟩
         replace H : (if 1 + (strOfNums y139).size ≤ 9223372036854775807 then (if x3_1.size + ((⟨#[92]⟩ : ByteArray) ++ (strOfNums y139)).size ≤ 9223372036854775807 then (spec_octal.l0 k1 a0 (x3_1 ++ ((⟨#[92]⟩ : ByteArray) ++ (strOfNums y139))) (a0.size : Int) (wrap64 (x8_1 + 1))) else (none)) else (none)) = some r := by first | (rw [hy139]; with_reducible exact H) | (have H2_ := (Option.bind_some _ _).symm.trans H; rw [hy139]; with_reducible exact H2_) | (have H2_ := (Option.bind_some _ _).symm.trans H; with_reducible exact H2_) | with_reducible exact H | (rw [hy139]; exact H) | exact H
         have Ny139 := Aside0.mk hy139
         clear hy139
         by_cases c19 : 1 + (strOfNums y139).size ≤ 9223372036854775807
         ·rw [if_pos c19] at H
          have c19b0 := eq_true c19
          have c19b1 : decide (1 + (strOfNums y139).size ≤ 9223372036854775807) = true := decide_eq_true c19
          try have c19b2 : (9223372036854775807 < 1 + (strOfNums y139).size) = False := eq_false (Nat.not_lt.2 c19)
          by_cases c20 : x3_1.size + ((⟨#[92]⟩ : ByteArray) ++ (strOfNums y139)).size ≤ 9223372036854775807
          ·rw [if_pos c20] at H
           have c20b0 := eq_true c20
           have c20b1 : decide (x3_1.size + ((⟨#[92]⟩ : ByteArray) ++ (strOfNums y139)).size ≤ 9223372036854775807) = true := decide_eq_true c20
           try have c20b2 : (9223372036854775807 < x3_1.size + ((⟨#[92]⟩ : ByteArray) ++ (strOfNums y139)).size) = False := eq_false (Nat.not_lt.2 c20)
           have H' := Aside0.mk H
           clear H
           have p5 : 0 ≤ (x8_1 : Int) := of_decide_eq_true (by first | (with_reducible assumption) | assumption)
           have q5 : x8_1 < (a0.size : Int) := of_decide_eq_true (by first | (with_reducible assumption) | assumption)
           have hx5 := bt_at a0 x8_1
           replace p5 := eq_true p5
           replace q5 := eq_true q5
           go_wp2_with (first | ((with_reducible refine gate_dst (N := 38) rfl ?_); refine Kd.R_lit (Kd.int .u8) _ 5 ?hg (N := 38) ?hd (xs := ([(48 + ((bt a0 x8_1) / 64)) % 256, (48 + (Go.bits .and .u8 ((bt a0 x8_1) / 8) 7)) % 256, (48 + (Go.bits .and .u8 (bt a0 x8_1) 7)) % 256] : List Int)) (inner := [.int .u8 ((48 + ((bt a0 x8_1) / 64)) % 256), .int .u8 ((48 + (Go.bits .and .u8 ((bt a0 x8_1) / 8) 7)) % 256), .int .u8 ((48 + (Go.bits .and .u8 (bt a0 x8_1) 7)) % 256)]) (ok := fun _ => True) (okp := fun _ => True) ?hr ?hp (fun _ hk => hk) trivial (Below.refl _ _) (Nat.le_refl _) (by simp) ?_; (case hd => rfl); (case hg => rfl); (case hr => first | (go_simp; done) | (go_simp; rfl)); (case hp => exact (Reps.one (show Kd.M (Kd.int .u8) _ _ _ ((48 + ((bt a0 x8_1) / 64)) % 256) [.int .u8 ((48 + ((bt a0 x8_1) / 64)) % 256)] from rfl) (Reps.one (show Kd.M (Kd.int .u8) _ _ _ ((48 + (Go.bits .and .u8 ((bt a0 x8_1) / 8) 7)) % 256) [.int .u8 ((48 + (Go.bits .and .u8 ((bt a0 x8_1) / 8) 7)) % 256)] from rfl) (Reps.one (show Kd.M (Kd.int .u8) _ _ _ ((48 + (Go.bits .and .u8 (bt a0 x8_1) 7)) % 256) [.int .u8 ((48 + (Go.bits .and .u8 (bt a0 x8_1) 7)) % 256)] from rfl) (Reps.none _ _))))); intro v140 w21 ho22 hb hg_ hnew_; clear hg_ hnew_; (first | rw [← Ny139.out] at ho22 | (simp only [Int.reduceToNat] at ho22; rw [← Ny139.out] at ho22)); have n0_ := Aside0.mk (Kd.R_lower ho22 (below_size belH)); have n1_ := Aside0.mk (below_step belH hb); clear HB; have HO141 := n0_; have HB := n1_; clear n0_ n1_; clear hb ho22; have hcv23 := own_string (P := Tryd.prog) Tryd.underlying82 Tryd.underlying5 Tryd.underlying9 (Kd.own_of_R HO141.out)))
           go_roundg k1
           case measure => have := HK1.out; omega
           case rel => exact ⟨(x3_1 ++ ((⟨#[92]⟩ : ByteArray) ++ (strOfNums y139))), (wrap64 (x8_1 + 1)), (by first | rfl | (simp; done) | (simp [*]; done) | (simp [bne_nil]; done) | (simp [bne_nil, *]; done)), (by first | rfl | (simp; done) | (simp [*]; done) | (simp [bne_nil]; done) | (simp [bne_nil, *]; done)), H', ⟨by have := HK1.out; omega⟩, ⟨by repeat (first | (with_reducible first | exact HB.out | apply below_alloc | apply pw_below_drewN | apply below_drew1) | exact HB.out)⟩⟩
          ·rw [if_neg c20] at H
           exact absurd H (by simp)
         ·rw [if_neg c19] at H
          exact absurd H (by simp)
        ·rw [if_neg c18] at H
         have c18b0 : ((bt a0 x8_1) == 10) = false := beq_eq_false_iff_ne.mpr c18
         have c18b1 : ((bt a0 x8_1) != 10) = true := bne_iff_ne.mpr c18
         by_cases c24 : (bt a0 x8_1) = 92
         ·rw [if_pos c24] at H
          have c24b0 : ((bt a0 x8_1) == 92) = true := beq_iff_eq.mpr c24
          have c24b1 : ((bt a0 x8_1) != 92) = false := bne_eq_false_iff_eq.mpr c24
          clear c24
          obtain ⟨y142, hy142⟩ : ∃ y_ : List Int, y_ = (([(48 + ((bt a0 x8_1) / 64)) % 256, (48 + (Go.bits .and .u8 ((bt a0 x8_1) / 8) 7)) % 256, (48 + (Go.bits .and .u8 (bt a0 x8_1) 7)) % 256] : List Int)) := ⟨_, rfl⟩
          replace H : (if 1 + (strOfNums y142).size ≤ 9223372036854775807 then (if x3_1.size + ((⟨#[92]⟩ : ByteArray) ++ (strOfNums y142)).size ≤ 9223372036854775807 then (spec_octal.l0 k1 a0 (x3_1 ++ ((⟨#[92]⟩ : ByteArray) ++ (strOfNums y142))) (a0.size : Int) (wrap64 (x8_1 + 1))) else (none)) else (none)) = some r := by first | (rw [hy142]; with_reducible exact H) | (have H2_ := (Option.bind_some _ _).symm.trans H; rw [hy142]; with_reducible exact H2_) | (have H2_ := (Option.bind_some _ _).symm.trans H; with_reducible exact H2_) | with_reducible exact H | (rw [hy142]; exact H) | exact H
          have Ny142 := Aside0.mk hy142
          clear hy142
          by_cases c25 : 1 + (strOfNums y142).size ≤ 9223372036854775807
          ·rw [if_pos c25] at H
           have c25b0 := eq_true c25
           have c25b1 : decide (1 + (strOfNums y142).size ≤ 9223372036854775807) = true := decide_eq_true c25
           try have c25b2 : (9223372036854775807 < 1 + (strOfNums y142).size) = False := eq_false (Nat.not_lt.2 c25)
           by_cases c26 : x3_1.size + ((⟨#[92]⟩ : ByteArray) ++ (strOfNums y142)).size ≤ 9223372036854775807
           ·rw [if_pos c26] at H
            have c26b0 := eq_true c26
            have c26b1 : decide (x3_1.size + ((⟨#[92]⟩ : ByteArray) ++ (strOfNums y142)).size ≤ 9223372036854775807) = true := decide_eq_true c26
            try have c26b2 : (9223372036854775807 < x3_1.size + ((⟨#[92]⟩ : ByteArray) ++ (strOfNums y142)).size) = False := eq_false (Nat.not_lt.2 c26)
            have H' := Aside0.mk H
            clear H
            have p5 : 0 ≤ (x8_1 : Int) := of_decide_eq_true (by first | (with_reducible assumption) | assumption)
            have q5 : x8_1 < (a0.size : Int) := of_decide_eq_true (by first | (with_reducible assumption) | assumption)
            have hx5 := bt_at a0 x8_1
            replace p5 := eq_true p5
            replace q5 := eq_true q5
            go_wp2_with (first | ((with_reducible refine gate_dst (N := 38) rfl ?_); refine Kd.R_lit (Kd.int .u8) _ 5 ?hg (N := 38) ?hd (xs := ([(48 + ((bt a0 x8_1) / 64)) % 256, (48 + (Go.bits .and .u8 ((bt a0 x8_1) / 8) 7)) % 256, (48 + (Go.bits .and .u8 (bt a0 x8_1) 7)) % 256] : List Int)) (inner := [.int .u8 ((48 + ((bt a0 x8_1) / 64)) % 256), .int .u8 ((48 + (Go.bits .and .u8 ((bt a0 x8_1) / 8) 7)) % 256), .int .u8 ((48 + (Go.bits .and .u8 (bt a0 x8_1) 7)) % 256)]) (ok := fun _ => True) (okp := fun _ => True) ?hr ?hp (fun _ hk => hk) trivial (Below.refl _ _) (Nat.le_refl _) (by simp) ?_; (case hd => rfl); (case hg => rfl); (case hr => first | (go_simp; done) | (go_simp; rfl)); (case hp => exact (Reps.one (show Kd.M (Kd.int .u8) _ _ _ ((48 + ((bt a0 x8_1) / 64)) % 256) [.int .u8 ((48 + ((bt a0 x8_1) / 64)) % 256)] from rfl) (Reps.one (show Kd.M (Kd.int .u8) _ _ _ ((48 + (Go.bits .and .u8 ((bt a0 x8_1) / 8) 7)) % 256) [.int .u8 ((48 + (Go.bits .and .u8 ((bt a0 x8_1) / 8) 7)) % 256)] from rfl) (Reps.one (show Kd.M (Kd.int .u8) _ _ _ ((48 + (Go.bits .and .u8 (bt a0 x8_1) 7)) % 256) [.int .u8 ((48 + (Go.bits .and .u8 (bt a0 x8_1) 7)) % 256)] from rfl) (Reps.none _ _))))); intro v143 w27 ho28 hb hg_ hnew_; clear hg_ hnew_; (first | rw [← Ny142.out] at ho28 | (simp only [Int.reduceToNat] at ho28; rw [← Ny142.out] at ho28)); have n0_ := Aside0.mk (Kd.R_lower ho28 (below_size belH)); have n1_ := Aside0.mk (below_step belH hb); clear HB; have HO144 := n0_; have HB := n1_; clear n0_ n1_; clear hb ho28; have hcv29 := own_string (P := Tryd.prog) Tryd.underlying82 Tryd.underlying5 Tryd.underlying9 (Kd.own_of_R HO144.out)))
            go_roundg k1
            case measure => have := HK1.out; omega
            case rel => exact ⟨(x3_1 ++ ((⟨#[92]⟩ : ByteArray) ++ (strOfNums y142))), (wrap64 (x8_1 + 1)), (by first | rfl | (simp; done) | (simp [*]; done) | (simp [bne_nil]; done) | (simp [bne_nil, *]; done)), (by first | rfl | (simp; done) | (simp [*]; done) | (simp [bne_nil]; done) | (simp [bne_nil, *]; done)), H', ⟨by have := HK1.out; omega⟩, ⟨by repeat (first | (with_reducible first | exact HB.out | apply below_alloc | apply pw_below_drewN | apply below_drew1) | exact HB.out)⟩⟩
           ·rw [if_neg c26] at H
            exact absurd H (by simp)
          ·rw [if_neg c25] at H
           exact absurd H (by simp)
         ·rw [if_neg c24] at H
          have c24b0 : ((bt a0 x8_1) == 92) = false := beq_eq_false_iff_ne.mpr c24
          have c24b1 : ((bt a0 x8_1) != 92) = true := bne_iff_ne.mpr c24
          have c30b0 := eq_true (of_decide_eq_true (by first | (with_reducible assumption) | assumption) : 0 ≤ x8_1)
          by_cases c31 : x8_1 ≤ (wrap64 (x8_1 + 1))
          ·rw [if_pos c31] at H
           have c31b0 := eq_true c31
           have c31b1 : decide (x8_1 ≤ (wrap64 (x8_1 + 1))) = true := decide_eq_true c31
           by_cases c32 : (wrap64 (x8_1 + 1)) ≤ (a0.size : Int)
           ·rw [if_pos c32] at H
            have c32b0 := eq_true c32
            have c32b1 : decide ((wrap64 (x8_1 + 1)) ≤ (a0.size : Int)) = true := decide_eq_true c32
            by_cases c33 : x3_1.size + (a0.extract (x8_1 : Int).toNat ((wrap64 (x8_1 + 1)) : Int).toNat).size ≤ 9223372036854775807
            ·rw [if_pos c33] at H
             have c33b0 := eq_true c33
             have c33b1 : decide (x3_1.size + (a0.extract (x8_1 : Int).toNat ((wrap64 (x8_1 + 1)) : Int).toNat).size ≤ 9223372036854775807) = true := decide_eq_true c33
             try have c33b2 : (9223372036854775807 < x3_1.size + (a0.extract (x8_1 : Int).toNat ((wrap64 (x8_1 + 1)) : Int).toNat).size) = False := eq_false (Nat.not_lt.2 c33)
             have H' := Aside0.mk H
             clear H
             have p5 : 0 ≤ (x8_1 : Int) := of_decide_eq_true (by first | (with_reducible assumption) | assumption)
             have q5 : x8_1 < (a0.size : Int) := of_decide_eq_true (by first | (with_reducible assumption) | assumption)
             have hx5 := bt_at a0 x8_1
             replace p5 := eq_true p5
             replace q5 := eq_true q5
             go_wp2
             go_roundg k1
             case measure => have := HK1.out; omega
             case rel => exact ⟨(x3_1 ++ (a0.extract (x8_1 : Int).toNat ((wrap64 (x8_1 + 1)) : Int).toNat)), (wrap64 (x8_1 + 1)), (by first | rfl | (simp; done) | (simp [*]; done) | (simp [bne_nil]; done) | (simp [bne_nil, *]; done)), (by first | rfl | (simp; done) | (simp [*]; done) | (simp [bne_nil]; done) | (simp [bne_nil, *]; done)), H', ⟨by have := HK1.out; omega⟩, ⟨by repeat (first | (with_reducible first | exact HB.out | apply below_alloc | apply pw_below_drewN | apply below_drew1) | exact HB.out)⟩⟩
            ·rw [if_neg c33] at H
             exact absurd H (by simp)
           ·rw [if_neg c32] at H
            exact absurd H (by simp)
          ·rw [if_neg c31] at H
           exact absurd H (by simp)
     ·rw [if_neg c4] at H
      exact absurd H (by simp)
    ·rw [if_neg c3] at H
     exact absurd H (by simp)
   ·rw [if_neg c2] at H
    have c2b0 : decide (x8_1 < (a0.size : Int)) = false := decide_eq_false c2
    clear c2
    obtain rfl := Option.some.inj H
    go_wp2
    go_ret
    exact ⟨by first | rfl | (simp [errW_none, errW_some] <;> rfl) | (simp [*, errW_none, errW_some] <;> rfl), by repeat (first | (with_reducible first | exact HB.out | apply below_alloc | apply pw_below_drewN | apply below_drew1) | exact HB.out)⟩

end Go.Proofs.YtokojamaigebaaaDoor.L
